import JvmDerived
import JvmDerived.Pilot.@@N@@Statement
import JvmDerived.Pilot.@@N@@Code
set_option linter.unusedVariables false
set_option linter.unusedSimpArgs false
namespace Jvm.RoadKit
open Sem ClassFile Op Lib Jvm.Stand Jvm.Free Jvm.LawKit
section New
variable {p : Program} {l : Launch} {e : Env} {R : Room} {s : State} {m : MethodId} {args : Array Value} {below : List Frame} {meth : Method} {c : Code} {T : State} {locs : List Loc} {cells slots : Nat}
theorem retI (X : Stand p l e R s m args below meth c T locs cells slots) (hx : p.tables.exec = Jvm.exec) {pc : Nat} {Ls : Array Slot} {z : Int32} {rest : List Value} (hret : meth.sig.returnType = some .int) (hd : decode c.code pc = .ok (.ireturn, 1)) {fs : List Frame}
    (hl : ∀ (f : JFrame) (acts : List Action), f.method = m → f.locked = none → f.entered = [] → (doReturn e (T.setTop f) acts (some (.int z))).1 = T.setFrames fs) : Steps p.tables e below (T.setTop (mkF m pc Ls (.int z :: rest))) (T.setFrames fs) := by
  have hm' : T.vm.method? m = some meth := X.method'
  have hn : narrow .int (.int z) = .int z := rfl
  show Steps p.tables e below (T.setTop { method := m, pc := pc, locals := Ls, stack := _ :: rest, locked := none }) _
  jvm_step X.here [X.here.top, hx, hd, hm', hret, hn]
  first | (intro acts; rw [hl _ acts rfl rfl rfl]) | rw [hl _ _ rfl rfl rfl]
  exact Steps.refl _
end New
end Jvm.RoadKit
namespace Jvm.Pilot.@@N@@
open Jvm Jvm.ClassFile Sem Op Lib Jvm.Free Jvm.Stand Jvm.LawKit Jvm.RoadKit Bundle Jvm.Pilot.@@N@@.Jvm.D

def own_Q (r : Option Value) (h0 : Heap) (n0 : Nat) (v : Option Value) (h : Heap) (L : List Loc) : Prop := v = r ∧ Fr n0 L ∧ h = h0
def own_Q0 (n0 : Nat) (v : Option Value) (h : Heap) (L : List Loc) : Prop := v = some (.int 1) ∧ Fr n0 L
theorem own_ext_trans {h h' h'' : Heap} (E : Ext h h') (E' : Ext h' h'') : Ext h h'' := ⟨Nat.le_trans E.1 E'.1, fun a c q => E'.2 a c (E.2 a c q)⟩
theorem own_ext_wr {h0 h h' : Heap} {a : Addr} {sl : Nat} {v : Value} (E : Ext h0 h) (W : Wr h h' a sl v) (q : h0.size ≤ a) : Ext h0 h' := by
  refine ⟨by rw [W.size]; exact E.1, fun b c hb => ?_⟩
  have hne : b ≠ a := Nat.ne_of_lt (Nat.lt_of_lt_of_le (Array.getElem?_eq_some_iff.mp hb).1 q)
  obtain ⟨c', e1, -, -, -, e5, -⟩ := wr_at W (E.2 b c hb)
  rw [e1, e5 hne]
theorem own_stR {p : Program} {l : Launch} {e : Env} {R : Room} {s : State} {m : MethodId} {args : Array Value} {below : List Frame} {meth : Method} {c : Code} {T : State} {locs : List Loc} {cells slots : Nat} {Z : State} {h : Heap}
    (X : Stand p l e R s m args below meth c T locs cells slots) (hx : p.tables.exec = Jvm.exec) (hZ : Z.Warmed39 s.vm) (eT : T.heap = h) {a y : Addr} {k : ClassId} {ty : FieldType} {z : Int32} {vs : List Value} {dv : Value} {C : String} (F : Arv Z h a k ty z vs dv) (O : Ovr Z k C) (I : Ins Z h y C true) {j : Int32} (hj : ¬ j < 0 ∧ j < z) {i : Nat} (hi : j.toNatClampNeg = i) (hl : i < vs.length) (hty : ty.isReference = true)
    {g : JFrame} (hg : g.method = m) {rest : List Value} (hs : g.stack = .ref y :: .int j :: .ref a :: rest) (hd : decode c.code g.pc = .ok (.aastore, 1)) :
    ∃ T' h', Stand p l e R s m args below meth c T' (locs ++ [⟨a, j.toNatClampNeg⟩]) cells slots ∧ T'.heap = h' ∧ Wr h h' a j.toNatClampNeg (.ref y) ∧ Arv Z h' a k ty z (vs.set i (.ref y)) dv ∧ ∀ target, Steps p.tables e below (T'.setTop { g with pc := g.pc + 1, stack := rest }) target → Steps p.tables e below (T.setTop g) target := by
  obtain ⟨cl, A, q1, S, q3, H, G⟩ := F
  obtain ⟨T', h', X', e', W, st⟩ := stR X hx hZ eT A (inb_of S hj) hty (Sto.ofV A q1 O I) hg hs hd
  exact ⟨T', h', X', e', W, Arv.set A q1 S q3 H G (by cases ty <;> first | rfl | cases hty) W i hi hl, st⟩
theorem own_at {Z : State} {h : Heap} {a : Addr} {k : ClassId} {ty : FieldType} {z : Int32} {vs : List Value} {dv : Value} (F : Arv Z h a k ty z vs dv) {j : Int32} {v : Value} (hj : ¬ j < 0 ∧ j < z) (u : vs.getD j.toNatClampNeg dv = v) :
    ∃ c : Cell, Arr Z h a c ty ∧ ¬ (j < 0 ∨ c.slots.size ≤ j.toNatClampNeg) ∧ c.slots[j.toNatClampNeg]? = some v := by
  obtain ⟨c, A, -, S, -, H, -⟩ := F
  exact ⟨c, A, inb_of S hj, H.at (inb_of S hj) u⟩
theorem own_ext_refl (h : Heap) : Ext h h := ⟨Nat.le_refl _, fun _ _ q => q⟩
theorem own_ext_keep {h0 h h' : Heap} {ws : List Addr} (E : Ext h0 h) (K : Keep h h' ws) (q : ∀ x ∈ ws, h0.size ≤ x) : Ext h0 h' :=
  ⟨Nat.le_trans E.1 K.1, fun a c r => K.2.1 a c (E.2 a c r) fun z => absurd (Array.getElem?_eq_some_iff.mp r).1 (Nat.not_lt.mpr (q a z))⟩
theorem own_stI {p : Program} {l : Launch} {e : Env} {R : Room} {s : State} {m : MethodId} {args : Array Value} {below : List Frame} {meth : Method} {c : Code} {T : State} {locs : List Loc} {cells slots : Nat} {Z : State} {h : Heap}
    (X : Stand p l e R s m args below meth c T locs cells slots) (hx : p.tables.exec = Jvm.exec) (hZ : Z.Warmed39 s.vm) (eT : T.heap = h) {a : Addr} {k : ClassId} {z : Int32} {vs : List Value} {dv : Value} (F : Arv Z h a k .int z vs dv) {j x : Int32} (hj : ¬ j < 0 ∧ j < z) {i : Nat} (hi : j.toNatClampNeg = i) (hl : i < vs.length)
    {g : JFrame} (hg : g.method = m) {rest : List Value} (hs : g.stack = .int x :: .int j :: .ref a :: rest) (hd : decode c.code g.pc = .ok (.iastore, 1)) :
    ∃ T' h', Stand p l e R s m args below meth c T' (locs ++ [⟨a, j.toNatClampNeg⟩]) cells slots ∧ T'.heap = h' ∧ Wr h h' a j.toNatClampNeg (.int x) ∧ Arv Z h' a k .int z (vs.set i (.int x)) dv ∧ ∀ target, Steps p.tables e below (T'.setTop { g with pc := g.pc + 1, stack := rest }) target → Steps p.tables e below (T.setTop g) target := by
  obtain ⟨cl, A, q1, S, q3, H, G⟩ := F
  obtain ⟨T', h', X', e', W, st⟩ := stI X hx hZ eT A (inb_of S hj) hg hs hd
  exact ⟨T', h', X', e', W, Arv.set A q1 S q3 H G rfl W i hi hl, st⟩
theorem own_stC {p : Program} {l : Launch} {e : Env} {R : Room} {s : State} {m : MethodId} {args : Array Value} {below : List Frame} {meth : Method} {c : Code} {T : State} {locs : List Loc} {cells slots : Nat} {Z : State} {h : Heap}
    (X : Stand p l e R s m args below meth c T locs cells slots) (hx : p.tables.exec = Jvm.exec) (hZ : Z.Warmed39 s.vm) (eT : T.heap = h) {a : Addr} {k : ClassId} {z : Int32} {vs : List Value} {dv : Value} (F : Arv Z h a k .char z vs dv) {j x : Int32} (hj : ¬ j < 0 ∧ j < z) {i : Nat} (hi : j.toNatClampNeg = i) (hl : i < vs.length)
    {g : JFrame} (hg : g.method = m) {rest : List Value} (hs : g.stack = .int x :: .int j :: .ref a :: rest) (hd : decode c.code g.pc = .ok (.castore, 1)) :
    ∃ T' h', Stand p l e R s m args below meth c T' (locs ++ [⟨a, j.toNatClampNeg⟩]) cells slots ∧ T'.heap = h' ∧ Wr h h' a j.toNatClampNeg (.int (nar .char x)) ∧ Arv Z h' a k .char z (vs.set i (.int (nar .char x))) dv ∧ ∀ target, Steps p.tables e below (T'.setTop { g with pc := g.pc + 1, stack := rest }) target → Steps p.tables e below (T.setTop g) target := by
  obtain ⟨cl, A, q1, S, q3, H, G⟩ := F
  obtain ⟨T', h', X', e', W, st⟩ := stC X hx hZ eT A (inb_of S hj) hg hs hd
  exact ⟨T', h', X', e', W, Arv.set A q1 S q3 H G (fits_nar_char x) W i hi hl, st⟩
theorem own_selP {s : State} {args : Array Value} {y z : MethodName} {C : String} (hs : (Jvm.Cond.selects C z z).before args s = true) (hcls : z.cls = y.cls) (hp : s.PrivateAt y) (hi : (Jvm.Cond.instanceMethod y).before args s = true) (hy : y.cls ≠ "java/lang/invoke/MethodHandle" ∧ y.cls ≠ "java/lang/invoke/VarHandle") : (Jvm.Cond.selects y.cls y y).before args s = true := by
  obtain ⟨c2, r2, m2, q1, q2, q3, q4, kP, hkP, hkPi⟩ := Cond.selects_spec hs
  exact selects_self_of_private (hcls ▸ findClass_of_methodNamed q3) hkP hkPi hp hi hy
def own_Fz (Z : State) (h : Heap) (b : Addr) : Prop := (Exa Z h b "com/example/tranchor/tranchor/Fraction") ∧ (Fld Z h b "com/example/tranchor/tranchor/Fraction" "numerator" "J" (.long (0 : Int64))) ∧ (Fld Z h b "com/example/tranchor/tranchor/Fraction" "denominator" "J" (.long (1 : Int64))) ∧ (Fld Z h b "com/example/tranchor/tranchor/Fraction" "bigNumerator" "Ljava/math/BigInteger;" .null)
theorem own_Fz_ext {Z : State} {h h' : Heap} {b : Addr} (P : own_Fz Z h b) (E : Ext h h') : own_Fz Z h' b := by
  obtain ⟨f0, f1, f2, f3⟩ := P
  exact ⟨f0.ext E, f1.ext E, f2.ext E, f3.ext E⟩
def own_Pz (Z : State) (h : Heap) (b : Addr) (r : Addr) (k : ClassId) (n : Int32) : Prop := (Exa Z h b "com/example/tranchor/tranchor/Parts") ∧ (Fld Z h b "com/example/tranchor/tranchor/Parts" "numerators" "[J" (.ref r)) ∧ (Fld Z h b "com/example/tranchor/tranchor/Parts" "denominator" "J" (.long (1 : Int64))) ∧ (Arv Z h r k .long n [] (.long (0 : Int64)))
theorem own_Pz_ext {Z : State} {h h' : Heap} {b : Addr} {r : Addr} {k : ClassId} {n : Int32} (P : own_Pz Z h b r k n) (E : Ext h h') : own_Pz Z h' b r k n := by
  obtain ⟨f0, f1, f2, f3⟩ := P
  exact ⟨f0.ext E, f1.ext E, f2.ext E, f3.ext E⟩
def own_QF (Z : State) (h0 : Heap) (n0 : Nat) (v : Option Value) (h : Heap) (L : List Loc) : Prop := ∃ b, v = some (.ref b) ∧ Fr n0 L ∧ Ext h0 h ∧ h0.size ≤ b ∧ own_Fz Z h b
def own_QP (Z : State) (n : Int32) (h0 : Heap) (n0 : Nat) (v : Option Value) (h : Heap) (L : List Loc) : Prop := ∃ b r k, v = some (.ref b) ∧ Fr n0 L ∧ Ext h0 h ∧ h0.size ≤ b ∧ h0.size ≤ r ∧ b ≠ r ∧ own_Pz Z h b r k n
def own_QiF (Z : State) (a : Addr) (h0 : Heap) (n0 : Nat) (v : Option Value) (h : Heap) (L : List Loc) : Prop := v = none ∧ Fr n0 L ∧ Keep h0 h [a] ∧ own_Fz Z h a
def own_QiP (Z : State) (a r : Addr) (h0 : Heap) (n0 : Nat) (v : Option Value) (h : Heap) (L : List Loc) : Prop := v = none ∧ Fr n0 L ∧ Keep h0 h [a] ∧ (Fld Z h a "com/example/tranchor/tranchor/Parts" "numerators" "[J" (.ref r)) ∧ (Fld Z h a "com/example/tranchor/tranchor/Parts" "denominator" "J" (.long (1 : Int64)))
theorem d_jdk_29_method_61_code_0 : decode jdk_29_method_61_code 0 = .ok (.lload_n 0, 1) := by decide +kernel
theorem d_jdk_29_method_61_code_1 : decode jdk_29_method_61_code 1 = .ok (.lconst 0, 1) := by decide +kernel
theorem d_jdk_29_method_61_code_2 : decode jdk_29_method_61_code 2 = .ok (.lcmp, 1) := by decide +kernel
theorem d_jdk_29_method_61_code_3 : decode jdk_29_method_61_code 3 = .ok (.ifCond .ge 8, 3) := by decide +kernel
theorem d_jdk_29_method_61_code_11 : decode jdk_29_method_61_code 11 = .ok (.lload_n 0, 1) := by decide +kernel
theorem d_jdk_29_method_61_code_12 : decode jdk_29_method_61_code 12 = .ok (.lreturn, 1) := by decide +kernel
theorem ef_jdk_29_method_61_code_J (m : MethodId) (x0 : Int64) : entryFrame m #[(.long x0)] 2 = mkF m 0 #[.val (.long x0), .second] [] := by first | (simp [entryFrame, mkF, argsToLocals, Value.category]; done) | rfl
theorem pf_jdk_29_method_61_code : plainFor (⟨"java/lang/Math", "abs", "(J)J"⟩ : MethodName) = true := by decide +kernel
set_option maxRecDepth 65536 in
set_option maxHeartbeats 40000000 in
theorem own_abs_0 (l : Launch) (Z : State) (a0 : Array Value) (hw : ∀ d ∈ tables_1, d.before a0 Z = true) (ws : List Jvm.Cond)  (h0 : Heap) (n0 : Nat) (Z0 : n0 ≤ h0.size)  :
    MetFree l (⟨"java/lang/Math", "abs", "(J)J"⟩ : MethodName) (head1 (Jvm.Cond.code (⟨"java/lang/Math", "abs", "(J)J"⟩ : MethodName) jdk_29_method_61_code 2 (some .long) :: ws) ({ frames := 0, cells := 0, slots := 0, locals := 0 } : Room)) (fun a U => a = #[(.long (0 : Int64))] ∧ Z.Warmed39 U.vm ∧ U.heap = h0) (fun _ _ _ _ _ => True) (fun _ U o U' => ∃ v L, o = .returned v ∧ own_Q (some (.long (0 : Int64))) h0 n0 v U'.heap L ∧ FrameEnd U o U' L ({ frames := 0, cells := 0, slots := 0, locals := 0 } : Room).cells ({ frames := 0, cells := 0, slots := 0, locals := 0 } : Room).slots) := by
  refine MetFree.of_bodySF pf_jdk_29_method_61_code hisR ?_
  intro p e s m args below meth c s₁ Bd hml0 hP hK
  obtain ⟨rfl, hZ, hh⟩ := hP
  have hx := Bd.exec
  have hby := Bd.bytes
  have hml : c.maxLocals = 2 := hml0
  have hown : s.vm.findClass "java/lang/Math" = some m.cls := findClass_of_methodNamed Bd.named
  have hnm := (name_of_methodNamed Bd.named Bd.method).1
  have X0 : Stand p l e ({ frames := 0, cells := 0, slots := 0, locals := 0 } : Room) s m #[(.long (0 : Int64))] below meth c s₁ [] 0 0 := Stand.of_body Bd
  have e0 : s₁.heap = h0 := by rw [← hh, Bd.state]; rfl
  have N0 := Fr.nil n0
  have pre0 : ∀ t, Steps p.tables e below (s₁.setTop (mkF m 0 #[.val (.long (0 : Int64)), .second] [])) t → Steps p.tables e below (s₁.setTop (entryFrame m #[(.long (0 : Int64))] 2)) t := fun t k => castTop (ef_jdk_29_method_61_code_J m (0 : Int64)) k
  obtain ⟨fs, hr, hrun, hended, hW, hsame⟩ := X0.leave (v := some (.long (0 : Int64))) (fun h => by rw [Bd.returns] at h; cases h)
  refine ⟨_, _, pre0 _ ?_, hrun, hended, _, _, rfl, ?_, ⟨_, rfl⟩, hW, hsame.mono (by decide) (by decide)⟩
  · show Steps p.tables e below (s₁.setTop (mkF m 0 #[.val (.long (0 : Int64)), .second] [])) _
    refine XT.lloadN X0.here hx rfl (hb hby d_jdk_29_method_61_code_0) rfl ?_
    show Steps p.tables e below (s₁.setTop (mkF m 1 #[.val (.long (0 : Int64)), .second] [(.long (0 : Int64))])) _
    refine XT.lconstV X0.here hx rfl (0 : Int64) (hb hby d_jdk_29_method_61_code_1) rfl ?_
    show Steps p.tables e below (s₁.setTop (mkF m 2 #[.val (.long (0 : Int64)), .second] [(.long (0 : Int64)), (.long (0 : Int64))])) _
    refine XT.lcmp X0.here hx rfl (hb hby d_jdk_29_method_61_code_2) rfl ?_
    show Steps p.tables e below (s₁.setTop (mkF m 3 #[.val (.long (0 : Int64)), .second] [(.int (XT.cmpL (0 : Int64) (0 : Int64)))])) _
    refine XS.ifYes X0.here hx rfl (pc0 := 3) (pc' := 11) rfl (hb hby d_jdk_29_method_61_code_3) rfl (XT.ll_ge_t (by decide)) (by decide) (by decide) ?_
    show Steps p.tables e below (s₁.setTop (mkF m 11 #[.val (.long (0 : Int64)), .second] [])) _
    refine XT.lloadN X0.here hx rfl (hb hby d_jdk_29_method_61_code_11) rfl ?_
    show Steps p.tables e below (s₁.setTop (mkF m 12 #[.val (.long (0 : Int64)), .second] [(.long (0 : Int64))])) _
    exact X0.lreturnOut hx Bd.returns (hb hby d_jdk_29_method_61_code_12) hr
  · show own_Q (some (.long (0 : Int64))) h0 n0 _ s₁.heap _
    rw [e0]
    exact ⟨rfl, N0, rfl⟩
set_option maxRecDepth 65536 in
set_option maxHeartbeats 40000000 in
theorem own_abs_1 (l : Launch) (Z : State) (a0 : Array Value) (hw : ∀ d ∈ tables_1, d.before a0 Z = true) (ws : List Jvm.Cond)  (h0 : Heap) (n0 : Nat) (Z0 : n0 ≤ h0.size)  :
    MetFree l (⟨"java/lang/Math", "abs", "(J)J"⟩ : MethodName) (head1 (Jvm.Cond.code (⟨"java/lang/Math", "abs", "(J)J"⟩ : MethodName) jdk_29_method_61_code 2 (some .long) :: ws) ({ frames := 0, cells := 0, slots := 0, locals := 0 } : Room)) (fun a U => a = #[(.long (1 : Int64))] ∧ Z.Warmed39 U.vm ∧ U.heap = h0) (fun _ _ _ _ _ => True) (fun _ U o U' => ∃ v L, o = .returned v ∧ own_Q (some (.long (1 : Int64))) h0 n0 v U'.heap L ∧ FrameEnd U o U' L ({ frames := 0, cells := 0, slots := 0, locals := 0 } : Room).cells ({ frames := 0, cells := 0, slots := 0, locals := 0 } : Room).slots) := by
  refine MetFree.of_bodySF pf_jdk_29_method_61_code hisR ?_
  intro p e s m args below meth c s₁ Bd hml0 hP hK
  obtain ⟨rfl, hZ, hh⟩ := hP
  have hx := Bd.exec
  have hby := Bd.bytes
  have hml : c.maxLocals = 2 := hml0
  have hown : s.vm.findClass "java/lang/Math" = some m.cls := findClass_of_methodNamed Bd.named
  have hnm := (name_of_methodNamed Bd.named Bd.method).1
  have X0 : Stand p l e ({ frames := 0, cells := 0, slots := 0, locals := 0 } : Room) s m #[(.long (1 : Int64))] below meth c s₁ [] 0 0 := Stand.of_body Bd
  have e0 : s₁.heap = h0 := by rw [← hh, Bd.state]; rfl
  have N0 := Fr.nil n0
  have pre0 : ∀ t, Steps p.tables e below (s₁.setTop (mkF m 0 #[.val (.long (1 : Int64)), .second] [])) t → Steps p.tables e below (s₁.setTop (entryFrame m #[(.long (1 : Int64))] 2)) t := fun t k => castTop (ef_jdk_29_method_61_code_J m (1 : Int64)) k
  obtain ⟨fs, hr, hrun, hended, hW, hsame⟩ := X0.leave (v := some (.long (1 : Int64))) (fun h => by rw [Bd.returns] at h; cases h)
  refine ⟨_, _, pre0 _ ?_, hrun, hended, _, _, rfl, ?_, ⟨_, rfl⟩, hW, hsame.mono (by decide) (by decide)⟩
  · show Steps p.tables e below (s₁.setTop (mkF m 0 #[.val (.long (1 : Int64)), .second] [])) _
    refine XT.lloadN X0.here hx rfl (hb hby d_jdk_29_method_61_code_0) rfl ?_
    show Steps p.tables e below (s₁.setTop (mkF m 1 #[.val (.long (1 : Int64)), .second] [(.long (1 : Int64))])) _
    refine XT.lconstV X0.here hx rfl (0 : Int64) (hb hby d_jdk_29_method_61_code_1) rfl ?_
    show Steps p.tables e below (s₁.setTop (mkF m 2 #[.val (.long (1 : Int64)), .second] [(.long (0 : Int64)), (.long (1 : Int64))])) _
    refine XT.lcmp X0.here hx rfl (hb hby d_jdk_29_method_61_code_2) rfl ?_
    show Steps p.tables e below (s₁.setTop (mkF m 3 #[.val (.long (1 : Int64)), .second] [(.int (XT.cmpL (1 : Int64) (0 : Int64)))])) _
    refine XS.ifYes X0.here hx rfl (pc0 := 3) (pc' := 11) rfl (hb hby d_jdk_29_method_61_code_3) rfl (XT.ll_ge_t (by decide)) (by decide) (by decide) ?_
    show Steps p.tables e below (s₁.setTop (mkF m 11 #[.val (.long (1 : Int64)), .second] [])) _
    refine XT.lloadN X0.here hx rfl (hb hby d_jdk_29_method_61_code_11) rfl ?_
    show Steps p.tables e below (s₁.setTop (mkF m 12 #[.val (.long (1 : Int64)), .second] [(.long (1 : Int64))])) _
    exact X0.lreturnOut hx Bd.returns (hb hby d_jdk_29_method_61_code_12) hr
  · show own_Q (some (.long (1 : Int64))) h0 n0 _ s₁.heap _
    rw [e0]
    exact ⟨rfl, N0, rfl⟩
theorem d_prog_3_method_32_code_0 : decode prog_3_method_32_code 0 = .ok (.lload_n 0, 1) := by decide +kernel
theorem d_prog_3_method_32_code_1 : decode prog_3_method_32_code 1 = .ok (.lconst 0, 1) := by decide +kernel
theorem d_prog_3_method_32_code_2 : decode prog_3_method_32_code 2 = .ok (.lcmp, 1) := by decide +kernel
theorem d_prog_3_method_32_code_3 : decode prog_3_method_32_code 3 = .ok (.ifCond .eq 9, 3) := by decide +kernel
theorem d_prog_3_method_32_code_12 : decode prog_3_method_32_code 12 = .ok (.lload_n 0, 1) := by decide +kernel
theorem d_prog_3_method_32_code_13 : decode prog_3_method_32_code 13 = .ok (.lload_n 2, 1) := by decide +kernel
theorem d_prog_3_method_32_code_14 : decode prog_3_method_32_code 14 = .ok (.lor, 1) := by decide +kernel
theorem d_prog_3_method_32_code_15 : decode prog_3_method_32_code 15 = .ok (.lstore 4, 2) := by decide +kernel
theorem d_prog_3_method_32_code_17 : decode prog_3_method_32_code 17 = .ok (.goto 41, 3) := by decide +kernel
theorem d_prog_3_method_32_code_58 : decode prog_3_method_32_code 58 = .ok (.lload 4, 2) := by decide +kernel
theorem d_prog_3_method_32_code_60 : decode prog_3_method_32_code 60 = .ok (.lreturn, 1) := by decide +kernel
theorem ef_prog_3_method_32_code_JJ (m : MethodId) (x0 : Int64) (x1 : Int64) : entryFrame m #[(.long x0), (.long x1)] 10 = mkF m 0 #[.val (.long x0), .second, .val (.long x1), .second, .unset, .unset, .unset, .unset, .unset, .unset] [] := by first | (simp [entryFrame, mkF, argsToLocals, Value.category]; done) | rfl
theorem pn_com_example_tranchor_tranchor_Fraction : plainName "com/example/tranchor/tranchor/Fraction" = true := by first | (simp [plainName, overriddenIn]; done) | decide +kernel
set_option maxRecDepth 65536 in
set_option maxHeartbeats 40000000 in
theorem own_gcd (l : Launch) (Z : State) (a0 : Array Value) (hw : ∀ d ∈ tables_1, d.before a0 Z = true) (ws : List Jvm.Cond)  (h0 : Heap) (n0 : Nat) (Z0 : n0 ≤ h0.size)  :
    MetFree l (⟨"com/example/tranchor/tranchor/Fraction", "gcd", "(JJ)J"⟩ : MethodName) (head1 (Jvm.Cond.code (⟨"com/example/tranchor/tranchor/Fraction", "gcd", "(JJ)J"⟩ : MethodName) prog_3_method_32_code 10 (some .long) :: ws) ({ frames := 0, cells := 0, slots := 0, locals := 0 } : Room)) (fun a U => a = #[(.long (0 : Int64)), (.long (1 : Int64))] ∧ Z.Warmed39 U.vm ∧ U.heap = h0) (fun _ _ _ _ _ => True) (fun _ U o U' => ∃ v L, o = .returned v ∧ own_Q (some (.long (1 : Int64))) h0 n0 v U'.heap L ∧ FrameEnd U o U' L ({ frames := 0, cells := 0, slots := 0, locals := 0 } : Room).cells ({ frames := 0, cells := 0, slots := 0, locals := 0 } : Room).slots) := by
  refine MetFree.of_bodySF (plainFor_of_name pn_com_example_tranchor_tranchor_Fraction) hisR ?_
  intro p e s m args below meth c s₁ Bd hml0 hP hK
  obtain ⟨rfl, hZ, hh⟩ := hP
  have hx := Bd.exec
  have hby := Bd.bytes
  have hml : c.maxLocals = 10 := hml0
  have hown : s.vm.findClass "com/example/tranchor/tranchor/Fraction" = some m.cls := findClass_of_methodNamed Bd.named
  have hnm := (name_of_methodNamed Bd.named Bd.method).1
  have X0 : Stand p l e ({ frames := 0, cells := 0, slots := 0, locals := 0 } : Room) s m #[(.long (0 : Int64)), (.long (1 : Int64))] below meth c s₁ [] 0 0 := Stand.of_body Bd
  have e0 : s₁.heap = h0 := by rw [← hh, Bd.state]; rfl
  have N0 := Fr.nil n0
  have pre0 : ∀ t, Steps p.tables e below (s₁.setTop (mkF m 0 #[.val (.long (0 : Int64)), .second, .val (.long (1 : Int64)), .second, .unset, .unset, .unset, .unset, .unset, .unset] [])) t → Steps p.tables e below (s₁.setTop (entryFrame m #[(.long (0 : Int64)), (.long (1 : Int64))] 10)) t := fun t k => castTop (ef_prog_3_method_32_code_JJ m (0 : Int64) (1 : Int64)) k
  obtain ⟨fs, hr, hrun, hended, hW, hsame⟩ := X0.leave (v := some (.long (1 : Int64))) (fun h => by rw [Bd.returns] at h; cases h)
  refine ⟨_, _, pre0 _ ?_, hrun, hended, _, _, rfl, ?_, ⟨_, rfl⟩, hW, hsame.mono (by decide) (by decide)⟩
  · show Steps p.tables e below (s₁.setTop (mkF m 0 #[.val (.long (0 : Int64)), .second, .val (.long (1 : Int64)), .second, .unset, .unset, .unset, .unset, .unset, .unset] [])) _
    refine XT.lloadN X0.here hx rfl (hb hby d_prog_3_method_32_code_0) rfl ?_
    show Steps p.tables e below (s₁.setTop (mkF m 1 #[.val (.long (0 : Int64)), .second, .val (.long (1 : Int64)), .second, .unset, .unset, .unset, .unset, .unset, .unset] [(.long (0 : Int64))])) _
    refine XT.lconstV X0.here hx rfl (0 : Int64) (hb hby d_prog_3_method_32_code_1) rfl ?_
    show Steps p.tables e below (s₁.setTop (mkF m 2 #[.val (.long (0 : Int64)), .second, .val (.long (1 : Int64)), .second, .unset, .unset, .unset, .unset, .unset, .unset] [(.long (0 : Int64)), (.long (0 : Int64))])) _
    refine XT.lcmp X0.here hx rfl (hb hby d_prog_3_method_32_code_2) rfl ?_
    show Steps p.tables e below (s₁.setTop (mkF m 3 #[.val (.long (0 : Int64)), .second, .val (.long (1 : Int64)), .second, .unset, .unset, .unset, .unset, .unset, .unset] [(.int (XT.cmpL (0 : Int64) (0 : Int64)))])) _
    refine XS.ifYes X0.here hx rfl (pc0 := 3) (pc' := 12) rfl (hb hby d_prog_3_method_32_code_3) rfl (XT.ll_eq_t (by decide)) (by decide) (by decide) ?_
    show Steps p.tables e below (s₁.setTop (mkF m 12 #[.val (.long (0 : Int64)), .second, .val (.long (1 : Int64)), .second, .unset, .unset, .unset, .unset, .unset, .unset] [])) _
    refine XT.lloadN X0.here hx rfl (hb hby d_prog_3_method_32_code_12) rfl ?_
    show Steps p.tables e below (s₁.setTop (mkF m 13 #[.val (.long (0 : Int64)), .second, .val (.long (1 : Int64)), .second, .unset, .unset, .unset, .unset, .unset, .unset] [(.long (0 : Int64))])) _
    refine XT.lloadN X0.here hx rfl (hb hby d_prog_3_method_32_code_13) rfl ?_
    show Steps p.tables e below (s₁.setTop (mkF m 14 #[.val (.long (0 : Int64)), .second, .val (.long (1 : Int64)), .second, .unset, .unset, .unset, .unset, .unset, .unset] [(.long (1 : Int64)), (.long (0 : Int64))])) _
    refine XT.lor X0.here hx rfl (hb hby d_prog_3_method_32_code_14) rfl ?_
    rw [show ((0 : Int64) ||| (1 : Int64)) = (1 : Int64) from by decide]
    show Steps p.tables e below (s₁.setTop (mkF m 15 #[.val (.long (0 : Int64)), .second, .val (.long (1 : Int64)), .second, .unset, .unset, .unset, .unset, .unset, .unset] [(.long (1 : Int64))])) _
    refine XT.lstore X0.here hx rfl (hb hby d_prog_3_method_32_code_15) rfl (l' := #[.val (.long (0 : Int64)), .second, .val (.long (1 : Int64)), .second, .val (.long (1 : Int64)), .second, .unset, .unset, .unset, .unset]) rfl ?_
    show Steps p.tables e below (s₁.setTop (mkF m 17 #[.val (.long (0 : Int64)), .second, .val (.long (1 : Int64)), .second, .val (.long (1 : Int64)), .second, .unset, .unset, .unset, .unset] [])) _
    refine XS.goto X0.here hx rfl (pc0 := 17) (pc' := 58) rfl (hb hby d_prog_3_method_32_code_17) (by decide) (by decide) ?_
    show Steps p.tables e below (s₁.setTop (mkF m 58 #[.val (.long (0 : Int64)), .second, .val (.long (1 : Int64)), .second, .val (.long (1 : Int64)), .second, .unset, .unset, .unset, .unset] [])) _
    refine XT.lload X0.here hx rfl (hb hby d_prog_3_method_32_code_58) rfl ?_
    show Steps p.tables e below (s₁.setTop (mkF m 60 #[.val (.long (0 : Int64)), .second, .val (.long (1 : Int64)), .second, .val (.long (1 : Int64)), .second, .unset, .unset, .unset, .unset] [(.long (1 : Int64))])) _
    exact X0.lreturnOut hx Bd.returns (hb hby d_prog_3_method_32_code_60) hr
  · show own_Q (some (.long (1 : Int64))) h0 n0 _ s₁.heap _
    rw [e0]
    exact ⟨rfl, N0, rfl⟩
theorem d_jdk_29_method_25_code_0 : decode jdk_29_method_25_code 0 = .ok (.lload_n 0, 1) := by decide +kernel
theorem d_jdk_29_method_25_code_1 : decode jdk_29_method_25_code 1 = .ok (.lload_n 2, 1) := by decide +kernel
theorem d_jdk_29_method_25_code_2 : decode jdk_29_method_25_code 2 = .ok (.ladd, 1) := by decide +kernel
theorem d_jdk_29_method_25_code_3 : decode jdk_29_method_25_code 3 = .ok (.lstore 4, 2) := by decide +kernel
theorem d_jdk_29_method_25_code_5 : decode jdk_29_method_25_code 5 = .ok (.lload_n 0, 1) := by decide +kernel
theorem d_jdk_29_method_25_code_6 : decode jdk_29_method_25_code 6 = .ok (.lload 4, 2) := by decide +kernel
theorem d_jdk_29_method_25_code_8 : decode jdk_29_method_25_code 8 = .ok (.lxor, 1) := by decide +kernel
theorem d_jdk_29_method_25_code_9 : decode jdk_29_method_25_code 9 = .ok (.lload_n 2, 1) := by decide +kernel
theorem d_jdk_29_method_25_code_10 : decode jdk_29_method_25_code 10 = .ok (.lload 4, 2) := by decide +kernel
theorem d_jdk_29_method_25_code_12 : decode jdk_29_method_25_code 12 = .ok (.lxor, 1) := by decide +kernel
theorem d_jdk_29_method_25_code_13 : decode jdk_29_method_25_code 13 = .ok (.land, 1) := by decide +kernel
theorem d_jdk_29_method_25_code_14 : decode jdk_29_method_25_code 14 = .ok (.lconst 0, 1) := by decide +kernel
theorem d_jdk_29_method_25_code_15 : decode jdk_29_method_25_code 15 = .ok (.lcmp, 1) := by decide +kernel
theorem d_jdk_29_method_25_code_16 : decode jdk_29_method_25_code 16 = .ok (.ifCond .ge 13, 3) := by decide +kernel
theorem d_jdk_29_method_25_code_29 : decode jdk_29_method_25_code 29 = .ok (.lload 4, 2) := by decide +kernel
theorem d_jdk_29_method_25_code_31 : decode jdk_29_method_25_code 31 = .ok (.lreturn, 1) := by decide +kernel
theorem ef_jdk_29_method_25_code_JJ (m : MethodId) (x0 : Int64) (x1 : Int64) : entryFrame m #[(.long x0), (.long x1)] 6 = mkF m 0 #[.val (.long x0), .second, .val (.long x1), .second, .unset, .unset] [] := by first | (simp [entryFrame, mkF, argsToLocals, Value.category]; done) | rfl
theorem pf_jdk_29_method_25_code : plainFor (⟨"java/lang/Math", "addExact", "(JJ)J"⟩ : MethodName) = true := by decide +kernel
set_option maxRecDepth 65536 in
set_option maxHeartbeats 40000000 in
theorem own_addx (l : Launch) (Z : State) (a0 : Array Value) (hw : ∀ d ∈ tables_1, d.before a0 Z = true) (ws : List Jvm.Cond)  (h0 : Heap) (n0 : Nat) (Z0 : n0 ≤ h0.size)  :
    MetFree l (⟨"java/lang/Math", "addExact", "(JJ)J"⟩ : MethodName) (head1 (Jvm.Cond.code (⟨"java/lang/Math", "addExact", "(JJ)J"⟩ : MethodName) jdk_29_method_25_code 6 (some .long) :: ws) ({ frames := 0, cells := 0, slots := 0, locals := 0 } : Room)) (fun a U => a = #[(.long (0 : Int64)), (.long (0 : Int64))] ∧ Z.Warmed39 U.vm ∧ U.heap = h0) (fun _ _ _ _ _ => True) (fun _ U o U' => ∃ v L, o = .returned v ∧ own_Q (some (.long (0 : Int64))) h0 n0 v U'.heap L ∧ FrameEnd U o U' L ({ frames := 0, cells := 0, slots := 0, locals := 0 } : Room).cells ({ frames := 0, cells := 0, slots := 0, locals := 0 } : Room).slots) := by
  refine MetFree.of_bodySF pf_jdk_29_method_25_code hisR ?_
  intro p e s m args below meth c s₁ Bd hml0 hP hK
  obtain ⟨rfl, hZ, hh⟩ := hP
  have hx := Bd.exec
  have hby := Bd.bytes
  have hml : c.maxLocals = 6 := hml0
  have hown : s.vm.findClass "java/lang/Math" = some m.cls := findClass_of_methodNamed Bd.named
  have hnm := (name_of_methodNamed Bd.named Bd.method).1
  have X0 : Stand p l e ({ frames := 0, cells := 0, slots := 0, locals := 0 } : Room) s m #[(.long (0 : Int64)), (.long (0 : Int64))] below meth c s₁ [] 0 0 := Stand.of_body Bd
  have e0 : s₁.heap = h0 := by rw [← hh, Bd.state]; rfl
  have N0 := Fr.nil n0
  have pre0 : ∀ t, Steps p.tables e below (s₁.setTop (mkF m 0 #[.val (.long (0 : Int64)), .second, .val (.long (0 : Int64)), .second, .unset, .unset] [])) t → Steps p.tables e below (s₁.setTop (entryFrame m #[(.long (0 : Int64)), (.long (0 : Int64))] 6)) t := fun t k => castTop (ef_jdk_29_method_25_code_JJ m (0 : Int64) (0 : Int64)) k
  obtain ⟨fs, hr, hrun, hended, hW, hsame⟩ := X0.leave (v := some (.long (0 : Int64))) (fun h => by rw [Bd.returns] at h; cases h)
  refine ⟨_, _, pre0 _ ?_, hrun, hended, _, _, rfl, ?_, ⟨_, rfl⟩, hW, hsame.mono (by decide) (by decide)⟩
  · show Steps p.tables e below (s₁.setTop (mkF m 0 #[.val (.long (0 : Int64)), .second, .val (.long (0 : Int64)), .second, .unset, .unset] [])) _
    refine XT.lloadN X0.here hx rfl (hb hby d_jdk_29_method_25_code_0) rfl ?_
    show Steps p.tables e below (s₁.setTop (mkF m 1 #[.val (.long (0 : Int64)), .second, .val (.long (0 : Int64)), .second, .unset, .unset] [(.long (0 : Int64))])) _
    refine XT.lloadN X0.here hx rfl (hb hby d_jdk_29_method_25_code_1) rfl ?_
    show Steps p.tables e below (s₁.setTop (mkF m 2 #[.val (.long (0 : Int64)), .second, .val (.long (0 : Int64)), .second, .unset, .unset] [(.long (0 : Int64)), (.long (0 : Int64))])) _
    refine XT.ladd X0.here hx rfl (hb hby d_jdk_29_method_25_code_2) rfl ?_
    rw [show ((0 : Int64) + (0 : Int64)) = (0 : Int64) from by decide]
    show Steps p.tables e below (s₁.setTop (mkF m 3 #[.val (.long (0 : Int64)), .second, .val (.long (0 : Int64)), .second, .unset, .unset] [(.long (0 : Int64))])) _
    refine XT.lstore X0.here hx rfl (hb hby d_jdk_29_method_25_code_3) rfl (l' := #[.val (.long (0 : Int64)), .second, .val (.long (0 : Int64)), .second, .val (.long (0 : Int64)), .second]) rfl ?_
    show Steps p.tables e below (s₁.setTop (mkF m 5 #[.val (.long (0 : Int64)), .second, .val (.long (0 : Int64)), .second, .val (.long (0 : Int64)), .second] [])) _
    refine XT.lloadN X0.here hx rfl (hb hby d_jdk_29_method_25_code_5) rfl ?_
    show Steps p.tables e below (s₁.setTop (mkF m 6 #[.val (.long (0 : Int64)), .second, .val (.long (0 : Int64)), .second, .val (.long (0 : Int64)), .second] [(.long (0 : Int64))])) _
    refine XT.lload X0.here hx rfl (hb hby d_jdk_29_method_25_code_6) rfl ?_
    show Steps p.tables e below (s₁.setTop (mkF m 8 #[.val (.long (0 : Int64)), .second, .val (.long (0 : Int64)), .second, .val (.long (0 : Int64)), .second] [(.long (0 : Int64)), (.long (0 : Int64))])) _
    refine XT.lxor X0.here hx rfl (hb hby d_jdk_29_method_25_code_8) rfl ?_
    rw [show ((0 : Int64) ^^^ (0 : Int64)) = (0 : Int64) from by decide]
    show Steps p.tables e below (s₁.setTop (mkF m 9 #[.val (.long (0 : Int64)), .second, .val (.long (0 : Int64)), .second, .val (.long (0 : Int64)), .second] [(.long (0 : Int64))])) _
    refine XT.lloadN X0.here hx rfl (hb hby d_jdk_29_method_25_code_9) rfl ?_
    show Steps p.tables e below (s₁.setTop (mkF m 10 #[.val (.long (0 : Int64)), .second, .val (.long (0 : Int64)), .second, .val (.long (0 : Int64)), .second] [(.long (0 : Int64)), (.long (0 : Int64))])) _
    refine XT.lload X0.here hx rfl (hb hby d_jdk_29_method_25_code_10) rfl ?_
    show Steps p.tables e below (s₁.setTop (mkF m 12 #[.val (.long (0 : Int64)), .second, .val (.long (0 : Int64)), .second, .val (.long (0 : Int64)), .second] [(.long (0 : Int64)), (.long (0 : Int64)), (.long (0 : Int64))])) _
    refine XT.lxor X0.here hx rfl (hb hby d_jdk_29_method_25_code_12) rfl ?_
    rw [show ((0 : Int64) ^^^ (0 : Int64)) = (0 : Int64) from by decide]
    show Steps p.tables e below (s₁.setTop (mkF m 13 #[.val (.long (0 : Int64)), .second, .val (.long (0 : Int64)), .second, .val (.long (0 : Int64)), .second] [(.long (0 : Int64)), (.long (0 : Int64))])) _
    refine XT.land X0.here hx rfl (hb hby d_jdk_29_method_25_code_13) rfl ?_
    rw [show ((0 : Int64) &&& (0 : Int64)) = (0 : Int64) from by decide]
    show Steps p.tables e below (s₁.setTop (mkF m 14 #[.val (.long (0 : Int64)), .second, .val (.long (0 : Int64)), .second, .val (.long (0 : Int64)), .second] [(.long (0 : Int64))])) _
    refine XT.lconstV X0.here hx rfl (0 : Int64) (hb hby d_jdk_29_method_25_code_14) rfl ?_
    show Steps p.tables e below (s₁.setTop (mkF m 15 #[.val (.long (0 : Int64)), .second, .val (.long (0 : Int64)), .second, .val (.long (0 : Int64)), .second] [(.long (0 : Int64)), (.long (0 : Int64))])) _
    refine XT.lcmp X0.here hx rfl (hb hby d_jdk_29_method_25_code_15) rfl ?_
    show Steps p.tables e below (s₁.setTop (mkF m 16 #[.val (.long (0 : Int64)), .second, .val (.long (0 : Int64)), .second, .val (.long (0 : Int64)), .second] [(.int (XT.cmpL (0 : Int64) (0 : Int64)))])) _
    refine XS.ifYes X0.here hx rfl (pc0 := 16) (pc' := 29) rfl (hb hby d_jdk_29_method_25_code_16) rfl (XT.ll_ge_t (by decide)) (by decide) (by decide) ?_
    show Steps p.tables e below (s₁.setTop (mkF m 29 #[.val (.long (0 : Int64)), .second, .val (.long (0 : Int64)), .second, .val (.long (0 : Int64)), .second] [])) _
    refine XT.lload X0.here hx rfl (hb hby d_jdk_29_method_25_code_29) rfl ?_
    show Steps p.tables e below (s₁.setTop (mkF m 31 #[.val (.long (0 : Int64)), .second, .val (.long (0 : Int64)), .second, .val (.long (0 : Int64)), .second] [(.long (0 : Int64))])) _
    exact X0.lreturnOut hx Bd.returns (hb hby d_jdk_29_method_25_code_31) hr
  · show own_Q (some (.long (0 : Int64))) h0 n0 _ s₁.heap _
    rw [e0]
    exact ⟨rfl, N0, rfl⟩
theorem d_prog_3_method_1_code_0 : decode prog_3_method_1_code 0 = .ok (.aload_n 0, 1) := by decide +kernel
theorem d_prog_3_method_1_code_1 : decode prog_3_method_1_code 1 = .ok (.invokespecial 1, 3) := by decide +kernel
theorem d_prog_3_method_1_code_4 : decode prog_3_method_1_code 4 = .ok (.aload_n 0, 1) := by decide +kernel
theorem d_prog_3_method_1_code_5 : decode prog_3_method_1_code 5 = .ok (.lload_n 1, 1) := by decide +kernel
theorem d_prog_3_method_1_code_6 : decode prog_3_method_1_code 6 = .ok (.putfield 7, 3) := by decide +kernel
theorem d_prog_3_method_1_code_9 : decode prog_3_method_1_code 9 = .ok (.aload_n 0, 1) := by decide +kernel
theorem d_prog_3_method_1_code_10 : decode prog_3_method_1_code 10 = .ok (.lload_n 3, 1) := by decide +kernel
theorem d_prog_3_method_1_code_11 : decode prog_3_method_1_code 11 = .ok (.putfield 13, 3) := by decide +kernel
theorem d_prog_3_method_1_code_14 : decode prog_3_method_1_code 14 = .ok (.aload_n 0, 1) := by decide +kernel
theorem d_prog_3_method_1_code_15 : decode prog_3_method_1_code 15 = .ok (.aconst_null, 1) := by decide +kernel
theorem d_prog_3_method_1_code_16 : decode prog_3_method_1_code 16 = .ok (.putfield 16, 3) := by decide +kernel
theorem d_prog_3_method_1_code_19 : decode prog_3_method_1_code 19 = .ok (.aload_n 0, 1) := by decide +kernel
theorem d_prog_3_method_1_code_20 : decode prog_3_method_1_code 20 = .ok (.aconst_null, 1) := by decide +kernel
theorem d_prog_3_method_1_code_21 : decode prog_3_method_1_code 21 = .ok (.putfield 20, 3) := by decide +kernel
theorem d_prog_3_method_1_code_24 : decode prog_3_method_1_code 24 = .ok (.return_, 1) := by decide +kernel
theorem ef_prog_3_method_1_code_AJJ (m : MethodId) (x0 : Addr) (x1 : Int64) (x2 : Int64) : entryFrame m #[(.ref x0), (.long x1), (.long x2)] 5 = mkF m 0 #[.val (.ref x0), .val (.long x1), .second, .val (.long x2), .second] [] := by first | (simp [entryFrame, mkF, argsToLocals, Value.category]; done) | rfl
set_option maxRecDepth 65536 in
set_option maxHeartbeats 40000000 in
theorem own_initF (l : Launch) (Z : State) (a0 : Array Value) (hw : ∀ d ∈ tables_1, d.before a0 Z = true) (ws : List Jvm.Cond) (a1 : Addr) (h0 : Heap) (n0 : Nat) (Z0 : n0 ≤ h0.size) (E1 : Exa Z h0 a1 "com/example/tranchor/tranchor/Fraction") (G1 : Fld Z h0 a1 "com/example/tranchor/tranchor/Fraction" "numerator" "J" (.long (0 : Int64))) (G2 : Fld Z h0 a1 "com/example/tranchor/tranchor/Fraction" "denominator" "J" (.long (0 : Int64))) (G3 : Fld Z h0 a1 "com/example/tranchor/tranchor/Fraction" "bigNumerator" "Ljava/math/BigInteger;" .null) (G4 : Fld Z h0 a1 "com/example/tranchor/tranchor/Fraction" "bigDenominator" "Ljava/math/BigInteger;" .null) (g1 : n0 ≤ a1) :
    MetFree l (⟨"com/example/tranchor/tranchor/Fraction", "<init>", "(JJ)V"⟩ : MethodName) (head1 (Jvm.Cond.code (⟨"com/example/tranchor/tranchor/Fraction", "<init>", "(JJ)V"⟩ : MethodName) prog_3_method_1_code 5 none :: ws) ({ frames := 1, cells := 0, slots := 0, locals := 12 } : Room)) (fun a U => a = #[(.ref a1), (.long (0 : Int64)), (.long (1 : Int64))] ∧ Z.Warmed39 U.vm ∧ U.heap = h0) (fun _ _ _ _ _ => True) (fun _ U o U' => ∃ v L, o = .returned v ∧ own_QiF Z a1 h0 n0 v U'.heap L ∧ FrameEnd U o U' L ({ frames := 1, cells := 0, slots := 0, locals := 12 } : Room).cells ({ frames := 1, cells := 0, slots := 0, locals := 12 } : Room).slots) := by
  refine MetFree.of_bodySF (plainFor_of_name pn_com_example_tranchor_tranchor_Fraction) hisR ?_
  intro p e s m args below meth c s₁ Bd hml0 hP hK
  obtain ⟨rfl, hZ, hh⟩ := hP
  have hx := Bd.exec
  have hby := Bd.bytes
  have hml : c.maxLocals = 5 := hml0
  have hown : s.vm.findClass "com/example/tranchor/tranchor/Fraction" = some m.cls := findClass_of_methodNamed Bd.named
  have hnm := (name_of_methodNamed Bd.named Bd.method).1
  have X0 : Stand p l e ({ frames := 1, cells := 0, slots := 0, locals := 12 } : Room) s m #[(.ref a1), (.long (0 : Int64)), (.long (1 : Int64))] below meth c s₁ [] 0 0 := Stand.of_body Bd
  have e0 : s₁.heap = h0 := by rw [← hh, Bd.state]; rfl
  have N0 := Fr.nil n0
  have pre0 : ∀ t, Steps p.tables e below (s₁.setTop (mkF m 0 #[.val (.ref a1), .val (.long (0 : Int64)), .second, .val (.long (1 : Int64)), .second] [])) t → Steps p.tables e below (s₁.setTop (entryFrame m #[(.ref a1), (.long (0 : Int64)), (.long (1 : Int64))] 5)) t := fun t k => castTop (ef_prog_3_method_1_code_AJJ m a1 (0 : Int64) (1 : Int64)) k
  obtain ⟨T1, X1, e1, st1⟩ := initO X0 hx hZ hown (hw _ (List.mem_of_getElem? (i := 53) rfl)) (hw _ (List.mem_of_getElem? (i := 11) rfl)) (hw _ (List.mem_of_getElem? (i := 12) rfl)) e0 (g := (mkF m 1 #[.val (.ref a1), .val (.long (0 : Int64)), .second, .val (.long (1 : Int64)), .second] [(.ref a1)])) rfl (by rw [hml]; rfl) rfl (hb hby d_prog_3_method_1_code_1) (by decide) (W := 0) (by show 2 * 0 + _ ≤ _; exact Nat.le_of_eq rfl) (by decide)
  obtain ⟨T2, h2, X2, e2, W2, st2⟩ := putF X1 hx hZ hown (host := "") (Or.inl (hw _ (List.mem_of_getElem? (i := 54) rfl))) Via.refl e1 G1 E1 (Or.inr ⟨(hw _ (List.mem_of_getElem? (i := 55) rfl)), rfl, hnm⟩) (hw _ (List.mem_of_getElem? (i := 49) rfl)) (ty := .long) (by decide) rfl rfl (g := (mkF m 6 #[.val (.ref a1), .val (.long (0 : Int64)), .second, .val (.long (1 : Int64)), .second] [(.long (0 : Int64)), (.ref a1)])) rfl rfl (hb hby d_prog_3_method_1_code_6)
  have E1_3 := E1.wr W2
  have G2_4 := G2.other W2 (Or.inr (slot_ne (Or.inr (hw _ (List.mem_of_getElem? (i := 57) rfl))) (Or.inr (hw _ (List.mem_of_getElem? (i := 55) rfl))) (by decide) (t := .long) (t' := .long) (by decide) (by decide)))
  have G3_5 := G3.other W2 (Or.inr (slot_ne (Or.inr (hw _ (List.mem_of_getElem? (i := 59) rfl))) (Or.inr (hw _ (List.mem_of_getElem? (i := 55) rfl))) (by decide) (t := (.object "java/math/BigInteger")) (t' := .long) (by decide) (by decide)))
  have G4_6 := G4.other W2 (Or.inr (slot_ne (Or.inr (hw _ (List.mem_of_getElem? (i := 61) rfl))) (Or.inr (hw _ (List.mem_of_getElem? (i := 55) rfl))) (by decide) (t := (.object "java/math/BigInteger")) (t' := .long) (by decide) (by decide)))
  have K2 : Keep h0 h2 [a1] := (Keep.refl _ _).wr W2 (Or.inl (List.mem_of_getElem? (i := 0) rfl))
  have Z2 : n0 ≤ h2.size := Nat.le_trans Z0 K2.1
  have N2 := Fr.snoc X2 N0 g1
  have Fnumerator_7 : Fld Z h2 a1 "com/example/tranchor/tranchor/Fraction" "numerator" "J" (.long (0 : Int64)) := G1.same W2
  obtain ⟨T8, h8, X8, e8, W8, st8⟩ := putF X2 hx hZ hown (host := "") (Or.inl (hw _ (List.mem_of_getElem? (i := 56) rfl))) Via.refl e2 G2_4 E1_3 (Or.inr ⟨(hw _ (List.mem_of_getElem? (i := 57) rfl)), rfl, hnm⟩) (hw _ (List.mem_of_getElem? (i := 49) rfl)) (ty := .long) (by decide) rfl rfl (g := (mkF m 11 #[.val (.ref a1), .val (.long (0 : Int64)), .second, .val (.long (1 : Int64)), .second] [(.long (1 : Int64)), (.ref a1)])) rfl rfl (hb hby d_prog_3_method_1_code_11)
  have E1_9 := E1_3.wr W8
  have Fnumerator_10 := Fnumerator_7.other W8 (Or.inr (slot_ne (Or.inr (hw _ (List.mem_of_getElem? (i := 55) rfl))) (Or.inr (hw _ (List.mem_of_getElem? (i := 57) rfl))) (by decide) (t := .long) (t' := .long) (by decide) (by decide)))
  have G3_11 := G3_5.other W8 (Or.inr (slot_ne (Or.inr (hw _ (List.mem_of_getElem? (i := 59) rfl))) (Or.inr (hw _ (List.mem_of_getElem? (i := 57) rfl))) (by decide) (t := (.object "java/math/BigInteger")) (t' := .long) (by decide) (by decide)))
  have G4_12 := G4_6.other W8 (Or.inr (slot_ne (Or.inr (hw _ (List.mem_of_getElem? (i := 61) rfl))) (Or.inr (hw _ (List.mem_of_getElem? (i := 57) rfl))) (by decide) (t := (.object "java/math/BigInteger")) (t' := .long) (by decide) (by decide)))
  have K8 : Keep h0 h8 [a1] := K2.wr W8 (Or.inl (List.mem_of_getElem? (i := 0) rfl))
  have Z8 : n0 ≤ h8.size := Nat.le_trans Z0 K8.1
  have N8 := Fr.snoc X8 N2 g1
  have Fdenominator_13 : Fld Z h8 a1 "com/example/tranchor/tranchor/Fraction" "denominator" "J" (.long (1 : Int64)) := G2_4.same W8
  obtain ⟨T14, h14, X14, e14, W14, st14⟩ := putF X8 hx hZ hown (host := "") (Or.inl (hw _ (List.mem_of_getElem? (i := 58) rfl))) Via.refl e8 G3_11 E1_9 (Or.inr ⟨(hw _ (List.mem_of_getElem? (i := 59) rfl)), rfl, hnm⟩) (hw _ (List.mem_of_getElem? (i := 49) rfl)) (ty := (.object "java/math/BigInteger")) (by decide) rfl rfl (g := (mkF m 16 #[.val (.ref a1), .val (.long (0 : Int64)), .second, .val (.long (1 : Int64)), .second] [.null, (.ref a1)])) rfl rfl (hb hby d_prog_3_method_1_code_16)
  have E1_15 := E1_9.wr W14
  have Fnumerator_16 := Fnumerator_10.other W14 (Or.inr (slot_ne (Or.inr (hw _ (List.mem_of_getElem? (i := 55) rfl))) (Or.inr (hw _ (List.mem_of_getElem? (i := 59) rfl))) (by decide) (t := .long) (t' := (.object "java/math/BigInteger")) (by decide) (by decide)))
  have Fdenominator_17 := Fdenominator_13.other W14 (Or.inr (slot_ne (Or.inr (hw _ (List.mem_of_getElem? (i := 57) rfl))) (Or.inr (hw _ (List.mem_of_getElem? (i := 59) rfl))) (by decide) (t := .long) (t' := (.object "java/math/BigInteger")) (by decide) (by decide)))
  have G4_18 := G4_12.other W14 (Or.inr (slot_ne (Or.inr (hw _ (List.mem_of_getElem? (i := 61) rfl))) (Or.inr (hw _ (List.mem_of_getElem? (i := 59) rfl))) (by decide) (t := (.object "java/math/BigInteger")) (t' := (.object "java/math/BigInteger")) (by decide) (by decide)))
  have K14 : Keep h0 h14 [a1] := K8.wr W14 (Or.inl (List.mem_of_getElem? (i := 0) rfl))
  have Z14 : n0 ≤ h14.size := Nat.le_trans Z0 K14.1
  have N14 := Fr.snoc X14 N8 g1
  have FbigNumerator_19 : Fld Z h14 a1 "com/example/tranchor/tranchor/Fraction" "bigNumerator" "Ljava/math/BigInteger;" .null := G3_11.same W14
  obtain ⟨T20, h20, X20, e20, W20, st20⟩ := putF X14 hx hZ hown (host := "") (Or.inl (hw _ (List.mem_of_getElem? (i := 60) rfl))) Via.refl e14 G4_18 E1_15 (Or.inr ⟨(hw _ (List.mem_of_getElem? (i := 61) rfl)), rfl, hnm⟩) (hw _ (List.mem_of_getElem? (i := 49) rfl)) (ty := (.object "java/math/BigInteger")) (by decide) rfl rfl (g := (mkF m 21 #[.val (.ref a1), .val (.long (0 : Int64)), .second, .val (.long (1 : Int64)), .second] [.null, (.ref a1)])) rfl rfl (hb hby d_prog_3_method_1_code_21)
  have E1_21 := E1_15.wr W20
  have Fnumerator_22 := Fnumerator_16.other W20 (Or.inr (slot_ne (Or.inr (hw _ (List.mem_of_getElem? (i := 55) rfl))) (Or.inr (hw _ (List.mem_of_getElem? (i := 61) rfl))) (by decide) (t := .long) (t' := (.object "java/math/BigInteger")) (by decide) (by decide)))
  have Fdenominator_23 := Fdenominator_17.other W20 (Or.inr (slot_ne (Or.inr (hw _ (List.mem_of_getElem? (i := 57) rfl))) (Or.inr (hw _ (List.mem_of_getElem? (i := 61) rfl))) (by decide) (t := .long) (t' := (.object "java/math/BigInteger")) (by decide) (by decide)))
  have FbigNumerator_24 := FbigNumerator_19.other W20 (Or.inr (slot_ne (Or.inr (hw _ (List.mem_of_getElem? (i := 59) rfl))) (Or.inr (hw _ (List.mem_of_getElem? (i := 61) rfl))) (by decide) (t := (.object "java/math/BigInteger")) (t' := (.object "java/math/BigInteger")) (by decide) (by decide)))
  have K20 : Keep h0 h20 [a1] := K14.wr W20 (Or.inl (List.mem_of_getElem? (i := 0) rfl))
  have Z20 : n0 ≤ h20.size := Nat.le_trans Z0 K20.1
  have N20 := Fr.snoc X20 N14 g1
  have FbigDenominator_25 : Fld Z h20 a1 "com/example/tranchor/tranchor/Fraction" "bigDenominator" "Ljava/math/BigInteger;" .null := G4_18.same W20
  obtain ⟨fs, hr, hrun, hended, hW, hsame⟩ := X20.leave (v := none) (fun _ => rfl)
  refine ⟨_, _, pre0 _ ?_, hrun, hended, _, _, rfl, ?_, ⟨_, rfl⟩, hW, hsame.mono (by decide) (by decide)⟩
  · show Steps p.tables e below (s₁.setTop (mkF m 0 #[.val (.ref a1), .val (.long (0 : Int64)), .second, .val (.long (1 : Int64)), .second] [])) _
    refine XS.aloadN X0.here hx rfl (hb hby d_prog_3_method_1_code_0) rfl rfl ?_
    show Steps p.tables e below (s₁.setTop (mkF m 1 #[.val (.ref a1), .val (.long (0 : Int64)), .second, .val (.long (1 : Int64)), .second] [(.ref a1)])) _
    refine st1 _ ?_
    show Steps p.tables e below (T1.setTop (mkF m 4 #[.val (.ref a1), .val (.long (0 : Int64)), .second, .val (.long (1 : Int64)), .second] [])) _
    refine XS.aloadN X1.here hx rfl (hb hby d_prog_3_method_1_code_4) rfl rfl ?_
    show Steps p.tables e below (T1.setTop (mkF m 5 #[.val (.ref a1), .val (.long (0 : Int64)), .second, .val (.long (1 : Int64)), .second] [(.ref a1)])) _
    refine XT.lloadN X1.here hx rfl (hb hby d_prog_3_method_1_code_5) rfl ?_
    show Steps p.tables e below (T1.setTop (mkF m 6 #[.val (.ref a1), .val (.long (0 : Int64)), .second, .val (.long (1 : Int64)), .second] [(.long (0 : Int64)), (.ref a1)])) _
    refine st2 _ ?_
    show Steps p.tables e below (T2.setTop (mkF m 9 #[.val (.ref a1), .val (.long (0 : Int64)), .second, .val (.long (1 : Int64)), .second] [])) _
    refine XS.aloadN X2.here hx rfl (hb hby d_prog_3_method_1_code_9) rfl rfl ?_
    show Steps p.tables e below (T2.setTop (mkF m 10 #[.val (.ref a1), .val (.long (0 : Int64)), .second, .val (.long (1 : Int64)), .second] [(.ref a1)])) _
    refine XT.lloadN X2.here hx rfl (hb hby d_prog_3_method_1_code_10) rfl ?_
    show Steps p.tables e below (T2.setTop (mkF m 11 #[.val (.ref a1), .val (.long (0 : Int64)), .second, .val (.long (1 : Int64)), .second] [(.long (1 : Int64)), (.ref a1)])) _
    refine st8 _ ?_
    show Steps p.tables e below (T8.setTop (mkF m 14 #[.val (.ref a1), .val (.long (0 : Int64)), .second, .val (.long (1 : Int64)), .second] [])) _
    refine XS.aloadN X8.here hx rfl (hb hby d_prog_3_method_1_code_14) rfl rfl ?_
    show Steps p.tables e below (T8.setTop (mkF m 15 #[.val (.ref a1), .val (.long (0 : Int64)), .second, .val (.long (1 : Int64)), .second] [(.ref a1)])) _
    refine XS.aconstNull X8.here hx rfl (hb hby d_prog_3_method_1_code_15) ?_
    show Steps p.tables e below (T8.setTop (mkF m 16 #[.val (.ref a1), .val (.long (0 : Int64)), .second, .val (.long (1 : Int64)), .second] [.null, (.ref a1)])) _
    refine st14 _ ?_
    show Steps p.tables e below (T14.setTop (mkF m 19 #[.val (.ref a1), .val (.long (0 : Int64)), .second, .val (.long (1 : Int64)), .second] [])) _
    refine XS.aloadN X14.here hx rfl (hb hby d_prog_3_method_1_code_19) rfl rfl ?_
    show Steps p.tables e below (T14.setTop (mkF m 20 #[.val (.ref a1), .val (.long (0 : Int64)), .second, .val (.long (1 : Int64)), .second] [(.ref a1)])) _
    refine XS.aconstNull X14.here hx rfl (hb hby d_prog_3_method_1_code_20) ?_
    show Steps p.tables e below (T14.setTop (mkF m 21 #[.val (.ref a1), .val (.long (0 : Int64)), .second, .val (.long (1 : Int64)), .second] [.null, (.ref a1)])) _
    refine st20 _ ?_
    show Steps p.tables e below (T20.setTop (mkF m 24 #[.val (.ref a1), .val (.long (0 : Int64)), .second, .val (.long (1 : Int64)), .second] [])) _
    exact X20.returnOut hx Bd.returns (hb hby d_prog_3_method_1_code_24) hr
  · show own_QiF Z a1 h0 n0 _ T20.heap _
    rw [e20]
    exact ⟨rfl, N20, K20, ⟨E1_21, Fnumerator_22, Fdenominator_23, FbigNumerator_24⟩⟩
theorem d_prog_3_method_28_code_0 : decode prog_3_method_28_code 0 = .ok (.lload_n 0, 1) := by decide +kernel
theorem d_prog_3_method_28_code_1 : decode prog_3_method_28_code 1 = .ok (.ldc2_w 47, 3) := by decide +kernel
theorem d_prog_3_method_28_code_4 : decode prog_3_method_28_code 4 = .ok (.lcmp, 1) := by decide +kernel
theorem d_prog_3_method_28_code_5 : decode prog_3_method_28_code 5 = .ok (.ifCond .ne 21, 3) := by decide +kernel
theorem d_prog_3_method_28_code_26 : decode prog_3_method_28_code 26 = .ok (.new 8, 3) := by decide +kernel
theorem d_prog_3_method_28_code_29 : decode prog_3_method_28_code 29 = .ok (.dup, 1) := by decide +kernel
theorem d_prog_3_method_28_code_30 : decode prog_3_method_28_code 30 = .ok (.lload_n 0, 1) := by decide +kernel
theorem d_prog_3_method_28_code_31 : decode prog_3_method_28_code 31 = .ok (.lload_n 2, 1) := by decide +kernel
theorem pd__JJ_V : parseMethodDescriptor "(JJ)V" = some ⟨[.long, .long], none⟩ := by decide +kernel
theorem d_prog_3_method_28_code_32 : decode prog_3_method_28_code 32 = .ok (.invokespecial 132, 3) := by decide +kernel
theorem d_prog_3_method_28_code_35 : decode prog_3_method_28_code 35 = .ok (.areturn, 1) := by decide +kernel
theorem ef_prog_3_method_28_code_JJ (m : MethodId) (x0 : Int64) (x1 : Int64) : entryFrame m #[(.long x0), (.long x1)] 4 = mkF m 0 #[.val (.long x0), .second, .val (.long x1), .second] [] := by first | (simp [entryFrame, mkF, argsToLocals, Value.category]; done) | rfl
set_option maxRecDepth 65536 in
set_option maxHeartbeats 40000000 in
theorem own_reduced (l : Launch) (Z : State) (a0 : Array Value) (hw : ∀ d ∈ tables_1, d.before a0 Z = true) (ws : List Jvm.Cond)  (h0 : Heap) (n0 : Nat) (Z0 : n0 ≤ h0.size)  :
    MetFree l (⟨"com/example/tranchor/tranchor/Fraction", "reduced", "(JJ)Lcom/example/tranchor/tranchor/Fraction;"⟩ : MethodName) (head1 (Jvm.Cond.code (⟨"com/example/tranchor/tranchor/Fraction", "reduced", "(JJ)Lcom/example/tranchor/tranchor/Fraction;"⟩ : MethodName) prog_3_method_28_code 4 (some (.object "com/example/tranchor/tranchor/Fraction")) :: ws) ({ frames := 2, cells := 1, slots := 4, locals := 29 } : Room)) (fun a U => a = #[(.long (0 : Int64)), (.long (1 : Int64))] ∧ Z.Warmed39 U.vm ∧ U.heap = h0) (fun _ _ _ _ _ => True) (fun _ U o U' => ∃ v L, o = .returned v ∧ own_QF Z h0 n0 v U'.heap L ∧ FrameEnd U o U' L ({ frames := 2, cells := 1, slots := 4, locals := 29 } : Room).cells ({ frames := 2, cells := 1, slots := 4, locals := 29 } : Room).slots) := by
  refine MetFree.of_bodySF (plainFor_of_name pn_com_example_tranchor_tranchor_Fraction) hisR ?_
  intro p e s m args below meth c s₁ Bd hml0 hP hK
  obtain ⟨rfl, hZ, hh⟩ := hP
  have hx := Bd.exec
  have hby := Bd.bytes
  have hml : c.maxLocals = 4 := hml0
  have hown : s.vm.findClass "com/example/tranchor/tranchor/Fraction" = some m.cls := findClass_of_methodNamed Bd.named
  have hnm := (name_of_methodNamed Bd.named Bd.method).1
  have X0 : Stand p l e ({ frames := 2, cells := 1, slots := 4, locals := 29 } : Room) s m #[(.long (0 : Int64)), (.long (1 : Int64))] below meth c s₁ [] 0 0 := Stand.of_body Bd
  have e0 : s₁.heap = h0 := by rw [← hh, Bd.state]; rfl
  have N0 := Fr.nil n0
  have pre0 : ∀ t, Steps p.tables e below (s₁.setTop (mkF m 0 #[.val (.long (0 : Int64)), .second, .val (.long (1 : Int64)), .second] [])) t → Steps p.tables e below (s₁.setTop (entryFrame m #[(.long (0 : Int64)), (.long (1 : Int64))] 4)) t := fun t k => castTop (ef_prog_3_method_28_code_JJ m (0 : Int64) (1 : Int64)) k
  obtain ⟨T26, h26, X26, e26, E26, A26, D26, -, st26⟩ := newO X0 hx hZ hown (hw _ (List.mem_of_getElem? (i := 48) rfl)) (hw _ (List.mem_of_getElem? (i := 49) rfl)) (hw _ (List.mem_of_getElem? (i := 35) rfl)) e0 (g := (mkF m 26 #[.val (.long (0 : Int64)), .second, .val (.long (1 : Int64)), .second] [])) rfl (hb hby d_prog_3_method_28_code_26) (by decide) (by decide)
  obtain ⟨b26, g26⟩ : ∃ z, z = h0.size := ⟨_, rfl⟩
  rw [← g26] at A26 D26 st26
  have q26 : h0.size ≤ b26 := by rw [g26]; exact Nat.le_refl _
  have EX26 : Ext h0 h26 := E26
  have Z26 : n0 ≤ h26.size := Nat.le_trans Z0 EX26.1
  have Fnumerator_27 : Fld Z h26 b26 "com/example/tranchor/tranchor/Fraction" "numerator" "J" (.long (0 : Int64)) := D26 (Or.inr (hw _ (List.mem_of_getElem? (i := 55) rfl))) (ty := .long) (by decide)
  have Fdenominator_28 : Fld Z h26 b26 "com/example/tranchor/tranchor/Fraction" "denominator" "J" (.long (0 : Int64)) := D26 (Or.inr (hw _ (List.mem_of_getElem? (i := 57) rfl))) (ty := .long) (by decide)
  have FbigNumerator_29 : Fld Z h26 b26 "com/example/tranchor/tranchor/Fraction" "bigNumerator" "Ljava/math/BigInteger;" .null := D26 (Or.inr (hw _ (List.mem_of_getElem? (i := 59) rfl))) (ty := (.object "java/math/BigInteger")) (by decide)
  have FbigDenominator_30 : Fld Z h26 b26 "com/example/tranchor/tranchor/Fraction" "bigDenominator" "Ljava/math/BigInteger;" .null := D26 (Or.inr (hw _ (List.mem_of_getElem? (i := 61) rfl))) (ty := (.object "java/math/BigInteger")) (by decide)
  obtain ⟨_, _, ⟨T31, L31, k31, n31⟩, -, X31, ⟨Lc31, hQ31, l31, y31, z31⟩, st31⟩ := X26.specialBack hx (y := (⟨"com/example/tranchor/tranchor/Fraction", "<init>", "(JJ)V"⟩ : MethodName)) rfl hown (mvT hZ (hw _ (List.mem_of_getElem? (i := 50) rfl))) (mvT hZ (hw _ (List.mem_of_getElem? (i := 51) rfl))) (mvT hZ (hw _ (List.mem_of_getElem? (i := 52) rfl))) (by decide) (backOf (W := 1) (own_initF l Z a0 hw [] b26 h26 n0 Z26 A26 Fnumerator_27 Fdenominator_28 FbigNumerator_29 FbigDenominator_30 (Nat.le_trans Z0 q26)) hZ (hw _ (List.mem_of_getElem? (i := 52) rfl)) (hw _ (List.mem_of_getElem? (i := 35) rfl)) (by decide) (by decide)) (g := (mkF m 32 #[.val (.long (0 : Int64)), .second, .val (.long (1 : Int64)), .second] [(.long (1 : Int64)), (.long (0 : Int64)), (.ref b26), (.ref b26)])) rfl (by rw [hml]; rfl) (Steps.refl _) (a := b26) (argsL := [(.long (0 : Int64)), (.long (1 : Int64))]) (rest := [(.ref b26)]) (lenOf pd__JJ_V rfl) rfl (by show 2 * 0 + _ ≤ _; exact Nat.le_of_eq rfl) (hb hby d_prog_3_method_28_code_32) (fun _ _ => ⟨rfl, e26, (by decide : 1 + 0 ≤ _), (by decide : 4 + 0 ≤ _)⟩)
  dsimp only [Pt.U, Pt.locs, Pt.cells, Pt.slots] at X31 l31 y31 z31 st31 hQ31
  subst l31 y31 z31
  obtain ⟨rfl, N31q, K31q, B31q⟩ := hQ31
  have N31 := Fr.app N0 N31q
  have A26_32 := A26.keep K31q
  have EX31 : Ext h0 T31.heap := own_ext_keep EX26 K31q (allS q26 all0)
  have Z31 : n0 ≤ T31.heap.size := Nat.le_trans Z0 EX31.1
  obtain ⟨E_33, Fnumerator_34, Fdenominator_35, FbigNumerator_36⟩ := id B31q
  obtain ⟨fs, hr, hrun, hended, hW, hsame⟩ := X31.leave (v := some (.ref b26)) (fun h => by rw [Bd.returns] at h; cases h)
  refine ⟨_, _, pre0 _ ?_, hrun, hended, _, _, rfl, ?_, ⟨_, rfl⟩, hW, hsame.mono (by decide) (by decide)⟩
  · show Steps p.tables e below (s₁.setTop (mkF m 0 #[.val (.long (0 : Int64)), .second, .val (.long (1 : Int64)), .second] [])) _
    refine XT.lloadN X0.here hx rfl (hb hby d_prog_3_method_28_code_0) rfl ?_
    show Steps p.tables e below (s₁.setTop (mkF m 1 #[.val (.long (0 : Int64)), .second, .val (.long (1 : Int64)), .second] [(.long (0 : Int64))])) _
    refine Jvm.Stand.ldc2J X0 hx hown (mvT hZ (hw _ (List.mem_of_getElem? (i := 37) rfl))) rfl (hb hby d_prog_3_method_28_code_1) ?_
    show Steps p.tables e below (s₁.setTop (mkF m 4 #[.val (.long (0 : Int64)), .second, .val (.long (1 : Int64)), .second] [(.long (-9223372036854775808 : Int64)), (.long (0 : Int64))])) _
    refine XT.lcmp X0.here hx rfl (hb hby d_prog_3_method_28_code_4) rfl ?_
    show Steps p.tables e below (s₁.setTop (mkF m 5 #[.val (.long (0 : Int64)), .second, .val (.long (1 : Int64)), .second] [(.int (XT.cmpL (0 : Int64) (-9223372036854775808 : Int64)))])) _
    refine XS.ifYes X0.here hx rfl (pc0 := 5) (pc' := 26) rfl (hb hby d_prog_3_method_28_code_5) rfl (XT.ll_ne_t (by decide)) (by decide) (by decide) ?_
    show Steps p.tables e below (s₁.setTop (mkF m 26 #[.val (.long (0 : Int64)), .second, .val (.long (1 : Int64)), .second] [])) _
    refine st26 _ ?_
    show Steps p.tables e below (T26.setTop (mkF m 29 #[.val (.long (0 : Int64)), .second, .val (.long (1 : Int64)), .second] [(.ref b26)])) _
    refine XS.dup X26.here hx rfl (hb hby d_prog_3_method_28_code_29) rfl rfl ?_
    show Steps p.tables e below (T26.setTop (mkF m 30 #[.val (.long (0 : Int64)), .second, .val (.long (1 : Int64)), .second] [(.ref b26), (.ref b26)])) _
    refine XT.lloadN X26.here hx rfl (hb hby d_prog_3_method_28_code_30) rfl ?_
    show Steps p.tables e below (T26.setTop (mkF m 31 #[.val (.long (0 : Int64)), .second, .val (.long (1 : Int64)), .second] [(.long (0 : Int64)), (.ref b26), (.ref b26)])) _
    refine XT.lloadN X26.here hx rfl (hb hby d_prog_3_method_28_code_31) rfl ?_
    show Steps p.tables e below (T26.setTop (mkF m 32 #[.val (.long (0 : Int64)), .second, .val (.long (1 : Int64)), .second] [(.long (1 : Int64)), (.long (0 : Int64)), (.ref b26), (.ref b26)])) _
    refine st31.trans ?_
    show Steps p.tables e below (T31.setTop (mkF m 35 #[.val (.long (0 : Int64)), .second, .val (.long (1 : Int64)), .second] [(.ref b26)])) _
    jvm_step X31.here [X31.here.top, hx, (hb hby d_prog_3_method_28_code_35), X31.method', Bd.returns, Value.isRef, FieldType.isReference]
    first | (intro acts; rw [hr _ acts rfl rfl rfl]) | rw [hr _ _ rfl rfl rfl]
    exact Steps.refl _
  · show own_QF Z h0 n0 _ T31.heap _
    exact ⟨b26, rfl, N31, EX31, q26, ⟨E_33, Fnumerator_34, Fdenominator_35, FbigNumerator_36⟩⟩
theorem d_prog_3_method_4_code_0 : decode prog_3_method_4_code 0 = .ok (.lload_n 2, 1) := by decide +kernel
theorem d_prog_3_method_4_code_1 : decode prog_3_method_4_code 1 = .ok (.lconst 0, 1) := by decide +kernel
theorem d_prog_3_method_4_code_2 : decode prog_3_method_4_code 2 = .ok (.lcmp, 1) := by decide +kernel
theorem d_prog_3_method_4_code_3 : decode prog_3_method_4_code 3 = .ok (.ifCond .ne 7, 3) := by decide +kernel
theorem d_prog_3_method_4_code_10 : decode prog_3_method_4_code 10 = .ok (.lload_n 0, 1) := by decide +kernel
theorem d_prog_3_method_4_code_11 : decode prog_3_method_4_code 11 = .ok (.ldc2_w 47, 3) := by decide +kernel
theorem d_prog_3_method_4_code_14 : decode prog_3_method_4_code 14 = .ok (.lcmp, 1) := by decide +kernel
theorem d_prog_3_method_4_code_15 : decode prog_3_method_4_code 15 = .ok (.ifCond .eq 11, 3) := by decide +kernel
theorem d_prog_3_method_4_code_18 : decode prog_3_method_4_code 18 = .ok (.lload_n 2, 1) := by decide +kernel
theorem d_prog_3_method_4_code_19 : decode prog_3_method_4_code 19 = .ok (.ldc2_w 47, 3) := by decide +kernel
theorem d_prog_3_method_4_code_22 : decode prog_3_method_4_code 22 = .ok (.lcmp, 1) := by decide +kernel
theorem d_prog_3_method_4_code_23 : decode prog_3_method_4_code 23 = .ok (.ifCond .ne 15, 3) := by decide +kernel
theorem d_prog_3_method_4_code_38 : decode prog_3_method_4_code 38 = .ok (.lload_n 0, 1) := by decide +kernel
theorem pd__J_J : parseMethodDescriptor "(J)J" = some ⟨[.long], (some .long)⟩ := by decide +kernel
theorem d_prog_3_method_4_code_39 : decode prog_3_method_4_code 39 = .ok (.invokestatic 53, 3) := by decide +kernel
theorem d_prog_3_method_4_code_42 : decode prog_3_method_4_code 42 = .ok (.lload_n 2, 1) := by decide +kernel
theorem d_prog_3_method_4_code_43 : decode prog_3_method_4_code 43 = .ok (.invokestatic 53, 3) := by decide +kernel
theorem pd__JJ_J : parseMethodDescriptor "(JJ)J" = some ⟨[.long, .long], (some .long)⟩ := by decide +kernel
theorem d_prog_3_method_4_code_46 : decode prog_3_method_4_code 46 = .ok (.invokestatic 59, 3) := by decide +kernel
theorem d_prog_3_method_4_code_49 : decode prog_3_method_4_code 49 = .ok (.lstore 4, 2) := by decide +kernel
theorem d_prog_3_method_4_code_51 : decode prog_3_method_4_code 51 = .ok (.lload_n 2, 1) := by decide +kernel
theorem d_prog_3_method_4_code_52 : decode prog_3_method_4_code 52 = .ok (.lconst 0, 1) := by decide +kernel
theorem d_prog_3_method_4_code_53 : decode prog_3_method_4_code 53 = .ok (.lcmp, 1) := by decide +kernel
theorem d_prog_3_method_4_code_54 : decode prog_3_method_4_code 54 = .ok (.ifCond .ge 8, 3) := by decide +kernel
theorem d_prog_3_method_4_code_62 : decode prog_3_method_4_code 62 = .ok (.lload_n 0, 1) := by decide +kernel
theorem d_prog_3_method_4_code_63 : decode prog_3_method_4_code 63 = .ok (.lload 4, 2) := by decide +kernel
theorem d_prog_3_method_4_code_65 : decode prog_3_method_4_code 65 = .ok (.ldiv, 1) := by decide +kernel
theorem d_prog_3_method_4_code_66 : decode prog_3_method_4_code 66 = .ok (.lload_n 2, 1) := by decide +kernel
theorem d_prog_3_method_4_code_67 : decode prog_3_method_4_code 67 = .ok (.lload 4, 2) := by decide +kernel
theorem d_prog_3_method_4_code_69 : decode prog_3_method_4_code 69 = .ok (.ldiv, 1) := by decide +kernel
theorem pd__JJ_Lcom_example_tranchor_tranchor_Fraction_ : parseMethodDescriptor "(JJ)Lcom/example/tranchor/tranchor/Fraction;" = some ⟨[.long, .long], (some (.object "com/example/tranchor/tranchor/Fraction"))⟩ := by decide +kernel
theorem d_prog_3_method_4_code_70 : decode prog_3_method_4_code 70 = .ok (.invokestatic 63, 3) := by decide +kernel
theorem d_prog_3_method_4_code_73 : decode prog_3_method_4_code 73 = .ok (.areturn, 1) := by decide +kernel
theorem ef_prog_3_method_4_code_JJ (m : MethodId) (x0 : Int64) (x1 : Int64) : entryFrame m #[(.long x0), (.long x1)] 6 = mkF m 0 #[.val (.long x0), .second, .val (.long x1), .second, .unset, .unset] [] := by first | (simp [entryFrame, mkF, argsToLocals, Value.category]; done) | rfl
set_option maxRecDepth 65536 in
set_option maxHeartbeats 40000000 in
theorem own_of (l : Launch) (Z : State) (a0 : Array Value) (hw : ∀ d ∈ tables_1, d.before a0 Z = true) (ws : List Jvm.Cond)  (h0 : Heap) (n0 : Nat) (Z0 : n0 ≤ h0.size)  :
    MetFree l (⟨"com/example/tranchor/tranchor/Fraction", "of", "(JJ)Lcom/example/tranchor/tranchor/Fraction;"⟩ : MethodName) (head1 (Jvm.Cond.code (⟨"com/example/tranchor/tranchor/Fraction", "of", "(JJ)Lcom/example/tranchor/tranchor/Fraction;"⟩ : MethodName) prog_3_method_4_code 6 (some (.object "com/example/tranchor/tranchor/Fraction")) :: ws) ({ frames := 3, cells := 1, slots := 4, locals := 44 } : Room)) (fun a U => a = #[(.long (0 : Int64)), (.long (1 : Int64))] ∧ Z.Warmed39 U.vm ∧ U.heap = h0) (fun _ _ _ _ _ => True) (fun _ U o U' => ∃ v L, o = .returned v ∧ own_QF Z h0 n0 v U'.heap L ∧ FrameEnd U o U' L ({ frames := 3, cells := 1, slots := 4, locals := 44 } : Room).cells ({ frames := 3, cells := 1, slots := 4, locals := 44 } : Room).slots) := by
  refine MetFree.of_bodySF (plainFor_of_name pn_com_example_tranchor_tranchor_Fraction) hisR ?_
  intro p e s m args below meth c s₁ Bd hml0 hP hK
  obtain ⟨rfl, hZ, hh⟩ := hP
  have hx := Bd.exec
  have hby := Bd.bytes
  have hml : c.maxLocals = 6 := hml0
  have hown : s.vm.findClass "com/example/tranchor/tranchor/Fraction" = some m.cls := findClass_of_methodNamed Bd.named
  have hnm := (name_of_methodNamed Bd.named Bd.method).1
  have X0 : Stand p l e ({ frames := 3, cells := 1, slots := 4, locals := 44 } : Room) s m #[(.long (0 : Int64)), (.long (1 : Int64))] below meth c s₁ [] 0 0 := Stand.of_body Bd
  have e0 : s₁.heap = h0 := by rw [← hh, Bd.state]; rfl
  have N0 := Fr.nil n0
  have pre0 : ∀ t, Steps p.tables e below (s₁.setTop (mkF m 0 #[.val (.long (0 : Int64)), .second, .val (.long (1 : Int64)), .second, .unset, .unset] [])) t → Steps p.tables e below (s₁.setTop (entryFrame m #[(.long (0 : Int64)), (.long (1 : Int64))] 6)) t := fun t k => castTop (ef_prog_3_method_4_code_JJ m (0 : Int64) (1 : Int64)) k
  obtain ⟨_, _, ⟨T37, L37, k37, n37⟩, -, X37, ⟨Lc37, hQ37, l37, y37, z37⟩, st37⟩ := Jvm.LawKit.callS X0 hx (y := (⟨"java/lang/Math", "abs", "(J)J"⟩ : MethodName)) hown (mvT hZ (hw _ (List.mem_of_getElem? (i := 38) rfl))) (mvT hZ (hw _ (List.mem_of_getElem? (i := 39) rfl))) (mvT hZ (hw _ (List.mem_of_getElem? (i := 40) rfl))) (mvT hZ (hw _ (List.mem_of_getElem? (i := 41) rfl))) (by decide) (backOf (W := 0) (own_abs_0 l Z a0 hw [] h0 n0 Z0) hZ (hw _ (List.mem_of_getElem? (i := 41) rfl)) (hw _ (List.mem_of_getElem? (i := 40) rfl)) (by decide) (by decide)) (g := (mkF m 39 #[.val (.long (0 : Int64)), .second, .val (.long (1 : Int64)), .second, .unset, .unset] [(.long (0 : Int64))])) rfl (by rw [hml]; rfl) (argsL := [(.long (0 : Int64))]) (rest := []) (lenOf pd__J_J rfl) rfl (by show 2 * 0 + _ ≤ _; exact Nat.le_of_eq rfl) (hb hby d_prog_3_method_4_code_39) (fun _ _ => ⟨rfl, e0, (by decide : 0 + 0 ≤ _), (by decide : 0 + 0 ≤ _)⟩)
  dsimp only [Pt.U, Pt.locs, Pt.cells, Pt.slots] at X37 l37 y37 z37 st37 hQ37
  subst l37 y37 z37
  obtain ⟨rfl, N37q, e37⟩ := hQ37
  have N37 := Fr.app N0 N37q
  obtain ⟨_, _, ⟨T38, L38, k38, n38⟩, -, X38, ⟨Lc38, hQ38, l38, y38, z38⟩, st38⟩ := Jvm.LawKit.callS X37 hx (y := (⟨"java/lang/Math", "abs", "(J)J"⟩ : MethodName)) hown (mvT hZ (hw _ (List.mem_of_getElem? (i := 38) rfl))) (mvT hZ (hw _ (List.mem_of_getElem? (i := 39) rfl))) (mvT hZ (hw _ (List.mem_of_getElem? (i := 40) rfl))) (mvT hZ (hw _ (List.mem_of_getElem? (i := 41) rfl))) (by decide) (backOf (W := 2) (own_abs_1 l Z a0 hw [] h0 n0 Z0) hZ (hw _ (List.mem_of_getElem? (i := 41) rfl)) (hw _ (List.mem_of_getElem? (i := 40) rfl)) (by decide) (by decide)) (g := (mkF m 43 #[.val (.long (0 : Int64)), .second, .val (.long (1 : Int64)), .second, .unset, .unset] [(.long (1 : Int64)), (.long (0 : Int64))])) rfl (by rw [hml]; rfl) (argsL := [(.long (1 : Int64))]) (rest := [(.long (0 : Int64))]) (lenOf pd__J_J rfl) rfl (by show 2 * 0 + _ ≤ _; exact Nat.le_of_eq rfl) (hb hby d_prog_3_method_4_code_43) (fun _ _ => ⟨rfl, e37, (by decide : 0 + 0 ≤ _), (by decide : 0 + 0 ≤ _)⟩)
  dsimp only [Pt.U, Pt.locs, Pt.cells, Pt.slots] at X38 l38 y38 z38 st38 hQ38
  subst l38 y38 z38
  obtain ⟨rfl, N38q, e38⟩ := hQ38
  have N38 := Fr.app N37 N38q
  obtain ⟨_, _, ⟨T39, L39, k39, n39⟩, -, X39, ⟨Lc39, hQ39, l39, y39, z39⟩, st39⟩ := Jvm.LawKit.callS X38 hx (y := (⟨"com/example/tranchor/tranchor/Fraction", "gcd", "(JJ)J"⟩ : MethodName)) hown (mvT hZ (hw _ (List.mem_of_getElem? (i := 42) rfl))) (mvT hZ (hw _ (List.mem_of_getElem? (i := 43) rfl))) (mvT hZ (hw _ (List.mem_of_getElem? (i := 35) rfl))) (mvT hZ (hw _ (List.mem_of_getElem? (i := 44) rfl))) (by decide) (backOf (W := 0) (own_gcd l Z a0 hw [] h0 n0 Z0) hZ (hw _ (List.mem_of_getElem? (i := 44) rfl)) (hw _ (List.mem_of_getElem? (i := 35) rfl)) (by decide) (by decide)) (g := (mkF m 46 #[.val (.long (0 : Int64)), .second, .val (.long (1 : Int64)), .second, .unset, .unset] [(.long (1 : Int64)), (.long (0 : Int64))])) rfl (by rw [hml]; rfl) (argsL := [(.long (0 : Int64)), (.long (1 : Int64))]) (rest := []) (lenOf pd__JJ_J rfl) rfl (by show 2 * 0 + _ ≤ _; exact Nat.le_of_eq rfl) (hb hby d_prog_3_method_4_code_46) (fun _ _ => ⟨rfl, e38, (by decide : 0 + 0 ≤ _), (by decide : 0 + 0 ≤ _)⟩)
  dsimp only [Pt.U, Pt.locs, Pt.cells, Pt.slots] at X39 l39 y39 z39 st39 hQ39
  subst l39 y39 z39
  obtain ⟨rfl, N39q, e39⟩ := hQ39
  have N39 := Fr.app N38 N39q
  obtain ⟨_, _, ⟨T40, L40, k40, n40⟩, -, X40, ⟨Lc40, hQ40, l40, y40, z40⟩, st40⟩ := Jvm.LawKit.callS X39 hx (y := (⟨"com/example/tranchor/tranchor/Fraction", "reduced", "(JJ)Lcom/example/tranchor/tranchor/Fraction;"⟩ : MethodName)) hown (mvT hZ (hw _ (List.mem_of_getElem? (i := 45) rfl))) (mvT hZ (hw _ (List.mem_of_getElem? (i := 46) rfl))) (mvT hZ (hw _ (List.mem_of_getElem? (i := 35) rfl))) (mvT hZ (hw _ (List.mem_of_getElem? (i := 47) rfl))) (by decide) (backOf (W := 0) (own_reduced l Z a0 hw [] h0 n0 Z0) hZ (hw _ (List.mem_of_getElem? (i := 47) rfl)) (hw _ (List.mem_of_getElem? (i := 35) rfl)) (by decide) (by decide)) (g := (mkF m 70 #[.val (.long (0 : Int64)), .second, .val (.long (1 : Int64)), .second, .val (.long (1 : Int64)), .second] [(.long (1 : Int64)), (.long (0 : Int64))])) rfl (by rw [hml]; rfl) (argsL := [(.long (0 : Int64)), (.long (1 : Int64))]) (rest := []) (lenOf pd__JJ_Lcom_example_tranchor_tranchor_Fraction_ rfl) rfl (by show 2 * 0 + _ ≤ _; exact Nat.le_of_eq rfl) (hb hby d_prog_3_method_4_code_70) (fun _ _ => ⟨rfl, e39, (by decide : 0 + 1 ≤ _), (by decide : 0 + 4 ≤ _)⟩)
  dsimp only [Pt.U, Pt.locs, Pt.cells, Pt.slots] at X40 l40 y40 z40 st40 hQ40
  subst l40 y40 z40
  obtain ⟨r40, rfl, N40q, EE40, qq40, B40q⟩ := hQ40
  have N40 := Fr.app N39 N40q
  have q40 : h0.size ≤ r40 := qq40
  have EX40 : Ext h0 T40.heap := EE40
  have Z40 : n0 ≤ T40.heap.size := Nat.le_trans Z0 EX40.1
  obtain ⟨E_41, Fnumerator_42, Fdenominator_43, FbigNumerator_44⟩ := id B40q
  obtain ⟨fs, hr, hrun, hended, hW, hsame⟩ := X40.leave (v := some (.ref r40)) (fun h => by rw [Bd.returns] at h; cases h)
  refine ⟨_, _, pre0 _ ?_, hrun, hended, _, _, rfl, ?_, ⟨_, rfl⟩, hW, hsame.mono (by decide) (by decide)⟩
  · show Steps p.tables e below (s₁.setTop (mkF m 0 #[.val (.long (0 : Int64)), .second, .val (.long (1 : Int64)), .second, .unset, .unset] [])) _
    refine XT.lloadN X0.here hx rfl (hb hby d_prog_3_method_4_code_0) rfl ?_
    show Steps p.tables e below (s₁.setTop (mkF m 1 #[.val (.long (0 : Int64)), .second, .val (.long (1 : Int64)), .second, .unset, .unset] [(.long (1 : Int64))])) _
    refine XT.lconstV X0.here hx rfl (0 : Int64) (hb hby d_prog_3_method_4_code_1) rfl ?_
    show Steps p.tables e below (s₁.setTop (mkF m 2 #[.val (.long (0 : Int64)), .second, .val (.long (1 : Int64)), .second, .unset, .unset] [(.long (0 : Int64)), (.long (1 : Int64))])) _
    refine XT.lcmp X0.here hx rfl (hb hby d_prog_3_method_4_code_2) rfl ?_
    show Steps p.tables e below (s₁.setTop (mkF m 3 #[.val (.long (0 : Int64)), .second, .val (.long (1 : Int64)), .second, .unset, .unset] [(.int (XT.cmpL (1 : Int64) (0 : Int64)))])) _
    refine XS.ifYes X0.here hx rfl (pc0 := 3) (pc' := 10) rfl (hb hby d_prog_3_method_4_code_3) rfl (XT.ll_ne_t (by decide)) (by decide) (by decide) ?_
    show Steps p.tables e below (s₁.setTop (mkF m 10 #[.val (.long (0 : Int64)), .second, .val (.long (1 : Int64)), .second, .unset, .unset] [])) _
    refine XT.lloadN X0.here hx rfl (hb hby d_prog_3_method_4_code_10) rfl ?_
    show Steps p.tables e below (s₁.setTop (mkF m 11 #[.val (.long (0 : Int64)), .second, .val (.long (1 : Int64)), .second, .unset, .unset] [(.long (0 : Int64))])) _
    refine Jvm.Stand.ldc2J X0 hx hown (mvT hZ (hw _ (List.mem_of_getElem? (i := 37) rfl))) rfl (hb hby d_prog_3_method_4_code_11) ?_
    show Steps p.tables e below (s₁.setTop (mkF m 14 #[.val (.long (0 : Int64)), .second, .val (.long (1 : Int64)), .second, .unset, .unset] [(.long (-9223372036854775808 : Int64)), (.long (0 : Int64))])) _
    refine XT.lcmp X0.here hx rfl (hb hby d_prog_3_method_4_code_14) rfl ?_
    show Steps p.tables e below (s₁.setTop (mkF m 15 #[.val (.long (0 : Int64)), .second, .val (.long (1 : Int64)), .second, .unset, .unset] [(.int (XT.cmpL (0 : Int64) (-9223372036854775808 : Int64)))])) _
    refine XS.ifNo X0.here hx rfl (hb hby d_prog_3_method_4_code_15) rfl (XT.ll_eq_f (by decide)) ?_
    show Steps p.tables e below (s₁.setTop (mkF m 18 #[.val (.long (0 : Int64)), .second, .val (.long (1 : Int64)), .second, .unset, .unset] [])) _
    refine XT.lloadN X0.here hx rfl (hb hby d_prog_3_method_4_code_18) rfl ?_
    show Steps p.tables e below (s₁.setTop (mkF m 19 #[.val (.long (0 : Int64)), .second, .val (.long (1 : Int64)), .second, .unset, .unset] [(.long (1 : Int64))])) _
    refine Jvm.Stand.ldc2J X0 hx hown (mvT hZ (hw _ (List.mem_of_getElem? (i := 37) rfl))) rfl (hb hby d_prog_3_method_4_code_19) ?_
    show Steps p.tables e below (s₁.setTop (mkF m 22 #[.val (.long (0 : Int64)), .second, .val (.long (1 : Int64)), .second, .unset, .unset] [(.long (-9223372036854775808 : Int64)), (.long (1 : Int64))])) _
    refine XT.lcmp X0.here hx rfl (hb hby d_prog_3_method_4_code_22) rfl ?_
    show Steps p.tables e below (s₁.setTop (mkF m 23 #[.val (.long (0 : Int64)), .second, .val (.long (1 : Int64)), .second, .unset, .unset] [(.int (XT.cmpL (1 : Int64) (-9223372036854775808 : Int64)))])) _
    refine XS.ifYes X0.here hx rfl (pc0 := 23) (pc' := 38) rfl (hb hby d_prog_3_method_4_code_23) rfl (XT.ll_ne_t (by decide)) (by decide) (by decide) ?_
    show Steps p.tables e below (s₁.setTop (mkF m 38 #[.val (.long (0 : Int64)), .second, .val (.long (1 : Int64)), .second, .unset, .unset] [])) _
    refine XT.lloadN X0.here hx rfl (hb hby d_prog_3_method_4_code_38) rfl ?_
    show Steps p.tables e below (s₁.setTop (mkF m 39 #[.val (.long (0 : Int64)), .second, .val (.long (1 : Int64)), .second, .unset, .unset] [(.long (0 : Int64))])) _
    refine st37 _ ?_
    show Steps p.tables e below (T37.setTop (mkF m 42 #[.val (.long (0 : Int64)), .second, .val (.long (1 : Int64)), .second, .unset, .unset] [(.long (0 : Int64))])) _
    refine XT.lloadN X37.here hx rfl (hb hby d_prog_3_method_4_code_42) rfl ?_
    show Steps p.tables e below (T37.setTop (mkF m 43 #[.val (.long (0 : Int64)), .second, .val (.long (1 : Int64)), .second, .unset, .unset] [(.long (1 : Int64)), (.long (0 : Int64))])) _
    refine st38 _ ?_
    show Steps p.tables e below (T38.setTop (mkF m 46 #[.val (.long (0 : Int64)), .second, .val (.long (1 : Int64)), .second, .unset, .unset] [(.long (1 : Int64)), (.long (0 : Int64))])) _
    refine st39 _ ?_
    show Steps p.tables e below (T39.setTop (mkF m 49 #[.val (.long (0 : Int64)), .second, .val (.long (1 : Int64)), .second, .unset, .unset] [(.long (1 : Int64))])) _
    refine XT.lstore X39.here hx rfl (hb hby d_prog_3_method_4_code_49) rfl (l' := #[.val (.long (0 : Int64)), .second, .val (.long (1 : Int64)), .second, .val (.long (1 : Int64)), .second]) rfl ?_
    show Steps p.tables e below (T39.setTop (mkF m 51 #[.val (.long (0 : Int64)), .second, .val (.long (1 : Int64)), .second, .val (.long (1 : Int64)), .second] [])) _
    refine XT.lloadN X39.here hx rfl (hb hby d_prog_3_method_4_code_51) rfl ?_
    show Steps p.tables e below (T39.setTop (mkF m 52 #[.val (.long (0 : Int64)), .second, .val (.long (1 : Int64)), .second, .val (.long (1 : Int64)), .second] [(.long (1 : Int64))])) _
    refine XT.lconstV X39.here hx rfl (0 : Int64) (hb hby d_prog_3_method_4_code_52) rfl ?_
    show Steps p.tables e below (T39.setTop (mkF m 53 #[.val (.long (0 : Int64)), .second, .val (.long (1 : Int64)), .second, .val (.long (1 : Int64)), .second] [(.long (0 : Int64)), (.long (1 : Int64))])) _
    refine XT.lcmp X39.here hx rfl (hb hby d_prog_3_method_4_code_53) rfl ?_
    show Steps p.tables e below (T39.setTop (mkF m 54 #[.val (.long (0 : Int64)), .second, .val (.long (1 : Int64)), .second, .val (.long (1 : Int64)), .second] [(.int (XT.cmpL (1 : Int64) (0 : Int64)))])) _
    refine XS.ifYes X39.here hx rfl (pc0 := 54) (pc' := 62) rfl (hb hby d_prog_3_method_4_code_54) rfl (XT.ll_ge_t (by decide)) (by decide) (by decide) ?_
    show Steps p.tables e below (T39.setTop (mkF m 62 #[.val (.long (0 : Int64)), .second, .val (.long (1 : Int64)), .second, .val (.long (1 : Int64)), .second] [])) _
    refine XT.lloadN X39.here hx rfl (hb hby d_prog_3_method_4_code_62) rfl ?_
    show Steps p.tables e below (T39.setTop (mkF m 63 #[.val (.long (0 : Int64)), .second, .val (.long (1 : Int64)), .second, .val (.long (1 : Int64)), .second] [(.long (0 : Int64))])) _
    refine XT.lload X39.here hx rfl (hb hby d_prog_3_method_4_code_63) rfl ?_
    show Steps p.tables e below (T39.setTop (mkF m 65 #[.val (.long (0 : Int64)), .second, .val (.long (1 : Int64)), .second, .val (.long (1 : Int64)), .second] [(.long (1 : Int64)), (.long (0 : Int64))])) _
    refine XT.ldiv X39.here hx rfl (hb hby d_prog_3_method_4_code_65) rfl (by decide) ?_
    rw [show ((0 : Int64) / (1 : Int64)) = (0 : Int64) from by decide]
    show Steps p.tables e below (T39.setTop (mkF m 66 #[.val (.long (0 : Int64)), .second, .val (.long (1 : Int64)), .second, .val (.long (1 : Int64)), .second] [(.long (0 : Int64))])) _
    refine XT.lloadN X39.here hx rfl (hb hby d_prog_3_method_4_code_66) rfl ?_
    show Steps p.tables e below (T39.setTop (mkF m 67 #[.val (.long (0 : Int64)), .second, .val (.long (1 : Int64)), .second, .val (.long (1 : Int64)), .second] [(.long (1 : Int64)), (.long (0 : Int64))])) _
    refine XT.lload X39.here hx rfl (hb hby d_prog_3_method_4_code_67) rfl ?_
    show Steps p.tables e below (T39.setTop (mkF m 69 #[.val (.long (0 : Int64)), .second, .val (.long (1 : Int64)), .second, .val (.long (1 : Int64)), .second] [(.long (1 : Int64)), (.long (1 : Int64)), (.long (0 : Int64))])) _
    refine XT.ldiv X39.here hx rfl (hb hby d_prog_3_method_4_code_69) rfl (by decide) ?_
    rw [show ((1 : Int64) / (1 : Int64)) = (1 : Int64) from by decide]
    show Steps p.tables e below (T39.setTop (mkF m 70 #[.val (.long (0 : Int64)), .second, .val (.long (1 : Int64)), .second, .val (.long (1 : Int64)), .second] [(.long (1 : Int64)), (.long (0 : Int64))])) _
    refine st40 _ ?_
    show Steps p.tables e below (T40.setTop (mkF m 73 #[.val (.long (0 : Int64)), .second, .val (.long (1 : Int64)), .second, .val (.long (1 : Int64)), .second] [(.ref r40)])) _
    jvm_step X40.here [X40.here.top, hx, (hb hby d_prog_3_method_4_code_73), X40.method', Bd.returns, Value.isRef, FieldType.isReference]
    first | (intro acts; rw [hr _ acts rfl rfl rfl]) | rw [hr _ _ rfl rfl rfl]
    exact Steps.refl _
  · show own_QF Z h0 n0 _ T40.heap _
    exact ⟨r40, rfl, N40, EX40, q40, ⟨E_41, Fnumerator_42, Fdenominator_43, FbigNumerator_44⟩⟩
theorem d_prog_3_method_17_code_0 : decode prog_3_method_17_code 0 = .ok (.aload_n 0, 1) := by decide +kernel
theorem d_prog_3_method_17_code_1 : decode prog_3_method_17_code 1 = .ok (.getfield 16, 3) := by decide +kernel
theorem d_prog_3_method_17_code_4 : decode prog_3_method_17_code 4 = .ok (.ifnonnull 7, 3) := by decide +kernel
theorem d_prog_3_method_17_code_7 : decode prog_3_method_17_code 7 = .ok (.iconst 1, 1) := by decide +kernel
theorem d_prog_3_method_17_code_8 : decode prog_3_method_17_code 8 = .ok (.goto 4, 3) := by decide +kernel
theorem d_prog_3_method_17_code_12 : decode prog_3_method_17_code 12 = .ok (.ireturn, 1) := by decide +kernel
theorem ef_prog_3_method_17_code_A (m : MethodId) (x0 : Addr) : entryFrame m #[(.ref x0)] 1 = mkF m 0 #[.val (.ref x0)] [] := by first | (simp [entryFrame, mkF, argsToLocals, Value.category]; done) | rfl
set_option maxRecDepth 65536 in
set_option maxHeartbeats 40000000 in
theorem own_isLongF (l : Launch) (Z : State) (a0 : Array Value) (hw : ∀ d ∈ tables_1, d.before a0 Z = true) (ws : List Jvm.Cond) (a1 : Addr) (h0 : Heap) (n0 : Nat) (Z0 : n0 ≤ h0.size) (P : own_Fz Z h0 a1) :
    MetFree l (⟨"com/example/tranchor/tranchor/Fraction", "isLong", "()Z"⟩ : MethodName) (head1 (Jvm.Cond.code (⟨"com/example/tranchor/tranchor/Fraction", "isLong", "()Z"⟩ : MethodName) prog_3_method_17_code 1 (some .boolean) :: ws) ({ frames := 0, cells := 0, slots := 0, locals := 0 } : Room)) (fun a U => a = #[(.ref a1)] ∧ Z.Warmed39 U.vm ∧ U.heap = h0) (fun _ _ _ _ _ => True) (fun _ U o U' => ∃ v L, o = .returned v ∧ own_Q (some (.int (1 : Int32))) h0 n0 v U'.heap L ∧ FrameEnd U o U' L ({ frames := 0, cells := 0, slots := 0, locals := 0 } : Room).cells ({ frames := 0, cells := 0, slots := 0, locals := 0 } : Room).slots) := by
  refine MetFree.of_bodySF (plainFor_of_name pn_com_example_tranchor_tranchor_Fraction) hisR ?_
  intro p e s m args below meth c s₁ Bd hml0 hP hK
  obtain ⟨rfl, hZ, hh⟩ := hP
  have hx := Bd.exec
  have hby := Bd.bytes
  have hml : c.maxLocals = 1 := hml0
  have hown : s.vm.findClass "com/example/tranchor/tranchor/Fraction" = some m.cls := findClass_of_methodNamed Bd.named
  have hnm := (name_of_methodNamed Bd.named Bd.method).1
  have X0 : Stand p l e ({ frames := 0, cells := 0, slots := 0, locals := 0 } : Room) s m #[(.ref a1)] below meth c s₁ [] 0 0 := Stand.of_body Bd
  have e0 : s₁.heap = h0 := by rw [← hh, Bd.state]; rfl
  have N0 := Fr.nil n0
  have pre0 : ∀ t, Steps p.tables e below (s₁.setTop (mkF m 0 #[.val (.ref a1)] [])) t → Steps p.tables e below (s₁.setTop (entryFrame m #[(.ref a1)] 1)) t := fun t k => castTop (ef_prog_3_method_17_code_A m a1) k
  obtain ⟨E_45, Fnumerator_46, Fdenominator_47, FbigNumerator_48⟩ := id P
  obtain ⟨T49, X49, e49, st49⟩ := getF X0 hx hZ hown (host := "") (Or.inl (hw _ (List.mem_of_getElem? (i := 58) rfl))) Via.refl e0 FbigNumerator_48 (g := (mkF m 1 #[.val (.ref a1)] [(.ref a1)])) rfl rfl (hb hby d_prog_3_method_17_code_1)
  obtain ⟨fs, hr, hrun, hended, hW, hsame⟩ := X49.leave (v := some (.int (1 : Int32))) (fun h => by rw [Bd.returns] at h; cases h)
  refine ⟨_, _, pre0 _ ?_, hrun, hended, _, _, rfl, ?_, ⟨_, rfl⟩, hW, hsame.mono (by decide) (by decide)⟩
  · show Steps p.tables e below (s₁.setTop (mkF m 0 #[.val (.ref a1)] [])) _
    refine XS.aloadN X0.here hx rfl (hb hby d_prog_3_method_17_code_0) rfl rfl ?_
    show Steps p.tables e below (s₁.setTop (mkF m 1 #[.val (.ref a1)] [(.ref a1)])) _
    refine st49 _ ?_
    show Steps p.tables e below (T49.setTop (mkF m 4 #[.val (.ref a1)] [.null])) _
    refine XT.ifnonnullNo X49.here hx rfl (hb hby d_prog_3_method_17_code_4) rfl ?_
    show Steps p.tables e below (T49.setTop (mkF m 7 #[.val (.ref a1)] [])) _
    refine XT.iconstV X49.here hx rfl (1 : Int32) (hb hby d_prog_3_method_17_code_7) rfl ?_
    show Steps p.tables e below (T49.setTop (mkF m 8 #[.val (.ref a1)] [(.int (1 : Int32))])) _
    refine XS.goto X49.here hx rfl (pc0 := 8) (pc' := 12) rfl (hb hby d_prog_3_method_17_code_8) (by decide) (by decide) ?_
    show Steps p.tables e below (T49.setTop (mkF m 12 #[.val (.ref a1)] [(.int (1 : Int32))])) _
    exact retN X49 hx (t := .boolean) Bd.returns (by simp) (hb hby d_prog_3_method_17_code_12) hr
  · show own_Q (some (.int (1 : Int32))) h0 n0 _ T49.heap _
    rw [e49]
    exact ⟨rfl, N0, rfl⟩
theorem d_prog_3_method_14_code_0 : decode prog_3_method_14_code 0 = .ok (.aload_n 1, 1) := by decide +kernel
theorem d_prog_3_method_14_code_1 : decode prog_3_method_14_code 1 = .ok (.instanceof 8, 3) := by decide +kernel
theorem d_prog_3_method_14_code_4 : decode prog_3_method_14_code 4 = .ok (.ifCond .eq 19, 3) := by decide +kernel
theorem d_prog_3_method_14_code_7 : decode prog_3_method_14_code 7 = .ok (.aload_n 1, 1) := by decide +kernel
theorem d_prog_3_method_14_code_8 : decode prog_3_method_14_code 8 = .ok (.checkcast 8, 3) := by decide +kernel
theorem d_prog_3_method_14_code_11 : decode prog_3_method_14_code 11 = .ok (.astore_n 3, 1) := by decide +kernel
theorem d_prog_3_method_14_code_12 : decode prog_3_method_14_code 12 = .ok (.aload_n 0, 1) := by decide +kernel
theorem pd___Z : parseMethodDescriptor "()Z" = some ⟨[], (some .boolean)⟩ := by decide +kernel
theorem d_prog_3_method_14_code_13 : decode prog_3_method_14_code 13 = .ok (.invokevirtual 115, 3) := by decide +kernel
theorem d_prog_3_method_14_code_16 : decode prog_3_method_14_code 16 = .ok (.aload_n 3, 1) := by decide +kernel
theorem d_prog_3_method_14_code_17 : decode prog_3_method_14_code 17 = .ok (.invokevirtual 115, 3) := by decide +kernel
theorem d_prog_3_method_14_code_20 : decode prog_3_method_14_code 20 = .ok (.if_icmp .eq 8, 3) := by decide +kernel
theorem d_prog_3_method_14_code_28 : decode prog_3_method_14_code 28 = .ok (.aload_n 0, 1) := by decide +kernel
theorem d_prog_3_method_14_code_29 : decode prog_3_method_14_code 29 = .ok (.invokevirtual 115, 3) := by decide +kernel
theorem d_prog_3_method_14_code_32 : decode prog_3_method_14_code 32 = .ok (.ifCond .eq 36, 3) := by decide +kernel
theorem d_prog_3_method_14_code_35 : decode prog_3_method_14_code 35 = .ok (.aload_n 0, 1) := by decide +kernel
theorem d_prog_3_method_14_code_36 : decode prog_3_method_14_code 36 = .ok (.getfield 7, 3) := by decide +kernel
theorem d_prog_3_method_14_code_39 : decode prog_3_method_14_code 39 = .ok (.aload_n 3, 1) := by decide +kernel
theorem d_prog_3_method_14_code_40 : decode prog_3_method_14_code 40 = .ok (.getfield 7, 3) := by decide +kernel
theorem d_prog_3_method_14_code_43 : decode prog_3_method_14_code 43 = .ok (.lcmp, 1) := by decide +kernel
theorem d_prog_3_method_14_code_44 : decode prog_3_method_14_code 44 = .ok (.ifCond .ne 19, 3) := by decide +kernel
theorem d_prog_3_method_14_code_47 : decode prog_3_method_14_code 47 = .ok (.aload_n 0, 1) := by decide +kernel
theorem d_prog_3_method_14_code_48 : decode prog_3_method_14_code 48 = .ok (.getfield 13, 3) := by decide +kernel
theorem d_prog_3_method_14_code_51 : decode prog_3_method_14_code 51 = .ok (.aload_n 3, 1) := by decide +kernel
theorem d_prog_3_method_14_code_52 : decode prog_3_method_14_code 52 = .ok (.getfield 13, 3) := by decide +kernel
theorem d_prog_3_method_14_code_55 : decode prog_3_method_14_code 55 = .ok (.lcmp, 1) := by decide +kernel
theorem d_prog_3_method_14_code_56 : decode prog_3_method_14_code 56 = .ok (.ifCond .ne 7, 3) := by decide +kernel
theorem d_prog_3_method_14_code_59 : decode prog_3_method_14_code 59 = .ok (.iconst 1, 1) := by decide +kernel
theorem d_prog_3_method_14_code_60 : decode prog_3_method_14_code 60 = .ok (.goto 4, 3) := by decide +kernel
theorem d_prog_3_method_14_code_64 : decode prog_3_method_14_code 64 = .ok (.istore_n 2, 1) := by decide +kernel
theorem d_prog_3_method_14_code_65 : decode prog_3_method_14_code 65 = .ok (.goto 37, 3) := by decide +kernel
theorem d_prog_3_method_14_code_102 : decode prog_3_method_14_code 102 = .ok (.iload_n 2, 1) := by decide +kernel
theorem d_prog_3_method_14_code_103 : decode prog_3_method_14_code 103 = .ok (.ireturn, 1) := by decide +kernel
theorem ef_prog_3_method_14_code_AA (m : MethodId) (x0 : Addr) (x1 : Addr) : entryFrame m #[(.ref x0), (.ref x1)] 4 = mkF m 0 #[.val (.ref x0), .val (.ref x1), .unset, .unset] [] := by first | (simp [entryFrame, mkF, argsToLocals, Value.category]; done) | rfl
set_option maxRecDepth 65536 in
set_option maxHeartbeats 40000000 in
theorem own_equals (l : Launch) (Z : State) (a0 : Array Value) (hw : ∀ d ∈ tables_1, d.before a0 Z = true) (ws : List Jvm.Cond) (a1 a2 : Addr) (h0 : Heap) (n0 : Nat) (Z0 : n0 ≤ h0.size) (P1 : own_Fz Z h0 a1) (P2 : own_Fz Z h0 a2) :
    MetFree l (⟨"com/example/tranchor/tranchor/Fraction", "equals", "(Ljava/lang/Object;)Z"⟩ : MethodName) (head1 (Jvm.Cond.code (⟨"com/example/tranchor/tranchor/Fraction", "equals", "(Ljava/lang/Object;)Z"⟩ : MethodName) prog_3_method_14_code 4 (some .boolean) :: ws) ({ frames := 1, cells := 0, slots := 0, locals := 13 } : Room)) (fun a U => a = #[(.ref a1), (.ref a2)] ∧ Z.Warmed39 U.vm ∧ U.heap = h0) (fun _ _ _ _ _ => True) (fun _ U o U' => ∃ v L, o = .returned v ∧ own_Q (some (.int (1 : Int32))) h0 n0 v U'.heap L ∧ FrameEnd U o U' L ({ frames := 1, cells := 0, slots := 0, locals := 13 } : Room).cells ({ frames := 1, cells := 0, slots := 0, locals := 13 } : Room).slots) := by
  refine MetFree.of_bodySF (plainFor_of_name pn_com_example_tranchor_tranchor_Fraction) hisR ?_
  intro p e s m args below meth c s₁ Bd hml0 hP hK
  obtain ⟨rfl, hZ, hh⟩ := hP
  have hx := Bd.exec
  have hby := Bd.bytes
  have hml : c.maxLocals = 4 := hml0
  have hown : s.vm.findClass "com/example/tranchor/tranchor/Fraction" = some m.cls := findClass_of_methodNamed Bd.named
  have hnm := (name_of_methodNamed Bd.named Bd.method).1
  have X0 : Stand p l e ({ frames := 1, cells := 0, slots := 0, locals := 13 } : Room) s m #[(.ref a1), (.ref a2)] below meth c s₁ [] 0 0 := Stand.of_body Bd
  have e0 : s₁.heap = h0 := by rw [← hh, Bd.state]; rfl
  have N0 := Fr.nil n0
  have pre0 : ∀ t, Steps p.tables e below (s₁.setTop (mkF m 0 #[.val (.ref a1), .val (.ref a2), .unset, .unset] [])) t → Steps p.tables e below (s₁.setTop (entryFrame m #[(.ref a1), (.ref a2)] 4)) t := fun t k => castTop (ef_prog_3_method_14_code_AA m a1 a2) k
  obtain ⟨E_50, Fnumerator_51, Fdenominator_52, FbigNumerator_53⟩ := id P1
  obtain ⟨E_54, Fnumerator_55, Fdenominator_56, FbigNumerator_57⟩ := id P2
  obtain ⟨T58, X58, e58, st58⟩ := instY X0 hx hZ hown (hw _ (List.mem_of_getElem? (i := 48) rfl)) e0 (Ins.self E_54) (g := (mkF m 1 #[.val (.ref a1), .val (.ref a2), .unset, .unset] [(.ref a2)])) rfl rfl (hb hby d_prog_3_method_14_code_1)
  obtain ⟨T59, X59, e59, st59⟩ := castY X58 hx hZ hown (hw _ (List.mem_of_getElem? (i := 48) rfl)) e58 (Ins.self E_54) (g := (mkF m 8 #[.val (.ref a1), .val (.ref a2), .unset, .unset] [(.ref a2)])) rfl rfl (hb hby d_prog_3_method_14_code_8)
  obtain ⟨cq60, kq60, q60a, q60b, q60c⟩ := isOf hZ e59 E_50
  obtain ⟨_, _, ⟨T60, L60, k60, n60⟩, -, X60, ⟨Lc60, hQ60, l60, y60, z60⟩, st60⟩ := X59.virtualBack hx (y := (⟨"com/example/tranchor/tranchor/Fraction", "isLong", "()Z"⟩ : MethodName)) (z := (⟨"com/example/tranchor/tranchor/Fraction", "isLong", "()Z"⟩ : MethodName)) hown (mvT hZ (hw _ (List.mem_of_getElem? (i := 70) rfl))) (mvT hZ (hw _ (List.mem_of_getElem? (i := 71) rfl))) (notFace_of_selects (args := #[]) (mvT hZ (hw _ (List.mem_of_getElem? (i := 73) rfl)))) (mvT hZ (hw _ (List.mem_of_getElem? (i := 73) rfl))) (mvT hZ (hw _ (List.mem_of_getElem? (i := 72) rfl))) (by decide) (backOf (W := 0) (own_isLongF l Z a0 hw [] a1 h0 n0 Z0 ⟨E_50, Fnumerator_51, Fdenominator_52, FbigNumerator_53⟩) hZ (hw _ (List.mem_of_getElem? (i := 74) rfl)) (hw _ (List.mem_of_getElem? (i := 35) rfl)) (by decide) (by decide)) q60a q60c (g := (mkF m 13 #[.val (.ref a1), .val (.ref a2), .unset, .val (.ref a2)] [(.ref a1)])) rfl (by rw [hml]; rfl) (Steps.refl _) (argsL := []) (rest := []) (lenOf pd___Z rfl) rfl (by show 2 * 0 + _ ≤ _; exact Nat.le_of_eq rfl) (hb hby d_prog_3_method_14_code_13) (fun _ _ => ⟨rfl, e59, (by decide : 0 + 0 ≤ _), (by decide : 0 + 0 ≤ _)⟩)
  dsimp only [Pt.U, Pt.locs, Pt.cells, Pt.slots] at X60 l60 y60 z60 st60 hQ60
  subst l60 y60 z60
  obtain ⟨rfl, N60q, e60⟩ := hQ60
  have N60 := Fr.app N0 N60q
  obtain ⟨cq61, kq61, q61a, q61b, q61c⟩ := isOf hZ e60 E_54
  obtain ⟨_, _, ⟨T61, L61, k61, n61⟩, -, X61, ⟨Lc61, hQ61, l61, y61, z61⟩, st61⟩ := X60.virtualBack hx (y := (⟨"com/example/tranchor/tranchor/Fraction", "isLong", "()Z"⟩ : MethodName)) (z := (⟨"com/example/tranchor/tranchor/Fraction", "isLong", "()Z"⟩ : MethodName)) hown (mvT hZ (hw _ (List.mem_of_getElem? (i := 70) rfl))) (mvT hZ (hw _ (List.mem_of_getElem? (i := 71) rfl))) (notFace_of_selects (args := #[]) (mvT hZ (hw _ (List.mem_of_getElem? (i := 73) rfl)))) (mvT hZ (hw _ (List.mem_of_getElem? (i := 73) rfl))) (mvT hZ (hw _ (List.mem_of_getElem? (i := 72) rfl))) (by decide) (backOf (W := 1) (own_isLongF l Z a0 hw [] a2 h0 n0 Z0 ⟨E_54, Fnumerator_55, Fdenominator_56, FbigNumerator_57⟩) hZ (hw _ (List.mem_of_getElem? (i := 74) rfl)) (hw _ (List.mem_of_getElem? (i := 35) rfl)) (by decide) (by decide)) q61a q61c (g := (mkF m 17 #[.val (.ref a1), .val (.ref a2), .unset, .val (.ref a2)] [(.ref a2), (.int (1 : Int32))])) rfl (by rw [hml]; rfl) (Steps.refl _) (argsL := []) (rest := [(.int (1 : Int32))]) (lenOf pd___Z rfl) rfl (by show 2 * 0 + _ ≤ _; exact Nat.le_of_eq rfl) (hb hby d_prog_3_method_14_code_17) (fun _ _ => ⟨rfl, e60, (by decide : 0 + 0 ≤ _), (by decide : 0 + 0 ≤ _)⟩)
  dsimp only [Pt.U, Pt.locs, Pt.cells, Pt.slots] at X61 l61 y61 z61 st61 hQ61
  subst l61 y61 z61
  obtain ⟨rfl, N61q, e61⟩ := hQ61
  have N61 := Fr.app N60 N61q
  obtain ⟨cq62, kq62, q62a, q62b, q62c⟩ := isOf hZ e61 E_50
  obtain ⟨_, _, ⟨T62, L62, k62, n62⟩, -, X62, ⟨Lc62, hQ62, l62, y62, z62⟩, st62⟩ := X61.virtualBack hx (y := (⟨"com/example/tranchor/tranchor/Fraction", "isLong", "()Z"⟩ : MethodName)) (z := (⟨"com/example/tranchor/tranchor/Fraction", "isLong", "()Z"⟩ : MethodName)) hown (mvT hZ (hw _ (List.mem_of_getElem? (i := 70) rfl))) (mvT hZ (hw _ (List.mem_of_getElem? (i := 71) rfl))) (notFace_of_selects (args := #[]) (mvT hZ (hw _ (List.mem_of_getElem? (i := 73) rfl)))) (mvT hZ (hw _ (List.mem_of_getElem? (i := 73) rfl))) (mvT hZ (hw _ (List.mem_of_getElem? (i := 72) rfl))) (by decide) (backOf (W := 0) (own_isLongF l Z a0 hw [] a1 h0 n0 Z0 ⟨E_50, Fnumerator_51, Fdenominator_52, FbigNumerator_53⟩) hZ (hw _ (List.mem_of_getElem? (i := 74) rfl)) (hw _ (List.mem_of_getElem? (i := 35) rfl)) (by decide) (by decide)) q62a q62c (g := (mkF m 29 #[.val (.ref a1), .val (.ref a2), .unset, .val (.ref a2)] [(.ref a1)])) rfl (by rw [hml]; rfl) (Steps.refl _) (argsL := []) (rest := []) (lenOf pd___Z rfl) rfl (by show 2 * 0 + _ ≤ _; exact Nat.le_of_eq rfl) (hb hby d_prog_3_method_14_code_29) (fun _ _ => ⟨rfl, e61, (by decide : 0 + 0 ≤ _), (by decide : 0 + 0 ≤ _)⟩)
  dsimp only [Pt.U, Pt.locs, Pt.cells, Pt.slots] at X62 l62 y62 z62 st62 hQ62
  subst l62 y62 z62
  obtain ⟨rfl, N62q, e62⟩ := hQ62
  have N62 := Fr.app N61 N62q
  obtain ⟨T63, X63, e63, st63⟩ := getF X62 hx hZ hown (host := "") (Or.inl (hw _ (List.mem_of_getElem? (i := 54) rfl))) Via.refl e62 Fnumerator_51 (g := (mkF m 36 #[.val (.ref a1), .val (.ref a2), .unset, .val (.ref a2)] [(.ref a1)])) rfl rfl (hb hby d_prog_3_method_14_code_36)
  obtain ⟨T64, X64, e64, st64⟩ := getF X63 hx hZ hown (host := "") (Or.inl (hw _ (List.mem_of_getElem? (i := 54) rfl))) Via.refl e63 Fnumerator_55 (g := (mkF m 40 #[.val (.ref a1), .val (.ref a2), .unset, .val (.ref a2)] [(.ref a2), (.long (0 : Int64))])) rfl rfl (hb hby d_prog_3_method_14_code_40)
  obtain ⟨T65, X65, e65, st65⟩ := getF X64 hx hZ hown (host := "") (Or.inl (hw _ (List.mem_of_getElem? (i := 56) rfl))) Via.refl e64 Fdenominator_52 (g := (mkF m 48 #[.val (.ref a1), .val (.ref a2), .unset, .val (.ref a2)] [(.ref a1)])) rfl rfl (hb hby d_prog_3_method_14_code_48)
  obtain ⟨T66, X66, e66, st66⟩ := getF X65 hx hZ hown (host := "") (Or.inl (hw _ (List.mem_of_getElem? (i := 56) rfl))) Via.refl e65 Fdenominator_56 (g := (mkF m 52 #[.val (.ref a1), .val (.ref a2), .unset, .val (.ref a2)] [(.ref a2), (.long (1 : Int64))])) rfl rfl (hb hby d_prog_3_method_14_code_52)
  obtain ⟨fs, hr, hrun, hended, hW, hsame⟩ := X66.leave (v := some (.int (1 : Int32))) (fun h => by rw [Bd.returns] at h; cases h)
  refine ⟨_, _, pre0 _ ?_, hrun, hended, _, _, rfl, ?_, ⟨_, rfl⟩, hW, hsame.mono (by decide) (by decide)⟩
  · show Steps p.tables e below (s₁.setTop (mkF m 0 #[.val (.ref a1), .val (.ref a2), .unset, .unset] [])) _
    refine XS.aloadN X0.here hx rfl (hb hby d_prog_3_method_14_code_0) rfl rfl ?_
    show Steps p.tables e below (s₁.setTop (mkF m 1 #[.val (.ref a1), .val (.ref a2), .unset, .unset] [(.ref a2)])) _
    refine st58 _ ?_
    show Steps p.tables e below (T58.setTop (mkF m 4 #[.val (.ref a1), .val (.ref a2), .unset, .unset] [(.int (1 : Int32))])) _
    refine XS.ifNo X58.here hx rfl (hb hby d_prog_3_method_14_code_4) rfl (by decide) ?_
    show Steps p.tables e below (T58.setTop (mkF m 7 #[.val (.ref a1), .val (.ref a2), .unset, .unset] [])) _
    refine XS.aloadN X58.here hx rfl (hb hby d_prog_3_method_14_code_7) rfl rfl ?_
    show Steps p.tables e below (T58.setTop (mkF m 8 #[.val (.ref a1), .val (.ref a2), .unset, .unset] [(.ref a2)])) _
    refine st59 _ ?_
    show Steps p.tables e below (T59.setTop (mkF m 11 #[.val (.ref a1), .val (.ref a2), .unset, .unset] [(.ref a2)])) _
    refine XS.astoreN X59.here hx rfl (hb hby d_prog_3_method_14_code_11) rfl rfl (l' := #[.val (.ref a1), .val (.ref a2), .unset, .val (.ref a2)]) rfl ?_
    show Steps p.tables e below (T59.setTop (mkF m 12 #[.val (.ref a1), .val (.ref a2), .unset, .val (.ref a2)] [])) _
    refine XS.aloadN X59.here hx rfl (hb hby d_prog_3_method_14_code_12) rfl rfl ?_
    show Steps p.tables e below (T59.setTop (mkF m 13 #[.val (.ref a1), .val (.ref a2), .unset, .val (.ref a2)] [(.ref a1)])) _
    refine st60.trans ?_
    show Steps p.tables e below (T60.setTop (mkF m 16 #[.val (.ref a1), .val (.ref a2), .unset, .val (.ref a2)] [(.int (1 : Int32))])) _
    refine XS.aloadN X60.here hx rfl (hb hby d_prog_3_method_14_code_16) rfl rfl ?_
    show Steps p.tables e below (T60.setTop (mkF m 17 #[.val (.ref a1), .val (.ref a2), .unset, .val (.ref a2)] [(.ref a2), (.int (1 : Int32))])) _
    refine st61.trans ?_
    show Steps p.tables e below (T61.setTop (mkF m 20 #[.val (.ref a1), .val (.ref a2), .unset, .val (.ref a2)] [(.int (1 : Int32)), (.int (1 : Int32))])) _
    refine XS.icmpYes X61.here hx rfl (pc0 := 20) (pc' := 28) rfl (hb hby d_prog_3_method_14_code_20) rfl (by decide) (by decide) (by decide) ?_
    show Steps p.tables e below (T61.setTop (mkF m 28 #[.val (.ref a1), .val (.ref a2), .unset, .val (.ref a2)] [])) _
    refine XS.aloadN X61.here hx rfl (hb hby d_prog_3_method_14_code_28) rfl rfl ?_
    show Steps p.tables e below (T61.setTop (mkF m 29 #[.val (.ref a1), .val (.ref a2), .unset, .val (.ref a2)] [(.ref a1)])) _
    refine st62.trans ?_
    show Steps p.tables e below (T62.setTop (mkF m 32 #[.val (.ref a1), .val (.ref a2), .unset, .val (.ref a2)] [(.int (1 : Int32))])) _
    refine XS.ifNo X62.here hx rfl (hb hby d_prog_3_method_14_code_32) rfl (by decide) ?_
    show Steps p.tables e below (T62.setTop (mkF m 35 #[.val (.ref a1), .val (.ref a2), .unset, .val (.ref a2)] [])) _
    refine XS.aloadN X62.here hx rfl (hb hby d_prog_3_method_14_code_35) rfl rfl ?_
    show Steps p.tables e below (T62.setTop (mkF m 36 #[.val (.ref a1), .val (.ref a2), .unset, .val (.ref a2)] [(.ref a1)])) _
    refine st63 _ ?_
    show Steps p.tables e below (T63.setTop (mkF m 39 #[.val (.ref a1), .val (.ref a2), .unset, .val (.ref a2)] [(.long (0 : Int64))])) _
    refine XS.aloadN X63.here hx rfl (hb hby d_prog_3_method_14_code_39) rfl rfl ?_
    show Steps p.tables e below (T63.setTop (mkF m 40 #[.val (.ref a1), .val (.ref a2), .unset, .val (.ref a2)] [(.ref a2), (.long (0 : Int64))])) _
    refine st64 _ ?_
    show Steps p.tables e below (T64.setTop (mkF m 43 #[.val (.ref a1), .val (.ref a2), .unset, .val (.ref a2)] [(.long (0 : Int64)), (.long (0 : Int64))])) _
    refine XT.lcmp X64.here hx rfl (hb hby d_prog_3_method_14_code_43) rfl ?_
    show Steps p.tables e below (T64.setTop (mkF m 44 #[.val (.ref a1), .val (.ref a2), .unset, .val (.ref a2)] [(.int (XT.cmpL (0 : Int64) (0 : Int64)))])) _
    refine XS.ifNo X64.here hx rfl (hb hby d_prog_3_method_14_code_44) rfl (XT.ll_ne_f (by decide)) ?_
    show Steps p.tables e below (T64.setTop (mkF m 47 #[.val (.ref a1), .val (.ref a2), .unset, .val (.ref a2)] [])) _
    refine XS.aloadN X64.here hx rfl (hb hby d_prog_3_method_14_code_47) rfl rfl ?_
    show Steps p.tables e below (T64.setTop (mkF m 48 #[.val (.ref a1), .val (.ref a2), .unset, .val (.ref a2)] [(.ref a1)])) _
    refine st65 _ ?_
    show Steps p.tables e below (T65.setTop (mkF m 51 #[.val (.ref a1), .val (.ref a2), .unset, .val (.ref a2)] [(.long (1 : Int64))])) _
    refine XS.aloadN X65.here hx rfl (hb hby d_prog_3_method_14_code_51) rfl rfl ?_
    show Steps p.tables e below (T65.setTop (mkF m 52 #[.val (.ref a1), .val (.ref a2), .unset, .val (.ref a2)] [(.ref a2), (.long (1 : Int64))])) _
    refine st66 _ ?_
    show Steps p.tables e below (T66.setTop (mkF m 55 #[.val (.ref a1), .val (.ref a2), .unset, .val (.ref a2)] [(.long (1 : Int64)), (.long (1 : Int64))])) _
    refine XT.lcmp X66.here hx rfl (hb hby d_prog_3_method_14_code_55) rfl ?_
    show Steps p.tables e below (T66.setTop (mkF m 56 #[.val (.ref a1), .val (.ref a2), .unset, .val (.ref a2)] [(.int (XT.cmpL (1 : Int64) (1 : Int64)))])) _
    refine XS.ifNo X66.here hx rfl (hb hby d_prog_3_method_14_code_56) rfl (XT.ll_ne_f (by decide)) ?_
    show Steps p.tables e below (T66.setTop (mkF m 59 #[.val (.ref a1), .val (.ref a2), .unset, .val (.ref a2)] [])) _
    refine XT.iconstV X66.here hx rfl (1 : Int32) (hb hby d_prog_3_method_14_code_59) rfl ?_
    show Steps p.tables e below (T66.setTop (mkF m 60 #[.val (.ref a1), .val (.ref a2), .unset, .val (.ref a2)] [(.int (1 : Int32))])) _
    refine XS.goto X66.here hx rfl (pc0 := 60) (pc' := 64) rfl (hb hby d_prog_3_method_14_code_60) (by decide) (by decide) ?_
    show Steps p.tables e below (T66.setTop (mkF m 64 #[.val (.ref a1), .val (.ref a2), .unset, .val (.ref a2)] [(.int (1 : Int32))])) _
    refine XS.istoreN X66.here hx rfl (hb hby d_prog_3_method_14_code_64) rfl (l' := #[.val (.ref a1), .val (.ref a2), .val (.int (1 : Int32)), .val (.ref a2)]) rfl ?_
    show Steps p.tables e below (T66.setTop (mkF m 65 #[.val (.ref a1), .val (.ref a2), .val (.int (1 : Int32)), .val (.ref a2)] [])) _
    refine XS.goto X66.here hx rfl (pc0 := 65) (pc' := 102) rfl (hb hby d_prog_3_method_14_code_65) (by decide) (by decide) ?_
    show Steps p.tables e below (T66.setTop (mkF m 102 #[.val (.ref a1), .val (.ref a2), .val (.int (1 : Int32)), .val (.ref a2)] [])) _
    refine XS.iloadN X66.here hx rfl (hb hby d_prog_3_method_14_code_102) rfl ?_
    show Steps p.tables e below (T66.setTop (mkF m 103 #[.val (.ref a1), .val (.ref a2), .val (.int (1 : Int32)), .val (.ref a2)] [(.int (1 : Int32))])) _
    exact retN X66 hx (t := .boolean) Bd.returns (by simp) (hb hby d_prog_3_method_14_code_103) hr
  · show own_Q (some (.int (1 : Int32))) h0 n0 _ T66.heap _
    rw [e66]
    exact ⟨rfl, N62, rfl⟩
theorem d_prog_6_method_1_code_0 : decode prog_6_method_1_code 0 = .ok (.aload_n 0, 1) := by decide +kernel
theorem d_prog_6_method_1_code_1 : decode prog_6_method_1_code 1 = .ok (.invokespecial 1, 3) := by decide +kernel
theorem d_prog_6_method_1_code_4 : decode prog_6_method_1_code 4 = .ok (.aload_n 0, 1) := by decide +kernel
theorem d_prog_6_method_1_code_5 : decode prog_6_method_1_code 5 = .ok (.aload_n 1, 1) := by decide +kernel
theorem d_prog_6_method_1_code_6 : decode prog_6_method_1_code 6 = .ok (.putfield 7, 3) := by decide +kernel
theorem d_prog_6_method_1_code_9 : decode prog_6_method_1_code 9 = .ok (.aload_n 0, 1) := by decide +kernel
theorem d_prog_6_method_1_code_10 : decode prog_6_method_1_code 10 = .ok (.lload_n 2, 1) := by decide +kernel
theorem d_prog_6_method_1_code_11 : decode prog_6_method_1_code 11 = .ok (.putfield 13, 3) := by decide +kernel
theorem d_prog_6_method_1_code_14 : decode prog_6_method_1_code 14 = .ok (.aload_n 0, 1) := by decide +kernel
theorem d_prog_6_method_1_code_15 : decode prog_6_method_1_code 15 = .ok (.aconst_null, 1) := by decide +kernel
theorem d_prog_6_method_1_code_16 : decode prog_6_method_1_code 16 = .ok (.putfield 17, 3) := by decide +kernel
theorem d_prog_6_method_1_code_19 : decode prog_6_method_1_code 19 = .ok (.return_, 1) := by decide +kernel
theorem ef_prog_6_method_1_code_AAJ (m : MethodId) (x0 : Addr) (x1 : Addr) (x2 : Int64) : entryFrame m #[(.ref x0), (.ref x1), (.long x2)] 4 = mkF m 0 #[.val (.ref x0), .val (.ref x1), .val (.long x2), .second] [] := by first | (simp [entryFrame, mkF, argsToLocals, Value.category]; done) | rfl
theorem pn_com_example_tranchor_tranchor_Parts : plainName "com/example/tranchor/tranchor/Parts" = true := by first | (simp [plainName, overriddenIn]; done) | decide +kernel
set_option maxRecDepth 65536 in
set_option maxHeartbeats 40000000 in
theorem own_initP (l : Launch) (Z : State) (a0 : Array Value) (hw : ∀ d ∈ tables_1, d.before a0 Z = true) (ws : List Jvm.Cond) (a1 r1 : Addr) (h0 : Heap) (n0 : Nat) (Z0 : n0 ≤ h0.size) (E1 : Exa Z h0 a1 "com/example/tranchor/tranchor/Parts") (G1 : Fld Z h0 a1 "com/example/tranchor/tranchor/Parts" "numerators" "[J" .null) (G2 : Fld Z h0 a1 "com/example/tranchor/tranchor/Parts" "denominator" "J" (.long (0 : Int64))) (G3 : Fld Z h0 a1 "com/example/tranchor/tranchor/Parts" "fractions" "[Lcom/example/tranchor/tranchor/Fraction;" .null) (g1 : n0 ≤ a1) :
    MetFree l (⟨"com/example/tranchor/tranchor/Parts", "<init>", "([JJ)V"⟩ : MethodName) (head1 (Jvm.Cond.code (⟨"com/example/tranchor/tranchor/Parts", "<init>", "([JJ)V"⟩ : MethodName) prog_6_method_1_code 4 none :: ws) ({ frames := 1, cells := 0, slots := 0, locals := 12 } : Room)) (fun a U => a = #[(.ref a1), (.ref r1), (.long (1 : Int64))] ∧ Z.Warmed39 U.vm ∧ U.heap = h0) (fun _ _ _ _ _ => True) (fun _ U o U' => ∃ v L, o = .returned v ∧ own_QiP Z a1 r1 h0 n0 v U'.heap L ∧ FrameEnd U o U' L ({ frames := 1, cells := 0, slots := 0, locals := 12 } : Room).cells ({ frames := 1, cells := 0, slots := 0, locals := 12 } : Room).slots) := by
  refine MetFree.of_bodySF (plainFor_of_name pn_com_example_tranchor_tranchor_Parts) hisR ?_
  intro p e s m args below meth c s₁ Bd hml0 hP hK
  obtain ⟨rfl, hZ, hh⟩ := hP
  have hx := Bd.exec
  have hby := Bd.bytes
  have hml : c.maxLocals = 4 := hml0
  have hown : s.vm.findClass "com/example/tranchor/tranchor/Parts" = some m.cls := findClass_of_methodNamed Bd.named
  have hnm := (name_of_methodNamed Bd.named Bd.method).1
  have X0 : Stand p l e ({ frames := 1, cells := 0, slots := 0, locals := 12 } : Room) s m #[(.ref a1), (.ref r1), (.long (1 : Int64))] below meth c s₁ [] 0 0 := Stand.of_body Bd
  have e0 : s₁.heap = h0 := by rw [← hh, Bd.state]; rfl
  have N0 := Fr.nil n0
  have pre0 : ∀ t, Steps p.tables e below (s₁.setTop (mkF m 0 #[.val (.ref a1), .val (.ref r1), .val (.long (1 : Int64)), .second] [])) t → Steps p.tables e below (s₁.setTop (entryFrame m #[(.ref a1), (.ref r1), (.long (1 : Int64))] 4)) t := fun t k => castTop (ef_prog_6_method_1_code_AAJ m a1 r1 (1 : Int64)) k
  obtain ⟨T67, X67, e67, st67⟩ := initO X0 hx hZ hown (hw _ (List.mem_of_getElem? (i := 10) rfl)) (hw _ (List.mem_of_getElem? (i := 11) rfl)) (hw _ (List.mem_of_getElem? (i := 12) rfl)) e0 (g := (mkF m 1 #[.val (.ref a1), .val (.ref r1), .val (.long (1 : Int64)), .second] [(.ref a1)])) rfl (by rw [hml]; rfl) rfl (hb hby d_prog_6_method_1_code_1) (by decide) (W := 0) (by show 2 * 0 + _ ≤ _; exact Nat.le_of_eq rfl) (by decide)
  obtain ⟨T68, h68, X68, e68, W68, st68⟩ := putF X67 hx hZ hown (host := "") (Or.inl (hw _ (List.mem_of_getElem? (i := 13) rfl))) Via.refl e67 G1 E1 (Or.inr ⟨(hw _ (List.mem_of_getElem? (i := 14) rfl)), rfl, hnm⟩) (hw _ (List.mem_of_getElem? (i := 5) rfl)) (ty := (.array .long)) (by decide) rfl rfl (g := (mkF m 6 #[.val (.ref a1), .val (.ref r1), .val (.long (1 : Int64)), .second] [(.ref r1), (.ref a1)])) rfl rfl (hb hby d_prog_6_method_1_code_6)
  have E1_69 := E1.wr W68
  have G2_70 := G2.other W68 (Or.inr (slot_ne (Or.inr (hw _ (List.mem_of_getElem? (i := 16) rfl))) (Or.inr (hw _ (List.mem_of_getElem? (i := 14) rfl))) (by decide) (t := .long) (t' := (.array .long)) (by decide) (by decide)))
  have G3_71 := G3.other W68 (Or.inr (slot_ne (Or.inr (hw _ (List.mem_of_getElem? (i := 18) rfl))) (Or.inr (hw _ (List.mem_of_getElem? (i := 14) rfl))) (by decide) (t := (.array (.object "com/example/tranchor/tranchor/Fraction"))) (t' := (.array .long)) (by decide) (by decide)))
  have K68 : Keep h0 h68 [a1] := (Keep.refl _ _).wr W68 (Or.inl (List.mem_of_getElem? (i := 0) rfl))
  have Z68 : n0 ≤ h68.size := Nat.le_trans Z0 K68.1
  have N68 := Fr.snoc X68 N0 g1
  have Fnumerators_72 : Fld Z h68 a1 "com/example/tranchor/tranchor/Parts" "numerators" "[J" (.ref r1) := G1.same W68
  obtain ⟨T73, h73, X73, e73, W73, st73⟩ := putF X68 hx hZ hown (host := "") (Or.inl (hw _ (List.mem_of_getElem? (i := 15) rfl))) Via.refl e68 G2_70 E1_69 (Or.inr ⟨(hw _ (List.mem_of_getElem? (i := 16) rfl)), rfl, hnm⟩) (hw _ (List.mem_of_getElem? (i := 5) rfl)) (ty := .long) (by decide) rfl rfl (g := (mkF m 11 #[.val (.ref a1), .val (.ref r1), .val (.long (1 : Int64)), .second] [(.long (1 : Int64)), (.ref a1)])) rfl rfl (hb hby d_prog_6_method_1_code_11)
  have E1_74 := E1_69.wr W73
  have Fnumerators_75 := Fnumerators_72.other W73 (Or.inr (slot_ne (Or.inr (hw _ (List.mem_of_getElem? (i := 14) rfl))) (Or.inr (hw _ (List.mem_of_getElem? (i := 16) rfl))) (by decide) (t := (.array .long)) (t' := .long) (by decide) (by decide)))
  have G3_76 := G3_71.other W73 (Or.inr (slot_ne (Or.inr (hw _ (List.mem_of_getElem? (i := 18) rfl))) (Or.inr (hw _ (List.mem_of_getElem? (i := 16) rfl))) (by decide) (t := (.array (.object "com/example/tranchor/tranchor/Fraction"))) (t' := .long) (by decide) (by decide)))
  have K73 : Keep h0 h73 [a1] := K68.wr W73 (Or.inl (List.mem_of_getElem? (i := 0) rfl))
  have Z73 : n0 ≤ h73.size := Nat.le_trans Z0 K73.1
  have N73 := Fr.snoc X73 N68 g1
  have Fdenominator_77 : Fld Z h73 a1 "com/example/tranchor/tranchor/Parts" "denominator" "J" (.long (1 : Int64)) := G2_70.same W73
  obtain ⟨T78, h78, X78, e78, W78, st78⟩ := putF X73 hx hZ hown (host := "") (Or.inl (hw _ (List.mem_of_getElem? (i := 17) rfl))) Via.refl e73 G3_76 E1_74 (Or.inr ⟨(hw _ (List.mem_of_getElem? (i := 18) rfl)), rfl, hnm⟩) (hw _ (List.mem_of_getElem? (i := 5) rfl)) (ty := (.array (.object "com/example/tranchor/tranchor/Fraction"))) (by decide) rfl rfl (g := (mkF m 16 #[.val (.ref a1), .val (.ref r1), .val (.long (1 : Int64)), .second] [.null, (.ref a1)])) rfl rfl (hb hby d_prog_6_method_1_code_16)
  have E1_79 := E1_74.wr W78
  have Fnumerators_80 := Fnumerators_75.other W78 (Or.inr (slot_ne (Or.inr (hw _ (List.mem_of_getElem? (i := 14) rfl))) (Or.inr (hw _ (List.mem_of_getElem? (i := 18) rfl))) (by decide) (t := (.array .long)) (t' := (.array (.object "com/example/tranchor/tranchor/Fraction"))) (by decide) (by decide)))
  have Fdenominator_81 := Fdenominator_77.other W78 (Or.inr (slot_ne (Or.inr (hw _ (List.mem_of_getElem? (i := 16) rfl))) (Or.inr (hw _ (List.mem_of_getElem? (i := 18) rfl))) (by decide) (t := .long) (t' := (.array (.object "com/example/tranchor/tranchor/Fraction"))) (by decide) (by decide)))
  have K78 : Keep h0 h78 [a1] := K73.wr W78 (Or.inl (List.mem_of_getElem? (i := 0) rfl))
  have Z78 : n0 ≤ h78.size := Nat.le_trans Z0 K78.1
  have N78 := Fr.snoc X78 N73 g1
  have Ffractions_82 : Fld Z h78 a1 "com/example/tranchor/tranchor/Parts" "fractions" "[Lcom/example/tranchor/tranchor/Fraction;" .null := G3_76.same W78
  obtain ⟨fs, hr, hrun, hended, hW, hsame⟩ := X78.leave (v := none) (fun _ => rfl)
  refine ⟨_, _, pre0 _ ?_, hrun, hended, _, _, rfl, ?_, ⟨_, rfl⟩, hW, hsame.mono (by decide) (by decide)⟩
  · show Steps p.tables e below (s₁.setTop (mkF m 0 #[.val (.ref a1), .val (.ref r1), .val (.long (1 : Int64)), .second] [])) _
    refine XS.aloadN X0.here hx rfl (hb hby d_prog_6_method_1_code_0) rfl rfl ?_
    show Steps p.tables e below (s₁.setTop (mkF m 1 #[.val (.ref a1), .val (.ref r1), .val (.long (1 : Int64)), .second] [(.ref a1)])) _
    refine st67 _ ?_
    show Steps p.tables e below (T67.setTop (mkF m 4 #[.val (.ref a1), .val (.ref r1), .val (.long (1 : Int64)), .second] [])) _
    refine XS.aloadN X67.here hx rfl (hb hby d_prog_6_method_1_code_4) rfl rfl ?_
    show Steps p.tables e below (T67.setTop (mkF m 5 #[.val (.ref a1), .val (.ref r1), .val (.long (1 : Int64)), .second] [(.ref a1)])) _
    refine XS.aloadN X67.here hx rfl (hb hby d_prog_6_method_1_code_5) rfl rfl ?_
    show Steps p.tables e below (T67.setTop (mkF m 6 #[.val (.ref a1), .val (.ref r1), .val (.long (1 : Int64)), .second] [(.ref r1), (.ref a1)])) _
    refine st68 _ ?_
    show Steps p.tables e below (T68.setTop (mkF m 9 #[.val (.ref a1), .val (.ref r1), .val (.long (1 : Int64)), .second] [])) _
    refine XS.aloadN X68.here hx rfl (hb hby d_prog_6_method_1_code_9) rfl rfl ?_
    show Steps p.tables e below (T68.setTop (mkF m 10 #[.val (.ref a1), .val (.ref r1), .val (.long (1 : Int64)), .second] [(.ref a1)])) _
    refine XT.lloadN X68.here hx rfl (hb hby d_prog_6_method_1_code_10) rfl ?_
    show Steps p.tables e below (T68.setTop (mkF m 11 #[.val (.ref a1), .val (.ref r1), .val (.long (1 : Int64)), .second] [(.long (1 : Int64)), (.ref a1)])) _
    refine st73 _ ?_
    show Steps p.tables e below (T73.setTop (mkF m 14 #[.val (.ref a1), .val (.ref r1), .val (.long (1 : Int64)), .second] [])) _
    refine XS.aloadN X73.here hx rfl (hb hby d_prog_6_method_1_code_14) rfl rfl ?_
    show Steps p.tables e below (T73.setTop (mkF m 15 #[.val (.ref a1), .val (.ref r1), .val (.long (1 : Int64)), .second] [(.ref a1)])) _
    refine XS.aconstNull X73.here hx rfl (hb hby d_prog_6_method_1_code_15) ?_
    show Steps p.tables e below (T73.setTop (mkF m 16 #[.val (.ref a1), .val (.ref r1), .val (.long (1 : Int64)), .second] [.null, (.ref a1)])) _
    refine st78 _ ?_
    show Steps p.tables e below (T78.setTop (mkF m 19 #[.val (.ref a1), .val (.ref r1), .val (.long (1 : Int64)), .second] [])) _
    exact X78.returnOut hx Bd.returns (hb hby d_prog_6_method_1_code_19) hr
  · show own_QiP Z a1 r1 h0 n0 _ T78.heap _
    rw [e78]
    exact ⟨rfl, N78, K78, Fnumerators_80, Fdenominator_81⟩
theorem d_prog_6_method_5_code_0 : decode prog_6_method_5_code 0 = .ok (.new 8, 3) := by decide +kernel
theorem d_prog_6_method_5_code_3 : decode prog_6_method_5_code 3 = .ok (.dup, 1) := by decide +kernel
theorem d_prog_6_method_5_code_4 : decode prog_6_method_5_code 4 = .ok (.iload_n 0, 1) := by decide +kernel
theorem d_prog_6_method_5_code_5 : decode prog_6_method_5_code 5 = .ok (.newarray .long, 2) := by decide +kernel
theorem d_prog_6_method_5_code_7 : decode prog_6_method_5_code 7 = .ok (.lconst 1, 1) := by decide +kernel
theorem pd__ArJJ_V : parseMethodDescriptor "([JJ)V" = some ⟨[(.array .long), .long], none⟩ := by decide +kernel
theorem d_prog_6_method_5_code_8 : decode prog_6_method_5_code 8 = .ok (.invokespecial 60, 3) := by decide +kernel
theorem d_prog_6_method_5_code_11 : decode prog_6_method_5_code 11 = .ok (.areturn, 1) := by decide +kernel
theorem ef_prog_6_method_5_code_I (m : MethodId) (x0 : Int32) : entryFrame m #[(.int x0)] 1 = mkF m 0 #[.val (.int x0)] [] := by first | (simp [entryFrame, mkF, argsToLocals, Value.category]; done) | rfl
set_option maxRecDepth 65536 in
set_option maxHeartbeats 40000000 in
theorem own_zeros (l : Launch) (Z : State) (a0 : Array Value) (hw : ∀ d ∈ tables_1, d.before a0 Z = true) (ws : List Jvm.Cond) (nn : Int32) (h0 : Heap) (n0 : Nat) (Z0 : n0 ≤ h0.size) (hn : ¬ nn < 0 ∧ nn.toNatClampNeg ≤ 15) :
    MetFree l (⟨"com/example/tranchor/tranchor/Parts", "zeros", "(I)Lcom/example/tranchor/tranchor/Parts;"⟩ : MethodName) (head1 (Jvm.Cond.code (⟨"com/example/tranchor/tranchor/Parts", "zeros", "(I)Lcom/example/tranchor/tranchor/Parts;"⟩ : MethodName) prog_6_method_5_code 1 (some (.object "com/example/tranchor/tranchor/Parts")) :: ws) ({ frames := 2, cells := 2, slots := 18, locals := 28 } : Room)) (fun a U => a = #[(.int nn)] ∧ Z.Warmed39 U.vm ∧ U.heap = h0) (fun _ _ _ _ _ => True) (fun _ U o U' => ∃ v L, o = .returned v ∧ own_QP Z nn h0 n0 v U'.heap L ∧ FrameEnd U o U' L ({ frames := 2, cells := 2, slots := 18, locals := 28 } : Room).cells ({ frames := 2, cells := 2, slots := 18, locals := 28 } : Room).slots) := by
  refine MetFree.of_bodySF (plainFor_of_name pn_com_example_tranchor_tranchor_Parts) hisR ?_
  intro p e s m args below meth c s₁ Bd hml0 hP hK
  obtain ⟨rfl, hZ, hh⟩ := hP
  have hx := Bd.exec
  have hby := Bd.bytes
  have hml : c.maxLocals = 1 := hml0
  have hown : s.vm.findClass "com/example/tranchor/tranchor/Parts" = some m.cls := findClass_of_methodNamed Bd.named
  have hnm := (name_of_methodNamed Bd.named Bd.method).1
  have X0 : Stand p l e ({ frames := 2, cells := 2, slots := 18, locals := 28 } : Room) s m #[(.int nn)] below meth c s₁ [] 0 0 := Stand.of_body Bd
  have e0 : s₁.heap = h0 := by rw [← hh, Bd.state]; rfl
  have N0 := Fr.nil n0
  have pre0 : ∀ t, Steps p.tables e below (s₁.setTop (mkF m 0 #[.val (.int nn)] [])) t → Steps p.tables e below (s₁.setTop (entryFrame m #[(.int nn)] 1)) t := fun t k => castTop (ef_prog_6_method_5_code_I m nn) k
  obtain ⟨T83, h83, X83, e83, E83, A83, D83, -, st83⟩ := newO X0 hx hZ hown (hw _ (List.mem_of_getElem? (i := 4) rfl)) (hw _ (List.mem_of_getElem? (i := 5) rfl)) (hw _ (List.mem_of_getElem? (i := 2) rfl)) e0 (g := (mkF m 0 #[.val (.int nn)] [])) rfl (hb hby d_prog_6_method_5_code_0) (by decide) (by decide)
  obtain ⟨b83, g83⟩ : ∃ z, z = h0.size := ⟨_, rfl⟩
  rw [← g83] at A83 D83 st83
  have q83 : h0.size ≤ b83 := by rw [g83]; exact Nat.le_refl _
  have EX83 : Ext h0 h83 := E83
  have Z83 : n0 ≤ h83.size := Nat.le_trans Z0 EX83.1
  have Fnumerators_84 : Fld Z h83 b83 "com/example/tranchor/tranchor/Parts" "numerators" "[J" .null := D83 (Or.inr (hw _ (List.mem_of_getElem? (i := 14) rfl))) (ty := (.array .long)) (by decide)
  have Fdenominator_85 : Fld Z h83 b83 "com/example/tranchor/tranchor/Parts" "denominator" "J" (.long (0 : Int64)) := D83 (Or.inr (hw _ (List.mem_of_getElem? (i := 16) rfl))) (ty := .long) (by decide)
  have Ffractions_86 : Fld Z h83 b83 "com/example/tranchor/tranchor/Parts" "fractions" "[Lcom/example/tranchor/tranchor/Fraction;" .null := D83 (Or.inr (hw _ (List.mem_of_getElem? (i := 18) rfl))) (ty := (.array (.object "com/example/tranchor/tranchor/Fraction"))) (by decide)
  obtain ⟨T87, h87, k87, X87, e87, E87, A87, st87⟩ := newP X83 hx hZ (hw _ (List.mem_of_getElem? (i := 6) rfl)) e83 (g := (mkF m 5 #[.val (.int nn)] [(.int nn), (.ref b83), (.ref b83)])) rfl (hb hby d_prog_6_method_5_code_5) rfl hn.1 (cap := 15) hn.2 (by decide) (by decide) (by decide)
  obtain ⟨b87, g87⟩ : ∃ z, z = h83.size := ⟨_, rfl⟩
  rw [← g87] at A87 st87
  have V87 : Arv Z h87 b87 k87 .long nn [] (.long (0 : Int64)) := Arv.new A87 hn.1
  have q87 : h0.size ≤ b87 := by rw [g87]; exact EX83.1
  have ne_b83_b87 : b83 ≠ b87 := by rw [g87]; exact Nat.ne_of_lt A83.lt
  have A83_88 := A83.ext E87
  have Fnumerators_89 := Fnumerators_84.ext E87
  have Fdenominator_90 := Fdenominator_85.ext E87
  have Ffractions_91 := Ffractions_86.ext E87
  have EX87 : Ext h0 h87 := own_ext_trans EX83 E87
  have Z87 : n0 ≤ h87.size := Nat.le_trans Z0 EX87.1
  obtain ⟨_, _, ⟨T92, L92, k92, n92⟩, -, X92, ⟨Lc92, hQ92, l92, y92, z92⟩, st92⟩ := X87.specialBack hx (y := (⟨"com/example/tranchor/tranchor/Parts", "<init>", "([JJ)V"⟩ : MethodName)) rfl hown (mvT hZ (hw _ (List.mem_of_getElem? (i := 7) rfl))) (mvT hZ (hw _ (List.mem_of_getElem? (i := 8) rfl))) (mvT hZ (hw _ (List.mem_of_getElem? (i := 9) rfl))) (by decide) (backOf (W := 1) (own_initP l Z a0 hw [] b83 b87 h87 n0 Z87 A83_88 Fnumerators_89 Fdenominator_90 Ffractions_91 (Nat.le_trans Z0 q83)) hZ (hw _ (List.mem_of_getElem? (i := 9) rfl)) (hw _ (List.mem_of_getElem? (i := 2) rfl)) (by decide) (by decide)) (g := (mkF m 8 #[.val (.int nn)] [(.long (1 : Int64)), (.ref b87), (.ref b83), (.ref b83)])) rfl (by rw [hml]; rfl) (Steps.refl _) (a := b83) (argsL := [(.ref b87), (.long (1 : Int64))]) (rest := [(.ref b83)]) (lenOf pd__ArJJ_V rfl) rfl (by show 2 * 0 + _ ≤ _; exact Nat.le_of_eq rfl) (hb hby d_prog_6_method_5_code_8) (fun _ _ => ⟨rfl, e87, (by decide : 2 + 0 ≤ _), (by decide : 18 + 0 ≤ _)⟩)
  dsimp only [Pt.U, Pt.locs, Pt.cells, Pt.slots] at X92 l92 y92 z92 st92 hQ92
  subst l92 y92 z92
  obtain ⟨rfl, N92q, K92q, Fa92, Fb92⟩ := hQ92
  have N92 := Fr.app N0 N92q
  have A83_93 := A83_88.keep K92q
  have V87_94 := V87.keep K92q (ninS (Ne.symm ne_b83_b87) nin0)
  have EX92 : Ext h0 T92.heap := own_ext_keep EX87 K92q (allS q83 all0)
  have Z92 : n0 ≤ T92.heap.size := Nat.le_trans Z0 EX92.1
  obtain ⟨fs, hr, hrun, hended, hW, hsame⟩ := X92.leave (v := some (.ref b83)) (fun h => by rw [Bd.returns] at h; cases h)
  refine ⟨_, _, pre0 _ ?_, hrun, hended, _, _, rfl, ?_, ⟨_, rfl⟩, hW, hsame.mono (by decide) (by decide)⟩
  · show Steps p.tables e below (s₁.setTop (mkF m 0 #[.val (.int nn)] [])) _
    refine st83 _ ?_
    show Steps p.tables e below (T83.setTop (mkF m 3 #[.val (.int nn)] [(.ref b83)])) _
    refine XS.dup X83.here hx rfl (hb hby d_prog_6_method_5_code_3) rfl rfl ?_
    show Steps p.tables e below (T83.setTop (mkF m 4 #[.val (.int nn)] [(.ref b83), (.ref b83)])) _
    refine XS.iloadN X83.here hx rfl (hb hby d_prog_6_method_5_code_4) rfl ?_
    show Steps p.tables e below (T83.setTop (mkF m 5 #[.val (.int nn)] [(.int nn), (.ref b83), (.ref b83)])) _
    refine st87 _ ?_
    show Steps p.tables e below (T87.setTop (mkF m 7 #[.val (.int nn)] [(.ref b87), (.ref b83), (.ref b83)])) _
    refine XT.lconstV X87.here hx rfl (1 : Int64) (hb hby d_prog_6_method_5_code_7) rfl ?_
    show Steps p.tables e below (T87.setTop (mkF m 8 #[.val (.int nn)] [(.long (1 : Int64)), (.ref b87), (.ref b83), (.ref b83)])) _
    refine st92.trans ?_
    show Steps p.tables e below (T92.setTop (mkF m 11 #[.val (.int nn)] [(.ref b83)])) _
    jvm_step X92.here [X92.here.top, hx, (hb hby d_prog_6_method_5_code_11), X92.method', Bd.returns, Value.isRef, FieldType.isReference]
    first | (intro acts; rw [hr _ acts rfl rfl rfl]) | rw [hr _ _ rfl rfl rfl]
    exact Steps.refl _
  · show own_QP Z nn h0 n0 _ T92.heap _
    exact ⟨b83, b87, k87, rfl, N92, EX92, q83, q87, ne_b83_b87, ⟨A83_93, Fa92, Fb92, V87_94⟩⟩
theorem d_prog_6_method_16_code_0 : decode prog_6_method_16_code 0 = .ok (.aload_n 0, 1) := by decide +kernel
theorem d_prog_6_method_16_code_1 : decode prog_6_method_16_code 1 = .ok (.getfield 7, 3) := by decide +kernel
theorem d_prog_6_method_16_code_4 : decode prog_6_method_16_code 4 = .ok (.ifnull 7, 3) := by decide +kernel
theorem d_prog_6_method_16_code_7 : decode prog_6_method_16_code 7 = .ok (.iconst 1, 1) := by decide +kernel
theorem d_prog_6_method_16_code_8 : decode prog_6_method_16_code 8 = .ok (.goto 4, 3) := by decide +kernel
theorem d_prog_6_method_16_code_12 : decode prog_6_method_16_code 12 = .ok (.ireturn, 1) := by decide +kernel
theorem ef_prog_6_method_16_code_A (m : MethodId) (x0 : Addr) : entryFrame m #[(.ref x0)] 1 = mkF m 0 #[.val (.ref x0)] [] := by first | (simp [entryFrame, mkF, argsToLocals, Value.category]; done) | rfl
set_option maxRecDepth 65536 in
set_option maxHeartbeats 40000000 in
theorem own_isLongP (l : Launch) (Z : State) (a0 : Array Value) (hw : ∀ d ∈ tables_1, d.before a0 Z = true) (ws : List Jvm.Cond) (a1 r1 : Addr) (k1 : ClassId) (nn : Int32) (h0 : Heap) (n0 : Nat) (Z0 : n0 ≤ h0.size) (P : own_Pz Z h0 a1 r1 k1 nn) :
    MetFree l (⟨"com/example/tranchor/tranchor/Parts", "isLong", "()Z"⟩ : MethodName) (head1 (Jvm.Cond.code (⟨"com/example/tranchor/tranchor/Parts", "isLong", "()Z"⟩ : MethodName) prog_6_method_16_code 1 (some .boolean) :: ws) ({ frames := 0, cells := 0, slots := 0, locals := 0 } : Room)) (fun a U => a = #[(.ref a1)] ∧ Z.Warmed39 U.vm ∧ U.heap = h0) (fun _ _ _ _ _ => True) (fun _ U o U' => ∃ v L, o = .returned v ∧ own_Q (some (.int (1 : Int32))) h0 n0 v U'.heap L ∧ FrameEnd U o U' L ({ frames := 0, cells := 0, slots := 0, locals := 0 } : Room).cells ({ frames := 0, cells := 0, slots := 0, locals := 0 } : Room).slots) := by
  refine MetFree.of_bodySF (plainFor_of_name pn_com_example_tranchor_tranchor_Parts) hisR ?_
  intro p e s m args below meth c s₁ Bd hml0 hP hK
  obtain ⟨rfl, hZ, hh⟩ := hP
  have hx := Bd.exec
  have hby := Bd.bytes
  have hml : c.maxLocals = 1 := hml0
  have hown : s.vm.findClass "com/example/tranchor/tranchor/Parts" = some m.cls := findClass_of_methodNamed Bd.named
  have hnm := (name_of_methodNamed Bd.named Bd.method).1
  have X0 : Stand p l e ({ frames := 0, cells := 0, slots := 0, locals := 0 } : Room) s m #[(.ref a1)] below meth c s₁ [] 0 0 := Stand.of_body Bd
  have e0 : s₁.heap = h0 := by rw [← hh, Bd.state]; rfl
  have N0 := Fr.nil n0
  have pre0 : ∀ t, Steps p.tables e below (s₁.setTop (mkF m 0 #[.val (.ref a1)] [])) t → Steps p.tables e below (s₁.setTop (entryFrame m #[(.ref a1)] 1)) t := fun t k => castTop (ef_prog_6_method_16_code_A m a1) k
  obtain ⟨E_95, Fnumerators_96, Fdenominator_97, V_98⟩ := id P
  obtain ⟨T99, X99, e99, st99⟩ := getF X0 hx hZ hown (host := "") (Or.inl (hw _ (List.mem_of_getElem? (i := 13) rfl))) Via.refl e0 Fnumerators_96 (g := (mkF m 1 #[.val (.ref a1)] [(.ref a1)])) rfl rfl (hb hby d_prog_6_method_16_code_1)
  obtain ⟨fs, hr, hrun, hended, hW, hsame⟩ := X99.leave (v := some (.int (1 : Int32))) (fun h => by rw [Bd.returns] at h; cases h)
  refine ⟨_, _, pre0 _ ?_, hrun, hended, _, _, rfl, ?_, ⟨_, rfl⟩, hW, hsame.mono (by decide) (by decide)⟩
  · show Steps p.tables e below (s₁.setTop (mkF m 0 #[.val (.ref a1)] [])) _
    refine XS.aloadN X0.here hx rfl (hb hby d_prog_6_method_16_code_0) rfl rfl ?_
    show Steps p.tables e below (s₁.setTop (mkF m 1 #[.val (.ref a1)] [(.ref a1)])) _
    refine st99 _ ?_
    show Steps p.tables e below (T99.setTop (mkF m 4 #[.val (.ref a1)] [(.ref r1)])) _
    refine XS.ifnullNo X99.here hx rfl (hb hby d_prog_6_method_16_code_4) rfl ?_
    show Steps p.tables e below (T99.setTop (mkF m 7 #[.val (.ref a1)] [])) _
    refine XT.iconstV X99.here hx rfl (1 : Int32) (hb hby d_prog_6_method_16_code_7) rfl ?_
    show Steps p.tables e below (T99.setTop (mkF m 8 #[.val (.ref a1)] [(.int (1 : Int32))])) _
    refine XS.goto X99.here hx rfl (pc0 := 8) (pc' := 12) rfl (hb hby d_prog_6_method_16_code_8) (by decide) (by decide) ?_
    show Steps p.tables e below (T99.setTop (mkF m 12 #[.val (.ref a1)] [(.int (1 : Int32))])) _
    exact retN X99 hx (t := .boolean) Bd.returns (by simp) (hb hby d_prog_6_method_16_code_12) hr
  · show own_Q (some (.int (1 : Int32))) h0 n0 _ T99.heap _
    rw [e99]
    exact ⟨rfl, N0, rfl⟩
theorem d_prog_6_method_6_code_0 : decode prog_6_method_6_code 0 = .ok (.aload_n 0, 1) := by decide +kernel
theorem d_prog_6_method_6_code_1 : decode prog_6_method_6_code 1 = .ok (.invokevirtual 63, 3) := by decide +kernel
theorem d_prog_6_method_6_code_4 : decode prog_6_method_6_code 4 = .ok (.ifCond .eq 11, 3) := by decide +kernel
theorem d_prog_6_method_6_code_7 : decode prog_6_method_6_code 7 = .ok (.aload_n 0, 1) := by decide +kernel
theorem d_prog_6_method_6_code_8 : decode prog_6_method_6_code 8 = .ok (.getfield 7, 3) := by decide +kernel
theorem d_prog_6_method_6_code_11 : decode prog_6_method_6_code 11 = .ok (.arraylength, 1) := by decide +kernel
theorem d_prog_6_method_6_code_12 : decode prog_6_method_6_code 12 = .ok (.goto 8, 3) := by decide +kernel
theorem d_prog_6_method_6_code_20 : decode prog_6_method_6_code 20 = .ok (.ireturn, 1) := by decide +kernel
theorem ef_prog_6_method_6_code_A (m : MethodId) (x0 : Addr) : entryFrame m #[(.ref x0)] 1 = mkF m 0 #[.val (.ref x0)] [] := by first | (simp [entryFrame, mkF, argsToLocals, Value.category]; done) | rfl
set_option maxRecDepth 65536 in
set_option maxHeartbeats 40000000 in
theorem own_size (l : Launch) (Z : State) (a0 : Array Value) (hw : ∀ d ∈ tables_1, d.before a0 Z = true) (ws : List Jvm.Cond) (a1 r1 : Addr) (k1 : ClassId) (nn : Int32) (h0 : Heap) (n0 : Nat) (Z0 : n0 ≤ h0.size) (P : own_Pz Z h0 a1 r1 k1 nn) :
    MetFree l (⟨"com/example/tranchor/tranchor/Parts", "size", "()I"⟩ : MethodName) (head1 (Jvm.Cond.code (⟨"com/example/tranchor/tranchor/Parts", "size", "()I"⟩ : MethodName) prog_6_method_6_code 1 (some .int) :: ws) ({ frames := 1, cells := 0, slots := 0, locals := 12 } : Room)) (fun a U => a = #[(.ref a1)] ∧ Z.Warmed39 U.vm ∧ U.heap = h0) (fun _ _ _ _ _ => True) (fun _ U o U' => ∃ v L, o = .returned v ∧ own_Q (some (.int nn)) h0 n0 v U'.heap L ∧ FrameEnd U o U' L ({ frames := 1, cells := 0, slots := 0, locals := 12 } : Room).cells ({ frames := 1, cells := 0, slots := 0, locals := 12 } : Room).slots) := by
  refine MetFree.of_bodySF (plainFor_of_name pn_com_example_tranchor_tranchor_Parts) hisR ?_
  intro p e s m args below meth c s₁ Bd hml0 hP hK
  obtain ⟨rfl, hZ, hh⟩ := hP
  have hx := Bd.exec
  have hby := Bd.bytes
  have hml : c.maxLocals = 1 := hml0
  have hown : s.vm.findClass "com/example/tranchor/tranchor/Parts" = some m.cls := findClass_of_methodNamed Bd.named
  have hnm := (name_of_methodNamed Bd.named Bd.method).1
  have X0 : Stand p l e ({ frames := 1, cells := 0, slots := 0, locals := 12 } : Room) s m #[(.ref a1)] below meth c s₁ [] 0 0 := Stand.of_body Bd
  have e0 : s₁.heap = h0 := by rw [← hh, Bd.state]; rfl
  have N0 := Fr.nil n0
  have pre0 : ∀ t, Steps p.tables e below (s₁.setTop (mkF m 0 #[.val (.ref a1)] [])) t → Steps p.tables e below (s₁.setTop (entryFrame m #[(.ref a1)] 1)) t := fun t k => castTop (ef_prog_6_method_6_code_A m a1) k
  obtain ⟨E_100, Fnumerators_101, Fdenominator_102, V_103⟩ := id P
  obtain ⟨cq104, qa104, qb104⟩ := E_100.cell
  obtain ⟨_, _, ⟨T104, L104, k104, n104⟩, -, X104, ⟨Lc104, hQ104, l104, y104, z104⟩, st104⟩ := X0.privateBack hx (y := (⟨"com/example/tranchor/tranchor/Parts", "isLong", "()Z"⟩ : MethodName)) hown (mvT hZ (hw _ (List.mem_of_getElem? (i := 24) rfl))) (mvT hZ (hw _ (List.mem_of_getElem? (i := 25) rfl))) (own_selP (mvT hZ (hw _ (List.mem_of_getElem? (i := 22) rfl))) rfl (Cond.privateMethod_at (mvP hZ (hw _ (List.mem_of_getElem? (i := 26) rfl)) (args := #[]))) (mvT hZ (hw _ (List.mem_of_getElem? (i := 25) rfl))) (by decide)) (Cond.privateMethod_at (mvP hZ (hw _ (List.mem_of_getElem? (i := 26) rfl)) (args := #[]))) (mvT hZ (hw _ (List.mem_of_getElem? (i := 27) rfl))) (by decide) (backOf (W := 0) (own_isLongP l Z a0 hw [] a1 r1 k1 nn h0 n0 Z0 ⟨E_100, Fnumerators_101, Fdenominator_102, V_103⟩) hZ (hw _ (List.mem_of_getElem? (i := 27) rfl)) (hw _ (List.mem_of_getElem? (i := 2) rfl)) (by decide) (by decide)) (g := (mkF m 1 #[.val (.ref a1)] [(.ref a1)])) rfl (by rw [hml]; rfl) (Steps.refl _) (a := a1) (by rw [e0]; exact qa104) qb104 (argsL := []) (rest := []) (lenOf pd___Z rfl) rfl (by show 2 * 0 + _ ≤ _; exact Nat.le_of_eq rfl) (hb hby d_prog_6_method_6_code_1) (fun _ _ => ⟨rfl, e0, (by decide : 0 + 0 ≤ _), (by decide : 0 + 0 ≤ _)⟩)
  dsimp only [Pt.U, Pt.locs, Pt.cells, Pt.slots] at X104 l104 y104 z104 st104 hQ104
  subst l104 y104 z104
  obtain ⟨rfl, N104q, e104⟩ := hQ104
  have N104 := Fr.app N0 N104q
  obtain ⟨T105, X105, e105, st105⟩ := getF X104 hx hZ hown (host := "") (Or.inl (hw _ (List.mem_of_getElem? (i := 13) rfl))) Via.refl e104 Fnumerators_101 (g := (mkF m 8 #[.val (.ref a1)] [(.ref a1)])) rfl rfl (hb hby d_prog_6_method_6_code_8)
  obtain ⟨cl106, Ar106, -, Sz106, Nz106, -⟩ := id V_103
  obtain ⟨fs, hr, hrun, hended, hW, hsame⟩ := X105.leave (v := some (.int nn)) (fun h => by rw [Bd.returns] at h; cases h)
  refine ⟨_, _, pre0 _ ?_, hrun, hended, _, _, rfl, ?_, ⟨_, rfl⟩, hW, hsame.mono (by decide) (by decide)⟩
  · show Steps p.tables e below (s₁.setTop (mkF m 0 #[.val (.ref a1)] [])) _
    refine XS.aloadN X0.here hx rfl (hb hby d_prog_6_method_6_code_0) rfl rfl ?_
    show Steps p.tables e below (s₁.setTop (mkF m 1 #[.val (.ref a1)] [(.ref a1)])) _
    refine st104.trans ?_
    show Steps p.tables e below (T104.setTop (mkF m 4 #[.val (.ref a1)] [(.int (1 : Int32))])) _
    refine XS.ifNo X104.here hx rfl (hb hby d_prog_6_method_6_code_4) rfl (by decide) ?_
    show Steps p.tables e below (T104.setTop (mkF m 7 #[.val (.ref a1)] [])) _
    refine XS.aloadN X104.here hx rfl (hb hby d_prog_6_method_6_code_7) rfl rfl ?_
    show Steps p.tables e below (T104.setTop (mkF m 8 #[.val (.ref a1)] [(.ref a1)])) _
    refine st105 _ ?_
    show Steps p.tables e below (T105.setTop (mkF m 11 #[.val (.ref a1)] [(.ref r1)])) _
    refine X105.arraylength hx (by rw [e105]; exact Ar106.1) (State.isArrayOf_alike hZ.alike Ar106.2.1) (g := (mkF m 11 #[.val (.ref a1)] [(.ref r1)])) rfl rfl (hb hby d_prog_6_method_6_code_11) _ ?_
    rw [len_of Sz106 Nz106]
    show Steps p.tables e below (T105.setTop (mkF m 12 #[.val (.ref a1)] [(.int nn)])) _
    refine XS.goto X105.here hx rfl (pc0 := 12) (pc' := 20) rfl (hb hby d_prog_6_method_6_code_12) (by decide) (by decide) ?_
    show Steps p.tables e below (T105.setTop (mkF m 20 #[.val (.ref a1)] [(.int nn)])) _
    exact retI X105 hx Bd.returns (hb hby d_prog_6_method_6_code_20) hr
  · show own_Q (some (.int nn)) h0 n0 _ T105.heap _
    rw [e105]
    exact ⟨rfl, N104, rfl⟩
theorem own_at0 {Z : State} {h : Heap} {a : Addr} {k : ClassId} {ty : FieldType} {z : Int32} {dv : Value} (F : Arv Z h a k ty z [] dv) {j : Int32} (hj : ¬ j < 0 ∧ j < z) :
    ∃ c : Cell, Arr Z h a c ty ∧ ¬ (j < 0 ∨ c.slots.size ≤ j.toNatClampNeg) ∧ c.slots[j.toNatClampNeg]? = some dv := by
  obtain ⟨c, A, -, S, -, H, -⟩ := F
  exact ⟨c, A, inb_of S hj, H.at (inb_of S hj) (by simp)⟩
theorem d_prog_6_method_8_code_0 : decode prog_6_method_8_code 0 = .ok (.aload_n 0, 1) := by decide +kernel
theorem d_prog_6_method_8_code_1 : decode prog_6_method_8_code 1 = .ok (.invokevirtual 63, 3) := by decide +kernel
theorem d_prog_6_method_8_code_4 : decode prog_6_method_8_code 4 = .ok (.ifCond .eq 22, 3) := by decide +kernel
theorem d_prog_6_method_8_code_7 : decode prog_6_method_8_code 7 = .ok (.aload_n 0, 1) := by decide +kernel
theorem d_prog_6_method_8_code_8 : decode prog_6_method_8_code 8 = .ok (.getfield 7, 3) := by decide +kernel
theorem d_prog_6_method_8_code_11 : decode prog_6_method_8_code 11 = .ok (.iload_n 1, 1) := by decide +kernel
theorem d_prog_6_method_8_code_12 : decode prog_6_method_8_code 12 = .ok (.laload, 1) := by decide +kernel
theorem d_prog_6_method_8_code_13 : decode prog_6_method_8_code 13 = .ok (.lconst 0, 1) := by decide +kernel
theorem d_prog_6_method_8_code_14 : decode prog_6_method_8_code 14 = .ok (.lcmp, 1) := by decide +kernel
theorem d_prog_6_method_8_code_15 : decode prog_6_method_8_code 15 = .ok (.ifCond .ne 7, 3) := by decide +kernel
theorem d_prog_6_method_8_code_18 : decode prog_6_method_8_code 18 = .ok (.iconst 1, 1) := by decide +kernel
theorem d_prog_6_method_8_code_19 : decode prog_6_method_8_code 19 = .ok (.goto 19, 3) := by decide +kernel
theorem d_prog_6_method_8_code_38 : decode prog_6_method_8_code 38 = .ok (.ireturn, 1) := by decide +kernel
theorem ef_prog_6_method_8_code_AI (m : MethodId) (x0 : Addr) (x1 : Int32) : entryFrame m #[(.ref x0), (.int x1)] 2 = mkF m 0 #[.val (.ref x0), .val (.int x1)] [] := by first | (simp [entryFrame, mkF, argsToLocals, Value.category]; done) | rfl
set_option maxRecDepth 65536 in
set_option maxHeartbeats 40000000 in
theorem own_isZero (l : Launch) (Z : State) (a0 : Array Value) (hw : ∀ d ∈ tables_1, d.before a0 Z = true) (ws : List Jvm.Cond) (a1 r1 : Addr) (k1 : ClassId) (nn : Int32) (ii : Int32) (h0 : Heap) (n0 : Nat) (Z0 : n0 ≤ h0.size) (P : own_Pz Z h0 a1 r1 k1 nn) (hi : ¬ ii < 0 ∧ ii < nn) :
    MetFree l (⟨"com/example/tranchor/tranchor/Parts", "isZero", "(I)Z"⟩ : MethodName) (head1 (Jvm.Cond.code (⟨"com/example/tranchor/tranchor/Parts", "isZero", "(I)Z"⟩ : MethodName) prog_6_method_8_code 2 (some .boolean) :: ws) ({ frames := 1, cells := 0, slots := 0, locals := 12 } : Room)) (fun a U => a = #[(.ref a1), (.int ii)] ∧ Z.Warmed39 U.vm ∧ U.heap = h0) (fun _ _ _ _ _ => True) (fun _ U o U' => ∃ v L, o = .returned v ∧ own_Q (some (.int (1 : Int32))) h0 n0 v U'.heap L ∧ FrameEnd U o U' L ({ frames := 1, cells := 0, slots := 0, locals := 12 } : Room).cells ({ frames := 1, cells := 0, slots := 0, locals := 12 } : Room).slots) := by
  refine MetFree.of_bodySF (plainFor_of_name pn_com_example_tranchor_tranchor_Parts) hisR ?_
  intro p e s m args below meth c s₁ Bd hml0 hP hK
  obtain ⟨rfl, hZ, hh⟩ := hP
  have hx := Bd.exec
  have hby := Bd.bytes
  have hml : c.maxLocals = 2 := hml0
  have hown : s.vm.findClass "com/example/tranchor/tranchor/Parts" = some m.cls := findClass_of_methodNamed Bd.named
  have hnm := (name_of_methodNamed Bd.named Bd.method).1
  have X0 : Stand p l e ({ frames := 1, cells := 0, slots := 0, locals := 12 } : Room) s m #[(.ref a1), (.int ii)] below meth c s₁ [] 0 0 := Stand.of_body Bd
  have e0 : s₁.heap = h0 := by rw [← hh, Bd.state]; rfl
  have N0 := Fr.nil n0
  have pre0 : ∀ t, Steps p.tables e below (s₁.setTop (mkF m 0 #[.val (.ref a1), .val (.int ii)] [])) t → Steps p.tables e below (s₁.setTop (entryFrame m #[(.ref a1), (.int ii)] 2)) t := fun t k => castTop (ef_prog_6_method_8_code_AI m a1 ii) k
  obtain ⟨E_107, Fnumerators_108, Fdenominator_109, V_110⟩ := id P
  obtain ⟨cq111, qa111, qb111⟩ := E_107.cell
  obtain ⟨_, _, ⟨T111, L111, k111, n111⟩, -, X111, ⟨Lc111, hQ111, l111, y111, z111⟩, st111⟩ := X0.privateBack hx (y := (⟨"com/example/tranchor/tranchor/Parts", "isLong", "()Z"⟩ : MethodName)) hown (mvT hZ (hw _ (List.mem_of_getElem? (i := 24) rfl))) (mvT hZ (hw _ (List.mem_of_getElem? (i := 25) rfl))) (own_selP (mvT hZ (hw _ (List.mem_of_getElem? (i := 22) rfl))) rfl (Cond.privateMethod_at (mvP hZ (hw _ (List.mem_of_getElem? (i := 26) rfl)) (args := #[]))) (mvT hZ (hw _ (List.mem_of_getElem? (i := 25) rfl))) (by decide)) (Cond.privateMethod_at (mvP hZ (hw _ (List.mem_of_getElem? (i := 26) rfl)) (args := #[]))) (mvT hZ (hw _ (List.mem_of_getElem? (i := 27) rfl))) (by decide) (backOf (W := 0) (own_isLongP l Z a0 hw [] a1 r1 k1 nn h0 n0 Z0 ⟨E_107, Fnumerators_108, Fdenominator_109, V_110⟩) hZ (hw _ (List.mem_of_getElem? (i := 27) rfl)) (hw _ (List.mem_of_getElem? (i := 2) rfl)) (by decide) (by decide)) (g := (mkF m 1 #[.val (.ref a1), .val (.int ii)] [(.ref a1)])) rfl (by rw [hml]; rfl) (Steps.refl _) (a := a1) (by rw [e0]; exact qa111) qb111 (argsL := []) (rest := []) (lenOf pd___Z rfl) rfl (by show 2 * 0 + _ ≤ _; exact Nat.le_of_eq rfl) (hb hby d_prog_6_method_8_code_1) (fun _ _ => ⟨rfl, e0, (by decide : 0 + 0 ≤ _), (by decide : 0 + 0 ≤ _)⟩)
  dsimp only [Pt.U, Pt.locs, Pt.cells, Pt.slots] at X111 l111 y111 z111 st111 hQ111
  subst l111 y111 z111
  obtain ⟨rfl, N111q, e111⟩ := hQ111
  have N111 := Fr.app N0 N111q
  obtain ⟨T112, X112, e112, st112⟩ := getF X111 hx hZ hown (host := "") (Or.inl (hw _ (List.mem_of_getElem? (i := 13) rfl))) Via.refl e111 Fnumerators_108 (g := (mkF m 8 #[.val (.ref a1), .val (.int ii)] [(.ref a1)])) rfl rfl (hb hby d_prog_6_method_8_code_8)
  obtain ⟨cl113, Ar113, Q113, H113⟩ := own_at0 V_110 (j := ii) hi
  obtain ⟨fs, hr, hrun, hended, hW, hsame⟩ := X112.leave (v := some (.int (1 : Int32))) (fun h => by rw [Bd.returns] at h; cases h)
  refine ⟨_, _, pre0 _ ?_, hrun, hended, _, _, rfl, ?_, ⟨_, rfl⟩, hW, hsame.mono (by decide) (by decide)⟩
  · show Steps p.tables e below (s₁.setTop (mkF m 0 #[.val (.ref a1), .val (.int ii)] [])) _
    refine XS.aloadN X0.here hx rfl (hb hby d_prog_6_method_8_code_0) rfl rfl ?_
    show Steps p.tables e below (s₁.setTop (mkF m 1 #[.val (.ref a1), .val (.int ii)] [(.ref a1)])) _
    refine st111.trans ?_
    show Steps p.tables e below (T111.setTop (mkF m 4 #[.val (.ref a1), .val (.int ii)] [(.int (1 : Int32))])) _
    refine XS.ifNo X111.here hx rfl (hb hby d_prog_6_method_8_code_4) rfl (by decide) ?_
    show Steps p.tables e below (T111.setTop (mkF m 7 #[.val (.ref a1), .val (.int ii)] [])) _
    refine XS.aloadN X111.here hx rfl (hb hby d_prog_6_method_8_code_7) rfl rfl ?_
    show Steps p.tables e below (T111.setTop (mkF m 8 #[.val (.ref a1), .val (.int ii)] [(.ref a1)])) _
    refine st112 _ ?_
    show Steps p.tables e below (T112.setTop (mkF m 11 #[.val (.ref a1), .val (.int ii)] [(.ref r1)])) _
    refine XS.iloadN X112.here hx rfl (hb hby d_prog_6_method_8_code_11) rfl ?_
    show Steps p.tables e below (T112.setTop (mkF m 12 #[.val (.ref a1), .val (.int ii)] [(.int ii), (.ref r1)])) _
    refine X112.laload hx (j := ii) (v := (.long (0 : Int64))) (by rw [e112]; exact Ar113.1) (State.isArrayOf_alike hZ.alike Ar113.2.1) Ar113.2.2 Q113 H113 (g := (mkF m 12 #[.val (.ref a1), .val (.int ii)] [(.int ii), (.ref r1)])) rfl rfl (hb hby d_prog_6_method_8_code_12) _ ?_
    show Steps p.tables e below (T112.setTop (mkF m 13 #[.val (.ref a1), .val (.int ii)] [(.long (0 : Int64))])) _
    refine XT.lconstV X112.here hx rfl (0 : Int64) (hb hby d_prog_6_method_8_code_13) rfl ?_
    show Steps p.tables e below (T112.setTop (mkF m 14 #[.val (.ref a1), .val (.int ii)] [(.long (0 : Int64)), (.long (0 : Int64))])) _
    refine XT.lcmp X112.here hx rfl (hb hby d_prog_6_method_8_code_14) rfl ?_
    show Steps p.tables e below (T112.setTop (mkF m 15 #[.val (.ref a1), .val (.int ii)] [(.int (XT.cmpL (0 : Int64) (0 : Int64)))])) _
    refine XS.ifNo X112.here hx rfl (hb hby d_prog_6_method_8_code_15) rfl (XT.ll_ne_f (by decide)) ?_
    show Steps p.tables e below (T112.setTop (mkF m 18 #[.val (.ref a1), .val (.int ii)] [])) _
    refine XT.iconstV X112.here hx rfl (1 : Int32) (hb hby d_prog_6_method_8_code_18) rfl ?_
    show Steps p.tables e below (T112.setTop (mkF m 19 #[.val (.ref a1), .val (.int ii)] [(.int (1 : Int32))])) _
    refine XS.goto X112.here hx rfl (pc0 := 19) (pc' := 38) rfl (hb hby d_prog_6_method_8_code_19) (by decide) (by decide) ?_
    show Steps p.tables e below (T112.setTop (mkF m 38 #[.val (.ref a1), .val (.int ii)] [(.int (1 : Int32))])) _
    exact retN X112 hx (t := .boolean) Bd.returns (by simp) (hb hby d_prog_6_method_8_code_38) hr
  · show own_Q (some (.int (1 : Int32))) h0 n0 _ T112.heap _
    rw [e112]
    exact ⟨rfl, N111, rfl⟩
theorem d_prog_6_method_7_code_0 : decode prog_6_method_7_code 0 = .ok (.aload_n 0, 1) := by decide +kernel
theorem d_prog_6_method_7_code_1 : decode prog_6_method_7_code 1 = .ok (.invokevirtual 63, 3) := by decide +kernel
theorem d_prog_6_method_7_code_4 : decode prog_6_method_7_code 4 = .ok (.ifCond .eq 19, 3) := by decide +kernel
theorem d_prog_6_method_7_code_7 : decode prog_6_method_7_code 7 = .ok (.aload_n 0, 1) := by decide +kernel
theorem d_prog_6_method_7_code_8 : decode prog_6_method_7_code 8 = .ok (.getfield 7, 3) := by decide +kernel
theorem d_prog_6_method_7_code_11 : decode prog_6_method_7_code 11 = .ok (.iload_n 1, 1) := by decide +kernel
theorem d_prog_6_method_7_code_12 : decode prog_6_method_7_code 12 = .ok (.laload, 1) := by decide +kernel
theorem d_prog_6_method_7_code_13 : decode prog_6_method_7_code 13 = .ok (.aload_n 0, 1) := by decide +kernel
theorem d_prog_6_method_7_code_14 : decode prog_6_method_7_code 14 = .ok (.getfield 13, 3) := by decide +kernel
theorem d_prog_6_method_7_code_17 : decode prog_6_method_7_code 17 = .ok (.invokestatic 67, 3) := by decide +kernel
theorem d_prog_6_method_7_code_20 : decode prog_6_method_7_code 20 = .ok (.goto 9, 3) := by decide +kernel
theorem d_prog_6_method_7_code_29 : decode prog_6_method_7_code 29 = .ok (.areturn, 1) := by decide +kernel
theorem ef_prog_6_method_7_code_AI (m : MethodId) (x0 : Addr) (x1 : Int32) : entryFrame m #[(.ref x0), (.int x1)] 2 = mkF m 0 #[.val (.ref x0), .val (.int x1)] [] := by first | (simp [entryFrame, mkF, argsToLocals, Value.category]; done) | rfl
set_option maxRecDepth 65536 in
set_option maxHeartbeats 40000000 in
theorem own_get (l : Launch) (Z : State) (a0 : Array Value) (hw : ∀ d ∈ tables_1, d.before a0 Z = true) (ws : List Jvm.Cond) (a1 r1 : Addr) (k1 : ClassId) (nn : Int32) (ii : Int32) (h0 : Heap) (n0 : Nat) (Z0 : n0 ≤ h0.size) (P : own_Pz Z h0 a1 r1 k1 nn) (hi : ¬ ii < 0 ∧ ii < nn) :
    MetFree l (⟨"com/example/tranchor/tranchor/Parts", "get", "(I)Lcom/example/tranchor/tranchor/Fraction;"⟩ : MethodName) (head1 (Jvm.Cond.code (⟨"com/example/tranchor/tranchor/Parts", "get", "(I)Lcom/example/tranchor/tranchor/Fraction;"⟩ : MethodName) prog_6_method_7_code 2 (some (.object "com/example/tranchor/tranchor/Fraction")) :: ws) ({ frames := 4, cells := 1, slots := 4, locals := 61 } : Room)) (fun a U => a = #[(.ref a1), (.int ii)] ∧ Z.Warmed39 U.vm ∧ U.heap = h0) (fun _ _ _ _ _ => True) (fun _ U o U' => ∃ v L, o = .returned v ∧ own_QF Z h0 n0 v U'.heap L ∧ FrameEnd U o U' L ({ frames := 4, cells := 1, slots := 4, locals := 61 } : Room).cells ({ frames := 4, cells := 1, slots := 4, locals := 61 } : Room).slots) := by
  refine MetFree.of_bodySF (plainFor_of_name pn_com_example_tranchor_tranchor_Parts) hisR ?_
  intro p e s m args below meth c s₁ Bd hml0 hP hK
  obtain ⟨rfl, hZ, hh⟩ := hP
  have hx := Bd.exec
  have hby := Bd.bytes
  have hml : c.maxLocals = 2 := hml0
  have hown : s.vm.findClass "com/example/tranchor/tranchor/Parts" = some m.cls := findClass_of_methodNamed Bd.named
  have hnm := (name_of_methodNamed Bd.named Bd.method).1
  have X0 : Stand p l e ({ frames := 4, cells := 1, slots := 4, locals := 61 } : Room) s m #[(.ref a1), (.int ii)] below meth c s₁ [] 0 0 := Stand.of_body Bd
  have e0 : s₁.heap = h0 := by rw [← hh, Bd.state]; rfl
  have N0 := Fr.nil n0
  have pre0 : ∀ t, Steps p.tables e below (s₁.setTop (mkF m 0 #[.val (.ref a1), .val (.int ii)] [])) t → Steps p.tables e below (s₁.setTop (entryFrame m #[(.ref a1), (.int ii)] 2)) t := fun t k => castTop (ef_prog_6_method_7_code_AI m a1 ii) k
  obtain ⟨E_114, Fnumerators_115, Fdenominator_116, V_117⟩ := id P
  obtain ⟨cq118, qa118, qb118⟩ := E_114.cell
  obtain ⟨_, _, ⟨T118, L118, k118, n118⟩, -, X118, ⟨Lc118, hQ118, l118, y118, z118⟩, st118⟩ := X0.privateBack hx (y := (⟨"com/example/tranchor/tranchor/Parts", "isLong", "()Z"⟩ : MethodName)) hown (mvT hZ (hw _ (List.mem_of_getElem? (i := 24) rfl))) (mvT hZ (hw _ (List.mem_of_getElem? (i := 25) rfl))) (own_selP (mvT hZ (hw _ (List.mem_of_getElem? (i := 22) rfl))) rfl (Cond.privateMethod_at (mvP hZ (hw _ (List.mem_of_getElem? (i := 26) rfl)) (args := #[]))) (mvT hZ (hw _ (List.mem_of_getElem? (i := 25) rfl))) (by decide)) (Cond.privateMethod_at (mvP hZ (hw _ (List.mem_of_getElem? (i := 26) rfl)) (args := #[]))) (mvT hZ (hw _ (List.mem_of_getElem? (i := 27) rfl))) (by decide) (backOf (W := 0) (own_isLongP l Z a0 hw [] a1 r1 k1 nn h0 n0 Z0 ⟨E_114, Fnumerators_115, Fdenominator_116, V_117⟩) hZ (hw _ (List.mem_of_getElem? (i := 27) rfl)) (hw _ (List.mem_of_getElem? (i := 2) rfl)) (by decide) (by decide)) (g := (mkF m 1 #[.val (.ref a1), .val (.int ii)] [(.ref a1)])) rfl (by rw [hml]; rfl) (Steps.refl _) (a := a1) (by rw [e0]; exact qa118) qb118 (argsL := []) (rest := []) (lenOf pd___Z rfl) rfl (by show 2 * 0 + _ ≤ _; exact Nat.le_of_eq rfl) (hb hby d_prog_6_method_7_code_1) (fun _ _ => ⟨rfl, e0, (by decide : 0 + 0 ≤ _), (by decide : 0 + 0 ≤ _)⟩)
  dsimp only [Pt.U, Pt.locs, Pt.cells, Pt.slots] at X118 l118 y118 z118 st118 hQ118
  subst l118 y118 z118
  obtain ⟨rfl, N118q, e118⟩ := hQ118
  have N118 := Fr.app N0 N118q
  obtain ⟨T119, X119, e119, st119⟩ := getF X118 hx hZ hown (host := "") (Or.inl (hw _ (List.mem_of_getElem? (i := 13) rfl))) Via.refl e118 Fnumerators_115 (g := (mkF m 8 #[.val (.ref a1), .val (.int ii)] [(.ref a1)])) rfl rfl (hb hby d_prog_6_method_7_code_8)
  obtain ⟨cl120, Ar120, Q120, H120⟩ := own_at0 V_117 (j := ii) hi
  obtain ⟨T121, X121, e121, st121⟩ := getF X119 hx hZ hown (host := "") (Or.inl (hw _ (List.mem_of_getElem? (i := 15) rfl))) Via.refl e119 Fdenominator_116 (g := (mkF m 14 #[.val (.ref a1), .val (.int ii)] [(.ref a1), (.long (0 : Int64))])) rfl rfl (hb hby d_prog_6_method_7_code_14)
  obtain ⟨_, _, ⟨T122, L122, k122, n122⟩, -, X122, ⟨Lc122, hQ122, l122, y122, z122⟩, st122⟩ := Jvm.LawKit.callS X121 hx (y := (⟨"com/example/tranchor/tranchor/Fraction", "of", "(JJ)Lcom/example/tranchor/tranchor/Fraction;"⟩ : MethodName)) hown (mvT hZ (hw _ (List.mem_of_getElem? (i := 33) rfl))) (mvT hZ (hw _ (List.mem_of_getElem? (i := 34) rfl))) (mvT hZ (hw _ (List.mem_of_getElem? (i := 35) rfl))) (mvT hZ (hw _ (List.mem_of_getElem? (i := 36) rfl))) (by decide) (backOf (W := 0) (own_of l Z a0 hw [] h0 n0 Z0) hZ (hw _ (List.mem_of_getElem? (i := 36) rfl)) (hw _ (List.mem_of_getElem? (i := 35) rfl)) (by decide) (by decide)) (g := (mkF m 17 #[.val (.ref a1), .val (.int ii)] [(.long (1 : Int64)), (.long (0 : Int64))])) rfl (by rw [hml]; rfl) (argsL := [(.long (0 : Int64)), (.long (1 : Int64))]) (rest := []) (lenOf pd__JJ_Lcom_example_tranchor_tranchor_Fraction_ rfl) rfl (by show 2 * 0 + _ ≤ _; exact Nat.le_of_eq rfl) (hb hby d_prog_6_method_7_code_17) (fun _ _ => ⟨rfl, e121, (by decide : 0 + 1 ≤ _), (by decide : 0 + 4 ≤ _)⟩)
  dsimp only [Pt.U, Pt.locs, Pt.cells, Pt.slots] at X122 l122 y122 z122 st122 hQ122
  subst l122 y122 z122
  obtain ⟨r122, rfl, N122q, EE122, qq122, B122q⟩ := hQ122
  have N122 := Fr.app N118 N122q
  have q122 : h0.size ≤ r122 := qq122
  have ne_a1_r122 : a1 ≠ r122 := Nat.ne_of_lt (Nat.lt_of_lt_of_le E_114.lt qq122)
  have ne_r1_r122 : r1 ≠ r122 := Nat.ne_of_lt (Nat.lt_of_lt_of_le V_117.lt qq122)
  have E_123 := E_114.ext EE122
  have Fnumerators_124 := Fnumerators_115.ext EE122
  have Fdenominator_125 := Fdenominator_116.ext EE122
  have V_126 := V_117.ext EE122
  have EX122 : Ext h0 T122.heap := EE122
  have Z122 : n0 ≤ T122.heap.size := Nat.le_trans Z0 EX122.1
  obtain ⟨E_127, Fnumerator_128, Fdenominator_129, FbigNumerator_130⟩ := id B122q
  obtain ⟨fs, hr, hrun, hended, hW, hsame⟩ := X122.leave (v := some (.ref r122)) (fun h => by rw [Bd.returns] at h; cases h)
  refine ⟨_, _, pre0 _ ?_, hrun, hended, _, _, rfl, ?_, ⟨_, rfl⟩, hW, hsame.mono (by decide) (by decide)⟩
  · show Steps p.tables e below (s₁.setTop (mkF m 0 #[.val (.ref a1), .val (.int ii)] [])) _
    refine XS.aloadN X0.here hx rfl (hb hby d_prog_6_method_7_code_0) rfl rfl ?_
    show Steps p.tables e below (s₁.setTop (mkF m 1 #[.val (.ref a1), .val (.int ii)] [(.ref a1)])) _
    refine st118.trans ?_
    show Steps p.tables e below (T118.setTop (mkF m 4 #[.val (.ref a1), .val (.int ii)] [(.int (1 : Int32))])) _
    refine XS.ifNo X118.here hx rfl (hb hby d_prog_6_method_7_code_4) rfl (by decide) ?_
    show Steps p.tables e below (T118.setTop (mkF m 7 #[.val (.ref a1), .val (.int ii)] [])) _
    refine XS.aloadN X118.here hx rfl (hb hby d_prog_6_method_7_code_7) rfl rfl ?_
    show Steps p.tables e below (T118.setTop (mkF m 8 #[.val (.ref a1), .val (.int ii)] [(.ref a1)])) _
    refine st119 _ ?_
    show Steps p.tables e below (T119.setTop (mkF m 11 #[.val (.ref a1), .val (.int ii)] [(.ref r1)])) _
    refine XS.iloadN X119.here hx rfl (hb hby d_prog_6_method_7_code_11) rfl ?_
    show Steps p.tables e below (T119.setTop (mkF m 12 #[.val (.ref a1), .val (.int ii)] [(.int ii), (.ref r1)])) _
    refine X119.laload hx (j := ii) (v := (.long (0 : Int64))) (by rw [e119]; exact Ar120.1) (State.isArrayOf_alike hZ.alike Ar120.2.1) Ar120.2.2 Q120 H120 (g := (mkF m 12 #[.val (.ref a1), .val (.int ii)] [(.int ii), (.ref r1)])) rfl rfl (hb hby d_prog_6_method_7_code_12) _ ?_
    show Steps p.tables e below (T119.setTop (mkF m 13 #[.val (.ref a1), .val (.int ii)] [(.long (0 : Int64))])) _
    refine XS.aloadN X119.here hx rfl (hb hby d_prog_6_method_7_code_13) rfl rfl ?_
    show Steps p.tables e below (T119.setTop (mkF m 14 #[.val (.ref a1), .val (.int ii)] [(.ref a1), (.long (0 : Int64))])) _
    refine st121 _ ?_
    show Steps p.tables e below (T121.setTop (mkF m 17 #[.val (.ref a1), .val (.int ii)] [(.long (1 : Int64)), (.long (0 : Int64))])) _
    refine st122 _ ?_
    show Steps p.tables e below (T122.setTop (mkF m 20 #[.val (.ref a1), .val (.int ii)] [(.ref r122)])) _
    refine XS.goto X122.here hx rfl (pc0 := 20) (pc' := 29) rfl (hb hby d_prog_6_method_7_code_20) (by decide) (by decide) ?_
    show Steps p.tables e below (T122.setTop (mkF m 29 #[.val (.ref a1), .val (.int ii)] [(.ref r122)])) _
    jvm_step X122.here [X122.here.top, hx, (hb hby d_prog_6_method_7_code_29), X122.method', Bd.returns, Value.isRef, FieldType.isReference]
    first | (intro acts; rw [hr _ acts rfl rfl rfl]) | rw [hr _ _ rfl rfl rfl]
    exact Steps.refl _
  · show own_QF Z h0 n0 _ T122.heap _
    exact ⟨r122, rfl, N122, EX122, q122, ⟨E_127, Fnumerator_128, Fdenominator_129, FbigNumerator_130⟩⟩
theorem own_succ {i n : Int32} (h0 : ¬ i < 0) (hn : i < n) : ¬ (i + (1 : Int32)) < 0 ∧ (i + (1 : Int32)).toInt = i.toInt + 1 := by
  have a := c_iadd i 1
  have b := rng32 i
  have c := rng32 n
  have d := rng32 (i + 1)
  have e1 : (1 : Int32).toInt = 1 := by decide
  have e0 : (0 : Int32).toInt = 0 := by decide
  rw [Int32.lt_iff_toInt_lt] at h0 hn
  rw [e0] at h0
  rw [e1] at a
  have f : (i + (1 : Int32)).toInt = i.toInt + 1 := by omega
  exact ⟨by rw [Int32.lt_iff_toInt_lt, e0, f]; omega, f⟩
theorem own_pos {n : Int32} (h : ¬ n < 0) (hz : ¬ n = 0) : (0 : Int32) < n := by
  have e0 : (0 : Int32).toInt = 0 := by decide
  rw [Int32.lt_iff_toInt_lt] at h ⊢
  have : n.toInt ≠ 0 := fun q => hz (Int32.toInt_inj.mp (q.trans e0.symm))
  omega
theorem own_ge1 {n : Int32} (h : (0 : Int32) < n) : 1 ≤ n.toInt := by
  have e0 : (0 : Int32).toInt = 0 := by decide
  rw [Int32.lt_iff_toInt_lt] at h
  omega
theorem d_prog_6_method_9_code_0 : decode prog_6_method_9_code 0 = .ok (.aload_n 0, 1) := by decide +kernel
theorem d_prog_6_method_9_code_1 : decode prog_6_method_9_code 1 = .ok (.invokevirtual 63, 3) := by decide +kernel
theorem d_prog_6_method_9_code_4 : decode prog_6_method_9_code 4 = .ok (.ifCond .eq 53, 3) := by decide +kernel
theorem d_prog_6_method_9_code_7 : decode prog_6_method_9_code 7 = .ok (.lconst 0, 1) := by decide +kernel
theorem d_prog_6_method_9_code_8 : decode prog_6_method_9_code 8 = .ok (.lstore_n 1, 1) := by decide +kernel
theorem d_prog_6_method_9_code_9 : decode prog_6_method_9_code 9 = .ok (.aload_n 0, 1) := by decide +kernel
theorem d_prog_6_method_9_code_10 : decode prog_6_method_9_code 10 = .ok (.getfield 7, 3) := by decide +kernel
theorem d_prog_6_method_9_code_13 : decode prog_6_method_9_code 13 = .ok (.astore_n 3, 1) := by decide +kernel
theorem d_prog_6_method_9_code_14 : decode prog_6_method_9_code 14 = .ok (.aload_n 3, 1) := by decide +kernel
theorem d_prog_6_method_9_code_15 : decode prog_6_method_9_code 15 = .ok (.arraylength, 1) := by decide +kernel
theorem d_prog_6_method_9_code_16 : decode prog_6_method_9_code 16 = .ok (.istore 4, 2) := by decide +kernel
theorem d_prog_6_method_9_code_18 : decode prog_6_method_9_code 18 = .ok (.iconst 0, 1) := by decide +kernel
theorem d_prog_6_method_9_code_19 : decode prog_6_method_9_code 19 = .ok (.istore 5, 2) := by decide +kernel
theorem d_prog_6_method_9_code_21 : decode prog_6_method_9_code 21 = .ok (.iload 5, 2) := by decide +kernel
theorem d_prog_6_method_9_code_23 : decode prog_6_method_9_code 23 = .ok (.iload 4, 2) := by decide +kernel
theorem d_prog_6_method_9_code_25 : decode prog_6_method_9_code 25 = .ok (.if_icmp .ge 22, 3) := by decide +kernel
theorem d_prog_6_method_9_code_28 : decode prog_6_method_9_code 28 = .ok (.aload_n 3, 1) := by decide +kernel
theorem d_prog_6_method_9_code_29 : decode prog_6_method_9_code 29 = .ok (.iload 5, 2) := by decide +kernel
theorem d_prog_6_method_9_code_31 : decode prog_6_method_9_code 31 = .ok (.laload, 1) := by decide +kernel
theorem d_prog_6_method_9_code_32 : decode prog_6_method_9_code 32 = .ok (.lstore 6, 2) := by decide +kernel
theorem d_prog_6_method_9_code_34 : decode prog_6_method_9_code 34 = .ok (.lload_n 1, 1) := by decide +kernel
theorem d_prog_6_method_9_code_35 : decode prog_6_method_9_code 35 = .ok (.lload 6, 2) := by decide +kernel
theorem d_prog_6_method_9_code_37 : decode prog_6_method_9_code 37 = .ok (.invokestatic 79, 3) := by decide +kernel
theorem d_prog_6_method_9_code_40 : decode prog_6_method_9_code 40 = .ok (.lstore_n 1, 1) := by decide +kernel
theorem d_prog_6_method_9_code_41 : decode prog_6_method_9_code 41 = .ok (.iinc 5 1, 3) := by decide +kernel
theorem d_prog_6_method_9_code_44 : decode prog_6_method_9_code 44 = .ok (.goto (-23), 3) := by decide +kernel
theorem d_prog_6_method_9_code_47 : decode prog_6_method_9_code 47 = .ok (.lload_n 1, 1) := by decide +kernel
theorem d_prog_6_method_9_code_48 : decode prog_6_method_9_code 48 = .ok (.aload_n 0, 1) := by decide +kernel
theorem d_prog_6_method_9_code_49 : decode prog_6_method_9_code 49 = .ok (.getfield 13, 3) := by decide +kernel
theorem d_prog_6_method_9_code_52 : decode prog_6_method_9_code 52 = .ok (.invokestatic 67, 3) := by decide +kernel
theorem d_prog_6_method_9_code_55 : decode prog_6_method_9_code 55 = .ok (.areturn, 1) := by decide +kernel
theorem ef_prog_6_method_9_code_A (m : MethodId) (x0 : Addr) : entryFrame m #[(.ref x0)] 8 = mkF m 0 #[.val (.ref x0), .unset, .unset, .unset, .unset, .unset, .unset, .unset] [] := by first | (simp [entryFrame, mkF, argsToLocals, Value.category]; done) | rfl
set_option maxRecDepth 65536 in
set_option maxHeartbeats 40000000 in
theorem own_total (l : Launch) (Z : State) (a0 : Array Value) (hw : ∀ d ∈ tables_1, d.before a0 Z = true) (ws : List Jvm.Cond) (a1 r1 : Addr) (k1 : ClassId) (nn : Int32) (h0 : Heap) (n0 : Nat) (Z0 : n0 ≤ h0.size) (P : own_Pz Z h0 a1 r1 k1 nn) (hnn : ¬ nn < 0) :
    MetFree l (⟨"com/example/tranchor/tranchor/Parts", "total", "()Lcom/example/tranchor/tranchor/Fraction;"⟩ : MethodName) (head1 (Jvm.Cond.codeWith (⟨"com/example/tranchor/tranchor/Parts", "total", "()Lcom/example/tranchor/tranchor/Fraction;"⟩ : MethodName) prog_6_method_9_code 8 (some (.object "com/example/tranchor/tranchor/Fraction")) [(7, 55, 56, 38)] :: ws) ({ frames := 4, cells := 1, slots := 4, locals := 61 } : Room)) (fun a U => a = #[(.ref a1)] ∧ Z.Warmed39 U.vm ∧ U.heap = h0) (fun _ _ _ _ _ => True) (fun _ U o U' => ∃ v L, o = .returned v ∧ own_QF Z h0 n0 v U'.heap L ∧ FrameEnd U o U' L ({ frames := 4, cells := 1, slots := 4, locals := 61 } : Room).cells ({ frames := 4, cells := 1, slots := 4, locals := 61 } : Room).slots) := by
  refine MetFree.of_bodySF (plainFor_of_name pn_com_example_tranchor_tranchor_Parts) hisWith ?_
  intro p e s m args below meth c s₁ Bd hml0 hP hK
  obtain ⟨rfl, hZ, hh⟩ := hP
  have hx := Bd.exec
  have hby := Bd.bytes
  have hml : c.maxLocals = 8 := hml0
  have hown : s.vm.findClass "com/example/tranchor/tranchor/Parts" = some m.cls := findClass_of_methodNamed Bd.named
  have hnm := (name_of_methodNamed Bd.named Bd.method).1
  have X0 : Stand p l e ({ frames := 4, cells := 1, slots := 4, locals := 61 } : Room) s m #[(.ref a1)] below meth c s₁ [] 0 0 := Stand.of_body Bd
  have e0 : s₁.heap = h0 := by rw [← hh, Bd.state]; rfl
  have N0 := Fr.nil n0
  have pre0 : ∀ t, Steps p.tables e below (s₁.setTop (mkF m 0 #[.val (.ref a1), .unset, .unset, .unset, .unset, .unset, .unset, .unset] [])) t → Steps p.tables e below (s₁.setTop (entryFrame m #[(.ref a1)] 8)) t := fun t k => castTop (ef_prog_6_method_9_code_A m a1) k
  obtain ⟨E_131, Fnumerators_132, Fdenominator_133, V_134⟩ := id P
  obtain ⟨cq135, qa135, qb135⟩ := E_131.cell
  obtain ⟨_, _, ⟨T135, L135, k135, n135⟩, -, X135, ⟨Lc135, hQ135, l135, y135, z135⟩, st135⟩ := X0.privateBack hx (y := (⟨"com/example/tranchor/tranchor/Parts", "isLong", "()Z"⟩ : MethodName)) hown (mvT hZ (hw _ (List.mem_of_getElem? (i := 24) rfl))) (mvT hZ (hw _ (List.mem_of_getElem? (i := 25) rfl))) (own_selP (mvT hZ (hw _ (List.mem_of_getElem? (i := 22) rfl))) rfl (Cond.privateMethod_at (mvP hZ (hw _ (List.mem_of_getElem? (i := 26) rfl)) (args := #[]))) (mvT hZ (hw _ (List.mem_of_getElem? (i := 25) rfl))) (by decide)) (Cond.privateMethod_at (mvP hZ (hw _ (List.mem_of_getElem? (i := 26) rfl)) (args := #[]))) (mvT hZ (hw _ (List.mem_of_getElem? (i := 27) rfl))) (by decide) (backOf (W := 0) (own_isLongP l Z a0 hw [] a1 r1 k1 nn h0 n0 Z0 ⟨E_131, Fnumerators_132, Fdenominator_133, V_134⟩) hZ (hw _ (List.mem_of_getElem? (i := 27) rfl)) (hw _ (List.mem_of_getElem? (i := 2) rfl)) (by decide) (by decide)) (g := (mkF m 1 #[.val (.ref a1), .unset, .unset, .unset, .unset, .unset, .unset, .unset] [(.ref a1)])) rfl (by rw [hml]; rfl) (Steps.refl _) (a := a1) (by rw [e0]; exact qa135) qb135 (argsL := []) (rest := []) (lenOf pd___Z rfl) rfl (by show 2 * 0 + _ ≤ _; exact Nat.le_of_eq rfl) (hb hby d_prog_6_method_9_code_1) (fun _ _ => ⟨rfl, e0, (by decide : 0 + 0 ≤ _), (by decide : 0 + 0 ≤ _)⟩)
  dsimp only [Pt.U, Pt.locs, Pt.cells, Pt.slots] at X135 l135 y135 z135 st135 hQ135
  subst l135 y135 z135
  obtain ⟨rfl, N135q, e135⟩ := hQ135
  have N135 := Fr.app N0 N135q
  obtain ⟨T136, X136, e136, st136⟩ := getF X135 hx hZ hown (host := "") (Or.inl (hw _ (List.mem_of_getElem? (i := 13) rfl))) Via.refl e135 Fnumerators_132 (g := (mkF m 10 #[.val (.ref a1), .val (.long (0 : Int64)), .second, .unset, .unset, .unset, .unset, .unset] [(.ref a1)])) rfl rfl (hb hby d_prog_6_method_9_code_10)
  obtain ⟨cl137, Ar137, -, Sz137, Nz137, -⟩ := id V_134
  have pre1 : ∀ t, Steps p.tables e below (T136.setTop (mkF m 21 #[.val (.ref a1), .val (.long (0 : Int64)), .second, .val (.ref r1), .val (.int nn), .val (.int (0 : Int32)), .unset, .unset] [])) t → Steps p.tables e below (s₁.setTop (mkF m 0 #[.val (.ref a1), .unset, .unset, .unset, .unset, .unset, .unset, .unset] [])) t := by
    intro t kk
    show Steps p.tables e below (s₁.setTop (mkF m 0 #[.val (.ref a1), .unset, .unset, .unset, .unset, .unset, .unset, .unset] [])) _
    refine XS.aloadN X0.here hx rfl (hb hby d_prog_6_method_9_code_0) rfl rfl ?_
    show Steps p.tables e below (s₁.setTop (mkF m 1 #[.val (.ref a1), .unset, .unset, .unset, .unset, .unset, .unset, .unset] [(.ref a1)])) _
    refine st135.trans ?_
    show Steps p.tables e below (T135.setTop (mkF m 4 #[.val (.ref a1), .unset, .unset, .unset, .unset, .unset, .unset, .unset] [(.int (1 : Int32))])) _
    refine XS.ifNo X135.here hx rfl (hb hby d_prog_6_method_9_code_4) rfl (by decide) ?_
    show Steps p.tables e below (T135.setTop (mkF m 7 #[.val (.ref a1), .unset, .unset, .unset, .unset, .unset, .unset, .unset] [])) _
    refine XT.lconstV X135.here hx rfl (0 : Int64) (hb hby d_prog_6_method_9_code_7) rfl ?_
    show Steps p.tables e below (T135.setTop (mkF m 8 #[.val (.ref a1), .unset, .unset, .unset, .unset, .unset, .unset, .unset] [(.long (0 : Int64))])) _
    refine XT.lstoreN X135.here hx rfl (hb hby d_prog_6_method_9_code_8) rfl (l' := #[.val (.ref a1), .val (.long (0 : Int64)), .second, .unset, .unset, .unset, .unset, .unset]) rfl ?_
    show Steps p.tables e below (T135.setTop (mkF m 9 #[.val (.ref a1), .val (.long (0 : Int64)), .second, .unset, .unset, .unset, .unset, .unset] [])) _
    refine XS.aloadN X135.here hx rfl (hb hby d_prog_6_method_9_code_9) rfl rfl ?_
    show Steps p.tables e below (T135.setTop (mkF m 10 #[.val (.ref a1), .val (.long (0 : Int64)), .second, .unset, .unset, .unset, .unset, .unset] [(.ref a1)])) _
    refine st136 _ ?_
    show Steps p.tables e below (T136.setTop (mkF m 13 #[.val (.ref a1), .val (.long (0 : Int64)), .second, .unset, .unset, .unset, .unset, .unset] [(.ref r1)])) _
    refine XS.astoreN X136.here hx rfl (hb hby d_prog_6_method_9_code_13) rfl rfl (l' := #[.val (.ref a1), .val (.long (0 : Int64)), .second, .val (.ref r1), .unset, .unset, .unset, .unset]) rfl ?_
    show Steps p.tables e below (T136.setTop (mkF m 14 #[.val (.ref a1), .val (.long (0 : Int64)), .second, .val (.ref r1), .unset, .unset, .unset, .unset] [])) _
    refine XS.aloadN X136.here hx rfl (hb hby d_prog_6_method_9_code_14) rfl rfl ?_
    show Steps p.tables e below (T136.setTop (mkF m 15 #[.val (.ref a1), .val (.long (0 : Int64)), .second, .val (.ref r1), .unset, .unset, .unset, .unset] [(.ref r1)])) _
    refine X136.arraylength hx (by rw [e136]; exact Ar137.1) (State.isArrayOf_alike hZ.alike Ar137.2.1) (g := (mkF m 15 #[.val (.ref a1), .val (.long (0 : Int64)), .second, .val (.ref r1), .unset, .unset, .unset, .unset] [(.ref r1)])) rfl rfl (hb hby d_prog_6_method_9_code_15) _ ?_
    rw [len_of Sz137 Nz137]
    show Steps p.tables e below (T136.setTop (mkF m 16 #[.val (.ref a1), .val (.long (0 : Int64)), .second, .val (.ref r1), .unset, .unset, .unset, .unset] [(.int nn)])) _
    refine XS.istore X136.here hx rfl (hb hby d_prog_6_method_9_code_16) rfl (l' := #[.val (.ref a1), .val (.long (0 : Int64)), .second, .val (.ref r1), .val (.int nn), .unset, .unset, .unset]) rfl ?_
    show Steps p.tables e below (T136.setTop (mkF m 18 #[.val (.ref a1), .val (.long (0 : Int64)), .second, .val (.ref r1), .val (.int nn), .unset, .unset, .unset] [])) _
    refine XT.iconstV X136.here hx rfl (0 : Int32) (hb hby d_prog_6_method_9_code_18) rfl ?_
    show Steps p.tables e below (T136.setTop (mkF m 19 #[.val (.ref a1), .val (.long (0 : Int64)), .second, .val (.ref r1), .val (.int nn), .unset, .unset, .unset] [(.int (0 : Int32))])) _
    refine XS.istore X136.here hx rfl (hb hby d_prog_6_method_9_code_19) rfl (l' := #[.val (.ref a1), .val (.long (0 : Int64)), .second, .val (.ref r1), .val (.int nn), .val (.int (0 : Int32)), .unset, .unset]) rfl ?_
    show Steps p.tables e below (T136.setTop (mkF m 21 #[.val (.ref a1), .val (.long (0 : Int64)), .second, .val (.ref r1), .val (.int nn), .val (.int (0 : Int32)), .unset, .unset] [])) _
    exact kk
  have turnA : ∀ (U : State) (locs : List Loc) (Y : Stand p l e ({ frames := 4, cells := 1, slots := 4, locals := 61 } : Room) s m #[(.ref a1)] below meth c U locs 0 0) (eU : U.heap = h0) (NU : Fr n0 locs) (i : Int32) (hi0 : ¬ i < 0) (hin : i < nn), ∃ (U2 : State) (locs2 : List Loc), Stand p l e ({ frames := 4, cells := 1, slots := 4, locals := 61 } : Room) s m #[(.ref a1)] below meth c U2 locs2 0 0 ∧ U2.heap = h0 ∧ Fr n0 locs2 ∧ ∀ t, Steps p.tables e below (U2.setTop (mkF m 21 #[.val (.ref a1), .val (.long (0 : Int64)), .second, .val (.ref r1), .val (.int nn), .val (.int (i + (1 : Int32))), .val (.long (0 : Int64)), .second] [])) t → Steps p.tables e below (U.setTop (mkF m 21 #[.val (.ref a1), .val (.long (0 : Int64)), .second, .val (.ref r1), .val (.int nn), .val (.int i), .unset, .unset] [])) t := by
    intro U locs Y eU NU i hi0 hin
    obtain ⟨cl138, Ar138, Q138, H138⟩ := own_at0 V_134 (j := i) ⟨hi0, hin⟩
    obtain ⟨_, _, ⟨T139, L139, k139, n139⟩, -, X139, ⟨Lc139, hQ139, l139, y139, z139⟩, st139⟩ := Jvm.LawKit.callS Y hx (y := (⟨"java/lang/Math", "addExact", "(JJ)J"⟩ : MethodName)) hown (mvT hZ (hw _ (List.mem_of_getElem? (i := 75) rfl))) (mvT hZ (hw _ (List.mem_of_getElem? (i := 76) rfl))) (mvT hZ (hw _ (List.mem_of_getElem? (i := 40) rfl))) (mvT hZ (hw _ (List.mem_of_getElem? (i := 77) rfl))) (by decide) (backOf (W := 0) (own_addx l Z a0 hw [] h0 n0 Z0) hZ (hw _ (List.mem_of_getElem? (i := 77) rfl)) (hw _ (List.mem_of_getElem? (i := 40) rfl)) (by decide) (by decide)) (g := (mkF m 37 #[.val (.ref a1), .val (.long (0 : Int64)), .second, .val (.ref r1), .val (.int nn), .val (.int i), .val (.long (0 : Int64)), .second] [(.long (0 : Int64)), (.long (0 : Int64))])) rfl (by rw [hml]; rfl) (argsL := [(.long (0 : Int64)), (.long (0 : Int64))]) (rest := []) (lenOf pd__JJ_J rfl) rfl (by show 2 * 0 + _ ≤ _; exact Nat.le_of_eq rfl) (hb hby d_prog_6_method_9_code_37) (fun _ _ => ⟨rfl, eU, (by decide : 0 + 0 ≤ _), (by decide : 0 + 0 ≤ _)⟩)
    dsimp only [Pt.U, Pt.locs, Pt.cells, Pt.slots] at X139 l139 y139 z139 st139 hQ139
    subst l139 y139 z139
    obtain ⟨rfl, N139q, e139⟩ := hQ139
    have N139 := Fr.app NU N139q
    refine ⟨T139, _, X139, e139, N139, ?_⟩
    intro t kk
    show Steps p.tables e below (U.setTop (mkF m 21 #[.val (.ref a1), .val (.long (0 : Int64)), .second, .val (.ref r1), .val (.int nn), .val (.int i), .unset, .unset] [])) _
    refine XS.iload Y.here hx rfl (hb hby d_prog_6_method_9_code_21) rfl ?_
    show Steps p.tables e below (U.setTop (mkF m 23 #[.val (.ref a1), .val (.long (0 : Int64)), .second, .val (.ref r1), .val (.int nn), .val (.int i), .unset, .unset] [(.int i)])) _
    refine XS.iload Y.here hx rfl (hb hby d_prog_6_method_9_code_23) rfl ?_
    show Steps p.tables e below (U.setTop (mkF m 25 #[.val (.ref a1), .val (.long (0 : Int64)), .second, .val (.ref r1), .val (.int nn), .val (.int i), .unset, .unset] [(.int nn), (.int i)])) _
    refine XS.icmpNo Y.here hx rfl (hb hby d_prog_6_method_9_code_25) rfl (XT.ii_ge_f hin) ?_
    show Steps p.tables e below (U.setTop (mkF m 28 #[.val (.ref a1), .val (.long (0 : Int64)), .second, .val (.ref r1), .val (.int nn), .val (.int i), .unset, .unset] [])) _
    refine XS.aloadN Y.here hx rfl (hb hby d_prog_6_method_9_code_28) rfl rfl ?_
    show Steps p.tables e below (U.setTop (mkF m 29 #[.val (.ref a1), .val (.long (0 : Int64)), .second, .val (.ref r1), .val (.int nn), .val (.int i), .unset, .unset] [(.ref r1)])) _
    refine XS.iload Y.here hx rfl (hb hby d_prog_6_method_9_code_29) rfl ?_
    show Steps p.tables e below (U.setTop (mkF m 31 #[.val (.ref a1), .val (.long (0 : Int64)), .second, .val (.ref r1), .val (.int nn), .val (.int i), .unset, .unset] [(.int i), (.ref r1)])) _
    refine Y.laload hx (j := i) (v := (.long (0 : Int64))) (by rw [eU]; exact Ar138.1) (State.isArrayOf_alike hZ.alike Ar138.2.1) Ar138.2.2 Q138 H138 (g := (mkF m 31 #[.val (.ref a1), .val (.long (0 : Int64)), .second, .val (.ref r1), .val (.int nn), .val (.int i), .unset, .unset] [(.int i), (.ref r1)])) rfl rfl (hb hby d_prog_6_method_9_code_31) _ ?_
    show Steps p.tables e below (U.setTop (mkF m 32 #[.val (.ref a1), .val (.long (0 : Int64)), .second, .val (.ref r1), .val (.int nn), .val (.int i), .unset, .unset] [(.long (0 : Int64))])) _
    refine XT.lstore Y.here hx rfl (hb hby d_prog_6_method_9_code_32) rfl (l' := #[.val (.ref a1), .val (.long (0 : Int64)), .second, .val (.ref r1), .val (.int nn), .val (.int i), .val (.long (0 : Int64)), .second]) rfl ?_
    show Steps p.tables e below (U.setTop (mkF m 34 #[.val (.ref a1), .val (.long (0 : Int64)), .second, .val (.ref r1), .val (.int nn), .val (.int i), .val (.long (0 : Int64)), .second] [])) _
    refine XT.lloadN Y.here hx rfl (hb hby d_prog_6_method_9_code_34) rfl ?_
    show Steps p.tables e below (U.setTop (mkF m 35 #[.val (.ref a1), .val (.long (0 : Int64)), .second, .val (.ref r1), .val (.int nn), .val (.int i), .val (.long (0 : Int64)), .second] [(.long (0 : Int64))])) _
    refine XT.lload Y.here hx rfl (hb hby d_prog_6_method_9_code_35) rfl ?_
    show Steps p.tables e below (U.setTop (mkF m 37 #[.val (.ref a1), .val (.long (0 : Int64)), .second, .val (.ref r1), .val (.int nn), .val (.int i), .val (.long (0 : Int64)), .second] [(.long (0 : Int64)), (.long (0 : Int64))])) _
    refine st139 _ ?_
    show Steps p.tables e below (T139.setTop (mkF m 40 #[.val (.ref a1), .val (.long (0 : Int64)), .second, .val (.ref r1), .val (.int nn), .val (.int i), .val (.long (0 : Int64)), .second] [(.long (0 : Int64))])) _
    refine XT.lstoreN X139.here hx rfl (hb hby d_prog_6_method_9_code_40) rfl (l' := #[.val (.ref a1), .val (.long (0 : Int64)), .second, .val (.ref r1), .val (.int nn), .val (.int i), .val (.long (0 : Int64)), .second]) rfl ?_
    show Steps p.tables e below (T139.setTop (mkF m 41 #[.val (.ref a1), .val (.long (0 : Int64)), .second, .val (.ref r1), .val (.int nn), .val (.int i), .val (.long (0 : Int64)), .second] [])) _
    refine XT.iincV X139.here hx rfl (1 : Int32) (hb hby d_prog_6_method_9_code_41) rfl rfl (l' := #[.val (.ref a1), .val (.long (0 : Int64)), .second, .val (.ref r1), .val (.int nn), .val (.int (i + (1 : Int32))), .val (.long (0 : Int64)), .second]) rfl ?_
    show Steps p.tables e below (T139.setTop (mkF m 44 #[.val (.ref a1), .val (.long (0 : Int64)), .second, .val (.ref r1), .val (.int nn), .val (.int (i + (1 : Int32))), .val (.long (0 : Int64)), .second] [])) _
    refine XS.goto X139.here hx rfl (pc0 := 44) (pc' := 21) rfl (hb hby d_prog_6_method_9_code_44) (by decide) (by decide) ?_
    show Steps p.tables e below (T139.setTop (mkF m 21 #[.val (.ref a1), .val (.long (0 : Int64)), .second, .val (.ref r1), .val (.int nn), .val (.int (i + (1 : Int32))), .val (.long (0 : Int64)), .second] [])) _
    exact kk
  have turnB : ∀ (U : State) (locs : List Loc) (Y : Stand p l e ({ frames := 4, cells := 1, slots := 4, locals := 61 } : Room) s m #[(.ref a1)] below meth c U locs 0 0) (eU : U.heap = h0) (NU : Fr n0 locs) (i : Int32) (hi0 : ¬ i < 0) (hin : i < nn), ∃ (U2 : State) (locs2 : List Loc), Stand p l e ({ frames := 4, cells := 1, slots := 4, locals := 61 } : Room) s m #[(.ref a1)] below meth c U2 locs2 0 0 ∧ U2.heap = h0 ∧ Fr n0 locs2 ∧ ∀ t, Steps p.tables e below (U2.setTop (mkF m 21 #[.val (.ref a1), .val (.long (0 : Int64)), .second, .val (.ref r1), .val (.int nn), .val (.int (i + (1 : Int32))), .val (.long (0 : Int64)), .second] [])) t → Steps p.tables e below (U.setTop (mkF m 21 #[.val (.ref a1), .val (.long (0 : Int64)), .second, .val (.ref r1), .val (.int nn), .val (.int i), .val (.long (0 : Int64)), .second] [])) t := by
    intro U locs Y eU NU i hi0 hin
    obtain ⟨cl140, Ar140, Q140, H140⟩ := own_at0 V_134 (j := i) ⟨hi0, hin⟩
    obtain ⟨_, _, ⟨T141, L141, k141, n141⟩, -, X141, ⟨Lc141, hQ141, l141, y141, z141⟩, st141⟩ := Jvm.LawKit.callS Y hx (y := (⟨"java/lang/Math", "addExact", "(JJ)J"⟩ : MethodName)) hown (mvT hZ (hw _ (List.mem_of_getElem? (i := 75) rfl))) (mvT hZ (hw _ (List.mem_of_getElem? (i := 76) rfl))) (mvT hZ (hw _ (List.mem_of_getElem? (i := 40) rfl))) (mvT hZ (hw _ (List.mem_of_getElem? (i := 77) rfl))) (by decide) (backOf (W := 0) (own_addx l Z a0 hw [] h0 n0 Z0) hZ (hw _ (List.mem_of_getElem? (i := 77) rfl)) (hw _ (List.mem_of_getElem? (i := 40) rfl)) (by decide) (by decide)) (g := (mkF m 37 #[.val (.ref a1), .val (.long (0 : Int64)), .second, .val (.ref r1), .val (.int nn), .val (.int i), .val (.long (0 : Int64)), .second] [(.long (0 : Int64)), (.long (0 : Int64))])) rfl (by rw [hml]; rfl) (argsL := [(.long (0 : Int64)), (.long (0 : Int64))]) (rest := []) (lenOf pd__JJ_J rfl) rfl (by show 2 * 0 + _ ≤ _; exact Nat.le_of_eq rfl) (hb hby d_prog_6_method_9_code_37) (fun _ _ => ⟨rfl, eU, (by decide : 0 + 0 ≤ _), (by decide : 0 + 0 ≤ _)⟩)
    dsimp only [Pt.U, Pt.locs, Pt.cells, Pt.slots] at X141 l141 y141 z141 st141 hQ141
    subst l141 y141 z141
    obtain ⟨rfl, N141q, e141⟩ := hQ141
    have N141 := Fr.app NU N141q
    refine ⟨T141, _, X141, e141, N141, ?_⟩
    intro t kk
    show Steps p.tables e below (U.setTop (mkF m 21 #[.val (.ref a1), .val (.long (0 : Int64)), .second, .val (.ref r1), .val (.int nn), .val (.int i), .val (.long (0 : Int64)), .second] [])) _
    refine XS.iload Y.here hx rfl (hb hby d_prog_6_method_9_code_21) rfl ?_
    show Steps p.tables e below (U.setTop (mkF m 23 #[.val (.ref a1), .val (.long (0 : Int64)), .second, .val (.ref r1), .val (.int nn), .val (.int i), .val (.long (0 : Int64)), .second] [(.int i)])) _
    refine XS.iload Y.here hx rfl (hb hby d_prog_6_method_9_code_23) rfl ?_
    show Steps p.tables e below (U.setTop (mkF m 25 #[.val (.ref a1), .val (.long (0 : Int64)), .second, .val (.ref r1), .val (.int nn), .val (.int i), .val (.long (0 : Int64)), .second] [(.int nn), (.int i)])) _
    refine XS.icmpNo Y.here hx rfl (hb hby d_prog_6_method_9_code_25) rfl (XT.ii_ge_f hin) ?_
    show Steps p.tables e below (U.setTop (mkF m 28 #[.val (.ref a1), .val (.long (0 : Int64)), .second, .val (.ref r1), .val (.int nn), .val (.int i), .val (.long (0 : Int64)), .second] [])) _
    refine XS.aloadN Y.here hx rfl (hb hby d_prog_6_method_9_code_28) rfl rfl ?_
    show Steps p.tables e below (U.setTop (mkF m 29 #[.val (.ref a1), .val (.long (0 : Int64)), .second, .val (.ref r1), .val (.int nn), .val (.int i), .val (.long (0 : Int64)), .second] [(.ref r1)])) _
    refine XS.iload Y.here hx rfl (hb hby d_prog_6_method_9_code_29) rfl ?_
    show Steps p.tables e below (U.setTop (mkF m 31 #[.val (.ref a1), .val (.long (0 : Int64)), .second, .val (.ref r1), .val (.int nn), .val (.int i), .val (.long (0 : Int64)), .second] [(.int i), (.ref r1)])) _
    refine Y.laload hx (j := i) (v := (.long (0 : Int64))) (by rw [eU]; exact Ar140.1) (State.isArrayOf_alike hZ.alike Ar140.2.1) Ar140.2.2 Q140 H140 (g := (mkF m 31 #[.val (.ref a1), .val (.long (0 : Int64)), .second, .val (.ref r1), .val (.int nn), .val (.int i), .val (.long (0 : Int64)), .second] [(.int i), (.ref r1)])) rfl rfl (hb hby d_prog_6_method_9_code_31) _ ?_
    show Steps p.tables e below (U.setTop (mkF m 32 #[.val (.ref a1), .val (.long (0 : Int64)), .second, .val (.ref r1), .val (.int nn), .val (.int i), .val (.long (0 : Int64)), .second] [(.long (0 : Int64))])) _
    refine XT.lstore Y.here hx rfl (hb hby d_prog_6_method_9_code_32) rfl (l' := #[.val (.ref a1), .val (.long (0 : Int64)), .second, .val (.ref r1), .val (.int nn), .val (.int i), .val (.long (0 : Int64)), .second]) rfl ?_
    show Steps p.tables e below (U.setTop (mkF m 34 #[.val (.ref a1), .val (.long (0 : Int64)), .second, .val (.ref r1), .val (.int nn), .val (.int i), .val (.long (0 : Int64)), .second] [])) _
    refine XT.lloadN Y.here hx rfl (hb hby d_prog_6_method_9_code_34) rfl ?_
    show Steps p.tables e below (U.setTop (mkF m 35 #[.val (.ref a1), .val (.long (0 : Int64)), .second, .val (.ref r1), .val (.int nn), .val (.int i), .val (.long (0 : Int64)), .second] [(.long (0 : Int64))])) _
    refine XT.lload Y.here hx rfl (hb hby d_prog_6_method_9_code_35) rfl ?_
    show Steps p.tables e below (U.setTop (mkF m 37 #[.val (.ref a1), .val (.long (0 : Int64)), .second, .val (.ref r1), .val (.int nn), .val (.int i), .val (.long (0 : Int64)), .second] [(.long (0 : Int64)), (.long (0 : Int64))])) _
    refine st141 _ ?_
    show Steps p.tables e below (T141.setTop (mkF m 40 #[.val (.ref a1), .val (.long (0 : Int64)), .second, .val (.ref r1), .val (.int nn), .val (.int i), .val (.long (0 : Int64)), .second] [(.long (0 : Int64))])) _
    refine XT.lstoreN X141.here hx rfl (hb hby d_prog_6_method_9_code_40) rfl (l' := #[.val (.ref a1), .val (.long (0 : Int64)), .second, .val (.ref r1), .val (.int nn), .val (.int i), .val (.long (0 : Int64)), .second]) rfl ?_
    show Steps p.tables e below (T141.setTop (mkF m 41 #[.val (.ref a1), .val (.long (0 : Int64)), .second, .val (.ref r1), .val (.int nn), .val (.int i), .val (.long (0 : Int64)), .second] [])) _
    refine XT.iincV X141.here hx rfl (1 : Int32) (hb hby d_prog_6_method_9_code_41) rfl rfl (l' := #[.val (.ref a1), .val (.long (0 : Int64)), .second, .val (.ref r1), .val (.int nn), .val (.int (i + (1 : Int32))), .val (.long (0 : Int64)), .second]) rfl ?_
    show Steps p.tables e below (T141.setTop (mkF m 44 #[.val (.ref a1), .val (.long (0 : Int64)), .second, .val (.ref r1), .val (.int nn), .val (.int (i + (1 : Int32))), .val (.long (0 : Int64)), .second] [])) _
    refine XS.goto X141.here hx rfl (pc0 := 44) (pc' := 21) rfl (hb hby d_prog_6_method_9_code_44) (by decide) (by decide) ?_
    show Steps p.tables e below (T141.setTop (mkF m 21 #[.val (.ref a1), .val (.long (0 : Int64)), .second, .val (.ref r1), .val (.int nn), .val (.int (i + (1 : Int32))), .val (.long (0 : Int64)), .second] [])) _
    exact kk
  have loop : ∀ (d : Nat) (U : State) (locs : List Loc) (Y : Stand p l e ({ frames := 4, cells := 1, slots := 4, locals := 61 } : Room) s m #[(.ref a1)] below meth c U locs 0 0) (eU : U.heap = h0) (NU : Fr n0 locs) (i : Int32) (hi0 : ¬ i < 0) (hd : i.toInt + d = nn.toInt), ∃ (U2 : State) (locs2 : List Loc), Stand p l e ({ frames := 4, cells := 1, slots := 4, locals := 61 } : Room) s m #[(.ref a1)] below meth c U2 locs2 0 0 ∧ U2.heap = h0 ∧ Fr n0 locs2 ∧ ∀ t, Steps p.tables e below (U2.setTop (mkF m 21 #[.val (.ref a1), .val (.long (0 : Int64)), .second, .val (.ref r1), .val (.int nn), .val (.int nn), .val (.long (0 : Int64)), .second] [])) t → Steps p.tables e below (U.setTop (mkF m 21 #[.val (.ref a1), .val (.long (0 : Int64)), .second, .val (.ref r1), .val (.int nn), .val (.int i), .val (.long (0 : Int64)), .second] [])) t := by
    intro d
    induction d with
    | zero =>
      intro U locs Y eU NU i hi0 hd
      obtain rfl : i = nn := Int32.toInt_inj.mp (by omega)
      exact ⟨U, locs, Y, eU, NU, fun _ kk => kk⟩
    | succ d ih =>
      intro U locs Y eU NU i hi0 hd
      have hin : i < nn := Int32.lt_iff_toInt_lt.mpr (by omega)
      have hs := own_succ hi0 hin
      obtain ⟨U2, l2, Y2, e2, N2, k2⟩ := turnB U locs Y eU NU i hi0 hin
      obtain ⟨U3, l3, Y3, e3, N3, k3⟩ := ih U2 l2 Y2 e2 N2 (i + (1 : Int32)) hs.1 (by rw [hs.2]; omega)
      exact ⟨U3, l3, Y3, e3, N3, fun t kk => k2 t (k3 t kk)⟩
  have thru : ∃ (U2 : State) (locs2 : List Loc) (l6 l7 : Slot), Stand p l e ({ frames := 4, cells := 1, slots := 4, locals := 61 } : Room) s m #[(.ref a1)] below meth c U2 locs2 0 0 ∧ U2.heap = h0 ∧ Fr n0 locs2 ∧ ∀ t, Steps p.tables e below (U2.setTop (mkF m 21 #[.val (.ref a1), .val (.long (0 : Int64)), .second, .val (.ref r1), .val (.int nn), .val (.int nn), l6, l7] [])) t → Steps p.tables e below (T136.setTop (mkF m 21 #[.val (.ref a1), .val (.long (0 : Int64)), .second, .val (.ref r1), .val (.int nn), .val (.int (0 : Int32)), .unset, .unset] [])) t := by
    by_cases hz : nn = 0
    · subst hz; exact ⟨T136, _, .unset, .unset, X136, e136, N135, fun _ kk => kk⟩
    · have hin := own_pos hnn hz
      obtain ⟨U2, l2, Y2, e2, N2, k2⟩ := turnA T136 _ X136 e136 N135 (0 : Int32) (by decide) hin
      have hs := own_succ (by decide) hin
      obtain ⟨U3, l3, Y3, e3, N3, k3⟩ := loop (nn.toInt - 1).toNat U2 l2 Y2 e2 N2 ((0 : Int32) + (1 : Int32)) hs.1 (by rw [hs.2]; have := own_ge1 hin; show (0 : Int) + 1 + _ = _; omega)
      exact ⟨U3, l3, _, _, Y3, e3, N3, fun t kk => k2 t (k3 t kk)⟩
  obtain ⟨U, locsU, l6, l7, Y, eU, NU, pre2⟩ := thru
  obtain ⟨T142, X142, e142, st142⟩ := getF Y hx hZ hown (host := "") (Or.inl (hw _ (List.mem_of_getElem? (i := 15) rfl))) Via.refl eU Fdenominator_133 (g := (mkF m 49 #[.val (.ref a1), .val (.long (0 : Int64)), .second, .val (.ref r1), .val (.int nn), .val (.int nn), l6, l7] [(.ref a1), (.long (0 : Int64))])) rfl rfl (hb hby d_prog_6_method_9_code_49)
  obtain ⟨_, _, ⟨T143, L143, k143, n143⟩, -, X143, ⟨Lc143, hQ143, l143, y143, z143⟩, st143⟩ := Jvm.LawKit.callS X142 hx (y := (⟨"com/example/tranchor/tranchor/Fraction", "of", "(JJ)Lcom/example/tranchor/tranchor/Fraction;"⟩ : MethodName)) hown (mvT hZ (hw _ (List.mem_of_getElem? (i := 33) rfl))) (mvT hZ (hw _ (List.mem_of_getElem? (i := 34) rfl))) (mvT hZ (hw _ (List.mem_of_getElem? (i := 35) rfl))) (mvT hZ (hw _ (List.mem_of_getElem? (i := 36) rfl))) (by decide) (backOf (W := 0) (own_of l Z a0 hw [] h0 n0 Z0) hZ (hw _ (List.mem_of_getElem? (i := 36) rfl)) (hw _ (List.mem_of_getElem? (i := 35) rfl)) (by decide) (by decide)) (g := (mkF m 52 #[.val (.ref a1), .val (.long (0 : Int64)), .second, .val (.ref r1), .val (.int nn), .val (.int nn), l6, l7] [(.long (1 : Int64)), (.long (0 : Int64))])) rfl (by rw [hml]; rfl) (argsL := [(.long (0 : Int64)), (.long (1 : Int64))]) (rest := []) (lenOf pd__JJ_Lcom_example_tranchor_tranchor_Fraction_ rfl) rfl (by show 2 * 0 + _ ≤ _; exact Nat.le_of_eq rfl) (hb hby d_prog_6_method_9_code_52) (fun _ _ => ⟨rfl, e142, (by decide : 0 + 1 ≤ _), (by decide : 0 + 4 ≤ _)⟩)
  dsimp only [Pt.U, Pt.locs, Pt.cells, Pt.slots] at X143 l143 y143 z143 st143 hQ143
  subst l143 y143 z143
  obtain ⟨r143, rfl, N143q, EE143, qq143, B143q⟩ := hQ143
  have N143 := Fr.app NU N143q
  have q143 : h0.size ≤ r143 := qq143
  have ne_a1_r143 : a1 ≠ r143 := Nat.ne_of_lt (Nat.lt_of_lt_of_le E_131.lt qq143)
  have ne_r1_r143 : r1 ≠ r143 := Nat.ne_of_lt (Nat.lt_of_lt_of_le V_134.lt qq143)
  have E_144 := E_131.ext EE143
  have Fnumerators_145 := Fnumerators_132.ext EE143
  have Fdenominator_146 := Fdenominator_133.ext EE143
  have V_147 := V_134.ext EE143
  have EX143 : Ext h0 T143.heap := EE143
  have Z143 : n0 ≤ T143.heap.size := Nat.le_trans Z0 EX143.1
  obtain ⟨E_148, Fnumerator_149, Fdenominator_150, FbigNumerator_151⟩ := id B143q
  obtain ⟨fs, hr, hrun, hended, hW, hsame⟩ := X143.leave (v := some (.ref r143)) (fun h => by rw [Bd.returns] at h; cases h)
  refine ⟨_, _, pre0 _ (pre1 _ (pre2 _ ?_)), hrun, hended, _, _, rfl, ?_, ⟨_, rfl⟩, hW, hsame.mono (by decide) (by decide)⟩
  · show Steps p.tables e below (U.setTop (mkF m 21 #[.val (.ref a1), .val (.long (0 : Int64)), .second, .val (.ref r1), .val (.int nn), .val (.int nn), l6, l7] [])) _
    refine XS.iload Y.here hx rfl (hb hby d_prog_6_method_9_code_21) rfl ?_
    show Steps p.tables e below (U.setTop (mkF m 23 #[.val (.ref a1), .val (.long (0 : Int64)), .second, .val (.ref r1), .val (.int nn), .val (.int nn), l6, l7] [(.int nn)])) _
    refine XS.iload Y.here hx rfl (hb hby d_prog_6_method_9_code_23) rfl ?_
    show Steps p.tables e below (U.setTop (mkF m 25 #[.val (.ref a1), .val (.long (0 : Int64)), .second, .val (.ref r1), .val (.int nn), .val (.int nn), l6, l7] [(.int nn), (.int nn)])) _
    refine XS.icmpYes Y.here hx rfl (pc0 := 25) (pc' := 47) rfl (hb hby d_prog_6_method_9_code_25) rfl (XT.ii_ge_t Int32.lt_irrefl) (by decide) (by decide) ?_
    show Steps p.tables e below (U.setTop (mkF m 47 #[.val (.ref a1), .val (.long (0 : Int64)), .second, .val (.ref r1), .val (.int nn), .val (.int nn), l6, l7] [])) _
    refine XT.lloadN Y.here hx rfl (hb hby d_prog_6_method_9_code_47) rfl ?_
    show Steps p.tables e below (U.setTop (mkF m 48 #[.val (.ref a1), .val (.long (0 : Int64)), .second, .val (.ref r1), .val (.int nn), .val (.int nn), l6, l7] [(.long (0 : Int64))])) _
    refine XS.aloadN Y.here hx rfl (hb hby d_prog_6_method_9_code_48) rfl rfl ?_
    show Steps p.tables e below (U.setTop (mkF m 49 #[.val (.ref a1), .val (.long (0 : Int64)), .second, .val (.ref r1), .val (.int nn), .val (.int nn), l6, l7] [(.ref a1), (.long (0 : Int64))])) _
    refine st142 _ ?_
    show Steps p.tables e below (T142.setTop (mkF m 52 #[.val (.ref a1), .val (.long (0 : Int64)), .second, .val (.ref r1), .val (.int nn), .val (.int nn), l6, l7] [(.long (1 : Int64)), (.long (0 : Int64))])) _
    refine st143 _ ?_
    show Steps p.tables e below (T143.setTop (mkF m 55 #[.val (.ref a1), .val (.long (0 : Int64)), .second, .val (.ref r1), .val (.int nn), .val (.int nn), l6, l7] [(.ref r143)])) _
    jvm_step X143.here [X143.here.top, hx, (hb hby d_prog_6_method_9_code_55), X143.method', Bd.returns, Value.isRef, FieldType.isReference]
    first | (intro acts; rw [hr _ acts rfl rfl rfl]) | rw [hr _ _ rfl rfl rfl]
    exact Steps.refl _
  · show own_QF Z h0 n0 _ T143.heap _
    exact ⟨r143, rfl, N143, EX143, q143, ⟨E_148, Fnumerator_149, Fdenominator_150, FbigNumerator_151⟩⟩
theorem pd__I_Lcom_example_tranchor_tranchor_Parts_ : parseMethodDescriptor "(I)Lcom/example/tranchor/tranchor/Parts;" = some ⟨[.int], (some (.object "com/example/tranchor/tranchor/Parts"))⟩ := by decide +kernel
theorem pd___I : parseMethodDescriptor "()I" = some ⟨[], (some .int)⟩ := by decide +kernel
theorem pd___Lcom_example_tranchor_tranchor_Fraction_ : parseMethodDescriptor "()Lcom/example/tranchor/tranchor/Fraction;" = some ⟨[], (some (.object "com/example/tranchor/tranchor/Fraction"))⟩ := by decide +kernel
theorem pd__Ljava_lang_Object__Z : parseMethodDescriptor "(Ljava/lang/Object;)Z" = some ⟨[(.object "java/lang/Object")], (some .boolean)⟩ := by decide +kernel
theorem pd__I_Z : parseMethodDescriptor "(I)Z" = some ⟨[.int], (some .boolean)⟩ := by decide +kernel
theorem pd__I_Lcom_example_tranchor_tranchor_Fraction_ : parseMethodDescriptor "(I)Lcom/example/tranchor/tranchor/Fraction;" = some ⟨[.int], (some (.object "com/example/tranchor/tranchor/Fraction"))⟩ := by decide +kernel
theorem ef_code_II (m : MethodId) (x0 : Int32) (x1 : Int32) : entryFrame m #[(.int x0), (.int x1)] maxLocals = mkF m 0 #[.val (.int x0), .val (.int x1), .unset, .unset, .unset] [] := by first | (simp [entryFrame, mkF, argsToLocals, Value.category, maxLocals]; done) | rfl
theorem pn_com_example_tranchor_tranchor_PartsZerosPinLaw : plainName "com/example/tranchor/tranchor/PartsZerosPinLaw" = true := by first | (simp [plainName, overriddenIn]; done) | decide +kernel
set_option maxRecDepth 65536 in
set_option maxHeartbeats 40000000 in
theorem own_law_z (l : Launch) (Z : State) (a0 : Array Value) (hw : ∀ d ∈ tables_1, d.before a0 Z = true) (ws : List Jvm.Cond) (p1 p2 : Int32) (w0 : Addr) (h0 : Heap) (n0 : Nat) (Z0 : n0 ≤ h0.size) (S0 : Sta Z h0 "com/example/tranchor/tranchor/Fraction" "ZERO" "Lcom/example/tranchor/tranchor/Fraction;" (.ref w0)) (P0 : own_Fz Z h0 w0) (hnn : ¬ (p1 &&& (15 : Int32)) < 0 ∧ (p1 &&& (15 : Int32)).toNatClampNeg ≤ 15) (hz : (p1 &&& (15 : Int32)) = 0) :
    MetFree l x (head1 (Jvm.Cond.code x code maxLocals ret :: ws) room_1) (fun a U => a = #[(.int p1), (.int p2)] ∧ Z.Warmed39 U.vm ∧ U.heap = h0) (fun _ _ _ _ _ => True) (fun _ U o U' => ∃ v L, o = .returned v ∧ own_Q0 n0 v U'.heap L ∧ FrameEnd U o U' L room_1.cells room_1.slots) := by
  refine MetFree.of_bodySF (plainFor_of_name pn_com_example_tranchor_tranchor_PartsZerosPinLaw) hisR ?_
  intro p e s m args below meth c s₁ Bd hml0 hP hK
  obtain ⟨rfl, hZ, hh⟩ := hP
  have hx := Bd.exec
  have hby := Bd.bytes
  have hml : c.maxLocals = 5 := hml0
  have hown : s.vm.findClass "com/example/tranchor/tranchor/PartsZerosPinLaw" = some m.cls := findClass_of_methodNamed Bd.named
  have hnm := (name_of_methodNamed Bd.named Bd.method).1
  have X0 : Stand p l e room_1 s m #[(.int p1), (.int p2)] below meth c s₁ [] 0 0 := Stand.of_body Bd
  have e0 : s₁.heap = h0 := by rw [← hh, Bd.state]; rfl
  have N0 := Fr.nil n0
  have pre0 : ∀ t, Steps p.tables e below (s₁.setTop (mkF m 0 #[.val (.int p1), .val (.int p2), .unset, .unset, .unset] [])) t → Steps p.tables e below (s₁.setTop (entryFrame m #[(.int p1), (.int p2)] maxLocals)) t := fun t k => castTop (ef_code_II m p1 p2) k
  obtain ⟨E_152, Fnumerator_153, Fdenominator_154, FbigNumerator_155⟩ := id P0
  obtain ⟨_, _, ⟨T156, L156, k156, n156⟩, -, X156, ⟨Lc156, hQ156, l156, y156, z156⟩, st156⟩ := Jvm.LawKit.callS X0 hx (y := (⟨"com/example/tranchor/tranchor/Parts", "zeros", "(I)Lcom/example/tranchor/tranchor/Parts;"⟩ : MethodName)) hown (mvT hZ (hw _ (List.mem_of_getElem? (i := 0) rfl))) (mvT hZ (hw _ (List.mem_of_getElem? (i := 1) rfl))) (mvT hZ (hw _ (List.mem_of_getElem? (i := 2) rfl))) (mvT hZ (hw _ (List.mem_of_getElem? (i := 3) rfl))) (by decide) (backOf (W := 0) (own_zeros l Z a0 hw [] (p1 &&& (15 : Int32)) h0 n0 Z0 hnn) hZ (hw _ (List.mem_of_getElem? (i := 3) rfl)) (hw _ (List.mem_of_getElem? (i := 2) rfl)) (by decide) (by decide)) (g := (mkF m 6 #[.val (.int p1), .val (.int p2), .val (.int (p1 &&& (15 : Int32))), .unset, .unset] [(.int (p1 &&& (15 : Int32)))])) rfl (by rw [hml]; rfl) (argsL := [(.int (p1 &&& (15 : Int32)))]) (rest := []) (lenOf pd__I_Lcom_example_tranchor_tranchor_Parts_ rfl) rfl (by show 2 * 0 + _ ≤ _; exact Nat.le_of_eq rfl) (hb hby at_6) (fun _ _ => ⟨rfl, e0, (by decide : 0 + 2 ≤ _), (by decide : 0 + 18 ≤ _)⟩)
  dsimp only [Pt.U, Pt.locs, Pt.cells, Pt.slots] at X156 l156 y156 z156 st156 hQ156
  subst l156 y156 z156
  obtain ⟨r156, s156, k156z, rfl, N156q, EE156, qq156, qr156, nr156, B156q⟩ := hQ156
  have N156 := Fr.app N0 N156q
  have E_157 := E_152.ext EE156
  have Fnumerator_158 := Fnumerator_153.ext EE156
  have Fdenominator_159 := Fdenominator_154.ext EE156
  have FbigNumerator_160 := FbigNumerator_155.ext EE156
  have EX156 : Ext h0 T156.heap := EE156
  have Z156 : n0 ≤ T156.heap.size := Nat.le_trans Z0 EX156.1
  obtain ⟨E_161, Fnumerators_162, Fdenominator_163, V_164⟩ := id B156q
  obtain ⟨cq165, kq165, q165a, q165b, q165c⟩ := isOf hZ rfl E_161
  obtain ⟨_, _, ⟨T165, L165, k165, n165⟩, -, X165, ⟨Lc165, hQ165, l165, y165, z165⟩, st165⟩ := X156.virtualBack hx (y := (⟨"com/example/tranchor/tranchor/Parts", "size", "()I"⟩ : MethodName)) (z := (⟨"com/example/tranchor/tranchor/Parts", "size", "()I"⟩ : MethodName)) hown (mvT hZ (hw _ (List.mem_of_getElem? (i := 19) rfl))) (mvT hZ (hw _ (List.mem_of_getElem? (i := 20) rfl))) (notFace_of_selects (args := #[]) (mvT hZ (hw _ (List.mem_of_getElem? (i := 22) rfl)))) (mvT hZ (hw _ (List.mem_of_getElem? (i := 22) rfl))) (mvT hZ (hw _ (List.mem_of_getElem? (i := 21) rfl))) (by decide) (backOf (W := 0) (own_size l Z a0 hw [] r156 s156 k156z (p1 &&& (15 : Int32)) T156.heap n0 Z156 ⟨E_161, Fnumerators_162, Fdenominator_163, V_164⟩) hZ (hw _ (List.mem_of_getElem? (i := 23) rfl)) (hw _ (List.mem_of_getElem? (i := 2) rfl)) (by decide) (by decide)) q165a q165c (g := (mkF m 11 #[.val (.int p1), .val (.int p2), .val (.int (p1 &&& (15 : Int32))), .val (.ref r156), .unset] [(.ref r156)])) rfl (by rw [hml]; rfl) (Steps.refl _) (argsL := []) (rest := []) (lenOf pd___I rfl) rfl (by show 2 * 0 + _ ≤ _; exact Nat.le_of_eq rfl) (hb hby at_11) (fun _ _ => ⟨rfl, rfl, (by decide : 2 + 0 ≤ _), (by decide : 18 + 0 ≤ _)⟩)
  dsimp only [Pt.U, Pt.locs, Pt.cells, Pt.slots] at X165 l165 y165 z165 st165 hQ165
  subst l165 y165 z165
  obtain ⟨rfl, N165q, e165⟩ := hQ165
  have N165 := Fr.app N156 N165q
  obtain ⟨cq166, kq166, q166a, q166b, q166c⟩ := isOf hZ e165 E_161
  obtain ⟨_, _, ⟨T166, L166, k166, n166⟩, -, X166, ⟨Lc166, hQ166, l166, y166, z166⟩, st166⟩ := X165.virtualBack hx (y := (⟨"com/example/tranchor/tranchor/Parts", "total", "()Lcom/example/tranchor/tranchor/Fraction;"⟩ : MethodName)) (z := (⟨"com/example/tranchor/tranchor/Parts", "total", "()Lcom/example/tranchor/tranchor/Fraction;"⟩ : MethodName)) hown (mvT hZ (hw _ (List.mem_of_getElem? (i := 28) rfl))) (mvT hZ (hw _ (List.mem_of_getElem? (i := 29) rfl))) (notFace_of_selects (args := #[]) (mvT hZ (hw _ (List.mem_of_getElem? (i := 31) rfl)))) (mvT hZ (hw _ (List.mem_of_getElem? (i := 31) rfl))) (mvT hZ (hw _ (List.mem_of_getElem? (i := 30) rfl))) (by decide) (backOfWith (W := 0) (own_total l Z a0 hw [] r156 s156 k156z (p1 &&& (15 : Int32)) T156.heap n0 Z156 ⟨E_161, Fnumerators_162, Fdenominator_163, V_164⟩ hnn.1) hZ (hw _ (List.mem_of_getElem? (i := 32) rfl)) (hw _ (List.mem_of_getElem? (i := 2) rfl)) (by decide) (by decide)) q166a q166c (g := (mkF m 21 #[.val (.int p1), .val (.int p2), .val (.int (p1 &&& (15 : Int32))), .val (.ref r156), .unset] [(.ref r156)])) rfl (by rw [hml]; rfl) (Steps.refl _) (argsL := []) (rest := []) (lenOf pd___Lcom_example_tranchor_tranchor_Fraction_ rfl) rfl (by show 2 * 0 + _ ≤ _; exact Nat.le_of_eq rfl) (hb hby at_21) (fun _ _ => ⟨rfl, e165, (by decide : 2 + 1 ≤ _), (by decide : 18 + 4 ≤ _)⟩)
  dsimp only [Pt.U, Pt.locs, Pt.cells, Pt.slots] at X166 l166 y166 z166 st166 hQ166
  subst l166 y166 z166
  obtain ⟨r166, rfl, N166q, EE166, qq166, B166q⟩ := hQ166
  have N166 := Fr.app N165 N166q
  have q166 : h0.size ≤ r166 := Nat.le_trans EX156.1 qq166
  have ne_w0_r166 : w0 ≠ r166 := Nat.ne_of_lt (Nat.lt_of_lt_of_le E_157.lt qq166)
  have ne_r156_r166 : r156 ≠ r166 := Nat.ne_of_lt (Nat.lt_of_lt_of_le E_161.lt qq166)
  have ne_s156_r166 : s156 ≠ r166 := Nat.ne_of_lt (Nat.lt_of_lt_of_le V_164.lt qq166)
  have E_167 := E_157.ext EE166
  have Fnumerator_168 := Fnumerator_158.ext EE166
  have Fdenominator_169 := Fdenominator_159.ext EE166
  have FbigNumerator_170 := FbigNumerator_160.ext EE166
  have E_171 := E_161.ext EE166
  have Fnumerators_172 := Fnumerators_162.ext EE166
  have Fdenominator_173 := Fdenominator_163.ext EE166
  have V_174 := V_164.ext EE166
  have EX166 : Ext h0 T166.heap := own_ext_trans EX156 EE166
  have Z166 : n0 ≤ T166.heap.size := Nat.le_trans Z0 EX166.1
  obtain ⟨E_175, Fnumerator_176, Fdenominator_177, FbigNumerator_178⟩ := id B166q
  obtain ⟨T179, X179, e179, st179⟩ := getS2 X166 hx hZ hown (host := "") (Or.inl (hw _ (List.mem_of_getElem? (i := 62) rfl))) Via.refl rfl (S0.ext EX166) (g := (mkF m 24 #[.val (.int p1), .val (.int p2), .val (.int (p1 &&& (15 : Int32))), .val (.ref r156), .unset] [(.ref r166)])) rfl (hb hby at_24)
  obtain ⟨cq180, kq180, q180a, q180b, q180c⟩ := isOf hZ e179 E_175
  obtain ⟨_, _, ⟨T180, L180, k180, n180⟩, -, X180, ⟨Lc180, hQ180, l180, y180, z180⟩, st180⟩ := X179.virtualBack hx (y := (⟨"com/example/tranchor/tranchor/Fraction", "equals", "(Ljava/lang/Object;)Z"⟩ : MethodName)) (z := (⟨"com/example/tranchor/tranchor/Fraction", "equals", "(Ljava/lang/Object;)Z"⟩ : MethodName)) hown (mvT hZ (hw _ (List.mem_of_getElem? (i := 64) rfl))) (mvT hZ (hw _ (List.mem_of_getElem? (i := 65) rfl))) (notFace_of_selects (args := #[]) (mvT hZ (hw _ (List.mem_of_getElem? (i := 67) rfl)))) (mvT hZ (hw _ (List.mem_of_getElem? (i := 67) rfl))) (mvT hZ (hw _ (List.mem_of_getElem? (i := 66) rfl))) (by decide) (backOf (W := 0) (own_equals l Z a0 hw [] r166 w0 T166.heap n0 Z166 ⟨E_175, Fnumerator_176, Fdenominator_177, FbigNumerator_178⟩ ⟨E_167, Fnumerator_168, Fdenominator_169, FbigNumerator_170⟩) hZ (hw _ (List.mem_of_getElem? (i := 68) rfl)) (hw _ (List.mem_of_getElem? (i := 35) rfl)) (by decide) (by decide)) q180a q180c (g := (mkF m 27 #[.val (.int p1), .val (.int p2), .val (.int (p1 &&& (15 : Int32))), .val (.ref r156), .unset] [(.ref w0), (.ref r166)])) rfl (by rw [hml]; rfl) (Steps.refl _) (argsL := [(.ref w0)]) (rest := []) (lenOf pd__Ljava_lang_Object__Z rfl) rfl (by show 2 * 0 + _ ≤ _; exact Nat.le_of_eq rfl) (hb hby at_27) (fun _ _ => ⟨rfl, e179, (by decide : 3 + 0 ≤ _), (by decide : 22 + 0 ≤ _)⟩)
  dsimp only [Pt.U, Pt.locs, Pt.cells, Pt.slots] at X180 l180 y180 z180 st180 hQ180
  subst l180 y180 z180
  obtain ⟨rfl, N180q, e180⟩ := hQ180
  have N180 := Fr.app N166 N180q
  obtain ⟨fs, hr, hrun, hended, hW, hsame⟩ := X180.leave (v := some (.int (1 : Int32))) (fun h => by rw [Bd.returns] at h; cases h)
  refine ⟨_, _, pre0 _ ?_, hrun, hended, _, _, rfl, ?_, ⟨_, rfl⟩, hW, hsame.mono (by decide) (by decide)⟩
  · show Steps p.tables e below (s₁.setTop (mkF m 0 #[.val (.int p1), .val (.int p2), .unset, .unset, .unset] [])) _
    refine XS.iloadN X0.here hx rfl (hb hby at_0) rfl ?_
    show Steps p.tables e below (s₁.setTop (mkF m 1 #[.val (.int p1), .val (.int p2), .unset, .unset, .unset] [(.int p1)])) _
    refine XT.bipushV X0.here hx rfl (15 : Int32) (hb hby at_1) (by decide) ?_
    show Steps p.tables e below (s₁.setTop (mkF m 3 #[.val (.int p1), .val (.int p2), .unset, .unset, .unset] [(.int (15 : Int32)), (.int p1)])) _
    refine XS.iand X0.here hx rfl (hb hby at_3) rfl ?_
    show Steps p.tables e below (s₁.setTop (mkF m 4 #[.val (.int p1), .val (.int p2), .unset, .unset, .unset] [(.int (p1 &&& (15 : Int32)))])) _
    refine XS.istoreN X0.here hx rfl (hb hby at_4) rfl (l' := #[.val (.int p1), .val (.int p2), .val (.int (p1 &&& (15 : Int32))), .unset, .unset]) rfl ?_
    show Steps p.tables e below (s₁.setTop (mkF m 5 #[.val (.int p1), .val (.int p2), .val (.int (p1 &&& (15 : Int32))), .unset, .unset] [])) _
    refine XS.iloadN X0.here hx rfl (hb hby at_5) rfl ?_
    show Steps p.tables e below (s₁.setTop (mkF m 6 #[.val (.int p1), .val (.int p2), .val (.int (p1 &&& (15 : Int32))), .unset, .unset] [(.int (p1 &&& (15 : Int32)))])) _
    refine st156 _ ?_
    show Steps p.tables e below (T156.setTop (mkF m 9 #[.val (.int p1), .val (.int p2), .val (.int (p1 &&& (15 : Int32))), .unset, .unset] [(.ref r156)])) _
    refine XS.astoreN X156.here hx rfl (hb hby at_9) rfl rfl (l' := #[.val (.int p1), .val (.int p2), .val (.int (p1 &&& (15 : Int32))), .val (.ref r156), .unset]) rfl ?_
    show Steps p.tables e below (T156.setTop (mkF m 10 #[.val (.int p1), .val (.int p2), .val (.int (p1 &&& (15 : Int32))), .val (.ref r156), .unset] [])) _
    refine XS.aloadN X156.here hx rfl (hb hby at_10) rfl rfl ?_
    show Steps p.tables e below (T156.setTop (mkF m 11 #[.val (.int p1), .val (.int p2), .val (.int (p1 &&& (15 : Int32))), .val (.ref r156), .unset] [(.ref r156)])) _
    refine st165.trans ?_
    show Steps p.tables e below (T165.setTop (mkF m 14 #[.val (.int p1), .val (.int p2), .val (.int (p1 &&& (15 : Int32))), .val (.ref r156), .unset] [(.int (p1 &&& (15 : Int32)))])) _
    refine XS.iloadN X165.here hx rfl (hb hby at_14) rfl ?_
    show Steps p.tables e below (T165.setTop (mkF m 15 #[.val (.int p1), .val (.int p2), .val (.int (p1 &&& (15 : Int32))), .val (.ref r156), .unset] [(.int (p1 &&& (15 : Int32))), (.int (p1 &&& (15 : Int32)))])) _
    refine XS.icmpYes X165.here hx rfl (pc0 := 15) (pc' := 20) rfl (hb hby at_15) rfl (XT.ii_eq_t rfl) (by decide) (by decide) ?_
    show Steps p.tables e below (T165.setTop (mkF m 20 #[.val (.int p1), .val (.int p2), .val (.int (p1 &&& (15 : Int32))), .val (.ref r156), .unset] [])) _
    refine XS.aloadN X165.here hx rfl (hb hby at_20) rfl rfl ?_
    show Steps p.tables e below (T165.setTop (mkF m 21 #[.val (.int p1), .val (.int p2), .val (.int (p1 &&& (15 : Int32))), .val (.ref r156), .unset] [(.ref r156)])) _
    refine st166.trans ?_
    show Steps p.tables e below (T166.setTop (mkF m 24 #[.val (.int p1), .val (.int p2), .val (.int (p1 &&& (15 : Int32))), .val (.ref r156), .unset] [(.ref r166)])) _
    refine st179 _ ?_
    show Steps p.tables e below (T179.setTop (mkF m 27 #[.val (.int p1), .val (.int p2), .val (.int (p1 &&& (15 : Int32))), .val (.ref r156), .unset] [(.ref w0), (.ref r166)])) _
    refine st180.trans ?_
    show Steps p.tables e below (T180.setTop (mkF m 30 #[.val (.int p1), .val (.int p2), .val (.int (p1 &&& (15 : Int32))), .val (.ref r156), .unset] [(.int (1 : Int32))])) _
    refine XS.ifYes X180.here hx rfl (pc0 := 30) (pc' := 35) rfl (hb hby at_30) rfl (by decide) (by decide) (by decide) ?_
    show Steps p.tables e below (T180.setTop (mkF m 35 #[.val (.int p1), .val (.int p2), .val (.int (p1 &&& (15 : Int32))), .val (.ref r156), .unset] [])) _
    refine XS.iloadN X180.here hx rfl (hb hby at_35) rfl ?_
    show Steps p.tables e below (T180.setTop (mkF m 36 #[.val (.int p1), .val (.int p2), .val (.int (p1 &&& (15 : Int32))), .val (.ref r156), .unset] [(.int (p1 &&& (15 : Int32)))])) _
    refine XS.ifNo X180.here hx rfl (hb hby at_36) rfl (XT.i0_ne_f hz) ?_
    show Steps p.tables e below (T180.setTop (mkF m 39 #[.val (.int p1), .val (.int p2), .val (.int (p1 &&& (15 : Int32))), .val (.ref r156), .unset] [])) _
    refine XT.iconstV X180.here hx rfl (1 : Int32) (hb hby at_39) rfl ?_
    show Steps p.tables e below (T180.setTop (mkF m 40 #[.val (.int p1), .val (.int p2), .val (.int (p1 &&& (15 : Int32))), .val (.ref r156), .unset] [(.int (1 : Int32))])) _
    exact retN X180 hx (t := .boolean) Bd.returns (by simp) (hb hby at_40) hr
  · show own_Q0 n0 _ T180.heap _
    exact ⟨rfl, N180⟩
set_option maxRecDepth 65536 in
set_option maxHeartbeats 40000000 in
theorem own_law_n (l : Launch) (Z : State) (a0 : Array Value) (hw : ∀ d ∈ tables_1, d.before a0 Z = true) (ws : List Jvm.Cond) (p1 p2 : Int32) (w0 : Addr) (h0 : Heap) (n0 : Nat) (Z0 : n0 ≤ h0.size) (S0 : Sta Z h0 "com/example/tranchor/tranchor/Fraction" "ZERO" "Lcom/example/tranchor/tranchor/Fraction;" (.ref w0)) (P0 : own_Fz Z h0 w0) (hnn : ¬ (p1 &&& (15 : Int32)) < 0 ∧ (p1 &&& (15 : Int32)).toNatClampNeg ≤ 15) (hz : ¬ (p1 &&& (15 : Int32)) = 0) (hii : ¬ ((p2 &&& (2147483647 : Int32)) % (p1 &&& (15 : Int32))) < 0 ∧ ((p2 &&& (2147483647 : Int32)) % (p1 &&& (15 : Int32))) < (p1 &&& (15 : Int32))) (hn1 : ¬ ((p1 &&& (15 : Int32)) - (1 : Int32)) < 0 ∧ ((p1 &&& (15 : Int32)) - (1 : Int32)) < (p1 &&& (15 : Int32))) (hn0 : ¬ (0 : Int32) < 0 ∧ (0 : Int32) < (p1 &&& (15 : Int32))) :
    MetFree l x (head1 (Jvm.Cond.code x code maxLocals ret :: ws) room_1) (fun a U => a = #[(.int p1), (.int p2)] ∧ Z.Warmed39 U.vm ∧ U.heap = h0) (fun _ _ _ _ _ => True) (fun _ U o U' => ∃ v L, o = .returned v ∧ own_Q0 n0 v U'.heap L ∧ FrameEnd U o U' L room_1.cells room_1.slots) := by
  refine MetFree.of_bodySF (plainFor_of_name pn_com_example_tranchor_tranchor_PartsZerosPinLaw) hisR ?_
  intro p e s m args below meth c s₁ Bd hml0 hP hK
  obtain ⟨rfl, hZ, hh⟩ := hP
  have hx := Bd.exec
  have hby := Bd.bytes
  have hml : c.maxLocals = 5 := hml0
  have hown : s.vm.findClass "com/example/tranchor/tranchor/PartsZerosPinLaw" = some m.cls := findClass_of_methodNamed Bd.named
  have hnm := (name_of_methodNamed Bd.named Bd.method).1
  have X0 : Stand p l e room_1 s m #[(.int p1), (.int p2)] below meth c s₁ [] 0 0 := Stand.of_body Bd
  have e0 : s₁.heap = h0 := by rw [← hh, Bd.state]; rfl
  have N0 := Fr.nil n0
  have pre0 : ∀ t, Steps p.tables e below (s₁.setTop (mkF m 0 #[.val (.int p1), .val (.int p2), .unset, .unset, .unset] [])) t → Steps p.tables e below (s₁.setTop (entryFrame m #[(.int p1), (.int p2)] maxLocals)) t := fun t k => castTop (ef_code_II m p1 p2) k
  obtain ⟨E_181, Fnumerator_182, Fdenominator_183, FbigNumerator_184⟩ := id P0
  obtain ⟨_, _, ⟨T185, L185, k185, n185⟩, -, X185, ⟨Lc185, hQ185, l185, y185, z185⟩, st185⟩ := Jvm.LawKit.callS X0 hx (y := (⟨"com/example/tranchor/tranchor/Parts", "zeros", "(I)Lcom/example/tranchor/tranchor/Parts;"⟩ : MethodName)) hown (mvT hZ (hw _ (List.mem_of_getElem? (i := 0) rfl))) (mvT hZ (hw _ (List.mem_of_getElem? (i := 1) rfl))) (mvT hZ (hw _ (List.mem_of_getElem? (i := 2) rfl))) (mvT hZ (hw _ (List.mem_of_getElem? (i := 3) rfl))) (by decide) (backOf (W := 0) (own_zeros l Z a0 hw [] (p1 &&& (15 : Int32)) h0 n0 Z0 hnn) hZ (hw _ (List.mem_of_getElem? (i := 3) rfl)) (hw _ (List.mem_of_getElem? (i := 2) rfl)) (by decide) (by decide)) (g := (mkF m 6 #[.val (.int p1), .val (.int p2), .val (.int (p1 &&& (15 : Int32))), .unset, .unset] [(.int (p1 &&& (15 : Int32)))])) rfl (by rw [hml]; rfl) (argsL := [(.int (p1 &&& (15 : Int32)))]) (rest := []) (lenOf pd__I_Lcom_example_tranchor_tranchor_Parts_ rfl) rfl (by show 2 * 0 + _ ≤ _; exact Nat.le_of_eq rfl) (hb hby at_6) (fun _ _ => ⟨rfl, e0, (by decide : 0 + 2 ≤ _), (by decide : 0 + 18 ≤ _)⟩)
  dsimp only [Pt.U, Pt.locs, Pt.cells, Pt.slots] at X185 l185 y185 z185 st185 hQ185
  subst l185 y185 z185
  obtain ⟨r185, s185, k185z, rfl, N185q, EE185, qq185, qr185, nr185, B185q⟩ := hQ185
  have N185 := Fr.app N0 N185q
  have E_186 := E_181.ext EE185
  have Fnumerator_187 := Fnumerator_182.ext EE185
  have Fdenominator_188 := Fdenominator_183.ext EE185
  have FbigNumerator_189 := FbigNumerator_184.ext EE185
  have EX185 : Ext h0 T185.heap := EE185
  have Z185 : n0 ≤ T185.heap.size := Nat.le_trans Z0 EX185.1
  obtain ⟨E_190, Fnumerators_191, Fdenominator_192, V_193⟩ := id B185q
  obtain ⟨cq194, kq194, q194a, q194b, q194c⟩ := isOf hZ rfl E_190
  obtain ⟨_, _, ⟨T194, L194, k194, n194⟩, -, X194, ⟨Lc194, hQ194, l194, y194, z194⟩, st194⟩ := X185.virtualBack hx (y := (⟨"com/example/tranchor/tranchor/Parts", "size", "()I"⟩ : MethodName)) (z := (⟨"com/example/tranchor/tranchor/Parts", "size", "()I"⟩ : MethodName)) hown (mvT hZ (hw _ (List.mem_of_getElem? (i := 19) rfl))) (mvT hZ (hw _ (List.mem_of_getElem? (i := 20) rfl))) (notFace_of_selects (args := #[]) (mvT hZ (hw _ (List.mem_of_getElem? (i := 22) rfl)))) (mvT hZ (hw _ (List.mem_of_getElem? (i := 22) rfl))) (mvT hZ (hw _ (List.mem_of_getElem? (i := 21) rfl))) (by decide) (backOf (W := 0) (own_size l Z a0 hw [] r185 s185 k185z (p1 &&& (15 : Int32)) T185.heap n0 Z185 ⟨E_190, Fnumerators_191, Fdenominator_192, V_193⟩) hZ (hw _ (List.mem_of_getElem? (i := 23) rfl)) (hw _ (List.mem_of_getElem? (i := 2) rfl)) (by decide) (by decide)) q194a q194c (g := (mkF m 11 #[.val (.int p1), .val (.int p2), .val (.int (p1 &&& (15 : Int32))), .val (.ref r185), .unset] [(.ref r185)])) rfl (by rw [hml]; rfl) (Steps.refl _) (argsL := []) (rest := []) (lenOf pd___I rfl) rfl (by show 2 * 0 + _ ≤ _; exact Nat.le_of_eq rfl) (hb hby at_11) (fun _ _ => ⟨rfl, rfl, (by decide : 2 + 0 ≤ _), (by decide : 18 + 0 ≤ _)⟩)
  dsimp only [Pt.U, Pt.locs, Pt.cells, Pt.slots] at X194 l194 y194 z194 st194 hQ194
  subst l194 y194 z194
  obtain ⟨rfl, N194q, e194⟩ := hQ194
  have N194 := Fr.app N185 N194q
  obtain ⟨cq195, kq195, q195a, q195b, q195c⟩ := isOf hZ e194 E_190
  obtain ⟨_, _, ⟨T195, L195, k195, n195⟩, -, X195, ⟨Lc195, hQ195, l195, y195, z195⟩, st195⟩ := X194.virtualBack hx (y := (⟨"com/example/tranchor/tranchor/Parts", "total", "()Lcom/example/tranchor/tranchor/Fraction;"⟩ : MethodName)) (z := (⟨"com/example/tranchor/tranchor/Parts", "total", "()Lcom/example/tranchor/tranchor/Fraction;"⟩ : MethodName)) hown (mvT hZ (hw _ (List.mem_of_getElem? (i := 28) rfl))) (mvT hZ (hw _ (List.mem_of_getElem? (i := 29) rfl))) (notFace_of_selects (args := #[]) (mvT hZ (hw _ (List.mem_of_getElem? (i := 31) rfl)))) (mvT hZ (hw _ (List.mem_of_getElem? (i := 31) rfl))) (mvT hZ (hw _ (List.mem_of_getElem? (i := 30) rfl))) (by decide) (backOfWith (W := 0) (own_total l Z a0 hw [] r185 s185 k185z (p1 &&& (15 : Int32)) T185.heap n0 Z185 ⟨E_190, Fnumerators_191, Fdenominator_192, V_193⟩ hnn.1) hZ (hw _ (List.mem_of_getElem? (i := 32) rfl)) (hw _ (List.mem_of_getElem? (i := 2) rfl)) (by decide) (by decide)) q195a q195c (g := (mkF m 21 #[.val (.int p1), .val (.int p2), .val (.int (p1 &&& (15 : Int32))), .val (.ref r185), .unset] [(.ref r185)])) rfl (by rw [hml]; rfl) (Steps.refl _) (argsL := []) (rest := []) (lenOf pd___Lcom_example_tranchor_tranchor_Fraction_ rfl) rfl (by show 2 * 0 + _ ≤ _; exact Nat.le_of_eq rfl) (hb hby at_21) (fun _ _ => ⟨rfl, e194, (by decide : 2 + 1 ≤ _), (by decide : 18 + 4 ≤ _)⟩)
  dsimp only [Pt.U, Pt.locs, Pt.cells, Pt.slots] at X195 l195 y195 z195 st195 hQ195
  subst l195 y195 z195
  obtain ⟨r195, rfl, N195q, EE195, qq195, B195q⟩ := hQ195
  have N195 := Fr.app N194 N195q
  have q195 : h0.size ≤ r195 := Nat.le_trans EX185.1 qq195
  have ne_w0_r195 : w0 ≠ r195 := Nat.ne_of_lt (Nat.lt_of_lt_of_le E_186.lt qq195)
  have ne_r185_r195 : r185 ≠ r195 := Nat.ne_of_lt (Nat.lt_of_lt_of_le E_190.lt qq195)
  have ne_s185_r195 : s185 ≠ r195 := Nat.ne_of_lt (Nat.lt_of_lt_of_le V_193.lt qq195)
  have E_196 := E_186.ext EE195
  have Fnumerator_197 := Fnumerator_187.ext EE195
  have Fdenominator_198 := Fdenominator_188.ext EE195
  have FbigNumerator_199 := FbigNumerator_189.ext EE195
  have E_200 := E_190.ext EE195
  have Fnumerators_201 := Fnumerators_191.ext EE195
  have Fdenominator_202 := Fdenominator_192.ext EE195
  have V_203 := V_193.ext EE195
  have EX195 : Ext h0 T195.heap := own_ext_trans EX185 EE195
  have Z195 : n0 ≤ T195.heap.size := Nat.le_trans Z0 EX195.1
  obtain ⟨E_204, Fnumerator_205, Fdenominator_206, FbigNumerator_207⟩ := id B195q
  obtain ⟨T208, X208, e208, st208⟩ := getS2 X195 hx hZ hown (host := "") (Or.inl (hw _ (List.mem_of_getElem? (i := 62) rfl))) Via.refl rfl (S0.ext EX195) (g := (mkF m 24 #[.val (.int p1), .val (.int p2), .val (.int (p1 &&& (15 : Int32))), .val (.ref r185), .unset] [(.ref r195)])) rfl (hb hby at_24)
  obtain ⟨cq209, kq209, q209a, q209b, q209c⟩ := isOf hZ e208 E_204
  obtain ⟨_, _, ⟨T209, L209, k209, n209⟩, -, X209, ⟨Lc209, hQ209, l209, y209, z209⟩, st209⟩ := X208.virtualBack hx (y := (⟨"com/example/tranchor/tranchor/Fraction", "equals", "(Ljava/lang/Object;)Z"⟩ : MethodName)) (z := (⟨"com/example/tranchor/tranchor/Fraction", "equals", "(Ljava/lang/Object;)Z"⟩ : MethodName)) hown (mvT hZ (hw _ (List.mem_of_getElem? (i := 64) rfl))) (mvT hZ (hw _ (List.mem_of_getElem? (i := 65) rfl))) (notFace_of_selects (args := #[]) (mvT hZ (hw _ (List.mem_of_getElem? (i := 67) rfl)))) (mvT hZ (hw _ (List.mem_of_getElem? (i := 67) rfl))) (mvT hZ (hw _ (List.mem_of_getElem? (i := 66) rfl))) (by decide) (backOf (W := 0) (own_equals l Z a0 hw [] r195 w0 T195.heap n0 Z195 ⟨E_204, Fnumerator_205, Fdenominator_206, FbigNumerator_207⟩ ⟨E_196, Fnumerator_197, Fdenominator_198, FbigNumerator_199⟩) hZ (hw _ (List.mem_of_getElem? (i := 68) rfl)) (hw _ (List.mem_of_getElem? (i := 35) rfl)) (by decide) (by decide)) q209a q209c (g := (mkF m 27 #[.val (.int p1), .val (.int p2), .val (.int (p1 &&& (15 : Int32))), .val (.ref r185), .unset] [(.ref w0), (.ref r195)])) rfl (by rw [hml]; rfl) (Steps.refl _) (argsL := [(.ref w0)]) (rest := []) (lenOf pd__Ljava_lang_Object__Z rfl) rfl (by show 2 * 0 + _ ≤ _; exact Nat.le_of_eq rfl) (hb hby at_27) (fun _ _ => ⟨rfl, e208, (by decide : 3 + 0 ≤ _), (by decide : 22 + 0 ≤ _)⟩)
  dsimp only [Pt.U, Pt.locs, Pt.cells, Pt.slots] at X209 l209 y209 z209 st209 hQ209
  subst l209 y209 z209
  obtain ⟨rfl, N209q, e209⟩ := hQ209
  have N209 := Fr.app N195 N209q
  obtain ⟨cq210, kq210, q210a, q210b, q210c⟩ := isOf hZ e209 E_200
  obtain ⟨_, _, ⟨T210, L210, k210, n210⟩, -, X210, ⟨Lc210, hQ210, l210, y210, z210⟩, st210⟩ := X209.virtualBack hx (y := (⟨"com/example/tranchor/tranchor/Parts", "isZero", "(I)Z"⟩ : MethodName)) (z := (⟨"com/example/tranchor/tranchor/Parts", "isZero", "(I)Z"⟩ : MethodName)) hown (mvT hZ (hw _ (List.mem_of_getElem? (i := 79) rfl))) (mvT hZ (hw _ (List.mem_of_getElem? (i := 80) rfl))) (notFace_of_selects (args := #[]) (mvT hZ (hw _ (List.mem_of_getElem? (i := 82) rfl)))) (mvT hZ (hw _ (List.mem_of_getElem? (i := 82) rfl))) (mvT hZ (hw _ (List.mem_of_getElem? (i := 81) rfl))) (by decide) (backOf (W := 0) (own_isZero l Z a0 hw [] r185 s185 k185z (p1 &&& (15 : Int32)) ((p2 &&& (2147483647 : Int32)) % (p1 &&& (15 : Int32))) T195.heap n0 Z195 ⟨E_200, Fnumerators_201, Fdenominator_202, V_203⟩ hii) hZ (hw _ (List.mem_of_getElem? (i := 83) rfl)) (hw _ (List.mem_of_getElem? (i := 2) rfl)) (by decide) (by decide)) q210a q210c (g := (mkF m 52 #[.val (.int p1), .val (.int p2), .val (.int (p1 &&& (15 : Int32))), .val (.ref r185), .val (.int ((p2 &&& (2147483647 : Int32)) % (p1 &&& (15 : Int32))))] [(.int ((p2 &&& (2147483647 : Int32)) % (p1 &&& (15 : Int32)))), (.ref r185)])) rfl (by rw [hml]; rfl) (Steps.refl _) (argsL := [(.int ((p2 &&& (2147483647 : Int32)) % (p1 &&& (15 : Int32))))]) (rest := []) (lenOf pd__I_Z rfl) rfl (by show 2 * 0 + _ ≤ _; exact Nat.le_of_eq rfl) (hb hby at_52) (fun _ _ => ⟨rfl, e209, (by decide : 3 + 0 ≤ _), (by decide : 22 + 0 ≤ _)⟩)
  dsimp only [Pt.U, Pt.locs, Pt.cells, Pt.slots] at X210 l210 y210 z210 st210 hQ210
  subst l210 y210 z210
  obtain ⟨rfl, N210q, e210⟩ := hQ210
  have N210 := Fr.app N209 N210q
  obtain ⟨cq211, kq211, q211a, q211b, q211c⟩ := isOf hZ e210 E_200
  obtain ⟨_, _, ⟨T211, L211, k211, n211⟩, -, X211, ⟨Lc211, hQ211, l211, y211, z211⟩, st211⟩ := X210.virtualBack hx (y := (⟨"com/example/tranchor/tranchor/Parts", "get", "(I)Lcom/example/tranchor/tranchor/Fraction;"⟩ : MethodName)) (z := (⟨"com/example/tranchor/tranchor/Parts", "get", "(I)Lcom/example/tranchor/tranchor/Fraction;"⟩ : MethodName)) hown (mvT hZ (hw _ (List.mem_of_getElem? (i := 84) rfl))) (mvT hZ (hw _ (List.mem_of_getElem? (i := 85) rfl))) (notFace_of_selects (args := #[]) (mvT hZ (hw _ (List.mem_of_getElem? (i := 87) rfl)))) (mvT hZ (hw _ (List.mem_of_getElem? (i := 87) rfl))) (mvT hZ (hw _ (List.mem_of_getElem? (i := 86) rfl))) (by decide) (backOf (W := 0) (own_get l Z a0 hw [] r185 s185 k185z (p1 &&& (15 : Int32)) ((p2 &&& (2147483647 : Int32)) % (p1 &&& (15 : Int32))) T195.heap n0 Z195 ⟨E_200, Fnumerators_201, Fdenominator_202, V_203⟩ hii) hZ (hw _ (List.mem_of_getElem? (i := 88) rfl)) (hw _ (List.mem_of_getElem? (i := 2) rfl)) (by decide) (by decide)) q211a q211c (g := (mkF m 61 #[.val (.int p1), .val (.int p2), .val (.int (p1 &&& (15 : Int32))), .val (.ref r185), .val (.int ((p2 &&& (2147483647 : Int32)) % (p1 &&& (15 : Int32))))] [(.int ((p2 &&& (2147483647 : Int32)) % (p1 &&& (15 : Int32)))), (.ref r185)])) rfl (by rw [hml]; rfl) (Steps.refl _) (argsL := [(.int ((p2 &&& (2147483647 : Int32)) % (p1 &&& (15 : Int32))))]) (rest := []) (lenOf pd__I_Lcom_example_tranchor_tranchor_Fraction_ rfl) rfl (by show 2 * 0 + _ ≤ _; exact Nat.le_of_eq rfl) (hb hby at_61) (fun _ _ => ⟨rfl, e210, (by decide : 3 + 1 ≤ _), (by decide : 22 + 4 ≤ _)⟩)
  dsimp only [Pt.U, Pt.locs, Pt.cells, Pt.slots] at X211 l211 y211 z211 st211 hQ211
  subst l211 y211 z211
  obtain ⟨r211, rfl, N211q, EE211, qq211, B211q⟩ := hQ211
  have N211 := Fr.app N210 N211q
  have q211 : h0.size ≤ r211 := Nat.le_trans EX195.1 qq211
  have ne_w0_r211 : w0 ≠ r211 := Nat.ne_of_lt (Nat.lt_of_lt_of_le E_196.lt qq211)
  have ne_r185_r211 : r185 ≠ r211 := Nat.ne_of_lt (Nat.lt_of_lt_of_le E_200.lt qq211)
  have ne_s185_r211 : s185 ≠ r211 := Nat.ne_of_lt (Nat.lt_of_lt_of_le V_203.lt qq211)
  have ne_r195_r211 : r195 ≠ r211 := Nat.ne_of_lt (Nat.lt_of_lt_of_le E_204.lt qq211)
  have E_212 := E_196.ext EE211
  have Fnumerator_213 := Fnumerator_197.ext EE211
  have Fdenominator_214 := Fdenominator_198.ext EE211
  have FbigNumerator_215 := FbigNumerator_199.ext EE211
  have E_216 := E_200.ext EE211
  have Fnumerators_217 := Fnumerators_201.ext EE211
  have Fdenominator_218 := Fdenominator_202.ext EE211
  have V_219 := V_203.ext EE211
  have E_220 := E_204.ext EE211
  have Fnumerator_221 := Fnumerator_205.ext EE211
  have Fdenominator_222 := Fdenominator_206.ext EE211
  have FbigNumerator_223 := FbigNumerator_207.ext EE211
  have EX211 : Ext h0 T211.heap := own_ext_trans EX195 EE211
  have Z211 : n0 ≤ T211.heap.size := Nat.le_trans Z0 EX211.1
  obtain ⟨E_224, Fnumerator_225, Fdenominator_226, FbigNumerator_227⟩ := id B211q
  obtain ⟨T228, X228, e228, st228⟩ := getS2 X211 hx hZ hown (host := "") (Or.inl (hw _ (List.mem_of_getElem? (i := 62) rfl))) Via.refl rfl (S0.ext EX211) (g := (mkF m 64 #[.val (.int p1), .val (.int p2), .val (.int (p1 &&& (15 : Int32))), .val (.ref r185), .val (.int ((p2 &&& (2147483647 : Int32)) % (p1 &&& (15 : Int32))))] [(.ref r211)])) rfl (hb hby at_64)
  obtain ⟨cq229, kq229, q229a, q229b, q229c⟩ := isOf hZ e228 E_224
  obtain ⟨_, _, ⟨T229, L229, k229, n229⟩, -, X229, ⟨Lc229, hQ229, l229, y229, z229⟩, st229⟩ := X228.virtualBack hx (y := (⟨"com/example/tranchor/tranchor/Fraction", "equals", "(Ljava/lang/Object;)Z"⟩ : MethodName)) (z := (⟨"com/example/tranchor/tranchor/Fraction", "equals", "(Ljava/lang/Object;)Z"⟩ : MethodName)) hown (mvT hZ (hw _ (List.mem_of_getElem? (i := 64) rfl))) (mvT hZ (hw _ (List.mem_of_getElem? (i := 65) rfl))) (notFace_of_selects (args := #[]) (mvT hZ (hw _ (List.mem_of_getElem? (i := 67) rfl)))) (mvT hZ (hw _ (List.mem_of_getElem? (i := 67) rfl))) (mvT hZ (hw _ (List.mem_of_getElem? (i := 66) rfl))) (by decide) (backOf (W := 0) (own_equals l Z a0 hw [] r211 w0 T211.heap n0 Z211 ⟨E_224, Fnumerator_225, Fdenominator_226, FbigNumerator_227⟩ ⟨E_212, Fnumerator_213, Fdenominator_214, FbigNumerator_215⟩) hZ (hw _ (List.mem_of_getElem? (i := 68) rfl)) (hw _ (List.mem_of_getElem? (i := 35) rfl)) (by decide) (by decide)) q229a q229c (g := (mkF m 67 #[.val (.int p1), .val (.int p2), .val (.int (p1 &&& (15 : Int32))), .val (.ref r185), .val (.int ((p2 &&& (2147483647 : Int32)) % (p1 &&& (15 : Int32))))] [(.ref w0), (.ref r211)])) rfl (by rw [hml]; rfl) (Steps.refl _) (argsL := [(.ref w0)]) (rest := []) (lenOf pd__Ljava_lang_Object__Z rfl) rfl (by show 2 * 0 + _ ≤ _; exact Nat.le_of_eq rfl) (hb hby at_67) (fun _ _ => ⟨rfl, e228, (by decide : 4 + 0 ≤ _), (by decide : 26 + 0 ≤ _)⟩)
  dsimp only [Pt.U, Pt.locs, Pt.cells, Pt.slots] at X229 l229 y229 z229 st229 hQ229
  subst l229 y229 z229
  obtain ⟨rfl, N229q, e229⟩ := hQ229
  have N229 := Fr.app N211 N229q
  obtain ⟨cq230, kq230, q230a, q230b, q230c⟩ := isOf hZ e229 E_216
  obtain ⟨_, _, ⟨T230, L230, k230, n230⟩, -, X230, ⟨Lc230, hQ230, l230, y230, z230⟩, st230⟩ := X229.virtualBack hx (y := (⟨"com/example/tranchor/tranchor/Parts", "isZero", "(I)Z"⟩ : MethodName)) (z := (⟨"com/example/tranchor/tranchor/Parts", "isZero", "(I)Z"⟩ : MethodName)) hown (mvT hZ (hw _ (List.mem_of_getElem? (i := 79) rfl))) (mvT hZ (hw _ (List.mem_of_getElem? (i := 80) rfl))) (notFace_of_selects (args := #[]) (mvT hZ (hw _ (List.mem_of_getElem? (i := 82) rfl)))) (mvT hZ (hw _ (List.mem_of_getElem? (i := 82) rfl))) (mvT hZ (hw _ (List.mem_of_getElem? (i := 81) rfl))) (by decide) (backOf (W := 0) (own_isZero l Z a0 hw [] r185 s185 k185z (p1 &&& (15 : Int32)) ((p1 &&& (15 : Int32)) - (1 : Int32)) T211.heap n0 Z211 ⟨E_216, Fnumerators_217, Fdenominator_218, V_219⟩ hn1) hZ (hw _ (List.mem_of_getElem? (i := 83) rfl)) (hw _ (List.mem_of_getElem? (i := 2) rfl)) (by decide) (by decide)) q230a q230c (g := (mkF m 77 #[.val (.int p1), .val (.int p2), .val (.int (p1 &&& (15 : Int32))), .val (.ref r185), .val (.int ((p2 &&& (2147483647 : Int32)) % (p1 &&& (15 : Int32))))] [(.int ((p1 &&& (15 : Int32)) - (1 : Int32))), (.ref r185)])) rfl (by rw [hml]; rfl) (Steps.refl _) (argsL := [(.int ((p1 &&& (15 : Int32)) - (1 : Int32)))]) (rest := []) (lenOf pd__I_Z rfl) rfl (by show 2 * 0 + _ ≤ _; exact Nat.le_of_eq rfl) (hb hby at_77) (fun _ _ => ⟨rfl, e229, (by decide : 4 + 0 ≤ _), (by decide : 26 + 0 ≤ _)⟩)
  dsimp only [Pt.U, Pt.locs, Pt.cells, Pt.slots] at X230 l230 y230 z230 st230 hQ230
  subst l230 y230 z230
  obtain ⟨rfl, N230q, e230⟩ := hQ230
  have N230 := Fr.app N229 N230q
  obtain ⟨cq231, kq231, q231a, q231b, q231c⟩ := isOf hZ e230 E_216
  obtain ⟨_, _, ⟨T231, L231, k231, n231⟩, -, X231, ⟨Lc231, hQ231, l231, y231, z231⟩, st231⟩ := X230.virtualBack hx (y := (⟨"com/example/tranchor/tranchor/Parts", "get", "(I)Lcom/example/tranchor/tranchor/Fraction;"⟩ : MethodName)) (z := (⟨"com/example/tranchor/tranchor/Parts", "get", "(I)Lcom/example/tranchor/tranchor/Fraction;"⟩ : MethodName)) hown (mvT hZ (hw _ (List.mem_of_getElem? (i := 84) rfl))) (mvT hZ (hw _ (List.mem_of_getElem? (i := 85) rfl))) (notFace_of_selects (args := #[]) (mvT hZ (hw _ (List.mem_of_getElem? (i := 87) rfl)))) (mvT hZ (hw _ (List.mem_of_getElem? (i := 87) rfl))) (mvT hZ (hw _ (List.mem_of_getElem? (i := 86) rfl))) (by decide) (backOf (W := 0) (own_get l Z a0 hw [] r185 s185 k185z (p1 &&& (15 : Int32)) (0 : Int32) T211.heap n0 Z211 ⟨E_216, Fnumerators_217, Fdenominator_218, V_219⟩ hn0) hZ (hw _ (List.mem_of_getElem? (i := 88) rfl)) (hw _ (List.mem_of_getElem? (i := 2) rfl)) (by decide) (by decide)) q231a q231c (g := (mkF m 85 #[.val (.int p1), .val (.int p2), .val (.int (p1 &&& (15 : Int32))), .val (.ref r185), .val (.int ((p2 &&& (2147483647 : Int32)) % (p1 &&& (15 : Int32))))] [(.int (0 : Int32)), (.ref r185)])) rfl (by rw [hml]; rfl) (Steps.refl _) (argsL := [(.int (0 : Int32))]) (rest := []) (lenOf pd__I_Lcom_example_tranchor_tranchor_Fraction_ rfl) rfl (by show 2 * 0 + _ ≤ _; exact Nat.le_of_eq rfl) (hb hby at_85) (fun _ _ => ⟨rfl, e230, (by decide : 4 + 1 ≤ _), (by decide : 26 + 4 ≤ _)⟩)
  dsimp only [Pt.U, Pt.locs, Pt.cells, Pt.slots] at X231 l231 y231 z231 st231 hQ231
  subst l231 y231 z231
  obtain ⟨r231, rfl, N231q, EE231, qq231, B231q⟩ := hQ231
  have N231 := Fr.app N230 N231q
  have q231 : h0.size ≤ r231 := Nat.le_trans EX211.1 qq231
  have ne_w0_r231 : w0 ≠ r231 := Nat.ne_of_lt (Nat.lt_of_lt_of_le E_212.lt qq231)
  have ne_r185_r231 : r185 ≠ r231 := Nat.ne_of_lt (Nat.lt_of_lt_of_le E_216.lt qq231)
  have ne_s185_r231 : s185 ≠ r231 := Nat.ne_of_lt (Nat.lt_of_lt_of_le V_219.lt qq231)
  have ne_r195_r231 : r195 ≠ r231 := Nat.ne_of_lt (Nat.lt_of_lt_of_le E_220.lt qq231)
  have ne_r211_r231 : r211 ≠ r231 := Nat.ne_of_lt (Nat.lt_of_lt_of_le E_224.lt qq231)
  have E_232 := E_212.ext EE231
  have Fnumerator_233 := Fnumerator_213.ext EE231
  have Fdenominator_234 := Fdenominator_214.ext EE231
  have FbigNumerator_235 := FbigNumerator_215.ext EE231
  have E_236 := E_216.ext EE231
  have Fnumerators_237 := Fnumerators_217.ext EE231
  have Fdenominator_238 := Fdenominator_218.ext EE231
  have V_239 := V_219.ext EE231
  have E_240 := E_220.ext EE231
  have Fnumerator_241 := Fnumerator_221.ext EE231
  have Fdenominator_242 := Fdenominator_222.ext EE231
  have FbigNumerator_243 := FbigNumerator_223.ext EE231
  have E_244 := E_224.ext EE231
  have Fnumerator_245 := Fnumerator_225.ext EE231
  have Fdenominator_246 := Fdenominator_226.ext EE231
  have FbigNumerator_247 := FbigNumerator_227.ext EE231
  have EX231 : Ext h0 T231.heap := own_ext_trans EX211 EE231
  have Z231 : n0 ≤ T231.heap.size := Nat.le_trans Z0 EX231.1
  obtain ⟨E_248, Fnumerator_249, Fdenominator_250, FbigNumerator_251⟩ := id B231q
  obtain ⟨T252, X252, e252, st252⟩ := getS2 X231 hx hZ hown (host := "") (Or.inl (hw _ (List.mem_of_getElem? (i := 62) rfl))) Via.refl rfl (S0.ext EX231) (g := (mkF m 88 #[.val (.int p1), .val (.int p2), .val (.int (p1 &&& (15 : Int32))), .val (.ref r185), .val (.int ((p2 &&& (2147483647 : Int32)) % (p1 &&& (15 : Int32))))] [(.ref r231)])) rfl (hb hby at_88)
  obtain ⟨cq253, kq253, q253a, q253b, q253c⟩ := isOf hZ e252 E_248
  obtain ⟨_, _, ⟨T253, L253, k253, n253⟩, -, X253, ⟨Lc253, hQ253, l253, y253, z253⟩, st253⟩ := X252.virtualBack hx (y := (⟨"com/example/tranchor/tranchor/Fraction", "equals", "(Ljava/lang/Object;)Z"⟩ : MethodName)) (z := (⟨"com/example/tranchor/tranchor/Fraction", "equals", "(Ljava/lang/Object;)Z"⟩ : MethodName)) hown (mvT hZ (hw _ (List.mem_of_getElem? (i := 64) rfl))) (mvT hZ (hw _ (List.mem_of_getElem? (i := 65) rfl))) (notFace_of_selects (args := #[]) (mvT hZ (hw _ (List.mem_of_getElem? (i := 67) rfl)))) (mvT hZ (hw _ (List.mem_of_getElem? (i := 67) rfl))) (mvT hZ (hw _ (List.mem_of_getElem? (i := 66) rfl))) (by decide) (backOf (W := 0) (own_equals l Z a0 hw [] r231 w0 T231.heap n0 Z231 ⟨E_248, Fnumerator_249, Fdenominator_250, FbigNumerator_251⟩ ⟨E_232, Fnumerator_233, Fdenominator_234, FbigNumerator_235⟩) hZ (hw _ (List.mem_of_getElem? (i := 68) rfl)) (hw _ (List.mem_of_getElem? (i := 35) rfl)) (by decide) (by decide)) q253a q253c (g := (mkF m 91 #[.val (.int p1), .val (.int p2), .val (.int (p1 &&& (15 : Int32))), .val (.ref r185), .val (.int ((p2 &&& (2147483647 : Int32)) % (p1 &&& (15 : Int32))))] [(.ref w0), (.ref r231)])) rfl (by rw [hml]; rfl) (Steps.refl _) (argsL := [(.ref w0)]) (rest := []) (lenOf pd__Ljava_lang_Object__Z rfl) rfl (by show 2 * 0 + _ ≤ _; exact Nat.le_of_eq rfl) (hb hby at_91) (fun _ _ => ⟨rfl, e252, (by decide : 5 + 0 ≤ _), (by decide : 30 + 0 ≤ _)⟩)
  dsimp only [Pt.U, Pt.locs, Pt.cells, Pt.slots] at X253 l253 y253 z253 st253 hQ253
  subst l253 y253 z253
  obtain ⟨rfl, N253q, e253⟩ := hQ253
  have N253 := Fr.app N231 N253q
  obtain ⟨fs, hr, hrun, hended, hW, hsame⟩ := X253.leave (v := some (.int (1 : Int32))) (fun h => by rw [Bd.returns] at h; cases h)
  refine ⟨_, _, pre0 _ ?_, hrun, hended, _, _, rfl, ?_, ⟨_, rfl⟩, hW, hsame.mono (by decide) (by decide)⟩
  · show Steps p.tables e below (s₁.setTop (mkF m 0 #[.val (.int p1), .val (.int p2), .unset, .unset, .unset] [])) _
    refine XS.iloadN X0.here hx rfl (hb hby at_0) rfl ?_
    show Steps p.tables e below (s₁.setTop (mkF m 1 #[.val (.int p1), .val (.int p2), .unset, .unset, .unset] [(.int p1)])) _
    refine XT.bipushV X0.here hx rfl (15 : Int32) (hb hby at_1) (by decide) ?_
    show Steps p.tables e below (s₁.setTop (mkF m 3 #[.val (.int p1), .val (.int p2), .unset, .unset, .unset] [(.int (15 : Int32)), (.int p1)])) _
    refine XS.iand X0.here hx rfl (hb hby at_3) rfl ?_
    show Steps p.tables e below (s₁.setTop (mkF m 4 #[.val (.int p1), .val (.int p2), .unset, .unset, .unset] [(.int (p1 &&& (15 : Int32)))])) _
    refine XS.istoreN X0.here hx rfl (hb hby at_4) rfl (l' := #[.val (.int p1), .val (.int p2), .val (.int (p1 &&& (15 : Int32))), .unset, .unset]) rfl ?_
    show Steps p.tables e below (s₁.setTop (mkF m 5 #[.val (.int p1), .val (.int p2), .val (.int (p1 &&& (15 : Int32))), .unset, .unset] [])) _
    refine XS.iloadN X0.here hx rfl (hb hby at_5) rfl ?_
    show Steps p.tables e below (s₁.setTop (mkF m 6 #[.val (.int p1), .val (.int p2), .val (.int (p1 &&& (15 : Int32))), .unset, .unset] [(.int (p1 &&& (15 : Int32)))])) _
    refine st185 _ ?_
    show Steps p.tables e below (T185.setTop (mkF m 9 #[.val (.int p1), .val (.int p2), .val (.int (p1 &&& (15 : Int32))), .unset, .unset] [(.ref r185)])) _
    refine XS.astoreN X185.here hx rfl (hb hby at_9) rfl rfl (l' := #[.val (.int p1), .val (.int p2), .val (.int (p1 &&& (15 : Int32))), .val (.ref r185), .unset]) rfl ?_
    show Steps p.tables e below (T185.setTop (mkF m 10 #[.val (.int p1), .val (.int p2), .val (.int (p1 &&& (15 : Int32))), .val (.ref r185), .unset] [])) _
    refine XS.aloadN X185.here hx rfl (hb hby at_10) rfl rfl ?_
    show Steps p.tables e below (T185.setTop (mkF m 11 #[.val (.int p1), .val (.int p2), .val (.int (p1 &&& (15 : Int32))), .val (.ref r185), .unset] [(.ref r185)])) _
    refine st194.trans ?_
    show Steps p.tables e below (T194.setTop (mkF m 14 #[.val (.int p1), .val (.int p2), .val (.int (p1 &&& (15 : Int32))), .val (.ref r185), .unset] [(.int (p1 &&& (15 : Int32)))])) _
    refine XS.iloadN X194.here hx rfl (hb hby at_14) rfl ?_
    show Steps p.tables e below (T194.setTop (mkF m 15 #[.val (.int p1), .val (.int p2), .val (.int (p1 &&& (15 : Int32))), .val (.ref r185), .unset] [(.int (p1 &&& (15 : Int32))), (.int (p1 &&& (15 : Int32)))])) _
    refine XS.icmpYes X194.here hx rfl (pc0 := 15) (pc' := 20) rfl (hb hby at_15) rfl (XT.ii_eq_t rfl) (by decide) (by decide) ?_
    show Steps p.tables e below (T194.setTop (mkF m 20 #[.val (.int p1), .val (.int p2), .val (.int (p1 &&& (15 : Int32))), .val (.ref r185), .unset] [])) _
    refine XS.aloadN X194.here hx rfl (hb hby at_20) rfl rfl ?_
    show Steps p.tables e below (T194.setTop (mkF m 21 #[.val (.int p1), .val (.int p2), .val (.int (p1 &&& (15 : Int32))), .val (.ref r185), .unset] [(.ref r185)])) _
    refine st195.trans ?_
    show Steps p.tables e below (T195.setTop (mkF m 24 #[.val (.int p1), .val (.int p2), .val (.int (p1 &&& (15 : Int32))), .val (.ref r185), .unset] [(.ref r195)])) _
    refine st208 _ ?_
    show Steps p.tables e below (T208.setTop (mkF m 27 #[.val (.int p1), .val (.int p2), .val (.int (p1 &&& (15 : Int32))), .val (.ref r185), .unset] [(.ref w0), (.ref r195)])) _
    refine st209.trans ?_
    show Steps p.tables e below (T209.setTop (mkF m 30 #[.val (.int p1), .val (.int p2), .val (.int (p1 &&& (15 : Int32))), .val (.ref r185), .unset] [(.int (1 : Int32))])) _
    refine XS.ifYes X209.here hx rfl (pc0 := 30) (pc' := 35) rfl (hb hby at_30) rfl (by decide) (by decide) (by decide) ?_
    show Steps p.tables e below (T209.setTop (mkF m 35 #[.val (.int p1), .val (.int p2), .val (.int (p1 &&& (15 : Int32))), .val (.ref r185), .unset] [])) _
    refine XS.iloadN X209.here hx rfl (hb hby at_35) rfl ?_
    show Steps p.tables e below (T209.setTop (mkF m 36 #[.val (.int p1), .val (.int p2), .val (.int (p1 &&& (15 : Int32))), .val (.ref r185), .unset] [(.int (p1 &&& (15 : Int32)))])) _
    refine XS.ifYes X209.here hx rfl (pc0 := 36) (pc' := 41) rfl (hb hby at_36) rfl (XT.i0_ne_t hz) (by decide) (by decide) ?_
    show Steps p.tables e below (T209.setTop (mkF m 41 #[.val (.int p1), .val (.int p2), .val (.int (p1 &&& (15 : Int32))), .val (.ref r185), .unset] [])) _
    refine XS.iloadN X209.here hx rfl (hb hby at_41) rfl ?_
    show Steps p.tables e below (T209.setTop (mkF m 42 #[.val (.int p1), .val (.int p2), .val (.int (p1 &&& (15 : Int32))), .val (.ref r185), .unset] [(.int p2)])) _
    refine Jvm.Stand.ldcI X209 hx hown (mvT hZ (hw _ (List.mem_of_getElem? (i := 78) rfl))) rfl (hb hby at_42) ?_
    show Steps p.tables e below (T209.setTop (mkF m 44 #[.val (.int p1), .val (.int p2), .val (.int (p1 &&& (15 : Int32))), .val (.ref r185), .unset] [(.int (2147483647 : Int32)), (.int p2)])) _
    refine XS.iand X209.here hx rfl (hb hby at_44) rfl ?_
    show Steps p.tables e below (T209.setTop (mkF m 45 #[.val (.int p1), .val (.int p2), .val (.int (p1 &&& (15 : Int32))), .val (.ref r185), .unset] [(.int (p2 &&& (2147483647 : Int32)))])) _
    refine XS.iloadN X209.here hx rfl (hb hby at_45) rfl ?_
    show Steps p.tables e below (T209.setTop (mkF m 46 #[.val (.int p1), .val (.int p2), .val (.int (p1 &&& (15 : Int32))), .val (.ref r185), .unset] [(.int (p1 &&& (15 : Int32))), (.int (p2 &&& (2147483647 : Int32)))])) _
    refine iremM X209 hx rfl (hb hby at_46) rfl hz ?_
    show Steps p.tables e below (T209.setTop (mkF m 47 #[.val (.int p1), .val (.int p2), .val (.int (p1 &&& (15 : Int32))), .val (.ref r185), .unset] [(.int ((p2 &&& (2147483647 : Int32)) % (p1 &&& (15 : Int32))))])) _
    refine XS.istore X209.here hx rfl (hb hby at_47) rfl (l' := #[.val (.int p1), .val (.int p2), .val (.int (p1 &&& (15 : Int32))), .val (.ref r185), .val (.int ((p2 &&& (2147483647 : Int32)) % (p1 &&& (15 : Int32))))]) rfl ?_
    show Steps p.tables e below (T209.setTop (mkF m 49 #[.val (.int p1), .val (.int p2), .val (.int (p1 &&& (15 : Int32))), .val (.ref r185), .val (.int ((p2 &&& (2147483647 : Int32)) % (p1 &&& (15 : Int32))))] [])) _
    refine XS.aloadN X209.here hx rfl (hb hby at_49) rfl rfl ?_
    show Steps p.tables e below (T209.setTop (mkF m 50 #[.val (.int p1), .val (.int p2), .val (.int (p1 &&& (15 : Int32))), .val (.ref r185), .val (.int ((p2 &&& (2147483647 : Int32)) % (p1 &&& (15 : Int32))))] [(.ref r185)])) _
    refine XS.iload X209.here hx rfl (hb hby at_50) rfl ?_
    show Steps p.tables e below (T209.setTop (mkF m 52 #[.val (.int p1), .val (.int p2), .val (.int (p1 &&& (15 : Int32))), .val (.ref r185), .val (.int ((p2 &&& (2147483647 : Int32)) % (p1 &&& (15 : Int32))))] [(.int ((p2 &&& (2147483647 : Int32)) % (p1 &&& (15 : Int32)))), (.ref r185)])) _
    refine st210.trans ?_
    show Steps p.tables e below (T210.setTop (mkF m 55 #[.val (.int p1), .val (.int p2), .val (.int (p1 &&& (15 : Int32))), .val (.ref r185), .val (.int ((p2 &&& (2147483647 : Int32)) % (p1 &&& (15 : Int32))))] [(.int (1 : Int32))])) _
    refine XS.ifNo X210.here hx rfl (hb hby at_55) rfl (by decide) ?_
    show Steps p.tables e below (T210.setTop (mkF m 58 #[.val (.int p1), .val (.int p2), .val (.int (p1 &&& (15 : Int32))), .val (.ref r185), .val (.int ((p2 &&& (2147483647 : Int32)) % (p1 &&& (15 : Int32))))] [])) _
    refine XS.aloadN X210.here hx rfl (hb hby at_58) rfl rfl ?_
    show Steps p.tables e below (T210.setTop (mkF m 59 #[.val (.int p1), .val (.int p2), .val (.int (p1 &&& (15 : Int32))), .val (.ref r185), .val (.int ((p2 &&& (2147483647 : Int32)) % (p1 &&& (15 : Int32))))] [(.ref r185)])) _
    refine XS.iload X210.here hx rfl (hb hby at_59) rfl ?_
    show Steps p.tables e below (T210.setTop (mkF m 61 #[.val (.int p1), .val (.int p2), .val (.int (p1 &&& (15 : Int32))), .val (.ref r185), .val (.int ((p2 &&& (2147483647 : Int32)) % (p1 &&& (15 : Int32))))] [(.int ((p2 &&& (2147483647 : Int32)) % (p1 &&& (15 : Int32)))), (.ref r185)])) _
    refine st211.trans ?_
    show Steps p.tables e below (T211.setTop (mkF m 64 #[.val (.int p1), .val (.int p2), .val (.int (p1 &&& (15 : Int32))), .val (.ref r185), .val (.int ((p2 &&& (2147483647 : Int32)) % (p1 &&& (15 : Int32))))] [(.ref r211)])) _
    refine st228 _ ?_
    show Steps p.tables e below (T228.setTop (mkF m 67 #[.val (.int p1), .val (.int p2), .val (.int (p1 &&& (15 : Int32))), .val (.ref r185), .val (.int ((p2 &&& (2147483647 : Int32)) % (p1 &&& (15 : Int32))))] [(.ref w0), (.ref r211)])) _
    refine st229.trans ?_
    show Steps p.tables e below (T229.setTop (mkF m 70 #[.val (.int p1), .val (.int p2), .val (.int (p1 &&& (15 : Int32))), .val (.ref r185), .val (.int ((p2 &&& (2147483647 : Int32)) % (p1 &&& (15 : Int32))))] [(.int (1 : Int32))])) _
    refine XS.ifNo X229.here hx rfl (hb hby at_70) rfl (by decide) ?_
    show Steps p.tables e below (T229.setTop (mkF m 73 #[.val (.int p1), .val (.int p2), .val (.int (p1 &&& (15 : Int32))), .val (.ref r185), .val (.int ((p2 &&& (2147483647 : Int32)) % (p1 &&& (15 : Int32))))] [])) _
    refine XS.aloadN X229.here hx rfl (hb hby at_73) rfl rfl ?_
    show Steps p.tables e below (T229.setTop (mkF m 74 #[.val (.int p1), .val (.int p2), .val (.int (p1 &&& (15 : Int32))), .val (.ref r185), .val (.int ((p2 &&& (2147483647 : Int32)) % (p1 &&& (15 : Int32))))] [(.ref r185)])) _
    refine XS.iloadN X229.here hx rfl (hb hby at_74) rfl ?_
    show Steps p.tables e below (T229.setTop (mkF m 75 #[.val (.int p1), .val (.int p2), .val (.int (p1 &&& (15 : Int32))), .val (.ref r185), .val (.int ((p2 &&& (2147483647 : Int32)) % (p1 &&& (15 : Int32))))] [(.int (p1 &&& (15 : Int32))), (.ref r185)])) _
    refine XT.iconstV X229.here hx rfl (1 : Int32) (hb hby at_75) rfl ?_
    show Steps p.tables e below (T229.setTop (mkF m 76 #[.val (.int p1), .val (.int p2), .val (.int (p1 &&& (15 : Int32))), .val (.ref r185), .val (.int ((p2 &&& (2147483647 : Int32)) % (p1 &&& (15 : Int32))))] [(.int (1 : Int32)), (.int (p1 &&& (15 : Int32))), (.ref r185)])) _
    refine XS.isub X229.here hx rfl (hb hby at_76) rfl ?_
    show Steps p.tables e below (T229.setTop (mkF m 77 #[.val (.int p1), .val (.int p2), .val (.int (p1 &&& (15 : Int32))), .val (.ref r185), .val (.int ((p2 &&& (2147483647 : Int32)) % (p1 &&& (15 : Int32))))] [(.int ((p1 &&& (15 : Int32)) - (1 : Int32))), (.ref r185)])) _
    refine st230.trans ?_
    show Steps p.tables e below (T230.setTop (mkF m 80 #[.val (.int p1), .val (.int p2), .val (.int (p1 &&& (15 : Int32))), .val (.ref r185), .val (.int ((p2 &&& (2147483647 : Int32)) % (p1 &&& (15 : Int32))))] [(.int (1 : Int32))])) _
    refine XS.ifNo X230.here hx rfl (hb hby at_80) rfl (by decide) ?_
    show Steps p.tables e below (T230.setTop (mkF m 83 #[.val (.int p1), .val (.int p2), .val (.int (p1 &&& (15 : Int32))), .val (.ref r185), .val (.int ((p2 &&& (2147483647 : Int32)) % (p1 &&& (15 : Int32))))] [])) _
    refine XS.aloadN X230.here hx rfl (hb hby at_83) rfl rfl ?_
    show Steps p.tables e below (T230.setTop (mkF m 84 #[.val (.int p1), .val (.int p2), .val (.int (p1 &&& (15 : Int32))), .val (.ref r185), .val (.int ((p2 &&& (2147483647 : Int32)) % (p1 &&& (15 : Int32))))] [(.ref r185)])) _
    refine XT.iconstV X230.here hx rfl (0 : Int32) (hb hby at_84) rfl ?_
    show Steps p.tables e below (T230.setTop (mkF m 85 #[.val (.int p1), .val (.int p2), .val (.int (p1 &&& (15 : Int32))), .val (.ref r185), .val (.int ((p2 &&& (2147483647 : Int32)) % (p1 &&& (15 : Int32))))] [(.int (0 : Int32)), (.ref r185)])) _
    refine st231.trans ?_
    show Steps p.tables e below (T231.setTop (mkF m 88 #[.val (.int p1), .val (.int p2), .val (.int (p1 &&& (15 : Int32))), .val (.ref r185), .val (.int ((p2 &&& (2147483647 : Int32)) % (p1 &&& (15 : Int32))))] [(.ref r231)])) _
    refine st252 _ ?_
    show Steps p.tables e below (T252.setTop (mkF m 91 #[.val (.int p1), .val (.int p2), .val (.int (p1 &&& (15 : Int32))), .val (.ref r185), .val (.int ((p2 &&& (2147483647 : Int32)) % (p1 &&& (15 : Int32))))] [(.ref w0), (.ref r231)])) _
    refine st253.trans ?_
    show Steps p.tables e below (T253.setTop (mkF m 94 #[.val (.int p1), .val (.int p2), .val (.int (p1 &&& (15 : Int32))), .val (.ref r185), .val (.int ((p2 &&& (2147483647 : Int32)) % (p1 &&& (15 : Int32))))] [(.int (1 : Int32))])) _
    refine XS.ifNo X253.here hx rfl (hb hby at_94) rfl (by decide) ?_
    show Steps p.tables e below (T253.setTop (mkF m 97 #[.val (.int p1), .val (.int p2), .val (.int (p1 &&& (15 : Int32))), .val (.ref r185), .val (.int ((p2 &&& (2147483647 : Int32)) % (p1 &&& (15 : Int32))))] [])) _
    refine XT.iconstV X253.here hx rfl (1 : Int32) (hb hby at_97) rfl ?_
    show Steps p.tables e below (T253.setTop (mkF m 98 #[.val (.int p1), .val (.int p2), .val (.int (p1 &&& (15 : Int32))), .val (.ref r185), .val (.int ((p2 &&& (2147483647 : Int32)) % (p1 &&& (15 : Int32))))] [(.int (1 : Int32))])) _
    refine XS.goto X253.here hx rfl (pc0 := 98) (pc' := 102) rfl (hb hby at_98) (by decide) (by decide) ?_
    show Steps p.tables e below (T253.setTop (mkF m 102 #[.val (.int p1), .val (.int p2), .val (.int (p1 &&& (15 : Int32))), .val (.ref r185), .val (.int ((p2 &&& (2147483647 : Int32)) % (p1 &&& (15 : Int32))))] [(.int (1 : Int32))])) _
    exact retN X253 hx (t := .boolean) Bd.returns (by simp) (hb hby at_102) hr
  · show own_Q0 n0 _ T253.heap _
    exact ⟨rfl, N253⟩
theorem own_nn (p : Int32) : ¬ (p &&& (15 : Int32)) < 0 ∧ (p &&& (15 : Int32)).toNatClampNeg ≤ 15 := by
  have h := c_and p (15 : Int32) (by decide)
  have e0 : (0 : Int32).toInt = 0 := by decide
  have e1 : (15 : Int32).toInt = 15 := by decide
  rw [e1] at h
  have h3 : ¬ (p &&& (15 : Int32)) < 0 := by rw [Int32.lt_iff_toInt_lt, e0]; omega
  have := nat_of h3
  exact ⟨h3, by omega⟩
theorem own_in (p q : Int32) (hz : ¬ (p &&& (15 : Int32)) = 0) : (¬ ((q &&& (2147483647 : Int32)) % (p &&& (15 : Int32))) < 0 ∧ ((q &&& (2147483647 : Int32)) % (p &&& (15 : Int32))) < (p &&& (15 : Int32))) ∧ (¬ ((p &&& (15 : Int32)) - (1 : Int32)) < 0 ∧ ((p &&& (15 : Int32)) - (1 : Int32)) < (p &&& (15 : Int32))) ∧ (¬ (0 : Int32) < 0 ∧ (0 : Int32) < (p &&& (15 : Int32))) := by
  have hn := (own_nn p).1
  have h0 := own_pos hn hz
  have h := c_and p (15 : Int32) (by decide)
  have hq := c_and q (2147483647 : Int32) (by decide)
  have e0 : (0 : Int32).toInt = 0 := by decide
  have e1 : (1 : Int32).toInt = 1 := by decide
  have e15 : (15 : Int32).toInt = 15 := by decide
  have g := own_ge1 h0
  have r := (c_iremV (q &&& (2147483647 : Int32)) (p &&& (15 : Int32))).1 hq.1 (by omega)
  have sb := c_isub (p &&& (15 : Int32)) (1 : Int32)
  have sr := rng32 ((p &&& (15 : Int32)) - (1 : Int32))
  rw [e1] at sb
  rw [e15] at h
  refine ⟨⟨?_, ?_⟩, ⟨?_, ?_⟩, ⟨by decide, h0⟩⟩
  · rw [Int32.lt_iff_toInt_lt, e0]; omega
  · rw [Int32.lt_iff_toInt_lt]; omega
  · rw [Int32.lt_iff_toInt_lt, e0]; omega
  · rw [Int32.lt_iff_toInt_lt]; omega
set_option maxRecDepth 65536 in
set_option maxHeartbeats 40000000 in
theorem own_law (l : Launch) (Z : State) (a0 : Array Value) (hw : ∀ d ∈ tables_1, d.before a0 Z = true) (ws : List Jvm.Cond) (p1 p2 : Int32) (w0 : Addr) (h0 : Heap) (n0 : Nat) (Z0 : n0 ≤ h0.size) (S0 : Sta Z h0 "com/example/tranchor/tranchor/Fraction" "ZERO" "Lcom/example/tranchor/tranchor/Fraction;" (.ref w0)) (P0 : own_Fz Z h0 w0) :
    MetFree l x (head1 (Jvm.Cond.code x code maxLocals ret :: ws) room_1) (fun a U => a = #[(.int p1), (.int p2)] ∧ Z.Warmed39 U.vm ∧ U.heap = h0) (fun _ _ _ _ _ => True) (fun _ U o U' => ∃ v L, o = .returned v ∧ own_Q0 n0 v U'.heap L ∧ FrameEnd U o U' L room_1.cells room_1.slots) := by
  by_cases hz : (p1 &&& (15 : Int32)) = 0
  · exact own_law_z l Z a0 hw ws p1 p2 w0 h0 n0 Z0 S0 P0 (own_nn p1) hz
  · exact own_law_n l Z a0 hw ws p1 p2 w0 h0 n0 Z0 S0 P0 (own_nn p1) hz (own_in p1 p2 hz).1 (own_in p1 p2 hz).2.1 (own_in p1 p2 hz).2.2
theorem own_fldI {args : Array Value} {s : State} {t : Term} {C n d : String} {a : Addr} {k : Int32} (ev : t.eval args s none [] s = some (.ref a)) (h : (Jvm.Cond.eq (Jvm.Term.field t C n d) (Jvm.Term.int k)).value args s none s [] = some true) : Fld s s.heap a C n d (.int k) := by
  obtain ⟨x, y, e1, e2, K1, K2⟩ := cmp_v (Or.inl h)
  have e3 : (Jvm.Term.int k).eval args s none [] s = some (.int k) := rfl
  obtain rfl : y = .int k := Option.some.inj (e2.symm.trans e3)
  obtain ⟨z, rfl⟩ := K2
  obtain rfl : z = k := gotT (Jvm.Cond.eq_ints e1 e3) h
  exact Fld.start ((fld_at ev).symm.trans e1)
theorem own_fldJ {args : Array Value} {s : State} {t : Term} {C n d : String} {a : Addr} {k : Int64} (ev : t.eval args s none [] s = some (.ref a)) (h : (Jvm.Cond.eq (Jvm.Term.field t C n d) (Jvm.Term.long k)).value args s none s [] = some true) : Fld s s.heap a C n d (.long k) := by
  obtain ⟨x, y, e1, e2, K1, K2⟩ := cmp_v (Or.inl h)
  have e3 : (Jvm.Term.long k).eval args s none [] s = some (.long k) := rfl
  obtain rfl : y = .long k := Option.some.inj (e2.symm.trans e3)
  obtain ⟨z, rfl⟩ := K2
  obtain rfl : z = k := gotT (eq_L e1 e3) h
  exact Fld.start ((fld_at ev).symm.trans e1)
theorem own_fldN {args : Array Value} {s : State} {t : Term} {C n d : String} {a : Addr} (ev : t.eval args s none [] s = some (.ref a)) (h : (Jvm.Cond.eq (Jvm.Term.field t C n d) Jvm.Term.null).value args s none s [] = some true) : Fld s s.heap a C n d .null := Fld.start ((fld_at ev).symm.trans (null_v h))
set_option maxRecDepth 65536 in
set_option maxHeartbeats 40000000 in
theorem comes_1 {Post : Tables → Env → Array Value → State → Outcome → State → Prop} (hpost : ∀ tb e args s v u, (limb_1_1.after args s (.returned v) u = true ∧ limb_1_2.after args s (.returned v) u = true ∧ True) → FrameEnd s (.returned v) u (Jvm.fieldLocs frame_1_writes args s ++ Jvm.arrayLocs frame_1_arrays args s ++ Jvm.staticLocs frame_1_statics s) 24 128 → Post tb e args s (.returned v) u) :
    ArmFor flags0 classFile x code maxLocals ret World_1 tables_1 room_1 Calls_1 rest_1 Pre_1 Post := by
  intro l hfl _ _ p e ha hc hk s m args below hf hA hF happ hP
  obtain ⟨hcalls, hrest, hpre⟩ := hP
  obtain ⟨-, -, -, hnamed, -, -, -, hat⟩ := (Spec.applies_iff hf).mp happ
  obtain ⟨hg, hn⟩ := and_e (Cond.before_iff.mp (show (Jvm.Cond.and given_1 narrow_1).before args s = true from hpre))
  obtain ⟨gg, gr⟩ := and_e hg
  obtain ⟨a0, a1, rfl⟩ : ∃ a0 a1 : Value, args = #[a0, a1] := by
    have hs : args.size = 2 := by simpa [Cond.value, given_1] using gg
    obtain ⟨L⟩ := args
    match L, hs with
    | [a0, a1], _ => exact ⟨a0, a1, rfl⟩
  have hw := fun d (hd : d ∈ tables_1) => atoms_spec (ws := Jvm.Cond.code x code maxLocals ret :: tables_1) hat d (List.mem_cons_of_mem _ hd)
  have hfit : Fit s := fun {y c} hc i hi => by
    obtain ⟨ha, rfl⟩ := Array.getElem?_eq_some_iff.mp hc
    have q := List.all_eq_true.mp ((Array.all_eq_true_iff_forall_mem.mp hF) _ (Array.getElem_mem ha)) i (List.mem_range.mpr hi)
    simpa [Array.getElem?_eq_getElem hi] using q
  obtain ⟨gi0, gr0⟩ := and_e gr
  obtain ⟨i0, ei0⟩ := is_v gi0
  obtain rfl : a0 = (.int i0) := Option.some.inj ei0
  obtain ⟨i1, ei1⟩ := is_v gr0
  obtain rfl : a1 = (.int i1) := Option.some.inj ei1
  obtain ⟨c0, r0⟩ := and_e hn
  obtain ⟨c1, r1⟩ := and_e r0
  obtain ⟨c2, c3⟩ := and_e r1
  obtain ⟨w0, v0⟩ := exa_v c0
  have E0 := Exa.start v0 c0
  have S0 := Sta.start v0 (Or.inr ⟨(hw _ (List.mem_of_getElem? (i := 35) rfl)), (hw _ (List.mem_of_getElem? (i := 63) rfl))⟩)
  have P0 : own_Fz s s.heap w0 := ⟨E0, own_fldJ v0 c2, own_fldJ v0 c3, own_fldN v0 c1⟩
  obtain ⟨n, o, h1, h2, h3, _, L, rfl, ⟨rfl, N⟩, hq⟩ := own_law l s _ hw tables_1 i0 i1 w0 s.heap s.heap.size (Nat.le_refl _) S0 P0 p e ha hc hk s m _ below hf ((Spec.applies_iff_loose hf).mp happ).1 ⟨rfl, State.Warmed39.refl s, rfl⟩ trivial
  refine ⟨n, _, h1, h2, h3, hpost _ _ _ _ _ _ ⟨Cond.after_iff.mpr rfl, Cond.after_iff.mpr (eq_i res_at (Term.int_eval (1)) rfl), trivial⟩ ⟨hq.1, hq.2.1, (hq.2.2.sift fun y hy => Or.inr (N y hy)).mono (by decide) (by decide)⟩⟩
theorem main_1_1 : Claimed_1_1 := comes_1 fun _ _ _ _ _ _ h hF => ⟨h.1, hF⟩
theorem main_1_2 : Claimed_1_2 := comes_1 fun _ _ _ _ _ _ h hF => ⟨h.2.1, hF⟩
end Jvm.Pilot.@@N@@
namespace Jvm.Pilot.@@N@@
open Jvm Jvm.ClassFile Sem Op Lib Jvm.Free Jvm.Stand Jvm.Pilot.@@N@@.Jvm.D
/-! MADE BY PROGRAM (witnessworld.py) out of the Statement's table words and the real class files: 14 classes; the members and pool entries that the words name. The judged class is class 1, her method 1. -/
namespace start1
open Jvm.ClassFile
def u (s : String) : CpInfo := .utf8 (stringToUtf16 s)
/-- a pool by its gaps: so many unusable entries, then the entry; so many at the end -/
def gap : Nat → List CpInfo → List CpInfo
  | 0, r => r
  | n + 1, r => .unusable :: gap n r
def poolList (es : List (Nat × CpInfo)) (last : Nat) : List CpInfo := es.foldr (fun e r => gap e.1 (e.2 :: r)) (gap last [])
def pool (es : List (Nat × CpInfo)) (last : Nat) : Array CpInfo := ⟨poolList es last⟩
def fileOf (pool : Array CpInfo) (this : Nat) (attrs : Array Attribute := #[]) (ms : Array MethodInfo := #[]) (fl : Nat := 33) (sup : Nat := 0) (ifs : Array Nat := #[]) (fds : Array FieldInfo := #[]) : ClassFile where
  minorVersion := 0
  majorVersion := 65
  constantPool := pool
  accessFlags := fl
  thisClass := this
  superClass := sup
  interfaces := ifs
  fields := fds
  methods := ms
  attributes := attrs
def plain (name : String) (sup : Option ClassId) : Class where
  name := name
  kind := .ordinary
  loader := none
  accessFlags := 33
  super := sup
  interfaces := #[]
  cf := none
  fields := #[]
  methods := #[]
  instanceTypes := #[]
  staticTypes := #[]
  resolved := #[]
  callSites := []
  init := .initialized
  statics := none
  mirror := none

def pool0 : Array CpInfo := pool [(5, u "<init>"), (0, u "()V"), (1, .class_ 10), (1, u "java/lang/Object")] 113

def k0c0 : Code := { maxStack := 0, maxLocals := 1, code := object_method_1_code, exceptionTable := #[], attributes := #[] }
def k0m0 : Method := { name := "<init>", desc := "()V", sig := { parameters := [], returnType := none }, accessFlags := 1, code := some k0c0 }
/-- java/lang/Object -/
def k0 : Class := { plain "java/lang/Object" none with
  accessFlags := 33
  interfaces := #[]
  cf := some (fileOf pool0 8 #[] #[{ accessFlags := 1, nameIndex := 5, descriptorIndex := 6, attributes := #[] }] 33 0 #[] #[])
  fields := #[]
  methods := #[k0m0]
  instanceTypes := #[]
  staticTypes := #[]
  resolved := Array.replicate 124 none
  statics := none }

def pool1 : Array CpInfo := pool [(2, .class_ 4), (1, u "java/lang/Object"), (0, u "<init>"), (0, u "()V"), (0, .methodref 8 9), (0, .class_ 10), (0, .nameAndType 11 12), (0, u "com/example/tranchor/tranchor/Parts"), (0, u "zeros"), (0, u "(I)Lcom/example/tranchor/tranchor/Parts;"), (0, .methodref 8 14), (0, .nameAndType 15 16), (0, u "size"), (0, u "()I"), (0, .methodref 8 18), (0, .nameAndType 19 20), (0, u "total"), (0, u "()Lcom/example/tranchor/tranchor/Fraction;"), (0, .fieldref 22 23), (0, .class_ 24), (0, .nameAndType 25 26), (0, u "com/example/tranchor/tranchor/Fraction"), (0, u "ZERO"), (0, u "Lcom/example/tranchor/tranchor/Fraction;"), (0, .methodref 22 28), (0, .nameAndType 29 30), (0, u "equals"), (0, u "(Ljava/lang/Object;)Z"), (0, .integer 2147483647), (0, .methodref 8 33), (0, .nameAndType 34 35), (0, u "isZero"), (0, u "(I)Z"), (0, .methodref 8 37), (0, .nameAndType 38 39), (0, u "get"), (0, u "(I)Lcom/example/tranchor/tranchor/Fraction;"), (0, .class_ 41), (0, u "com/example/tranchor/tranchor/PartsZerosPinLaw"), (2, u "law"), (0, u "(II)Z")] 3

def k1m0 : Method := { name := "<init>", desc := "()V", sig := { parameters := [], returnType := none }, accessFlags := 1, code := none }
def k1c1 : Code := { maxStack := 3, maxLocals := 5, code := code, exceptionTable := #[], attributes := #[] }
def k1m1 : Method := { name := "law", desc := "(II)Z", sig := { parameters := [.int, .int], returnType := some .boolean }, accessFlags := 9, code := some k1c1 }
/-- com/example/tranchor/tranchor/PartsZerosPinLaw -/
def k1 : Class := { plain "com/example/tranchor/tranchor/PartsZerosPinLaw" (some 0) with
  accessFlags := 49
  interfaces := #[]
  cf := some (fileOf pool1 40 #[] #[{ accessFlags := 1, nameIndex := 5, descriptorIndex := 6, attributes := #[] }, { accessFlags := 9, nameIndex := 44, descriptorIndex := 45, attributes := #[] }] 49 2 #[] #[])
  fields := #[]
  methods := #[k1m0, k1m1]
  instanceTypes := #[]
  staticTypes := #[]
  resolved := Array.replicate 49 none
  statics := none }

def pool2 : Array CpInfo := pool [(1, .methodref 2 3), (0, .class_ 4), (0, .nameAndType 5 6), (0, u "java/lang/Object"), (0, u "<init>"), (0, u "()V"), (0, .fieldref 8 9), (0, .class_ 10), (0, .nameAndType 11 12), (0, u "com/example/tranchor/tranchor/Parts"), (0, u "numerators"), (0, u "[J"), (0, .fieldref 8 14), (0, .nameAndType 15 16), (0, u "denominator"), (0, u "J"), (0, .fieldref 8 18), (0, .nameAndType 19 20), (0, u "fractions"), (0, u "[Lcom/example/tranchor/tranchor/Fraction;"), (0, .class_ 22), (0, u "com/example/tranchor/tranchor/Fraction"), (37, .methodref 8 61), (0, .nameAndType 5 62), (0, u "([JJ)V"), (0, .methodref 8 64), (0, .nameAndType 65 66), (0, u "isLong"), (0, u "()Z"), (0, .methodref 21 68), (0, .nameAndType 69 70), (0, u "of"), (0, u "(JJ)Lcom/example/tranchor/tranchor/Fraction;"), (4, .methodref 21 76), (0, .nameAndType 77 78), (0, u "equals"), (0, u "(Ljava/lang/Object;)Z"), (0, .methodref 80 81), (0, .class_ 82), (0, .nameAndType 83 84), (0, u "java/lang/Math"), (0, u "addExact"), (0, u "(JJ)J"), (0, .methodref 8 86), (0, .nameAndType 87 88), (0, u "size"), (0, u "()I"), (0, .methodref 8 90), (0, .nameAndType 91 92), (0, u "get"), (0, u "(I)Lcom/example/tranchor/tranchor/Fraction;"), (52, u "(I)Lcom/example/tranchor/tranchor/Parts;"), (28, .class_ 175), (0, u "com/example/tranchor/tranchor/Parts$Cut"), (124, u "zeros"), (0, u "isZero"), (0, u "(I)Z"), (0, u "total"), (0, u "()Lcom/example/tranchor/tranchor/Fraction;")] 63

def k2c0 : Code := { maxStack := 3, maxLocals := 4, code := prog_6_method_1_code, exceptionTable := #[], attributes := #[] }
def k2m0 : Method := { name := "<init>", desc := "([JJ)V", sig := { parameters := [(.array .long), .long], returnType := none }, accessFlags := 2, code := some k2c0 }
def k2c1 : Code := { maxStack := 5, maxLocals := 1, code := prog_6_method_5_code, exceptionTable := #[], attributes := #[] }
def k2m1 : Method := { name := "zeros", desc := "(I)Lcom/example/tranchor/tranchor/Parts;", sig := { parameters := [.int], returnType := some (.object "com/example/tranchor/tranchor/Parts") }, accessFlags := 8, code := some k2c1 }
def k2c2 : Code := { maxStack := 1, maxLocals := 1, code := prog_6_method_6_code, exceptionTable := #[], attributes := #[] }
def k2m2 : Method := { name := "size", desc := "()I", sig := { parameters := [], returnType := some .int }, accessFlags := 0, code := some k2c2 }
def k2c3 : Code := { maxStack := 4, maxLocals := 2, code := prog_6_method_7_code, exceptionTable := #[], attributes := #[] }
def k2m3 : Method := { name := "get", desc := "(I)Lcom/example/tranchor/tranchor/Fraction;", sig := { parameters := [.int], returnType := some (.object "com/example/tranchor/tranchor/Fraction") }, accessFlags := 0, code := some k2c3 }
def k2c4 : Code := { maxStack := 4, maxLocals := 2, code := prog_6_method_8_code, exceptionTable := #[], attributes := #[] }
def k2m4 : Method := { name := "isZero", desc := "(I)Z", sig := { parameters := [.int], returnType := some .boolean }, accessFlags := 0, code := some k2c4 }
def k2c5 : Code := { maxStack := 4, maxLocals := 8, code := prog_6_method_9_code, exceptionTable := #[{ startPc := 7, endPc := 55, handlerPc := 56, catchType := 38 }], attributes := #[] }
def k2m5 : Method := { name := "total", desc := "()Lcom/example/tranchor/tranchor/Fraction;", sig := { parameters := [], returnType := some (.object "com/example/tranchor/tranchor/Fraction") }, accessFlags := 0, code := some k2c5 }
def k2c6 : Code := { maxStack := 1, maxLocals := 1, code := prog_6_method_16_code, exceptionTable := #[], attributes := #[] }
def k2m6 : Method := { name := "isLong", desc := "()Z", sig := { parameters := [], returnType := some .boolean }, accessFlags := 2, code := some k2c6 }
/-- com/example/tranchor/tranchor/Parts -/
def k2 : Class := { plain "com/example/tranchor/tranchor/Parts" (some 0) with
  accessFlags := 48
  interfaces := #[]
  cf := some (fileOf pool2 8 #[.nestMembers #[174]] #[{ accessFlags := 2, nameIndex := 5, descriptorIndex := 62, attributes := #[] }, { accessFlags := 8, nameIndex := 300, descriptorIndex := 145, attributes := #[] }, { accessFlags := 0, nameIndex := 87, descriptorIndex := 88, attributes := #[] }, { accessFlags := 0, nameIndex := 91, descriptorIndex := 92, attributes := #[] }, { accessFlags := 0, nameIndex := 301, descriptorIndex := 302, attributes := #[] }, { accessFlags := 0, nameIndex := 303, descriptorIndex := 304, attributes := #[] }, { accessFlags := 2, nameIndex := 65, descriptorIndex := 66, attributes := #[] }] 48 2 #[] #[{ accessFlags := 18, nameIndex := 11, descriptorIndex := 12, attributes := #[] }, { accessFlags := 18, nameIndex := 15, descriptorIndex := 16, attributes := #[] }, { accessFlags := 18, nameIndex := 19, descriptorIndex := 20, attributes := #[] }])
  fields := #[{ name := "numerators", type := (.array .long), accessFlags := 18, slot := 0, constantValue := 0 }, { name := "denominator", type := .long, accessFlags := 18, slot := 1, constantValue := 0 }, { name := "fractions", type := (.array (.object "com/example/tranchor/tranchor/Fraction")), accessFlags := 18, slot := 2, constantValue := 0 }]
  methods := #[k2m0, k2m1, k2m2, k2m3, k2m4, k2m5, k2m6]
  instanceTypes := #[(.array .long), .long, (.array (.object "com/example/tranchor/tranchor/Fraction"))]
  staticTypes := #[]
  resolved := Array.replicate 368 none
  statics := none }

def pool3 : Array CpInfo := pool [(1, .class_ 2), (0, u "java/lang/Comparable"), (0, .class_ 4), (0, u "java/lang/Object")] 7

/-- java/lang/Comparable -/
def k3 : Class := { plain "java/lang/Comparable" (some 0) with
  accessFlags := 1537
  interfaces := #[]
  cf := some (fileOf pool3 1 #[] #[] 1537 3 #[] #[])
  fields := #[]
  methods := #[]
  instanceTypes := #[]
  staticTypes := #[]
  resolved := Array.replicate 12 none
  statics := none }

def pool4 : Array CpInfo := pool [(1, .methodref 2 3), (0, .class_ 4), (0, .nameAndType 5 6), (0, u "java/lang/Object"), (0, u "<init>"), (0, u "()V"), (0, .fieldref 8 9), (0, .class_ 10), (0, .nameAndType 11 12), (0, u "com/example/tranchor/tranchor/Fraction"), (0, u "numerator"), (0, u "J"), (0, .fieldref 8 14), (0, .nameAndType 15 12), (0, u "denominator"), (0, .fieldref 8 17), (0, .nameAndType 18 19), (0, u "bigNumerator"), (0, u "Ljava/math/BigInteger;"), (0, .fieldref 8 21), (0, .nameAndType 22 19), (0, u "bigDenominator"), (12, u "of"), (0, u "(JJ)Lcom/example/tranchor/tranchor/Fraction;"), (10, .long 9223372036854775808), (5, .methodref 54 55), (0, .class_ 56), (0, .nameAndType 57 58), (0, u "java/lang/Math"), (0, u "abs"), (0, u "(J)J"), (0, .methodref 8 60), (0, .nameAndType 61 62), (0, u "gcd"), (0, u "(JJ)J"), (0, .methodref 8 64), (0, .nameAndType 65 36), (0, u "reduced"), (15, u "POWERS_OF_TEN"), (0, u "[J"), (32, .methodref 8 116), (0, .nameAndType 117 118), (0, u "isLong"), (0, u "()Z"), (13, .methodref 8 133), (0, .nameAndType 5 134), (0, u "(JJ)V"), (40, u "equals"), (0, u "(Ljava/lang/Object;)Z"), (32, .class_ 211), (1, u "com/example/tranchor/tranchor/Fraction$1"), (56, u "ZERO"), (0, u "Lcom/example/tranchor/tranchor/Fraction;"), (2, u "ONE"), (4, .class_ 278), (0, u "java/lang/Comparable")] 41

def k4c0 : Code := { maxStack := 3, maxLocals := 5, code := prog_3_method_1_code, exceptionTable := #[], attributes := #[] }
def k4m0 : Method := { name := "<init>", desc := "(JJ)V", sig := { parameters := [.long, .long], returnType := none }, accessFlags := 2, code := some k4c0 }
def k4c1 : Code := { maxStack := 6, maxLocals := 6, code := prog_3_method_4_code, exceptionTable := #[], attributes := #[] }
def k4m1 : Method := { name := "of", desc := "(JJ)Lcom/example/tranchor/tranchor/Fraction;", sig := { parameters := [.long, .long], returnType := some (.object "com/example/tranchor/tranchor/Fraction") }, accessFlags := 9, code := some k4c1 }
def k4c2 : Code := { maxStack := 4, maxLocals := 4, code := prog_3_method_14_code, exceptionTable := #[], attributes := #[] }
def k4m2 : Method := { name := "equals", desc := "(Ljava/lang/Object;)Z", sig := { parameters := [(.object "java/lang/Object")], returnType := some .boolean }, accessFlags := 1, code := some k4c2 }
def k4c3 : Code := { maxStack := 1, maxLocals := 1, code := prog_3_method_17_code, exceptionTable := #[], attributes := #[] }
def k4m3 : Method := { name := "isLong", desc := "()Z", sig := { parameters := [], returnType := some .boolean }, accessFlags := 0, code := some k4c3 }
def k4c4 : Code := { maxStack := 6, maxLocals := 4, code := prog_3_method_28_code, exceptionTable := #[], attributes := #[] }
def k4m4 : Method := { name := "reduced", desc := "(JJ)Lcom/example/tranchor/tranchor/Fraction;", sig := { parameters := [.long, .long], returnType := some (.object "com/example/tranchor/tranchor/Fraction") }, accessFlags := 10, code := some k4c4 }
def k4c5 : Code := { maxStack := 4, maxLocals := 10, code := prog_3_method_32_code, exceptionTable := #[], attributes := #[] }
def k4m5 : Method := { name := "gcd", desc := "(JJ)J", sig := { parameters := [.long, .long], returnType := some .long }, accessFlags := 8, code := some k4c5 }
/-- com/example/tranchor/tranchor/Fraction -/
def k4 : Class := { plain "com/example/tranchor/tranchor/Fraction" (some 0) with
  accessFlags := 49
  interfaces := #[3]
  cf := some (fileOf pool4 8 #[.nestMembers #[209]] #[{ accessFlags := 2, nameIndex := 5, descriptorIndex := 134, attributes := #[] }, { accessFlags := 9, nameIndex := 35, descriptorIndex := 36, attributes := #[] }, { accessFlags := 1, nameIndex := 175, descriptorIndex := 176, attributes := #[] }, { accessFlags := 0, nameIndex := 117, descriptorIndex := 118, attributes := #[] }, { accessFlags := 10, nameIndex := 65, descriptorIndex := 36, attributes := #[] }, { accessFlags := 8, nameIndex := 61, descriptorIndex := 62, attributes := #[] }] 49 2 #[277] #[{ accessFlags := 25, nameIndex := 268, descriptorIndex := 269, attributes := #[] }, { accessFlags := 25, nameIndex := 272, descriptorIndex := 269, attributes := #[] }, { accessFlags := 26, nameIndex := 81, descriptorIndex := 82, attributes := #[] }, { accessFlags := 18, nameIndex := 11, descriptorIndex := 12, attributes := #[] }, { accessFlags := 18, nameIndex := 15, descriptorIndex := 12, attributes := #[] }, { accessFlags := 18, nameIndex := 18, descriptorIndex := 19, attributes := #[] }, { accessFlags := 18, nameIndex := 22, descriptorIndex := 19, attributes := #[] }])
  fields := #[{ name := "ZERO", type := (.object "com/example/tranchor/tranchor/Fraction"), accessFlags := 25, slot := 0, constantValue := 0 }, { name := "ONE", type := (.object "com/example/tranchor/tranchor/Fraction"), accessFlags := 25, slot := 1, constantValue := 0 }, { name := "POWERS_OF_TEN", type := (.array .long), accessFlags := 26, slot := 2, constantValue := 0 }, { name := "numerator", type := .long, accessFlags := 18, slot := 0, constantValue := 0 }, { name := "denominator", type := .long, accessFlags := 18, slot := 1, constantValue := 0 }, { name := "bigNumerator", type := (.object "java/math/BigInteger"), accessFlags := 18, slot := 2, constantValue := 0 }, { name := "bigDenominator", type := (.object "java/math/BigInteger"), accessFlags := 18, slot := 3, constantValue := 0 }]
  methods := #[k4m0, k4m1, k4m2, k4m3, k4m4, k4m5]
  instanceTypes := #[.long, .long, (.object "java/math/BigInteger"), (.object "java/math/BigInteger")]
  staticTypes := #[(.object "com/example/tranchor/tranchor/Fraction"), (.object "com/example/tranchor/tranchor/Fraction"), (.array .long)]
  resolved := Array.replicate 320 none
  statics := some 0 }

def pool5 : Array CpInfo := pool [(1, .class_ 2), (0, u "java/lang/Math"), (1, .class_ 6), (1, u "java/lang/Object"), (0, u "<init>"), (0, u "()V"), (89, .class_ 100), (1, u "java/lang/Math$RandomNumberGeneratorHolder"), (20, u "(JJ)J"), (2, u "abs"), (0, u "(J)J"), (46, u "negativeZeroFloatBits"), (0, u "J"), (2, u "negativeZeroDoubleBits"), (68, u "$assertionsDisabled"), (0, u "Z"), (91, u "twoToTheDoubleScaleDown"), (0, u "D"), (4, u "twoToTheDoubleScaleUp"), (9, u "E"), (3, u "PI"), (2, u "TAU"), (2, u "DEGREES_TO_RADIANS"), (0, u "RADIANS_TO_DEGREES"), (27, u "addExact")] 66

def k5m0 : Method := { name := "<init>", desc := "()V", sig := { parameters := [], returnType := none }, accessFlags := 2, code := none }
def k5c1 : Code := { maxStack := 6, maxLocals := 6, code := jdk_29_method_25_code, exceptionTable := #[], attributes := #[] }
def k5m1 : Method := { name := "addExact", desc := "(JJ)J", sig := { parameters := [.long, .long], returnType := some .long }, accessFlags := 9, code := some k5c1 }
def k5c2 : Code := { maxStack := 4, maxLocals := 2, code := jdk_29_method_61_code, exceptionTable := #[], attributes := #[] }
def k5m2 : Method := { name := "abs", desc := "(J)J", sig := { parameters := [.long], returnType := some .long }, accessFlags := 9, code := some k5c2 }
/-- java/lang/Math -/
def k5 : Class := { plain "java/lang/Math" (some 0) with
  accessFlags := 49
  interfaces := #[]
  cf := some (fileOf pool5 1 #[.nestMembers #[98]] #[{ accessFlags := 2, nameIndex := 7, descriptorIndex := 8, attributes := #[] }, { accessFlags := 9, nameIndex := 393, descriptorIndex := 121, attributes := #[] }, { accessFlags := 9, nameIndex := 124, descriptorIndex := 125, attributes := #[] }] 49 4 #[] #[{ accessFlags := 25, nameIndex := 354, descriptorIndex := 339, attributes := #[] }, { accessFlags := 25, nameIndex := 358, descriptorIndex := 339, attributes := #[] }, { accessFlags := 25, nameIndex := 361, descriptorIndex := 339, attributes := #[] }, { accessFlags := 26, nameIndex := 364, descriptorIndex := 339, attributes := #[] }, { accessFlags := 26, nameIndex := 365, descriptorIndex := 339, attributes := #[] }, { accessFlags := 26, nameIndex := 172, descriptorIndex := 173, attributes := #[] }, { accessFlags := 26, nameIndex := 176, descriptorIndex := 173, attributes := #[] }, { accessFlags := 8, nameIndex := 344, descriptorIndex := 339, attributes := #[] }, { accessFlags := 8, nameIndex := 338, descriptorIndex := 339, attributes := #[] }, { accessFlags := 4120, nameIndex := 245, descriptorIndex := 246, attributes := #[] }])
  fields := #[{ name := "E", type := .double, accessFlags := 25, slot := 0, constantValue := 0 }, { name := "PI", type := .double, accessFlags := 25, slot := 1, constantValue := 0 }, { name := "TAU", type := .double, accessFlags := 25, slot := 2, constantValue := 0 }, { name := "DEGREES_TO_RADIANS", type := .double, accessFlags := 26, slot := 3, constantValue := 0 }, { name := "RADIANS_TO_DEGREES", type := .double, accessFlags := 26, slot := 4, constantValue := 0 }, { name := "negativeZeroFloatBits", type := .long, accessFlags := 26, slot := 5, constantValue := 0 }, { name := "negativeZeroDoubleBits", type := .long, accessFlags := 26, slot := 6, constantValue := 0 }, { name := "twoToTheDoubleScaleUp", type := .double, accessFlags := 8, slot := 7, constantValue := 0 }, { name := "twoToTheDoubleScaleDown", type := .double, accessFlags := 8, slot := 8, constantValue := 0 }, { name := "$assertionsDisabled", type := .boolean, accessFlags := 4120, slot := 9, constantValue := 0 }]
  methods := #[k5m0, k5m1, k5m2]
  instanceTypes := #[]
  staticTypes := #[.double, .double, .double, .double, .double, .long, .long, .double, .double, .boolean]
  resolved := Array.replicate 460 none
  statics := none }

def pool6 : Array CpInfo := pool [(1, u "java/lang/Cloneable"), (0, .class_ 1), (0, u "java/lang/Object"), (0, .class_ 3)] 3

/-- java/lang/Cloneable -/
def k6 : Class := { plain "java/lang/Cloneable" (some 0) with
  accessFlags := 1537
  interfaces := #[]
  cf := some (fileOf pool6 2 #[] #[] 1537 4 #[] #[])
  fields := #[]
  methods := #[]
  instanceTypes := #[]
  staticTypes := #[]
  resolved := Array.replicate 8 none
  statics := none }

def pool7 : Array CpInfo := pool [(1, u "java/io/Serializable"), (0, .class_ 1), (0, u "java/lang/Object"), (0, .class_ 3)] 3

/-- java/io/Serializable -/
def k7 : Class := { plain "java/io/Serializable" (some 0) with
  accessFlags := 1537
  interfaces := #[]
  cf := some (fileOf pool7 2 #[] #[] 1537 4 #[] #[])
  fields := #[]
  methods := #[]
  instanceTypes := #[]
  staticTypes := #[]
  resolved := Array.replicate 8 none
  statics := none }

/-- the primitive byte -/
def k8 : Class := { plain "byte" none with kind := .primitive 'B', accessFlags := 0x411 }
/-- [B -/
def k9 : Class := { plain "[B" (some 0) with kind := .array 8 .byte, interfaces := #[6, 7], accessFlags := 1041 }

/-- the primitive int -/
def k10 : Class := { plain "int" none with kind := .primitive 'I', accessFlags := 0x411 }
/-- [I -/
def k11 : Class := { plain "[I" (some 0) with kind := .array 10 .int, interfaces := #[6, 7], accessFlags := 1041 }

/-- the primitive long -/
def k12 : Class := { plain "long" none with kind := .primitive 'J', accessFlags := 0x411 }
/-- [J -/
def k13 : Class := { plain "[J" (some 0) with kind := .array 12 .long, interfaces := #[6, 7], accessFlags := 1041 }

def heap : Heap := #[{ cls := 4, slots := #[.ref 1, .null, .null], vm := .statics 4 },
  { cls := 4, slots := #[.long 0, .long 1, .null, .null], vm := .none }]
def classes : Array Class := #[k0, k1, k2, k3, k4, k5, k6, k7, k8, k9, k10, k11, k12, k13]
def interned : List (Array UInt16 × Addr) := []
def slotsUsed : Nat := 7
def theMethod : MethodId := ⟨1, 1⟩
def args0 : Array Value := #[.int 5, .int 6]
def aboutOver (below : List Frame) : State where
  vm := { classes := classes, interned := interned.toArray }
  heap := heap
  slotsUsed := slotsUsed
  threads := #[{ frames := .invoking theMethod args0 :: below }]
def below0 : List Frame := [.native { method := ⟨0, 0⟩, args := #[] }]
def about1 : State := aboutOver below0
def p0 : Program := .bare "" "" ""
def e0 : Env := launch0.env 0 0 0
theorem w_frames : about1.frames = Frame.invoking theMethod args0 :: below0 := rfl
set_option maxRecDepth 65536 in
theorem w_args : argsFit about1.vm theMethod args0 = true := by decide +kernel
set_option maxRecDepth 65536 in
theorem w_heap : heapFits about1 = true := by decide +kernel
set_option maxRecDepth 65536 in
theorem w_runnable : about1.curStatus? = some .runnable := by decide +kernel
set_option maxRecDepth 65536 in
theorem w_alone : about1.alone = true := by decide +kernel
set_option maxRecDepth 65536 in
theorem w_named : about1.methodNamed? x = some theMethod := by decide +kernel
set_option maxRecDepth 65536 in
theorem w_hears : about1.hears theMethod below0 = true := by decide +kernel
set_option maxRecDepth 65536 in
theorem w_ripe : about1.ripe theMethod args0 below0 = true := by decide +kernel
theorem w_running : about1.status = .running := rfl
set_option maxRecDepth 65536 in
theorem w_room : about1.hasRoom e0.platform room_1 = true :=
  launch0.hasRoom_least _ room_1 (by decide +kernel) (by decide +kernel) (by decide +kernel) (by decide +kernel) (by decide +kernel) (by decide +kernel)
theorem allAtoms_all (ts : List Jvm.Cond) (a : Array Jvm.Value) (st : Jvm.State) : (allAtoms ts).before a st = ts.all (fun c => c.before a st) := by
  induction ts with
  | nil => rfl
  | cons c t ih =>
    show (Jvm.Cond.and c (allAtoms t)).before a st = _
    rw [Jvm.Cond.before_and, ih, List.all_cons]
def words1 : List Jvm.Cond := Jvm.Cond.code x code maxLocals ret :: tables_1
/-- a 'code' word, met by the world's own term for the bytes: nothing is compared byte by byte -/
theorem code_word {y : MethodName} {bytes : ByteArray} {mx : Nat} {rt : Option FieldType} {a : Array Value} {s : State} {m : MethodId} {meth : Method} {c : Code} (h1 : s.methodNamed? y = some m) (h2 : s.vm.method? m = some meth) (h3 : meth.code = some c) (h4 : c.code = bytes)
    (h5 : (c.maxLocals == mx && c.exceptionTable.isEmpty && decide (c.maxStack ≤ mostOperands) && decide (meth.sig.returnType = rt) && !meth.locks && decide (parseMethodDescriptor y.desc = some meth.sig)) = true) : (Jvm.Cond.code y bytes mx rt).before a s = true := by
  simp only [Bool.and_eq_true, beq_iff_eq, Bool.not_eq_true', decide_eq_true_eq] at h5
  obtain ⟨⟨⟨⟨⟨g1, g2⟩, g3⟩, g4⟩, g5⟩, g6⟩ := h5
  simp [Cond.before, Cond.holds, Cond.value, h1, h2, h3, h4, g1, g2, g3, g4, g5, g6]
def isCode : Jvm.Cond → Bool
  | .code _ _ _ _ => true
  | _ => false
theorem all_split {L : List Jvm.Cond} {P : Jvm.Cond → Bool} (h1 : L.all (fun c => isCode c || P c) = true) (h2 : ∀ c ∈ L.filter isCode, P c = true) : L.all P = true := by
  refine List.all_eq_true.mpr fun c hc => ?_
  have h := List.all_eq_true.mp h1 c hc
  rcases Bool.eq_false_or_eq_true (isCode c) with hi | hi
  · exact h2 c (List.mem_filter.mpr ⟨hc, hi⟩)
  · simpa [hi] using h
set_option maxRecDepth 65536 in
theorem w_c0 : (Jvm.Cond.code x code maxLocals ret).before args0 about1 = true := code_word (m := ⟨1, 1⟩) (meth := k1m1) (c := k1c1) (by decide +kernel) rfl rfl rfl (by decide +kernel)
set_option maxRecDepth 65536 in
theorem w_c1 : (Jvm.Cond.code ({ cls := "com/example/tranchor/tranchor/Parts", name := "zeros", desc := "(I)Lcom/example/tranchor/tranchor/Parts;" } : Jvm.MethodName) prog_6_method_5_code (1 : Nat) (Option.some (Jvm.ClassFile.FieldType.object "com/example/tranchor/tranchor/Parts"))).before args0 about1 = true := code_word (m := ⟨2, 1⟩) (meth := k2m1) (c := k2c1) (by decide +kernel) rfl rfl rfl (by decide +kernel)
set_option maxRecDepth 65536 in
theorem w_c2 : (Jvm.Cond.code ({ cls := "com/example/tranchor/tranchor/Parts", name := "<init>", desc := "([JJ)V" } : Jvm.MethodName) prog_6_method_1_code (4 : Nat) (Option.none : Option Jvm.ClassFile.FieldType)).before args0 about1 = true := code_word (m := ⟨2, 0⟩) (meth := k2m0) (c := k2c0) (by decide +kernel) rfl rfl rfl (by decide +kernel)
set_option maxRecDepth 65536 in
theorem w_c3 : (Jvm.Cond.code ({ cls := "java/lang/Object", name := "<init>", desc := "()V" } : Jvm.MethodName) object_method_1_code (1 : Nat) (Option.none : Option Jvm.ClassFile.FieldType)).before args0 about1 = true := code_word (m := ⟨0, 0⟩) (meth := k0m0) (c := k0c0) (by decide +kernel) rfl rfl rfl (by decide +kernel)
set_option maxRecDepth 65536 in
theorem w_c4 : (Jvm.Cond.code ({ cls := "com/example/tranchor/tranchor/Parts", name := "size", desc := "()I" } : Jvm.MethodName) prog_6_method_6_code (1 : Nat) (Option.some Jvm.ClassFile.FieldType.int)).before args0 about1 = true := code_word (m := ⟨2, 2⟩) (meth := k2m2) (c := k2c2) (by decide +kernel) rfl rfl rfl (by decide +kernel)
set_option maxRecDepth 65536 in
theorem w_c5 : (Jvm.Cond.code ({ cls := "com/example/tranchor/tranchor/Parts", name := "isLong", desc := "()Z" } : Jvm.MethodName) prog_6_method_16_code (1 : Nat) (Option.some Jvm.ClassFile.FieldType.boolean)).before args0 about1 = true := code_word (m := ⟨2, 6⟩) (meth := k2m6) (c := k2c6) (by decide +kernel) rfl rfl rfl (by decide +kernel)
set_option maxRecDepth 65536 in
theorem w_c6 : (Jvm.Cond.code ({ cls := "com/example/tranchor/tranchor/Fraction", name := "of", desc := "(JJ)Lcom/example/tranchor/tranchor/Fraction;" } : Jvm.MethodName) prog_3_method_4_code (6 : Nat) (Option.some (Jvm.ClassFile.FieldType.object "com/example/tranchor/tranchor/Fraction"))).before args0 about1 = true := code_word (m := ⟨4, 1⟩) (meth := k4m1) (c := k4c1) (by decide +kernel) rfl rfl rfl (by decide +kernel)
set_option maxRecDepth 65536 in
theorem w_c7 : (Jvm.Cond.code ({ cls := "java/lang/Math", name := "abs", desc := "(J)J" } : Jvm.MethodName) jdk_29_method_61_code (2 : Nat) (Option.some Jvm.ClassFile.FieldType.long)).before args0 about1 = true := code_word (m := ⟨5, 2⟩) (meth := k5m2) (c := k5c2) (by decide +kernel) rfl rfl rfl (by decide +kernel)
set_option maxRecDepth 65536 in
theorem w_c8 : (Jvm.Cond.code ({ cls := "com/example/tranchor/tranchor/Fraction", name := "gcd", desc := "(JJ)J" } : Jvm.MethodName) prog_3_method_32_code (10 : Nat) (Option.some Jvm.ClassFile.FieldType.long)).before args0 about1 = true := code_word (m := ⟨4, 5⟩) (meth := k4m5) (c := k4c5) (by decide +kernel) rfl rfl rfl (by decide +kernel)
set_option maxRecDepth 65536 in
theorem w_c9 : (Jvm.Cond.code ({ cls := "com/example/tranchor/tranchor/Fraction", name := "reduced", desc := "(JJ)Lcom/example/tranchor/tranchor/Fraction;" } : Jvm.MethodName) prog_3_method_28_code (4 : Nat) (Option.some (Jvm.ClassFile.FieldType.object "com/example/tranchor/tranchor/Fraction"))).before args0 about1 = true := code_word (m := ⟨4, 4⟩) (meth := k4m4) (c := k4c4) (by decide +kernel) rfl rfl rfl (by decide +kernel)
set_option maxRecDepth 65536 in
theorem w_c10 : (Jvm.Cond.code ({ cls := "com/example/tranchor/tranchor/Fraction", name := "<init>", desc := "(JJ)V" } : Jvm.MethodName) prog_3_method_1_code (5 : Nat) (Option.none : Option Jvm.ClassFile.FieldType)).before args0 about1 = true := code_word (m := ⟨4, 0⟩) (meth := k4m0) (c := k4c0) (by decide +kernel) rfl rfl rfl (by decide +kernel)
set_option maxRecDepth 65536 in
theorem w_c11 : (Jvm.Cond.code ({ cls := "com/example/tranchor/tranchor/Fraction", name := "equals", desc := "(Ljava/lang/Object;)Z" } : Jvm.MethodName) prog_3_method_14_code (4 : Nat) (Option.some Jvm.ClassFile.FieldType.boolean)).before args0 about1 = true := code_word (m := ⟨4, 2⟩) (meth := k4m2) (c := k4c2) (by decide +kernel) rfl rfl rfl (by decide +kernel)
set_option maxRecDepth 65536 in
theorem w_c12 : (Jvm.Cond.code ({ cls := "com/example/tranchor/tranchor/Fraction", name := "isLong", desc := "()Z" } : Jvm.MethodName) prog_3_method_17_code (1 : Nat) (Option.some Jvm.ClassFile.FieldType.boolean)).before args0 about1 = true := code_word (m := ⟨4, 3⟩) (meth := k4m3) (c := k4c3) (by decide +kernel) rfl rfl rfl (by decide +kernel)
set_option maxRecDepth 65536 in
theorem w_c13 : (Jvm.Cond.code ({ cls := "java/lang/Math", name := "addExact", desc := "(JJ)J" } : Jvm.MethodName) jdk_29_method_25_code (6 : Nat) (Option.some Jvm.ClassFile.FieldType.long)).before args0 about1 = true := code_word (m := ⟨5, 1⟩) (meth := k5m1) (c := k5c1) (by decide +kernel) rfl rfl rfl (by decide +kernel)
set_option maxRecDepth 65536 in
theorem w_c14 : (Jvm.Cond.code ({ cls := "com/example/tranchor/tranchor/Parts", name := "isZero", desc := "(I)Z" } : Jvm.MethodName) prog_6_method_8_code (2 : Nat) (Option.some Jvm.ClassFile.FieldType.boolean)).before args0 about1 = true := code_word (m := ⟨2, 4⟩) (meth := k2m4) (c := k2c4) (by decide +kernel) rfl rfl rfl (by decide +kernel)
set_option maxRecDepth 65536 in
theorem w_c15 : (Jvm.Cond.code ({ cls := "com/example/tranchor/tranchor/Parts", name := "get", desc := "(I)Lcom/example/tranchor/tranchor/Fraction;" } : Jvm.MethodName) prog_6_method_7_code (2 : Nat) (Option.some (Jvm.ClassFile.FieldType.object "com/example/tranchor/tranchor/Fraction"))).before args0 about1 = true := code_word (m := ⟨2, 3⟩) (meth := k2m3) (c := k2c3) (by decide +kernel) rfl rfl rfl (by decide +kernel)
def codes1 : List Jvm.Cond := [Jvm.Cond.code x code maxLocals ret, Jvm.Cond.code ({ cls := "com/example/tranchor/tranchor/Parts", name := "zeros", desc := "(I)Lcom/example/tranchor/tranchor/Parts;" } : Jvm.MethodName) prog_6_method_5_code (1 : Nat) (Option.some (Jvm.ClassFile.FieldType.object "com/example/tranchor/tranchor/Parts")), Jvm.Cond.code ({ cls := "com/example/tranchor/tranchor/Parts", name := "<init>", desc := "([JJ)V" } : Jvm.MethodName) prog_6_method_1_code (4 : Nat) (Option.none : Option Jvm.ClassFile.FieldType), Jvm.Cond.code ({ cls := "java/lang/Object", name := "<init>", desc := "()V" } : Jvm.MethodName) object_method_1_code (1 : Nat) (Option.none : Option Jvm.ClassFile.FieldType), Jvm.Cond.code ({ cls := "com/example/tranchor/tranchor/Parts", name := "size", desc := "()I" } : Jvm.MethodName) prog_6_method_6_code (1 : Nat) (Option.some Jvm.ClassFile.FieldType.int), Jvm.Cond.code ({ cls := "com/example/tranchor/tranchor/Parts", name := "isLong", desc := "()Z" } : Jvm.MethodName) prog_6_method_16_code (1 : Nat) (Option.some Jvm.ClassFile.FieldType.boolean), Jvm.Cond.code ({ cls := "com/example/tranchor/tranchor/Fraction", name := "of", desc := "(JJ)Lcom/example/tranchor/tranchor/Fraction;" } : Jvm.MethodName) prog_3_method_4_code (6 : Nat) (Option.some (Jvm.ClassFile.FieldType.object "com/example/tranchor/tranchor/Fraction")), Jvm.Cond.code ({ cls := "java/lang/Math", name := "abs", desc := "(J)J" } : Jvm.MethodName) jdk_29_method_61_code (2 : Nat) (Option.some Jvm.ClassFile.FieldType.long), Jvm.Cond.code ({ cls := "com/example/tranchor/tranchor/Fraction", name := "gcd", desc := "(JJ)J" } : Jvm.MethodName) prog_3_method_32_code (10 : Nat) (Option.some Jvm.ClassFile.FieldType.long), Jvm.Cond.code ({ cls := "com/example/tranchor/tranchor/Fraction", name := "reduced", desc := "(JJ)Lcom/example/tranchor/tranchor/Fraction;" } : Jvm.MethodName) prog_3_method_28_code (4 : Nat) (Option.some (Jvm.ClassFile.FieldType.object "com/example/tranchor/tranchor/Fraction")), Jvm.Cond.code ({ cls := "com/example/tranchor/tranchor/Fraction", name := "<init>", desc := "(JJ)V" } : Jvm.MethodName) prog_3_method_1_code (5 : Nat) (Option.none : Option Jvm.ClassFile.FieldType), Jvm.Cond.code ({ cls := "com/example/tranchor/tranchor/Fraction", name := "equals", desc := "(Ljava/lang/Object;)Z" } : Jvm.MethodName) prog_3_method_14_code (4 : Nat) (Option.some Jvm.ClassFile.FieldType.boolean), Jvm.Cond.code ({ cls := "com/example/tranchor/tranchor/Fraction", name := "isLong", desc := "()Z" } : Jvm.MethodName) prog_3_method_17_code (1 : Nat) (Option.some Jvm.ClassFile.FieldType.boolean), Jvm.Cond.code ({ cls := "java/lang/Math", name := "addExact", desc := "(JJ)J" } : Jvm.MethodName) jdk_29_method_25_code (6 : Nat) (Option.some Jvm.ClassFile.FieldType.long), Jvm.Cond.code ({ cls := "com/example/tranchor/tranchor/Parts", name := "isZero", desc := "(I)Z" } : Jvm.MethodName) prog_6_method_8_code (2 : Nat) (Option.some Jvm.ClassFile.FieldType.boolean), Jvm.Cond.code ({ cls := "com/example/tranchor/tranchor/Parts", name := "get", desc := "(I)Lcom/example/tranchor/tranchor/Fraction;" } : Jvm.MethodName) prog_6_method_7_code (2 : Nat) (Option.some (Jvm.ClassFile.FieldType.object "com/example/tranchor/tranchor/Fraction"))]
set_option maxRecDepth 65536 in
theorem codes_eq : words1.filter isCode = codes1 := rfl
theorem w_codes : ∀ c ∈ words1.filter isCode, c.before args0 about1 = true := by
  rw [codes_eq]
  intro c hc
  simp only [codes1, List.mem_cons, List.not_mem_nil, or_false] at hc
  rcases hc with rfl | rfl | rfl | rfl | rfl | rfl | rfl | rfl | rfl | rfl | rfl | rfl | rfl | rfl | rfl | rfl
  · exact w_c0
  · exact w_c1
  · exact w_c2
  · exact w_c3
  · exact w_c4
  · exact w_c5
  · exact w_c6
  · exact w_c7
  · exact w_c8
  · exact w_c9
  · exact w_c10
  · exact w_c11
  · exact w_c12
  · exact w_c13
  · exact w_c14
  · exact w_c15
set_option maxRecDepth 65536 in
theorem w_t1 : (words1.take 24).all (fun c => isCode c || c.before args0 about1) = true := by decide +kernel
set_option maxRecDepth 65536 in
theorem w_t2 : ((words1.drop 24).take 24).all (fun c => isCode c || c.before args0 about1) = true := by decide +kernel
set_option maxRecDepth 65536 in
theorem w_t3 : (((words1.drop 24).drop 24).take 24).all (fun c => isCode c || c.before args0 about1) = true := by decide +kernel
set_option maxRecDepth 65536 in
theorem w_t4 : (((words1.drop 24).drop 24).drop 24).all (fun c => isCode c || c.before args0 about1) = true := by decide +kernel
theorem w_tables : (allAtoms (Jvm.Cond.code x code maxLocals ret :: tables_1)).before args0 about1 = true := by
  rw [allAtoms_all]
  show words1.all (fun c => c.before args0 about1) = true
  refine all_split ?_ w_codes
  rw [← List.take_append_drop 24 words1, List.all_append, w_t1, ← List.take_append_drop 24 (words1.drop 24), List.all_append, w_t2, ← List.take_append_drop 24 ((words1.drop 24).drop 24), List.all_append, w_t3, w_t4]
  rfl
set_option maxRecDepth 65536 in
theorem w_case : (Jvm.Cond.and given_1 narrow_1).before args0 about1 = true := by decide +kernel
theorem w_applies : (headSpec (Jvm.Cond.code x code maxLocals ret :: tables_1) room_1).applies x e0.platform about1 = true :=
  (Spec.applies_iff w_frames).mpr ⟨w_running, w_runnable, w_alone, w_named, w_hears, w_ripe, w_room, w_tables⟩
theorem atStart : AtStart classFile x code maxLocals ret World_1 tables_1 room_1 Calls_1 rest_1 Pre_1 launch0 p0 e0 about1 theMethod args0 below0 :=
  ⟨lists_1, trivial, launch0.admits_env _ _ _, launch0.least_env, fairChoices_fair.cas, fairChoices_fair.clock, w_frames, w_args, w_heap, w_applies, trivial, trivial, w_case⟩
end start1
theorem witness_1 : WitnessClaimed_1 := ⟨start1.p0, start1.e0, start1.about1, start1.theMethod, start1.args0, start1.below0, start1.atStart⟩
end Jvm.Pilot.@@N@@
