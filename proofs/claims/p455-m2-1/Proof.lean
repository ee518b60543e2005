import JvmDerived
import JvmDerived.Pilot.@@N@@Statement
import JvmDerived.Pilot.@@N@@Code
set_option linter.unusedVariables false
set_option linter.unusedSimpArgs false
namespace Jvm.RoadKit
open Sem ClassFile Op Lib Jvm.Stand Jvm.Free Jvm.LawKit
section New
variable {p : Program} {l : Launch} {e : Env} {R : Room} {s : State} {m : MethodId} {args : Array Value} {below : List Frame} {meth : Method} {c : Code} {T : State} {locs : List Loc} {cells slots : Nat}
theorem retI (X : Stand p l e R s m args below meth c T locs cells slots) (hx : p.tables.exec = Jvm.exec) {pc : Nat} {Ls : Array Slot} {z : Int32} {rest : List Value} (hret : meth.sig.returnType = some .int) (hd : decode c.code pc = .ok (.ireturn, 1)) {fs : List Frame}
    (hl : ∀ (f : JFrame) (acts : List Action), f.method = m → f.locked = none → f.entered = [] → (doReturn e (T.setTop f) acts (some (.int z))).1 = T.setFrames fs) : Steps p.tables e below (T.setTop (mkF m pc Ls (.int z :: rest))) (T.setFrames fs) := by
  have hm' : T.vm.method? m = some meth := X.method'
  have hn : narrow .int (.int z) = .int z := rfl
  show Steps p.tables e below (T.setTop { method := m, pc := pc, locals := Ls, stack := _ :: rest, locked := none }) _
  jvm_step X.here [X.here.top, hx, hd, hm', hret, hn]
  first | (intro acts; rw [hl _ acts rfl rfl rfl]) | rw [hl _ _ rfl rfl rfl]
  exact Steps.refl _
end New
end Jvm.RoadKit
namespace Jvm.Pilot.@@N@@
open Jvm Jvm.ClassFile Sem Op Lib Jvm.Free Jvm.Stand Jvm.LawKit Jvm.RoadKit Bundle Jvm.Pilot.@@N@@.Jvm.D

def own_Q (r : Option Value) (h0 : Heap) (n0 : Nat) (v : Option Value) (h : Heap) (L : List Loc) : Prop := v = r ∧ Fr n0 L ∧ h = h0
def own_Q0 (n0 : Nat) (v : Option Value) (h : Heap) (L : List Loc) : Prop := v = some (.int 1) ∧ Fr n0 L
def own_P (Z : State) (h : Heap) (w0 w1 w2 w3 : Addr) : Prop := (Sta Z h "com/example/chitragupta/chitragupta/rating/Span$Unit" "DAY" "Lcom/example/chitragupta/chitragupta/rating/Span$Unit;" (.ref w0)) ∧ (Exa Z h w0 "com/example/chitragupta/chitragupta/rating/Span$Unit") ∧ (Fld Z h w0 "java/lang/Enum" "ordinal" "I" (.int (0 : Int32))) ∧ (Sta Z h "com/example/chitragupta/chitragupta/rating/Span$Unit" "WEEK" "Lcom/example/chitragupta/chitragupta/rating/Span$Unit;" (.ref w1)) ∧ (Exa Z h w1 "com/example/chitragupta/chitragupta/rating/Span$Unit") ∧ (Fld Z h w1 "java/lang/Enum" "ordinal" "I" (.int (1 : Int32))) ∧ (Sta Z h "com/example/chitragupta/chitragupta/rating/Span$Unit" "MONTH" "Lcom/example/chitragupta/chitragupta/rating/Span$Unit;" (.ref w2)) ∧ (Exa Z h w2 "com/example/chitragupta/chitragupta/rating/Span$Unit") ∧ (Fld Z h w2 "java/lang/Enum" "ordinal" "I" (.int (2 : Int32))) ∧ (Sta Z h "com/example/chitragupta/chitragupta/rating/Span$Unit" "YEAR" "Lcom/example/chitragupta/chitragupta/rating/Span$Unit;" (.ref w3)) ∧ (Exa Z h w3 "com/example/chitragupta/chitragupta/rating/Span$Unit") ∧ (Fld Z h w3 "java/lang/Enum" "ordinal" "I" (.int (3 : Int32)))
theorem own_P_ext {Z : State} {h h' : Heap} {w0 w1 w2 w3 : Addr} (P : own_P Z h w0 w1 w2 w3) (E : Ext h h') : own_P Z h' w0 w1 w2 w3 := by
  obtain ⟨S0, E0, F0_ordinal, S1, E1, F1_ordinal, S2, E2, F2_ordinal, S3, E3, F3_ordinal⟩ := P
  exact ⟨S0.ext E, E0.ext E, F0_ordinal.ext E, S1.ext E, E1.ext E, F1_ordinal.ext E, S2.ext E, E2.ext E, F2_ordinal.ext E, S3.ext E, E3.ext E, F3_ordinal.ext E⟩
theorem own_fldI {args : Array Value} {s : State} {t : Term} {C n d : String} {a : Addr} {k : Int32} (ev : t.eval args s none [] s = some (.ref a)) (h : (Jvm.Cond.eq (Jvm.Term.field t C n d) (Jvm.Term.int k)).value args s none s [] = some true) : Fld s s.heap a C n d (.int k) := by
  obtain ⟨x, y, e1, e2, K1, K2⟩ := cmp_v (Or.inl h)
  have e3 : (Jvm.Term.int k).eval args s none [] s = some (.int k) := rfl
  obtain rfl : y = .int k := Option.some.inj (e2.symm.trans e3)
  obtain ⟨z, rfl⟩ := K2
  obtain rfl : z = k := gotT (Jvm.Cond.eq_ints e1 e3) h
  exact Fld.start ((fld_at ev).symm.trans e1)
theorem own_fldJ {args : Array Value} {s : State} {t : Term} {C n d : String} {a : Addr} {k : Int64} (ev : t.eval args s none [] s = some (.ref a)) (h : (Jvm.Cond.eq (Jvm.Term.field t C n d) (Jvm.Term.long k)).value args s none s [] = some true) : Fld s s.heap a C n d (.long k) := by
  obtain ⟨x, y, e1, e2, K1, K2⟩ := cmp_v (Or.inl h)
  have e3 : (Jvm.Term.long k).eval args s none [] s = some (.long k) := rfl
  obtain rfl : y = .long k := Option.some.inj (e2.symm.trans e3)
  obtain ⟨z, rfl⟩ := K2
  obtain rfl : z = k := gotT (eq_L e1 e3) h
  exact Fld.start ((fld_at ev).symm.trans e1)
theorem own_ext_trans {h h' h'' : Heap} (E : Ext h h') (E' : Ext h' h'') : Ext h h'' := ⟨Nat.le_trans E.1 E'.1, fun a c q => E'.2 a c (E.2 a c q)⟩
theorem own_ext_wr {h0 h h' : Heap} {a : Addr} {sl : Nat} {v : Value} (E : Ext h0 h) (W : Wr h h' a sl v) (q : h0.size ≤ a) : Ext h0 h' := by
  refine ⟨by rw [W.size]; exact E.1, fun b c hb => ?_⟩
  have hne : b ≠ a := Nat.ne_of_lt (Nat.lt_of_lt_of_le (Array.getElem?_eq_some_iff.mp hb).1 q)
  obtain ⟨c', e1, -, -, -, e5, -⟩ := wr_at W (E.2 b c hb)
  rw [e1, e5 hne]
theorem own_stR {p : Program} {l : Launch} {e : Env} {R : Room} {s : State} {m : MethodId} {args : Array Value} {below : List Frame} {meth : Method} {c : Code} {T : State} {locs : List Loc} {cells slots : Nat} {Z : State} {h : Heap}
    (X : Stand p l e R s m args below meth c T locs cells slots) (hx : p.tables.exec = Jvm.exec) (hZ : Z.Warmed39 s.vm) (eT : T.heap = h) {a y : Addr} {k : ClassId} {ty : FieldType} {z : Int32} {vs : List Value} {dv : Value} {C : String} (F : Arv Z h a k ty z vs dv) (O : Ovr Z k C) (I : Ins Z h y C true) {j : Int32} (hj : ¬ j < 0 ∧ j < z) {i : Nat} (hi : j.toNatClampNeg = i) (hl : i < vs.length) (hty : ty.isReference = true)
    {g : JFrame} (hg : g.method = m) {rest : List Value} (hs : g.stack = .ref y :: .int j :: .ref a :: rest) (hd : decode c.code g.pc = .ok (.aastore, 1)) :
    ∃ T' h', Stand p l e R s m args below meth c T' (locs ++ [⟨a, j.toNatClampNeg⟩]) cells slots ∧ T'.heap = h' ∧ Wr h h' a j.toNatClampNeg (.ref y) ∧ Arv Z h' a k ty z (vs.set i (.ref y)) dv ∧ ∀ target, Steps p.tables e below (T'.setTop { g with pc := g.pc + 1, stack := rest }) target → Steps p.tables e below (T.setTop g) target := by
  obtain ⟨cl, A, q1, S, q3, H, G⟩ := F
  obtain ⟨T', h', X', e', W, st⟩ := stR X hx hZ eT A (inb_of S hj) hty (Sto.ofV A q1 O I) hg hs hd
  exact ⟨T', h', X', e', W, Arv.set A q1 S q3 H G (by cases ty <;> first | rfl | cases hty) W i hi hl, st⟩
theorem own_at {Z : State} {h : Heap} {a : Addr} {k : ClassId} {ty : FieldType} {z : Int32} {vs : List Value} {dv : Value} (F : Arv Z h a k ty z vs dv) {j : Int32} {v : Value} (hj : ¬ j < 0 ∧ j < z) (u : vs.getD j.toNatClampNeg dv = v) :
    ∃ c : Cell, Arr Z h a c ty ∧ ¬ (j < 0 ∨ c.slots.size ≤ j.toNatClampNeg) ∧ c.slots[j.toNatClampNeg]? = some v := by
  obtain ⟨c, A, -, S, -, H, -⟩ := F
  exact ⟨c, A, inb_of S hj, H.at (inb_of S hj) u⟩
theorem own_ext_refl (h : Heap) : Ext h h := ⟨Nat.le_refl _, fun _ _ q => q⟩
theorem own_ext_keep {h0 h h' : Heap} {ws : List Addr} (E : Ext h0 h) (K : Keep h h' ws) (q : ∀ x ∈ ws, h0.size ≤ x) : Ext h0 h' :=
  ⟨Nat.le_trans E.1 K.1, fun a c r => K.2.1 a c (E.2 a c r) fun z => absurd (Array.getElem?_eq_some_iff.mp r).1 (Nat.not_lt.mpr (q a z))⟩
theorem own_stI {p : Program} {l : Launch} {e : Env} {R : Room} {s : State} {m : MethodId} {args : Array Value} {below : List Frame} {meth : Method} {c : Code} {T : State} {locs : List Loc} {cells slots : Nat} {Z : State} {h : Heap}
    (X : Stand p l e R s m args below meth c T locs cells slots) (hx : p.tables.exec = Jvm.exec) (hZ : Z.Warmed39 s.vm) (eT : T.heap = h) {a : Addr} {k : ClassId} {z : Int32} {vs : List Value} {dv : Value} (F : Arv Z h a k .int z vs dv) {j x : Int32} (hj : ¬ j < 0 ∧ j < z) {i : Nat} (hi : j.toNatClampNeg = i) (hl : i < vs.length)
    {g : JFrame} (hg : g.method = m) {rest : List Value} (hs : g.stack = .int x :: .int j :: .ref a :: rest) (hd : decode c.code g.pc = .ok (.iastore, 1)) :
    ∃ T' h', Stand p l e R s m args below meth c T' (locs ++ [⟨a, j.toNatClampNeg⟩]) cells slots ∧ T'.heap = h' ∧ Wr h h' a j.toNatClampNeg (.int x) ∧ Arv Z h' a k .int z (vs.set i (.int x)) dv ∧ ∀ target, Steps p.tables e below (T'.setTop { g with pc := g.pc + 1, stack := rest }) target → Steps p.tables e below (T.setTop g) target := by
  obtain ⟨cl, A, q1, S, q3, H, G⟩ := F
  obtain ⟨T', h', X', e', W, st⟩ := stI X hx hZ eT A (inb_of S hj) hg hs hd
  exact ⟨T', h', X', e', W, Arv.set A q1 S q3 H G rfl W i hi hl, st⟩
theorem own_stC {p : Program} {l : Launch} {e : Env} {R : Room} {s : State} {m : MethodId} {args : Array Value} {below : List Frame} {meth : Method} {c : Code} {T : State} {locs : List Loc} {cells slots : Nat} {Z : State} {h : Heap}
    (X : Stand p l e R s m args below meth c T locs cells slots) (hx : p.tables.exec = Jvm.exec) (hZ : Z.Warmed39 s.vm) (eT : T.heap = h) {a : Addr} {k : ClassId} {z : Int32} {vs : List Value} {dv : Value} (F : Arv Z h a k .char z vs dv) {j x : Int32} (hj : ¬ j < 0 ∧ j < z) {i : Nat} (hi : j.toNatClampNeg = i) (hl : i < vs.length)
    {g : JFrame} (hg : g.method = m) {rest : List Value} (hs : g.stack = .int x :: .int j :: .ref a :: rest) (hd : decode c.code g.pc = .ok (.castore, 1)) :
    ∃ T' h', Stand p l e R s m args below meth c T' (locs ++ [⟨a, j.toNatClampNeg⟩]) cells slots ∧ T'.heap = h' ∧ Wr h h' a j.toNatClampNeg (.int (nar .char x)) ∧ Arv Z h' a k .char z (vs.set i (.int (nar .char x))) dv ∧ ∀ target, Steps p.tables e below (T'.setTop { g with pc := g.pc + 1, stack := rest }) target → Steps p.tables e below (T.setTop g) target := by
  obtain ⟨cl, A, q1, S, q3, H, G⟩ := F
  obtain ⟨T', h', X', e', W, st⟩ := stC X hx hZ eT A (inb_of S hj) hg hs hd
  exact ⟨T', h', X', e', W, Arv.set A q1 S q3 H G (fits_nar_char x) W i hi hl, st⟩
theorem own_selP {s : State} {args : Array Value} {y z : MethodName} {C : String} (hs : (Jvm.Cond.selects C z z).before args s = true) (hcls : z.cls = y.cls) (hp : s.PrivateAt y) (hi : (Jvm.Cond.instanceMethod y).before args s = true) (hy : y.cls ≠ "java/lang/invoke/MethodHandle" ∧ y.cls ≠ "java/lang/invoke/VarHandle") : (Jvm.Cond.selects y.cls y y).before args s = true := by
  obtain ⟨c2, r2, m2, q1, q2, q3, q4, kP, hkP, hkPi⟩ := Cond.selects_spec hs
  exact selects_self_of_private (hcls ▸ findClass_of_methodNamed q3) hkP hkPi hp hi hy
def own_max (x : Int32) : Int32 := if (1 : Int32) < x then x else 1
theorem d_jdk_29_method_65_code_0 : decode jdk_29_method_65_code 0 = .ok (.iload_n 0, 1) := by decide +kernel
theorem d_jdk_29_method_65_code_1 : decode jdk_29_method_65_code 1 = .ok (.iload_n 1, 1) := by decide +kernel
theorem d_jdk_29_method_65_code_2 : decode jdk_29_method_65_code 2 = .ok (.if_icmp .lt 7, 3) := by decide +kernel
theorem d_jdk_29_method_65_code_9 : decode jdk_29_method_65_code 9 = .ok (.iload_n 1, 1) := by decide +kernel
theorem d_jdk_29_method_65_code_10 : decode jdk_29_method_65_code 10 = .ok (.ireturn, 1) := by decide +kernel
theorem d_jdk_29_method_65_code_5 : decode jdk_29_method_65_code 5 = .ok (.iload_n 0, 1) := by decide +kernel
theorem d_jdk_29_method_65_code_6 : decode jdk_29_method_65_code 6 = .ok (.goto 4, 3) := by decide +kernel
theorem ef_jdk_29_method_65_code_II (m : MethodId) (x0 : Int32) (x1 : Int32) : entryFrame m #[(.int x0), (.int x1)] 2 = mkF m 0 #[.val (.int x0), .val (.int x1)] [] := by first | (simp [entryFrame, mkF, argsToLocals, Value.category]; done) | rfl
theorem pf_jdk_29_method_65_code : plainFor (⟨"java/lang/Math", "max", "(II)I"⟩ : MethodName) = true := by decide +kernel
set_option maxRecDepth 65536 in
set_option maxHeartbeats 40000000 in
theorem own_max_y (l : Launch) (Z : State) (a0 : Array Value) (hw : ∀ d ∈ tables_1, d.before a0 Z = true) (ws : List Jvm.Cond) (xx : Int32) (h0 : Heap) (n0 : Nat) (Z0 : n0 ≤ h0.size) (hlt : (1 : Int32) < xx) :
    MetFree l (⟨"java/lang/Math", "max", "(II)I"⟩ : MethodName) (head1 (Jvm.Cond.code (⟨"java/lang/Math", "max", "(II)I"⟩ : MethodName) jdk_29_method_65_code 2 (some .int) :: ws) ({ frames := 0, cells := 0, slots := 0, locals := 0 } : Room)) (fun a U => a = #[(.int (1 : Int32)), (.int xx)] ∧ Z.Warmed39 U.vm ∧ U.heap = h0) (fun _ _ _ _ _ => True) (fun _ U o U' => ∃ v L, o = .returned v ∧ own_Q (some (.int (own_max xx))) h0 n0 v U'.heap L ∧ FrameEnd U o U' L ({ frames := 0, cells := 0, slots := 0, locals := 0 } : Room).cells ({ frames := 0, cells := 0, slots := 0, locals := 0 } : Room).slots) := by
  refine MetFree.of_bodySF pf_jdk_29_method_65_code hisR ?_
  intro p e s m args below meth c s₁ Bd hml0 hP hK
  obtain ⟨rfl, hZ, hh⟩ := hP
  have hx := Bd.exec
  have hby := Bd.bytes
  have hml : c.maxLocals = 2 := hml0
  have hown : s.vm.findClass "java/lang/Math" = some m.cls := findClass_of_methodNamed Bd.named
  have hnm := (name_of_methodNamed Bd.named Bd.method).1
  have X0 : Stand p l e ({ frames := 0, cells := 0, slots := 0, locals := 0 } : Room) s m #[(.int (1 : Int32)), (.int xx)] below meth c s₁ [] 0 0 := Stand.of_body Bd
  have e0 : s₁.heap = h0 := by rw [← hh, Bd.state]; rfl
  have N0 := Fr.nil n0
  have pre0 : ∀ t, Steps p.tables e below (s₁.setTop (mkF m 0 #[.val (.int (1 : Int32)), .val (.int xx)] [])) t → Steps p.tables e below (s₁.setTop (entryFrame m #[(.int (1 : Int32)), (.int xx)] 2)) t := fun t k => castTop (ef_jdk_29_method_65_code_II m (1 : Int32) xx) k
  obtain ⟨fs, hr, hrun, hended, hW, hsame⟩ := X0.leave (v := some (.int xx)) (fun h => by rw [Bd.returns] at h; cases h)
  refine ⟨_, _, pre0 _ ?_, hrun, hended, _, _, rfl, ?_, ⟨_, rfl⟩, hW, hsame.mono (by decide) (by decide)⟩
  · show Steps p.tables e below (s₁.setTop (mkF m 0 #[.val (.int (1 : Int32)), .val (.int xx)] [])) _
    refine XS.iloadN X0.here hx rfl (hb hby d_jdk_29_method_65_code_0) rfl ?_
    show Steps p.tables e below (s₁.setTop (mkF m 1 #[.val (.int (1 : Int32)), .val (.int xx)] [(.int (1 : Int32))])) _
    refine XS.iloadN X0.here hx rfl (hb hby d_jdk_29_method_65_code_1) rfl ?_
    show Steps p.tables e below (s₁.setTop (mkF m 2 #[.val (.int (1 : Int32)), .val (.int xx)] [(.int xx), (.int (1 : Int32))])) _
    refine XS.icmpYes X0.here hx rfl (pc0 := 2) (pc' := 9) rfl (hb hby d_jdk_29_method_65_code_2) rfl (XT.ii_lt_t hlt) (by decide) (by decide) ?_
    show Steps p.tables e below (s₁.setTop (mkF m 9 #[.val (.int (1 : Int32)), .val (.int xx)] [])) _
    refine XS.iloadN X0.here hx rfl (hb hby d_jdk_29_method_65_code_9) rfl ?_
    show Steps p.tables e below (s₁.setTop (mkF m 10 #[.val (.int (1 : Int32)), .val (.int xx)] [(.int xx)])) _
    exact retI X0 hx Bd.returns (hb hby d_jdk_29_method_65_code_10) hr
  · show own_Q (some (.int (own_max xx))) h0 n0 _ s₁.heap _
    rw [e0]
    exact ⟨by rw [own_max, if_pos hlt], N0, rfl⟩
set_option maxRecDepth 65536 in
set_option maxHeartbeats 40000000 in
theorem own_max_n (l : Launch) (Z : State) (a0 : Array Value) (hw : ∀ d ∈ tables_1, d.before a0 Z = true) (ws : List Jvm.Cond) (xx : Int32) (h0 : Heap) (n0 : Nat) (Z0 : n0 ≤ h0.size) (hlt : ¬ (1 : Int32) < xx) :
    MetFree l (⟨"java/lang/Math", "max", "(II)I"⟩ : MethodName) (head1 (Jvm.Cond.code (⟨"java/lang/Math", "max", "(II)I"⟩ : MethodName) jdk_29_method_65_code 2 (some .int) :: ws) ({ frames := 0, cells := 0, slots := 0, locals := 0 } : Room)) (fun a U => a = #[(.int (1 : Int32)), (.int xx)] ∧ Z.Warmed39 U.vm ∧ U.heap = h0) (fun _ _ _ _ _ => True) (fun _ U o U' => ∃ v L, o = .returned v ∧ own_Q (some (.int (own_max xx))) h0 n0 v U'.heap L ∧ FrameEnd U o U' L ({ frames := 0, cells := 0, slots := 0, locals := 0 } : Room).cells ({ frames := 0, cells := 0, slots := 0, locals := 0 } : Room).slots) := by
  refine MetFree.of_bodySF pf_jdk_29_method_65_code hisR ?_
  intro p e s m args below meth c s₁ Bd hml0 hP hK
  obtain ⟨rfl, hZ, hh⟩ := hP
  have hx := Bd.exec
  have hby := Bd.bytes
  have hml : c.maxLocals = 2 := hml0
  have hown : s.vm.findClass "java/lang/Math" = some m.cls := findClass_of_methodNamed Bd.named
  have hnm := (name_of_methodNamed Bd.named Bd.method).1
  have X0 : Stand p l e ({ frames := 0, cells := 0, slots := 0, locals := 0 } : Room) s m #[(.int (1 : Int32)), (.int xx)] below meth c s₁ [] 0 0 := Stand.of_body Bd
  have e0 : s₁.heap = h0 := by rw [← hh, Bd.state]; rfl
  have N0 := Fr.nil n0
  have pre0 : ∀ t, Steps p.tables e below (s₁.setTop (mkF m 0 #[.val (.int (1 : Int32)), .val (.int xx)] [])) t → Steps p.tables e below (s₁.setTop (entryFrame m #[(.int (1 : Int32)), (.int xx)] 2)) t := fun t k => castTop (ef_jdk_29_method_65_code_II m (1 : Int32) xx) k
  obtain ⟨fs, hr, hrun, hended, hW, hsame⟩ := X0.leave (v := some (.int (1 : Int32))) (fun h => by rw [Bd.returns] at h; cases h)
  refine ⟨_, _, pre0 _ ?_, hrun, hended, _, _, rfl, ?_, ⟨_, rfl⟩, hW, hsame.mono (by decide) (by decide)⟩
  · show Steps p.tables e below (s₁.setTop (mkF m 0 #[.val (.int (1 : Int32)), .val (.int xx)] [])) _
    refine XS.iloadN X0.here hx rfl (hb hby d_jdk_29_method_65_code_0) rfl ?_
    show Steps p.tables e below (s₁.setTop (mkF m 1 #[.val (.int (1 : Int32)), .val (.int xx)] [(.int (1 : Int32))])) _
    refine XS.iloadN X0.here hx rfl (hb hby d_jdk_29_method_65_code_1) rfl ?_
    show Steps p.tables e below (s₁.setTop (mkF m 2 #[.val (.int (1 : Int32)), .val (.int xx)] [(.int xx), (.int (1 : Int32))])) _
    refine XS.icmpNo X0.here hx rfl (hb hby d_jdk_29_method_65_code_2) rfl (XT.ii_lt_f hlt) ?_
    show Steps p.tables e below (s₁.setTop (mkF m 5 #[.val (.int (1 : Int32)), .val (.int xx)] [])) _
    refine XS.iloadN X0.here hx rfl (hb hby d_jdk_29_method_65_code_5) rfl ?_
    show Steps p.tables e below (s₁.setTop (mkF m 6 #[.val (.int (1 : Int32)), .val (.int xx)] [(.int (1 : Int32))])) _
    refine XS.goto X0.here hx rfl (pc0 := 6) (pc' := 10) rfl (hb hby d_jdk_29_method_65_code_6) (by decide) (by decide) ?_
    show Steps p.tables e below (s₁.setTop (mkF m 10 #[.val (.int (1 : Int32)), .val (.int xx)] [(.int (1 : Int32))])) _
    exact retI X0 hx Bd.returns (hb hby d_jdk_29_method_65_code_10) hr
  · show own_Q (some (.int (own_max xx))) h0 n0 _ s₁.heap _
    rw [e0]
    exact ⟨by rw [own_max, if_neg hlt], N0, rfl⟩
theorem own_maxc (l : Launch) (Z : State) (a0 : Array Value) (hw : ∀ d ∈ tables_1, d.before a0 Z = true) (ws : List Jvm.Cond) (xx : Int32) (h0 : Heap) (n0 : Nat) (Z0 : n0 ≤ h0.size) :
    MetFree l (⟨"java/lang/Math", "max", "(II)I"⟩ : MethodName) (head1 (Jvm.Cond.code (⟨"java/lang/Math", "max", "(II)I"⟩ : MethodName) jdk_29_method_65_code 2 (some .int) :: ws) ({ frames := 0, cells := 0, slots := 0, locals := 0 } : Room)) (fun a U => a = #[(.int (1 : Int32)), (.int xx)] ∧ Z.Warmed39 U.vm ∧ U.heap = h0) (fun _ _ _ _ _ => True) (fun _ U o U' => ∃ v L, o = .returned v ∧ own_Q (some (.int (own_max xx))) h0 n0 v U'.heap L ∧ FrameEnd U o U' L ({ frames := 0, cells := 0, slots := 0, locals := 0 } : Room).cells ({ frames := 0, cells := 0, slots := 0, locals := 0 } : Room).slots) := by
  by_cases hlt : (1 : Int32) < xx
  · exact own_max_y l Z a0 hw ws xx h0 n0 Z0 hlt
  · exact own_max_n l Z a0 hw ws xx h0 n0 Z0 hlt
theorem d_jdk_30_method_1_code_0 : decode jdk_30_method_1_code 0 = .ok (.aload_n 0, 1) := by decide +kernel
theorem d_jdk_30_method_1_code_1 : decode jdk_30_method_1_code 1 = .ok (.invokespecial 1, 3) := by decide +kernel
theorem d_jdk_30_method_1_code_4 : decode jdk_30_method_1_code 4 = .ok (.return_, 1) := by decide +kernel
theorem ef_jdk_30_method_1_code_A (m : MethodId) (x0 : Addr) : entryFrame m #[(.ref x0)] 1 = mkF m 0 #[.val (.ref x0)] [] := by first | (simp [entryFrame, mkF, argsToLocals, Value.category]; done) | rfl
theorem pf_jdk_30_method_1_code : plainFor (⟨"java/lang/Record", "<init>", "()V"⟩ : MethodName) = true := by decide +kernel
set_option maxRecDepth 65536 in
set_option maxHeartbeats 40000000 in
theorem own_record (l : Launch) (Z : State) (a0 : Array Value) (hw : ∀ d ∈ tables_1, d.before a0 Z = true) (ws : List Jvm.Cond) (a1 : Addr) (h0 : Heap) (n0 : Nat) (Z0 : n0 ≤ h0.size)  :
    MetFree l (⟨"java/lang/Record", "<init>", "()V"⟩ : MethodName) (head1 (Jvm.Cond.code (⟨"java/lang/Record", "<init>", "()V"⟩ : MethodName) jdk_30_method_1_code 1 none :: ws) ({ frames := 1, cells := 0, slots := 0, locals := 12 } : Room)) (fun a U => a = #[(.ref a1)] ∧ Z.Warmed39 U.vm ∧ U.heap = h0) (fun _ _ _ _ _ => True) (fun _ U o U' => ∃ v L, o = .returned v ∧ own_Q (none) h0 n0 v U'.heap L ∧ FrameEnd U o U' L ({ frames := 1, cells := 0, slots := 0, locals := 12 } : Room).cells ({ frames := 1, cells := 0, slots := 0, locals := 12 } : Room).slots) := by
  refine MetFree.of_bodySF pf_jdk_30_method_1_code hisR ?_
  intro p e s m args below meth c s₁ Bd hml0 hP hK
  obtain ⟨rfl, hZ, hh⟩ := hP
  have hx := Bd.exec
  have hby := Bd.bytes
  have hml : c.maxLocals = 1 := hml0
  have hown : s.vm.findClass "java/lang/Record" = some m.cls := findClass_of_methodNamed Bd.named
  have hnm := (name_of_methodNamed Bd.named Bd.method).1
  have X0 : Stand p l e ({ frames := 1, cells := 0, slots := 0, locals := 12 } : Room) s m #[(.ref a1)] below meth c s₁ [] 0 0 := Stand.of_body Bd
  have e0 : s₁.heap = h0 := by rw [← hh, Bd.state]; rfl
  have N0 := Fr.nil n0
  have pre0 : ∀ t, Steps p.tables e below (s₁.setTop (mkF m 0 #[.val (.ref a1)] [])) t → Steps p.tables e below (s₁.setTop (entryFrame m #[(.ref a1)] 1)) t := fun t k => castTop (ef_jdk_30_method_1_code_A m a1) k
  obtain ⟨T1, X1, e1, st1⟩ := initO X0 hx hZ hown (hw _ (List.mem_of_getElem? (i := 28) rfl)) (hw _ (List.mem_of_getElem? (i := 29) rfl)) (hw _ (List.mem_of_getElem? (i := 30) rfl)) e0 (g := (mkF m 1 #[.val (.ref a1)] [(.ref a1)])) rfl (by rw [hml]; rfl) rfl (hb hby d_jdk_30_method_1_code_1) (by decide) (W := 0) (by show 2 * 0 + _ ≤ _; exact Nat.le_of_eq rfl) (by decide)
  obtain ⟨fs, hr, hrun, hended, hW, hsame⟩ := X1.leave (v := none) (fun _ => rfl)
  refine ⟨_, _, pre0 _ ?_, hrun, hended, _, _, rfl, ?_, ⟨_, rfl⟩, hW, hsame.mono (by decide) (by decide)⟩
  · show Steps p.tables e below (s₁.setTop (mkF m 0 #[.val (.ref a1)] [])) _
    refine XS.aloadN X0.here hx rfl (hb hby d_jdk_30_method_1_code_0) rfl rfl ?_
    show Steps p.tables e below (s₁.setTop (mkF m 1 #[.val (.ref a1)] [(.ref a1)])) _
    refine st1 _ ?_
    show Steps p.tables e below (T1.setTop (mkF m 4 #[.val (.ref a1)] [])) _
    exact X1.returnOut hx Bd.returns (hb hby d_jdk_30_method_1_code_4) hr
  · show own_Q (none) h0 n0 _ T1.heap _
    rw [e1]
    exact ⟨rfl, N0, rfl⟩
theorem d_jdk_31_method_11_code_0 : decode jdk_31_method_11_code 0 = .ok (.aload_n 0, 1) := by decide +kernel
theorem d_jdk_31_method_11_code_1 : decode jdk_31_method_11_code 1 = .ok (.ifnonnull 12, 3) := by decide +kernel
theorem d_jdk_31_method_11_code_13 : decode jdk_31_method_11_code 13 = .ok (.aload_n 0, 1) := by decide +kernel
theorem d_jdk_31_method_11_code_14 : decode jdk_31_method_11_code 14 = .ok (.areturn, 1) := by decide +kernel
theorem ef_jdk_31_method_11_code_AA (m : MethodId) (x0 : Addr) (x1 : Addr) : entryFrame m #[(.ref x0), (.ref x1)] 2 = mkF m 0 #[.val (.ref x0), .val (.ref x1)] [] := by first | (simp [entryFrame, mkF, argsToLocals, Value.category]; done) | rfl
theorem pf_jdk_31_method_11_code : plainFor (⟨"java/util/Objects", "requireNonNull", "(Ljava/lang/Object;Ljava/lang/String;)Ljava/lang/Object;"⟩ : MethodName) = true := by decide +kernel
set_option maxRecDepth 65536 in
set_option maxHeartbeats 40000000 in
theorem own_rnn (l : Launch) (Z : State) (a0 : Array Value) (hw : ∀ d ∈ tables_1, d.before a0 Z = true) (ws : List Jvm.Cond) (a1 a2 : Addr) (h0 : Heap) (n0 : Nat) (Z0 : n0 ≤ h0.size)  :
    MetFree l (⟨"java/util/Objects", "requireNonNull", "(Ljava/lang/Object;Ljava/lang/String;)Ljava/lang/Object;"⟩ : MethodName) (head1 (Jvm.Cond.code (⟨"java/util/Objects", "requireNonNull", "(Ljava/lang/Object;Ljava/lang/String;)Ljava/lang/Object;"⟩ : MethodName) jdk_31_method_11_code 2 (some (.object "java/lang/Object")) :: ws) ({ frames := 0, cells := 0, slots := 0, locals := 0 } : Room)) (fun a U => a = #[(.ref a1), (.ref a2)] ∧ Z.Warmed39 U.vm ∧ U.heap = h0) (fun _ _ _ _ _ => True) (fun _ U o U' => ∃ v L, o = .returned v ∧ own_Q (some (.ref a1)) h0 n0 v U'.heap L ∧ FrameEnd U o U' L ({ frames := 0, cells := 0, slots := 0, locals := 0 } : Room).cells ({ frames := 0, cells := 0, slots := 0, locals := 0 } : Room).slots) := by
  refine MetFree.of_bodySF pf_jdk_31_method_11_code hisR ?_
  intro p e s m args below meth c s₁ Bd hml0 hP hK
  obtain ⟨rfl, hZ, hh⟩ := hP
  have hx := Bd.exec
  have hby := Bd.bytes
  have hml : c.maxLocals = 2 := hml0
  have hown : s.vm.findClass "java/util/Objects" = some m.cls := findClass_of_methodNamed Bd.named
  have hnm := (name_of_methodNamed Bd.named Bd.method).1
  have X0 : Stand p l e ({ frames := 0, cells := 0, slots := 0, locals := 0 } : Room) s m #[(.ref a1), (.ref a2)] below meth c s₁ [] 0 0 := Stand.of_body Bd
  have e0 : s₁.heap = h0 := by rw [← hh, Bd.state]; rfl
  have N0 := Fr.nil n0
  have pre0 : ∀ t, Steps p.tables e below (s₁.setTop (mkF m 0 #[.val (.ref a1), .val (.ref a2)] [])) t → Steps p.tables e below (s₁.setTop (entryFrame m #[(.ref a1), (.ref a2)] 2)) t := fun t k => castTop (ef_jdk_31_method_11_code_AA m a1 a2) k
  obtain ⟨fs, hr, hrun, hended, hW, hsame⟩ := X0.leave (v := some (.ref a1)) (fun h => by rw [Bd.returns] at h; cases h)
  refine ⟨_, _, pre0 _ ?_, hrun, hended, _, _, rfl, ?_, ⟨_, rfl⟩, hW, hsame.mono (by decide) (by decide)⟩
  · show Steps p.tables e below (s₁.setTop (mkF m 0 #[.val (.ref a1), .val (.ref a2)] [])) _
    refine XS.aloadN X0.here hx rfl (hb hby d_jdk_31_method_11_code_0) rfl rfl ?_
    show Steps p.tables e below (s₁.setTop (mkF m 1 #[.val (.ref a1), .val (.ref a2)] [(.ref a1)])) _
    refine XT.ifnonnullYes X0.here hx rfl (pc0 := 1) (pc' := 13) rfl (hb hby d_jdk_31_method_11_code_1) rfl (by decide) (by decide) ?_
    show Steps p.tables e below (s₁.setTop (mkF m 13 #[.val (.ref a1), .val (.ref a2)] [])) _
    refine XS.aloadN X0.here hx rfl (hb hby d_jdk_31_method_11_code_13) rfl rfl ?_
    show Steps p.tables e below (s₁.setTop (mkF m 14 #[.val (.ref a1), .val (.ref a2)] [(.ref a1)])) _
    jvm_step X0.here [X0.here.top, hx, (hb hby d_jdk_31_method_11_code_14), X0.method', Bd.returns, Value.isRef, FieldType.isReference]
    first | (intro acts; rw [hr _ acts rfl rfl rfl]) | rw [hr _ _ rfl rfl rfl]
    exact Steps.refl _
  · show own_Q (some (.ref a1)) h0 n0 _ s₁.heap _
    rw [e0]
    exact ⟨rfl, N0, rfl⟩
def own_Qi (Z : State) (a w : Addr) (v1 : Int32) (h0 : Heap) (n0 : Nat) (v : Option Value) (h : Heap) (L : List Loc) : Prop := v = none ∧ Fr n0 L ∧ Keep h0 h [a] ∧ (Fld Z h a "com/example/chitragupta/chitragupta/rating/Span" "unit" "Lcom/example/chitragupta/chitragupta/rating/Span$Unit;" (.ref w)) ∧ (Fld Z h a "com/example/chitragupta/chitragupta/rating/Span" "value" "I" (.int v1))
theorem d_prog_53_method_1_code_0 : decode prog_53_method_1_code 0 = .ok (.aload_n 0, 1) := by decide +kernel
theorem pd___V : parseMethodDescriptor "()V" = some ⟨[], none⟩ := by decide +kernel
theorem d_prog_53_method_1_code_1 : decode prog_53_method_1_code 1 = .ok (.invokespecial 1, 3) := by decide +kernel
theorem d_prog_53_method_1_code_4 : decode prog_53_method_1_code 4 = .ok (.aload_n 1, 1) := by decide +kernel
theorem d_prog_53_method_1_code_5 : decode prog_53_method_1_code 5 = .ok (.ldc 7, 2) := by decide +kernel
theorem pd__Ljava_lang_Object_Ljava_lang_String__Ljava_lang_Object_ : parseMethodDescriptor "(Ljava/lang/Object;Ljava/lang/String;)Ljava/lang/Object;" = some ⟨[(.object "java/lang/Object"), (.object "java/lang/String")], (some (.object "java/lang/Object"))⟩ := by decide +kernel
theorem d_prog_53_method_1_code_7 : decode prog_53_method_1_code 7 = .ok (.invokestatic 9, 3) := by decide +kernel
theorem d_prog_53_method_1_code_10 : decode prog_53_method_1_code 10 = .ok (.pop, 1) := by decide +kernel
theorem d_prog_53_method_1_code_11 : decode prog_53_method_1_code 11 = .ok (.iload_n 2, 1) := by decide +kernel
theorem d_prog_53_method_1_code_12 : decode prog_53_method_1_code 12 = .ok (.iconst 1, 1) := by decide +kernel
theorem d_prog_53_method_1_code_13 : decode prog_53_method_1_code 13 = .ok (.if_icmp .ge 21, 3) := by decide +kernel
theorem d_prog_53_method_1_code_34 : decode prog_53_method_1_code 34 = .ok (.aload_n 0, 1) := by decide +kernel
theorem d_prog_53_method_1_code_35 : decode prog_53_method_1_code 35 = .ok (.aload_n 1, 1) := by decide +kernel
theorem d_prog_53_method_1_code_36 : decode prog_53_method_1_code 36 = .ok (.putfield 30, 3) := by decide +kernel
theorem d_prog_53_method_1_code_39 : decode prog_53_method_1_code 39 = .ok (.aload_n 0, 1) := by decide +kernel
theorem d_prog_53_method_1_code_40 : decode prog_53_method_1_code 40 = .ok (.iload_n 2, 1) := by decide +kernel
theorem d_prog_53_method_1_code_41 : decode prog_53_method_1_code 41 = .ok (.putfield 35, 3) := by decide +kernel
theorem d_prog_53_method_1_code_44 : decode prog_53_method_1_code 44 = .ok (.return_, 1) := by decide +kernel
theorem ef_prog_53_method_1_code_AAI (m : MethodId) (x0 : Addr) (x1 : Addr) (x2 : Int32) : entryFrame m #[(.ref x0), (.ref x1), (.int x2)] 3 = mkF m 0 #[.val (.ref x0), .val (.ref x1), .val (.int x2)] [] := by first | (simp [entryFrame, mkF, argsToLocals, Value.category]; done) | rfl
theorem pn_com_example_chitragupta_chitragupta_rating_Span : plainName "com/example/chitragupta/chitragupta/rating/Span" = true := by first | (simp [plainName, overriddenIn]; done) | decide +kernel
set_option maxRecDepth 65536 in
set_option maxHeartbeats 40000000 in
theorem own_init (l : Launch) (Z : State) (a0 : Array Value) (hw : ∀ d ∈ tables_1, d.before a0 Z = true) (ws : List Jvm.Cond) (a1 w1 : Addr) (v1 : Int32) (h0 : Heap) (n0 : Nat) (Z0 : n0 ≤ h0.size) (E1 : Exa Z h0 a1 "com/example/chitragupta/chitragupta/rating/Span") (G1 : Fld Z h0 a1 "com/example/chitragupta/chitragupta/rating/Span" "unit" "Lcom/example/chitragupta/chitragupta/rating/Span$Unit;" .null) (G2 : Fld Z h0 a1 "com/example/chitragupta/chitragupta/rating/Span" "value" "I" (.int (0 : Int32))) (g1 : n0 ≤ a1) (hv : ¬ v1 < (1 : Int32)) :
    MetFree l (⟨"com/example/chitragupta/chitragupta/rating/Span", "<init>", "(Lcom/example/chitragupta/chitragupta/rating/Span$Unit;I)V"⟩ : MethodName) (head1 (Jvm.Cond.code (⟨"com/example/chitragupta/chitragupta/rating/Span", "<init>", "(Lcom/example/chitragupta/chitragupta/rating/Span$Unit;I)V"⟩ : MethodName) prog_53_method_1_code 3 none :: ws) ({ frames := 2, cells := 2, slots := 20, locals := 24 } : Room)) (fun a U => a = #[(.ref a1), (.ref w1), (.int v1)] ∧ Z.Warmed39 U.vm ∧ U.heap = h0) (fun _ _ _ _ _ => True) (fun _ U o U' => ∃ v L, o = .returned v ∧ own_Qi Z a1 w1 v1 h0 n0 v U'.heap L ∧ ReturnedEndW U o U' L ({ frames := 2, cells := 2, slots := 20, locals := 24 } : Room).cells ({ frames := 2, cells := 2, slots := 20, locals := 24 } : Room).slots) := by
  refine MetFree.of_bodySF (plainFor_of_name pn_com_example_chitragupta_chitragupta_rating_Span) hisR ?_
  intro p e s m args below meth c s₁ Bd hml0 hP hK
  obtain ⟨rfl, hZ, hh⟩ := hP
  have hx := Bd.exec
  have hby := Bd.bytes
  have hml : c.maxLocals = 3 := hml0
  have hown : s.vm.findClass "com/example/chitragupta/chitragupta/rating/Span" = some m.cls := findClass_of_methodNamed Bd.named
  have hnm := (name_of_methodNamed Bd.named Bd.method).1
  have X0 : Stand p l e ({ frames := 2, cells := 2, slots := 20, locals := 24 } : Room) s m #[(.ref a1), (.ref w1), (.int v1)] below meth c s₁ [] 0 0 := Stand.of_body Bd
  have e0 : s₁.heap = h0 := by rw [← hh, Bd.state]; rfl
  have N0 := Fr.nil n0
  have pre0 : ∀ t, Steps p.tables e below (s₁.setTop (mkF m 0 #[.val (.ref a1), .val (.ref w1), .val (.int v1)] [])) t → Steps p.tables e below (s₁.setTop (entryFrame m #[(.ref a1), (.ref w1), (.int v1)] 3)) t := fun t k => castTop (ef_prog_53_method_1_code_AAI m a1 w1 v1) k
  obtain ⟨_, _, ⟨T2, L2, k2, n2⟩, -, X2, ⟨Lc2, hQ2, l2, y2, z2⟩, st2⟩ := X0.specialBack hx (y := (⟨"java/lang/Record", "<init>", "()V"⟩ : MethodName)) rfl hown (mvT hZ (hw _ (List.mem_of_getElem? (i := 23) rfl))) (mvT hZ (hw _ (List.mem_of_getElem? (i := 24) rfl))) (mvT hZ (hw _ (List.mem_of_getElem? (i := 27) rfl))) (by decide) (backOf (W := 0) (own_record l Z a0 hw [] a1 h0 n0 Z0) hZ (hw _ (List.mem_of_getElem? (i := 27) rfl)) (hw _ (List.mem_of_getElem? (i := 26) rfl)) (by decide) (by decide)) (g := (mkF m 1 #[.val (.ref a1), .val (.ref w1), .val (.int v1)] [(.ref a1)])) rfl (by rw [hml]; rfl) (Steps.refl _) (a := a1) (argsL := []) (rest := []) (lenOf pd___V rfl) rfl (by show 2 * 0 + _ ≤ _; exact Nat.le_of_eq rfl) (hb hby d_prog_53_method_1_code_1) (fun _ _ => ⟨rfl, e0, (by decide : 0 + 0 ≤ _), (by decide : 0 + 0 ≤ _)⟩)
  dsimp only [Pt.U, Pt.locs, Pt.cells, Pt.slots] at X2 l2 y2 z2 st2 hQ2
  subst l2 y2 z2
  obtain ⟨rfl, N2q, e2⟩ := hQ2
  have N2 := Fr.app N0 N2q
  have hstr3 : ∀ a ∈ Bundle.stringAtoms, a.before a0 Z = true := fun d hd => hw d ((by decide +kernel : ∀ d ∈ Bundle.stringAtoms, d ∈ tables_1) d hd)
  obtain ⟨a3, T3, h3, k3, X3, e3, E3, hS3, hk3, hZ3, hown3, st3⟩ := ldcS (s := s) (vm0 := s.vm) X2 hx hZ hown (hw _ (List.mem_of_getElem? (i := 31) rfl)) hstr3 e2 ((State.WarmedH.refl s).since 0) (Nat.zero_le _) (g := (mkF m 5 #[.val (.ref a1), .val (.ref w1), .val (.int v1)] [(.ref w1)])) rfl (hb hby d_prog_53_method_1_code_5) (n := 16) (by decide) (by decide) (by decide) (by decide)
  have E1_4 := E1.ext E3
  have G1_5 := G1.ext E3
  have G2_6 := G2.ext E3
  have K3 : Keep h0 h3 [a1] := (Keep.refl _ _).ext E3
  have Z3 : n0 ≤ h3.size := Nat.le_trans Z0 K3.1
  obtain ⟨_, _, ⟨T7, L7, k7, n7⟩, -, X7, ⟨Lc7, hQ7, l7, y7, z7⟩, st7⟩ := Jvm.LawKit.callS X3 hx (y := (⟨"java/util/Objects", "requireNonNull", "(Ljava/lang/Object;Ljava/lang/String;)Ljava/lang/Object;"⟩ : MethodName)) hown3 (mvT hZ3 (hw _ (List.mem_of_getElem? (i := 39) rfl))) (mvT hZ3 (hw _ (List.mem_of_getElem? (i := 40) rfl))) (mvT hZ3 (hw _ (List.mem_of_getElem? (i := 41) rfl))) (mvT hZ3 (hw _ (List.mem_of_getElem? (i := 42) rfl))) (by decide) (backOf (W := 0) (own_rnn l Z a0 hw [] w1 a3 h3 n0 Z3) hZ3 (hw _ (List.mem_of_getElem? (i := 42) rfl)) (hw _ (List.mem_of_getElem? (i := 41) rfl)) (by decide) (by decide)) (g := (mkF m 7 #[.val (.ref a1), .val (.ref w1), .val (.int v1)] [(.ref a3), (.ref w1)])) rfl (by rw [hml]; rfl) (argsL := [(.ref w1), (.ref a3)]) (rest := []) (lenOf pd__Ljava_lang_Object_Ljava_lang_String__Ljava_lang_Object_ rfl) rfl (by show 2 * 0 + _ ≤ _; exact Nat.le_of_eq rfl) (hb hby d_prog_53_method_1_code_7) (fun _ _ => ⟨rfl, e3, (by decide : 2 + 0 ≤ _), (by decide : 20 + 0 ≤ _)⟩)
  dsimp only [Pt.U, Pt.locs, Pt.cells, Pt.slots] at X7 l7 y7 z7 st7 hQ7
  subst l7 y7 z7
  obtain ⟨rfl, N7q, e7⟩ := hQ7
  have N7 := Fr.app N2 N7q
  obtain ⟨T8, h8, X8, e8, W8, st8⟩ := putF X7 hx hZ3 hown3 (host := "") (Or.inl (hw _ (List.mem_of_getElem? (i := 43) rfl))) Via.refl e7 G1_5 E1_4 (Or.inr ⟨(hw _ (List.mem_of_getElem? (i := 44) rfl)), rfl, hnm⟩) (hw _ (List.mem_of_getElem? (i := 18) rfl)) (ty := (.object "com/example/chitragupta/chitragupta/rating/Span$Unit")) (by decide) rfl rfl (g := (mkF m 36 #[.val (.ref a1), .val (.ref w1), .val (.int v1)] [(.ref w1), (.ref a1)])) rfl rfl (hb hby d_prog_53_method_1_code_36)
  have E1_9 := E1_4.wr W8
  have G2_10 := G2_6.other W8 (Or.inr (slot_ne (Or.inr (hw _ (List.mem_of_getElem? (i := 46) rfl))) (Or.inr (hw _ (List.mem_of_getElem? (i := 44) rfl))) (by decide) (t := .int) (t' := (.object "com/example/chitragupta/chitragupta/rating/Span$Unit")) (by decide) (by decide)))
  have K8 : Keep h0 h8 [a1] := K3.wr W8 (Or.inl (List.mem_of_getElem? (i := 0) rfl))
  have Z8 : n0 ≤ h8.size := Nat.le_trans Z0 K8.1
  have N8 := Fr.snoc X8 N7 g1
  have hk8 := Nat.le_trans hk3 (Nat.le_of_eq (W8.size).symm)
  have Funit_11 : Fld Z h8 a1 "com/example/chitragupta/chitragupta/rating/Span" "unit" "Lcom/example/chitragupta/chitragupta/rating/Span$Unit;" (.ref w1) := G1_5.same W8
  obtain ⟨T12, h12, X12, e12, W12, st12⟩ := putF X8 hx hZ3 hown3 (host := "") (Or.inl (hw _ (List.mem_of_getElem? (i := 45) rfl))) Via.refl e8 G2_10 E1_9 (Or.inr ⟨(hw _ (List.mem_of_getElem? (i := 46) rfl)), rfl, hnm⟩) (hw _ (List.mem_of_getElem? (i := 18) rfl)) (ty := .int) (by decide) rfl rfl (g := (mkF m 41 #[.val (.ref a1), .val (.ref w1), .val (.int v1)] [(.int v1), (.ref a1)])) rfl rfl (hb hby d_prog_53_method_1_code_41)
  have E1_13 := E1_9.wr W12
  have Funit_14 := Funit_11.other W12 (Or.inr (slot_ne (Or.inr (hw _ (List.mem_of_getElem? (i := 44) rfl))) (Or.inr (hw _ (List.mem_of_getElem? (i := 46) rfl))) (by decide) (t := (.object "com/example/chitragupta/chitragupta/rating/Span$Unit")) (t' := .int) (by decide) (by decide)))
  have K12 : Keep h0 h12 [a1] := K8.wr W12 (Or.inl (List.mem_of_getElem? (i := 0) rfl))
  have Z12 : n0 ≤ h12.size := Nat.le_trans Z0 K12.1
  have N12 := Fr.snoc X12 N8 g1
  have hk12 := Nat.le_trans hk8 (Nat.le_of_eq (W12.size).symm)
  have Fvalue_15 : Fld Z h12 a1 "com/example/chitragupta/chitragupta/rating/Span" "value" "I" (.int v1) := G2_10.same W12
  obtain ⟨fs, hr, hrun, hended, hRE⟩ := Jvm.Stand.leaveW (s := s) (vm₁ := T3.vm) X12 hS3 (Nat.le_trans hk12 (Nat.le_of_eq (congrArg Array.size e12.symm))) (v := none) (fun _ => rfl)
  refine ⟨_, _, pre0 _ ?_, hrun, hended, _, _, rfl, ?_, ⟨_, rfl⟩, hRE.2.1, hRE.2.2.1, hRE.2.2.2.mono (by decide) (by decide)⟩
  · show Steps p.tables e below (s₁.setTop (mkF m 0 #[.val (.ref a1), .val (.ref w1), .val (.int v1)] [])) _
    refine XS.aloadN X0.here hx rfl (hb hby d_prog_53_method_1_code_0) rfl rfl ?_
    show Steps p.tables e below (s₁.setTop (mkF m 1 #[.val (.ref a1), .val (.ref w1), .val (.int v1)] [(.ref a1)])) _
    refine st2.trans ?_
    show Steps p.tables e below (T2.setTop (mkF m 4 #[.val (.ref a1), .val (.ref w1), .val (.int v1)] [])) _
    refine XS.aloadN X2.here hx rfl (hb hby d_prog_53_method_1_code_4) rfl rfl ?_
    show Steps p.tables e below (T2.setTop (mkF m 5 #[.val (.ref a1), .val (.ref w1), .val (.int v1)] [(.ref w1)])) _
    refine st3 _ ?_
    show Steps p.tables e below (T3.setTop (mkF m 7 #[.val (.ref a1), .val (.ref w1), .val (.int v1)] [(.ref a3), (.ref w1)])) _
    refine st7 _ ?_
    show Steps p.tables e below (T7.setTop (mkF m 10 #[.val (.ref a1), .val (.ref w1), .val (.int v1)] [(.ref w1)])) _
    refine XT.pop X7.here hx rfl (hb hby d_prog_53_method_1_code_10) rfl rfl ?_
    show Steps p.tables e below (T7.setTop (mkF m 11 #[.val (.ref a1), .val (.ref w1), .val (.int v1)] [])) _
    refine XS.iloadN X7.here hx rfl (hb hby d_prog_53_method_1_code_11) rfl ?_
    show Steps p.tables e below (T7.setTop (mkF m 12 #[.val (.ref a1), .val (.ref w1), .val (.int v1)] [(.int v1)])) _
    refine XT.iconstV X7.here hx rfl (1 : Int32) (hb hby d_prog_53_method_1_code_12) rfl ?_
    show Steps p.tables e below (T7.setTop (mkF m 13 #[.val (.ref a1), .val (.ref w1), .val (.int v1)] [(.int (1 : Int32)), (.int v1)])) _
    refine XS.icmpYes X7.here hx rfl (pc0 := 13) (pc' := 34) rfl (hb hby d_prog_53_method_1_code_13) rfl (XT.ii_ge_t hv) (by decide) (by decide) ?_
    show Steps p.tables e below (T7.setTop (mkF m 34 #[.val (.ref a1), .val (.ref w1), .val (.int v1)] [])) _
    refine XS.aloadN X7.here hx rfl (hb hby d_prog_53_method_1_code_34) rfl rfl ?_
    show Steps p.tables e below (T7.setTop (mkF m 35 #[.val (.ref a1), .val (.ref w1), .val (.int v1)] [(.ref a1)])) _
    refine XS.aloadN X7.here hx rfl (hb hby d_prog_53_method_1_code_35) rfl rfl ?_
    show Steps p.tables e below (T7.setTop (mkF m 36 #[.val (.ref a1), .val (.ref w1), .val (.int v1)] [(.ref w1), (.ref a1)])) _
    refine st8 _ ?_
    show Steps p.tables e below (T8.setTop (mkF m 39 #[.val (.ref a1), .val (.ref w1), .val (.int v1)] [])) _
    refine XS.aloadN X8.here hx rfl (hb hby d_prog_53_method_1_code_39) rfl rfl ?_
    show Steps p.tables e below (T8.setTop (mkF m 40 #[.val (.ref a1), .val (.ref w1), .val (.int v1)] [(.ref a1)])) _
    refine XS.iloadN X8.here hx rfl (hb hby d_prog_53_method_1_code_40) rfl ?_
    show Steps p.tables e below (T8.setTop (mkF m 41 #[.val (.ref a1), .val (.ref w1), .val (.int v1)] [(.int v1), (.ref a1)])) _
    refine st12 _ ?_
    show Steps p.tables e below (T12.setTop (mkF m 44 #[.val (.ref a1), .val (.ref w1), .val (.int v1)] [])) _
    exact X12.returnOut hx Bd.returns (hb hby d_prog_53_method_1_code_44) hr
  · show own_Qi Z a1 w1 v1 h0 n0 _ T12.heap _
    rw [e12]
    exact ⟨rfl, N12, K12, Funit_14, Fvalue_15⟩
theorem d_prog_53_method_4_code_0 : decode prog_53_method_4_code 0 = .ok (.aload_n 0, 1) := by decide +kernel
theorem d_prog_53_method_4_code_1 : decode prog_53_method_4_code 1 = .ok (.getfield 30, 3) := by decide +kernel
theorem d_prog_53_method_4_code_4 : decode prog_53_method_4_code 4 = .ok (.aload_n 1, 1) := by decide +kernel
theorem d_prog_53_method_4_code_5 : decode prog_53_method_4_code 5 = .ok (.getfield 30, 3) := by decide +kernel
theorem d_prog_53_method_4_code_8 : decode prog_53_method_4_code 8 = .ok (.if_acmp .ne 24, 3) := by decide +kernel
theorem d_prog_53_method_4_code_11 : decode prog_53_method_4_code 11 = .ok (.aload_n 1, 1) := by decide +kernel
theorem d_prog_53_method_4_code_12 : decode prog_53_method_4_code 12 = .ok (.getfield 35, 3) := by decide +kernel
theorem d_prog_53_method_4_code_15 : decode prog_53_method_4_code 15 = .ok (.aload_n 0, 1) := by decide +kernel
theorem d_prog_53_method_4_code_16 : decode prog_53_method_4_code 16 = .ok (.getfield 35, 3) := by decide +kernel
theorem d_prog_53_method_4_code_19 : decode prog_53_method_4_code 19 = .ok (.irem, 1) := by decide +kernel
theorem d_prog_53_method_4_code_20 : decode prog_53_method_4_code 20 = .ok (.ifCond .ne 7, 3) := by decide +kernel
theorem d_prog_53_method_4_code_23 : decode prog_53_method_4_code 23 = .ok (.iconst 1, 1) := by decide +kernel
theorem d_prog_53_method_4_code_24 : decode prog_53_method_4_code 24 = .ok (.goto 4, 3) := by decide +kernel
theorem d_prog_53_method_4_code_28 : decode prog_53_method_4_code 28 = .ok (.istore_n 2, 1) := by decide +kernel
theorem d_prog_53_method_4_code_29 : decode prog_53_method_4_code 29 = .ok (.goto 71, 3) := by decide +kernel
theorem d_prog_53_method_4_code_100 : decode prog_53_method_4_code 100 = .ok (.iload_n 2, 1) := by decide +kernel
theorem d_prog_53_method_4_code_101 : decode prog_53_method_4_code 101 = .ok (.ireturn, 1) := by decide +kernel
theorem ef_prog_53_method_4_code_AA (m : MethodId) (x0 : Addr) (x1 : Addr) : entryFrame m #[(.ref x0), (.ref x1)] 3 = mkF m 0 #[.val (.ref x0), .val (.ref x1), .unset] [] := by first | (simp [entryFrame, mkF, argsToLocals, Value.category]; done) | rfl
set_option maxRecDepth 65536 in
set_option maxHeartbeats 40000000 in
theorem own_div_same_y (l : Launch) (Z : State) (a0 : Array Value) (hw : ∀ d ∈ tables_1, d.before a0 Z = true) (ws : List Jvm.Cond) (a1 a2 u1 u2 : Addr) (pv wv : Int32) (w0 w1 w2 w3 : Addr) (h0 : Heap) (n0 : Nat) (Z0 : n0 ≤ h0.size) (P : own_P Z h0 w0 w1 w2 w3) (GA1 : Fld Z h0 a1 "com/example/chitragupta/chitragupta/rating/Span" "unit" "Lcom/example/chitragupta/chitragupta/rating/Span$Unit;" (.ref u1)) (GA2 : Fld Z h0 a1 "com/example/chitragupta/chitragupta/rating/Span" "value" "I" (.int pv)) (GB1 : Fld Z h0 a2 "com/example/chitragupta/chitragupta/rating/Span" "unit" "Lcom/example/chitragupta/chitragupta/rating/Span$Unit;" (.ref u1)) (GB2 : Fld Z h0 a2 "com/example/chitragupta/chitragupta/rating/Span" "value" "I" (.int wv)) (hz : pv ≠ 0) (hc : (wv % pv) = 0) :
    MetFree l (⟨"com/example/chitragupta/chitragupta/rating/Span", "divides", "(Lcom/example/chitragupta/chitragupta/rating/Span;)Z"⟩ : MethodName) (head1 (Jvm.Cond.code (⟨"com/example/chitragupta/chitragupta/rating/Span", "divides", "(Lcom/example/chitragupta/chitragupta/rating/Span;)Z"⟩ : MethodName) prog_53_method_4_code 3 (some .boolean) :: ws) ({ frames := 0, cells := 0, slots := 0, locals := 0 } : Room)) (fun a U => a = #[(.ref a1), (.ref a2)] ∧ Z.Warmed39 U.vm ∧ U.heap = h0) (fun _ _ _ _ _ => True) (fun _ U o U' => ∃ v L, o = .returned v ∧ own_Q (some (.int (1 : Int32))) h0 n0 v U'.heap L ∧ FrameEnd U o U' L ({ frames := 0, cells := 0, slots := 0, locals := 0 } : Room).cells ({ frames := 0, cells := 0, slots := 0, locals := 0 } : Room).slots) := by
  refine MetFree.of_bodySF (plainFor_of_name pn_com_example_chitragupta_chitragupta_rating_Span) hisR ?_
  intro p e s m args below meth c s₁ Bd hml0 hP hK
  obtain ⟨rfl, hZ, hh⟩ := hP
  have hx := Bd.exec
  have hby := Bd.bytes
  have hml : c.maxLocals = 3 := hml0
  have hown : s.vm.findClass "com/example/chitragupta/chitragupta/rating/Span" = some m.cls := findClass_of_methodNamed Bd.named
  have hnm := (name_of_methodNamed Bd.named Bd.method).1
  have X0 : Stand p l e ({ frames := 0, cells := 0, slots := 0, locals := 0 } : Room) s m #[(.ref a1), (.ref a2)] below meth c s₁ [] 0 0 := Stand.of_body Bd
  have e0 : s₁.heap = h0 := by rw [← hh, Bd.state]; rfl
  have N0 := Fr.nil n0
  have pre0 : ∀ t, Steps p.tables e below (s₁.setTop (mkF m 0 #[.val (.ref a1), .val (.ref a2), .unset] [])) t → Steps p.tables e below (s₁.setTop (entryFrame m #[(.ref a1), (.ref a2)] 3)) t := fun t k => castTop (ef_prog_53_method_4_code_AA m a1 a2) k
  have P0 := P; obtain ⟨S0, E0, F0_ordinal, S1, E1, F1_ordinal, S2, E2, F2_ordinal, S3, E3, F3_ordinal⟩ := P0
  obtain ⟨T16, X16, e16, st16⟩ := getF X0 hx hZ hown (host := "") (Or.inl (hw _ (List.mem_of_getElem? (i := 43) rfl))) Via.refl e0 GA1 (g := (mkF m 1 #[.val (.ref a1), .val (.ref a2), .unset] [(.ref a1)])) rfl rfl (hb hby d_prog_53_method_4_code_1)
  obtain ⟨T17, X17, e17, st17⟩ := getF X16 hx hZ hown (host := "") (Or.inl (hw _ (List.mem_of_getElem? (i := 43) rfl))) Via.refl e16 GB1 (g := (mkF m 5 #[.val (.ref a1), .val (.ref a2), .unset] [(.ref a2), (.ref u1)])) rfl rfl (hb hby d_prog_53_method_4_code_5)
  obtain ⟨T18, X18, e18, st18⟩ := getF X17 hx hZ hown (host := "") (Or.inl (hw _ (List.mem_of_getElem? (i := 45) rfl))) Via.refl e17 GB2 (g := (mkF m 12 #[.val (.ref a1), .val (.ref a2), .unset] [(.ref a2)])) rfl rfl (hb hby d_prog_53_method_4_code_12)
  obtain ⟨T19, X19, e19, st19⟩ := getF X18 hx hZ hown (host := "") (Or.inl (hw _ (List.mem_of_getElem? (i := 45) rfl))) Via.refl e18 GA2 (g := (mkF m 16 #[.val (.ref a1), .val (.ref a2), .unset] [(.ref a1), (.int wv)])) rfl rfl (hb hby d_prog_53_method_4_code_16)
  obtain ⟨fs, hr, hrun, hended, hW, hsame⟩ := X19.leave (v := some (.int (1 : Int32))) (fun h => by rw [Bd.returns] at h; cases h)
  refine ⟨_, _, pre0 _ ?_, hrun, hended, _, _, rfl, ?_, ⟨_, rfl⟩, hW, hsame.mono (by decide) (by decide)⟩
  · show Steps p.tables e below (s₁.setTop (mkF m 0 #[.val (.ref a1), .val (.ref a2), .unset] [])) _
    refine XS.aloadN X0.here hx rfl (hb hby d_prog_53_method_4_code_0) rfl rfl ?_
    show Steps p.tables e below (s₁.setTop (mkF m 1 #[.val (.ref a1), .val (.ref a2), .unset] [(.ref a1)])) _
    refine st16 _ ?_
    show Steps p.tables e below (T16.setTop (mkF m 4 #[.val (.ref a1), .val (.ref a2), .unset] [(.ref u1)])) _
    refine XS.aloadN X16.here hx rfl (hb hby d_prog_53_method_4_code_4) rfl rfl ?_
    show Steps p.tables e below (T16.setTop (mkF m 5 #[.val (.ref a1), .val (.ref a2), .unset] [(.ref a2), (.ref u1)])) _
    refine st17 _ ?_
    show Steps p.tables e below (T17.setTop (mkF m 8 #[.val (.ref a1), .val (.ref a2), .unset] [(.ref u1), (.ref u1)])) _
    refine Jvm.RoadKit.acmp (g := (mkF m 8 #[.val (.ref a1), .val (.ref a2), .unset] [(.ref u1), (.ref u1)])) X17 hx rfl rfl rfl (pc0 := 8) (pc' := 11) (same := true) rfl (hb hby d_prog_53_method_4_code_8) rfl (decide_eq_true rfl) (by decide) (by decide) ?_
    show Steps p.tables e below (T17.setTop (mkF m 11 #[.val (.ref a1), .val (.ref a2), .unset] [])) _
    refine XS.aloadN X17.here hx rfl (hb hby d_prog_53_method_4_code_11) rfl rfl ?_
    show Steps p.tables e below (T17.setTop (mkF m 12 #[.val (.ref a1), .val (.ref a2), .unset] [(.ref a2)])) _
    refine st18 _ ?_
    show Steps p.tables e below (T18.setTop (mkF m 15 #[.val (.ref a1), .val (.ref a2), .unset] [(.int wv)])) _
    refine XS.aloadN X18.here hx rfl (hb hby d_prog_53_method_4_code_15) rfl rfl ?_
    show Steps p.tables e below (T18.setTop (mkF m 16 #[.val (.ref a1), .val (.ref a2), .unset] [(.ref a1), (.int wv)])) _
    refine st19 _ ?_
    show Steps p.tables e below (T19.setTop (mkF m 19 #[.val (.ref a1), .val (.ref a2), .unset] [(.int pv), (.int wv)])) _
    refine iremM X19 hx rfl (hb hby d_prog_53_method_4_code_19) rfl hz ?_
    show Steps p.tables e below (T19.setTop (mkF m 20 #[.val (.ref a1), .val (.ref a2), .unset] [(.int (wv % pv))])) _
    refine XS.ifNo X19.here hx rfl (hb hby d_prog_53_method_4_code_20) rfl (XT.i0_ne_f hc) ?_
    show Steps p.tables e below (T19.setTop (mkF m 23 #[.val (.ref a1), .val (.ref a2), .unset] [])) _
    refine XT.iconstV X19.here hx rfl (1 : Int32) (hb hby d_prog_53_method_4_code_23) rfl ?_
    show Steps p.tables e below (T19.setTop (mkF m 24 #[.val (.ref a1), .val (.ref a2), .unset] [(.int (1 : Int32))])) _
    refine XS.goto X19.here hx rfl (pc0 := 24) (pc' := 28) rfl (hb hby d_prog_53_method_4_code_24) (by decide) (by decide) ?_
    show Steps p.tables e below (T19.setTop (mkF m 28 #[.val (.ref a1), .val (.ref a2), .unset] [(.int (1 : Int32))])) _
    refine XS.istoreN X19.here hx rfl (hb hby d_prog_53_method_4_code_28) rfl (l' := #[.val (.ref a1), .val (.ref a2), .val (.int (1 : Int32))]) rfl ?_
    show Steps p.tables e below (T19.setTop (mkF m 29 #[.val (.ref a1), .val (.ref a2), .val (.int (1 : Int32))] [])) _
    refine XS.goto X19.here hx rfl (pc0 := 29) (pc' := 100) rfl (hb hby d_prog_53_method_4_code_29) (by decide) (by decide) ?_
    show Steps p.tables e below (T19.setTop (mkF m 100 #[.val (.ref a1), .val (.ref a2), .val (.int (1 : Int32))] [])) _
    refine XS.iloadN X19.here hx rfl (hb hby d_prog_53_method_4_code_100) rfl ?_
    show Steps p.tables e below (T19.setTop (mkF m 101 #[.val (.ref a1), .val (.ref a2), .val (.int (1 : Int32))] [(.int (1 : Int32))])) _
    exact retN X19 hx (t := .boolean) Bd.returns (by simp) (hb hby d_prog_53_method_4_code_101) hr
  · show own_Q (some (.int (1 : Int32))) h0 n0 _ T19.heap _
    rw [e19]
    exact ⟨rfl, N0, rfl⟩
theorem d_prog_53_method_4_code_32 : decode prog_53_method_4_code 32 = .ok (.aload_n 0, 1) := by decide +kernel
theorem d_prog_53_method_4_code_33 : decode prog_53_method_4_code 33 = .ok (.getfield 30, 3) := by decide +kernel
theorem d_prog_53_method_4_code_36 : decode prog_53_method_4_code 36 = .ok (.getstatic 71, 3) := by decide +kernel
theorem d_prog_53_method_4_code_39 : decode prog_53_method_4_code 39 = .ok (.if_acmp .ne 37, 3) := by decide +kernel
theorem d_prog_53_method_4_code_42 : decode prog_53_method_4_code 42 = .ok (.aload_n 1, 1) := by decide +kernel
theorem d_prog_53_method_4_code_43 : decode prog_53_method_4_code 43 = .ok (.getfield 30, 3) := by decide +kernel
theorem d_prog_53_method_4_code_46 : decode prog_53_method_4_code 46 = .ok (.getstatic 74, 3) := by decide +kernel
theorem d_prog_53_method_4_code_49 : decode prog_53_method_4_code 49 = .ok (.if_acmp .ne 27, 3) := by decide +kernel
theorem d_prog_53_method_4_code_52 : decode prog_53_method_4_code 52 = .ok (.bipush 12, 2) := by decide +kernel
theorem d_prog_53_method_4_code_54 : decode prog_53_method_4_code 54 = .ok (.aload_n 1, 1) := by decide +kernel
theorem d_prog_53_method_4_code_55 : decode prog_53_method_4_code 55 = .ok (.getfield 35, 3) := by decide +kernel
theorem d_prog_53_method_4_code_58 : decode prog_53_method_4_code 58 = .ok (.imul, 1) := by decide +kernel
theorem d_prog_53_method_4_code_59 : decode prog_53_method_4_code 59 = .ok (.aload_n 0, 1) := by decide +kernel
theorem d_prog_53_method_4_code_60 : decode prog_53_method_4_code 60 = .ok (.getfield 35, 3) := by decide +kernel
theorem d_prog_53_method_4_code_63 : decode prog_53_method_4_code 63 = .ok (.irem, 1) := by decide +kernel
theorem d_prog_53_method_4_code_64 : decode prog_53_method_4_code 64 = .ok (.ifCond .ne 7, 3) := by decide +kernel
theorem d_prog_53_method_4_code_67 : decode prog_53_method_4_code 67 = .ok (.iconst 1, 1) := by decide +kernel
theorem d_prog_53_method_4_code_68 : decode prog_53_method_4_code 68 = .ok (.goto 4, 3) := by decide +kernel
theorem d_prog_53_method_4_code_72 : decode prog_53_method_4_code 72 = .ok (.istore_n 2, 1) := by decide +kernel
theorem d_prog_53_method_4_code_73 : decode prog_53_method_4_code 73 = .ok (.goto 27, 3) := by decide +kernel
set_option maxRecDepth 65536 in
set_option maxHeartbeats 40000000 in
theorem own_div_cross_y (l : Launch) (Z : State) (a0 : Array Value) (hw : ∀ d ∈ tables_1, d.before a0 Z = true) (ws : List Jvm.Cond) (a1 a2 u1 u2 : Addr) (pv wv : Int32) (w0 w1 w2 w3 : Addr) (h0 : Heap) (n0 : Nat) (Z0 : n0 ≤ h0.size) (P : own_P Z h0 w0 w1 w2 w3) (GA1 : Fld Z h0 a1 "com/example/chitragupta/chitragupta/rating/Span" "unit" "Lcom/example/chitragupta/chitragupta/rating/Span$Unit;" (.ref w2)) (GA2 : Fld Z h0 a1 "com/example/chitragupta/chitragupta/rating/Span" "value" "I" (.int pv)) (GB1 : Fld Z h0 a2 "com/example/chitragupta/chitragupta/rating/Span" "unit" "Lcom/example/chitragupta/chitragupta/rating/Span$Unit;" (.ref w3)) (GB2 : Fld Z h0 a2 "com/example/chitragupta/chitragupta/rating/Span" "value" "I" (.int wv)) (hz : pv ≠ 0) (hc : ((12 : Int32) * wv % pv) = 0) :
    MetFree l (⟨"com/example/chitragupta/chitragupta/rating/Span", "divides", "(Lcom/example/chitragupta/chitragupta/rating/Span;)Z"⟩ : MethodName) (head1 (Jvm.Cond.code (⟨"com/example/chitragupta/chitragupta/rating/Span", "divides", "(Lcom/example/chitragupta/chitragupta/rating/Span;)Z"⟩ : MethodName) prog_53_method_4_code 3 (some .boolean) :: ws) ({ frames := 0, cells := 0, slots := 0, locals := 0 } : Room)) (fun a U => a = #[(.ref a1), (.ref a2)] ∧ Z.Warmed39 U.vm ∧ U.heap = h0) (fun _ _ _ _ _ => True) (fun _ U o U' => ∃ v L, o = .returned v ∧ own_Q (some (.int (1 : Int32))) h0 n0 v U'.heap L ∧ FrameEnd U o U' L ({ frames := 0, cells := 0, slots := 0, locals := 0 } : Room).cells ({ frames := 0, cells := 0, slots := 0, locals := 0 } : Room).slots) := by
  refine MetFree.of_bodySF (plainFor_of_name pn_com_example_chitragupta_chitragupta_rating_Span) hisR ?_
  intro p e s m args below meth c s₁ Bd hml0 hP hK
  obtain ⟨rfl, hZ, hh⟩ := hP
  have hx := Bd.exec
  have hby := Bd.bytes
  have hml : c.maxLocals = 3 := hml0
  have hown : s.vm.findClass "com/example/chitragupta/chitragupta/rating/Span" = some m.cls := findClass_of_methodNamed Bd.named
  have hnm := (name_of_methodNamed Bd.named Bd.method).1
  have X0 : Stand p l e ({ frames := 0, cells := 0, slots := 0, locals := 0 } : Room) s m #[(.ref a1), (.ref a2)] below meth c s₁ [] 0 0 := Stand.of_body Bd
  have e0 : s₁.heap = h0 := by rw [← hh, Bd.state]; rfl
  have N0 := Fr.nil n0
  have pre0 : ∀ t, Steps p.tables e below (s₁.setTop (mkF m 0 #[.val (.ref a1), .val (.ref a2), .unset] [])) t → Steps p.tables e below (s₁.setTop (entryFrame m #[(.ref a1), (.ref a2)] 3)) t := fun t k => castTop (ef_prog_53_method_4_code_AA m a1 a2) k
  have P0 := P; obtain ⟨S0, E0, F0_ordinal, S1, E1, F1_ordinal, S2, E2, F2_ordinal, S3, E3, F3_ordinal⟩ := P0
  obtain ⟨T20, X20, e20, st20⟩ := getF X0 hx hZ hown (host := "") (Or.inl (hw _ (List.mem_of_getElem? (i := 43) rfl))) Via.refl e0 GA1 (g := (mkF m 1 #[.val (.ref a1), .val (.ref a2), .unset] [(.ref a1)])) rfl rfl (hb hby d_prog_53_method_4_code_1)
  obtain ⟨T21, X21, e21, st21⟩ := getF X20 hx hZ hown (host := "") (Or.inl (hw _ (List.mem_of_getElem? (i := 43) rfl))) Via.refl e20 GB1 (g := (mkF m 5 #[.val (.ref a1), .val (.ref a2), .unset] [(.ref a2), (.ref w2)])) rfl rfl (hb hby d_prog_53_method_4_code_5)
  obtain ⟨T22, X22, e22, st22⟩ := getF X21 hx hZ hown (host := "") (Or.inl (hw _ (List.mem_of_getElem? (i := 43) rfl))) Via.refl e21 GA1 (g := (mkF m 33 #[.val (.ref a1), .val (.ref a2), .unset] [(.ref a1)])) rfl rfl (hb hby d_prog_53_method_4_code_33)
  obtain ⟨T23, X23, e23, st23⟩ := getS2 X22 hx hZ hown (host := "") (Or.inl (hw _ (List.mem_of_getElem? (i := 52) rfl))) Via.refl e22 S2 (g := (mkF m 36 #[.val (.ref a1), .val (.ref a2), .unset] [(.ref w2)])) rfl (hb hby d_prog_53_method_4_code_36)
  obtain ⟨T24, X24, e24, st24⟩ := getF X23 hx hZ hown (host := "") (Or.inl (hw _ (List.mem_of_getElem? (i := 43) rfl))) Via.refl e23 GB1 (g := (mkF m 43 #[.val (.ref a1), .val (.ref a2), .unset] [(.ref a2)])) rfl rfl (hb hby d_prog_53_method_4_code_43)
  obtain ⟨T25, X25, e25, st25⟩ := getS2 X24 hx hZ hown (host := "") (Or.inl (hw _ (List.mem_of_getElem? (i := 57) rfl))) Via.refl e24 S3 (g := (mkF m 46 #[.val (.ref a1), .val (.ref a2), .unset] [(.ref w3)])) rfl (hb hby d_prog_53_method_4_code_46)
  obtain ⟨T26, X26, e26, st26⟩ := getF X25 hx hZ hown (host := "") (Or.inl (hw _ (List.mem_of_getElem? (i := 45) rfl))) Via.refl e25 GB2 (g := (mkF m 55 #[.val (.ref a1), .val (.ref a2), .unset] [(.ref a2), (.int (12 : Int32))])) rfl rfl (hb hby d_prog_53_method_4_code_55)
  obtain ⟨T27, X27, e27, st27⟩ := getF X26 hx hZ hown (host := "") (Or.inl (hw _ (List.mem_of_getElem? (i := 45) rfl))) Via.refl e26 GA2 (g := (mkF m 60 #[.val (.ref a1), .val (.ref a2), .unset] [(.ref a1), (.int ((12 : Int32) * wv))])) rfl rfl (hb hby d_prog_53_method_4_code_60)
  obtain ⟨fs, hr, hrun, hended, hW, hsame⟩ := X27.leave (v := some (.int (1 : Int32))) (fun h => by rw [Bd.returns] at h; cases h)
  refine ⟨_, _, pre0 _ ?_, hrun, hended, _, _, rfl, ?_, ⟨_, rfl⟩, hW, hsame.mono (by decide) (by decide)⟩
  · show Steps p.tables e below (s₁.setTop (mkF m 0 #[.val (.ref a1), .val (.ref a2), .unset] [])) _
    refine XS.aloadN X0.here hx rfl (hb hby d_prog_53_method_4_code_0) rfl rfl ?_
    show Steps p.tables e below (s₁.setTop (mkF m 1 #[.val (.ref a1), .val (.ref a2), .unset] [(.ref a1)])) _
    refine st20 _ ?_
    show Steps p.tables e below (T20.setTop (mkF m 4 #[.val (.ref a1), .val (.ref a2), .unset] [(.ref w2)])) _
    refine XS.aloadN X20.here hx rfl (hb hby d_prog_53_method_4_code_4) rfl rfl ?_
    show Steps p.tables e below (T20.setTop (mkF m 5 #[.val (.ref a1), .val (.ref a2), .unset] [(.ref a2), (.ref w2)])) _
    refine st21 _ ?_
    show Steps p.tables e below (T21.setTop (mkF m 8 #[.val (.ref a1), .val (.ref a2), .unset] [(.ref w3), (.ref w2)])) _
    refine Jvm.RoadKit.acmp (g := (mkF m 8 #[.val (.ref a1), .val (.ref a2), .unset] [(.ref w3), (.ref w2)])) X21 hx rfl rfl rfl (pc0 := 8) (pc' := 32) (same := false) rfl (hb hby d_prog_53_method_4_code_8) rfl (decide_eq_false (fun q => (F2_ordinal.ne F3_ordinal (by decide)) (Value.ref.inj q))) (by decide) (by decide) ?_
    show Steps p.tables e below (T21.setTop (mkF m 32 #[.val (.ref a1), .val (.ref a2), .unset] [])) _
    refine XS.aloadN X21.here hx rfl (hb hby d_prog_53_method_4_code_32) rfl rfl ?_
    show Steps p.tables e below (T21.setTop (mkF m 33 #[.val (.ref a1), .val (.ref a2), .unset] [(.ref a1)])) _
    refine st22 _ ?_
    show Steps p.tables e below (T22.setTop (mkF m 36 #[.val (.ref a1), .val (.ref a2), .unset] [(.ref w2)])) _
    refine st23 _ ?_
    show Steps p.tables e below (T23.setTop (mkF m 39 #[.val (.ref a1), .val (.ref a2), .unset] [(.ref w2), (.ref w2)])) _
    refine Jvm.RoadKit.acmp (g := (mkF m 39 #[.val (.ref a1), .val (.ref a2), .unset] [(.ref w2), (.ref w2)])) X23 hx rfl rfl rfl (pc0 := 39) (pc' := 42) (same := true) rfl (hb hby d_prog_53_method_4_code_39) rfl (decide_eq_true rfl) (by decide) (by decide) ?_
    show Steps p.tables e below (T23.setTop (mkF m 42 #[.val (.ref a1), .val (.ref a2), .unset] [])) _
    refine XS.aloadN X23.here hx rfl (hb hby d_prog_53_method_4_code_42) rfl rfl ?_
    show Steps p.tables e below (T23.setTop (mkF m 43 #[.val (.ref a1), .val (.ref a2), .unset] [(.ref a2)])) _
    refine st24 _ ?_
    show Steps p.tables e below (T24.setTop (mkF m 46 #[.val (.ref a1), .val (.ref a2), .unset] [(.ref w3)])) _
    refine st25 _ ?_
    show Steps p.tables e below (T25.setTop (mkF m 49 #[.val (.ref a1), .val (.ref a2), .unset] [(.ref w3), (.ref w3)])) _
    refine Jvm.RoadKit.acmp (g := (mkF m 49 #[.val (.ref a1), .val (.ref a2), .unset] [(.ref w3), (.ref w3)])) X25 hx rfl rfl rfl (pc0 := 49) (pc' := 52) (same := true) rfl (hb hby d_prog_53_method_4_code_49) rfl (decide_eq_true rfl) (by decide) (by decide) ?_
    show Steps p.tables e below (T25.setTop (mkF m 52 #[.val (.ref a1), .val (.ref a2), .unset] [])) _
    refine XT.bipushV X25.here hx rfl (12 : Int32) (hb hby d_prog_53_method_4_code_52) (by decide) ?_
    show Steps p.tables e below (T25.setTop (mkF m 54 #[.val (.ref a1), .val (.ref a2), .unset] [(.int (12 : Int32))])) _
    refine XS.aloadN X25.here hx rfl (hb hby d_prog_53_method_4_code_54) rfl rfl ?_
    show Steps p.tables e below (T25.setTop (mkF m 55 #[.val (.ref a1), .val (.ref a2), .unset] [(.ref a2), (.int (12 : Int32))])) _
    refine st26 _ ?_
    show Steps p.tables e below (T26.setTop (mkF m 58 #[.val (.ref a1), .val (.ref a2), .unset] [(.int wv), (.int (12 : Int32))])) _
    refine XS.imul X26.here hx rfl (hb hby d_prog_53_method_4_code_58) rfl ?_
    show Steps p.tables e below (T26.setTop (mkF m 59 #[.val (.ref a1), .val (.ref a2), .unset] [(.int ((12 : Int32) * wv))])) _
    refine XS.aloadN X26.here hx rfl (hb hby d_prog_53_method_4_code_59) rfl rfl ?_
    show Steps p.tables e below (T26.setTop (mkF m 60 #[.val (.ref a1), .val (.ref a2), .unset] [(.ref a1), (.int ((12 : Int32) * wv))])) _
    refine st27 _ ?_
    show Steps p.tables e below (T27.setTop (mkF m 63 #[.val (.ref a1), .val (.ref a2), .unset] [(.int pv), (.int ((12 : Int32) * wv))])) _
    refine iremM X27 hx rfl (hb hby d_prog_53_method_4_code_63) rfl hz ?_
    show Steps p.tables e below (T27.setTop (mkF m 64 #[.val (.ref a1), .val (.ref a2), .unset] [(.int (((12 : Int32) * wv) % pv))])) _
    refine XS.ifNo X27.here hx rfl (hb hby d_prog_53_method_4_code_64) rfl (XT.i0_ne_f hc) ?_
    show Steps p.tables e below (T27.setTop (mkF m 67 #[.val (.ref a1), .val (.ref a2), .unset] [])) _
    refine XT.iconstV X27.here hx rfl (1 : Int32) (hb hby d_prog_53_method_4_code_67) rfl ?_
    show Steps p.tables e below (T27.setTop (mkF m 68 #[.val (.ref a1), .val (.ref a2), .unset] [(.int (1 : Int32))])) _
    refine XS.goto X27.here hx rfl (pc0 := 68) (pc' := 72) rfl (hb hby d_prog_53_method_4_code_68) (by decide) (by decide) ?_
    show Steps p.tables e below (T27.setTop (mkF m 72 #[.val (.ref a1), .val (.ref a2), .unset] [(.int (1 : Int32))])) _
    refine XS.istoreN X27.here hx rfl (hb hby d_prog_53_method_4_code_72) rfl (l' := #[.val (.ref a1), .val (.ref a2), .val (.int (1 : Int32))]) rfl ?_
    show Steps p.tables e below (T27.setTop (mkF m 73 #[.val (.ref a1), .val (.ref a2), .val (.int (1 : Int32))] [])) _
    refine XS.goto X27.here hx rfl (pc0 := 73) (pc' := 100) rfl (hb hby d_prog_53_method_4_code_73) (by decide) (by decide) ?_
    show Steps p.tables e below (T27.setTop (mkF m 100 #[.val (.ref a1), .val (.ref a2), .val (.int (1 : Int32))] [])) _
    refine XS.iloadN X27.here hx rfl (hb hby d_prog_53_method_4_code_100) rfl ?_
    show Steps p.tables e below (T27.setTop (mkF m 101 #[.val (.ref a1), .val (.ref a2), .val (.int (1 : Int32))] [(.int (1 : Int32))])) _
    exact retN X27 hx (t := .boolean) Bd.returns (by simp) (hb hby d_prog_53_method_4_code_101) hr
  · show own_Q (some (.int (1 : Int32))) h0 n0 _ T27.heap _
    rw [e27]
    exact ⟨rfl, N0, rfl⟩
theorem d_prog_53_method_4_code_76 : decode prog_53_method_4_code 76 = .ok (.aload_n 0, 1) := by decide +kernel
theorem d_prog_53_method_4_code_77 : decode prog_53_method_4_code 77 = .ok (.getfield 30, 3) := by decide +kernel
theorem d_prog_53_method_4_code_80 : decode prog_53_method_4_code 80 = .ok (.getstatic 77, 3) := by decide +kernel
theorem d_prog_53_method_4_code_83 : decode prog_53_method_4_code 83 = .ok (.if_acmp .ne 15, 3) := by decide +kernel
theorem d_prog_53_method_4_code_86 : decode prog_53_method_4_code 86 = .ok (.aload_n 0, 1) := by decide +kernel
theorem d_prog_53_method_4_code_87 : decode prog_53_method_4_code 87 = .ok (.getfield 35, 3) := by decide +kernel
theorem d_prog_53_method_4_code_90 : decode prog_53_method_4_code 90 = .ok (.iconst 1, 1) := by decide +kernel
theorem d_prog_53_method_4_code_91 : decode prog_53_method_4_code 91 = .ok (.if_icmp .ne 7, 3) := by decide +kernel
theorem d_prog_53_method_4_code_94 : decode prog_53_method_4_code 94 = .ok (.iconst 1, 1) := by decide +kernel
theorem d_prog_53_method_4_code_95 : decode prog_53_method_4_code 95 = .ok (.goto 4, 3) := by decide +kernel
theorem d_prog_53_method_4_code_99 : decode prog_53_method_4_code 99 = .ok (.istore_n 2, 1) := by decide +kernel
set_option maxRecDepth 65536 in
set_option maxHeartbeats 40000000 in
theorem own_div_day_y (l : Launch) (Z : State) (a0 : Array Value) (hw : ∀ d ∈ tables_1, d.before a0 Z = true) (ws : List Jvm.Cond) (a1 a2 u1 u2 : Addr) (pv wv : Int32) (w0 w1 w2 w3 : Addr) (h0 : Heap) (n0 : Nat) (Z0 : n0 ≤ h0.size) (P : own_P Z h0 w0 w1 w2 w3) (GA1 : Fld Z h0 a1 "com/example/chitragupta/chitragupta/rating/Span" "unit" "Lcom/example/chitragupta/chitragupta/rating/Span$Unit;" (.ref w0)) (GA2 : Fld Z h0 a1 "com/example/chitragupta/chitragupta/rating/Span" "value" "I" (.int pv)) (GB1 : Fld Z h0 a2 "com/example/chitragupta/chitragupta/rating/Span" "unit" "Lcom/example/chitragupta/chitragupta/rating/Span$Unit;" (.ref u2)) (GB2 : Fld Z h0 a2 "com/example/chitragupta/chitragupta/rating/Span" "value" "I" (.int wv)) (hne : w0 ≠ u2) (hc : pv = (1 : Int32)) :
    MetFree l (⟨"com/example/chitragupta/chitragupta/rating/Span", "divides", "(Lcom/example/chitragupta/chitragupta/rating/Span;)Z"⟩ : MethodName) (head1 (Jvm.Cond.code (⟨"com/example/chitragupta/chitragupta/rating/Span", "divides", "(Lcom/example/chitragupta/chitragupta/rating/Span;)Z"⟩ : MethodName) prog_53_method_4_code 3 (some .boolean) :: ws) ({ frames := 0, cells := 0, slots := 0, locals := 0 } : Room)) (fun a U => a = #[(.ref a1), (.ref a2)] ∧ Z.Warmed39 U.vm ∧ U.heap = h0) (fun _ _ _ _ _ => True) (fun _ U o U' => ∃ v L, o = .returned v ∧ own_Q (some (.int (1 : Int32))) h0 n0 v U'.heap L ∧ FrameEnd U o U' L ({ frames := 0, cells := 0, slots := 0, locals := 0 } : Room).cells ({ frames := 0, cells := 0, slots := 0, locals := 0 } : Room).slots) := by
  refine MetFree.of_bodySF (plainFor_of_name pn_com_example_chitragupta_chitragupta_rating_Span) hisR ?_
  intro p e s m args below meth c s₁ Bd hml0 hP hK
  obtain ⟨rfl, hZ, hh⟩ := hP
  have hx := Bd.exec
  have hby := Bd.bytes
  have hml : c.maxLocals = 3 := hml0
  have hown : s.vm.findClass "com/example/chitragupta/chitragupta/rating/Span" = some m.cls := findClass_of_methodNamed Bd.named
  have hnm := (name_of_methodNamed Bd.named Bd.method).1
  have X0 : Stand p l e ({ frames := 0, cells := 0, slots := 0, locals := 0 } : Room) s m #[(.ref a1), (.ref a2)] below meth c s₁ [] 0 0 := Stand.of_body Bd
  have e0 : s₁.heap = h0 := by rw [← hh, Bd.state]; rfl
  have N0 := Fr.nil n0
  have pre0 : ∀ t, Steps p.tables e below (s₁.setTop (mkF m 0 #[.val (.ref a1), .val (.ref a2), .unset] [])) t → Steps p.tables e below (s₁.setTop (entryFrame m #[(.ref a1), (.ref a2)] 3)) t := fun t k => castTop (ef_prog_53_method_4_code_AA m a1 a2) k
  have P0 := P; obtain ⟨S0, E0, F0_ordinal, S1, E1, F1_ordinal, S2, E2, F2_ordinal, S3, E3, F3_ordinal⟩ := P0
  obtain ⟨T28, X28, e28, st28⟩ := getF X0 hx hZ hown (host := "") (Or.inl (hw _ (List.mem_of_getElem? (i := 43) rfl))) Via.refl e0 GA1 (g := (mkF m 1 #[.val (.ref a1), .val (.ref a2), .unset] [(.ref a1)])) rfl rfl (hb hby d_prog_53_method_4_code_1)
  obtain ⟨T29, X29, e29, st29⟩ := getF X28 hx hZ hown (host := "") (Or.inl (hw _ (List.mem_of_getElem? (i := 43) rfl))) Via.refl e28 GB1 (g := (mkF m 5 #[.val (.ref a1), .val (.ref a2), .unset] [(.ref a2), (.ref w0)])) rfl rfl (hb hby d_prog_53_method_4_code_5)
  obtain ⟨T30, X30, e30, st30⟩ := getF X29 hx hZ hown (host := "") (Or.inl (hw _ (List.mem_of_getElem? (i := 43) rfl))) Via.refl e29 GA1 (g := (mkF m 33 #[.val (.ref a1), .val (.ref a2), .unset] [(.ref a1)])) rfl rfl (hb hby d_prog_53_method_4_code_33)
  obtain ⟨T31, X31, e31, st31⟩ := getS2 X30 hx hZ hown (host := "") (Or.inl (hw _ (List.mem_of_getElem? (i := 52) rfl))) Via.refl e30 S2 (g := (mkF m 36 #[.val (.ref a1), .val (.ref a2), .unset] [(.ref w0)])) rfl (hb hby d_prog_53_method_4_code_36)
  obtain ⟨T32, X32, e32, st32⟩ := getF X31 hx hZ hown (host := "") (Or.inl (hw _ (List.mem_of_getElem? (i := 43) rfl))) Via.refl e31 GA1 (g := (mkF m 77 #[.val (.ref a1), .val (.ref a2), .unset] [(.ref a1)])) rfl rfl (hb hby d_prog_53_method_4_code_77)
  obtain ⟨T33, X33, e33, st33⟩ := getS2 X32 hx hZ hown (host := "") (Or.inl (hw _ (List.mem_of_getElem? (i := 53) rfl))) Via.refl e32 S0 (g := (mkF m 80 #[.val (.ref a1), .val (.ref a2), .unset] [(.ref w0)])) rfl (hb hby d_prog_53_method_4_code_80)
  obtain ⟨T34, X34, e34, st34⟩ := getF X33 hx hZ hown (host := "") (Or.inl (hw _ (List.mem_of_getElem? (i := 45) rfl))) Via.refl e33 GA2 (g := (mkF m 87 #[.val (.ref a1), .val (.ref a2), .unset] [(.ref a1)])) rfl rfl (hb hby d_prog_53_method_4_code_87)
  obtain ⟨fs, hr, hrun, hended, hW, hsame⟩ := X34.leave (v := some (.int (1 : Int32))) (fun h => by rw [Bd.returns] at h; cases h)
  refine ⟨_, _, pre0 _ ?_, hrun, hended, _, _, rfl, ?_, ⟨_, rfl⟩, hW, hsame.mono (by decide) (by decide)⟩
  · show Steps p.tables e below (s₁.setTop (mkF m 0 #[.val (.ref a1), .val (.ref a2), .unset] [])) _
    refine XS.aloadN X0.here hx rfl (hb hby d_prog_53_method_4_code_0) rfl rfl ?_
    show Steps p.tables e below (s₁.setTop (mkF m 1 #[.val (.ref a1), .val (.ref a2), .unset] [(.ref a1)])) _
    refine st28 _ ?_
    show Steps p.tables e below (T28.setTop (mkF m 4 #[.val (.ref a1), .val (.ref a2), .unset] [(.ref w0)])) _
    refine XS.aloadN X28.here hx rfl (hb hby d_prog_53_method_4_code_4) rfl rfl ?_
    show Steps p.tables e below (T28.setTop (mkF m 5 #[.val (.ref a1), .val (.ref a2), .unset] [(.ref a2), (.ref w0)])) _
    refine st29 _ ?_
    show Steps p.tables e below (T29.setTop (mkF m 8 #[.val (.ref a1), .val (.ref a2), .unset] [(.ref u2), (.ref w0)])) _
    refine Jvm.RoadKit.acmp (g := (mkF m 8 #[.val (.ref a1), .val (.ref a2), .unset] [(.ref u2), (.ref w0)])) X29 hx rfl rfl rfl (pc0 := 8) (pc' := 32) (same := false) rfl (hb hby d_prog_53_method_4_code_8) rfl (decide_eq_false (fun q => hne (Value.ref.inj q))) (by decide) (by decide) ?_
    show Steps p.tables e below (T29.setTop (mkF m 32 #[.val (.ref a1), .val (.ref a2), .unset] [])) _
    refine XS.aloadN X29.here hx rfl (hb hby d_prog_53_method_4_code_32) rfl rfl ?_
    show Steps p.tables e below (T29.setTop (mkF m 33 #[.val (.ref a1), .val (.ref a2), .unset] [(.ref a1)])) _
    refine st30 _ ?_
    show Steps p.tables e below (T30.setTop (mkF m 36 #[.val (.ref a1), .val (.ref a2), .unset] [(.ref w0)])) _
    refine st31 _ ?_
    show Steps p.tables e below (T31.setTop (mkF m 39 #[.val (.ref a1), .val (.ref a2), .unset] [(.ref w2), (.ref w0)])) _
    refine Jvm.RoadKit.acmp (g := (mkF m 39 #[.val (.ref a1), .val (.ref a2), .unset] [(.ref w2), (.ref w0)])) X31 hx rfl rfl rfl (pc0 := 39) (pc' := 76) (same := false) rfl (hb hby d_prog_53_method_4_code_39) rfl (decide_eq_false (fun q => (F0_ordinal.ne F2_ordinal (by decide)) (Value.ref.inj q))) (by decide) (by decide) ?_
    show Steps p.tables e below (T31.setTop (mkF m 76 #[.val (.ref a1), .val (.ref a2), .unset] [])) _
    refine XS.aloadN X31.here hx rfl (hb hby d_prog_53_method_4_code_76) rfl rfl ?_
    show Steps p.tables e below (T31.setTop (mkF m 77 #[.val (.ref a1), .val (.ref a2), .unset] [(.ref a1)])) _
    refine st32 _ ?_
    show Steps p.tables e below (T32.setTop (mkF m 80 #[.val (.ref a1), .val (.ref a2), .unset] [(.ref w0)])) _
    refine st33 _ ?_
    show Steps p.tables e below (T33.setTop (mkF m 83 #[.val (.ref a1), .val (.ref a2), .unset] [(.ref w0), (.ref w0)])) _
    refine Jvm.RoadKit.acmp (g := (mkF m 83 #[.val (.ref a1), .val (.ref a2), .unset] [(.ref w0), (.ref w0)])) X33 hx rfl rfl rfl (pc0 := 83) (pc' := 86) (same := true) rfl (hb hby d_prog_53_method_4_code_83) rfl (decide_eq_true rfl) (by decide) (by decide) ?_
    show Steps p.tables e below (T33.setTop (mkF m 86 #[.val (.ref a1), .val (.ref a2), .unset] [])) _
    refine XS.aloadN X33.here hx rfl (hb hby d_prog_53_method_4_code_86) rfl rfl ?_
    show Steps p.tables e below (T33.setTop (mkF m 87 #[.val (.ref a1), .val (.ref a2), .unset] [(.ref a1)])) _
    refine st34 _ ?_
    show Steps p.tables e below (T34.setTop (mkF m 90 #[.val (.ref a1), .val (.ref a2), .unset] [(.int pv)])) _
    refine XT.iconstV X34.here hx rfl (1 : Int32) (hb hby d_prog_53_method_4_code_90) rfl ?_
    show Steps p.tables e below (T34.setTop (mkF m 91 #[.val (.ref a1), .val (.ref a2), .unset] [(.int (1 : Int32)), (.int pv)])) _
    refine XS.icmpNo X34.here hx rfl (hb hby d_prog_53_method_4_code_91) rfl (XT.ii_ne_f hc) ?_
    show Steps p.tables e below (T34.setTop (mkF m 94 #[.val (.ref a1), .val (.ref a2), .unset] [])) _
    refine XT.iconstV X34.here hx rfl (1 : Int32) (hb hby d_prog_53_method_4_code_94) rfl ?_
    show Steps p.tables e below (T34.setTop (mkF m 95 #[.val (.ref a1), .val (.ref a2), .unset] [(.int (1 : Int32))])) _
    refine XS.goto X34.here hx rfl (pc0 := 95) (pc' := 99) rfl (hb hby d_prog_53_method_4_code_95) (by decide) (by decide) ?_
    show Steps p.tables e below (T34.setTop (mkF m 99 #[.val (.ref a1), .val (.ref a2), .unset] [(.int (1 : Int32))])) _
    refine XS.istoreN X34.here hx rfl (hb hby d_prog_53_method_4_code_99) rfl (l' := #[.val (.ref a1), .val (.ref a2), .val (.int (1 : Int32))]) rfl ?_
    show Steps p.tables e below (T34.setTop (mkF m 100 #[.val (.ref a1), .val (.ref a2), .val (.int (1 : Int32))] [])) _
    refine XS.iloadN X34.here hx rfl (hb hby d_prog_53_method_4_code_100) rfl ?_
    show Steps p.tables e below (T34.setTop (mkF m 101 #[.val (.ref a1), .val (.ref a2), .val (.int (1 : Int32))] [(.int (1 : Int32))])) _
    exact retN X34 hx (t := .boolean) Bd.returns (by simp) (hb hby d_prog_53_method_4_code_101) hr
  · show own_Q (some (.int (1 : Int32))) h0 n0 _ T34.heap _
    rw [e34]
    exact ⟨rfl, N0, rfl⟩
theorem d_prog_53_method_4_code_27 : decode prog_53_method_4_code 27 = .ok (.iconst 0, 1) := by decide +kernel
set_option maxRecDepth 65536 in
set_option maxHeartbeats 40000000 in
theorem own_div_same_n (l : Launch) (Z : State) (a0 : Array Value) (hw : ∀ d ∈ tables_1, d.before a0 Z = true) (ws : List Jvm.Cond) (a1 a2 u1 u2 : Addr) (pv wv : Int32) (w0 w1 w2 w3 : Addr) (h0 : Heap) (n0 : Nat) (Z0 : n0 ≤ h0.size) (P : own_P Z h0 w0 w1 w2 w3) (GA1 : Fld Z h0 a1 "com/example/chitragupta/chitragupta/rating/Span" "unit" "Lcom/example/chitragupta/chitragupta/rating/Span$Unit;" (.ref u1)) (GA2 : Fld Z h0 a1 "com/example/chitragupta/chitragupta/rating/Span" "value" "I" (.int pv)) (GB1 : Fld Z h0 a2 "com/example/chitragupta/chitragupta/rating/Span" "unit" "Lcom/example/chitragupta/chitragupta/rating/Span$Unit;" (.ref u1)) (GB2 : Fld Z h0 a2 "com/example/chitragupta/chitragupta/rating/Span" "value" "I" (.int wv)) (hz : pv ≠ 0) (hc : ¬ (wv % pv) = 0) :
    MetFree l (⟨"com/example/chitragupta/chitragupta/rating/Span", "divides", "(Lcom/example/chitragupta/chitragupta/rating/Span;)Z"⟩ : MethodName) (head1 (Jvm.Cond.code (⟨"com/example/chitragupta/chitragupta/rating/Span", "divides", "(Lcom/example/chitragupta/chitragupta/rating/Span;)Z"⟩ : MethodName) prog_53_method_4_code 3 (some .boolean) :: ws) ({ frames := 0, cells := 0, slots := 0, locals := 0 } : Room)) (fun a U => a = #[(.ref a1), (.ref a2)] ∧ Z.Warmed39 U.vm ∧ U.heap = h0) (fun _ _ _ _ _ => True) (fun _ U o U' => ∃ v L, o = .returned v ∧ own_Q (some (.int (0 : Int32))) h0 n0 v U'.heap L ∧ FrameEnd U o U' L ({ frames := 0, cells := 0, slots := 0, locals := 0 } : Room).cells ({ frames := 0, cells := 0, slots := 0, locals := 0 } : Room).slots) := by
  refine MetFree.of_bodySF (plainFor_of_name pn_com_example_chitragupta_chitragupta_rating_Span) hisR ?_
  intro p e s m args below meth c s₁ Bd hml0 hP hK
  obtain ⟨rfl, hZ, hh⟩ := hP
  have hx := Bd.exec
  have hby := Bd.bytes
  have hml : c.maxLocals = 3 := hml0
  have hown : s.vm.findClass "com/example/chitragupta/chitragupta/rating/Span" = some m.cls := findClass_of_methodNamed Bd.named
  have hnm := (name_of_methodNamed Bd.named Bd.method).1
  have X0 : Stand p l e ({ frames := 0, cells := 0, slots := 0, locals := 0 } : Room) s m #[(.ref a1), (.ref a2)] below meth c s₁ [] 0 0 := Stand.of_body Bd
  have e0 : s₁.heap = h0 := by rw [← hh, Bd.state]; rfl
  have N0 := Fr.nil n0
  have pre0 : ∀ t, Steps p.tables e below (s₁.setTop (mkF m 0 #[.val (.ref a1), .val (.ref a2), .unset] [])) t → Steps p.tables e below (s₁.setTop (entryFrame m #[(.ref a1), (.ref a2)] 3)) t := fun t k => castTop (ef_prog_53_method_4_code_AA m a1 a2) k
  have P0 := P; obtain ⟨S0, E0, F0_ordinal, S1, E1, F1_ordinal, S2, E2, F2_ordinal, S3, E3, F3_ordinal⟩ := P0
  obtain ⟨T35, X35, e35, st35⟩ := getF X0 hx hZ hown (host := "") (Or.inl (hw _ (List.mem_of_getElem? (i := 43) rfl))) Via.refl e0 GA1 (g := (mkF m 1 #[.val (.ref a1), .val (.ref a2), .unset] [(.ref a1)])) rfl rfl (hb hby d_prog_53_method_4_code_1)
  obtain ⟨T36, X36, e36, st36⟩ := getF X35 hx hZ hown (host := "") (Or.inl (hw _ (List.mem_of_getElem? (i := 43) rfl))) Via.refl e35 GB1 (g := (mkF m 5 #[.val (.ref a1), .val (.ref a2), .unset] [(.ref a2), (.ref u1)])) rfl rfl (hb hby d_prog_53_method_4_code_5)
  obtain ⟨T37, X37, e37, st37⟩ := getF X36 hx hZ hown (host := "") (Or.inl (hw _ (List.mem_of_getElem? (i := 45) rfl))) Via.refl e36 GB2 (g := (mkF m 12 #[.val (.ref a1), .val (.ref a2), .unset] [(.ref a2)])) rfl rfl (hb hby d_prog_53_method_4_code_12)
  obtain ⟨T38, X38, e38, st38⟩ := getF X37 hx hZ hown (host := "") (Or.inl (hw _ (List.mem_of_getElem? (i := 45) rfl))) Via.refl e37 GA2 (g := (mkF m 16 #[.val (.ref a1), .val (.ref a2), .unset] [(.ref a1), (.int wv)])) rfl rfl (hb hby d_prog_53_method_4_code_16)
  obtain ⟨fs, hr, hrun, hended, hW, hsame⟩ := X38.leave (v := some (.int (0 : Int32))) (fun h => by rw [Bd.returns] at h; cases h)
  refine ⟨_, _, pre0 _ ?_, hrun, hended, _, _, rfl, ?_, ⟨_, rfl⟩, hW, hsame.mono (by decide) (by decide)⟩
  · show Steps p.tables e below (s₁.setTop (mkF m 0 #[.val (.ref a1), .val (.ref a2), .unset] [])) _
    refine XS.aloadN X0.here hx rfl (hb hby d_prog_53_method_4_code_0) rfl rfl ?_
    show Steps p.tables e below (s₁.setTop (mkF m 1 #[.val (.ref a1), .val (.ref a2), .unset] [(.ref a1)])) _
    refine st35 _ ?_
    show Steps p.tables e below (T35.setTop (mkF m 4 #[.val (.ref a1), .val (.ref a2), .unset] [(.ref u1)])) _
    refine XS.aloadN X35.here hx rfl (hb hby d_prog_53_method_4_code_4) rfl rfl ?_
    show Steps p.tables e below (T35.setTop (mkF m 5 #[.val (.ref a1), .val (.ref a2), .unset] [(.ref a2), (.ref u1)])) _
    refine st36 _ ?_
    show Steps p.tables e below (T36.setTop (mkF m 8 #[.val (.ref a1), .val (.ref a2), .unset] [(.ref u1), (.ref u1)])) _
    refine Jvm.RoadKit.acmp (g := (mkF m 8 #[.val (.ref a1), .val (.ref a2), .unset] [(.ref u1), (.ref u1)])) X36 hx rfl rfl rfl (pc0 := 8) (pc' := 11) (same := true) rfl (hb hby d_prog_53_method_4_code_8) rfl (decide_eq_true rfl) (by decide) (by decide) ?_
    show Steps p.tables e below (T36.setTop (mkF m 11 #[.val (.ref a1), .val (.ref a2), .unset] [])) _
    refine XS.aloadN X36.here hx rfl (hb hby d_prog_53_method_4_code_11) rfl rfl ?_
    show Steps p.tables e below (T36.setTop (mkF m 12 #[.val (.ref a1), .val (.ref a2), .unset] [(.ref a2)])) _
    refine st37 _ ?_
    show Steps p.tables e below (T37.setTop (mkF m 15 #[.val (.ref a1), .val (.ref a2), .unset] [(.int wv)])) _
    refine XS.aloadN X37.here hx rfl (hb hby d_prog_53_method_4_code_15) rfl rfl ?_
    show Steps p.tables e below (T37.setTop (mkF m 16 #[.val (.ref a1), .val (.ref a2), .unset] [(.ref a1), (.int wv)])) _
    refine st38 _ ?_
    show Steps p.tables e below (T38.setTop (mkF m 19 #[.val (.ref a1), .val (.ref a2), .unset] [(.int pv), (.int wv)])) _
    refine iremM X38 hx rfl (hb hby d_prog_53_method_4_code_19) rfl hz ?_
    show Steps p.tables e below (T38.setTop (mkF m 20 #[.val (.ref a1), .val (.ref a2), .unset] [(.int (wv % pv))])) _
    refine XS.ifYes X38.here hx rfl (pc0 := 20) (pc' := 27) rfl (hb hby d_prog_53_method_4_code_20) rfl (XT.i0_ne_t hc) (by decide) (by decide) ?_
    show Steps p.tables e below (T38.setTop (mkF m 27 #[.val (.ref a1), .val (.ref a2), .unset] [])) _
    refine XT.iconstV X38.here hx rfl (0 : Int32) (hb hby d_prog_53_method_4_code_27) rfl ?_
    show Steps p.tables e below (T38.setTop (mkF m 28 #[.val (.ref a1), .val (.ref a2), .unset] [(.int (0 : Int32))])) _
    refine XS.istoreN X38.here hx rfl (hb hby d_prog_53_method_4_code_28) rfl (l' := #[.val (.ref a1), .val (.ref a2), .val (.int (0 : Int32))]) rfl ?_
    show Steps p.tables e below (T38.setTop (mkF m 29 #[.val (.ref a1), .val (.ref a2), .val (.int (0 : Int32))] [])) _
    refine XS.goto X38.here hx rfl (pc0 := 29) (pc' := 100) rfl (hb hby d_prog_53_method_4_code_29) (by decide) (by decide) ?_
    show Steps p.tables e below (T38.setTop (mkF m 100 #[.val (.ref a1), .val (.ref a2), .val (.int (0 : Int32))] [])) _
    refine XS.iloadN X38.here hx rfl (hb hby d_prog_53_method_4_code_100) rfl ?_
    show Steps p.tables e below (T38.setTop (mkF m 101 #[.val (.ref a1), .val (.ref a2), .val (.int (0 : Int32))] [(.int (0 : Int32))])) _
    exact retN X38 hx (t := .boolean) Bd.returns (by simp) (hb hby d_prog_53_method_4_code_101) hr
  · show own_Q (some (.int (0 : Int32))) h0 n0 _ T38.heap _
    rw [e38]
    exact ⟨rfl, N0, rfl⟩
theorem d_prog_53_method_4_code_71 : decode prog_53_method_4_code 71 = .ok (.iconst 0, 1) := by decide +kernel
set_option maxRecDepth 65536 in
set_option maxHeartbeats 40000000 in
theorem own_div_cross_n (l : Launch) (Z : State) (a0 : Array Value) (hw : ∀ d ∈ tables_1, d.before a0 Z = true) (ws : List Jvm.Cond) (a1 a2 u1 u2 : Addr) (pv wv : Int32) (w0 w1 w2 w3 : Addr) (h0 : Heap) (n0 : Nat) (Z0 : n0 ≤ h0.size) (P : own_P Z h0 w0 w1 w2 w3) (GA1 : Fld Z h0 a1 "com/example/chitragupta/chitragupta/rating/Span" "unit" "Lcom/example/chitragupta/chitragupta/rating/Span$Unit;" (.ref w2)) (GA2 : Fld Z h0 a1 "com/example/chitragupta/chitragupta/rating/Span" "value" "I" (.int pv)) (GB1 : Fld Z h0 a2 "com/example/chitragupta/chitragupta/rating/Span" "unit" "Lcom/example/chitragupta/chitragupta/rating/Span$Unit;" (.ref w3)) (GB2 : Fld Z h0 a2 "com/example/chitragupta/chitragupta/rating/Span" "value" "I" (.int wv)) (hz : pv ≠ 0) (hc : ¬ ((12 : Int32) * wv % pv) = 0) :
    MetFree l (⟨"com/example/chitragupta/chitragupta/rating/Span", "divides", "(Lcom/example/chitragupta/chitragupta/rating/Span;)Z"⟩ : MethodName) (head1 (Jvm.Cond.code (⟨"com/example/chitragupta/chitragupta/rating/Span", "divides", "(Lcom/example/chitragupta/chitragupta/rating/Span;)Z"⟩ : MethodName) prog_53_method_4_code 3 (some .boolean) :: ws) ({ frames := 0, cells := 0, slots := 0, locals := 0 } : Room)) (fun a U => a = #[(.ref a1), (.ref a2)] ∧ Z.Warmed39 U.vm ∧ U.heap = h0) (fun _ _ _ _ _ => True) (fun _ U o U' => ∃ v L, o = .returned v ∧ own_Q (some (.int (0 : Int32))) h0 n0 v U'.heap L ∧ FrameEnd U o U' L ({ frames := 0, cells := 0, slots := 0, locals := 0 } : Room).cells ({ frames := 0, cells := 0, slots := 0, locals := 0 } : Room).slots) := by
  refine MetFree.of_bodySF (plainFor_of_name pn_com_example_chitragupta_chitragupta_rating_Span) hisR ?_
  intro p e s m args below meth c s₁ Bd hml0 hP hK
  obtain ⟨rfl, hZ, hh⟩ := hP
  have hx := Bd.exec
  have hby := Bd.bytes
  have hml : c.maxLocals = 3 := hml0
  have hown : s.vm.findClass "com/example/chitragupta/chitragupta/rating/Span" = some m.cls := findClass_of_methodNamed Bd.named
  have hnm := (name_of_methodNamed Bd.named Bd.method).1
  have X0 : Stand p l e ({ frames := 0, cells := 0, slots := 0, locals := 0 } : Room) s m #[(.ref a1), (.ref a2)] below meth c s₁ [] 0 0 := Stand.of_body Bd
  have e0 : s₁.heap = h0 := by rw [← hh, Bd.state]; rfl
  have N0 := Fr.nil n0
  have pre0 : ∀ t, Steps p.tables e below (s₁.setTop (mkF m 0 #[.val (.ref a1), .val (.ref a2), .unset] [])) t → Steps p.tables e below (s₁.setTop (entryFrame m #[(.ref a1), (.ref a2)] 3)) t := fun t k => castTop (ef_prog_53_method_4_code_AA m a1 a2) k
  have P0 := P; obtain ⟨S0, E0, F0_ordinal, S1, E1, F1_ordinal, S2, E2, F2_ordinal, S3, E3, F3_ordinal⟩ := P0
  obtain ⟨T39, X39, e39, st39⟩ := getF X0 hx hZ hown (host := "") (Or.inl (hw _ (List.mem_of_getElem? (i := 43) rfl))) Via.refl e0 GA1 (g := (mkF m 1 #[.val (.ref a1), .val (.ref a2), .unset] [(.ref a1)])) rfl rfl (hb hby d_prog_53_method_4_code_1)
  obtain ⟨T40, X40, e40, st40⟩ := getF X39 hx hZ hown (host := "") (Or.inl (hw _ (List.mem_of_getElem? (i := 43) rfl))) Via.refl e39 GB1 (g := (mkF m 5 #[.val (.ref a1), .val (.ref a2), .unset] [(.ref a2), (.ref w2)])) rfl rfl (hb hby d_prog_53_method_4_code_5)
  obtain ⟨T41, X41, e41, st41⟩ := getF X40 hx hZ hown (host := "") (Or.inl (hw _ (List.mem_of_getElem? (i := 43) rfl))) Via.refl e40 GA1 (g := (mkF m 33 #[.val (.ref a1), .val (.ref a2), .unset] [(.ref a1)])) rfl rfl (hb hby d_prog_53_method_4_code_33)
  obtain ⟨T42, X42, e42, st42⟩ := getS2 X41 hx hZ hown (host := "") (Or.inl (hw _ (List.mem_of_getElem? (i := 52) rfl))) Via.refl e41 S2 (g := (mkF m 36 #[.val (.ref a1), .val (.ref a2), .unset] [(.ref w2)])) rfl (hb hby d_prog_53_method_4_code_36)
  obtain ⟨T43, X43, e43, st43⟩ := getF X42 hx hZ hown (host := "") (Or.inl (hw _ (List.mem_of_getElem? (i := 43) rfl))) Via.refl e42 GB1 (g := (mkF m 43 #[.val (.ref a1), .val (.ref a2), .unset] [(.ref a2)])) rfl rfl (hb hby d_prog_53_method_4_code_43)
  obtain ⟨T44, X44, e44, st44⟩ := getS2 X43 hx hZ hown (host := "") (Or.inl (hw _ (List.mem_of_getElem? (i := 57) rfl))) Via.refl e43 S3 (g := (mkF m 46 #[.val (.ref a1), .val (.ref a2), .unset] [(.ref w3)])) rfl (hb hby d_prog_53_method_4_code_46)
  obtain ⟨T45, X45, e45, st45⟩ := getF X44 hx hZ hown (host := "") (Or.inl (hw _ (List.mem_of_getElem? (i := 45) rfl))) Via.refl e44 GB2 (g := (mkF m 55 #[.val (.ref a1), .val (.ref a2), .unset] [(.ref a2), (.int (12 : Int32))])) rfl rfl (hb hby d_prog_53_method_4_code_55)
  obtain ⟨T46, X46, e46, st46⟩ := getF X45 hx hZ hown (host := "") (Or.inl (hw _ (List.mem_of_getElem? (i := 45) rfl))) Via.refl e45 GA2 (g := (mkF m 60 #[.val (.ref a1), .val (.ref a2), .unset] [(.ref a1), (.int ((12 : Int32) * wv))])) rfl rfl (hb hby d_prog_53_method_4_code_60)
  obtain ⟨fs, hr, hrun, hended, hW, hsame⟩ := X46.leave (v := some (.int (0 : Int32))) (fun h => by rw [Bd.returns] at h; cases h)
  refine ⟨_, _, pre0 _ ?_, hrun, hended, _, _, rfl, ?_, ⟨_, rfl⟩, hW, hsame.mono (by decide) (by decide)⟩
  · show Steps p.tables e below (s₁.setTop (mkF m 0 #[.val (.ref a1), .val (.ref a2), .unset] [])) _
    refine XS.aloadN X0.here hx rfl (hb hby d_prog_53_method_4_code_0) rfl rfl ?_
    show Steps p.tables e below (s₁.setTop (mkF m 1 #[.val (.ref a1), .val (.ref a2), .unset] [(.ref a1)])) _
    refine st39 _ ?_
    show Steps p.tables e below (T39.setTop (mkF m 4 #[.val (.ref a1), .val (.ref a2), .unset] [(.ref w2)])) _
    refine XS.aloadN X39.here hx rfl (hb hby d_prog_53_method_4_code_4) rfl rfl ?_
    show Steps p.tables e below (T39.setTop (mkF m 5 #[.val (.ref a1), .val (.ref a2), .unset] [(.ref a2), (.ref w2)])) _
    refine st40 _ ?_
    show Steps p.tables e below (T40.setTop (mkF m 8 #[.val (.ref a1), .val (.ref a2), .unset] [(.ref w3), (.ref w2)])) _
    refine Jvm.RoadKit.acmp (g := (mkF m 8 #[.val (.ref a1), .val (.ref a2), .unset] [(.ref w3), (.ref w2)])) X40 hx rfl rfl rfl (pc0 := 8) (pc' := 32) (same := false) rfl (hb hby d_prog_53_method_4_code_8) rfl (decide_eq_false (fun q => (F2_ordinal.ne F3_ordinal (by decide)) (Value.ref.inj q))) (by decide) (by decide) ?_
    show Steps p.tables e below (T40.setTop (mkF m 32 #[.val (.ref a1), .val (.ref a2), .unset] [])) _
    refine XS.aloadN X40.here hx rfl (hb hby d_prog_53_method_4_code_32) rfl rfl ?_
    show Steps p.tables e below (T40.setTop (mkF m 33 #[.val (.ref a1), .val (.ref a2), .unset] [(.ref a1)])) _
    refine st41 _ ?_
    show Steps p.tables e below (T41.setTop (mkF m 36 #[.val (.ref a1), .val (.ref a2), .unset] [(.ref w2)])) _
    refine st42 _ ?_
    show Steps p.tables e below (T42.setTop (mkF m 39 #[.val (.ref a1), .val (.ref a2), .unset] [(.ref w2), (.ref w2)])) _
    refine Jvm.RoadKit.acmp (g := (mkF m 39 #[.val (.ref a1), .val (.ref a2), .unset] [(.ref w2), (.ref w2)])) X42 hx rfl rfl rfl (pc0 := 39) (pc' := 42) (same := true) rfl (hb hby d_prog_53_method_4_code_39) rfl (decide_eq_true rfl) (by decide) (by decide) ?_
    show Steps p.tables e below (T42.setTop (mkF m 42 #[.val (.ref a1), .val (.ref a2), .unset] [])) _
    refine XS.aloadN X42.here hx rfl (hb hby d_prog_53_method_4_code_42) rfl rfl ?_
    show Steps p.tables e below (T42.setTop (mkF m 43 #[.val (.ref a1), .val (.ref a2), .unset] [(.ref a2)])) _
    refine st43 _ ?_
    show Steps p.tables e below (T43.setTop (mkF m 46 #[.val (.ref a1), .val (.ref a2), .unset] [(.ref w3)])) _
    refine st44 _ ?_
    show Steps p.tables e below (T44.setTop (mkF m 49 #[.val (.ref a1), .val (.ref a2), .unset] [(.ref w3), (.ref w3)])) _
    refine Jvm.RoadKit.acmp (g := (mkF m 49 #[.val (.ref a1), .val (.ref a2), .unset] [(.ref w3), (.ref w3)])) X44 hx rfl rfl rfl (pc0 := 49) (pc' := 52) (same := true) rfl (hb hby d_prog_53_method_4_code_49) rfl (decide_eq_true rfl) (by decide) (by decide) ?_
    show Steps p.tables e below (T44.setTop (mkF m 52 #[.val (.ref a1), .val (.ref a2), .unset] [])) _
    refine XT.bipushV X44.here hx rfl (12 : Int32) (hb hby d_prog_53_method_4_code_52) (by decide) ?_
    show Steps p.tables e below (T44.setTop (mkF m 54 #[.val (.ref a1), .val (.ref a2), .unset] [(.int (12 : Int32))])) _
    refine XS.aloadN X44.here hx rfl (hb hby d_prog_53_method_4_code_54) rfl rfl ?_
    show Steps p.tables e below (T44.setTop (mkF m 55 #[.val (.ref a1), .val (.ref a2), .unset] [(.ref a2), (.int (12 : Int32))])) _
    refine st45 _ ?_
    show Steps p.tables e below (T45.setTop (mkF m 58 #[.val (.ref a1), .val (.ref a2), .unset] [(.int wv), (.int (12 : Int32))])) _
    refine XS.imul X45.here hx rfl (hb hby d_prog_53_method_4_code_58) rfl ?_
    show Steps p.tables e below (T45.setTop (mkF m 59 #[.val (.ref a1), .val (.ref a2), .unset] [(.int ((12 : Int32) * wv))])) _
    refine XS.aloadN X45.here hx rfl (hb hby d_prog_53_method_4_code_59) rfl rfl ?_
    show Steps p.tables e below (T45.setTop (mkF m 60 #[.val (.ref a1), .val (.ref a2), .unset] [(.ref a1), (.int ((12 : Int32) * wv))])) _
    refine st46 _ ?_
    show Steps p.tables e below (T46.setTop (mkF m 63 #[.val (.ref a1), .val (.ref a2), .unset] [(.int pv), (.int ((12 : Int32) * wv))])) _
    refine iremM X46 hx rfl (hb hby d_prog_53_method_4_code_63) rfl hz ?_
    show Steps p.tables e below (T46.setTop (mkF m 64 #[.val (.ref a1), .val (.ref a2), .unset] [(.int (((12 : Int32) * wv) % pv))])) _
    refine XS.ifYes X46.here hx rfl (pc0 := 64) (pc' := 71) rfl (hb hby d_prog_53_method_4_code_64) rfl (XT.i0_ne_t hc) (by decide) (by decide) ?_
    show Steps p.tables e below (T46.setTop (mkF m 71 #[.val (.ref a1), .val (.ref a2), .unset] [])) _
    refine XT.iconstV X46.here hx rfl (0 : Int32) (hb hby d_prog_53_method_4_code_71) rfl ?_
    show Steps p.tables e below (T46.setTop (mkF m 72 #[.val (.ref a1), .val (.ref a2), .unset] [(.int (0 : Int32))])) _
    refine XS.istoreN X46.here hx rfl (hb hby d_prog_53_method_4_code_72) rfl (l' := #[.val (.ref a1), .val (.ref a2), .val (.int (0 : Int32))]) rfl ?_
    show Steps p.tables e below (T46.setTop (mkF m 73 #[.val (.ref a1), .val (.ref a2), .val (.int (0 : Int32))] [])) _
    refine XS.goto X46.here hx rfl (pc0 := 73) (pc' := 100) rfl (hb hby d_prog_53_method_4_code_73) (by decide) (by decide) ?_
    show Steps p.tables e below (T46.setTop (mkF m 100 #[.val (.ref a1), .val (.ref a2), .val (.int (0 : Int32))] [])) _
    refine XS.iloadN X46.here hx rfl (hb hby d_prog_53_method_4_code_100) rfl ?_
    show Steps p.tables e below (T46.setTop (mkF m 101 #[.val (.ref a1), .val (.ref a2), .val (.int (0 : Int32))] [(.int (0 : Int32))])) _
    exact retN X46 hx (t := .boolean) Bd.returns (by simp) (hb hby d_prog_53_method_4_code_101) hr
  · show own_Q (some (.int (0 : Int32))) h0 n0 _ T46.heap _
    rw [e46]
    exact ⟨rfl, N0, rfl⟩
theorem d_prog_53_method_4_code_98 : decode prog_53_method_4_code 98 = .ok (.iconst 0, 1) := by decide +kernel
set_option maxRecDepth 65536 in
set_option maxHeartbeats 40000000 in
theorem own_div_day_n (l : Launch) (Z : State) (a0 : Array Value) (hw : ∀ d ∈ tables_1, d.before a0 Z = true) (ws : List Jvm.Cond) (a1 a2 u1 u2 : Addr) (pv wv : Int32) (w0 w1 w2 w3 : Addr) (h0 : Heap) (n0 : Nat) (Z0 : n0 ≤ h0.size) (P : own_P Z h0 w0 w1 w2 w3) (GA1 : Fld Z h0 a1 "com/example/chitragupta/chitragupta/rating/Span" "unit" "Lcom/example/chitragupta/chitragupta/rating/Span$Unit;" (.ref w0)) (GA2 : Fld Z h0 a1 "com/example/chitragupta/chitragupta/rating/Span" "value" "I" (.int pv)) (GB1 : Fld Z h0 a2 "com/example/chitragupta/chitragupta/rating/Span" "unit" "Lcom/example/chitragupta/chitragupta/rating/Span$Unit;" (.ref u2)) (GB2 : Fld Z h0 a2 "com/example/chitragupta/chitragupta/rating/Span" "value" "I" (.int wv)) (hne : w0 ≠ u2) (hc : ¬ pv = (1 : Int32)) :
    MetFree l (⟨"com/example/chitragupta/chitragupta/rating/Span", "divides", "(Lcom/example/chitragupta/chitragupta/rating/Span;)Z"⟩ : MethodName) (head1 (Jvm.Cond.code (⟨"com/example/chitragupta/chitragupta/rating/Span", "divides", "(Lcom/example/chitragupta/chitragupta/rating/Span;)Z"⟩ : MethodName) prog_53_method_4_code 3 (some .boolean) :: ws) ({ frames := 0, cells := 0, slots := 0, locals := 0 } : Room)) (fun a U => a = #[(.ref a1), (.ref a2)] ∧ Z.Warmed39 U.vm ∧ U.heap = h0) (fun _ _ _ _ _ => True) (fun _ U o U' => ∃ v L, o = .returned v ∧ own_Q (some (.int (0 : Int32))) h0 n0 v U'.heap L ∧ FrameEnd U o U' L ({ frames := 0, cells := 0, slots := 0, locals := 0 } : Room).cells ({ frames := 0, cells := 0, slots := 0, locals := 0 } : Room).slots) := by
  refine MetFree.of_bodySF (plainFor_of_name pn_com_example_chitragupta_chitragupta_rating_Span) hisR ?_
  intro p e s m args below meth c s₁ Bd hml0 hP hK
  obtain ⟨rfl, hZ, hh⟩ := hP
  have hx := Bd.exec
  have hby := Bd.bytes
  have hml : c.maxLocals = 3 := hml0
  have hown : s.vm.findClass "com/example/chitragupta/chitragupta/rating/Span" = some m.cls := findClass_of_methodNamed Bd.named
  have hnm := (name_of_methodNamed Bd.named Bd.method).1
  have X0 : Stand p l e ({ frames := 0, cells := 0, slots := 0, locals := 0 } : Room) s m #[(.ref a1), (.ref a2)] below meth c s₁ [] 0 0 := Stand.of_body Bd
  have e0 : s₁.heap = h0 := by rw [← hh, Bd.state]; rfl
  have N0 := Fr.nil n0
  have pre0 : ∀ t, Steps p.tables e below (s₁.setTop (mkF m 0 #[.val (.ref a1), .val (.ref a2), .unset] [])) t → Steps p.tables e below (s₁.setTop (entryFrame m #[(.ref a1), (.ref a2)] 3)) t := fun t k => castTop (ef_prog_53_method_4_code_AA m a1 a2) k
  have P0 := P; obtain ⟨S0, E0, F0_ordinal, S1, E1, F1_ordinal, S2, E2, F2_ordinal, S3, E3, F3_ordinal⟩ := P0
  obtain ⟨T47, X47, e47, st47⟩ := getF X0 hx hZ hown (host := "") (Or.inl (hw _ (List.mem_of_getElem? (i := 43) rfl))) Via.refl e0 GA1 (g := (mkF m 1 #[.val (.ref a1), .val (.ref a2), .unset] [(.ref a1)])) rfl rfl (hb hby d_prog_53_method_4_code_1)
  obtain ⟨T48, X48, e48, st48⟩ := getF X47 hx hZ hown (host := "") (Or.inl (hw _ (List.mem_of_getElem? (i := 43) rfl))) Via.refl e47 GB1 (g := (mkF m 5 #[.val (.ref a1), .val (.ref a2), .unset] [(.ref a2), (.ref w0)])) rfl rfl (hb hby d_prog_53_method_4_code_5)
  obtain ⟨T49, X49, e49, st49⟩ := getF X48 hx hZ hown (host := "") (Or.inl (hw _ (List.mem_of_getElem? (i := 43) rfl))) Via.refl e48 GA1 (g := (mkF m 33 #[.val (.ref a1), .val (.ref a2), .unset] [(.ref a1)])) rfl rfl (hb hby d_prog_53_method_4_code_33)
  obtain ⟨T50, X50, e50, st50⟩ := getS2 X49 hx hZ hown (host := "") (Or.inl (hw _ (List.mem_of_getElem? (i := 52) rfl))) Via.refl e49 S2 (g := (mkF m 36 #[.val (.ref a1), .val (.ref a2), .unset] [(.ref w0)])) rfl (hb hby d_prog_53_method_4_code_36)
  obtain ⟨T51, X51, e51, st51⟩ := getF X50 hx hZ hown (host := "") (Or.inl (hw _ (List.mem_of_getElem? (i := 43) rfl))) Via.refl e50 GA1 (g := (mkF m 77 #[.val (.ref a1), .val (.ref a2), .unset] [(.ref a1)])) rfl rfl (hb hby d_prog_53_method_4_code_77)
  obtain ⟨T52, X52, e52, st52⟩ := getS2 X51 hx hZ hown (host := "") (Or.inl (hw _ (List.mem_of_getElem? (i := 53) rfl))) Via.refl e51 S0 (g := (mkF m 80 #[.val (.ref a1), .val (.ref a2), .unset] [(.ref w0)])) rfl (hb hby d_prog_53_method_4_code_80)
  obtain ⟨T53, X53, e53, st53⟩ := getF X52 hx hZ hown (host := "") (Or.inl (hw _ (List.mem_of_getElem? (i := 45) rfl))) Via.refl e52 GA2 (g := (mkF m 87 #[.val (.ref a1), .val (.ref a2), .unset] [(.ref a1)])) rfl rfl (hb hby d_prog_53_method_4_code_87)
  obtain ⟨fs, hr, hrun, hended, hW, hsame⟩ := X53.leave (v := some (.int (0 : Int32))) (fun h => by rw [Bd.returns] at h; cases h)
  refine ⟨_, _, pre0 _ ?_, hrun, hended, _, _, rfl, ?_, ⟨_, rfl⟩, hW, hsame.mono (by decide) (by decide)⟩
  · show Steps p.tables e below (s₁.setTop (mkF m 0 #[.val (.ref a1), .val (.ref a2), .unset] [])) _
    refine XS.aloadN X0.here hx rfl (hb hby d_prog_53_method_4_code_0) rfl rfl ?_
    show Steps p.tables e below (s₁.setTop (mkF m 1 #[.val (.ref a1), .val (.ref a2), .unset] [(.ref a1)])) _
    refine st47 _ ?_
    show Steps p.tables e below (T47.setTop (mkF m 4 #[.val (.ref a1), .val (.ref a2), .unset] [(.ref w0)])) _
    refine XS.aloadN X47.here hx rfl (hb hby d_prog_53_method_4_code_4) rfl rfl ?_
    show Steps p.tables e below (T47.setTop (mkF m 5 #[.val (.ref a1), .val (.ref a2), .unset] [(.ref a2), (.ref w0)])) _
    refine st48 _ ?_
    show Steps p.tables e below (T48.setTop (mkF m 8 #[.val (.ref a1), .val (.ref a2), .unset] [(.ref u2), (.ref w0)])) _
    refine Jvm.RoadKit.acmp (g := (mkF m 8 #[.val (.ref a1), .val (.ref a2), .unset] [(.ref u2), (.ref w0)])) X48 hx rfl rfl rfl (pc0 := 8) (pc' := 32) (same := false) rfl (hb hby d_prog_53_method_4_code_8) rfl (decide_eq_false (fun q => hne (Value.ref.inj q))) (by decide) (by decide) ?_
    show Steps p.tables e below (T48.setTop (mkF m 32 #[.val (.ref a1), .val (.ref a2), .unset] [])) _
    refine XS.aloadN X48.here hx rfl (hb hby d_prog_53_method_4_code_32) rfl rfl ?_
    show Steps p.tables e below (T48.setTop (mkF m 33 #[.val (.ref a1), .val (.ref a2), .unset] [(.ref a1)])) _
    refine st49 _ ?_
    show Steps p.tables e below (T49.setTop (mkF m 36 #[.val (.ref a1), .val (.ref a2), .unset] [(.ref w0)])) _
    refine st50 _ ?_
    show Steps p.tables e below (T50.setTop (mkF m 39 #[.val (.ref a1), .val (.ref a2), .unset] [(.ref w2), (.ref w0)])) _
    refine Jvm.RoadKit.acmp (g := (mkF m 39 #[.val (.ref a1), .val (.ref a2), .unset] [(.ref w2), (.ref w0)])) X50 hx rfl rfl rfl (pc0 := 39) (pc' := 76) (same := false) rfl (hb hby d_prog_53_method_4_code_39) rfl (decide_eq_false (fun q => (F0_ordinal.ne F2_ordinal (by decide)) (Value.ref.inj q))) (by decide) (by decide) ?_
    show Steps p.tables e below (T50.setTop (mkF m 76 #[.val (.ref a1), .val (.ref a2), .unset] [])) _
    refine XS.aloadN X50.here hx rfl (hb hby d_prog_53_method_4_code_76) rfl rfl ?_
    show Steps p.tables e below (T50.setTop (mkF m 77 #[.val (.ref a1), .val (.ref a2), .unset] [(.ref a1)])) _
    refine st51 _ ?_
    show Steps p.tables e below (T51.setTop (mkF m 80 #[.val (.ref a1), .val (.ref a2), .unset] [(.ref w0)])) _
    refine st52 _ ?_
    show Steps p.tables e below (T52.setTop (mkF m 83 #[.val (.ref a1), .val (.ref a2), .unset] [(.ref w0), (.ref w0)])) _
    refine Jvm.RoadKit.acmp (g := (mkF m 83 #[.val (.ref a1), .val (.ref a2), .unset] [(.ref w0), (.ref w0)])) X52 hx rfl rfl rfl (pc0 := 83) (pc' := 86) (same := true) rfl (hb hby d_prog_53_method_4_code_83) rfl (decide_eq_true rfl) (by decide) (by decide) ?_
    show Steps p.tables e below (T52.setTop (mkF m 86 #[.val (.ref a1), .val (.ref a2), .unset] [])) _
    refine XS.aloadN X52.here hx rfl (hb hby d_prog_53_method_4_code_86) rfl rfl ?_
    show Steps p.tables e below (T52.setTop (mkF m 87 #[.val (.ref a1), .val (.ref a2), .unset] [(.ref a1)])) _
    refine st53 _ ?_
    show Steps p.tables e below (T53.setTop (mkF m 90 #[.val (.ref a1), .val (.ref a2), .unset] [(.int pv)])) _
    refine XT.iconstV X53.here hx rfl (1 : Int32) (hb hby d_prog_53_method_4_code_90) rfl ?_
    show Steps p.tables e below (T53.setTop (mkF m 91 #[.val (.ref a1), .val (.ref a2), .unset] [(.int (1 : Int32)), (.int pv)])) _
    refine XS.icmpYes X53.here hx rfl (pc0 := 91) (pc' := 98) rfl (hb hby d_prog_53_method_4_code_91) rfl (XT.ii_ne_t hc) (by decide) (by decide) ?_
    show Steps p.tables e below (T53.setTop (mkF m 98 #[.val (.ref a1), .val (.ref a2), .unset] [])) _
    refine XT.iconstV X53.here hx rfl (0 : Int32) (hb hby d_prog_53_method_4_code_98) rfl ?_
    show Steps p.tables e below (T53.setTop (mkF m 99 #[.val (.ref a1), .val (.ref a2), .unset] [(.int (0 : Int32))])) _
    refine XS.istoreN X53.here hx rfl (hb hby d_prog_53_method_4_code_99) rfl (l' := #[.val (.ref a1), .val (.ref a2), .val (.int (0 : Int32))]) rfl ?_
    show Steps p.tables e below (T53.setTop (mkF m 100 #[.val (.ref a1), .val (.ref a2), .val (.int (0 : Int32))] [])) _
    refine XS.iloadN X53.here hx rfl (hb hby d_prog_53_method_4_code_100) rfl ?_
    show Steps p.tables e below (T53.setTop (mkF m 101 #[.val (.ref a1), .val (.ref a2), .val (.int (0 : Int32))] [(.int (0 : Int32))])) _
    exact retN X53 hx (t := .boolean) Bd.returns (by simp) (hb hby d_prog_53_method_4_code_101) hr
  · show own_Q (some (.int (0 : Int32))) h0 n0 _ T53.heap _
    rw [e53]
    exact ⟨rfl, N0, rfl⟩
set_option maxRecDepth 65536 in
set_option maxHeartbeats 40000000 in
theorem own_div_noa (l : Launch) (Z : State) (a0 : Array Value) (hw : ∀ d ∈ tables_1, d.before a0 Z = true) (ws : List Jvm.Cond) (a1 a2 u1 u2 : Addr) (pv wv : Int32) (w0 w1 w2 w3 : Addr) (h0 : Heap) (n0 : Nat) (Z0 : n0 ≤ h0.size) (P : own_P Z h0 w0 w1 w2 w3) (GA1 : Fld Z h0 a1 "com/example/chitragupta/chitragupta/rating/Span" "unit" "Lcom/example/chitragupta/chitragupta/rating/Span$Unit;" (.ref u1)) (GA2 : Fld Z h0 a1 "com/example/chitragupta/chitragupta/rating/Span" "value" "I" (.int pv)) (GB1 : Fld Z h0 a2 "com/example/chitragupta/chitragupta/rating/Span" "unit" "Lcom/example/chitragupta/chitragupta/rating/Span$Unit;" (.ref u2)) (GB2 : Fld Z h0 a2 "com/example/chitragupta/chitragupta/rating/Span" "value" "I" (.int wv)) (hne : u1 ≠ u2) (hnM : u1 ≠ w2) (hnd : u1 ≠ w0) :
    MetFree l (⟨"com/example/chitragupta/chitragupta/rating/Span", "divides", "(Lcom/example/chitragupta/chitragupta/rating/Span;)Z"⟩ : MethodName) (head1 (Jvm.Cond.code (⟨"com/example/chitragupta/chitragupta/rating/Span", "divides", "(Lcom/example/chitragupta/chitragupta/rating/Span;)Z"⟩ : MethodName) prog_53_method_4_code 3 (some .boolean) :: ws) ({ frames := 0, cells := 0, slots := 0, locals := 0 } : Room)) (fun a U => a = #[(.ref a1), (.ref a2)] ∧ Z.Warmed39 U.vm ∧ U.heap = h0) (fun _ _ _ _ _ => True) (fun _ U o U' => ∃ v L, o = .returned v ∧ own_Q (some (.int (0 : Int32))) h0 n0 v U'.heap L ∧ FrameEnd U o U' L ({ frames := 0, cells := 0, slots := 0, locals := 0 } : Room).cells ({ frames := 0, cells := 0, slots := 0, locals := 0 } : Room).slots) := by
  refine MetFree.of_bodySF (plainFor_of_name pn_com_example_chitragupta_chitragupta_rating_Span) hisR ?_
  intro p e s m args below meth c s₁ Bd hml0 hP hK
  obtain ⟨rfl, hZ, hh⟩ := hP
  have hx := Bd.exec
  have hby := Bd.bytes
  have hml : c.maxLocals = 3 := hml0
  have hown : s.vm.findClass "com/example/chitragupta/chitragupta/rating/Span" = some m.cls := findClass_of_methodNamed Bd.named
  have hnm := (name_of_methodNamed Bd.named Bd.method).1
  have X0 : Stand p l e ({ frames := 0, cells := 0, slots := 0, locals := 0 } : Room) s m #[(.ref a1), (.ref a2)] below meth c s₁ [] 0 0 := Stand.of_body Bd
  have e0 : s₁.heap = h0 := by rw [← hh, Bd.state]; rfl
  have N0 := Fr.nil n0
  have pre0 : ∀ t, Steps p.tables e below (s₁.setTop (mkF m 0 #[.val (.ref a1), .val (.ref a2), .unset] [])) t → Steps p.tables e below (s₁.setTop (entryFrame m #[(.ref a1), (.ref a2)] 3)) t := fun t k => castTop (ef_prog_53_method_4_code_AA m a1 a2) k
  have P0 := P; obtain ⟨S0, E0, F0_ordinal, S1, E1, F1_ordinal, S2, E2, F2_ordinal, S3, E3, F3_ordinal⟩ := P0
  obtain ⟨T54, X54, e54, st54⟩ := getF X0 hx hZ hown (host := "") (Or.inl (hw _ (List.mem_of_getElem? (i := 43) rfl))) Via.refl e0 GA1 (g := (mkF m 1 #[.val (.ref a1), .val (.ref a2), .unset] [(.ref a1)])) rfl rfl (hb hby d_prog_53_method_4_code_1)
  obtain ⟨T55, X55, e55, st55⟩ := getF X54 hx hZ hown (host := "") (Or.inl (hw _ (List.mem_of_getElem? (i := 43) rfl))) Via.refl e54 GB1 (g := (mkF m 5 #[.val (.ref a1), .val (.ref a2), .unset] [(.ref a2), (.ref u1)])) rfl rfl (hb hby d_prog_53_method_4_code_5)
  obtain ⟨T56, X56, e56, st56⟩ := getF X55 hx hZ hown (host := "") (Or.inl (hw _ (List.mem_of_getElem? (i := 43) rfl))) Via.refl e55 GA1 (g := (mkF m 33 #[.val (.ref a1), .val (.ref a2), .unset] [(.ref a1)])) rfl rfl (hb hby d_prog_53_method_4_code_33)
  obtain ⟨T57, X57, e57, st57⟩ := getS2 X56 hx hZ hown (host := "") (Or.inl (hw _ (List.mem_of_getElem? (i := 52) rfl))) Via.refl e56 S2 (g := (mkF m 36 #[.val (.ref a1), .val (.ref a2), .unset] [(.ref u1)])) rfl (hb hby d_prog_53_method_4_code_36)
  obtain ⟨T58, X58, e58, st58⟩ := getF X57 hx hZ hown (host := "") (Or.inl (hw _ (List.mem_of_getElem? (i := 43) rfl))) Via.refl e57 GA1 (g := (mkF m 77 #[.val (.ref a1), .val (.ref a2), .unset] [(.ref a1)])) rfl rfl (hb hby d_prog_53_method_4_code_77)
  obtain ⟨T59, X59, e59, st59⟩ := getS2 X58 hx hZ hown (host := "") (Or.inl (hw _ (List.mem_of_getElem? (i := 53) rfl))) Via.refl e58 S0 (g := (mkF m 80 #[.val (.ref a1), .val (.ref a2), .unset] [(.ref u1)])) rfl (hb hby d_prog_53_method_4_code_80)
  obtain ⟨fs, hr, hrun, hended, hW, hsame⟩ := X59.leave (v := some (.int (0 : Int32))) (fun h => by rw [Bd.returns] at h; cases h)
  refine ⟨_, _, pre0 _ ?_, hrun, hended, _, _, rfl, ?_, ⟨_, rfl⟩, hW, hsame.mono (by decide) (by decide)⟩
  · show Steps p.tables e below (s₁.setTop (mkF m 0 #[.val (.ref a1), .val (.ref a2), .unset] [])) _
    refine XS.aloadN X0.here hx rfl (hb hby d_prog_53_method_4_code_0) rfl rfl ?_
    show Steps p.tables e below (s₁.setTop (mkF m 1 #[.val (.ref a1), .val (.ref a2), .unset] [(.ref a1)])) _
    refine st54 _ ?_
    show Steps p.tables e below (T54.setTop (mkF m 4 #[.val (.ref a1), .val (.ref a2), .unset] [(.ref u1)])) _
    refine XS.aloadN X54.here hx rfl (hb hby d_prog_53_method_4_code_4) rfl rfl ?_
    show Steps p.tables e below (T54.setTop (mkF m 5 #[.val (.ref a1), .val (.ref a2), .unset] [(.ref a2), (.ref u1)])) _
    refine st55 _ ?_
    show Steps p.tables e below (T55.setTop (mkF m 8 #[.val (.ref a1), .val (.ref a2), .unset] [(.ref u2), (.ref u1)])) _
    refine Jvm.RoadKit.acmp (g := (mkF m 8 #[.val (.ref a1), .val (.ref a2), .unset] [(.ref u2), (.ref u1)])) X55 hx rfl rfl rfl (pc0 := 8) (pc' := 32) (same := false) rfl (hb hby d_prog_53_method_4_code_8) rfl (decide_eq_false (fun q => hne (Value.ref.inj q))) (by decide) (by decide) ?_
    show Steps p.tables e below (T55.setTop (mkF m 32 #[.val (.ref a1), .val (.ref a2), .unset] [])) _
    refine XS.aloadN X55.here hx rfl (hb hby d_prog_53_method_4_code_32) rfl rfl ?_
    show Steps p.tables e below (T55.setTop (mkF m 33 #[.val (.ref a1), .val (.ref a2), .unset] [(.ref a1)])) _
    refine st56 _ ?_
    show Steps p.tables e below (T56.setTop (mkF m 36 #[.val (.ref a1), .val (.ref a2), .unset] [(.ref u1)])) _
    refine st57 _ ?_
    show Steps p.tables e below (T57.setTop (mkF m 39 #[.val (.ref a1), .val (.ref a2), .unset] [(.ref w2), (.ref u1)])) _
    refine Jvm.RoadKit.acmp (g := (mkF m 39 #[.val (.ref a1), .val (.ref a2), .unset] [(.ref w2), (.ref u1)])) X57 hx rfl rfl rfl (pc0 := 39) (pc' := 76) (same := false) rfl (hb hby d_prog_53_method_4_code_39) rfl (decide_eq_false (fun q => hnM (Value.ref.inj q))) (by decide) (by decide) ?_
    show Steps p.tables e below (T57.setTop (mkF m 76 #[.val (.ref a1), .val (.ref a2), .unset] [])) _
    refine XS.aloadN X57.here hx rfl (hb hby d_prog_53_method_4_code_76) rfl rfl ?_
    show Steps p.tables e below (T57.setTop (mkF m 77 #[.val (.ref a1), .val (.ref a2), .unset] [(.ref a1)])) _
    refine st58 _ ?_
    show Steps p.tables e below (T58.setTop (mkF m 80 #[.val (.ref a1), .val (.ref a2), .unset] [(.ref u1)])) _
    refine st59 _ ?_
    show Steps p.tables e below (T59.setTop (mkF m 83 #[.val (.ref a1), .val (.ref a2), .unset] [(.ref w0), (.ref u1)])) _
    refine Jvm.RoadKit.acmp (g := (mkF m 83 #[.val (.ref a1), .val (.ref a2), .unset] [(.ref w0), (.ref u1)])) X59 hx rfl rfl rfl (pc0 := 83) (pc' := 98) (same := false) rfl (hb hby d_prog_53_method_4_code_83) rfl (decide_eq_false (fun q => hnd (Value.ref.inj q))) (by decide) (by decide) ?_
    show Steps p.tables e below (T59.setTop (mkF m 98 #[.val (.ref a1), .val (.ref a2), .unset] [])) _
    refine XT.iconstV X59.here hx rfl (0 : Int32) (hb hby d_prog_53_method_4_code_98) rfl ?_
    show Steps p.tables e below (T59.setTop (mkF m 99 #[.val (.ref a1), .val (.ref a2), .unset] [(.int (0 : Int32))])) _
    refine XS.istoreN X59.here hx rfl (hb hby d_prog_53_method_4_code_99) rfl (l' := #[.val (.ref a1), .val (.ref a2), .val (.int (0 : Int32))]) rfl ?_
    show Steps p.tables e below (T59.setTop (mkF m 100 #[.val (.ref a1), .val (.ref a2), .val (.int (0 : Int32))] [])) _
    refine XS.iloadN X59.here hx rfl (hb hby d_prog_53_method_4_code_100) rfl ?_
    show Steps p.tables e below (T59.setTop (mkF m 101 #[.val (.ref a1), .val (.ref a2), .val (.int (0 : Int32))] [(.int (0 : Int32))])) _
    exact retN X59 hx (t := .boolean) Bd.returns (by simp) (hb hby d_prog_53_method_4_code_101) hr
  · show own_Q (some (.int (0 : Int32))) h0 n0 _ T59.heap _
    rw [e59]
    exact ⟨rfl, N0, rfl⟩
set_option maxRecDepth 65536 in
set_option maxHeartbeats 40000000 in
theorem own_div_nob (l : Launch) (Z : State) (a0 : Array Value) (hw : ∀ d ∈ tables_1, d.before a0 Z = true) (ws : List Jvm.Cond) (a1 a2 u1 u2 : Addr) (pv wv : Int32) (w0 w1 w2 w3 : Addr) (h0 : Heap) (n0 : Nat) (Z0 : n0 ≤ h0.size) (P : own_P Z h0 w0 w1 w2 w3) (GA1 : Fld Z h0 a1 "com/example/chitragupta/chitragupta/rating/Span" "unit" "Lcom/example/chitragupta/chitragupta/rating/Span$Unit;" (.ref w2)) (GA2 : Fld Z h0 a1 "com/example/chitragupta/chitragupta/rating/Span" "value" "I" (.int pv)) (GB1 : Fld Z h0 a2 "com/example/chitragupta/chitragupta/rating/Span" "unit" "Lcom/example/chitragupta/chitragupta/rating/Span$Unit;" (.ref u2)) (GB2 : Fld Z h0 a2 "com/example/chitragupta/chitragupta/rating/Span" "value" "I" (.int wv)) (hne : w2 ≠ u2) (hny : u2 ≠ w3) :
    MetFree l (⟨"com/example/chitragupta/chitragupta/rating/Span", "divides", "(Lcom/example/chitragupta/chitragupta/rating/Span;)Z"⟩ : MethodName) (head1 (Jvm.Cond.code (⟨"com/example/chitragupta/chitragupta/rating/Span", "divides", "(Lcom/example/chitragupta/chitragupta/rating/Span;)Z"⟩ : MethodName) prog_53_method_4_code 3 (some .boolean) :: ws) ({ frames := 0, cells := 0, slots := 0, locals := 0 } : Room)) (fun a U => a = #[(.ref a1), (.ref a2)] ∧ Z.Warmed39 U.vm ∧ U.heap = h0) (fun _ _ _ _ _ => True) (fun _ U o U' => ∃ v L, o = .returned v ∧ own_Q (some (.int (0 : Int32))) h0 n0 v U'.heap L ∧ FrameEnd U o U' L ({ frames := 0, cells := 0, slots := 0, locals := 0 } : Room).cells ({ frames := 0, cells := 0, slots := 0, locals := 0 } : Room).slots) := by
  refine MetFree.of_bodySF (plainFor_of_name pn_com_example_chitragupta_chitragupta_rating_Span) hisR ?_
  intro p e s m args below meth c s₁ Bd hml0 hP hK
  obtain ⟨rfl, hZ, hh⟩ := hP
  have hx := Bd.exec
  have hby := Bd.bytes
  have hml : c.maxLocals = 3 := hml0
  have hown : s.vm.findClass "com/example/chitragupta/chitragupta/rating/Span" = some m.cls := findClass_of_methodNamed Bd.named
  have hnm := (name_of_methodNamed Bd.named Bd.method).1
  have X0 : Stand p l e ({ frames := 0, cells := 0, slots := 0, locals := 0 } : Room) s m #[(.ref a1), (.ref a2)] below meth c s₁ [] 0 0 := Stand.of_body Bd
  have e0 : s₁.heap = h0 := by rw [← hh, Bd.state]; rfl
  have N0 := Fr.nil n0
  have pre0 : ∀ t, Steps p.tables e below (s₁.setTop (mkF m 0 #[.val (.ref a1), .val (.ref a2), .unset] [])) t → Steps p.tables e below (s₁.setTop (entryFrame m #[(.ref a1), (.ref a2)] 3)) t := fun t k => castTop (ef_prog_53_method_4_code_AA m a1 a2) k
  have P0 := P; obtain ⟨S0, E0, F0_ordinal, S1, E1, F1_ordinal, S2, E2, F2_ordinal, S3, E3, F3_ordinal⟩ := P0
  obtain ⟨T60, X60, e60, st60⟩ := getF X0 hx hZ hown (host := "") (Or.inl (hw _ (List.mem_of_getElem? (i := 43) rfl))) Via.refl e0 GA1 (g := (mkF m 1 #[.val (.ref a1), .val (.ref a2), .unset] [(.ref a1)])) rfl rfl (hb hby d_prog_53_method_4_code_1)
  obtain ⟨T61, X61, e61, st61⟩ := getF X60 hx hZ hown (host := "") (Or.inl (hw _ (List.mem_of_getElem? (i := 43) rfl))) Via.refl e60 GB1 (g := (mkF m 5 #[.val (.ref a1), .val (.ref a2), .unset] [(.ref a2), (.ref w2)])) rfl rfl (hb hby d_prog_53_method_4_code_5)
  obtain ⟨T62, X62, e62, st62⟩ := getF X61 hx hZ hown (host := "") (Or.inl (hw _ (List.mem_of_getElem? (i := 43) rfl))) Via.refl e61 GA1 (g := (mkF m 33 #[.val (.ref a1), .val (.ref a2), .unset] [(.ref a1)])) rfl rfl (hb hby d_prog_53_method_4_code_33)
  obtain ⟨T63, X63, e63, st63⟩ := getS2 X62 hx hZ hown (host := "") (Or.inl (hw _ (List.mem_of_getElem? (i := 52) rfl))) Via.refl e62 S2 (g := (mkF m 36 #[.val (.ref a1), .val (.ref a2), .unset] [(.ref w2)])) rfl (hb hby d_prog_53_method_4_code_36)
  obtain ⟨T64, X64, e64, st64⟩ := getF X63 hx hZ hown (host := "") (Or.inl (hw _ (List.mem_of_getElem? (i := 43) rfl))) Via.refl e63 GB1 (g := (mkF m 43 #[.val (.ref a1), .val (.ref a2), .unset] [(.ref a2)])) rfl rfl (hb hby d_prog_53_method_4_code_43)
  obtain ⟨T65, X65, e65, st65⟩ := getS2 X64 hx hZ hown (host := "") (Or.inl (hw _ (List.mem_of_getElem? (i := 57) rfl))) Via.refl e64 S3 (g := (mkF m 46 #[.val (.ref a1), .val (.ref a2), .unset] [(.ref u2)])) rfl (hb hby d_prog_53_method_4_code_46)
  obtain ⟨T66, X66, e66, st66⟩ := getF X65 hx hZ hown (host := "") (Or.inl (hw _ (List.mem_of_getElem? (i := 43) rfl))) Via.refl e65 GA1 (g := (mkF m 77 #[.val (.ref a1), .val (.ref a2), .unset] [(.ref a1)])) rfl rfl (hb hby d_prog_53_method_4_code_77)
  obtain ⟨T67, X67, e67, st67⟩ := getS2 X66 hx hZ hown (host := "") (Or.inl (hw _ (List.mem_of_getElem? (i := 53) rfl))) Via.refl e66 S0 (g := (mkF m 80 #[.val (.ref a1), .val (.ref a2), .unset] [(.ref w2)])) rfl (hb hby d_prog_53_method_4_code_80)
  obtain ⟨fs, hr, hrun, hended, hW, hsame⟩ := X67.leave (v := some (.int (0 : Int32))) (fun h => by rw [Bd.returns] at h; cases h)
  refine ⟨_, _, pre0 _ ?_, hrun, hended, _, _, rfl, ?_, ⟨_, rfl⟩, hW, hsame.mono (by decide) (by decide)⟩
  · show Steps p.tables e below (s₁.setTop (mkF m 0 #[.val (.ref a1), .val (.ref a2), .unset] [])) _
    refine XS.aloadN X0.here hx rfl (hb hby d_prog_53_method_4_code_0) rfl rfl ?_
    show Steps p.tables e below (s₁.setTop (mkF m 1 #[.val (.ref a1), .val (.ref a2), .unset] [(.ref a1)])) _
    refine st60 _ ?_
    show Steps p.tables e below (T60.setTop (mkF m 4 #[.val (.ref a1), .val (.ref a2), .unset] [(.ref w2)])) _
    refine XS.aloadN X60.here hx rfl (hb hby d_prog_53_method_4_code_4) rfl rfl ?_
    show Steps p.tables e below (T60.setTop (mkF m 5 #[.val (.ref a1), .val (.ref a2), .unset] [(.ref a2), (.ref w2)])) _
    refine st61 _ ?_
    show Steps p.tables e below (T61.setTop (mkF m 8 #[.val (.ref a1), .val (.ref a2), .unset] [(.ref u2), (.ref w2)])) _
    refine Jvm.RoadKit.acmp (g := (mkF m 8 #[.val (.ref a1), .val (.ref a2), .unset] [(.ref u2), (.ref w2)])) X61 hx rfl rfl rfl (pc0 := 8) (pc' := 32) (same := false) rfl (hb hby d_prog_53_method_4_code_8) rfl (decide_eq_false (fun q => hne (Value.ref.inj q))) (by decide) (by decide) ?_
    show Steps p.tables e below (T61.setTop (mkF m 32 #[.val (.ref a1), .val (.ref a2), .unset] [])) _
    refine XS.aloadN X61.here hx rfl (hb hby d_prog_53_method_4_code_32) rfl rfl ?_
    show Steps p.tables e below (T61.setTop (mkF m 33 #[.val (.ref a1), .val (.ref a2), .unset] [(.ref a1)])) _
    refine st62 _ ?_
    show Steps p.tables e below (T62.setTop (mkF m 36 #[.val (.ref a1), .val (.ref a2), .unset] [(.ref w2)])) _
    refine st63 _ ?_
    show Steps p.tables e below (T63.setTop (mkF m 39 #[.val (.ref a1), .val (.ref a2), .unset] [(.ref w2), (.ref w2)])) _
    refine Jvm.RoadKit.acmp (g := (mkF m 39 #[.val (.ref a1), .val (.ref a2), .unset] [(.ref w2), (.ref w2)])) X63 hx rfl rfl rfl (pc0 := 39) (pc' := 42) (same := true) rfl (hb hby d_prog_53_method_4_code_39) rfl (decide_eq_true rfl) (by decide) (by decide) ?_
    show Steps p.tables e below (T63.setTop (mkF m 42 #[.val (.ref a1), .val (.ref a2), .unset] [])) _
    refine XS.aloadN X63.here hx rfl (hb hby d_prog_53_method_4_code_42) rfl rfl ?_
    show Steps p.tables e below (T63.setTop (mkF m 43 #[.val (.ref a1), .val (.ref a2), .unset] [(.ref a2)])) _
    refine st64 _ ?_
    show Steps p.tables e below (T64.setTop (mkF m 46 #[.val (.ref a1), .val (.ref a2), .unset] [(.ref u2)])) _
    refine st65 _ ?_
    show Steps p.tables e below (T65.setTop (mkF m 49 #[.val (.ref a1), .val (.ref a2), .unset] [(.ref w3), (.ref u2)])) _
    refine Jvm.RoadKit.acmp (g := (mkF m 49 #[.val (.ref a1), .val (.ref a2), .unset] [(.ref w3), (.ref u2)])) X65 hx rfl rfl rfl (pc0 := 49) (pc' := 76) (same := false) rfl (hb hby d_prog_53_method_4_code_49) rfl (decide_eq_false (fun q => hny (Value.ref.inj q))) (by decide) (by decide) ?_
    show Steps p.tables e below (T65.setTop (mkF m 76 #[.val (.ref a1), .val (.ref a2), .unset] [])) _
    refine XS.aloadN X65.here hx rfl (hb hby d_prog_53_method_4_code_76) rfl rfl ?_
    show Steps p.tables e below (T65.setTop (mkF m 77 #[.val (.ref a1), .val (.ref a2), .unset] [(.ref a1)])) _
    refine st66 _ ?_
    show Steps p.tables e below (T66.setTop (mkF m 80 #[.val (.ref a1), .val (.ref a2), .unset] [(.ref w2)])) _
    refine st67 _ ?_
    show Steps p.tables e below (T67.setTop (mkF m 83 #[.val (.ref a1), .val (.ref a2), .unset] [(.ref w0), (.ref w2)])) _
    refine Jvm.RoadKit.acmp (g := (mkF m 83 #[.val (.ref a1), .val (.ref a2), .unset] [(.ref w0), (.ref w2)])) X67 hx rfl rfl rfl (pc0 := 83) (pc' := 98) (same := false) rfl (hb hby d_prog_53_method_4_code_83) rfl (decide_eq_false (fun q => (F2_ordinal.ne F0_ordinal (by decide)) (Value.ref.inj q))) (by decide) (by decide) ?_
    show Steps p.tables e below (T67.setTop (mkF m 98 #[.val (.ref a1), .val (.ref a2), .unset] [])) _
    refine XT.iconstV X67.here hx rfl (0 : Int32) (hb hby d_prog_53_method_4_code_98) rfl ?_
    show Steps p.tables e below (T67.setTop (mkF m 99 #[.val (.ref a1), .val (.ref a2), .unset] [(.int (0 : Int32))])) _
    refine XS.istoreN X67.here hx rfl (hb hby d_prog_53_method_4_code_99) rfl (l' := #[.val (.ref a1), .val (.ref a2), .val (.int (0 : Int32))]) rfl ?_
    show Steps p.tables e below (T67.setTop (mkF m 100 #[.val (.ref a1), .val (.ref a2), .val (.int (0 : Int32))] [])) _
    refine XS.iloadN X67.here hx rfl (hb hby d_prog_53_method_4_code_100) rfl ?_
    show Steps p.tables e below (T67.setTop (mkF m 101 #[.val (.ref a1), .val (.ref a2), .val (.int (0 : Int32))] [(.int (0 : Int32))])) _
    exact retN X67 hx (t := .boolean) Bd.returns (by simp) (hb hby d_prog_53_method_4_code_101) hr
  · show own_Q (some (.int (0 : Int32))) h0 n0 _ T67.heap _
    rw [e67]
    exact ⟨rfl, N0, rfl⟩
theorem own_and3 (x : Int32) : (x &&& (3 : Int32)) = (0 : Int32) ∨ (x &&& (3 : Int32)) = (1 : Int32) ∨ (x &&& (3 : Int32)) = (2 : Int32) ∨ (x &&& (3 : Int32)) = (3 : Int32) := by
  have h := c_and x (3 : Int32) (by decide)
  have e3 : (3 : Int32).toInt = 3 := by decide
  rw [e3] at h
  generalize (x &&& (3 : Int32)) = r at h ⊢
  have q : r.toInt = 0 ∨ r.toInt = 1 ∨ r.toInt = 2 ∨ r.toInt = 3 := by omega
  rcases q with q | q | q | q
  · exact Or.inl (Int32.toInt_inj.mp (q.trans (by decide)))
  · exact Or.inr (Or.inl (Int32.toInt_inj.mp (q.trans (by decide))))
  · exact Or.inr (Or.inr (Or.inl (Int32.toInt_inj.mp (q.trans (by decide)))))
  · exact Or.inr (Or.inr (Or.inr (Int32.toInt_inj.mp (q.trans (by decide)))))
theorem own_lt1 {x : Int32} (h : 1 ≤ x.toInt) : ¬ x < (1 : Int32) := by
  rw [Int32.lt_iff_toInt_lt, show (1 : Int32).toInt = 1 from by decide]; omega
theorem own_ge1 {x : Int32} (h : ¬ x < (1 : Int32)) : 1 ≤ x.toInt := by
  rw [Int32.lt_iff_toInt_lt, show (1 : Int32).toInt = 1 from by decide] at h; omega
theorem own_maxv (x : Int32) (M : Int) (hM : 1 ≤ M) (h : x.toInt ≤ M) : 1 ≤ (own_max x).toInt ∧ (own_max x).toInt ≤ M := by
  have e1 : (1 : Int32).toInt = 1 := by decide
  unfold own_max
  by_cases hlt : (1 : Int32) < x
  · rw [if_pos hlt]; rw [Int32.lt_iff_toInt_lt, e1] at hlt; omega
  · rw [if_neg hlt, e1]; omega
theorem own_mode0 (p3 p4 : Int32) : ¬ (own_max (p3 &&& (2147483647 : Int32))) < (1 : Int32) ∧ ¬ (own_max (p4 &&& (2147483647 : Int32))) < (1 : Int32) :=
  have e : (2147483647 : Int32).toInt = 2147483647 := by decide
  ⟨own_lt1 (own_maxv _ 2147483647 (by decide) (by have := c_and p3 (2147483647 : Int32) (by decide); rw [e] at this; exact this.2)).1,
   own_lt1 (own_maxv _ 2147483647 (by decide) (by have := c_and p4 (2147483647 : Int32) (by decide); rw [e] at this; exact this.2)).1⟩
theorem own_mode0c (p3 p4 : Int32) : ¬ (own_max (p3 &&& (2147483647 : Int32))) < (1 : Int32) ∧ ¬ (own_max (p4 &&& (134217727 : Int32))) < (1 : Int32) ∧ ¬ (134217727 : Int32) < (own_max (p4 &&& (134217727 : Int32))) := by
  have e : (134217727 : Int32).toInt = 134217727 := by decide
  have h := own_maxv (p4 &&& (134217727 : Int32)) 134217727 (by decide) (by have := c_and p4 (134217727 : Int32) (by decide); rw [e] at this; exact this.2)
  exact ⟨(own_mode0 p3 p4).1, own_lt1 h.1, by rw [Int32.lt_iff_toInt_lt, e]; omega⟩
theorem own_mode1b (p3 p4 : Int32) : 1 ≤ ((p3 &&& (15 : Int32)) + (1 : Int32)).toInt ∧ 1 ≤ (((p3 &&& (15 : Int32)) + (1 : Int32)) * ((p4 &&& (65535 : Int32)) + (1 : Int32))).toInt ∧ (((p3 &&& (15 : Int32)) + (1 : Int32)) * ((p4 &&& (65535 : Int32)) + (1 : Int32))).toInt ≤ 134217727 := by
  have a := c_and p3 (15 : Int32) (by decide)
  have b := c_and p4 (65535 : Int32) (by decide)
  have ea : (15 : Int32).toInt = 15 := by decide
  have eb : (65535 : Int32).toInt = 65535 := by decide
  have e1 : (1 : Int32).toInt = 1 := by decide
  rw [ea] at a
  rw [eb] at b
  have sa := c_iadd (p3 &&& (15 : Int32)) (1 : Int32)
  have ra := rng32 ((p3 &&& (15 : Int32)) + (1 : Int32))
  have sb := c_iadd (p4 &&& (65535 : Int32)) (1 : Int32)
  have rb := rng32 ((p4 &&& (65535 : Int32)) + (1 : Int32))
  rw [e1] at sa sb
  have va : ((p3 &&& (15 : Int32)) + (1 : Int32)).toInt = (p3 &&& (15 : Int32)).toInt + 1 := by omega
  have vb : ((p4 &&& (65535 : Int32)) + (1 : Int32)).toInt = (p4 &&& (65535 : Int32)).toInt + 1 := by omega
  generalize (p3 &&& (15 : Int32)) + (1 : Int32) = x at va ⊢
  generalize (p4 &&& (65535 : Int32)) + (1 : Int32) = y at vb ⊢
  have m := c_imul x y
  have rm := rng32 (x * y)
  have lo : 1 ≤ x.toInt * y.toInt := by
    have h1 : 1 ≤ x.toInt := by omega
    have h2 : 1 ≤ y.toInt := by omega
    have := Int.mul_le_mul h1 h2 (by decide) (by omega)
    simpa using this
  have hi : x.toInt * y.toInt ≤ 16 * 65536 := Int.mul_le_mul (by omega) (by omega) (by omega) (by decide)
  refine ⟨by omega, by omega, by omega⟩
theorem own_mode1 (p3 p4 : Int32) : ¬ ((p3 &&& (15 : Int32)) + (1 : Int32)) < (1 : Int32) ∧ ¬ (((p3 &&& (15 : Int32)) + (1 : Int32)) * ((p4 &&& (65535 : Int32)) + (1 : Int32))) < (1 : Int32) := ⟨own_lt1 (own_mode1b p3 p4).1, own_lt1 (own_mode1b p3 p4).2.1⟩
theorem own_mode1c (p3 p4 : Int32) : ¬ ((p3 &&& (15 : Int32)) + (1 : Int32)) < (1 : Int32) ∧ ¬ (((p3 &&& (15 : Int32)) + (1 : Int32)) * ((p4 &&& (65535 : Int32)) + (1 : Int32))) < (1 : Int32) ∧ ¬ (134217727 : Int32) < (((p3 &&& (15 : Int32)) + (1 : Int32)) * ((p4 &&& (65535 : Int32)) + (1 : Int32))) :=
  ⟨(own_mode1 p3 p4).1, (own_mode1 p3 p4).2, by have := (own_mode1b p3 p4).2.2; rw [Int32.lt_iff_toInt_lt, show (134217727 : Int32).toInt = 134217727 from by decide]; omega⟩
theorem own_nz {x : Int32} (h : ¬ x < (1 : Int32)) : x ≠ 0 := fun q => by subst q; exact h (by decide)
theorem own_nz64 {x : Int32} (h : ¬ x < (1 : Int32)) : x.toInt64 ≠ 0 := fun q => by
  have h1 := own_ge1 h
  have := congrArg Int64.toInt q
  rw [c_i2l, show (0 : Int64).toInt = 0 from by decide] at this
  omega
theorem own_same {x y : Int32} (hz : x ≠ 0) : (y % x) = 0 ↔ ((y / x) * x) = y := by
  have e : y - (y / x) * x = y % x := irem_eq_mod y x
  constructor
  · intro h
    rw [h] at e
    have h3 := congrArg (· + (y / x) * x) e
    simp only [Int32.sub_add_cancel, Int32.zero_add] at h3
    exact h3.symm
  · intro h
    rw [← e, h, Int32.sub_self]
theorem own_cross {x y : Int32} (hx : ¬ x < (1 : Int32)) (hy : ¬ y < (1 : Int32)) (hy2 : ¬ (134217727 : Int32) < y) : ((12 : Int32) * y % x) = 0 ↔ (((12 : Int64) * y.toInt64) / x.toInt64) * x.toInt64 = ((12 : Int64) * y.toInt64) := by
  have x1 := own_ge1 hx
  have y1 := own_ge1 hy
  have y2 : y.toInt ≤ 134217727 := by rw [Int32.lt_iff_toInt_lt, show (134217727 : Int32).toInt = 134217727 from by decide] at hy2; omega
  have m := c_imul (12 : Int32) y
  rw [show (12 : Int32).toInt = 12 from by decide] at m
  have rm := rng32 ((12 : Int32) * y)
  have m' : ((12 : Int32) * y).toInt = 12 * y.toInt := by omega
  have M := c_lmul (12 : Int64) y.toInt64
  rw [show (12 : Int64).toInt = 12 from by decide, c_i2l] at M
  have rM := rng64 ((12 : Int64) * y.toInt64)
  have M' : ((12 : Int64) * y.toInt64).toInt = 12 * y.toInt := by omega
  have r := (c_irem ((12 : Int32) * y) x x.toInt rfl).1 (by omega)
  rw [m'] at r
  have R := (c_lrem ((12 : Int64) * y.toInt64) x.toInt64 x.toInt (c_i2l x)).1 (by omega)
  rw [M'] at R
  have E : (((12 : Int64) * y.toInt64) - (((12 : Int64) * y.toInt64) / x.toInt64) * x.toInt64) = 0 ↔ ((12 : Int32) * y % x) = 0 := by
    rw [← Int64.toInt_inj, ← Int32.toInt_inj, R, r]
    exact Iff.rfl
  rw [← E]
  constructor
  · intro h
    have h3 := congrArg (· + (((12 : Int64) * y.toInt64) / x.toInt64) * x.toInt64) h
    simp only [Int64.sub_add_cancel, Int64.zero_add] at h3
    exact h3.symm
  · intro h; rw [h, Int64.sub_self]
def own_u (k : Int32) (wD wW wM wY : Addr) : Addr := if k = (0 : Int32) then wD else if k = (1 : Int32) then wW else if k = (2 : Int32) then wM else wY
theorem own_u0 (wD wW wM wY : Addr) : own_u (0 : Int32) wD wW wM wY = wD := by unfold own_u; rw [if_pos rfl]
theorem own_u1 (wD wW wM wY : Addr) : own_u (1 : Int32) wD wW wM wY = wW := by unfold own_u; rw [if_neg (by decide), if_pos rfl]
theorem own_u2 (wD wW wM wY : Addr) : own_u (2 : Int32) wD wW wM wY = wM := by unfold own_u; rw [if_neg (by decide), if_neg (by decide), if_pos rfl]
theorem own_u3 (wD wW wM wY : Addr) : own_u (3 : Int32) wD wW wM wY = wY := by unfold own_u; rw [if_neg (by decide), if_neg (by decide), if_neg (by decide)]
def own_K (k : Int32) : Prop := k = (0 : Int32) ∨ k = (1 : Int32) ∨ k = (2 : Int32) ∨ k = (3 : Int32)
instance (k : Int32) : Decidable (own_K k) := by unfold own_K; infer_instance
theorem own_inb {k : Int32} (h : own_K k) : ¬ k < 0 ∧ k < (4 : Int32) := by rcases h with rfl | rfl | rfl | rfl <;> decide
theorem own_uat {k : Int32} {wD wW wM wY : Addr} (h : own_K k) : [Value.ref wD, Value.ref wW, Value.ref wM, Value.ref wY].getD k.toNatClampNeg .null = .ref (own_u k wD wW wM wY) := by
  rcases h with rfl | rfl | rfl | rfl
  · rw [own_u0]; rfl
  · rw [own_u1]; rfl
  · rw [own_u2]; rfl
  · rw [own_u3]; rfl
theorem own_uF {Z : State} {h : Heap} {w0 w1 w2 w3 : Addr} (P : own_P Z h w0 w1 w2 w3) {k : Int32} (hk : own_K k) : Fld Z h (own_u k w0 w1 w2 w3) "java/lang/Enum" "ordinal" "I" (.int k) := by
  obtain ⟨S0, E0, F0_ordinal, S1, E1, F1_ordinal, S2, E2, F2_ordinal, S3, E3, F3_ordinal⟩ := P
  rcases hk with rfl | rfl | rfl | rfl
  · rw [own_u0]; exact F0_ordinal
  · rw [own_u1]; exact F1_ordinal
  · rw [own_u2]; exact F2_ordinal
  · rw [own_u3]; exact F3_ordinal
theorem own_une {Z : State} {h : Heap} {w0 w1 w2 w3 : Addr} (P : own_P Z h w0 w1 w2 w3) {k j : Int32} (hk : own_K k) (hj : own_K j) (hne : ¬ k = j) : own_u k w0 w1 w2 w3 ≠ own_u j w0 w1 w2 w3 := (own_uF P hk).ne (own_uF P hj) (fun q => hne (Value.int.inj q))
theorem pd__II_I : parseMethodDescriptor "(II)I" = some ⟨[.int, .int], (some .int)⟩ := by decide +kernel
theorem pd__Lcom_example_chitragupta_chitragupta_rating_Span_Unit_I_V : parseMethodDescriptor "(Lcom/example/chitragupta/chitragupta/rating/Span$Unit;I)V" = some ⟨[(.object "com/example/chitragupta/chitragupta/rating/Span$Unit"), .int], none⟩ := by decide +kernel
theorem pd__Lcom_example_chitragupta_chitragupta_rating_Span__Z : parseMethodDescriptor "(Lcom/example/chitragupta/chitragupta/rating/Span;)Z" = some ⟨[(.object "com/example/chitragupta/chitragupta/rating/Span")], (some .boolean)⟩ := by decide +kernel
theorem ef_code_IIIII (m : MethodId) (x0 : Int32) (x1 : Int32) (x2 : Int32) (x3 : Int32) (x4 : Int32) : entryFrame m #[(.int x0), (.int x1), (.int x2), (.int x3), (.int x4)] maxLocals = mkF m 0 #[.val (.int x0), .val (.int x1), .val (.int x2), .val (.int x3), .val (.int x4), .unset, .unset, .unset, .unset, .unset, .unset, .unset, .unset, .unset, .unset, .unset] [] := by first | (simp [entryFrame, mkF, argsToLocals, Value.category, maxLocals]; done) | rfl
theorem pn_com_example_chitragupta_chitragupta_rating_SpanDividesPinLaw : plainName "com/example/chitragupta/chitragupta/rating/SpanDividesPinLaw" = true := by first | (simp [plainName, overriddenIn]; done) | decide +kernel
set_option maxRecDepth 65536 in
set_option maxHeartbeats 40000000 in
theorem own_law (l : Launch) (Z : State) (a0 : Array Value) (hw : ∀ d ∈ tables_1, d.before a0 Z = true) (ws : List Jvm.Cond) (p1 p2 p3 p4 p5 : Int32) (w0 w1 w2 w3 : Addr) (h0 : Heap) (n0 : Nat) (Z0 : n0 ≤ h0.size) (P : own_P Z h0 w0 w1 w2 w3) :
    MetFree l x (head1 (Jvm.Cond.code x code maxLocals ret :: ws) room_1) (fun a U => a = #[(.int p1), (.int p2), (.int p3), (.int p4), (.int p5)] ∧ Z.Warmed39 U.vm ∧ U.heap = h0) (fun _ _ _ _ _ => True) (fun _ U o U' => ∃ v L, o = .returned v ∧ own_Q0 n0 v U'.heap L ∧ ReturnedEndW U o U' L room_1.cells room_1.slots) := by
  refine MetFree.of_bodySF (plainFor_of_name pn_com_example_chitragupta_chitragupta_rating_SpanDividesPinLaw) hisR ?_
  intro p e s m args below meth c s₁ Bd hml0 hP hK
  obtain ⟨rfl, hZ, hh⟩ := hP
  have hx := Bd.exec
  have hby := Bd.bytes
  have hml : c.maxLocals = 16 := hml0
  have hown : s.vm.findClass "com/example/chitragupta/chitragupta/rating/SpanDividesPinLaw" = some m.cls := findClass_of_methodNamed Bd.named
  have hnm := (name_of_methodNamed Bd.named Bd.method).1
  have X0 : Stand p l e room_1 s m #[(.int p1), (.int p2), (.int p3), (.int p4), (.int p5)] below meth c s₁ [] 0 0 := Stand.of_body Bd
  have e0 : s₁.heap = h0 := by rw [← hh, Bd.state]; rfl
  have N0 := Fr.nil n0
  have pre0 : ∀ t, Steps p.tables e below (s₁.setTop (mkF m 0 #[.val (.int p1), .val (.int p2), .val (.int p3), .val (.int p4), .val (.int p5), .unset, .unset, .unset, .unset, .unset, .unset, .unset, .unset, .unset, .unset, .unset] [])) t → Steps p.tables e below (s₁.setTop (entryFrame m #[(.int p1), (.int p2), (.int p3), (.int p4), (.int p5)] maxLocals)) t := fun t k => castTop (ef_code_IIIII m p1 p2 p3 p4 p5) k
  have P0 := P; obtain ⟨S0, E0, F0_ordinal, S1, E1, F1_ordinal, S2, E2, F2_ordinal, S3, E3, F3_ordinal⟩ := P0
  have hk1 : own_K (p1 &&& (3 : Int32)) := own_and3 p1
  have hk2 : own_K (p2 &&& (3 : Int32)) := own_and3 p2
  obtain ⟨u1, hu1⟩ : ∃ u, u = own_u (p1 &&& (3 : Int32)) w0 w1 w2 w3 := ⟨_, rfl⟩
  obtain ⟨u2, hu2⟩ : ∃ u, u = own_u (p2 &&& (3 : Int32)) w0 w1 w2 w3 := ⟨_, rfl⟩
  obtain ⟨T68, h68, k68, X68, e68, E68, A68, O68, st68⟩ := newR X0 hx hZ hown (hw _ (List.mem_of_getElem? (i := 0) rfl)) (hw _ (List.mem_of_getElem? (i := 1) rfl)) e0 (g := (mkF m 1 #[.val (.int p1), .val (.int p2), .val (.int p3), .val (.int p4), .val (.int p5), .unset, .unset, .unset, .unset, .unset, .unset, .unset, .unset, .unset, .unset, .unset] [(.int (4 : Int32))])) rfl (hb hby at_1) rfl (by decide) (cap := 4) (by decide) (by decide) (by decide) (by decide)
  obtain ⟨b68, g68⟩ : ∃ z, z = h0.size := ⟨_, rfl⟩
  rw [← g68] at A68 st68
  have V68 : Arv Z h68 b68 k68 (.object "com/example/chitragupta/chitragupta/rating/Span$Unit") (4 : Int32) (List.replicate 4 .null) .null := (Arv.new A68 (by decide)).pad (fun i => pad_rep [] .null 4 i)
  have q68 : h0.size ≤ b68 := by rw [g68]; exact Nat.le_refl _
  have EX68 : Ext h0 h68 := E68
  have Z68 : n0 ≤ h68.size := Nat.le_trans Z0 EX68.1
  obtain ⟨T69, X69, e69, st69⟩ := getS2 X68 hx hZ hown (host := "") (Or.inl (hw _ (List.mem_of_getElem? (i := 2) rfl))) Via.refl e68 (S0.ext EX68) (g := (mkF m 6 #[.val (.int p1), .val (.int p2), .val (.int p3), .val (.int p4), .val (.int p5), .unset, .unset, .unset, .unset, .unset, .unset, .unset, .unset, .unset, .unset, .unset] [(.int (0 : Int32)), (.ref b68), (.ref b68)])) rfl (hb hby at_6)
  obtain ⟨T70, h70, X70, e70, W70, V70, st70⟩ := own_stR X69 hx hZ e69 V68 O68 (Ins.self (E0.ext EX68)) (j := (0 : Int32)) (by decide) (i := 0) (by decide) (by simp) rfl (g := (mkF m 9 #[.val (.int p1), .val (.int p2), .val (.int p3), .val (.int p4), .val (.int p5), .unset, .unset, .unset, .unset, .unset, .unset, .unset, .unset, .unset, .unset, .unset] [(.ref w0), (.int (0 : Int32)), (.ref b68), (.ref b68)])) rfl rfl (hb hby at_9)
  have EX70 : Ext h0 h70 := own_ext_wr EX68 W70 q68
  have Z70 : n0 ≤ h70.size := Nat.le_trans Z0 EX70.1
  have N70 := Fr.snoc X70 N0 (Nat.le_trans Z0 q68)
  obtain ⟨T71, X71, e71, st71⟩ := getS2 X70 hx hZ hown (host := "") (Or.inl (hw _ (List.mem_of_getElem? (i := 6) rfl))) Via.refl e70 (S1.ext EX70) (g := (mkF m 12 #[.val (.int p1), .val (.int p2), .val (.int p3), .val (.int p4), .val (.int p5), .unset, .unset, .unset, .unset, .unset, .unset, .unset, .unset, .unset, .unset, .unset] [(.int (1 : Int32)), (.ref b68), (.ref b68)])) rfl (hb hby at_12)
  obtain ⟨T72, h72, X72, e72, W72, V72, st72⟩ := own_stR X71 hx hZ e71 V70 O68 (Ins.self (E1.ext EX70)) (j := (1 : Int32)) (by decide) (i := 1) (by decide) (by simp) rfl (g := (mkF m 15 #[.val (.int p1), .val (.int p2), .val (.int p3), .val (.int p4), .val (.int p5), .unset, .unset, .unset, .unset, .unset, .unset, .unset, .unset, .unset, .unset, .unset] [(.ref w1), (.int (1 : Int32)), (.ref b68), (.ref b68)])) rfl rfl (hb hby at_15)
  have EX72 : Ext h0 h72 := own_ext_wr EX70 W72 q68
  have Z72 : n0 ≤ h72.size := Nat.le_trans Z0 EX72.1
  have N72 := Fr.snoc X72 N70 (Nat.le_trans Z0 q68)
  obtain ⟨T73, X73, e73, st73⟩ := getS2 X72 hx hZ hown (host := "") (Or.inl (hw _ (List.mem_of_getElem? (i := 8) rfl))) Via.refl e72 (S2.ext EX72) (g := (mkF m 18 #[.val (.int p1), .val (.int p2), .val (.int p3), .val (.int p4), .val (.int p5), .unset, .unset, .unset, .unset, .unset, .unset, .unset, .unset, .unset, .unset, .unset] [(.int (2 : Int32)), (.ref b68), (.ref b68)])) rfl (hb hby at_18)
  obtain ⟨T74, h74, X74, e74, W74, V74, st74⟩ := own_stR X73 hx hZ e73 V72 O68 (Ins.self (E2.ext EX72)) (j := (2 : Int32)) (by decide) (i := 2) (by decide) (by simp) rfl (g := (mkF m 21 #[.val (.int p1), .val (.int p2), .val (.int p3), .val (.int p4), .val (.int p5), .unset, .unset, .unset, .unset, .unset, .unset, .unset, .unset, .unset, .unset, .unset] [(.ref w2), (.int (2 : Int32)), (.ref b68), (.ref b68)])) rfl rfl (hb hby at_21)
  have EX74 : Ext h0 h74 := own_ext_wr EX72 W74 q68
  have Z74 : n0 ≤ h74.size := Nat.le_trans Z0 EX74.1
  have N74 := Fr.snoc X74 N72 (Nat.le_trans Z0 q68)
  obtain ⟨T75, X75, e75, st75⟩ := getS2 X74 hx hZ hown (host := "") (Or.inl (hw _ (List.mem_of_getElem? (i := 10) rfl))) Via.refl e74 (S3.ext EX74) (g := (mkF m 24 #[.val (.int p1), .val (.int p2), .val (.int p3), .val (.int p4), .val (.int p5), .unset, .unset, .unset, .unset, .unset, .unset, .unset, .unset, .unset, .unset, .unset] [(.int (3 : Int32)), (.ref b68), (.ref b68)])) rfl (hb hby at_24)
  obtain ⟨T76, h76, X76, e76, W76, V76, st76⟩ := own_stR X75 hx hZ e75 V74 O68 (Ins.self (E3.ext EX74)) (j := (3 : Int32)) (by decide) (i := 3) (by decide) (by simp) rfl (g := (mkF m 27 #[.val (.int p1), .val (.int p2), .val (.int p3), .val (.int p4), .val (.int p5), .unset, .unset, .unset, .unset, .unset, .unset, .unset, .unset, .unset, .unset, .unset] [(.ref w3), (.int (3 : Int32)), (.ref b68), (.ref b68)])) rfl rfl (hb hby at_27)
  have EX76 : Ext h0 h76 := own_ext_wr EX74 W76 q68
  have Z76 : n0 ≤ h76.size := Nat.le_trans Z0 EX76.1
  have N76 := Fr.snoc X76 N74 (Nat.le_trans Z0 q68)
  have pre1 : ∀ t, Steps p.tables e below (T76.setTop (mkF m 40 #[.val (.int p1), .val (.int p2), .val (.int p3), .val (.int p4), .val (.int p5), .val (.ref b68), .val (.int (p1 &&& (3 : Int32))), .val (.int (p2 &&& (3 : Int32))), .unset, .unset, .unset, .unset, .unset, .unset, .unset, .unset] [])) t → Steps p.tables e below (s₁.setTop (mkF m 0 #[.val (.int p1), .val (.int p2), .val (.int p3), .val (.int p4), .val (.int p5), .unset, .unset, .unset, .unset, .unset, .unset, .unset, .unset, .unset, .unset, .unset] [])) t := by
    intro t kk
    show Steps p.tables e below (s₁.setTop (mkF m 0 #[.val (.int p1), .val (.int p2), .val (.int p3), .val (.int p4), .val (.int p5), .unset, .unset, .unset, .unset, .unset, .unset, .unset, .unset, .unset, .unset, .unset] [])) _
    refine XT.iconstV X0.here hx rfl (4 : Int32) (hb hby at_0) rfl ?_
    show Steps p.tables e below (s₁.setTop (mkF m 1 #[.val (.int p1), .val (.int p2), .val (.int p3), .val (.int p4), .val (.int p5), .unset, .unset, .unset, .unset, .unset, .unset, .unset, .unset, .unset, .unset, .unset] [(.int (4 : Int32))])) _
    refine st68 _ ?_
    show Steps p.tables e below (T68.setTop (mkF m 4 #[.val (.int p1), .val (.int p2), .val (.int p3), .val (.int p4), .val (.int p5), .unset, .unset, .unset, .unset, .unset, .unset, .unset, .unset, .unset, .unset, .unset] [(.ref b68)])) _
    refine XS.dup X68.here hx rfl (hb hby at_4) rfl rfl ?_
    show Steps p.tables e below (T68.setTop (mkF m 5 #[.val (.int p1), .val (.int p2), .val (.int p3), .val (.int p4), .val (.int p5), .unset, .unset, .unset, .unset, .unset, .unset, .unset, .unset, .unset, .unset, .unset] [(.ref b68), (.ref b68)])) _
    refine XT.iconstV X68.here hx rfl (0 : Int32) (hb hby at_5) rfl ?_
    show Steps p.tables e below (T68.setTop (mkF m 6 #[.val (.int p1), .val (.int p2), .val (.int p3), .val (.int p4), .val (.int p5), .unset, .unset, .unset, .unset, .unset, .unset, .unset, .unset, .unset, .unset, .unset] [(.int (0 : Int32)), (.ref b68), (.ref b68)])) _
    refine st69 _ ?_
    show Steps p.tables e below (T69.setTop (mkF m 9 #[.val (.int p1), .val (.int p2), .val (.int p3), .val (.int p4), .val (.int p5), .unset, .unset, .unset, .unset, .unset, .unset, .unset, .unset, .unset, .unset, .unset] [(.ref w0), (.int (0 : Int32)), (.ref b68), (.ref b68)])) _
    refine st70 _ ?_
    show Steps p.tables e below (T70.setTop (mkF m 10 #[.val (.int p1), .val (.int p2), .val (.int p3), .val (.int p4), .val (.int p5), .unset, .unset, .unset, .unset, .unset, .unset, .unset, .unset, .unset, .unset, .unset] [(.ref b68)])) _
    refine XS.dup X70.here hx rfl (hb hby at_10) rfl rfl ?_
    show Steps p.tables e below (T70.setTop (mkF m 11 #[.val (.int p1), .val (.int p2), .val (.int p3), .val (.int p4), .val (.int p5), .unset, .unset, .unset, .unset, .unset, .unset, .unset, .unset, .unset, .unset, .unset] [(.ref b68), (.ref b68)])) _
    refine XT.iconstV X70.here hx rfl (1 : Int32) (hb hby at_11) rfl ?_
    show Steps p.tables e below (T70.setTop (mkF m 12 #[.val (.int p1), .val (.int p2), .val (.int p3), .val (.int p4), .val (.int p5), .unset, .unset, .unset, .unset, .unset, .unset, .unset, .unset, .unset, .unset, .unset] [(.int (1 : Int32)), (.ref b68), (.ref b68)])) _
    refine st71 _ ?_
    show Steps p.tables e below (T71.setTop (mkF m 15 #[.val (.int p1), .val (.int p2), .val (.int p3), .val (.int p4), .val (.int p5), .unset, .unset, .unset, .unset, .unset, .unset, .unset, .unset, .unset, .unset, .unset] [(.ref w1), (.int (1 : Int32)), (.ref b68), (.ref b68)])) _
    refine st72 _ ?_
    show Steps p.tables e below (T72.setTop (mkF m 16 #[.val (.int p1), .val (.int p2), .val (.int p3), .val (.int p4), .val (.int p5), .unset, .unset, .unset, .unset, .unset, .unset, .unset, .unset, .unset, .unset, .unset] [(.ref b68)])) _
    refine XS.dup X72.here hx rfl (hb hby at_16) rfl rfl ?_
    show Steps p.tables e below (T72.setTop (mkF m 17 #[.val (.int p1), .val (.int p2), .val (.int p3), .val (.int p4), .val (.int p5), .unset, .unset, .unset, .unset, .unset, .unset, .unset, .unset, .unset, .unset, .unset] [(.ref b68), (.ref b68)])) _
    refine XT.iconstV X72.here hx rfl (2 : Int32) (hb hby at_17) rfl ?_
    show Steps p.tables e below (T72.setTop (mkF m 18 #[.val (.int p1), .val (.int p2), .val (.int p3), .val (.int p4), .val (.int p5), .unset, .unset, .unset, .unset, .unset, .unset, .unset, .unset, .unset, .unset, .unset] [(.int (2 : Int32)), (.ref b68), (.ref b68)])) _
    refine st73 _ ?_
    show Steps p.tables e below (T73.setTop (mkF m 21 #[.val (.int p1), .val (.int p2), .val (.int p3), .val (.int p4), .val (.int p5), .unset, .unset, .unset, .unset, .unset, .unset, .unset, .unset, .unset, .unset, .unset] [(.ref w2), (.int (2 : Int32)), (.ref b68), (.ref b68)])) _
    refine st74 _ ?_
    show Steps p.tables e below (T74.setTop (mkF m 22 #[.val (.int p1), .val (.int p2), .val (.int p3), .val (.int p4), .val (.int p5), .unset, .unset, .unset, .unset, .unset, .unset, .unset, .unset, .unset, .unset, .unset] [(.ref b68)])) _
    refine XS.dup X74.here hx rfl (hb hby at_22) rfl rfl ?_
    show Steps p.tables e below (T74.setTop (mkF m 23 #[.val (.int p1), .val (.int p2), .val (.int p3), .val (.int p4), .val (.int p5), .unset, .unset, .unset, .unset, .unset, .unset, .unset, .unset, .unset, .unset, .unset] [(.ref b68), (.ref b68)])) _
    refine XT.iconstV X74.here hx rfl (3 : Int32) (hb hby at_23) rfl ?_
    show Steps p.tables e below (T74.setTop (mkF m 24 #[.val (.int p1), .val (.int p2), .val (.int p3), .val (.int p4), .val (.int p5), .unset, .unset, .unset, .unset, .unset, .unset, .unset, .unset, .unset, .unset, .unset] [(.int (3 : Int32)), (.ref b68), (.ref b68)])) _
    refine st75 _ ?_
    show Steps p.tables e below (T75.setTop (mkF m 27 #[.val (.int p1), .val (.int p2), .val (.int p3), .val (.int p4), .val (.int p5), .unset, .unset, .unset, .unset, .unset, .unset, .unset, .unset, .unset, .unset, .unset] [(.ref w3), (.int (3 : Int32)), (.ref b68), (.ref b68)])) _
    refine st76 _ ?_
    show Steps p.tables e below (T76.setTop (mkF m 28 #[.val (.int p1), .val (.int p2), .val (.int p3), .val (.int p4), .val (.int p5), .unset, .unset, .unset, .unset, .unset, .unset, .unset, .unset, .unset, .unset, .unset] [(.ref b68)])) _
    refine XS.astore X76.here hx rfl (hb hby at_28) rfl rfl (l' := #[.val (.int p1), .val (.int p2), .val (.int p3), .val (.int p4), .val (.int p5), .val (.ref b68), .unset, .unset, .unset, .unset, .unset, .unset, .unset, .unset, .unset, .unset]) rfl ?_
    show Steps p.tables e below (T76.setTop (mkF m 30 #[.val (.int p1), .val (.int p2), .val (.int p3), .val (.int p4), .val (.int p5), .val (.ref b68), .unset, .unset, .unset, .unset, .unset, .unset, .unset, .unset, .unset, .unset] [])) _
    refine XS.iloadN X76.here hx rfl (hb hby at_30) rfl ?_
    show Steps p.tables e below (T76.setTop (mkF m 31 #[.val (.int p1), .val (.int p2), .val (.int p3), .val (.int p4), .val (.int p5), .val (.ref b68), .unset, .unset, .unset, .unset, .unset, .unset, .unset, .unset, .unset, .unset] [(.int p1)])) _
    refine XT.iconstV X76.here hx rfl (3 : Int32) (hb hby at_31) rfl ?_
    show Steps p.tables e below (T76.setTop (mkF m 32 #[.val (.int p1), .val (.int p2), .val (.int p3), .val (.int p4), .val (.int p5), .val (.ref b68), .unset, .unset, .unset, .unset, .unset, .unset, .unset, .unset, .unset, .unset] [(.int (3 : Int32)), (.int p1)])) _
    refine XS.iand X76.here hx rfl (hb hby at_32) rfl ?_
    show Steps p.tables e below (T76.setTop (mkF m 33 #[.val (.int p1), .val (.int p2), .val (.int p3), .val (.int p4), .val (.int p5), .val (.ref b68), .unset, .unset, .unset, .unset, .unset, .unset, .unset, .unset, .unset, .unset] [(.int (p1 &&& (3 : Int32)))])) _
    refine XS.istore X76.here hx rfl (hb hby at_33) rfl (l' := #[.val (.int p1), .val (.int p2), .val (.int p3), .val (.int p4), .val (.int p5), .val (.ref b68), .val (.int (p1 &&& (3 : Int32))), .unset, .unset, .unset, .unset, .unset, .unset, .unset, .unset, .unset]) rfl ?_
    show Steps p.tables e below (T76.setTop (mkF m 35 #[.val (.int p1), .val (.int p2), .val (.int p3), .val (.int p4), .val (.int p5), .val (.ref b68), .val (.int (p1 &&& (3 : Int32))), .unset, .unset, .unset, .unset, .unset, .unset, .unset, .unset, .unset] [])) _
    refine XS.iloadN X76.here hx rfl (hb hby at_35) rfl ?_
    show Steps p.tables e below (T76.setTop (mkF m 36 #[.val (.int p1), .val (.int p2), .val (.int p3), .val (.int p4), .val (.int p5), .val (.ref b68), .val (.int (p1 &&& (3 : Int32))), .unset, .unset, .unset, .unset, .unset, .unset, .unset, .unset, .unset] [(.int p2)])) _
    refine XT.iconstV X76.here hx rfl (3 : Int32) (hb hby at_36) rfl ?_
    show Steps p.tables e below (T76.setTop (mkF m 37 #[.val (.int p1), .val (.int p2), .val (.int p3), .val (.int p4), .val (.int p5), .val (.ref b68), .val (.int (p1 &&& (3 : Int32))), .unset, .unset, .unset, .unset, .unset, .unset, .unset, .unset, .unset] [(.int (3 : Int32)), (.int p2)])) _
    refine XS.iand X76.here hx rfl (hb hby at_37) rfl ?_
    show Steps p.tables e below (T76.setTop (mkF m 38 #[.val (.int p1), .val (.int p2), .val (.int p3), .val (.int p4), .val (.int p5), .val (.ref b68), .val (.int (p1 &&& (3 : Int32))), .unset, .unset, .unset, .unset, .unset, .unset, .unset, .unset, .unset] [(.int (p2 &&& (3 : Int32)))])) _
    refine XS.istore X76.here hx rfl (hb hby at_38) rfl (l' := #[.val (.int p1), .val (.int p2), .val (.int p3), .val (.int p4), .val (.int p5), .val (.ref b68), .val (.int (p1 &&& (3 : Int32))), .val (.int (p2 &&& (3 : Int32))), .unset, .unset, .unset, .unset, .unset, .unset, .unset, .unset]) rfl ?_
    show Steps p.tables e below (T76.setTop (mkF m 40 #[.val (.int p1), .val (.int p2), .val (.int p3), .val (.int p4), .val (.int p5), .val (.ref b68), .val (.int (p1 &&& (3 : Int32))), .val (.int (p2 &&& (3 : Int32))), .unset, .unset, .unset, .unset, .unset, .unset, .unset, .unset] [])) _
    exact kk
  have thru0 : ∃ (U : State) (locs2 : List Loc) (cr pv wv : Int32), Stand p l e room_1 s m #[(.int p1), (.int p2), (.int p3), (.int p4), (.int p5)] below meth c U locs2 1 4 ∧ U.heap = h76 ∧ Fr n0 locs2 ∧ ¬ pv < (1 : Int32) ∧ ¬ wv < (1 : Int32) ∧ ((cr = (1 : Int32) ∧ (p1 &&& (3 : Int32)) = (2 : Int32) ∧ (p2 &&& (3 : Int32)) = (3 : Int32) ∧ ¬ (134217727 : Int32) < wv) ∨ (cr = (0 : Int32) ∧ ¬ ((p1 &&& (3 : Int32)) = (2 : Int32) ∧ (p2 &&& (3 : Int32)) = (3 : Int32)))) ∧ ∀ t, Steps p.tables e below (U.setTop (mkF m 120 #[.val (.int p1), .val (.int p2), .val (.int p3), .val (.int p4), .val (.int p5), .val (.ref b68), .val (.int (p1 &&& (3 : Int32))), .val (.int (p2 &&& (3 : Int32))), .val (.int cr), .val (.int pv), .val (.int wv), .unset, .unset, .unset, .unset, .unset] [])) t → Steps p.tables e below (T76.setTop (mkF m 40 #[.val (.int p1), .val (.int p2), .val (.int p3), .val (.int p4), .val (.int p5), .val (.ref b68), .val (.int (p1 &&& (3 : Int32))), .val (.int (p2 &&& (3 : Int32))), .unset, .unset, .unset, .unset, .unset, .unset, .unset, .unset] [])) t := by
    by_cases h2 : (p1 &&& (3 : Int32)) = (2 : Int32)
    · by_cases h3 : (p2 &&& (3 : Int32)) = (3 : Int32)
      · rcases and_one p5 with hm | hm
        · obtain ⟨_, _, ⟨T77, L77, k77, n77⟩, -, X77, ⟨Lc77, hQ77, l77, y77, z77⟩, st77⟩ := Jvm.LawKit.callS X76 hx (y := (⟨"java/lang/Math", "max", "(II)I"⟩ : MethodName)) hown (mvT hZ (hw _ (List.mem_of_getElem? (i := 13) rfl))) (mvT hZ (hw _ (List.mem_of_getElem? (i := 14) rfl))) (mvT hZ (hw _ (List.mem_of_getElem? (i := 15) rfl))) (mvT hZ (hw _ (List.mem_of_getElem? (i := 16) rfl))) (by decide) (backOf (W := 0) (own_maxc l Z a0 hw [] (p3 &&& (2147483647 : Int32)) h76 n0 Z76) hZ (hw _ (List.mem_of_getElem? (i := 16) rfl)) (hw _ (List.mem_of_getElem? (i := 15) rfl)) (by decide) (by decide)) (g := (mkF m 93 #[.val (.int p1), .val (.int p2), .val (.int p3), .val (.int p4), .val (.int p5), .val (.ref b68), .val (.int (p1 &&& (3 : Int32))), .val (.int (p2 &&& (3 : Int32))), .val (.int (1 : Int32)), .unset, .unset, .unset, .unset, .unset, .unset, .unset] [(.int (p3 &&& (2147483647 : Int32))), (.int (1 : Int32))])) rfl (by rw [hml]; rfl) (argsL := [(.int (1 : Int32)), (.int (p3 &&& (2147483647 : Int32)))]) (rest := []) (lenOf pd__II_I rfl) rfl (by show 2 * 0 + _ ≤ _; exact Nat.le_of_eq rfl) (hb hby at_93) (fun _ _ => ⟨rfl, e76, (by decide : 1 + 0 ≤ _), (by decide : 4 + 0 ≤ _)⟩)
          dsimp only [Pt.U, Pt.locs, Pt.cells, Pt.slots] at X77 l77 y77 z77 st77 hQ77
          subst l77 y77 z77
          obtain ⟨rfl, N77q, e77⟩ := hQ77
          have N77 := Fr.app N76 N77q
          obtain ⟨_, _, ⟨T78, L78, k78, n78⟩, -, X78, ⟨Lc78, hQ78, l78, y78, z78⟩, st78⟩ := Jvm.LawKit.callS X77 hx (y := (⟨"java/lang/Math", "max", "(II)I"⟩ : MethodName)) hown (mvT hZ (hw _ (List.mem_of_getElem? (i := 13) rfl))) (mvT hZ (hw _ (List.mem_of_getElem? (i := 14) rfl))) (mvT hZ (hw _ (List.mem_of_getElem? (i := 15) rfl))) (mvT hZ (hw _ (List.mem_of_getElem? (i := 16) rfl))) (by decide) (backOf (W := 0) (own_maxc l Z a0 hw [] (p4 &&& (134217727 : Int32)) h76 n0 Z76) hZ (hw _ (List.mem_of_getElem? (i := 16) rfl)) (hw _ (List.mem_of_getElem? (i := 15) rfl)) (by decide) (by decide)) (g := (mkF m 115 #[.val (.int p1), .val (.int p2), .val (.int p3), .val (.int p4), .val (.int p5), .val (.ref b68), .val (.int (p1 &&& (3 : Int32))), .val (.int (p2 &&& (3 : Int32))), .val (.int (1 : Int32)), .val (.int (own_max (p3 &&& (2147483647 : Int32)))), .unset, .unset, .unset, .unset, .unset, .unset] [(.int (p4 &&& (134217727 : Int32))), (.int (1 : Int32))])) rfl (by rw [hml]; rfl) (argsL := [(.int (1 : Int32)), (.int (p4 &&& (134217727 : Int32)))]) (rest := []) (lenOf pd__II_I rfl) rfl (by show 2 * 0 + _ ≤ _; exact Nat.le_of_eq rfl) (hb hby at_115) (fun _ _ => ⟨rfl, e77, (by decide : 1 + 0 ≤ _), (by decide : 4 + 0 ≤ _)⟩)
          dsimp only [Pt.U, Pt.locs, Pt.cells, Pt.slots] at X78 l78 y78 z78 st78 hQ78
          subst l78 y78 z78
          obtain ⟨rfl, N78q, e78⟩ := hQ78
          have N78 := Fr.app N77 N78q
          refine ⟨T78, _, (1 : Int32), (own_max (p3 &&& (2147483647 : Int32))), (own_max (p4 &&& (134217727 : Int32))), X78, e78, N78, (own_mode0c p3 p4).1, (own_mode0c p3 p4).2.1, Or.inl ⟨rfl, h2, h3, (own_mode0c p3 p4).2.2⟩, ?_⟩
          intro t kk
          show Steps p.tables e below (T76.setTop (mkF m 40 #[.val (.int p1), .val (.int p2), .val (.int p3), .val (.int p4), .val (.int p5), .val (.ref b68), .val (.int (p1 &&& (3 : Int32))), .val (.int (p2 &&& (3 : Int32))), .unset, .unset, .unset, .unset, .unset, .unset, .unset, .unset] [])) _
          refine XS.iload X76.here hx rfl (hb hby at_40) rfl ?_
          show Steps p.tables e below (T76.setTop (mkF m 42 #[.val (.int p1), .val (.int p2), .val (.int p3), .val (.int p4), .val (.int p5), .val (.ref b68), .val (.int (p1 &&& (3 : Int32))), .val (.int (p2 &&& (3 : Int32))), .unset, .unset, .unset, .unset, .unset, .unset, .unset, .unset] [(.int (p1 &&& (3 : Int32)))])) _
          refine XT.iconstV X76.here hx rfl (2 : Int32) (hb hby at_42) rfl ?_
          show Steps p.tables e below (T76.setTop (mkF m 43 #[.val (.int p1), .val (.int p2), .val (.int p3), .val (.int p4), .val (.int p5), .val (.ref b68), .val (.int (p1 &&& (3 : Int32))), .val (.int (p2 &&& (3 : Int32))), .unset, .unset, .unset, .unset, .unset, .unset, .unset, .unset] [(.int (2 : Int32)), (.int (p1 &&& (3 : Int32)))])) _
          refine XS.icmpNo X76.here hx rfl (hb hby at_43) rfl (XT.ii_ne_f h2) ?_
          show Steps p.tables e below (T76.setTop (mkF m 46 #[.val (.int p1), .val (.int p2), .val (.int p3), .val (.int p4), .val (.int p5), .val (.ref b68), .val (.int (p1 &&& (3 : Int32))), .val (.int (p2 &&& (3 : Int32))), .unset, .unset, .unset, .unset, .unset, .unset, .unset, .unset] [])) _
          refine XS.iload X76.here hx rfl (hb hby at_46) rfl ?_
          show Steps p.tables e below (T76.setTop (mkF m 48 #[.val (.int p1), .val (.int p2), .val (.int p3), .val (.int p4), .val (.int p5), .val (.ref b68), .val (.int (p1 &&& (3 : Int32))), .val (.int (p2 &&& (3 : Int32))), .unset, .unset, .unset, .unset, .unset, .unset, .unset, .unset] [(.int (p2 &&& (3 : Int32)))])) _
          refine XT.iconstV X76.here hx rfl (3 : Int32) (hb hby at_48) rfl ?_
          show Steps p.tables e below (T76.setTop (mkF m 49 #[.val (.int p1), .val (.int p2), .val (.int p3), .val (.int p4), .val (.int p5), .val (.ref b68), .val (.int (p1 &&& (3 : Int32))), .val (.int (p2 &&& (3 : Int32))), .unset, .unset, .unset, .unset, .unset, .unset, .unset, .unset] [(.int (3 : Int32)), (.int (p2 &&& (3 : Int32)))])) _
          refine XS.icmpNo X76.here hx rfl (hb hby at_49) rfl (XT.ii_ne_f h3) ?_
          show Steps p.tables e below (T76.setTop (mkF m 52 #[.val (.int p1), .val (.int p2), .val (.int p3), .val (.int p4), .val (.int p5), .val (.ref b68), .val (.int (p1 &&& (3 : Int32))), .val (.int (p2 &&& (3 : Int32))), .unset, .unset, .unset, .unset, .unset, .unset, .unset, .unset] [])) _
          refine XT.iconstV X76.here hx rfl (1 : Int32) (hb hby at_52) rfl ?_
          show Steps p.tables e below (T76.setTop (mkF m 53 #[.val (.int p1), .val (.int p2), .val (.int p3), .val (.int p4), .val (.int p5), .val (.ref b68), .val (.int (p1 &&& (3 : Int32))), .val (.int (p2 &&& (3 : Int32))), .unset, .unset, .unset, .unset, .unset, .unset, .unset, .unset] [(.int (1 : Int32))])) _
          refine XS.goto X76.here hx rfl (pc0 := 53) (pc' := 57) rfl (hb hby at_53) (by decide) (by decide) ?_
          show Steps p.tables e below (T76.setTop (mkF m 57 #[.val (.int p1), .val (.int p2), .val (.int p3), .val (.int p4), .val (.int p5), .val (.ref b68), .val (.int (p1 &&& (3 : Int32))), .val (.int (p2 &&& (3 : Int32))), .unset, .unset, .unset, .unset, .unset, .unset, .unset, .unset] [(.int (1 : Int32))])) _
          refine XS.istore X76.here hx rfl (hb hby at_57) rfl (l' := #[.val (.int p1), .val (.int p2), .val (.int p3), .val (.int p4), .val (.int p5), .val (.ref b68), .val (.int (p1 &&& (3 : Int32))), .val (.int (p2 &&& (3 : Int32))), .val (.int (1 : Int32)), .unset, .unset, .unset, .unset, .unset, .unset, .unset]) rfl ?_
          show Steps p.tables e below (T76.setTop (mkF m 59 #[.val (.int p1), .val (.int p2), .val (.int p3), .val (.int p4), .val (.int p5), .val (.ref b68), .val (.int (p1 &&& (3 : Int32))), .val (.int (p2 &&& (3 : Int32))), .val (.int (1 : Int32)), .unset, .unset, .unset, .unset, .unset, .unset, .unset] [])) _
          refine XS.iload X76.here hx rfl (hb hby at_59) rfl ?_
          show Steps p.tables e below (T76.setTop (mkF m 61 #[.val (.int p1), .val (.int p2), .val (.int p3), .val (.int p4), .val (.int p5), .val (.ref b68), .val (.int (p1 &&& (3 : Int32))), .val (.int (p2 &&& (3 : Int32))), .val (.int (1 : Int32)), .unset, .unset, .unset, .unset, .unset, .unset, .unset] [(.int p5)])) _
          refine XT.iconstV X76.here hx rfl (1 : Int32) (hb hby at_61) rfl ?_
          show Steps p.tables e below (T76.setTop (mkF m 62 #[.val (.int p1), .val (.int p2), .val (.int p3), .val (.int p4), .val (.int p5), .val (.ref b68), .val (.int (p1 &&& (3 : Int32))), .val (.int (p2 &&& (3 : Int32))), .val (.int (1 : Int32)), .unset, .unset, .unset, .unset, .unset, .unset, .unset] [(.int (1 : Int32)), (.int p5)])) _
          refine XS.iand X76.here hx rfl (hb hby at_62) rfl ?_
          show Steps p.tables e below (T76.setTop (mkF m 63 #[.val (.int p1), .val (.int p2), .val (.int p3), .val (.int p4), .val (.int p5), .val (.ref b68), .val (.int (p1 &&& (3 : Int32))), .val (.int (p2 &&& (3 : Int32))), .val (.int (1 : Int32)), .unset, .unset, .unset, .unset, .unset, .unset, .unset] [(.int (p5 &&& (1 : Int32)))])) _
          rw [hm]
          show Steps p.tables e below (T76.setTop (mkF m 63 #[.val (.int p1), .val (.int p2), .val (.int p3), .val (.int p4), .val (.int p5), .val (.ref b68), .val (.int (p1 &&& (3 : Int32))), .val (.int (p2 &&& (3 : Int32))), .val (.int (1 : Int32)), .unset, .unset, .unset, .unset, .unset, .unset, .unset] [(.int (0 : Int32))])) _
          refine XS.ifYes X76.here hx rfl (pc0 := 63) (pc' := 88) rfl (hb hby at_63) rfl (by decide) (by decide) (by decide) ?_
          show Steps p.tables e below (T76.setTop (mkF m 88 #[.val (.int p1), .val (.int p2), .val (.int p3), .val (.int p4), .val (.int p5), .val (.ref b68), .val (.int (p1 &&& (3 : Int32))), .val (.int (p2 &&& (3 : Int32))), .val (.int (1 : Int32)), .unset, .unset, .unset, .unset, .unset, .unset, .unset] [])) _
          refine XT.iconstV X76.here hx rfl (1 : Int32) (hb hby at_88) rfl ?_
          show Steps p.tables e below (T76.setTop (mkF m 89 #[.val (.int p1), .val (.int p2), .val (.int p3), .val (.int p4), .val (.int p5), .val (.ref b68), .val (.int (p1 &&& (3 : Int32))), .val (.int (p2 &&& (3 : Int32))), .val (.int (1 : Int32)), .unset, .unset, .unset, .unset, .unset, .unset, .unset] [(.int (1 : Int32))])) _
          refine XS.iloadN X76.here hx rfl (hb hby at_89) rfl ?_
          show Steps p.tables e below (T76.setTop (mkF m 90 #[.val (.int p1), .val (.int p2), .val (.int p3), .val (.int p4), .val (.int p5), .val (.ref b68), .val (.int (p1 &&& (3 : Int32))), .val (.int (p2 &&& (3 : Int32))), .val (.int (1 : Int32)), .unset, .unset, .unset, .unset, .unset, .unset, .unset] [(.int p3), (.int (1 : Int32))])) _
          refine Jvm.Stand.ldcI X76 hx hown (mvT hZ (hw _ (List.mem_of_getElem? (i := 12) rfl))) rfl (hb hby at_90) ?_
          show Steps p.tables e below (T76.setTop (mkF m 92 #[.val (.int p1), .val (.int p2), .val (.int p3), .val (.int p4), .val (.int p5), .val (.ref b68), .val (.int (p1 &&& (3 : Int32))), .val (.int (p2 &&& (3 : Int32))), .val (.int (1 : Int32)), .unset, .unset, .unset, .unset, .unset, .unset, .unset] [(.int (2147483647 : Int32)), (.int p3), (.int (1 : Int32))])) _
          refine XS.iand X76.here hx rfl (hb hby at_92) rfl ?_
          show Steps p.tables e below (T76.setTop (mkF m 93 #[.val (.int p1), .val (.int p2), .val (.int p3), .val (.int p4), .val (.int p5), .val (.ref b68), .val (.int (p1 &&& (3 : Int32))), .val (.int (p2 &&& (3 : Int32))), .val (.int (1 : Int32)), .unset, .unset, .unset, .unset, .unset, .unset, .unset] [(.int (p3 &&& (2147483647 : Int32))), (.int (1 : Int32))])) _
          refine st77 _ ?_
          show Steps p.tables e below (T77.setTop (mkF m 96 #[.val (.int p1), .val (.int p2), .val (.int p3), .val (.int p4), .val (.int p5), .val (.ref b68), .val (.int (p1 &&& (3 : Int32))), .val (.int (p2 &&& (3 : Int32))), .val (.int (1 : Int32)), .unset, .unset, .unset, .unset, .unset, .unset, .unset] [(.int (own_max (p3 &&& (2147483647 : Int32))))])) _
          refine XS.istore X77.here hx rfl (hb hby at_96) rfl (l' := #[.val (.int p1), .val (.int p2), .val (.int p3), .val (.int p4), .val (.int p5), .val (.ref b68), .val (.int (p1 &&& (3 : Int32))), .val (.int (p2 &&& (3 : Int32))), .val (.int (1 : Int32)), .val (.int (own_max (p3 &&& (2147483647 : Int32)))), .unset, .unset, .unset, .unset, .unset, .unset]) rfl ?_
          show Steps p.tables e below (T77.setTop (mkF m 98 #[.val (.int p1), .val (.int p2), .val (.int p3), .val (.int p4), .val (.int p5), .val (.ref b68), .val (.int (p1 &&& (3 : Int32))), .val (.int (p2 &&& (3 : Int32))), .val (.int (1 : Int32)), .val (.int (own_max (p3 &&& (2147483647 : Int32)))), .unset, .unset, .unset, .unset, .unset, .unset] [])) _
          refine XT.iconstV X77.here hx rfl (1 : Int32) (hb hby at_98) rfl ?_
          show Steps p.tables e below (T77.setTop (mkF m 99 #[.val (.int p1), .val (.int p2), .val (.int p3), .val (.int p4), .val (.int p5), .val (.ref b68), .val (.int (p1 &&& (3 : Int32))), .val (.int (p2 &&& (3 : Int32))), .val (.int (1 : Int32)), .val (.int (own_max (p3 &&& (2147483647 : Int32)))), .unset, .unset, .unset, .unset, .unset, .unset] [(.int (1 : Int32))])) _
          refine XS.iload X77.here hx rfl (hb hby at_99) rfl ?_
          show Steps p.tables e below (T77.setTop (mkF m 101 #[.val (.int p1), .val (.int p2), .val (.int p3), .val (.int p4), .val (.int p5), .val (.ref b68), .val (.int (p1 &&& (3 : Int32))), .val (.int (p2 &&& (3 : Int32))), .val (.int (1 : Int32)), .val (.int (own_max (p3 &&& (2147483647 : Int32)))), .unset, .unset, .unset, .unset, .unset, .unset] [(.int (1 : Int32)), (.int (1 : Int32))])) _
          refine XS.ifNo X77.here hx rfl (hb hby at_101) rfl (by decide) ?_
          show Steps p.tables e below (T77.setTop (mkF m 104 #[.val (.int p1), .val (.int p2), .val (.int p3), .val (.int p4), .val (.int p5), .val (.ref b68), .val (.int (p1 &&& (3 : Int32))), .val (.int (p2 &&& (3 : Int32))), .val (.int (1 : Int32)), .val (.int (own_max (p3 &&& (2147483647 : Int32)))), .unset, .unset, .unset, .unset, .unset, .unset] [(.int (1 : Int32))])) _
          refine XS.iloadN X77.here hx rfl (hb hby at_104) rfl ?_
          show Steps p.tables e below (T77.setTop (mkF m 105 #[.val (.int p1), .val (.int p2), .val (.int p3), .val (.int p4), .val (.int p5), .val (.ref b68), .val (.int (p1 &&& (3 : Int32))), .val (.int (p2 &&& (3 : Int32))), .val (.int (1 : Int32)), .val (.int (own_max (p3 &&& (2147483647 : Int32)))), .unset, .unset, .unset, .unset, .unset, .unset] [(.int p4), (.int (1 : Int32))])) _
          refine Jvm.Stand.ldcI X77 hx hown (mvT hZ (hw _ (List.mem_of_getElem? (i := 55) rfl))) rfl (hb hby at_105) ?_
          show Steps p.tables e below (T77.setTop (mkF m 107 #[.val (.int p1), .val (.int p2), .val (.int p3), .val (.int p4), .val (.int p5), .val (.ref b68), .val (.int (p1 &&& (3 : Int32))), .val (.int (p2 &&& (3 : Int32))), .val (.int (1 : Int32)), .val (.int (own_max (p3 &&& (2147483647 : Int32)))), .unset, .unset, .unset, .unset, .unset, .unset] [(.int (134217727 : Int32)), (.int p4), (.int (1 : Int32))])) _
          refine XS.iand X77.here hx rfl (hb hby at_107) rfl ?_
          show Steps p.tables e below (T77.setTop (mkF m 108 #[.val (.int p1), .val (.int p2), .val (.int p3), .val (.int p4), .val (.int p5), .val (.ref b68), .val (.int (p1 &&& (3 : Int32))), .val (.int (p2 &&& (3 : Int32))), .val (.int (1 : Int32)), .val (.int (own_max (p3 &&& (2147483647 : Int32)))), .unset, .unset, .unset, .unset, .unset, .unset] [(.int (p4 &&& (134217727 : Int32))), (.int (1 : Int32))])) _
          refine XS.goto X77.here hx rfl (pc0 := 108) (pc' := 115) rfl (hb hby at_108) (by decide) (by decide) ?_
          show Steps p.tables e below (T77.setTop (mkF m 115 #[.val (.int p1), .val (.int p2), .val (.int p3), .val (.int p4), .val (.int p5), .val (.ref b68), .val (.int (p1 &&& (3 : Int32))), .val (.int (p2 &&& (3 : Int32))), .val (.int (1 : Int32)), .val (.int (own_max (p3 &&& (2147483647 : Int32)))), .unset, .unset, .unset, .unset, .unset, .unset] [(.int (p4 &&& (134217727 : Int32))), (.int (1 : Int32))])) _
          refine st78 _ ?_
          show Steps p.tables e below (T78.setTop (mkF m 118 #[.val (.int p1), .val (.int p2), .val (.int p3), .val (.int p4), .val (.int p5), .val (.ref b68), .val (.int (p1 &&& (3 : Int32))), .val (.int (p2 &&& (3 : Int32))), .val (.int (1 : Int32)), .val (.int (own_max (p3 &&& (2147483647 : Int32)))), .unset, .unset, .unset, .unset, .unset, .unset] [(.int (own_max (p4 &&& (134217727 : Int32))))])) _
          refine XS.istore X78.here hx rfl (hb hby at_118) rfl (l' := #[.val (.int p1), .val (.int p2), .val (.int p3), .val (.int p4), .val (.int p5), .val (.ref b68), .val (.int (p1 &&& (3 : Int32))), .val (.int (p2 &&& (3 : Int32))), .val (.int (1 : Int32)), .val (.int (own_max (p3 &&& (2147483647 : Int32)))), .val (.int (own_max (p4 &&& (134217727 : Int32)))), .unset, .unset, .unset, .unset, .unset]) rfl ?_
          show Steps p.tables e below (T78.setTop (mkF m 120 #[.val (.int p1), .val (.int p2), .val (.int p3), .val (.int p4), .val (.int p5), .val (.ref b68), .val (.int (p1 &&& (3 : Int32))), .val (.int (p2 &&& (3 : Int32))), .val (.int (1 : Int32)), .val (.int (own_max (p3 &&& (2147483647 : Int32)))), .val (.int (own_max (p4 &&& (134217727 : Int32)))), .unset, .unset, .unset, .unset, .unset] [])) _
          exact kk
        · refine ⟨T76, _, (1 : Int32), ((p3 &&& (15 : Int32)) + (1 : Int32)), (((p3 &&& (15 : Int32)) + (1 : Int32)) * ((p4 &&& (65535 : Int32)) + (1 : Int32))), X76, e76, N76, (own_mode1c p3 p4).1, (own_mode1c p3 p4).2.1, Or.inl ⟨rfl, h2, h3, (own_mode1c p3 p4).2.2⟩, ?_⟩
          intro t kk
          show Steps p.tables e below (T76.setTop (mkF m 40 #[.val (.int p1), .val (.int p2), .val (.int p3), .val (.int p4), .val (.int p5), .val (.ref b68), .val (.int (p1 &&& (3 : Int32))), .val (.int (p2 &&& (3 : Int32))), .unset, .unset, .unset, .unset, .unset, .unset, .unset, .unset] [])) _
          refine XS.iload X76.here hx rfl (hb hby at_40) rfl ?_
          show Steps p.tables e below (T76.setTop (mkF m 42 #[.val (.int p1), .val (.int p2), .val (.int p3), .val (.int p4), .val (.int p5), .val (.ref b68), .val (.int (p1 &&& (3 : Int32))), .val (.int (p2 &&& (3 : Int32))), .unset, .unset, .unset, .unset, .unset, .unset, .unset, .unset] [(.int (p1 &&& (3 : Int32)))])) _
          refine XT.iconstV X76.here hx rfl (2 : Int32) (hb hby at_42) rfl ?_
          show Steps p.tables e below (T76.setTop (mkF m 43 #[.val (.int p1), .val (.int p2), .val (.int p3), .val (.int p4), .val (.int p5), .val (.ref b68), .val (.int (p1 &&& (3 : Int32))), .val (.int (p2 &&& (3 : Int32))), .unset, .unset, .unset, .unset, .unset, .unset, .unset, .unset] [(.int (2 : Int32)), (.int (p1 &&& (3 : Int32)))])) _
          refine XS.icmpNo X76.here hx rfl (hb hby at_43) rfl (XT.ii_ne_f h2) ?_
          show Steps p.tables e below (T76.setTop (mkF m 46 #[.val (.int p1), .val (.int p2), .val (.int p3), .val (.int p4), .val (.int p5), .val (.ref b68), .val (.int (p1 &&& (3 : Int32))), .val (.int (p2 &&& (3 : Int32))), .unset, .unset, .unset, .unset, .unset, .unset, .unset, .unset] [])) _
          refine XS.iload X76.here hx rfl (hb hby at_46) rfl ?_
          show Steps p.tables e below (T76.setTop (mkF m 48 #[.val (.int p1), .val (.int p2), .val (.int p3), .val (.int p4), .val (.int p5), .val (.ref b68), .val (.int (p1 &&& (3 : Int32))), .val (.int (p2 &&& (3 : Int32))), .unset, .unset, .unset, .unset, .unset, .unset, .unset, .unset] [(.int (p2 &&& (3 : Int32)))])) _
          refine XT.iconstV X76.here hx rfl (3 : Int32) (hb hby at_48) rfl ?_
          show Steps p.tables e below (T76.setTop (mkF m 49 #[.val (.int p1), .val (.int p2), .val (.int p3), .val (.int p4), .val (.int p5), .val (.ref b68), .val (.int (p1 &&& (3 : Int32))), .val (.int (p2 &&& (3 : Int32))), .unset, .unset, .unset, .unset, .unset, .unset, .unset, .unset] [(.int (3 : Int32)), (.int (p2 &&& (3 : Int32)))])) _
          refine XS.icmpNo X76.here hx rfl (hb hby at_49) rfl (XT.ii_ne_f h3) ?_
          show Steps p.tables e below (T76.setTop (mkF m 52 #[.val (.int p1), .val (.int p2), .val (.int p3), .val (.int p4), .val (.int p5), .val (.ref b68), .val (.int (p1 &&& (3 : Int32))), .val (.int (p2 &&& (3 : Int32))), .unset, .unset, .unset, .unset, .unset, .unset, .unset, .unset] [])) _
          refine XT.iconstV X76.here hx rfl (1 : Int32) (hb hby at_52) rfl ?_
          show Steps p.tables e below (T76.setTop (mkF m 53 #[.val (.int p1), .val (.int p2), .val (.int p3), .val (.int p4), .val (.int p5), .val (.ref b68), .val (.int (p1 &&& (3 : Int32))), .val (.int (p2 &&& (3 : Int32))), .unset, .unset, .unset, .unset, .unset, .unset, .unset, .unset] [(.int (1 : Int32))])) _
          refine XS.goto X76.here hx rfl (pc0 := 53) (pc' := 57) rfl (hb hby at_53) (by decide) (by decide) ?_
          show Steps p.tables e below (T76.setTop (mkF m 57 #[.val (.int p1), .val (.int p2), .val (.int p3), .val (.int p4), .val (.int p5), .val (.ref b68), .val (.int (p1 &&& (3 : Int32))), .val (.int (p2 &&& (3 : Int32))), .unset, .unset, .unset, .unset, .unset, .unset, .unset, .unset] [(.int (1 : Int32))])) _
          refine XS.istore X76.here hx rfl (hb hby at_57) rfl (l' := #[.val (.int p1), .val (.int p2), .val (.int p3), .val (.int p4), .val (.int p5), .val (.ref b68), .val (.int (p1 &&& (3 : Int32))), .val (.int (p2 &&& (3 : Int32))), .val (.int (1 : Int32)), .unset, .unset, .unset, .unset, .unset, .unset, .unset]) rfl ?_
          show Steps p.tables e below (T76.setTop (mkF m 59 #[.val (.int p1), .val (.int p2), .val (.int p3), .val (.int p4), .val (.int p5), .val (.ref b68), .val (.int (p1 &&& (3 : Int32))), .val (.int (p2 &&& (3 : Int32))), .val (.int (1 : Int32)), .unset, .unset, .unset, .unset, .unset, .unset, .unset] [])) _
          refine XS.iload X76.here hx rfl (hb hby at_59) rfl ?_
          show Steps p.tables e below (T76.setTop (mkF m 61 #[.val (.int p1), .val (.int p2), .val (.int p3), .val (.int p4), .val (.int p5), .val (.ref b68), .val (.int (p1 &&& (3 : Int32))), .val (.int (p2 &&& (3 : Int32))), .val (.int (1 : Int32)), .unset, .unset, .unset, .unset, .unset, .unset, .unset] [(.int p5)])) _
          refine XT.iconstV X76.here hx rfl (1 : Int32) (hb hby at_61) rfl ?_
          show Steps p.tables e below (T76.setTop (mkF m 62 #[.val (.int p1), .val (.int p2), .val (.int p3), .val (.int p4), .val (.int p5), .val (.ref b68), .val (.int (p1 &&& (3 : Int32))), .val (.int (p2 &&& (3 : Int32))), .val (.int (1 : Int32)), .unset, .unset, .unset, .unset, .unset, .unset, .unset] [(.int (1 : Int32)), (.int p5)])) _
          refine XS.iand X76.here hx rfl (hb hby at_62) rfl ?_
          show Steps p.tables e below (T76.setTop (mkF m 63 #[.val (.int p1), .val (.int p2), .val (.int p3), .val (.int p4), .val (.int p5), .val (.ref b68), .val (.int (p1 &&& (3 : Int32))), .val (.int (p2 &&& (3 : Int32))), .val (.int (1 : Int32)), .unset, .unset, .unset, .unset, .unset, .unset, .unset] [(.int (p5 &&& (1 : Int32)))])) _
          rw [hm]
          show Steps p.tables e below (T76.setTop (mkF m 63 #[.val (.int p1), .val (.int p2), .val (.int p3), .val (.int p4), .val (.int p5), .val (.ref b68), .val (.int (p1 &&& (3 : Int32))), .val (.int (p2 &&& (3 : Int32))), .val (.int (1 : Int32)), .unset, .unset, .unset, .unset, .unset, .unset, .unset] [(.int (1 : Int32))])) _
          refine XS.ifNo X76.here hx rfl (hb hby at_63) rfl (by decide) ?_
          show Steps p.tables e below (T76.setTop (mkF m 66 #[.val (.int p1), .val (.int p2), .val (.int p3), .val (.int p4), .val (.int p5), .val (.ref b68), .val (.int (p1 &&& (3 : Int32))), .val (.int (p2 &&& (3 : Int32))), .val (.int (1 : Int32)), .unset, .unset, .unset, .unset, .unset, .unset, .unset] [])) _
          refine XS.iloadN X76.here hx rfl (hb hby at_66) rfl ?_
          show Steps p.tables e below (T76.setTop (mkF m 67 #[.val (.int p1), .val (.int p2), .val (.int p3), .val (.int p4), .val (.int p5), .val (.ref b68), .val (.int (p1 &&& (3 : Int32))), .val (.int (p2 &&& (3 : Int32))), .val (.int (1 : Int32)), .unset, .unset, .unset, .unset, .unset, .unset, .unset] [(.int p3)])) _
          refine XT.bipushV X76.here hx rfl (15 : Int32) (hb hby at_67) (by decide) ?_
          show Steps p.tables e below (T76.setTop (mkF m 69 #[.val (.int p1), .val (.int p2), .val (.int p3), .val (.int p4), .val (.int p5), .val (.ref b68), .val (.int (p1 &&& (3 : Int32))), .val (.int (p2 &&& (3 : Int32))), .val (.int (1 : Int32)), .unset, .unset, .unset, .unset, .unset, .unset, .unset] [(.int (15 : Int32)), (.int p3)])) _
          refine XS.iand X76.here hx rfl (hb hby at_69) rfl ?_
          show Steps p.tables e below (T76.setTop (mkF m 70 #[.val (.int p1), .val (.int p2), .val (.int p3), .val (.int p4), .val (.int p5), .val (.ref b68), .val (.int (p1 &&& (3 : Int32))), .val (.int (p2 &&& (3 : Int32))), .val (.int (1 : Int32)), .unset, .unset, .unset, .unset, .unset, .unset, .unset] [(.int (p3 &&& (15 : Int32)))])) _
          refine XT.iconstV X76.here hx rfl (1 : Int32) (hb hby at_70) rfl ?_
          show Steps p.tables e below (T76.setTop (mkF m 71 #[.val (.int p1), .val (.int p2), .val (.int p3), .val (.int p4), .val (.int p5), .val (.ref b68), .val (.int (p1 &&& (3 : Int32))), .val (.int (p2 &&& (3 : Int32))), .val (.int (1 : Int32)), .unset, .unset, .unset, .unset, .unset, .unset, .unset] [(.int (1 : Int32)), (.int (p3 &&& (15 : Int32)))])) _
          refine XS.iadd X76.here hx rfl (hb hby at_71) rfl ?_
          show Steps p.tables e below (T76.setTop (mkF m 72 #[.val (.int p1), .val (.int p2), .val (.int p3), .val (.int p4), .val (.int p5), .val (.ref b68), .val (.int (p1 &&& (3 : Int32))), .val (.int (p2 &&& (3 : Int32))), .val (.int (1 : Int32)), .unset, .unset, .unset, .unset, .unset, .unset, .unset] [(.int ((p3 &&& (15 : Int32)) + (1 : Int32)))])) _
          refine XS.istore X76.here hx rfl (hb hby at_72) rfl (l' := #[.val (.int p1), .val (.int p2), .val (.int p3), .val (.int p4), .val (.int p5), .val (.ref b68), .val (.int (p1 &&& (3 : Int32))), .val (.int (p2 &&& (3 : Int32))), .val (.int (1 : Int32)), .val (.int ((p3 &&& (15 : Int32)) + (1 : Int32))), .unset, .unset, .unset, .unset, .unset, .unset]) rfl ?_
          show Steps p.tables e below (T76.setTop (mkF m 74 #[.val (.int p1), .val (.int p2), .val (.int p3), .val (.int p4), .val (.int p5), .val (.ref b68), .val (.int (p1 &&& (3 : Int32))), .val (.int (p2 &&& (3 : Int32))), .val (.int (1 : Int32)), .val (.int ((p3 &&& (15 : Int32)) + (1 : Int32))), .unset, .unset, .unset, .unset, .unset, .unset] [])) _
          refine XS.iload X76.here hx rfl (hb hby at_74) rfl ?_
          show Steps p.tables e below (T76.setTop (mkF m 76 #[.val (.int p1), .val (.int p2), .val (.int p3), .val (.int p4), .val (.int p5), .val (.ref b68), .val (.int (p1 &&& (3 : Int32))), .val (.int (p2 &&& (3 : Int32))), .val (.int (1 : Int32)), .val (.int ((p3 &&& (15 : Int32)) + (1 : Int32))), .unset, .unset, .unset, .unset, .unset, .unset] [(.int ((p3 &&& (15 : Int32)) + (1 : Int32)))])) _
          refine XS.iloadN X76.here hx rfl (hb hby at_76) rfl ?_
          show Steps p.tables e below (T76.setTop (mkF m 77 #[.val (.int p1), .val (.int p2), .val (.int p3), .val (.int p4), .val (.int p5), .val (.ref b68), .val (.int (p1 &&& (3 : Int32))), .val (.int (p2 &&& (3 : Int32))), .val (.int (1 : Int32)), .val (.int ((p3 &&& (15 : Int32)) + (1 : Int32))), .unset, .unset, .unset, .unset, .unset, .unset] [(.int p4), (.int ((p3 &&& (15 : Int32)) + (1 : Int32)))])) _
          refine Jvm.Stand.ldcI X76 hx hown (mvT hZ (hw _ (List.mem_of_getElem? (i := 54) rfl))) rfl (hb hby at_77) ?_
          show Steps p.tables e below (T76.setTop (mkF m 79 #[.val (.int p1), .val (.int p2), .val (.int p3), .val (.int p4), .val (.int p5), .val (.ref b68), .val (.int (p1 &&& (3 : Int32))), .val (.int (p2 &&& (3 : Int32))), .val (.int (1 : Int32)), .val (.int ((p3 &&& (15 : Int32)) + (1 : Int32))), .unset, .unset, .unset, .unset, .unset, .unset] [(.int (65535 : Int32)), (.int p4), (.int ((p3 &&& (15 : Int32)) + (1 : Int32)))])) _
          refine XS.iand X76.here hx rfl (hb hby at_79) rfl ?_
          show Steps p.tables e below (T76.setTop (mkF m 80 #[.val (.int p1), .val (.int p2), .val (.int p3), .val (.int p4), .val (.int p5), .val (.ref b68), .val (.int (p1 &&& (3 : Int32))), .val (.int (p2 &&& (3 : Int32))), .val (.int (1 : Int32)), .val (.int ((p3 &&& (15 : Int32)) + (1 : Int32))), .unset, .unset, .unset, .unset, .unset, .unset] [(.int (p4 &&& (65535 : Int32))), (.int ((p3 &&& (15 : Int32)) + (1 : Int32)))])) _
          refine XT.iconstV X76.here hx rfl (1 : Int32) (hb hby at_80) rfl ?_
          show Steps p.tables e below (T76.setTop (mkF m 81 #[.val (.int p1), .val (.int p2), .val (.int p3), .val (.int p4), .val (.int p5), .val (.ref b68), .val (.int (p1 &&& (3 : Int32))), .val (.int (p2 &&& (3 : Int32))), .val (.int (1 : Int32)), .val (.int ((p3 &&& (15 : Int32)) + (1 : Int32))), .unset, .unset, .unset, .unset, .unset, .unset] [(.int (1 : Int32)), (.int (p4 &&& (65535 : Int32))), (.int ((p3 &&& (15 : Int32)) + (1 : Int32)))])) _
          refine XS.iadd X76.here hx rfl (hb hby at_81) rfl ?_
          show Steps p.tables e below (T76.setTop (mkF m 82 #[.val (.int p1), .val (.int p2), .val (.int p3), .val (.int p4), .val (.int p5), .val (.ref b68), .val (.int (p1 &&& (3 : Int32))), .val (.int (p2 &&& (3 : Int32))), .val (.int (1 : Int32)), .val (.int ((p3 &&& (15 : Int32)) + (1 : Int32))), .unset, .unset, .unset, .unset, .unset, .unset] [(.int ((p4 &&& (65535 : Int32)) + (1 : Int32))), (.int ((p3 &&& (15 : Int32)) + (1 : Int32)))])) _
          refine XS.imul X76.here hx rfl (hb hby at_82) rfl ?_
          show Steps p.tables e below (T76.setTop (mkF m 83 #[.val (.int p1), .val (.int p2), .val (.int p3), .val (.int p4), .val (.int p5), .val (.ref b68), .val (.int (p1 &&& (3 : Int32))), .val (.int (p2 &&& (3 : Int32))), .val (.int (1 : Int32)), .val (.int ((p3 &&& (15 : Int32)) + (1 : Int32))), .unset, .unset, .unset, .unset, .unset, .unset] [(.int (((p3 &&& (15 : Int32)) + (1 : Int32)) * ((p4 &&& (65535 : Int32)) + (1 : Int32))))])) _
          refine XS.istore X76.here hx rfl (hb hby at_83) rfl (l' := #[.val (.int p1), .val (.int p2), .val (.int p3), .val (.int p4), .val (.int p5), .val (.ref b68), .val (.int (p1 &&& (3 : Int32))), .val (.int (p2 &&& (3 : Int32))), .val (.int (1 : Int32)), .val (.int ((p3 &&& (15 : Int32)) + (1 : Int32))), .val (.int (((p3 &&& (15 : Int32)) + (1 : Int32)) * ((p4 &&& (65535 : Int32)) + (1 : Int32)))), .unset, .unset, .unset, .unset, .unset]) rfl ?_
          show Steps p.tables e below (T76.setTop (mkF m 85 #[.val (.int p1), .val (.int p2), .val (.int p3), .val (.int p4), .val (.int p5), .val (.ref b68), .val (.int (p1 &&& (3 : Int32))), .val (.int (p2 &&& (3 : Int32))), .val (.int (1 : Int32)), .val (.int ((p3 &&& (15 : Int32)) + (1 : Int32))), .val (.int (((p3 &&& (15 : Int32)) + (1 : Int32)) * ((p4 &&& (65535 : Int32)) + (1 : Int32)))), .unset, .unset, .unset, .unset, .unset] [])) _
          refine XS.goto X76.here hx rfl (pc0 := 85) (pc' := 120) rfl (hb hby at_85) (by decide) (by decide) ?_
          show Steps p.tables e below (T76.setTop (mkF m 120 #[.val (.int p1), .val (.int p2), .val (.int p3), .val (.int p4), .val (.int p5), .val (.ref b68), .val (.int (p1 &&& (3 : Int32))), .val (.int (p2 &&& (3 : Int32))), .val (.int (1 : Int32)), .val (.int ((p3 &&& (15 : Int32)) + (1 : Int32))), .val (.int (((p3 &&& (15 : Int32)) + (1 : Int32)) * ((p4 &&& (65535 : Int32)) + (1 : Int32)))), .unset, .unset, .unset, .unset, .unset] [])) _
          exact kk
      · rcases and_one p5 with hm | hm
        · obtain ⟨_, _, ⟨T79, L79, k79, n79⟩, -, X79, ⟨Lc79, hQ79, l79, y79, z79⟩, st79⟩ := Jvm.LawKit.callS X76 hx (y := (⟨"java/lang/Math", "max", "(II)I"⟩ : MethodName)) hown (mvT hZ (hw _ (List.mem_of_getElem? (i := 13) rfl))) (mvT hZ (hw _ (List.mem_of_getElem? (i := 14) rfl))) (mvT hZ (hw _ (List.mem_of_getElem? (i := 15) rfl))) (mvT hZ (hw _ (List.mem_of_getElem? (i := 16) rfl))) (by decide) (backOf (W := 0) (own_maxc l Z a0 hw [] (p3 &&& (2147483647 : Int32)) h76 n0 Z76) hZ (hw _ (List.mem_of_getElem? (i := 16) rfl)) (hw _ (List.mem_of_getElem? (i := 15) rfl)) (by decide) (by decide)) (g := (mkF m 93 #[.val (.int p1), .val (.int p2), .val (.int p3), .val (.int p4), .val (.int p5), .val (.ref b68), .val (.int (p1 &&& (3 : Int32))), .val (.int (p2 &&& (3 : Int32))), .val (.int (0 : Int32)), .unset, .unset, .unset, .unset, .unset, .unset, .unset] [(.int (p3 &&& (2147483647 : Int32))), (.int (1 : Int32))])) rfl (by rw [hml]; rfl) (argsL := [(.int (1 : Int32)), (.int (p3 &&& (2147483647 : Int32)))]) (rest := []) (lenOf pd__II_I rfl) rfl (by show 2 * 0 + _ ≤ _; exact Nat.le_of_eq rfl) (hb hby at_93) (fun _ _ => ⟨rfl, e76, (by decide : 1 + 0 ≤ _), (by decide : 4 + 0 ≤ _)⟩)
          dsimp only [Pt.U, Pt.locs, Pt.cells, Pt.slots] at X79 l79 y79 z79 st79 hQ79
          subst l79 y79 z79
          obtain ⟨rfl, N79q, e79⟩ := hQ79
          have N79 := Fr.app N76 N79q
          obtain ⟨_, _, ⟨T80, L80, k80, n80⟩, -, X80, ⟨Lc80, hQ80, l80, y80, z80⟩, st80⟩ := Jvm.LawKit.callS X79 hx (y := (⟨"java/lang/Math", "max", "(II)I"⟩ : MethodName)) hown (mvT hZ (hw _ (List.mem_of_getElem? (i := 13) rfl))) (mvT hZ (hw _ (List.mem_of_getElem? (i := 14) rfl))) (mvT hZ (hw _ (List.mem_of_getElem? (i := 15) rfl))) (mvT hZ (hw _ (List.mem_of_getElem? (i := 16) rfl))) (by decide) (backOf (W := 0) (own_maxc l Z a0 hw [] (p4 &&& (2147483647 : Int32)) h76 n0 Z76) hZ (hw _ (List.mem_of_getElem? (i := 16) rfl)) (hw _ (List.mem_of_getElem? (i := 15) rfl)) (by decide) (by decide)) (g := (mkF m 115 #[.val (.int p1), .val (.int p2), .val (.int p3), .val (.int p4), .val (.int p5), .val (.ref b68), .val (.int (p1 &&& (3 : Int32))), .val (.int (p2 &&& (3 : Int32))), .val (.int (0 : Int32)), .val (.int (own_max (p3 &&& (2147483647 : Int32)))), .unset, .unset, .unset, .unset, .unset, .unset] [(.int (p4 &&& (2147483647 : Int32))), (.int (1 : Int32))])) rfl (by rw [hml]; rfl) (argsL := [(.int (1 : Int32)), (.int (p4 &&& (2147483647 : Int32)))]) (rest := []) (lenOf pd__II_I rfl) rfl (by show 2 * 0 + _ ≤ _; exact Nat.le_of_eq rfl) (hb hby at_115) (fun _ _ => ⟨rfl, e79, (by decide : 1 + 0 ≤ _), (by decide : 4 + 0 ≤ _)⟩)
          dsimp only [Pt.U, Pt.locs, Pt.cells, Pt.slots] at X80 l80 y80 z80 st80 hQ80
          subst l80 y80 z80
          obtain ⟨rfl, N80q, e80⟩ := hQ80
          have N80 := Fr.app N79 N80q
          refine ⟨T80, _, (0 : Int32), (own_max (p3 &&& (2147483647 : Int32))), (own_max (p4 &&& (2147483647 : Int32))), X80, e80, N80, (own_mode0 p3 p4).1, (own_mode0 p3 p4).2, Or.inr ⟨rfl, fun q => h3 q.2⟩, ?_⟩
          intro t kk
          show Steps p.tables e below (T76.setTop (mkF m 40 #[.val (.int p1), .val (.int p2), .val (.int p3), .val (.int p4), .val (.int p5), .val (.ref b68), .val (.int (p1 &&& (3 : Int32))), .val (.int (p2 &&& (3 : Int32))), .unset, .unset, .unset, .unset, .unset, .unset, .unset, .unset] [])) _
          refine XS.iload X76.here hx rfl (hb hby at_40) rfl ?_
          show Steps p.tables e below (T76.setTop (mkF m 42 #[.val (.int p1), .val (.int p2), .val (.int p3), .val (.int p4), .val (.int p5), .val (.ref b68), .val (.int (p1 &&& (3 : Int32))), .val (.int (p2 &&& (3 : Int32))), .unset, .unset, .unset, .unset, .unset, .unset, .unset, .unset] [(.int (p1 &&& (3 : Int32)))])) _
          refine XT.iconstV X76.here hx rfl (2 : Int32) (hb hby at_42) rfl ?_
          show Steps p.tables e below (T76.setTop (mkF m 43 #[.val (.int p1), .val (.int p2), .val (.int p3), .val (.int p4), .val (.int p5), .val (.ref b68), .val (.int (p1 &&& (3 : Int32))), .val (.int (p2 &&& (3 : Int32))), .unset, .unset, .unset, .unset, .unset, .unset, .unset, .unset] [(.int (2 : Int32)), (.int (p1 &&& (3 : Int32)))])) _
          refine XS.icmpNo X76.here hx rfl (hb hby at_43) rfl (XT.ii_ne_f h2) ?_
          show Steps p.tables e below (T76.setTop (mkF m 46 #[.val (.int p1), .val (.int p2), .val (.int p3), .val (.int p4), .val (.int p5), .val (.ref b68), .val (.int (p1 &&& (3 : Int32))), .val (.int (p2 &&& (3 : Int32))), .unset, .unset, .unset, .unset, .unset, .unset, .unset, .unset] [])) _
          refine XS.iload X76.here hx rfl (hb hby at_46) rfl ?_
          show Steps p.tables e below (T76.setTop (mkF m 48 #[.val (.int p1), .val (.int p2), .val (.int p3), .val (.int p4), .val (.int p5), .val (.ref b68), .val (.int (p1 &&& (3 : Int32))), .val (.int (p2 &&& (3 : Int32))), .unset, .unset, .unset, .unset, .unset, .unset, .unset, .unset] [(.int (p2 &&& (3 : Int32)))])) _
          refine XT.iconstV X76.here hx rfl (3 : Int32) (hb hby at_48) rfl ?_
          show Steps p.tables e below (T76.setTop (mkF m 49 #[.val (.int p1), .val (.int p2), .val (.int p3), .val (.int p4), .val (.int p5), .val (.ref b68), .val (.int (p1 &&& (3 : Int32))), .val (.int (p2 &&& (3 : Int32))), .unset, .unset, .unset, .unset, .unset, .unset, .unset, .unset] [(.int (3 : Int32)), (.int (p2 &&& (3 : Int32)))])) _
          refine XS.icmpYes X76.here hx rfl (pc0 := 49) (pc' := 56) rfl (hb hby at_49) rfl (XT.ii_ne_t h3) (by decide) (by decide) ?_
          show Steps p.tables e below (T76.setTop (mkF m 56 #[.val (.int p1), .val (.int p2), .val (.int p3), .val (.int p4), .val (.int p5), .val (.ref b68), .val (.int (p1 &&& (3 : Int32))), .val (.int (p2 &&& (3 : Int32))), .unset, .unset, .unset, .unset, .unset, .unset, .unset, .unset] [])) _
          refine XT.iconstV X76.here hx rfl (0 : Int32) (hb hby at_56) rfl ?_
          show Steps p.tables e below (T76.setTop (mkF m 57 #[.val (.int p1), .val (.int p2), .val (.int p3), .val (.int p4), .val (.int p5), .val (.ref b68), .val (.int (p1 &&& (3 : Int32))), .val (.int (p2 &&& (3 : Int32))), .unset, .unset, .unset, .unset, .unset, .unset, .unset, .unset] [(.int (0 : Int32))])) _
          refine XS.istore X76.here hx rfl (hb hby at_57) rfl (l' := #[.val (.int p1), .val (.int p2), .val (.int p3), .val (.int p4), .val (.int p5), .val (.ref b68), .val (.int (p1 &&& (3 : Int32))), .val (.int (p2 &&& (3 : Int32))), .val (.int (0 : Int32)), .unset, .unset, .unset, .unset, .unset, .unset, .unset]) rfl ?_
          show Steps p.tables e below (T76.setTop (mkF m 59 #[.val (.int p1), .val (.int p2), .val (.int p3), .val (.int p4), .val (.int p5), .val (.ref b68), .val (.int (p1 &&& (3 : Int32))), .val (.int (p2 &&& (3 : Int32))), .val (.int (0 : Int32)), .unset, .unset, .unset, .unset, .unset, .unset, .unset] [])) _
          refine XS.iload X76.here hx rfl (hb hby at_59) rfl ?_
          show Steps p.tables e below (T76.setTop (mkF m 61 #[.val (.int p1), .val (.int p2), .val (.int p3), .val (.int p4), .val (.int p5), .val (.ref b68), .val (.int (p1 &&& (3 : Int32))), .val (.int (p2 &&& (3 : Int32))), .val (.int (0 : Int32)), .unset, .unset, .unset, .unset, .unset, .unset, .unset] [(.int p5)])) _
          refine XT.iconstV X76.here hx rfl (1 : Int32) (hb hby at_61) rfl ?_
          show Steps p.tables e below (T76.setTop (mkF m 62 #[.val (.int p1), .val (.int p2), .val (.int p3), .val (.int p4), .val (.int p5), .val (.ref b68), .val (.int (p1 &&& (3 : Int32))), .val (.int (p2 &&& (3 : Int32))), .val (.int (0 : Int32)), .unset, .unset, .unset, .unset, .unset, .unset, .unset] [(.int (1 : Int32)), (.int p5)])) _
          refine XS.iand X76.here hx rfl (hb hby at_62) rfl ?_
          show Steps p.tables e below (T76.setTop (mkF m 63 #[.val (.int p1), .val (.int p2), .val (.int p3), .val (.int p4), .val (.int p5), .val (.ref b68), .val (.int (p1 &&& (3 : Int32))), .val (.int (p2 &&& (3 : Int32))), .val (.int (0 : Int32)), .unset, .unset, .unset, .unset, .unset, .unset, .unset] [(.int (p5 &&& (1 : Int32)))])) _
          rw [hm]
          show Steps p.tables e below (T76.setTop (mkF m 63 #[.val (.int p1), .val (.int p2), .val (.int p3), .val (.int p4), .val (.int p5), .val (.ref b68), .val (.int (p1 &&& (3 : Int32))), .val (.int (p2 &&& (3 : Int32))), .val (.int (0 : Int32)), .unset, .unset, .unset, .unset, .unset, .unset, .unset] [(.int (0 : Int32))])) _
          refine XS.ifYes X76.here hx rfl (pc0 := 63) (pc' := 88) rfl (hb hby at_63) rfl (by decide) (by decide) (by decide) ?_
          show Steps p.tables e below (T76.setTop (mkF m 88 #[.val (.int p1), .val (.int p2), .val (.int p3), .val (.int p4), .val (.int p5), .val (.ref b68), .val (.int (p1 &&& (3 : Int32))), .val (.int (p2 &&& (3 : Int32))), .val (.int (0 : Int32)), .unset, .unset, .unset, .unset, .unset, .unset, .unset] [])) _
          refine XT.iconstV X76.here hx rfl (1 : Int32) (hb hby at_88) rfl ?_
          show Steps p.tables e below (T76.setTop (mkF m 89 #[.val (.int p1), .val (.int p2), .val (.int p3), .val (.int p4), .val (.int p5), .val (.ref b68), .val (.int (p1 &&& (3 : Int32))), .val (.int (p2 &&& (3 : Int32))), .val (.int (0 : Int32)), .unset, .unset, .unset, .unset, .unset, .unset, .unset] [(.int (1 : Int32))])) _
          refine XS.iloadN X76.here hx rfl (hb hby at_89) rfl ?_
          show Steps p.tables e below (T76.setTop (mkF m 90 #[.val (.int p1), .val (.int p2), .val (.int p3), .val (.int p4), .val (.int p5), .val (.ref b68), .val (.int (p1 &&& (3 : Int32))), .val (.int (p2 &&& (3 : Int32))), .val (.int (0 : Int32)), .unset, .unset, .unset, .unset, .unset, .unset, .unset] [(.int p3), (.int (1 : Int32))])) _
          refine Jvm.Stand.ldcI X76 hx hown (mvT hZ (hw _ (List.mem_of_getElem? (i := 12) rfl))) rfl (hb hby at_90) ?_
          show Steps p.tables e below (T76.setTop (mkF m 92 #[.val (.int p1), .val (.int p2), .val (.int p3), .val (.int p4), .val (.int p5), .val (.ref b68), .val (.int (p1 &&& (3 : Int32))), .val (.int (p2 &&& (3 : Int32))), .val (.int (0 : Int32)), .unset, .unset, .unset, .unset, .unset, .unset, .unset] [(.int (2147483647 : Int32)), (.int p3), (.int (1 : Int32))])) _
          refine XS.iand X76.here hx rfl (hb hby at_92) rfl ?_
          show Steps p.tables e below (T76.setTop (mkF m 93 #[.val (.int p1), .val (.int p2), .val (.int p3), .val (.int p4), .val (.int p5), .val (.ref b68), .val (.int (p1 &&& (3 : Int32))), .val (.int (p2 &&& (3 : Int32))), .val (.int (0 : Int32)), .unset, .unset, .unset, .unset, .unset, .unset, .unset] [(.int (p3 &&& (2147483647 : Int32))), (.int (1 : Int32))])) _
          refine st79 _ ?_
          show Steps p.tables e below (T79.setTop (mkF m 96 #[.val (.int p1), .val (.int p2), .val (.int p3), .val (.int p4), .val (.int p5), .val (.ref b68), .val (.int (p1 &&& (3 : Int32))), .val (.int (p2 &&& (3 : Int32))), .val (.int (0 : Int32)), .unset, .unset, .unset, .unset, .unset, .unset, .unset] [(.int (own_max (p3 &&& (2147483647 : Int32))))])) _
          refine XS.istore X79.here hx rfl (hb hby at_96) rfl (l' := #[.val (.int p1), .val (.int p2), .val (.int p3), .val (.int p4), .val (.int p5), .val (.ref b68), .val (.int (p1 &&& (3 : Int32))), .val (.int (p2 &&& (3 : Int32))), .val (.int (0 : Int32)), .val (.int (own_max (p3 &&& (2147483647 : Int32)))), .unset, .unset, .unset, .unset, .unset, .unset]) rfl ?_
          show Steps p.tables e below (T79.setTop (mkF m 98 #[.val (.int p1), .val (.int p2), .val (.int p3), .val (.int p4), .val (.int p5), .val (.ref b68), .val (.int (p1 &&& (3 : Int32))), .val (.int (p2 &&& (3 : Int32))), .val (.int (0 : Int32)), .val (.int (own_max (p3 &&& (2147483647 : Int32)))), .unset, .unset, .unset, .unset, .unset, .unset] [])) _
          refine XT.iconstV X79.here hx rfl (1 : Int32) (hb hby at_98) rfl ?_
          show Steps p.tables e below (T79.setTop (mkF m 99 #[.val (.int p1), .val (.int p2), .val (.int p3), .val (.int p4), .val (.int p5), .val (.ref b68), .val (.int (p1 &&& (3 : Int32))), .val (.int (p2 &&& (3 : Int32))), .val (.int (0 : Int32)), .val (.int (own_max (p3 &&& (2147483647 : Int32)))), .unset, .unset, .unset, .unset, .unset, .unset] [(.int (1 : Int32))])) _
          refine XS.iload X79.here hx rfl (hb hby at_99) rfl ?_
          show Steps p.tables e below (T79.setTop (mkF m 101 #[.val (.int p1), .val (.int p2), .val (.int p3), .val (.int p4), .val (.int p5), .val (.ref b68), .val (.int (p1 &&& (3 : Int32))), .val (.int (p2 &&& (3 : Int32))), .val (.int (0 : Int32)), .val (.int (own_max (p3 &&& (2147483647 : Int32)))), .unset, .unset, .unset, .unset, .unset, .unset] [(.int (0 : Int32)), (.int (1 : Int32))])) _
          refine XS.ifYes X79.here hx rfl (pc0 := 101) (pc' := 111) rfl (hb hby at_101) rfl (by decide) (by decide) (by decide) ?_
          show Steps p.tables e below (T79.setTop (mkF m 111 #[.val (.int p1), .val (.int p2), .val (.int p3), .val (.int p4), .val (.int p5), .val (.ref b68), .val (.int (p1 &&& (3 : Int32))), .val (.int (p2 &&& (3 : Int32))), .val (.int (0 : Int32)), .val (.int (own_max (p3 &&& (2147483647 : Int32)))), .unset, .unset, .unset, .unset, .unset, .unset] [(.int (1 : Int32))])) _
          refine XS.iloadN X79.here hx rfl (hb hby at_111) rfl ?_
          show Steps p.tables e below (T79.setTop (mkF m 112 #[.val (.int p1), .val (.int p2), .val (.int p3), .val (.int p4), .val (.int p5), .val (.ref b68), .val (.int (p1 &&& (3 : Int32))), .val (.int (p2 &&& (3 : Int32))), .val (.int (0 : Int32)), .val (.int (own_max (p3 &&& (2147483647 : Int32)))), .unset, .unset, .unset, .unset, .unset, .unset] [(.int p4), (.int (1 : Int32))])) _
          refine Jvm.Stand.ldcI X79 hx hown (mvT hZ (hw _ (List.mem_of_getElem? (i := 12) rfl))) rfl (hb hby at_112) ?_
          show Steps p.tables e below (T79.setTop (mkF m 114 #[.val (.int p1), .val (.int p2), .val (.int p3), .val (.int p4), .val (.int p5), .val (.ref b68), .val (.int (p1 &&& (3 : Int32))), .val (.int (p2 &&& (3 : Int32))), .val (.int (0 : Int32)), .val (.int (own_max (p3 &&& (2147483647 : Int32)))), .unset, .unset, .unset, .unset, .unset, .unset] [(.int (2147483647 : Int32)), (.int p4), (.int (1 : Int32))])) _
          refine XS.iand X79.here hx rfl (hb hby at_114) rfl ?_
          show Steps p.tables e below (T79.setTop (mkF m 115 #[.val (.int p1), .val (.int p2), .val (.int p3), .val (.int p4), .val (.int p5), .val (.ref b68), .val (.int (p1 &&& (3 : Int32))), .val (.int (p2 &&& (3 : Int32))), .val (.int (0 : Int32)), .val (.int (own_max (p3 &&& (2147483647 : Int32)))), .unset, .unset, .unset, .unset, .unset, .unset] [(.int (p4 &&& (2147483647 : Int32))), (.int (1 : Int32))])) _
          refine st80 _ ?_
          show Steps p.tables e below (T80.setTop (mkF m 118 #[.val (.int p1), .val (.int p2), .val (.int p3), .val (.int p4), .val (.int p5), .val (.ref b68), .val (.int (p1 &&& (3 : Int32))), .val (.int (p2 &&& (3 : Int32))), .val (.int (0 : Int32)), .val (.int (own_max (p3 &&& (2147483647 : Int32)))), .unset, .unset, .unset, .unset, .unset, .unset] [(.int (own_max (p4 &&& (2147483647 : Int32))))])) _
          refine XS.istore X80.here hx rfl (hb hby at_118) rfl (l' := #[.val (.int p1), .val (.int p2), .val (.int p3), .val (.int p4), .val (.int p5), .val (.ref b68), .val (.int (p1 &&& (3 : Int32))), .val (.int (p2 &&& (3 : Int32))), .val (.int (0 : Int32)), .val (.int (own_max (p3 &&& (2147483647 : Int32)))), .val (.int (own_max (p4 &&& (2147483647 : Int32)))), .unset, .unset, .unset, .unset, .unset]) rfl ?_
          show Steps p.tables e below (T80.setTop (mkF m 120 #[.val (.int p1), .val (.int p2), .val (.int p3), .val (.int p4), .val (.int p5), .val (.ref b68), .val (.int (p1 &&& (3 : Int32))), .val (.int (p2 &&& (3 : Int32))), .val (.int (0 : Int32)), .val (.int (own_max (p3 &&& (2147483647 : Int32)))), .val (.int (own_max (p4 &&& (2147483647 : Int32)))), .unset, .unset, .unset, .unset, .unset] [])) _
          exact kk
        · refine ⟨T76, _, (0 : Int32), ((p3 &&& (15 : Int32)) + (1 : Int32)), (((p3 &&& (15 : Int32)) + (1 : Int32)) * ((p4 &&& (65535 : Int32)) + (1 : Int32))), X76, e76, N76, (own_mode1 p3 p4).1, (own_mode1 p3 p4).2, Or.inr ⟨rfl, fun q => h3 q.2⟩, ?_⟩
          intro t kk
          show Steps p.tables e below (T76.setTop (mkF m 40 #[.val (.int p1), .val (.int p2), .val (.int p3), .val (.int p4), .val (.int p5), .val (.ref b68), .val (.int (p1 &&& (3 : Int32))), .val (.int (p2 &&& (3 : Int32))), .unset, .unset, .unset, .unset, .unset, .unset, .unset, .unset] [])) _
          refine XS.iload X76.here hx rfl (hb hby at_40) rfl ?_
          show Steps p.tables e below (T76.setTop (mkF m 42 #[.val (.int p1), .val (.int p2), .val (.int p3), .val (.int p4), .val (.int p5), .val (.ref b68), .val (.int (p1 &&& (3 : Int32))), .val (.int (p2 &&& (3 : Int32))), .unset, .unset, .unset, .unset, .unset, .unset, .unset, .unset] [(.int (p1 &&& (3 : Int32)))])) _
          refine XT.iconstV X76.here hx rfl (2 : Int32) (hb hby at_42) rfl ?_
          show Steps p.tables e below (T76.setTop (mkF m 43 #[.val (.int p1), .val (.int p2), .val (.int p3), .val (.int p4), .val (.int p5), .val (.ref b68), .val (.int (p1 &&& (3 : Int32))), .val (.int (p2 &&& (3 : Int32))), .unset, .unset, .unset, .unset, .unset, .unset, .unset, .unset] [(.int (2 : Int32)), (.int (p1 &&& (3 : Int32)))])) _
          refine XS.icmpNo X76.here hx rfl (hb hby at_43) rfl (XT.ii_ne_f h2) ?_
          show Steps p.tables e below (T76.setTop (mkF m 46 #[.val (.int p1), .val (.int p2), .val (.int p3), .val (.int p4), .val (.int p5), .val (.ref b68), .val (.int (p1 &&& (3 : Int32))), .val (.int (p2 &&& (3 : Int32))), .unset, .unset, .unset, .unset, .unset, .unset, .unset, .unset] [])) _
          refine XS.iload X76.here hx rfl (hb hby at_46) rfl ?_
          show Steps p.tables e below (T76.setTop (mkF m 48 #[.val (.int p1), .val (.int p2), .val (.int p3), .val (.int p4), .val (.int p5), .val (.ref b68), .val (.int (p1 &&& (3 : Int32))), .val (.int (p2 &&& (3 : Int32))), .unset, .unset, .unset, .unset, .unset, .unset, .unset, .unset] [(.int (p2 &&& (3 : Int32)))])) _
          refine XT.iconstV X76.here hx rfl (3 : Int32) (hb hby at_48) rfl ?_
          show Steps p.tables e below (T76.setTop (mkF m 49 #[.val (.int p1), .val (.int p2), .val (.int p3), .val (.int p4), .val (.int p5), .val (.ref b68), .val (.int (p1 &&& (3 : Int32))), .val (.int (p2 &&& (3 : Int32))), .unset, .unset, .unset, .unset, .unset, .unset, .unset, .unset] [(.int (3 : Int32)), (.int (p2 &&& (3 : Int32)))])) _
          refine XS.icmpYes X76.here hx rfl (pc0 := 49) (pc' := 56) rfl (hb hby at_49) rfl (XT.ii_ne_t h3) (by decide) (by decide) ?_
          show Steps p.tables e below (T76.setTop (mkF m 56 #[.val (.int p1), .val (.int p2), .val (.int p3), .val (.int p4), .val (.int p5), .val (.ref b68), .val (.int (p1 &&& (3 : Int32))), .val (.int (p2 &&& (3 : Int32))), .unset, .unset, .unset, .unset, .unset, .unset, .unset, .unset] [])) _
          refine XT.iconstV X76.here hx rfl (0 : Int32) (hb hby at_56) rfl ?_
          show Steps p.tables e below (T76.setTop (mkF m 57 #[.val (.int p1), .val (.int p2), .val (.int p3), .val (.int p4), .val (.int p5), .val (.ref b68), .val (.int (p1 &&& (3 : Int32))), .val (.int (p2 &&& (3 : Int32))), .unset, .unset, .unset, .unset, .unset, .unset, .unset, .unset] [(.int (0 : Int32))])) _
          refine XS.istore X76.here hx rfl (hb hby at_57) rfl (l' := #[.val (.int p1), .val (.int p2), .val (.int p3), .val (.int p4), .val (.int p5), .val (.ref b68), .val (.int (p1 &&& (3 : Int32))), .val (.int (p2 &&& (3 : Int32))), .val (.int (0 : Int32)), .unset, .unset, .unset, .unset, .unset, .unset, .unset]) rfl ?_
          show Steps p.tables e below (T76.setTop (mkF m 59 #[.val (.int p1), .val (.int p2), .val (.int p3), .val (.int p4), .val (.int p5), .val (.ref b68), .val (.int (p1 &&& (3 : Int32))), .val (.int (p2 &&& (3 : Int32))), .val (.int (0 : Int32)), .unset, .unset, .unset, .unset, .unset, .unset, .unset] [])) _
          refine XS.iload X76.here hx rfl (hb hby at_59) rfl ?_
          show Steps p.tables e below (T76.setTop (mkF m 61 #[.val (.int p1), .val (.int p2), .val (.int p3), .val (.int p4), .val (.int p5), .val (.ref b68), .val (.int (p1 &&& (3 : Int32))), .val (.int (p2 &&& (3 : Int32))), .val (.int (0 : Int32)), .unset, .unset, .unset, .unset, .unset, .unset, .unset] [(.int p5)])) _
          refine XT.iconstV X76.here hx rfl (1 : Int32) (hb hby at_61) rfl ?_
          show Steps p.tables e below (T76.setTop (mkF m 62 #[.val (.int p1), .val (.int p2), .val (.int p3), .val (.int p4), .val (.int p5), .val (.ref b68), .val (.int (p1 &&& (3 : Int32))), .val (.int (p2 &&& (3 : Int32))), .val (.int (0 : Int32)), .unset, .unset, .unset, .unset, .unset, .unset, .unset] [(.int (1 : Int32)), (.int p5)])) _
          refine XS.iand X76.here hx rfl (hb hby at_62) rfl ?_
          show Steps p.tables e below (T76.setTop (mkF m 63 #[.val (.int p1), .val (.int p2), .val (.int p3), .val (.int p4), .val (.int p5), .val (.ref b68), .val (.int (p1 &&& (3 : Int32))), .val (.int (p2 &&& (3 : Int32))), .val (.int (0 : Int32)), .unset, .unset, .unset, .unset, .unset, .unset, .unset] [(.int (p5 &&& (1 : Int32)))])) _
          rw [hm]
          show Steps p.tables e below (T76.setTop (mkF m 63 #[.val (.int p1), .val (.int p2), .val (.int p3), .val (.int p4), .val (.int p5), .val (.ref b68), .val (.int (p1 &&& (3 : Int32))), .val (.int (p2 &&& (3 : Int32))), .val (.int (0 : Int32)), .unset, .unset, .unset, .unset, .unset, .unset, .unset] [(.int (1 : Int32))])) _
          refine XS.ifNo X76.here hx rfl (hb hby at_63) rfl (by decide) ?_
          show Steps p.tables e below (T76.setTop (mkF m 66 #[.val (.int p1), .val (.int p2), .val (.int p3), .val (.int p4), .val (.int p5), .val (.ref b68), .val (.int (p1 &&& (3 : Int32))), .val (.int (p2 &&& (3 : Int32))), .val (.int (0 : Int32)), .unset, .unset, .unset, .unset, .unset, .unset, .unset] [])) _
          refine XS.iloadN X76.here hx rfl (hb hby at_66) rfl ?_
          show Steps p.tables e below (T76.setTop (mkF m 67 #[.val (.int p1), .val (.int p2), .val (.int p3), .val (.int p4), .val (.int p5), .val (.ref b68), .val (.int (p1 &&& (3 : Int32))), .val (.int (p2 &&& (3 : Int32))), .val (.int (0 : Int32)), .unset, .unset, .unset, .unset, .unset, .unset, .unset] [(.int p3)])) _
          refine XT.bipushV X76.here hx rfl (15 : Int32) (hb hby at_67) (by decide) ?_
          show Steps p.tables e below (T76.setTop (mkF m 69 #[.val (.int p1), .val (.int p2), .val (.int p3), .val (.int p4), .val (.int p5), .val (.ref b68), .val (.int (p1 &&& (3 : Int32))), .val (.int (p2 &&& (3 : Int32))), .val (.int (0 : Int32)), .unset, .unset, .unset, .unset, .unset, .unset, .unset] [(.int (15 : Int32)), (.int p3)])) _
          refine XS.iand X76.here hx rfl (hb hby at_69) rfl ?_
          show Steps p.tables e below (T76.setTop (mkF m 70 #[.val (.int p1), .val (.int p2), .val (.int p3), .val (.int p4), .val (.int p5), .val (.ref b68), .val (.int (p1 &&& (3 : Int32))), .val (.int (p2 &&& (3 : Int32))), .val (.int (0 : Int32)), .unset, .unset, .unset, .unset, .unset, .unset, .unset] [(.int (p3 &&& (15 : Int32)))])) _
          refine XT.iconstV X76.here hx rfl (1 : Int32) (hb hby at_70) rfl ?_
          show Steps p.tables e below (T76.setTop (mkF m 71 #[.val (.int p1), .val (.int p2), .val (.int p3), .val (.int p4), .val (.int p5), .val (.ref b68), .val (.int (p1 &&& (3 : Int32))), .val (.int (p2 &&& (3 : Int32))), .val (.int (0 : Int32)), .unset, .unset, .unset, .unset, .unset, .unset, .unset] [(.int (1 : Int32)), (.int (p3 &&& (15 : Int32)))])) _
          refine XS.iadd X76.here hx rfl (hb hby at_71) rfl ?_
          show Steps p.tables e below (T76.setTop (mkF m 72 #[.val (.int p1), .val (.int p2), .val (.int p3), .val (.int p4), .val (.int p5), .val (.ref b68), .val (.int (p1 &&& (3 : Int32))), .val (.int (p2 &&& (3 : Int32))), .val (.int (0 : Int32)), .unset, .unset, .unset, .unset, .unset, .unset, .unset] [(.int ((p3 &&& (15 : Int32)) + (1 : Int32)))])) _
          refine XS.istore X76.here hx rfl (hb hby at_72) rfl (l' := #[.val (.int p1), .val (.int p2), .val (.int p3), .val (.int p4), .val (.int p5), .val (.ref b68), .val (.int (p1 &&& (3 : Int32))), .val (.int (p2 &&& (3 : Int32))), .val (.int (0 : Int32)), .val (.int ((p3 &&& (15 : Int32)) + (1 : Int32))), .unset, .unset, .unset, .unset, .unset, .unset]) rfl ?_
          show Steps p.tables e below (T76.setTop (mkF m 74 #[.val (.int p1), .val (.int p2), .val (.int p3), .val (.int p4), .val (.int p5), .val (.ref b68), .val (.int (p1 &&& (3 : Int32))), .val (.int (p2 &&& (3 : Int32))), .val (.int (0 : Int32)), .val (.int ((p3 &&& (15 : Int32)) + (1 : Int32))), .unset, .unset, .unset, .unset, .unset, .unset] [])) _
          refine XS.iload X76.here hx rfl (hb hby at_74) rfl ?_
          show Steps p.tables e below (T76.setTop (mkF m 76 #[.val (.int p1), .val (.int p2), .val (.int p3), .val (.int p4), .val (.int p5), .val (.ref b68), .val (.int (p1 &&& (3 : Int32))), .val (.int (p2 &&& (3 : Int32))), .val (.int (0 : Int32)), .val (.int ((p3 &&& (15 : Int32)) + (1 : Int32))), .unset, .unset, .unset, .unset, .unset, .unset] [(.int ((p3 &&& (15 : Int32)) + (1 : Int32)))])) _
          refine XS.iloadN X76.here hx rfl (hb hby at_76) rfl ?_
          show Steps p.tables e below (T76.setTop (mkF m 77 #[.val (.int p1), .val (.int p2), .val (.int p3), .val (.int p4), .val (.int p5), .val (.ref b68), .val (.int (p1 &&& (3 : Int32))), .val (.int (p2 &&& (3 : Int32))), .val (.int (0 : Int32)), .val (.int ((p3 &&& (15 : Int32)) + (1 : Int32))), .unset, .unset, .unset, .unset, .unset, .unset] [(.int p4), (.int ((p3 &&& (15 : Int32)) + (1 : Int32)))])) _
          refine Jvm.Stand.ldcI X76 hx hown (mvT hZ (hw _ (List.mem_of_getElem? (i := 54) rfl))) rfl (hb hby at_77) ?_
          show Steps p.tables e below (T76.setTop (mkF m 79 #[.val (.int p1), .val (.int p2), .val (.int p3), .val (.int p4), .val (.int p5), .val (.ref b68), .val (.int (p1 &&& (3 : Int32))), .val (.int (p2 &&& (3 : Int32))), .val (.int (0 : Int32)), .val (.int ((p3 &&& (15 : Int32)) + (1 : Int32))), .unset, .unset, .unset, .unset, .unset, .unset] [(.int (65535 : Int32)), (.int p4), (.int ((p3 &&& (15 : Int32)) + (1 : Int32)))])) _
          refine XS.iand X76.here hx rfl (hb hby at_79) rfl ?_
          show Steps p.tables e below (T76.setTop (mkF m 80 #[.val (.int p1), .val (.int p2), .val (.int p3), .val (.int p4), .val (.int p5), .val (.ref b68), .val (.int (p1 &&& (3 : Int32))), .val (.int (p2 &&& (3 : Int32))), .val (.int (0 : Int32)), .val (.int ((p3 &&& (15 : Int32)) + (1 : Int32))), .unset, .unset, .unset, .unset, .unset, .unset] [(.int (p4 &&& (65535 : Int32))), (.int ((p3 &&& (15 : Int32)) + (1 : Int32)))])) _
          refine XT.iconstV X76.here hx rfl (1 : Int32) (hb hby at_80) rfl ?_
          show Steps p.tables e below (T76.setTop (mkF m 81 #[.val (.int p1), .val (.int p2), .val (.int p3), .val (.int p4), .val (.int p5), .val (.ref b68), .val (.int (p1 &&& (3 : Int32))), .val (.int (p2 &&& (3 : Int32))), .val (.int (0 : Int32)), .val (.int ((p3 &&& (15 : Int32)) + (1 : Int32))), .unset, .unset, .unset, .unset, .unset, .unset] [(.int (1 : Int32)), (.int (p4 &&& (65535 : Int32))), (.int ((p3 &&& (15 : Int32)) + (1 : Int32)))])) _
          refine XS.iadd X76.here hx rfl (hb hby at_81) rfl ?_
          show Steps p.tables e below (T76.setTop (mkF m 82 #[.val (.int p1), .val (.int p2), .val (.int p3), .val (.int p4), .val (.int p5), .val (.ref b68), .val (.int (p1 &&& (3 : Int32))), .val (.int (p2 &&& (3 : Int32))), .val (.int (0 : Int32)), .val (.int ((p3 &&& (15 : Int32)) + (1 : Int32))), .unset, .unset, .unset, .unset, .unset, .unset] [(.int ((p4 &&& (65535 : Int32)) + (1 : Int32))), (.int ((p3 &&& (15 : Int32)) + (1 : Int32)))])) _
          refine XS.imul X76.here hx rfl (hb hby at_82) rfl ?_
          show Steps p.tables e below (T76.setTop (mkF m 83 #[.val (.int p1), .val (.int p2), .val (.int p3), .val (.int p4), .val (.int p5), .val (.ref b68), .val (.int (p1 &&& (3 : Int32))), .val (.int (p2 &&& (3 : Int32))), .val (.int (0 : Int32)), .val (.int ((p3 &&& (15 : Int32)) + (1 : Int32))), .unset, .unset, .unset, .unset, .unset, .unset] [(.int (((p3 &&& (15 : Int32)) + (1 : Int32)) * ((p4 &&& (65535 : Int32)) + (1 : Int32))))])) _
          refine XS.istore X76.here hx rfl (hb hby at_83) rfl (l' := #[.val (.int p1), .val (.int p2), .val (.int p3), .val (.int p4), .val (.int p5), .val (.ref b68), .val (.int (p1 &&& (3 : Int32))), .val (.int (p2 &&& (3 : Int32))), .val (.int (0 : Int32)), .val (.int ((p3 &&& (15 : Int32)) + (1 : Int32))), .val (.int (((p3 &&& (15 : Int32)) + (1 : Int32)) * ((p4 &&& (65535 : Int32)) + (1 : Int32)))), .unset, .unset, .unset, .unset, .unset]) rfl ?_
          show Steps p.tables e below (T76.setTop (mkF m 85 #[.val (.int p1), .val (.int p2), .val (.int p3), .val (.int p4), .val (.int p5), .val (.ref b68), .val (.int (p1 &&& (3 : Int32))), .val (.int (p2 &&& (3 : Int32))), .val (.int (0 : Int32)), .val (.int ((p3 &&& (15 : Int32)) + (1 : Int32))), .val (.int (((p3 &&& (15 : Int32)) + (1 : Int32)) * ((p4 &&& (65535 : Int32)) + (1 : Int32)))), .unset, .unset, .unset, .unset, .unset] [])) _
          refine XS.goto X76.here hx rfl (pc0 := 85) (pc' := 120) rfl (hb hby at_85) (by decide) (by decide) ?_
          show Steps p.tables e below (T76.setTop (mkF m 120 #[.val (.int p1), .val (.int p2), .val (.int p3), .val (.int p4), .val (.int p5), .val (.ref b68), .val (.int (p1 &&& (3 : Int32))), .val (.int (p2 &&& (3 : Int32))), .val (.int (0 : Int32)), .val (.int ((p3 &&& (15 : Int32)) + (1 : Int32))), .val (.int (((p3 &&& (15 : Int32)) + (1 : Int32)) * ((p4 &&& (65535 : Int32)) + (1 : Int32)))), .unset, .unset, .unset, .unset, .unset] [])) _
          exact kk
    · rcases and_one p5 with hm | hm
      · obtain ⟨_, _, ⟨T81, L81, k81, n81⟩, -, X81, ⟨Lc81, hQ81, l81, y81, z81⟩, st81⟩ := Jvm.LawKit.callS X76 hx (y := (⟨"java/lang/Math", "max", "(II)I"⟩ : MethodName)) hown (mvT hZ (hw _ (List.mem_of_getElem? (i := 13) rfl))) (mvT hZ (hw _ (List.mem_of_getElem? (i := 14) rfl))) (mvT hZ (hw _ (List.mem_of_getElem? (i := 15) rfl))) (mvT hZ (hw _ (List.mem_of_getElem? (i := 16) rfl))) (by decide) (backOf (W := 0) (own_maxc l Z a0 hw [] (p3 &&& (2147483647 : Int32)) h76 n0 Z76) hZ (hw _ (List.mem_of_getElem? (i := 16) rfl)) (hw _ (List.mem_of_getElem? (i := 15) rfl)) (by decide) (by decide)) (g := (mkF m 93 #[.val (.int p1), .val (.int p2), .val (.int p3), .val (.int p4), .val (.int p5), .val (.ref b68), .val (.int (p1 &&& (3 : Int32))), .val (.int (p2 &&& (3 : Int32))), .val (.int (0 : Int32)), .unset, .unset, .unset, .unset, .unset, .unset, .unset] [(.int (p3 &&& (2147483647 : Int32))), (.int (1 : Int32))])) rfl (by rw [hml]; rfl) (argsL := [(.int (1 : Int32)), (.int (p3 &&& (2147483647 : Int32)))]) (rest := []) (lenOf pd__II_I rfl) rfl (by show 2 * 0 + _ ≤ _; exact Nat.le_of_eq rfl) (hb hby at_93) (fun _ _ => ⟨rfl, e76, (by decide : 1 + 0 ≤ _), (by decide : 4 + 0 ≤ _)⟩)
        dsimp only [Pt.U, Pt.locs, Pt.cells, Pt.slots] at X81 l81 y81 z81 st81 hQ81
        subst l81 y81 z81
        obtain ⟨rfl, N81q, e81⟩ := hQ81
        have N81 := Fr.app N76 N81q
        obtain ⟨_, _, ⟨T82, L82, k82, n82⟩, -, X82, ⟨Lc82, hQ82, l82, y82, z82⟩, st82⟩ := Jvm.LawKit.callS X81 hx (y := (⟨"java/lang/Math", "max", "(II)I"⟩ : MethodName)) hown (mvT hZ (hw _ (List.mem_of_getElem? (i := 13) rfl))) (mvT hZ (hw _ (List.mem_of_getElem? (i := 14) rfl))) (mvT hZ (hw _ (List.mem_of_getElem? (i := 15) rfl))) (mvT hZ (hw _ (List.mem_of_getElem? (i := 16) rfl))) (by decide) (backOf (W := 0) (own_maxc l Z a0 hw [] (p4 &&& (2147483647 : Int32)) h76 n0 Z76) hZ (hw _ (List.mem_of_getElem? (i := 16) rfl)) (hw _ (List.mem_of_getElem? (i := 15) rfl)) (by decide) (by decide)) (g := (mkF m 115 #[.val (.int p1), .val (.int p2), .val (.int p3), .val (.int p4), .val (.int p5), .val (.ref b68), .val (.int (p1 &&& (3 : Int32))), .val (.int (p2 &&& (3 : Int32))), .val (.int (0 : Int32)), .val (.int (own_max (p3 &&& (2147483647 : Int32)))), .unset, .unset, .unset, .unset, .unset, .unset] [(.int (p4 &&& (2147483647 : Int32))), (.int (1 : Int32))])) rfl (by rw [hml]; rfl) (argsL := [(.int (1 : Int32)), (.int (p4 &&& (2147483647 : Int32)))]) (rest := []) (lenOf pd__II_I rfl) rfl (by show 2 * 0 + _ ≤ _; exact Nat.le_of_eq rfl) (hb hby at_115) (fun _ _ => ⟨rfl, e81, (by decide : 1 + 0 ≤ _), (by decide : 4 + 0 ≤ _)⟩)
        dsimp only [Pt.U, Pt.locs, Pt.cells, Pt.slots] at X82 l82 y82 z82 st82 hQ82
        subst l82 y82 z82
        obtain ⟨rfl, N82q, e82⟩ := hQ82
        have N82 := Fr.app N81 N82q
        refine ⟨T82, _, (0 : Int32), (own_max (p3 &&& (2147483647 : Int32))), (own_max (p4 &&& (2147483647 : Int32))), X82, e82, N82, (own_mode0 p3 p4).1, (own_mode0 p3 p4).2, Or.inr ⟨rfl, fun q => h2 q.1⟩, ?_⟩
        intro t kk
        show Steps p.tables e below (T76.setTop (mkF m 40 #[.val (.int p1), .val (.int p2), .val (.int p3), .val (.int p4), .val (.int p5), .val (.ref b68), .val (.int (p1 &&& (3 : Int32))), .val (.int (p2 &&& (3 : Int32))), .unset, .unset, .unset, .unset, .unset, .unset, .unset, .unset] [])) _
        refine XS.iload X76.here hx rfl (hb hby at_40) rfl ?_
        show Steps p.tables e below (T76.setTop (mkF m 42 #[.val (.int p1), .val (.int p2), .val (.int p3), .val (.int p4), .val (.int p5), .val (.ref b68), .val (.int (p1 &&& (3 : Int32))), .val (.int (p2 &&& (3 : Int32))), .unset, .unset, .unset, .unset, .unset, .unset, .unset, .unset] [(.int (p1 &&& (3 : Int32)))])) _
        refine XT.iconstV X76.here hx rfl (2 : Int32) (hb hby at_42) rfl ?_
        show Steps p.tables e below (T76.setTop (mkF m 43 #[.val (.int p1), .val (.int p2), .val (.int p3), .val (.int p4), .val (.int p5), .val (.ref b68), .val (.int (p1 &&& (3 : Int32))), .val (.int (p2 &&& (3 : Int32))), .unset, .unset, .unset, .unset, .unset, .unset, .unset, .unset] [(.int (2 : Int32)), (.int (p1 &&& (3 : Int32)))])) _
        refine XS.icmpYes X76.here hx rfl (pc0 := 43) (pc' := 56) rfl (hb hby at_43) rfl (XT.ii_ne_t h2) (by decide) (by decide) ?_
        show Steps p.tables e below (T76.setTop (mkF m 56 #[.val (.int p1), .val (.int p2), .val (.int p3), .val (.int p4), .val (.int p5), .val (.ref b68), .val (.int (p1 &&& (3 : Int32))), .val (.int (p2 &&& (3 : Int32))), .unset, .unset, .unset, .unset, .unset, .unset, .unset, .unset] [])) _
        refine XT.iconstV X76.here hx rfl (0 : Int32) (hb hby at_56) rfl ?_
        show Steps p.tables e below (T76.setTop (mkF m 57 #[.val (.int p1), .val (.int p2), .val (.int p3), .val (.int p4), .val (.int p5), .val (.ref b68), .val (.int (p1 &&& (3 : Int32))), .val (.int (p2 &&& (3 : Int32))), .unset, .unset, .unset, .unset, .unset, .unset, .unset, .unset] [(.int (0 : Int32))])) _
        refine XS.istore X76.here hx rfl (hb hby at_57) rfl (l' := #[.val (.int p1), .val (.int p2), .val (.int p3), .val (.int p4), .val (.int p5), .val (.ref b68), .val (.int (p1 &&& (3 : Int32))), .val (.int (p2 &&& (3 : Int32))), .val (.int (0 : Int32)), .unset, .unset, .unset, .unset, .unset, .unset, .unset]) rfl ?_
        show Steps p.tables e below (T76.setTop (mkF m 59 #[.val (.int p1), .val (.int p2), .val (.int p3), .val (.int p4), .val (.int p5), .val (.ref b68), .val (.int (p1 &&& (3 : Int32))), .val (.int (p2 &&& (3 : Int32))), .val (.int (0 : Int32)), .unset, .unset, .unset, .unset, .unset, .unset, .unset] [])) _
        refine XS.iload X76.here hx rfl (hb hby at_59) rfl ?_
        show Steps p.tables e below (T76.setTop (mkF m 61 #[.val (.int p1), .val (.int p2), .val (.int p3), .val (.int p4), .val (.int p5), .val (.ref b68), .val (.int (p1 &&& (3 : Int32))), .val (.int (p2 &&& (3 : Int32))), .val (.int (0 : Int32)), .unset, .unset, .unset, .unset, .unset, .unset, .unset] [(.int p5)])) _
        refine XT.iconstV X76.here hx rfl (1 : Int32) (hb hby at_61) rfl ?_
        show Steps p.tables e below (T76.setTop (mkF m 62 #[.val (.int p1), .val (.int p2), .val (.int p3), .val (.int p4), .val (.int p5), .val (.ref b68), .val (.int (p1 &&& (3 : Int32))), .val (.int (p2 &&& (3 : Int32))), .val (.int (0 : Int32)), .unset, .unset, .unset, .unset, .unset, .unset, .unset] [(.int (1 : Int32)), (.int p5)])) _
        refine XS.iand X76.here hx rfl (hb hby at_62) rfl ?_
        show Steps p.tables e below (T76.setTop (mkF m 63 #[.val (.int p1), .val (.int p2), .val (.int p3), .val (.int p4), .val (.int p5), .val (.ref b68), .val (.int (p1 &&& (3 : Int32))), .val (.int (p2 &&& (3 : Int32))), .val (.int (0 : Int32)), .unset, .unset, .unset, .unset, .unset, .unset, .unset] [(.int (p5 &&& (1 : Int32)))])) _
        rw [hm]
        show Steps p.tables e below (T76.setTop (mkF m 63 #[.val (.int p1), .val (.int p2), .val (.int p3), .val (.int p4), .val (.int p5), .val (.ref b68), .val (.int (p1 &&& (3 : Int32))), .val (.int (p2 &&& (3 : Int32))), .val (.int (0 : Int32)), .unset, .unset, .unset, .unset, .unset, .unset, .unset] [(.int (0 : Int32))])) _
        refine XS.ifYes X76.here hx rfl (pc0 := 63) (pc' := 88) rfl (hb hby at_63) rfl (by decide) (by decide) (by decide) ?_
        show Steps p.tables e below (T76.setTop (mkF m 88 #[.val (.int p1), .val (.int p2), .val (.int p3), .val (.int p4), .val (.int p5), .val (.ref b68), .val (.int (p1 &&& (3 : Int32))), .val (.int (p2 &&& (3 : Int32))), .val (.int (0 : Int32)), .unset, .unset, .unset, .unset, .unset, .unset, .unset] [])) _
        refine XT.iconstV X76.here hx rfl (1 : Int32) (hb hby at_88) rfl ?_
        show Steps p.tables e below (T76.setTop (mkF m 89 #[.val (.int p1), .val (.int p2), .val (.int p3), .val (.int p4), .val (.int p5), .val (.ref b68), .val (.int (p1 &&& (3 : Int32))), .val (.int (p2 &&& (3 : Int32))), .val (.int (0 : Int32)), .unset, .unset, .unset, .unset, .unset, .unset, .unset] [(.int (1 : Int32))])) _
        refine XS.iloadN X76.here hx rfl (hb hby at_89) rfl ?_
        show Steps p.tables e below (T76.setTop (mkF m 90 #[.val (.int p1), .val (.int p2), .val (.int p3), .val (.int p4), .val (.int p5), .val (.ref b68), .val (.int (p1 &&& (3 : Int32))), .val (.int (p2 &&& (3 : Int32))), .val (.int (0 : Int32)), .unset, .unset, .unset, .unset, .unset, .unset, .unset] [(.int p3), (.int (1 : Int32))])) _
        refine Jvm.Stand.ldcI X76 hx hown (mvT hZ (hw _ (List.mem_of_getElem? (i := 12) rfl))) rfl (hb hby at_90) ?_
        show Steps p.tables e below (T76.setTop (mkF m 92 #[.val (.int p1), .val (.int p2), .val (.int p3), .val (.int p4), .val (.int p5), .val (.ref b68), .val (.int (p1 &&& (3 : Int32))), .val (.int (p2 &&& (3 : Int32))), .val (.int (0 : Int32)), .unset, .unset, .unset, .unset, .unset, .unset, .unset] [(.int (2147483647 : Int32)), (.int p3), (.int (1 : Int32))])) _
        refine XS.iand X76.here hx rfl (hb hby at_92) rfl ?_
        show Steps p.tables e below (T76.setTop (mkF m 93 #[.val (.int p1), .val (.int p2), .val (.int p3), .val (.int p4), .val (.int p5), .val (.ref b68), .val (.int (p1 &&& (3 : Int32))), .val (.int (p2 &&& (3 : Int32))), .val (.int (0 : Int32)), .unset, .unset, .unset, .unset, .unset, .unset, .unset] [(.int (p3 &&& (2147483647 : Int32))), (.int (1 : Int32))])) _
        refine st81 _ ?_
        show Steps p.tables e below (T81.setTop (mkF m 96 #[.val (.int p1), .val (.int p2), .val (.int p3), .val (.int p4), .val (.int p5), .val (.ref b68), .val (.int (p1 &&& (3 : Int32))), .val (.int (p2 &&& (3 : Int32))), .val (.int (0 : Int32)), .unset, .unset, .unset, .unset, .unset, .unset, .unset] [(.int (own_max (p3 &&& (2147483647 : Int32))))])) _
        refine XS.istore X81.here hx rfl (hb hby at_96) rfl (l' := #[.val (.int p1), .val (.int p2), .val (.int p3), .val (.int p4), .val (.int p5), .val (.ref b68), .val (.int (p1 &&& (3 : Int32))), .val (.int (p2 &&& (3 : Int32))), .val (.int (0 : Int32)), .val (.int (own_max (p3 &&& (2147483647 : Int32)))), .unset, .unset, .unset, .unset, .unset, .unset]) rfl ?_
        show Steps p.tables e below (T81.setTop (mkF m 98 #[.val (.int p1), .val (.int p2), .val (.int p3), .val (.int p4), .val (.int p5), .val (.ref b68), .val (.int (p1 &&& (3 : Int32))), .val (.int (p2 &&& (3 : Int32))), .val (.int (0 : Int32)), .val (.int (own_max (p3 &&& (2147483647 : Int32)))), .unset, .unset, .unset, .unset, .unset, .unset] [])) _
        refine XT.iconstV X81.here hx rfl (1 : Int32) (hb hby at_98) rfl ?_
        show Steps p.tables e below (T81.setTop (mkF m 99 #[.val (.int p1), .val (.int p2), .val (.int p3), .val (.int p4), .val (.int p5), .val (.ref b68), .val (.int (p1 &&& (3 : Int32))), .val (.int (p2 &&& (3 : Int32))), .val (.int (0 : Int32)), .val (.int (own_max (p3 &&& (2147483647 : Int32)))), .unset, .unset, .unset, .unset, .unset, .unset] [(.int (1 : Int32))])) _
        refine XS.iload X81.here hx rfl (hb hby at_99) rfl ?_
        show Steps p.tables e below (T81.setTop (mkF m 101 #[.val (.int p1), .val (.int p2), .val (.int p3), .val (.int p4), .val (.int p5), .val (.ref b68), .val (.int (p1 &&& (3 : Int32))), .val (.int (p2 &&& (3 : Int32))), .val (.int (0 : Int32)), .val (.int (own_max (p3 &&& (2147483647 : Int32)))), .unset, .unset, .unset, .unset, .unset, .unset] [(.int (0 : Int32)), (.int (1 : Int32))])) _
        refine XS.ifYes X81.here hx rfl (pc0 := 101) (pc' := 111) rfl (hb hby at_101) rfl (by decide) (by decide) (by decide) ?_
        show Steps p.tables e below (T81.setTop (mkF m 111 #[.val (.int p1), .val (.int p2), .val (.int p3), .val (.int p4), .val (.int p5), .val (.ref b68), .val (.int (p1 &&& (3 : Int32))), .val (.int (p2 &&& (3 : Int32))), .val (.int (0 : Int32)), .val (.int (own_max (p3 &&& (2147483647 : Int32)))), .unset, .unset, .unset, .unset, .unset, .unset] [(.int (1 : Int32))])) _
        refine XS.iloadN X81.here hx rfl (hb hby at_111) rfl ?_
        show Steps p.tables e below (T81.setTop (mkF m 112 #[.val (.int p1), .val (.int p2), .val (.int p3), .val (.int p4), .val (.int p5), .val (.ref b68), .val (.int (p1 &&& (3 : Int32))), .val (.int (p2 &&& (3 : Int32))), .val (.int (0 : Int32)), .val (.int (own_max (p3 &&& (2147483647 : Int32)))), .unset, .unset, .unset, .unset, .unset, .unset] [(.int p4), (.int (1 : Int32))])) _
        refine Jvm.Stand.ldcI X81 hx hown (mvT hZ (hw _ (List.mem_of_getElem? (i := 12) rfl))) rfl (hb hby at_112) ?_
        show Steps p.tables e below (T81.setTop (mkF m 114 #[.val (.int p1), .val (.int p2), .val (.int p3), .val (.int p4), .val (.int p5), .val (.ref b68), .val (.int (p1 &&& (3 : Int32))), .val (.int (p2 &&& (3 : Int32))), .val (.int (0 : Int32)), .val (.int (own_max (p3 &&& (2147483647 : Int32)))), .unset, .unset, .unset, .unset, .unset, .unset] [(.int (2147483647 : Int32)), (.int p4), (.int (1 : Int32))])) _
        refine XS.iand X81.here hx rfl (hb hby at_114) rfl ?_
        show Steps p.tables e below (T81.setTop (mkF m 115 #[.val (.int p1), .val (.int p2), .val (.int p3), .val (.int p4), .val (.int p5), .val (.ref b68), .val (.int (p1 &&& (3 : Int32))), .val (.int (p2 &&& (3 : Int32))), .val (.int (0 : Int32)), .val (.int (own_max (p3 &&& (2147483647 : Int32)))), .unset, .unset, .unset, .unset, .unset, .unset] [(.int (p4 &&& (2147483647 : Int32))), (.int (1 : Int32))])) _
        refine st82 _ ?_
        show Steps p.tables e below (T82.setTop (mkF m 118 #[.val (.int p1), .val (.int p2), .val (.int p3), .val (.int p4), .val (.int p5), .val (.ref b68), .val (.int (p1 &&& (3 : Int32))), .val (.int (p2 &&& (3 : Int32))), .val (.int (0 : Int32)), .val (.int (own_max (p3 &&& (2147483647 : Int32)))), .unset, .unset, .unset, .unset, .unset, .unset] [(.int (own_max (p4 &&& (2147483647 : Int32))))])) _
        refine XS.istore X82.here hx rfl (hb hby at_118) rfl (l' := #[.val (.int p1), .val (.int p2), .val (.int p3), .val (.int p4), .val (.int p5), .val (.ref b68), .val (.int (p1 &&& (3 : Int32))), .val (.int (p2 &&& (3 : Int32))), .val (.int (0 : Int32)), .val (.int (own_max (p3 &&& (2147483647 : Int32)))), .val (.int (own_max (p4 &&& (2147483647 : Int32)))), .unset, .unset, .unset, .unset, .unset]) rfl ?_
        show Steps p.tables e below (T82.setTop (mkF m 120 #[.val (.int p1), .val (.int p2), .val (.int p3), .val (.int p4), .val (.int p5), .val (.ref b68), .val (.int (p1 &&& (3 : Int32))), .val (.int (p2 &&& (3 : Int32))), .val (.int (0 : Int32)), .val (.int (own_max (p3 &&& (2147483647 : Int32)))), .val (.int (own_max (p4 &&& (2147483647 : Int32)))), .unset, .unset, .unset, .unset, .unset] [])) _
        exact kk
      · refine ⟨T76, _, (0 : Int32), ((p3 &&& (15 : Int32)) + (1 : Int32)), (((p3 &&& (15 : Int32)) + (1 : Int32)) * ((p4 &&& (65535 : Int32)) + (1 : Int32))), X76, e76, N76, (own_mode1 p3 p4).1, (own_mode1 p3 p4).2, Or.inr ⟨rfl, fun q => h2 q.1⟩, ?_⟩
        intro t kk
        show Steps p.tables e below (T76.setTop (mkF m 40 #[.val (.int p1), .val (.int p2), .val (.int p3), .val (.int p4), .val (.int p5), .val (.ref b68), .val (.int (p1 &&& (3 : Int32))), .val (.int (p2 &&& (3 : Int32))), .unset, .unset, .unset, .unset, .unset, .unset, .unset, .unset] [])) _
        refine XS.iload X76.here hx rfl (hb hby at_40) rfl ?_
        show Steps p.tables e below (T76.setTop (mkF m 42 #[.val (.int p1), .val (.int p2), .val (.int p3), .val (.int p4), .val (.int p5), .val (.ref b68), .val (.int (p1 &&& (3 : Int32))), .val (.int (p2 &&& (3 : Int32))), .unset, .unset, .unset, .unset, .unset, .unset, .unset, .unset] [(.int (p1 &&& (3 : Int32)))])) _
        refine XT.iconstV X76.here hx rfl (2 : Int32) (hb hby at_42) rfl ?_
        show Steps p.tables e below (T76.setTop (mkF m 43 #[.val (.int p1), .val (.int p2), .val (.int p3), .val (.int p4), .val (.int p5), .val (.ref b68), .val (.int (p1 &&& (3 : Int32))), .val (.int (p2 &&& (3 : Int32))), .unset, .unset, .unset, .unset, .unset, .unset, .unset, .unset] [(.int (2 : Int32)), (.int (p1 &&& (3 : Int32)))])) _
        refine XS.icmpYes X76.here hx rfl (pc0 := 43) (pc' := 56) rfl (hb hby at_43) rfl (XT.ii_ne_t h2) (by decide) (by decide) ?_
        show Steps p.tables e below (T76.setTop (mkF m 56 #[.val (.int p1), .val (.int p2), .val (.int p3), .val (.int p4), .val (.int p5), .val (.ref b68), .val (.int (p1 &&& (3 : Int32))), .val (.int (p2 &&& (3 : Int32))), .unset, .unset, .unset, .unset, .unset, .unset, .unset, .unset] [])) _
        refine XT.iconstV X76.here hx rfl (0 : Int32) (hb hby at_56) rfl ?_
        show Steps p.tables e below (T76.setTop (mkF m 57 #[.val (.int p1), .val (.int p2), .val (.int p3), .val (.int p4), .val (.int p5), .val (.ref b68), .val (.int (p1 &&& (3 : Int32))), .val (.int (p2 &&& (3 : Int32))), .unset, .unset, .unset, .unset, .unset, .unset, .unset, .unset] [(.int (0 : Int32))])) _
        refine XS.istore X76.here hx rfl (hb hby at_57) rfl (l' := #[.val (.int p1), .val (.int p2), .val (.int p3), .val (.int p4), .val (.int p5), .val (.ref b68), .val (.int (p1 &&& (3 : Int32))), .val (.int (p2 &&& (3 : Int32))), .val (.int (0 : Int32)), .unset, .unset, .unset, .unset, .unset, .unset, .unset]) rfl ?_
        show Steps p.tables e below (T76.setTop (mkF m 59 #[.val (.int p1), .val (.int p2), .val (.int p3), .val (.int p4), .val (.int p5), .val (.ref b68), .val (.int (p1 &&& (3 : Int32))), .val (.int (p2 &&& (3 : Int32))), .val (.int (0 : Int32)), .unset, .unset, .unset, .unset, .unset, .unset, .unset] [])) _
        refine XS.iload X76.here hx rfl (hb hby at_59) rfl ?_
        show Steps p.tables e below (T76.setTop (mkF m 61 #[.val (.int p1), .val (.int p2), .val (.int p3), .val (.int p4), .val (.int p5), .val (.ref b68), .val (.int (p1 &&& (3 : Int32))), .val (.int (p2 &&& (3 : Int32))), .val (.int (0 : Int32)), .unset, .unset, .unset, .unset, .unset, .unset, .unset] [(.int p5)])) _
        refine XT.iconstV X76.here hx rfl (1 : Int32) (hb hby at_61) rfl ?_
        show Steps p.tables e below (T76.setTop (mkF m 62 #[.val (.int p1), .val (.int p2), .val (.int p3), .val (.int p4), .val (.int p5), .val (.ref b68), .val (.int (p1 &&& (3 : Int32))), .val (.int (p2 &&& (3 : Int32))), .val (.int (0 : Int32)), .unset, .unset, .unset, .unset, .unset, .unset, .unset] [(.int (1 : Int32)), (.int p5)])) _
        refine XS.iand X76.here hx rfl (hb hby at_62) rfl ?_
        show Steps p.tables e below (T76.setTop (mkF m 63 #[.val (.int p1), .val (.int p2), .val (.int p3), .val (.int p4), .val (.int p5), .val (.ref b68), .val (.int (p1 &&& (3 : Int32))), .val (.int (p2 &&& (3 : Int32))), .val (.int (0 : Int32)), .unset, .unset, .unset, .unset, .unset, .unset, .unset] [(.int (p5 &&& (1 : Int32)))])) _
        rw [hm]
        show Steps p.tables e below (T76.setTop (mkF m 63 #[.val (.int p1), .val (.int p2), .val (.int p3), .val (.int p4), .val (.int p5), .val (.ref b68), .val (.int (p1 &&& (3 : Int32))), .val (.int (p2 &&& (3 : Int32))), .val (.int (0 : Int32)), .unset, .unset, .unset, .unset, .unset, .unset, .unset] [(.int (1 : Int32))])) _
        refine XS.ifNo X76.here hx rfl (hb hby at_63) rfl (by decide) ?_
        show Steps p.tables e below (T76.setTop (mkF m 66 #[.val (.int p1), .val (.int p2), .val (.int p3), .val (.int p4), .val (.int p5), .val (.ref b68), .val (.int (p1 &&& (3 : Int32))), .val (.int (p2 &&& (3 : Int32))), .val (.int (0 : Int32)), .unset, .unset, .unset, .unset, .unset, .unset, .unset] [])) _
        refine XS.iloadN X76.here hx rfl (hb hby at_66) rfl ?_
        show Steps p.tables e below (T76.setTop (mkF m 67 #[.val (.int p1), .val (.int p2), .val (.int p3), .val (.int p4), .val (.int p5), .val (.ref b68), .val (.int (p1 &&& (3 : Int32))), .val (.int (p2 &&& (3 : Int32))), .val (.int (0 : Int32)), .unset, .unset, .unset, .unset, .unset, .unset, .unset] [(.int p3)])) _
        refine XT.bipushV X76.here hx rfl (15 : Int32) (hb hby at_67) (by decide) ?_
        show Steps p.tables e below (T76.setTop (mkF m 69 #[.val (.int p1), .val (.int p2), .val (.int p3), .val (.int p4), .val (.int p5), .val (.ref b68), .val (.int (p1 &&& (3 : Int32))), .val (.int (p2 &&& (3 : Int32))), .val (.int (0 : Int32)), .unset, .unset, .unset, .unset, .unset, .unset, .unset] [(.int (15 : Int32)), (.int p3)])) _
        refine XS.iand X76.here hx rfl (hb hby at_69) rfl ?_
        show Steps p.tables e below (T76.setTop (mkF m 70 #[.val (.int p1), .val (.int p2), .val (.int p3), .val (.int p4), .val (.int p5), .val (.ref b68), .val (.int (p1 &&& (3 : Int32))), .val (.int (p2 &&& (3 : Int32))), .val (.int (0 : Int32)), .unset, .unset, .unset, .unset, .unset, .unset, .unset] [(.int (p3 &&& (15 : Int32)))])) _
        refine XT.iconstV X76.here hx rfl (1 : Int32) (hb hby at_70) rfl ?_
        show Steps p.tables e below (T76.setTop (mkF m 71 #[.val (.int p1), .val (.int p2), .val (.int p3), .val (.int p4), .val (.int p5), .val (.ref b68), .val (.int (p1 &&& (3 : Int32))), .val (.int (p2 &&& (3 : Int32))), .val (.int (0 : Int32)), .unset, .unset, .unset, .unset, .unset, .unset, .unset] [(.int (1 : Int32)), (.int (p3 &&& (15 : Int32)))])) _
        refine XS.iadd X76.here hx rfl (hb hby at_71) rfl ?_
        show Steps p.tables e below (T76.setTop (mkF m 72 #[.val (.int p1), .val (.int p2), .val (.int p3), .val (.int p4), .val (.int p5), .val (.ref b68), .val (.int (p1 &&& (3 : Int32))), .val (.int (p2 &&& (3 : Int32))), .val (.int (0 : Int32)), .unset, .unset, .unset, .unset, .unset, .unset, .unset] [(.int ((p3 &&& (15 : Int32)) + (1 : Int32)))])) _
        refine XS.istore X76.here hx rfl (hb hby at_72) rfl (l' := #[.val (.int p1), .val (.int p2), .val (.int p3), .val (.int p4), .val (.int p5), .val (.ref b68), .val (.int (p1 &&& (3 : Int32))), .val (.int (p2 &&& (3 : Int32))), .val (.int (0 : Int32)), .val (.int ((p3 &&& (15 : Int32)) + (1 : Int32))), .unset, .unset, .unset, .unset, .unset, .unset]) rfl ?_
        show Steps p.tables e below (T76.setTop (mkF m 74 #[.val (.int p1), .val (.int p2), .val (.int p3), .val (.int p4), .val (.int p5), .val (.ref b68), .val (.int (p1 &&& (3 : Int32))), .val (.int (p2 &&& (3 : Int32))), .val (.int (0 : Int32)), .val (.int ((p3 &&& (15 : Int32)) + (1 : Int32))), .unset, .unset, .unset, .unset, .unset, .unset] [])) _
        refine XS.iload X76.here hx rfl (hb hby at_74) rfl ?_
        show Steps p.tables e below (T76.setTop (mkF m 76 #[.val (.int p1), .val (.int p2), .val (.int p3), .val (.int p4), .val (.int p5), .val (.ref b68), .val (.int (p1 &&& (3 : Int32))), .val (.int (p2 &&& (3 : Int32))), .val (.int (0 : Int32)), .val (.int ((p3 &&& (15 : Int32)) + (1 : Int32))), .unset, .unset, .unset, .unset, .unset, .unset] [(.int ((p3 &&& (15 : Int32)) + (1 : Int32)))])) _
        refine XS.iloadN X76.here hx rfl (hb hby at_76) rfl ?_
        show Steps p.tables e below (T76.setTop (mkF m 77 #[.val (.int p1), .val (.int p2), .val (.int p3), .val (.int p4), .val (.int p5), .val (.ref b68), .val (.int (p1 &&& (3 : Int32))), .val (.int (p2 &&& (3 : Int32))), .val (.int (0 : Int32)), .val (.int ((p3 &&& (15 : Int32)) + (1 : Int32))), .unset, .unset, .unset, .unset, .unset, .unset] [(.int p4), (.int ((p3 &&& (15 : Int32)) + (1 : Int32)))])) _
        refine Jvm.Stand.ldcI X76 hx hown (mvT hZ (hw _ (List.mem_of_getElem? (i := 54) rfl))) rfl (hb hby at_77) ?_
        show Steps p.tables e below (T76.setTop (mkF m 79 #[.val (.int p1), .val (.int p2), .val (.int p3), .val (.int p4), .val (.int p5), .val (.ref b68), .val (.int (p1 &&& (3 : Int32))), .val (.int (p2 &&& (3 : Int32))), .val (.int (0 : Int32)), .val (.int ((p3 &&& (15 : Int32)) + (1 : Int32))), .unset, .unset, .unset, .unset, .unset, .unset] [(.int (65535 : Int32)), (.int p4), (.int ((p3 &&& (15 : Int32)) + (1 : Int32)))])) _
        refine XS.iand X76.here hx rfl (hb hby at_79) rfl ?_
        show Steps p.tables e below (T76.setTop (mkF m 80 #[.val (.int p1), .val (.int p2), .val (.int p3), .val (.int p4), .val (.int p5), .val (.ref b68), .val (.int (p1 &&& (3 : Int32))), .val (.int (p2 &&& (3 : Int32))), .val (.int (0 : Int32)), .val (.int ((p3 &&& (15 : Int32)) + (1 : Int32))), .unset, .unset, .unset, .unset, .unset, .unset] [(.int (p4 &&& (65535 : Int32))), (.int ((p3 &&& (15 : Int32)) + (1 : Int32)))])) _
        refine XT.iconstV X76.here hx rfl (1 : Int32) (hb hby at_80) rfl ?_
        show Steps p.tables e below (T76.setTop (mkF m 81 #[.val (.int p1), .val (.int p2), .val (.int p3), .val (.int p4), .val (.int p5), .val (.ref b68), .val (.int (p1 &&& (3 : Int32))), .val (.int (p2 &&& (3 : Int32))), .val (.int (0 : Int32)), .val (.int ((p3 &&& (15 : Int32)) + (1 : Int32))), .unset, .unset, .unset, .unset, .unset, .unset] [(.int (1 : Int32)), (.int (p4 &&& (65535 : Int32))), (.int ((p3 &&& (15 : Int32)) + (1 : Int32)))])) _
        refine XS.iadd X76.here hx rfl (hb hby at_81) rfl ?_
        show Steps p.tables e below (T76.setTop (mkF m 82 #[.val (.int p1), .val (.int p2), .val (.int p3), .val (.int p4), .val (.int p5), .val (.ref b68), .val (.int (p1 &&& (3 : Int32))), .val (.int (p2 &&& (3 : Int32))), .val (.int (0 : Int32)), .val (.int ((p3 &&& (15 : Int32)) + (1 : Int32))), .unset, .unset, .unset, .unset, .unset, .unset] [(.int ((p4 &&& (65535 : Int32)) + (1 : Int32))), (.int ((p3 &&& (15 : Int32)) + (1 : Int32)))])) _
        refine XS.imul X76.here hx rfl (hb hby at_82) rfl ?_
        show Steps p.tables e below (T76.setTop (mkF m 83 #[.val (.int p1), .val (.int p2), .val (.int p3), .val (.int p4), .val (.int p5), .val (.ref b68), .val (.int (p1 &&& (3 : Int32))), .val (.int (p2 &&& (3 : Int32))), .val (.int (0 : Int32)), .val (.int ((p3 &&& (15 : Int32)) + (1 : Int32))), .unset, .unset, .unset, .unset, .unset, .unset] [(.int (((p3 &&& (15 : Int32)) + (1 : Int32)) * ((p4 &&& (65535 : Int32)) + (1 : Int32))))])) _
        refine XS.istore X76.here hx rfl (hb hby at_83) rfl (l' := #[.val (.int p1), .val (.int p2), .val (.int p3), .val (.int p4), .val (.int p5), .val (.ref b68), .val (.int (p1 &&& (3 : Int32))), .val (.int (p2 &&& (3 : Int32))), .val (.int (0 : Int32)), .val (.int ((p3 &&& (15 : Int32)) + (1 : Int32))), .val (.int (((p3 &&& (15 : Int32)) + (1 : Int32)) * ((p4 &&& (65535 : Int32)) + (1 : Int32)))), .unset, .unset, .unset, .unset, .unset]) rfl ?_
        show Steps p.tables e below (T76.setTop (mkF m 85 #[.val (.int p1), .val (.int p2), .val (.int p3), .val (.int p4), .val (.int p5), .val (.ref b68), .val (.int (p1 &&& (3 : Int32))), .val (.int (p2 &&& (3 : Int32))), .val (.int (0 : Int32)), .val (.int ((p3 &&& (15 : Int32)) + (1 : Int32))), .val (.int (((p3 &&& (15 : Int32)) + (1 : Int32)) * ((p4 &&& (65535 : Int32)) + (1 : Int32)))), .unset, .unset, .unset, .unset, .unset] [])) _
        refine XS.goto X76.here hx rfl (pc0 := 85) (pc' := 120) rfl (hb hby at_85) (by decide) (by decide) ?_
        show Steps p.tables e below (T76.setTop (mkF m 120 #[.val (.int p1), .val (.int p2), .val (.int p3), .val (.int p4), .val (.int p5), .val (.ref b68), .val (.int (p1 &&& (3 : Int32))), .val (.int (p2 &&& (3 : Int32))), .val (.int (0 : Int32)), .val (.int ((p3 &&& (15 : Int32)) + (1 : Int32))), .val (.int (((p3 &&& (15 : Int32)) + (1 : Int32)) * ((p4 &&& (65535 : Int32)) + (1 : Int32)))), .unset, .unset, .unset, .unset, .unset] [])) _
        exact kk
  obtain ⟨U, locsU, cr, pv, wv, Y, eU, NU, fpv, fwv, hcr, thru⟩ := thru0
  have hz : pv ≠ 0 := own_nz fpv
  have hz64 : pv.toInt64 ≠ 0 := own_nz64 fpv
  rcases hcr with ⟨rfl, c2, c3, fw2⟩ | ⟨rfl, hnc⟩
  · have hux : u1 = w2 := hu1.trans (by rw [c2]; exact own_u2 ..)
    have huy : u2 = w3 := hu2.trans (by rw [c3]; exact own_u3 ..)
    have hkk : ¬ (p1 &&& (3 : Int32)) = (p2 &&& (3 : Int32)) := fun q => by rw [c2, c3] at q; exact absurd q (by decide)
    obtain ⟨T83, h83, X83, e83, E83, A83, D83, -, st83⟩ := newO Y hx hZ hown (hw _ (List.mem_of_getElem? (i := 17) rfl)) (hw _ (List.mem_of_getElem? (i := 18) rfl)) (hw _ (List.mem_of_getElem? (i := 19) rfl)) eU (g := (mkF m 120 #[.val (.int p1), .val (.int p2), .val (.int p3), .val (.int p4), .val (.int p5), .val (.ref b68), .val (.int (p1 &&& (3 : Int32))), .val (.int (p2 &&& (3 : Int32))), .val (.int (1 : Int32)), .val (.int pv), .val (.int wv), .unset, .unset, .unset, .unset, .unset] [])) rfl (hb hby at_120) (by decide) (by decide)
    obtain ⟨b83, g83⟩ : ∃ z, z = h76.size := ⟨_, rfl⟩
    rw [← g83] at A83 D83 st83
    have q83 : h0.size ≤ b83 := by rw [g83]; exact EX76.1
    have ne_b68_b83 : b68 ≠ b83 := by rw [g83]; exact Nat.ne_of_lt V76.lt
    have V76_84 := V76.ext E83
    have EX83 : Ext h0 h83 := own_ext_trans EX76 E83
    have Z83 : n0 ≤ h83.size := Nat.le_trans Z0 EX83.1
    have Funit_85 : Fld Z h83 b83 "com/example/chitragupta/chitragupta/rating/Span" "unit" "Lcom/example/chitragupta/chitragupta/rating/Span$Unit;" .null := D83 (Or.inr (hw _ (List.mem_of_getElem? (i := 44) rfl))) (ty := (.object "com/example/chitragupta/chitragupta/rating/Span$Unit")) (by decide)
    have Fvalue_86 : Fld Z h83 b83 "com/example/chitragupta/chitragupta/rating/Span" "value" "I" (.int (0 : Int32)) := D83 (Or.inr (hw _ (List.mem_of_getElem? (i := 46) rfl))) (ty := .int) (by decide)
    have V87x : Arv Z h83 b68 k68 (.object "com/example/chitragupta/chitragupta/rating/Span$Unit") (4 : Int32) [(.ref w0), (.ref w1), (.ref w2), (.ref w3)] .null := V76_84
    obtain ⟨cl87, Ar87, Q87, H87⟩ := own_at V87x (j := (p1 &&& (3 : Int32))) (v := (.ref u1)) (own_inb hk1) (by rw [hu1]; exact own_uat hk1)
    obtain ⟨_, _, ⟨T88, L88, k88, n88⟩, -, X88, hSb88, gb88, ⟨Lc88, hQ88, l88, y88, z88⟩, st88⟩ := X83.specialBackS hx (y := (⟨"com/example/chitragupta/chitragupta/rating/Span", "<init>", "(Lcom/example/chitragupta/chitragupta/rating/Span$Unit;I)V"⟩ : MethodName)) rfl hown (mvT hZ (hw _ (List.mem_of_getElem? (i := 20) rfl))) (mvT hZ (hw _ (List.mem_of_getElem? (i := 21) rfl))) (mvT hZ (hw _ (List.mem_of_getElem? (i := 22) rfl))) (by decide) (backOfS (W := 1) (own_init l Z a0 hw [] b83 u1 pv h83 n0 Z83 A83 Funit_85 Fvalue_86 (Nat.le_trans Z0 q83) fpv) hZ (hw _ (List.mem_of_getElem? (i := 22) rfl)) (hw _ (List.mem_of_getElem? (i := 19) rfl)) (by decide) (by decide)) (g := (mkF m 131 #[.val (.int p1), .val (.int p2), .val (.int p3), .val (.int p4), .val (.int p5), .val (.ref b68), .val (.int (p1 &&& (3 : Int32))), .val (.int (p2 &&& (3 : Int32))), .val (.int (1 : Int32)), .val (.int pv), .val (.int wv), .unset, .unset, .unset, .unset, .unset] [(.int pv), (.ref u1), (.ref b83), (.ref b83)])) rfl (by rw [hml]; rfl) (Steps.refl _) (a := b83) (argsL := [(.ref u1), (.int pv)]) (rest := [(.ref b83)]) (lenOf pd__Lcom_example_chitragupta_chitragupta_rating_Span_Unit_I_V rfl) rfl (by show 2 * 0 + _ ≤ _; exact Nat.le_of_eq rfl) (hb hby at_131) (fun _ _ => ⟨rfl, e83, (by decide : 2 + 2 ≤ _), (by decide : 6 + 20 ≤ _)⟩)
    dsimp only [Pt.U, Pt.locs, Pt.cells, Pt.slots] at X88 hSb88 gb88 l88 y88 z88 st88 hQ88
    subst l88 y88 z88
    obtain ⟨X88r, hS88, hZ88, hown88⟩ := rebS (s := s) (vm0 := s.vm) ((State.WarmedH.refl s).since 0) (Nat.le_trans (Nat.zero_le _) (Nat.le_of_eq (congrArg Array.size e83.symm))) X88 hSb88 gb88 hZ hown
    obtain ⟨rfl, N88q, K88q, Fa88, Fb88⟩ := hQ88
    have N88 := Fr.app NU N88q
    have V76_89 := V76_84.keep K88q (ninS ne_b68_b83 nin0)
    have A83_90 := A83.keep K88q
    have EX88 : Ext h0 T88.heap := own_ext_keep EX83 K88q (allS q83 all0)
    have Z88 : n0 ≤ T88.heap.size := Nat.le_trans Z0 EX88.1
    obtain ⟨T91, h91, X91, e91, E91, A91, D91, -, st91⟩ := newO X88r hx hZ88 hown88 (hw _ (List.mem_of_getElem? (i := 17) rfl)) (hw _ (List.mem_of_getElem? (i := 18) rfl)) (hw _ (List.mem_of_getElem? (i := 19) rfl)) rfl (g := (mkF m 136 #[.val (.int p1), .val (.int p2), .val (.int p3), .val (.int p4), .val (.int p5), .val (.ref b68), .val (.int (p1 &&& (3 : Int32))), .val (.int (p2 &&& (3 : Int32))), .val (.int (1 : Int32)), .val (.int pv), .val (.int wv), .val (.ref b83), .unset, .unset, .unset, .unset] [])) rfl (hb hby at_136) (by decide) (by decide)
    obtain ⟨b91, g91⟩ : ∃ z, z = T88.heap.size := ⟨_, rfl⟩
    rw [← g91] at A91 D91 st91
    have q91 : h0.size ≤ b91 := by rw [g91]; exact EX88.1
    have ne_b68_b91 : b68 ≠ b91 := by rw [g91]; exact Nat.ne_of_lt V76_89.lt
    have ne_b83_b91 : b83 ≠ b91 := by rw [g91]; exact Nat.ne_of_lt A83_90.lt
    have V76_92 := V76_89.ext E91
    have A83_93 := A83_90.ext E91
    have Fa88_94 := Fa88.ext E91
    have Fb88_95 := Fb88.ext E91
    have EX91 : Ext h0 h91 := own_ext_trans EX88 E91
    have Z91 : n0 ≤ h91.size := Nat.le_trans Z0 EX91.1
    have hk91 := Nat.le_trans (Nat.le_refl _) (E91).1
    have Funit_96 : Fld Z h91 b91 "com/example/chitragupta/chitragupta/rating/Span" "unit" "Lcom/example/chitragupta/chitragupta/rating/Span$Unit;" .null := D91 (Or.inr (hw _ (List.mem_of_getElem? (i := 44) rfl))) (ty := (.object "com/example/chitragupta/chitragupta/rating/Span$Unit")) (by decide)
    have Fvalue_97 : Fld Z h91 b91 "com/example/chitragupta/chitragupta/rating/Span" "value" "I" (.int (0 : Int32)) := D91 (Or.inr (hw _ (List.mem_of_getElem? (i := 46) rfl))) (ty := .int) (by decide)
    have V98x : Arv Z h91 b68 k68 (.object "com/example/chitragupta/chitragupta/rating/Span$Unit") (4 : Int32) [(.ref w0), (.ref w1), (.ref w2), (.ref w3)] .null := V76_92
    obtain ⟨cl98, Ar98, Q98, H98⟩ := own_at V98x (j := (p2 &&& (3 : Int32))) (v := (.ref u2)) (own_inb hk2) (by rw [hu2]; exact own_uat hk2)
    obtain ⟨_, _, ⟨T99, L99, k99, n99⟩, -, X99, hSb99, gb99, ⟨Lc99, hQ99, l99, y99, z99⟩, st99⟩ := X91.specialBackS hx (y := (⟨"com/example/chitragupta/chitragupta/rating/Span", "<init>", "(Lcom/example/chitragupta/chitragupta/rating/Span$Unit;I)V"⟩ : MethodName)) rfl hown88 (mvT hZ88 (hw _ (List.mem_of_getElem? (i := 20) rfl))) (mvT hZ88 (hw _ (List.mem_of_getElem? (i := 21) rfl))) (mvT hZ88 (hw _ (List.mem_of_getElem? (i := 22) rfl))) (by decide) (backOfS (W := 1) (own_init l Z a0 hw [] b91 u2 wv h91 n0 Z91 A91 Funit_96 Fvalue_97 (Nat.le_trans Z0 q91) fwv) hZ88 (hw _ (List.mem_of_getElem? (i := 22) rfl)) (hw _ (List.mem_of_getElem? (i := 19) rfl)) (by decide) (by decide)) (g := (mkF m 147 #[.val (.int p1), .val (.int p2), .val (.int p3), .val (.int p4), .val (.int p5), .val (.ref b68), .val (.int (p1 &&& (3 : Int32))), .val (.int (p2 &&& (3 : Int32))), .val (.int (1 : Int32)), .val (.int pv), .val (.int wv), .val (.ref b83), .unset, .unset, .unset, .unset] [(.int wv), (.ref u2), (.ref b91), (.ref b91)])) rfl (by rw [hml]; rfl) (Steps.refl _) (a := b91) (argsL := [(.ref u2), (.int wv)]) (rest := [(.ref b91)]) (lenOf pd__Lcom_example_chitragupta_chitragupta_rating_Span_Unit_I_V rfl) rfl (by show 2 * 0 + _ ≤ _; exact Nat.le_of_eq rfl) (hb hby at_147) (fun _ _ => ⟨rfl, e91, (by decide : 5 + 2 ≤ _), (by decide : 28 + 20 ≤ _)⟩)
    dsimp only [Pt.U, Pt.locs, Pt.cells, Pt.slots] at X99 hSb99 gb99 l99 y99 z99 st99 hQ99
    subst l99 y99 z99
    obtain ⟨X99r, hS99, hZ99, hown99⟩ := rebS (s := s) (vm0 := T88.vm) hS88 (Nat.le_trans hk91 (Nat.le_of_eq (congrArg Array.size e91.symm))) X99 hSb99 gb99 hZ88 hown88
    obtain ⟨rfl, N99q, K99q, Fa99, Fb99⟩ := hQ99
    have N99 := Fr.app N88 N99q
    have V76_100 := V76_92.keep K99q (ninS ne_b68_b91 nin0)
    have A83_101 := A83_93.keep K99q
    have Fa88_102 := Fa88_94.keep K99q (ninS ne_b83_b91 nin0)
    have Fb88_103 := Fb88_95.keep K99q (ninS ne_b83_b91 nin0)
    have A91_104 := A91.keep K99q
    have EX99 : Ext h0 T99.heap := own_ext_keep EX91 K99q (allS q91 all0)
    have Z99 : n0 ≤ T99.heap.size := Nat.le_trans Z0 EX99.1
    have pre3 : ∀ t, Steps p.tables e below (T99.setTop (mkF m 152 #[.val (.int p1), .val (.int p2), .val (.int p3), .val (.int p4), .val (.int p5), .val (.ref b68), .val (.int (p1 &&& (3 : Int32))), .val (.int (p2 &&& (3 : Int32))), .val (.int (1 : Int32)), .val (.int pv), .val (.int wv), .val (.ref b83), .val (.ref b91), .unset, .unset, .unset] [])) t → Steps p.tables e below (U.setTop (mkF m 120 #[.val (.int p1), .val (.int p2), .val (.int p3), .val (.int p4), .val (.int p5), .val (.ref b68), .val (.int (p1 &&& (3 : Int32))), .val (.int (p2 &&& (3 : Int32))), .val (.int (1 : Int32)), .val (.int pv), .val (.int wv), .unset, .unset, .unset, .unset, .unset] [])) t := by
      intro t kk
      show Steps p.tables e below (U.setTop (mkF m 120 #[.val (.int p1), .val (.int p2), .val (.int p3), .val (.int p4), .val (.int p5), .val (.ref b68), .val (.int (p1 &&& (3 : Int32))), .val (.int (p2 &&& (3 : Int32))), .val (.int (1 : Int32)), .val (.int pv), .val (.int wv), .unset, .unset, .unset, .unset, .unset] [])) _
      refine st83 _ ?_
      show Steps p.tables e below (T83.setTop (mkF m 123 #[.val (.int p1), .val (.int p2), .val (.int p3), .val (.int p4), .val (.int p5), .val (.ref b68), .val (.int (p1 &&& (3 : Int32))), .val (.int (p2 &&& (3 : Int32))), .val (.int (1 : Int32)), .val (.int pv), .val (.int wv), .unset, .unset, .unset, .unset, .unset] [(.ref b83)])) _
      refine XS.dup X83.here hx rfl (hb hby at_123) rfl rfl ?_
      show Steps p.tables e below (T83.setTop (mkF m 124 #[.val (.int p1), .val (.int p2), .val (.int p3), .val (.int p4), .val (.int p5), .val (.ref b68), .val (.int (p1 &&& (3 : Int32))), .val (.int (p2 &&& (3 : Int32))), .val (.int (1 : Int32)), .val (.int pv), .val (.int wv), .unset, .unset, .unset, .unset, .unset] [(.ref b83), (.ref b83)])) _
      refine XS.aload X83.here hx rfl (hb hby at_124) rfl rfl ?_
      show Steps p.tables e below (T83.setTop (mkF m 126 #[.val (.int p1), .val (.int p2), .val (.int p3), .val (.int p4), .val (.int p5), .val (.ref b68), .val (.int (p1 &&& (3 : Int32))), .val (.int (p2 &&& (3 : Int32))), .val (.int (1 : Int32)), .val (.int pv), .val (.int wv), .unset, .unset, .unset, .unset, .unset] [(.ref b68), (.ref b83), (.ref b83)])) _
      refine XS.iload X83.here hx rfl (hb hby at_126) rfl ?_
      show Steps p.tables e below (T83.setTop (mkF m 128 #[.val (.int p1), .val (.int p2), .val (.int p3), .val (.int p4), .val (.int p5), .val (.ref b68), .val (.int (p1 &&& (3 : Int32))), .val (.int (p2 &&& (3 : Int32))), .val (.int (1 : Int32)), .val (.int pv), .val (.int wv), .unset, .unset, .unset, .unset, .unset] [(.int (p1 &&& (3 : Int32))), (.ref b68), (.ref b83), (.ref b83)])) _
      refine X83.aaload hx (j := (p1 &&& (3 : Int32))) (v := (.ref u1)) (by rw [e83]; exact Ar87.1) (State.isArrayOf_alike hZ.alike Ar87.2.1) rfl Ar87.2.2 Q87 H87 (g := (mkF m 128 #[.val (.int p1), .val (.int p2), .val (.int p3), .val (.int p4), .val (.int p5), .val (.ref b68), .val (.int (p1 &&& (3 : Int32))), .val (.int (p2 &&& (3 : Int32))), .val (.int (1 : Int32)), .val (.int pv), .val (.int wv), .unset, .unset, .unset, .unset, .unset] [(.int (p1 &&& (3 : Int32))), (.ref b68), (.ref b83), (.ref b83)])) rfl rfl (hb hby at_128) _ ?_
      show Steps p.tables e below (T83.setTop (mkF m 129 #[.val (.int p1), .val (.int p2), .val (.int p3), .val (.int p4), .val (.int p5), .val (.ref b68), .val (.int (p1 &&& (3 : Int32))), .val (.int (p2 &&& (3 : Int32))), .val (.int (1 : Int32)), .val (.int pv), .val (.int wv), .unset, .unset, .unset, .unset, .unset] [(.ref u1), (.ref b83), (.ref b83)])) _
      refine XS.iload X83.here hx rfl (hb hby at_129) rfl ?_
      show Steps p.tables e below (T83.setTop (mkF m 131 #[.val (.int p1), .val (.int p2), .val (.int p3), .val (.int p4), .val (.int p5), .val (.ref b68), .val (.int (p1 &&& (3 : Int32))), .val (.int (p2 &&& (3 : Int32))), .val (.int (1 : Int32)), .val (.int pv), .val (.int wv), .unset, .unset, .unset, .unset, .unset] [(.int pv), (.ref u1), (.ref b83), (.ref b83)])) _
      refine st88.trans ?_
      show Steps p.tables e below (T88.setTop (mkF m 134 #[.val (.int p1), .val (.int p2), .val (.int p3), .val (.int p4), .val (.int p5), .val (.ref b68), .val (.int (p1 &&& (3 : Int32))), .val (.int (p2 &&& (3 : Int32))), .val (.int (1 : Int32)), .val (.int pv), .val (.int wv), .unset, .unset, .unset, .unset, .unset] [(.ref b83)])) _
      refine XS.astore X88r.here hx rfl (hb hby at_134) rfl rfl (l' := #[.val (.int p1), .val (.int p2), .val (.int p3), .val (.int p4), .val (.int p5), .val (.ref b68), .val (.int (p1 &&& (3 : Int32))), .val (.int (p2 &&& (3 : Int32))), .val (.int (1 : Int32)), .val (.int pv), .val (.int wv), .val (.ref b83), .unset, .unset, .unset, .unset]) rfl ?_
      show Steps p.tables e below (T88.setTop (mkF m 136 #[.val (.int p1), .val (.int p2), .val (.int p3), .val (.int p4), .val (.int p5), .val (.ref b68), .val (.int (p1 &&& (3 : Int32))), .val (.int (p2 &&& (3 : Int32))), .val (.int (1 : Int32)), .val (.int pv), .val (.int wv), .val (.ref b83), .unset, .unset, .unset, .unset] [])) _
      refine st91 _ ?_
      show Steps p.tables e below (T91.setTop (mkF m 139 #[.val (.int p1), .val (.int p2), .val (.int p3), .val (.int p4), .val (.int p5), .val (.ref b68), .val (.int (p1 &&& (3 : Int32))), .val (.int (p2 &&& (3 : Int32))), .val (.int (1 : Int32)), .val (.int pv), .val (.int wv), .val (.ref b83), .unset, .unset, .unset, .unset] [(.ref b91)])) _
      refine XS.dup X91.here hx rfl (hb hby at_139) rfl rfl ?_
      show Steps p.tables e below (T91.setTop (mkF m 140 #[.val (.int p1), .val (.int p2), .val (.int p3), .val (.int p4), .val (.int p5), .val (.ref b68), .val (.int (p1 &&& (3 : Int32))), .val (.int (p2 &&& (3 : Int32))), .val (.int (1 : Int32)), .val (.int pv), .val (.int wv), .val (.ref b83), .unset, .unset, .unset, .unset] [(.ref b91), (.ref b91)])) _
      refine XS.aload X91.here hx rfl (hb hby at_140) rfl rfl ?_
      show Steps p.tables e below (T91.setTop (mkF m 142 #[.val (.int p1), .val (.int p2), .val (.int p3), .val (.int p4), .val (.int p5), .val (.ref b68), .val (.int (p1 &&& (3 : Int32))), .val (.int (p2 &&& (3 : Int32))), .val (.int (1 : Int32)), .val (.int pv), .val (.int wv), .val (.ref b83), .unset, .unset, .unset, .unset] [(.ref b68), (.ref b91), (.ref b91)])) _
      refine XS.iload X91.here hx rfl (hb hby at_142) rfl ?_
      show Steps p.tables e below (T91.setTop (mkF m 144 #[.val (.int p1), .val (.int p2), .val (.int p3), .val (.int p4), .val (.int p5), .val (.ref b68), .val (.int (p1 &&& (3 : Int32))), .val (.int (p2 &&& (3 : Int32))), .val (.int (1 : Int32)), .val (.int pv), .val (.int wv), .val (.ref b83), .unset, .unset, .unset, .unset] [(.int (p2 &&& (3 : Int32))), (.ref b68), (.ref b91), (.ref b91)])) _
      refine X91.aaload hx (j := (p2 &&& (3 : Int32))) (v := (.ref u2)) (by rw [e91]; exact Ar98.1) (State.isArrayOf_alike hZ88.alike Ar98.2.1) rfl Ar98.2.2 Q98 H98 (g := (mkF m 144 #[.val (.int p1), .val (.int p2), .val (.int p3), .val (.int p4), .val (.int p5), .val (.ref b68), .val (.int (p1 &&& (3 : Int32))), .val (.int (p2 &&& (3 : Int32))), .val (.int (1 : Int32)), .val (.int pv), .val (.int wv), .val (.ref b83), .unset, .unset, .unset, .unset] [(.int (p2 &&& (3 : Int32))), (.ref b68), (.ref b91), (.ref b91)])) rfl rfl (hb hby at_144) _ ?_
      show Steps p.tables e below (T91.setTop (mkF m 145 #[.val (.int p1), .val (.int p2), .val (.int p3), .val (.int p4), .val (.int p5), .val (.ref b68), .val (.int (p1 &&& (3 : Int32))), .val (.int (p2 &&& (3 : Int32))), .val (.int (1 : Int32)), .val (.int pv), .val (.int wv), .val (.ref b83), .unset, .unset, .unset, .unset] [(.ref u2), (.ref b91), (.ref b91)])) _
      refine XS.iload X91.here hx rfl (hb hby at_145) rfl ?_
      show Steps p.tables e below (T91.setTop (mkF m 147 #[.val (.int p1), .val (.int p2), .val (.int p3), .val (.int p4), .val (.int p5), .val (.ref b68), .val (.int (p1 &&& (3 : Int32))), .val (.int (p2 &&& (3 : Int32))), .val (.int (1 : Int32)), .val (.int pv), .val (.int wv), .val (.ref b83), .unset, .unset, .unset, .unset] [(.int wv), (.ref u2), (.ref b91), (.ref b91)])) _
      refine st99.trans ?_
      show Steps p.tables e below (T99.setTop (mkF m 150 #[.val (.int p1), .val (.int p2), .val (.int p3), .val (.int p4), .val (.int p5), .val (.ref b68), .val (.int (p1 &&& (3 : Int32))), .val (.int (p2 &&& (3 : Int32))), .val (.int (1 : Int32)), .val (.int pv), .val (.int wv), .val (.ref b83), .unset, .unset, .unset, .unset] [(.ref b91)])) _
      refine XS.astore X99r.here hx rfl (hb hby at_150) rfl rfl (l' := #[.val (.int p1), .val (.int p2), .val (.int p3), .val (.int p4), .val (.int p5), .val (.ref b68), .val (.int (p1 &&& (3 : Int32))), .val (.int (p2 &&& (3 : Int32))), .val (.int (1 : Int32)), .val (.int pv), .val (.int wv), .val (.ref b83), .val (.ref b91), .unset, .unset, .unset]) rfl ?_
      show Steps p.tables e below (T99.setTop (mkF m 152 #[.val (.int p1), .val (.int p2), .val (.int p3), .val (.int p4), .val (.int p5), .val (.ref b68), .val (.int (p1 &&& (3 : Int32))), .val (.int (p2 &&& (3 : Int32))), .val (.int (1 : Int32)), .val (.int pv), .val (.int wv), .val (.ref b83), .val (.ref b91), .unset, .unset, .unset] [])) _
      exact kk
    by_cases hc : ((12 : Int32) * wv % pv) = 0
    · have FX105 : Fld Z T99.heap b83 "com/example/chitragupta/chitragupta/rating/Span" "unit" "Lcom/example/chitragupta/chitragupta/rating/Span$Unit;" (.ref w2) := by rw [← hux]; exact Fa88_102
      have FY105 : Fld Z T99.heap b91 "com/example/chitragupta/chitragupta/rating/Span" "unit" "Lcom/example/chitragupta/chitragupta/rating/Span$Unit;" (.ref w3) := by rw [← huy]; exact Fa99
      obtain ⟨cq106, kq106, q106a, q106b, q106c⟩ := isOf hZ99 rfl A83_101
      obtain ⟨_, _, ⟨T106, L106, k106, n106⟩, -, X106, ⟨Lc106, hQ106, l106, y106, z106⟩, st106⟩ := X99r.virtualBack hx (y := (⟨"com/example/chitragupta/chitragupta/rating/Span", "divides", "(Lcom/example/chitragupta/chitragupta/rating/Span;)Z"⟩ : MethodName)) (z := (⟨"com/example/chitragupta/chitragupta/rating/Span", "divides", "(Lcom/example/chitragupta/chitragupta/rating/Span;)Z"⟩ : MethodName)) hown99 (mvT hZ99 (hw _ (List.mem_of_getElem? (i := 47) rfl))) (mvT hZ99 (hw _ (List.mem_of_getElem? (i := 48) rfl))) (notFace_of_selects (args := #[]) (mvT hZ99 (hw _ (List.mem_of_getElem? (i := 50) rfl)))) (mvT hZ99 (hw _ (List.mem_of_getElem? (i := 50) rfl))) (mvT hZ99 (hw _ (List.mem_of_getElem? (i := 49) rfl))) (by decide) (backOf (W := 0) (own_div_cross_y l Z a0 hw [] b83 b91 u1 u2 pv wv w0 w1 w2 w3 T99.heap n0 Z99 (own_P_ext P EX99) FX105 Fb88_103 FY105 Fb99 hz hc) hZ99 (hw _ (List.mem_of_getElem? (i := 51) rfl)) (hw _ (List.mem_of_getElem? (i := 19) rfl)) (by decide) (by decide)) q106a q106c (g := (mkF m 244 #[.val (.int p1), .val (.int p2), .val (.int p3), .val (.int p4), .val (.int p5), .val (.ref b68), .val (.int (p1 &&& (3 : Int32))), .val (.int (p2 &&& (3 : Int32))), .val (.int (1 : Int32)), .val (.int pv), .val (.int wv), .val (.ref b83), .val (.ref b91), .val (.int (1 : Int32)), .val (.long ((12 : Int64) * wv.toInt64)), .second] [(.ref b91), (.ref b83)])) rfl (by rw [hml]; rfl) (Steps.refl _) (argsL := [(.ref b91)]) (rest := []) (lenOf pd__Lcom_example_chitragupta_chitragupta_rating_Span__Z rfl) rfl (by show 2 * 0 + _ ≤ _; exact Nat.le_of_eq rfl) (hb hby at_244) (fun _ _ => ⟨rfl, rfl, (by decide : 7 + 0 ≤ _), (by decide : 48 + 0 ≤ _)⟩)
      dsimp only [Pt.U, Pt.locs, Pt.cells, Pt.slots] at X106 l106 y106 z106 st106 hQ106
      subst l106 y106 z106
      obtain ⟨rfl, N106q, e106⟩ := hQ106
      have N106 := Fr.app N99 N106q
      obtain ⟨fs, hr, hrun, hended, hRE⟩ := Jvm.Stand.leaveW (s := s) (vm₁ := T99.vm) X106 hS99 (Nat.le_trans (Nat.le_refl _) (Nat.le_of_eq (congrArg Array.size e106.symm))) (v := some (.int (1 : Int32))) (fun h => by rw [Bd.returns] at h; cases h)
      refine ⟨_, _, pre0 _ (pre1 _ (thru _ (pre3 _ ?_))), hrun, hended, _, _, rfl, ?_, ⟨_, rfl⟩, hRE.2.1, hRE.2.2.1, hRE.2.2.2.mono (by decide) (by decide)⟩
      · show Steps p.tables e below (T99.setTop (mkF m 152 #[.val (.int p1), .val (.int p2), .val (.int p3), .val (.int p4), .val (.int p5), .val (.ref b68), .val (.int (p1 &&& (3 : Int32))), .val (.int (p2 &&& (3 : Int32))), .val (.int (1 : Int32)), .val (.int pv), .val (.int wv), .val (.ref b83), .val (.ref b91), .unset, .unset, .unset] [])) _
        refine XS.iload X99r.here hx rfl (hb hby at_152) rfl ?_
        show Steps p.tables e below (T99.setTop (mkF m 154 #[.val (.int p1), .val (.int p2), .val (.int p3), .val (.int p4), .val (.int p5), .val (.ref b68), .val (.int (p1 &&& (3 : Int32))), .val (.int (p2 &&& (3 : Int32))), .val (.int (1 : Int32)), .val (.int pv), .val (.int wv), .val (.ref b83), .val (.ref b91), .unset, .unset, .unset] [(.int (p1 &&& (3 : Int32)))])) _
        refine XS.iload X99r.here hx rfl (hb hby at_154) rfl ?_
        show Steps p.tables e below (T99.setTop (mkF m 156 #[.val (.int p1), .val (.int p2), .val (.int p3), .val (.int p4), .val (.int p5), .val (.ref b68), .val (.int (p1 &&& (3 : Int32))), .val (.int (p2 &&& (3 : Int32))), .val (.int (1 : Int32)), .val (.int pv), .val (.int wv), .val (.ref b83), .val (.ref b91), .unset, .unset, .unset] [(.int (p2 &&& (3 : Int32))), (.int (p1 &&& (3 : Int32)))])) _
        refine XS.icmpYes X99r.here hx rfl (pc0 := 156) (pc' := 182) rfl (hb hby at_156) rfl (XT.ii_ne_t hkk) (by decide) (by decide) ?_
        show Steps p.tables e below (T99.setTop (mkF m 182 #[.val (.int p1), .val (.int p2), .val (.int p3), .val (.int p4), .val (.int p5), .val (.ref b68), .val (.int (p1 &&& (3 : Int32))), .val (.int (p2 &&& (3 : Int32))), .val (.int (1 : Int32)), .val (.int pv), .val (.int wv), .val (.ref b83), .val (.ref b91), .unset, .unset, .unset] [])) _
        refine XS.iload X99r.here hx rfl (hb hby at_182) rfl ?_
        show Steps p.tables e below (T99.setTop (mkF m 184 #[.val (.int p1), .val (.int p2), .val (.int p3), .val (.int p4), .val (.int p5), .val (.ref b68), .val (.int (p1 &&& (3 : Int32))), .val (.int (p2 &&& (3 : Int32))), .val (.int (1 : Int32)), .val (.int pv), .val (.int wv), .val (.ref b83), .val (.ref b91), .unset, .unset, .unset] [(.int (1 : Int32))])) _
        refine XS.ifNo X99r.here hx rfl (hb hby at_184) rfl (by decide) ?_
        show Steps p.tables e below (T99.setTop (mkF m 187 #[.val (.int p1), .val (.int p2), .val (.int p3), .val (.int p4), .val (.int p5), .val (.ref b68), .val (.int (p1 &&& (3 : Int32))), .val (.int (p2 &&& (3 : Int32))), .val (.int (1 : Int32)), .val (.int pv), .val (.int wv), .val (.ref b83), .val (.ref b91), .unset, .unset, .unset] [])) _
        refine Jvm.Stand.ldc2J X99r hx hown99 (mvT hZ99 (hw _ (List.mem_of_getElem? (i := 56) rfl))) rfl (hb hby at_187) ?_
        show Steps p.tables e below (T99.setTop (mkF m 190 #[.val (.int p1), .val (.int p2), .val (.int p3), .val (.int p4), .val (.int p5), .val (.ref b68), .val (.int (p1 &&& (3 : Int32))), .val (.int (p2 &&& (3 : Int32))), .val (.int (1 : Int32)), .val (.int pv), .val (.int wv), .val (.ref b83), .val (.ref b91), .unset, .unset, .unset] [(.long (12 : Int64))])) _
        refine XS.iload X99r.here hx rfl (hb hby at_190) rfl ?_
        show Steps p.tables e below (T99.setTop (mkF m 192 #[.val (.int p1), .val (.int p2), .val (.int p3), .val (.int p4), .val (.int p5), .val (.ref b68), .val (.int (p1 &&& (3 : Int32))), .val (.int (p2 &&& (3 : Int32))), .val (.int (1 : Int32)), .val (.int pv), .val (.int wv), .val (.ref b83), .val (.ref b91), .unset, .unset, .unset] [(.int wv), (.long (12 : Int64))])) _
        refine XT.i2l X99r.here hx rfl (hb hby at_192) rfl ?_
        show Steps p.tables e below (T99.setTop (mkF m 193 #[.val (.int p1), .val (.int p2), .val (.int p3), .val (.int p4), .val (.int p5), .val (.ref b68), .val (.int (p1 &&& (3 : Int32))), .val (.int (p2 &&& (3 : Int32))), .val (.int (1 : Int32)), .val (.int pv), .val (.int wv), .val (.ref b83), .val (.ref b91), .unset, .unset, .unset] [(.long wv.toInt64), (.long (12 : Int64))])) _
        refine XT.lmul X99r.here hx rfl (hb hby at_193) rfl ?_
        show Steps p.tables e below (T99.setTop (mkF m 194 #[.val (.int p1), .val (.int p2), .val (.int p3), .val (.int p4), .val (.int p5), .val (.ref b68), .val (.int (p1 &&& (3 : Int32))), .val (.int (p2 &&& (3 : Int32))), .val (.int (1 : Int32)), .val (.int pv), .val (.int wv), .val (.ref b83), .val (.ref b91), .unset, .unset, .unset] [(.long ((12 : Int64) * wv.toInt64))])) _
        refine XT.lstore X99r.here hx rfl (hb hby at_194) rfl (l' := #[.val (.int p1), .val (.int p2), .val (.int p3), .val (.int p4), .val (.int p5), .val (.ref b68), .val (.int (p1 &&& (3 : Int32))), .val (.int (p2 &&& (3 : Int32))), .val (.int (1 : Int32)), .val (.int pv), .val (.int wv), .val (.ref b83), .val (.ref b91), .unset, .val (.long ((12 : Int64) * wv.toInt64)), .second]) rfl ?_
        show Steps p.tables e below (T99.setTop (mkF m 196 #[.val (.int p1), .val (.int p2), .val (.int p3), .val (.int p4), .val (.int p5), .val (.ref b68), .val (.int (p1 &&& (3 : Int32))), .val (.int (p2 &&& (3 : Int32))), .val (.int (1 : Int32)), .val (.int pv), .val (.int wv), .val (.ref b83), .val (.ref b91), .unset, .val (.long ((12 : Int64) * wv.toInt64)), .second] [])) _
        refine XT.lload X99r.here hx rfl (hb hby at_196) rfl ?_
        show Steps p.tables e below (T99.setTop (mkF m 198 #[.val (.int p1), .val (.int p2), .val (.int p3), .val (.int p4), .val (.int p5), .val (.ref b68), .val (.int (p1 &&& (3 : Int32))), .val (.int (p2 &&& (3 : Int32))), .val (.int (1 : Int32)), .val (.int pv), .val (.int wv), .val (.ref b83), .val (.ref b91), .unset, .val (.long ((12 : Int64) * wv.toInt64)), .second] [(.long ((12 : Int64) * wv.toInt64))])) _
        refine XS.iload X99r.here hx rfl (hb hby at_198) rfl ?_
        show Steps p.tables e below (T99.setTop (mkF m 200 #[.val (.int p1), .val (.int p2), .val (.int p3), .val (.int p4), .val (.int p5), .val (.ref b68), .val (.int (p1 &&& (3 : Int32))), .val (.int (p2 &&& (3 : Int32))), .val (.int (1 : Int32)), .val (.int pv), .val (.int wv), .val (.ref b83), .val (.ref b91), .unset, .val (.long ((12 : Int64) * wv.toInt64)), .second] [(.int pv), (.long ((12 : Int64) * wv.toInt64))])) _
        refine XT.i2l X99r.here hx rfl (hb hby at_200) rfl ?_
        show Steps p.tables e below (T99.setTop (mkF m 201 #[.val (.int p1), .val (.int p2), .val (.int p3), .val (.int p4), .val (.int p5), .val (.ref b68), .val (.int (p1 &&& (3 : Int32))), .val (.int (p2 &&& (3 : Int32))), .val (.int (1 : Int32)), .val (.int pv), .val (.int wv), .val (.ref b83), .val (.ref b91), .unset, .val (.long ((12 : Int64) * wv.toInt64)), .second] [(.long pv.toInt64), (.long ((12 : Int64) * wv.toInt64))])) _
        refine XT.ldiv X99r.here hx rfl (hb hby at_201) rfl hz64 ?_
        show Steps p.tables e below (T99.setTop (mkF m 202 #[.val (.int p1), .val (.int p2), .val (.int p3), .val (.int p4), .val (.int p5), .val (.ref b68), .val (.int (p1 &&& (3 : Int32))), .val (.int (p2 &&& (3 : Int32))), .val (.int (1 : Int32)), .val (.int pv), .val (.int wv), .val (.ref b83), .val (.ref b91), .unset, .val (.long ((12 : Int64) * wv.toInt64)), .second] [(.long (((12 : Int64) * wv.toInt64) / pv.toInt64))])) _
        refine XS.iload X99r.here hx rfl (hb hby at_202) rfl ?_
        show Steps p.tables e below (T99.setTop (mkF m 204 #[.val (.int p1), .val (.int p2), .val (.int p3), .val (.int p4), .val (.int p5), .val (.ref b68), .val (.int (p1 &&& (3 : Int32))), .val (.int (p2 &&& (3 : Int32))), .val (.int (1 : Int32)), .val (.int pv), .val (.int wv), .val (.ref b83), .val (.ref b91), .unset, .val (.long ((12 : Int64) * wv.toInt64)), .second] [(.int pv), (.long (((12 : Int64) * wv.toInt64) / pv.toInt64))])) _
        refine XT.i2l X99r.here hx rfl (hb hby at_204) rfl ?_
        show Steps p.tables e below (T99.setTop (mkF m 205 #[.val (.int p1), .val (.int p2), .val (.int p3), .val (.int p4), .val (.int p5), .val (.ref b68), .val (.int (p1 &&& (3 : Int32))), .val (.int (p2 &&& (3 : Int32))), .val (.int (1 : Int32)), .val (.int pv), .val (.int wv), .val (.ref b83), .val (.ref b91), .unset, .val (.long ((12 : Int64) * wv.toInt64)), .second] [(.long pv.toInt64), (.long (((12 : Int64) * wv.toInt64) / pv.toInt64))])) _
        refine XT.lmul X99r.here hx rfl (hb hby at_205) rfl ?_
        show Steps p.tables e below (T99.setTop (mkF m 206 #[.val (.int p1), .val (.int p2), .val (.int p3), .val (.int p4), .val (.int p5), .val (.ref b68), .val (.int (p1 &&& (3 : Int32))), .val (.int (p2 &&& (3 : Int32))), .val (.int (1 : Int32)), .val (.int pv), .val (.int wv), .val (.ref b83), .val (.ref b91), .unset, .val (.long ((12 : Int64) * wv.toInt64)), .second] [(.long ((((12 : Int64) * wv.toInt64) / pv.toInt64) * pv.toInt64))])) _
        refine XT.lload X99r.here hx rfl (hb hby at_206) rfl ?_
        show Steps p.tables e below (T99.setTop (mkF m 208 #[.val (.int p1), .val (.int p2), .val (.int p3), .val (.int p4), .val (.int p5), .val (.ref b68), .val (.int (p1 &&& (3 : Int32))), .val (.int (p2 &&& (3 : Int32))), .val (.int (1 : Int32)), .val (.int pv), .val (.int wv), .val (.ref b83), .val (.ref b91), .unset, .val (.long ((12 : Int64) * wv.toInt64)), .second] [(.long ((12 : Int64) * wv.toInt64)), (.long ((((12 : Int64) * wv.toInt64) / pv.toInt64) * pv.toInt64))])) _
        refine XT.lcmp X99r.here hx rfl (hb hby at_208) rfl ?_
        show Steps p.tables e below (T99.setTop (mkF m 209 #[.val (.int p1), .val (.int p2), .val (.int p3), .val (.int p4), .val (.int p5), .val (.ref b68), .val (.int (p1 &&& (3 : Int32))), .val (.int (p2 &&& (3 : Int32))), .val (.int (1 : Int32)), .val (.int pv), .val (.int wv), .val (.ref b83), .val (.ref b91), .unset, .val (.long ((12 : Int64) * wv.toInt64)), .second] [(.int (XT.cmpL ((((12 : Int64) * wv.toInt64) / pv.toInt64) * pv.toInt64) ((12 : Int64) * wv.toInt64)))])) _
        refine XS.ifNo X99r.here hx rfl (hb hby at_209) rfl (XT.ll_ne_f ((own_cross fpv fwv fw2).mp hc)) ?_
        show Steps p.tables e below (T99.setTop (mkF m 212 #[.val (.int p1), .val (.int p2), .val (.int p3), .val (.int p4), .val (.int p5), .val (.ref b68), .val (.int (p1 &&& (3 : Int32))), .val (.int (p2 &&& (3 : Int32))), .val (.int (1 : Int32)), .val (.int pv), .val (.int wv), .val (.ref b83), .val (.ref b91), .unset, .val (.long ((12 : Int64) * wv.toInt64)), .second] [])) _
        refine XT.iconstV X99r.here hx rfl (1 : Int32) (hb hby at_212) rfl ?_
        show Steps p.tables e below (T99.setTop (mkF m 213 #[.val (.int p1), .val (.int p2), .val (.int p3), .val (.int p4), .val (.int p5), .val (.ref b68), .val (.int (p1 &&& (3 : Int32))), .val (.int (p2 &&& (3 : Int32))), .val (.int (1 : Int32)), .val (.int pv), .val (.int wv), .val (.ref b83), .val (.ref b91), .unset, .val (.long ((12 : Int64) * wv.toInt64)), .second] [(.int (1 : Int32))])) _
        refine XS.goto X99r.here hx rfl (pc0 := 213) (pc' := 217) rfl (hb hby at_213) (by decide) (by decide) ?_
        show Steps p.tables e below (T99.setTop (mkF m 217 #[.val (.int p1), .val (.int p2), .val (.int p3), .val (.int p4), .val (.int p5), .val (.ref b68), .val (.int (p1 &&& (3 : Int32))), .val (.int (p2 &&& (3 : Int32))), .val (.int (1 : Int32)), .val (.int pv), .val (.int wv), .val (.ref b83), .val (.ref b91), .unset, .val (.long ((12 : Int64) * wv.toInt64)), .second] [(.int (1 : Int32))])) _
        refine XS.istore X99r.here hx rfl (hb hby at_217) rfl (l' := #[.val (.int p1), .val (.int p2), .val (.int p3), .val (.int p4), .val (.int p5), .val (.ref b68), .val (.int (p1 &&& (3 : Int32))), .val (.int (p2 &&& (3 : Int32))), .val (.int (1 : Int32)), .val (.int pv), .val (.int wv), .val (.ref b83), .val (.ref b91), .val (.int (1 : Int32)), .val (.long ((12 : Int64) * wv.toInt64)), .second]) rfl ?_
        show Steps p.tables e below (T99.setTop (mkF m 219 #[.val (.int p1), .val (.int p2), .val (.int p3), .val (.int p4), .val (.int p5), .val (.ref b68), .val (.int (p1 &&& (3 : Int32))), .val (.int (p2 &&& (3 : Int32))), .val (.int (1 : Int32)), .val (.int pv), .val (.int wv), .val (.ref b83), .val (.ref b91), .val (.int (1 : Int32)), .val (.long ((12 : Int64) * wv.toInt64)), .second] [])) _
        refine XS.goto X99r.here hx rfl (pc0 := 219) (pc' := 240) rfl (hb hby at_219) (by decide) (by decide) ?_
        show Steps p.tables e below (T99.setTop (mkF m 240 #[.val (.int p1), .val (.int p2), .val (.int p3), .val (.int p4), .val (.int p5), .val (.ref b68), .val (.int (p1 &&& (3 : Int32))), .val (.int (p2 &&& (3 : Int32))), .val (.int (1 : Int32)), .val (.int pv), .val (.int wv), .val (.ref b83), .val (.ref b91), .val (.int (1 : Int32)), .val (.long ((12 : Int64) * wv.toInt64)), .second] [])) _
        refine XS.aload X99r.here hx rfl (hb hby at_240) rfl rfl ?_
        show Steps p.tables e below (T99.setTop (mkF m 242 #[.val (.int p1), .val (.int p2), .val (.int p3), .val (.int p4), .val (.int p5), .val (.ref b68), .val (.int (p1 &&& (3 : Int32))), .val (.int (p2 &&& (3 : Int32))), .val (.int (1 : Int32)), .val (.int pv), .val (.int wv), .val (.ref b83), .val (.ref b91), .val (.int (1 : Int32)), .val (.long ((12 : Int64) * wv.toInt64)), .second] [(.ref b83)])) _
        refine XS.aload X99r.here hx rfl (hb hby at_242) rfl rfl ?_
        show Steps p.tables e below (T99.setTop (mkF m 244 #[.val (.int p1), .val (.int p2), .val (.int p3), .val (.int p4), .val (.int p5), .val (.ref b68), .val (.int (p1 &&& (3 : Int32))), .val (.int (p2 &&& (3 : Int32))), .val (.int (1 : Int32)), .val (.int pv), .val (.int wv), .val (.ref b83), .val (.ref b91), .val (.int (1 : Int32)), .val (.long ((12 : Int64) * wv.toInt64)), .second] [(.ref b91), (.ref b83)])) _
        refine st106.trans ?_
        show Steps p.tables e below (T106.setTop (mkF m 247 #[.val (.int p1), .val (.int p2), .val (.int p3), .val (.int p4), .val (.int p5), .val (.ref b68), .val (.int (p1 &&& (3 : Int32))), .val (.int (p2 &&& (3 : Int32))), .val (.int (1 : Int32)), .val (.int pv), .val (.int wv), .val (.ref b83), .val (.ref b91), .val (.int (1 : Int32)), .val (.long ((12 : Int64) * wv.toInt64)), .second] [(.int (1 : Int32))])) _
        refine XS.iload X106.here hx rfl (hb hby at_247) rfl ?_
        show Steps p.tables e below (T106.setTop (mkF m 249 #[.val (.int p1), .val (.int p2), .val (.int p3), .val (.int p4), .val (.int p5), .val (.ref b68), .val (.int (p1 &&& (3 : Int32))), .val (.int (p2 &&& (3 : Int32))), .val (.int (1 : Int32)), .val (.int pv), .val (.int wv), .val (.ref b83), .val (.ref b91), .val (.int (1 : Int32)), .val (.long ((12 : Int64) * wv.toInt64)), .second] [(.int (1 : Int32)), (.int (1 : Int32))])) _
        refine XS.icmpNo X106.here hx rfl (hb hby at_249) rfl (by decide) ?_
        show Steps p.tables e below (T106.setTop (mkF m 252 #[.val (.int p1), .val (.int p2), .val (.int p3), .val (.int p4), .val (.int p5), .val (.ref b68), .val (.int (p1 &&& (3 : Int32))), .val (.int (p2 &&& (3 : Int32))), .val (.int (1 : Int32)), .val (.int pv), .val (.int wv), .val (.ref b83), .val (.ref b91), .val (.int (1 : Int32)), .val (.long ((12 : Int64) * wv.toInt64)), .second] [])) _
        refine XT.iconstV X106.here hx rfl (1 : Int32) (hb hby at_252) rfl ?_
        show Steps p.tables e below (T106.setTop (mkF m 253 #[.val (.int p1), .val (.int p2), .val (.int p3), .val (.int p4), .val (.int p5), .val (.ref b68), .val (.int (p1 &&& (3 : Int32))), .val (.int (p2 &&& (3 : Int32))), .val (.int (1 : Int32)), .val (.int pv), .val (.int wv), .val (.ref b83), .val (.ref b91), .val (.int (1 : Int32)), .val (.long ((12 : Int64) * wv.toInt64)), .second] [(.int (1 : Int32))])) _
        refine XS.goto X106.here hx rfl (pc0 := 253) (pc' := 257) rfl (hb hby at_253) (by decide) (by decide) ?_
        show Steps p.tables e below (T106.setTop (mkF m 257 #[.val (.int p1), .val (.int p2), .val (.int p3), .val (.int p4), .val (.int p5), .val (.ref b68), .val (.int (p1 &&& (3 : Int32))), .val (.int (p2 &&& (3 : Int32))), .val (.int (1 : Int32)), .val (.int pv), .val (.int wv), .val (.ref b83), .val (.ref b91), .val (.int (1 : Int32)), .val (.long ((12 : Int64) * wv.toInt64)), .second] [(.int (1 : Int32))])) _
        exact retN X106 hx (t := .boolean) Bd.returns (by simp) (hb hby at_257) hr
      · show own_Q0 n0 _ T106.heap _
        exact ⟨rfl, N106⟩
    · have FX107 : Fld Z T99.heap b83 "com/example/chitragupta/chitragupta/rating/Span" "unit" "Lcom/example/chitragupta/chitragupta/rating/Span$Unit;" (.ref w2) := by rw [← hux]; exact Fa88_102
      have FY107 : Fld Z T99.heap b91 "com/example/chitragupta/chitragupta/rating/Span" "unit" "Lcom/example/chitragupta/chitragupta/rating/Span$Unit;" (.ref w3) := by rw [← huy]; exact Fa99
      obtain ⟨cq108, kq108, q108a, q108b, q108c⟩ := isOf hZ99 rfl A83_101
      obtain ⟨_, _, ⟨T108, L108, k108, n108⟩, -, X108, ⟨Lc108, hQ108, l108, y108, z108⟩, st108⟩ := X99r.virtualBack hx (y := (⟨"com/example/chitragupta/chitragupta/rating/Span", "divides", "(Lcom/example/chitragupta/chitragupta/rating/Span;)Z"⟩ : MethodName)) (z := (⟨"com/example/chitragupta/chitragupta/rating/Span", "divides", "(Lcom/example/chitragupta/chitragupta/rating/Span;)Z"⟩ : MethodName)) hown99 (mvT hZ99 (hw _ (List.mem_of_getElem? (i := 47) rfl))) (mvT hZ99 (hw _ (List.mem_of_getElem? (i := 48) rfl))) (notFace_of_selects (args := #[]) (mvT hZ99 (hw _ (List.mem_of_getElem? (i := 50) rfl)))) (mvT hZ99 (hw _ (List.mem_of_getElem? (i := 50) rfl))) (mvT hZ99 (hw _ (List.mem_of_getElem? (i := 49) rfl))) (by decide) (backOf (W := 0) (own_div_cross_n l Z a0 hw [] b83 b91 u1 u2 pv wv w0 w1 w2 w3 T99.heap n0 Z99 (own_P_ext P EX99) FX107 Fb88_103 FY107 Fb99 hz hc) hZ99 (hw _ (List.mem_of_getElem? (i := 51) rfl)) (hw _ (List.mem_of_getElem? (i := 19) rfl)) (by decide) (by decide)) q108a q108c (g := (mkF m 244 #[.val (.int p1), .val (.int p2), .val (.int p3), .val (.int p4), .val (.int p5), .val (.ref b68), .val (.int (p1 &&& (3 : Int32))), .val (.int (p2 &&& (3 : Int32))), .val (.int (1 : Int32)), .val (.int pv), .val (.int wv), .val (.ref b83), .val (.ref b91), .val (.int (0 : Int32)), .val (.long ((12 : Int64) * wv.toInt64)), .second] [(.ref b91), (.ref b83)])) rfl (by rw [hml]; rfl) (Steps.refl _) (argsL := [(.ref b91)]) (rest := []) (lenOf pd__Lcom_example_chitragupta_chitragupta_rating_Span__Z rfl) rfl (by show 2 * 0 + _ ≤ _; exact Nat.le_of_eq rfl) (hb hby at_244) (fun _ _ => ⟨rfl, rfl, (by decide : 7 + 0 ≤ _), (by decide : 48 + 0 ≤ _)⟩)
      dsimp only [Pt.U, Pt.locs, Pt.cells, Pt.slots] at X108 l108 y108 z108 st108 hQ108
      subst l108 y108 z108
      obtain ⟨rfl, N108q, e108⟩ := hQ108
      have N108 := Fr.app N99 N108q
      obtain ⟨fs, hr, hrun, hended, hRE⟩ := Jvm.Stand.leaveW (s := s) (vm₁ := T99.vm) X108 hS99 (Nat.le_trans (Nat.le_refl _) (Nat.le_of_eq (congrArg Array.size e108.symm))) (v := some (.int (1 : Int32))) (fun h => by rw [Bd.returns] at h; cases h)
      refine ⟨_, _, pre0 _ (pre1 _ (thru _ (pre3 _ ?_))), hrun, hended, _, _, rfl, ?_, ⟨_, rfl⟩, hRE.2.1, hRE.2.2.1, hRE.2.2.2.mono (by decide) (by decide)⟩
      · show Steps p.tables e below (T99.setTop (mkF m 152 #[.val (.int p1), .val (.int p2), .val (.int p3), .val (.int p4), .val (.int p5), .val (.ref b68), .val (.int (p1 &&& (3 : Int32))), .val (.int (p2 &&& (3 : Int32))), .val (.int (1 : Int32)), .val (.int pv), .val (.int wv), .val (.ref b83), .val (.ref b91), .unset, .unset, .unset] [])) _
        refine XS.iload X99r.here hx rfl (hb hby at_152) rfl ?_
        show Steps p.tables e below (T99.setTop (mkF m 154 #[.val (.int p1), .val (.int p2), .val (.int p3), .val (.int p4), .val (.int p5), .val (.ref b68), .val (.int (p1 &&& (3 : Int32))), .val (.int (p2 &&& (3 : Int32))), .val (.int (1 : Int32)), .val (.int pv), .val (.int wv), .val (.ref b83), .val (.ref b91), .unset, .unset, .unset] [(.int (p1 &&& (3 : Int32)))])) _
        refine XS.iload X99r.here hx rfl (hb hby at_154) rfl ?_
        show Steps p.tables e below (T99.setTop (mkF m 156 #[.val (.int p1), .val (.int p2), .val (.int p3), .val (.int p4), .val (.int p5), .val (.ref b68), .val (.int (p1 &&& (3 : Int32))), .val (.int (p2 &&& (3 : Int32))), .val (.int (1 : Int32)), .val (.int pv), .val (.int wv), .val (.ref b83), .val (.ref b91), .unset, .unset, .unset] [(.int (p2 &&& (3 : Int32))), (.int (p1 &&& (3 : Int32)))])) _
        refine XS.icmpYes X99r.here hx rfl (pc0 := 156) (pc' := 182) rfl (hb hby at_156) rfl (XT.ii_ne_t hkk) (by decide) (by decide) ?_
        show Steps p.tables e below (T99.setTop (mkF m 182 #[.val (.int p1), .val (.int p2), .val (.int p3), .val (.int p4), .val (.int p5), .val (.ref b68), .val (.int (p1 &&& (3 : Int32))), .val (.int (p2 &&& (3 : Int32))), .val (.int (1 : Int32)), .val (.int pv), .val (.int wv), .val (.ref b83), .val (.ref b91), .unset, .unset, .unset] [])) _
        refine XS.iload X99r.here hx rfl (hb hby at_182) rfl ?_
        show Steps p.tables e below (T99.setTop (mkF m 184 #[.val (.int p1), .val (.int p2), .val (.int p3), .val (.int p4), .val (.int p5), .val (.ref b68), .val (.int (p1 &&& (3 : Int32))), .val (.int (p2 &&& (3 : Int32))), .val (.int (1 : Int32)), .val (.int pv), .val (.int wv), .val (.ref b83), .val (.ref b91), .unset, .unset, .unset] [(.int (1 : Int32))])) _
        refine XS.ifNo X99r.here hx rfl (hb hby at_184) rfl (by decide) ?_
        show Steps p.tables e below (T99.setTop (mkF m 187 #[.val (.int p1), .val (.int p2), .val (.int p3), .val (.int p4), .val (.int p5), .val (.ref b68), .val (.int (p1 &&& (3 : Int32))), .val (.int (p2 &&& (3 : Int32))), .val (.int (1 : Int32)), .val (.int pv), .val (.int wv), .val (.ref b83), .val (.ref b91), .unset, .unset, .unset] [])) _
        refine Jvm.Stand.ldc2J X99r hx hown99 (mvT hZ99 (hw _ (List.mem_of_getElem? (i := 56) rfl))) rfl (hb hby at_187) ?_
        show Steps p.tables e below (T99.setTop (mkF m 190 #[.val (.int p1), .val (.int p2), .val (.int p3), .val (.int p4), .val (.int p5), .val (.ref b68), .val (.int (p1 &&& (3 : Int32))), .val (.int (p2 &&& (3 : Int32))), .val (.int (1 : Int32)), .val (.int pv), .val (.int wv), .val (.ref b83), .val (.ref b91), .unset, .unset, .unset] [(.long (12 : Int64))])) _
        refine XS.iload X99r.here hx rfl (hb hby at_190) rfl ?_
        show Steps p.tables e below (T99.setTop (mkF m 192 #[.val (.int p1), .val (.int p2), .val (.int p3), .val (.int p4), .val (.int p5), .val (.ref b68), .val (.int (p1 &&& (3 : Int32))), .val (.int (p2 &&& (3 : Int32))), .val (.int (1 : Int32)), .val (.int pv), .val (.int wv), .val (.ref b83), .val (.ref b91), .unset, .unset, .unset] [(.int wv), (.long (12 : Int64))])) _
        refine XT.i2l X99r.here hx rfl (hb hby at_192) rfl ?_
        show Steps p.tables e below (T99.setTop (mkF m 193 #[.val (.int p1), .val (.int p2), .val (.int p3), .val (.int p4), .val (.int p5), .val (.ref b68), .val (.int (p1 &&& (3 : Int32))), .val (.int (p2 &&& (3 : Int32))), .val (.int (1 : Int32)), .val (.int pv), .val (.int wv), .val (.ref b83), .val (.ref b91), .unset, .unset, .unset] [(.long wv.toInt64), (.long (12 : Int64))])) _
        refine XT.lmul X99r.here hx rfl (hb hby at_193) rfl ?_
        show Steps p.tables e below (T99.setTop (mkF m 194 #[.val (.int p1), .val (.int p2), .val (.int p3), .val (.int p4), .val (.int p5), .val (.ref b68), .val (.int (p1 &&& (3 : Int32))), .val (.int (p2 &&& (3 : Int32))), .val (.int (1 : Int32)), .val (.int pv), .val (.int wv), .val (.ref b83), .val (.ref b91), .unset, .unset, .unset] [(.long ((12 : Int64) * wv.toInt64))])) _
        refine XT.lstore X99r.here hx rfl (hb hby at_194) rfl (l' := #[.val (.int p1), .val (.int p2), .val (.int p3), .val (.int p4), .val (.int p5), .val (.ref b68), .val (.int (p1 &&& (3 : Int32))), .val (.int (p2 &&& (3 : Int32))), .val (.int (1 : Int32)), .val (.int pv), .val (.int wv), .val (.ref b83), .val (.ref b91), .unset, .val (.long ((12 : Int64) * wv.toInt64)), .second]) rfl ?_
        show Steps p.tables e below (T99.setTop (mkF m 196 #[.val (.int p1), .val (.int p2), .val (.int p3), .val (.int p4), .val (.int p5), .val (.ref b68), .val (.int (p1 &&& (3 : Int32))), .val (.int (p2 &&& (3 : Int32))), .val (.int (1 : Int32)), .val (.int pv), .val (.int wv), .val (.ref b83), .val (.ref b91), .unset, .val (.long ((12 : Int64) * wv.toInt64)), .second] [])) _
        refine XT.lload X99r.here hx rfl (hb hby at_196) rfl ?_
        show Steps p.tables e below (T99.setTop (mkF m 198 #[.val (.int p1), .val (.int p2), .val (.int p3), .val (.int p4), .val (.int p5), .val (.ref b68), .val (.int (p1 &&& (3 : Int32))), .val (.int (p2 &&& (3 : Int32))), .val (.int (1 : Int32)), .val (.int pv), .val (.int wv), .val (.ref b83), .val (.ref b91), .unset, .val (.long ((12 : Int64) * wv.toInt64)), .second] [(.long ((12 : Int64) * wv.toInt64))])) _
        refine XS.iload X99r.here hx rfl (hb hby at_198) rfl ?_
        show Steps p.tables e below (T99.setTop (mkF m 200 #[.val (.int p1), .val (.int p2), .val (.int p3), .val (.int p4), .val (.int p5), .val (.ref b68), .val (.int (p1 &&& (3 : Int32))), .val (.int (p2 &&& (3 : Int32))), .val (.int (1 : Int32)), .val (.int pv), .val (.int wv), .val (.ref b83), .val (.ref b91), .unset, .val (.long ((12 : Int64) * wv.toInt64)), .second] [(.int pv), (.long ((12 : Int64) * wv.toInt64))])) _
        refine XT.i2l X99r.here hx rfl (hb hby at_200) rfl ?_
        show Steps p.tables e below (T99.setTop (mkF m 201 #[.val (.int p1), .val (.int p2), .val (.int p3), .val (.int p4), .val (.int p5), .val (.ref b68), .val (.int (p1 &&& (3 : Int32))), .val (.int (p2 &&& (3 : Int32))), .val (.int (1 : Int32)), .val (.int pv), .val (.int wv), .val (.ref b83), .val (.ref b91), .unset, .val (.long ((12 : Int64) * wv.toInt64)), .second] [(.long pv.toInt64), (.long ((12 : Int64) * wv.toInt64))])) _
        refine XT.ldiv X99r.here hx rfl (hb hby at_201) rfl hz64 ?_
        show Steps p.tables e below (T99.setTop (mkF m 202 #[.val (.int p1), .val (.int p2), .val (.int p3), .val (.int p4), .val (.int p5), .val (.ref b68), .val (.int (p1 &&& (3 : Int32))), .val (.int (p2 &&& (3 : Int32))), .val (.int (1 : Int32)), .val (.int pv), .val (.int wv), .val (.ref b83), .val (.ref b91), .unset, .val (.long ((12 : Int64) * wv.toInt64)), .second] [(.long (((12 : Int64) * wv.toInt64) / pv.toInt64))])) _
        refine XS.iload X99r.here hx rfl (hb hby at_202) rfl ?_
        show Steps p.tables e below (T99.setTop (mkF m 204 #[.val (.int p1), .val (.int p2), .val (.int p3), .val (.int p4), .val (.int p5), .val (.ref b68), .val (.int (p1 &&& (3 : Int32))), .val (.int (p2 &&& (3 : Int32))), .val (.int (1 : Int32)), .val (.int pv), .val (.int wv), .val (.ref b83), .val (.ref b91), .unset, .val (.long ((12 : Int64) * wv.toInt64)), .second] [(.int pv), (.long (((12 : Int64) * wv.toInt64) / pv.toInt64))])) _
        refine XT.i2l X99r.here hx rfl (hb hby at_204) rfl ?_
        show Steps p.tables e below (T99.setTop (mkF m 205 #[.val (.int p1), .val (.int p2), .val (.int p3), .val (.int p4), .val (.int p5), .val (.ref b68), .val (.int (p1 &&& (3 : Int32))), .val (.int (p2 &&& (3 : Int32))), .val (.int (1 : Int32)), .val (.int pv), .val (.int wv), .val (.ref b83), .val (.ref b91), .unset, .val (.long ((12 : Int64) * wv.toInt64)), .second] [(.long pv.toInt64), (.long (((12 : Int64) * wv.toInt64) / pv.toInt64))])) _
        refine XT.lmul X99r.here hx rfl (hb hby at_205) rfl ?_
        show Steps p.tables e below (T99.setTop (mkF m 206 #[.val (.int p1), .val (.int p2), .val (.int p3), .val (.int p4), .val (.int p5), .val (.ref b68), .val (.int (p1 &&& (3 : Int32))), .val (.int (p2 &&& (3 : Int32))), .val (.int (1 : Int32)), .val (.int pv), .val (.int wv), .val (.ref b83), .val (.ref b91), .unset, .val (.long ((12 : Int64) * wv.toInt64)), .second] [(.long ((((12 : Int64) * wv.toInt64) / pv.toInt64) * pv.toInt64))])) _
        refine XT.lload X99r.here hx rfl (hb hby at_206) rfl ?_
        show Steps p.tables e below (T99.setTop (mkF m 208 #[.val (.int p1), .val (.int p2), .val (.int p3), .val (.int p4), .val (.int p5), .val (.ref b68), .val (.int (p1 &&& (3 : Int32))), .val (.int (p2 &&& (3 : Int32))), .val (.int (1 : Int32)), .val (.int pv), .val (.int wv), .val (.ref b83), .val (.ref b91), .unset, .val (.long ((12 : Int64) * wv.toInt64)), .second] [(.long ((12 : Int64) * wv.toInt64)), (.long ((((12 : Int64) * wv.toInt64) / pv.toInt64) * pv.toInt64))])) _
        refine XT.lcmp X99r.here hx rfl (hb hby at_208) rfl ?_
        show Steps p.tables e below (T99.setTop (mkF m 209 #[.val (.int p1), .val (.int p2), .val (.int p3), .val (.int p4), .val (.int p5), .val (.ref b68), .val (.int (p1 &&& (3 : Int32))), .val (.int (p2 &&& (3 : Int32))), .val (.int (1 : Int32)), .val (.int pv), .val (.int wv), .val (.ref b83), .val (.ref b91), .unset, .val (.long ((12 : Int64) * wv.toInt64)), .second] [(.int (XT.cmpL ((((12 : Int64) * wv.toInt64) / pv.toInt64) * pv.toInt64) ((12 : Int64) * wv.toInt64)))])) _
        refine XS.ifYes X99r.here hx rfl (pc0 := 209) (pc' := 216) rfl (hb hby at_209) rfl (XT.ll_ne_t (fun q => hc ((own_cross fpv fwv fw2).mpr q))) (by decide) (by decide) ?_
        show Steps p.tables e below (T99.setTop (mkF m 216 #[.val (.int p1), .val (.int p2), .val (.int p3), .val (.int p4), .val (.int p5), .val (.ref b68), .val (.int (p1 &&& (3 : Int32))), .val (.int (p2 &&& (3 : Int32))), .val (.int (1 : Int32)), .val (.int pv), .val (.int wv), .val (.ref b83), .val (.ref b91), .unset, .val (.long ((12 : Int64) * wv.toInt64)), .second] [])) _
        refine XT.iconstV X99r.here hx rfl (0 : Int32) (hb hby at_216) rfl ?_
        show Steps p.tables e below (T99.setTop (mkF m 217 #[.val (.int p1), .val (.int p2), .val (.int p3), .val (.int p4), .val (.int p5), .val (.ref b68), .val (.int (p1 &&& (3 : Int32))), .val (.int (p2 &&& (3 : Int32))), .val (.int (1 : Int32)), .val (.int pv), .val (.int wv), .val (.ref b83), .val (.ref b91), .unset, .val (.long ((12 : Int64) * wv.toInt64)), .second] [(.int (0 : Int32))])) _
        refine XS.istore X99r.here hx rfl (hb hby at_217) rfl (l' := #[.val (.int p1), .val (.int p2), .val (.int p3), .val (.int p4), .val (.int p5), .val (.ref b68), .val (.int (p1 &&& (3 : Int32))), .val (.int (p2 &&& (3 : Int32))), .val (.int (1 : Int32)), .val (.int pv), .val (.int wv), .val (.ref b83), .val (.ref b91), .val (.int (0 : Int32)), .val (.long ((12 : Int64) * wv.toInt64)), .second]) rfl ?_
        show Steps p.tables e below (T99.setTop (mkF m 219 #[.val (.int p1), .val (.int p2), .val (.int p3), .val (.int p4), .val (.int p5), .val (.ref b68), .val (.int (p1 &&& (3 : Int32))), .val (.int (p2 &&& (3 : Int32))), .val (.int (1 : Int32)), .val (.int pv), .val (.int wv), .val (.ref b83), .val (.ref b91), .val (.int (0 : Int32)), .val (.long ((12 : Int64) * wv.toInt64)), .second] [])) _
        refine XS.goto X99r.here hx rfl (pc0 := 219) (pc' := 240) rfl (hb hby at_219) (by decide) (by decide) ?_
        show Steps p.tables e below (T99.setTop (mkF m 240 #[.val (.int p1), .val (.int p2), .val (.int p3), .val (.int p4), .val (.int p5), .val (.ref b68), .val (.int (p1 &&& (3 : Int32))), .val (.int (p2 &&& (3 : Int32))), .val (.int (1 : Int32)), .val (.int pv), .val (.int wv), .val (.ref b83), .val (.ref b91), .val (.int (0 : Int32)), .val (.long ((12 : Int64) * wv.toInt64)), .second] [])) _
        refine XS.aload X99r.here hx rfl (hb hby at_240) rfl rfl ?_
        show Steps p.tables e below (T99.setTop (mkF m 242 #[.val (.int p1), .val (.int p2), .val (.int p3), .val (.int p4), .val (.int p5), .val (.ref b68), .val (.int (p1 &&& (3 : Int32))), .val (.int (p2 &&& (3 : Int32))), .val (.int (1 : Int32)), .val (.int pv), .val (.int wv), .val (.ref b83), .val (.ref b91), .val (.int (0 : Int32)), .val (.long ((12 : Int64) * wv.toInt64)), .second] [(.ref b83)])) _
        refine XS.aload X99r.here hx rfl (hb hby at_242) rfl rfl ?_
        show Steps p.tables e below (T99.setTop (mkF m 244 #[.val (.int p1), .val (.int p2), .val (.int p3), .val (.int p4), .val (.int p5), .val (.ref b68), .val (.int (p1 &&& (3 : Int32))), .val (.int (p2 &&& (3 : Int32))), .val (.int (1 : Int32)), .val (.int pv), .val (.int wv), .val (.ref b83), .val (.ref b91), .val (.int (0 : Int32)), .val (.long ((12 : Int64) * wv.toInt64)), .second] [(.ref b91), (.ref b83)])) _
        refine st108.trans ?_
        show Steps p.tables e below (T108.setTop (mkF m 247 #[.val (.int p1), .val (.int p2), .val (.int p3), .val (.int p4), .val (.int p5), .val (.ref b68), .val (.int (p1 &&& (3 : Int32))), .val (.int (p2 &&& (3 : Int32))), .val (.int (1 : Int32)), .val (.int pv), .val (.int wv), .val (.ref b83), .val (.ref b91), .val (.int (0 : Int32)), .val (.long ((12 : Int64) * wv.toInt64)), .second] [(.int (0 : Int32))])) _
        refine XS.iload X108.here hx rfl (hb hby at_247) rfl ?_
        show Steps p.tables e below (T108.setTop (mkF m 249 #[.val (.int p1), .val (.int p2), .val (.int p3), .val (.int p4), .val (.int p5), .val (.ref b68), .val (.int (p1 &&& (3 : Int32))), .val (.int (p2 &&& (3 : Int32))), .val (.int (1 : Int32)), .val (.int pv), .val (.int wv), .val (.ref b83), .val (.ref b91), .val (.int (0 : Int32)), .val (.long ((12 : Int64) * wv.toInt64)), .second] [(.int (0 : Int32)), (.int (0 : Int32))])) _
        refine XS.icmpNo X108.here hx rfl (hb hby at_249) rfl (by decide) ?_
        show Steps p.tables e below (T108.setTop (mkF m 252 #[.val (.int p1), .val (.int p2), .val (.int p3), .val (.int p4), .val (.int p5), .val (.ref b68), .val (.int (p1 &&& (3 : Int32))), .val (.int (p2 &&& (3 : Int32))), .val (.int (1 : Int32)), .val (.int pv), .val (.int wv), .val (.ref b83), .val (.ref b91), .val (.int (0 : Int32)), .val (.long ((12 : Int64) * wv.toInt64)), .second] [])) _
        refine XT.iconstV X108.here hx rfl (1 : Int32) (hb hby at_252) rfl ?_
        show Steps p.tables e below (T108.setTop (mkF m 253 #[.val (.int p1), .val (.int p2), .val (.int p3), .val (.int p4), .val (.int p5), .val (.ref b68), .val (.int (p1 &&& (3 : Int32))), .val (.int (p2 &&& (3 : Int32))), .val (.int (1 : Int32)), .val (.int pv), .val (.int wv), .val (.ref b83), .val (.ref b91), .val (.int (0 : Int32)), .val (.long ((12 : Int64) * wv.toInt64)), .second] [(.int (1 : Int32))])) _
        refine XS.goto X108.here hx rfl (pc0 := 253) (pc' := 257) rfl (hb hby at_253) (by decide) (by decide) ?_
        show Steps p.tables e below (T108.setTop (mkF m 257 #[.val (.int p1), .val (.int p2), .val (.int p3), .val (.int p4), .val (.int p5), .val (.ref b68), .val (.int (p1 &&& (3 : Int32))), .val (.int (p2 &&& (3 : Int32))), .val (.int (1 : Int32)), .val (.int pv), .val (.int wv), .val (.ref b83), .val (.ref b91), .val (.int (0 : Int32)), .val (.long ((12 : Int64) * wv.toInt64)), .second] [(.int (1 : Int32))])) _
        exact retN X108 hx (t := .boolean) Bd.returns (by simp) (hb hby at_257) hr
      · show own_Q0 n0 _ T108.heap _
        exact ⟨rfl, N108⟩
  · obtain ⟨T109, h109, X109, e109, E109, A109, D109, -, st109⟩ := newO Y hx hZ hown (hw _ (List.mem_of_getElem? (i := 17) rfl)) (hw _ (List.mem_of_getElem? (i := 18) rfl)) (hw _ (List.mem_of_getElem? (i := 19) rfl)) eU (g := (mkF m 120 #[.val (.int p1), .val (.int p2), .val (.int p3), .val (.int p4), .val (.int p5), .val (.ref b68), .val (.int (p1 &&& (3 : Int32))), .val (.int (p2 &&& (3 : Int32))), .val (.int (0 : Int32)), .val (.int pv), .val (.int wv), .unset, .unset, .unset, .unset, .unset] [])) rfl (hb hby at_120) (by decide) (by decide)
    obtain ⟨b109, g109⟩ : ∃ z, z = h76.size := ⟨_, rfl⟩
    rw [← g109] at A109 D109 st109
    have q109 : h0.size ≤ b109 := by rw [g109]; exact EX76.1
    have ne_b68_b109 : b68 ≠ b109 := by rw [g109]; exact Nat.ne_of_lt V76.lt
    have V76_110 := V76.ext E109
    have EX109 : Ext h0 h109 := own_ext_trans EX76 E109
    have Z109 : n0 ≤ h109.size := Nat.le_trans Z0 EX109.1
    have Funit_111 : Fld Z h109 b109 "com/example/chitragupta/chitragupta/rating/Span" "unit" "Lcom/example/chitragupta/chitragupta/rating/Span$Unit;" .null := D109 (Or.inr (hw _ (List.mem_of_getElem? (i := 44) rfl))) (ty := (.object "com/example/chitragupta/chitragupta/rating/Span$Unit")) (by decide)
    have Fvalue_112 : Fld Z h109 b109 "com/example/chitragupta/chitragupta/rating/Span" "value" "I" (.int (0 : Int32)) := D109 (Or.inr (hw _ (List.mem_of_getElem? (i := 46) rfl))) (ty := .int) (by decide)
    have V113x : Arv Z h109 b68 k68 (.object "com/example/chitragupta/chitragupta/rating/Span$Unit") (4 : Int32) [(.ref w0), (.ref w1), (.ref w2), (.ref w3)] .null := V76_110
    obtain ⟨cl113, Ar113, Q113, H113⟩ := own_at V113x (j := (p1 &&& (3 : Int32))) (v := (.ref u1)) (own_inb hk1) (by rw [hu1]; exact own_uat hk1)
    obtain ⟨_, _, ⟨T114, L114, k114, n114⟩, -, X114, hSb114, gb114, ⟨Lc114, hQ114, l114, y114, z114⟩, st114⟩ := X109.specialBackS hx (y := (⟨"com/example/chitragupta/chitragupta/rating/Span", "<init>", "(Lcom/example/chitragupta/chitragupta/rating/Span$Unit;I)V"⟩ : MethodName)) rfl hown (mvT hZ (hw _ (List.mem_of_getElem? (i := 20) rfl))) (mvT hZ (hw _ (List.mem_of_getElem? (i := 21) rfl))) (mvT hZ (hw _ (List.mem_of_getElem? (i := 22) rfl))) (by decide) (backOfS (W := 1) (own_init l Z a0 hw [] b109 u1 pv h109 n0 Z109 A109 Funit_111 Fvalue_112 (Nat.le_trans Z0 q109) fpv) hZ (hw _ (List.mem_of_getElem? (i := 22) rfl)) (hw _ (List.mem_of_getElem? (i := 19) rfl)) (by decide) (by decide)) (g := (mkF m 131 #[.val (.int p1), .val (.int p2), .val (.int p3), .val (.int p4), .val (.int p5), .val (.ref b68), .val (.int (p1 &&& (3 : Int32))), .val (.int (p2 &&& (3 : Int32))), .val (.int (0 : Int32)), .val (.int pv), .val (.int wv), .unset, .unset, .unset, .unset, .unset] [(.int pv), (.ref u1), (.ref b109), (.ref b109)])) rfl (by rw [hml]; rfl) (Steps.refl _) (a := b109) (argsL := [(.ref u1), (.int pv)]) (rest := [(.ref b109)]) (lenOf pd__Lcom_example_chitragupta_chitragupta_rating_Span_Unit_I_V rfl) rfl (by show 2 * 0 + _ ≤ _; exact Nat.le_of_eq rfl) (hb hby at_131) (fun _ _ => ⟨rfl, e109, (by decide : 2 + 2 ≤ _), (by decide : 6 + 20 ≤ _)⟩)
    dsimp only [Pt.U, Pt.locs, Pt.cells, Pt.slots] at X114 hSb114 gb114 l114 y114 z114 st114 hQ114
    subst l114 y114 z114
    obtain ⟨X114r, hS114, hZ114, hown114⟩ := rebS (s := s) (vm0 := s.vm) ((State.WarmedH.refl s).since 0) (Nat.le_trans (Nat.zero_le _) (Nat.le_of_eq (congrArg Array.size e109.symm))) X114 hSb114 gb114 hZ hown
    obtain ⟨rfl, N114q, K114q, Fa114, Fb114⟩ := hQ114
    have N114 := Fr.app NU N114q
    have V76_115 := V76_110.keep K114q (ninS ne_b68_b109 nin0)
    have A109_116 := A109.keep K114q
    have EX114 : Ext h0 T114.heap := own_ext_keep EX109 K114q (allS q109 all0)
    have Z114 : n0 ≤ T114.heap.size := Nat.le_trans Z0 EX114.1
    obtain ⟨T117, h117, X117, e117, E117, A117, D117, -, st117⟩ := newO X114r hx hZ114 hown114 (hw _ (List.mem_of_getElem? (i := 17) rfl)) (hw _ (List.mem_of_getElem? (i := 18) rfl)) (hw _ (List.mem_of_getElem? (i := 19) rfl)) rfl (g := (mkF m 136 #[.val (.int p1), .val (.int p2), .val (.int p3), .val (.int p4), .val (.int p5), .val (.ref b68), .val (.int (p1 &&& (3 : Int32))), .val (.int (p2 &&& (3 : Int32))), .val (.int (0 : Int32)), .val (.int pv), .val (.int wv), .val (.ref b109), .unset, .unset, .unset, .unset] [])) rfl (hb hby at_136) (by decide) (by decide)
    obtain ⟨b117, g117⟩ : ∃ z, z = T114.heap.size := ⟨_, rfl⟩
    rw [← g117] at A117 D117 st117
    have q117 : h0.size ≤ b117 := by rw [g117]; exact EX114.1
    have ne_b68_b117 : b68 ≠ b117 := by rw [g117]; exact Nat.ne_of_lt V76_115.lt
    have ne_b109_b117 : b109 ≠ b117 := by rw [g117]; exact Nat.ne_of_lt A109_116.lt
    have V76_118 := V76_115.ext E117
    have A109_119 := A109_116.ext E117
    have Fa114_120 := Fa114.ext E117
    have Fb114_121 := Fb114.ext E117
    have EX117 : Ext h0 h117 := own_ext_trans EX114 E117
    have Z117 : n0 ≤ h117.size := Nat.le_trans Z0 EX117.1
    have hk117 := Nat.le_trans (Nat.le_refl _) (E117).1
    have Funit_122 : Fld Z h117 b117 "com/example/chitragupta/chitragupta/rating/Span" "unit" "Lcom/example/chitragupta/chitragupta/rating/Span$Unit;" .null := D117 (Or.inr (hw _ (List.mem_of_getElem? (i := 44) rfl))) (ty := (.object "com/example/chitragupta/chitragupta/rating/Span$Unit")) (by decide)
    have Fvalue_123 : Fld Z h117 b117 "com/example/chitragupta/chitragupta/rating/Span" "value" "I" (.int (0 : Int32)) := D117 (Or.inr (hw _ (List.mem_of_getElem? (i := 46) rfl))) (ty := .int) (by decide)
    have V124x : Arv Z h117 b68 k68 (.object "com/example/chitragupta/chitragupta/rating/Span$Unit") (4 : Int32) [(.ref w0), (.ref w1), (.ref w2), (.ref w3)] .null := V76_118
    obtain ⟨cl124, Ar124, Q124, H124⟩ := own_at V124x (j := (p2 &&& (3 : Int32))) (v := (.ref u2)) (own_inb hk2) (by rw [hu2]; exact own_uat hk2)
    obtain ⟨_, _, ⟨T125, L125, k125, n125⟩, -, X125, hSb125, gb125, ⟨Lc125, hQ125, l125, y125, z125⟩, st125⟩ := X117.specialBackS hx (y := (⟨"com/example/chitragupta/chitragupta/rating/Span", "<init>", "(Lcom/example/chitragupta/chitragupta/rating/Span$Unit;I)V"⟩ : MethodName)) rfl hown114 (mvT hZ114 (hw _ (List.mem_of_getElem? (i := 20) rfl))) (mvT hZ114 (hw _ (List.mem_of_getElem? (i := 21) rfl))) (mvT hZ114 (hw _ (List.mem_of_getElem? (i := 22) rfl))) (by decide) (backOfS (W := 1) (own_init l Z a0 hw [] b117 u2 wv h117 n0 Z117 A117 Funit_122 Fvalue_123 (Nat.le_trans Z0 q117) fwv) hZ114 (hw _ (List.mem_of_getElem? (i := 22) rfl)) (hw _ (List.mem_of_getElem? (i := 19) rfl)) (by decide) (by decide)) (g := (mkF m 147 #[.val (.int p1), .val (.int p2), .val (.int p3), .val (.int p4), .val (.int p5), .val (.ref b68), .val (.int (p1 &&& (3 : Int32))), .val (.int (p2 &&& (3 : Int32))), .val (.int (0 : Int32)), .val (.int pv), .val (.int wv), .val (.ref b109), .unset, .unset, .unset, .unset] [(.int wv), (.ref u2), (.ref b117), (.ref b117)])) rfl (by rw [hml]; rfl) (Steps.refl _) (a := b117) (argsL := [(.ref u2), (.int wv)]) (rest := [(.ref b117)]) (lenOf pd__Lcom_example_chitragupta_chitragupta_rating_Span_Unit_I_V rfl) rfl (by show 2 * 0 + _ ≤ _; exact Nat.le_of_eq rfl) (hb hby at_147) (fun _ _ => ⟨rfl, e117, (by decide : 5 + 2 ≤ _), (by decide : 28 + 20 ≤ _)⟩)
    dsimp only [Pt.U, Pt.locs, Pt.cells, Pt.slots] at X125 hSb125 gb125 l125 y125 z125 st125 hQ125
    subst l125 y125 z125
    obtain ⟨X125r, hS125, hZ125, hown125⟩ := rebS (s := s) (vm0 := T114.vm) hS114 (Nat.le_trans hk117 (Nat.le_of_eq (congrArg Array.size e117.symm))) X125 hSb125 gb125 hZ114 hown114
    obtain ⟨rfl, N125q, K125q, Fa125, Fb125⟩ := hQ125
    have N125 := Fr.app N114 N125q
    have V76_126 := V76_118.keep K125q (ninS ne_b68_b117 nin0)
    have A109_127 := A109_119.keep K125q
    have Fa114_128 := Fa114_120.keep K125q (ninS ne_b109_b117 nin0)
    have Fb114_129 := Fb114_121.keep K125q (ninS ne_b109_b117 nin0)
    have A117_130 := A117.keep K125q
    have EX125 : Ext h0 T125.heap := own_ext_keep EX117 K125q (allS q117 all0)
    have Z125 : n0 ≤ T125.heap.size := Nat.le_trans Z0 EX125.1
    have pre4 : ∀ t, Steps p.tables e below (T125.setTop (mkF m 152 #[.val (.int p1), .val (.int p2), .val (.int p3), .val (.int p4), .val (.int p5), .val (.ref b68), .val (.int (p1 &&& (3 : Int32))), .val (.int (p2 &&& (3 : Int32))), .val (.int (0 : Int32)), .val (.int pv), .val (.int wv), .val (.ref b109), .val (.ref b117), .unset, .unset, .unset] [])) t → Steps p.tables e below (U.setTop (mkF m 120 #[.val (.int p1), .val (.int p2), .val (.int p3), .val (.int p4), .val (.int p5), .val (.ref b68), .val (.int (p1 &&& (3 : Int32))), .val (.int (p2 &&& (3 : Int32))), .val (.int (0 : Int32)), .val (.int pv), .val (.int wv), .unset, .unset, .unset, .unset, .unset] [])) t := by
      intro t kk
      show Steps p.tables e below (U.setTop (mkF m 120 #[.val (.int p1), .val (.int p2), .val (.int p3), .val (.int p4), .val (.int p5), .val (.ref b68), .val (.int (p1 &&& (3 : Int32))), .val (.int (p2 &&& (3 : Int32))), .val (.int (0 : Int32)), .val (.int pv), .val (.int wv), .unset, .unset, .unset, .unset, .unset] [])) _
      refine st109 _ ?_
      show Steps p.tables e below (T109.setTop (mkF m 123 #[.val (.int p1), .val (.int p2), .val (.int p3), .val (.int p4), .val (.int p5), .val (.ref b68), .val (.int (p1 &&& (3 : Int32))), .val (.int (p2 &&& (3 : Int32))), .val (.int (0 : Int32)), .val (.int pv), .val (.int wv), .unset, .unset, .unset, .unset, .unset] [(.ref b109)])) _
      refine XS.dup X109.here hx rfl (hb hby at_123) rfl rfl ?_
      show Steps p.tables e below (T109.setTop (mkF m 124 #[.val (.int p1), .val (.int p2), .val (.int p3), .val (.int p4), .val (.int p5), .val (.ref b68), .val (.int (p1 &&& (3 : Int32))), .val (.int (p2 &&& (3 : Int32))), .val (.int (0 : Int32)), .val (.int pv), .val (.int wv), .unset, .unset, .unset, .unset, .unset] [(.ref b109), (.ref b109)])) _
      refine XS.aload X109.here hx rfl (hb hby at_124) rfl rfl ?_
      show Steps p.tables e below (T109.setTop (mkF m 126 #[.val (.int p1), .val (.int p2), .val (.int p3), .val (.int p4), .val (.int p5), .val (.ref b68), .val (.int (p1 &&& (3 : Int32))), .val (.int (p2 &&& (3 : Int32))), .val (.int (0 : Int32)), .val (.int pv), .val (.int wv), .unset, .unset, .unset, .unset, .unset] [(.ref b68), (.ref b109), (.ref b109)])) _
      refine XS.iload X109.here hx rfl (hb hby at_126) rfl ?_
      show Steps p.tables e below (T109.setTop (mkF m 128 #[.val (.int p1), .val (.int p2), .val (.int p3), .val (.int p4), .val (.int p5), .val (.ref b68), .val (.int (p1 &&& (3 : Int32))), .val (.int (p2 &&& (3 : Int32))), .val (.int (0 : Int32)), .val (.int pv), .val (.int wv), .unset, .unset, .unset, .unset, .unset] [(.int (p1 &&& (3 : Int32))), (.ref b68), (.ref b109), (.ref b109)])) _
      refine X109.aaload hx (j := (p1 &&& (3 : Int32))) (v := (.ref u1)) (by rw [e109]; exact Ar113.1) (State.isArrayOf_alike hZ.alike Ar113.2.1) rfl Ar113.2.2 Q113 H113 (g := (mkF m 128 #[.val (.int p1), .val (.int p2), .val (.int p3), .val (.int p4), .val (.int p5), .val (.ref b68), .val (.int (p1 &&& (3 : Int32))), .val (.int (p2 &&& (3 : Int32))), .val (.int (0 : Int32)), .val (.int pv), .val (.int wv), .unset, .unset, .unset, .unset, .unset] [(.int (p1 &&& (3 : Int32))), (.ref b68), (.ref b109), (.ref b109)])) rfl rfl (hb hby at_128) _ ?_
      show Steps p.tables e below (T109.setTop (mkF m 129 #[.val (.int p1), .val (.int p2), .val (.int p3), .val (.int p4), .val (.int p5), .val (.ref b68), .val (.int (p1 &&& (3 : Int32))), .val (.int (p2 &&& (3 : Int32))), .val (.int (0 : Int32)), .val (.int pv), .val (.int wv), .unset, .unset, .unset, .unset, .unset] [(.ref u1), (.ref b109), (.ref b109)])) _
      refine XS.iload X109.here hx rfl (hb hby at_129) rfl ?_
      show Steps p.tables e below (T109.setTop (mkF m 131 #[.val (.int p1), .val (.int p2), .val (.int p3), .val (.int p4), .val (.int p5), .val (.ref b68), .val (.int (p1 &&& (3 : Int32))), .val (.int (p2 &&& (3 : Int32))), .val (.int (0 : Int32)), .val (.int pv), .val (.int wv), .unset, .unset, .unset, .unset, .unset] [(.int pv), (.ref u1), (.ref b109), (.ref b109)])) _
      refine st114.trans ?_
      show Steps p.tables e below (T114.setTop (mkF m 134 #[.val (.int p1), .val (.int p2), .val (.int p3), .val (.int p4), .val (.int p5), .val (.ref b68), .val (.int (p1 &&& (3 : Int32))), .val (.int (p2 &&& (3 : Int32))), .val (.int (0 : Int32)), .val (.int pv), .val (.int wv), .unset, .unset, .unset, .unset, .unset] [(.ref b109)])) _
      refine XS.astore X114r.here hx rfl (hb hby at_134) rfl rfl (l' := #[.val (.int p1), .val (.int p2), .val (.int p3), .val (.int p4), .val (.int p5), .val (.ref b68), .val (.int (p1 &&& (3 : Int32))), .val (.int (p2 &&& (3 : Int32))), .val (.int (0 : Int32)), .val (.int pv), .val (.int wv), .val (.ref b109), .unset, .unset, .unset, .unset]) rfl ?_
      show Steps p.tables e below (T114.setTop (mkF m 136 #[.val (.int p1), .val (.int p2), .val (.int p3), .val (.int p4), .val (.int p5), .val (.ref b68), .val (.int (p1 &&& (3 : Int32))), .val (.int (p2 &&& (3 : Int32))), .val (.int (0 : Int32)), .val (.int pv), .val (.int wv), .val (.ref b109), .unset, .unset, .unset, .unset] [])) _
      refine st117 _ ?_
      show Steps p.tables e below (T117.setTop (mkF m 139 #[.val (.int p1), .val (.int p2), .val (.int p3), .val (.int p4), .val (.int p5), .val (.ref b68), .val (.int (p1 &&& (3 : Int32))), .val (.int (p2 &&& (3 : Int32))), .val (.int (0 : Int32)), .val (.int pv), .val (.int wv), .val (.ref b109), .unset, .unset, .unset, .unset] [(.ref b117)])) _
      refine XS.dup X117.here hx rfl (hb hby at_139) rfl rfl ?_
      show Steps p.tables e below (T117.setTop (mkF m 140 #[.val (.int p1), .val (.int p2), .val (.int p3), .val (.int p4), .val (.int p5), .val (.ref b68), .val (.int (p1 &&& (3 : Int32))), .val (.int (p2 &&& (3 : Int32))), .val (.int (0 : Int32)), .val (.int pv), .val (.int wv), .val (.ref b109), .unset, .unset, .unset, .unset] [(.ref b117), (.ref b117)])) _
      refine XS.aload X117.here hx rfl (hb hby at_140) rfl rfl ?_
      show Steps p.tables e below (T117.setTop (mkF m 142 #[.val (.int p1), .val (.int p2), .val (.int p3), .val (.int p4), .val (.int p5), .val (.ref b68), .val (.int (p1 &&& (3 : Int32))), .val (.int (p2 &&& (3 : Int32))), .val (.int (0 : Int32)), .val (.int pv), .val (.int wv), .val (.ref b109), .unset, .unset, .unset, .unset] [(.ref b68), (.ref b117), (.ref b117)])) _
      refine XS.iload X117.here hx rfl (hb hby at_142) rfl ?_
      show Steps p.tables e below (T117.setTop (mkF m 144 #[.val (.int p1), .val (.int p2), .val (.int p3), .val (.int p4), .val (.int p5), .val (.ref b68), .val (.int (p1 &&& (3 : Int32))), .val (.int (p2 &&& (3 : Int32))), .val (.int (0 : Int32)), .val (.int pv), .val (.int wv), .val (.ref b109), .unset, .unset, .unset, .unset] [(.int (p2 &&& (3 : Int32))), (.ref b68), (.ref b117), (.ref b117)])) _
      refine X117.aaload hx (j := (p2 &&& (3 : Int32))) (v := (.ref u2)) (by rw [e117]; exact Ar124.1) (State.isArrayOf_alike hZ114.alike Ar124.2.1) rfl Ar124.2.2 Q124 H124 (g := (mkF m 144 #[.val (.int p1), .val (.int p2), .val (.int p3), .val (.int p4), .val (.int p5), .val (.ref b68), .val (.int (p1 &&& (3 : Int32))), .val (.int (p2 &&& (3 : Int32))), .val (.int (0 : Int32)), .val (.int pv), .val (.int wv), .val (.ref b109), .unset, .unset, .unset, .unset] [(.int (p2 &&& (3 : Int32))), (.ref b68), (.ref b117), (.ref b117)])) rfl rfl (hb hby at_144) _ ?_
      show Steps p.tables e below (T117.setTop (mkF m 145 #[.val (.int p1), .val (.int p2), .val (.int p3), .val (.int p4), .val (.int p5), .val (.ref b68), .val (.int (p1 &&& (3 : Int32))), .val (.int (p2 &&& (3 : Int32))), .val (.int (0 : Int32)), .val (.int pv), .val (.int wv), .val (.ref b109), .unset, .unset, .unset, .unset] [(.ref u2), (.ref b117), (.ref b117)])) _
      refine XS.iload X117.here hx rfl (hb hby at_145) rfl ?_
      show Steps p.tables e below (T117.setTop (mkF m 147 #[.val (.int p1), .val (.int p2), .val (.int p3), .val (.int p4), .val (.int p5), .val (.ref b68), .val (.int (p1 &&& (3 : Int32))), .val (.int (p2 &&& (3 : Int32))), .val (.int (0 : Int32)), .val (.int pv), .val (.int wv), .val (.ref b109), .unset, .unset, .unset, .unset] [(.int wv), (.ref u2), (.ref b117), (.ref b117)])) _
      refine st125.trans ?_
      show Steps p.tables e below (T125.setTop (mkF m 150 #[.val (.int p1), .val (.int p2), .val (.int p3), .val (.int p4), .val (.int p5), .val (.ref b68), .val (.int (p1 &&& (3 : Int32))), .val (.int (p2 &&& (3 : Int32))), .val (.int (0 : Int32)), .val (.int pv), .val (.int wv), .val (.ref b109), .unset, .unset, .unset, .unset] [(.ref b117)])) _
      refine XS.astore X125r.here hx rfl (hb hby at_150) rfl rfl (l' := #[.val (.int p1), .val (.int p2), .val (.int p3), .val (.int p4), .val (.int p5), .val (.ref b68), .val (.int (p1 &&& (3 : Int32))), .val (.int (p2 &&& (3 : Int32))), .val (.int (0 : Int32)), .val (.int pv), .val (.int wv), .val (.ref b109), .val (.ref b117), .unset, .unset, .unset]) rfl ?_
      show Steps p.tables e below (T125.setTop (mkF m 152 #[.val (.int p1), .val (.int p2), .val (.int p3), .val (.int p4), .val (.int p5), .val (.ref b68), .val (.int (p1 &&& (3 : Int32))), .val (.int (p2 &&& (3 : Int32))), .val (.int (0 : Int32)), .val (.int pv), .val (.int wv), .val (.ref b109), .val (.ref b117), .unset, .unset, .unset] [])) _
      exact kk
    by_cases hkk : (p1 &&& (3 : Int32)) = (p2 &&& (3 : Int32))
    · have huu : u2 = u1 := by rw [hu1, hu2, hkk]
      by_cases hc : (wv % pv) = 0
      · have FY131 : Fld Z T125.heap b117 "com/example/chitragupta/chitragupta/rating/Span" "unit" "Lcom/example/chitragupta/chitragupta/rating/Span$Unit;" (.ref u1) := by rw [← huu]; exact Fa125
        obtain ⟨cq132, kq132, q132a, q132b, q132c⟩ := isOf hZ125 rfl A109_127
        obtain ⟨_, _, ⟨T132, L132, k132, n132⟩, -, X132, ⟨Lc132, hQ132, l132, y132, z132⟩, st132⟩ := X125r.virtualBack hx (y := (⟨"com/example/chitragupta/chitragupta/rating/Span", "divides", "(Lcom/example/chitragupta/chitragupta/rating/Span;)Z"⟩ : MethodName)) (z := (⟨"com/example/chitragupta/chitragupta/rating/Span", "divides", "(Lcom/example/chitragupta/chitragupta/rating/Span;)Z"⟩ : MethodName)) hown125 (mvT hZ125 (hw _ (List.mem_of_getElem? (i := 47) rfl))) (mvT hZ125 (hw _ (List.mem_of_getElem? (i := 48) rfl))) (notFace_of_selects (args := #[]) (mvT hZ125 (hw _ (List.mem_of_getElem? (i := 50) rfl)))) (mvT hZ125 (hw _ (List.mem_of_getElem? (i := 50) rfl))) (mvT hZ125 (hw _ (List.mem_of_getElem? (i := 49) rfl))) (by decide) (backOf (W := 0) (own_div_same_y l Z a0 hw [] b109 b117 u1 u2 pv wv w0 w1 w2 w3 T125.heap n0 Z125 (own_P_ext P EX125) Fa114_128 Fb114_129 FY131 Fb125 hz hc) hZ125 (hw _ (List.mem_of_getElem? (i := 51) rfl)) (hw _ (List.mem_of_getElem? (i := 19) rfl)) (by decide) (by decide)) q132a q132c (g := (mkF m 244 #[.val (.int p1), .val (.int p2), .val (.int p3), .val (.int p4), .val (.int p5), .val (.ref b68), .val (.int (p1 &&& (3 : Int32))), .val (.int (p2 &&& (3 : Int32))), .val (.int (0 : Int32)), .val (.int pv), .val (.int wv), .val (.ref b109), .val (.ref b117), .val (.int (1 : Int32)), .unset, .unset] [(.ref b117), (.ref b109)])) rfl (by rw [hml]; rfl) (Steps.refl _) (argsL := [(.ref b117)]) (rest := []) (lenOf pd__Lcom_example_chitragupta_chitragupta_rating_Span__Z rfl) rfl (by show 2 * 0 + _ ≤ _; exact Nat.le_of_eq rfl) (hb hby at_244) (fun _ _ => ⟨rfl, rfl, (by decide : 7 + 0 ≤ _), (by decide : 48 + 0 ≤ _)⟩)
        dsimp only [Pt.U, Pt.locs, Pt.cells, Pt.slots] at X132 l132 y132 z132 st132 hQ132
        subst l132 y132 z132
        obtain ⟨rfl, N132q, e132⟩ := hQ132
        have N132 := Fr.app N125 N132q
        obtain ⟨fs, hr, hrun, hended, hRE⟩ := Jvm.Stand.leaveW (s := s) (vm₁ := T125.vm) X132 hS125 (Nat.le_trans (Nat.le_refl _) (Nat.le_of_eq (congrArg Array.size e132.symm))) (v := some (.int (1 : Int32))) (fun h => by rw [Bd.returns] at h; cases h)
        refine ⟨_, _, pre0 _ (pre1 _ (thru _ (pre4 _ ?_))), hrun, hended, _, _, rfl, ?_, ⟨_, rfl⟩, hRE.2.1, hRE.2.2.1, hRE.2.2.2.mono (by decide) (by decide)⟩
        · show Steps p.tables e below (T125.setTop (mkF m 152 #[.val (.int p1), .val (.int p2), .val (.int p3), .val (.int p4), .val (.int p5), .val (.ref b68), .val (.int (p1 &&& (3 : Int32))), .val (.int (p2 &&& (3 : Int32))), .val (.int (0 : Int32)), .val (.int pv), .val (.int wv), .val (.ref b109), .val (.ref b117), .unset, .unset, .unset] [])) _
          refine XS.iload X125r.here hx rfl (hb hby at_152) rfl ?_
          show Steps p.tables e below (T125.setTop (mkF m 154 #[.val (.int p1), .val (.int p2), .val (.int p3), .val (.int p4), .val (.int p5), .val (.ref b68), .val (.int (p1 &&& (3 : Int32))), .val (.int (p2 &&& (3 : Int32))), .val (.int (0 : Int32)), .val (.int pv), .val (.int wv), .val (.ref b109), .val (.ref b117), .unset, .unset, .unset] [(.int (p1 &&& (3 : Int32)))])) _
          refine XS.iload X125r.here hx rfl (hb hby at_154) rfl ?_
          show Steps p.tables e below (T125.setTop (mkF m 156 #[.val (.int p1), .val (.int p2), .val (.int p3), .val (.int p4), .val (.int p5), .val (.ref b68), .val (.int (p1 &&& (3 : Int32))), .val (.int (p2 &&& (3 : Int32))), .val (.int (0 : Int32)), .val (.int pv), .val (.int wv), .val (.ref b109), .val (.ref b117), .unset, .unset, .unset] [(.int (p2 &&& (3 : Int32))), (.int (p1 &&& (3 : Int32)))])) _
          refine XS.icmpNo X125r.here hx rfl (hb hby at_156) rfl (XT.ii_ne_f hkk) ?_
          show Steps p.tables e below (T125.setTop (mkF m 159 #[.val (.int p1), .val (.int p2), .val (.int p3), .val (.int p4), .val (.int p5), .val (.ref b68), .val (.int (p1 &&& (3 : Int32))), .val (.int (p2 &&& (3 : Int32))), .val (.int (0 : Int32)), .val (.int pv), .val (.int wv), .val (.ref b109), .val (.ref b117), .unset, .unset, .unset] [])) _
          refine XS.iload X125r.here hx rfl (hb hby at_159) rfl ?_
          show Steps p.tables e below (T125.setTop (mkF m 161 #[.val (.int p1), .val (.int p2), .val (.int p3), .val (.int p4), .val (.int p5), .val (.ref b68), .val (.int (p1 &&& (3 : Int32))), .val (.int (p2 &&& (3 : Int32))), .val (.int (0 : Int32)), .val (.int pv), .val (.int wv), .val (.ref b109), .val (.ref b117), .unset, .unset, .unset] [(.int wv)])) _
          refine XS.iload X125r.here hx rfl (hb hby at_161) rfl ?_
          show Steps p.tables e below (T125.setTop (mkF m 163 #[.val (.int p1), .val (.int p2), .val (.int p3), .val (.int p4), .val (.int p5), .val (.ref b68), .val (.int (p1 &&& (3 : Int32))), .val (.int (p2 &&& (3 : Int32))), .val (.int (0 : Int32)), .val (.int pv), .val (.int wv), .val (.ref b109), .val (.ref b117), .unset, .unset, .unset] [(.int pv), (.int wv)])) _
          refine XS.idiv X125r.here hx rfl (hb hby at_163) rfl hz ?_
          show Steps p.tables e below (T125.setTop (mkF m 164 #[.val (.int p1), .val (.int p2), .val (.int p3), .val (.int p4), .val (.int p5), .val (.ref b68), .val (.int (p1 &&& (3 : Int32))), .val (.int (p2 &&& (3 : Int32))), .val (.int (0 : Int32)), .val (.int pv), .val (.int wv), .val (.ref b109), .val (.ref b117), .unset, .unset, .unset] [(.int (wv / pv))])) _
          refine XS.iload X125r.here hx rfl (hb hby at_164) rfl ?_
          show Steps p.tables e below (T125.setTop (mkF m 166 #[.val (.int p1), .val (.int p2), .val (.int p3), .val (.int p4), .val (.int p5), .val (.ref b68), .val (.int (p1 &&& (3 : Int32))), .val (.int (p2 &&& (3 : Int32))), .val (.int (0 : Int32)), .val (.int pv), .val (.int wv), .val (.ref b109), .val (.ref b117), .unset, .unset, .unset] [(.int pv), (.int (wv / pv))])) _
          refine XS.imul X125r.here hx rfl (hb hby at_166) rfl ?_
          show Steps p.tables e below (T125.setTop (mkF m 167 #[.val (.int p1), .val (.int p2), .val (.int p3), .val (.int p4), .val (.int p5), .val (.ref b68), .val (.int (p1 &&& (3 : Int32))), .val (.int (p2 &&& (3 : Int32))), .val (.int (0 : Int32)), .val (.int pv), .val (.int wv), .val (.ref b109), .val (.ref b117), .unset, .unset, .unset] [(.int ((wv / pv) * pv))])) _
          refine XS.iload X125r.here hx rfl (hb hby at_167) rfl ?_
          show Steps p.tables e below (T125.setTop (mkF m 169 #[.val (.int p1), .val (.int p2), .val (.int p3), .val (.int p4), .val (.int p5), .val (.ref b68), .val (.int (p1 &&& (3 : Int32))), .val (.int (p2 &&& (3 : Int32))), .val (.int (0 : Int32)), .val (.int pv), .val (.int wv), .val (.ref b109), .val (.ref b117), .unset, .unset, .unset] [(.int wv), (.int ((wv / pv) * pv))])) _
          refine XS.icmpNo X125r.here hx rfl (hb hby at_169) rfl (XT.ii_ne_f ((own_same hz).mp hc)) ?_
          show Steps p.tables e below (T125.setTop (mkF m 172 #[.val (.int p1), .val (.int p2), .val (.int p3), .val (.int p4), .val (.int p5), .val (.ref b68), .val (.int (p1 &&& (3 : Int32))), .val (.int (p2 &&& (3 : Int32))), .val (.int (0 : Int32)), .val (.int pv), .val (.int wv), .val (.ref b109), .val (.ref b117), .unset, .unset, .unset] [])) _
          refine XT.iconstV X125r.here hx rfl (1 : Int32) (hb hby at_172) rfl ?_
          show Steps p.tables e below (T125.setTop (mkF m 173 #[.val (.int p1), .val (.int p2), .val (.int p3), .val (.int p4), .val (.int p5), .val (.ref b68), .val (.int (p1 &&& (3 : Int32))), .val (.int (p2 &&& (3 : Int32))), .val (.int (0 : Int32)), .val (.int pv), .val (.int wv), .val (.ref b109), .val (.ref b117), .unset, .unset, .unset] [(.int (1 : Int32))])) _
          refine XS.goto X125r.here hx rfl (pc0 := 173) (pc' := 177) rfl (hb hby at_173) (by decide) (by decide) ?_
          show Steps p.tables e below (T125.setTop (mkF m 177 #[.val (.int p1), .val (.int p2), .val (.int p3), .val (.int p4), .val (.int p5), .val (.ref b68), .val (.int (p1 &&& (3 : Int32))), .val (.int (p2 &&& (3 : Int32))), .val (.int (0 : Int32)), .val (.int pv), .val (.int wv), .val (.ref b109), .val (.ref b117), .unset, .unset, .unset] [(.int (1 : Int32))])) _
          refine XS.istore X125r.here hx rfl (hb hby at_177) rfl (l' := #[.val (.int p1), .val (.int p2), .val (.int p3), .val (.int p4), .val (.int p5), .val (.ref b68), .val (.int (p1 &&& (3 : Int32))), .val (.int (p2 &&& (3 : Int32))), .val (.int (0 : Int32)), .val (.int pv), .val (.int wv), .val (.ref b109), .val (.ref b117), .val (.int (1 : Int32)), .unset, .unset]) rfl ?_
          show Steps p.tables e below (T125.setTop (mkF m 179 #[.val (.int p1), .val (.int p2), .val (.int p3), .val (.int p4), .val (.int p5), .val (.ref b68), .val (.int (p1 &&& (3 : Int32))), .val (.int (p2 &&& (3 : Int32))), .val (.int (0 : Int32)), .val (.int pv), .val (.int wv), .val (.ref b109), .val (.ref b117), .val (.int (1 : Int32)), .unset, .unset] [])) _
          refine XS.goto X125r.here hx rfl (pc0 := 179) (pc' := 240) rfl (hb hby at_179) (by decide) (by decide) ?_
          show Steps p.tables e below (T125.setTop (mkF m 240 #[.val (.int p1), .val (.int p2), .val (.int p3), .val (.int p4), .val (.int p5), .val (.ref b68), .val (.int (p1 &&& (3 : Int32))), .val (.int (p2 &&& (3 : Int32))), .val (.int (0 : Int32)), .val (.int pv), .val (.int wv), .val (.ref b109), .val (.ref b117), .val (.int (1 : Int32)), .unset, .unset] [])) _
          refine XS.aload X125r.here hx rfl (hb hby at_240) rfl rfl ?_
          show Steps p.tables e below (T125.setTop (mkF m 242 #[.val (.int p1), .val (.int p2), .val (.int p3), .val (.int p4), .val (.int p5), .val (.ref b68), .val (.int (p1 &&& (3 : Int32))), .val (.int (p2 &&& (3 : Int32))), .val (.int (0 : Int32)), .val (.int pv), .val (.int wv), .val (.ref b109), .val (.ref b117), .val (.int (1 : Int32)), .unset, .unset] [(.ref b109)])) _
          refine XS.aload X125r.here hx rfl (hb hby at_242) rfl rfl ?_
          show Steps p.tables e below (T125.setTop (mkF m 244 #[.val (.int p1), .val (.int p2), .val (.int p3), .val (.int p4), .val (.int p5), .val (.ref b68), .val (.int (p1 &&& (3 : Int32))), .val (.int (p2 &&& (3 : Int32))), .val (.int (0 : Int32)), .val (.int pv), .val (.int wv), .val (.ref b109), .val (.ref b117), .val (.int (1 : Int32)), .unset, .unset] [(.ref b117), (.ref b109)])) _
          refine st132.trans ?_
          show Steps p.tables e below (T132.setTop (mkF m 247 #[.val (.int p1), .val (.int p2), .val (.int p3), .val (.int p4), .val (.int p5), .val (.ref b68), .val (.int (p1 &&& (3 : Int32))), .val (.int (p2 &&& (3 : Int32))), .val (.int (0 : Int32)), .val (.int pv), .val (.int wv), .val (.ref b109), .val (.ref b117), .val (.int (1 : Int32)), .unset, .unset] [(.int (1 : Int32))])) _
          refine XS.iload X132.here hx rfl (hb hby at_247) rfl ?_
          show Steps p.tables e below (T132.setTop (mkF m 249 #[.val (.int p1), .val (.int p2), .val (.int p3), .val (.int p4), .val (.int p5), .val (.ref b68), .val (.int (p1 &&& (3 : Int32))), .val (.int (p2 &&& (3 : Int32))), .val (.int (0 : Int32)), .val (.int pv), .val (.int wv), .val (.ref b109), .val (.ref b117), .val (.int (1 : Int32)), .unset, .unset] [(.int (1 : Int32)), (.int (1 : Int32))])) _
          refine XS.icmpNo X132.here hx rfl (hb hby at_249) rfl (by decide) ?_
          show Steps p.tables e below (T132.setTop (mkF m 252 #[.val (.int p1), .val (.int p2), .val (.int p3), .val (.int p4), .val (.int p5), .val (.ref b68), .val (.int (p1 &&& (3 : Int32))), .val (.int (p2 &&& (3 : Int32))), .val (.int (0 : Int32)), .val (.int pv), .val (.int wv), .val (.ref b109), .val (.ref b117), .val (.int (1 : Int32)), .unset, .unset] [])) _
          refine XT.iconstV X132.here hx rfl (1 : Int32) (hb hby at_252) rfl ?_
          show Steps p.tables e below (T132.setTop (mkF m 253 #[.val (.int p1), .val (.int p2), .val (.int p3), .val (.int p4), .val (.int p5), .val (.ref b68), .val (.int (p1 &&& (3 : Int32))), .val (.int (p2 &&& (3 : Int32))), .val (.int (0 : Int32)), .val (.int pv), .val (.int wv), .val (.ref b109), .val (.ref b117), .val (.int (1 : Int32)), .unset, .unset] [(.int (1 : Int32))])) _
          refine XS.goto X132.here hx rfl (pc0 := 253) (pc' := 257) rfl (hb hby at_253) (by decide) (by decide) ?_
          show Steps p.tables e below (T132.setTop (mkF m 257 #[.val (.int p1), .val (.int p2), .val (.int p3), .val (.int p4), .val (.int p5), .val (.ref b68), .val (.int (p1 &&& (3 : Int32))), .val (.int (p2 &&& (3 : Int32))), .val (.int (0 : Int32)), .val (.int pv), .val (.int wv), .val (.ref b109), .val (.ref b117), .val (.int (1 : Int32)), .unset, .unset] [(.int (1 : Int32))])) _
          exact retN X132 hx (t := .boolean) Bd.returns (by simp) (hb hby at_257) hr
        · show own_Q0 n0 _ T132.heap _
          exact ⟨rfl, N132⟩
      · have FY133 : Fld Z T125.heap b117 "com/example/chitragupta/chitragupta/rating/Span" "unit" "Lcom/example/chitragupta/chitragupta/rating/Span$Unit;" (.ref u1) := by rw [← huu]; exact Fa125
        obtain ⟨cq134, kq134, q134a, q134b, q134c⟩ := isOf hZ125 rfl A109_127
        obtain ⟨_, _, ⟨T134, L134, k134, n134⟩, -, X134, ⟨Lc134, hQ134, l134, y134, z134⟩, st134⟩ := X125r.virtualBack hx (y := (⟨"com/example/chitragupta/chitragupta/rating/Span", "divides", "(Lcom/example/chitragupta/chitragupta/rating/Span;)Z"⟩ : MethodName)) (z := (⟨"com/example/chitragupta/chitragupta/rating/Span", "divides", "(Lcom/example/chitragupta/chitragupta/rating/Span;)Z"⟩ : MethodName)) hown125 (mvT hZ125 (hw _ (List.mem_of_getElem? (i := 47) rfl))) (mvT hZ125 (hw _ (List.mem_of_getElem? (i := 48) rfl))) (notFace_of_selects (args := #[]) (mvT hZ125 (hw _ (List.mem_of_getElem? (i := 50) rfl)))) (mvT hZ125 (hw _ (List.mem_of_getElem? (i := 50) rfl))) (mvT hZ125 (hw _ (List.mem_of_getElem? (i := 49) rfl))) (by decide) (backOf (W := 0) (own_div_same_n l Z a0 hw [] b109 b117 u1 u2 pv wv w0 w1 w2 w3 T125.heap n0 Z125 (own_P_ext P EX125) Fa114_128 Fb114_129 FY133 Fb125 hz hc) hZ125 (hw _ (List.mem_of_getElem? (i := 51) rfl)) (hw _ (List.mem_of_getElem? (i := 19) rfl)) (by decide) (by decide)) q134a q134c (g := (mkF m 244 #[.val (.int p1), .val (.int p2), .val (.int p3), .val (.int p4), .val (.int p5), .val (.ref b68), .val (.int (p1 &&& (3 : Int32))), .val (.int (p2 &&& (3 : Int32))), .val (.int (0 : Int32)), .val (.int pv), .val (.int wv), .val (.ref b109), .val (.ref b117), .val (.int (0 : Int32)), .unset, .unset] [(.ref b117), (.ref b109)])) rfl (by rw [hml]; rfl) (Steps.refl _) (argsL := [(.ref b117)]) (rest := []) (lenOf pd__Lcom_example_chitragupta_chitragupta_rating_Span__Z rfl) rfl (by show 2 * 0 + _ ≤ _; exact Nat.le_of_eq rfl) (hb hby at_244) (fun _ _ => ⟨rfl, rfl, (by decide : 7 + 0 ≤ _), (by decide : 48 + 0 ≤ _)⟩)
        dsimp only [Pt.U, Pt.locs, Pt.cells, Pt.slots] at X134 l134 y134 z134 st134 hQ134
        subst l134 y134 z134
        obtain ⟨rfl, N134q, e134⟩ := hQ134
        have N134 := Fr.app N125 N134q
        obtain ⟨fs, hr, hrun, hended, hRE⟩ := Jvm.Stand.leaveW (s := s) (vm₁ := T125.vm) X134 hS125 (Nat.le_trans (Nat.le_refl _) (Nat.le_of_eq (congrArg Array.size e134.symm))) (v := some (.int (1 : Int32))) (fun h => by rw [Bd.returns] at h; cases h)
        refine ⟨_, _, pre0 _ (pre1 _ (thru _ (pre4 _ ?_))), hrun, hended, _, _, rfl, ?_, ⟨_, rfl⟩, hRE.2.1, hRE.2.2.1, hRE.2.2.2.mono (by decide) (by decide)⟩
        · show Steps p.tables e below (T125.setTop (mkF m 152 #[.val (.int p1), .val (.int p2), .val (.int p3), .val (.int p4), .val (.int p5), .val (.ref b68), .val (.int (p1 &&& (3 : Int32))), .val (.int (p2 &&& (3 : Int32))), .val (.int (0 : Int32)), .val (.int pv), .val (.int wv), .val (.ref b109), .val (.ref b117), .unset, .unset, .unset] [])) _
          refine XS.iload X125r.here hx rfl (hb hby at_152) rfl ?_
          show Steps p.tables e below (T125.setTop (mkF m 154 #[.val (.int p1), .val (.int p2), .val (.int p3), .val (.int p4), .val (.int p5), .val (.ref b68), .val (.int (p1 &&& (3 : Int32))), .val (.int (p2 &&& (3 : Int32))), .val (.int (0 : Int32)), .val (.int pv), .val (.int wv), .val (.ref b109), .val (.ref b117), .unset, .unset, .unset] [(.int (p1 &&& (3 : Int32)))])) _
          refine XS.iload X125r.here hx rfl (hb hby at_154) rfl ?_
          show Steps p.tables e below (T125.setTop (mkF m 156 #[.val (.int p1), .val (.int p2), .val (.int p3), .val (.int p4), .val (.int p5), .val (.ref b68), .val (.int (p1 &&& (3 : Int32))), .val (.int (p2 &&& (3 : Int32))), .val (.int (0 : Int32)), .val (.int pv), .val (.int wv), .val (.ref b109), .val (.ref b117), .unset, .unset, .unset] [(.int (p2 &&& (3 : Int32))), (.int (p1 &&& (3 : Int32)))])) _
          refine XS.icmpNo X125r.here hx rfl (hb hby at_156) rfl (XT.ii_ne_f hkk) ?_
          show Steps p.tables e below (T125.setTop (mkF m 159 #[.val (.int p1), .val (.int p2), .val (.int p3), .val (.int p4), .val (.int p5), .val (.ref b68), .val (.int (p1 &&& (3 : Int32))), .val (.int (p2 &&& (3 : Int32))), .val (.int (0 : Int32)), .val (.int pv), .val (.int wv), .val (.ref b109), .val (.ref b117), .unset, .unset, .unset] [])) _
          refine XS.iload X125r.here hx rfl (hb hby at_159) rfl ?_
          show Steps p.tables e below (T125.setTop (mkF m 161 #[.val (.int p1), .val (.int p2), .val (.int p3), .val (.int p4), .val (.int p5), .val (.ref b68), .val (.int (p1 &&& (3 : Int32))), .val (.int (p2 &&& (3 : Int32))), .val (.int (0 : Int32)), .val (.int pv), .val (.int wv), .val (.ref b109), .val (.ref b117), .unset, .unset, .unset] [(.int wv)])) _
          refine XS.iload X125r.here hx rfl (hb hby at_161) rfl ?_
          show Steps p.tables e below (T125.setTop (mkF m 163 #[.val (.int p1), .val (.int p2), .val (.int p3), .val (.int p4), .val (.int p5), .val (.ref b68), .val (.int (p1 &&& (3 : Int32))), .val (.int (p2 &&& (3 : Int32))), .val (.int (0 : Int32)), .val (.int pv), .val (.int wv), .val (.ref b109), .val (.ref b117), .unset, .unset, .unset] [(.int pv), (.int wv)])) _
          refine XS.idiv X125r.here hx rfl (hb hby at_163) rfl hz ?_
          show Steps p.tables e below (T125.setTop (mkF m 164 #[.val (.int p1), .val (.int p2), .val (.int p3), .val (.int p4), .val (.int p5), .val (.ref b68), .val (.int (p1 &&& (3 : Int32))), .val (.int (p2 &&& (3 : Int32))), .val (.int (0 : Int32)), .val (.int pv), .val (.int wv), .val (.ref b109), .val (.ref b117), .unset, .unset, .unset] [(.int (wv / pv))])) _
          refine XS.iload X125r.here hx rfl (hb hby at_164) rfl ?_
          show Steps p.tables e below (T125.setTop (mkF m 166 #[.val (.int p1), .val (.int p2), .val (.int p3), .val (.int p4), .val (.int p5), .val (.ref b68), .val (.int (p1 &&& (3 : Int32))), .val (.int (p2 &&& (3 : Int32))), .val (.int (0 : Int32)), .val (.int pv), .val (.int wv), .val (.ref b109), .val (.ref b117), .unset, .unset, .unset] [(.int pv), (.int (wv / pv))])) _
          refine XS.imul X125r.here hx rfl (hb hby at_166) rfl ?_
          show Steps p.tables e below (T125.setTop (mkF m 167 #[.val (.int p1), .val (.int p2), .val (.int p3), .val (.int p4), .val (.int p5), .val (.ref b68), .val (.int (p1 &&& (3 : Int32))), .val (.int (p2 &&& (3 : Int32))), .val (.int (0 : Int32)), .val (.int pv), .val (.int wv), .val (.ref b109), .val (.ref b117), .unset, .unset, .unset] [(.int ((wv / pv) * pv))])) _
          refine XS.iload X125r.here hx rfl (hb hby at_167) rfl ?_
          show Steps p.tables e below (T125.setTop (mkF m 169 #[.val (.int p1), .val (.int p2), .val (.int p3), .val (.int p4), .val (.int p5), .val (.ref b68), .val (.int (p1 &&& (3 : Int32))), .val (.int (p2 &&& (3 : Int32))), .val (.int (0 : Int32)), .val (.int pv), .val (.int wv), .val (.ref b109), .val (.ref b117), .unset, .unset, .unset] [(.int wv), (.int ((wv / pv) * pv))])) _
          refine XS.icmpYes X125r.here hx rfl (pc0 := 169) (pc' := 176) rfl (hb hby at_169) rfl (XT.ii_ne_t (fun q => hc ((own_same hz).mpr q))) (by decide) (by decide) ?_
          show Steps p.tables e below (T125.setTop (mkF m 176 #[.val (.int p1), .val (.int p2), .val (.int p3), .val (.int p4), .val (.int p5), .val (.ref b68), .val (.int (p1 &&& (3 : Int32))), .val (.int (p2 &&& (3 : Int32))), .val (.int (0 : Int32)), .val (.int pv), .val (.int wv), .val (.ref b109), .val (.ref b117), .unset, .unset, .unset] [])) _
          refine XT.iconstV X125r.here hx rfl (0 : Int32) (hb hby at_176) rfl ?_
          show Steps p.tables e below (T125.setTop (mkF m 177 #[.val (.int p1), .val (.int p2), .val (.int p3), .val (.int p4), .val (.int p5), .val (.ref b68), .val (.int (p1 &&& (3 : Int32))), .val (.int (p2 &&& (3 : Int32))), .val (.int (0 : Int32)), .val (.int pv), .val (.int wv), .val (.ref b109), .val (.ref b117), .unset, .unset, .unset] [(.int (0 : Int32))])) _
          refine XS.istore X125r.here hx rfl (hb hby at_177) rfl (l' := #[.val (.int p1), .val (.int p2), .val (.int p3), .val (.int p4), .val (.int p5), .val (.ref b68), .val (.int (p1 &&& (3 : Int32))), .val (.int (p2 &&& (3 : Int32))), .val (.int (0 : Int32)), .val (.int pv), .val (.int wv), .val (.ref b109), .val (.ref b117), .val (.int (0 : Int32)), .unset, .unset]) rfl ?_
          show Steps p.tables e below (T125.setTop (mkF m 179 #[.val (.int p1), .val (.int p2), .val (.int p3), .val (.int p4), .val (.int p5), .val (.ref b68), .val (.int (p1 &&& (3 : Int32))), .val (.int (p2 &&& (3 : Int32))), .val (.int (0 : Int32)), .val (.int pv), .val (.int wv), .val (.ref b109), .val (.ref b117), .val (.int (0 : Int32)), .unset, .unset] [])) _
          refine XS.goto X125r.here hx rfl (pc0 := 179) (pc' := 240) rfl (hb hby at_179) (by decide) (by decide) ?_
          show Steps p.tables e below (T125.setTop (mkF m 240 #[.val (.int p1), .val (.int p2), .val (.int p3), .val (.int p4), .val (.int p5), .val (.ref b68), .val (.int (p1 &&& (3 : Int32))), .val (.int (p2 &&& (3 : Int32))), .val (.int (0 : Int32)), .val (.int pv), .val (.int wv), .val (.ref b109), .val (.ref b117), .val (.int (0 : Int32)), .unset, .unset] [])) _
          refine XS.aload X125r.here hx rfl (hb hby at_240) rfl rfl ?_
          show Steps p.tables e below (T125.setTop (mkF m 242 #[.val (.int p1), .val (.int p2), .val (.int p3), .val (.int p4), .val (.int p5), .val (.ref b68), .val (.int (p1 &&& (3 : Int32))), .val (.int (p2 &&& (3 : Int32))), .val (.int (0 : Int32)), .val (.int pv), .val (.int wv), .val (.ref b109), .val (.ref b117), .val (.int (0 : Int32)), .unset, .unset] [(.ref b109)])) _
          refine XS.aload X125r.here hx rfl (hb hby at_242) rfl rfl ?_
          show Steps p.tables e below (T125.setTop (mkF m 244 #[.val (.int p1), .val (.int p2), .val (.int p3), .val (.int p4), .val (.int p5), .val (.ref b68), .val (.int (p1 &&& (3 : Int32))), .val (.int (p2 &&& (3 : Int32))), .val (.int (0 : Int32)), .val (.int pv), .val (.int wv), .val (.ref b109), .val (.ref b117), .val (.int (0 : Int32)), .unset, .unset] [(.ref b117), (.ref b109)])) _
          refine st134.trans ?_
          show Steps p.tables e below (T134.setTop (mkF m 247 #[.val (.int p1), .val (.int p2), .val (.int p3), .val (.int p4), .val (.int p5), .val (.ref b68), .val (.int (p1 &&& (3 : Int32))), .val (.int (p2 &&& (3 : Int32))), .val (.int (0 : Int32)), .val (.int pv), .val (.int wv), .val (.ref b109), .val (.ref b117), .val (.int (0 : Int32)), .unset, .unset] [(.int (0 : Int32))])) _
          refine XS.iload X134.here hx rfl (hb hby at_247) rfl ?_
          show Steps p.tables e below (T134.setTop (mkF m 249 #[.val (.int p1), .val (.int p2), .val (.int p3), .val (.int p4), .val (.int p5), .val (.ref b68), .val (.int (p1 &&& (3 : Int32))), .val (.int (p2 &&& (3 : Int32))), .val (.int (0 : Int32)), .val (.int pv), .val (.int wv), .val (.ref b109), .val (.ref b117), .val (.int (0 : Int32)), .unset, .unset] [(.int (0 : Int32)), (.int (0 : Int32))])) _
          refine XS.icmpNo X134.here hx rfl (hb hby at_249) rfl (by decide) ?_
          show Steps p.tables e below (T134.setTop (mkF m 252 #[.val (.int p1), .val (.int p2), .val (.int p3), .val (.int p4), .val (.int p5), .val (.ref b68), .val (.int (p1 &&& (3 : Int32))), .val (.int (p2 &&& (3 : Int32))), .val (.int (0 : Int32)), .val (.int pv), .val (.int wv), .val (.ref b109), .val (.ref b117), .val (.int (0 : Int32)), .unset, .unset] [])) _
          refine XT.iconstV X134.here hx rfl (1 : Int32) (hb hby at_252) rfl ?_
          show Steps p.tables e below (T134.setTop (mkF m 253 #[.val (.int p1), .val (.int p2), .val (.int p3), .val (.int p4), .val (.int p5), .val (.ref b68), .val (.int (p1 &&& (3 : Int32))), .val (.int (p2 &&& (3 : Int32))), .val (.int (0 : Int32)), .val (.int pv), .val (.int wv), .val (.ref b109), .val (.ref b117), .val (.int (0 : Int32)), .unset, .unset] [(.int (1 : Int32))])) _
          refine XS.goto X134.here hx rfl (pc0 := 253) (pc' := 257) rfl (hb hby at_253) (by decide) (by decide) ?_
          show Steps p.tables e below (T134.setTop (mkF m 257 #[.val (.int p1), .val (.int p2), .val (.int p3), .val (.int p4), .val (.int p5), .val (.ref b68), .val (.int (p1 &&& (3 : Int32))), .val (.int (p2 &&& (3 : Int32))), .val (.int (0 : Int32)), .val (.int pv), .val (.int wv), .val (.ref b109), .val (.ref b117), .val (.int (0 : Int32)), .unset, .unset] [(.int (1 : Int32))])) _
          exact retN X134 hx (t := .boolean) Bd.returns (by simp) (hb hby at_257) hr
        · show own_Q0 n0 _ T134.heap _
          exact ⟨rfl, N134⟩
    · have huu : u1 ≠ u2 := by rw [hu1, hu2]; exact own_une P hk1 hk2 hkk
      by_cases hd0 : (p1 &&& (3 : Int32)) = (0 : Int32)
      · have hud : u1 = w0 := hu1.trans (by rw [hd0]; exact own_u0 ..)
        have hdu : w0 ≠ u2 := hud ▸ huu
        by_cases hc : pv = (1 : Int32)
        · have FX135 : Fld Z T125.heap b109 "com/example/chitragupta/chitragupta/rating/Span" "unit" "Lcom/example/chitragupta/chitragupta/rating/Span$Unit;" (.ref w0) := by rw [← hud]; exact Fa114_128
          obtain ⟨cq136, kq136, q136a, q136b, q136c⟩ := isOf hZ125 rfl A109_127
          obtain ⟨_, _, ⟨T136, L136, k136, n136⟩, -, X136, ⟨Lc136, hQ136, l136, y136, z136⟩, st136⟩ := X125r.virtualBack hx (y := (⟨"com/example/chitragupta/chitragupta/rating/Span", "divides", "(Lcom/example/chitragupta/chitragupta/rating/Span;)Z"⟩ : MethodName)) (z := (⟨"com/example/chitragupta/chitragupta/rating/Span", "divides", "(Lcom/example/chitragupta/chitragupta/rating/Span;)Z"⟩ : MethodName)) hown125 (mvT hZ125 (hw _ (List.mem_of_getElem? (i := 47) rfl))) (mvT hZ125 (hw _ (List.mem_of_getElem? (i := 48) rfl))) (notFace_of_selects (args := #[]) (mvT hZ125 (hw _ (List.mem_of_getElem? (i := 50) rfl)))) (mvT hZ125 (hw _ (List.mem_of_getElem? (i := 50) rfl))) (mvT hZ125 (hw _ (List.mem_of_getElem? (i := 49) rfl))) (by decide) (backOf (W := 0) (own_div_day_y l Z a0 hw [] b109 b117 u1 u2 pv wv w0 w1 w2 w3 T125.heap n0 Z125 (own_P_ext P EX125) FX135 Fb114_129 Fa125 Fb125 hdu hc) hZ125 (hw _ (List.mem_of_getElem? (i := 51) rfl)) (hw _ (List.mem_of_getElem? (i := 19) rfl)) (by decide) (by decide)) q136a q136c (g := (mkF m 244 #[.val (.int p1), .val (.int p2), .val (.int p3), .val (.int p4), .val (.int p5), .val (.ref b68), .val (.int (p1 &&& (3 : Int32))), .val (.int (p2 &&& (3 : Int32))), .val (.int (0 : Int32)), .val (.int pv), .val (.int wv), .val (.ref b109), .val (.ref b117), .val (.int (1 : Int32)), .unset, .unset] [(.ref b117), (.ref b109)])) rfl (by rw [hml]; rfl) (Steps.refl _) (argsL := [(.ref b117)]) (rest := []) (lenOf pd__Lcom_example_chitragupta_chitragupta_rating_Span__Z rfl) rfl (by show 2 * 0 + _ ≤ _; exact Nat.le_of_eq rfl) (hb hby at_244) (fun _ _ => ⟨rfl, rfl, (by decide : 7 + 0 ≤ _), (by decide : 48 + 0 ≤ _)⟩)
          dsimp only [Pt.U, Pt.locs, Pt.cells, Pt.slots] at X136 l136 y136 z136 st136 hQ136
          subst l136 y136 z136
          obtain ⟨rfl, N136q, e136⟩ := hQ136
          have N136 := Fr.app N125 N136q
          obtain ⟨fs, hr, hrun, hended, hRE⟩ := Jvm.Stand.leaveW (s := s) (vm₁ := T125.vm) X136 hS125 (Nat.le_trans (Nat.le_refl _) (Nat.le_of_eq (congrArg Array.size e136.symm))) (v := some (.int (1 : Int32))) (fun h => by rw [Bd.returns] at h; cases h)
          refine ⟨_, _, pre0 _ (pre1 _ (thru _ (pre4 _ ?_))), hrun, hended, _, _, rfl, ?_, ⟨_, rfl⟩, hRE.2.1, hRE.2.2.1, hRE.2.2.2.mono (by decide) (by decide)⟩
          · show Steps p.tables e below (T125.setTop (mkF m 152 #[.val (.int p1), .val (.int p2), .val (.int p3), .val (.int p4), .val (.int p5), .val (.ref b68), .val (.int (p1 &&& (3 : Int32))), .val (.int (p2 &&& (3 : Int32))), .val (.int (0 : Int32)), .val (.int pv), .val (.int wv), .val (.ref b109), .val (.ref b117), .unset, .unset, .unset] [])) _
            refine XS.iload X125r.here hx rfl (hb hby at_152) rfl ?_
            show Steps p.tables e below (T125.setTop (mkF m 154 #[.val (.int p1), .val (.int p2), .val (.int p3), .val (.int p4), .val (.int p5), .val (.ref b68), .val (.int (p1 &&& (3 : Int32))), .val (.int (p2 &&& (3 : Int32))), .val (.int (0 : Int32)), .val (.int pv), .val (.int wv), .val (.ref b109), .val (.ref b117), .unset, .unset, .unset] [(.int (p1 &&& (3 : Int32)))])) _
            refine XS.iload X125r.here hx rfl (hb hby at_154) rfl ?_
            show Steps p.tables e below (T125.setTop (mkF m 156 #[.val (.int p1), .val (.int p2), .val (.int p3), .val (.int p4), .val (.int p5), .val (.ref b68), .val (.int (p1 &&& (3 : Int32))), .val (.int (p2 &&& (3 : Int32))), .val (.int (0 : Int32)), .val (.int pv), .val (.int wv), .val (.ref b109), .val (.ref b117), .unset, .unset, .unset] [(.int (p2 &&& (3 : Int32))), (.int (p1 &&& (3 : Int32)))])) _
            refine XS.icmpYes X125r.here hx rfl (pc0 := 156) (pc' := 182) rfl (hb hby at_156) rfl (XT.ii_ne_t hkk) (by decide) (by decide) ?_
            show Steps p.tables e below (T125.setTop (mkF m 182 #[.val (.int p1), .val (.int p2), .val (.int p3), .val (.int p4), .val (.int p5), .val (.ref b68), .val (.int (p1 &&& (3 : Int32))), .val (.int (p2 &&& (3 : Int32))), .val (.int (0 : Int32)), .val (.int pv), .val (.int wv), .val (.ref b109), .val (.ref b117), .unset, .unset, .unset] [])) _
            refine XS.iload X125r.here hx rfl (hb hby at_182) rfl ?_
            show Steps p.tables e below (T125.setTop (mkF m 184 #[.val (.int p1), .val (.int p2), .val (.int p3), .val (.int p4), .val (.int p5), .val (.ref b68), .val (.int (p1 &&& (3 : Int32))), .val (.int (p2 &&& (3 : Int32))), .val (.int (0 : Int32)), .val (.int pv), .val (.int wv), .val (.ref b109), .val (.ref b117), .unset, .unset, .unset] [(.int (0 : Int32))])) _
            refine XS.ifYes X125r.here hx rfl (pc0 := 184) (pc' := 222) rfl (hb hby at_184) rfl (by decide) (by decide) (by decide) ?_
            show Steps p.tables e below (T125.setTop (mkF m 222 #[.val (.int p1), .val (.int p2), .val (.int p3), .val (.int p4), .val (.int p5), .val (.ref b68), .val (.int (p1 &&& (3 : Int32))), .val (.int (p2 &&& (3 : Int32))), .val (.int (0 : Int32)), .val (.int pv), .val (.int wv), .val (.ref b109), .val (.ref b117), .unset, .unset, .unset] [])) _
            refine XS.iload X125r.here hx rfl (hb hby at_222) rfl ?_
            show Steps p.tables e below (T125.setTop (mkF m 224 #[.val (.int p1), .val (.int p2), .val (.int p3), .val (.int p4), .val (.int p5), .val (.ref b68), .val (.int (p1 &&& (3 : Int32))), .val (.int (p2 &&& (3 : Int32))), .val (.int (0 : Int32)), .val (.int pv), .val (.int wv), .val (.ref b109), .val (.ref b117), .unset, .unset, .unset] [(.int (p1 &&& (3 : Int32)))])) _
            refine XS.ifNo X125r.here hx rfl (hb hby at_224) rfl (XT.i0_ne_f hd0) ?_
            show Steps p.tables e below (T125.setTop (mkF m 227 #[.val (.int p1), .val (.int p2), .val (.int p3), .val (.int p4), .val (.int p5), .val (.ref b68), .val (.int (p1 &&& (3 : Int32))), .val (.int (p2 &&& (3 : Int32))), .val (.int (0 : Int32)), .val (.int pv), .val (.int wv), .val (.ref b109), .val (.ref b117), .unset, .unset, .unset] [])) _
            refine XS.iload X125r.here hx rfl (hb hby at_227) rfl ?_
            show Steps p.tables e below (T125.setTop (mkF m 229 #[.val (.int p1), .val (.int p2), .val (.int p3), .val (.int p4), .val (.int p5), .val (.ref b68), .val (.int (p1 &&& (3 : Int32))), .val (.int (p2 &&& (3 : Int32))), .val (.int (0 : Int32)), .val (.int pv), .val (.int wv), .val (.ref b109), .val (.ref b117), .unset, .unset, .unset] [(.int pv)])) _
            refine XT.iconstV X125r.here hx rfl (1 : Int32) (hb hby at_229) rfl ?_
            show Steps p.tables e below (T125.setTop (mkF m 230 #[.val (.int p1), .val (.int p2), .val (.int p3), .val (.int p4), .val (.int p5), .val (.ref b68), .val (.int (p1 &&& (3 : Int32))), .val (.int (p2 &&& (3 : Int32))), .val (.int (0 : Int32)), .val (.int pv), .val (.int wv), .val (.ref b109), .val (.ref b117), .unset, .unset, .unset] [(.int (1 : Int32)), (.int pv)])) _
            refine XS.icmpNo X125r.here hx rfl (hb hby at_230) rfl (XT.ii_ne_f hc) ?_
            show Steps p.tables e below (T125.setTop (mkF m 233 #[.val (.int p1), .val (.int p2), .val (.int p3), .val (.int p4), .val (.int p5), .val (.ref b68), .val (.int (p1 &&& (3 : Int32))), .val (.int (p2 &&& (3 : Int32))), .val (.int (0 : Int32)), .val (.int pv), .val (.int wv), .val (.ref b109), .val (.ref b117), .unset, .unset, .unset] [])) _
            refine XT.iconstV X125r.here hx rfl (1 : Int32) (hb hby at_233) rfl ?_
            show Steps p.tables e below (T125.setTop (mkF m 234 #[.val (.int p1), .val (.int p2), .val (.int p3), .val (.int p4), .val (.int p5), .val (.ref b68), .val (.int (p1 &&& (3 : Int32))), .val (.int (p2 &&& (3 : Int32))), .val (.int (0 : Int32)), .val (.int pv), .val (.int wv), .val (.ref b109), .val (.ref b117), .unset, .unset, .unset] [(.int (1 : Int32))])) _
            refine XS.goto X125r.here hx rfl (pc0 := 234) (pc' := 238) rfl (hb hby at_234) (by decide) (by decide) ?_
            show Steps p.tables e below (T125.setTop (mkF m 238 #[.val (.int p1), .val (.int p2), .val (.int p3), .val (.int p4), .val (.int p5), .val (.ref b68), .val (.int (p1 &&& (3 : Int32))), .val (.int (p2 &&& (3 : Int32))), .val (.int (0 : Int32)), .val (.int pv), .val (.int wv), .val (.ref b109), .val (.ref b117), .unset, .unset, .unset] [(.int (1 : Int32))])) _
            refine XS.istore X125r.here hx rfl (hb hby at_238) rfl (l' := #[.val (.int p1), .val (.int p2), .val (.int p3), .val (.int p4), .val (.int p5), .val (.ref b68), .val (.int (p1 &&& (3 : Int32))), .val (.int (p2 &&& (3 : Int32))), .val (.int (0 : Int32)), .val (.int pv), .val (.int wv), .val (.ref b109), .val (.ref b117), .val (.int (1 : Int32)), .unset, .unset]) rfl ?_
            show Steps p.tables e below (T125.setTop (mkF m 240 #[.val (.int p1), .val (.int p2), .val (.int p3), .val (.int p4), .val (.int p5), .val (.ref b68), .val (.int (p1 &&& (3 : Int32))), .val (.int (p2 &&& (3 : Int32))), .val (.int (0 : Int32)), .val (.int pv), .val (.int wv), .val (.ref b109), .val (.ref b117), .val (.int (1 : Int32)), .unset, .unset] [])) _
            refine XS.aload X125r.here hx rfl (hb hby at_240) rfl rfl ?_
            show Steps p.tables e below (T125.setTop (mkF m 242 #[.val (.int p1), .val (.int p2), .val (.int p3), .val (.int p4), .val (.int p5), .val (.ref b68), .val (.int (p1 &&& (3 : Int32))), .val (.int (p2 &&& (3 : Int32))), .val (.int (0 : Int32)), .val (.int pv), .val (.int wv), .val (.ref b109), .val (.ref b117), .val (.int (1 : Int32)), .unset, .unset] [(.ref b109)])) _
            refine XS.aload X125r.here hx rfl (hb hby at_242) rfl rfl ?_
            show Steps p.tables e below (T125.setTop (mkF m 244 #[.val (.int p1), .val (.int p2), .val (.int p3), .val (.int p4), .val (.int p5), .val (.ref b68), .val (.int (p1 &&& (3 : Int32))), .val (.int (p2 &&& (3 : Int32))), .val (.int (0 : Int32)), .val (.int pv), .val (.int wv), .val (.ref b109), .val (.ref b117), .val (.int (1 : Int32)), .unset, .unset] [(.ref b117), (.ref b109)])) _
            refine st136.trans ?_
            show Steps p.tables e below (T136.setTop (mkF m 247 #[.val (.int p1), .val (.int p2), .val (.int p3), .val (.int p4), .val (.int p5), .val (.ref b68), .val (.int (p1 &&& (3 : Int32))), .val (.int (p2 &&& (3 : Int32))), .val (.int (0 : Int32)), .val (.int pv), .val (.int wv), .val (.ref b109), .val (.ref b117), .val (.int (1 : Int32)), .unset, .unset] [(.int (1 : Int32))])) _
            refine XS.iload X136.here hx rfl (hb hby at_247) rfl ?_
            show Steps p.tables e below (T136.setTop (mkF m 249 #[.val (.int p1), .val (.int p2), .val (.int p3), .val (.int p4), .val (.int p5), .val (.ref b68), .val (.int (p1 &&& (3 : Int32))), .val (.int (p2 &&& (3 : Int32))), .val (.int (0 : Int32)), .val (.int pv), .val (.int wv), .val (.ref b109), .val (.ref b117), .val (.int (1 : Int32)), .unset, .unset] [(.int (1 : Int32)), (.int (1 : Int32))])) _
            refine XS.icmpNo X136.here hx rfl (hb hby at_249) rfl (by decide) ?_
            show Steps p.tables e below (T136.setTop (mkF m 252 #[.val (.int p1), .val (.int p2), .val (.int p3), .val (.int p4), .val (.int p5), .val (.ref b68), .val (.int (p1 &&& (3 : Int32))), .val (.int (p2 &&& (3 : Int32))), .val (.int (0 : Int32)), .val (.int pv), .val (.int wv), .val (.ref b109), .val (.ref b117), .val (.int (1 : Int32)), .unset, .unset] [])) _
            refine XT.iconstV X136.here hx rfl (1 : Int32) (hb hby at_252) rfl ?_
            show Steps p.tables e below (T136.setTop (mkF m 253 #[.val (.int p1), .val (.int p2), .val (.int p3), .val (.int p4), .val (.int p5), .val (.ref b68), .val (.int (p1 &&& (3 : Int32))), .val (.int (p2 &&& (3 : Int32))), .val (.int (0 : Int32)), .val (.int pv), .val (.int wv), .val (.ref b109), .val (.ref b117), .val (.int (1 : Int32)), .unset, .unset] [(.int (1 : Int32))])) _
            refine XS.goto X136.here hx rfl (pc0 := 253) (pc' := 257) rfl (hb hby at_253) (by decide) (by decide) ?_
            show Steps p.tables e below (T136.setTop (mkF m 257 #[.val (.int p1), .val (.int p2), .val (.int p3), .val (.int p4), .val (.int p5), .val (.ref b68), .val (.int (p1 &&& (3 : Int32))), .val (.int (p2 &&& (3 : Int32))), .val (.int (0 : Int32)), .val (.int pv), .val (.int wv), .val (.ref b109), .val (.ref b117), .val (.int (1 : Int32)), .unset, .unset] [(.int (1 : Int32))])) _
            exact retN X136 hx (t := .boolean) Bd.returns (by simp) (hb hby at_257) hr
          · show own_Q0 n0 _ T136.heap _
            exact ⟨rfl, N136⟩
        · have FX137 : Fld Z T125.heap b109 "com/example/chitragupta/chitragupta/rating/Span" "unit" "Lcom/example/chitragupta/chitragupta/rating/Span$Unit;" (.ref w0) := by rw [← hud]; exact Fa114_128
          obtain ⟨cq138, kq138, q138a, q138b, q138c⟩ := isOf hZ125 rfl A109_127
          obtain ⟨_, _, ⟨T138, L138, k138, n138⟩, -, X138, ⟨Lc138, hQ138, l138, y138, z138⟩, st138⟩ := X125r.virtualBack hx (y := (⟨"com/example/chitragupta/chitragupta/rating/Span", "divides", "(Lcom/example/chitragupta/chitragupta/rating/Span;)Z"⟩ : MethodName)) (z := (⟨"com/example/chitragupta/chitragupta/rating/Span", "divides", "(Lcom/example/chitragupta/chitragupta/rating/Span;)Z"⟩ : MethodName)) hown125 (mvT hZ125 (hw _ (List.mem_of_getElem? (i := 47) rfl))) (mvT hZ125 (hw _ (List.mem_of_getElem? (i := 48) rfl))) (notFace_of_selects (args := #[]) (mvT hZ125 (hw _ (List.mem_of_getElem? (i := 50) rfl)))) (mvT hZ125 (hw _ (List.mem_of_getElem? (i := 50) rfl))) (mvT hZ125 (hw _ (List.mem_of_getElem? (i := 49) rfl))) (by decide) (backOf (W := 0) (own_div_day_n l Z a0 hw [] b109 b117 u1 u2 pv wv w0 w1 w2 w3 T125.heap n0 Z125 (own_P_ext P EX125) FX137 Fb114_129 Fa125 Fb125 hdu hc) hZ125 (hw _ (List.mem_of_getElem? (i := 51) rfl)) (hw _ (List.mem_of_getElem? (i := 19) rfl)) (by decide) (by decide)) q138a q138c (g := (mkF m 244 #[.val (.int p1), .val (.int p2), .val (.int p3), .val (.int p4), .val (.int p5), .val (.ref b68), .val (.int (p1 &&& (3 : Int32))), .val (.int (p2 &&& (3 : Int32))), .val (.int (0 : Int32)), .val (.int pv), .val (.int wv), .val (.ref b109), .val (.ref b117), .val (.int (0 : Int32)), .unset, .unset] [(.ref b117), (.ref b109)])) rfl (by rw [hml]; rfl) (Steps.refl _) (argsL := [(.ref b117)]) (rest := []) (lenOf pd__Lcom_example_chitragupta_chitragupta_rating_Span__Z rfl) rfl (by show 2 * 0 + _ ≤ _; exact Nat.le_of_eq rfl) (hb hby at_244) (fun _ _ => ⟨rfl, rfl, (by decide : 7 + 0 ≤ _), (by decide : 48 + 0 ≤ _)⟩)
          dsimp only [Pt.U, Pt.locs, Pt.cells, Pt.slots] at X138 l138 y138 z138 st138 hQ138
          subst l138 y138 z138
          obtain ⟨rfl, N138q, e138⟩ := hQ138
          have N138 := Fr.app N125 N138q
          obtain ⟨fs, hr, hrun, hended, hRE⟩ := Jvm.Stand.leaveW (s := s) (vm₁ := T125.vm) X138 hS125 (Nat.le_trans (Nat.le_refl _) (Nat.le_of_eq (congrArg Array.size e138.symm))) (v := some (.int (1 : Int32))) (fun h => by rw [Bd.returns] at h; cases h)
          refine ⟨_, _, pre0 _ (pre1 _ (thru _ (pre4 _ ?_))), hrun, hended, _, _, rfl, ?_, ⟨_, rfl⟩, hRE.2.1, hRE.2.2.1, hRE.2.2.2.mono (by decide) (by decide)⟩
          · show Steps p.tables e below (T125.setTop (mkF m 152 #[.val (.int p1), .val (.int p2), .val (.int p3), .val (.int p4), .val (.int p5), .val (.ref b68), .val (.int (p1 &&& (3 : Int32))), .val (.int (p2 &&& (3 : Int32))), .val (.int (0 : Int32)), .val (.int pv), .val (.int wv), .val (.ref b109), .val (.ref b117), .unset, .unset, .unset] [])) _
            refine XS.iload X125r.here hx rfl (hb hby at_152) rfl ?_
            show Steps p.tables e below (T125.setTop (mkF m 154 #[.val (.int p1), .val (.int p2), .val (.int p3), .val (.int p4), .val (.int p5), .val (.ref b68), .val (.int (p1 &&& (3 : Int32))), .val (.int (p2 &&& (3 : Int32))), .val (.int (0 : Int32)), .val (.int pv), .val (.int wv), .val (.ref b109), .val (.ref b117), .unset, .unset, .unset] [(.int (p1 &&& (3 : Int32)))])) _
            refine XS.iload X125r.here hx rfl (hb hby at_154) rfl ?_
            show Steps p.tables e below (T125.setTop (mkF m 156 #[.val (.int p1), .val (.int p2), .val (.int p3), .val (.int p4), .val (.int p5), .val (.ref b68), .val (.int (p1 &&& (3 : Int32))), .val (.int (p2 &&& (3 : Int32))), .val (.int (0 : Int32)), .val (.int pv), .val (.int wv), .val (.ref b109), .val (.ref b117), .unset, .unset, .unset] [(.int (p2 &&& (3 : Int32))), (.int (p1 &&& (3 : Int32)))])) _
            refine XS.icmpYes X125r.here hx rfl (pc0 := 156) (pc' := 182) rfl (hb hby at_156) rfl (XT.ii_ne_t hkk) (by decide) (by decide) ?_
            show Steps p.tables e below (T125.setTop (mkF m 182 #[.val (.int p1), .val (.int p2), .val (.int p3), .val (.int p4), .val (.int p5), .val (.ref b68), .val (.int (p1 &&& (3 : Int32))), .val (.int (p2 &&& (3 : Int32))), .val (.int (0 : Int32)), .val (.int pv), .val (.int wv), .val (.ref b109), .val (.ref b117), .unset, .unset, .unset] [])) _
            refine XS.iload X125r.here hx rfl (hb hby at_182) rfl ?_
            show Steps p.tables e below (T125.setTop (mkF m 184 #[.val (.int p1), .val (.int p2), .val (.int p3), .val (.int p4), .val (.int p5), .val (.ref b68), .val (.int (p1 &&& (3 : Int32))), .val (.int (p2 &&& (3 : Int32))), .val (.int (0 : Int32)), .val (.int pv), .val (.int wv), .val (.ref b109), .val (.ref b117), .unset, .unset, .unset] [(.int (0 : Int32))])) _
            refine XS.ifYes X125r.here hx rfl (pc0 := 184) (pc' := 222) rfl (hb hby at_184) rfl (by decide) (by decide) (by decide) ?_
            show Steps p.tables e below (T125.setTop (mkF m 222 #[.val (.int p1), .val (.int p2), .val (.int p3), .val (.int p4), .val (.int p5), .val (.ref b68), .val (.int (p1 &&& (3 : Int32))), .val (.int (p2 &&& (3 : Int32))), .val (.int (0 : Int32)), .val (.int pv), .val (.int wv), .val (.ref b109), .val (.ref b117), .unset, .unset, .unset] [])) _
            refine XS.iload X125r.here hx rfl (hb hby at_222) rfl ?_
            show Steps p.tables e below (T125.setTop (mkF m 224 #[.val (.int p1), .val (.int p2), .val (.int p3), .val (.int p4), .val (.int p5), .val (.ref b68), .val (.int (p1 &&& (3 : Int32))), .val (.int (p2 &&& (3 : Int32))), .val (.int (0 : Int32)), .val (.int pv), .val (.int wv), .val (.ref b109), .val (.ref b117), .unset, .unset, .unset] [(.int (p1 &&& (3 : Int32)))])) _
            refine XS.ifNo X125r.here hx rfl (hb hby at_224) rfl (XT.i0_ne_f hd0) ?_
            show Steps p.tables e below (T125.setTop (mkF m 227 #[.val (.int p1), .val (.int p2), .val (.int p3), .val (.int p4), .val (.int p5), .val (.ref b68), .val (.int (p1 &&& (3 : Int32))), .val (.int (p2 &&& (3 : Int32))), .val (.int (0 : Int32)), .val (.int pv), .val (.int wv), .val (.ref b109), .val (.ref b117), .unset, .unset, .unset] [])) _
            refine XS.iload X125r.here hx rfl (hb hby at_227) rfl ?_
            show Steps p.tables e below (T125.setTop (mkF m 229 #[.val (.int p1), .val (.int p2), .val (.int p3), .val (.int p4), .val (.int p5), .val (.ref b68), .val (.int (p1 &&& (3 : Int32))), .val (.int (p2 &&& (3 : Int32))), .val (.int (0 : Int32)), .val (.int pv), .val (.int wv), .val (.ref b109), .val (.ref b117), .unset, .unset, .unset] [(.int pv)])) _
            refine XT.iconstV X125r.here hx rfl (1 : Int32) (hb hby at_229) rfl ?_
            show Steps p.tables e below (T125.setTop (mkF m 230 #[.val (.int p1), .val (.int p2), .val (.int p3), .val (.int p4), .val (.int p5), .val (.ref b68), .val (.int (p1 &&& (3 : Int32))), .val (.int (p2 &&& (3 : Int32))), .val (.int (0 : Int32)), .val (.int pv), .val (.int wv), .val (.ref b109), .val (.ref b117), .unset, .unset, .unset] [(.int (1 : Int32)), (.int pv)])) _
            refine XS.icmpYes X125r.here hx rfl (pc0 := 230) (pc' := 237) rfl (hb hby at_230) rfl (XT.ii_ne_t hc) (by decide) (by decide) ?_
            show Steps p.tables e below (T125.setTop (mkF m 237 #[.val (.int p1), .val (.int p2), .val (.int p3), .val (.int p4), .val (.int p5), .val (.ref b68), .val (.int (p1 &&& (3 : Int32))), .val (.int (p2 &&& (3 : Int32))), .val (.int (0 : Int32)), .val (.int pv), .val (.int wv), .val (.ref b109), .val (.ref b117), .unset, .unset, .unset] [])) _
            refine XT.iconstV X125r.here hx rfl (0 : Int32) (hb hby at_237) rfl ?_
            show Steps p.tables e below (T125.setTop (mkF m 238 #[.val (.int p1), .val (.int p2), .val (.int p3), .val (.int p4), .val (.int p5), .val (.ref b68), .val (.int (p1 &&& (3 : Int32))), .val (.int (p2 &&& (3 : Int32))), .val (.int (0 : Int32)), .val (.int pv), .val (.int wv), .val (.ref b109), .val (.ref b117), .unset, .unset, .unset] [(.int (0 : Int32))])) _
            refine XS.istore X125r.here hx rfl (hb hby at_238) rfl (l' := #[.val (.int p1), .val (.int p2), .val (.int p3), .val (.int p4), .val (.int p5), .val (.ref b68), .val (.int (p1 &&& (3 : Int32))), .val (.int (p2 &&& (3 : Int32))), .val (.int (0 : Int32)), .val (.int pv), .val (.int wv), .val (.ref b109), .val (.ref b117), .val (.int (0 : Int32)), .unset, .unset]) rfl ?_
            show Steps p.tables e below (T125.setTop (mkF m 240 #[.val (.int p1), .val (.int p2), .val (.int p3), .val (.int p4), .val (.int p5), .val (.ref b68), .val (.int (p1 &&& (3 : Int32))), .val (.int (p2 &&& (3 : Int32))), .val (.int (0 : Int32)), .val (.int pv), .val (.int wv), .val (.ref b109), .val (.ref b117), .val (.int (0 : Int32)), .unset, .unset] [])) _
            refine XS.aload X125r.here hx rfl (hb hby at_240) rfl rfl ?_
            show Steps p.tables e below (T125.setTop (mkF m 242 #[.val (.int p1), .val (.int p2), .val (.int p3), .val (.int p4), .val (.int p5), .val (.ref b68), .val (.int (p1 &&& (3 : Int32))), .val (.int (p2 &&& (3 : Int32))), .val (.int (0 : Int32)), .val (.int pv), .val (.int wv), .val (.ref b109), .val (.ref b117), .val (.int (0 : Int32)), .unset, .unset] [(.ref b109)])) _
            refine XS.aload X125r.here hx rfl (hb hby at_242) rfl rfl ?_
            show Steps p.tables e below (T125.setTop (mkF m 244 #[.val (.int p1), .val (.int p2), .val (.int p3), .val (.int p4), .val (.int p5), .val (.ref b68), .val (.int (p1 &&& (3 : Int32))), .val (.int (p2 &&& (3 : Int32))), .val (.int (0 : Int32)), .val (.int pv), .val (.int wv), .val (.ref b109), .val (.ref b117), .val (.int (0 : Int32)), .unset, .unset] [(.ref b117), (.ref b109)])) _
            refine st138.trans ?_
            show Steps p.tables e below (T138.setTop (mkF m 247 #[.val (.int p1), .val (.int p2), .val (.int p3), .val (.int p4), .val (.int p5), .val (.ref b68), .val (.int (p1 &&& (3 : Int32))), .val (.int (p2 &&& (3 : Int32))), .val (.int (0 : Int32)), .val (.int pv), .val (.int wv), .val (.ref b109), .val (.ref b117), .val (.int (0 : Int32)), .unset, .unset] [(.int (0 : Int32))])) _
            refine XS.iload X138.here hx rfl (hb hby at_247) rfl ?_
            show Steps p.tables e below (T138.setTop (mkF m 249 #[.val (.int p1), .val (.int p2), .val (.int p3), .val (.int p4), .val (.int p5), .val (.ref b68), .val (.int (p1 &&& (3 : Int32))), .val (.int (p2 &&& (3 : Int32))), .val (.int (0 : Int32)), .val (.int pv), .val (.int wv), .val (.ref b109), .val (.ref b117), .val (.int (0 : Int32)), .unset, .unset] [(.int (0 : Int32)), (.int (0 : Int32))])) _
            refine XS.icmpNo X138.here hx rfl (hb hby at_249) rfl (by decide) ?_
            show Steps p.tables e below (T138.setTop (mkF m 252 #[.val (.int p1), .val (.int p2), .val (.int p3), .val (.int p4), .val (.int p5), .val (.ref b68), .val (.int (p1 &&& (3 : Int32))), .val (.int (p2 &&& (3 : Int32))), .val (.int (0 : Int32)), .val (.int pv), .val (.int wv), .val (.ref b109), .val (.ref b117), .val (.int (0 : Int32)), .unset, .unset] [])) _
            refine XT.iconstV X138.here hx rfl (1 : Int32) (hb hby at_252) rfl ?_
            show Steps p.tables e below (T138.setTop (mkF m 253 #[.val (.int p1), .val (.int p2), .val (.int p3), .val (.int p4), .val (.int p5), .val (.ref b68), .val (.int (p1 &&& (3 : Int32))), .val (.int (p2 &&& (3 : Int32))), .val (.int (0 : Int32)), .val (.int pv), .val (.int wv), .val (.ref b109), .val (.ref b117), .val (.int (0 : Int32)), .unset, .unset] [(.int (1 : Int32))])) _
            refine XS.goto X138.here hx rfl (pc0 := 253) (pc' := 257) rfl (hb hby at_253) (by decide) (by decide) ?_
            show Steps p.tables e below (T138.setTop (mkF m 257 #[.val (.int p1), .val (.int p2), .val (.int p3), .val (.int p4), .val (.int p5), .val (.ref b68), .val (.int (p1 &&& (3 : Int32))), .val (.int (p2 &&& (3 : Int32))), .val (.int (0 : Int32)), .val (.int pv), .val (.int wv), .val (.ref b109), .val (.ref b117), .val (.int (0 : Int32)), .unset, .unset] [(.int (1 : Int32))])) _
            exact retN X138 hx (t := .boolean) Bd.returns (by simp) (hb hby at_257) hr
          · show own_Q0 n0 _ T138.heap _
            exact ⟨rfl, N138⟩
      · by_cases h2 : (p1 &&& (3 : Int32)) = (2 : Int32)
        · have hum : u1 = w2 := hu1.trans (by rw [h2]; exact own_u2 ..)
          have hdu : w2 ≠ u2 := hum ▸ huu
          have hny : u2 ≠ w3 := by rw [hu2, ← own_u3 w0 w1 w2 w3]; exact own_une P hk2 (by decide) (fun q => hnc ⟨h2, q⟩)
          have FX139 : Fld Z T125.heap b109 "com/example/chitragupta/chitragupta/rating/Span" "unit" "Lcom/example/chitragupta/chitragupta/rating/Span$Unit;" (.ref w2) := by rw [← hum]; exact Fa114_128
          obtain ⟨cq140, kq140, q140a, q140b, q140c⟩ := isOf hZ125 rfl A109_127
          obtain ⟨_, _, ⟨T140, L140, k140, n140⟩, -, X140, ⟨Lc140, hQ140, l140, y140, z140⟩, st140⟩ := X125r.virtualBack hx (y := (⟨"com/example/chitragupta/chitragupta/rating/Span", "divides", "(Lcom/example/chitragupta/chitragupta/rating/Span;)Z"⟩ : MethodName)) (z := (⟨"com/example/chitragupta/chitragupta/rating/Span", "divides", "(Lcom/example/chitragupta/chitragupta/rating/Span;)Z"⟩ : MethodName)) hown125 (mvT hZ125 (hw _ (List.mem_of_getElem? (i := 47) rfl))) (mvT hZ125 (hw _ (List.mem_of_getElem? (i := 48) rfl))) (notFace_of_selects (args := #[]) (mvT hZ125 (hw _ (List.mem_of_getElem? (i := 50) rfl)))) (mvT hZ125 (hw _ (List.mem_of_getElem? (i := 50) rfl))) (mvT hZ125 (hw _ (List.mem_of_getElem? (i := 49) rfl))) (by decide) (backOf (W := 0) (own_div_nob l Z a0 hw [] b109 b117 u1 u2 pv wv w0 w1 w2 w3 T125.heap n0 Z125 (own_P_ext P EX125) FX139 Fb114_129 Fa125 Fb125 hdu hny) hZ125 (hw _ (List.mem_of_getElem? (i := 51) rfl)) (hw _ (List.mem_of_getElem? (i := 19) rfl)) (by decide) (by decide)) q140a q140c (g := (mkF m 244 #[.val (.int p1), .val (.int p2), .val (.int p3), .val (.int p4), .val (.int p5), .val (.ref b68), .val (.int (p1 &&& (3 : Int32))), .val (.int (p2 &&& (3 : Int32))), .val (.int (0 : Int32)), .val (.int pv), .val (.int wv), .val (.ref b109), .val (.ref b117), .val (.int (0 : Int32)), .unset, .unset] [(.ref b117), (.ref b109)])) rfl (by rw [hml]; rfl) (Steps.refl _) (argsL := [(.ref b117)]) (rest := []) (lenOf pd__Lcom_example_chitragupta_chitragupta_rating_Span__Z rfl) rfl (by show 2 * 0 + _ ≤ _; exact Nat.le_of_eq rfl) (hb hby at_244) (fun _ _ => ⟨rfl, rfl, (by decide : 7 + 0 ≤ _), (by decide : 48 + 0 ≤ _)⟩)
          dsimp only [Pt.U, Pt.locs, Pt.cells, Pt.slots] at X140 l140 y140 z140 st140 hQ140
          subst l140 y140 z140
          obtain ⟨rfl, N140q, e140⟩ := hQ140
          have N140 := Fr.app N125 N140q
          obtain ⟨fs, hr, hrun, hended, hRE⟩ := Jvm.Stand.leaveW (s := s) (vm₁ := T125.vm) X140 hS125 (Nat.le_trans (Nat.le_refl _) (Nat.le_of_eq (congrArg Array.size e140.symm))) (v := some (.int (1 : Int32))) (fun h => by rw [Bd.returns] at h; cases h)
          refine ⟨_, _, pre0 _ (pre1 _ (thru _ (pre4 _ ?_))), hrun, hended, _, _, rfl, ?_, ⟨_, rfl⟩, hRE.2.1, hRE.2.2.1, hRE.2.2.2.mono (by decide) (by decide)⟩
          · show Steps p.tables e below (T125.setTop (mkF m 152 #[.val (.int p1), .val (.int p2), .val (.int p3), .val (.int p4), .val (.int p5), .val (.ref b68), .val (.int (p1 &&& (3 : Int32))), .val (.int (p2 &&& (3 : Int32))), .val (.int (0 : Int32)), .val (.int pv), .val (.int wv), .val (.ref b109), .val (.ref b117), .unset, .unset, .unset] [])) _
            refine XS.iload X125r.here hx rfl (hb hby at_152) rfl ?_
            show Steps p.tables e below (T125.setTop (mkF m 154 #[.val (.int p1), .val (.int p2), .val (.int p3), .val (.int p4), .val (.int p5), .val (.ref b68), .val (.int (p1 &&& (3 : Int32))), .val (.int (p2 &&& (3 : Int32))), .val (.int (0 : Int32)), .val (.int pv), .val (.int wv), .val (.ref b109), .val (.ref b117), .unset, .unset, .unset] [(.int (p1 &&& (3 : Int32)))])) _
            refine XS.iload X125r.here hx rfl (hb hby at_154) rfl ?_
            show Steps p.tables e below (T125.setTop (mkF m 156 #[.val (.int p1), .val (.int p2), .val (.int p3), .val (.int p4), .val (.int p5), .val (.ref b68), .val (.int (p1 &&& (3 : Int32))), .val (.int (p2 &&& (3 : Int32))), .val (.int (0 : Int32)), .val (.int pv), .val (.int wv), .val (.ref b109), .val (.ref b117), .unset, .unset, .unset] [(.int (p2 &&& (3 : Int32))), (.int (p1 &&& (3 : Int32)))])) _
            refine XS.icmpYes X125r.here hx rfl (pc0 := 156) (pc' := 182) rfl (hb hby at_156) rfl (XT.ii_ne_t hkk) (by decide) (by decide) ?_
            show Steps p.tables e below (T125.setTop (mkF m 182 #[.val (.int p1), .val (.int p2), .val (.int p3), .val (.int p4), .val (.int p5), .val (.ref b68), .val (.int (p1 &&& (3 : Int32))), .val (.int (p2 &&& (3 : Int32))), .val (.int (0 : Int32)), .val (.int pv), .val (.int wv), .val (.ref b109), .val (.ref b117), .unset, .unset, .unset] [])) _
            refine XS.iload X125r.here hx rfl (hb hby at_182) rfl ?_
            show Steps p.tables e below (T125.setTop (mkF m 184 #[.val (.int p1), .val (.int p2), .val (.int p3), .val (.int p4), .val (.int p5), .val (.ref b68), .val (.int (p1 &&& (3 : Int32))), .val (.int (p2 &&& (3 : Int32))), .val (.int (0 : Int32)), .val (.int pv), .val (.int wv), .val (.ref b109), .val (.ref b117), .unset, .unset, .unset] [(.int (0 : Int32))])) _
            refine XS.ifYes X125r.here hx rfl (pc0 := 184) (pc' := 222) rfl (hb hby at_184) rfl (by decide) (by decide) (by decide) ?_
            show Steps p.tables e below (T125.setTop (mkF m 222 #[.val (.int p1), .val (.int p2), .val (.int p3), .val (.int p4), .val (.int p5), .val (.ref b68), .val (.int (p1 &&& (3 : Int32))), .val (.int (p2 &&& (3 : Int32))), .val (.int (0 : Int32)), .val (.int pv), .val (.int wv), .val (.ref b109), .val (.ref b117), .unset, .unset, .unset] [])) _
            refine XS.iload X125r.here hx rfl (hb hby at_222) rfl ?_
            show Steps p.tables e below (T125.setTop (mkF m 224 #[.val (.int p1), .val (.int p2), .val (.int p3), .val (.int p4), .val (.int p5), .val (.ref b68), .val (.int (p1 &&& (3 : Int32))), .val (.int (p2 &&& (3 : Int32))), .val (.int (0 : Int32)), .val (.int pv), .val (.int wv), .val (.ref b109), .val (.ref b117), .unset, .unset, .unset] [(.int (p1 &&& (3 : Int32)))])) _
            refine XS.ifYes X125r.here hx rfl (pc0 := 224) (pc' := 237) rfl (hb hby at_224) rfl (XT.i0_ne_t hd0) (by decide) (by decide) ?_
            show Steps p.tables e below (T125.setTop (mkF m 237 #[.val (.int p1), .val (.int p2), .val (.int p3), .val (.int p4), .val (.int p5), .val (.ref b68), .val (.int (p1 &&& (3 : Int32))), .val (.int (p2 &&& (3 : Int32))), .val (.int (0 : Int32)), .val (.int pv), .val (.int wv), .val (.ref b109), .val (.ref b117), .unset, .unset, .unset] [])) _
            refine XT.iconstV X125r.here hx rfl (0 : Int32) (hb hby at_237) rfl ?_
            show Steps p.tables e below (T125.setTop (mkF m 238 #[.val (.int p1), .val (.int p2), .val (.int p3), .val (.int p4), .val (.int p5), .val (.ref b68), .val (.int (p1 &&& (3 : Int32))), .val (.int (p2 &&& (3 : Int32))), .val (.int (0 : Int32)), .val (.int pv), .val (.int wv), .val (.ref b109), .val (.ref b117), .unset, .unset, .unset] [(.int (0 : Int32))])) _
            refine XS.istore X125r.here hx rfl (hb hby at_238) rfl (l' := #[.val (.int p1), .val (.int p2), .val (.int p3), .val (.int p4), .val (.int p5), .val (.ref b68), .val (.int (p1 &&& (3 : Int32))), .val (.int (p2 &&& (3 : Int32))), .val (.int (0 : Int32)), .val (.int pv), .val (.int wv), .val (.ref b109), .val (.ref b117), .val (.int (0 : Int32)), .unset, .unset]) rfl ?_
            show Steps p.tables e below (T125.setTop (mkF m 240 #[.val (.int p1), .val (.int p2), .val (.int p3), .val (.int p4), .val (.int p5), .val (.ref b68), .val (.int (p1 &&& (3 : Int32))), .val (.int (p2 &&& (3 : Int32))), .val (.int (0 : Int32)), .val (.int pv), .val (.int wv), .val (.ref b109), .val (.ref b117), .val (.int (0 : Int32)), .unset, .unset] [])) _
            refine XS.aload X125r.here hx rfl (hb hby at_240) rfl rfl ?_
            show Steps p.tables e below (T125.setTop (mkF m 242 #[.val (.int p1), .val (.int p2), .val (.int p3), .val (.int p4), .val (.int p5), .val (.ref b68), .val (.int (p1 &&& (3 : Int32))), .val (.int (p2 &&& (3 : Int32))), .val (.int (0 : Int32)), .val (.int pv), .val (.int wv), .val (.ref b109), .val (.ref b117), .val (.int (0 : Int32)), .unset, .unset] [(.ref b109)])) _
            refine XS.aload X125r.here hx rfl (hb hby at_242) rfl rfl ?_
            show Steps p.tables e below (T125.setTop (mkF m 244 #[.val (.int p1), .val (.int p2), .val (.int p3), .val (.int p4), .val (.int p5), .val (.ref b68), .val (.int (p1 &&& (3 : Int32))), .val (.int (p2 &&& (3 : Int32))), .val (.int (0 : Int32)), .val (.int pv), .val (.int wv), .val (.ref b109), .val (.ref b117), .val (.int (0 : Int32)), .unset, .unset] [(.ref b117), (.ref b109)])) _
            refine st140.trans ?_
            show Steps p.tables e below (T140.setTop (mkF m 247 #[.val (.int p1), .val (.int p2), .val (.int p3), .val (.int p4), .val (.int p5), .val (.ref b68), .val (.int (p1 &&& (3 : Int32))), .val (.int (p2 &&& (3 : Int32))), .val (.int (0 : Int32)), .val (.int pv), .val (.int wv), .val (.ref b109), .val (.ref b117), .val (.int (0 : Int32)), .unset, .unset] [(.int (0 : Int32))])) _
            refine XS.iload X140.here hx rfl (hb hby at_247) rfl ?_
            show Steps p.tables e below (T140.setTop (mkF m 249 #[.val (.int p1), .val (.int p2), .val (.int p3), .val (.int p4), .val (.int p5), .val (.ref b68), .val (.int (p1 &&& (3 : Int32))), .val (.int (p2 &&& (3 : Int32))), .val (.int (0 : Int32)), .val (.int pv), .val (.int wv), .val (.ref b109), .val (.ref b117), .val (.int (0 : Int32)), .unset, .unset] [(.int (0 : Int32)), (.int (0 : Int32))])) _
            refine XS.icmpNo X140.here hx rfl (hb hby at_249) rfl (by decide) ?_
            show Steps p.tables e below (T140.setTop (mkF m 252 #[.val (.int p1), .val (.int p2), .val (.int p3), .val (.int p4), .val (.int p5), .val (.ref b68), .val (.int (p1 &&& (3 : Int32))), .val (.int (p2 &&& (3 : Int32))), .val (.int (0 : Int32)), .val (.int pv), .val (.int wv), .val (.ref b109), .val (.ref b117), .val (.int (0 : Int32)), .unset, .unset] [])) _
            refine XT.iconstV X140.here hx rfl (1 : Int32) (hb hby at_252) rfl ?_
            show Steps p.tables e below (T140.setTop (mkF m 253 #[.val (.int p1), .val (.int p2), .val (.int p3), .val (.int p4), .val (.int p5), .val (.ref b68), .val (.int (p1 &&& (3 : Int32))), .val (.int (p2 &&& (3 : Int32))), .val (.int (0 : Int32)), .val (.int pv), .val (.int wv), .val (.ref b109), .val (.ref b117), .val (.int (0 : Int32)), .unset, .unset] [(.int (1 : Int32))])) _
            refine XS.goto X140.here hx rfl (pc0 := 253) (pc' := 257) rfl (hb hby at_253) (by decide) (by decide) ?_
            show Steps p.tables e below (T140.setTop (mkF m 257 #[.val (.int p1), .val (.int p2), .val (.int p3), .val (.int p4), .val (.int p5), .val (.ref b68), .val (.int (p1 &&& (3 : Int32))), .val (.int (p2 &&& (3 : Int32))), .val (.int (0 : Int32)), .val (.int pv), .val (.int wv), .val (.ref b109), .val (.ref b117), .val (.int (0 : Int32)), .unset, .unset] [(.int (1 : Int32))])) _
            exact retN X140 hx (t := .boolean) Bd.returns (by simp) (hb hby at_257) hr
          · show own_Q0 n0 _ T140.heap _
            exact ⟨rfl, N140⟩
        · have hnM : u1 ≠ w2 := by rw [hu1, ← own_u2 w0 w1 w2 w3]; exact own_une P hk1 (by decide) h2
          have hnd : u1 ≠ w0 := by rw [hu1, ← own_u0 w0 w1 w2 w3]; exact own_une P hk1 (by decide) hd0
          obtain ⟨cq142, kq142, q142a, q142b, q142c⟩ := isOf hZ125 rfl A109_127
          obtain ⟨_, _, ⟨T142, L142, k142, n142⟩, -, X142, ⟨Lc142, hQ142, l142, y142, z142⟩, st142⟩ := X125r.virtualBack hx (y := (⟨"com/example/chitragupta/chitragupta/rating/Span", "divides", "(Lcom/example/chitragupta/chitragupta/rating/Span;)Z"⟩ : MethodName)) (z := (⟨"com/example/chitragupta/chitragupta/rating/Span", "divides", "(Lcom/example/chitragupta/chitragupta/rating/Span;)Z"⟩ : MethodName)) hown125 (mvT hZ125 (hw _ (List.mem_of_getElem? (i := 47) rfl))) (mvT hZ125 (hw _ (List.mem_of_getElem? (i := 48) rfl))) (notFace_of_selects (args := #[]) (mvT hZ125 (hw _ (List.mem_of_getElem? (i := 50) rfl)))) (mvT hZ125 (hw _ (List.mem_of_getElem? (i := 50) rfl))) (mvT hZ125 (hw _ (List.mem_of_getElem? (i := 49) rfl))) (by decide) (backOf (W := 0) (own_div_noa l Z a0 hw [] b109 b117 u1 u2 pv wv w0 w1 w2 w3 T125.heap n0 Z125 (own_P_ext P EX125) Fa114_128 Fb114_129 Fa125 Fb125 huu hnM hnd) hZ125 (hw _ (List.mem_of_getElem? (i := 51) rfl)) (hw _ (List.mem_of_getElem? (i := 19) rfl)) (by decide) (by decide)) q142a q142c (g := (mkF m 244 #[.val (.int p1), .val (.int p2), .val (.int p3), .val (.int p4), .val (.int p5), .val (.ref b68), .val (.int (p1 &&& (3 : Int32))), .val (.int (p2 &&& (3 : Int32))), .val (.int (0 : Int32)), .val (.int pv), .val (.int wv), .val (.ref b109), .val (.ref b117), .val (.int (0 : Int32)), .unset, .unset] [(.ref b117), (.ref b109)])) rfl (by rw [hml]; rfl) (Steps.refl _) (argsL := [(.ref b117)]) (rest := []) (lenOf pd__Lcom_example_chitragupta_chitragupta_rating_Span__Z rfl) rfl (by show 2 * 0 + _ ≤ _; exact Nat.le_of_eq rfl) (hb hby at_244) (fun _ _ => ⟨rfl, rfl, (by decide : 7 + 0 ≤ _), (by decide : 48 + 0 ≤ _)⟩)
          dsimp only [Pt.U, Pt.locs, Pt.cells, Pt.slots] at X142 l142 y142 z142 st142 hQ142
          subst l142 y142 z142
          obtain ⟨rfl, N142q, e142⟩ := hQ142
          have N142 := Fr.app N125 N142q
          obtain ⟨fs, hr, hrun, hended, hRE⟩ := Jvm.Stand.leaveW (s := s) (vm₁ := T125.vm) X142 hS125 (Nat.le_trans (Nat.le_refl _) (Nat.le_of_eq (congrArg Array.size e142.symm))) (v := some (.int (1 : Int32))) (fun h => by rw [Bd.returns] at h; cases h)
          refine ⟨_, _, pre0 _ (pre1 _ (thru _ (pre4 _ ?_))), hrun, hended, _, _, rfl, ?_, ⟨_, rfl⟩, hRE.2.1, hRE.2.2.1, hRE.2.2.2.mono (by decide) (by decide)⟩
          · show Steps p.tables e below (T125.setTop (mkF m 152 #[.val (.int p1), .val (.int p2), .val (.int p3), .val (.int p4), .val (.int p5), .val (.ref b68), .val (.int (p1 &&& (3 : Int32))), .val (.int (p2 &&& (3 : Int32))), .val (.int (0 : Int32)), .val (.int pv), .val (.int wv), .val (.ref b109), .val (.ref b117), .unset, .unset, .unset] [])) _
            refine XS.iload X125r.here hx rfl (hb hby at_152) rfl ?_
            show Steps p.tables e below (T125.setTop (mkF m 154 #[.val (.int p1), .val (.int p2), .val (.int p3), .val (.int p4), .val (.int p5), .val (.ref b68), .val (.int (p1 &&& (3 : Int32))), .val (.int (p2 &&& (3 : Int32))), .val (.int (0 : Int32)), .val (.int pv), .val (.int wv), .val (.ref b109), .val (.ref b117), .unset, .unset, .unset] [(.int (p1 &&& (3 : Int32)))])) _
            refine XS.iload X125r.here hx rfl (hb hby at_154) rfl ?_
            show Steps p.tables e below (T125.setTop (mkF m 156 #[.val (.int p1), .val (.int p2), .val (.int p3), .val (.int p4), .val (.int p5), .val (.ref b68), .val (.int (p1 &&& (3 : Int32))), .val (.int (p2 &&& (3 : Int32))), .val (.int (0 : Int32)), .val (.int pv), .val (.int wv), .val (.ref b109), .val (.ref b117), .unset, .unset, .unset] [(.int (p2 &&& (3 : Int32))), (.int (p1 &&& (3 : Int32)))])) _
            refine XS.icmpYes X125r.here hx rfl (pc0 := 156) (pc' := 182) rfl (hb hby at_156) rfl (XT.ii_ne_t hkk) (by decide) (by decide) ?_
            show Steps p.tables e below (T125.setTop (mkF m 182 #[.val (.int p1), .val (.int p2), .val (.int p3), .val (.int p4), .val (.int p5), .val (.ref b68), .val (.int (p1 &&& (3 : Int32))), .val (.int (p2 &&& (3 : Int32))), .val (.int (0 : Int32)), .val (.int pv), .val (.int wv), .val (.ref b109), .val (.ref b117), .unset, .unset, .unset] [])) _
            refine XS.iload X125r.here hx rfl (hb hby at_182) rfl ?_
            show Steps p.tables e below (T125.setTop (mkF m 184 #[.val (.int p1), .val (.int p2), .val (.int p3), .val (.int p4), .val (.int p5), .val (.ref b68), .val (.int (p1 &&& (3 : Int32))), .val (.int (p2 &&& (3 : Int32))), .val (.int (0 : Int32)), .val (.int pv), .val (.int wv), .val (.ref b109), .val (.ref b117), .unset, .unset, .unset] [(.int (0 : Int32))])) _
            refine XS.ifYes X125r.here hx rfl (pc0 := 184) (pc' := 222) rfl (hb hby at_184) rfl (by decide) (by decide) (by decide) ?_
            show Steps p.tables e below (T125.setTop (mkF m 222 #[.val (.int p1), .val (.int p2), .val (.int p3), .val (.int p4), .val (.int p5), .val (.ref b68), .val (.int (p1 &&& (3 : Int32))), .val (.int (p2 &&& (3 : Int32))), .val (.int (0 : Int32)), .val (.int pv), .val (.int wv), .val (.ref b109), .val (.ref b117), .unset, .unset, .unset] [])) _
            refine XS.iload X125r.here hx rfl (hb hby at_222) rfl ?_
            show Steps p.tables e below (T125.setTop (mkF m 224 #[.val (.int p1), .val (.int p2), .val (.int p3), .val (.int p4), .val (.int p5), .val (.ref b68), .val (.int (p1 &&& (3 : Int32))), .val (.int (p2 &&& (3 : Int32))), .val (.int (0 : Int32)), .val (.int pv), .val (.int wv), .val (.ref b109), .val (.ref b117), .unset, .unset, .unset] [(.int (p1 &&& (3 : Int32)))])) _
            refine XS.ifYes X125r.here hx rfl (pc0 := 224) (pc' := 237) rfl (hb hby at_224) rfl (XT.i0_ne_t hd0) (by decide) (by decide) ?_
            show Steps p.tables e below (T125.setTop (mkF m 237 #[.val (.int p1), .val (.int p2), .val (.int p3), .val (.int p4), .val (.int p5), .val (.ref b68), .val (.int (p1 &&& (3 : Int32))), .val (.int (p2 &&& (3 : Int32))), .val (.int (0 : Int32)), .val (.int pv), .val (.int wv), .val (.ref b109), .val (.ref b117), .unset, .unset, .unset] [])) _
            refine XT.iconstV X125r.here hx rfl (0 : Int32) (hb hby at_237) rfl ?_
            show Steps p.tables e below (T125.setTop (mkF m 238 #[.val (.int p1), .val (.int p2), .val (.int p3), .val (.int p4), .val (.int p5), .val (.ref b68), .val (.int (p1 &&& (3 : Int32))), .val (.int (p2 &&& (3 : Int32))), .val (.int (0 : Int32)), .val (.int pv), .val (.int wv), .val (.ref b109), .val (.ref b117), .unset, .unset, .unset] [(.int (0 : Int32))])) _
            refine XS.istore X125r.here hx rfl (hb hby at_238) rfl (l' := #[.val (.int p1), .val (.int p2), .val (.int p3), .val (.int p4), .val (.int p5), .val (.ref b68), .val (.int (p1 &&& (3 : Int32))), .val (.int (p2 &&& (3 : Int32))), .val (.int (0 : Int32)), .val (.int pv), .val (.int wv), .val (.ref b109), .val (.ref b117), .val (.int (0 : Int32)), .unset, .unset]) rfl ?_
            show Steps p.tables e below (T125.setTop (mkF m 240 #[.val (.int p1), .val (.int p2), .val (.int p3), .val (.int p4), .val (.int p5), .val (.ref b68), .val (.int (p1 &&& (3 : Int32))), .val (.int (p2 &&& (3 : Int32))), .val (.int (0 : Int32)), .val (.int pv), .val (.int wv), .val (.ref b109), .val (.ref b117), .val (.int (0 : Int32)), .unset, .unset] [])) _
            refine XS.aload X125r.here hx rfl (hb hby at_240) rfl rfl ?_
            show Steps p.tables e below (T125.setTop (mkF m 242 #[.val (.int p1), .val (.int p2), .val (.int p3), .val (.int p4), .val (.int p5), .val (.ref b68), .val (.int (p1 &&& (3 : Int32))), .val (.int (p2 &&& (3 : Int32))), .val (.int (0 : Int32)), .val (.int pv), .val (.int wv), .val (.ref b109), .val (.ref b117), .val (.int (0 : Int32)), .unset, .unset] [(.ref b109)])) _
            refine XS.aload X125r.here hx rfl (hb hby at_242) rfl rfl ?_
            show Steps p.tables e below (T125.setTop (mkF m 244 #[.val (.int p1), .val (.int p2), .val (.int p3), .val (.int p4), .val (.int p5), .val (.ref b68), .val (.int (p1 &&& (3 : Int32))), .val (.int (p2 &&& (3 : Int32))), .val (.int (0 : Int32)), .val (.int pv), .val (.int wv), .val (.ref b109), .val (.ref b117), .val (.int (0 : Int32)), .unset, .unset] [(.ref b117), (.ref b109)])) _
            refine st142.trans ?_
            show Steps p.tables e below (T142.setTop (mkF m 247 #[.val (.int p1), .val (.int p2), .val (.int p3), .val (.int p4), .val (.int p5), .val (.ref b68), .val (.int (p1 &&& (3 : Int32))), .val (.int (p2 &&& (3 : Int32))), .val (.int (0 : Int32)), .val (.int pv), .val (.int wv), .val (.ref b109), .val (.ref b117), .val (.int (0 : Int32)), .unset, .unset] [(.int (0 : Int32))])) _
            refine XS.iload X142.here hx rfl (hb hby at_247) rfl ?_
            show Steps p.tables e below (T142.setTop (mkF m 249 #[.val (.int p1), .val (.int p2), .val (.int p3), .val (.int p4), .val (.int p5), .val (.ref b68), .val (.int (p1 &&& (3 : Int32))), .val (.int (p2 &&& (3 : Int32))), .val (.int (0 : Int32)), .val (.int pv), .val (.int wv), .val (.ref b109), .val (.ref b117), .val (.int (0 : Int32)), .unset, .unset] [(.int (0 : Int32)), (.int (0 : Int32))])) _
            refine XS.icmpNo X142.here hx rfl (hb hby at_249) rfl (by decide) ?_
            show Steps p.tables e below (T142.setTop (mkF m 252 #[.val (.int p1), .val (.int p2), .val (.int p3), .val (.int p4), .val (.int p5), .val (.ref b68), .val (.int (p1 &&& (3 : Int32))), .val (.int (p2 &&& (3 : Int32))), .val (.int (0 : Int32)), .val (.int pv), .val (.int wv), .val (.ref b109), .val (.ref b117), .val (.int (0 : Int32)), .unset, .unset] [])) _
            refine XT.iconstV X142.here hx rfl (1 : Int32) (hb hby at_252) rfl ?_
            show Steps p.tables e below (T142.setTop (mkF m 253 #[.val (.int p1), .val (.int p2), .val (.int p3), .val (.int p4), .val (.int p5), .val (.ref b68), .val (.int (p1 &&& (3 : Int32))), .val (.int (p2 &&& (3 : Int32))), .val (.int (0 : Int32)), .val (.int pv), .val (.int wv), .val (.ref b109), .val (.ref b117), .val (.int (0 : Int32)), .unset, .unset] [(.int (1 : Int32))])) _
            refine XS.goto X142.here hx rfl (pc0 := 253) (pc' := 257) rfl (hb hby at_253) (by decide) (by decide) ?_
            show Steps p.tables e below (T142.setTop (mkF m 257 #[.val (.int p1), .val (.int p2), .val (.int p3), .val (.int p4), .val (.int p5), .val (.ref b68), .val (.int (p1 &&& (3 : Int32))), .val (.int (p2 &&& (3 : Int32))), .val (.int (0 : Int32)), .val (.int pv), .val (.int wv), .val (.ref b109), .val (.ref b117), .val (.int (0 : Int32)), .unset, .unset] [(.int (1 : Int32))])) _
            exact retN X142 hx (t := .boolean) Bd.returns (by simp) (hb hby at_257) hr
          · show own_Q0 n0 _ T142.heap _
            exact ⟨rfl, N142⟩
set_option maxRecDepth 65536 in
set_option maxHeartbeats 40000000 in
theorem comes_1 {Post : Tables → Env → Array Value → State → Outcome → State → Prop} (hpost : ∀ tb e args s v u, (limb_1_1.after args s (.returned v) u = true ∧ limb_1_2.after args s (.returned v) u = true ∧ True) → ReturnedEndW s (.returned v) u (Jvm.fieldLocs frame_1_writes args s ++ Jvm.arrayLocs frame_1_arrays args s ++ Jvm.staticLocs frame_1_statics s) 16 1152 → Post tb e args s (.returned v) u) :
    ArmFor flags0 classFile x code maxLocals ret World_1 tables_1 room_1 Calls_1 rest_1 Pre_1 Post := by
  intro l hfl _ _ p e ha hc hk s m args below hf hA hF happ hP
  obtain ⟨hcalls, hrest, hpre⟩ := hP
  obtain ⟨-, -, -, hnamed, -, -, -, hat⟩ := (Spec.applies_iff hf).mp happ
  obtain ⟨hg, hn⟩ := and_e (Cond.before_iff.mp (show (Jvm.Cond.and given_1 narrow_1).before args s = true from hpre))
  obtain ⟨gg, gr⟩ := and_e hg
  obtain ⟨a0, a1, a2, a3, a4, rfl⟩ : ∃ a0 a1 a2 a3 a4 : Value, args = #[a0, a1, a2, a3, a4] := by
    have hs : args.size = 5 := by simpa [Cond.value, given_1] using gg
    obtain ⟨L⟩ := args
    match L, hs with
    | [a0, a1, a2, a3, a4], _ => exact ⟨a0, a1, a2, a3, a4, rfl⟩
  have hw := fun d (hd : d ∈ tables_1) => atoms_spec (ws := Jvm.Cond.code x code maxLocals ret :: tables_1) hat d (List.mem_cons_of_mem _ hd)
  have hfit : Fit s := fun {y c} hc i hi => by
    obtain ⟨ha, rfl⟩ := Array.getElem?_eq_some_iff.mp hc
    have q := List.all_eq_true.mp ((Array.all_eq_true_iff_forall_mem.mp hF) _ (Array.getElem_mem ha)) i (List.mem_range.mpr hi)
    simpa [Array.getElem?_eq_getElem hi] using q
  obtain ⟨gi0, gr0⟩ := and_e gr
  obtain ⟨i0, ei0⟩ := is_v gi0
  obtain rfl : a0 = (.int i0) := Option.some.inj ei0
  obtain ⟨gi1, gr1⟩ := and_e gr0
  obtain ⟨i1, ei1⟩ := is_v gi1
  obtain rfl : a1 = (.int i1) := Option.some.inj ei1
  obtain ⟨gi2, gr2⟩ := and_e gr1
  obtain ⟨i2, ei2⟩ := is_v gi2
  obtain rfl : a2 = (.int i2) := Option.some.inj ei2
  obtain ⟨gi3, gr3⟩ := and_e gr2
  obtain ⟨i3, ei3⟩ := is_v gi3
  obtain rfl : a3 = (.int i3) := Option.some.inj ei3
  obtain ⟨i4, ei4⟩ := is_v gr3
  obtain rfl : a4 = (.int i4) := Option.some.inj ei4
  obtain ⟨c0, r0⟩ := and_e hn
  obtain ⟨c1, r1⟩ := and_e r0
  obtain ⟨c2, r2⟩ := and_e r1
  obtain ⟨c3, r3⟩ := and_e r2
  obtain ⟨c4, r4⟩ := and_e r3
  obtain ⟨c5, r5⟩ := and_e r4
  obtain ⟨c6, r6⟩ := and_e r5
  obtain ⟨w0, v0⟩ := exa_v c0
  have E0 := Exa.start v0 c0
  have S0 := Sta.start v0 (Or.inr ⟨(hw _ (List.mem_of_getElem? (i := 3) rfl)), (hw _ (List.mem_of_getElem? (i := 4) rfl))⟩)
  obtain ⟨w1, v1⟩ := exa_v c1
  have E1 := Exa.start v1 c1
  have S1 := Sta.start v1 (Or.inr ⟨(hw _ (List.mem_of_getElem? (i := 3) rfl)), (hw _ (List.mem_of_getElem? (i := 7) rfl))⟩)
  obtain ⟨w2, v2⟩ := exa_v c2
  have E2 := Exa.start v2 c2
  have S2 := Sta.start v2 (Or.inr ⟨(hw _ (List.mem_of_getElem? (i := 3) rfl)), (hw _ (List.mem_of_getElem? (i := 9) rfl))⟩)
  obtain ⟨w3, v3⟩ := exa_v c3
  have E3 := Exa.start v3 c3
  have S3 := Sta.start v3 (Or.inr ⟨(hw _ (List.mem_of_getElem? (i := 3) rfl)), (hw _ (List.mem_of_getElem? (i := 11) rfl))⟩)
  have F0_ordinal := own_fldI v0 c4
  have F3_ordinal := own_fldI v3 c5
  have F2_ordinal := own_fldI v2 c6
  have F1_ordinal := own_fldI v1 r6
  have P : own_P s s.heap w0 w1 w2 w3 := ⟨S0, E0, F0_ordinal, S1, E1, F1_ordinal, S2, E2, F2_ordinal, S3, E3, F3_ordinal⟩
  obtain ⟨n, o, h1, h2, h3, _, L, rfl, ⟨rfl, N⟩, hq⟩ := own_law l s _ hw tables_1 i0 i1 i2 i3 i4 w0 w1 w2 w3 s.heap s.heap.size (Nat.le_refl _) P p e ha hc hk s m _ below hf ((Spec.applies_iff_loose hf).mp happ).1 ⟨rfl, State.Warmed39.refl s, rfl⟩ trivial
  refine ⟨n, _, h1, h2, h3, hpost _ _ _ _ _ _ ⟨Cond.after_iff.mpr rfl, Cond.after_iff.mpr (eq_i res_at (Term.int_eval (1)) rfl), trivial⟩ ⟨hq.1, hq.2.1, hq.2.2.1, (hq.2.2.2.sift fun y hy => Or.inr (N y hy)).mono (by decide) (by decide)⟩⟩
theorem main_1_1 : Claimed_1_1 := comes_1 fun _ _ _ _ _ _ h hF => ⟨h.1, hF⟩
theorem main_1_2 : Claimed_1_2 := comes_1 fun _ _ _ _ _ _ h hF => ⟨h.2.1, hF⟩
end Jvm.Pilot.@@N@@
namespace Jvm.Pilot.@@N@@
open Jvm Jvm.ClassFile Sem Op Lib Jvm.Free Jvm.Stand Jvm.Pilot.@@N@@.Jvm.D
/-! MADE BY PROGRAM (witnessworld.py) out of the Statement's table words and the real class files: 20 classes; the members and pool entries that the words name. The judged class is class 1, her method 1. -/
namespace start1
open Jvm.ClassFile
def u (s : String) : CpInfo := .utf8 (stringToUtf16 s)
/-- a pool by its gaps: so many unusable entries, then the entry; so many at the end -/
def gap : Nat → List CpInfo → List CpInfo
  | 0, r => r
  | n + 1, r => .unusable :: gap n r
def poolList (es : List (Nat × CpInfo)) (last : Nat) : List CpInfo := es.foldr (fun e r => gap e.1 (e.2 :: r)) (gap last [])
def pool (es : List (Nat × CpInfo)) (last : Nat) : Array CpInfo := ⟨poolList es last⟩
def fileOf (pool : Array CpInfo) (this : Nat) (attrs : Array Attribute := #[]) (ms : Array MethodInfo := #[]) (fl : Nat := 33) (sup : Nat := 0) (ifs : Array Nat := #[]) (fds : Array FieldInfo := #[]) : ClassFile where
  minorVersion := 0
  majorVersion := 65
  constantPool := pool
  accessFlags := fl
  thisClass := this
  superClass := sup
  interfaces := ifs
  fields := fds
  methods := ms
  attributes := attrs
def plain (name : String) (sup : Option ClassId) : Class where
  name := name
  kind := .ordinary
  loader := none
  accessFlags := 33
  super := sup
  interfaces := #[]
  cf := none
  fields := #[]
  methods := #[]
  instanceTypes := #[]
  staticTypes := #[]
  resolved := #[]
  callSites := []
  init := .initialized
  statics := none
  mirror := none

def pool0 : Array CpInfo := pool [(5, u "<init>"), (0, u "()V"), (1, .class_ 10), (1, u "java/lang/Object")] 113

def k0c0 : Code := { maxStack := 0, maxLocals := 1, code := object_method_1_code, exceptionTable := #[], attributes := #[] }
def k0m0 : Method := { name := "<init>", desc := "()V", sig := { parameters := [], returnType := none }, accessFlags := 1, code := some k0c0 }
/-- java/lang/Object -/
def k0 : Class := { plain "java/lang/Object" none with
  accessFlags := 33
  interfaces := #[]
  cf := some (fileOf pool0 8 #[] #[{ accessFlags := 1, nameIndex := 5, descriptorIndex := 6, attributes := #[] }] 33 0 #[] #[])
  fields := #[]
  methods := #[k0m0]
  instanceTypes := #[]
  staticTypes := #[]
  resolved := Array.replicate 124 none
  statics := none }

def pool1 : Array CpInfo := pool [(2, .class_ 4), (1, u "java/lang/Object"), (0, u "<init>"), (0, u "()V"), (0, .class_ 8), (0, u "com/example/chitragupta/chitragupta/rating/Span$Unit"), (0, .fieldref 7 10), (0, .nameAndType 11 12), (0, u "DAY"), (0, u "Lcom/example/chitragupta/chitragupta/rating/Span$Unit;"), (0, .fieldref 7 14), (0, .nameAndType 15 12), (0, u "WEEK"), (0, .fieldref 7 17), (0, .nameAndType 18 12), (0, u "MONTH"), (0, .fieldref 7 20), (0, .nameAndType 21 12), (0, u "YEAR"), (0, .integer 65535), (0, .integer 2147483647), (0, .methodref 25 26), (0, .class_ 27), (0, .nameAndType 28 29), (0, u "java/lang/Math"), (0, u "max"), (0, u "(II)I"), (0, .integer 134217727), (0, .class_ 32), (0, u "com/example/chitragupta/chitragupta/rating/Span"), (0, .methodref 31 34), (0, .nameAndType 5 35), (0, u "(Lcom/example/chitragupta/chitragupta/rating/Span$Unit;I)V"), (0, .long 12), (1, .methodref 31 39), (0, .nameAndType 40 41), (0, u "divides"), (0, u "(Lcom/example/chitragupta/chitragupta/rating/Span;)Z"), (0, .class_ 43), (0, u "com/example/chitragupta/chitragupta/rating/SpanDividesPinLaw"), (2, u "law"), (0, u "(IIIII)Z")] 7

def k1m0 : Method := { name := "<init>", desc := "()V", sig := { parameters := [], returnType := none }, accessFlags := 1, code := none }
def k1c1 : Code := { maxStack := 4, maxLocals := 16, code := code, exceptionTable := #[], attributes := #[] }
def k1m1 : Method := { name := "law", desc := "(IIIII)Z", sig := { parameters := [.int, .int, .int, .int, .int], returnType := some .boolean }, accessFlags := 9, code := some k1c1 }
/-- com/example/chitragupta/chitragupta/rating/SpanDividesPinLaw -/
def k1 : Class := { plain "com/example/chitragupta/chitragupta/rating/SpanDividesPinLaw" (some 0) with
  accessFlags := 49
  interfaces := #[]
  cf := some (fileOf pool1 42 #[] #[{ accessFlags := 1, nameIndex := 5, descriptorIndex := 6, attributes := #[] }, { accessFlags := 9, nameIndex := 46, descriptorIndex := 47, attributes := #[] }] 49 2 #[] #[])
  fields := #[]
  methods := #[k1m0, k1m1]
  instanceTypes := #[]
  staticTypes := #[]
  resolved := Array.replicate 55 none
  statics := none }

def pool2 : Array CpInfo := pool [(1, .class_ 2), (0, u "java/lang/constant/Constable"), (0, .class_ 4), (0, u "java/lang/Object")] 6

/-- java/lang/constant/Constable -/
def k2 : Class := { plain "java/lang/constant/Constable" (some 0) with
  accessFlags := 1537
  interfaces := #[]
  cf := some (fileOf pool2 1 #[] #[] 1537 3 #[] #[])
  fields := #[]
  methods := #[]
  instanceTypes := #[]
  staticTypes := #[]
  resolved := Array.replicate 11 none
  statics := none }

def pool3 : Array CpInfo := pool [(1, .class_ 2), (0, u "java/lang/Comparable"), (0, .class_ 4), (0, u "java/lang/Object")] 7

/-- java/lang/Comparable -/
def k3 : Class := { plain "java/lang/Comparable" (some 0) with
  accessFlags := 1537
  interfaces := #[]
  cf := some (fileOf pool3 1 #[] #[] 1537 3 #[] #[])
  fields := #[]
  methods := #[]
  instanceTypes := #[]
  staticTypes := #[]
  resolved := Array.replicate 12 none
  statics := none }

def pool4 : Array CpInfo := pool [(1, .class_ 2), (0, u "java/io/Serializable"), (0, .class_ 4), (0, u "java/lang/Object")] 2

/-- java/io/Serializable -/
def k4 : Class := { plain "java/io/Serializable" (some 0) with
  accessFlags := 1537
  interfaces := #[]
  cf := some (fileOf pool4 1 #[] #[] 1537 3 #[] #[])
  fields := #[]
  methods := #[]
  instanceTypes := #[]
  staticTypes := #[]
  resolved := Array.replicate 7 none
  statics := none }

def pool5 : Array CpInfo := pool [(2, .class_ 4), (1, u "java/lang/Enum"), (0, u "name"), (0, u "Ljava/lang/String;"), (2, u "ordinal"), (0, u "I"), (1, .class_ 14), (1, u "java/lang/Object"), (4, u "hash"), (86, .class_ 108), (1, u "java/lang/Enum$EnumDesc"), (2, .class_ 112), (0, u "java/lang/constant/Constable"), (0, .class_ 114), (0, u "java/lang/Comparable"), (0, .class_ 116), (0, u "java/io/Serializable")] 87

/-- java/lang/Enum -/
def k5 : Class := { plain "java/lang/Enum" (some 0) with
  accessFlags := 1057
  interfaces := #[2, 3, 4]
  cf := some (fileOf pool5 2 #[.nestMembers #[106]] #[] 1057 12 #[111, 113, 115] #[{ accessFlags := 18, nameIndex := 5, descriptorIndex := 6, attributes := #[] }, { accessFlags := 18, nameIndex := 9, descriptorIndex := 10, attributes := #[] }, { accessFlags := 2, nameIndex := 19, descriptorIndex := 10, attributes := #[] }])
  fields := #[{ name := "name", type := (.object "java/lang/String"), accessFlags := 18, slot := 0, constantValue := 0 }, { name := "ordinal", type := .int, accessFlags := 18, slot := 1, constantValue := 0 }, { name := "hash", type := .int, accessFlags := 2, slot := 2, constantValue := 0 }]
  methods := #[]
  instanceTypes := #[(.object "java/lang/String"), .int, .int]
  staticTypes := #[]
  resolved := Array.replicate 204 none
  statics := none }

def pool6 : Array CpInfo := pool [(1, .class_ 2), (0, u "com/example/chitragupta/chitragupta/rating/Span$Unit"), (2, u "DAY"), (0, u "Lcom/example/chitragupta/chitragupta/rating/Span$Unit;"), (2, u "WEEK"), (2, u "MONTH"), (2, u "YEAR"), (2, u "$VALUES"), (0, u "[Lcom/example/chitragupta/chitragupta/rating/Span$Unit;"), (6, .class_ 28), (1, u "java/lang/Enum"), (8, u "chronoUnit"), (0, u "Ljava/time/temporal/ChronoUnit;"), (2, u "mostDays"), (0, u "I"), (38, .class_ 82), (0, u "com/example/chitragupta/chitragupta/rating/Span")] 2

/-- com/example/chitragupta/chitragupta/rating/Span$Unit -/
def k6 : Class := { plain "com/example/chitragupta/chitragupta/rating/Span$Unit" (some 5) with
  accessFlags := 16433
  interfaces := #[]
  cf := some (fileOf pool6 1 #[.nestHost 81] #[] 16433 26 #[] #[{ accessFlags := 16409, nameIndex := 5, descriptorIndex := 6, attributes := #[] }, { accessFlags := 16409, nameIndex := 9, descriptorIndex := 6, attributes := #[] }, { accessFlags := 16409, nameIndex := 12, descriptorIndex := 6, attributes := #[] }, { accessFlags := 16409, nameIndex := 15, descriptorIndex := 6, attributes := #[] }, { accessFlags := 18, nameIndex := 37, descriptorIndex := 38, attributes := #[] }, { accessFlags := 18, nameIndex := 41, descriptorIndex := 42, attributes := #[] }, { accessFlags := 4122, nameIndex := 18, descriptorIndex := 19, attributes := #[] }])
  fields := #[{ name := "DAY", type := (.object "com/example/chitragupta/chitragupta/rating/Span$Unit"), accessFlags := 16409, slot := 0, constantValue := 0 }, { name := "WEEK", type := (.object "com/example/chitragupta/chitragupta/rating/Span$Unit"), accessFlags := 16409, slot := 1, constantValue := 0 }, { name := "MONTH", type := (.object "com/example/chitragupta/chitragupta/rating/Span$Unit"), accessFlags := 16409, slot := 2, constantValue := 0 }, { name := "YEAR", type := (.object "com/example/chitragupta/chitragupta/rating/Span$Unit"), accessFlags := 16409, slot := 3, constantValue := 0 }, { name := "chronoUnit", type := (.object "java/time/temporal/ChronoUnit"), accessFlags := 18, slot := 3, constantValue := 0 }, { name := "mostDays", type := .int, accessFlags := 18, slot := 4, constantValue := 0 }, { name := "$VALUES", type := (.array (.object "com/example/chitragupta/chitragupta/rating/Span$Unit")), accessFlags := 4122, slot := 4, constantValue := 0 }]
  methods := #[]
  instanceTypes := #[(.object "java/lang/String"), .int, .int, (.object "java/time/temporal/ChronoUnit"), .int]
  staticTypes := #[(.object "com/example/chitragupta/chitragupta/rating/Span$Unit"), (.object "com/example/chitragupta/chitragupta/rating/Span$Unit"), (.object "com/example/chitragupta/chitragupta/rating/Span$Unit"), (.object "com/example/chitragupta/chitragupta/rating/Span$Unit"), (.array (.object "com/example/chitragupta/chitragupta/rating/Span$Unit"))]
  resolved := Array.replicate 85 none
  statics := some 0 }

def pool7 : Array CpInfo := pool [(1, .class_ 2), (0, u "java/lang/Math"), (1, .class_ 6), (1, u "java/lang/Object"), (0, u "<init>"), (0, u "()V"), (89, .class_ 100), (1, u "java/lang/Math$RandomNumberGeneratorHolder"), (71, u "negativeZeroFloatBits"), (0, u "J"), (2, u "negativeZeroDoubleBits"), (21, u "max"), (46, u "$assertionsDisabled"), (0, u "Z"), (88, u "(II)I"), (2, u "twoToTheDoubleScaleDown"), (0, u "D"), (4, u "twoToTheDoubleScaleUp"), (9, u "E"), (3, u "PI"), (2, u "TAU"), (2, u "DEGREES_TO_RADIANS"), (0, u "RADIANS_TO_DEGREES")] 94

def k7m0 : Method := { name := "<init>", desc := "()V", sig := { parameters := [], returnType := none }, accessFlags := 2, code := none }
def k7c1 : Code := { maxStack := 2, maxLocals := 2, code := jdk_29_method_65_code, exceptionTable := #[], attributes := #[] }
def k7m1 : Method := { name := "max", desc := "(II)I", sig := { parameters := [.int, .int], returnType := some .int }, accessFlags := 9, code := some k7c1 }
/-- java/lang/Math -/
def k7 : Class := { plain "java/lang/Math" (some 0) with
  accessFlags := 49
  interfaces := #[]
  cf := some (fileOf pool7 1 #[.nestMembers #[98]] #[{ accessFlags := 2, nameIndex := 7, descriptorIndex := 8, attributes := #[] }, { accessFlags := 9, nameIndex := 198, descriptorIndex := 335, attributes := #[] }] 49 4 #[] #[{ accessFlags := 25, nameIndex := 354, descriptorIndex := 339, attributes := #[] }, { accessFlags := 25, nameIndex := 358, descriptorIndex := 339, attributes := #[] }, { accessFlags := 25, nameIndex := 361, descriptorIndex := 339, attributes := #[] }, { accessFlags := 26, nameIndex := 364, descriptorIndex := 339, attributes := #[] }, { accessFlags := 26, nameIndex := 365, descriptorIndex := 339, attributes := #[] }, { accessFlags := 26, nameIndex := 172, descriptorIndex := 173, attributes := #[] }, { accessFlags := 26, nameIndex := 176, descriptorIndex := 173, attributes := #[] }, { accessFlags := 8, nameIndex := 344, descriptorIndex := 339, attributes := #[] }, { accessFlags := 8, nameIndex := 338, descriptorIndex := 339, attributes := #[] }, { accessFlags := 4120, nameIndex := 245, descriptorIndex := 246, attributes := #[] }])
  fields := #[{ name := "E", type := .double, accessFlags := 25, slot := 0, constantValue := 0 }, { name := "PI", type := .double, accessFlags := 25, slot := 1, constantValue := 0 }, { name := "TAU", type := .double, accessFlags := 25, slot := 2, constantValue := 0 }, { name := "DEGREES_TO_RADIANS", type := .double, accessFlags := 26, slot := 3, constantValue := 0 }, { name := "RADIANS_TO_DEGREES", type := .double, accessFlags := 26, slot := 4, constantValue := 0 }, { name := "negativeZeroFloatBits", type := .long, accessFlags := 26, slot := 5, constantValue := 0 }, { name := "negativeZeroDoubleBits", type := .long, accessFlags := 26, slot := 6, constantValue := 0 }, { name := "twoToTheDoubleScaleUp", type := .double, accessFlags := 8, slot := 7, constantValue := 0 }, { name := "twoToTheDoubleScaleDown", type := .double, accessFlags := 8, slot := 8, constantValue := 0 }, { name := "$assertionsDisabled", type := .boolean, accessFlags := 4120, slot := 9, constantValue := 0 }]
  methods := #[k7m0, k7m1]
  instanceTypes := #[]
  staticTypes := #[.double, .double, .double, .double, .double, .long, .long, .double, .double, .boolean]
  resolved := Array.replicate 460 none
  statics := none }

def pool8 : Array CpInfo := pool [(1, .methodref 2 3), (0, .class_ 4), (0, .nameAndType 5 6), (0, u "java/lang/Object"), (0, u "<init>"), (0, u "()V"), (0, .class_ 8), (0, u "java/lang/Record")] 13

def k8c0 : Code := { maxStack := 1, maxLocals := 1, code := jdk_30_method_1_code, exceptionTable := #[], attributes := #[] }
def k8m0 : Method := { name := "<init>", desc := "()V", sig := { parameters := [], returnType := none }, accessFlags := 4, code := some k8c0 }
/-- java/lang/Record -/
def k8 : Class := { plain "java/lang/Record" (some 0) with
  accessFlags := 1057
  interfaces := #[]
  cf := some (fileOf pool8 7 #[] #[{ accessFlags := 4, nameIndex := 5, descriptorIndex := 6, attributes := #[] }] 1057 2 #[] #[])
  fields := #[]
  methods := #[k8m0]
  instanceTypes := #[]
  staticTypes := #[]
  resolved := Array.replicate 22 none
  statics := none }

def pool9 : Array CpInfo := pool [(1, .methodref 2 3), (0, .class_ 4), (0, .nameAndType 5 6), (0, u "java/lang/Record"), (0, u "<init>"), (0, u "()V"), (0, .string 8), (0, u "unit"), (0, .methodref 10 11), (0, .class_ 12), (0, .nameAndType 13 14), (0, u "java/util/Objects"), (0, u "requireNonNull"), (0, u "(Ljava/lang/Object;Ljava/lang/String;)Ljava/lang/Object;"), (15, .fieldref 31 32), (0, .class_ 33), (0, .nameAndType 8 34), (0, u "com/example/chitragupta/chitragupta/rating/Span"), (0, u "Lcom/example/chitragupta/chitragupta/rating/Span$Unit;"), (0, .fieldref 31 36), (0, .nameAndType 37 38), (0, u "value"), (0, u "I"), (1, .class_ 42), (1, u "com/example/chitragupta/chitragupta/rating/Span$Unit"), (28, .fieldref 40 72), (0, .nameAndType 73 34), (0, u "MONTH"), (0, .fieldref 40 75), (0, .nameAndType 76 34), (0, u "YEAR"), (0, .fieldref 40 78), (0, .nameAndType 79 34), (0, u "DAY"), (2, u "divides"), (0, u "(Lcom/example/chitragupta/chitragupta/rating/Span;)Z"), (17, u "DIVIDES_RULE"), (0, u "Ljava/lang/String;"), (3, u "(Lcom/example/chitragupta/chitragupta/rating/Span$Unit;I)V")] 50

def k9c0 : Code := { maxStack := 4, maxLocals := 3, code := prog_53_method_1_code, exceptionTable := #[], attributes := #[] }
def k9m0 : Method := { name := "<init>", desc := "(Lcom/example/chitragupta/chitragupta/rating/Span$Unit;I)V", sig := { parameters := [(.object "com/example/chitragupta/chitragupta/rating/Span$Unit"), .int], returnType := none }, accessFlags := 1, code := some k9c0 }
def k9c1 : Code := { maxStack := 2, maxLocals := 3, code := prog_53_method_4_code, exceptionTable := #[], attributes := #[] }
def k9m1 : Method := { name := "divides", desc := "(Lcom/example/chitragupta/chitragupta/rating/Span;)Z", sig := { parameters := [(.object "com/example/chitragupta/chitragupta/rating/Span")], returnType := some .boolean }, accessFlags := 1, code := some k9c1 }
/-- com/example/chitragupta/chitragupta/rating/Span -/
def k9 : Class := { plain "com/example/chitragupta/chitragupta/rating/Span" (some 8) with
  accessFlags := 49
  interfaces := #[]
  cf := some (fileOf pool9 31 #[.nestMembers #[40]] #[{ accessFlags := 1, nameIndex := 5, descriptorIndex := 106, attributes := #[] }, { accessFlags := 1, nameIndex := 82, descriptorIndex := 83, attributes := #[] }] 49 2 #[] #[{ accessFlags := 18, nameIndex := 8, descriptorIndex := 34, attributes := #[] }, { accessFlags := 18, nameIndex := 37, descriptorIndex := 38, attributes := #[] }, { accessFlags := 25, nameIndex := 101, descriptorIndex := 102, attributes := #[] }])
  fields := #[{ name := "unit", type := (.object "com/example/chitragupta/chitragupta/rating/Span$Unit"), accessFlags := 18, slot := 0, constantValue := 0 }, { name := "value", type := .int, accessFlags := 18, slot := 1, constantValue := 0 }, { name := "DIVIDES_RULE", type := (.object "java/lang/String"), accessFlags := 25, slot := 0, constantValue := 0 }]
  methods := #[k9m0, k9m1]
  instanceTypes := #[(.object "com/example/chitragupta/chitragupta/rating/Span$Unit"), .int]
  staticTypes := #[(.object "java/lang/String")]
  resolved := Array.replicate 157 none
  statics := none }

def pool10 : Array CpInfo := pool [(2, .class_ 4), (1, u "java/lang/CharSequence"), (42, .class_ 48), (0, u "java/lang/CharSequence$1CodePointIterator"), (10, .class_ 60), (0, u "java/lang/CharSequence$1CharIterator"), (5, .class_ 67), (0, u "java/lang/Object")] 63

/-- java/lang/CharSequence -/
def k10 : Class := { plain "java/lang/CharSequence" (some 0) with
  accessFlags := 1537
  interfaces := #[]
  cf := some (fileOf pool10 2 #[.nestMembers #[47, 59]] #[] 1537 66 #[] #[])
  fields := #[]
  methods := #[]
  instanceTypes := #[]
  staticTypes := #[]
  resolved := Array.replicate 131 none
  statics := none }

def pool11 : Array CpInfo := pool [(1, .class_ 2), (0, u "java/lang/constant/ConstantDesc"), (0, .class_ 4), (0, u "java/lang/Object")] 32

/-- java/lang/constant/ConstantDesc -/
def k11 : Class := { plain "java/lang/constant/ConstantDesc" (some 0) with
  accessFlags := 1537
  interfaces := #[]
  cf := some (fileOf pool11 1 #[] #[] 1537 3 #[] #[])
  fields := #[]
  methods := #[]
  instanceTypes := #[]
  staticTypes := #[]
  resolved := Array.replicate 37 none
  statics := none }

def pool12 : Array CpInfo := pool [(2, .class_ 4), (1, u "java/lang/Object"), (0, u "<init>"), (0, u "()V"), (3, .class_ 12), (1, u "java/lang/String"), (0, u "value"), (0, u "[B"), (2, u "coder"), (0, u "B"), (2, u "hash"), (0, u "I"), (2, u "hashIsZero"), (0, u "Z"), (13, u "COMPACT_STRINGS"), (534, .class_ 576), (0, u "java/lang/CharSequence"), (22, u "CASE_INSENSITIVE_ORDER"), (0, u "Ljava/util/Comparator;"), (500, u "serialPersistentFields"), (0, u "[Ljava/io/ObjectStreamField;"), (0, .class_ 1104), (0, u "java/lang/String$CaseInsensitiveComparator"), (1, .class_ 1107), (0, u "java/io/Serializable"), (0, .class_ 1109), (0, u "java/lang/Comparable"), (0, .class_ 1111), (0, u "java/lang/constant/Constable"), (0, .class_ 1113), (0, u "java/lang/constant/ConstantDesc"), (2, u "serialVersionUID"), (0, u "J"), (3, u "REPL"), (0, u "C"), (2, u "LATIN1"), (1, u "UTF16")] 323

def k12m0 : Method := { name := "<init>", desc := "()V", sig := { parameters := [], returnType := none }, accessFlags := 1, code := none }
/-- java/lang/String -/
def k12 : Class := { plain "java/lang/String" (some 0) with
  accessFlags := 49
  interfaces := #[4, 3, 10, 2, 11]
  cf := some (fileOf pool12 10 #[.nestMembers #[1103]] #[{ accessFlags := 1, nameIndex := 5, descriptorIndex := 6, attributes := #[] }] 49 2 #[1106, 1108, 575, 1110, 1112] #[{ accessFlags := 18, nameIndex := 13, descriptorIndex := 14, attributes := #[] }, { accessFlags := 18, nameIndex := 17, descriptorIndex := 18, attributes := #[] }, { accessFlags := 2, nameIndex := 21, descriptorIndex := 22, attributes := #[] }, { accessFlags := 2, nameIndex := 25, descriptorIndex := 26, attributes := #[] }, { accessFlags := 26, nameIndex := 1116, descriptorIndex := 1117, attributes := #[] }, { accessFlags := 24, nameIndex := 40, descriptorIndex := 26, attributes := #[] }, { accessFlags := 26, nameIndex := 1101, descriptorIndex := 1102, attributes := #[] }, { accessFlags := 26, nameIndex := 1121, descriptorIndex := 1122, attributes := #[] }, { accessFlags := 25, nameIndex := 599, descriptorIndex := 600, attributes := #[] }, { accessFlags := 24, nameIndex := 1125, descriptorIndex := 18, attributes := #[] }, { accessFlags := 24, nameIndex := 1127, descriptorIndex := 18, attributes := #[] }])
  fields := #[{ name := "value", type := (.array .byte), accessFlags := 18, slot := 0, constantValue := 0 }, { name := "coder", type := .byte, accessFlags := 18, slot := 1, constantValue := 0 }, { name := "hash", type := .int, accessFlags := 2, slot := 2, constantValue := 0 }, { name := "hashIsZero", type := .boolean, accessFlags := 2, slot := 3, constantValue := 0 }, { name := "serialVersionUID", type := .long, accessFlags := 26, slot := 0, constantValue := 0 }, { name := "COMPACT_STRINGS", type := .boolean, accessFlags := 24, slot := 1, constantValue := 0 }, { name := "serialPersistentFields", type := (.array (.object "java/io/ObjectStreamField")), accessFlags := 26, slot := 2, constantValue := 0 }, { name := "REPL", type := .char, accessFlags := 26, slot := 3, constantValue := 0 }, { name := "CASE_INSENSITIVE_ORDER", type := (.object "java/util/Comparator"), accessFlags := 25, slot := 4, constantValue := 0 }, { name := "LATIN1", type := .byte, accessFlags := 24, slot := 5, constantValue := 0 }, { name := "UTF16", type := .byte, accessFlags := 24, slot := 6, constantValue := 0 }]
  methods := #[k12m0]
  instanceTypes := #[(.array .byte), .byte, .int, .boolean]
  staticTypes := #[.long, .boolean, (.array (.object "java/io/ObjectStreamField")), .char, (.object "java/util/Comparator"), .byte, .byte]
  resolved := Array.replicate 1451 none
  statics := none }

def pool13 : Array CpInfo := pool [(2, .class_ 4), (1, u "java/lang/Object"), (0, u "<init>"), (0, u "()V"), (35, .class_ 44), (1, u "java/util/Objects"), (0, u "requireNonNull"), (48, u "(Ljava/lang/Object;Ljava/lang/String;)Ljava/lang/Object;")] 89

def k13m0 : Method := { name := "<init>", desc := "()V", sig := { parameters := [], returnType := none }, accessFlags := 2, code := none }
def k13c1 : Code := { maxStack := 3, maxLocals := 2, code := jdk_31_method_11_code, exceptionTable := #[], attributes := #[] }
def k13m1 : Method := { name := "requireNonNull", desc := "(Ljava/lang/Object;Ljava/lang/String;)Ljava/lang/Object;", sig := { parameters := [(.object "java/lang/Object"), (.object "java/lang/String")], returnType := some (.object "java/lang/Object") }, accessFlags := 9, code := some k13c1 }
/-- java/util/Objects -/
def k13 : Class := { plain "java/util/Objects" (some 0) with
  accessFlags := 49
  interfaces := #[]
  cf := some (fileOf pool13 42 #[] #[{ accessFlags := 2, nameIndex := 5, descriptorIndex := 6, attributes := #[] }, { accessFlags := 9, nameIndex := 45, descriptorIndex := 94, attributes := #[] }] 49 2 #[] #[])
  fields := #[]
  methods := #[k13m0, k13m1]
  instanceTypes := #[]
  staticTypes := #[]
  resolved := Array.replicate 184 none
  statics := none }

def pool14 : Array CpInfo := pool [(1, u "java/lang/Cloneable"), (0, .class_ 1), (0, u "java/lang/Object"), (0, .class_ 3)] 3

/-- java/lang/Cloneable -/
def k14 : Class := { plain "java/lang/Cloneable" (some 0) with
  accessFlags := 1537
  interfaces := #[]
  cf := some (fileOf pool14 2 #[] #[] 1537 4 #[] #[])
  fields := #[]
  methods := #[]
  instanceTypes := #[]
  staticTypes := #[]
  resolved := Array.replicate 8 none
  statics := none }

/-- the primitive byte -/
def k15 : Class := { plain "byte" none with kind := .primitive 'B', accessFlags := 0x411 }
/-- [B -/
def k16 : Class := { plain "[B" (some 0) with kind := .array 15 .byte, interfaces := #[14, 4], accessFlags := 1041 }

/-- the primitive int -/
def k17 : Class := { plain "int" none with kind := .primitive 'I', accessFlags := 0x411 }
/-- [I -/
def k18 : Class := { plain "[I" (some 0) with kind := .array 17 .int, interfaces := #[14, 4], accessFlags := 1041 }

/-- [Lcom/example/chitragupta/chitragupta/rating/Span$Unit; -/
def k19 : Class := { plain "[Lcom/example/chitragupta/chitragupta/rating/Span$Unit;" (some 0) with kind := .array 6 (.object "com/example/chitragupta/chitragupta/rating/Span$Unit"), interfaces := #[14, 4], accessFlags := 1041 }

def heap : Heap := #[{ cls := 6, slots := #[.ref 1, .ref 2, .ref 3, .ref 4, .null], vm := .statics 6 },
  { cls := 6, slots := #[.null, .int 0, .int 0, .null, .int 0], vm := .none },
  { cls := 6, slots := #[.null, .int 1, .int 0, .null, .int 0], vm := .none },
  { cls := 6, slots := #[.null, .int 2, .int 0, .null, .int 0], vm := .none },
  { cls := 6, slots := #[.null, .int 3, .int 0, .null, .int 0], vm := .none }]
def classes : Array Class := #[k0, k1, k2, k3, k4, k5, k6, k7, k8, k9, k10, k11, k12, k13, k14, k15, k16, k17, k18, k19]
def interned : List (Array UInt16 × Addr) := []
def slotsUsed : Nat := 25
def theMethod : MethodId := ⟨1, 1⟩
def args0 : Array Value := #[.int 5, .int 6, .int 7, .int 8, .int 1]
def aboutOver (below : List Frame) : State where
  vm := { classes := classes, interned := interned.toArray }
  heap := heap
  slotsUsed := slotsUsed
  threads := #[{ frames := .invoking theMethod args0 :: below }]
def below0 : List Frame := [.native { method := ⟨0, 0⟩, args := #[] }]
def about1 : State := aboutOver below0
def p0 : Program := .bare "" "" ""
def e0 : Env := launch0.env 0 0 0
theorem w_frames : about1.frames = Frame.invoking theMethod args0 :: below0 := rfl
set_option maxRecDepth 65536 in
theorem w_args : argsFit about1.vm theMethod args0 = true := by decide +kernel
set_option maxRecDepth 65536 in
theorem w_heap : heapFits about1 = true := by decide +kernel
set_option maxRecDepth 65536 in
theorem w_runnable : about1.curStatus? = some .runnable := by decide +kernel
set_option maxRecDepth 65536 in
theorem w_alone : about1.alone = true := by decide +kernel
set_option maxRecDepth 65536 in
theorem w_named : about1.methodNamed? x = some theMethod := by decide +kernel
set_option maxRecDepth 65536 in
theorem w_hears : about1.hears theMethod below0 = true := by decide +kernel
set_option maxRecDepth 65536 in
theorem w_ripe : about1.ripe theMethod args0 below0 = true := by decide +kernel
theorem w_running : about1.status = .running := rfl
set_option maxRecDepth 65536 in
theorem w_room : about1.hasRoom e0.platform room_1 = true :=
  launch0.hasRoom_least _ room_1 (by decide +kernel) (by decide +kernel) (by decide +kernel) (by decide +kernel) (by decide +kernel) (by decide +kernel)
theorem allAtoms_all (ts : List Jvm.Cond) (a : Array Jvm.Value) (st : Jvm.State) : (allAtoms ts).before a st = ts.all (fun c => c.before a st) := by
  induction ts with
  | nil => rfl
  | cons c t ih =>
    show (Jvm.Cond.and c (allAtoms t)).before a st = _
    rw [Jvm.Cond.before_and, ih, List.all_cons]
def words1 : List Jvm.Cond := Jvm.Cond.code x code maxLocals ret :: tables_1
/-- a 'code' word, met by the world's own term for the bytes: nothing is compared byte by byte -/
theorem code_word {y : MethodName} {bytes : ByteArray} {mx : Nat} {rt : Option FieldType} {a : Array Value} {s : State} {m : MethodId} {meth : Method} {c : Code} (h1 : s.methodNamed? y = some m) (h2 : s.vm.method? m = some meth) (h3 : meth.code = some c) (h4 : c.code = bytes)
    (h5 : (c.maxLocals == mx && c.exceptionTable.isEmpty && decide (c.maxStack ≤ mostOperands) && decide (meth.sig.returnType = rt) && !meth.locks && decide (parseMethodDescriptor y.desc = some meth.sig)) = true) : (Jvm.Cond.code y bytes mx rt).before a s = true := by
  simp only [Bool.and_eq_true, beq_iff_eq, Bool.not_eq_true', decide_eq_true_eq] at h5
  obtain ⟨⟨⟨⟨⟨g1, g2⟩, g3⟩, g4⟩, g5⟩, g6⟩ := h5
  simp [Cond.before, Cond.holds, Cond.value, h1, h2, h3, h4, g1, g2, g3, g4, g5, g6]
def isCode : Jvm.Cond → Bool
  | .code _ _ _ _ => true
  | _ => false
theorem all_split {L : List Jvm.Cond} {P : Jvm.Cond → Bool} (h1 : L.all (fun c => isCode c || P c) = true) (h2 : ∀ c ∈ L.filter isCode, P c = true) : L.all P = true := by
  refine List.all_eq_true.mpr fun c hc => ?_
  have h := List.all_eq_true.mp h1 c hc
  rcases Bool.eq_false_or_eq_true (isCode c) with hi | hi
  · exact h2 c (List.mem_filter.mpr ⟨hc, hi⟩)
  · simpa [hi] using h
set_option maxRecDepth 65536 in
theorem w_c0 : (Jvm.Cond.code x code maxLocals ret).before args0 about1 = true := code_word (m := ⟨1, 1⟩) (meth := k1m1) (c := k1c1) (by decide +kernel) rfl rfl rfl (by decide +kernel)
set_option maxRecDepth 65536 in
theorem w_c1 : (Jvm.Cond.code ({ cls := "java/lang/Math", name := "max", desc := "(II)I" } : Jvm.MethodName) jdk_29_method_65_code (2 : Nat) (Option.some Jvm.ClassFile.FieldType.int)).before args0 about1 = true := code_word (m := ⟨7, 1⟩) (meth := k7m1) (c := k7c1) (by decide +kernel) rfl rfl rfl (by decide +kernel)
set_option maxRecDepth 65536 in
theorem w_c2 : (Jvm.Cond.code ({ cls := "com/example/chitragupta/chitragupta/rating/Span", name := "<init>", desc := "(Lcom/example/chitragupta/chitragupta/rating/Span$Unit;I)V" } : Jvm.MethodName) prog_53_method_1_code (3 : Nat) (Option.none : Option Jvm.ClassFile.FieldType)).before args0 about1 = true := code_word (m := ⟨9, 0⟩) (meth := k9m0) (c := k9c0) (by decide +kernel) rfl rfl rfl (by decide +kernel)
set_option maxRecDepth 65536 in
theorem w_c3 : (Jvm.Cond.code ({ cls := "java/lang/Record", name := "<init>", desc := "()V" } : Jvm.MethodName) jdk_30_method_1_code (1 : Nat) (Option.none : Option Jvm.ClassFile.FieldType)).before args0 about1 = true := code_word (m := ⟨8, 0⟩) (meth := k8m0) (c := k8c0) (by decide +kernel) rfl rfl rfl (by decide +kernel)
set_option maxRecDepth 65536 in
theorem w_c4 : (Jvm.Cond.code ({ cls := "java/lang/Object", name := "<init>", desc := "()V" } : Jvm.MethodName) object_method_1_code (1 : Nat) (Option.none : Option Jvm.ClassFile.FieldType)).before args0 about1 = true := code_word (m := ⟨0, 0⟩) (meth := k0m0) (c := k0c0) (by decide +kernel) rfl rfl rfl (by decide +kernel)
set_option maxRecDepth 65536 in
theorem w_c5 : (Jvm.Cond.code ({ cls := "java/util/Objects", name := "requireNonNull", desc := "(Ljava/lang/Object;Ljava/lang/String;)Ljava/lang/Object;" } : Jvm.MethodName) jdk_31_method_11_code (2 : Nat) (Option.some (Jvm.ClassFile.FieldType.object "java/lang/Object"))).before args0 about1 = true := code_word (m := ⟨13, 1⟩) (meth := k13m1) (c := k13c1) (by decide +kernel) rfl rfl rfl (by decide +kernel)
set_option maxRecDepth 65536 in
theorem w_c6 : (Jvm.Cond.code ({ cls := "com/example/chitragupta/chitragupta/rating/Span", name := "divides", desc := "(Lcom/example/chitragupta/chitragupta/rating/Span;)Z" } : Jvm.MethodName) prog_53_method_4_code (3 : Nat) (Option.some Jvm.ClassFile.FieldType.boolean)).before args0 about1 = true := code_word (m := ⟨9, 1⟩) (meth := k9m1) (c := k9c1) (by decide +kernel) rfl rfl rfl (by decide +kernel)
def codes1 : List Jvm.Cond := [Jvm.Cond.code x code maxLocals ret, Jvm.Cond.code ({ cls := "java/lang/Math", name := "max", desc := "(II)I" } : Jvm.MethodName) jdk_29_method_65_code (2 : Nat) (Option.some Jvm.ClassFile.FieldType.int), Jvm.Cond.code ({ cls := "com/example/chitragupta/chitragupta/rating/Span", name := "<init>", desc := "(Lcom/example/chitragupta/chitragupta/rating/Span$Unit;I)V" } : Jvm.MethodName) prog_53_method_1_code (3 : Nat) (Option.none : Option Jvm.ClassFile.FieldType), Jvm.Cond.code ({ cls := "java/lang/Record", name := "<init>", desc := "()V" } : Jvm.MethodName) jdk_30_method_1_code (1 : Nat) (Option.none : Option Jvm.ClassFile.FieldType), Jvm.Cond.code ({ cls := "java/lang/Object", name := "<init>", desc := "()V" } : Jvm.MethodName) object_method_1_code (1 : Nat) (Option.none : Option Jvm.ClassFile.FieldType), Jvm.Cond.code ({ cls := "java/util/Objects", name := "requireNonNull", desc := "(Ljava/lang/Object;Ljava/lang/String;)Ljava/lang/Object;" } : Jvm.MethodName) jdk_31_method_11_code (2 : Nat) (Option.some (Jvm.ClassFile.FieldType.object "java/lang/Object")), Jvm.Cond.code ({ cls := "com/example/chitragupta/chitragupta/rating/Span", name := "divides", desc := "(Lcom/example/chitragupta/chitragupta/rating/Span;)Z" } : Jvm.MethodName) prog_53_method_4_code (3 : Nat) (Option.some Jvm.ClassFile.FieldType.boolean)]
set_option maxRecDepth 65536 in
theorem codes_eq : words1.filter isCode = codes1 := rfl
theorem w_codes : ∀ c ∈ words1.filter isCode, c.before args0 about1 = true := by
  rw [codes_eq]
  intro c hc
  simp only [codes1, List.mem_cons, List.not_mem_nil, or_false] at hc
  rcases hc with rfl | rfl | rfl | rfl | rfl | rfl | rfl
  · exact w_c0
  · exact w_c1
  · exact w_c2
  · exact w_c3
  · exact w_c4
  · exact w_c5
  · exact w_c6
set_option maxRecDepth 65536 in
theorem w_t1 : (words1.take 24).all (fun c => isCode c || c.before args0 about1) = true := by decide +kernel
set_option maxRecDepth 65536 in
theorem w_t2 : ((words1.drop 24).take 24).all (fun c => isCode c || c.before args0 about1) = true := by decide +kernel
set_option maxRecDepth 65536 in
theorem w_t3 : ((words1.drop 24).drop 24).all (fun c => isCode c || c.before args0 about1) = true := by decide +kernel
theorem w_tables : (allAtoms (Jvm.Cond.code x code maxLocals ret :: tables_1)).before args0 about1 = true := by
  rw [allAtoms_all]
  show words1.all (fun c => c.before args0 about1) = true
  refine all_split ?_ w_codes
  rw [← List.take_append_drop 24 words1, List.all_append, w_t1, ← List.take_append_drop 24 (words1.drop 24), List.all_append, w_t2, w_t3]
  rfl
set_option maxRecDepth 65536 in
theorem w_case : (Jvm.Cond.and given_1 narrow_1).before args0 about1 = true := by decide +kernel
theorem w_applies : (headSpec (Jvm.Cond.code x code maxLocals ret :: tables_1) room_1).applies x e0.platform about1 = true :=
  (Spec.applies_iff w_frames).mpr ⟨w_running, w_runnable, w_alone, w_named, w_hears, w_ripe, w_room, w_tables⟩
theorem atStart : AtStart classFile x code maxLocals ret World_1 tables_1 room_1 Calls_1 rest_1 Pre_1 launch0 p0 e0 about1 theMethod args0 below0 :=
  ⟨lists_1, trivial, launch0.admits_env _ _ _, launch0.least_env, fairChoices_fair.cas, fairChoices_fair.clock, w_frames, w_args, w_heap, w_applies, trivial, trivial, w_case⟩
end start1
theorem witness_1 : WitnessClaimed_1 := ⟨start1.p0, start1.e0, start1.about1, start1.theMethod, start1.args0, start1.below0, start1.atStart⟩
end Jvm.Pilot.@@N@@
