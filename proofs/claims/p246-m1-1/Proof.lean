import JvmDerived
import JvmDerived.Pilot.@@N@@Statement
import JvmDerived.Pilot.@@N@@Code
set_option linter.unusedVariables false
set_option linter.unusedSimpArgs false
namespace Jvm.RoadKit
open Sem ClassFile Op Lib Jvm.Stand Jvm.Free Jvm.LawKit
section New
variable {p : Program} {l : Launch} {e : Env} {R : Room} {s : State} {m : MethodId} {args : Array Value} {below : List Frame} {meth : Method} {c : Code} {T : State} {locs : List Loc} {cells slots : Nat}
theorem retI (X : Stand p l e R s m args below meth c T locs cells slots) (hx : p.tables.exec = Jvm.exec) {pc : Nat} {Ls : Array Slot} {z : Int32} {rest : List Value} (hret : meth.sig.returnType = some .int) (hd : decode c.code pc = .ok (.ireturn, 1)) {fs : List Frame}
    (hl : ∀ (f : JFrame) (acts : List Action), f.method = m → f.locked = none → f.entered = [] → (doReturn e (T.setTop f) acts (some (.int z))).1 = T.setFrames fs) : Steps p.tables e below (T.setTop (mkF m pc Ls (.int z :: rest))) (T.setFrames fs) := by
  have hm' : T.vm.method? m = some meth := X.method'
  have hn : narrow .int (.int z) = .int z := rfl
  show Steps p.tables e below (T.setTop { method := m, pc := pc, locals := Ls, stack := _ :: rest, locked := none }) _
  jvm_step X.here [X.here.top, hx, hd, hm', hret, hn]
  first | (intro acts; rw [hl _ acts rfl rfl rfl]) | rw [hl _ _ rfl rfl rfl]
  exact Steps.refl _
end New
end Jvm.RoadKit
namespace Jvm.Pilot.@@N@@
open Jvm Jvm.ClassFile Sem Op Lib Jvm.Free Jvm.Stand Jvm.LawKit Jvm.RoadKit Bundle Jvm.Pilot.@@N@@.Jvm.D

def own_Q (r : Option Value) (h0 : Heap) (n0 : Nat) (v : Option Value) (h : Heap) (L : List Loc) : Prop := v = r ∧ Fr n0 L ∧ h = h0
def own_Q0 (n0 : Nat) (v : Option Value) (h : Heap) (L : List Loc) : Prop := v = some (.int 1) ∧ Fr n0 L
def own_P (Z : State) (h : Heap) (w0 w1 : Addr) : Prop := (Sta Z h "com/example/plimsoll/plimsoll/model/AbatementAlgorithm" "LOSS" "Lcom/example/plimsoll/plimsoll/model/AbatementAlgorithm;" (.ref w0)) ∧ (Exa Z h w0 "com/example/plimsoll/plimsoll/model/AbatementAlgorithm") ∧ (Fld Z h w0 "com/example/plimsoll/plimsoll/model/AbatementAlgorithm" "bit" "J" (.long (1 : Int64))) ∧ (Sta Z h "com/example/plimsoll/plimsoll/model/AbatementAlgorithm" "RATE" "Lcom/example/plimsoll/plimsoll/model/AbatementAlgorithm;" (.ref w1)) ∧ (Exa Z h w1 "com/example/plimsoll/plimsoll/model/AbatementAlgorithm") ∧ (Fld Z h w1 "com/example/plimsoll/plimsoll/model/AbatementAlgorithm" "bit" "J" (.long (4 : Int64)))
theorem own_fldI {args : Array Value} {s : State} {t : Term} {C n d : String} {a : Addr} {k : Int32} (ev : t.eval args s none [] s = some (.ref a)) (h : (Jvm.Cond.eq (Jvm.Term.field t C n d) (Jvm.Term.int k)).value args s none s [] = some true) : Fld s s.heap a C n d (.int k) := by
  obtain ⟨x, y, e1, e2, K1, K2⟩ := cmp_v (Or.inl h)
  have e3 : (Jvm.Term.int k).eval args s none [] s = some (.int k) := rfl
  obtain rfl : y = .int k := Option.some.inj (e2.symm.trans e3)
  obtain ⟨z, rfl⟩ := K2
  obtain rfl : z = k := gotT (Jvm.Cond.eq_ints e1 e3) h
  exact Fld.start ((fld_at ev).symm.trans e1)
theorem own_fldJ {args : Array Value} {s : State} {t : Term} {C n d : String} {a : Addr} {k : Int64} (ev : t.eval args s none [] s = some (.ref a)) (h : (Jvm.Cond.eq (Jvm.Term.field t C n d) (Jvm.Term.long k)).value args s none s [] = some true) : Fld s s.heap a C n d (.long k) := by
  obtain ⟨x, y, e1, e2, K1, K2⟩ := cmp_v (Or.inl h)
  have e3 : (Jvm.Term.long k).eval args s none [] s = some (.long k) := rfl
  obtain rfl : y = .long k := Option.some.inj (e2.symm.trans e3)
  obtain ⟨z, rfl⟩ := K2
  obtain rfl : z = k := gotT (eq_L e1 e3) h
  exact Fld.start ((fld_at ev).symm.trans e1)
theorem own_bit (q : Int64) : (q &&& (4 : Int64)) = (0 : Int64) ↔ ((XT.ushrL q (2 : Int32)) &&& (1 : Int64)) = (0 : Int64) := by
  have e1 : (q &&& (4 : Int64)).toBitVec = if q.toBitVec.getLsbD 2 then BitVec.twoPow 64 2 else 0#64 := by
    show q.toBitVec &&& 4#64 = _
    rw [show (4#64) = BitVec.twoPow 64 2 from by decide, BitVec.and_twoPow]
  have e2 : ((XT.ushrL q (2 : Int32)) &&& (1 : Int64)).toBitVec = if q.toBitVec.getLsbD 2 then BitVec.twoPow 64 0 else 0#64 := by
    have e3 : (XT.ushrL q (2 : Int32)).toBitVec = q.toBitVec >>> (2 : Nat) := rfl
    show (XT.ushrL q (2 : Int32)).toBitVec &&& 1#64 = _
    rw [e3, show (1#64) = BitVec.twoPow 64 0 from by decide, BitVec.and_twoPow, BitVec.getLsbD_ushiftRight]
  have z : (0 : Int64).toBitVec = 0#64 := rfl
  rw [← Int64.toBitVec_inj, ← Int64.toBitVec_inj, e1, e2, z]
  cases q.toBitVec.getLsbD 2 <;> decide
theorem d_prog_36_method_6_code_0 : decode prog_36_method_6_code 0 = .ok (.lload_n 0, 1) := by decide +kernel
theorem d_prog_36_method_6_code_1 : decode prog_36_method_6_code 1 = .ok (.aload_n 2, 1) := by decide +kernel
theorem d_prog_36_method_6_code_2 : decode prog_36_method_6_code 2 = .ok (.getfield 29, 3) := by decide +kernel
theorem d_prog_36_method_6_code_5 : decode prog_36_method_6_code 5 = .ok (.land, 1) := by decide +kernel
theorem d_prog_36_method_6_code_6 : decode prog_36_method_6_code 6 = .ok (.lconst 0, 1) := by decide +kernel
theorem d_prog_36_method_6_code_7 : decode prog_36_method_6_code 7 = .ok (.lcmp, 1) := by decide +kernel
theorem d_prog_36_method_6_code_8 : decode prog_36_method_6_code 8 = .ok (.ifCond .eq 7, 3) := by decide +kernel
theorem d_prog_36_method_6_code_11 : decode prog_36_method_6_code 11 = .ok (.aload_n 2, 1) := by decide +kernel
theorem d_prog_36_method_6_code_12 : decode prog_36_method_6_code 12 = .ok (.goto 6, 3) := by decide +kernel
theorem d_prog_36_method_6_code_18 : decode prog_36_method_6_code 18 = .ok (.areturn, 1) := by decide +kernel
theorem ef_prog_36_method_6_code_JA (m : MethodId) (x0 : Int64) (x1 : Addr) : entryFrame m #[(.long x0), (.ref x1)] 3 = mkF m 0 #[.val (.long x0), .second, .val (.ref x1)] [] := by first | (simp [entryFrame, mkF, argsToLocals, Value.category]; done) | rfl
theorem pn_com_example_plimsoll_plimsoll_model_AbatementAlgorithm : plainName "com/example/plimsoll/plimsoll/model/AbatementAlgorithm" = true := by first | (simp [plainName, overriddenIn]; done) | decide +kernel
set_option maxRecDepth 65536 in
set_option maxHeartbeats 40000000 in
theorem own_sel_R1 (l : Launch) (Z : State) (a0 : Array Value) (hw : ∀ d ∈ tables_1, d.before a0 Z = true) (ws : List Jvm.Cond) (q1 : Int64) (w0 w1 : Addr) (h0 : Heap) (n0 : Nat) (Z0 : n0 ≤ h0.size) (P : own_P Z h0 w0 w1) (hc : ¬ (q1 &&& (4 : Int64)) = (0 : Int64)) :
    MetFree l (⟨"com/example/plimsoll/plimsoll/model/AbatementAlgorithm", "select", "(JLcom/example/plimsoll/plimsoll/model/AbatementAlgorithm;)Lcom/example/plimsoll/plimsoll/model/AbatementAlgorithm;"⟩ : MethodName) (head1 (Jvm.Cond.code (⟨"com/example/plimsoll/plimsoll/model/AbatementAlgorithm", "select", "(JLcom/example/plimsoll/plimsoll/model/AbatementAlgorithm;)Lcom/example/plimsoll/plimsoll/model/AbatementAlgorithm;"⟩ : MethodName) prog_36_method_6_code 3 (some (.object "com/example/plimsoll/plimsoll/model/AbatementAlgorithm")) :: ws) ({ frames := 0, cells := 0, slots := 0, locals := 0 } : Room)) (fun a U => a = #[(.long q1), (.ref w1)] ∧ Z.Warmed39 U.vm ∧ U.heap = h0) (fun _ _ _ _ _ => True) (fun _ U o U' => ∃ v L, o = .returned v ∧ own_Q (some (.ref w1)) h0 n0 v U'.heap L ∧ FrameEnd U o U' L ({ frames := 0, cells := 0, slots := 0, locals := 0 } : Room).cells ({ frames := 0, cells := 0, slots := 0, locals := 0 } : Room).slots) := by
  refine MetFree.of_bodySF (plainFor_of_name pn_com_example_plimsoll_plimsoll_model_AbatementAlgorithm) hisR ?_
  intro p e s m args below meth c s₁ Bd hml0 hP hK
  obtain ⟨rfl, hZ, hh⟩ := hP
  have hx := Bd.exec
  have hby := Bd.bytes
  have hml : c.maxLocals = 3 := hml0
  have hown : s.vm.findClass "com/example/plimsoll/plimsoll/model/AbatementAlgorithm" = some m.cls := findClass_of_methodNamed Bd.named
  have hnm := (name_of_methodNamed Bd.named Bd.method).1
  have X0 : Stand p l e ({ frames := 0, cells := 0, slots := 0, locals := 0 } : Room) s m #[(.long q1), (.ref w1)] below meth c s₁ [] 0 0 := Stand.of_body Bd
  have e0 : s₁.heap = h0 := by rw [← hh, Bd.state]; rfl
  have N0 := Fr.nil n0
  have pre0 : ∀ t, Steps p.tables e below (s₁.setTop (mkF m 0 #[.val (.long q1), .second, .val (.ref w1)] [])) t → Steps p.tables e below (s₁.setTop (entryFrame m #[(.long q1), (.ref w1)] 3)) t := fun t k => castTop (ef_prog_36_method_6_code_JA m q1 w1) k
  have P0 := P; obtain ⟨S0, E0, F0_bit, S1, E1, F1_bit⟩ := P0
  obtain ⟨T1, X1, e1, st1⟩ := getF X0 hx hZ hown (host := "") (Or.inl (hw _ (List.mem_of_getElem? (i := 6) rfl))) Via.refl e0 F1_bit (g := (mkF m 2 #[.val (.long q1), .second, .val (.ref w1)] [(.ref w1), (.long q1)])) rfl rfl (hb hby d_prog_36_method_6_code_2)
  obtain ⟨fs, hr, hrun, hended, hW, hsame⟩ := X1.leave (v := some (.ref w1)) (fun h => by rw [Bd.returns] at h; cases h)
  refine ⟨_, _, pre0 _ ?_, hrun, hended, _, _, rfl, ?_, ⟨_, rfl⟩, hW, hsame.mono (by decide) (by decide)⟩
  · show Steps p.tables e below (s₁.setTop (mkF m 0 #[.val (.long q1), .second, .val (.ref w1)] [])) _
    refine XT.lloadN X0.here hx rfl (hb hby d_prog_36_method_6_code_0) rfl ?_
    show Steps p.tables e below (s₁.setTop (mkF m 1 #[.val (.long q1), .second, .val (.ref w1)] [(.long q1)])) _
    refine XS.aloadN X0.here hx rfl (hb hby d_prog_36_method_6_code_1) rfl rfl ?_
    show Steps p.tables e below (s₁.setTop (mkF m 2 #[.val (.long q1), .second, .val (.ref w1)] [(.ref w1), (.long q1)])) _
    refine st1 _ ?_
    show Steps p.tables e below (T1.setTop (mkF m 5 #[.val (.long q1), .second, .val (.ref w1)] [(.long (4 : Int64)), (.long q1)])) _
    refine XT.land X1.here hx rfl (hb hby d_prog_36_method_6_code_5) rfl ?_
    show Steps p.tables e below (T1.setTop (mkF m 6 #[.val (.long q1), .second, .val (.ref w1)] [(.long (q1 &&& (4 : Int64)))])) _
    refine XT.lconstV X1.here hx rfl (0 : Int64) (hb hby d_prog_36_method_6_code_6) rfl ?_
    show Steps p.tables e below (T1.setTop (mkF m 7 #[.val (.long q1), .second, .val (.ref w1)] [(.long (0 : Int64)), (.long (q1 &&& (4 : Int64)))])) _
    refine XT.lcmp X1.here hx rfl (hb hby d_prog_36_method_6_code_7) rfl ?_
    show Steps p.tables e below (T1.setTop (mkF m 8 #[.val (.long q1), .second, .val (.ref w1)] [(.int (XT.cmpL (q1 &&& (4 : Int64)) (0 : Int64)))])) _
    refine XS.ifNo X1.here hx rfl (hb hby d_prog_36_method_6_code_8) rfl (XT.ll_eq_f hc) ?_
    show Steps p.tables e below (T1.setTop (mkF m 11 #[.val (.long q1), .second, .val (.ref w1)] [])) _
    refine XS.aloadN X1.here hx rfl (hb hby d_prog_36_method_6_code_11) rfl rfl ?_
    show Steps p.tables e below (T1.setTop (mkF m 12 #[.val (.long q1), .second, .val (.ref w1)] [(.ref w1)])) _
    refine XS.goto X1.here hx rfl (pc0 := 12) (pc' := 18) rfl (hb hby d_prog_36_method_6_code_12) (by decide) (by decide) ?_
    show Steps p.tables e below (T1.setTop (mkF m 18 #[.val (.long q1), .second, .val (.ref w1)] [(.ref w1)])) _
    jvm_step X1.here [X1.here.top, hx, (hb hby d_prog_36_method_6_code_18), X1.method', Bd.returns, Value.isRef, FieldType.isReference]
    first | (intro acts; rw [hr _ acts rfl rfl rfl]) | rw [hr _ _ rfl rfl rfl]
    exact Steps.refl _
  · show own_Q (some (.ref w1)) h0 n0 _ T1.heap _
    rw [e1]
    exact ⟨rfl, N0, rfl⟩
theorem d_prog_36_method_6_code_15 : decode prog_36_method_6_code 15 = .ok (.getstatic 3, 3) := by decide +kernel
set_option maxRecDepth 65536 in
set_option maxHeartbeats 40000000 in
theorem own_sel_R0 (l : Launch) (Z : State) (a0 : Array Value) (hw : ∀ d ∈ tables_1, d.before a0 Z = true) (ws : List Jvm.Cond) (q1 : Int64) (w0 w1 : Addr) (h0 : Heap) (n0 : Nat) (Z0 : n0 ≤ h0.size) (P : own_P Z h0 w0 w1) (hc : (q1 &&& (4 : Int64)) = (0 : Int64)) :
    MetFree l (⟨"com/example/plimsoll/plimsoll/model/AbatementAlgorithm", "select", "(JLcom/example/plimsoll/plimsoll/model/AbatementAlgorithm;)Lcom/example/plimsoll/plimsoll/model/AbatementAlgorithm;"⟩ : MethodName) (head1 (Jvm.Cond.code (⟨"com/example/plimsoll/plimsoll/model/AbatementAlgorithm", "select", "(JLcom/example/plimsoll/plimsoll/model/AbatementAlgorithm;)Lcom/example/plimsoll/plimsoll/model/AbatementAlgorithm;"⟩ : MethodName) prog_36_method_6_code 3 (some (.object "com/example/plimsoll/plimsoll/model/AbatementAlgorithm")) :: ws) ({ frames := 0, cells := 0, slots := 0, locals := 0 } : Room)) (fun a U => a = #[(.long q1), (.ref w1)] ∧ Z.Warmed39 U.vm ∧ U.heap = h0) (fun _ _ _ _ _ => True) (fun _ U o U' => ∃ v L, o = .returned v ∧ own_Q (some (.ref w0)) h0 n0 v U'.heap L ∧ FrameEnd U o U' L ({ frames := 0, cells := 0, slots := 0, locals := 0 } : Room).cells ({ frames := 0, cells := 0, slots := 0, locals := 0 } : Room).slots) := by
  refine MetFree.of_bodySF (plainFor_of_name pn_com_example_plimsoll_plimsoll_model_AbatementAlgorithm) hisR ?_
  intro p e s m args below meth c s₁ Bd hml0 hP hK
  obtain ⟨rfl, hZ, hh⟩ := hP
  have hx := Bd.exec
  have hby := Bd.bytes
  have hml : c.maxLocals = 3 := hml0
  have hown : s.vm.findClass "com/example/plimsoll/plimsoll/model/AbatementAlgorithm" = some m.cls := findClass_of_methodNamed Bd.named
  have hnm := (name_of_methodNamed Bd.named Bd.method).1
  have X0 : Stand p l e ({ frames := 0, cells := 0, slots := 0, locals := 0 } : Room) s m #[(.long q1), (.ref w1)] below meth c s₁ [] 0 0 := Stand.of_body Bd
  have e0 : s₁.heap = h0 := by rw [← hh, Bd.state]; rfl
  have N0 := Fr.nil n0
  have pre0 : ∀ t, Steps p.tables e below (s₁.setTop (mkF m 0 #[.val (.long q1), .second, .val (.ref w1)] [])) t → Steps p.tables e below (s₁.setTop (entryFrame m #[(.long q1), (.ref w1)] 3)) t := fun t k => castTop (ef_prog_36_method_6_code_JA m q1 w1) k
  have P0 := P; obtain ⟨S0, E0, F0_bit, S1, E1, F1_bit⟩ := P0
  obtain ⟨T2, X2, e2, st2⟩ := getF X0 hx hZ hown (host := "") (Or.inl (hw _ (List.mem_of_getElem? (i := 6) rfl))) Via.refl e0 F1_bit (g := (mkF m 2 #[.val (.long q1), .second, .val (.ref w1)] [(.ref w1), (.long q1)])) rfl rfl (hb hby d_prog_36_method_6_code_2)
  obtain ⟨T3, X3, e3, st3⟩ := getS2 X2 hx hZ hown (host := "") (Or.inl (hw _ (List.mem_of_getElem? (i := 10) rfl))) Via.refl e2 S0 (g := (mkF m 15 #[.val (.long q1), .second, .val (.ref w1)] [])) rfl (hb hby d_prog_36_method_6_code_15)
  obtain ⟨fs, hr, hrun, hended, hW, hsame⟩ := X3.leave (v := some (.ref w0)) (fun h => by rw [Bd.returns] at h; cases h)
  refine ⟨_, _, pre0 _ ?_, hrun, hended, _, _, rfl, ?_, ⟨_, rfl⟩, hW, hsame.mono (by decide) (by decide)⟩
  · show Steps p.tables e below (s₁.setTop (mkF m 0 #[.val (.long q1), .second, .val (.ref w1)] [])) _
    refine XT.lloadN X0.here hx rfl (hb hby d_prog_36_method_6_code_0) rfl ?_
    show Steps p.tables e below (s₁.setTop (mkF m 1 #[.val (.long q1), .second, .val (.ref w1)] [(.long q1)])) _
    refine XS.aloadN X0.here hx rfl (hb hby d_prog_36_method_6_code_1) rfl rfl ?_
    show Steps p.tables e below (s₁.setTop (mkF m 2 #[.val (.long q1), .second, .val (.ref w1)] [(.ref w1), (.long q1)])) _
    refine st2 _ ?_
    show Steps p.tables e below (T2.setTop (mkF m 5 #[.val (.long q1), .second, .val (.ref w1)] [(.long (4 : Int64)), (.long q1)])) _
    refine XT.land X2.here hx rfl (hb hby d_prog_36_method_6_code_5) rfl ?_
    show Steps p.tables e below (T2.setTop (mkF m 6 #[.val (.long q1), .second, .val (.ref w1)] [(.long (q1 &&& (4 : Int64)))])) _
    refine XT.lconstV X2.here hx rfl (0 : Int64) (hb hby d_prog_36_method_6_code_6) rfl ?_
    show Steps p.tables e below (T2.setTop (mkF m 7 #[.val (.long q1), .second, .val (.ref w1)] [(.long (0 : Int64)), (.long (q1 &&& (4 : Int64)))])) _
    refine XT.lcmp X2.here hx rfl (hb hby d_prog_36_method_6_code_7) rfl ?_
    show Steps p.tables e below (T2.setTop (mkF m 8 #[.val (.long q1), .second, .val (.ref w1)] [(.int (XT.cmpL (q1 &&& (4 : Int64)) (0 : Int64)))])) _
    refine XS.ifYes X2.here hx rfl (pc0 := 8) (pc' := 15) rfl (hb hby d_prog_36_method_6_code_8) rfl (XT.ll_eq_t hc) (by decide) (by decide) ?_
    show Steps p.tables e below (T2.setTop (mkF m 15 #[.val (.long q1), .second, .val (.ref w1)] [])) _
    refine st3 _ ?_
    show Steps p.tables e below (T3.setTop (mkF m 18 #[.val (.long q1), .second, .val (.ref w1)] [(.ref w0)])) _
    jvm_step X3.here [X3.here.top, hx, (hb hby d_prog_36_method_6_code_18), X3.method', Bd.returns, Value.isRef, FieldType.isReference]
    first | (intro acts; rw [hr _ acts rfl rfl rfl]) | rw [hr _ _ rfl rfl rfl]
    exact Steps.refl _
  · show own_Q (some (.ref w0)) h0 n0 _ T3.heap _
    rw [e3]
    exact ⟨rfl, N0, rfl⟩
set_option maxRecDepth 65536 in
set_option maxHeartbeats 40000000 in
theorem own_sel_L1 (l : Launch) (Z : State) (a0 : Array Value) (hw : ∀ d ∈ tables_1, d.before a0 Z = true) (ws : List Jvm.Cond) (q1 : Int64) (w0 w1 : Addr) (h0 : Heap) (n0 : Nat) (Z0 : n0 ≤ h0.size) (P : own_P Z h0 w0 w1) (hc : ¬ (q1 &&& (1 : Int64)) = (0 : Int64)) :
    MetFree l (⟨"com/example/plimsoll/plimsoll/model/AbatementAlgorithm", "select", "(JLcom/example/plimsoll/plimsoll/model/AbatementAlgorithm;)Lcom/example/plimsoll/plimsoll/model/AbatementAlgorithm;"⟩ : MethodName) (head1 (Jvm.Cond.code (⟨"com/example/plimsoll/plimsoll/model/AbatementAlgorithm", "select", "(JLcom/example/plimsoll/plimsoll/model/AbatementAlgorithm;)Lcom/example/plimsoll/plimsoll/model/AbatementAlgorithm;"⟩ : MethodName) prog_36_method_6_code 3 (some (.object "com/example/plimsoll/plimsoll/model/AbatementAlgorithm")) :: ws) ({ frames := 0, cells := 0, slots := 0, locals := 0 } : Room)) (fun a U => a = #[(.long q1), (.ref w0)] ∧ Z.Warmed39 U.vm ∧ U.heap = h0) (fun _ _ _ _ _ => True) (fun _ U o U' => ∃ v L, o = .returned v ∧ own_Q (some (.ref w0)) h0 n0 v U'.heap L ∧ FrameEnd U o U' L ({ frames := 0, cells := 0, slots := 0, locals := 0 } : Room).cells ({ frames := 0, cells := 0, slots := 0, locals := 0 } : Room).slots) := by
  refine MetFree.of_bodySF (plainFor_of_name pn_com_example_plimsoll_plimsoll_model_AbatementAlgorithm) hisR ?_
  intro p e s m args below meth c s₁ Bd hml0 hP hK
  obtain ⟨rfl, hZ, hh⟩ := hP
  have hx := Bd.exec
  have hby := Bd.bytes
  have hml : c.maxLocals = 3 := hml0
  have hown : s.vm.findClass "com/example/plimsoll/plimsoll/model/AbatementAlgorithm" = some m.cls := findClass_of_methodNamed Bd.named
  have hnm := (name_of_methodNamed Bd.named Bd.method).1
  have X0 : Stand p l e ({ frames := 0, cells := 0, slots := 0, locals := 0 } : Room) s m #[(.long q1), (.ref w0)] below meth c s₁ [] 0 0 := Stand.of_body Bd
  have e0 : s₁.heap = h0 := by rw [← hh, Bd.state]; rfl
  have N0 := Fr.nil n0
  have pre0 : ∀ t, Steps p.tables e below (s₁.setTop (mkF m 0 #[.val (.long q1), .second, .val (.ref w0)] [])) t → Steps p.tables e below (s₁.setTop (entryFrame m #[(.long q1), (.ref w0)] 3)) t := fun t k => castTop (ef_prog_36_method_6_code_JA m q1 w0) k
  have P0 := P; obtain ⟨S0, E0, F0_bit, S1, E1, F1_bit⟩ := P0
  obtain ⟨T4, X4, e4, st4⟩ := getF X0 hx hZ hown (host := "") (Or.inl (hw _ (List.mem_of_getElem? (i := 6) rfl))) Via.refl e0 F0_bit (g := (mkF m 2 #[.val (.long q1), .second, .val (.ref w0)] [(.ref w0), (.long q1)])) rfl rfl (hb hby d_prog_36_method_6_code_2)
  obtain ⟨fs, hr, hrun, hended, hW, hsame⟩ := X4.leave (v := some (.ref w0)) (fun h => by rw [Bd.returns] at h; cases h)
  refine ⟨_, _, pre0 _ ?_, hrun, hended, _, _, rfl, ?_, ⟨_, rfl⟩, hW, hsame.mono (by decide) (by decide)⟩
  · show Steps p.tables e below (s₁.setTop (mkF m 0 #[.val (.long q1), .second, .val (.ref w0)] [])) _
    refine XT.lloadN X0.here hx rfl (hb hby d_prog_36_method_6_code_0) rfl ?_
    show Steps p.tables e below (s₁.setTop (mkF m 1 #[.val (.long q1), .second, .val (.ref w0)] [(.long q1)])) _
    refine XS.aloadN X0.here hx rfl (hb hby d_prog_36_method_6_code_1) rfl rfl ?_
    show Steps p.tables e below (s₁.setTop (mkF m 2 #[.val (.long q1), .second, .val (.ref w0)] [(.ref w0), (.long q1)])) _
    refine st4 _ ?_
    show Steps p.tables e below (T4.setTop (mkF m 5 #[.val (.long q1), .second, .val (.ref w0)] [(.long (1 : Int64)), (.long q1)])) _
    refine XT.land X4.here hx rfl (hb hby d_prog_36_method_6_code_5) rfl ?_
    show Steps p.tables e below (T4.setTop (mkF m 6 #[.val (.long q1), .second, .val (.ref w0)] [(.long (q1 &&& (1 : Int64)))])) _
    refine XT.lconstV X4.here hx rfl (0 : Int64) (hb hby d_prog_36_method_6_code_6) rfl ?_
    show Steps p.tables e below (T4.setTop (mkF m 7 #[.val (.long q1), .second, .val (.ref w0)] [(.long (0 : Int64)), (.long (q1 &&& (1 : Int64)))])) _
    refine XT.lcmp X4.here hx rfl (hb hby d_prog_36_method_6_code_7) rfl ?_
    show Steps p.tables e below (T4.setTop (mkF m 8 #[.val (.long q1), .second, .val (.ref w0)] [(.int (XT.cmpL (q1 &&& (1 : Int64)) (0 : Int64)))])) _
    refine XS.ifNo X4.here hx rfl (hb hby d_prog_36_method_6_code_8) rfl (XT.ll_eq_f hc) ?_
    show Steps p.tables e below (T4.setTop (mkF m 11 #[.val (.long q1), .second, .val (.ref w0)] [])) _
    refine XS.aloadN X4.here hx rfl (hb hby d_prog_36_method_6_code_11) rfl rfl ?_
    show Steps p.tables e below (T4.setTop (mkF m 12 #[.val (.long q1), .second, .val (.ref w0)] [(.ref w0)])) _
    refine XS.goto X4.here hx rfl (pc0 := 12) (pc' := 18) rfl (hb hby d_prog_36_method_6_code_12) (by decide) (by decide) ?_
    show Steps p.tables e below (T4.setTop (mkF m 18 #[.val (.long q1), .second, .val (.ref w0)] [(.ref w0)])) _
    jvm_step X4.here [X4.here.top, hx, (hb hby d_prog_36_method_6_code_18), X4.method', Bd.returns, Value.isRef, FieldType.isReference]
    first | (intro acts; rw [hr _ acts rfl rfl rfl]) | rw [hr _ _ rfl rfl rfl]
    exact Steps.refl _
  · show own_Q (some (.ref w0)) h0 n0 _ T4.heap _
    rw [e4]
    exact ⟨rfl, N0, rfl⟩
set_option maxRecDepth 65536 in
set_option maxHeartbeats 40000000 in
theorem own_sel_L0 (l : Launch) (Z : State) (a0 : Array Value) (hw : ∀ d ∈ tables_1, d.before a0 Z = true) (ws : List Jvm.Cond) (q1 : Int64) (w0 w1 : Addr) (h0 : Heap) (n0 : Nat) (Z0 : n0 ≤ h0.size) (P : own_P Z h0 w0 w1) (hc : (q1 &&& (1 : Int64)) = (0 : Int64)) :
    MetFree l (⟨"com/example/plimsoll/plimsoll/model/AbatementAlgorithm", "select", "(JLcom/example/plimsoll/plimsoll/model/AbatementAlgorithm;)Lcom/example/plimsoll/plimsoll/model/AbatementAlgorithm;"⟩ : MethodName) (head1 (Jvm.Cond.code (⟨"com/example/plimsoll/plimsoll/model/AbatementAlgorithm", "select", "(JLcom/example/plimsoll/plimsoll/model/AbatementAlgorithm;)Lcom/example/plimsoll/plimsoll/model/AbatementAlgorithm;"⟩ : MethodName) prog_36_method_6_code 3 (some (.object "com/example/plimsoll/plimsoll/model/AbatementAlgorithm")) :: ws) ({ frames := 0, cells := 0, slots := 0, locals := 0 } : Room)) (fun a U => a = #[(.long q1), (.ref w0)] ∧ Z.Warmed39 U.vm ∧ U.heap = h0) (fun _ _ _ _ _ => True) (fun _ U o U' => ∃ v L, o = .returned v ∧ own_Q (some (.ref w0)) h0 n0 v U'.heap L ∧ FrameEnd U o U' L ({ frames := 0, cells := 0, slots := 0, locals := 0 } : Room).cells ({ frames := 0, cells := 0, slots := 0, locals := 0 } : Room).slots) := by
  refine MetFree.of_bodySF (plainFor_of_name pn_com_example_plimsoll_plimsoll_model_AbatementAlgorithm) hisR ?_
  intro p e s m args below meth c s₁ Bd hml0 hP hK
  obtain ⟨rfl, hZ, hh⟩ := hP
  have hx := Bd.exec
  have hby := Bd.bytes
  have hml : c.maxLocals = 3 := hml0
  have hown : s.vm.findClass "com/example/plimsoll/plimsoll/model/AbatementAlgorithm" = some m.cls := findClass_of_methodNamed Bd.named
  have hnm := (name_of_methodNamed Bd.named Bd.method).1
  have X0 : Stand p l e ({ frames := 0, cells := 0, slots := 0, locals := 0 } : Room) s m #[(.long q1), (.ref w0)] below meth c s₁ [] 0 0 := Stand.of_body Bd
  have e0 : s₁.heap = h0 := by rw [← hh, Bd.state]; rfl
  have N0 := Fr.nil n0
  have pre0 : ∀ t, Steps p.tables e below (s₁.setTop (mkF m 0 #[.val (.long q1), .second, .val (.ref w0)] [])) t → Steps p.tables e below (s₁.setTop (entryFrame m #[(.long q1), (.ref w0)] 3)) t := fun t k => castTop (ef_prog_36_method_6_code_JA m q1 w0) k
  have P0 := P; obtain ⟨S0, E0, F0_bit, S1, E1, F1_bit⟩ := P0
  obtain ⟨T5, X5, e5, st5⟩ := getF X0 hx hZ hown (host := "") (Or.inl (hw _ (List.mem_of_getElem? (i := 6) rfl))) Via.refl e0 F0_bit (g := (mkF m 2 #[.val (.long q1), .second, .val (.ref w0)] [(.ref w0), (.long q1)])) rfl rfl (hb hby d_prog_36_method_6_code_2)
  obtain ⟨T6, X6, e6, st6⟩ := getS2 X5 hx hZ hown (host := "") (Or.inl (hw _ (List.mem_of_getElem? (i := 10) rfl))) Via.refl e5 S0 (g := (mkF m 15 #[.val (.long q1), .second, .val (.ref w0)] [])) rfl (hb hby d_prog_36_method_6_code_15)
  obtain ⟨fs, hr, hrun, hended, hW, hsame⟩ := X6.leave (v := some (.ref w0)) (fun h => by rw [Bd.returns] at h; cases h)
  refine ⟨_, _, pre0 _ ?_, hrun, hended, _, _, rfl, ?_, ⟨_, rfl⟩, hW, hsame.mono (by decide) (by decide)⟩
  · show Steps p.tables e below (s₁.setTop (mkF m 0 #[.val (.long q1), .second, .val (.ref w0)] [])) _
    refine XT.lloadN X0.here hx rfl (hb hby d_prog_36_method_6_code_0) rfl ?_
    show Steps p.tables e below (s₁.setTop (mkF m 1 #[.val (.long q1), .second, .val (.ref w0)] [(.long q1)])) _
    refine XS.aloadN X0.here hx rfl (hb hby d_prog_36_method_6_code_1) rfl rfl ?_
    show Steps p.tables e below (s₁.setTop (mkF m 2 #[.val (.long q1), .second, .val (.ref w0)] [(.ref w0), (.long q1)])) _
    refine st5 _ ?_
    show Steps p.tables e below (T5.setTop (mkF m 5 #[.val (.long q1), .second, .val (.ref w0)] [(.long (1 : Int64)), (.long q1)])) _
    refine XT.land X5.here hx rfl (hb hby d_prog_36_method_6_code_5) rfl ?_
    show Steps p.tables e below (T5.setTop (mkF m 6 #[.val (.long q1), .second, .val (.ref w0)] [(.long (q1 &&& (1 : Int64)))])) _
    refine XT.lconstV X5.here hx rfl (0 : Int64) (hb hby d_prog_36_method_6_code_6) rfl ?_
    show Steps p.tables e below (T5.setTop (mkF m 7 #[.val (.long q1), .second, .val (.ref w0)] [(.long (0 : Int64)), (.long (q1 &&& (1 : Int64)))])) _
    refine XT.lcmp X5.here hx rfl (hb hby d_prog_36_method_6_code_7) rfl ?_
    show Steps p.tables e below (T5.setTop (mkF m 8 #[.val (.long q1), .second, .val (.ref w0)] [(.int (XT.cmpL (q1 &&& (1 : Int64)) (0 : Int64)))])) _
    refine XS.ifYes X5.here hx rfl (pc0 := 8) (pc' := 15) rfl (hb hby d_prog_36_method_6_code_8) rfl (XT.ll_eq_t hc) (by decide) (by decide) ?_
    show Steps p.tables e below (T5.setTop (mkF m 15 #[.val (.long q1), .second, .val (.ref w0)] [])) _
    refine st6 _ ?_
    show Steps p.tables e below (T6.setTop (mkF m 18 #[.val (.long q1), .second, .val (.ref w0)] [(.ref w0)])) _
    jvm_step X6.here [X6.here.top, hx, (hb hby d_prog_36_method_6_code_18), X6.method', Bd.returns, Value.isRef, FieldType.isReference]
    first | (intro acts; rw [hr _ acts rfl rfl rfl]) | rw [hr _ _ rfl rfl rfl]
    exact Steps.refl _
  · show own_Q (some (.ref w0)) h0 n0 _ T6.heap _
    rw [e6]
    exact ⟨rfl, N0, rfl⟩
theorem pd__JLcom_example_plimsoll_plimsoll_model_AbatementAlgorithm__Lcom_example_plimsoll_plimsoll_model_AbatementAlgorithm_ : parseMethodDescriptor "(JLcom/example/plimsoll/plimsoll/model/AbatementAlgorithm;)Lcom/example/plimsoll/plimsoll/model/AbatementAlgorithm;" = some ⟨[.long, (.object "com/example/plimsoll/plimsoll/model/AbatementAlgorithm")], (some (.object "com/example/plimsoll/plimsoll/model/AbatementAlgorithm"))⟩ := by decide +kernel
theorem ef_code_JI (m : MethodId) (x0 : Int64) (x1 : Int32) : entryFrame m #[(.long x0), (.int x1)] maxLocals = mkF m 0 #[.val (.long x0), .second, .val (.int x1), .unset, .unset, .unset, .unset, .unset] [] := by first | (simp [entryFrame, mkF, argsToLocals, Value.category, maxLocals]; done) | rfl
theorem pn_com_example_plimsoll_plimsoll_model_AbatementAlgorithmSelectPinLaw : plainName "com/example/plimsoll/plimsoll/model/AbatementAlgorithmSelectPinLaw" = true := by first | (simp [plainName, overriddenIn]; done) | decide +kernel
set_option maxRecDepth 65536 in
set_option maxHeartbeats 40000000 in
theorem own_law_R1_1 (l : Launch) (Z : State) (a0 : Array Value) (hw : ∀ d ∈ tables_1, d.before a0 Z = true) (ws : List Jvm.Cond) (p1 : Int64) (p2 : Int32) (w0 w1 : Addr) (h0 : Heap) (n0 : Nat) (Z0 : n0 ≤ h0.size) (P : own_P Z h0 w0 w1) (hc : (p2 &&& (1 : Int32)) = (1 : Int32)) (hs : ¬ (p1 &&& (4 : Int64)) = (0 : Int64)) (hr2 : ¬ ((XT.ushrL p1 (2 : Int32)) &&& (1 : Int64)) = (0 : Int64)) :
    MetFree l x (head1 (Jvm.Cond.code x code maxLocals ret :: ws) room_1) (fun a U => a = #[(.long p1), (.int p2)] ∧ Z.Warmed39 U.vm ∧ U.heap = h0) (fun _ _ _ _ _ => True) (fun _ U o U' => ∃ v L, o = .returned v ∧ own_Q0 n0 v U'.heap L ∧ FrameEnd U o U' L room_1.cells room_1.slots) := by
  refine MetFree.of_bodySF (plainFor_of_name pn_com_example_plimsoll_plimsoll_model_AbatementAlgorithmSelectPinLaw) hisR ?_
  intro p e s m args below meth c s₁ Bd hml0 hP hK
  obtain ⟨rfl, hZ, hh⟩ := hP
  have hx := Bd.exec
  have hby := Bd.bytes
  have hml : c.maxLocals = 8 := hml0
  have hown : s.vm.findClass "com/example/plimsoll/plimsoll/model/AbatementAlgorithmSelectPinLaw" = some m.cls := findClass_of_methodNamed Bd.named
  have hnm := (name_of_methodNamed Bd.named Bd.method).1
  have X0 : Stand p l e room_1 s m #[(.long p1), (.int p2)] below meth c s₁ [] 0 0 := Stand.of_body Bd
  have e0 : s₁.heap = h0 := by rw [← hh, Bd.state]; rfl
  have N0 := Fr.nil n0
  have pre0 : ∀ t, Steps p.tables e below (s₁.setTop (mkF m 0 #[.val (.long p1), .second, .val (.int p2), .unset, .unset, .unset, .unset, .unset] [])) t → Steps p.tables e below (s₁.setTop (entryFrame m #[(.long p1), (.int p2)] maxLocals)) t := fun t k => castTop (ef_code_JI m p1 p2) k
  have P0 := P; obtain ⟨S0, E0, F0_bit, S1, E1, F1_bit⟩ := P0
  obtain ⟨T7, X7, e7, st7⟩ := getS2 X0 hx hZ hown (host := "") (Or.inl (hw _ (List.mem_of_getElem? (i := 8) rfl))) Via.refl e0 S1 (g := (mkF m 16 #[.val (.long p1), .second, .val (.int p2), .val (.int (1 : Int32)), .unset, .unset, .unset, .unset] [])) rfl (hb hby at_16)
  obtain ⟨_, _, ⟨T8, L8, k8, n8⟩, -, X8, ⟨Lc8, hQ8, l8, y8, z8⟩, st8⟩ := Jvm.LawKit.callS X7 hx (y := (⟨"com/example/plimsoll/plimsoll/model/AbatementAlgorithm", "select", "(JLcom/example/plimsoll/plimsoll/model/AbatementAlgorithm;)Lcom/example/plimsoll/plimsoll/model/AbatementAlgorithm;"⟩ : MethodName)) hown (mvT hZ (hw _ (List.mem_of_getElem? (i := 3) rfl))) (mvT hZ (hw _ (List.mem_of_getElem? (i := 4) rfl))) (mvT hZ (hw _ (List.mem_of_getElem? (i := 1) rfl))) (mvT hZ (hw _ (List.mem_of_getElem? (i := 5) rfl))) (by decide) (backOf (W := 0) (own_sel_R1 l Z a0 hw [] p1 w0 w1 h0 n0 Z0 P hs) hZ (hw _ (List.mem_of_getElem? (i := 5) rfl)) (hw _ (List.mem_of_getElem? (i := 1) rfl)) (by decide) (by decide)) (g := (mkF m 30 #[.val (.long p1), .second, .val (.int p2), .val (.int (1 : Int32)), .val (.ref w1), .unset, .unset, .unset] [(.ref w1), (.long p1)])) rfl (by rw [hml]; rfl) (argsL := [(.long p1), (.ref w1)]) (rest := []) (lenOf pd__JLcom_example_plimsoll_plimsoll_model_AbatementAlgorithm__Lcom_example_plimsoll_plimsoll_model_AbatementAlgorithm_ rfl) rfl (by show 2 * 0 + _ ≤ _; exact Nat.le_of_eq rfl) (hb hby at_30) (fun _ _ => ⟨rfl, e7, (by decide : 0 + 0 ≤ _), (by decide : 0 + 0 ≤ _)⟩)
  dsimp only [Pt.U, Pt.locs, Pt.cells, Pt.slots] at X8 l8 y8 z8 st8 hQ8
  subst l8 y8 z8
  obtain ⟨rfl, N8q, e8⟩ := hQ8
  have N8 := Fr.app N0 N8q
  obtain ⟨T9, X9, e9, st9⟩ := getS2 X8 hx hZ hown (host := "") (Or.inl (hw _ (List.mem_of_getElem? (i := 8) rfl))) Via.refl e8 S1 (g := (mkF m 61 #[.val (.long p1), .second, .val (.int p2), .val (.int (1 : Int32)), .val (.ref w1), .val (.ref w1), .val (.int (1 : Int32)), .unset] [])) rfl (hb hby at_61)
  obtain ⟨fs, hr, hrun, hended, hW, hsame⟩ := X9.leave (v := some (.int (1 : Int32))) (fun h => by rw [Bd.returns] at h; cases h)
  refine ⟨_, _, pre0 _ ?_, hrun, hended, _, _, rfl, ?_, ⟨_, rfl⟩, hW, hsame.mono (by decide) (by decide)⟩
  · show Steps p.tables e below (s₁.setTop (mkF m 0 #[.val (.long p1), .second, .val (.int p2), .unset, .unset, .unset, .unset, .unset] [])) _
    refine XS.iloadN X0.here hx rfl (hb hby at_0) rfl ?_
    show Steps p.tables e below (s₁.setTop (mkF m 1 #[.val (.long p1), .second, .val (.int p2), .unset, .unset, .unset, .unset, .unset] [(.int p2)])) _
    refine XT.iconstV X0.here hx rfl (1 : Int32) (hb hby at_1) rfl ?_
    show Steps p.tables e below (s₁.setTop (mkF m 2 #[.val (.long p1), .second, .val (.int p2), .unset, .unset, .unset, .unset, .unset] [(.int (1 : Int32)), (.int p2)])) _
    refine XS.iand X0.here hx rfl (hb hby at_2) rfl ?_
    show Steps p.tables e below (s₁.setTop (mkF m 3 #[.val (.long p1), .second, .val (.int p2), .unset, .unset, .unset, .unset, .unset] [(.int (p2 &&& (1 : Int32)))])) _
    rw [hc]
    show Steps p.tables e below (s₁.setTop (mkF m 3 #[.val (.long p1), .second, .val (.int p2), .unset, .unset, .unset, .unset, .unset] [(.int (1 : Int32))])) _
    refine XS.ifNo X0.here hx rfl (hb hby at_3) rfl (by decide) ?_
    show Steps p.tables e below (s₁.setTop (mkF m 6 #[.val (.long p1), .second, .val (.int p2), .unset, .unset, .unset, .unset, .unset] [])) _
    refine XT.iconstV X0.here hx rfl (1 : Int32) (hb hby at_6) rfl ?_
    show Steps p.tables e below (s₁.setTop (mkF m 7 #[.val (.long p1), .second, .val (.int p2), .unset, .unset, .unset, .unset, .unset] [(.int (1 : Int32))])) _
    refine XS.goto X0.here hx rfl (pc0 := 7) (pc' := 11) rfl (hb hby at_7) (by decide) (by decide) ?_
    show Steps p.tables e below (s₁.setTop (mkF m 11 #[.val (.long p1), .second, .val (.int p2), .unset, .unset, .unset, .unset, .unset] [(.int (1 : Int32))])) _
    refine XS.istoreN X0.here hx rfl (hb hby at_11) rfl (l' := #[.val (.long p1), .second, .val (.int p2), .val (.int (1 : Int32)), .unset, .unset, .unset, .unset]) rfl ?_
    show Steps p.tables e below (s₁.setTop (mkF m 12 #[.val (.long p1), .second, .val (.int p2), .val (.int (1 : Int32)), .unset, .unset, .unset, .unset] [])) _
    refine XS.iloadN X0.here hx rfl (hb hby at_12) rfl ?_
    show Steps p.tables e below (s₁.setTop (mkF m 13 #[.val (.long p1), .second, .val (.int p2), .val (.int (1 : Int32)), .unset, .unset, .unset, .unset] [(.int (1 : Int32))])) _
    refine XS.ifNo X0.here hx rfl (hb hby at_13) rfl (by decide) ?_
    show Steps p.tables e below (s₁.setTop (mkF m 16 #[.val (.long p1), .second, .val (.int p2), .val (.int (1 : Int32)), .unset, .unset, .unset, .unset] [])) _
    refine st7 _ ?_
    show Steps p.tables e below (T7.setTop (mkF m 19 #[.val (.long p1), .second, .val (.int p2), .val (.int (1 : Int32)), .unset, .unset, .unset, .unset] [(.ref w1)])) _
    refine XS.goto X7.here hx rfl (pc0 := 19) (pc' := 25) rfl (hb hby at_19) (by decide) (by decide) ?_
    show Steps p.tables e below (T7.setTop (mkF m 25 #[.val (.long p1), .second, .val (.int p2), .val (.int (1 : Int32)), .unset, .unset, .unset, .unset] [(.ref w1)])) _
    refine XS.astore X7.here hx rfl (hb hby at_25) rfl rfl (l' := #[.val (.long p1), .second, .val (.int p2), .val (.int (1 : Int32)), .val (.ref w1), .unset, .unset, .unset]) rfl ?_
    show Steps p.tables e below (T7.setTop (mkF m 27 #[.val (.long p1), .second, .val (.int p2), .val (.int (1 : Int32)), .val (.ref w1), .unset, .unset, .unset] [])) _
    refine XT.lloadN X7.here hx rfl (hb hby at_27) rfl ?_
    show Steps p.tables e below (T7.setTop (mkF m 28 #[.val (.long p1), .second, .val (.int p2), .val (.int (1 : Int32)), .val (.ref w1), .unset, .unset, .unset] [(.long p1)])) _
    refine XS.aload X7.here hx rfl (hb hby at_28) rfl rfl ?_
    show Steps p.tables e below (T7.setTop (mkF m 30 #[.val (.long p1), .second, .val (.int p2), .val (.int (1 : Int32)), .val (.ref w1), .unset, .unset, .unset] [(.ref w1), (.long p1)])) _
    refine st8 _ ?_
    show Steps p.tables e below (T8.setTop (mkF m 33 #[.val (.long p1), .second, .val (.int p2), .val (.int (1 : Int32)), .val (.ref w1), .unset, .unset, .unset] [(.ref w1)])) _
    refine XS.astore X8.here hx rfl (hb hby at_33) rfl rfl (l' := #[.val (.long p1), .second, .val (.int p2), .val (.int (1 : Int32)), .val (.ref w1), .val (.ref w1), .unset, .unset]) rfl ?_
    show Steps p.tables e below (T8.setTop (mkF m 35 #[.val (.long p1), .second, .val (.int p2), .val (.int (1 : Int32)), .val (.ref w1), .val (.ref w1), .unset, .unset] [])) _
    refine XT.lloadN X8.here hx rfl (hb hby at_35) rfl ?_
    show Steps p.tables e below (T8.setTop (mkF m 36 #[.val (.long p1), .second, .val (.int p2), .val (.int (1 : Int32)), .val (.ref w1), .val (.ref w1), .unset, .unset] [(.long p1)])) _
    refine XT.iconstV X8.here hx rfl (2 : Int32) (hb hby at_36) rfl ?_
    show Steps p.tables e below (T8.setTop (mkF m 37 #[.val (.long p1), .second, .val (.int p2), .val (.int (1 : Int32)), .val (.ref w1), .val (.ref w1), .unset, .unset] [(.int (2 : Int32)), (.long p1)])) _
    refine XT.lushr X8.here hx rfl (hb hby at_37) rfl ?_
    show Steps p.tables e below (T8.setTop (mkF m 38 #[.val (.long p1), .second, .val (.int p2), .val (.int (1 : Int32)), .val (.ref w1), .val (.ref w1), .unset, .unset] [(.long (XT.ushrL p1 (2 : Int32)))])) _
    refine XT.lconstV X8.here hx rfl (1 : Int64) (hb hby at_38) rfl ?_
    show Steps p.tables e below (T8.setTop (mkF m 39 #[.val (.long p1), .second, .val (.int p2), .val (.int (1 : Int32)), .val (.ref w1), .val (.ref w1), .unset, .unset] [(.long (1 : Int64)), (.long (XT.ushrL p1 (2 : Int32)))])) _
    refine XT.land X8.here hx rfl (hb hby at_39) rfl ?_
    show Steps p.tables e below (T8.setTop (mkF m 40 #[.val (.long p1), .second, .val (.int p2), .val (.int (1 : Int32)), .val (.ref w1), .val (.ref w1), .unset, .unset] [(.long ((XT.ushrL p1 (2 : Int32)) &&& (1 : Int64)))])) _
    refine XT.lconstV X8.here hx rfl (0 : Int64) (hb hby at_40) rfl ?_
    show Steps p.tables e below (T8.setTop (mkF m 41 #[.val (.long p1), .second, .val (.int p2), .val (.int (1 : Int32)), .val (.ref w1), .val (.ref w1), .unset, .unset] [(.long (0 : Int64)), (.long ((XT.ushrL p1 (2 : Int32)) &&& (1 : Int64)))])) _
    refine XT.lcmp X8.here hx rfl (hb hby at_41) rfl ?_
    show Steps p.tables e below (T8.setTop (mkF m 42 #[.val (.long p1), .second, .val (.int p2), .val (.int (1 : Int32)), .val (.ref w1), .val (.ref w1), .unset, .unset] [(.int (XT.cmpL ((XT.ushrL p1 (2 : Int32)) &&& (1 : Int64)) (0 : Int64)))])) _
    refine XS.ifNo X8.here hx rfl (hb hby at_42) rfl (XT.ll_eq_f hr2) ?_
    show Steps p.tables e below (T8.setTop (mkF m 45 #[.val (.long p1), .second, .val (.int p2), .val (.int (1 : Int32)), .val (.ref w1), .val (.ref w1), .unset, .unset] [])) _
    refine XT.iconstV X8.here hx rfl (1 : Int32) (hb hby at_45) rfl ?_
    show Steps p.tables e below (T8.setTop (mkF m 46 #[.val (.long p1), .second, .val (.int p2), .val (.int (1 : Int32)), .val (.ref w1), .val (.ref w1), .unset, .unset] [(.int (1 : Int32))])) _
    refine XS.goto X8.here hx rfl (pc0 := 46) (pc' := 50) rfl (hb hby at_46) (by decide) (by decide) ?_
    show Steps p.tables e below (T8.setTop (mkF m 50 #[.val (.long p1), .second, .val (.int p2), .val (.int (1 : Int32)), .val (.ref w1), .val (.ref w1), .unset, .unset] [(.int (1 : Int32))])) _
    refine XS.istore X8.here hx rfl (hb hby at_50) rfl (l' := #[.val (.long p1), .second, .val (.int p2), .val (.int (1 : Int32)), .val (.ref w1), .val (.ref w1), .val (.int (1 : Int32)), .unset]) rfl ?_
    show Steps p.tables e below (T8.setTop (mkF m 52 #[.val (.long p1), .second, .val (.int p2), .val (.int (1 : Int32)), .val (.ref w1), .val (.ref w1), .val (.int (1 : Int32)), .unset] [])) _
    refine XS.iloadN X8.here hx rfl (hb hby at_52) rfl ?_
    show Steps p.tables e below (T8.setTop (mkF m 53 #[.val (.long p1), .second, .val (.int p2), .val (.int (1 : Int32)), .val (.ref w1), .val (.ref w1), .val (.int (1 : Int32)), .unset] [(.int (1 : Int32))])) _
    refine XS.ifNo X8.here hx rfl (hb hby at_53) rfl (by decide) ?_
    show Steps p.tables e below (T8.setTop (mkF m 56 #[.val (.long p1), .second, .val (.int p2), .val (.int (1 : Int32)), .val (.ref w1), .val (.ref w1), .val (.int (1 : Int32)), .unset] [])) _
    refine XS.iload X8.here hx rfl (hb hby at_56) rfl ?_
    show Steps p.tables e below (T8.setTop (mkF m 58 #[.val (.long p1), .second, .val (.int p2), .val (.int (1 : Int32)), .val (.ref w1), .val (.ref w1), .val (.int (1 : Int32)), .unset] [(.int (1 : Int32))])) _
    refine XS.ifNo X8.here hx rfl (hb hby at_58) rfl (by decide) ?_
    show Steps p.tables e below (T8.setTop (mkF m 61 #[.val (.long p1), .second, .val (.int p2), .val (.int (1 : Int32)), .val (.ref w1), .val (.ref w1), .val (.int (1 : Int32)), .unset] [])) _
    refine st9 _ ?_
    show Steps p.tables e below (T9.setTop (mkF m 64 #[.val (.long p1), .second, .val (.int p2), .val (.int (1 : Int32)), .val (.ref w1), .val (.ref w1), .val (.int (1 : Int32)), .unset] [(.ref w1)])) _
    refine XS.astore X9.here hx rfl (hb hby at_64) rfl rfl (l' := #[.val (.long p1), .second, .val (.int p2), .val (.int (1 : Int32)), .val (.ref w1), .val (.ref w1), .val (.int (1 : Int32)), .val (.ref w1)]) rfl ?_
    show Steps p.tables e below (T9.setTop (mkF m 66 #[.val (.long p1), .second, .val (.int p2), .val (.int (1 : Int32)), .val (.ref w1), .val (.ref w1), .val (.int (1 : Int32)), .val (.ref w1)] [])) _
    refine XS.goto X9.here hx rfl (pc0 := 66) (pc' := 82) rfl (hb hby at_66) (by decide) (by decide) ?_
    show Steps p.tables e below (T9.setTop (mkF m 82 #[.val (.long p1), .second, .val (.int p2), .val (.int (1 : Int32)), .val (.ref w1), .val (.ref w1), .val (.int (1 : Int32)), .val (.ref w1)] [])) _
    refine XS.aload X9.here hx rfl (hb hby at_82) rfl rfl ?_
    show Steps p.tables e below (T9.setTop (mkF m 84 #[.val (.long p1), .second, .val (.int p2), .val (.int (1 : Int32)), .val (.ref w1), .val (.ref w1), .val (.int (1 : Int32)), .val (.ref w1)] [(.ref w1)])) _
    refine XS.aload X9.here hx rfl (hb hby at_84) rfl rfl ?_
    show Steps p.tables e below (T9.setTop (mkF m 86 #[.val (.long p1), .second, .val (.int p2), .val (.int (1 : Int32)), .val (.ref w1), .val (.ref w1), .val (.int (1 : Int32)), .val (.ref w1)] [(.ref w1), (.ref w1)])) _
    refine Jvm.RoadKit.acmp (g := (mkF m 86 #[.val (.long p1), .second, .val (.int p2), .val (.int (1 : Int32)), .val (.ref w1), .val (.ref w1), .val (.int (1 : Int32)), .val (.ref w1)] [(.ref w1), (.ref w1)])) X9 hx rfl rfl rfl (pc0 := 86) (pc' := 89) (same := true) rfl (hb hby at_86) rfl (decide_eq_true rfl) (by decide) (by decide) ?_
    show Steps p.tables e below (T9.setTop (mkF m 89 #[.val (.long p1), .second, .val (.int p2), .val (.int (1 : Int32)), .val (.ref w1), .val (.ref w1), .val (.int (1 : Int32)), .val (.ref w1)] [])) _
    refine XT.iconstV X9.here hx rfl (1 : Int32) (hb hby at_89) rfl ?_
    show Steps p.tables e below (T9.setTop (mkF m 90 #[.val (.long p1), .second, .val (.int p2), .val (.int (1 : Int32)), .val (.ref w1), .val (.ref w1), .val (.int (1 : Int32)), .val (.ref w1)] [(.int (1 : Int32))])) _
    refine XS.goto X9.here hx rfl (pc0 := 90) (pc' := 94) rfl (hb hby at_90) (by decide) (by decide) ?_
    show Steps p.tables e below (T9.setTop (mkF m 94 #[.val (.long p1), .second, .val (.int p2), .val (.int (1 : Int32)), .val (.ref w1), .val (.ref w1), .val (.int (1 : Int32)), .val (.ref w1)] [(.int (1 : Int32))])) _
    exact retN X9 hx (t := .boolean) Bd.returns (by simp) (hb hby at_94) hr
  · show own_Q0 n0 _ T9.heap _
    exact ⟨rfl, N8⟩
set_option maxRecDepth 65536 in
set_option maxHeartbeats 40000000 in
theorem own_law_R0_0 (l : Launch) (Z : State) (a0 : Array Value) (hw : ∀ d ∈ tables_1, d.before a0 Z = true) (ws : List Jvm.Cond) (p1 : Int64) (p2 : Int32) (w0 w1 : Addr) (h0 : Heap) (n0 : Nat) (Z0 : n0 ≤ h0.size) (P : own_P Z h0 w0 w1) (hc : (p2 &&& (1 : Int32)) = (1 : Int32)) (hs : (p1 &&& (4 : Int64)) = (0 : Int64)) (hr2 : ((XT.ushrL p1 (2 : Int32)) &&& (1 : Int64)) = (0 : Int64)) :
    MetFree l x (head1 (Jvm.Cond.code x code maxLocals ret :: ws) room_1) (fun a U => a = #[(.long p1), (.int p2)] ∧ Z.Warmed39 U.vm ∧ U.heap = h0) (fun _ _ _ _ _ => True) (fun _ U o U' => ∃ v L, o = .returned v ∧ own_Q0 n0 v U'.heap L ∧ FrameEnd U o U' L room_1.cells room_1.slots) := by
  refine MetFree.of_bodySF (plainFor_of_name pn_com_example_plimsoll_plimsoll_model_AbatementAlgorithmSelectPinLaw) hisR ?_
  intro p e s m args below meth c s₁ Bd hml0 hP hK
  obtain ⟨rfl, hZ, hh⟩ := hP
  have hx := Bd.exec
  have hby := Bd.bytes
  have hml : c.maxLocals = 8 := hml0
  have hown : s.vm.findClass "com/example/plimsoll/plimsoll/model/AbatementAlgorithmSelectPinLaw" = some m.cls := findClass_of_methodNamed Bd.named
  have hnm := (name_of_methodNamed Bd.named Bd.method).1
  have X0 : Stand p l e room_1 s m #[(.long p1), (.int p2)] below meth c s₁ [] 0 0 := Stand.of_body Bd
  have e0 : s₁.heap = h0 := by rw [← hh, Bd.state]; rfl
  have N0 := Fr.nil n0
  have pre0 : ∀ t, Steps p.tables e below (s₁.setTop (mkF m 0 #[.val (.long p1), .second, .val (.int p2), .unset, .unset, .unset, .unset, .unset] [])) t → Steps p.tables e below (s₁.setTop (entryFrame m #[(.long p1), (.int p2)] maxLocals)) t := fun t k => castTop (ef_code_JI m p1 p2) k
  have P0 := P; obtain ⟨S0, E0, F0_bit, S1, E1, F1_bit⟩ := P0
  obtain ⟨T10, X10, e10, st10⟩ := getS2 X0 hx hZ hown (host := "") (Or.inl (hw _ (List.mem_of_getElem? (i := 8) rfl))) Via.refl e0 S1 (g := (mkF m 16 #[.val (.long p1), .second, .val (.int p2), .val (.int (1 : Int32)), .unset, .unset, .unset, .unset] [])) rfl (hb hby at_16)
  obtain ⟨_, _, ⟨T11, L11, k11, n11⟩, -, X11, ⟨Lc11, hQ11, l11, y11, z11⟩, st11⟩ := Jvm.LawKit.callS X10 hx (y := (⟨"com/example/plimsoll/plimsoll/model/AbatementAlgorithm", "select", "(JLcom/example/plimsoll/plimsoll/model/AbatementAlgorithm;)Lcom/example/plimsoll/plimsoll/model/AbatementAlgorithm;"⟩ : MethodName)) hown (mvT hZ (hw _ (List.mem_of_getElem? (i := 3) rfl))) (mvT hZ (hw _ (List.mem_of_getElem? (i := 4) rfl))) (mvT hZ (hw _ (List.mem_of_getElem? (i := 1) rfl))) (mvT hZ (hw _ (List.mem_of_getElem? (i := 5) rfl))) (by decide) (backOf (W := 0) (own_sel_R0 l Z a0 hw [] p1 w0 w1 h0 n0 Z0 P hs) hZ (hw _ (List.mem_of_getElem? (i := 5) rfl)) (hw _ (List.mem_of_getElem? (i := 1) rfl)) (by decide) (by decide)) (g := (mkF m 30 #[.val (.long p1), .second, .val (.int p2), .val (.int (1 : Int32)), .val (.ref w1), .unset, .unset, .unset] [(.ref w1), (.long p1)])) rfl (by rw [hml]; rfl) (argsL := [(.long p1), (.ref w1)]) (rest := []) (lenOf pd__JLcom_example_plimsoll_plimsoll_model_AbatementAlgorithm__Lcom_example_plimsoll_plimsoll_model_AbatementAlgorithm_ rfl) rfl (by show 2 * 0 + _ ≤ _; exact Nat.le_of_eq rfl) (hb hby at_30) (fun _ _ => ⟨rfl, e10, (by decide : 0 + 0 ≤ _), (by decide : 0 + 0 ≤ _)⟩)
  dsimp only [Pt.U, Pt.locs, Pt.cells, Pt.slots] at X11 l11 y11 z11 st11 hQ11
  subst l11 y11 z11
  obtain ⟨rfl, N11q, e11⟩ := hQ11
  have N11 := Fr.app N0 N11q
  obtain ⟨T12, X12, e12, st12⟩ := getS2 X11 hx hZ hown (host := "") (Or.inl (hw _ (List.mem_of_getElem? (i := 0) rfl))) Via.refl e11 S0 (g := (mkF m 69 #[.val (.long p1), .second, .val (.int p2), .val (.int (1 : Int32)), .val (.ref w1), .val (.ref w0), .val (.int (0 : Int32)), .unset] [])) rfl (hb hby at_69)
  obtain ⟨fs, hr, hrun, hended, hW, hsame⟩ := X12.leave (v := some (.int (1 : Int32))) (fun h => by rw [Bd.returns] at h; cases h)
  refine ⟨_, _, pre0 _ ?_, hrun, hended, _, _, rfl, ?_, ⟨_, rfl⟩, hW, hsame.mono (by decide) (by decide)⟩
  · show Steps p.tables e below (s₁.setTop (mkF m 0 #[.val (.long p1), .second, .val (.int p2), .unset, .unset, .unset, .unset, .unset] [])) _
    refine XS.iloadN X0.here hx rfl (hb hby at_0) rfl ?_
    show Steps p.tables e below (s₁.setTop (mkF m 1 #[.val (.long p1), .second, .val (.int p2), .unset, .unset, .unset, .unset, .unset] [(.int p2)])) _
    refine XT.iconstV X0.here hx rfl (1 : Int32) (hb hby at_1) rfl ?_
    show Steps p.tables e below (s₁.setTop (mkF m 2 #[.val (.long p1), .second, .val (.int p2), .unset, .unset, .unset, .unset, .unset] [(.int (1 : Int32)), (.int p2)])) _
    refine XS.iand X0.here hx rfl (hb hby at_2) rfl ?_
    show Steps p.tables e below (s₁.setTop (mkF m 3 #[.val (.long p1), .second, .val (.int p2), .unset, .unset, .unset, .unset, .unset] [(.int (p2 &&& (1 : Int32)))])) _
    rw [hc]
    show Steps p.tables e below (s₁.setTop (mkF m 3 #[.val (.long p1), .second, .val (.int p2), .unset, .unset, .unset, .unset, .unset] [(.int (1 : Int32))])) _
    refine XS.ifNo X0.here hx rfl (hb hby at_3) rfl (by decide) ?_
    show Steps p.tables e below (s₁.setTop (mkF m 6 #[.val (.long p1), .second, .val (.int p2), .unset, .unset, .unset, .unset, .unset] [])) _
    refine XT.iconstV X0.here hx rfl (1 : Int32) (hb hby at_6) rfl ?_
    show Steps p.tables e below (s₁.setTop (mkF m 7 #[.val (.long p1), .second, .val (.int p2), .unset, .unset, .unset, .unset, .unset] [(.int (1 : Int32))])) _
    refine XS.goto X0.here hx rfl (pc0 := 7) (pc' := 11) rfl (hb hby at_7) (by decide) (by decide) ?_
    show Steps p.tables e below (s₁.setTop (mkF m 11 #[.val (.long p1), .second, .val (.int p2), .unset, .unset, .unset, .unset, .unset] [(.int (1 : Int32))])) _
    refine XS.istoreN X0.here hx rfl (hb hby at_11) rfl (l' := #[.val (.long p1), .second, .val (.int p2), .val (.int (1 : Int32)), .unset, .unset, .unset, .unset]) rfl ?_
    show Steps p.tables e below (s₁.setTop (mkF m 12 #[.val (.long p1), .second, .val (.int p2), .val (.int (1 : Int32)), .unset, .unset, .unset, .unset] [])) _
    refine XS.iloadN X0.here hx rfl (hb hby at_12) rfl ?_
    show Steps p.tables e below (s₁.setTop (mkF m 13 #[.val (.long p1), .second, .val (.int p2), .val (.int (1 : Int32)), .unset, .unset, .unset, .unset] [(.int (1 : Int32))])) _
    refine XS.ifNo X0.here hx rfl (hb hby at_13) rfl (by decide) ?_
    show Steps p.tables e below (s₁.setTop (mkF m 16 #[.val (.long p1), .second, .val (.int p2), .val (.int (1 : Int32)), .unset, .unset, .unset, .unset] [])) _
    refine st10 _ ?_
    show Steps p.tables e below (T10.setTop (mkF m 19 #[.val (.long p1), .second, .val (.int p2), .val (.int (1 : Int32)), .unset, .unset, .unset, .unset] [(.ref w1)])) _
    refine XS.goto X10.here hx rfl (pc0 := 19) (pc' := 25) rfl (hb hby at_19) (by decide) (by decide) ?_
    show Steps p.tables e below (T10.setTop (mkF m 25 #[.val (.long p1), .second, .val (.int p2), .val (.int (1 : Int32)), .unset, .unset, .unset, .unset] [(.ref w1)])) _
    refine XS.astore X10.here hx rfl (hb hby at_25) rfl rfl (l' := #[.val (.long p1), .second, .val (.int p2), .val (.int (1 : Int32)), .val (.ref w1), .unset, .unset, .unset]) rfl ?_
    show Steps p.tables e below (T10.setTop (mkF m 27 #[.val (.long p1), .second, .val (.int p2), .val (.int (1 : Int32)), .val (.ref w1), .unset, .unset, .unset] [])) _
    refine XT.lloadN X10.here hx rfl (hb hby at_27) rfl ?_
    show Steps p.tables e below (T10.setTop (mkF m 28 #[.val (.long p1), .second, .val (.int p2), .val (.int (1 : Int32)), .val (.ref w1), .unset, .unset, .unset] [(.long p1)])) _
    refine XS.aload X10.here hx rfl (hb hby at_28) rfl rfl ?_
    show Steps p.tables e below (T10.setTop (mkF m 30 #[.val (.long p1), .second, .val (.int p2), .val (.int (1 : Int32)), .val (.ref w1), .unset, .unset, .unset] [(.ref w1), (.long p1)])) _
    refine st11 _ ?_
    show Steps p.tables e below (T11.setTop (mkF m 33 #[.val (.long p1), .second, .val (.int p2), .val (.int (1 : Int32)), .val (.ref w1), .unset, .unset, .unset] [(.ref w0)])) _
    refine XS.astore X11.here hx rfl (hb hby at_33) rfl rfl (l' := #[.val (.long p1), .second, .val (.int p2), .val (.int (1 : Int32)), .val (.ref w1), .val (.ref w0), .unset, .unset]) rfl ?_
    show Steps p.tables e below (T11.setTop (mkF m 35 #[.val (.long p1), .second, .val (.int p2), .val (.int (1 : Int32)), .val (.ref w1), .val (.ref w0), .unset, .unset] [])) _
    refine XT.lloadN X11.here hx rfl (hb hby at_35) rfl ?_
    show Steps p.tables e below (T11.setTop (mkF m 36 #[.val (.long p1), .second, .val (.int p2), .val (.int (1 : Int32)), .val (.ref w1), .val (.ref w0), .unset, .unset] [(.long p1)])) _
    refine XT.iconstV X11.here hx rfl (2 : Int32) (hb hby at_36) rfl ?_
    show Steps p.tables e below (T11.setTop (mkF m 37 #[.val (.long p1), .second, .val (.int p2), .val (.int (1 : Int32)), .val (.ref w1), .val (.ref w0), .unset, .unset] [(.int (2 : Int32)), (.long p1)])) _
    refine XT.lushr X11.here hx rfl (hb hby at_37) rfl ?_
    show Steps p.tables e below (T11.setTop (mkF m 38 #[.val (.long p1), .second, .val (.int p2), .val (.int (1 : Int32)), .val (.ref w1), .val (.ref w0), .unset, .unset] [(.long (XT.ushrL p1 (2 : Int32)))])) _
    refine XT.lconstV X11.here hx rfl (1 : Int64) (hb hby at_38) rfl ?_
    show Steps p.tables e below (T11.setTop (mkF m 39 #[.val (.long p1), .second, .val (.int p2), .val (.int (1 : Int32)), .val (.ref w1), .val (.ref w0), .unset, .unset] [(.long (1 : Int64)), (.long (XT.ushrL p1 (2 : Int32)))])) _
    refine XT.land X11.here hx rfl (hb hby at_39) rfl ?_
    show Steps p.tables e below (T11.setTop (mkF m 40 #[.val (.long p1), .second, .val (.int p2), .val (.int (1 : Int32)), .val (.ref w1), .val (.ref w0), .unset, .unset] [(.long ((XT.ushrL p1 (2 : Int32)) &&& (1 : Int64)))])) _
    refine XT.lconstV X11.here hx rfl (0 : Int64) (hb hby at_40) rfl ?_
    show Steps p.tables e below (T11.setTop (mkF m 41 #[.val (.long p1), .second, .val (.int p2), .val (.int (1 : Int32)), .val (.ref w1), .val (.ref w0), .unset, .unset] [(.long (0 : Int64)), (.long ((XT.ushrL p1 (2 : Int32)) &&& (1 : Int64)))])) _
    refine XT.lcmp X11.here hx rfl (hb hby at_41) rfl ?_
    show Steps p.tables e below (T11.setTop (mkF m 42 #[.val (.long p1), .second, .val (.int p2), .val (.int (1 : Int32)), .val (.ref w1), .val (.ref w0), .unset, .unset] [(.int (XT.cmpL ((XT.ushrL p1 (2 : Int32)) &&& (1 : Int64)) (0 : Int64)))])) _
    refine XS.ifYes X11.here hx rfl (pc0 := 42) (pc' := 49) rfl (hb hby at_42) rfl (XT.ll_eq_t hr2) (by decide) (by decide) ?_
    show Steps p.tables e below (T11.setTop (mkF m 49 #[.val (.long p1), .second, .val (.int p2), .val (.int (1 : Int32)), .val (.ref w1), .val (.ref w0), .unset, .unset] [])) _
    refine XT.iconstV X11.here hx rfl (0 : Int32) (hb hby at_49) rfl ?_
    show Steps p.tables e below (T11.setTop (mkF m 50 #[.val (.long p1), .second, .val (.int p2), .val (.int (1 : Int32)), .val (.ref w1), .val (.ref w0), .unset, .unset] [(.int (0 : Int32))])) _
    refine XS.istore X11.here hx rfl (hb hby at_50) rfl (l' := #[.val (.long p1), .second, .val (.int p2), .val (.int (1 : Int32)), .val (.ref w1), .val (.ref w0), .val (.int (0 : Int32)), .unset]) rfl ?_
    show Steps p.tables e below (T11.setTop (mkF m 52 #[.val (.long p1), .second, .val (.int p2), .val (.int (1 : Int32)), .val (.ref w1), .val (.ref w0), .val (.int (0 : Int32)), .unset] [])) _
    refine XS.iloadN X11.here hx rfl (hb hby at_52) rfl ?_
    show Steps p.tables e below (T11.setTop (mkF m 53 #[.val (.long p1), .second, .val (.int p2), .val (.int (1 : Int32)), .val (.ref w1), .val (.ref w0), .val (.int (0 : Int32)), .unset] [(.int (1 : Int32))])) _
    refine XS.ifNo X11.here hx rfl (hb hby at_53) rfl (by decide) ?_
    show Steps p.tables e below (T11.setTop (mkF m 56 #[.val (.long p1), .second, .val (.int p2), .val (.int (1 : Int32)), .val (.ref w1), .val (.ref w0), .val (.int (0 : Int32)), .unset] [])) _
    refine XS.iload X11.here hx rfl (hb hby at_56) rfl ?_
    show Steps p.tables e below (T11.setTop (mkF m 58 #[.val (.long p1), .second, .val (.int p2), .val (.int (1 : Int32)), .val (.ref w1), .val (.ref w0), .val (.int (0 : Int32)), .unset] [(.int (0 : Int32))])) _
    refine XS.ifYes X11.here hx rfl (pc0 := 58) (pc' := 69) rfl (hb hby at_58) rfl (by decide) (by decide) (by decide) ?_
    show Steps p.tables e below (T11.setTop (mkF m 69 #[.val (.long p1), .second, .val (.int p2), .val (.int (1 : Int32)), .val (.ref w1), .val (.ref w0), .val (.int (0 : Int32)), .unset] [])) _
    refine st12 _ ?_
    show Steps p.tables e below (T12.setTop (mkF m 72 #[.val (.long p1), .second, .val (.int p2), .val (.int (1 : Int32)), .val (.ref w1), .val (.ref w0), .val (.int (0 : Int32)), .unset] [(.ref w0)])) _
    refine XS.astore X12.here hx rfl (hb hby at_72) rfl rfl (l' := #[.val (.long p1), .second, .val (.int p2), .val (.int (1 : Int32)), .val (.ref w1), .val (.ref w0), .val (.int (0 : Int32)), .val (.ref w0)]) rfl ?_
    show Steps p.tables e below (T12.setTop (mkF m 74 #[.val (.long p1), .second, .val (.int p2), .val (.int (1 : Int32)), .val (.ref w1), .val (.ref w0), .val (.int (0 : Int32)), .val (.ref w0)] [])) _
    refine XS.goto X12.here hx rfl (pc0 := 74) (pc' := 82) rfl (hb hby at_74) (by decide) (by decide) ?_
    show Steps p.tables e below (T12.setTop (mkF m 82 #[.val (.long p1), .second, .val (.int p2), .val (.int (1 : Int32)), .val (.ref w1), .val (.ref w0), .val (.int (0 : Int32)), .val (.ref w0)] [])) _
    refine XS.aload X12.here hx rfl (hb hby at_82) rfl rfl ?_
    show Steps p.tables e below (T12.setTop (mkF m 84 #[.val (.long p1), .second, .val (.int p2), .val (.int (1 : Int32)), .val (.ref w1), .val (.ref w0), .val (.int (0 : Int32)), .val (.ref w0)] [(.ref w0)])) _
    refine XS.aload X12.here hx rfl (hb hby at_84) rfl rfl ?_
    show Steps p.tables e below (T12.setTop (mkF m 86 #[.val (.long p1), .second, .val (.int p2), .val (.int (1 : Int32)), .val (.ref w1), .val (.ref w0), .val (.int (0 : Int32)), .val (.ref w0)] [(.ref w0), (.ref w0)])) _
    refine Jvm.RoadKit.acmp (g := (mkF m 86 #[.val (.long p1), .second, .val (.int p2), .val (.int (1 : Int32)), .val (.ref w1), .val (.ref w0), .val (.int (0 : Int32)), .val (.ref w0)] [(.ref w0), (.ref w0)])) X12 hx rfl rfl rfl (pc0 := 86) (pc' := 89) (same := true) rfl (hb hby at_86) rfl (decide_eq_true rfl) (by decide) (by decide) ?_
    show Steps p.tables e below (T12.setTop (mkF m 89 #[.val (.long p1), .second, .val (.int p2), .val (.int (1 : Int32)), .val (.ref w1), .val (.ref w0), .val (.int (0 : Int32)), .val (.ref w0)] [])) _
    refine XT.iconstV X12.here hx rfl (1 : Int32) (hb hby at_89) rfl ?_
    show Steps p.tables e below (T12.setTop (mkF m 90 #[.val (.long p1), .second, .val (.int p2), .val (.int (1 : Int32)), .val (.ref w1), .val (.ref w0), .val (.int (0 : Int32)), .val (.ref w0)] [(.int (1 : Int32))])) _
    refine XS.goto X12.here hx rfl (pc0 := 90) (pc' := 94) rfl (hb hby at_90) (by decide) (by decide) ?_
    show Steps p.tables e below (T12.setTop (mkF m 94 #[.val (.long p1), .second, .val (.int p2), .val (.int (1 : Int32)), .val (.ref w1), .val (.ref w0), .val (.int (0 : Int32)), .val (.ref w0)] [(.int (1 : Int32))])) _
    exact retN X12 hx (t := .boolean) Bd.returns (by simp) (hb hby at_94) hr
  · show own_Q0 n0 _ T12.heap _
    exact ⟨rfl, N11⟩
set_option maxRecDepth 65536 in
set_option maxHeartbeats 40000000 in
theorem own_law_L1_1 (l : Launch) (Z : State) (a0 : Array Value) (hw : ∀ d ∈ tables_1, d.before a0 Z = true) (ws : List Jvm.Cond) (p1 : Int64) (p2 : Int32) (w0 w1 : Addr) (h0 : Heap) (n0 : Nat) (Z0 : n0 ≤ h0.size) (P : own_P Z h0 w0 w1) (hc : (p2 &&& (1 : Int32)) = (0 : Int32)) (hs : ¬ (p1 &&& (1 : Int64)) = (0 : Int64)) (hr2 : ¬ ((XT.ushrL p1 (2 : Int32)) &&& (1 : Int64)) = (0 : Int64)) :
    MetFree l x (head1 (Jvm.Cond.code x code maxLocals ret :: ws) room_1) (fun a U => a = #[(.long p1), (.int p2)] ∧ Z.Warmed39 U.vm ∧ U.heap = h0) (fun _ _ _ _ _ => True) (fun _ U o U' => ∃ v L, o = .returned v ∧ own_Q0 n0 v U'.heap L ∧ FrameEnd U o U' L room_1.cells room_1.slots) := by
  refine MetFree.of_bodySF (plainFor_of_name pn_com_example_plimsoll_plimsoll_model_AbatementAlgorithmSelectPinLaw) hisR ?_
  intro p e s m args below meth c s₁ Bd hml0 hP hK
  obtain ⟨rfl, hZ, hh⟩ := hP
  have hx := Bd.exec
  have hby := Bd.bytes
  have hml : c.maxLocals = 8 := hml0
  have hown : s.vm.findClass "com/example/plimsoll/plimsoll/model/AbatementAlgorithmSelectPinLaw" = some m.cls := findClass_of_methodNamed Bd.named
  have hnm := (name_of_methodNamed Bd.named Bd.method).1
  have X0 : Stand p l e room_1 s m #[(.long p1), (.int p2)] below meth c s₁ [] 0 0 := Stand.of_body Bd
  have e0 : s₁.heap = h0 := by rw [← hh, Bd.state]; rfl
  have N0 := Fr.nil n0
  have pre0 : ∀ t, Steps p.tables e below (s₁.setTop (mkF m 0 #[.val (.long p1), .second, .val (.int p2), .unset, .unset, .unset, .unset, .unset] [])) t → Steps p.tables e below (s₁.setTop (entryFrame m #[(.long p1), (.int p2)] maxLocals)) t := fun t k => castTop (ef_code_JI m p1 p2) k
  have P0 := P; obtain ⟨S0, E0, F0_bit, S1, E1, F1_bit⟩ := P0
  obtain ⟨T13, X13, e13, st13⟩ := getS2 X0 hx hZ hown (host := "") (Or.inl (hw _ (List.mem_of_getElem? (i := 0) rfl))) Via.refl e0 S0 (g := (mkF m 22 #[.val (.long p1), .second, .val (.int p2), .val (.int (0 : Int32)), .unset, .unset, .unset, .unset] [])) rfl (hb hby at_22)
  obtain ⟨_, _, ⟨T14, L14, k14, n14⟩, -, X14, ⟨Lc14, hQ14, l14, y14, z14⟩, st14⟩ := Jvm.LawKit.callS X13 hx (y := (⟨"com/example/plimsoll/plimsoll/model/AbatementAlgorithm", "select", "(JLcom/example/plimsoll/plimsoll/model/AbatementAlgorithm;)Lcom/example/plimsoll/plimsoll/model/AbatementAlgorithm;"⟩ : MethodName)) hown (mvT hZ (hw _ (List.mem_of_getElem? (i := 3) rfl))) (mvT hZ (hw _ (List.mem_of_getElem? (i := 4) rfl))) (mvT hZ (hw _ (List.mem_of_getElem? (i := 1) rfl))) (mvT hZ (hw _ (List.mem_of_getElem? (i := 5) rfl))) (by decide) (backOf (W := 0) (own_sel_L1 l Z a0 hw [] p1 w0 w1 h0 n0 Z0 P hs) hZ (hw _ (List.mem_of_getElem? (i := 5) rfl)) (hw _ (List.mem_of_getElem? (i := 1) rfl)) (by decide) (by decide)) (g := (mkF m 30 #[.val (.long p1), .second, .val (.int p2), .val (.int (0 : Int32)), .val (.ref w0), .unset, .unset, .unset] [(.ref w0), (.long p1)])) rfl (by rw [hml]; rfl) (argsL := [(.long p1), (.ref w0)]) (rest := []) (lenOf pd__JLcom_example_plimsoll_plimsoll_model_AbatementAlgorithm__Lcom_example_plimsoll_plimsoll_model_AbatementAlgorithm_ rfl) rfl (by show 2 * 0 + _ ≤ _; exact Nat.le_of_eq rfl) (hb hby at_30) (fun _ _ => ⟨rfl, e13, (by decide : 0 + 0 ≤ _), (by decide : 0 + 0 ≤ _)⟩)
  dsimp only [Pt.U, Pt.locs, Pt.cells, Pt.slots] at X14 l14 y14 z14 st14 hQ14
  subst l14 y14 z14
  obtain ⟨rfl, N14q, e14⟩ := hQ14
  have N14 := Fr.app N0 N14q
  obtain ⟨T15, X15, e15, st15⟩ := getS2 X14 hx hZ hown (host := "") (Or.inl (hw _ (List.mem_of_getElem? (i := 0) rfl))) Via.refl e14 S0 (g := (mkF m 77 #[.val (.long p1), .second, .val (.int p2), .val (.int (0 : Int32)), .val (.ref w0), .val (.ref w0), .val (.int (1 : Int32)), .unset] [])) rfl (hb hby at_77)
  obtain ⟨fs, hr, hrun, hended, hW, hsame⟩ := X15.leave (v := some (.int (1 : Int32))) (fun h => by rw [Bd.returns] at h; cases h)
  refine ⟨_, _, pre0 _ ?_, hrun, hended, _, _, rfl, ?_, ⟨_, rfl⟩, hW, hsame.mono (by decide) (by decide)⟩
  · show Steps p.tables e below (s₁.setTop (mkF m 0 #[.val (.long p1), .second, .val (.int p2), .unset, .unset, .unset, .unset, .unset] [])) _
    refine XS.iloadN X0.here hx rfl (hb hby at_0) rfl ?_
    show Steps p.tables e below (s₁.setTop (mkF m 1 #[.val (.long p1), .second, .val (.int p2), .unset, .unset, .unset, .unset, .unset] [(.int p2)])) _
    refine XT.iconstV X0.here hx rfl (1 : Int32) (hb hby at_1) rfl ?_
    show Steps p.tables e below (s₁.setTop (mkF m 2 #[.val (.long p1), .second, .val (.int p2), .unset, .unset, .unset, .unset, .unset] [(.int (1 : Int32)), (.int p2)])) _
    refine XS.iand X0.here hx rfl (hb hby at_2) rfl ?_
    show Steps p.tables e below (s₁.setTop (mkF m 3 #[.val (.long p1), .second, .val (.int p2), .unset, .unset, .unset, .unset, .unset] [(.int (p2 &&& (1 : Int32)))])) _
    rw [hc]
    show Steps p.tables e below (s₁.setTop (mkF m 3 #[.val (.long p1), .second, .val (.int p2), .unset, .unset, .unset, .unset, .unset] [(.int (0 : Int32))])) _
    refine XS.ifYes X0.here hx rfl (pc0 := 3) (pc' := 10) rfl (hb hby at_3) rfl (by decide) (by decide) (by decide) ?_
    show Steps p.tables e below (s₁.setTop (mkF m 10 #[.val (.long p1), .second, .val (.int p2), .unset, .unset, .unset, .unset, .unset] [])) _
    refine XT.iconstV X0.here hx rfl (0 : Int32) (hb hby at_10) rfl ?_
    show Steps p.tables e below (s₁.setTop (mkF m 11 #[.val (.long p1), .second, .val (.int p2), .unset, .unset, .unset, .unset, .unset] [(.int (0 : Int32))])) _
    refine XS.istoreN X0.here hx rfl (hb hby at_11) rfl (l' := #[.val (.long p1), .second, .val (.int p2), .val (.int (0 : Int32)), .unset, .unset, .unset, .unset]) rfl ?_
    show Steps p.tables e below (s₁.setTop (mkF m 12 #[.val (.long p1), .second, .val (.int p2), .val (.int (0 : Int32)), .unset, .unset, .unset, .unset] [])) _
    refine XS.iloadN X0.here hx rfl (hb hby at_12) rfl ?_
    show Steps p.tables e below (s₁.setTop (mkF m 13 #[.val (.long p1), .second, .val (.int p2), .val (.int (0 : Int32)), .unset, .unset, .unset, .unset] [(.int (0 : Int32))])) _
    refine XS.ifYes X0.here hx rfl (pc0 := 13) (pc' := 22) rfl (hb hby at_13) rfl (by decide) (by decide) (by decide) ?_
    show Steps p.tables e below (s₁.setTop (mkF m 22 #[.val (.long p1), .second, .val (.int p2), .val (.int (0 : Int32)), .unset, .unset, .unset, .unset] [])) _
    refine st13 _ ?_
    show Steps p.tables e below (T13.setTop (mkF m 25 #[.val (.long p1), .second, .val (.int p2), .val (.int (0 : Int32)), .unset, .unset, .unset, .unset] [(.ref w0)])) _
    refine XS.astore X13.here hx rfl (hb hby at_25) rfl rfl (l' := #[.val (.long p1), .second, .val (.int p2), .val (.int (0 : Int32)), .val (.ref w0), .unset, .unset, .unset]) rfl ?_
    show Steps p.tables e below (T13.setTop (mkF m 27 #[.val (.long p1), .second, .val (.int p2), .val (.int (0 : Int32)), .val (.ref w0), .unset, .unset, .unset] [])) _
    refine XT.lloadN X13.here hx rfl (hb hby at_27) rfl ?_
    show Steps p.tables e below (T13.setTop (mkF m 28 #[.val (.long p1), .second, .val (.int p2), .val (.int (0 : Int32)), .val (.ref w0), .unset, .unset, .unset] [(.long p1)])) _
    refine XS.aload X13.here hx rfl (hb hby at_28) rfl rfl ?_
    show Steps p.tables e below (T13.setTop (mkF m 30 #[.val (.long p1), .second, .val (.int p2), .val (.int (0 : Int32)), .val (.ref w0), .unset, .unset, .unset] [(.ref w0), (.long p1)])) _
    refine st14 _ ?_
    show Steps p.tables e below (T14.setTop (mkF m 33 #[.val (.long p1), .second, .val (.int p2), .val (.int (0 : Int32)), .val (.ref w0), .unset, .unset, .unset] [(.ref w0)])) _
    refine XS.astore X14.here hx rfl (hb hby at_33) rfl rfl (l' := #[.val (.long p1), .second, .val (.int p2), .val (.int (0 : Int32)), .val (.ref w0), .val (.ref w0), .unset, .unset]) rfl ?_
    show Steps p.tables e below (T14.setTop (mkF m 35 #[.val (.long p1), .second, .val (.int p2), .val (.int (0 : Int32)), .val (.ref w0), .val (.ref w0), .unset, .unset] [])) _
    refine XT.lloadN X14.here hx rfl (hb hby at_35) rfl ?_
    show Steps p.tables e below (T14.setTop (mkF m 36 #[.val (.long p1), .second, .val (.int p2), .val (.int (0 : Int32)), .val (.ref w0), .val (.ref w0), .unset, .unset] [(.long p1)])) _
    refine XT.iconstV X14.here hx rfl (2 : Int32) (hb hby at_36) rfl ?_
    show Steps p.tables e below (T14.setTop (mkF m 37 #[.val (.long p1), .second, .val (.int p2), .val (.int (0 : Int32)), .val (.ref w0), .val (.ref w0), .unset, .unset] [(.int (2 : Int32)), (.long p1)])) _
    refine XT.lushr X14.here hx rfl (hb hby at_37) rfl ?_
    show Steps p.tables e below (T14.setTop (mkF m 38 #[.val (.long p1), .second, .val (.int p2), .val (.int (0 : Int32)), .val (.ref w0), .val (.ref w0), .unset, .unset] [(.long (XT.ushrL p1 (2 : Int32)))])) _
    refine XT.lconstV X14.here hx rfl (1 : Int64) (hb hby at_38) rfl ?_
    show Steps p.tables e below (T14.setTop (mkF m 39 #[.val (.long p1), .second, .val (.int p2), .val (.int (0 : Int32)), .val (.ref w0), .val (.ref w0), .unset, .unset] [(.long (1 : Int64)), (.long (XT.ushrL p1 (2 : Int32)))])) _
    refine XT.land X14.here hx rfl (hb hby at_39) rfl ?_
    show Steps p.tables e below (T14.setTop (mkF m 40 #[.val (.long p1), .second, .val (.int p2), .val (.int (0 : Int32)), .val (.ref w0), .val (.ref w0), .unset, .unset] [(.long ((XT.ushrL p1 (2 : Int32)) &&& (1 : Int64)))])) _
    refine XT.lconstV X14.here hx rfl (0 : Int64) (hb hby at_40) rfl ?_
    show Steps p.tables e below (T14.setTop (mkF m 41 #[.val (.long p1), .second, .val (.int p2), .val (.int (0 : Int32)), .val (.ref w0), .val (.ref w0), .unset, .unset] [(.long (0 : Int64)), (.long ((XT.ushrL p1 (2 : Int32)) &&& (1 : Int64)))])) _
    refine XT.lcmp X14.here hx rfl (hb hby at_41) rfl ?_
    show Steps p.tables e below (T14.setTop (mkF m 42 #[.val (.long p1), .second, .val (.int p2), .val (.int (0 : Int32)), .val (.ref w0), .val (.ref w0), .unset, .unset] [(.int (XT.cmpL ((XT.ushrL p1 (2 : Int32)) &&& (1 : Int64)) (0 : Int64)))])) _
    refine XS.ifNo X14.here hx rfl (hb hby at_42) rfl (XT.ll_eq_f hr2) ?_
    show Steps p.tables e below (T14.setTop (mkF m 45 #[.val (.long p1), .second, .val (.int p2), .val (.int (0 : Int32)), .val (.ref w0), .val (.ref w0), .unset, .unset] [])) _
    refine XT.iconstV X14.here hx rfl (1 : Int32) (hb hby at_45) rfl ?_
    show Steps p.tables e below (T14.setTop (mkF m 46 #[.val (.long p1), .second, .val (.int p2), .val (.int (0 : Int32)), .val (.ref w0), .val (.ref w0), .unset, .unset] [(.int (1 : Int32))])) _
    refine XS.goto X14.here hx rfl (pc0 := 46) (pc' := 50) rfl (hb hby at_46) (by decide) (by decide) ?_
    show Steps p.tables e below (T14.setTop (mkF m 50 #[.val (.long p1), .second, .val (.int p2), .val (.int (0 : Int32)), .val (.ref w0), .val (.ref w0), .unset, .unset] [(.int (1 : Int32))])) _
    refine XS.istore X14.here hx rfl (hb hby at_50) rfl (l' := #[.val (.long p1), .second, .val (.int p2), .val (.int (0 : Int32)), .val (.ref w0), .val (.ref w0), .val (.int (1 : Int32)), .unset]) rfl ?_
    show Steps p.tables e below (T14.setTop (mkF m 52 #[.val (.long p1), .second, .val (.int p2), .val (.int (0 : Int32)), .val (.ref w0), .val (.ref w0), .val (.int (1 : Int32)), .unset] [])) _
    refine XS.iloadN X14.here hx rfl (hb hby at_52) rfl ?_
    show Steps p.tables e below (T14.setTop (mkF m 53 #[.val (.long p1), .second, .val (.int p2), .val (.int (0 : Int32)), .val (.ref w0), .val (.ref w0), .val (.int (1 : Int32)), .unset] [(.int (0 : Int32))])) _
    refine XS.ifYes X14.here hx rfl (pc0 := 53) (pc' := 77) rfl (hb hby at_53) rfl (by decide) (by decide) (by decide) ?_
    show Steps p.tables e below (T14.setTop (mkF m 77 #[.val (.long p1), .second, .val (.int p2), .val (.int (0 : Int32)), .val (.ref w0), .val (.ref w0), .val (.int (1 : Int32)), .unset] [])) _
    refine st15 _ ?_
    show Steps p.tables e below (T15.setTop (mkF m 80 #[.val (.long p1), .second, .val (.int p2), .val (.int (0 : Int32)), .val (.ref w0), .val (.ref w0), .val (.int (1 : Int32)), .unset] [(.ref w0)])) _
    refine XS.astore X15.here hx rfl (hb hby at_80) rfl rfl (l' := #[.val (.long p1), .second, .val (.int p2), .val (.int (0 : Int32)), .val (.ref w0), .val (.ref w0), .val (.int (1 : Int32)), .val (.ref w0)]) rfl ?_
    show Steps p.tables e below (T15.setTop (mkF m 82 #[.val (.long p1), .second, .val (.int p2), .val (.int (0 : Int32)), .val (.ref w0), .val (.ref w0), .val (.int (1 : Int32)), .val (.ref w0)] [])) _
    refine XS.aload X15.here hx rfl (hb hby at_82) rfl rfl ?_
    show Steps p.tables e below (T15.setTop (mkF m 84 #[.val (.long p1), .second, .val (.int p2), .val (.int (0 : Int32)), .val (.ref w0), .val (.ref w0), .val (.int (1 : Int32)), .val (.ref w0)] [(.ref w0)])) _
    refine XS.aload X15.here hx rfl (hb hby at_84) rfl rfl ?_
    show Steps p.tables e below (T15.setTop (mkF m 86 #[.val (.long p1), .second, .val (.int p2), .val (.int (0 : Int32)), .val (.ref w0), .val (.ref w0), .val (.int (1 : Int32)), .val (.ref w0)] [(.ref w0), (.ref w0)])) _
    refine Jvm.RoadKit.acmp (g := (mkF m 86 #[.val (.long p1), .second, .val (.int p2), .val (.int (0 : Int32)), .val (.ref w0), .val (.ref w0), .val (.int (1 : Int32)), .val (.ref w0)] [(.ref w0), (.ref w0)])) X15 hx rfl rfl rfl (pc0 := 86) (pc' := 89) (same := true) rfl (hb hby at_86) rfl (decide_eq_true rfl) (by decide) (by decide) ?_
    show Steps p.tables e below (T15.setTop (mkF m 89 #[.val (.long p1), .second, .val (.int p2), .val (.int (0 : Int32)), .val (.ref w0), .val (.ref w0), .val (.int (1 : Int32)), .val (.ref w0)] [])) _
    refine XT.iconstV X15.here hx rfl (1 : Int32) (hb hby at_89) rfl ?_
    show Steps p.tables e below (T15.setTop (mkF m 90 #[.val (.long p1), .second, .val (.int p2), .val (.int (0 : Int32)), .val (.ref w0), .val (.ref w0), .val (.int (1 : Int32)), .val (.ref w0)] [(.int (1 : Int32))])) _
    refine XS.goto X15.here hx rfl (pc0 := 90) (pc' := 94) rfl (hb hby at_90) (by decide) (by decide) ?_
    show Steps p.tables e below (T15.setTop (mkF m 94 #[.val (.long p1), .second, .val (.int p2), .val (.int (0 : Int32)), .val (.ref w0), .val (.ref w0), .val (.int (1 : Int32)), .val (.ref w0)] [(.int (1 : Int32))])) _
    exact retN X15 hx (t := .boolean) Bd.returns (by simp) (hb hby at_94) hr
  · show own_Q0 n0 _ T15.heap _
    exact ⟨rfl, N14⟩
set_option maxRecDepth 65536 in
set_option maxHeartbeats 40000000 in
theorem own_law_L1_0 (l : Launch) (Z : State) (a0 : Array Value) (hw : ∀ d ∈ tables_1, d.before a0 Z = true) (ws : List Jvm.Cond) (p1 : Int64) (p2 : Int32) (w0 w1 : Addr) (h0 : Heap) (n0 : Nat) (Z0 : n0 ≤ h0.size) (P : own_P Z h0 w0 w1) (hc : (p2 &&& (1 : Int32)) = (0 : Int32)) (hs : ¬ (p1 &&& (1 : Int64)) = (0 : Int64)) (hr2 : ((XT.ushrL p1 (2 : Int32)) &&& (1 : Int64)) = (0 : Int64)) :
    MetFree l x (head1 (Jvm.Cond.code x code maxLocals ret :: ws) room_1) (fun a U => a = #[(.long p1), (.int p2)] ∧ Z.Warmed39 U.vm ∧ U.heap = h0) (fun _ _ _ _ _ => True) (fun _ U o U' => ∃ v L, o = .returned v ∧ own_Q0 n0 v U'.heap L ∧ FrameEnd U o U' L room_1.cells room_1.slots) := by
  refine MetFree.of_bodySF (plainFor_of_name pn_com_example_plimsoll_plimsoll_model_AbatementAlgorithmSelectPinLaw) hisR ?_
  intro p e s m args below meth c s₁ Bd hml0 hP hK
  obtain ⟨rfl, hZ, hh⟩ := hP
  have hx := Bd.exec
  have hby := Bd.bytes
  have hml : c.maxLocals = 8 := hml0
  have hown : s.vm.findClass "com/example/plimsoll/plimsoll/model/AbatementAlgorithmSelectPinLaw" = some m.cls := findClass_of_methodNamed Bd.named
  have hnm := (name_of_methodNamed Bd.named Bd.method).1
  have X0 : Stand p l e room_1 s m #[(.long p1), (.int p2)] below meth c s₁ [] 0 0 := Stand.of_body Bd
  have e0 : s₁.heap = h0 := by rw [← hh, Bd.state]; rfl
  have N0 := Fr.nil n0
  have pre0 : ∀ t, Steps p.tables e below (s₁.setTop (mkF m 0 #[.val (.long p1), .second, .val (.int p2), .unset, .unset, .unset, .unset, .unset] [])) t → Steps p.tables e below (s₁.setTop (entryFrame m #[(.long p1), (.int p2)] maxLocals)) t := fun t k => castTop (ef_code_JI m p1 p2) k
  have P0 := P; obtain ⟨S0, E0, F0_bit, S1, E1, F1_bit⟩ := P0
  obtain ⟨T16, X16, e16, st16⟩ := getS2 X0 hx hZ hown (host := "") (Or.inl (hw _ (List.mem_of_getElem? (i := 0) rfl))) Via.refl e0 S0 (g := (mkF m 22 #[.val (.long p1), .second, .val (.int p2), .val (.int (0 : Int32)), .unset, .unset, .unset, .unset] [])) rfl (hb hby at_22)
  obtain ⟨_, _, ⟨T17, L17, k17, n17⟩, -, X17, ⟨Lc17, hQ17, l17, y17, z17⟩, st17⟩ := Jvm.LawKit.callS X16 hx (y := (⟨"com/example/plimsoll/plimsoll/model/AbatementAlgorithm", "select", "(JLcom/example/plimsoll/plimsoll/model/AbatementAlgorithm;)Lcom/example/plimsoll/plimsoll/model/AbatementAlgorithm;"⟩ : MethodName)) hown (mvT hZ (hw _ (List.mem_of_getElem? (i := 3) rfl))) (mvT hZ (hw _ (List.mem_of_getElem? (i := 4) rfl))) (mvT hZ (hw _ (List.mem_of_getElem? (i := 1) rfl))) (mvT hZ (hw _ (List.mem_of_getElem? (i := 5) rfl))) (by decide) (backOf (W := 0) (own_sel_L1 l Z a0 hw [] p1 w0 w1 h0 n0 Z0 P hs) hZ (hw _ (List.mem_of_getElem? (i := 5) rfl)) (hw _ (List.mem_of_getElem? (i := 1) rfl)) (by decide) (by decide)) (g := (mkF m 30 #[.val (.long p1), .second, .val (.int p2), .val (.int (0 : Int32)), .val (.ref w0), .unset, .unset, .unset] [(.ref w0), (.long p1)])) rfl (by rw [hml]; rfl) (argsL := [(.long p1), (.ref w0)]) (rest := []) (lenOf pd__JLcom_example_plimsoll_plimsoll_model_AbatementAlgorithm__Lcom_example_plimsoll_plimsoll_model_AbatementAlgorithm_ rfl) rfl (by show 2 * 0 + _ ≤ _; exact Nat.le_of_eq rfl) (hb hby at_30) (fun _ _ => ⟨rfl, e16, (by decide : 0 + 0 ≤ _), (by decide : 0 + 0 ≤ _)⟩)
  dsimp only [Pt.U, Pt.locs, Pt.cells, Pt.slots] at X17 l17 y17 z17 st17 hQ17
  subst l17 y17 z17
  obtain ⟨rfl, N17q, e17⟩ := hQ17
  have N17 := Fr.app N0 N17q
  obtain ⟨T18, X18, e18, st18⟩ := getS2 X17 hx hZ hown (host := "") (Or.inl (hw _ (List.mem_of_getElem? (i := 0) rfl))) Via.refl e17 S0 (g := (mkF m 77 #[.val (.long p1), .second, .val (.int p2), .val (.int (0 : Int32)), .val (.ref w0), .val (.ref w0), .val (.int (0 : Int32)), .unset] [])) rfl (hb hby at_77)
  obtain ⟨fs, hr, hrun, hended, hW, hsame⟩ := X18.leave (v := some (.int (1 : Int32))) (fun h => by rw [Bd.returns] at h; cases h)
  refine ⟨_, _, pre0 _ ?_, hrun, hended, _, _, rfl, ?_, ⟨_, rfl⟩, hW, hsame.mono (by decide) (by decide)⟩
  · show Steps p.tables e below (s₁.setTop (mkF m 0 #[.val (.long p1), .second, .val (.int p2), .unset, .unset, .unset, .unset, .unset] [])) _
    refine XS.iloadN X0.here hx rfl (hb hby at_0) rfl ?_
    show Steps p.tables e below (s₁.setTop (mkF m 1 #[.val (.long p1), .second, .val (.int p2), .unset, .unset, .unset, .unset, .unset] [(.int p2)])) _
    refine XT.iconstV X0.here hx rfl (1 : Int32) (hb hby at_1) rfl ?_
    show Steps p.tables e below (s₁.setTop (mkF m 2 #[.val (.long p1), .second, .val (.int p2), .unset, .unset, .unset, .unset, .unset] [(.int (1 : Int32)), (.int p2)])) _
    refine XS.iand X0.here hx rfl (hb hby at_2) rfl ?_
    show Steps p.tables e below (s₁.setTop (mkF m 3 #[.val (.long p1), .second, .val (.int p2), .unset, .unset, .unset, .unset, .unset] [(.int (p2 &&& (1 : Int32)))])) _
    rw [hc]
    show Steps p.tables e below (s₁.setTop (mkF m 3 #[.val (.long p1), .second, .val (.int p2), .unset, .unset, .unset, .unset, .unset] [(.int (0 : Int32))])) _
    refine XS.ifYes X0.here hx rfl (pc0 := 3) (pc' := 10) rfl (hb hby at_3) rfl (by decide) (by decide) (by decide) ?_
    show Steps p.tables e below (s₁.setTop (mkF m 10 #[.val (.long p1), .second, .val (.int p2), .unset, .unset, .unset, .unset, .unset] [])) _
    refine XT.iconstV X0.here hx rfl (0 : Int32) (hb hby at_10) rfl ?_
    show Steps p.tables e below (s₁.setTop (mkF m 11 #[.val (.long p1), .second, .val (.int p2), .unset, .unset, .unset, .unset, .unset] [(.int (0 : Int32))])) _
    refine XS.istoreN X0.here hx rfl (hb hby at_11) rfl (l' := #[.val (.long p1), .second, .val (.int p2), .val (.int (0 : Int32)), .unset, .unset, .unset, .unset]) rfl ?_
    show Steps p.tables e below (s₁.setTop (mkF m 12 #[.val (.long p1), .second, .val (.int p2), .val (.int (0 : Int32)), .unset, .unset, .unset, .unset] [])) _
    refine XS.iloadN X0.here hx rfl (hb hby at_12) rfl ?_
    show Steps p.tables e below (s₁.setTop (mkF m 13 #[.val (.long p1), .second, .val (.int p2), .val (.int (0 : Int32)), .unset, .unset, .unset, .unset] [(.int (0 : Int32))])) _
    refine XS.ifYes X0.here hx rfl (pc0 := 13) (pc' := 22) rfl (hb hby at_13) rfl (by decide) (by decide) (by decide) ?_
    show Steps p.tables e below (s₁.setTop (mkF m 22 #[.val (.long p1), .second, .val (.int p2), .val (.int (0 : Int32)), .unset, .unset, .unset, .unset] [])) _
    refine st16 _ ?_
    show Steps p.tables e below (T16.setTop (mkF m 25 #[.val (.long p1), .second, .val (.int p2), .val (.int (0 : Int32)), .unset, .unset, .unset, .unset] [(.ref w0)])) _
    refine XS.astore X16.here hx rfl (hb hby at_25) rfl rfl (l' := #[.val (.long p1), .second, .val (.int p2), .val (.int (0 : Int32)), .val (.ref w0), .unset, .unset, .unset]) rfl ?_
    show Steps p.tables e below (T16.setTop (mkF m 27 #[.val (.long p1), .second, .val (.int p2), .val (.int (0 : Int32)), .val (.ref w0), .unset, .unset, .unset] [])) _
    refine XT.lloadN X16.here hx rfl (hb hby at_27) rfl ?_
    show Steps p.tables e below (T16.setTop (mkF m 28 #[.val (.long p1), .second, .val (.int p2), .val (.int (0 : Int32)), .val (.ref w0), .unset, .unset, .unset] [(.long p1)])) _
    refine XS.aload X16.here hx rfl (hb hby at_28) rfl rfl ?_
    show Steps p.tables e below (T16.setTop (mkF m 30 #[.val (.long p1), .second, .val (.int p2), .val (.int (0 : Int32)), .val (.ref w0), .unset, .unset, .unset] [(.ref w0), (.long p1)])) _
    refine st17 _ ?_
    show Steps p.tables e below (T17.setTop (mkF m 33 #[.val (.long p1), .second, .val (.int p2), .val (.int (0 : Int32)), .val (.ref w0), .unset, .unset, .unset] [(.ref w0)])) _
    refine XS.astore X17.here hx rfl (hb hby at_33) rfl rfl (l' := #[.val (.long p1), .second, .val (.int p2), .val (.int (0 : Int32)), .val (.ref w0), .val (.ref w0), .unset, .unset]) rfl ?_
    show Steps p.tables e below (T17.setTop (mkF m 35 #[.val (.long p1), .second, .val (.int p2), .val (.int (0 : Int32)), .val (.ref w0), .val (.ref w0), .unset, .unset] [])) _
    refine XT.lloadN X17.here hx rfl (hb hby at_35) rfl ?_
    show Steps p.tables e below (T17.setTop (mkF m 36 #[.val (.long p1), .second, .val (.int p2), .val (.int (0 : Int32)), .val (.ref w0), .val (.ref w0), .unset, .unset] [(.long p1)])) _
    refine XT.iconstV X17.here hx rfl (2 : Int32) (hb hby at_36) rfl ?_
    show Steps p.tables e below (T17.setTop (mkF m 37 #[.val (.long p1), .second, .val (.int p2), .val (.int (0 : Int32)), .val (.ref w0), .val (.ref w0), .unset, .unset] [(.int (2 : Int32)), (.long p1)])) _
    refine XT.lushr X17.here hx rfl (hb hby at_37) rfl ?_
    show Steps p.tables e below (T17.setTop (mkF m 38 #[.val (.long p1), .second, .val (.int p2), .val (.int (0 : Int32)), .val (.ref w0), .val (.ref w0), .unset, .unset] [(.long (XT.ushrL p1 (2 : Int32)))])) _
    refine XT.lconstV X17.here hx rfl (1 : Int64) (hb hby at_38) rfl ?_
    show Steps p.tables e below (T17.setTop (mkF m 39 #[.val (.long p1), .second, .val (.int p2), .val (.int (0 : Int32)), .val (.ref w0), .val (.ref w0), .unset, .unset] [(.long (1 : Int64)), (.long (XT.ushrL p1 (2 : Int32)))])) _
    refine XT.land X17.here hx rfl (hb hby at_39) rfl ?_
    show Steps p.tables e below (T17.setTop (mkF m 40 #[.val (.long p1), .second, .val (.int p2), .val (.int (0 : Int32)), .val (.ref w0), .val (.ref w0), .unset, .unset] [(.long ((XT.ushrL p1 (2 : Int32)) &&& (1 : Int64)))])) _
    refine XT.lconstV X17.here hx rfl (0 : Int64) (hb hby at_40) rfl ?_
    show Steps p.tables e below (T17.setTop (mkF m 41 #[.val (.long p1), .second, .val (.int p2), .val (.int (0 : Int32)), .val (.ref w0), .val (.ref w0), .unset, .unset] [(.long (0 : Int64)), (.long ((XT.ushrL p1 (2 : Int32)) &&& (1 : Int64)))])) _
    refine XT.lcmp X17.here hx rfl (hb hby at_41) rfl ?_
    show Steps p.tables e below (T17.setTop (mkF m 42 #[.val (.long p1), .second, .val (.int p2), .val (.int (0 : Int32)), .val (.ref w0), .val (.ref w0), .unset, .unset] [(.int (XT.cmpL ((XT.ushrL p1 (2 : Int32)) &&& (1 : Int64)) (0 : Int64)))])) _
    refine XS.ifYes X17.here hx rfl (pc0 := 42) (pc' := 49) rfl (hb hby at_42) rfl (XT.ll_eq_t hr2) (by decide) (by decide) ?_
    show Steps p.tables e below (T17.setTop (mkF m 49 #[.val (.long p1), .second, .val (.int p2), .val (.int (0 : Int32)), .val (.ref w0), .val (.ref w0), .unset, .unset] [])) _
    refine XT.iconstV X17.here hx rfl (0 : Int32) (hb hby at_49) rfl ?_
    show Steps p.tables e below (T17.setTop (mkF m 50 #[.val (.long p1), .second, .val (.int p2), .val (.int (0 : Int32)), .val (.ref w0), .val (.ref w0), .unset, .unset] [(.int (0 : Int32))])) _
    refine XS.istore X17.here hx rfl (hb hby at_50) rfl (l' := #[.val (.long p1), .second, .val (.int p2), .val (.int (0 : Int32)), .val (.ref w0), .val (.ref w0), .val (.int (0 : Int32)), .unset]) rfl ?_
    show Steps p.tables e below (T17.setTop (mkF m 52 #[.val (.long p1), .second, .val (.int p2), .val (.int (0 : Int32)), .val (.ref w0), .val (.ref w0), .val (.int (0 : Int32)), .unset] [])) _
    refine XS.iloadN X17.here hx rfl (hb hby at_52) rfl ?_
    show Steps p.tables e below (T17.setTop (mkF m 53 #[.val (.long p1), .second, .val (.int p2), .val (.int (0 : Int32)), .val (.ref w0), .val (.ref w0), .val (.int (0 : Int32)), .unset] [(.int (0 : Int32))])) _
    refine XS.ifYes X17.here hx rfl (pc0 := 53) (pc' := 77) rfl (hb hby at_53) rfl (by decide) (by decide) (by decide) ?_
    show Steps p.tables e below (T17.setTop (mkF m 77 #[.val (.long p1), .second, .val (.int p2), .val (.int (0 : Int32)), .val (.ref w0), .val (.ref w0), .val (.int (0 : Int32)), .unset] [])) _
    refine st18 _ ?_
    show Steps p.tables e below (T18.setTop (mkF m 80 #[.val (.long p1), .second, .val (.int p2), .val (.int (0 : Int32)), .val (.ref w0), .val (.ref w0), .val (.int (0 : Int32)), .unset] [(.ref w0)])) _
    refine XS.astore X18.here hx rfl (hb hby at_80) rfl rfl (l' := #[.val (.long p1), .second, .val (.int p2), .val (.int (0 : Int32)), .val (.ref w0), .val (.ref w0), .val (.int (0 : Int32)), .val (.ref w0)]) rfl ?_
    show Steps p.tables e below (T18.setTop (mkF m 82 #[.val (.long p1), .second, .val (.int p2), .val (.int (0 : Int32)), .val (.ref w0), .val (.ref w0), .val (.int (0 : Int32)), .val (.ref w0)] [])) _
    refine XS.aload X18.here hx rfl (hb hby at_82) rfl rfl ?_
    show Steps p.tables e below (T18.setTop (mkF m 84 #[.val (.long p1), .second, .val (.int p2), .val (.int (0 : Int32)), .val (.ref w0), .val (.ref w0), .val (.int (0 : Int32)), .val (.ref w0)] [(.ref w0)])) _
    refine XS.aload X18.here hx rfl (hb hby at_84) rfl rfl ?_
    show Steps p.tables e below (T18.setTop (mkF m 86 #[.val (.long p1), .second, .val (.int p2), .val (.int (0 : Int32)), .val (.ref w0), .val (.ref w0), .val (.int (0 : Int32)), .val (.ref w0)] [(.ref w0), (.ref w0)])) _
    refine Jvm.RoadKit.acmp (g := (mkF m 86 #[.val (.long p1), .second, .val (.int p2), .val (.int (0 : Int32)), .val (.ref w0), .val (.ref w0), .val (.int (0 : Int32)), .val (.ref w0)] [(.ref w0), (.ref w0)])) X18 hx rfl rfl rfl (pc0 := 86) (pc' := 89) (same := true) rfl (hb hby at_86) rfl (decide_eq_true rfl) (by decide) (by decide) ?_
    show Steps p.tables e below (T18.setTop (mkF m 89 #[.val (.long p1), .second, .val (.int p2), .val (.int (0 : Int32)), .val (.ref w0), .val (.ref w0), .val (.int (0 : Int32)), .val (.ref w0)] [])) _
    refine XT.iconstV X18.here hx rfl (1 : Int32) (hb hby at_89) rfl ?_
    show Steps p.tables e below (T18.setTop (mkF m 90 #[.val (.long p1), .second, .val (.int p2), .val (.int (0 : Int32)), .val (.ref w0), .val (.ref w0), .val (.int (0 : Int32)), .val (.ref w0)] [(.int (1 : Int32))])) _
    refine XS.goto X18.here hx rfl (pc0 := 90) (pc' := 94) rfl (hb hby at_90) (by decide) (by decide) ?_
    show Steps p.tables e below (T18.setTop (mkF m 94 #[.val (.long p1), .second, .val (.int p2), .val (.int (0 : Int32)), .val (.ref w0), .val (.ref w0), .val (.int (0 : Int32)), .val (.ref w0)] [(.int (1 : Int32))])) _
    exact retN X18 hx (t := .boolean) Bd.returns (by simp) (hb hby at_94) hr
  · show own_Q0 n0 _ T18.heap _
    exact ⟨rfl, N17⟩
set_option maxRecDepth 65536 in
set_option maxHeartbeats 40000000 in
theorem own_law_L0_1 (l : Launch) (Z : State) (a0 : Array Value) (hw : ∀ d ∈ tables_1, d.before a0 Z = true) (ws : List Jvm.Cond) (p1 : Int64) (p2 : Int32) (w0 w1 : Addr) (h0 : Heap) (n0 : Nat) (Z0 : n0 ≤ h0.size) (P : own_P Z h0 w0 w1) (hc : (p2 &&& (1 : Int32)) = (0 : Int32)) (hs : (p1 &&& (1 : Int64)) = (0 : Int64)) (hr2 : ¬ ((XT.ushrL p1 (2 : Int32)) &&& (1 : Int64)) = (0 : Int64)) :
    MetFree l x (head1 (Jvm.Cond.code x code maxLocals ret :: ws) room_1) (fun a U => a = #[(.long p1), (.int p2)] ∧ Z.Warmed39 U.vm ∧ U.heap = h0) (fun _ _ _ _ _ => True) (fun _ U o U' => ∃ v L, o = .returned v ∧ own_Q0 n0 v U'.heap L ∧ FrameEnd U o U' L room_1.cells room_1.slots) := by
  refine MetFree.of_bodySF (plainFor_of_name pn_com_example_plimsoll_plimsoll_model_AbatementAlgorithmSelectPinLaw) hisR ?_
  intro p e s m args below meth c s₁ Bd hml0 hP hK
  obtain ⟨rfl, hZ, hh⟩ := hP
  have hx := Bd.exec
  have hby := Bd.bytes
  have hml : c.maxLocals = 8 := hml0
  have hown : s.vm.findClass "com/example/plimsoll/plimsoll/model/AbatementAlgorithmSelectPinLaw" = some m.cls := findClass_of_methodNamed Bd.named
  have hnm := (name_of_methodNamed Bd.named Bd.method).1
  have X0 : Stand p l e room_1 s m #[(.long p1), (.int p2)] below meth c s₁ [] 0 0 := Stand.of_body Bd
  have e0 : s₁.heap = h0 := by rw [← hh, Bd.state]; rfl
  have N0 := Fr.nil n0
  have pre0 : ∀ t, Steps p.tables e below (s₁.setTop (mkF m 0 #[.val (.long p1), .second, .val (.int p2), .unset, .unset, .unset, .unset, .unset] [])) t → Steps p.tables e below (s₁.setTop (entryFrame m #[(.long p1), (.int p2)] maxLocals)) t := fun t k => castTop (ef_code_JI m p1 p2) k
  have P0 := P; obtain ⟨S0, E0, F0_bit, S1, E1, F1_bit⟩ := P0
  obtain ⟨T19, X19, e19, st19⟩ := getS2 X0 hx hZ hown (host := "") (Or.inl (hw _ (List.mem_of_getElem? (i := 0) rfl))) Via.refl e0 S0 (g := (mkF m 22 #[.val (.long p1), .second, .val (.int p2), .val (.int (0 : Int32)), .unset, .unset, .unset, .unset] [])) rfl (hb hby at_22)
  obtain ⟨_, _, ⟨T20, L20, k20, n20⟩, -, X20, ⟨Lc20, hQ20, l20, y20, z20⟩, st20⟩ := Jvm.LawKit.callS X19 hx (y := (⟨"com/example/plimsoll/plimsoll/model/AbatementAlgorithm", "select", "(JLcom/example/plimsoll/plimsoll/model/AbatementAlgorithm;)Lcom/example/plimsoll/plimsoll/model/AbatementAlgorithm;"⟩ : MethodName)) hown (mvT hZ (hw _ (List.mem_of_getElem? (i := 3) rfl))) (mvT hZ (hw _ (List.mem_of_getElem? (i := 4) rfl))) (mvT hZ (hw _ (List.mem_of_getElem? (i := 1) rfl))) (mvT hZ (hw _ (List.mem_of_getElem? (i := 5) rfl))) (by decide) (backOf (W := 0) (own_sel_L0 l Z a0 hw [] p1 w0 w1 h0 n0 Z0 P hs) hZ (hw _ (List.mem_of_getElem? (i := 5) rfl)) (hw _ (List.mem_of_getElem? (i := 1) rfl)) (by decide) (by decide)) (g := (mkF m 30 #[.val (.long p1), .second, .val (.int p2), .val (.int (0 : Int32)), .val (.ref w0), .unset, .unset, .unset] [(.ref w0), (.long p1)])) rfl (by rw [hml]; rfl) (argsL := [(.long p1), (.ref w0)]) (rest := []) (lenOf pd__JLcom_example_plimsoll_plimsoll_model_AbatementAlgorithm__Lcom_example_plimsoll_plimsoll_model_AbatementAlgorithm_ rfl) rfl (by show 2 * 0 + _ ≤ _; exact Nat.le_of_eq rfl) (hb hby at_30) (fun _ _ => ⟨rfl, e19, (by decide : 0 + 0 ≤ _), (by decide : 0 + 0 ≤ _)⟩)
  dsimp only [Pt.U, Pt.locs, Pt.cells, Pt.slots] at X20 l20 y20 z20 st20 hQ20
  subst l20 y20 z20
  obtain ⟨rfl, N20q, e20⟩ := hQ20
  have N20 := Fr.app N0 N20q
  obtain ⟨T21, X21, e21, st21⟩ := getS2 X20 hx hZ hown (host := "") (Or.inl (hw _ (List.mem_of_getElem? (i := 0) rfl))) Via.refl e20 S0 (g := (mkF m 77 #[.val (.long p1), .second, .val (.int p2), .val (.int (0 : Int32)), .val (.ref w0), .val (.ref w0), .val (.int (1 : Int32)), .unset] [])) rfl (hb hby at_77)
  obtain ⟨fs, hr, hrun, hended, hW, hsame⟩ := X21.leave (v := some (.int (1 : Int32))) (fun h => by rw [Bd.returns] at h; cases h)
  refine ⟨_, _, pre0 _ ?_, hrun, hended, _, _, rfl, ?_, ⟨_, rfl⟩, hW, hsame.mono (by decide) (by decide)⟩
  · show Steps p.tables e below (s₁.setTop (mkF m 0 #[.val (.long p1), .second, .val (.int p2), .unset, .unset, .unset, .unset, .unset] [])) _
    refine XS.iloadN X0.here hx rfl (hb hby at_0) rfl ?_
    show Steps p.tables e below (s₁.setTop (mkF m 1 #[.val (.long p1), .second, .val (.int p2), .unset, .unset, .unset, .unset, .unset] [(.int p2)])) _
    refine XT.iconstV X0.here hx rfl (1 : Int32) (hb hby at_1) rfl ?_
    show Steps p.tables e below (s₁.setTop (mkF m 2 #[.val (.long p1), .second, .val (.int p2), .unset, .unset, .unset, .unset, .unset] [(.int (1 : Int32)), (.int p2)])) _
    refine XS.iand X0.here hx rfl (hb hby at_2) rfl ?_
    show Steps p.tables e below (s₁.setTop (mkF m 3 #[.val (.long p1), .second, .val (.int p2), .unset, .unset, .unset, .unset, .unset] [(.int (p2 &&& (1 : Int32)))])) _
    rw [hc]
    show Steps p.tables e below (s₁.setTop (mkF m 3 #[.val (.long p1), .second, .val (.int p2), .unset, .unset, .unset, .unset, .unset] [(.int (0 : Int32))])) _
    refine XS.ifYes X0.here hx rfl (pc0 := 3) (pc' := 10) rfl (hb hby at_3) rfl (by decide) (by decide) (by decide) ?_
    show Steps p.tables e below (s₁.setTop (mkF m 10 #[.val (.long p1), .second, .val (.int p2), .unset, .unset, .unset, .unset, .unset] [])) _
    refine XT.iconstV X0.here hx rfl (0 : Int32) (hb hby at_10) rfl ?_
    show Steps p.tables e below (s₁.setTop (mkF m 11 #[.val (.long p1), .second, .val (.int p2), .unset, .unset, .unset, .unset, .unset] [(.int (0 : Int32))])) _
    refine XS.istoreN X0.here hx rfl (hb hby at_11) rfl (l' := #[.val (.long p1), .second, .val (.int p2), .val (.int (0 : Int32)), .unset, .unset, .unset, .unset]) rfl ?_
    show Steps p.tables e below (s₁.setTop (mkF m 12 #[.val (.long p1), .second, .val (.int p2), .val (.int (0 : Int32)), .unset, .unset, .unset, .unset] [])) _
    refine XS.iloadN X0.here hx rfl (hb hby at_12) rfl ?_
    show Steps p.tables e below (s₁.setTop (mkF m 13 #[.val (.long p1), .second, .val (.int p2), .val (.int (0 : Int32)), .unset, .unset, .unset, .unset] [(.int (0 : Int32))])) _
    refine XS.ifYes X0.here hx rfl (pc0 := 13) (pc' := 22) rfl (hb hby at_13) rfl (by decide) (by decide) (by decide) ?_
    show Steps p.tables e below (s₁.setTop (mkF m 22 #[.val (.long p1), .second, .val (.int p2), .val (.int (0 : Int32)), .unset, .unset, .unset, .unset] [])) _
    refine st19 _ ?_
    show Steps p.tables e below (T19.setTop (mkF m 25 #[.val (.long p1), .second, .val (.int p2), .val (.int (0 : Int32)), .unset, .unset, .unset, .unset] [(.ref w0)])) _
    refine XS.astore X19.here hx rfl (hb hby at_25) rfl rfl (l' := #[.val (.long p1), .second, .val (.int p2), .val (.int (0 : Int32)), .val (.ref w0), .unset, .unset, .unset]) rfl ?_
    show Steps p.tables e below (T19.setTop (mkF m 27 #[.val (.long p1), .second, .val (.int p2), .val (.int (0 : Int32)), .val (.ref w0), .unset, .unset, .unset] [])) _
    refine XT.lloadN X19.here hx rfl (hb hby at_27) rfl ?_
    show Steps p.tables e below (T19.setTop (mkF m 28 #[.val (.long p1), .second, .val (.int p2), .val (.int (0 : Int32)), .val (.ref w0), .unset, .unset, .unset] [(.long p1)])) _
    refine XS.aload X19.here hx rfl (hb hby at_28) rfl rfl ?_
    show Steps p.tables e below (T19.setTop (mkF m 30 #[.val (.long p1), .second, .val (.int p2), .val (.int (0 : Int32)), .val (.ref w0), .unset, .unset, .unset] [(.ref w0), (.long p1)])) _
    refine st20 _ ?_
    show Steps p.tables e below (T20.setTop (mkF m 33 #[.val (.long p1), .second, .val (.int p2), .val (.int (0 : Int32)), .val (.ref w0), .unset, .unset, .unset] [(.ref w0)])) _
    refine XS.astore X20.here hx rfl (hb hby at_33) rfl rfl (l' := #[.val (.long p1), .second, .val (.int p2), .val (.int (0 : Int32)), .val (.ref w0), .val (.ref w0), .unset, .unset]) rfl ?_
    show Steps p.tables e below (T20.setTop (mkF m 35 #[.val (.long p1), .second, .val (.int p2), .val (.int (0 : Int32)), .val (.ref w0), .val (.ref w0), .unset, .unset] [])) _
    refine XT.lloadN X20.here hx rfl (hb hby at_35) rfl ?_
    show Steps p.tables e below (T20.setTop (mkF m 36 #[.val (.long p1), .second, .val (.int p2), .val (.int (0 : Int32)), .val (.ref w0), .val (.ref w0), .unset, .unset] [(.long p1)])) _
    refine XT.iconstV X20.here hx rfl (2 : Int32) (hb hby at_36) rfl ?_
    show Steps p.tables e below (T20.setTop (mkF m 37 #[.val (.long p1), .second, .val (.int p2), .val (.int (0 : Int32)), .val (.ref w0), .val (.ref w0), .unset, .unset] [(.int (2 : Int32)), (.long p1)])) _
    refine XT.lushr X20.here hx rfl (hb hby at_37) rfl ?_
    show Steps p.tables e below (T20.setTop (mkF m 38 #[.val (.long p1), .second, .val (.int p2), .val (.int (0 : Int32)), .val (.ref w0), .val (.ref w0), .unset, .unset] [(.long (XT.ushrL p1 (2 : Int32)))])) _
    refine XT.lconstV X20.here hx rfl (1 : Int64) (hb hby at_38) rfl ?_
    show Steps p.tables e below (T20.setTop (mkF m 39 #[.val (.long p1), .second, .val (.int p2), .val (.int (0 : Int32)), .val (.ref w0), .val (.ref w0), .unset, .unset] [(.long (1 : Int64)), (.long (XT.ushrL p1 (2 : Int32)))])) _
    refine XT.land X20.here hx rfl (hb hby at_39) rfl ?_
    show Steps p.tables e below (T20.setTop (mkF m 40 #[.val (.long p1), .second, .val (.int p2), .val (.int (0 : Int32)), .val (.ref w0), .val (.ref w0), .unset, .unset] [(.long ((XT.ushrL p1 (2 : Int32)) &&& (1 : Int64)))])) _
    refine XT.lconstV X20.here hx rfl (0 : Int64) (hb hby at_40) rfl ?_
    show Steps p.tables e below (T20.setTop (mkF m 41 #[.val (.long p1), .second, .val (.int p2), .val (.int (0 : Int32)), .val (.ref w0), .val (.ref w0), .unset, .unset] [(.long (0 : Int64)), (.long ((XT.ushrL p1 (2 : Int32)) &&& (1 : Int64)))])) _
    refine XT.lcmp X20.here hx rfl (hb hby at_41) rfl ?_
    show Steps p.tables e below (T20.setTop (mkF m 42 #[.val (.long p1), .second, .val (.int p2), .val (.int (0 : Int32)), .val (.ref w0), .val (.ref w0), .unset, .unset] [(.int (XT.cmpL ((XT.ushrL p1 (2 : Int32)) &&& (1 : Int64)) (0 : Int64)))])) _
    refine XS.ifNo X20.here hx rfl (hb hby at_42) rfl (XT.ll_eq_f hr2) ?_
    show Steps p.tables e below (T20.setTop (mkF m 45 #[.val (.long p1), .second, .val (.int p2), .val (.int (0 : Int32)), .val (.ref w0), .val (.ref w0), .unset, .unset] [])) _
    refine XT.iconstV X20.here hx rfl (1 : Int32) (hb hby at_45) rfl ?_
    show Steps p.tables e below (T20.setTop (mkF m 46 #[.val (.long p1), .second, .val (.int p2), .val (.int (0 : Int32)), .val (.ref w0), .val (.ref w0), .unset, .unset] [(.int (1 : Int32))])) _
    refine XS.goto X20.here hx rfl (pc0 := 46) (pc' := 50) rfl (hb hby at_46) (by decide) (by decide) ?_
    show Steps p.tables e below (T20.setTop (mkF m 50 #[.val (.long p1), .second, .val (.int p2), .val (.int (0 : Int32)), .val (.ref w0), .val (.ref w0), .unset, .unset] [(.int (1 : Int32))])) _
    refine XS.istore X20.here hx rfl (hb hby at_50) rfl (l' := #[.val (.long p1), .second, .val (.int p2), .val (.int (0 : Int32)), .val (.ref w0), .val (.ref w0), .val (.int (1 : Int32)), .unset]) rfl ?_
    show Steps p.tables e below (T20.setTop (mkF m 52 #[.val (.long p1), .second, .val (.int p2), .val (.int (0 : Int32)), .val (.ref w0), .val (.ref w0), .val (.int (1 : Int32)), .unset] [])) _
    refine XS.iloadN X20.here hx rfl (hb hby at_52) rfl ?_
    show Steps p.tables e below (T20.setTop (mkF m 53 #[.val (.long p1), .second, .val (.int p2), .val (.int (0 : Int32)), .val (.ref w0), .val (.ref w0), .val (.int (1 : Int32)), .unset] [(.int (0 : Int32))])) _
    refine XS.ifYes X20.here hx rfl (pc0 := 53) (pc' := 77) rfl (hb hby at_53) rfl (by decide) (by decide) (by decide) ?_
    show Steps p.tables e below (T20.setTop (mkF m 77 #[.val (.long p1), .second, .val (.int p2), .val (.int (0 : Int32)), .val (.ref w0), .val (.ref w0), .val (.int (1 : Int32)), .unset] [])) _
    refine st21 _ ?_
    show Steps p.tables e below (T21.setTop (mkF m 80 #[.val (.long p1), .second, .val (.int p2), .val (.int (0 : Int32)), .val (.ref w0), .val (.ref w0), .val (.int (1 : Int32)), .unset] [(.ref w0)])) _
    refine XS.astore X21.here hx rfl (hb hby at_80) rfl rfl (l' := #[.val (.long p1), .second, .val (.int p2), .val (.int (0 : Int32)), .val (.ref w0), .val (.ref w0), .val (.int (1 : Int32)), .val (.ref w0)]) rfl ?_
    show Steps p.tables e below (T21.setTop (mkF m 82 #[.val (.long p1), .second, .val (.int p2), .val (.int (0 : Int32)), .val (.ref w0), .val (.ref w0), .val (.int (1 : Int32)), .val (.ref w0)] [])) _
    refine XS.aload X21.here hx rfl (hb hby at_82) rfl rfl ?_
    show Steps p.tables e below (T21.setTop (mkF m 84 #[.val (.long p1), .second, .val (.int p2), .val (.int (0 : Int32)), .val (.ref w0), .val (.ref w0), .val (.int (1 : Int32)), .val (.ref w0)] [(.ref w0)])) _
    refine XS.aload X21.here hx rfl (hb hby at_84) rfl rfl ?_
    show Steps p.tables e below (T21.setTop (mkF m 86 #[.val (.long p1), .second, .val (.int p2), .val (.int (0 : Int32)), .val (.ref w0), .val (.ref w0), .val (.int (1 : Int32)), .val (.ref w0)] [(.ref w0), (.ref w0)])) _
    refine Jvm.RoadKit.acmp (g := (mkF m 86 #[.val (.long p1), .second, .val (.int p2), .val (.int (0 : Int32)), .val (.ref w0), .val (.ref w0), .val (.int (1 : Int32)), .val (.ref w0)] [(.ref w0), (.ref w0)])) X21 hx rfl rfl rfl (pc0 := 86) (pc' := 89) (same := true) rfl (hb hby at_86) rfl (decide_eq_true rfl) (by decide) (by decide) ?_
    show Steps p.tables e below (T21.setTop (mkF m 89 #[.val (.long p1), .second, .val (.int p2), .val (.int (0 : Int32)), .val (.ref w0), .val (.ref w0), .val (.int (1 : Int32)), .val (.ref w0)] [])) _
    refine XT.iconstV X21.here hx rfl (1 : Int32) (hb hby at_89) rfl ?_
    show Steps p.tables e below (T21.setTop (mkF m 90 #[.val (.long p1), .second, .val (.int p2), .val (.int (0 : Int32)), .val (.ref w0), .val (.ref w0), .val (.int (1 : Int32)), .val (.ref w0)] [(.int (1 : Int32))])) _
    refine XS.goto X21.here hx rfl (pc0 := 90) (pc' := 94) rfl (hb hby at_90) (by decide) (by decide) ?_
    show Steps p.tables e below (T21.setTop (mkF m 94 #[.val (.long p1), .second, .val (.int p2), .val (.int (0 : Int32)), .val (.ref w0), .val (.ref w0), .val (.int (1 : Int32)), .val (.ref w0)] [(.int (1 : Int32))])) _
    exact retN X21 hx (t := .boolean) Bd.returns (by simp) (hb hby at_94) hr
  · show own_Q0 n0 _ T21.heap _
    exact ⟨rfl, N20⟩
set_option maxRecDepth 65536 in
set_option maxHeartbeats 40000000 in
theorem own_law_L0_0 (l : Launch) (Z : State) (a0 : Array Value) (hw : ∀ d ∈ tables_1, d.before a0 Z = true) (ws : List Jvm.Cond) (p1 : Int64) (p2 : Int32) (w0 w1 : Addr) (h0 : Heap) (n0 : Nat) (Z0 : n0 ≤ h0.size) (P : own_P Z h0 w0 w1) (hc : (p2 &&& (1 : Int32)) = (0 : Int32)) (hs : (p1 &&& (1 : Int64)) = (0 : Int64)) (hr2 : ((XT.ushrL p1 (2 : Int32)) &&& (1 : Int64)) = (0 : Int64)) :
    MetFree l x (head1 (Jvm.Cond.code x code maxLocals ret :: ws) room_1) (fun a U => a = #[(.long p1), (.int p2)] ∧ Z.Warmed39 U.vm ∧ U.heap = h0) (fun _ _ _ _ _ => True) (fun _ U o U' => ∃ v L, o = .returned v ∧ own_Q0 n0 v U'.heap L ∧ FrameEnd U o U' L room_1.cells room_1.slots) := by
  refine MetFree.of_bodySF (plainFor_of_name pn_com_example_plimsoll_plimsoll_model_AbatementAlgorithmSelectPinLaw) hisR ?_
  intro p e s m args below meth c s₁ Bd hml0 hP hK
  obtain ⟨rfl, hZ, hh⟩ := hP
  have hx := Bd.exec
  have hby := Bd.bytes
  have hml : c.maxLocals = 8 := hml0
  have hown : s.vm.findClass "com/example/plimsoll/plimsoll/model/AbatementAlgorithmSelectPinLaw" = some m.cls := findClass_of_methodNamed Bd.named
  have hnm := (name_of_methodNamed Bd.named Bd.method).1
  have X0 : Stand p l e room_1 s m #[(.long p1), (.int p2)] below meth c s₁ [] 0 0 := Stand.of_body Bd
  have e0 : s₁.heap = h0 := by rw [← hh, Bd.state]; rfl
  have N0 := Fr.nil n0
  have pre0 : ∀ t, Steps p.tables e below (s₁.setTop (mkF m 0 #[.val (.long p1), .second, .val (.int p2), .unset, .unset, .unset, .unset, .unset] [])) t → Steps p.tables e below (s₁.setTop (entryFrame m #[(.long p1), (.int p2)] maxLocals)) t := fun t k => castTop (ef_code_JI m p1 p2) k
  have P0 := P; obtain ⟨S0, E0, F0_bit, S1, E1, F1_bit⟩ := P0
  obtain ⟨T22, X22, e22, st22⟩ := getS2 X0 hx hZ hown (host := "") (Or.inl (hw _ (List.mem_of_getElem? (i := 0) rfl))) Via.refl e0 S0 (g := (mkF m 22 #[.val (.long p1), .second, .val (.int p2), .val (.int (0 : Int32)), .unset, .unset, .unset, .unset] [])) rfl (hb hby at_22)
  obtain ⟨_, _, ⟨T23, L23, k23, n23⟩, -, X23, ⟨Lc23, hQ23, l23, y23, z23⟩, st23⟩ := Jvm.LawKit.callS X22 hx (y := (⟨"com/example/plimsoll/plimsoll/model/AbatementAlgorithm", "select", "(JLcom/example/plimsoll/plimsoll/model/AbatementAlgorithm;)Lcom/example/plimsoll/plimsoll/model/AbatementAlgorithm;"⟩ : MethodName)) hown (mvT hZ (hw _ (List.mem_of_getElem? (i := 3) rfl))) (mvT hZ (hw _ (List.mem_of_getElem? (i := 4) rfl))) (mvT hZ (hw _ (List.mem_of_getElem? (i := 1) rfl))) (mvT hZ (hw _ (List.mem_of_getElem? (i := 5) rfl))) (by decide) (backOf (W := 0) (own_sel_L0 l Z a0 hw [] p1 w0 w1 h0 n0 Z0 P hs) hZ (hw _ (List.mem_of_getElem? (i := 5) rfl)) (hw _ (List.mem_of_getElem? (i := 1) rfl)) (by decide) (by decide)) (g := (mkF m 30 #[.val (.long p1), .second, .val (.int p2), .val (.int (0 : Int32)), .val (.ref w0), .unset, .unset, .unset] [(.ref w0), (.long p1)])) rfl (by rw [hml]; rfl) (argsL := [(.long p1), (.ref w0)]) (rest := []) (lenOf pd__JLcom_example_plimsoll_plimsoll_model_AbatementAlgorithm__Lcom_example_plimsoll_plimsoll_model_AbatementAlgorithm_ rfl) rfl (by show 2 * 0 + _ ≤ _; exact Nat.le_of_eq rfl) (hb hby at_30) (fun _ _ => ⟨rfl, e22, (by decide : 0 + 0 ≤ _), (by decide : 0 + 0 ≤ _)⟩)
  dsimp only [Pt.U, Pt.locs, Pt.cells, Pt.slots] at X23 l23 y23 z23 st23 hQ23
  subst l23 y23 z23
  obtain ⟨rfl, N23q, e23⟩ := hQ23
  have N23 := Fr.app N0 N23q
  obtain ⟨T24, X24, e24, st24⟩ := getS2 X23 hx hZ hown (host := "") (Or.inl (hw _ (List.mem_of_getElem? (i := 0) rfl))) Via.refl e23 S0 (g := (mkF m 77 #[.val (.long p1), .second, .val (.int p2), .val (.int (0 : Int32)), .val (.ref w0), .val (.ref w0), .val (.int (0 : Int32)), .unset] [])) rfl (hb hby at_77)
  obtain ⟨fs, hr, hrun, hended, hW, hsame⟩ := X24.leave (v := some (.int (1 : Int32))) (fun h => by rw [Bd.returns] at h; cases h)
  refine ⟨_, _, pre0 _ ?_, hrun, hended, _, _, rfl, ?_, ⟨_, rfl⟩, hW, hsame.mono (by decide) (by decide)⟩
  · show Steps p.tables e below (s₁.setTop (mkF m 0 #[.val (.long p1), .second, .val (.int p2), .unset, .unset, .unset, .unset, .unset] [])) _
    refine XS.iloadN X0.here hx rfl (hb hby at_0) rfl ?_
    show Steps p.tables e below (s₁.setTop (mkF m 1 #[.val (.long p1), .second, .val (.int p2), .unset, .unset, .unset, .unset, .unset] [(.int p2)])) _
    refine XT.iconstV X0.here hx rfl (1 : Int32) (hb hby at_1) rfl ?_
    show Steps p.tables e below (s₁.setTop (mkF m 2 #[.val (.long p1), .second, .val (.int p2), .unset, .unset, .unset, .unset, .unset] [(.int (1 : Int32)), (.int p2)])) _
    refine XS.iand X0.here hx rfl (hb hby at_2) rfl ?_
    show Steps p.tables e below (s₁.setTop (mkF m 3 #[.val (.long p1), .second, .val (.int p2), .unset, .unset, .unset, .unset, .unset] [(.int (p2 &&& (1 : Int32)))])) _
    rw [hc]
    show Steps p.tables e below (s₁.setTop (mkF m 3 #[.val (.long p1), .second, .val (.int p2), .unset, .unset, .unset, .unset, .unset] [(.int (0 : Int32))])) _
    refine XS.ifYes X0.here hx rfl (pc0 := 3) (pc' := 10) rfl (hb hby at_3) rfl (by decide) (by decide) (by decide) ?_
    show Steps p.tables e below (s₁.setTop (mkF m 10 #[.val (.long p1), .second, .val (.int p2), .unset, .unset, .unset, .unset, .unset] [])) _
    refine XT.iconstV X0.here hx rfl (0 : Int32) (hb hby at_10) rfl ?_
    show Steps p.tables e below (s₁.setTop (mkF m 11 #[.val (.long p1), .second, .val (.int p2), .unset, .unset, .unset, .unset, .unset] [(.int (0 : Int32))])) _
    refine XS.istoreN X0.here hx rfl (hb hby at_11) rfl (l' := #[.val (.long p1), .second, .val (.int p2), .val (.int (0 : Int32)), .unset, .unset, .unset, .unset]) rfl ?_
    show Steps p.tables e below (s₁.setTop (mkF m 12 #[.val (.long p1), .second, .val (.int p2), .val (.int (0 : Int32)), .unset, .unset, .unset, .unset] [])) _
    refine XS.iloadN X0.here hx rfl (hb hby at_12) rfl ?_
    show Steps p.tables e below (s₁.setTop (mkF m 13 #[.val (.long p1), .second, .val (.int p2), .val (.int (0 : Int32)), .unset, .unset, .unset, .unset] [(.int (0 : Int32))])) _
    refine XS.ifYes X0.here hx rfl (pc0 := 13) (pc' := 22) rfl (hb hby at_13) rfl (by decide) (by decide) (by decide) ?_
    show Steps p.tables e below (s₁.setTop (mkF m 22 #[.val (.long p1), .second, .val (.int p2), .val (.int (0 : Int32)), .unset, .unset, .unset, .unset] [])) _
    refine st22 _ ?_
    show Steps p.tables e below (T22.setTop (mkF m 25 #[.val (.long p1), .second, .val (.int p2), .val (.int (0 : Int32)), .unset, .unset, .unset, .unset] [(.ref w0)])) _
    refine XS.astore X22.here hx rfl (hb hby at_25) rfl rfl (l' := #[.val (.long p1), .second, .val (.int p2), .val (.int (0 : Int32)), .val (.ref w0), .unset, .unset, .unset]) rfl ?_
    show Steps p.tables e below (T22.setTop (mkF m 27 #[.val (.long p1), .second, .val (.int p2), .val (.int (0 : Int32)), .val (.ref w0), .unset, .unset, .unset] [])) _
    refine XT.lloadN X22.here hx rfl (hb hby at_27) rfl ?_
    show Steps p.tables e below (T22.setTop (mkF m 28 #[.val (.long p1), .second, .val (.int p2), .val (.int (0 : Int32)), .val (.ref w0), .unset, .unset, .unset] [(.long p1)])) _
    refine XS.aload X22.here hx rfl (hb hby at_28) rfl rfl ?_
    show Steps p.tables e below (T22.setTop (mkF m 30 #[.val (.long p1), .second, .val (.int p2), .val (.int (0 : Int32)), .val (.ref w0), .unset, .unset, .unset] [(.ref w0), (.long p1)])) _
    refine st23 _ ?_
    show Steps p.tables e below (T23.setTop (mkF m 33 #[.val (.long p1), .second, .val (.int p2), .val (.int (0 : Int32)), .val (.ref w0), .unset, .unset, .unset] [(.ref w0)])) _
    refine XS.astore X23.here hx rfl (hb hby at_33) rfl rfl (l' := #[.val (.long p1), .second, .val (.int p2), .val (.int (0 : Int32)), .val (.ref w0), .val (.ref w0), .unset, .unset]) rfl ?_
    show Steps p.tables e below (T23.setTop (mkF m 35 #[.val (.long p1), .second, .val (.int p2), .val (.int (0 : Int32)), .val (.ref w0), .val (.ref w0), .unset, .unset] [])) _
    refine XT.lloadN X23.here hx rfl (hb hby at_35) rfl ?_
    show Steps p.tables e below (T23.setTop (mkF m 36 #[.val (.long p1), .second, .val (.int p2), .val (.int (0 : Int32)), .val (.ref w0), .val (.ref w0), .unset, .unset] [(.long p1)])) _
    refine XT.iconstV X23.here hx rfl (2 : Int32) (hb hby at_36) rfl ?_
    show Steps p.tables e below (T23.setTop (mkF m 37 #[.val (.long p1), .second, .val (.int p2), .val (.int (0 : Int32)), .val (.ref w0), .val (.ref w0), .unset, .unset] [(.int (2 : Int32)), (.long p1)])) _
    refine XT.lushr X23.here hx rfl (hb hby at_37) rfl ?_
    show Steps p.tables e below (T23.setTop (mkF m 38 #[.val (.long p1), .second, .val (.int p2), .val (.int (0 : Int32)), .val (.ref w0), .val (.ref w0), .unset, .unset] [(.long (XT.ushrL p1 (2 : Int32)))])) _
    refine XT.lconstV X23.here hx rfl (1 : Int64) (hb hby at_38) rfl ?_
    show Steps p.tables e below (T23.setTop (mkF m 39 #[.val (.long p1), .second, .val (.int p2), .val (.int (0 : Int32)), .val (.ref w0), .val (.ref w0), .unset, .unset] [(.long (1 : Int64)), (.long (XT.ushrL p1 (2 : Int32)))])) _
    refine XT.land X23.here hx rfl (hb hby at_39) rfl ?_
    show Steps p.tables e below (T23.setTop (mkF m 40 #[.val (.long p1), .second, .val (.int p2), .val (.int (0 : Int32)), .val (.ref w0), .val (.ref w0), .unset, .unset] [(.long ((XT.ushrL p1 (2 : Int32)) &&& (1 : Int64)))])) _
    refine XT.lconstV X23.here hx rfl (0 : Int64) (hb hby at_40) rfl ?_
    show Steps p.tables e below (T23.setTop (mkF m 41 #[.val (.long p1), .second, .val (.int p2), .val (.int (0 : Int32)), .val (.ref w0), .val (.ref w0), .unset, .unset] [(.long (0 : Int64)), (.long ((XT.ushrL p1 (2 : Int32)) &&& (1 : Int64)))])) _
    refine XT.lcmp X23.here hx rfl (hb hby at_41) rfl ?_
    show Steps p.tables e below (T23.setTop (mkF m 42 #[.val (.long p1), .second, .val (.int p2), .val (.int (0 : Int32)), .val (.ref w0), .val (.ref w0), .unset, .unset] [(.int (XT.cmpL ((XT.ushrL p1 (2 : Int32)) &&& (1 : Int64)) (0 : Int64)))])) _
    refine XS.ifYes X23.here hx rfl (pc0 := 42) (pc' := 49) rfl (hb hby at_42) rfl (XT.ll_eq_t hr2) (by decide) (by decide) ?_
    show Steps p.tables e below (T23.setTop (mkF m 49 #[.val (.long p1), .second, .val (.int p2), .val (.int (0 : Int32)), .val (.ref w0), .val (.ref w0), .unset, .unset] [])) _
    refine XT.iconstV X23.here hx rfl (0 : Int32) (hb hby at_49) rfl ?_
    show Steps p.tables e below (T23.setTop (mkF m 50 #[.val (.long p1), .second, .val (.int p2), .val (.int (0 : Int32)), .val (.ref w0), .val (.ref w0), .unset, .unset] [(.int (0 : Int32))])) _
    refine XS.istore X23.here hx rfl (hb hby at_50) rfl (l' := #[.val (.long p1), .second, .val (.int p2), .val (.int (0 : Int32)), .val (.ref w0), .val (.ref w0), .val (.int (0 : Int32)), .unset]) rfl ?_
    show Steps p.tables e below (T23.setTop (mkF m 52 #[.val (.long p1), .second, .val (.int p2), .val (.int (0 : Int32)), .val (.ref w0), .val (.ref w0), .val (.int (0 : Int32)), .unset] [])) _
    refine XS.iloadN X23.here hx rfl (hb hby at_52) rfl ?_
    show Steps p.tables e below (T23.setTop (mkF m 53 #[.val (.long p1), .second, .val (.int p2), .val (.int (0 : Int32)), .val (.ref w0), .val (.ref w0), .val (.int (0 : Int32)), .unset] [(.int (0 : Int32))])) _
    refine XS.ifYes X23.here hx rfl (pc0 := 53) (pc' := 77) rfl (hb hby at_53) rfl (by decide) (by decide) (by decide) ?_
    show Steps p.tables e below (T23.setTop (mkF m 77 #[.val (.long p1), .second, .val (.int p2), .val (.int (0 : Int32)), .val (.ref w0), .val (.ref w0), .val (.int (0 : Int32)), .unset] [])) _
    refine st24 _ ?_
    show Steps p.tables e below (T24.setTop (mkF m 80 #[.val (.long p1), .second, .val (.int p2), .val (.int (0 : Int32)), .val (.ref w0), .val (.ref w0), .val (.int (0 : Int32)), .unset] [(.ref w0)])) _
    refine XS.astore X24.here hx rfl (hb hby at_80) rfl rfl (l' := #[.val (.long p1), .second, .val (.int p2), .val (.int (0 : Int32)), .val (.ref w0), .val (.ref w0), .val (.int (0 : Int32)), .val (.ref w0)]) rfl ?_
    show Steps p.tables e below (T24.setTop (mkF m 82 #[.val (.long p1), .second, .val (.int p2), .val (.int (0 : Int32)), .val (.ref w0), .val (.ref w0), .val (.int (0 : Int32)), .val (.ref w0)] [])) _
    refine XS.aload X24.here hx rfl (hb hby at_82) rfl rfl ?_
    show Steps p.tables e below (T24.setTop (mkF m 84 #[.val (.long p1), .second, .val (.int p2), .val (.int (0 : Int32)), .val (.ref w0), .val (.ref w0), .val (.int (0 : Int32)), .val (.ref w0)] [(.ref w0)])) _
    refine XS.aload X24.here hx rfl (hb hby at_84) rfl rfl ?_
    show Steps p.tables e below (T24.setTop (mkF m 86 #[.val (.long p1), .second, .val (.int p2), .val (.int (0 : Int32)), .val (.ref w0), .val (.ref w0), .val (.int (0 : Int32)), .val (.ref w0)] [(.ref w0), (.ref w0)])) _
    refine Jvm.RoadKit.acmp (g := (mkF m 86 #[.val (.long p1), .second, .val (.int p2), .val (.int (0 : Int32)), .val (.ref w0), .val (.ref w0), .val (.int (0 : Int32)), .val (.ref w0)] [(.ref w0), (.ref w0)])) X24 hx rfl rfl rfl (pc0 := 86) (pc' := 89) (same := true) rfl (hb hby at_86) rfl (decide_eq_true rfl) (by decide) (by decide) ?_
    show Steps p.tables e below (T24.setTop (mkF m 89 #[.val (.long p1), .second, .val (.int p2), .val (.int (0 : Int32)), .val (.ref w0), .val (.ref w0), .val (.int (0 : Int32)), .val (.ref w0)] [])) _
    refine XT.iconstV X24.here hx rfl (1 : Int32) (hb hby at_89) rfl ?_
    show Steps p.tables e below (T24.setTop (mkF m 90 #[.val (.long p1), .second, .val (.int p2), .val (.int (0 : Int32)), .val (.ref w0), .val (.ref w0), .val (.int (0 : Int32)), .val (.ref w0)] [(.int (1 : Int32))])) _
    refine XS.goto X24.here hx rfl (pc0 := 90) (pc' := 94) rfl (hb hby at_90) (by decide) (by decide) ?_
    show Steps p.tables e below (T24.setTop (mkF m 94 #[.val (.long p1), .second, .val (.int p2), .val (.int (0 : Int32)), .val (.ref w0), .val (.ref w0), .val (.int (0 : Int32)), .val (.ref w0)] [(.int (1 : Int32))])) _
    exact retN X24 hx (t := .boolean) Bd.returns (by simp) (hb hby at_94) hr
  · show own_Q0 n0 _ T24.heap _
    exact ⟨rfl, N23⟩
set_option maxRecDepth 65536 in
set_option maxHeartbeats 40000000 in
theorem own_law (l : Launch) (Z : State) (a0 : Array Value) (hw : ∀ d ∈ tables_1, d.before a0 Z = true) (ws : List Jvm.Cond) (p1 : Int64) (p2 : Int32) (w0 w1 : Addr) (h0 : Heap) (n0 : Nat) (Z0 : n0 ≤ h0.size) (P : own_P Z h0 w0 w1) :
    MetFree l x (head1 (Jvm.Cond.code x code maxLocals ret :: ws) room_1) (fun a U => a = #[(.long p1), (.int p2)] ∧ Z.Warmed39 U.vm ∧ U.heap = h0) (fun _ _ _ _ _ => True) (fun _ U o U' => ∃ v L, o = .returned v ∧ own_Q0 n0 v U'.heap L ∧ FrameEnd U o U' L room_1.cells room_1.slots) := by
  rcases and_one p2 with hc | hc
  · by_cases hs : (p1 &&& (1 : Int64)) = (0 : Int64) <;> by_cases hr2 : ((XT.ushrL p1 (2 : Int32)) &&& (1 : Int64)) = (0 : Int64)
    · exact own_law_L0_0 l Z a0 hw ws p1 p2 w0 w1 h0 n0 Z0 P hc hs hr2
    · exact own_law_L0_1 l Z a0 hw ws p1 p2 w0 w1 h0 n0 Z0 P hc hs hr2
    · exact own_law_L1_0 l Z a0 hw ws p1 p2 w0 w1 h0 n0 Z0 P hc hs hr2
    · exact own_law_L1_1 l Z a0 hw ws p1 p2 w0 w1 h0 n0 Z0 P hc hs hr2
  · by_cases hs : (p1 &&& (4 : Int64)) = (0 : Int64)
    · exact own_law_R0_0 l Z a0 hw ws p1 p2 w0 w1 h0 n0 Z0 P hc hs ((own_bit p1).mp hs)
    · exact own_law_R1_1 l Z a0 hw ws p1 p2 w0 w1 h0 n0 Z0 P hc hs (fun q => hs ((own_bit p1).mpr q))
set_option maxRecDepth 65536 in
set_option maxHeartbeats 40000000 in
theorem comes_1 {Post : Tables → Env → Array Value → State → Outcome → State → Prop} (hpost : ∀ tb e args s v u, (limb_1_1.after args s (.returned v) u = true ∧ limb_1_2.after args s (.returned v) u = true ∧ True) → FrameEnd s (.returned v) u (Jvm.fieldLocs frame_1_writes args s ++ Jvm.arrayLocs frame_1_arrays args s ++ Jvm.staticLocs frame_1_statics s) 0 0 → Post tb e args s (.returned v) u) :
    ArmFor flags0 classFile x code maxLocals ret World_1 tables_1 room_1 Calls_1 rest_1 Pre_1 Post := by
  intro l hfl _ _ p e ha hc hk s m args below hf hA hF happ hP
  obtain ⟨hcalls, hrest, hpre⟩ := hP
  obtain ⟨-, -, -, hnamed, -, -, -, hat⟩ := (Spec.applies_iff hf).mp happ
  obtain ⟨hg, hn⟩ := and_e (Cond.before_iff.mp (show (Jvm.Cond.and given_1 narrow_1).before args s = true from hpre))
  obtain ⟨gg, gr⟩ := and_e hg
  obtain ⟨a0, a1, rfl⟩ : ∃ a0 a1 : Value, args = #[a0, a1] := by
    have hs : args.size = 2 := by simpa [Cond.value, given_1] using gg
    obtain ⟨L⟩ := args
    match L, hs with
    | [a0, a1], _ => exact ⟨a0, a1, rfl⟩
  have hw := fun d (hd : d ∈ tables_1) => atoms_spec (ws := Jvm.Cond.code x code maxLocals ret :: tables_1) hat d (List.mem_cons_of_mem _ hd)
  have hfit : Fit s := fun {y c} hc i hi => by
    obtain ⟨ha, rfl⟩ := Array.getElem?_eq_some_iff.mp hc
    have q := List.all_eq_true.mp ((Array.all_eq_true_iff_forall_mem.mp hF) _ (Array.getElem_mem ha)) i (List.mem_range.mpr hi)
    simpa [Array.getElem?_eq_getElem hi] using q
  obtain ⟨gi0, gr0⟩ := and_e gr
  obtain ⟨i0, ei0⟩ := isL_v gi0
  obtain rfl : a0 = (.long i0) := Option.some.inj ei0
  obtain ⟨i1, ei1⟩ := is_v gr0
  obtain rfl : a1 = (.int i1) := Option.some.inj ei1
  obtain ⟨c0, r0⟩ := and_e hn
  obtain ⟨c1, r1⟩ := and_e r0
  obtain ⟨c2, r2⟩ := and_e r1
  obtain ⟨w0, v0⟩ := exa_v c0
  have E0 := Exa.start v0 c0
  have S0 := Sta.start v0 (Or.inr ⟨(hw _ (List.mem_of_getElem? (i := 1) rfl)), (hw _ (List.mem_of_getElem? (i := 2) rfl))⟩)
  obtain ⟨w1, v1⟩ := exa_v c2
  have E1 := Exa.start v1 c2
  have S1 := Sta.start v1 (Or.inr ⟨(hw _ (List.mem_of_getElem? (i := 1) rfl)), (hw _ (List.mem_of_getElem? (i := 9) rfl))⟩)
  have F0_bit := own_fldJ v0 c1
  have F1_bit := own_fldJ v1 r2
  have P : own_P s s.heap w0 w1 := ⟨S0, E0, F0_bit, S1, E1, F1_bit⟩
  obtain ⟨n, o, h1, h2, h3, _, L, rfl, ⟨rfl, N⟩, hq⟩ := own_law l s _ hw tables_1 i0 i1 w0 w1 s.heap s.heap.size (Nat.le_refl _) P p e ha hc hk s m _ below hf ((Spec.applies_iff_loose hf).mp happ).1 ⟨rfl, State.Warmed39.refl s, rfl⟩ trivial
  refine ⟨n, _, h1, h2, h3, hpost _ _ _ _ _ _ ⟨Cond.after_iff.mpr rfl, Cond.after_iff.mpr (eq_i res_at (Term.int_eval (1)) rfl), trivial⟩ ⟨hq.1, hq.2.1, (hq.2.2.sift fun y hy => Or.inr (N y hy)).mono (by decide) (by decide)⟩⟩
theorem main_1_1 : Claimed_1_1 := comes_1 fun _ _ _ _ _ _ h hF => ⟨h.1, hF⟩
theorem main_1_2 : Claimed_1_2 := comes_1 fun _ _ _ _ _ _ h hF => ⟨h.2.1, hF⟩
end Jvm.Pilot.@@N@@
namespace Jvm.Pilot.@@N@@
open Jvm Jvm.ClassFile Sem Op Lib Jvm.Free Jvm.Stand Jvm.Pilot.@@N@@.Jvm.D
/-! MADE BY PROGRAM (witnessworld.py) out of the Statement's table words and the real class files: 12 classes; the members and pool entries that the words name. The judged class is class 1, her method 1. -/
namespace start1
open Jvm.ClassFile
def u (s : String) : CpInfo := .utf8 (stringToUtf16 s)
/-- a pool by its gaps: so many unusable entries, then the entry; so many at the end -/
def gap : Nat → List CpInfo → List CpInfo
  | 0, r => r
  | n + 1, r => .unusable :: gap n r
def poolList (es : List (Nat × CpInfo)) (last : Nat) : List CpInfo := es.foldr (fun e r => gap e.1 (e.2 :: r)) (gap last [])
def pool (es : List (Nat × CpInfo)) (last : Nat) : Array CpInfo := ⟨poolList es last⟩
def fileOf (pool : Array CpInfo) (this : Nat) (attrs : Array Attribute := #[]) (ms : Array MethodInfo := #[]) (fl : Nat := 33) (sup : Nat := 0) (ifs : Array Nat := #[]) (fds : Array FieldInfo := #[]) : ClassFile where
  minorVersion := 0
  majorVersion := 65
  constantPool := pool
  accessFlags := fl
  thisClass := this
  superClass := sup
  interfaces := ifs
  fields := fds
  methods := ms
  attributes := attrs
def plain (name : String) (sup : Option ClassId) : Class where
  name := name
  kind := .ordinary
  loader := none
  accessFlags := 33
  super := sup
  interfaces := #[]
  cf := none
  fields := #[]
  methods := #[]
  instanceTypes := #[]
  staticTypes := #[]
  resolved := #[]
  callSites := []
  init := .initialized
  statics := none
  mirror := none

def pool0 : Array CpInfo := pool [(5, u "<init>"), (0, u "()V"), (1, .class_ 10), (1, u "java/lang/Object")] 113

def k0m0 : Method := { name := "<init>", desc := "()V", sig := { parameters := [], returnType := none }, accessFlags := 1, code := none }
/-- java/lang/Object -/
def k0 : Class := { plain "java/lang/Object" none with
  accessFlags := 33
  interfaces := #[]
  cf := some (fileOf pool0 8 #[] #[{ accessFlags := 1, nameIndex := 5, descriptorIndex := 6, attributes := #[] }] 33 0 #[] #[])
  fields := #[]
  methods := #[k0m0]
  instanceTypes := #[]
  staticTypes := #[]
  resolved := Array.replicate 124 none
  statics := none }

def pool1 : Array CpInfo := pool [(2, .class_ 4), (1, u "java/lang/Object"), (0, u "<init>"), (0, u "()V"), (0, .fieldref 8 9), (0, .class_ 10), (0, .nameAndType 11 12), (0, u "com/example/plimsoll/plimsoll/model/AbatementAlgorithm"), (0, u "RATE"), (0, u "Lcom/example/plimsoll/plimsoll/model/AbatementAlgorithm;"), (0, .fieldref 8 14), (0, .nameAndType 15 12), (0, u "LOSS"), (0, .methodref 8 17), (0, .nameAndType 18 19), (0, u "select"), (0, u "(JLcom/example/plimsoll/plimsoll/model/AbatementAlgorithm;)Lcom/example/plimsoll/plimsoll/model/AbatementAlgorithm;"), (0, .class_ 21), (0, u "com/example/plimsoll/plimsoll/model/AbatementAlgorithmSelectPinLaw"), (2, u "law"), (0, u "(JI)Z")] 3

def k1m0 : Method := { name := "<init>", desc := "()V", sig := { parameters := [], returnType := none }, accessFlags := 1, code := none }
def k1c1 : Code := { maxStack := 4, maxLocals := 8, code := code, exceptionTable := #[], attributes := #[] }
def k1m1 : Method := { name := "law", desc := "(JI)Z", sig := { parameters := [.long, .int], returnType := some .boolean }, accessFlags := 9, code := some k1c1 }
/-- com/example/plimsoll/plimsoll/model/AbatementAlgorithmSelectPinLaw -/
def k1 : Class := { plain "com/example/plimsoll/plimsoll/model/AbatementAlgorithmSelectPinLaw" (some 0) with
  accessFlags := 49
  interfaces := #[]
  cf := some (fileOf pool1 20 #[] #[{ accessFlags := 1, nameIndex := 5, descriptorIndex := 6, attributes := #[] }, { accessFlags := 9, nameIndex := 24, descriptorIndex := 25, attributes := #[] }] 49 2 #[] #[])
  fields := #[]
  methods := #[k1m0, k1m1]
  instanceTypes := #[]
  staticTypes := #[]
  resolved := Array.replicate 29 none
  statics := none }

def pool2 : Array CpInfo := pool [(1, .class_ 2), (0, u "java/lang/constant/Constable"), (0, .class_ 4), (0, u "java/lang/Object")] 6

/-- java/lang/constant/Constable -/
def k2 : Class := { plain "java/lang/constant/Constable" (some 0) with
  accessFlags := 1537
  interfaces := #[]
  cf := some (fileOf pool2 1 #[] #[] 1537 3 #[] #[])
  fields := #[]
  methods := #[]
  instanceTypes := #[]
  staticTypes := #[]
  resolved := Array.replicate 11 none
  statics := none }

def pool3 : Array CpInfo := pool [(1, .class_ 2), (0, u "java/lang/Comparable"), (0, .class_ 4), (0, u "java/lang/Object")] 7

/-- java/lang/Comparable -/
def k3 : Class := { plain "java/lang/Comparable" (some 0) with
  accessFlags := 1537
  interfaces := #[]
  cf := some (fileOf pool3 1 #[] #[] 1537 3 #[] #[])
  fields := #[]
  methods := #[]
  instanceTypes := #[]
  staticTypes := #[]
  resolved := Array.replicate 12 none
  statics := none }

def pool4 : Array CpInfo := pool [(1, .class_ 2), (0, u "java/io/Serializable"), (0, .class_ 4), (0, u "java/lang/Object")] 2

/-- java/io/Serializable -/
def k4 : Class := { plain "java/io/Serializable" (some 0) with
  accessFlags := 1537
  interfaces := #[]
  cf := some (fileOf pool4 1 #[] #[] 1537 3 #[] #[])
  fields := #[]
  methods := #[]
  instanceTypes := #[]
  staticTypes := #[]
  resolved := Array.replicate 7 none
  statics := none }

def pool5 : Array CpInfo := pool [(2, .class_ 4), (1, u "java/lang/Enum"), (0, u "name"), (0, u "Ljava/lang/String;"), (2, u "ordinal"), (0, u "I"), (1, .class_ 14), (1, u "java/lang/Object"), (4, u "hash"), (86, .class_ 108), (1, u "java/lang/Enum$EnumDesc"), (2, .class_ 112), (0, u "java/lang/constant/Constable"), (0, .class_ 114), (0, u "java/lang/Comparable"), (0, .class_ 116), (0, u "java/io/Serializable")] 87

/-- java/lang/Enum -/
def k5 : Class := { plain "java/lang/Enum" (some 0) with
  accessFlags := 1057
  interfaces := #[2, 3, 4]
  cf := some (fileOf pool5 2 #[.nestMembers #[106]] #[] 1057 12 #[111, 113, 115] #[{ accessFlags := 18, nameIndex := 5, descriptorIndex := 6, attributes := #[] }, { accessFlags := 18, nameIndex := 9, descriptorIndex := 10, attributes := #[] }, { accessFlags := 2, nameIndex := 19, descriptorIndex := 10, attributes := #[] }])
  fields := #[{ name := "name", type := (.object "java/lang/String"), accessFlags := 18, slot := 0, constantValue := 0 }, { name := "ordinal", type := .int, accessFlags := 18, slot := 1, constantValue := 0 }, { name := "hash", type := .int, accessFlags := 2, slot := 2, constantValue := 0 }]
  methods := #[]
  instanceTypes := #[(.object "java/lang/String"), .int, .int]
  staticTypes := #[]
  resolved := Array.replicate 204 none
  statics := none }

def pool6 : Array CpInfo := pool [(1, .class_ 2), (0, u "com/example/plimsoll/plimsoll/model/AbatementAlgorithm"), (0, .fieldref 1 4), (0, .nameAndType 5 6), (0, u "LOSS"), (0, u "Lcom/example/plimsoll/plimsoll/model/AbatementAlgorithm;"), (2, u "RATE"), (2, u "$VALUES"), (0, u "[Lcom/example/plimsoll/plimsoll/model/AbatementAlgorithm;"), (6, .class_ 22), (1, u "java/lang/Enum"), (6, .fieldref 1 30), (0, .nameAndType 31 32), (0, u "bit"), (0, u "J"), (91, u "select"), (0, u "(JLcom/example/plimsoll/plimsoll/model/AbatementAlgorithm;)Lcom/example/plimsoll/plimsoll/model/AbatementAlgorithm;")] 46

def k6c0 : Code := { maxStack := 4, maxLocals := 3, code := prog_36_method_6_code, exceptionTable := #[], attributes := #[] }
def k6m0 : Method := { name := "select", desc := "(JLcom/example/plimsoll/plimsoll/model/AbatementAlgorithm;)Lcom/example/plimsoll/plimsoll/model/AbatementAlgorithm;", sig := { parameters := [.long, (.object "com/example/plimsoll/plimsoll/model/AbatementAlgorithm")], returnType := some (.object "com/example/plimsoll/plimsoll/model/AbatementAlgorithm") }, accessFlags := 9, code := some k6c0 }
/-- com/example/plimsoll/plimsoll/model/AbatementAlgorithm -/
def k6 : Class := { plain "com/example/plimsoll/plimsoll/model/AbatementAlgorithm" (some 5) with
  accessFlags := 16433
  interfaces := #[]
  cf := some (fileOf pool6 1 #[] #[{ accessFlags := 9, nameIndex := 124, descriptorIndex := 125, attributes := #[] }] 16433 20 #[] #[{ accessFlags := 16409, nameIndex := 5, descriptorIndex := 6, attributes := #[] }, { accessFlags := 16409, nameIndex := 9, descriptorIndex := 6, attributes := #[] }, { accessFlags := 18, nameIndex := 31, descriptorIndex := 32, attributes := #[] }, { accessFlags := 4122, nameIndex := 12, descriptorIndex := 13, attributes := #[] }])
  fields := #[{ name := "LOSS", type := (.object "com/example/plimsoll/plimsoll/model/AbatementAlgorithm"), accessFlags := 16409, slot := 0, constantValue := 0 }, { name := "RATE", type := (.object "com/example/plimsoll/plimsoll/model/AbatementAlgorithm"), accessFlags := 16409, slot := 1, constantValue := 0 }, { name := "bit", type := .long, accessFlags := 18, slot := 3, constantValue := 0 }, { name := "$VALUES", type := (.array (.object "com/example/plimsoll/plimsoll/model/AbatementAlgorithm")), accessFlags := 4122, slot := 2, constantValue := 0 }]
  methods := #[k6m0]
  instanceTypes := #[(.object "java/lang/String"), .int, .int, .long]
  staticTypes := #[(.object "com/example/plimsoll/plimsoll/model/AbatementAlgorithm"), (.object "com/example/plimsoll/plimsoll/model/AbatementAlgorithm"), (.array (.object "com/example/plimsoll/plimsoll/model/AbatementAlgorithm"))]
  resolved := Array.replicate 172 none
  statics := some 0 }

def pool7 : Array CpInfo := pool [(1, u "java/lang/Cloneable"), (0, .class_ 1), (0, u "java/lang/Object"), (0, .class_ 3)] 3

/-- java/lang/Cloneable -/
def k7 : Class := { plain "java/lang/Cloneable" (some 0) with
  accessFlags := 1537
  interfaces := #[]
  cf := some (fileOf pool7 2 #[] #[] 1537 4 #[] #[])
  fields := #[]
  methods := #[]
  instanceTypes := #[]
  staticTypes := #[]
  resolved := Array.replicate 8 none
  statics := none }

/-- the primitive byte -/
def k8 : Class := { plain "byte" none with kind := .primitive 'B', accessFlags := 0x411 }
/-- [B -/
def k9 : Class := { plain "[B" (some 0) with kind := .array 8 .byte, interfaces := #[7, 4], accessFlags := 1041 }

/-- the primitive int -/
def k10 : Class := { plain "int" none with kind := .primitive 'I', accessFlags := 0x411 }
/-- [I -/
def k11 : Class := { plain "[I" (some 0) with kind := .array 10 .int, interfaces := #[7, 4], accessFlags := 1041 }

def heap : Heap := #[{ cls := 6, slots := #[.ref 1, .ref 2, .null], vm := .statics 6 },
  { cls := 6, slots := #[.null, .int 0, .int 0, .long 1], vm := .none },
  { cls := 6, slots := #[.null, .int 0, .int 0, .long 4], vm := .none }]
def classes : Array Class := #[k0, k1, k2, k3, k4, k5, k6, k7, k8, k9, k10, k11]
def interned : List (Array UInt16 × Addr) := []
def slotsUsed : Nat := 11
def theMethod : MethodId := ⟨1, 1⟩
def args0 : Array Value := #[.long 5, .int 1]
def aboutOver (below : List Frame) : State where
  vm := { classes := classes, interned := interned.toArray }
  heap := heap
  slotsUsed := slotsUsed
  threads := #[{ frames := .invoking theMethod args0 :: below }]
def below0 : List Frame := [.native { method := ⟨0, 0⟩, args := #[] }]
def about1 : State := aboutOver below0
def p0 : Program := .bare "" "" ""
def e0 : Env := launch0.env 0 0 0
theorem w_frames : about1.frames = Frame.invoking theMethod args0 :: below0 := rfl
set_option maxRecDepth 65536 in
theorem w_args : argsFit about1.vm theMethod args0 = true := by decide +kernel
set_option maxRecDepth 65536 in
theorem w_heap : heapFits about1 = true := by decide +kernel
set_option maxRecDepth 65536 in
theorem w_runnable : about1.curStatus? = some .runnable := by decide +kernel
set_option maxRecDepth 65536 in
theorem w_alone : about1.alone = true := by decide +kernel
set_option maxRecDepth 65536 in
theorem w_named : about1.methodNamed? x = some theMethod := by decide +kernel
set_option maxRecDepth 65536 in
theorem w_hears : about1.hears theMethod below0 = true := by decide +kernel
set_option maxRecDepth 65536 in
theorem w_ripe : about1.ripe theMethod args0 below0 = true := by decide +kernel
theorem w_running : about1.status = .running := rfl
set_option maxRecDepth 65536 in
theorem w_room : about1.hasRoom e0.platform room_1 = true :=
  launch0.hasRoom_least _ room_1 (by decide +kernel) (by decide +kernel) (by decide +kernel) (by decide +kernel) (by decide +kernel) (by decide +kernel)
theorem allAtoms_all (ts : List Jvm.Cond) (a : Array Jvm.Value) (st : Jvm.State) : (allAtoms ts).before a st = ts.all (fun c => c.before a st) := by
  induction ts with
  | nil => rfl
  | cons c t ih =>
    show (Jvm.Cond.and c (allAtoms t)).before a st = _
    rw [Jvm.Cond.before_and, ih, List.all_cons]
def words1 : List Jvm.Cond := Jvm.Cond.code x code maxLocals ret :: tables_1
/-- a 'code' word, met by the world's own term for the bytes: nothing is compared byte by byte -/
theorem code_word {y : MethodName} {bytes : ByteArray} {mx : Nat} {rt : Option FieldType} {a : Array Value} {s : State} {m : MethodId} {meth : Method} {c : Code} (h1 : s.methodNamed? y = some m) (h2 : s.vm.method? m = some meth) (h3 : meth.code = some c) (h4 : c.code = bytes)
    (h5 : (c.maxLocals == mx && c.exceptionTable.isEmpty && decide (c.maxStack ≤ mostOperands) && decide (meth.sig.returnType = rt) && !meth.locks && decide (parseMethodDescriptor y.desc = some meth.sig)) = true) : (Jvm.Cond.code y bytes mx rt).before a s = true := by
  simp only [Bool.and_eq_true, beq_iff_eq, Bool.not_eq_true', decide_eq_true_eq] at h5
  obtain ⟨⟨⟨⟨⟨g1, g2⟩, g3⟩, g4⟩, g5⟩, g6⟩ := h5
  simp [Cond.before, Cond.holds, Cond.value, h1, h2, h3, h4, g1, g2, g3, g4, g5, g6]
def isCode : Jvm.Cond → Bool
  | .code _ _ _ _ => true
  | _ => false
theorem all_split {L : List Jvm.Cond} {P : Jvm.Cond → Bool} (h1 : L.all (fun c => isCode c || P c) = true) (h2 : ∀ c ∈ L.filter isCode, P c = true) : L.all P = true := by
  refine List.all_eq_true.mpr fun c hc => ?_
  have h := List.all_eq_true.mp h1 c hc
  rcases Bool.eq_false_or_eq_true (isCode c) with hi | hi
  · exact h2 c (List.mem_filter.mpr ⟨hc, hi⟩)
  · simpa [hi] using h
set_option maxRecDepth 65536 in
theorem w_c0 : (Jvm.Cond.code x code maxLocals ret).before args0 about1 = true := code_word (m := ⟨1, 1⟩) (meth := k1m1) (c := k1c1) (by decide +kernel) rfl rfl rfl (by decide +kernel)
set_option maxRecDepth 65536 in
theorem w_c1 : (Jvm.Cond.code ({ cls := "com/example/plimsoll/plimsoll/model/AbatementAlgorithm", name := "select", desc := "(JLcom/example/plimsoll/plimsoll/model/AbatementAlgorithm;)Lcom/example/plimsoll/plimsoll/model/AbatementAlgorithm;" } : Jvm.MethodName) prog_36_method_6_code (3 : Nat) (Option.some (Jvm.ClassFile.FieldType.object "com/example/plimsoll/plimsoll/model/AbatementAlgorithm"))).before args0 about1 = true := code_word (m := ⟨6, 0⟩) (meth := k6m0) (c := k6c0) (by decide +kernel) rfl rfl rfl (by decide +kernel)
def codes1 : List Jvm.Cond := [Jvm.Cond.code x code maxLocals ret, Jvm.Cond.code ({ cls := "com/example/plimsoll/plimsoll/model/AbatementAlgorithm", name := "select", desc := "(JLcom/example/plimsoll/plimsoll/model/AbatementAlgorithm;)Lcom/example/plimsoll/plimsoll/model/AbatementAlgorithm;" } : Jvm.MethodName) prog_36_method_6_code (3 : Nat) (Option.some (Jvm.ClassFile.FieldType.object "com/example/plimsoll/plimsoll/model/AbatementAlgorithm"))]
set_option maxRecDepth 65536 in
theorem codes_eq : words1.filter isCode = codes1 := rfl
theorem w_codes : ∀ c ∈ words1.filter isCode, c.before args0 about1 = true := by
  rw [codes_eq]
  intro c hc
  simp only [codes1, List.mem_cons, List.not_mem_nil, or_false] at hc
  rcases hc with rfl | rfl
  · exact w_c0
  · exact w_c1
set_option maxRecDepth 65536 in
theorem w_t1 : words1.all (fun c => isCode c || c.before args0 about1) = true := by decide +kernel
theorem w_tables : (allAtoms (Jvm.Cond.code x code maxLocals ret :: tables_1)).before args0 about1 = true := by
  rw [allAtoms_all]
  show words1.all (fun c => c.before args0 about1) = true
  refine all_split ?_ w_codes
  rw [w_t1]
set_option maxRecDepth 65536 in
theorem w_case : (Jvm.Cond.and given_1 narrow_1).before args0 about1 = true := by decide +kernel
theorem w_applies : (headSpec (Jvm.Cond.code x code maxLocals ret :: tables_1) room_1).applies x e0.platform about1 = true :=
  (Spec.applies_iff w_frames).mpr ⟨w_running, w_runnable, w_alone, w_named, w_hears, w_ripe, w_room, w_tables⟩
theorem atStart : AtStart classFile x code maxLocals ret World_1 tables_1 room_1 Calls_1 rest_1 Pre_1 launch0 p0 e0 about1 theMethod args0 below0 :=
  ⟨lists_1, trivial, launch0.admits_env _ _ _, launch0.least_env, fairChoices_fair.cas, fairChoices_fair.clock, w_frames, w_args, w_heap, w_applies, trivial, trivial, w_case⟩
end start1
theorem witness_1 : WitnessClaimed_1 := ⟨start1.p0, start1.e0, start1.about1, start1.theMethod, start1.args0, start1.below0, start1.atStart⟩
end Jvm.Pilot.@@N@@
