import JvmDerived
import JvmDerived.Pilot.@@N@@Statement
import JvmDerived.Pilot.@@N@@Code
set_option linter.unusedVariables false
set_option linter.unusedSimpArgs false
namespace Jvm.RoadKit
open Sem ClassFile Op Lib Jvm.Stand Jvm.Free Jvm.LawKit
section New
variable {p : Program} {l : Launch} {e : Env} {R : Room} {s : State} {m : MethodId} {args : Array Value} {below : List Frame} {meth : Method} {c : Code} {T : State} {locs : List Loc} {cells slots : Nat}
theorem retI (X : Stand p l e R s m args below meth c T locs cells slots) (hx : p.tables.exec = Jvm.exec) {pc : Nat} {Ls : Array Slot} {z : Int32} {rest : List Value} (hret : meth.sig.returnType = some .int) (hd : decode c.code pc = .ok (.ireturn, 1)) {fs : List Frame}
    (hl : ∀ (f : JFrame) (acts : List Action), f.method = m → f.locked = none → f.entered = [] → (doReturn e (T.setTop f) acts (some (.int z))).1 = T.setFrames fs) : Steps p.tables e below (T.setTop (mkF m pc Ls (.int z :: rest))) (T.setFrames fs) := by
  have hm' : T.vm.method? m = some meth := X.method'
  have hn : narrow .int (.int z) = .int z := rfl
  show Steps p.tables e below (T.setTop { method := m, pc := pc, locals := Ls, stack := _ :: rest, locked := none }) _
  jvm_step X.here [X.here.top, hx, hd, hm', hret, hn]
  first | (intro acts; rw [hl _ acts rfl rfl rfl]) | rw [hl _ _ rfl rfl rfl]
  exact Steps.refl _
end New
end Jvm.RoadKit
namespace Jvm.Pilot.@@N@@
open Jvm Jvm.ClassFile Sem Op Lib Jvm.Free Jvm.Stand Jvm.LawKit Jvm.RoadKit Bundle Jvm.Pilot.@@N@@.Jvm.D

def own_Q (r : Option Value) (h0 : Heap) (n0 : Nat) (v : Option Value) (h : Heap) (L : List Loc) : Prop := v = r ∧ Fr n0 L ∧ h = h0
def own_Q0 (n0 : Nat) (v : Option Value) (h : Heap) (L : List Loc) : Prop := v = some (.int 1) ∧ Fr n0 L
def own_P (Z : State) (h : Heap) (w0 w1 w2 w3 w4 w5 : Addr) : Prop := (Sta Z h "com/example/orbweave/orbweave/UrlState" "QUEUED" "Lcom/example/orbweave/orbweave/UrlState;" (.ref w0)) ∧ (Exa Z h w0 "com/example/orbweave/orbweave/UrlState") ∧ (Fld Z h w0 "java/lang/Enum" "ordinal" "I" (.int (0 : Int32))) ∧ (Sta Z h "com/example/orbweave/orbweave/UrlState" "FETCHED" "Lcom/example/orbweave/orbweave/UrlState;" (.ref w1)) ∧ (Exa Z h w1 "com/example/orbweave/orbweave/UrlState") ∧ (Fld Z h w1 "java/lang/Enum" "ordinal" "I" (.int (3 : Int32))) ∧ (Sta Z h "com/example/orbweave/orbweave/UrlState" "INDEXED" "Lcom/example/orbweave/orbweave/UrlState;" (.ref w2)) ∧ (Exa Z h w2 "com/example/orbweave/orbweave/UrlState") ∧ (Fld Z h w2 "java/lang/Enum" "ordinal" "I" (.int (4 : Int32))) ∧ (Sta Z h "com/example/orbweave/orbweave/UrlState" "FAILED" "Lcom/example/orbweave/orbweave/UrlState;" (.ref w3)) ∧ (Exa Z h w3 "com/example/orbweave/orbweave/UrlState") ∧ (Fld Z h w3 "java/lang/Enum" "ordinal" "I" (.int (5 : Int32))) ∧ (Sta Z h "com/example/orbweave/orbweave/UrlState" "DEFERRED" "Lcom/example/orbweave/orbweave/UrlState;" (.ref w4)) ∧ (Exa Z h w4 "com/example/orbweave/orbweave/UrlState") ∧ (Fld Z h w4 "java/lang/Enum" "ordinal" "I" (.int (2 : Int32))) ∧ (Sta Z h "com/example/orbweave/orbweave/UrlState" "DISALLOWED" "Lcom/example/orbweave/orbweave/UrlState;" (.ref w5)) ∧ (Exa Z h w5 "com/example/orbweave/orbweave/UrlState") ∧ (Fld Z h w5 "java/lang/Enum" "ordinal" "I" (.int (1 : Int32)))
theorem own_fldI {args : Array Value} {s : State} {t : Term} {C n d : String} {a : Addr} {k : Int32} (ev : t.eval args s none [] s = some (.ref a)) (h : (Jvm.Cond.eq (Jvm.Term.field t C n d) (Jvm.Term.int k)).value args s none s [] = some true) : Fld s s.heap a C n d (.int k) := by
  obtain ⟨x, y, e1, e2, K1, K2⟩ := cmp_v (Or.inl h)
  have e3 : (Jvm.Term.int k).eval args s none [] s = some (.int k) := rfl
  obtain rfl : y = .int k := Option.some.inj (e2.symm.trans e3)
  obtain ⟨z, rfl⟩ := K2
  obtain rfl : z = k := gotT (Jvm.Cond.eq_ints e1 e3) h
  exact Fld.start ((fld_at ev).symm.trans e1)
theorem own_fldJ {args : Array Value} {s : State} {t : Term} {C n d : String} {a : Addr} {k : Int64} (ev : t.eval args s none [] s = some (.ref a)) (h : (Jvm.Cond.eq (Jvm.Term.field t C n d) (Jvm.Term.long k)).value args s none s [] = some true) : Fld s s.heap a C n d (.long k) := by
  obtain ⟨x, y, e1, e2, K1, K2⟩ := cmp_v (Or.inl h)
  have e3 : (Jvm.Term.long k).eval args s none [] s = some (.long k) := rfl
  obtain rfl : y = .long k := Option.some.inj (e2.symm.trans e3)
  obtain ⟨z, rfl⟩ := K2
  obtain rfl : z = k := gotT (eq_L e1 e3) h
  exact Fld.start ((fld_at ev).symm.trans e1)
theorem own_cases (x : Int32) : ((x &&& (2147483647 : Int32)) % (6 : Int32)) = (0 : Int32) ∨ ((x &&& (2147483647 : Int32)) % (6 : Int32)) = (1 : Int32) ∨ ((x &&& (2147483647 : Int32)) % (6 : Int32)) = (2 : Int32) ∨ ((x &&& (2147483647 : Int32)) % (6 : Int32)) = (3 : Int32) ∨ ((x &&& (2147483647 : Int32)) % (6 : Int32)) = (4 : Int32) ∨ ((x &&& (2147483647 : Int32)) % (6 : Int32)) = (5 : Int32) := by
  have h1 := c_and x (2147483647 : Int32) (by decide)
  have h2 := (c_irem (x &&& (2147483647 : Int32)) (6 : Int32) 6 (by decide)).1 h1.1
  have h3 : 0 ≤ ((x &&& (2147483647 : Int32)) % (6 : Int32)).toInt ∧ ((x &&& (2147483647 : Int32)) % (6 : Int32)).toInt < 6 := by rw [h2]; omega
  clear h2
  generalize ((x &&& (2147483647 : Int32)) % (6 : Int32)) = r at h3 ⊢
  have q : r.toInt = 0 ∨ r.toInt = 1 ∨ r.toInt = 2 ∨ r.toInt = 3 ∨ r.toInt = 4 ∨ r.toInt = 5 := by omega
  rcases q with q | q | q | q | q | q
  · exact (Or.inl (Int32.toInt_inj.mp (q.trans (by decide))))
  · exact (Or.inr (Or.inl (Int32.toInt_inj.mp (q.trans (by decide)))))
  · exact (Or.inr (Or.inr (Or.inl (Int32.toInt_inj.mp (q.trans (by decide))))))
  · exact (Or.inr (Or.inr (Or.inr (Or.inl (Int32.toInt_inj.mp (q.trans (by decide)))))))
  · exact (Or.inr (Or.inr (Or.inr (Or.inr (Or.inl (Int32.toInt_inj.mp (q.trans (by decide))))))))
  · exact (Or.inr (Or.inr (Or.inr (Or.inr (Or.inr (Int32.toInt_inj.mp (q.trans (by decide))))))))
theorem d_method_3_code_0 : decode method_3_code 0 = .ok (.iload_n 0, 1) := by decide +kernel
theorem d_method_3_code_1 : decode method_3_code 1 = .ok (.ifCond .ne 7, 3) := by decide +kernel
theorem d_method_3_code_4 : decode method_3_code 4 = .ok (.getstatic 23, 3) := by decide +kernel
theorem d_method_3_code_7 : decode method_3_code 7 = .ok (.areturn, 1) := by decide +kernel
theorem ef_method_3_code_I (m : MethodId) (x0 : Int32) : entryFrame m #[(.int x0)] 1 = mkF m 0 #[.val (.int x0)] [] := by first | (simp [entryFrame, mkF, argsToLocals, Value.category]; done) | rfl
theorem pn_com_example_orbweave_orbweave_UrlStateWaitingPinLaw : plainName "com/example/orbweave/orbweave/UrlStateWaitingPinLaw" = true := by first | (simp [plainName, overriddenIn]; done) | decide +kernel
set_option maxRecDepth 65536 in
set_option maxHeartbeats 40000000 in
theorem own_pick_0 (l : Launch) (Z : State) (a0 : Array Value) (hw : ∀ d ∈ tables_1, d.before a0 Z = true) (ws : List Jvm.Cond) (w0 w1 w2 w3 w4 w5 : Addr) (h0 : Heap) (n0 : Nat) (Z0 : n0 ≤ h0.size) (P : own_P Z h0 w0 w1 w2 w3 w4 w5) :
    MetFree l (⟨"com/example/orbweave/orbweave/UrlStateWaitingPinLaw", "pick", "(I)Lcom/example/orbweave/orbweave/UrlState;"⟩ : MethodName) (head1 (Jvm.Cond.code (⟨"com/example/orbweave/orbweave/UrlStateWaitingPinLaw", "pick", "(I)Lcom/example/orbweave/orbweave/UrlState;"⟩ : MethodName) method_3_code 1 (some (.object "com/example/orbweave/orbweave/UrlState")) :: ws) ({ frames := 0, cells := 0, slots := 0, locals := 0 } : Room)) (fun a U => a = #[(.int (0 : Int32))] ∧ Z.Warmed39 U.vm ∧ U.heap = h0) (fun _ _ _ _ _ => True) (fun _ U o U' => ∃ v L, o = .returned v ∧ own_Q (some (.ref w0)) h0 n0 v U'.heap L ∧ FrameEnd U o U' L ({ frames := 0, cells := 0, slots := 0, locals := 0 } : Room).cells ({ frames := 0, cells := 0, slots := 0, locals := 0 } : Room).slots) := by
  refine MetFree.of_bodySF (plainFor_of_name pn_com_example_orbweave_orbweave_UrlStateWaitingPinLaw) hisR ?_
  intro p e s m args below meth c s₁ Bd hml0 hP hK
  obtain ⟨rfl, hZ, hh⟩ := hP
  have hx := Bd.exec
  have hby := Bd.bytes
  have hml : c.maxLocals = 1 := hml0
  have hown : s.vm.findClass "com/example/orbweave/orbweave/UrlStateWaitingPinLaw" = some m.cls := findClass_of_methodNamed Bd.named
  have hnm := (name_of_methodNamed Bd.named Bd.method).1
  have X0 : Stand p l e ({ frames := 0, cells := 0, slots := 0, locals := 0 } : Room) s m #[(.int (0 : Int32))] below meth c s₁ [] 0 0 := Stand.of_body Bd
  have e0 : s₁.heap = h0 := by rw [← hh, Bd.state]; rfl
  have N0 := Fr.nil n0
  have pre0 : ∀ t, Steps p.tables e below (s₁.setTop (mkF m 0 #[.val (.int (0 : Int32))] [])) t → Steps p.tables e below (s₁.setTop (entryFrame m #[(.int (0 : Int32))] 1)) t := fun t k => castTop (ef_method_3_code_I m (0 : Int32)) k
  have P0 := P; obtain ⟨S0, E0, F0_ordinal, S1, E1, F1_ordinal, S2, E2, F2_ordinal, S3, E3, F3_ordinal, S4, E4, F4_ordinal, S5, E5, F5_ordinal⟩ := P0
  obtain ⟨T1, X1, e1, st1⟩ := getS2 X0 hx hZ hown (host := "") (Or.inl (hw _ (List.mem_of_getElem? (i := 5) rfl))) Via.refl e0 S0 (g := (mkF m 4 #[.val (.int (0 : Int32))] [])) rfl (hb hby d_method_3_code_4)
  obtain ⟨fs, hr, hrun, hended, hW, hsame⟩ := X1.leave (v := some (.ref w0)) (fun h => by rw [Bd.returns] at h; cases h)
  refine ⟨_, _, pre0 _ ?_, hrun, hended, _, _, rfl, ?_, ⟨_, rfl⟩, hW, hsame.mono (by decide) (by decide)⟩
  · show Steps p.tables e below (s₁.setTop (mkF m 0 #[.val (.int (0 : Int32))] [])) _
    refine XS.iloadN X0.here hx rfl (hb hby d_method_3_code_0) rfl ?_
    show Steps p.tables e below (s₁.setTop (mkF m 1 #[.val (.int (0 : Int32))] [(.int (0 : Int32))])) _
    refine XS.ifNo X0.here hx rfl (hb hby d_method_3_code_1) rfl (by decide) ?_
    show Steps p.tables e below (s₁.setTop (mkF m 4 #[.val (.int (0 : Int32))] [])) _
    refine st1 _ ?_
    show Steps p.tables e below (T1.setTop (mkF m 7 #[.val (.int (0 : Int32))] [(.ref w0)])) _
    jvm_step X1.here [X1.here.top, hx, (hb hby d_method_3_code_7), X1.method', Bd.returns, Value.isRef, FieldType.isReference]
    first | (intro acts; rw [hr _ acts rfl rfl rfl]) | rw [hr _ _ rfl rfl rfl]
    exact Steps.refl _
  · show own_Q (some (.ref w0)) h0 n0 _ T1.heap _
    rw [e1]
    exact ⟨rfl, N0, rfl⟩
theorem d_method_3_code_8 : decode method_3_code 8 = .ok (.iload_n 0, 1) := by decide +kernel
theorem d_method_3_code_9 : decode method_3_code 9 = .ok (.iconst 1, 1) := by decide +kernel
theorem d_method_3_code_10 : decode method_3_code 10 = .ok (.if_icmp .ne 7, 3) := by decide +kernel
theorem d_method_3_code_13 : decode method_3_code 13 = .ok (.getstatic 27, 3) := by decide +kernel
theorem d_method_3_code_16 : decode method_3_code 16 = .ok (.areturn, 1) := by decide +kernel
set_option maxRecDepth 65536 in
set_option maxHeartbeats 40000000 in
theorem own_pick_1 (l : Launch) (Z : State) (a0 : Array Value) (hw : ∀ d ∈ tables_1, d.before a0 Z = true) (ws : List Jvm.Cond) (w0 w1 w2 w3 w4 w5 : Addr) (h0 : Heap) (n0 : Nat) (Z0 : n0 ≤ h0.size) (P : own_P Z h0 w0 w1 w2 w3 w4 w5) :
    MetFree l (⟨"com/example/orbweave/orbweave/UrlStateWaitingPinLaw", "pick", "(I)Lcom/example/orbweave/orbweave/UrlState;"⟩ : MethodName) (head1 (Jvm.Cond.code (⟨"com/example/orbweave/orbweave/UrlStateWaitingPinLaw", "pick", "(I)Lcom/example/orbweave/orbweave/UrlState;"⟩ : MethodName) method_3_code 1 (some (.object "com/example/orbweave/orbweave/UrlState")) :: ws) ({ frames := 0, cells := 0, slots := 0, locals := 0 } : Room)) (fun a U => a = #[(.int (1 : Int32))] ∧ Z.Warmed39 U.vm ∧ U.heap = h0) (fun _ _ _ _ _ => True) (fun _ U o U' => ∃ v L, o = .returned v ∧ own_Q (some (.ref w5)) h0 n0 v U'.heap L ∧ FrameEnd U o U' L ({ frames := 0, cells := 0, slots := 0, locals := 0 } : Room).cells ({ frames := 0, cells := 0, slots := 0, locals := 0 } : Room).slots) := by
  refine MetFree.of_bodySF (plainFor_of_name pn_com_example_orbweave_orbweave_UrlStateWaitingPinLaw) hisR ?_
  intro p e s m args below meth c s₁ Bd hml0 hP hK
  obtain ⟨rfl, hZ, hh⟩ := hP
  have hx := Bd.exec
  have hby := Bd.bytes
  have hml : c.maxLocals = 1 := hml0
  have hown : s.vm.findClass "com/example/orbweave/orbweave/UrlStateWaitingPinLaw" = some m.cls := findClass_of_methodNamed Bd.named
  have hnm := (name_of_methodNamed Bd.named Bd.method).1
  have X0 : Stand p l e ({ frames := 0, cells := 0, slots := 0, locals := 0 } : Room) s m #[(.int (1 : Int32))] below meth c s₁ [] 0 0 := Stand.of_body Bd
  have e0 : s₁.heap = h0 := by rw [← hh, Bd.state]; rfl
  have N0 := Fr.nil n0
  have pre0 : ∀ t, Steps p.tables e below (s₁.setTop (mkF m 0 #[.val (.int (1 : Int32))] [])) t → Steps p.tables e below (s₁.setTop (entryFrame m #[(.int (1 : Int32))] 1)) t := fun t k => castTop (ef_method_3_code_I m (1 : Int32)) k
  have P0 := P; obtain ⟨S0, E0, F0_ordinal, S1, E1, F1_ordinal, S2, E2, F2_ordinal, S3, E3, F3_ordinal, S4, E4, F4_ordinal, S5, E5, F5_ordinal⟩ := P0
  obtain ⟨T2, X2, e2, st2⟩ := getS2 X0 hx hZ hown (host := "") (Or.inl (hw _ (List.mem_of_getElem? (i := 29) rfl))) Via.refl e0 S5 (g := (mkF m 13 #[.val (.int (1 : Int32))] [])) rfl (hb hby d_method_3_code_13)
  obtain ⟨fs, hr, hrun, hended, hW, hsame⟩ := X2.leave (v := some (.ref w5)) (fun h => by rw [Bd.returns] at h; cases h)
  refine ⟨_, _, pre0 _ ?_, hrun, hended, _, _, rfl, ?_, ⟨_, rfl⟩, hW, hsame.mono (by decide) (by decide)⟩
  · show Steps p.tables e below (s₁.setTop (mkF m 0 #[.val (.int (1 : Int32))] [])) _
    refine XS.iloadN X0.here hx rfl (hb hby d_method_3_code_0) rfl ?_
    show Steps p.tables e below (s₁.setTop (mkF m 1 #[.val (.int (1 : Int32))] [(.int (1 : Int32))])) _
    refine XS.ifYes X0.here hx rfl (pc0 := 1) (pc' := 8) rfl (hb hby d_method_3_code_1) rfl (by decide) (by decide) (by decide) ?_
    show Steps p.tables e below (s₁.setTop (mkF m 8 #[.val (.int (1 : Int32))] [])) _
    refine XS.iloadN X0.here hx rfl (hb hby d_method_3_code_8) rfl ?_
    show Steps p.tables e below (s₁.setTop (mkF m 9 #[.val (.int (1 : Int32))] [(.int (1 : Int32))])) _
    refine XT.iconstV X0.here hx rfl (1 : Int32) (hb hby d_method_3_code_9) rfl ?_
    show Steps p.tables e below (s₁.setTop (mkF m 10 #[.val (.int (1 : Int32))] [(.int (1 : Int32)), (.int (1 : Int32))])) _
    refine XS.icmpNo X0.here hx rfl (hb hby d_method_3_code_10) rfl (by decide) ?_
    show Steps p.tables e below (s₁.setTop (mkF m 13 #[.val (.int (1 : Int32))] [])) _
    refine st2 _ ?_
    show Steps p.tables e below (T2.setTop (mkF m 16 #[.val (.int (1 : Int32))] [(.ref w5)])) _
    jvm_step X2.here [X2.here.top, hx, (hb hby d_method_3_code_16), X2.method', Bd.returns, Value.isRef, FieldType.isReference]
    first | (intro acts; rw [hr _ acts rfl rfl rfl]) | rw [hr _ _ rfl rfl rfl]
    exact Steps.refl _
  · show own_Q (some (.ref w5)) h0 n0 _ T2.heap _
    rw [e2]
    exact ⟨rfl, N0, rfl⟩
theorem d_method_3_code_17 : decode method_3_code 17 = .ok (.iload_n 0, 1) := by decide +kernel
theorem d_method_3_code_18 : decode method_3_code 18 = .ok (.iconst 2, 1) := by decide +kernel
theorem d_method_3_code_19 : decode method_3_code 19 = .ok (.if_icmp .ne 7, 3) := by decide +kernel
theorem d_method_3_code_22 : decode method_3_code 22 = .ok (.getstatic 30, 3) := by decide +kernel
theorem d_method_3_code_25 : decode method_3_code 25 = .ok (.areturn, 1) := by decide +kernel
set_option maxRecDepth 65536 in
set_option maxHeartbeats 40000000 in
theorem own_pick_2 (l : Launch) (Z : State) (a0 : Array Value) (hw : ∀ d ∈ tables_1, d.before a0 Z = true) (ws : List Jvm.Cond) (w0 w1 w2 w3 w4 w5 : Addr) (h0 : Heap) (n0 : Nat) (Z0 : n0 ≤ h0.size) (P : own_P Z h0 w0 w1 w2 w3 w4 w5) :
    MetFree l (⟨"com/example/orbweave/orbweave/UrlStateWaitingPinLaw", "pick", "(I)Lcom/example/orbweave/orbweave/UrlState;"⟩ : MethodName) (head1 (Jvm.Cond.code (⟨"com/example/orbweave/orbweave/UrlStateWaitingPinLaw", "pick", "(I)Lcom/example/orbweave/orbweave/UrlState;"⟩ : MethodName) method_3_code 1 (some (.object "com/example/orbweave/orbweave/UrlState")) :: ws) ({ frames := 0, cells := 0, slots := 0, locals := 0 } : Room)) (fun a U => a = #[(.int (2 : Int32))] ∧ Z.Warmed39 U.vm ∧ U.heap = h0) (fun _ _ _ _ _ => True) (fun _ U o U' => ∃ v L, o = .returned v ∧ own_Q (some (.ref w4)) h0 n0 v U'.heap L ∧ FrameEnd U o U' L ({ frames := 0, cells := 0, slots := 0, locals := 0 } : Room).cells ({ frames := 0, cells := 0, slots := 0, locals := 0 } : Room).slots) := by
  refine MetFree.of_bodySF (plainFor_of_name pn_com_example_orbweave_orbweave_UrlStateWaitingPinLaw) hisR ?_
  intro p e s m args below meth c s₁ Bd hml0 hP hK
  obtain ⟨rfl, hZ, hh⟩ := hP
  have hx := Bd.exec
  have hby := Bd.bytes
  have hml : c.maxLocals = 1 := hml0
  have hown : s.vm.findClass "com/example/orbweave/orbweave/UrlStateWaitingPinLaw" = some m.cls := findClass_of_methodNamed Bd.named
  have hnm := (name_of_methodNamed Bd.named Bd.method).1
  have X0 : Stand p l e ({ frames := 0, cells := 0, slots := 0, locals := 0 } : Room) s m #[(.int (2 : Int32))] below meth c s₁ [] 0 0 := Stand.of_body Bd
  have e0 : s₁.heap = h0 := by rw [← hh, Bd.state]; rfl
  have N0 := Fr.nil n0
  have pre0 : ∀ t, Steps p.tables e below (s₁.setTop (mkF m 0 #[.val (.int (2 : Int32))] [])) t → Steps p.tables e below (s₁.setTop (entryFrame m #[(.int (2 : Int32))] 1)) t := fun t k => castTop (ef_method_3_code_I m (2 : Int32)) k
  have P0 := P; obtain ⟨S0, E0, F0_ordinal, S1, E1, F1_ordinal, S2, E2, F2_ordinal, S3, E3, F3_ordinal, S4, E4, F4_ordinal, S5, E5, F5_ordinal⟩ := P0
  obtain ⟨T3, X3, e3, st3⟩ := getS2 X0 hx hZ hown (host := "") (Or.inl (hw _ (List.mem_of_getElem? (i := 28) rfl))) Via.refl e0 S4 (g := (mkF m 22 #[.val (.int (2 : Int32))] [])) rfl (hb hby d_method_3_code_22)
  obtain ⟨fs, hr, hrun, hended, hW, hsame⟩ := X3.leave (v := some (.ref w4)) (fun h => by rw [Bd.returns] at h; cases h)
  refine ⟨_, _, pre0 _ ?_, hrun, hended, _, _, rfl, ?_, ⟨_, rfl⟩, hW, hsame.mono (by decide) (by decide)⟩
  · show Steps p.tables e below (s₁.setTop (mkF m 0 #[.val (.int (2 : Int32))] [])) _
    refine XS.iloadN X0.here hx rfl (hb hby d_method_3_code_0) rfl ?_
    show Steps p.tables e below (s₁.setTop (mkF m 1 #[.val (.int (2 : Int32))] [(.int (2 : Int32))])) _
    refine XS.ifYes X0.here hx rfl (pc0 := 1) (pc' := 8) rfl (hb hby d_method_3_code_1) rfl (by decide) (by decide) (by decide) ?_
    show Steps p.tables e below (s₁.setTop (mkF m 8 #[.val (.int (2 : Int32))] [])) _
    refine XS.iloadN X0.here hx rfl (hb hby d_method_3_code_8) rfl ?_
    show Steps p.tables e below (s₁.setTop (mkF m 9 #[.val (.int (2 : Int32))] [(.int (2 : Int32))])) _
    refine XT.iconstV X0.here hx rfl (1 : Int32) (hb hby d_method_3_code_9) rfl ?_
    show Steps p.tables e below (s₁.setTop (mkF m 10 #[.val (.int (2 : Int32))] [(.int (1 : Int32)), (.int (2 : Int32))])) _
    refine XS.icmpYes X0.here hx rfl (pc0 := 10) (pc' := 17) rfl (hb hby d_method_3_code_10) rfl (by decide) (by decide) (by decide) ?_
    show Steps p.tables e below (s₁.setTop (mkF m 17 #[.val (.int (2 : Int32))] [])) _
    refine XS.iloadN X0.here hx rfl (hb hby d_method_3_code_17) rfl ?_
    show Steps p.tables e below (s₁.setTop (mkF m 18 #[.val (.int (2 : Int32))] [(.int (2 : Int32))])) _
    refine XT.iconstV X0.here hx rfl (2 : Int32) (hb hby d_method_3_code_18) rfl ?_
    show Steps p.tables e below (s₁.setTop (mkF m 19 #[.val (.int (2 : Int32))] [(.int (2 : Int32)), (.int (2 : Int32))])) _
    refine XS.icmpNo X0.here hx rfl (hb hby d_method_3_code_19) rfl (by decide) ?_
    show Steps p.tables e below (s₁.setTop (mkF m 22 #[.val (.int (2 : Int32))] [])) _
    refine st3 _ ?_
    show Steps p.tables e below (T3.setTop (mkF m 25 #[.val (.int (2 : Int32))] [(.ref w4)])) _
    jvm_step X3.here [X3.here.top, hx, (hb hby d_method_3_code_25), X3.method', Bd.returns, Value.isRef, FieldType.isReference]
    first | (intro acts; rw [hr _ acts rfl rfl rfl]) | rw [hr _ _ rfl rfl rfl]
    exact Steps.refl _
  · show own_Q (some (.ref w4)) h0 n0 _ T3.heap _
    rw [e3]
    exact ⟨rfl, N0, rfl⟩
theorem d_method_3_code_26 : decode method_3_code 26 = .ok (.iload_n 0, 1) := by decide +kernel
theorem d_method_3_code_27 : decode method_3_code 27 = .ok (.iconst 3, 1) := by decide +kernel
theorem d_method_3_code_28 : decode method_3_code 28 = .ok (.if_icmp .ne 7, 3) := by decide +kernel
theorem d_method_3_code_31 : decode method_3_code 31 = .ok (.getstatic 33, 3) := by decide +kernel
theorem d_method_3_code_34 : decode method_3_code 34 = .ok (.areturn, 1) := by decide +kernel
set_option maxRecDepth 65536 in
set_option maxHeartbeats 40000000 in
theorem own_pick_3 (l : Launch) (Z : State) (a0 : Array Value) (hw : ∀ d ∈ tables_1, d.before a0 Z = true) (ws : List Jvm.Cond) (w0 w1 w2 w3 w4 w5 : Addr) (h0 : Heap) (n0 : Nat) (Z0 : n0 ≤ h0.size) (P : own_P Z h0 w0 w1 w2 w3 w4 w5) :
    MetFree l (⟨"com/example/orbweave/orbweave/UrlStateWaitingPinLaw", "pick", "(I)Lcom/example/orbweave/orbweave/UrlState;"⟩ : MethodName) (head1 (Jvm.Cond.code (⟨"com/example/orbweave/orbweave/UrlStateWaitingPinLaw", "pick", "(I)Lcom/example/orbweave/orbweave/UrlState;"⟩ : MethodName) method_3_code 1 (some (.object "com/example/orbweave/orbweave/UrlState")) :: ws) ({ frames := 0, cells := 0, slots := 0, locals := 0 } : Room)) (fun a U => a = #[(.int (3 : Int32))] ∧ Z.Warmed39 U.vm ∧ U.heap = h0) (fun _ _ _ _ _ => True) (fun _ U o U' => ∃ v L, o = .returned v ∧ own_Q (some (.ref w1)) h0 n0 v U'.heap L ∧ FrameEnd U o U' L ({ frames := 0, cells := 0, slots := 0, locals := 0 } : Room).cells ({ frames := 0, cells := 0, slots := 0, locals := 0 } : Room).slots) := by
  refine MetFree.of_bodySF (plainFor_of_name pn_com_example_orbweave_orbweave_UrlStateWaitingPinLaw) hisR ?_
  intro p e s m args below meth c s₁ Bd hml0 hP hK
  obtain ⟨rfl, hZ, hh⟩ := hP
  have hx := Bd.exec
  have hby := Bd.bytes
  have hml : c.maxLocals = 1 := hml0
  have hown : s.vm.findClass "com/example/orbweave/orbweave/UrlStateWaitingPinLaw" = some m.cls := findClass_of_methodNamed Bd.named
  have hnm := (name_of_methodNamed Bd.named Bd.method).1
  have X0 : Stand p l e ({ frames := 0, cells := 0, slots := 0, locals := 0 } : Room) s m #[(.int (3 : Int32))] below meth c s₁ [] 0 0 := Stand.of_body Bd
  have e0 : s₁.heap = h0 := by rw [← hh, Bd.state]; rfl
  have N0 := Fr.nil n0
  have pre0 : ∀ t, Steps p.tables e below (s₁.setTop (mkF m 0 #[.val (.int (3 : Int32))] [])) t → Steps p.tables e below (s₁.setTop (entryFrame m #[(.int (3 : Int32))] 1)) t := fun t k => castTop (ef_method_3_code_I m (3 : Int32)) k
  have P0 := P; obtain ⟨S0, E0, F0_ordinal, S1, E1, F1_ordinal, S2, E2, F2_ordinal, S3, E3, F3_ordinal, S4, E4, F4_ordinal, S5, E5, F5_ordinal⟩ := P0
  obtain ⟨T4, X4, e4, st4⟩ := getS2 X0 hx hZ hown (host := "") (Or.inl (hw _ (List.mem_of_getElem? (i := 25) rfl))) Via.refl e0 S1 (g := (mkF m 31 #[.val (.int (3 : Int32))] [])) rfl (hb hby d_method_3_code_31)
  obtain ⟨fs, hr, hrun, hended, hW, hsame⟩ := X4.leave (v := some (.ref w1)) (fun h => by rw [Bd.returns] at h; cases h)
  refine ⟨_, _, pre0 _ ?_, hrun, hended, _, _, rfl, ?_, ⟨_, rfl⟩, hW, hsame.mono (by decide) (by decide)⟩
  · show Steps p.tables e below (s₁.setTop (mkF m 0 #[.val (.int (3 : Int32))] [])) _
    refine XS.iloadN X0.here hx rfl (hb hby d_method_3_code_0) rfl ?_
    show Steps p.tables e below (s₁.setTop (mkF m 1 #[.val (.int (3 : Int32))] [(.int (3 : Int32))])) _
    refine XS.ifYes X0.here hx rfl (pc0 := 1) (pc' := 8) rfl (hb hby d_method_3_code_1) rfl (by decide) (by decide) (by decide) ?_
    show Steps p.tables e below (s₁.setTop (mkF m 8 #[.val (.int (3 : Int32))] [])) _
    refine XS.iloadN X0.here hx rfl (hb hby d_method_3_code_8) rfl ?_
    show Steps p.tables e below (s₁.setTop (mkF m 9 #[.val (.int (3 : Int32))] [(.int (3 : Int32))])) _
    refine XT.iconstV X0.here hx rfl (1 : Int32) (hb hby d_method_3_code_9) rfl ?_
    show Steps p.tables e below (s₁.setTop (mkF m 10 #[.val (.int (3 : Int32))] [(.int (1 : Int32)), (.int (3 : Int32))])) _
    refine XS.icmpYes X0.here hx rfl (pc0 := 10) (pc' := 17) rfl (hb hby d_method_3_code_10) rfl (by decide) (by decide) (by decide) ?_
    show Steps p.tables e below (s₁.setTop (mkF m 17 #[.val (.int (3 : Int32))] [])) _
    refine XS.iloadN X0.here hx rfl (hb hby d_method_3_code_17) rfl ?_
    show Steps p.tables e below (s₁.setTop (mkF m 18 #[.val (.int (3 : Int32))] [(.int (3 : Int32))])) _
    refine XT.iconstV X0.here hx rfl (2 : Int32) (hb hby d_method_3_code_18) rfl ?_
    show Steps p.tables e below (s₁.setTop (mkF m 19 #[.val (.int (3 : Int32))] [(.int (2 : Int32)), (.int (3 : Int32))])) _
    refine XS.icmpYes X0.here hx rfl (pc0 := 19) (pc' := 26) rfl (hb hby d_method_3_code_19) rfl (by decide) (by decide) (by decide) ?_
    show Steps p.tables e below (s₁.setTop (mkF m 26 #[.val (.int (3 : Int32))] [])) _
    refine XS.iloadN X0.here hx rfl (hb hby d_method_3_code_26) rfl ?_
    show Steps p.tables e below (s₁.setTop (mkF m 27 #[.val (.int (3 : Int32))] [(.int (3 : Int32))])) _
    refine XT.iconstV X0.here hx rfl (3 : Int32) (hb hby d_method_3_code_27) rfl ?_
    show Steps p.tables e below (s₁.setTop (mkF m 28 #[.val (.int (3 : Int32))] [(.int (3 : Int32)), (.int (3 : Int32))])) _
    refine XS.icmpNo X0.here hx rfl (hb hby d_method_3_code_28) rfl (by decide) ?_
    show Steps p.tables e below (s₁.setTop (mkF m 31 #[.val (.int (3 : Int32))] [])) _
    refine st4 _ ?_
    show Steps p.tables e below (T4.setTop (mkF m 34 #[.val (.int (3 : Int32))] [(.ref w1)])) _
    jvm_step X4.here [X4.here.top, hx, (hb hby d_method_3_code_34), X4.method', Bd.returns, Value.isRef, FieldType.isReference]
    first | (intro acts; rw [hr _ acts rfl rfl rfl]) | rw [hr _ _ rfl rfl rfl]
    exact Steps.refl _
  · show own_Q (some (.ref w1)) h0 n0 _ T4.heap _
    rw [e4]
    exact ⟨rfl, N0, rfl⟩
theorem d_method_3_code_35 : decode method_3_code 35 = .ok (.iload_n 0, 1) := by decide +kernel
theorem d_method_3_code_36 : decode method_3_code 36 = .ok (.iconst 4, 1) := by decide +kernel
theorem d_method_3_code_37 : decode method_3_code 37 = .ok (.if_icmp .ne 7, 3) := by decide +kernel
theorem d_method_3_code_40 : decode method_3_code 40 = .ok (.getstatic 36, 3) := by decide +kernel
theorem d_method_3_code_43 : decode method_3_code 43 = .ok (.areturn, 1) := by decide +kernel
set_option maxRecDepth 65536 in
set_option maxHeartbeats 40000000 in
theorem own_pick_4 (l : Launch) (Z : State) (a0 : Array Value) (hw : ∀ d ∈ tables_1, d.before a0 Z = true) (ws : List Jvm.Cond) (w0 w1 w2 w3 w4 w5 : Addr) (h0 : Heap) (n0 : Nat) (Z0 : n0 ≤ h0.size) (P : own_P Z h0 w0 w1 w2 w3 w4 w5) :
    MetFree l (⟨"com/example/orbweave/orbweave/UrlStateWaitingPinLaw", "pick", "(I)Lcom/example/orbweave/orbweave/UrlState;"⟩ : MethodName) (head1 (Jvm.Cond.code (⟨"com/example/orbweave/orbweave/UrlStateWaitingPinLaw", "pick", "(I)Lcom/example/orbweave/orbweave/UrlState;"⟩ : MethodName) method_3_code 1 (some (.object "com/example/orbweave/orbweave/UrlState")) :: ws) ({ frames := 0, cells := 0, slots := 0, locals := 0 } : Room)) (fun a U => a = #[(.int (4 : Int32))] ∧ Z.Warmed39 U.vm ∧ U.heap = h0) (fun _ _ _ _ _ => True) (fun _ U o U' => ∃ v L, o = .returned v ∧ own_Q (some (.ref w2)) h0 n0 v U'.heap L ∧ FrameEnd U o U' L ({ frames := 0, cells := 0, slots := 0, locals := 0 } : Room).cells ({ frames := 0, cells := 0, slots := 0, locals := 0 } : Room).slots) := by
  refine MetFree.of_bodySF (plainFor_of_name pn_com_example_orbweave_orbweave_UrlStateWaitingPinLaw) hisR ?_
  intro p e s m args below meth c s₁ Bd hml0 hP hK
  obtain ⟨rfl, hZ, hh⟩ := hP
  have hx := Bd.exec
  have hby := Bd.bytes
  have hml : c.maxLocals = 1 := hml0
  have hown : s.vm.findClass "com/example/orbweave/orbweave/UrlStateWaitingPinLaw" = some m.cls := findClass_of_methodNamed Bd.named
  have hnm := (name_of_methodNamed Bd.named Bd.method).1
  have X0 : Stand p l e ({ frames := 0, cells := 0, slots := 0, locals := 0 } : Room) s m #[(.int (4 : Int32))] below meth c s₁ [] 0 0 := Stand.of_body Bd
  have e0 : s₁.heap = h0 := by rw [← hh, Bd.state]; rfl
  have N0 := Fr.nil n0
  have pre0 : ∀ t, Steps p.tables e below (s₁.setTop (mkF m 0 #[.val (.int (4 : Int32))] [])) t → Steps p.tables e below (s₁.setTop (entryFrame m #[(.int (4 : Int32))] 1)) t := fun t k => castTop (ef_method_3_code_I m (4 : Int32)) k
  have P0 := P; obtain ⟨S0, E0, F0_ordinal, S1, E1, F1_ordinal, S2, E2, F2_ordinal, S3, E3, F3_ordinal, S4, E4, F4_ordinal, S5, E5, F5_ordinal⟩ := P0
  obtain ⟨T5, X5, e5, st5⟩ := getS2 X0 hx hZ hown (host := "") (Or.inl (hw _ (List.mem_of_getElem? (i := 32) rfl))) Via.refl e0 S2 (g := (mkF m 40 #[.val (.int (4 : Int32))] [])) rfl (hb hby d_method_3_code_40)
  obtain ⟨fs, hr, hrun, hended, hW, hsame⟩ := X5.leave (v := some (.ref w2)) (fun h => by rw [Bd.returns] at h; cases h)
  refine ⟨_, _, pre0 _ ?_, hrun, hended, _, _, rfl, ?_, ⟨_, rfl⟩, hW, hsame.mono (by decide) (by decide)⟩
  · show Steps p.tables e below (s₁.setTop (mkF m 0 #[.val (.int (4 : Int32))] [])) _
    refine XS.iloadN X0.here hx rfl (hb hby d_method_3_code_0) rfl ?_
    show Steps p.tables e below (s₁.setTop (mkF m 1 #[.val (.int (4 : Int32))] [(.int (4 : Int32))])) _
    refine XS.ifYes X0.here hx rfl (pc0 := 1) (pc' := 8) rfl (hb hby d_method_3_code_1) rfl (by decide) (by decide) (by decide) ?_
    show Steps p.tables e below (s₁.setTop (mkF m 8 #[.val (.int (4 : Int32))] [])) _
    refine XS.iloadN X0.here hx rfl (hb hby d_method_3_code_8) rfl ?_
    show Steps p.tables e below (s₁.setTop (mkF m 9 #[.val (.int (4 : Int32))] [(.int (4 : Int32))])) _
    refine XT.iconstV X0.here hx rfl (1 : Int32) (hb hby d_method_3_code_9) rfl ?_
    show Steps p.tables e below (s₁.setTop (mkF m 10 #[.val (.int (4 : Int32))] [(.int (1 : Int32)), (.int (4 : Int32))])) _
    refine XS.icmpYes X0.here hx rfl (pc0 := 10) (pc' := 17) rfl (hb hby d_method_3_code_10) rfl (by decide) (by decide) (by decide) ?_
    show Steps p.tables e below (s₁.setTop (mkF m 17 #[.val (.int (4 : Int32))] [])) _
    refine XS.iloadN X0.here hx rfl (hb hby d_method_3_code_17) rfl ?_
    show Steps p.tables e below (s₁.setTop (mkF m 18 #[.val (.int (4 : Int32))] [(.int (4 : Int32))])) _
    refine XT.iconstV X0.here hx rfl (2 : Int32) (hb hby d_method_3_code_18) rfl ?_
    show Steps p.tables e below (s₁.setTop (mkF m 19 #[.val (.int (4 : Int32))] [(.int (2 : Int32)), (.int (4 : Int32))])) _
    refine XS.icmpYes X0.here hx rfl (pc0 := 19) (pc' := 26) rfl (hb hby d_method_3_code_19) rfl (by decide) (by decide) (by decide) ?_
    show Steps p.tables e below (s₁.setTop (mkF m 26 #[.val (.int (4 : Int32))] [])) _
    refine XS.iloadN X0.here hx rfl (hb hby d_method_3_code_26) rfl ?_
    show Steps p.tables e below (s₁.setTop (mkF m 27 #[.val (.int (4 : Int32))] [(.int (4 : Int32))])) _
    refine XT.iconstV X0.here hx rfl (3 : Int32) (hb hby d_method_3_code_27) rfl ?_
    show Steps p.tables e below (s₁.setTop (mkF m 28 #[.val (.int (4 : Int32))] [(.int (3 : Int32)), (.int (4 : Int32))])) _
    refine XS.icmpYes X0.here hx rfl (pc0 := 28) (pc' := 35) rfl (hb hby d_method_3_code_28) rfl (by decide) (by decide) (by decide) ?_
    show Steps p.tables e below (s₁.setTop (mkF m 35 #[.val (.int (4 : Int32))] [])) _
    refine XS.iloadN X0.here hx rfl (hb hby d_method_3_code_35) rfl ?_
    show Steps p.tables e below (s₁.setTop (mkF m 36 #[.val (.int (4 : Int32))] [(.int (4 : Int32))])) _
    refine XT.iconstV X0.here hx rfl (4 : Int32) (hb hby d_method_3_code_36) rfl ?_
    show Steps p.tables e below (s₁.setTop (mkF m 37 #[.val (.int (4 : Int32))] [(.int (4 : Int32)), (.int (4 : Int32))])) _
    refine XS.icmpNo X0.here hx rfl (hb hby d_method_3_code_37) rfl (by decide) ?_
    show Steps p.tables e below (s₁.setTop (mkF m 40 #[.val (.int (4 : Int32))] [])) _
    refine st5 _ ?_
    show Steps p.tables e below (T5.setTop (mkF m 43 #[.val (.int (4 : Int32))] [(.ref w2)])) _
    jvm_step X5.here [X5.here.top, hx, (hb hby d_method_3_code_43), X5.method', Bd.returns, Value.isRef, FieldType.isReference]
    first | (intro acts; rw [hr _ acts rfl rfl rfl]) | rw [hr _ _ rfl rfl rfl]
    exact Steps.refl _
  · show own_Q (some (.ref w2)) h0 n0 _ T5.heap _
    rw [e5]
    exact ⟨rfl, N0, rfl⟩
theorem d_method_3_code_44 : decode method_3_code 44 = .ok (.getstatic 39, 3) := by decide +kernel
theorem d_method_3_code_47 : decode method_3_code 47 = .ok (.areturn, 1) := by decide +kernel
set_option maxRecDepth 65536 in
set_option maxHeartbeats 40000000 in
theorem own_pick_5 (l : Launch) (Z : State) (a0 : Array Value) (hw : ∀ d ∈ tables_1, d.before a0 Z = true) (ws : List Jvm.Cond) (w0 w1 w2 w3 w4 w5 : Addr) (h0 : Heap) (n0 : Nat) (Z0 : n0 ≤ h0.size) (P : own_P Z h0 w0 w1 w2 w3 w4 w5) :
    MetFree l (⟨"com/example/orbweave/orbweave/UrlStateWaitingPinLaw", "pick", "(I)Lcom/example/orbweave/orbweave/UrlState;"⟩ : MethodName) (head1 (Jvm.Cond.code (⟨"com/example/orbweave/orbweave/UrlStateWaitingPinLaw", "pick", "(I)Lcom/example/orbweave/orbweave/UrlState;"⟩ : MethodName) method_3_code 1 (some (.object "com/example/orbweave/orbweave/UrlState")) :: ws) ({ frames := 0, cells := 0, slots := 0, locals := 0 } : Room)) (fun a U => a = #[(.int (5 : Int32))] ∧ Z.Warmed39 U.vm ∧ U.heap = h0) (fun _ _ _ _ _ => True) (fun _ U o U' => ∃ v L, o = .returned v ∧ own_Q (some (.ref w3)) h0 n0 v U'.heap L ∧ FrameEnd U o U' L ({ frames := 0, cells := 0, slots := 0, locals := 0 } : Room).cells ({ frames := 0, cells := 0, slots := 0, locals := 0 } : Room).slots) := by
  refine MetFree.of_bodySF (plainFor_of_name pn_com_example_orbweave_orbweave_UrlStateWaitingPinLaw) hisR ?_
  intro p e s m args below meth c s₁ Bd hml0 hP hK
  obtain ⟨rfl, hZ, hh⟩ := hP
  have hx := Bd.exec
  have hby := Bd.bytes
  have hml : c.maxLocals = 1 := hml0
  have hown : s.vm.findClass "com/example/orbweave/orbweave/UrlStateWaitingPinLaw" = some m.cls := findClass_of_methodNamed Bd.named
  have hnm := (name_of_methodNamed Bd.named Bd.method).1
  have X0 : Stand p l e ({ frames := 0, cells := 0, slots := 0, locals := 0 } : Room) s m #[(.int (5 : Int32))] below meth c s₁ [] 0 0 := Stand.of_body Bd
  have e0 : s₁.heap = h0 := by rw [← hh, Bd.state]; rfl
  have N0 := Fr.nil n0
  have pre0 : ∀ t, Steps p.tables e below (s₁.setTop (mkF m 0 #[.val (.int (5 : Int32))] [])) t → Steps p.tables e below (s₁.setTop (entryFrame m #[(.int (5 : Int32))] 1)) t := fun t k => castTop (ef_method_3_code_I m (5 : Int32)) k
  have P0 := P; obtain ⟨S0, E0, F0_ordinal, S1, E1, F1_ordinal, S2, E2, F2_ordinal, S3, E3, F3_ordinal, S4, E4, F4_ordinal, S5, E5, F5_ordinal⟩ := P0
  obtain ⟨T6, X6, e6, st6⟩ := getS2 X0 hx hZ hown (host := "") (Or.inl (hw _ (List.mem_of_getElem? (i := 31) rfl))) Via.refl e0 S3 (g := (mkF m 44 #[.val (.int (5 : Int32))] [])) rfl (hb hby d_method_3_code_44)
  obtain ⟨fs, hr, hrun, hended, hW, hsame⟩ := X6.leave (v := some (.ref w3)) (fun h => by rw [Bd.returns] at h; cases h)
  refine ⟨_, _, pre0 _ ?_, hrun, hended, _, _, rfl, ?_, ⟨_, rfl⟩, hW, hsame.mono (by decide) (by decide)⟩
  · show Steps p.tables e below (s₁.setTop (mkF m 0 #[.val (.int (5 : Int32))] [])) _
    refine XS.iloadN X0.here hx rfl (hb hby d_method_3_code_0) rfl ?_
    show Steps p.tables e below (s₁.setTop (mkF m 1 #[.val (.int (5 : Int32))] [(.int (5 : Int32))])) _
    refine XS.ifYes X0.here hx rfl (pc0 := 1) (pc' := 8) rfl (hb hby d_method_3_code_1) rfl (by decide) (by decide) (by decide) ?_
    show Steps p.tables e below (s₁.setTop (mkF m 8 #[.val (.int (5 : Int32))] [])) _
    refine XS.iloadN X0.here hx rfl (hb hby d_method_3_code_8) rfl ?_
    show Steps p.tables e below (s₁.setTop (mkF m 9 #[.val (.int (5 : Int32))] [(.int (5 : Int32))])) _
    refine XT.iconstV X0.here hx rfl (1 : Int32) (hb hby d_method_3_code_9) rfl ?_
    show Steps p.tables e below (s₁.setTop (mkF m 10 #[.val (.int (5 : Int32))] [(.int (1 : Int32)), (.int (5 : Int32))])) _
    refine XS.icmpYes X0.here hx rfl (pc0 := 10) (pc' := 17) rfl (hb hby d_method_3_code_10) rfl (by decide) (by decide) (by decide) ?_
    show Steps p.tables e below (s₁.setTop (mkF m 17 #[.val (.int (5 : Int32))] [])) _
    refine XS.iloadN X0.here hx rfl (hb hby d_method_3_code_17) rfl ?_
    show Steps p.tables e below (s₁.setTop (mkF m 18 #[.val (.int (5 : Int32))] [(.int (5 : Int32))])) _
    refine XT.iconstV X0.here hx rfl (2 : Int32) (hb hby d_method_3_code_18) rfl ?_
    show Steps p.tables e below (s₁.setTop (mkF m 19 #[.val (.int (5 : Int32))] [(.int (2 : Int32)), (.int (5 : Int32))])) _
    refine XS.icmpYes X0.here hx rfl (pc0 := 19) (pc' := 26) rfl (hb hby d_method_3_code_19) rfl (by decide) (by decide) (by decide) ?_
    show Steps p.tables e below (s₁.setTop (mkF m 26 #[.val (.int (5 : Int32))] [])) _
    refine XS.iloadN X0.here hx rfl (hb hby d_method_3_code_26) rfl ?_
    show Steps p.tables e below (s₁.setTop (mkF m 27 #[.val (.int (5 : Int32))] [(.int (5 : Int32))])) _
    refine XT.iconstV X0.here hx rfl (3 : Int32) (hb hby d_method_3_code_27) rfl ?_
    show Steps p.tables e below (s₁.setTop (mkF m 28 #[.val (.int (5 : Int32))] [(.int (3 : Int32)), (.int (5 : Int32))])) _
    refine XS.icmpYes X0.here hx rfl (pc0 := 28) (pc' := 35) rfl (hb hby d_method_3_code_28) rfl (by decide) (by decide) (by decide) ?_
    show Steps p.tables e below (s₁.setTop (mkF m 35 #[.val (.int (5 : Int32))] [])) _
    refine XS.iloadN X0.here hx rfl (hb hby d_method_3_code_35) rfl ?_
    show Steps p.tables e below (s₁.setTop (mkF m 36 #[.val (.int (5 : Int32))] [(.int (5 : Int32))])) _
    refine XT.iconstV X0.here hx rfl (4 : Int32) (hb hby d_method_3_code_36) rfl ?_
    show Steps p.tables e below (s₁.setTop (mkF m 37 #[.val (.int (5 : Int32))] [(.int (4 : Int32)), (.int (5 : Int32))])) _
    refine XS.icmpYes X0.here hx rfl (pc0 := 37) (pc' := 44) rfl (hb hby d_method_3_code_37) rfl (by decide) (by decide) (by decide) ?_
    show Steps p.tables e below (s₁.setTop (mkF m 44 #[.val (.int (5 : Int32))] [])) _
    refine st6 _ ?_
    show Steps p.tables e below (T6.setTop (mkF m 47 #[.val (.int (5 : Int32))] [(.ref w3)])) _
    jvm_step X6.here [X6.here.top, hx, (hb hby d_method_3_code_47), X6.method', Bd.returns, Value.isRef, FieldType.isReference]
    first | (intro acts; rw [hr _ acts rfl rfl rfl]) | rw [hr _ _ rfl rfl rfl]
    exact Steps.refl _
  · show own_Q (some (.ref w3)) h0 n0 _ T6.heap _
    rw [e6]
    exact ⟨rfl, N0, rfl⟩
theorem d_prog_6_method_4_code_0 : decode prog_6_method_4_code 0 = .ok (.aload_n 0, 1) := by decide +kernel
theorem d_prog_6_method_4_code_1 : decode prog_6_method_4_code 1 = .ok (.getstatic 3, 3) := by decide +kernel
theorem d_prog_6_method_4_code_4 : decode prog_6_method_4_code 4 = .ok (.if_acmp .eq 10, 3) := by decide +kernel
theorem d_prog_6_method_4_code_14 : decode prog_6_method_4_code 14 = .ok (.iconst 1, 1) := by decide +kernel
theorem d_prog_6_method_4_code_15 : decode prog_6_method_4_code 15 = .ok (.goto 4, 3) := by decide +kernel
theorem d_prog_6_method_4_code_19 : decode prog_6_method_4_code 19 = .ok (.ireturn, 1) := by decide +kernel
theorem ef_prog_6_method_4_code_A (m : MethodId) (x0 : Addr) : entryFrame m #[(.ref x0)] 1 = mkF m 0 #[.val (.ref x0)] [] := by first | (simp [entryFrame, mkF, argsToLocals, Value.category]; done) | rfl
theorem pn_com_example_orbweave_orbweave_UrlState : plainName "com/example/orbweave/orbweave/UrlState" = true := by first | (simp [plainName, overriddenIn]; done) | decide +kernel
set_option maxRecDepth 65536 in
set_option maxHeartbeats 40000000 in
theorem own_waiting_0 (l : Launch) (Z : State) (a0 : Array Value) (hw : ∀ d ∈ tables_1, d.before a0 Z = true) (ws : List Jvm.Cond) (w0 w1 w2 w3 w4 w5 : Addr) (h0 : Heap) (n0 : Nat) (Z0 : n0 ≤ h0.size) (P : own_P Z h0 w0 w1 w2 w3 w4 w5) :
    MetFree l (⟨"com/example/orbweave/orbweave/UrlState", "waiting", "()Z"⟩ : MethodName) (head1 (Jvm.Cond.code (⟨"com/example/orbweave/orbweave/UrlState", "waiting", "()Z"⟩ : MethodName) prog_6_method_4_code 1 (some .boolean) :: ws) ({ frames := 0, cells := 0, slots := 0, locals := 0 } : Room)) (fun a U => a = #[(.ref w0)] ∧ Z.Warmed39 U.vm ∧ U.heap = h0) (fun _ _ _ _ _ => True) (fun _ U o U' => ∃ v L, o = .returned v ∧ own_Q (some (.int (1 : Int32))) h0 n0 v U'.heap L ∧ FrameEnd U o U' L ({ frames := 0, cells := 0, slots := 0, locals := 0 } : Room).cells ({ frames := 0, cells := 0, slots := 0, locals := 0 } : Room).slots) := by
  refine MetFree.of_bodySF (plainFor_of_name pn_com_example_orbweave_orbweave_UrlState) hisR ?_
  intro p e s m args below meth c s₁ Bd hml0 hP hK
  obtain ⟨rfl, hZ, hh⟩ := hP
  have hx := Bd.exec
  have hby := Bd.bytes
  have hml : c.maxLocals = 1 := hml0
  have hown : s.vm.findClass "com/example/orbweave/orbweave/UrlState" = some m.cls := findClass_of_methodNamed Bd.named
  have hnm := (name_of_methodNamed Bd.named Bd.method).1
  have X0 : Stand p l e ({ frames := 0, cells := 0, slots := 0, locals := 0 } : Room) s m #[(.ref w0)] below meth c s₁ [] 0 0 := Stand.of_body Bd
  have e0 : s₁.heap = h0 := by rw [← hh, Bd.state]; rfl
  have N0 := Fr.nil n0
  have pre0 : ∀ t, Steps p.tables e below (s₁.setTop (mkF m 0 #[.val (.ref w0)] [])) t → Steps p.tables e below (s₁.setTop (entryFrame m #[(.ref w0)] 1)) t := fun t k => castTop (ef_prog_6_method_4_code_A m w0) k
  have P0 := P; obtain ⟨S0, E0, F0_ordinal, S1, E1, F1_ordinal, S2, E2, F2_ordinal, S3, E3, F3_ordinal, S4, E4, F4_ordinal, S5, E5, F5_ordinal⟩ := P0
  obtain ⟨T7, X7, e7, st7⟩ := getS2 X0 hx hZ hown (host := "") (Or.inl (hw _ (List.mem_of_getElem? (i := 13) rfl))) Via.refl e0 S0 (g := (mkF m 1 #[.val (.ref w0)] [(.ref w0)])) rfl (hb hby d_prog_6_method_4_code_1)
  obtain ⟨fs, hr, hrun, hended, hW, hsame⟩ := X7.leave (v := some (.int (1 : Int32))) (fun h => by rw [Bd.returns] at h; cases h)
  refine ⟨_, _, pre0 _ ?_, hrun, hended, _, _, rfl, ?_, ⟨_, rfl⟩, hW, hsame.mono (by decide) (by decide)⟩
  · show Steps p.tables e below (s₁.setTop (mkF m 0 #[.val (.ref w0)] [])) _
    refine XS.aloadN X0.here hx rfl (hb hby d_prog_6_method_4_code_0) rfl rfl ?_
    show Steps p.tables e below (s₁.setTop (mkF m 1 #[.val (.ref w0)] [(.ref w0)])) _
    refine st7 _ ?_
    show Steps p.tables e below (T7.setTop (mkF m 4 #[.val (.ref w0)] [(.ref w0), (.ref w0)])) _
    refine Jvm.RoadKit.acmp (g := (mkF m 4 #[.val (.ref w0)] [(.ref w0), (.ref w0)])) X7 hx rfl rfl rfl (pc0 := 4) (pc' := 14) (same := true) rfl (hb hby d_prog_6_method_4_code_4) rfl (decide_eq_true rfl) (by decide) (by decide) ?_
    show Steps p.tables e below (T7.setTop (mkF m 14 #[.val (.ref w0)] [])) _
    refine XT.iconstV X7.here hx rfl (1 : Int32) (hb hby d_prog_6_method_4_code_14) rfl ?_
    show Steps p.tables e below (T7.setTop (mkF m 15 #[.val (.ref w0)] [(.int (1 : Int32))])) _
    refine XS.goto X7.here hx rfl (pc0 := 15) (pc' := 19) rfl (hb hby d_prog_6_method_4_code_15) (by decide) (by decide) ?_
    show Steps p.tables e below (T7.setTop (mkF m 19 #[.val (.ref w0)] [(.int (1 : Int32))])) _
    exact retN X7 hx (t := .boolean) Bd.returns (by simp) (hb hby d_prog_6_method_4_code_19) hr
  · show own_Q (some (.int (1 : Int32))) h0 n0 _ T7.heap _
    rw [e7]
    exact ⟨rfl, N0, rfl⟩
theorem d_prog_6_method_4_code_7 : decode prog_6_method_4_code 7 = .ok (.aload_n 0, 1) := by decide +kernel
theorem d_prog_6_method_4_code_8 : decode prog_6_method_4_code 8 = .ok (.getstatic 10, 3) := by decide +kernel
theorem d_prog_6_method_4_code_11 : decode prog_6_method_4_code 11 = .ok (.if_acmp .ne 7, 3) := by decide +kernel
theorem d_prog_6_method_4_code_18 : decode prog_6_method_4_code 18 = .ok (.iconst 0, 1) := by decide +kernel
set_option maxRecDepth 65536 in
set_option maxHeartbeats 40000000 in
theorem own_waiting_1 (l : Launch) (Z : State) (a0 : Array Value) (hw : ∀ d ∈ tables_1, d.before a0 Z = true) (ws : List Jvm.Cond) (w0 w1 w2 w3 w4 w5 : Addr) (h0 : Heap) (n0 : Nat) (Z0 : n0 ≤ h0.size) (P : own_P Z h0 w0 w1 w2 w3 w4 w5) :
    MetFree l (⟨"com/example/orbweave/orbweave/UrlState", "waiting", "()Z"⟩ : MethodName) (head1 (Jvm.Cond.code (⟨"com/example/orbweave/orbweave/UrlState", "waiting", "()Z"⟩ : MethodName) prog_6_method_4_code 1 (some .boolean) :: ws) ({ frames := 0, cells := 0, slots := 0, locals := 0 } : Room)) (fun a U => a = #[(.ref w1)] ∧ Z.Warmed39 U.vm ∧ U.heap = h0) (fun _ _ _ _ _ => True) (fun _ U o U' => ∃ v L, o = .returned v ∧ own_Q (some (.int (0 : Int32))) h0 n0 v U'.heap L ∧ FrameEnd U o U' L ({ frames := 0, cells := 0, slots := 0, locals := 0 } : Room).cells ({ frames := 0, cells := 0, slots := 0, locals := 0 } : Room).slots) := by
  refine MetFree.of_bodySF (plainFor_of_name pn_com_example_orbweave_orbweave_UrlState) hisR ?_
  intro p e s m args below meth c s₁ Bd hml0 hP hK
  obtain ⟨rfl, hZ, hh⟩ := hP
  have hx := Bd.exec
  have hby := Bd.bytes
  have hml : c.maxLocals = 1 := hml0
  have hown : s.vm.findClass "com/example/orbweave/orbweave/UrlState" = some m.cls := findClass_of_methodNamed Bd.named
  have hnm := (name_of_methodNamed Bd.named Bd.method).1
  have X0 : Stand p l e ({ frames := 0, cells := 0, slots := 0, locals := 0 } : Room) s m #[(.ref w1)] below meth c s₁ [] 0 0 := Stand.of_body Bd
  have e0 : s₁.heap = h0 := by rw [← hh, Bd.state]; rfl
  have N0 := Fr.nil n0
  have pre0 : ∀ t, Steps p.tables e below (s₁.setTop (mkF m 0 #[.val (.ref w1)] [])) t → Steps p.tables e below (s₁.setTop (entryFrame m #[(.ref w1)] 1)) t := fun t k => castTop (ef_prog_6_method_4_code_A m w1) k
  have P0 := P; obtain ⟨S0, E0, F0_ordinal, S1, E1, F1_ordinal, S2, E2, F2_ordinal, S3, E3, F3_ordinal, S4, E4, F4_ordinal, S5, E5, F5_ordinal⟩ := P0
  obtain ⟨T8, X8, e8, st8⟩ := getS2 X0 hx hZ hown (host := "") (Or.inl (hw _ (List.mem_of_getElem? (i := 13) rfl))) Via.refl e0 S0 (g := (mkF m 1 #[.val (.ref w1)] [(.ref w1)])) rfl (hb hby d_prog_6_method_4_code_1)
  obtain ⟨T9, X9, e9, st9⟩ := getS2 X8 hx hZ hown (host := "") (Or.inl (hw _ (List.mem_of_getElem? (i := 26) rfl))) Via.refl e8 S4 (g := (mkF m 8 #[.val (.ref w1)] [(.ref w1)])) rfl (hb hby d_prog_6_method_4_code_8)
  obtain ⟨fs, hr, hrun, hended, hW, hsame⟩ := X9.leave (v := some (.int (0 : Int32))) (fun h => by rw [Bd.returns] at h; cases h)
  refine ⟨_, _, pre0 _ ?_, hrun, hended, _, _, rfl, ?_, ⟨_, rfl⟩, hW, hsame.mono (by decide) (by decide)⟩
  · show Steps p.tables e below (s₁.setTop (mkF m 0 #[.val (.ref w1)] [])) _
    refine XS.aloadN X0.here hx rfl (hb hby d_prog_6_method_4_code_0) rfl rfl ?_
    show Steps p.tables e below (s₁.setTop (mkF m 1 #[.val (.ref w1)] [(.ref w1)])) _
    refine st8 _ ?_
    show Steps p.tables e below (T8.setTop (mkF m 4 #[.val (.ref w1)] [(.ref w0), (.ref w1)])) _
    refine Jvm.RoadKit.acmp (g := (mkF m 4 #[.val (.ref w1)] [(.ref w0), (.ref w1)])) X8 hx rfl rfl rfl (pc0 := 4) (pc' := 7) (same := false) rfl (hb hby d_prog_6_method_4_code_4) rfl (decide_eq_false (fun q => (F1_ordinal.ne F0_ordinal (by decide)) (Value.ref.inj q))) (by decide) (by decide) ?_
    show Steps p.tables e below (T8.setTop (mkF m 7 #[.val (.ref w1)] [])) _
    refine XS.aloadN X8.here hx rfl (hb hby d_prog_6_method_4_code_7) rfl rfl ?_
    show Steps p.tables e below (T8.setTop (mkF m 8 #[.val (.ref w1)] [(.ref w1)])) _
    refine st9 _ ?_
    show Steps p.tables e below (T9.setTop (mkF m 11 #[.val (.ref w1)] [(.ref w4), (.ref w1)])) _
    refine Jvm.RoadKit.acmp (g := (mkF m 11 #[.val (.ref w1)] [(.ref w4), (.ref w1)])) X9 hx rfl rfl rfl (pc0 := 11) (pc' := 18) (same := false) rfl (hb hby d_prog_6_method_4_code_11) rfl (decide_eq_false (fun q => (F1_ordinal.ne F4_ordinal (by decide)) (Value.ref.inj q))) (by decide) (by decide) ?_
    show Steps p.tables e below (T9.setTop (mkF m 18 #[.val (.ref w1)] [])) _
    refine XT.iconstV X9.here hx rfl (0 : Int32) (hb hby d_prog_6_method_4_code_18) rfl ?_
    show Steps p.tables e below (T9.setTop (mkF m 19 #[.val (.ref w1)] [(.int (0 : Int32))])) _
    exact retN X9 hx (t := .boolean) Bd.returns (by simp) (hb hby d_prog_6_method_4_code_19) hr
  · show own_Q (some (.int (0 : Int32))) h0 n0 _ T9.heap _
    rw [e9]
    exact ⟨rfl, N0, rfl⟩
set_option maxRecDepth 65536 in
set_option maxHeartbeats 40000000 in
theorem own_waiting_2 (l : Launch) (Z : State) (a0 : Array Value) (hw : ∀ d ∈ tables_1, d.before a0 Z = true) (ws : List Jvm.Cond) (w0 w1 w2 w3 w4 w5 : Addr) (h0 : Heap) (n0 : Nat) (Z0 : n0 ≤ h0.size) (P : own_P Z h0 w0 w1 w2 w3 w4 w5) :
    MetFree l (⟨"com/example/orbweave/orbweave/UrlState", "waiting", "()Z"⟩ : MethodName) (head1 (Jvm.Cond.code (⟨"com/example/orbweave/orbweave/UrlState", "waiting", "()Z"⟩ : MethodName) prog_6_method_4_code 1 (some .boolean) :: ws) ({ frames := 0, cells := 0, slots := 0, locals := 0 } : Room)) (fun a U => a = #[(.ref w2)] ∧ Z.Warmed39 U.vm ∧ U.heap = h0) (fun _ _ _ _ _ => True) (fun _ U o U' => ∃ v L, o = .returned v ∧ own_Q (some (.int (0 : Int32))) h0 n0 v U'.heap L ∧ FrameEnd U o U' L ({ frames := 0, cells := 0, slots := 0, locals := 0 } : Room).cells ({ frames := 0, cells := 0, slots := 0, locals := 0 } : Room).slots) := by
  refine MetFree.of_bodySF (plainFor_of_name pn_com_example_orbweave_orbweave_UrlState) hisR ?_
  intro p e s m args below meth c s₁ Bd hml0 hP hK
  obtain ⟨rfl, hZ, hh⟩ := hP
  have hx := Bd.exec
  have hby := Bd.bytes
  have hml : c.maxLocals = 1 := hml0
  have hown : s.vm.findClass "com/example/orbweave/orbweave/UrlState" = some m.cls := findClass_of_methodNamed Bd.named
  have hnm := (name_of_methodNamed Bd.named Bd.method).1
  have X0 : Stand p l e ({ frames := 0, cells := 0, slots := 0, locals := 0 } : Room) s m #[(.ref w2)] below meth c s₁ [] 0 0 := Stand.of_body Bd
  have e0 : s₁.heap = h0 := by rw [← hh, Bd.state]; rfl
  have N0 := Fr.nil n0
  have pre0 : ∀ t, Steps p.tables e below (s₁.setTop (mkF m 0 #[.val (.ref w2)] [])) t → Steps p.tables e below (s₁.setTop (entryFrame m #[(.ref w2)] 1)) t := fun t k => castTop (ef_prog_6_method_4_code_A m w2) k
  have P0 := P; obtain ⟨S0, E0, F0_ordinal, S1, E1, F1_ordinal, S2, E2, F2_ordinal, S3, E3, F3_ordinal, S4, E4, F4_ordinal, S5, E5, F5_ordinal⟩ := P0
  obtain ⟨T10, X10, e10, st10⟩ := getS2 X0 hx hZ hown (host := "") (Or.inl (hw _ (List.mem_of_getElem? (i := 13) rfl))) Via.refl e0 S0 (g := (mkF m 1 #[.val (.ref w2)] [(.ref w2)])) rfl (hb hby d_prog_6_method_4_code_1)
  obtain ⟨T11, X11, e11, st11⟩ := getS2 X10 hx hZ hown (host := "") (Or.inl (hw _ (List.mem_of_getElem? (i := 26) rfl))) Via.refl e10 S4 (g := (mkF m 8 #[.val (.ref w2)] [(.ref w2)])) rfl (hb hby d_prog_6_method_4_code_8)
  obtain ⟨fs, hr, hrun, hended, hW, hsame⟩ := X11.leave (v := some (.int (0 : Int32))) (fun h => by rw [Bd.returns] at h; cases h)
  refine ⟨_, _, pre0 _ ?_, hrun, hended, _, _, rfl, ?_, ⟨_, rfl⟩, hW, hsame.mono (by decide) (by decide)⟩
  · show Steps p.tables e below (s₁.setTop (mkF m 0 #[.val (.ref w2)] [])) _
    refine XS.aloadN X0.here hx rfl (hb hby d_prog_6_method_4_code_0) rfl rfl ?_
    show Steps p.tables e below (s₁.setTop (mkF m 1 #[.val (.ref w2)] [(.ref w2)])) _
    refine st10 _ ?_
    show Steps p.tables e below (T10.setTop (mkF m 4 #[.val (.ref w2)] [(.ref w0), (.ref w2)])) _
    refine Jvm.RoadKit.acmp (g := (mkF m 4 #[.val (.ref w2)] [(.ref w0), (.ref w2)])) X10 hx rfl rfl rfl (pc0 := 4) (pc' := 7) (same := false) rfl (hb hby d_prog_6_method_4_code_4) rfl (decide_eq_false (fun q => (F2_ordinal.ne F0_ordinal (by decide)) (Value.ref.inj q))) (by decide) (by decide) ?_
    show Steps p.tables e below (T10.setTop (mkF m 7 #[.val (.ref w2)] [])) _
    refine XS.aloadN X10.here hx rfl (hb hby d_prog_6_method_4_code_7) rfl rfl ?_
    show Steps p.tables e below (T10.setTop (mkF m 8 #[.val (.ref w2)] [(.ref w2)])) _
    refine st11 _ ?_
    show Steps p.tables e below (T11.setTop (mkF m 11 #[.val (.ref w2)] [(.ref w4), (.ref w2)])) _
    refine Jvm.RoadKit.acmp (g := (mkF m 11 #[.val (.ref w2)] [(.ref w4), (.ref w2)])) X11 hx rfl rfl rfl (pc0 := 11) (pc' := 18) (same := false) rfl (hb hby d_prog_6_method_4_code_11) rfl (decide_eq_false (fun q => (F2_ordinal.ne F4_ordinal (by decide)) (Value.ref.inj q))) (by decide) (by decide) ?_
    show Steps p.tables e below (T11.setTop (mkF m 18 #[.val (.ref w2)] [])) _
    refine XT.iconstV X11.here hx rfl (0 : Int32) (hb hby d_prog_6_method_4_code_18) rfl ?_
    show Steps p.tables e below (T11.setTop (mkF m 19 #[.val (.ref w2)] [(.int (0 : Int32))])) _
    exact retN X11 hx (t := .boolean) Bd.returns (by simp) (hb hby d_prog_6_method_4_code_19) hr
  · show own_Q (some (.int (0 : Int32))) h0 n0 _ T11.heap _
    rw [e11]
    exact ⟨rfl, N0, rfl⟩
set_option maxRecDepth 65536 in
set_option maxHeartbeats 40000000 in
theorem own_waiting_3 (l : Launch) (Z : State) (a0 : Array Value) (hw : ∀ d ∈ tables_1, d.before a0 Z = true) (ws : List Jvm.Cond) (w0 w1 w2 w3 w4 w5 : Addr) (h0 : Heap) (n0 : Nat) (Z0 : n0 ≤ h0.size) (P : own_P Z h0 w0 w1 w2 w3 w4 w5) :
    MetFree l (⟨"com/example/orbweave/orbweave/UrlState", "waiting", "()Z"⟩ : MethodName) (head1 (Jvm.Cond.code (⟨"com/example/orbweave/orbweave/UrlState", "waiting", "()Z"⟩ : MethodName) prog_6_method_4_code 1 (some .boolean) :: ws) ({ frames := 0, cells := 0, slots := 0, locals := 0 } : Room)) (fun a U => a = #[(.ref w3)] ∧ Z.Warmed39 U.vm ∧ U.heap = h0) (fun _ _ _ _ _ => True) (fun _ U o U' => ∃ v L, o = .returned v ∧ own_Q (some (.int (0 : Int32))) h0 n0 v U'.heap L ∧ FrameEnd U o U' L ({ frames := 0, cells := 0, slots := 0, locals := 0 } : Room).cells ({ frames := 0, cells := 0, slots := 0, locals := 0 } : Room).slots) := by
  refine MetFree.of_bodySF (plainFor_of_name pn_com_example_orbweave_orbweave_UrlState) hisR ?_
  intro p e s m args below meth c s₁ Bd hml0 hP hK
  obtain ⟨rfl, hZ, hh⟩ := hP
  have hx := Bd.exec
  have hby := Bd.bytes
  have hml : c.maxLocals = 1 := hml0
  have hown : s.vm.findClass "com/example/orbweave/orbweave/UrlState" = some m.cls := findClass_of_methodNamed Bd.named
  have hnm := (name_of_methodNamed Bd.named Bd.method).1
  have X0 : Stand p l e ({ frames := 0, cells := 0, slots := 0, locals := 0 } : Room) s m #[(.ref w3)] below meth c s₁ [] 0 0 := Stand.of_body Bd
  have e0 : s₁.heap = h0 := by rw [← hh, Bd.state]; rfl
  have N0 := Fr.nil n0
  have pre0 : ∀ t, Steps p.tables e below (s₁.setTop (mkF m 0 #[.val (.ref w3)] [])) t → Steps p.tables e below (s₁.setTop (entryFrame m #[(.ref w3)] 1)) t := fun t k => castTop (ef_prog_6_method_4_code_A m w3) k
  have P0 := P; obtain ⟨S0, E0, F0_ordinal, S1, E1, F1_ordinal, S2, E2, F2_ordinal, S3, E3, F3_ordinal, S4, E4, F4_ordinal, S5, E5, F5_ordinal⟩ := P0
  obtain ⟨T12, X12, e12, st12⟩ := getS2 X0 hx hZ hown (host := "") (Or.inl (hw _ (List.mem_of_getElem? (i := 13) rfl))) Via.refl e0 S0 (g := (mkF m 1 #[.val (.ref w3)] [(.ref w3)])) rfl (hb hby d_prog_6_method_4_code_1)
  obtain ⟨T13, X13, e13, st13⟩ := getS2 X12 hx hZ hown (host := "") (Or.inl (hw _ (List.mem_of_getElem? (i := 26) rfl))) Via.refl e12 S4 (g := (mkF m 8 #[.val (.ref w3)] [(.ref w3)])) rfl (hb hby d_prog_6_method_4_code_8)
  obtain ⟨fs, hr, hrun, hended, hW, hsame⟩ := X13.leave (v := some (.int (0 : Int32))) (fun h => by rw [Bd.returns] at h; cases h)
  refine ⟨_, _, pre0 _ ?_, hrun, hended, _, _, rfl, ?_, ⟨_, rfl⟩, hW, hsame.mono (by decide) (by decide)⟩
  · show Steps p.tables e below (s₁.setTop (mkF m 0 #[.val (.ref w3)] [])) _
    refine XS.aloadN X0.here hx rfl (hb hby d_prog_6_method_4_code_0) rfl rfl ?_
    show Steps p.tables e below (s₁.setTop (mkF m 1 #[.val (.ref w3)] [(.ref w3)])) _
    refine st12 _ ?_
    show Steps p.tables e below (T12.setTop (mkF m 4 #[.val (.ref w3)] [(.ref w0), (.ref w3)])) _
    refine Jvm.RoadKit.acmp (g := (mkF m 4 #[.val (.ref w3)] [(.ref w0), (.ref w3)])) X12 hx rfl rfl rfl (pc0 := 4) (pc' := 7) (same := false) rfl (hb hby d_prog_6_method_4_code_4) rfl (decide_eq_false (fun q => (F3_ordinal.ne F0_ordinal (by decide)) (Value.ref.inj q))) (by decide) (by decide) ?_
    show Steps p.tables e below (T12.setTop (mkF m 7 #[.val (.ref w3)] [])) _
    refine XS.aloadN X12.here hx rfl (hb hby d_prog_6_method_4_code_7) rfl rfl ?_
    show Steps p.tables e below (T12.setTop (mkF m 8 #[.val (.ref w3)] [(.ref w3)])) _
    refine st13 _ ?_
    show Steps p.tables e below (T13.setTop (mkF m 11 #[.val (.ref w3)] [(.ref w4), (.ref w3)])) _
    refine Jvm.RoadKit.acmp (g := (mkF m 11 #[.val (.ref w3)] [(.ref w4), (.ref w3)])) X13 hx rfl rfl rfl (pc0 := 11) (pc' := 18) (same := false) rfl (hb hby d_prog_6_method_4_code_11) rfl (decide_eq_false (fun q => (F3_ordinal.ne F4_ordinal (by decide)) (Value.ref.inj q))) (by decide) (by decide) ?_
    show Steps p.tables e below (T13.setTop (mkF m 18 #[.val (.ref w3)] [])) _
    refine XT.iconstV X13.here hx rfl (0 : Int32) (hb hby d_prog_6_method_4_code_18) rfl ?_
    show Steps p.tables e below (T13.setTop (mkF m 19 #[.val (.ref w3)] [(.int (0 : Int32))])) _
    exact retN X13 hx (t := .boolean) Bd.returns (by simp) (hb hby d_prog_6_method_4_code_19) hr
  · show own_Q (some (.int (0 : Int32))) h0 n0 _ T13.heap _
    rw [e13]
    exact ⟨rfl, N0, rfl⟩
set_option maxRecDepth 65536 in
set_option maxHeartbeats 40000000 in
theorem own_waiting_4 (l : Launch) (Z : State) (a0 : Array Value) (hw : ∀ d ∈ tables_1, d.before a0 Z = true) (ws : List Jvm.Cond) (w0 w1 w2 w3 w4 w5 : Addr) (h0 : Heap) (n0 : Nat) (Z0 : n0 ≤ h0.size) (P : own_P Z h0 w0 w1 w2 w3 w4 w5) :
    MetFree l (⟨"com/example/orbweave/orbweave/UrlState", "waiting", "()Z"⟩ : MethodName) (head1 (Jvm.Cond.code (⟨"com/example/orbweave/orbweave/UrlState", "waiting", "()Z"⟩ : MethodName) prog_6_method_4_code 1 (some .boolean) :: ws) ({ frames := 0, cells := 0, slots := 0, locals := 0 } : Room)) (fun a U => a = #[(.ref w4)] ∧ Z.Warmed39 U.vm ∧ U.heap = h0) (fun _ _ _ _ _ => True) (fun _ U o U' => ∃ v L, o = .returned v ∧ own_Q (some (.int (1 : Int32))) h0 n0 v U'.heap L ∧ FrameEnd U o U' L ({ frames := 0, cells := 0, slots := 0, locals := 0 } : Room).cells ({ frames := 0, cells := 0, slots := 0, locals := 0 } : Room).slots) := by
  refine MetFree.of_bodySF (plainFor_of_name pn_com_example_orbweave_orbweave_UrlState) hisR ?_
  intro p e s m args below meth c s₁ Bd hml0 hP hK
  obtain ⟨rfl, hZ, hh⟩ := hP
  have hx := Bd.exec
  have hby := Bd.bytes
  have hml : c.maxLocals = 1 := hml0
  have hown : s.vm.findClass "com/example/orbweave/orbweave/UrlState" = some m.cls := findClass_of_methodNamed Bd.named
  have hnm := (name_of_methodNamed Bd.named Bd.method).1
  have X0 : Stand p l e ({ frames := 0, cells := 0, slots := 0, locals := 0 } : Room) s m #[(.ref w4)] below meth c s₁ [] 0 0 := Stand.of_body Bd
  have e0 : s₁.heap = h0 := by rw [← hh, Bd.state]; rfl
  have N0 := Fr.nil n0
  have pre0 : ∀ t, Steps p.tables e below (s₁.setTop (mkF m 0 #[.val (.ref w4)] [])) t → Steps p.tables e below (s₁.setTop (entryFrame m #[(.ref w4)] 1)) t := fun t k => castTop (ef_prog_6_method_4_code_A m w4) k
  have P0 := P; obtain ⟨S0, E0, F0_ordinal, S1, E1, F1_ordinal, S2, E2, F2_ordinal, S3, E3, F3_ordinal, S4, E4, F4_ordinal, S5, E5, F5_ordinal⟩ := P0
  obtain ⟨T14, X14, e14, st14⟩ := getS2 X0 hx hZ hown (host := "") (Or.inl (hw _ (List.mem_of_getElem? (i := 13) rfl))) Via.refl e0 S0 (g := (mkF m 1 #[.val (.ref w4)] [(.ref w4)])) rfl (hb hby d_prog_6_method_4_code_1)
  obtain ⟨T15, X15, e15, st15⟩ := getS2 X14 hx hZ hown (host := "") (Or.inl (hw _ (List.mem_of_getElem? (i := 26) rfl))) Via.refl e14 S4 (g := (mkF m 8 #[.val (.ref w4)] [(.ref w4)])) rfl (hb hby d_prog_6_method_4_code_8)
  obtain ⟨fs, hr, hrun, hended, hW, hsame⟩ := X15.leave (v := some (.int (1 : Int32))) (fun h => by rw [Bd.returns] at h; cases h)
  refine ⟨_, _, pre0 _ ?_, hrun, hended, _, _, rfl, ?_, ⟨_, rfl⟩, hW, hsame.mono (by decide) (by decide)⟩
  · show Steps p.tables e below (s₁.setTop (mkF m 0 #[.val (.ref w4)] [])) _
    refine XS.aloadN X0.here hx rfl (hb hby d_prog_6_method_4_code_0) rfl rfl ?_
    show Steps p.tables e below (s₁.setTop (mkF m 1 #[.val (.ref w4)] [(.ref w4)])) _
    refine st14 _ ?_
    show Steps p.tables e below (T14.setTop (mkF m 4 #[.val (.ref w4)] [(.ref w0), (.ref w4)])) _
    refine Jvm.RoadKit.acmp (g := (mkF m 4 #[.val (.ref w4)] [(.ref w0), (.ref w4)])) X14 hx rfl rfl rfl (pc0 := 4) (pc' := 7) (same := false) rfl (hb hby d_prog_6_method_4_code_4) rfl (decide_eq_false (fun q => (F4_ordinal.ne F0_ordinal (by decide)) (Value.ref.inj q))) (by decide) (by decide) ?_
    show Steps p.tables e below (T14.setTop (mkF m 7 #[.val (.ref w4)] [])) _
    refine XS.aloadN X14.here hx rfl (hb hby d_prog_6_method_4_code_7) rfl rfl ?_
    show Steps p.tables e below (T14.setTop (mkF m 8 #[.val (.ref w4)] [(.ref w4)])) _
    refine st15 _ ?_
    show Steps p.tables e below (T15.setTop (mkF m 11 #[.val (.ref w4)] [(.ref w4), (.ref w4)])) _
    refine Jvm.RoadKit.acmp (g := (mkF m 11 #[.val (.ref w4)] [(.ref w4), (.ref w4)])) X15 hx rfl rfl rfl (pc0 := 11) (pc' := 14) (same := true) rfl (hb hby d_prog_6_method_4_code_11) rfl (decide_eq_true rfl) (by decide) (by decide) ?_
    show Steps p.tables e below (T15.setTop (mkF m 14 #[.val (.ref w4)] [])) _
    refine XT.iconstV X15.here hx rfl (1 : Int32) (hb hby d_prog_6_method_4_code_14) rfl ?_
    show Steps p.tables e below (T15.setTop (mkF m 15 #[.val (.ref w4)] [(.int (1 : Int32))])) _
    refine XS.goto X15.here hx rfl (pc0 := 15) (pc' := 19) rfl (hb hby d_prog_6_method_4_code_15) (by decide) (by decide) ?_
    show Steps p.tables e below (T15.setTop (mkF m 19 #[.val (.ref w4)] [(.int (1 : Int32))])) _
    exact retN X15 hx (t := .boolean) Bd.returns (by simp) (hb hby d_prog_6_method_4_code_19) hr
  · show own_Q (some (.int (1 : Int32))) h0 n0 _ T15.heap _
    rw [e15]
    exact ⟨rfl, N0, rfl⟩
set_option maxRecDepth 65536 in
set_option maxHeartbeats 40000000 in
theorem own_waiting_5 (l : Launch) (Z : State) (a0 : Array Value) (hw : ∀ d ∈ tables_1, d.before a0 Z = true) (ws : List Jvm.Cond) (w0 w1 w2 w3 w4 w5 : Addr) (h0 : Heap) (n0 : Nat) (Z0 : n0 ≤ h0.size) (P : own_P Z h0 w0 w1 w2 w3 w4 w5) :
    MetFree l (⟨"com/example/orbweave/orbweave/UrlState", "waiting", "()Z"⟩ : MethodName) (head1 (Jvm.Cond.code (⟨"com/example/orbweave/orbweave/UrlState", "waiting", "()Z"⟩ : MethodName) prog_6_method_4_code 1 (some .boolean) :: ws) ({ frames := 0, cells := 0, slots := 0, locals := 0 } : Room)) (fun a U => a = #[(.ref w5)] ∧ Z.Warmed39 U.vm ∧ U.heap = h0) (fun _ _ _ _ _ => True) (fun _ U o U' => ∃ v L, o = .returned v ∧ own_Q (some (.int (0 : Int32))) h0 n0 v U'.heap L ∧ FrameEnd U o U' L ({ frames := 0, cells := 0, slots := 0, locals := 0 } : Room).cells ({ frames := 0, cells := 0, slots := 0, locals := 0 } : Room).slots) := by
  refine MetFree.of_bodySF (plainFor_of_name pn_com_example_orbweave_orbweave_UrlState) hisR ?_
  intro p e s m args below meth c s₁ Bd hml0 hP hK
  obtain ⟨rfl, hZ, hh⟩ := hP
  have hx := Bd.exec
  have hby := Bd.bytes
  have hml : c.maxLocals = 1 := hml0
  have hown : s.vm.findClass "com/example/orbweave/orbweave/UrlState" = some m.cls := findClass_of_methodNamed Bd.named
  have hnm := (name_of_methodNamed Bd.named Bd.method).1
  have X0 : Stand p l e ({ frames := 0, cells := 0, slots := 0, locals := 0 } : Room) s m #[(.ref w5)] below meth c s₁ [] 0 0 := Stand.of_body Bd
  have e0 : s₁.heap = h0 := by rw [← hh, Bd.state]; rfl
  have N0 := Fr.nil n0
  have pre0 : ∀ t, Steps p.tables e below (s₁.setTop (mkF m 0 #[.val (.ref w5)] [])) t → Steps p.tables e below (s₁.setTop (entryFrame m #[(.ref w5)] 1)) t := fun t k => castTop (ef_prog_6_method_4_code_A m w5) k
  have P0 := P; obtain ⟨S0, E0, F0_ordinal, S1, E1, F1_ordinal, S2, E2, F2_ordinal, S3, E3, F3_ordinal, S4, E4, F4_ordinal, S5, E5, F5_ordinal⟩ := P0
  obtain ⟨T16, X16, e16, st16⟩ := getS2 X0 hx hZ hown (host := "") (Or.inl (hw _ (List.mem_of_getElem? (i := 13) rfl))) Via.refl e0 S0 (g := (mkF m 1 #[.val (.ref w5)] [(.ref w5)])) rfl (hb hby d_prog_6_method_4_code_1)
  obtain ⟨T17, X17, e17, st17⟩ := getS2 X16 hx hZ hown (host := "") (Or.inl (hw _ (List.mem_of_getElem? (i := 26) rfl))) Via.refl e16 S4 (g := (mkF m 8 #[.val (.ref w5)] [(.ref w5)])) rfl (hb hby d_prog_6_method_4_code_8)
  obtain ⟨fs, hr, hrun, hended, hW, hsame⟩ := X17.leave (v := some (.int (0 : Int32))) (fun h => by rw [Bd.returns] at h; cases h)
  refine ⟨_, _, pre0 _ ?_, hrun, hended, _, _, rfl, ?_, ⟨_, rfl⟩, hW, hsame.mono (by decide) (by decide)⟩
  · show Steps p.tables e below (s₁.setTop (mkF m 0 #[.val (.ref w5)] [])) _
    refine XS.aloadN X0.here hx rfl (hb hby d_prog_6_method_4_code_0) rfl rfl ?_
    show Steps p.tables e below (s₁.setTop (mkF m 1 #[.val (.ref w5)] [(.ref w5)])) _
    refine st16 _ ?_
    show Steps p.tables e below (T16.setTop (mkF m 4 #[.val (.ref w5)] [(.ref w0), (.ref w5)])) _
    refine Jvm.RoadKit.acmp (g := (mkF m 4 #[.val (.ref w5)] [(.ref w0), (.ref w5)])) X16 hx rfl rfl rfl (pc0 := 4) (pc' := 7) (same := false) rfl (hb hby d_prog_6_method_4_code_4) rfl (decide_eq_false (fun q => (F5_ordinal.ne F0_ordinal (by decide)) (Value.ref.inj q))) (by decide) (by decide) ?_
    show Steps p.tables e below (T16.setTop (mkF m 7 #[.val (.ref w5)] [])) _
    refine XS.aloadN X16.here hx rfl (hb hby d_prog_6_method_4_code_7) rfl rfl ?_
    show Steps p.tables e below (T16.setTop (mkF m 8 #[.val (.ref w5)] [(.ref w5)])) _
    refine st17 _ ?_
    show Steps p.tables e below (T17.setTop (mkF m 11 #[.val (.ref w5)] [(.ref w4), (.ref w5)])) _
    refine Jvm.RoadKit.acmp (g := (mkF m 11 #[.val (.ref w5)] [(.ref w4), (.ref w5)])) X17 hx rfl rfl rfl (pc0 := 11) (pc' := 18) (same := false) rfl (hb hby d_prog_6_method_4_code_11) rfl (decide_eq_false (fun q => (F5_ordinal.ne F4_ordinal (by decide)) (Value.ref.inj q))) (by decide) (by decide) ?_
    show Steps p.tables e below (T17.setTop (mkF m 18 #[.val (.ref w5)] [])) _
    refine XT.iconstV X17.here hx rfl (0 : Int32) (hb hby d_prog_6_method_4_code_18) rfl ?_
    show Steps p.tables e below (T17.setTop (mkF m 19 #[.val (.ref w5)] [(.int (0 : Int32))])) _
    exact retN X17 hx (t := .boolean) Bd.returns (by simp) (hb hby d_prog_6_method_4_code_19) hr
  · show own_Q (some (.int (0 : Int32))) h0 n0 _ T17.heap _
    rw [e17]
    exact ⟨rfl, N0, rfl⟩
theorem d_prog_6_method_5_code_0 : decode prog_6_method_5_code 0 = .ok (.aload_n 0, 1) := by decide +kernel
theorem d_prog_6_method_5_code_1 : decode prog_6_method_5_code 1 = .ok (.getstatic 13, 3) := by decide +kernel
theorem d_prog_6_method_5_code_4 : decode prog_6_method_5_code 4 = .ok (.if_acmp .eq 17, 3) := by decide +kernel
theorem d_prog_6_method_5_code_7 : decode prog_6_method_5_code 7 = .ok (.aload_n 0, 1) := by decide +kernel
theorem d_prog_6_method_5_code_8 : decode prog_6_method_5_code 8 = .ok (.getstatic 16, 3) := by decide +kernel
theorem d_prog_6_method_5_code_11 : decode prog_6_method_5_code 11 = .ok (.if_acmp .eq 10, 3) := by decide +kernel
theorem d_prog_6_method_5_code_14 : decode prog_6_method_5_code 14 = .ok (.aload_n 0, 1) := by decide +kernel
theorem d_prog_6_method_5_code_15 : decode prog_6_method_5_code 15 = .ok (.getstatic 19, 3) := by decide +kernel
theorem d_prog_6_method_5_code_18 : decode prog_6_method_5_code 18 = .ok (.if_acmp .ne 7, 3) := by decide +kernel
theorem d_prog_6_method_5_code_25 : decode prog_6_method_5_code 25 = .ok (.iconst 0, 1) := by decide +kernel
theorem d_prog_6_method_5_code_26 : decode prog_6_method_5_code 26 = .ok (.ireturn, 1) := by decide +kernel
theorem ef_prog_6_method_5_code_A (m : MethodId) (x0 : Addr) : entryFrame m #[(.ref x0)] 1 = mkF m 0 #[.val (.ref x0)] [] := by first | (simp [entryFrame, mkF, argsToLocals, Value.category]; done) | rfl
set_option maxRecDepth 65536 in
set_option maxHeartbeats 40000000 in
theorem own_requested_0 (l : Launch) (Z : State) (a0 : Array Value) (hw : ∀ d ∈ tables_1, d.before a0 Z = true) (ws : List Jvm.Cond) (w0 w1 w2 w3 w4 w5 : Addr) (h0 : Heap) (n0 : Nat) (Z0 : n0 ≤ h0.size) (P : own_P Z h0 w0 w1 w2 w3 w4 w5) :
    MetFree l (⟨"com/example/orbweave/orbweave/UrlState", "requested", "()Z"⟩ : MethodName) (head1 (Jvm.Cond.code (⟨"com/example/orbweave/orbweave/UrlState", "requested", "()Z"⟩ : MethodName) prog_6_method_5_code 1 (some .boolean) :: ws) ({ frames := 0, cells := 0, slots := 0, locals := 0 } : Room)) (fun a U => a = #[(.ref w0)] ∧ Z.Warmed39 U.vm ∧ U.heap = h0) (fun _ _ _ _ _ => True) (fun _ U o U' => ∃ v L, o = .returned v ∧ own_Q (some (.int (0 : Int32))) h0 n0 v U'.heap L ∧ FrameEnd U o U' L ({ frames := 0, cells := 0, slots := 0, locals := 0 } : Room).cells ({ frames := 0, cells := 0, slots := 0, locals := 0 } : Room).slots) := by
  refine MetFree.of_bodySF (plainFor_of_name pn_com_example_orbweave_orbweave_UrlState) hisR ?_
  intro p e s m args below meth c s₁ Bd hml0 hP hK
  obtain ⟨rfl, hZ, hh⟩ := hP
  have hx := Bd.exec
  have hby := Bd.bytes
  have hml : c.maxLocals = 1 := hml0
  have hown : s.vm.findClass "com/example/orbweave/orbweave/UrlState" = some m.cls := findClass_of_methodNamed Bd.named
  have hnm := (name_of_methodNamed Bd.named Bd.method).1
  have X0 : Stand p l e ({ frames := 0, cells := 0, slots := 0, locals := 0 } : Room) s m #[(.ref w0)] below meth c s₁ [] 0 0 := Stand.of_body Bd
  have e0 : s₁.heap = h0 := by rw [← hh, Bd.state]; rfl
  have N0 := Fr.nil n0
  have pre0 : ∀ t, Steps p.tables e below (s₁.setTop (mkF m 0 #[.val (.ref w0)] [])) t → Steps p.tables e below (s₁.setTop (entryFrame m #[(.ref w0)] 1)) t := fun t k => castTop (ef_prog_6_method_5_code_A m w0) k
  have P0 := P; obtain ⟨S0, E0, F0_ordinal, S1, E1, F1_ordinal, S2, E2, F2_ordinal, S3, E3, F3_ordinal, S4, E4, F4_ordinal, S5, E5, F5_ordinal⟩ := P0
  obtain ⟨T18, X18, e18, st18⟩ := getS2 X0 hx hZ hown (host := "") (Or.inl (hw _ (List.mem_of_getElem? (i := 19) rfl))) Via.refl e0 S1 (g := (mkF m 1 #[.val (.ref w0)] [(.ref w0)])) rfl (hb hby d_prog_6_method_5_code_1)
  obtain ⟨T19, X19, e19, st19⟩ := getS2 X18 hx hZ hown (host := "") (Or.inl (hw _ (List.mem_of_getElem? (i := 21) rfl))) Via.refl e18 S2 (g := (mkF m 8 #[.val (.ref w0)] [(.ref w0)])) rfl (hb hby d_prog_6_method_5_code_8)
  obtain ⟨T20, X20, e20, st20⟩ := getS2 X19 hx hZ hown (host := "") (Or.inl (hw _ (List.mem_of_getElem? (i := 23) rfl))) Via.refl e19 S3 (g := (mkF m 15 #[.val (.ref w0)] [(.ref w0)])) rfl (hb hby d_prog_6_method_5_code_15)
  obtain ⟨fs, hr, hrun, hended, hW, hsame⟩ := X20.leave (v := some (.int (0 : Int32))) (fun h => by rw [Bd.returns] at h; cases h)
  refine ⟨_, _, pre0 _ ?_, hrun, hended, _, _, rfl, ?_, ⟨_, rfl⟩, hW, hsame.mono (by decide) (by decide)⟩
  · show Steps p.tables e below (s₁.setTop (mkF m 0 #[.val (.ref w0)] [])) _
    refine XS.aloadN X0.here hx rfl (hb hby d_prog_6_method_5_code_0) rfl rfl ?_
    show Steps p.tables e below (s₁.setTop (mkF m 1 #[.val (.ref w0)] [(.ref w0)])) _
    refine st18 _ ?_
    show Steps p.tables e below (T18.setTop (mkF m 4 #[.val (.ref w0)] [(.ref w1), (.ref w0)])) _
    refine Jvm.RoadKit.acmp (g := (mkF m 4 #[.val (.ref w0)] [(.ref w1), (.ref w0)])) X18 hx rfl rfl rfl (pc0 := 4) (pc' := 7) (same := false) rfl (hb hby d_prog_6_method_5_code_4) rfl (decide_eq_false (fun q => (F0_ordinal.ne F1_ordinal (by decide)) (Value.ref.inj q))) (by decide) (by decide) ?_
    show Steps p.tables e below (T18.setTop (mkF m 7 #[.val (.ref w0)] [])) _
    refine XS.aloadN X18.here hx rfl (hb hby d_prog_6_method_5_code_7) rfl rfl ?_
    show Steps p.tables e below (T18.setTop (mkF m 8 #[.val (.ref w0)] [(.ref w0)])) _
    refine st19 _ ?_
    show Steps p.tables e below (T19.setTop (mkF m 11 #[.val (.ref w0)] [(.ref w2), (.ref w0)])) _
    refine Jvm.RoadKit.acmp (g := (mkF m 11 #[.val (.ref w0)] [(.ref w2), (.ref w0)])) X19 hx rfl rfl rfl (pc0 := 11) (pc' := 14) (same := false) rfl (hb hby d_prog_6_method_5_code_11) rfl (decide_eq_false (fun q => (F0_ordinal.ne F2_ordinal (by decide)) (Value.ref.inj q))) (by decide) (by decide) ?_
    show Steps p.tables e below (T19.setTop (mkF m 14 #[.val (.ref w0)] [])) _
    refine XS.aloadN X19.here hx rfl (hb hby d_prog_6_method_5_code_14) rfl rfl ?_
    show Steps p.tables e below (T19.setTop (mkF m 15 #[.val (.ref w0)] [(.ref w0)])) _
    refine st20 _ ?_
    show Steps p.tables e below (T20.setTop (mkF m 18 #[.val (.ref w0)] [(.ref w3), (.ref w0)])) _
    refine Jvm.RoadKit.acmp (g := (mkF m 18 #[.val (.ref w0)] [(.ref w3), (.ref w0)])) X20 hx rfl rfl rfl (pc0 := 18) (pc' := 25) (same := false) rfl (hb hby d_prog_6_method_5_code_18) rfl (decide_eq_false (fun q => (F0_ordinal.ne F3_ordinal (by decide)) (Value.ref.inj q))) (by decide) (by decide) ?_
    show Steps p.tables e below (T20.setTop (mkF m 25 #[.val (.ref w0)] [])) _
    refine XT.iconstV X20.here hx rfl (0 : Int32) (hb hby d_prog_6_method_5_code_25) rfl ?_
    show Steps p.tables e below (T20.setTop (mkF m 26 #[.val (.ref w0)] [(.int (0 : Int32))])) _
    exact retN X20 hx (t := .boolean) Bd.returns (by simp) (hb hby d_prog_6_method_5_code_26) hr
  · show own_Q (some (.int (0 : Int32))) h0 n0 _ T20.heap _
    rw [e20]
    exact ⟨rfl, N0, rfl⟩
theorem d_prog_6_method_5_code_21 : decode prog_6_method_5_code 21 = .ok (.iconst 1, 1) := by decide +kernel
theorem d_prog_6_method_5_code_22 : decode prog_6_method_5_code 22 = .ok (.goto 4, 3) := by decide +kernel
set_option maxRecDepth 65536 in
set_option maxHeartbeats 40000000 in
theorem own_requested_1 (l : Launch) (Z : State) (a0 : Array Value) (hw : ∀ d ∈ tables_1, d.before a0 Z = true) (ws : List Jvm.Cond) (w0 w1 w2 w3 w4 w5 : Addr) (h0 : Heap) (n0 : Nat) (Z0 : n0 ≤ h0.size) (P : own_P Z h0 w0 w1 w2 w3 w4 w5) :
    MetFree l (⟨"com/example/orbweave/orbweave/UrlState", "requested", "()Z"⟩ : MethodName) (head1 (Jvm.Cond.code (⟨"com/example/orbweave/orbweave/UrlState", "requested", "()Z"⟩ : MethodName) prog_6_method_5_code 1 (some .boolean) :: ws) ({ frames := 0, cells := 0, slots := 0, locals := 0 } : Room)) (fun a U => a = #[(.ref w1)] ∧ Z.Warmed39 U.vm ∧ U.heap = h0) (fun _ _ _ _ _ => True) (fun _ U o U' => ∃ v L, o = .returned v ∧ own_Q (some (.int (1 : Int32))) h0 n0 v U'.heap L ∧ FrameEnd U o U' L ({ frames := 0, cells := 0, slots := 0, locals := 0 } : Room).cells ({ frames := 0, cells := 0, slots := 0, locals := 0 } : Room).slots) := by
  refine MetFree.of_bodySF (plainFor_of_name pn_com_example_orbweave_orbweave_UrlState) hisR ?_
  intro p e s m args below meth c s₁ Bd hml0 hP hK
  obtain ⟨rfl, hZ, hh⟩ := hP
  have hx := Bd.exec
  have hby := Bd.bytes
  have hml : c.maxLocals = 1 := hml0
  have hown : s.vm.findClass "com/example/orbweave/orbweave/UrlState" = some m.cls := findClass_of_methodNamed Bd.named
  have hnm := (name_of_methodNamed Bd.named Bd.method).1
  have X0 : Stand p l e ({ frames := 0, cells := 0, slots := 0, locals := 0 } : Room) s m #[(.ref w1)] below meth c s₁ [] 0 0 := Stand.of_body Bd
  have e0 : s₁.heap = h0 := by rw [← hh, Bd.state]; rfl
  have N0 := Fr.nil n0
  have pre0 : ∀ t, Steps p.tables e below (s₁.setTop (mkF m 0 #[.val (.ref w1)] [])) t → Steps p.tables e below (s₁.setTop (entryFrame m #[(.ref w1)] 1)) t := fun t k => castTop (ef_prog_6_method_5_code_A m w1) k
  have P0 := P; obtain ⟨S0, E0, F0_ordinal, S1, E1, F1_ordinal, S2, E2, F2_ordinal, S3, E3, F3_ordinal, S4, E4, F4_ordinal, S5, E5, F5_ordinal⟩ := P0
  obtain ⟨T21, X21, e21, st21⟩ := getS2 X0 hx hZ hown (host := "") (Or.inl (hw _ (List.mem_of_getElem? (i := 19) rfl))) Via.refl e0 S1 (g := (mkF m 1 #[.val (.ref w1)] [(.ref w1)])) rfl (hb hby d_prog_6_method_5_code_1)
  obtain ⟨fs, hr, hrun, hended, hW, hsame⟩ := X21.leave (v := some (.int (1 : Int32))) (fun h => by rw [Bd.returns] at h; cases h)
  refine ⟨_, _, pre0 _ ?_, hrun, hended, _, _, rfl, ?_, ⟨_, rfl⟩, hW, hsame.mono (by decide) (by decide)⟩
  · show Steps p.tables e below (s₁.setTop (mkF m 0 #[.val (.ref w1)] [])) _
    refine XS.aloadN X0.here hx rfl (hb hby d_prog_6_method_5_code_0) rfl rfl ?_
    show Steps p.tables e below (s₁.setTop (mkF m 1 #[.val (.ref w1)] [(.ref w1)])) _
    refine st21 _ ?_
    show Steps p.tables e below (T21.setTop (mkF m 4 #[.val (.ref w1)] [(.ref w1), (.ref w1)])) _
    refine Jvm.RoadKit.acmp (g := (mkF m 4 #[.val (.ref w1)] [(.ref w1), (.ref w1)])) X21 hx rfl rfl rfl (pc0 := 4) (pc' := 21) (same := true) rfl (hb hby d_prog_6_method_5_code_4) rfl (decide_eq_true rfl) (by decide) (by decide) ?_
    show Steps p.tables e below (T21.setTop (mkF m 21 #[.val (.ref w1)] [])) _
    refine XT.iconstV X21.here hx rfl (1 : Int32) (hb hby d_prog_6_method_5_code_21) rfl ?_
    show Steps p.tables e below (T21.setTop (mkF m 22 #[.val (.ref w1)] [(.int (1 : Int32))])) _
    refine XS.goto X21.here hx rfl (pc0 := 22) (pc' := 26) rfl (hb hby d_prog_6_method_5_code_22) (by decide) (by decide) ?_
    show Steps p.tables e below (T21.setTop (mkF m 26 #[.val (.ref w1)] [(.int (1 : Int32))])) _
    exact retN X21 hx (t := .boolean) Bd.returns (by simp) (hb hby d_prog_6_method_5_code_26) hr
  · show own_Q (some (.int (1 : Int32))) h0 n0 _ T21.heap _
    rw [e21]
    exact ⟨rfl, N0, rfl⟩
set_option maxRecDepth 65536 in
set_option maxHeartbeats 40000000 in
theorem own_requested_2 (l : Launch) (Z : State) (a0 : Array Value) (hw : ∀ d ∈ tables_1, d.before a0 Z = true) (ws : List Jvm.Cond) (w0 w1 w2 w3 w4 w5 : Addr) (h0 : Heap) (n0 : Nat) (Z0 : n0 ≤ h0.size) (P : own_P Z h0 w0 w1 w2 w3 w4 w5) :
    MetFree l (⟨"com/example/orbweave/orbweave/UrlState", "requested", "()Z"⟩ : MethodName) (head1 (Jvm.Cond.code (⟨"com/example/orbweave/orbweave/UrlState", "requested", "()Z"⟩ : MethodName) prog_6_method_5_code 1 (some .boolean) :: ws) ({ frames := 0, cells := 0, slots := 0, locals := 0 } : Room)) (fun a U => a = #[(.ref w2)] ∧ Z.Warmed39 U.vm ∧ U.heap = h0) (fun _ _ _ _ _ => True) (fun _ U o U' => ∃ v L, o = .returned v ∧ own_Q (some (.int (1 : Int32))) h0 n0 v U'.heap L ∧ FrameEnd U o U' L ({ frames := 0, cells := 0, slots := 0, locals := 0 } : Room).cells ({ frames := 0, cells := 0, slots := 0, locals := 0 } : Room).slots) := by
  refine MetFree.of_bodySF (plainFor_of_name pn_com_example_orbweave_orbweave_UrlState) hisR ?_
  intro p e s m args below meth c s₁ Bd hml0 hP hK
  obtain ⟨rfl, hZ, hh⟩ := hP
  have hx := Bd.exec
  have hby := Bd.bytes
  have hml : c.maxLocals = 1 := hml0
  have hown : s.vm.findClass "com/example/orbweave/orbweave/UrlState" = some m.cls := findClass_of_methodNamed Bd.named
  have hnm := (name_of_methodNamed Bd.named Bd.method).1
  have X0 : Stand p l e ({ frames := 0, cells := 0, slots := 0, locals := 0 } : Room) s m #[(.ref w2)] below meth c s₁ [] 0 0 := Stand.of_body Bd
  have e0 : s₁.heap = h0 := by rw [← hh, Bd.state]; rfl
  have N0 := Fr.nil n0
  have pre0 : ∀ t, Steps p.tables e below (s₁.setTop (mkF m 0 #[.val (.ref w2)] [])) t → Steps p.tables e below (s₁.setTop (entryFrame m #[(.ref w2)] 1)) t := fun t k => castTop (ef_prog_6_method_5_code_A m w2) k
  have P0 := P; obtain ⟨S0, E0, F0_ordinal, S1, E1, F1_ordinal, S2, E2, F2_ordinal, S3, E3, F3_ordinal, S4, E4, F4_ordinal, S5, E5, F5_ordinal⟩ := P0
  obtain ⟨T22, X22, e22, st22⟩ := getS2 X0 hx hZ hown (host := "") (Or.inl (hw _ (List.mem_of_getElem? (i := 19) rfl))) Via.refl e0 S1 (g := (mkF m 1 #[.val (.ref w2)] [(.ref w2)])) rfl (hb hby d_prog_6_method_5_code_1)
  obtain ⟨T23, X23, e23, st23⟩ := getS2 X22 hx hZ hown (host := "") (Or.inl (hw _ (List.mem_of_getElem? (i := 21) rfl))) Via.refl e22 S2 (g := (mkF m 8 #[.val (.ref w2)] [(.ref w2)])) rfl (hb hby d_prog_6_method_5_code_8)
  obtain ⟨fs, hr, hrun, hended, hW, hsame⟩ := X23.leave (v := some (.int (1 : Int32))) (fun h => by rw [Bd.returns] at h; cases h)
  refine ⟨_, _, pre0 _ ?_, hrun, hended, _, _, rfl, ?_, ⟨_, rfl⟩, hW, hsame.mono (by decide) (by decide)⟩
  · show Steps p.tables e below (s₁.setTop (mkF m 0 #[.val (.ref w2)] [])) _
    refine XS.aloadN X0.here hx rfl (hb hby d_prog_6_method_5_code_0) rfl rfl ?_
    show Steps p.tables e below (s₁.setTop (mkF m 1 #[.val (.ref w2)] [(.ref w2)])) _
    refine st22 _ ?_
    show Steps p.tables e below (T22.setTop (mkF m 4 #[.val (.ref w2)] [(.ref w1), (.ref w2)])) _
    refine Jvm.RoadKit.acmp (g := (mkF m 4 #[.val (.ref w2)] [(.ref w1), (.ref w2)])) X22 hx rfl rfl rfl (pc0 := 4) (pc' := 7) (same := false) rfl (hb hby d_prog_6_method_5_code_4) rfl (decide_eq_false (fun q => (F2_ordinal.ne F1_ordinal (by decide)) (Value.ref.inj q))) (by decide) (by decide) ?_
    show Steps p.tables e below (T22.setTop (mkF m 7 #[.val (.ref w2)] [])) _
    refine XS.aloadN X22.here hx rfl (hb hby d_prog_6_method_5_code_7) rfl rfl ?_
    show Steps p.tables e below (T22.setTop (mkF m 8 #[.val (.ref w2)] [(.ref w2)])) _
    refine st23 _ ?_
    show Steps p.tables e below (T23.setTop (mkF m 11 #[.val (.ref w2)] [(.ref w2), (.ref w2)])) _
    refine Jvm.RoadKit.acmp (g := (mkF m 11 #[.val (.ref w2)] [(.ref w2), (.ref w2)])) X23 hx rfl rfl rfl (pc0 := 11) (pc' := 21) (same := true) rfl (hb hby d_prog_6_method_5_code_11) rfl (decide_eq_true rfl) (by decide) (by decide) ?_
    show Steps p.tables e below (T23.setTop (mkF m 21 #[.val (.ref w2)] [])) _
    refine XT.iconstV X23.here hx rfl (1 : Int32) (hb hby d_prog_6_method_5_code_21) rfl ?_
    show Steps p.tables e below (T23.setTop (mkF m 22 #[.val (.ref w2)] [(.int (1 : Int32))])) _
    refine XS.goto X23.here hx rfl (pc0 := 22) (pc' := 26) rfl (hb hby d_prog_6_method_5_code_22) (by decide) (by decide) ?_
    show Steps p.tables e below (T23.setTop (mkF m 26 #[.val (.ref w2)] [(.int (1 : Int32))])) _
    exact retN X23 hx (t := .boolean) Bd.returns (by simp) (hb hby d_prog_6_method_5_code_26) hr
  · show own_Q (some (.int (1 : Int32))) h0 n0 _ T23.heap _
    rw [e23]
    exact ⟨rfl, N0, rfl⟩
set_option maxRecDepth 65536 in
set_option maxHeartbeats 40000000 in
theorem own_requested_3 (l : Launch) (Z : State) (a0 : Array Value) (hw : ∀ d ∈ tables_1, d.before a0 Z = true) (ws : List Jvm.Cond) (w0 w1 w2 w3 w4 w5 : Addr) (h0 : Heap) (n0 : Nat) (Z0 : n0 ≤ h0.size) (P : own_P Z h0 w0 w1 w2 w3 w4 w5) :
    MetFree l (⟨"com/example/orbweave/orbweave/UrlState", "requested", "()Z"⟩ : MethodName) (head1 (Jvm.Cond.code (⟨"com/example/orbweave/orbweave/UrlState", "requested", "()Z"⟩ : MethodName) prog_6_method_5_code 1 (some .boolean) :: ws) ({ frames := 0, cells := 0, slots := 0, locals := 0 } : Room)) (fun a U => a = #[(.ref w3)] ∧ Z.Warmed39 U.vm ∧ U.heap = h0) (fun _ _ _ _ _ => True) (fun _ U o U' => ∃ v L, o = .returned v ∧ own_Q (some (.int (1 : Int32))) h0 n0 v U'.heap L ∧ FrameEnd U o U' L ({ frames := 0, cells := 0, slots := 0, locals := 0 } : Room).cells ({ frames := 0, cells := 0, slots := 0, locals := 0 } : Room).slots) := by
  refine MetFree.of_bodySF (plainFor_of_name pn_com_example_orbweave_orbweave_UrlState) hisR ?_
  intro p e s m args below meth c s₁ Bd hml0 hP hK
  obtain ⟨rfl, hZ, hh⟩ := hP
  have hx := Bd.exec
  have hby := Bd.bytes
  have hml : c.maxLocals = 1 := hml0
  have hown : s.vm.findClass "com/example/orbweave/orbweave/UrlState" = some m.cls := findClass_of_methodNamed Bd.named
  have hnm := (name_of_methodNamed Bd.named Bd.method).1
  have X0 : Stand p l e ({ frames := 0, cells := 0, slots := 0, locals := 0 } : Room) s m #[(.ref w3)] below meth c s₁ [] 0 0 := Stand.of_body Bd
  have e0 : s₁.heap = h0 := by rw [← hh, Bd.state]; rfl
  have N0 := Fr.nil n0
  have pre0 : ∀ t, Steps p.tables e below (s₁.setTop (mkF m 0 #[.val (.ref w3)] [])) t → Steps p.tables e below (s₁.setTop (entryFrame m #[(.ref w3)] 1)) t := fun t k => castTop (ef_prog_6_method_5_code_A m w3) k
  have P0 := P; obtain ⟨S0, E0, F0_ordinal, S1, E1, F1_ordinal, S2, E2, F2_ordinal, S3, E3, F3_ordinal, S4, E4, F4_ordinal, S5, E5, F5_ordinal⟩ := P0
  obtain ⟨T24, X24, e24, st24⟩ := getS2 X0 hx hZ hown (host := "") (Or.inl (hw _ (List.mem_of_getElem? (i := 19) rfl))) Via.refl e0 S1 (g := (mkF m 1 #[.val (.ref w3)] [(.ref w3)])) rfl (hb hby d_prog_6_method_5_code_1)
  obtain ⟨T25, X25, e25, st25⟩ := getS2 X24 hx hZ hown (host := "") (Or.inl (hw _ (List.mem_of_getElem? (i := 21) rfl))) Via.refl e24 S2 (g := (mkF m 8 #[.val (.ref w3)] [(.ref w3)])) rfl (hb hby d_prog_6_method_5_code_8)
  obtain ⟨T26, X26, e26, st26⟩ := getS2 X25 hx hZ hown (host := "") (Or.inl (hw _ (List.mem_of_getElem? (i := 23) rfl))) Via.refl e25 S3 (g := (mkF m 15 #[.val (.ref w3)] [(.ref w3)])) rfl (hb hby d_prog_6_method_5_code_15)
  obtain ⟨fs, hr, hrun, hended, hW, hsame⟩ := X26.leave (v := some (.int (1 : Int32))) (fun h => by rw [Bd.returns] at h; cases h)
  refine ⟨_, _, pre0 _ ?_, hrun, hended, _, _, rfl, ?_, ⟨_, rfl⟩, hW, hsame.mono (by decide) (by decide)⟩
  · show Steps p.tables e below (s₁.setTop (mkF m 0 #[.val (.ref w3)] [])) _
    refine XS.aloadN X0.here hx rfl (hb hby d_prog_6_method_5_code_0) rfl rfl ?_
    show Steps p.tables e below (s₁.setTop (mkF m 1 #[.val (.ref w3)] [(.ref w3)])) _
    refine st24 _ ?_
    show Steps p.tables e below (T24.setTop (mkF m 4 #[.val (.ref w3)] [(.ref w1), (.ref w3)])) _
    refine Jvm.RoadKit.acmp (g := (mkF m 4 #[.val (.ref w3)] [(.ref w1), (.ref w3)])) X24 hx rfl rfl rfl (pc0 := 4) (pc' := 7) (same := false) rfl (hb hby d_prog_6_method_5_code_4) rfl (decide_eq_false (fun q => (F3_ordinal.ne F1_ordinal (by decide)) (Value.ref.inj q))) (by decide) (by decide) ?_
    show Steps p.tables e below (T24.setTop (mkF m 7 #[.val (.ref w3)] [])) _
    refine XS.aloadN X24.here hx rfl (hb hby d_prog_6_method_5_code_7) rfl rfl ?_
    show Steps p.tables e below (T24.setTop (mkF m 8 #[.val (.ref w3)] [(.ref w3)])) _
    refine st25 _ ?_
    show Steps p.tables e below (T25.setTop (mkF m 11 #[.val (.ref w3)] [(.ref w2), (.ref w3)])) _
    refine Jvm.RoadKit.acmp (g := (mkF m 11 #[.val (.ref w3)] [(.ref w2), (.ref w3)])) X25 hx rfl rfl rfl (pc0 := 11) (pc' := 14) (same := false) rfl (hb hby d_prog_6_method_5_code_11) rfl (decide_eq_false (fun q => (F3_ordinal.ne F2_ordinal (by decide)) (Value.ref.inj q))) (by decide) (by decide) ?_
    show Steps p.tables e below (T25.setTop (mkF m 14 #[.val (.ref w3)] [])) _
    refine XS.aloadN X25.here hx rfl (hb hby d_prog_6_method_5_code_14) rfl rfl ?_
    show Steps p.tables e below (T25.setTop (mkF m 15 #[.val (.ref w3)] [(.ref w3)])) _
    refine st26 _ ?_
    show Steps p.tables e below (T26.setTop (mkF m 18 #[.val (.ref w3)] [(.ref w3), (.ref w3)])) _
    refine Jvm.RoadKit.acmp (g := (mkF m 18 #[.val (.ref w3)] [(.ref w3), (.ref w3)])) X26 hx rfl rfl rfl (pc0 := 18) (pc' := 21) (same := true) rfl (hb hby d_prog_6_method_5_code_18) rfl (decide_eq_true rfl) (by decide) (by decide) ?_
    show Steps p.tables e below (T26.setTop (mkF m 21 #[.val (.ref w3)] [])) _
    refine XT.iconstV X26.here hx rfl (1 : Int32) (hb hby d_prog_6_method_5_code_21) rfl ?_
    show Steps p.tables e below (T26.setTop (mkF m 22 #[.val (.ref w3)] [(.int (1 : Int32))])) _
    refine XS.goto X26.here hx rfl (pc0 := 22) (pc' := 26) rfl (hb hby d_prog_6_method_5_code_22) (by decide) (by decide) ?_
    show Steps p.tables e below (T26.setTop (mkF m 26 #[.val (.ref w3)] [(.int (1 : Int32))])) _
    exact retN X26 hx (t := .boolean) Bd.returns (by simp) (hb hby d_prog_6_method_5_code_26) hr
  · show own_Q (some (.int (1 : Int32))) h0 n0 _ T26.heap _
    rw [e26]
    exact ⟨rfl, N0, rfl⟩
set_option maxRecDepth 65536 in
set_option maxHeartbeats 40000000 in
theorem own_requested_4 (l : Launch) (Z : State) (a0 : Array Value) (hw : ∀ d ∈ tables_1, d.before a0 Z = true) (ws : List Jvm.Cond) (w0 w1 w2 w3 w4 w5 : Addr) (h0 : Heap) (n0 : Nat) (Z0 : n0 ≤ h0.size) (P : own_P Z h0 w0 w1 w2 w3 w4 w5) :
    MetFree l (⟨"com/example/orbweave/orbweave/UrlState", "requested", "()Z"⟩ : MethodName) (head1 (Jvm.Cond.code (⟨"com/example/orbweave/orbweave/UrlState", "requested", "()Z"⟩ : MethodName) prog_6_method_5_code 1 (some .boolean) :: ws) ({ frames := 0, cells := 0, slots := 0, locals := 0 } : Room)) (fun a U => a = #[(.ref w4)] ∧ Z.Warmed39 U.vm ∧ U.heap = h0) (fun _ _ _ _ _ => True) (fun _ U o U' => ∃ v L, o = .returned v ∧ own_Q (some (.int (0 : Int32))) h0 n0 v U'.heap L ∧ FrameEnd U o U' L ({ frames := 0, cells := 0, slots := 0, locals := 0 } : Room).cells ({ frames := 0, cells := 0, slots := 0, locals := 0 } : Room).slots) := by
  refine MetFree.of_bodySF (plainFor_of_name pn_com_example_orbweave_orbweave_UrlState) hisR ?_
  intro p e s m args below meth c s₁ Bd hml0 hP hK
  obtain ⟨rfl, hZ, hh⟩ := hP
  have hx := Bd.exec
  have hby := Bd.bytes
  have hml : c.maxLocals = 1 := hml0
  have hown : s.vm.findClass "com/example/orbweave/orbweave/UrlState" = some m.cls := findClass_of_methodNamed Bd.named
  have hnm := (name_of_methodNamed Bd.named Bd.method).1
  have X0 : Stand p l e ({ frames := 0, cells := 0, slots := 0, locals := 0 } : Room) s m #[(.ref w4)] below meth c s₁ [] 0 0 := Stand.of_body Bd
  have e0 : s₁.heap = h0 := by rw [← hh, Bd.state]; rfl
  have N0 := Fr.nil n0
  have pre0 : ∀ t, Steps p.tables e below (s₁.setTop (mkF m 0 #[.val (.ref w4)] [])) t → Steps p.tables e below (s₁.setTop (entryFrame m #[(.ref w4)] 1)) t := fun t k => castTop (ef_prog_6_method_5_code_A m w4) k
  have P0 := P; obtain ⟨S0, E0, F0_ordinal, S1, E1, F1_ordinal, S2, E2, F2_ordinal, S3, E3, F3_ordinal, S4, E4, F4_ordinal, S5, E5, F5_ordinal⟩ := P0
  obtain ⟨T27, X27, e27, st27⟩ := getS2 X0 hx hZ hown (host := "") (Or.inl (hw _ (List.mem_of_getElem? (i := 19) rfl))) Via.refl e0 S1 (g := (mkF m 1 #[.val (.ref w4)] [(.ref w4)])) rfl (hb hby d_prog_6_method_5_code_1)
  obtain ⟨T28, X28, e28, st28⟩ := getS2 X27 hx hZ hown (host := "") (Or.inl (hw _ (List.mem_of_getElem? (i := 21) rfl))) Via.refl e27 S2 (g := (mkF m 8 #[.val (.ref w4)] [(.ref w4)])) rfl (hb hby d_prog_6_method_5_code_8)
  obtain ⟨T29, X29, e29, st29⟩ := getS2 X28 hx hZ hown (host := "") (Or.inl (hw _ (List.mem_of_getElem? (i := 23) rfl))) Via.refl e28 S3 (g := (mkF m 15 #[.val (.ref w4)] [(.ref w4)])) rfl (hb hby d_prog_6_method_5_code_15)
  obtain ⟨fs, hr, hrun, hended, hW, hsame⟩ := X29.leave (v := some (.int (0 : Int32))) (fun h => by rw [Bd.returns] at h; cases h)
  refine ⟨_, _, pre0 _ ?_, hrun, hended, _, _, rfl, ?_, ⟨_, rfl⟩, hW, hsame.mono (by decide) (by decide)⟩
  · show Steps p.tables e below (s₁.setTop (mkF m 0 #[.val (.ref w4)] [])) _
    refine XS.aloadN X0.here hx rfl (hb hby d_prog_6_method_5_code_0) rfl rfl ?_
    show Steps p.tables e below (s₁.setTop (mkF m 1 #[.val (.ref w4)] [(.ref w4)])) _
    refine st27 _ ?_
    show Steps p.tables e below (T27.setTop (mkF m 4 #[.val (.ref w4)] [(.ref w1), (.ref w4)])) _
    refine Jvm.RoadKit.acmp (g := (mkF m 4 #[.val (.ref w4)] [(.ref w1), (.ref w4)])) X27 hx rfl rfl rfl (pc0 := 4) (pc' := 7) (same := false) rfl (hb hby d_prog_6_method_5_code_4) rfl (decide_eq_false (fun q => (F4_ordinal.ne F1_ordinal (by decide)) (Value.ref.inj q))) (by decide) (by decide) ?_
    show Steps p.tables e below (T27.setTop (mkF m 7 #[.val (.ref w4)] [])) _
    refine XS.aloadN X27.here hx rfl (hb hby d_prog_6_method_5_code_7) rfl rfl ?_
    show Steps p.tables e below (T27.setTop (mkF m 8 #[.val (.ref w4)] [(.ref w4)])) _
    refine st28 _ ?_
    show Steps p.tables e below (T28.setTop (mkF m 11 #[.val (.ref w4)] [(.ref w2), (.ref w4)])) _
    refine Jvm.RoadKit.acmp (g := (mkF m 11 #[.val (.ref w4)] [(.ref w2), (.ref w4)])) X28 hx rfl rfl rfl (pc0 := 11) (pc' := 14) (same := false) rfl (hb hby d_prog_6_method_5_code_11) rfl (decide_eq_false (fun q => (F4_ordinal.ne F2_ordinal (by decide)) (Value.ref.inj q))) (by decide) (by decide) ?_
    show Steps p.tables e below (T28.setTop (mkF m 14 #[.val (.ref w4)] [])) _
    refine XS.aloadN X28.here hx rfl (hb hby d_prog_6_method_5_code_14) rfl rfl ?_
    show Steps p.tables e below (T28.setTop (mkF m 15 #[.val (.ref w4)] [(.ref w4)])) _
    refine st29 _ ?_
    show Steps p.tables e below (T29.setTop (mkF m 18 #[.val (.ref w4)] [(.ref w3), (.ref w4)])) _
    refine Jvm.RoadKit.acmp (g := (mkF m 18 #[.val (.ref w4)] [(.ref w3), (.ref w4)])) X29 hx rfl rfl rfl (pc0 := 18) (pc' := 25) (same := false) rfl (hb hby d_prog_6_method_5_code_18) rfl (decide_eq_false (fun q => (F4_ordinal.ne F3_ordinal (by decide)) (Value.ref.inj q))) (by decide) (by decide) ?_
    show Steps p.tables e below (T29.setTop (mkF m 25 #[.val (.ref w4)] [])) _
    refine XT.iconstV X29.here hx rfl (0 : Int32) (hb hby d_prog_6_method_5_code_25) rfl ?_
    show Steps p.tables e below (T29.setTop (mkF m 26 #[.val (.ref w4)] [(.int (0 : Int32))])) _
    exact retN X29 hx (t := .boolean) Bd.returns (by simp) (hb hby d_prog_6_method_5_code_26) hr
  · show own_Q (some (.int (0 : Int32))) h0 n0 _ T29.heap _
    rw [e29]
    exact ⟨rfl, N0, rfl⟩
set_option maxRecDepth 65536 in
set_option maxHeartbeats 40000000 in
theorem own_requested_5 (l : Launch) (Z : State) (a0 : Array Value) (hw : ∀ d ∈ tables_1, d.before a0 Z = true) (ws : List Jvm.Cond) (w0 w1 w2 w3 w4 w5 : Addr) (h0 : Heap) (n0 : Nat) (Z0 : n0 ≤ h0.size) (P : own_P Z h0 w0 w1 w2 w3 w4 w5) :
    MetFree l (⟨"com/example/orbweave/orbweave/UrlState", "requested", "()Z"⟩ : MethodName) (head1 (Jvm.Cond.code (⟨"com/example/orbweave/orbweave/UrlState", "requested", "()Z"⟩ : MethodName) prog_6_method_5_code 1 (some .boolean) :: ws) ({ frames := 0, cells := 0, slots := 0, locals := 0 } : Room)) (fun a U => a = #[(.ref w5)] ∧ Z.Warmed39 U.vm ∧ U.heap = h0) (fun _ _ _ _ _ => True) (fun _ U o U' => ∃ v L, o = .returned v ∧ own_Q (some (.int (0 : Int32))) h0 n0 v U'.heap L ∧ FrameEnd U o U' L ({ frames := 0, cells := 0, slots := 0, locals := 0 } : Room).cells ({ frames := 0, cells := 0, slots := 0, locals := 0 } : Room).slots) := by
  refine MetFree.of_bodySF (plainFor_of_name pn_com_example_orbweave_orbweave_UrlState) hisR ?_
  intro p e s m args below meth c s₁ Bd hml0 hP hK
  obtain ⟨rfl, hZ, hh⟩ := hP
  have hx := Bd.exec
  have hby := Bd.bytes
  have hml : c.maxLocals = 1 := hml0
  have hown : s.vm.findClass "com/example/orbweave/orbweave/UrlState" = some m.cls := findClass_of_methodNamed Bd.named
  have hnm := (name_of_methodNamed Bd.named Bd.method).1
  have X0 : Stand p l e ({ frames := 0, cells := 0, slots := 0, locals := 0 } : Room) s m #[(.ref w5)] below meth c s₁ [] 0 0 := Stand.of_body Bd
  have e0 : s₁.heap = h0 := by rw [← hh, Bd.state]; rfl
  have N0 := Fr.nil n0
  have pre0 : ∀ t, Steps p.tables e below (s₁.setTop (mkF m 0 #[.val (.ref w5)] [])) t → Steps p.tables e below (s₁.setTop (entryFrame m #[(.ref w5)] 1)) t := fun t k => castTop (ef_prog_6_method_5_code_A m w5) k
  have P0 := P; obtain ⟨S0, E0, F0_ordinal, S1, E1, F1_ordinal, S2, E2, F2_ordinal, S3, E3, F3_ordinal, S4, E4, F4_ordinal, S5, E5, F5_ordinal⟩ := P0
  obtain ⟨T30, X30, e30, st30⟩ := getS2 X0 hx hZ hown (host := "") (Or.inl (hw _ (List.mem_of_getElem? (i := 19) rfl))) Via.refl e0 S1 (g := (mkF m 1 #[.val (.ref w5)] [(.ref w5)])) rfl (hb hby d_prog_6_method_5_code_1)
  obtain ⟨T31, X31, e31, st31⟩ := getS2 X30 hx hZ hown (host := "") (Or.inl (hw _ (List.mem_of_getElem? (i := 21) rfl))) Via.refl e30 S2 (g := (mkF m 8 #[.val (.ref w5)] [(.ref w5)])) rfl (hb hby d_prog_6_method_5_code_8)
  obtain ⟨T32, X32, e32, st32⟩ := getS2 X31 hx hZ hown (host := "") (Or.inl (hw _ (List.mem_of_getElem? (i := 23) rfl))) Via.refl e31 S3 (g := (mkF m 15 #[.val (.ref w5)] [(.ref w5)])) rfl (hb hby d_prog_6_method_5_code_15)
  obtain ⟨fs, hr, hrun, hended, hW, hsame⟩ := X32.leave (v := some (.int (0 : Int32))) (fun h => by rw [Bd.returns] at h; cases h)
  refine ⟨_, _, pre0 _ ?_, hrun, hended, _, _, rfl, ?_, ⟨_, rfl⟩, hW, hsame.mono (by decide) (by decide)⟩
  · show Steps p.tables e below (s₁.setTop (mkF m 0 #[.val (.ref w5)] [])) _
    refine XS.aloadN X0.here hx rfl (hb hby d_prog_6_method_5_code_0) rfl rfl ?_
    show Steps p.tables e below (s₁.setTop (mkF m 1 #[.val (.ref w5)] [(.ref w5)])) _
    refine st30 _ ?_
    show Steps p.tables e below (T30.setTop (mkF m 4 #[.val (.ref w5)] [(.ref w1), (.ref w5)])) _
    refine Jvm.RoadKit.acmp (g := (mkF m 4 #[.val (.ref w5)] [(.ref w1), (.ref w5)])) X30 hx rfl rfl rfl (pc0 := 4) (pc' := 7) (same := false) rfl (hb hby d_prog_6_method_5_code_4) rfl (decide_eq_false (fun q => (F5_ordinal.ne F1_ordinal (by decide)) (Value.ref.inj q))) (by decide) (by decide) ?_
    show Steps p.tables e below (T30.setTop (mkF m 7 #[.val (.ref w5)] [])) _
    refine XS.aloadN X30.here hx rfl (hb hby d_prog_6_method_5_code_7) rfl rfl ?_
    show Steps p.tables e below (T30.setTop (mkF m 8 #[.val (.ref w5)] [(.ref w5)])) _
    refine st31 _ ?_
    show Steps p.tables e below (T31.setTop (mkF m 11 #[.val (.ref w5)] [(.ref w2), (.ref w5)])) _
    refine Jvm.RoadKit.acmp (g := (mkF m 11 #[.val (.ref w5)] [(.ref w2), (.ref w5)])) X31 hx rfl rfl rfl (pc0 := 11) (pc' := 14) (same := false) rfl (hb hby d_prog_6_method_5_code_11) rfl (decide_eq_false (fun q => (F5_ordinal.ne F2_ordinal (by decide)) (Value.ref.inj q))) (by decide) (by decide) ?_
    show Steps p.tables e below (T31.setTop (mkF m 14 #[.val (.ref w5)] [])) _
    refine XS.aloadN X31.here hx rfl (hb hby d_prog_6_method_5_code_14) rfl rfl ?_
    show Steps p.tables e below (T31.setTop (mkF m 15 #[.val (.ref w5)] [(.ref w5)])) _
    refine st32 _ ?_
    show Steps p.tables e below (T32.setTop (mkF m 18 #[.val (.ref w5)] [(.ref w3), (.ref w5)])) _
    refine Jvm.RoadKit.acmp (g := (mkF m 18 #[.val (.ref w5)] [(.ref w3), (.ref w5)])) X32 hx rfl rfl rfl (pc0 := 18) (pc' := 25) (same := false) rfl (hb hby d_prog_6_method_5_code_18) rfl (decide_eq_false (fun q => (F5_ordinal.ne F3_ordinal (by decide)) (Value.ref.inj q))) (by decide) (by decide) ?_
    show Steps p.tables e below (T32.setTop (mkF m 25 #[.val (.ref w5)] [])) _
    refine XT.iconstV X32.here hx rfl (0 : Int32) (hb hby d_prog_6_method_5_code_25) rfl ?_
    show Steps p.tables e below (T32.setTop (mkF m 26 #[.val (.ref w5)] [(.int (0 : Int32))])) _
    exact retN X32 hx (t := .boolean) Bd.returns (by simp) (hb hby d_prog_6_method_5_code_26) hr
  · show own_Q (some (.int (0 : Int32))) h0 n0 _ T32.heap _
    rw [e32]
    exact ⟨rfl, N0, rfl⟩
theorem pd__I_Lcom_example_orbweave_orbweave_UrlState_ : parseMethodDescriptor "(I)Lcom/example/orbweave/orbweave/UrlState;" = some ⟨[.int], (some (.object "com/example/orbweave/orbweave/UrlState"))⟩ := by decide +kernel
theorem pd___Z : parseMethodDescriptor "()Z" = some ⟨[], (some .boolean)⟩ := by decide +kernel
theorem ef_code_I (m : MethodId) (x0 : Int32) : entryFrame m #[(.int x0)] maxLocals = mkF m 0 #[.val (.int x0), .unset, .unset, .unset, .unset] [] := by first | (simp [entryFrame, mkF, argsToLocals, Value.category, maxLocals]; done) | rfl
set_option maxRecDepth 65536 in
set_option maxHeartbeats 40000000 in
theorem own_law_0 (l : Launch) (Z : State) (a0 : Array Value) (hw : ∀ d ∈ tables_1, d.before a0 Z = true) (ws : List Jvm.Cond) (p1 : Int32) (w0 w1 w2 w3 w4 w5 : Addr) (h0 : Heap) (n0 : Nat) (Z0 : n0 ≤ h0.size) (P : own_P Z h0 w0 w1 w2 w3 w4 w5) (hk : ((p1 &&& (2147483647 : Int32)) % (6 : Int32)) = (0 : Int32)) :
    MetFree l x (head1 (Jvm.Cond.code x code maxLocals ret :: ws) room_1) (fun a U => a = #[(.int p1)] ∧ Z.Warmed39 U.vm ∧ U.heap = h0) (fun _ _ _ _ _ => True) (fun _ U o U' => ∃ v L, o = .returned v ∧ own_Q0 n0 v U'.heap L ∧ FrameEnd U o U' L room_1.cells room_1.slots) := by
  refine MetFree.of_bodySF (plainFor_of_name pn_com_example_orbweave_orbweave_UrlStateWaitingPinLaw) hisR ?_
  intro p e s m args below meth c s₁ Bd hml0 hP hK
  obtain ⟨rfl, hZ, hh⟩ := hP
  have hx := Bd.exec
  have hby := Bd.bytes
  have hml : c.maxLocals = 5 := hml0
  have hown : s.vm.findClass "com/example/orbweave/orbweave/UrlStateWaitingPinLaw" = some m.cls := findClass_of_methodNamed Bd.named
  have hnm := (name_of_methodNamed Bd.named Bd.method).1
  have X0 : Stand p l e room_1 s m #[(.int p1)] below meth c s₁ [] 0 0 := Stand.of_body Bd
  have e0 : s₁.heap = h0 := by rw [← hh, Bd.state]; rfl
  have N0 := Fr.nil n0
  have pre0 : ∀ t, Steps p.tables e below (s₁.setTop (mkF m 0 #[.val (.int p1), .unset, .unset, .unset, .unset] [])) t → Steps p.tables e below (s₁.setTop (entryFrame m #[(.int p1)] maxLocals)) t := fun t k => castTop (ef_code_I m p1) k
  have P0 := P; obtain ⟨S0, E0, F0_ordinal, S1, E1, F1_ordinal, S2, E2, F2_ordinal, S3, E3, F3_ordinal, S4, E4, F4_ordinal, S5, E5, F5_ordinal⟩ := P0
  obtain ⟨_, _, ⟨T33, L33, k33, n33⟩, -, X33, ⟨Lc33, hQ33, l33, y33, z33⟩, st33⟩ := Jvm.LawKit.callS X0 hx (y := (⟨"com/example/orbweave/orbweave/UrlStateWaitingPinLaw", "pick", "(I)Lcom/example/orbweave/orbweave/UrlState;"⟩ : MethodName)) hown (mvT hZ (hw _ (List.mem_of_getElem? (i := 1) rfl))) (mvT hZ (hw _ (List.mem_of_getElem? (i := 2) rfl))) (mvT hZ (hw _ (List.mem_of_getElem? (i := 3) rfl))) (mvT hZ (hw _ (List.mem_of_getElem? (i := 4) rfl))) (by decide) (backOf (W := 0) (own_pick_0 l Z a0 hw [] w0 w1 w2 w3 w4 w5 h0 n0 Z0 P) hZ (hw _ (List.mem_of_getElem? (i := 4) rfl)) (hw _ (List.mem_of_getElem? (i := 3) rfl)) (by decide) (by decide)) (g := (mkF m 9 #[.val (.int p1), .val (.int (0 : Int32)), .unset, .unset, .unset] [(.int (0 : Int32))])) rfl (by rw [hml]; rfl) (argsL := [(.int (0 : Int32))]) (rest := []) (lenOf pd__I_Lcom_example_orbweave_orbweave_UrlState_ rfl) rfl (by show 2 * 0 + _ ≤ _; exact Nat.le_of_eq rfl) (hb hby at_9) (fun _ _ => ⟨rfl, e0, (by decide : 0 + 0 ≤ _), (by decide : 0 + 0 ≤ _)⟩)
  dsimp only [Pt.U, Pt.locs, Pt.cells, Pt.slots] at X33 l33 y33 z33 st33 hQ33
  subst l33 y33 z33
  obtain ⟨rfl, N33q, e33⟩ := hQ33
  have N33 := Fr.app N0 N33q
  obtain ⟨cq34, kq34, q34a, q34b, q34c⟩ := isOf hZ e33 E0
  obtain ⟨_, _, ⟨T34, L34, k34, n34⟩, -, X34, ⟨Lc34, hQ34, l34, y34, z34⟩, st34⟩ := X33.virtualBack hx (y := (⟨"com/example/orbweave/orbweave/UrlState", "waiting", "()Z"⟩ : MethodName)) (z := (⟨"com/example/orbweave/orbweave/UrlState", "waiting", "()Z"⟩ : MethodName)) hown (mvT hZ (hw _ (List.mem_of_getElem? (i := 8) rfl))) (mvT hZ (hw _ (List.mem_of_getElem? (i := 9) rfl))) (notFace_of_selects (args := #[]) (mvT hZ (hw _ (List.mem_of_getElem? (i := 11) rfl)))) (mvT hZ (hw _ (List.mem_of_getElem? (i := 11) rfl))) (mvT hZ (hw _ (List.mem_of_getElem? (i := 10) rfl))) (by decide) (backOf (W := 0) (own_waiting_0 l Z a0 hw [] w0 w1 w2 w3 w4 w5 h0 n0 Z0 P) hZ (hw _ (List.mem_of_getElem? (i := 12) rfl)) (hw _ (List.mem_of_getElem? (i := 6) rfl)) (by decide) (by decide)) q34a q34c (g := (mkF m 29 #[.val (.int p1), .val (.int (0 : Int32)), .val (.ref w0), .val (.int (1 : Int32)), .unset] [(.ref w0)])) rfl (by rw [hml]; rfl) (Steps.refl _) (argsL := []) (rest := []) (lenOf pd___Z rfl) rfl (by show 2 * 0 + _ ≤ _; exact Nat.le_of_eq rfl) (hb hby at_29) (fun _ _ => ⟨rfl, e33, (by decide : 0 + 0 ≤ _), (by decide : 0 + 0 ≤ _)⟩)
  dsimp only [Pt.U, Pt.locs, Pt.cells, Pt.slots] at X34 l34 y34 z34 st34 hQ34
  subst l34 y34 z34
  obtain ⟨rfl, N34q, e34⟩ := hQ34
  have N34 := Fr.app N33 N34q
  obtain ⟨cq35, kq35, q35a, q35b, q35c⟩ := isOf hZ e34 E0
  obtain ⟨_, _, ⟨T35, L35, k35, n35⟩, -, X35, ⟨Lc35, hQ35, l35, y35, z35⟩, st35⟩ := X34.virtualBack hx (y := (⟨"com/example/orbweave/orbweave/UrlState", "requested", "()Z"⟩ : MethodName)) (z := (⟨"com/example/orbweave/orbweave/UrlState", "requested", "()Z"⟩ : MethodName)) hown (mvT hZ (hw _ (List.mem_of_getElem? (i := 14) rfl))) (mvT hZ (hw _ (List.mem_of_getElem? (i := 15) rfl))) (notFace_of_selects (args := #[]) (mvT hZ (hw _ (List.mem_of_getElem? (i := 17) rfl)))) (mvT hZ (hw _ (List.mem_of_getElem? (i := 17) rfl))) (mvT hZ (hw _ (List.mem_of_getElem? (i := 16) rfl))) (by decide) (backOf (W := 0) (own_requested_0 l Z a0 hw [] w0 w1 w2 w3 w4 w5 h0 n0 Z0 P) hZ (hw _ (List.mem_of_getElem? (i := 18) rfl)) (hw _ (List.mem_of_getElem? (i := 6) rfl)) (by decide) (by decide)) q35a q35c (g := (mkF m 46 #[.val (.int p1), .val (.int (0 : Int32)), .val (.ref w0), .val (.int (1 : Int32)), .val (.int (1 : Int32))] [(.ref w0)])) rfl (by rw [hml]; rfl) (Steps.refl _) (argsL := []) (rest := []) (lenOf pd___Z rfl) rfl (by show 2 * 0 + _ ≤ _; exact Nat.le_of_eq rfl) (hb hby at_46) (fun _ _ => ⟨rfl, e34, (by decide : 0 + 0 ≤ _), (by decide : 0 + 0 ≤ _)⟩)
  dsimp only [Pt.U, Pt.locs, Pt.cells, Pt.slots] at X35 l35 y35 z35 st35 hQ35
  subst l35 y35 z35
  obtain ⟨rfl, N35q, e35⟩ := hQ35
  have N35 := Fr.app N34 N35q
  obtain ⟨fs, hr, hrun, hended, hW, hsame⟩ := X35.leave (v := some (.int (1 : Int32))) (fun h => by rw [Bd.returns] at h; cases h)
  refine ⟨_, _, pre0 _ ?_, hrun, hended, _, _, rfl, ?_, ⟨_, rfl⟩, hW, hsame.mono (by decide) (by decide)⟩
  · show Steps p.tables e below (s₁.setTop (mkF m 0 #[.val (.int p1), .unset, .unset, .unset, .unset] [])) _
    refine XS.iloadN X0.here hx rfl (hb hby at_0) rfl ?_
    show Steps p.tables e below (s₁.setTop (mkF m 1 #[.val (.int p1), .unset, .unset, .unset, .unset] [(.int p1)])) _
    refine Jvm.Stand.ldcI X0 hx hown (mvT hZ (hw _ (List.mem_of_getElem? (i := 0) rfl))) rfl (hb hby at_1) ?_
    show Steps p.tables e below (s₁.setTop (mkF m 3 #[.val (.int p1), .unset, .unset, .unset, .unset] [(.int (2147483647 : Int32)), (.int p1)])) _
    refine XS.iand X0.here hx rfl (hb hby at_3) rfl ?_
    show Steps p.tables e below (s₁.setTop (mkF m 4 #[.val (.int p1), .unset, .unset, .unset, .unset] [(.int (p1 &&& (2147483647 : Int32)))])) _
    refine XT.bipushV X0.here hx rfl (6 : Int32) (hb hby at_4) (by decide) ?_
    show Steps p.tables e below (s₁.setTop (mkF m 6 #[.val (.int p1), .unset, .unset, .unset, .unset] [(.int (6 : Int32)), (.int (p1 &&& (2147483647 : Int32)))])) _
    refine iremM X0 hx rfl (hb hby at_6) rfl (by decide) ?_
    show Steps p.tables e below (s₁.setTop (mkF m 7 #[.val (.int p1), .unset, .unset, .unset, .unset] [(.int ((p1 &&& (2147483647 : Int32)) % (6 : Int32)))])) _
    rw [hk]
    show Steps p.tables e below (s₁.setTop (mkF m 7 #[.val (.int p1), .unset, .unset, .unset, .unset] [(.int (0 : Int32))])) _
    refine XS.istoreN X0.here hx rfl (hb hby at_7) rfl (l' := #[.val (.int p1), .val (.int (0 : Int32)), .unset, .unset, .unset]) rfl ?_
    show Steps p.tables e below (s₁.setTop (mkF m 8 #[.val (.int p1), .val (.int (0 : Int32)), .unset, .unset, .unset] [])) _
    refine XS.iloadN X0.here hx rfl (hb hby at_8) rfl ?_
    show Steps p.tables e below (s₁.setTop (mkF m 9 #[.val (.int p1), .val (.int (0 : Int32)), .unset, .unset, .unset] [(.int (0 : Int32))])) _
    refine st33 _ ?_
    show Steps p.tables e below (T33.setTop (mkF m 12 #[.val (.int p1), .val (.int (0 : Int32)), .unset, .unset, .unset] [(.ref w0)])) _
    refine XS.astoreN X33.here hx rfl (hb hby at_12) rfl rfl (l' := #[.val (.int p1), .val (.int (0 : Int32)), .val (.ref w0), .unset, .unset]) rfl ?_
    show Steps p.tables e below (T33.setTop (mkF m 13 #[.val (.int p1), .val (.int (0 : Int32)), .val (.ref w0), .unset, .unset] [])) _
    refine XS.iloadN X33.here hx rfl (hb hby at_13) rfl ?_
    show Steps p.tables e below (T33.setTop (mkF m 14 #[.val (.int p1), .val (.int (0 : Int32)), .val (.ref w0), .unset, .unset] [(.int (0 : Int32))])) _
    refine XS.ifYes X33.here hx rfl (pc0 := 14) (pc' := 22) rfl (hb hby at_14) rfl (by decide) (by decide) (by decide) ?_
    show Steps p.tables e below (T33.setTop (mkF m 22 #[.val (.int p1), .val (.int (0 : Int32)), .val (.ref w0), .unset, .unset] [])) _
    refine XT.iconstV X33.here hx rfl (1 : Int32) (hb hby at_22) rfl ?_
    show Steps p.tables e below (T33.setTop (mkF m 23 #[.val (.int p1), .val (.int (0 : Int32)), .val (.ref w0), .unset, .unset] [(.int (1 : Int32))])) _
    refine XS.goto X33.here hx rfl (pc0 := 23) (pc' := 27) rfl (hb hby at_23) (by decide) (by decide) ?_
    show Steps p.tables e below (T33.setTop (mkF m 27 #[.val (.int p1), .val (.int (0 : Int32)), .val (.ref w0), .unset, .unset] [(.int (1 : Int32))])) _
    refine XS.istoreN X33.here hx rfl (hb hby at_27) rfl (l' := #[.val (.int p1), .val (.int (0 : Int32)), .val (.ref w0), .val (.int (1 : Int32)), .unset]) rfl ?_
    show Steps p.tables e below (T33.setTop (mkF m 28 #[.val (.int p1), .val (.int (0 : Int32)), .val (.ref w0), .val (.int (1 : Int32)), .unset] [])) _
    refine XS.aloadN X33.here hx rfl (hb hby at_28) rfl rfl ?_
    show Steps p.tables e below (T33.setTop (mkF m 29 #[.val (.int p1), .val (.int (0 : Int32)), .val (.ref w0), .val (.int (1 : Int32)), .unset] [(.ref w0)])) _
    refine st34.trans ?_
    show Steps p.tables e below (T34.setTop (mkF m 32 #[.val (.int p1), .val (.int (0 : Int32)), .val (.ref w0), .val (.int (1 : Int32)), .unset] [(.int (1 : Int32))])) _
    refine XS.istore X34.here hx rfl (hb hby at_32) rfl (l' := #[.val (.int p1), .val (.int (0 : Int32)), .val (.ref w0), .val (.int (1 : Int32)), .val (.int (1 : Int32))]) rfl ?_
    show Steps p.tables e below (T34.setTop (mkF m 34 #[.val (.int p1), .val (.int (0 : Int32)), .val (.ref w0), .val (.int (1 : Int32)), .val (.int (1 : Int32))] [])) _
    refine XS.iload X34.here hx rfl (hb hby at_34) rfl ?_
    show Steps p.tables e below (T34.setTop (mkF m 36 #[.val (.int p1), .val (.int (0 : Int32)), .val (.ref w0), .val (.int (1 : Int32)), .val (.int (1 : Int32))] [(.int (1 : Int32))])) _
    refine XS.iloadN X34.here hx rfl (hb hby at_36) rfl ?_
    show Steps p.tables e below (T34.setTop (mkF m 37 #[.val (.int p1), .val (.int (0 : Int32)), .val (.ref w0), .val (.int (1 : Int32)), .val (.int (1 : Int32))] [(.int (1 : Int32)), (.int (1 : Int32))])) _
    refine XS.icmpNo X34.here hx rfl (hb hby at_37) rfl (by decide) ?_
    show Steps p.tables e below (T34.setTop (mkF m 40 #[.val (.int p1), .val (.int (0 : Int32)), .val (.ref w0), .val (.int (1 : Int32)), .val (.int (1 : Int32))] [])) _
    refine XS.iload X34.here hx rfl (hb hby at_40) rfl ?_
    show Steps p.tables e below (T34.setTop (mkF m 42 #[.val (.int p1), .val (.int (0 : Int32)), .val (.ref w0), .val (.int (1 : Int32)), .val (.int (1 : Int32))] [(.int (1 : Int32))])) _
    refine XS.ifNo X34.here hx rfl (hb hby at_42) rfl (by decide) ?_
    show Steps p.tables e below (T34.setTop (mkF m 45 #[.val (.int p1), .val (.int (0 : Int32)), .val (.ref w0), .val (.int (1 : Int32)), .val (.int (1 : Int32))] [])) _
    refine XS.aloadN X34.here hx rfl (hb hby at_45) rfl rfl ?_
    show Steps p.tables e below (T34.setTop (mkF m 46 #[.val (.int p1), .val (.int (0 : Int32)), .val (.ref w0), .val (.int (1 : Int32)), .val (.int (1 : Int32))] [(.ref w0)])) _
    refine st35.trans ?_
    show Steps p.tables e below (T35.setTop (mkF m 49 #[.val (.int p1), .val (.int (0 : Int32)), .val (.ref w0), .val (.int (1 : Int32)), .val (.int (1 : Int32))] [(.int (0 : Int32))])) _
    refine XS.ifNo X35.here hx rfl (hb hby at_49) rfl (by decide) ?_
    show Steps p.tables e below (T35.setTop (mkF m 52 #[.val (.int p1), .val (.int (0 : Int32)), .val (.ref w0), .val (.int (1 : Int32)), .val (.int (1 : Int32))] [])) _
    refine XT.iconstV X35.here hx rfl (1 : Int32) (hb hby at_52) rfl ?_
    show Steps p.tables e below (T35.setTop (mkF m 53 #[.val (.int p1), .val (.int (0 : Int32)), .val (.ref w0), .val (.int (1 : Int32)), .val (.int (1 : Int32))] [(.int (1 : Int32))])) _
    refine XS.goto X35.here hx rfl (pc0 := 53) (pc' := 57) rfl (hb hby at_53) (by decide) (by decide) ?_
    show Steps p.tables e below (T35.setTop (mkF m 57 #[.val (.int p1), .val (.int (0 : Int32)), .val (.ref w0), .val (.int (1 : Int32)), .val (.int (1 : Int32))] [(.int (1 : Int32))])) _
    exact retN X35 hx (t := .boolean) Bd.returns (by simp) (hb hby at_57) hr
  · show own_Q0 n0 _ T35.heap _
    exact ⟨rfl, N35⟩
set_option maxRecDepth 65536 in
set_option maxHeartbeats 40000000 in
theorem own_law_1 (l : Launch) (Z : State) (a0 : Array Value) (hw : ∀ d ∈ tables_1, d.before a0 Z = true) (ws : List Jvm.Cond) (p1 : Int32) (w0 w1 w2 w3 w4 w5 : Addr) (h0 : Heap) (n0 : Nat) (Z0 : n0 ≤ h0.size) (P : own_P Z h0 w0 w1 w2 w3 w4 w5) (hk : ((p1 &&& (2147483647 : Int32)) % (6 : Int32)) = (1 : Int32)) :
    MetFree l x (head1 (Jvm.Cond.code x code maxLocals ret :: ws) room_1) (fun a U => a = #[(.int p1)] ∧ Z.Warmed39 U.vm ∧ U.heap = h0) (fun _ _ _ _ _ => True) (fun _ U o U' => ∃ v L, o = .returned v ∧ own_Q0 n0 v U'.heap L ∧ FrameEnd U o U' L room_1.cells room_1.slots) := by
  refine MetFree.of_bodySF (plainFor_of_name pn_com_example_orbweave_orbweave_UrlStateWaitingPinLaw) hisR ?_
  intro p e s m args below meth c s₁ Bd hml0 hP hK
  obtain ⟨rfl, hZ, hh⟩ := hP
  have hx := Bd.exec
  have hby := Bd.bytes
  have hml : c.maxLocals = 5 := hml0
  have hown : s.vm.findClass "com/example/orbweave/orbweave/UrlStateWaitingPinLaw" = some m.cls := findClass_of_methodNamed Bd.named
  have hnm := (name_of_methodNamed Bd.named Bd.method).1
  have X0 : Stand p l e room_1 s m #[(.int p1)] below meth c s₁ [] 0 0 := Stand.of_body Bd
  have e0 : s₁.heap = h0 := by rw [← hh, Bd.state]; rfl
  have N0 := Fr.nil n0
  have pre0 : ∀ t, Steps p.tables e below (s₁.setTop (mkF m 0 #[.val (.int p1), .unset, .unset, .unset, .unset] [])) t → Steps p.tables e below (s₁.setTop (entryFrame m #[(.int p1)] maxLocals)) t := fun t k => castTop (ef_code_I m p1) k
  have P0 := P; obtain ⟨S0, E0, F0_ordinal, S1, E1, F1_ordinal, S2, E2, F2_ordinal, S3, E3, F3_ordinal, S4, E4, F4_ordinal, S5, E5, F5_ordinal⟩ := P0
  obtain ⟨_, _, ⟨T36, L36, k36, n36⟩, -, X36, ⟨Lc36, hQ36, l36, y36, z36⟩, st36⟩ := Jvm.LawKit.callS X0 hx (y := (⟨"com/example/orbweave/orbweave/UrlStateWaitingPinLaw", "pick", "(I)Lcom/example/orbweave/orbweave/UrlState;"⟩ : MethodName)) hown (mvT hZ (hw _ (List.mem_of_getElem? (i := 1) rfl))) (mvT hZ (hw _ (List.mem_of_getElem? (i := 2) rfl))) (mvT hZ (hw _ (List.mem_of_getElem? (i := 3) rfl))) (mvT hZ (hw _ (List.mem_of_getElem? (i := 4) rfl))) (by decide) (backOf (W := 0) (own_pick_1 l Z a0 hw [] w0 w1 w2 w3 w4 w5 h0 n0 Z0 P) hZ (hw _ (List.mem_of_getElem? (i := 4) rfl)) (hw _ (List.mem_of_getElem? (i := 3) rfl)) (by decide) (by decide)) (g := (mkF m 9 #[.val (.int p1), .val (.int (1 : Int32)), .unset, .unset, .unset] [(.int (1 : Int32))])) rfl (by rw [hml]; rfl) (argsL := [(.int (1 : Int32))]) (rest := []) (lenOf pd__I_Lcom_example_orbweave_orbweave_UrlState_ rfl) rfl (by show 2 * 0 + _ ≤ _; exact Nat.le_of_eq rfl) (hb hby at_9) (fun _ _ => ⟨rfl, e0, (by decide : 0 + 0 ≤ _), (by decide : 0 + 0 ≤ _)⟩)
  dsimp only [Pt.U, Pt.locs, Pt.cells, Pt.slots] at X36 l36 y36 z36 st36 hQ36
  subst l36 y36 z36
  obtain ⟨rfl, N36q, e36⟩ := hQ36
  have N36 := Fr.app N0 N36q
  obtain ⟨cq37, kq37, q37a, q37b, q37c⟩ := isOf hZ e36 E5
  obtain ⟨_, _, ⟨T37, L37, k37, n37⟩, -, X37, ⟨Lc37, hQ37, l37, y37, z37⟩, st37⟩ := X36.virtualBack hx (y := (⟨"com/example/orbweave/orbweave/UrlState", "waiting", "()Z"⟩ : MethodName)) (z := (⟨"com/example/orbweave/orbweave/UrlState", "waiting", "()Z"⟩ : MethodName)) hown (mvT hZ (hw _ (List.mem_of_getElem? (i := 8) rfl))) (mvT hZ (hw _ (List.mem_of_getElem? (i := 9) rfl))) (notFace_of_selects (args := #[]) (mvT hZ (hw _ (List.mem_of_getElem? (i := 11) rfl)))) (mvT hZ (hw _ (List.mem_of_getElem? (i := 11) rfl))) (mvT hZ (hw _ (List.mem_of_getElem? (i := 10) rfl))) (by decide) (backOf (W := 0) (own_waiting_5 l Z a0 hw [] w0 w1 w2 w3 w4 w5 h0 n0 Z0 P) hZ (hw _ (List.mem_of_getElem? (i := 12) rfl)) (hw _ (List.mem_of_getElem? (i := 6) rfl)) (by decide) (by decide)) q37a q37c (g := (mkF m 29 #[.val (.int p1), .val (.int (1 : Int32)), .val (.ref w5), .val (.int (0 : Int32)), .unset] [(.ref w5)])) rfl (by rw [hml]; rfl) (Steps.refl _) (argsL := []) (rest := []) (lenOf pd___Z rfl) rfl (by show 2 * 0 + _ ≤ _; exact Nat.le_of_eq rfl) (hb hby at_29) (fun _ _ => ⟨rfl, e36, (by decide : 0 + 0 ≤ _), (by decide : 0 + 0 ≤ _)⟩)
  dsimp only [Pt.U, Pt.locs, Pt.cells, Pt.slots] at X37 l37 y37 z37 st37 hQ37
  subst l37 y37 z37
  obtain ⟨rfl, N37q, e37⟩ := hQ37
  have N37 := Fr.app N36 N37q
  obtain ⟨fs, hr, hrun, hended, hW, hsame⟩ := X37.leave (v := some (.int (1 : Int32))) (fun h => by rw [Bd.returns] at h; cases h)
  refine ⟨_, _, pre0 _ ?_, hrun, hended, _, _, rfl, ?_, ⟨_, rfl⟩, hW, hsame.mono (by decide) (by decide)⟩
  · show Steps p.tables e below (s₁.setTop (mkF m 0 #[.val (.int p1), .unset, .unset, .unset, .unset] [])) _
    refine XS.iloadN X0.here hx rfl (hb hby at_0) rfl ?_
    show Steps p.tables e below (s₁.setTop (mkF m 1 #[.val (.int p1), .unset, .unset, .unset, .unset] [(.int p1)])) _
    refine Jvm.Stand.ldcI X0 hx hown (mvT hZ (hw _ (List.mem_of_getElem? (i := 0) rfl))) rfl (hb hby at_1) ?_
    show Steps p.tables e below (s₁.setTop (mkF m 3 #[.val (.int p1), .unset, .unset, .unset, .unset] [(.int (2147483647 : Int32)), (.int p1)])) _
    refine XS.iand X0.here hx rfl (hb hby at_3) rfl ?_
    show Steps p.tables e below (s₁.setTop (mkF m 4 #[.val (.int p1), .unset, .unset, .unset, .unset] [(.int (p1 &&& (2147483647 : Int32)))])) _
    refine XT.bipushV X0.here hx rfl (6 : Int32) (hb hby at_4) (by decide) ?_
    show Steps p.tables e below (s₁.setTop (mkF m 6 #[.val (.int p1), .unset, .unset, .unset, .unset] [(.int (6 : Int32)), (.int (p1 &&& (2147483647 : Int32)))])) _
    refine iremM X0 hx rfl (hb hby at_6) rfl (by decide) ?_
    show Steps p.tables e below (s₁.setTop (mkF m 7 #[.val (.int p1), .unset, .unset, .unset, .unset] [(.int ((p1 &&& (2147483647 : Int32)) % (6 : Int32)))])) _
    rw [hk]
    show Steps p.tables e below (s₁.setTop (mkF m 7 #[.val (.int p1), .unset, .unset, .unset, .unset] [(.int (1 : Int32))])) _
    refine XS.istoreN X0.here hx rfl (hb hby at_7) rfl (l' := #[.val (.int p1), .val (.int (1 : Int32)), .unset, .unset, .unset]) rfl ?_
    show Steps p.tables e below (s₁.setTop (mkF m 8 #[.val (.int p1), .val (.int (1 : Int32)), .unset, .unset, .unset] [])) _
    refine XS.iloadN X0.here hx rfl (hb hby at_8) rfl ?_
    show Steps p.tables e below (s₁.setTop (mkF m 9 #[.val (.int p1), .val (.int (1 : Int32)), .unset, .unset, .unset] [(.int (1 : Int32))])) _
    refine st36 _ ?_
    show Steps p.tables e below (T36.setTop (mkF m 12 #[.val (.int p1), .val (.int (1 : Int32)), .unset, .unset, .unset] [(.ref w5)])) _
    refine XS.astoreN X36.here hx rfl (hb hby at_12) rfl rfl (l' := #[.val (.int p1), .val (.int (1 : Int32)), .val (.ref w5), .unset, .unset]) rfl ?_
    show Steps p.tables e below (T36.setTop (mkF m 13 #[.val (.int p1), .val (.int (1 : Int32)), .val (.ref w5), .unset, .unset] [])) _
    refine XS.iloadN X36.here hx rfl (hb hby at_13) rfl ?_
    show Steps p.tables e below (T36.setTop (mkF m 14 #[.val (.int p1), .val (.int (1 : Int32)), .val (.ref w5), .unset, .unset] [(.int (1 : Int32))])) _
    refine XS.ifNo X36.here hx rfl (hb hby at_14) rfl (by decide) ?_
    show Steps p.tables e below (T36.setTop (mkF m 17 #[.val (.int p1), .val (.int (1 : Int32)), .val (.ref w5), .unset, .unset] [])) _
    refine XS.iloadN X36.here hx rfl (hb hby at_17) rfl ?_
    show Steps p.tables e below (T36.setTop (mkF m 18 #[.val (.int p1), .val (.int (1 : Int32)), .val (.ref w5), .unset, .unset] [(.int (1 : Int32))])) _
    refine XT.iconstV X36.here hx rfl (2 : Int32) (hb hby at_18) rfl ?_
    show Steps p.tables e below (T36.setTop (mkF m 19 #[.val (.int p1), .val (.int (1 : Int32)), .val (.ref w5), .unset, .unset] [(.int (2 : Int32)), (.int (1 : Int32))])) _
    refine XS.icmpYes X36.here hx rfl (pc0 := 19) (pc' := 26) rfl (hb hby at_19) rfl (by decide) (by decide) (by decide) ?_
    show Steps p.tables e below (T36.setTop (mkF m 26 #[.val (.int p1), .val (.int (1 : Int32)), .val (.ref w5), .unset, .unset] [])) _
    refine XT.iconstV X36.here hx rfl (0 : Int32) (hb hby at_26) rfl ?_
    show Steps p.tables e below (T36.setTop (mkF m 27 #[.val (.int p1), .val (.int (1 : Int32)), .val (.ref w5), .unset, .unset] [(.int (0 : Int32))])) _
    refine XS.istoreN X36.here hx rfl (hb hby at_27) rfl (l' := #[.val (.int p1), .val (.int (1 : Int32)), .val (.ref w5), .val (.int (0 : Int32)), .unset]) rfl ?_
    show Steps p.tables e below (T36.setTop (mkF m 28 #[.val (.int p1), .val (.int (1 : Int32)), .val (.ref w5), .val (.int (0 : Int32)), .unset] [])) _
    refine XS.aloadN X36.here hx rfl (hb hby at_28) rfl rfl ?_
    show Steps p.tables e below (T36.setTop (mkF m 29 #[.val (.int p1), .val (.int (1 : Int32)), .val (.ref w5), .val (.int (0 : Int32)), .unset] [(.ref w5)])) _
    refine st37.trans ?_
    show Steps p.tables e below (T37.setTop (mkF m 32 #[.val (.int p1), .val (.int (1 : Int32)), .val (.ref w5), .val (.int (0 : Int32)), .unset] [(.int (0 : Int32))])) _
    refine XS.istore X37.here hx rfl (hb hby at_32) rfl (l' := #[.val (.int p1), .val (.int (1 : Int32)), .val (.ref w5), .val (.int (0 : Int32)), .val (.int (0 : Int32))]) rfl ?_
    show Steps p.tables e below (T37.setTop (mkF m 34 #[.val (.int p1), .val (.int (1 : Int32)), .val (.ref w5), .val (.int (0 : Int32)), .val (.int (0 : Int32))] [])) _
    refine XS.iload X37.here hx rfl (hb hby at_34) rfl ?_
    show Steps p.tables e below (T37.setTop (mkF m 36 #[.val (.int p1), .val (.int (1 : Int32)), .val (.ref w5), .val (.int (0 : Int32)), .val (.int (0 : Int32))] [(.int (0 : Int32))])) _
    refine XS.iloadN X37.here hx rfl (hb hby at_36) rfl ?_
    show Steps p.tables e below (T37.setTop (mkF m 37 #[.val (.int p1), .val (.int (1 : Int32)), .val (.ref w5), .val (.int (0 : Int32)), .val (.int (0 : Int32))] [(.int (0 : Int32)), (.int (0 : Int32))])) _
    refine XS.icmpNo X37.here hx rfl (hb hby at_37) rfl (by decide) ?_
    show Steps p.tables e below (T37.setTop (mkF m 40 #[.val (.int p1), .val (.int (1 : Int32)), .val (.ref w5), .val (.int (0 : Int32)), .val (.int (0 : Int32))] [])) _
    refine XS.iload X37.here hx rfl (hb hby at_40) rfl ?_
    show Steps p.tables e below (T37.setTop (mkF m 42 #[.val (.int p1), .val (.int (1 : Int32)), .val (.ref w5), .val (.int (0 : Int32)), .val (.int (0 : Int32))] [(.int (0 : Int32))])) _
    refine XS.ifYes X37.here hx rfl (pc0 := 42) (pc' := 52) rfl (hb hby at_42) rfl (by decide) (by decide) (by decide) ?_
    show Steps p.tables e below (T37.setTop (mkF m 52 #[.val (.int p1), .val (.int (1 : Int32)), .val (.ref w5), .val (.int (0 : Int32)), .val (.int (0 : Int32))] [])) _
    refine XT.iconstV X37.here hx rfl (1 : Int32) (hb hby at_52) rfl ?_
    show Steps p.tables e below (T37.setTop (mkF m 53 #[.val (.int p1), .val (.int (1 : Int32)), .val (.ref w5), .val (.int (0 : Int32)), .val (.int (0 : Int32))] [(.int (1 : Int32))])) _
    refine XS.goto X37.here hx rfl (pc0 := 53) (pc' := 57) rfl (hb hby at_53) (by decide) (by decide) ?_
    show Steps p.tables e below (T37.setTop (mkF m 57 #[.val (.int p1), .val (.int (1 : Int32)), .val (.ref w5), .val (.int (0 : Int32)), .val (.int (0 : Int32))] [(.int (1 : Int32))])) _
    exact retN X37 hx (t := .boolean) Bd.returns (by simp) (hb hby at_57) hr
  · show own_Q0 n0 _ T37.heap _
    exact ⟨rfl, N37⟩
set_option maxRecDepth 65536 in
set_option maxHeartbeats 40000000 in
theorem own_law_2 (l : Launch) (Z : State) (a0 : Array Value) (hw : ∀ d ∈ tables_1, d.before a0 Z = true) (ws : List Jvm.Cond) (p1 : Int32) (w0 w1 w2 w3 w4 w5 : Addr) (h0 : Heap) (n0 : Nat) (Z0 : n0 ≤ h0.size) (P : own_P Z h0 w0 w1 w2 w3 w4 w5) (hk : ((p1 &&& (2147483647 : Int32)) % (6 : Int32)) = (2 : Int32)) :
    MetFree l x (head1 (Jvm.Cond.code x code maxLocals ret :: ws) room_1) (fun a U => a = #[(.int p1)] ∧ Z.Warmed39 U.vm ∧ U.heap = h0) (fun _ _ _ _ _ => True) (fun _ U o U' => ∃ v L, o = .returned v ∧ own_Q0 n0 v U'.heap L ∧ FrameEnd U o U' L room_1.cells room_1.slots) := by
  refine MetFree.of_bodySF (plainFor_of_name pn_com_example_orbweave_orbweave_UrlStateWaitingPinLaw) hisR ?_
  intro p e s m args below meth c s₁ Bd hml0 hP hK
  obtain ⟨rfl, hZ, hh⟩ := hP
  have hx := Bd.exec
  have hby := Bd.bytes
  have hml : c.maxLocals = 5 := hml0
  have hown : s.vm.findClass "com/example/orbweave/orbweave/UrlStateWaitingPinLaw" = some m.cls := findClass_of_methodNamed Bd.named
  have hnm := (name_of_methodNamed Bd.named Bd.method).1
  have X0 : Stand p l e room_1 s m #[(.int p1)] below meth c s₁ [] 0 0 := Stand.of_body Bd
  have e0 : s₁.heap = h0 := by rw [← hh, Bd.state]; rfl
  have N0 := Fr.nil n0
  have pre0 : ∀ t, Steps p.tables e below (s₁.setTop (mkF m 0 #[.val (.int p1), .unset, .unset, .unset, .unset] [])) t → Steps p.tables e below (s₁.setTop (entryFrame m #[(.int p1)] maxLocals)) t := fun t k => castTop (ef_code_I m p1) k
  have P0 := P; obtain ⟨S0, E0, F0_ordinal, S1, E1, F1_ordinal, S2, E2, F2_ordinal, S3, E3, F3_ordinal, S4, E4, F4_ordinal, S5, E5, F5_ordinal⟩ := P0
  obtain ⟨_, _, ⟨T38, L38, k38, n38⟩, -, X38, ⟨Lc38, hQ38, l38, y38, z38⟩, st38⟩ := Jvm.LawKit.callS X0 hx (y := (⟨"com/example/orbweave/orbweave/UrlStateWaitingPinLaw", "pick", "(I)Lcom/example/orbweave/orbweave/UrlState;"⟩ : MethodName)) hown (mvT hZ (hw _ (List.mem_of_getElem? (i := 1) rfl))) (mvT hZ (hw _ (List.mem_of_getElem? (i := 2) rfl))) (mvT hZ (hw _ (List.mem_of_getElem? (i := 3) rfl))) (mvT hZ (hw _ (List.mem_of_getElem? (i := 4) rfl))) (by decide) (backOf (W := 0) (own_pick_2 l Z a0 hw [] w0 w1 w2 w3 w4 w5 h0 n0 Z0 P) hZ (hw _ (List.mem_of_getElem? (i := 4) rfl)) (hw _ (List.mem_of_getElem? (i := 3) rfl)) (by decide) (by decide)) (g := (mkF m 9 #[.val (.int p1), .val (.int (2 : Int32)), .unset, .unset, .unset] [(.int (2 : Int32))])) rfl (by rw [hml]; rfl) (argsL := [(.int (2 : Int32))]) (rest := []) (lenOf pd__I_Lcom_example_orbweave_orbweave_UrlState_ rfl) rfl (by show 2 * 0 + _ ≤ _; exact Nat.le_of_eq rfl) (hb hby at_9) (fun _ _ => ⟨rfl, e0, (by decide : 0 + 0 ≤ _), (by decide : 0 + 0 ≤ _)⟩)
  dsimp only [Pt.U, Pt.locs, Pt.cells, Pt.slots] at X38 l38 y38 z38 st38 hQ38
  subst l38 y38 z38
  obtain ⟨rfl, N38q, e38⟩ := hQ38
  have N38 := Fr.app N0 N38q
  obtain ⟨cq39, kq39, q39a, q39b, q39c⟩ := isOf hZ e38 E4
  obtain ⟨_, _, ⟨T39, L39, k39, n39⟩, -, X39, ⟨Lc39, hQ39, l39, y39, z39⟩, st39⟩ := X38.virtualBack hx (y := (⟨"com/example/orbweave/orbweave/UrlState", "waiting", "()Z"⟩ : MethodName)) (z := (⟨"com/example/orbweave/orbweave/UrlState", "waiting", "()Z"⟩ : MethodName)) hown (mvT hZ (hw _ (List.mem_of_getElem? (i := 8) rfl))) (mvT hZ (hw _ (List.mem_of_getElem? (i := 9) rfl))) (notFace_of_selects (args := #[]) (mvT hZ (hw _ (List.mem_of_getElem? (i := 11) rfl)))) (mvT hZ (hw _ (List.mem_of_getElem? (i := 11) rfl))) (mvT hZ (hw _ (List.mem_of_getElem? (i := 10) rfl))) (by decide) (backOf (W := 0) (own_waiting_4 l Z a0 hw [] w0 w1 w2 w3 w4 w5 h0 n0 Z0 P) hZ (hw _ (List.mem_of_getElem? (i := 12) rfl)) (hw _ (List.mem_of_getElem? (i := 6) rfl)) (by decide) (by decide)) q39a q39c (g := (mkF m 29 #[.val (.int p1), .val (.int (2 : Int32)), .val (.ref w4), .val (.int (1 : Int32)), .unset] [(.ref w4)])) rfl (by rw [hml]; rfl) (Steps.refl _) (argsL := []) (rest := []) (lenOf pd___Z rfl) rfl (by show 2 * 0 + _ ≤ _; exact Nat.le_of_eq rfl) (hb hby at_29) (fun _ _ => ⟨rfl, e38, (by decide : 0 + 0 ≤ _), (by decide : 0 + 0 ≤ _)⟩)
  dsimp only [Pt.U, Pt.locs, Pt.cells, Pt.slots] at X39 l39 y39 z39 st39 hQ39
  subst l39 y39 z39
  obtain ⟨rfl, N39q, e39⟩ := hQ39
  have N39 := Fr.app N38 N39q
  obtain ⟨cq40, kq40, q40a, q40b, q40c⟩ := isOf hZ e39 E4
  obtain ⟨_, _, ⟨T40, L40, k40, n40⟩, -, X40, ⟨Lc40, hQ40, l40, y40, z40⟩, st40⟩ := X39.virtualBack hx (y := (⟨"com/example/orbweave/orbweave/UrlState", "requested", "()Z"⟩ : MethodName)) (z := (⟨"com/example/orbweave/orbweave/UrlState", "requested", "()Z"⟩ : MethodName)) hown (mvT hZ (hw _ (List.mem_of_getElem? (i := 14) rfl))) (mvT hZ (hw _ (List.mem_of_getElem? (i := 15) rfl))) (notFace_of_selects (args := #[]) (mvT hZ (hw _ (List.mem_of_getElem? (i := 17) rfl)))) (mvT hZ (hw _ (List.mem_of_getElem? (i := 17) rfl))) (mvT hZ (hw _ (List.mem_of_getElem? (i := 16) rfl))) (by decide) (backOf (W := 0) (own_requested_4 l Z a0 hw [] w0 w1 w2 w3 w4 w5 h0 n0 Z0 P) hZ (hw _ (List.mem_of_getElem? (i := 18) rfl)) (hw _ (List.mem_of_getElem? (i := 6) rfl)) (by decide) (by decide)) q40a q40c (g := (mkF m 46 #[.val (.int p1), .val (.int (2 : Int32)), .val (.ref w4), .val (.int (1 : Int32)), .val (.int (1 : Int32))] [(.ref w4)])) rfl (by rw [hml]; rfl) (Steps.refl _) (argsL := []) (rest := []) (lenOf pd___Z rfl) rfl (by show 2 * 0 + _ ≤ _; exact Nat.le_of_eq rfl) (hb hby at_46) (fun _ _ => ⟨rfl, e39, (by decide : 0 + 0 ≤ _), (by decide : 0 + 0 ≤ _)⟩)
  dsimp only [Pt.U, Pt.locs, Pt.cells, Pt.slots] at X40 l40 y40 z40 st40 hQ40
  subst l40 y40 z40
  obtain ⟨rfl, N40q, e40⟩ := hQ40
  have N40 := Fr.app N39 N40q
  obtain ⟨fs, hr, hrun, hended, hW, hsame⟩ := X40.leave (v := some (.int (1 : Int32))) (fun h => by rw [Bd.returns] at h; cases h)
  refine ⟨_, _, pre0 _ ?_, hrun, hended, _, _, rfl, ?_, ⟨_, rfl⟩, hW, hsame.mono (by decide) (by decide)⟩
  · show Steps p.tables e below (s₁.setTop (mkF m 0 #[.val (.int p1), .unset, .unset, .unset, .unset] [])) _
    refine XS.iloadN X0.here hx rfl (hb hby at_0) rfl ?_
    show Steps p.tables e below (s₁.setTop (mkF m 1 #[.val (.int p1), .unset, .unset, .unset, .unset] [(.int p1)])) _
    refine Jvm.Stand.ldcI X0 hx hown (mvT hZ (hw _ (List.mem_of_getElem? (i := 0) rfl))) rfl (hb hby at_1) ?_
    show Steps p.tables e below (s₁.setTop (mkF m 3 #[.val (.int p1), .unset, .unset, .unset, .unset] [(.int (2147483647 : Int32)), (.int p1)])) _
    refine XS.iand X0.here hx rfl (hb hby at_3) rfl ?_
    show Steps p.tables e below (s₁.setTop (mkF m 4 #[.val (.int p1), .unset, .unset, .unset, .unset] [(.int (p1 &&& (2147483647 : Int32)))])) _
    refine XT.bipushV X0.here hx rfl (6 : Int32) (hb hby at_4) (by decide) ?_
    show Steps p.tables e below (s₁.setTop (mkF m 6 #[.val (.int p1), .unset, .unset, .unset, .unset] [(.int (6 : Int32)), (.int (p1 &&& (2147483647 : Int32)))])) _
    refine iremM X0 hx rfl (hb hby at_6) rfl (by decide) ?_
    show Steps p.tables e below (s₁.setTop (mkF m 7 #[.val (.int p1), .unset, .unset, .unset, .unset] [(.int ((p1 &&& (2147483647 : Int32)) % (6 : Int32)))])) _
    rw [hk]
    show Steps p.tables e below (s₁.setTop (mkF m 7 #[.val (.int p1), .unset, .unset, .unset, .unset] [(.int (2 : Int32))])) _
    refine XS.istoreN X0.here hx rfl (hb hby at_7) rfl (l' := #[.val (.int p1), .val (.int (2 : Int32)), .unset, .unset, .unset]) rfl ?_
    show Steps p.tables e below (s₁.setTop (mkF m 8 #[.val (.int p1), .val (.int (2 : Int32)), .unset, .unset, .unset] [])) _
    refine XS.iloadN X0.here hx rfl (hb hby at_8) rfl ?_
    show Steps p.tables e below (s₁.setTop (mkF m 9 #[.val (.int p1), .val (.int (2 : Int32)), .unset, .unset, .unset] [(.int (2 : Int32))])) _
    refine st38 _ ?_
    show Steps p.tables e below (T38.setTop (mkF m 12 #[.val (.int p1), .val (.int (2 : Int32)), .unset, .unset, .unset] [(.ref w4)])) _
    refine XS.astoreN X38.here hx rfl (hb hby at_12) rfl rfl (l' := #[.val (.int p1), .val (.int (2 : Int32)), .val (.ref w4), .unset, .unset]) rfl ?_
    show Steps p.tables e below (T38.setTop (mkF m 13 #[.val (.int p1), .val (.int (2 : Int32)), .val (.ref w4), .unset, .unset] [])) _
    refine XS.iloadN X38.here hx rfl (hb hby at_13) rfl ?_
    show Steps p.tables e below (T38.setTop (mkF m 14 #[.val (.int p1), .val (.int (2 : Int32)), .val (.ref w4), .unset, .unset] [(.int (2 : Int32))])) _
    refine XS.ifNo X38.here hx rfl (hb hby at_14) rfl (by decide) ?_
    show Steps p.tables e below (T38.setTop (mkF m 17 #[.val (.int p1), .val (.int (2 : Int32)), .val (.ref w4), .unset, .unset] [])) _
    refine XS.iloadN X38.here hx rfl (hb hby at_17) rfl ?_
    show Steps p.tables e below (T38.setTop (mkF m 18 #[.val (.int p1), .val (.int (2 : Int32)), .val (.ref w4), .unset, .unset] [(.int (2 : Int32))])) _
    refine XT.iconstV X38.here hx rfl (2 : Int32) (hb hby at_18) rfl ?_
    show Steps p.tables e below (T38.setTop (mkF m 19 #[.val (.int p1), .val (.int (2 : Int32)), .val (.ref w4), .unset, .unset] [(.int (2 : Int32)), (.int (2 : Int32))])) _
    refine XS.icmpNo X38.here hx rfl (hb hby at_19) rfl (by decide) ?_
    show Steps p.tables e below (T38.setTop (mkF m 22 #[.val (.int p1), .val (.int (2 : Int32)), .val (.ref w4), .unset, .unset] [])) _
    refine XT.iconstV X38.here hx rfl (1 : Int32) (hb hby at_22) rfl ?_
    show Steps p.tables e below (T38.setTop (mkF m 23 #[.val (.int p1), .val (.int (2 : Int32)), .val (.ref w4), .unset, .unset] [(.int (1 : Int32))])) _
    refine XS.goto X38.here hx rfl (pc0 := 23) (pc' := 27) rfl (hb hby at_23) (by decide) (by decide) ?_
    show Steps p.tables e below (T38.setTop (mkF m 27 #[.val (.int p1), .val (.int (2 : Int32)), .val (.ref w4), .unset, .unset] [(.int (1 : Int32))])) _
    refine XS.istoreN X38.here hx rfl (hb hby at_27) rfl (l' := #[.val (.int p1), .val (.int (2 : Int32)), .val (.ref w4), .val (.int (1 : Int32)), .unset]) rfl ?_
    show Steps p.tables e below (T38.setTop (mkF m 28 #[.val (.int p1), .val (.int (2 : Int32)), .val (.ref w4), .val (.int (1 : Int32)), .unset] [])) _
    refine XS.aloadN X38.here hx rfl (hb hby at_28) rfl rfl ?_
    show Steps p.tables e below (T38.setTop (mkF m 29 #[.val (.int p1), .val (.int (2 : Int32)), .val (.ref w4), .val (.int (1 : Int32)), .unset] [(.ref w4)])) _
    refine st39.trans ?_
    show Steps p.tables e below (T39.setTop (mkF m 32 #[.val (.int p1), .val (.int (2 : Int32)), .val (.ref w4), .val (.int (1 : Int32)), .unset] [(.int (1 : Int32))])) _
    refine XS.istore X39.here hx rfl (hb hby at_32) rfl (l' := #[.val (.int p1), .val (.int (2 : Int32)), .val (.ref w4), .val (.int (1 : Int32)), .val (.int (1 : Int32))]) rfl ?_
    show Steps p.tables e below (T39.setTop (mkF m 34 #[.val (.int p1), .val (.int (2 : Int32)), .val (.ref w4), .val (.int (1 : Int32)), .val (.int (1 : Int32))] [])) _
    refine XS.iload X39.here hx rfl (hb hby at_34) rfl ?_
    show Steps p.tables e below (T39.setTop (mkF m 36 #[.val (.int p1), .val (.int (2 : Int32)), .val (.ref w4), .val (.int (1 : Int32)), .val (.int (1 : Int32))] [(.int (1 : Int32))])) _
    refine XS.iloadN X39.here hx rfl (hb hby at_36) rfl ?_
    show Steps p.tables e below (T39.setTop (mkF m 37 #[.val (.int p1), .val (.int (2 : Int32)), .val (.ref w4), .val (.int (1 : Int32)), .val (.int (1 : Int32))] [(.int (1 : Int32)), (.int (1 : Int32))])) _
    refine XS.icmpNo X39.here hx rfl (hb hby at_37) rfl (by decide) ?_
    show Steps p.tables e below (T39.setTop (mkF m 40 #[.val (.int p1), .val (.int (2 : Int32)), .val (.ref w4), .val (.int (1 : Int32)), .val (.int (1 : Int32))] [])) _
    refine XS.iload X39.here hx rfl (hb hby at_40) rfl ?_
    show Steps p.tables e below (T39.setTop (mkF m 42 #[.val (.int p1), .val (.int (2 : Int32)), .val (.ref w4), .val (.int (1 : Int32)), .val (.int (1 : Int32))] [(.int (1 : Int32))])) _
    refine XS.ifNo X39.here hx rfl (hb hby at_42) rfl (by decide) ?_
    show Steps p.tables e below (T39.setTop (mkF m 45 #[.val (.int p1), .val (.int (2 : Int32)), .val (.ref w4), .val (.int (1 : Int32)), .val (.int (1 : Int32))] [])) _
    refine XS.aloadN X39.here hx rfl (hb hby at_45) rfl rfl ?_
    show Steps p.tables e below (T39.setTop (mkF m 46 #[.val (.int p1), .val (.int (2 : Int32)), .val (.ref w4), .val (.int (1 : Int32)), .val (.int (1 : Int32))] [(.ref w4)])) _
    refine st40.trans ?_
    show Steps p.tables e below (T40.setTop (mkF m 49 #[.val (.int p1), .val (.int (2 : Int32)), .val (.ref w4), .val (.int (1 : Int32)), .val (.int (1 : Int32))] [(.int (0 : Int32))])) _
    refine XS.ifNo X40.here hx rfl (hb hby at_49) rfl (by decide) ?_
    show Steps p.tables e below (T40.setTop (mkF m 52 #[.val (.int p1), .val (.int (2 : Int32)), .val (.ref w4), .val (.int (1 : Int32)), .val (.int (1 : Int32))] [])) _
    refine XT.iconstV X40.here hx rfl (1 : Int32) (hb hby at_52) rfl ?_
    show Steps p.tables e below (T40.setTop (mkF m 53 #[.val (.int p1), .val (.int (2 : Int32)), .val (.ref w4), .val (.int (1 : Int32)), .val (.int (1 : Int32))] [(.int (1 : Int32))])) _
    refine XS.goto X40.here hx rfl (pc0 := 53) (pc' := 57) rfl (hb hby at_53) (by decide) (by decide) ?_
    show Steps p.tables e below (T40.setTop (mkF m 57 #[.val (.int p1), .val (.int (2 : Int32)), .val (.ref w4), .val (.int (1 : Int32)), .val (.int (1 : Int32))] [(.int (1 : Int32))])) _
    exact retN X40 hx (t := .boolean) Bd.returns (by simp) (hb hby at_57) hr
  · show own_Q0 n0 _ T40.heap _
    exact ⟨rfl, N40⟩
set_option maxRecDepth 65536 in
set_option maxHeartbeats 40000000 in
theorem own_law_3 (l : Launch) (Z : State) (a0 : Array Value) (hw : ∀ d ∈ tables_1, d.before a0 Z = true) (ws : List Jvm.Cond) (p1 : Int32) (w0 w1 w2 w3 w4 w5 : Addr) (h0 : Heap) (n0 : Nat) (Z0 : n0 ≤ h0.size) (P : own_P Z h0 w0 w1 w2 w3 w4 w5) (hk : ((p1 &&& (2147483647 : Int32)) % (6 : Int32)) = (3 : Int32)) :
    MetFree l x (head1 (Jvm.Cond.code x code maxLocals ret :: ws) room_1) (fun a U => a = #[(.int p1)] ∧ Z.Warmed39 U.vm ∧ U.heap = h0) (fun _ _ _ _ _ => True) (fun _ U o U' => ∃ v L, o = .returned v ∧ own_Q0 n0 v U'.heap L ∧ FrameEnd U o U' L room_1.cells room_1.slots) := by
  refine MetFree.of_bodySF (plainFor_of_name pn_com_example_orbweave_orbweave_UrlStateWaitingPinLaw) hisR ?_
  intro p e s m args below meth c s₁ Bd hml0 hP hK
  obtain ⟨rfl, hZ, hh⟩ := hP
  have hx := Bd.exec
  have hby := Bd.bytes
  have hml : c.maxLocals = 5 := hml0
  have hown : s.vm.findClass "com/example/orbweave/orbweave/UrlStateWaitingPinLaw" = some m.cls := findClass_of_methodNamed Bd.named
  have hnm := (name_of_methodNamed Bd.named Bd.method).1
  have X0 : Stand p l e room_1 s m #[(.int p1)] below meth c s₁ [] 0 0 := Stand.of_body Bd
  have e0 : s₁.heap = h0 := by rw [← hh, Bd.state]; rfl
  have N0 := Fr.nil n0
  have pre0 : ∀ t, Steps p.tables e below (s₁.setTop (mkF m 0 #[.val (.int p1), .unset, .unset, .unset, .unset] [])) t → Steps p.tables e below (s₁.setTop (entryFrame m #[(.int p1)] maxLocals)) t := fun t k => castTop (ef_code_I m p1) k
  have P0 := P; obtain ⟨S0, E0, F0_ordinal, S1, E1, F1_ordinal, S2, E2, F2_ordinal, S3, E3, F3_ordinal, S4, E4, F4_ordinal, S5, E5, F5_ordinal⟩ := P0
  obtain ⟨_, _, ⟨T41, L41, k41, n41⟩, -, X41, ⟨Lc41, hQ41, l41, y41, z41⟩, st41⟩ := Jvm.LawKit.callS X0 hx (y := (⟨"com/example/orbweave/orbweave/UrlStateWaitingPinLaw", "pick", "(I)Lcom/example/orbweave/orbweave/UrlState;"⟩ : MethodName)) hown (mvT hZ (hw _ (List.mem_of_getElem? (i := 1) rfl))) (mvT hZ (hw _ (List.mem_of_getElem? (i := 2) rfl))) (mvT hZ (hw _ (List.mem_of_getElem? (i := 3) rfl))) (mvT hZ (hw _ (List.mem_of_getElem? (i := 4) rfl))) (by decide) (backOf (W := 0) (own_pick_3 l Z a0 hw [] w0 w1 w2 w3 w4 w5 h0 n0 Z0 P) hZ (hw _ (List.mem_of_getElem? (i := 4) rfl)) (hw _ (List.mem_of_getElem? (i := 3) rfl)) (by decide) (by decide)) (g := (mkF m 9 #[.val (.int p1), .val (.int (3 : Int32)), .unset, .unset, .unset] [(.int (3 : Int32))])) rfl (by rw [hml]; rfl) (argsL := [(.int (3 : Int32))]) (rest := []) (lenOf pd__I_Lcom_example_orbweave_orbweave_UrlState_ rfl) rfl (by show 2 * 0 + _ ≤ _; exact Nat.le_of_eq rfl) (hb hby at_9) (fun _ _ => ⟨rfl, e0, (by decide : 0 + 0 ≤ _), (by decide : 0 + 0 ≤ _)⟩)
  dsimp only [Pt.U, Pt.locs, Pt.cells, Pt.slots] at X41 l41 y41 z41 st41 hQ41
  subst l41 y41 z41
  obtain ⟨rfl, N41q, e41⟩ := hQ41
  have N41 := Fr.app N0 N41q
  obtain ⟨cq42, kq42, q42a, q42b, q42c⟩ := isOf hZ e41 E1
  obtain ⟨_, _, ⟨T42, L42, k42, n42⟩, -, X42, ⟨Lc42, hQ42, l42, y42, z42⟩, st42⟩ := X41.virtualBack hx (y := (⟨"com/example/orbweave/orbweave/UrlState", "waiting", "()Z"⟩ : MethodName)) (z := (⟨"com/example/orbweave/orbweave/UrlState", "waiting", "()Z"⟩ : MethodName)) hown (mvT hZ (hw _ (List.mem_of_getElem? (i := 8) rfl))) (mvT hZ (hw _ (List.mem_of_getElem? (i := 9) rfl))) (notFace_of_selects (args := #[]) (mvT hZ (hw _ (List.mem_of_getElem? (i := 11) rfl)))) (mvT hZ (hw _ (List.mem_of_getElem? (i := 11) rfl))) (mvT hZ (hw _ (List.mem_of_getElem? (i := 10) rfl))) (by decide) (backOf (W := 0) (own_waiting_1 l Z a0 hw [] w0 w1 w2 w3 w4 w5 h0 n0 Z0 P) hZ (hw _ (List.mem_of_getElem? (i := 12) rfl)) (hw _ (List.mem_of_getElem? (i := 6) rfl)) (by decide) (by decide)) q42a q42c (g := (mkF m 29 #[.val (.int p1), .val (.int (3 : Int32)), .val (.ref w1), .val (.int (0 : Int32)), .unset] [(.ref w1)])) rfl (by rw [hml]; rfl) (Steps.refl _) (argsL := []) (rest := []) (lenOf pd___Z rfl) rfl (by show 2 * 0 + _ ≤ _; exact Nat.le_of_eq rfl) (hb hby at_29) (fun _ _ => ⟨rfl, e41, (by decide : 0 + 0 ≤ _), (by decide : 0 + 0 ≤ _)⟩)
  dsimp only [Pt.U, Pt.locs, Pt.cells, Pt.slots] at X42 l42 y42 z42 st42 hQ42
  subst l42 y42 z42
  obtain ⟨rfl, N42q, e42⟩ := hQ42
  have N42 := Fr.app N41 N42q
  obtain ⟨fs, hr, hrun, hended, hW, hsame⟩ := X42.leave (v := some (.int (1 : Int32))) (fun h => by rw [Bd.returns] at h; cases h)
  refine ⟨_, _, pre0 _ ?_, hrun, hended, _, _, rfl, ?_, ⟨_, rfl⟩, hW, hsame.mono (by decide) (by decide)⟩
  · show Steps p.tables e below (s₁.setTop (mkF m 0 #[.val (.int p1), .unset, .unset, .unset, .unset] [])) _
    refine XS.iloadN X0.here hx rfl (hb hby at_0) rfl ?_
    show Steps p.tables e below (s₁.setTop (mkF m 1 #[.val (.int p1), .unset, .unset, .unset, .unset] [(.int p1)])) _
    refine Jvm.Stand.ldcI X0 hx hown (mvT hZ (hw _ (List.mem_of_getElem? (i := 0) rfl))) rfl (hb hby at_1) ?_
    show Steps p.tables e below (s₁.setTop (mkF m 3 #[.val (.int p1), .unset, .unset, .unset, .unset] [(.int (2147483647 : Int32)), (.int p1)])) _
    refine XS.iand X0.here hx rfl (hb hby at_3) rfl ?_
    show Steps p.tables e below (s₁.setTop (mkF m 4 #[.val (.int p1), .unset, .unset, .unset, .unset] [(.int (p1 &&& (2147483647 : Int32)))])) _
    refine XT.bipushV X0.here hx rfl (6 : Int32) (hb hby at_4) (by decide) ?_
    show Steps p.tables e below (s₁.setTop (mkF m 6 #[.val (.int p1), .unset, .unset, .unset, .unset] [(.int (6 : Int32)), (.int (p1 &&& (2147483647 : Int32)))])) _
    refine iremM X0 hx rfl (hb hby at_6) rfl (by decide) ?_
    show Steps p.tables e below (s₁.setTop (mkF m 7 #[.val (.int p1), .unset, .unset, .unset, .unset] [(.int ((p1 &&& (2147483647 : Int32)) % (6 : Int32)))])) _
    rw [hk]
    show Steps p.tables e below (s₁.setTop (mkF m 7 #[.val (.int p1), .unset, .unset, .unset, .unset] [(.int (3 : Int32))])) _
    refine XS.istoreN X0.here hx rfl (hb hby at_7) rfl (l' := #[.val (.int p1), .val (.int (3 : Int32)), .unset, .unset, .unset]) rfl ?_
    show Steps p.tables e below (s₁.setTop (mkF m 8 #[.val (.int p1), .val (.int (3 : Int32)), .unset, .unset, .unset] [])) _
    refine XS.iloadN X0.here hx rfl (hb hby at_8) rfl ?_
    show Steps p.tables e below (s₁.setTop (mkF m 9 #[.val (.int p1), .val (.int (3 : Int32)), .unset, .unset, .unset] [(.int (3 : Int32))])) _
    refine st41 _ ?_
    show Steps p.tables e below (T41.setTop (mkF m 12 #[.val (.int p1), .val (.int (3 : Int32)), .unset, .unset, .unset] [(.ref w1)])) _
    refine XS.astoreN X41.here hx rfl (hb hby at_12) rfl rfl (l' := #[.val (.int p1), .val (.int (3 : Int32)), .val (.ref w1), .unset, .unset]) rfl ?_
    show Steps p.tables e below (T41.setTop (mkF m 13 #[.val (.int p1), .val (.int (3 : Int32)), .val (.ref w1), .unset, .unset] [])) _
    refine XS.iloadN X41.here hx rfl (hb hby at_13) rfl ?_
    show Steps p.tables e below (T41.setTop (mkF m 14 #[.val (.int p1), .val (.int (3 : Int32)), .val (.ref w1), .unset, .unset] [(.int (3 : Int32))])) _
    refine XS.ifNo X41.here hx rfl (hb hby at_14) rfl (by decide) ?_
    show Steps p.tables e below (T41.setTop (mkF m 17 #[.val (.int p1), .val (.int (3 : Int32)), .val (.ref w1), .unset, .unset] [])) _
    refine XS.iloadN X41.here hx rfl (hb hby at_17) rfl ?_
    show Steps p.tables e below (T41.setTop (mkF m 18 #[.val (.int p1), .val (.int (3 : Int32)), .val (.ref w1), .unset, .unset] [(.int (3 : Int32))])) _
    refine XT.iconstV X41.here hx rfl (2 : Int32) (hb hby at_18) rfl ?_
    show Steps p.tables e below (T41.setTop (mkF m 19 #[.val (.int p1), .val (.int (3 : Int32)), .val (.ref w1), .unset, .unset] [(.int (2 : Int32)), (.int (3 : Int32))])) _
    refine XS.icmpYes X41.here hx rfl (pc0 := 19) (pc' := 26) rfl (hb hby at_19) rfl (by decide) (by decide) (by decide) ?_
    show Steps p.tables e below (T41.setTop (mkF m 26 #[.val (.int p1), .val (.int (3 : Int32)), .val (.ref w1), .unset, .unset] [])) _
    refine XT.iconstV X41.here hx rfl (0 : Int32) (hb hby at_26) rfl ?_
    show Steps p.tables e below (T41.setTop (mkF m 27 #[.val (.int p1), .val (.int (3 : Int32)), .val (.ref w1), .unset, .unset] [(.int (0 : Int32))])) _
    refine XS.istoreN X41.here hx rfl (hb hby at_27) rfl (l' := #[.val (.int p1), .val (.int (3 : Int32)), .val (.ref w1), .val (.int (0 : Int32)), .unset]) rfl ?_
    show Steps p.tables e below (T41.setTop (mkF m 28 #[.val (.int p1), .val (.int (3 : Int32)), .val (.ref w1), .val (.int (0 : Int32)), .unset] [])) _
    refine XS.aloadN X41.here hx rfl (hb hby at_28) rfl rfl ?_
    show Steps p.tables e below (T41.setTop (mkF m 29 #[.val (.int p1), .val (.int (3 : Int32)), .val (.ref w1), .val (.int (0 : Int32)), .unset] [(.ref w1)])) _
    refine st42.trans ?_
    show Steps p.tables e below (T42.setTop (mkF m 32 #[.val (.int p1), .val (.int (3 : Int32)), .val (.ref w1), .val (.int (0 : Int32)), .unset] [(.int (0 : Int32))])) _
    refine XS.istore X42.here hx rfl (hb hby at_32) rfl (l' := #[.val (.int p1), .val (.int (3 : Int32)), .val (.ref w1), .val (.int (0 : Int32)), .val (.int (0 : Int32))]) rfl ?_
    show Steps p.tables e below (T42.setTop (mkF m 34 #[.val (.int p1), .val (.int (3 : Int32)), .val (.ref w1), .val (.int (0 : Int32)), .val (.int (0 : Int32))] [])) _
    refine XS.iload X42.here hx rfl (hb hby at_34) rfl ?_
    show Steps p.tables e below (T42.setTop (mkF m 36 #[.val (.int p1), .val (.int (3 : Int32)), .val (.ref w1), .val (.int (0 : Int32)), .val (.int (0 : Int32))] [(.int (0 : Int32))])) _
    refine XS.iloadN X42.here hx rfl (hb hby at_36) rfl ?_
    show Steps p.tables e below (T42.setTop (mkF m 37 #[.val (.int p1), .val (.int (3 : Int32)), .val (.ref w1), .val (.int (0 : Int32)), .val (.int (0 : Int32))] [(.int (0 : Int32)), (.int (0 : Int32))])) _
    refine XS.icmpNo X42.here hx rfl (hb hby at_37) rfl (by decide) ?_
    show Steps p.tables e below (T42.setTop (mkF m 40 #[.val (.int p1), .val (.int (3 : Int32)), .val (.ref w1), .val (.int (0 : Int32)), .val (.int (0 : Int32))] [])) _
    refine XS.iload X42.here hx rfl (hb hby at_40) rfl ?_
    show Steps p.tables e below (T42.setTop (mkF m 42 #[.val (.int p1), .val (.int (3 : Int32)), .val (.ref w1), .val (.int (0 : Int32)), .val (.int (0 : Int32))] [(.int (0 : Int32))])) _
    refine XS.ifYes X42.here hx rfl (pc0 := 42) (pc' := 52) rfl (hb hby at_42) rfl (by decide) (by decide) (by decide) ?_
    show Steps p.tables e below (T42.setTop (mkF m 52 #[.val (.int p1), .val (.int (3 : Int32)), .val (.ref w1), .val (.int (0 : Int32)), .val (.int (0 : Int32))] [])) _
    refine XT.iconstV X42.here hx rfl (1 : Int32) (hb hby at_52) rfl ?_
    show Steps p.tables e below (T42.setTop (mkF m 53 #[.val (.int p1), .val (.int (3 : Int32)), .val (.ref w1), .val (.int (0 : Int32)), .val (.int (0 : Int32))] [(.int (1 : Int32))])) _
    refine XS.goto X42.here hx rfl (pc0 := 53) (pc' := 57) rfl (hb hby at_53) (by decide) (by decide) ?_
    show Steps p.tables e below (T42.setTop (mkF m 57 #[.val (.int p1), .val (.int (3 : Int32)), .val (.ref w1), .val (.int (0 : Int32)), .val (.int (0 : Int32))] [(.int (1 : Int32))])) _
    exact retN X42 hx (t := .boolean) Bd.returns (by simp) (hb hby at_57) hr
  · show own_Q0 n0 _ T42.heap _
    exact ⟨rfl, N42⟩
set_option maxRecDepth 65536 in
set_option maxHeartbeats 40000000 in
theorem own_law_4 (l : Launch) (Z : State) (a0 : Array Value) (hw : ∀ d ∈ tables_1, d.before a0 Z = true) (ws : List Jvm.Cond) (p1 : Int32) (w0 w1 w2 w3 w4 w5 : Addr) (h0 : Heap) (n0 : Nat) (Z0 : n0 ≤ h0.size) (P : own_P Z h0 w0 w1 w2 w3 w4 w5) (hk : ((p1 &&& (2147483647 : Int32)) % (6 : Int32)) = (4 : Int32)) :
    MetFree l x (head1 (Jvm.Cond.code x code maxLocals ret :: ws) room_1) (fun a U => a = #[(.int p1)] ∧ Z.Warmed39 U.vm ∧ U.heap = h0) (fun _ _ _ _ _ => True) (fun _ U o U' => ∃ v L, o = .returned v ∧ own_Q0 n0 v U'.heap L ∧ FrameEnd U o U' L room_1.cells room_1.slots) := by
  refine MetFree.of_bodySF (plainFor_of_name pn_com_example_orbweave_orbweave_UrlStateWaitingPinLaw) hisR ?_
  intro p e s m args below meth c s₁ Bd hml0 hP hK
  obtain ⟨rfl, hZ, hh⟩ := hP
  have hx := Bd.exec
  have hby := Bd.bytes
  have hml : c.maxLocals = 5 := hml0
  have hown : s.vm.findClass "com/example/orbweave/orbweave/UrlStateWaitingPinLaw" = some m.cls := findClass_of_methodNamed Bd.named
  have hnm := (name_of_methodNamed Bd.named Bd.method).1
  have X0 : Stand p l e room_1 s m #[(.int p1)] below meth c s₁ [] 0 0 := Stand.of_body Bd
  have e0 : s₁.heap = h0 := by rw [← hh, Bd.state]; rfl
  have N0 := Fr.nil n0
  have pre0 : ∀ t, Steps p.tables e below (s₁.setTop (mkF m 0 #[.val (.int p1), .unset, .unset, .unset, .unset] [])) t → Steps p.tables e below (s₁.setTop (entryFrame m #[(.int p1)] maxLocals)) t := fun t k => castTop (ef_code_I m p1) k
  have P0 := P; obtain ⟨S0, E0, F0_ordinal, S1, E1, F1_ordinal, S2, E2, F2_ordinal, S3, E3, F3_ordinal, S4, E4, F4_ordinal, S5, E5, F5_ordinal⟩ := P0
  obtain ⟨_, _, ⟨T43, L43, k43, n43⟩, -, X43, ⟨Lc43, hQ43, l43, y43, z43⟩, st43⟩ := Jvm.LawKit.callS X0 hx (y := (⟨"com/example/orbweave/orbweave/UrlStateWaitingPinLaw", "pick", "(I)Lcom/example/orbweave/orbweave/UrlState;"⟩ : MethodName)) hown (mvT hZ (hw _ (List.mem_of_getElem? (i := 1) rfl))) (mvT hZ (hw _ (List.mem_of_getElem? (i := 2) rfl))) (mvT hZ (hw _ (List.mem_of_getElem? (i := 3) rfl))) (mvT hZ (hw _ (List.mem_of_getElem? (i := 4) rfl))) (by decide) (backOf (W := 0) (own_pick_4 l Z a0 hw [] w0 w1 w2 w3 w4 w5 h0 n0 Z0 P) hZ (hw _ (List.mem_of_getElem? (i := 4) rfl)) (hw _ (List.mem_of_getElem? (i := 3) rfl)) (by decide) (by decide)) (g := (mkF m 9 #[.val (.int p1), .val (.int (4 : Int32)), .unset, .unset, .unset] [(.int (4 : Int32))])) rfl (by rw [hml]; rfl) (argsL := [(.int (4 : Int32))]) (rest := []) (lenOf pd__I_Lcom_example_orbweave_orbweave_UrlState_ rfl) rfl (by show 2 * 0 + _ ≤ _; exact Nat.le_of_eq rfl) (hb hby at_9) (fun _ _ => ⟨rfl, e0, (by decide : 0 + 0 ≤ _), (by decide : 0 + 0 ≤ _)⟩)
  dsimp only [Pt.U, Pt.locs, Pt.cells, Pt.slots] at X43 l43 y43 z43 st43 hQ43
  subst l43 y43 z43
  obtain ⟨rfl, N43q, e43⟩ := hQ43
  have N43 := Fr.app N0 N43q
  obtain ⟨cq44, kq44, q44a, q44b, q44c⟩ := isOf hZ e43 E2
  obtain ⟨_, _, ⟨T44, L44, k44, n44⟩, -, X44, ⟨Lc44, hQ44, l44, y44, z44⟩, st44⟩ := X43.virtualBack hx (y := (⟨"com/example/orbweave/orbweave/UrlState", "waiting", "()Z"⟩ : MethodName)) (z := (⟨"com/example/orbweave/orbweave/UrlState", "waiting", "()Z"⟩ : MethodName)) hown (mvT hZ (hw _ (List.mem_of_getElem? (i := 8) rfl))) (mvT hZ (hw _ (List.mem_of_getElem? (i := 9) rfl))) (notFace_of_selects (args := #[]) (mvT hZ (hw _ (List.mem_of_getElem? (i := 11) rfl)))) (mvT hZ (hw _ (List.mem_of_getElem? (i := 11) rfl))) (mvT hZ (hw _ (List.mem_of_getElem? (i := 10) rfl))) (by decide) (backOf (W := 0) (own_waiting_2 l Z a0 hw [] w0 w1 w2 w3 w4 w5 h0 n0 Z0 P) hZ (hw _ (List.mem_of_getElem? (i := 12) rfl)) (hw _ (List.mem_of_getElem? (i := 6) rfl)) (by decide) (by decide)) q44a q44c (g := (mkF m 29 #[.val (.int p1), .val (.int (4 : Int32)), .val (.ref w2), .val (.int (0 : Int32)), .unset] [(.ref w2)])) rfl (by rw [hml]; rfl) (Steps.refl _) (argsL := []) (rest := []) (lenOf pd___Z rfl) rfl (by show 2 * 0 + _ ≤ _; exact Nat.le_of_eq rfl) (hb hby at_29) (fun _ _ => ⟨rfl, e43, (by decide : 0 + 0 ≤ _), (by decide : 0 + 0 ≤ _)⟩)
  dsimp only [Pt.U, Pt.locs, Pt.cells, Pt.slots] at X44 l44 y44 z44 st44 hQ44
  subst l44 y44 z44
  obtain ⟨rfl, N44q, e44⟩ := hQ44
  have N44 := Fr.app N43 N44q
  obtain ⟨fs, hr, hrun, hended, hW, hsame⟩ := X44.leave (v := some (.int (1 : Int32))) (fun h => by rw [Bd.returns] at h; cases h)
  refine ⟨_, _, pre0 _ ?_, hrun, hended, _, _, rfl, ?_, ⟨_, rfl⟩, hW, hsame.mono (by decide) (by decide)⟩
  · show Steps p.tables e below (s₁.setTop (mkF m 0 #[.val (.int p1), .unset, .unset, .unset, .unset] [])) _
    refine XS.iloadN X0.here hx rfl (hb hby at_0) rfl ?_
    show Steps p.tables e below (s₁.setTop (mkF m 1 #[.val (.int p1), .unset, .unset, .unset, .unset] [(.int p1)])) _
    refine Jvm.Stand.ldcI X0 hx hown (mvT hZ (hw _ (List.mem_of_getElem? (i := 0) rfl))) rfl (hb hby at_1) ?_
    show Steps p.tables e below (s₁.setTop (mkF m 3 #[.val (.int p1), .unset, .unset, .unset, .unset] [(.int (2147483647 : Int32)), (.int p1)])) _
    refine XS.iand X0.here hx rfl (hb hby at_3) rfl ?_
    show Steps p.tables e below (s₁.setTop (mkF m 4 #[.val (.int p1), .unset, .unset, .unset, .unset] [(.int (p1 &&& (2147483647 : Int32)))])) _
    refine XT.bipushV X0.here hx rfl (6 : Int32) (hb hby at_4) (by decide) ?_
    show Steps p.tables e below (s₁.setTop (mkF m 6 #[.val (.int p1), .unset, .unset, .unset, .unset] [(.int (6 : Int32)), (.int (p1 &&& (2147483647 : Int32)))])) _
    refine iremM X0 hx rfl (hb hby at_6) rfl (by decide) ?_
    show Steps p.tables e below (s₁.setTop (mkF m 7 #[.val (.int p1), .unset, .unset, .unset, .unset] [(.int ((p1 &&& (2147483647 : Int32)) % (6 : Int32)))])) _
    rw [hk]
    show Steps p.tables e below (s₁.setTop (mkF m 7 #[.val (.int p1), .unset, .unset, .unset, .unset] [(.int (4 : Int32))])) _
    refine XS.istoreN X0.here hx rfl (hb hby at_7) rfl (l' := #[.val (.int p1), .val (.int (4 : Int32)), .unset, .unset, .unset]) rfl ?_
    show Steps p.tables e below (s₁.setTop (mkF m 8 #[.val (.int p1), .val (.int (4 : Int32)), .unset, .unset, .unset] [])) _
    refine XS.iloadN X0.here hx rfl (hb hby at_8) rfl ?_
    show Steps p.tables e below (s₁.setTop (mkF m 9 #[.val (.int p1), .val (.int (4 : Int32)), .unset, .unset, .unset] [(.int (4 : Int32))])) _
    refine st43 _ ?_
    show Steps p.tables e below (T43.setTop (mkF m 12 #[.val (.int p1), .val (.int (4 : Int32)), .unset, .unset, .unset] [(.ref w2)])) _
    refine XS.astoreN X43.here hx rfl (hb hby at_12) rfl rfl (l' := #[.val (.int p1), .val (.int (4 : Int32)), .val (.ref w2), .unset, .unset]) rfl ?_
    show Steps p.tables e below (T43.setTop (mkF m 13 #[.val (.int p1), .val (.int (4 : Int32)), .val (.ref w2), .unset, .unset] [])) _
    refine XS.iloadN X43.here hx rfl (hb hby at_13) rfl ?_
    show Steps p.tables e below (T43.setTop (mkF m 14 #[.val (.int p1), .val (.int (4 : Int32)), .val (.ref w2), .unset, .unset] [(.int (4 : Int32))])) _
    refine XS.ifNo X43.here hx rfl (hb hby at_14) rfl (by decide) ?_
    show Steps p.tables e below (T43.setTop (mkF m 17 #[.val (.int p1), .val (.int (4 : Int32)), .val (.ref w2), .unset, .unset] [])) _
    refine XS.iloadN X43.here hx rfl (hb hby at_17) rfl ?_
    show Steps p.tables e below (T43.setTop (mkF m 18 #[.val (.int p1), .val (.int (4 : Int32)), .val (.ref w2), .unset, .unset] [(.int (4 : Int32))])) _
    refine XT.iconstV X43.here hx rfl (2 : Int32) (hb hby at_18) rfl ?_
    show Steps p.tables e below (T43.setTop (mkF m 19 #[.val (.int p1), .val (.int (4 : Int32)), .val (.ref w2), .unset, .unset] [(.int (2 : Int32)), (.int (4 : Int32))])) _
    refine XS.icmpYes X43.here hx rfl (pc0 := 19) (pc' := 26) rfl (hb hby at_19) rfl (by decide) (by decide) (by decide) ?_
    show Steps p.tables e below (T43.setTop (mkF m 26 #[.val (.int p1), .val (.int (4 : Int32)), .val (.ref w2), .unset, .unset] [])) _
    refine XT.iconstV X43.here hx rfl (0 : Int32) (hb hby at_26) rfl ?_
    show Steps p.tables e below (T43.setTop (mkF m 27 #[.val (.int p1), .val (.int (4 : Int32)), .val (.ref w2), .unset, .unset] [(.int (0 : Int32))])) _
    refine XS.istoreN X43.here hx rfl (hb hby at_27) rfl (l' := #[.val (.int p1), .val (.int (4 : Int32)), .val (.ref w2), .val (.int (0 : Int32)), .unset]) rfl ?_
    show Steps p.tables e below (T43.setTop (mkF m 28 #[.val (.int p1), .val (.int (4 : Int32)), .val (.ref w2), .val (.int (0 : Int32)), .unset] [])) _
    refine XS.aloadN X43.here hx rfl (hb hby at_28) rfl rfl ?_
    show Steps p.tables e below (T43.setTop (mkF m 29 #[.val (.int p1), .val (.int (4 : Int32)), .val (.ref w2), .val (.int (0 : Int32)), .unset] [(.ref w2)])) _
    refine st44.trans ?_
    show Steps p.tables e below (T44.setTop (mkF m 32 #[.val (.int p1), .val (.int (4 : Int32)), .val (.ref w2), .val (.int (0 : Int32)), .unset] [(.int (0 : Int32))])) _
    refine XS.istore X44.here hx rfl (hb hby at_32) rfl (l' := #[.val (.int p1), .val (.int (4 : Int32)), .val (.ref w2), .val (.int (0 : Int32)), .val (.int (0 : Int32))]) rfl ?_
    show Steps p.tables e below (T44.setTop (mkF m 34 #[.val (.int p1), .val (.int (4 : Int32)), .val (.ref w2), .val (.int (0 : Int32)), .val (.int (0 : Int32))] [])) _
    refine XS.iload X44.here hx rfl (hb hby at_34) rfl ?_
    show Steps p.tables e below (T44.setTop (mkF m 36 #[.val (.int p1), .val (.int (4 : Int32)), .val (.ref w2), .val (.int (0 : Int32)), .val (.int (0 : Int32))] [(.int (0 : Int32))])) _
    refine XS.iloadN X44.here hx rfl (hb hby at_36) rfl ?_
    show Steps p.tables e below (T44.setTop (mkF m 37 #[.val (.int p1), .val (.int (4 : Int32)), .val (.ref w2), .val (.int (0 : Int32)), .val (.int (0 : Int32))] [(.int (0 : Int32)), (.int (0 : Int32))])) _
    refine XS.icmpNo X44.here hx rfl (hb hby at_37) rfl (by decide) ?_
    show Steps p.tables e below (T44.setTop (mkF m 40 #[.val (.int p1), .val (.int (4 : Int32)), .val (.ref w2), .val (.int (0 : Int32)), .val (.int (0 : Int32))] [])) _
    refine XS.iload X44.here hx rfl (hb hby at_40) rfl ?_
    show Steps p.tables e below (T44.setTop (mkF m 42 #[.val (.int p1), .val (.int (4 : Int32)), .val (.ref w2), .val (.int (0 : Int32)), .val (.int (0 : Int32))] [(.int (0 : Int32))])) _
    refine XS.ifYes X44.here hx rfl (pc0 := 42) (pc' := 52) rfl (hb hby at_42) rfl (by decide) (by decide) (by decide) ?_
    show Steps p.tables e below (T44.setTop (mkF m 52 #[.val (.int p1), .val (.int (4 : Int32)), .val (.ref w2), .val (.int (0 : Int32)), .val (.int (0 : Int32))] [])) _
    refine XT.iconstV X44.here hx rfl (1 : Int32) (hb hby at_52) rfl ?_
    show Steps p.tables e below (T44.setTop (mkF m 53 #[.val (.int p1), .val (.int (4 : Int32)), .val (.ref w2), .val (.int (0 : Int32)), .val (.int (0 : Int32))] [(.int (1 : Int32))])) _
    refine XS.goto X44.here hx rfl (pc0 := 53) (pc' := 57) rfl (hb hby at_53) (by decide) (by decide) ?_
    show Steps p.tables e below (T44.setTop (mkF m 57 #[.val (.int p1), .val (.int (4 : Int32)), .val (.ref w2), .val (.int (0 : Int32)), .val (.int (0 : Int32))] [(.int (1 : Int32))])) _
    exact retN X44 hx (t := .boolean) Bd.returns (by simp) (hb hby at_57) hr
  · show own_Q0 n0 _ T44.heap _
    exact ⟨rfl, N44⟩
set_option maxRecDepth 65536 in
set_option maxHeartbeats 40000000 in
theorem own_law_5 (l : Launch) (Z : State) (a0 : Array Value) (hw : ∀ d ∈ tables_1, d.before a0 Z = true) (ws : List Jvm.Cond) (p1 : Int32) (w0 w1 w2 w3 w4 w5 : Addr) (h0 : Heap) (n0 : Nat) (Z0 : n0 ≤ h0.size) (P : own_P Z h0 w0 w1 w2 w3 w4 w5) (hk : ((p1 &&& (2147483647 : Int32)) % (6 : Int32)) = (5 : Int32)) :
    MetFree l x (head1 (Jvm.Cond.code x code maxLocals ret :: ws) room_1) (fun a U => a = #[(.int p1)] ∧ Z.Warmed39 U.vm ∧ U.heap = h0) (fun _ _ _ _ _ => True) (fun _ U o U' => ∃ v L, o = .returned v ∧ own_Q0 n0 v U'.heap L ∧ FrameEnd U o U' L room_1.cells room_1.slots) := by
  refine MetFree.of_bodySF (plainFor_of_name pn_com_example_orbweave_orbweave_UrlStateWaitingPinLaw) hisR ?_
  intro p e s m args below meth c s₁ Bd hml0 hP hK
  obtain ⟨rfl, hZ, hh⟩ := hP
  have hx := Bd.exec
  have hby := Bd.bytes
  have hml : c.maxLocals = 5 := hml0
  have hown : s.vm.findClass "com/example/orbweave/orbweave/UrlStateWaitingPinLaw" = some m.cls := findClass_of_methodNamed Bd.named
  have hnm := (name_of_methodNamed Bd.named Bd.method).1
  have X0 : Stand p l e room_1 s m #[(.int p1)] below meth c s₁ [] 0 0 := Stand.of_body Bd
  have e0 : s₁.heap = h0 := by rw [← hh, Bd.state]; rfl
  have N0 := Fr.nil n0
  have pre0 : ∀ t, Steps p.tables e below (s₁.setTop (mkF m 0 #[.val (.int p1), .unset, .unset, .unset, .unset] [])) t → Steps p.tables e below (s₁.setTop (entryFrame m #[(.int p1)] maxLocals)) t := fun t k => castTop (ef_code_I m p1) k
  have P0 := P; obtain ⟨S0, E0, F0_ordinal, S1, E1, F1_ordinal, S2, E2, F2_ordinal, S3, E3, F3_ordinal, S4, E4, F4_ordinal, S5, E5, F5_ordinal⟩ := P0
  obtain ⟨_, _, ⟨T45, L45, k45, n45⟩, -, X45, ⟨Lc45, hQ45, l45, y45, z45⟩, st45⟩ := Jvm.LawKit.callS X0 hx (y := (⟨"com/example/orbweave/orbweave/UrlStateWaitingPinLaw", "pick", "(I)Lcom/example/orbweave/orbweave/UrlState;"⟩ : MethodName)) hown (mvT hZ (hw _ (List.mem_of_getElem? (i := 1) rfl))) (mvT hZ (hw _ (List.mem_of_getElem? (i := 2) rfl))) (mvT hZ (hw _ (List.mem_of_getElem? (i := 3) rfl))) (mvT hZ (hw _ (List.mem_of_getElem? (i := 4) rfl))) (by decide) (backOf (W := 0) (own_pick_5 l Z a0 hw [] w0 w1 w2 w3 w4 w5 h0 n0 Z0 P) hZ (hw _ (List.mem_of_getElem? (i := 4) rfl)) (hw _ (List.mem_of_getElem? (i := 3) rfl)) (by decide) (by decide)) (g := (mkF m 9 #[.val (.int p1), .val (.int (5 : Int32)), .unset, .unset, .unset] [(.int (5 : Int32))])) rfl (by rw [hml]; rfl) (argsL := [(.int (5 : Int32))]) (rest := []) (lenOf pd__I_Lcom_example_orbweave_orbweave_UrlState_ rfl) rfl (by show 2 * 0 + _ ≤ _; exact Nat.le_of_eq rfl) (hb hby at_9) (fun _ _ => ⟨rfl, e0, (by decide : 0 + 0 ≤ _), (by decide : 0 + 0 ≤ _)⟩)
  dsimp only [Pt.U, Pt.locs, Pt.cells, Pt.slots] at X45 l45 y45 z45 st45 hQ45
  subst l45 y45 z45
  obtain ⟨rfl, N45q, e45⟩ := hQ45
  have N45 := Fr.app N0 N45q
  obtain ⟨cq46, kq46, q46a, q46b, q46c⟩ := isOf hZ e45 E3
  obtain ⟨_, _, ⟨T46, L46, k46, n46⟩, -, X46, ⟨Lc46, hQ46, l46, y46, z46⟩, st46⟩ := X45.virtualBack hx (y := (⟨"com/example/orbweave/orbweave/UrlState", "waiting", "()Z"⟩ : MethodName)) (z := (⟨"com/example/orbweave/orbweave/UrlState", "waiting", "()Z"⟩ : MethodName)) hown (mvT hZ (hw _ (List.mem_of_getElem? (i := 8) rfl))) (mvT hZ (hw _ (List.mem_of_getElem? (i := 9) rfl))) (notFace_of_selects (args := #[]) (mvT hZ (hw _ (List.mem_of_getElem? (i := 11) rfl)))) (mvT hZ (hw _ (List.mem_of_getElem? (i := 11) rfl))) (mvT hZ (hw _ (List.mem_of_getElem? (i := 10) rfl))) (by decide) (backOf (W := 0) (own_waiting_3 l Z a0 hw [] w0 w1 w2 w3 w4 w5 h0 n0 Z0 P) hZ (hw _ (List.mem_of_getElem? (i := 12) rfl)) (hw _ (List.mem_of_getElem? (i := 6) rfl)) (by decide) (by decide)) q46a q46c (g := (mkF m 29 #[.val (.int p1), .val (.int (5 : Int32)), .val (.ref w3), .val (.int (0 : Int32)), .unset] [(.ref w3)])) rfl (by rw [hml]; rfl) (Steps.refl _) (argsL := []) (rest := []) (lenOf pd___Z rfl) rfl (by show 2 * 0 + _ ≤ _; exact Nat.le_of_eq rfl) (hb hby at_29) (fun _ _ => ⟨rfl, e45, (by decide : 0 + 0 ≤ _), (by decide : 0 + 0 ≤ _)⟩)
  dsimp only [Pt.U, Pt.locs, Pt.cells, Pt.slots] at X46 l46 y46 z46 st46 hQ46
  subst l46 y46 z46
  obtain ⟨rfl, N46q, e46⟩ := hQ46
  have N46 := Fr.app N45 N46q
  obtain ⟨fs, hr, hrun, hended, hW, hsame⟩ := X46.leave (v := some (.int (1 : Int32))) (fun h => by rw [Bd.returns] at h; cases h)
  refine ⟨_, _, pre0 _ ?_, hrun, hended, _, _, rfl, ?_, ⟨_, rfl⟩, hW, hsame.mono (by decide) (by decide)⟩
  · show Steps p.tables e below (s₁.setTop (mkF m 0 #[.val (.int p1), .unset, .unset, .unset, .unset] [])) _
    refine XS.iloadN X0.here hx rfl (hb hby at_0) rfl ?_
    show Steps p.tables e below (s₁.setTop (mkF m 1 #[.val (.int p1), .unset, .unset, .unset, .unset] [(.int p1)])) _
    refine Jvm.Stand.ldcI X0 hx hown (mvT hZ (hw _ (List.mem_of_getElem? (i := 0) rfl))) rfl (hb hby at_1) ?_
    show Steps p.tables e below (s₁.setTop (mkF m 3 #[.val (.int p1), .unset, .unset, .unset, .unset] [(.int (2147483647 : Int32)), (.int p1)])) _
    refine XS.iand X0.here hx rfl (hb hby at_3) rfl ?_
    show Steps p.tables e below (s₁.setTop (mkF m 4 #[.val (.int p1), .unset, .unset, .unset, .unset] [(.int (p1 &&& (2147483647 : Int32)))])) _
    refine XT.bipushV X0.here hx rfl (6 : Int32) (hb hby at_4) (by decide) ?_
    show Steps p.tables e below (s₁.setTop (mkF m 6 #[.val (.int p1), .unset, .unset, .unset, .unset] [(.int (6 : Int32)), (.int (p1 &&& (2147483647 : Int32)))])) _
    refine iremM X0 hx rfl (hb hby at_6) rfl (by decide) ?_
    show Steps p.tables e below (s₁.setTop (mkF m 7 #[.val (.int p1), .unset, .unset, .unset, .unset] [(.int ((p1 &&& (2147483647 : Int32)) % (6 : Int32)))])) _
    rw [hk]
    show Steps p.tables e below (s₁.setTop (mkF m 7 #[.val (.int p1), .unset, .unset, .unset, .unset] [(.int (5 : Int32))])) _
    refine XS.istoreN X0.here hx rfl (hb hby at_7) rfl (l' := #[.val (.int p1), .val (.int (5 : Int32)), .unset, .unset, .unset]) rfl ?_
    show Steps p.tables e below (s₁.setTop (mkF m 8 #[.val (.int p1), .val (.int (5 : Int32)), .unset, .unset, .unset] [])) _
    refine XS.iloadN X0.here hx rfl (hb hby at_8) rfl ?_
    show Steps p.tables e below (s₁.setTop (mkF m 9 #[.val (.int p1), .val (.int (5 : Int32)), .unset, .unset, .unset] [(.int (5 : Int32))])) _
    refine st45 _ ?_
    show Steps p.tables e below (T45.setTop (mkF m 12 #[.val (.int p1), .val (.int (5 : Int32)), .unset, .unset, .unset] [(.ref w3)])) _
    refine XS.astoreN X45.here hx rfl (hb hby at_12) rfl rfl (l' := #[.val (.int p1), .val (.int (5 : Int32)), .val (.ref w3), .unset, .unset]) rfl ?_
    show Steps p.tables e below (T45.setTop (mkF m 13 #[.val (.int p1), .val (.int (5 : Int32)), .val (.ref w3), .unset, .unset] [])) _
    refine XS.iloadN X45.here hx rfl (hb hby at_13) rfl ?_
    show Steps p.tables e below (T45.setTop (mkF m 14 #[.val (.int p1), .val (.int (5 : Int32)), .val (.ref w3), .unset, .unset] [(.int (5 : Int32))])) _
    refine XS.ifNo X45.here hx rfl (hb hby at_14) rfl (by decide) ?_
    show Steps p.tables e below (T45.setTop (mkF m 17 #[.val (.int p1), .val (.int (5 : Int32)), .val (.ref w3), .unset, .unset] [])) _
    refine XS.iloadN X45.here hx rfl (hb hby at_17) rfl ?_
    show Steps p.tables e below (T45.setTop (mkF m 18 #[.val (.int p1), .val (.int (5 : Int32)), .val (.ref w3), .unset, .unset] [(.int (5 : Int32))])) _
    refine XT.iconstV X45.here hx rfl (2 : Int32) (hb hby at_18) rfl ?_
    show Steps p.tables e below (T45.setTop (mkF m 19 #[.val (.int p1), .val (.int (5 : Int32)), .val (.ref w3), .unset, .unset] [(.int (2 : Int32)), (.int (5 : Int32))])) _
    refine XS.icmpYes X45.here hx rfl (pc0 := 19) (pc' := 26) rfl (hb hby at_19) rfl (by decide) (by decide) (by decide) ?_
    show Steps p.tables e below (T45.setTop (mkF m 26 #[.val (.int p1), .val (.int (5 : Int32)), .val (.ref w3), .unset, .unset] [])) _
    refine XT.iconstV X45.here hx rfl (0 : Int32) (hb hby at_26) rfl ?_
    show Steps p.tables e below (T45.setTop (mkF m 27 #[.val (.int p1), .val (.int (5 : Int32)), .val (.ref w3), .unset, .unset] [(.int (0 : Int32))])) _
    refine XS.istoreN X45.here hx rfl (hb hby at_27) rfl (l' := #[.val (.int p1), .val (.int (5 : Int32)), .val (.ref w3), .val (.int (0 : Int32)), .unset]) rfl ?_
    show Steps p.tables e below (T45.setTop (mkF m 28 #[.val (.int p1), .val (.int (5 : Int32)), .val (.ref w3), .val (.int (0 : Int32)), .unset] [])) _
    refine XS.aloadN X45.here hx rfl (hb hby at_28) rfl rfl ?_
    show Steps p.tables e below (T45.setTop (mkF m 29 #[.val (.int p1), .val (.int (5 : Int32)), .val (.ref w3), .val (.int (0 : Int32)), .unset] [(.ref w3)])) _
    refine st46.trans ?_
    show Steps p.tables e below (T46.setTop (mkF m 32 #[.val (.int p1), .val (.int (5 : Int32)), .val (.ref w3), .val (.int (0 : Int32)), .unset] [(.int (0 : Int32))])) _
    refine XS.istore X46.here hx rfl (hb hby at_32) rfl (l' := #[.val (.int p1), .val (.int (5 : Int32)), .val (.ref w3), .val (.int (0 : Int32)), .val (.int (0 : Int32))]) rfl ?_
    show Steps p.tables e below (T46.setTop (mkF m 34 #[.val (.int p1), .val (.int (5 : Int32)), .val (.ref w3), .val (.int (0 : Int32)), .val (.int (0 : Int32))] [])) _
    refine XS.iload X46.here hx rfl (hb hby at_34) rfl ?_
    show Steps p.tables e below (T46.setTop (mkF m 36 #[.val (.int p1), .val (.int (5 : Int32)), .val (.ref w3), .val (.int (0 : Int32)), .val (.int (0 : Int32))] [(.int (0 : Int32))])) _
    refine XS.iloadN X46.here hx rfl (hb hby at_36) rfl ?_
    show Steps p.tables e below (T46.setTop (mkF m 37 #[.val (.int p1), .val (.int (5 : Int32)), .val (.ref w3), .val (.int (0 : Int32)), .val (.int (0 : Int32))] [(.int (0 : Int32)), (.int (0 : Int32))])) _
    refine XS.icmpNo X46.here hx rfl (hb hby at_37) rfl (by decide) ?_
    show Steps p.tables e below (T46.setTop (mkF m 40 #[.val (.int p1), .val (.int (5 : Int32)), .val (.ref w3), .val (.int (0 : Int32)), .val (.int (0 : Int32))] [])) _
    refine XS.iload X46.here hx rfl (hb hby at_40) rfl ?_
    show Steps p.tables e below (T46.setTop (mkF m 42 #[.val (.int p1), .val (.int (5 : Int32)), .val (.ref w3), .val (.int (0 : Int32)), .val (.int (0 : Int32))] [(.int (0 : Int32))])) _
    refine XS.ifYes X46.here hx rfl (pc0 := 42) (pc' := 52) rfl (hb hby at_42) rfl (by decide) (by decide) (by decide) ?_
    show Steps p.tables e below (T46.setTop (mkF m 52 #[.val (.int p1), .val (.int (5 : Int32)), .val (.ref w3), .val (.int (0 : Int32)), .val (.int (0 : Int32))] [])) _
    refine XT.iconstV X46.here hx rfl (1 : Int32) (hb hby at_52) rfl ?_
    show Steps p.tables e below (T46.setTop (mkF m 53 #[.val (.int p1), .val (.int (5 : Int32)), .val (.ref w3), .val (.int (0 : Int32)), .val (.int (0 : Int32))] [(.int (1 : Int32))])) _
    refine XS.goto X46.here hx rfl (pc0 := 53) (pc' := 57) rfl (hb hby at_53) (by decide) (by decide) ?_
    show Steps p.tables e below (T46.setTop (mkF m 57 #[.val (.int p1), .val (.int (5 : Int32)), .val (.ref w3), .val (.int (0 : Int32)), .val (.int (0 : Int32))] [(.int (1 : Int32))])) _
    exact retN X46 hx (t := .boolean) Bd.returns (by simp) (hb hby at_57) hr
  · show own_Q0 n0 _ T46.heap _
    exact ⟨rfl, N46⟩
set_option maxRecDepth 65536 in
set_option maxHeartbeats 40000000 in
theorem own_law (l : Launch) (Z : State) (a0 : Array Value) (hw : ∀ d ∈ tables_1, d.before a0 Z = true) (ws : List Jvm.Cond) (p1 : Int32) (w0 w1 w2 w3 w4 w5 : Addr) (h0 : Heap) (n0 : Nat) (Z0 : n0 ≤ h0.size) (P : own_P Z h0 w0 w1 w2 w3 w4 w5) :
    MetFree l x (head1 (Jvm.Cond.code x code maxLocals ret :: ws) room_1) (fun a U => a = #[(.int p1)] ∧ Z.Warmed39 U.vm ∧ U.heap = h0) (fun _ _ _ _ _ => True) (fun _ U o U' => ∃ v L, o = .returned v ∧ own_Q0 n0 v U'.heap L ∧ FrameEnd U o U' L room_1.cells room_1.slots) := by
  rcases own_cases p1 with hk | hk | hk | hk | hk | hk
  · exact own_law_0 l Z a0 hw ws p1 w0 w1 w2 w3 w4 w5 h0 n0 Z0 P hk
  · exact own_law_1 l Z a0 hw ws p1 w0 w1 w2 w3 w4 w5 h0 n0 Z0 P hk
  · exact own_law_2 l Z a0 hw ws p1 w0 w1 w2 w3 w4 w5 h0 n0 Z0 P hk
  · exact own_law_3 l Z a0 hw ws p1 w0 w1 w2 w3 w4 w5 h0 n0 Z0 P hk
  · exact own_law_4 l Z a0 hw ws p1 w0 w1 w2 w3 w4 w5 h0 n0 Z0 P hk
  · exact own_law_5 l Z a0 hw ws p1 w0 w1 w2 w3 w4 w5 h0 n0 Z0 P hk
set_option maxRecDepth 65536 in
set_option maxHeartbeats 40000000 in
theorem comes_1 {Post : Tables → Env → Array Value → State → Outcome → State → Prop} (hpost : ∀ tb e args s v u, (limb_1_1.after args s (.returned v) u = true ∧ limb_1_2.after args s (.returned v) u = true ∧ True) → FrameEnd s (.returned v) u (Jvm.fieldLocs frame_1_writes args s ++ Jvm.arrayLocs frame_1_arrays args s ++ Jvm.staticLocs frame_1_statics s) 0 0 → Post tb e args s (.returned v) u) :
    ArmFor flags0 classFile x code maxLocals ret World_1 tables_1 room_1 Calls_1 rest_1 Pre_1 Post := by
  intro l hfl _ _ p e ha hc hk s m args below hf hA hF happ hP
  obtain ⟨hcalls, hrest, hpre⟩ := hP
  obtain ⟨-, -, -, hnamed, -, -, -, hat⟩ := (Spec.applies_iff hf).mp happ
  obtain ⟨hg, hn⟩ := and_e (Cond.before_iff.mp (show (Jvm.Cond.and given_1 narrow_1).before args s = true from hpre))
  obtain ⟨gg, gr⟩ := and_e hg
  obtain ⟨a0, rfl⟩ : ∃ a0 : Value, args = #[a0] := by
    have hs : args.size = 1 := by simpa [Cond.value, given_1] using gg
    obtain ⟨L⟩ := args
    match L, hs with
    | [a0], _ => exact ⟨a0, rfl⟩
  have hw := fun d (hd : d ∈ tables_1) => atoms_spec (ws := Jvm.Cond.code x code maxLocals ret :: tables_1) hat d (List.mem_cons_of_mem _ hd)
  have hfit : Fit s := fun {y c} hc i hi => by
    obtain ⟨ha, rfl⟩ := Array.getElem?_eq_some_iff.mp hc
    have q := List.all_eq_true.mp ((Array.all_eq_true_iff_forall_mem.mp hF) _ (Array.getElem_mem ha)) i (List.mem_range.mpr hi)
    simpa [Array.getElem?_eq_getElem hi] using q
  obtain ⟨i0, ei0⟩ := is_v gr
  obtain rfl : a0 = (.int i0) := Option.some.inj ei0
  obtain ⟨c0, r0⟩ := and_e hn
  obtain ⟨c1, r1⟩ := and_e r0
  obtain ⟨c2, r2⟩ := and_e r1
  obtain ⟨c3, r3⟩ := and_e r2
  obtain ⟨c4, r4⟩ := and_e r3
  obtain ⟨c5, r5⟩ := and_e r4
  obtain ⟨c6, r6⟩ := and_e r5
  obtain ⟨c7, r7⟩ := and_e r6
  obtain ⟨c8, r8⟩ := and_e r7
  obtain ⟨c9, r9⟩ := and_e r8
  obtain ⟨c10, r10⟩ := and_e r9
  obtain ⟨w0, v0⟩ := exa_v c0
  have E0 := Exa.start v0 c0
  have S0 := Sta.start v0 (Or.inr ⟨(hw _ (List.mem_of_getElem? (i := 6) rfl)), (hw _ (List.mem_of_getElem? (i := 7) rfl))⟩)
  obtain ⟨w1, v1⟩ := exa_v c1
  have E1 := Exa.start v1 c1
  have S1 := Sta.start v1 (Or.inr ⟨(hw _ (List.mem_of_getElem? (i := 6) rfl)), (hw _ (List.mem_of_getElem? (i := 20) rfl))⟩)
  obtain ⟨w2, v2⟩ := exa_v c4
  have E2 := Exa.start v2 c4
  have S2 := Sta.start v2 (Or.inr ⟨(hw _ (List.mem_of_getElem? (i := 6) rfl)), (hw _ (List.mem_of_getElem? (i := 22) rfl))⟩)
  obtain ⟨w3, v3⟩ := exa_v c6
  have E3 := Exa.start v3 c6
  have S3 := Sta.start v3 (Or.inr ⟨(hw _ (List.mem_of_getElem? (i := 6) rfl)), (hw _ (List.mem_of_getElem? (i := 24) rfl))⟩)
  obtain ⟨w4, v4⟩ := exa_v c8
  have E4 := Exa.start v4 c8
  have S4 := Sta.start v4 (Or.inr ⟨(hw _ (List.mem_of_getElem? (i := 6) rfl)), (hw _ (List.mem_of_getElem? (i := 27) rfl))⟩)
  obtain ⟨w5, v5⟩ := exa_v c10
  have E5 := Exa.start v5 c10
  have S5 := Sta.start v5 (Or.inr ⟨(hw _ (List.mem_of_getElem? (i := 6) rfl)), (hw _ (List.mem_of_getElem? (i := 30) rfl))⟩)
  have F0_ordinal := own_fldI v0 c2
  have F1_ordinal := own_fldI v1 c3
  have F2_ordinal := own_fldI v2 c5
  have F3_ordinal := own_fldI v3 c7
  have F4_ordinal := own_fldI v4 c9
  have F5_ordinal := own_fldI v5 r10
  have P : own_P s s.heap w0 w1 w2 w3 w4 w5 := ⟨S0, E0, F0_ordinal, S1, E1, F1_ordinal, S2, E2, F2_ordinal, S3, E3, F3_ordinal, S4, E4, F4_ordinal, S5, E5, F5_ordinal⟩
  obtain ⟨n, o, h1, h2, h3, _, L, rfl, ⟨rfl, N⟩, hq⟩ := own_law l s _ hw tables_1 i0 w0 w1 w2 w3 w4 w5 s.heap s.heap.size (Nat.le_refl _) P p e ha hc hk s m _ below hf ((Spec.applies_iff_loose hf).mp happ).1 ⟨rfl, State.Warmed39.refl s, rfl⟩ trivial
  refine ⟨n, _, h1, h2, h3, hpost _ _ _ _ _ _ ⟨Cond.after_iff.mpr rfl, Cond.after_iff.mpr (eq_i res_at (Term.int_eval (1)) rfl), trivial⟩ ⟨hq.1, hq.2.1, (hq.2.2.sift fun y hy => Or.inr (N y hy)).mono (by decide) (by decide)⟩⟩
theorem main_1_1 : Claimed_1_1 := comes_1 fun _ _ _ _ _ _ h hF => ⟨h.1, hF⟩
theorem main_1_2 : Claimed_1_2 := comes_1 fun _ _ _ _ _ _ h hF => ⟨h.2.1, hF⟩
end Jvm.Pilot.@@N@@
namespace Jvm.Pilot.@@N@@
open Jvm Jvm.ClassFile Sem Op Lib Jvm.Free Jvm.Stand Jvm.Pilot.@@N@@.Jvm.D
/-! MADE BY PROGRAM (witnessworld.py) out of the Statement's table words and the real class files: 12 classes; the members and pool entries that the words name. The judged class is class 1, her method 1. -/
namespace start1
open Jvm.ClassFile
def u (s : String) : CpInfo := .utf8 (stringToUtf16 s)
/-- a pool by its gaps: so many unusable entries, then the entry; so many at the end -/
def gap : Nat → List CpInfo → List CpInfo
  | 0, r => r
  | n + 1, r => .unusable :: gap n r
def poolList (es : List (Nat × CpInfo)) (last : Nat) : List CpInfo := es.foldr (fun e r => gap e.1 (e.2 :: r)) (gap last [])
def pool (es : List (Nat × CpInfo)) (last : Nat) : Array CpInfo := ⟨poolList es last⟩
def fileOf (pool : Array CpInfo) (this : Nat) (attrs : Array Attribute := #[]) (ms : Array MethodInfo := #[]) (fl : Nat := 33) (sup : Nat := 0) (ifs : Array Nat := #[]) (fds : Array FieldInfo := #[]) : ClassFile where
  minorVersion := 0
  majorVersion := 65
  constantPool := pool
  accessFlags := fl
  thisClass := this
  superClass := sup
  interfaces := ifs
  fields := fds
  methods := ms
  attributes := attrs
def plain (name : String) (sup : Option ClassId) : Class where
  name := name
  kind := .ordinary
  loader := none
  accessFlags := 33
  super := sup
  interfaces := #[]
  cf := none
  fields := #[]
  methods := #[]
  instanceTypes := #[]
  staticTypes := #[]
  resolved := #[]
  callSites := []
  init := .initialized
  statics := none
  mirror := none

def pool0 : Array CpInfo := pool [(5, u "<init>"), (0, u "()V"), (1, .class_ 10), (1, u "java/lang/Object")] 113

def k0m0 : Method := { name := "<init>", desc := "()V", sig := { parameters := [], returnType := none }, accessFlags := 1, code := none }
/-- java/lang/Object -/
def k0 : Class := { plain "java/lang/Object" none with
  accessFlags := 33
  interfaces := #[]
  cf := some (fileOf pool0 8 #[] #[{ accessFlags := 1, nameIndex := 5, descriptorIndex := 6, attributes := #[] }] 33 0 #[] #[])
  fields := #[]
  methods := #[k0m0]
  instanceTypes := #[]
  staticTypes := #[]
  resolved := Array.replicate 124 none
  statics := none }

def pool1 : Array CpInfo := pool [(2, .class_ 4), (1, u "java/lang/Object"), (0, u "<init>"), (0, u "()V"), (0, .integer 2147483647), (0, .methodref 9 10), (0, .class_ 11), (0, .nameAndType 12 13), (0, u "com/example/orbweave/orbweave/UrlStateWaitingPinLaw"), (0, u "pick"), (0, u "(I)Lcom/example/orbweave/orbweave/UrlState;"), (0, .methodref 15 16), (0, .class_ 17), (0, .nameAndType 18 19), (0, u "com/example/orbweave/orbweave/UrlState"), (0, u "waiting"), (0, u "()Z"), (0, .methodref 15 21), (0, .nameAndType 22 19), (0, u "requested"), (0, .fieldref 15 24), (0, .nameAndType 25 26), (0, u "QUEUED"), (0, u "Lcom/example/orbweave/orbweave/UrlState;"), (0, .fieldref 15 28), (0, .nameAndType 29 26), (0, u "DISALLOWED"), (0, .fieldref 15 31), (0, .nameAndType 32 26), (0, u "DEFERRED"), (0, .fieldref 15 34), (0, .nameAndType 35 26), (0, u "FETCHED"), (0, .fieldref 15 37), (0, .nameAndType 38 26), (0, u "INDEXED"), (0, .fieldref 15 40), (0, .nameAndType 41 26), (0, u "FAILED"), (2, u "law"), (0, u "(I)Z")] 3

def k1m0 : Method := { name := "<init>", desc := "()V", sig := { parameters := [], returnType := none }, accessFlags := 1, code := none }
def k1c1 : Code := { maxStack := 2, maxLocals := 5, code := code, exceptionTable := #[], attributes := #[] }
def k1m1 : Method := { name := "law", desc := "(I)Z", sig := { parameters := [.int], returnType := some .boolean }, accessFlags := 9, code := some k1c1 }
def k1c2 : Code := { maxStack := 2, maxLocals := 1, code := method_3_code, exceptionTable := #[], attributes := #[] }
def k1m2 : Method := { name := "pick", desc := "(I)Lcom/example/orbweave/orbweave/UrlState;", sig := { parameters := [.int], returnType := some (.object "com/example/orbweave/orbweave/UrlState") }, accessFlags := 10, code := some k1c2 }
/-- com/example/orbweave/orbweave/UrlStateWaitingPinLaw -/
def k1 : Class := { plain "com/example/orbweave/orbweave/UrlStateWaitingPinLaw" (some 0) with
  accessFlags := 49
  interfaces := #[]
  cf := some (fileOf pool1 9 #[] #[{ accessFlags := 1, nameIndex := 5, descriptorIndex := 6, attributes := #[] }, { accessFlags := 9, nameIndex := 44, descriptorIndex := 45, attributes := #[] }, { accessFlags := 10, nameIndex := 12, descriptorIndex := 13, attributes := #[] }] 49 2 #[] #[])
  fields := #[]
  methods := #[k1m0, k1m1, k1m2]
  instanceTypes := #[]
  staticTypes := #[]
  resolved := Array.replicate 49 none
  statics := none }

def pool2 : Array CpInfo := pool [(1, .class_ 2), (0, u "java/lang/constant/Constable"), (0, .class_ 4), (0, u "java/lang/Object")] 6

/-- java/lang/constant/Constable -/
def k2 : Class := { plain "java/lang/constant/Constable" (some 0) with
  accessFlags := 1537
  interfaces := #[]
  cf := some (fileOf pool2 1 #[] #[] 1537 3 #[] #[])
  fields := #[]
  methods := #[]
  instanceTypes := #[]
  staticTypes := #[]
  resolved := Array.replicate 11 none
  statics := none }

def pool3 : Array CpInfo := pool [(1, .class_ 2), (0, u "java/lang/Comparable"), (0, .class_ 4), (0, u "java/lang/Object")] 7

/-- java/lang/Comparable -/
def k3 : Class := { plain "java/lang/Comparable" (some 0) with
  accessFlags := 1537
  interfaces := #[]
  cf := some (fileOf pool3 1 #[] #[] 1537 3 #[] #[])
  fields := #[]
  methods := #[]
  instanceTypes := #[]
  staticTypes := #[]
  resolved := Array.replicate 12 none
  statics := none }

def pool4 : Array CpInfo := pool [(1, .class_ 2), (0, u "java/io/Serializable"), (0, .class_ 4), (0, u "java/lang/Object")] 2

/-- java/io/Serializable -/
def k4 : Class := { plain "java/io/Serializable" (some 0) with
  accessFlags := 1537
  interfaces := #[]
  cf := some (fileOf pool4 1 #[] #[] 1537 3 #[] #[])
  fields := #[]
  methods := #[]
  instanceTypes := #[]
  staticTypes := #[]
  resolved := Array.replicate 7 none
  statics := none }

def pool5 : Array CpInfo := pool [(2, .class_ 4), (1, u "java/lang/Enum"), (0, u "name"), (0, u "Ljava/lang/String;"), (2, u "ordinal"), (0, u "I"), (1, .class_ 14), (1, u "java/lang/Object"), (4, u "hash"), (86, .class_ 108), (1, u "java/lang/Enum$EnumDesc"), (2, .class_ 112), (0, u "java/lang/constant/Constable"), (0, .class_ 114), (0, u "java/lang/Comparable"), (0, .class_ 116), (0, u "java/io/Serializable")] 87

/-- java/lang/Enum -/
def k5 : Class := { plain "java/lang/Enum" (some 0) with
  accessFlags := 1057
  interfaces := #[2, 3, 4]
  cf := some (fileOf pool5 2 #[.nestMembers #[106]] #[] 1057 12 #[111, 113, 115] #[{ accessFlags := 18, nameIndex := 5, descriptorIndex := 6, attributes := #[] }, { accessFlags := 18, nameIndex := 9, descriptorIndex := 10, attributes := #[] }, { accessFlags := 2, nameIndex := 19, descriptorIndex := 10, attributes := #[] }])
  fields := #[{ name := "name", type := (.object "java/lang/String"), accessFlags := 18, slot := 0, constantValue := 0 }, { name := "ordinal", type := .int, accessFlags := 18, slot := 1, constantValue := 0 }, { name := "hash", type := .int, accessFlags := 2, slot := 2, constantValue := 0 }]
  methods := #[]
  instanceTypes := #[(.object "java/lang/String"), .int, .int]
  staticTypes := #[]
  resolved := Array.replicate 204 none
  statics := none }

def pool6 : Array CpInfo := pool [(1, .class_ 2), (0, u "com/example/orbweave/orbweave/UrlState"), (0, .fieldref 1 4), (0, .nameAndType 5 6), (0, u "QUEUED"), (0, u "Lcom/example/orbweave/orbweave/UrlState;"), (2, u "DISALLOWED"), (0, .fieldref 1 11), (0, .nameAndType 12 6), (0, u "DEFERRED"), (0, .fieldref 1 14), (0, .nameAndType 15 6), (0, u "FETCHED"), (0, .fieldref 1 17), (0, .nameAndType 18 6), (0, u "INDEXED"), (0, .fieldref 1 20), (0, .nameAndType 21 6), (0, u "FAILED"), (2, u "$VALUES"), (0, u "[Lcom/example/orbweave/orbweave/UrlState;"), (6, .class_ 34), (1, u "java/lang/Enum"), (24, u "waiting"), (0, u "()Z"), (1, u "requested")] 4

def k6c0 : Code := { maxStack := 2, maxLocals := 1, code := prog_6_method_4_code, exceptionTable := #[], attributes := #[] }
def k6m0 : Method := { name := "waiting", desc := "()Z", sig := { parameters := [], returnType := some .boolean }, accessFlags := 0, code := some k6c0 }
def k6c1 : Code := { maxStack := 2, maxLocals := 1, code := prog_6_method_5_code, exceptionTable := #[], attributes := #[] }
def k6m1 : Method := { name := "requested", desc := "()Z", sig := { parameters := [], returnType := some .boolean }, accessFlags := 0, code := some k6c1 }
/-- com/example/orbweave/orbweave/UrlState -/
def k6 : Class := { plain "com/example/orbweave/orbweave/UrlState" (some 5) with
  accessFlags := 16432
  interfaces := #[]
  cf := some (fileOf pool6 1 #[] #[{ accessFlags := 0, nameIndex := 59, descriptorIndex := 60, attributes := #[] }, { accessFlags := 0, nameIndex := 62, descriptorIndex := 60, attributes := #[] }] 16432 32 #[] #[{ accessFlags := 16409, nameIndex := 5, descriptorIndex := 6, attributes := #[] }, { accessFlags := 16409, nameIndex := 9, descriptorIndex := 6, attributes := #[] }, { accessFlags := 16409, nameIndex := 12, descriptorIndex := 6, attributes := #[] }, { accessFlags := 16409, nameIndex := 15, descriptorIndex := 6, attributes := #[] }, { accessFlags := 16409, nameIndex := 18, descriptorIndex := 6, attributes := #[] }, { accessFlags := 16409, nameIndex := 21, descriptorIndex := 6, attributes := #[] }, { accessFlags := 4122, nameIndex := 24, descriptorIndex := 25, attributes := #[] }])
  fields := #[{ name := "QUEUED", type := (.object "com/example/orbweave/orbweave/UrlState"), accessFlags := 16409, slot := 0, constantValue := 0 }, { name := "DISALLOWED", type := (.object "com/example/orbweave/orbweave/UrlState"), accessFlags := 16409, slot := 1, constantValue := 0 }, { name := "DEFERRED", type := (.object "com/example/orbweave/orbweave/UrlState"), accessFlags := 16409, slot := 2, constantValue := 0 }, { name := "FETCHED", type := (.object "com/example/orbweave/orbweave/UrlState"), accessFlags := 16409, slot := 3, constantValue := 0 }, { name := "INDEXED", type := (.object "com/example/orbweave/orbweave/UrlState"), accessFlags := 16409, slot := 4, constantValue := 0 }, { name := "FAILED", type := (.object "com/example/orbweave/orbweave/UrlState"), accessFlags := 16409, slot := 5, constantValue := 0 }, { name := "$VALUES", type := (.array (.object "com/example/orbweave/orbweave/UrlState")), accessFlags := 4122, slot := 6, constantValue := 0 }]
  methods := #[k6m0, k6m1]
  instanceTypes := #[(.object "java/lang/String"), .int, .int]
  staticTypes := #[(.object "com/example/orbweave/orbweave/UrlState"), (.object "com/example/orbweave/orbweave/UrlState"), (.object "com/example/orbweave/orbweave/UrlState"), (.object "com/example/orbweave/orbweave/UrlState"), (.object "com/example/orbweave/orbweave/UrlState"), (.object "com/example/orbweave/orbweave/UrlState"), (.array (.object "com/example/orbweave/orbweave/UrlState"))]
  resolved := Array.replicate 67 none
  statics := some 0 }

def pool7 : Array CpInfo := pool [(1, u "java/lang/Cloneable"), (0, .class_ 1), (0, u "java/lang/Object"), (0, .class_ 3)] 3

/-- java/lang/Cloneable -/
def k7 : Class := { plain "java/lang/Cloneable" (some 0) with
  accessFlags := 1537
  interfaces := #[]
  cf := some (fileOf pool7 2 #[] #[] 1537 4 #[] #[])
  fields := #[]
  methods := #[]
  instanceTypes := #[]
  staticTypes := #[]
  resolved := Array.replicate 8 none
  statics := none }

/-- the primitive byte -/
def k8 : Class := { plain "byte" none with kind := .primitive 'B', accessFlags := 0x411 }
/-- [B -/
def k9 : Class := { plain "[B" (some 0) with kind := .array 8 .byte, interfaces := #[7, 4], accessFlags := 1041 }

/-- the primitive int -/
def k10 : Class := { plain "int" none with kind := .primitive 'I', accessFlags := 0x411 }
/-- [I -/
def k11 : Class := { plain "[I" (some 0) with kind := .array 10 .int, interfaces := #[7, 4], accessFlags := 1041 }

def heap : Heap := #[{ cls := 6, slots := #[.ref 1, .ref 6, .ref 5, .ref 2, .ref 3, .ref 4, .null], vm := .statics 6 },
  { cls := 6, slots := #[.null, .int 0, .int 0], vm := .none },
  { cls := 6, slots := #[.null, .int 3, .int 0], vm := .none },
  { cls := 6, slots := #[.null, .int 4, .int 0], vm := .none },
  { cls := 6, slots := #[.null, .int 5, .int 0], vm := .none },
  { cls := 6, slots := #[.null, .int 2, .int 0], vm := .none },
  { cls := 6, slots := #[.null, .int 1, .int 0], vm := .none }]
def classes : Array Class := #[k0, k1, k2, k3, k4, k5, k6, k7, k8, k9, k10, k11]
def interned : List (Array UInt16 × Addr) := []
def slotsUsed : Nat := 25
def theMethod : MethodId := ⟨1, 1⟩
def args0 : Array Value := #[.int 5]
def aboutOver (below : List Frame) : State where
  vm := { classes := classes, interned := interned.toArray }
  heap := heap
  slotsUsed := slotsUsed
  threads := #[{ frames := .invoking theMethod args0 :: below }]
def below0 : List Frame := [.native { method := ⟨0, 0⟩, args := #[] }]
def about1 : State := aboutOver below0
def p0 : Program := .bare "" "" ""
def e0 : Env := launch0.env 0 0 0
theorem w_frames : about1.frames = Frame.invoking theMethod args0 :: below0 := rfl
set_option maxRecDepth 65536 in
theorem w_args : argsFit about1.vm theMethod args0 = true := by decide +kernel
set_option maxRecDepth 65536 in
theorem w_heap : heapFits about1 = true := by decide +kernel
set_option maxRecDepth 65536 in
theorem w_runnable : about1.curStatus? = some .runnable := by decide +kernel
set_option maxRecDepth 65536 in
theorem w_alone : about1.alone = true := by decide +kernel
set_option maxRecDepth 65536 in
theorem w_named : about1.methodNamed? x = some theMethod := by decide +kernel
set_option maxRecDepth 65536 in
theorem w_hears : about1.hears theMethod below0 = true := by decide +kernel
set_option maxRecDepth 65536 in
theorem w_ripe : about1.ripe theMethod args0 below0 = true := by decide +kernel
theorem w_running : about1.status = .running := rfl
set_option maxRecDepth 65536 in
theorem w_room : about1.hasRoom e0.platform room_1 = true :=
  launch0.hasRoom_least _ room_1 (by decide +kernel) (by decide +kernel) (by decide +kernel) (by decide +kernel) (by decide +kernel) (by decide +kernel)
theorem allAtoms_all (ts : List Jvm.Cond) (a : Array Jvm.Value) (st : Jvm.State) : (allAtoms ts).before a st = ts.all (fun c => c.before a st) := by
  induction ts with
  | nil => rfl
  | cons c t ih =>
    show (Jvm.Cond.and c (allAtoms t)).before a st = _
    rw [Jvm.Cond.before_and, ih, List.all_cons]
def words1 : List Jvm.Cond := Jvm.Cond.code x code maxLocals ret :: tables_1
/-- a 'code' word, met by the world's own term for the bytes: nothing is compared byte by byte -/
theorem code_word {y : MethodName} {bytes : ByteArray} {mx : Nat} {rt : Option FieldType} {a : Array Value} {s : State} {m : MethodId} {meth : Method} {c : Code} (h1 : s.methodNamed? y = some m) (h2 : s.vm.method? m = some meth) (h3 : meth.code = some c) (h4 : c.code = bytes)
    (h5 : (c.maxLocals == mx && c.exceptionTable.isEmpty && decide (c.maxStack ≤ mostOperands) && decide (meth.sig.returnType = rt) && !meth.locks && decide (parseMethodDescriptor y.desc = some meth.sig)) = true) : (Jvm.Cond.code y bytes mx rt).before a s = true := by
  simp only [Bool.and_eq_true, beq_iff_eq, Bool.not_eq_true', decide_eq_true_eq] at h5
  obtain ⟨⟨⟨⟨⟨g1, g2⟩, g3⟩, g4⟩, g5⟩, g6⟩ := h5
  simp [Cond.before, Cond.holds, Cond.value, h1, h2, h3, h4, g1, g2, g3, g4, g5, g6]
def isCode : Jvm.Cond → Bool
  | .code _ _ _ _ => true
  | _ => false
theorem all_split {L : List Jvm.Cond} {P : Jvm.Cond → Bool} (h1 : L.all (fun c => isCode c || P c) = true) (h2 : ∀ c ∈ L.filter isCode, P c = true) : L.all P = true := by
  refine List.all_eq_true.mpr fun c hc => ?_
  have h := List.all_eq_true.mp h1 c hc
  rcases Bool.eq_false_or_eq_true (isCode c) with hi | hi
  · exact h2 c (List.mem_filter.mpr ⟨hc, hi⟩)
  · simpa [hi] using h
set_option maxRecDepth 65536 in
theorem w_c0 : (Jvm.Cond.code x code maxLocals ret).before args0 about1 = true := code_word (m := ⟨1, 1⟩) (meth := k1m1) (c := k1c1) (by decide +kernel) rfl rfl rfl (by decide +kernel)
set_option maxRecDepth 65536 in
theorem w_c1 : (Jvm.Cond.code ({ cls := "com/example/orbweave/orbweave/UrlStateWaitingPinLaw", name := "pick", desc := "(I)Lcom/example/orbweave/orbweave/UrlState;" } : Jvm.MethodName) method_3_code (1 : Nat) (Option.some (Jvm.ClassFile.FieldType.object "com/example/orbweave/orbweave/UrlState"))).before args0 about1 = true := code_word (m := ⟨1, 2⟩) (meth := k1m2) (c := k1c2) (by decide +kernel) rfl rfl rfl (by decide +kernel)
set_option maxRecDepth 65536 in
theorem w_c2 : (Jvm.Cond.code ({ cls := "com/example/orbweave/orbweave/UrlState", name := "waiting", desc := "()Z" } : Jvm.MethodName) prog_6_method_4_code (1 : Nat) (Option.some Jvm.ClassFile.FieldType.boolean)).before args0 about1 = true := code_word (m := ⟨6, 0⟩) (meth := k6m0) (c := k6c0) (by decide +kernel) rfl rfl rfl (by decide +kernel)
set_option maxRecDepth 65536 in
theorem w_c3 : (Jvm.Cond.code ({ cls := "com/example/orbweave/orbweave/UrlState", name := "requested", desc := "()Z" } : Jvm.MethodName) prog_6_method_5_code (1 : Nat) (Option.some Jvm.ClassFile.FieldType.boolean)).before args0 about1 = true := code_word (m := ⟨6, 1⟩) (meth := k6m1) (c := k6c1) (by decide +kernel) rfl rfl rfl (by decide +kernel)
def codes1 : List Jvm.Cond := [Jvm.Cond.code x code maxLocals ret, Jvm.Cond.code ({ cls := "com/example/orbweave/orbweave/UrlStateWaitingPinLaw", name := "pick", desc := "(I)Lcom/example/orbweave/orbweave/UrlState;" } : Jvm.MethodName) method_3_code (1 : Nat) (Option.some (Jvm.ClassFile.FieldType.object "com/example/orbweave/orbweave/UrlState")), Jvm.Cond.code ({ cls := "com/example/orbweave/orbweave/UrlState", name := "waiting", desc := "()Z" } : Jvm.MethodName) prog_6_method_4_code (1 : Nat) (Option.some Jvm.ClassFile.FieldType.boolean), Jvm.Cond.code ({ cls := "com/example/orbweave/orbweave/UrlState", name := "requested", desc := "()Z" } : Jvm.MethodName) prog_6_method_5_code (1 : Nat) (Option.some Jvm.ClassFile.FieldType.boolean)]
set_option maxRecDepth 65536 in
theorem codes_eq : words1.filter isCode = codes1 := rfl
theorem w_codes : ∀ c ∈ words1.filter isCode, c.before args0 about1 = true := by
  rw [codes_eq]
  intro c hc
  simp only [codes1, List.mem_cons, List.not_mem_nil, or_false] at hc
  rcases hc with rfl | rfl | rfl | rfl
  · exact w_c0
  · exact w_c1
  · exact w_c2
  · exact w_c3
set_option maxRecDepth 65536 in
theorem w_t1 : (words1.take 24).all (fun c => isCode c || c.before args0 about1) = true := by decide +kernel
set_option maxRecDepth 65536 in
theorem w_t2 : (words1.drop 24).all (fun c => isCode c || c.before args0 about1) = true := by decide +kernel
theorem w_tables : (allAtoms (Jvm.Cond.code x code maxLocals ret :: tables_1)).before args0 about1 = true := by
  rw [allAtoms_all]
  show words1.all (fun c => c.before args0 about1) = true
  refine all_split ?_ w_codes
  rw [← List.take_append_drop 24 words1, List.all_append, w_t1, w_t2]
  rfl
set_option maxRecDepth 65536 in
theorem w_case : (Jvm.Cond.and given_1 narrow_1).before args0 about1 = true := by decide +kernel
theorem w_applies : (headSpec (Jvm.Cond.code x code maxLocals ret :: tables_1) room_1).applies x e0.platform about1 = true :=
  (Spec.applies_iff w_frames).mpr ⟨w_running, w_runnable, w_alone, w_named, w_hears, w_ripe, w_room, w_tables⟩
theorem atStart : AtStart classFile x code maxLocals ret World_1 tables_1 room_1 Calls_1 rest_1 Pre_1 launch0 p0 e0 about1 theMethod args0 below0 :=
  ⟨lists_1, trivial, launch0.admits_env _ _ _, launch0.least_env, fairChoices_fair.cas, fairChoices_fair.clock, w_frames, w_args, w_heap, w_applies, trivial, trivial, w_case⟩
end start1
theorem witness_1 : WitnessClaimed_1 := ⟨start1.p0, start1.e0, start1.about1, start1.theMethod, start1.args0, start1.below0, start1.atStart⟩
end Jvm.Pilot.@@N@@
