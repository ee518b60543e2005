import JvmDerived
import JvmDerived.Pilot.@@N@@Statement
import JvmDerived.Pilot.@@N@@Code
set_option linter.unusedVariables false
set_option linter.unusedSimpArgs false
namespace Jvm.RoadKit
open Sem ClassFile Op Lib Jvm.Stand Jvm.Free Jvm.LawKit
section New
variable {p : Program} {l : Launch} {e : Env} {R : Room} {s : State} {m : MethodId} {args : Array Value} {below : List Frame} {meth : Method} {c : Code} {T : State} {locs : List Loc} {cells slots : Nat}
theorem retI (X : Stand p l e R s m args below meth c T locs cells slots) (hx : p.tables.exec = Jvm.exec) {pc : Nat} {Ls : Array Slot} {z : Int32} {rest : List Value} (hret : meth.sig.returnType = some .int) (hd : decode c.code pc = .ok (.ireturn, 1)) {fs : List Frame}
    (hl : ∀ (f : JFrame) (acts : List Action), f.method = m → f.locked = none → f.entered = [] → (doReturn e (T.setTop f) acts (some (.int z))).1 = T.setFrames fs) : Steps p.tables e below (T.setTop (mkF m pc Ls (.int z :: rest))) (T.setFrames fs) := by
  have hm' : T.vm.method? m = some meth := X.method'
  have hn : narrow .int (.int z) = .int z := rfl
  show Steps p.tables e below (T.setTop { method := m, pc := pc, locals := Ls, stack := _ :: rest, locked := none }) _
  jvm_step X.here [X.here.top, hx, hd, hm', hret, hn]
  first | (intro acts; rw [hl _ acts rfl rfl rfl]) | rw [hl _ _ rfl rfl rfl]
  exact Steps.refl _
end New
end Jvm.RoadKit
namespace Jvm.Pilot.@@N@@
open Jvm Jvm.ClassFile Sem Op Lib Jvm.Free Jvm.Stand Jvm.LawKit Jvm.RoadKit Bundle Jvm.Pilot.@@N@@.Jvm.D

def own_Q (r : Option Value) (h0 : Heap) (n0 : Nat) (v : Option Value) (h : Heap) (L : List Loc) : Prop := v = r ∧ Fr n0 L ∧ h = h0
def own_Q0 (n0 : Nat) (v : Option Value) (h : Heap) (L : List Loc) : Prop := v = some (.int 1) ∧ Fr n0 L
def own_P (Z : State) (h : Heap) (w0 w1 w2 w3 w4 w5 w6 w7 w8 w9 w10 w11 w12 : Addr) : Prop := (Sta Z h "com/example/recourse/recourse/CaseAction" "CREATE" "Lcom/example/recourse/recourse/CaseAction;" (.ref w0)) ∧ (Exa Z h w0 "com/example/recourse/recourse/CaseAction") ∧ (Fld Z h w0 "java/lang/Enum" "ordinal" "I" (.int (0 : Int32))) ∧ (Sta Z h "com/example/recourse/recourse/CaseAction" "WITHDRAW_AND_CLOSE" "Lcom/example/recourse/recourse/CaseAction;" (.ref w1)) ∧ (Exa Z h w1 "com/example/recourse/recourse/CaseAction") ∧ (Fld Z h w1 "java/lang/Enum" "ordinal" "I" (.int (7 : Int32))) ∧ (Sta Z h "com/example/recourse/recourse/CaseAction" "RE_OPEN" "Lcom/example/recourse/recourse/CaseAction;" (.ref w2)) ∧ (Exa Z h w2 "com/example/recourse/recourse/CaseAction") ∧ (Fld Z h w2 "java/lang/Enum" "ordinal" "I" (.int (3 : Int32))) ∧ (Sta Z h "com/example/recourse/recourse/CaseAction" "CHARGEBACK_SUBMIT" "Lcom/example/recourse/recourse/CaseAction;" (.ref w3)) ∧ (Exa Z h w3 "com/example/recourse/recourse/CaseAction") ∧ (Fld Z h w3 "java/lang/Enum" "ordinal" "I" (.int (6 : Int32))) ∧ (Sta Z h "com/example/recourse/recourse/CaseAction" "CHARGEBACK_NO_CREDIT" "Lcom/example/recourse/recourse/CaseAction;" (.ref w4)) ∧ (Exa Z h w4 "com/example/recourse/recourse/CaseAction") ∧ (Fld Z h w4 "java/lang/Enum" "ordinal" "I" (.int (5 : Int32))) ∧ (Sta Z h "com/example/recourse/recourse/CaseAction" "CLOSE" "Lcom/example/recourse/recourse/CaseAction;" (.ref w5)) ∧ (Exa Z h w5 "com/example/recourse/recourse/CaseAction") ∧ (Fld Z h w5 "java/lang/Enum" "ordinal" "I" (.int (9 : Int32))) ∧ (Sta Z h "com/example/recourse/recourse/CaseAction" "ASSIGN" "Lcom/example/recourse/recourse/CaseAction;" (.ref w6)) ∧ (Exa Z h w6 "com/example/recourse/recourse/CaseAction") ∧ (Fld Z h w6 "java/lang/Enum" "ordinal" "I" (.int (2 : Int32))) ∧ (Sta Z h "com/example/recourse/recourse/CaseAction" "REVERT_CREDIT" "Lcom/example/recourse/recourse/CaseAction;" (.ref w7)) ∧ (Exa Z h w7 "com/example/recourse/recourse/CaseAction") ∧ (Fld Z h w7 "java/lang/Enum" "ordinal" "I" (.int (11 : Int32))) ∧ (Sta Z h "com/example/recourse/recourse/CaseAction" "REVIEW" "Lcom/example/recourse/recourse/CaseAction;" (.ref w8)) ∧ (Exa Z h w8 "com/example/recourse/recourse/CaseAction") ∧ (Fld Z h w8 "java/lang/Enum" "ordinal" "I" (.int (1 : Int32))) ∧ (Sta Z h "com/example/recourse/recourse/CaseAction" "WRITE_OFF" "Lcom/example/recourse/recourse/CaseAction;" (.ref w9)) ∧ (Exa Z h w9 "com/example/recourse/recourse/CaseAction") ∧ (Fld Z h w9 "java/lang/Enum" "ordinal" "I" (.int (8 : Int32))) ∧ (Sta Z h "com/example/recourse/recourse/CaseAction" "GRANT_CREDIT" "Lcom/example/recourse/recourse/CaseAction;" (.ref w10)) ∧ (Exa Z h w10 "com/example/recourse/recourse/CaseAction") ∧ (Fld Z h w10 "java/lang/Enum" "ordinal" "I" (.int (10 : Int32))) ∧ (Sta Z h "com/example/recourse/recourse/CaseAction" "UPDATE" "Lcom/example/recourse/recourse/CaseAction;" (.ref w11)) ∧ (Exa Z h w11 "com/example/recourse/recourse/CaseAction") ∧ (Fld Z h w11 "java/lang/Enum" "ordinal" "I" (.int (12 : Int32))) ∧ (Sta Z h "com/example/recourse/recourse/CaseAction" "CHARGEBACK_CREDIT" "Lcom/example/recourse/recourse/CaseAction;" (.ref w12)) ∧ (Exa Z h w12 "com/example/recourse/recourse/CaseAction") ∧ (Fld Z h w12 "java/lang/Enum" "ordinal" "I" (.int (4 : Int32)))
theorem own_fldI {args : Array Value} {s : State} {t : Term} {C n d : String} {a : Addr} {k : Int32} (ev : t.eval args s none [] s = some (.ref a)) (h : (Jvm.Cond.eq (Jvm.Term.field t C n d) (Jvm.Term.int k)).value args s none s [] = some true) : Fld s s.heap a C n d (.int k) := by
  obtain ⟨x, y, e1, e2, K1, K2⟩ := cmp_v (Or.inl h)
  have e3 : (Jvm.Term.int k).eval args s none [] s = some (.int k) := rfl
  obtain rfl : y = .int k := Option.some.inj (e2.symm.trans e3)
  obtain ⟨z, rfl⟩ := K2
  obtain rfl : z = k := gotT (Jvm.Cond.eq_ints e1 e3) h
  exact Fld.start ((fld_at ev).symm.trans e1)
theorem own_fldJ {args : Array Value} {s : State} {t : Term} {C n d : String} {a : Addr} {k : Int64} (ev : t.eval args s none [] s = some (.ref a)) (h : (Jvm.Cond.eq (Jvm.Term.field t C n d) (Jvm.Term.long k)).value args s none s [] = some true) : Fld s s.heap a C n d (.long k) := by
  obtain ⟨x, y, e1, e2, K1, K2⟩ := cmp_v (Or.inl h)
  have e3 : (Jvm.Term.long k).eval args s none [] s = some (.long k) := rfl
  obtain rfl : y = .long k := Option.some.inj (e2.symm.trans e3)
  obtain ⟨z, rfl⟩ := K2
  obtain rfl : z = k := gotT (eq_L e1 e3) h
  exact Fld.start ((fld_at ev).symm.trans e1)
theorem own_cases (x : Int32) : ((x &&& (2147483647 : Int32)) % (13 : Int32)) = (0 : Int32) ∨ ((x &&& (2147483647 : Int32)) % (13 : Int32)) = (1 : Int32) ∨ ((x &&& (2147483647 : Int32)) % (13 : Int32)) = (2 : Int32) ∨ ((x &&& (2147483647 : Int32)) % (13 : Int32)) = (3 : Int32) ∨ ((x &&& (2147483647 : Int32)) % (13 : Int32)) = (4 : Int32) ∨ ((x &&& (2147483647 : Int32)) % (13 : Int32)) = (5 : Int32) ∨ ((x &&& (2147483647 : Int32)) % (13 : Int32)) = (6 : Int32) ∨ ((x &&& (2147483647 : Int32)) % (13 : Int32)) = (7 : Int32) ∨ ((x &&& (2147483647 : Int32)) % (13 : Int32)) = (8 : Int32) ∨ ((x &&& (2147483647 : Int32)) % (13 : Int32)) = (9 : Int32) ∨ ((x &&& (2147483647 : Int32)) % (13 : Int32)) = (10 : Int32) ∨ ((x &&& (2147483647 : Int32)) % (13 : Int32)) = (11 : Int32) ∨ ((x &&& (2147483647 : Int32)) % (13 : Int32)) = (12 : Int32) := by
  have h1 := c_and x (2147483647 : Int32) (by decide)
  have h2 := (c_irem (x &&& (2147483647 : Int32)) (13 : Int32) 13 (by decide)).1 h1.1
  have h3 : 0 ≤ ((x &&& (2147483647 : Int32)) % (13 : Int32)).toInt ∧ ((x &&& (2147483647 : Int32)) % (13 : Int32)).toInt < 13 := by rw [h2]; omega
  clear h2
  generalize ((x &&& (2147483647 : Int32)) % (13 : Int32)) = r at h3 ⊢
  have q : r.toInt = 0 ∨ r.toInt = 1 ∨ r.toInt = 2 ∨ r.toInt = 3 ∨ r.toInt = 4 ∨ r.toInt = 5 ∨ r.toInt = 6 ∨ r.toInt = 7 ∨ r.toInt = 8 ∨ r.toInt = 9 ∨ r.toInt = 10 ∨ r.toInt = 11 ∨ r.toInt = 12 := by omega
  rcases q with q | q | q | q | q | q | q | q | q | q | q | q | q
  · exact (Or.inl (Int32.toInt_inj.mp (q.trans (by decide))))
  · exact (Or.inr (Or.inl (Int32.toInt_inj.mp (q.trans (by decide)))))
  · exact (Or.inr (Or.inr (Or.inl (Int32.toInt_inj.mp (q.trans (by decide))))))
  · exact (Or.inr (Or.inr (Or.inr (Or.inl (Int32.toInt_inj.mp (q.trans (by decide)))))))
  · exact (Or.inr (Or.inr (Or.inr (Or.inr (Or.inl (Int32.toInt_inj.mp (q.trans (by decide))))))))
  · exact (Or.inr (Or.inr (Or.inr (Or.inr (Or.inr (Or.inl (Int32.toInt_inj.mp (q.trans (by decide)))))))))
  · exact (Or.inr (Or.inr (Or.inr (Or.inr (Or.inr (Or.inr (Or.inl (Int32.toInt_inj.mp (q.trans (by decide))))))))))
  · exact (Or.inr (Or.inr (Or.inr (Or.inr (Or.inr (Or.inr (Or.inr (Or.inl (Int32.toInt_inj.mp (q.trans (by decide)))))))))))
  · exact (Or.inr (Or.inr (Or.inr (Or.inr (Or.inr (Or.inr (Or.inr (Or.inr (Or.inl (Int32.toInt_inj.mp (q.trans (by decide))))))))))))
  · exact (Or.inr (Or.inr (Or.inr (Or.inr (Or.inr (Or.inr (Or.inr (Or.inr (Or.inr (Or.inl (Int32.toInt_inj.mp (q.trans (by decide)))))))))))))
  · exact (Or.inr (Or.inr (Or.inr (Or.inr (Or.inr (Or.inr (Or.inr (Or.inr (Or.inr (Or.inr (Or.inl (Int32.toInt_inj.mp (q.trans (by decide))))))))))))))
  · exact (Or.inr (Or.inr (Or.inr (Or.inr (Or.inr (Or.inr (Or.inr (Or.inr (Or.inr (Or.inr (Or.inr (Or.inl (Int32.toInt_inj.mp (q.trans (by decide)))))))))))))))
  · exact (Or.inr (Or.inr (Or.inr (Or.inr (Or.inr (Or.inr (Or.inr (Or.inr (Or.inr (Or.inr (Or.inr (Or.inr (Int32.toInt_inj.mp (q.trans (by decide)))))))))))))))
theorem d_method_2_code_0 : decode method_2_code 0 = .ok (.iload_n 0, 1) := by decide +kernel
theorem d_method_2_code_1 : decode method_2_code 1 = .ok (.ifCond .ne 7, 3) := by decide +kernel
theorem d_method_2_code_4 : decode method_2_code 4 = .ok (.getstatic 7, 3) := by decide +kernel
theorem d_method_2_code_7 : decode method_2_code 7 = .ok (.areturn, 1) := by decide +kernel
theorem ef_method_2_code_I (m : MethodId) (x0 : Int32) : entryFrame m #[(.int x0)] 1 = mkF m 0 #[.val (.int x0)] [] := by first | (simp [entryFrame, mkF, argsToLocals, Value.category]; done) | rfl
theorem pn_com_example_recourse_recourse_CaseActionGivesAmountBackPinLaw : plainName "com/example/recourse/recourse/CaseActionGivesAmountBackPinLaw" = true := by first | (simp [plainName, overriddenIn]; done) | decide +kernel
set_option maxRecDepth 65536 in
set_option maxHeartbeats 40000000 in
theorem own_pick_0 (l : Launch) (Z : State) (a0 : Array Value) (hw : ∀ d ∈ tables_1, d.before a0 Z = true) (ws : List Jvm.Cond) (w0 w1 w2 w3 w4 w5 w6 w7 w8 w9 w10 w11 w12 : Addr) (h0 : Heap) (n0 : Nat) (Z0 : n0 ≤ h0.size) (P : own_P Z h0 w0 w1 w2 w3 w4 w5 w6 w7 w8 w9 w10 w11 w12) :
    MetFree l (⟨"com/example/recourse/recourse/CaseActionGivesAmountBackPinLaw", "pick", "(I)Lcom/example/recourse/recourse/CaseAction;"⟩ : MethodName) (head1 (Jvm.Cond.code (⟨"com/example/recourse/recourse/CaseActionGivesAmountBackPinLaw", "pick", "(I)Lcom/example/recourse/recourse/CaseAction;"⟩ : MethodName) method_2_code 1 (some (.object "com/example/recourse/recourse/CaseAction")) :: ws) ({ frames := 0, cells := 0, slots := 0, locals := 0 } : Room)) (fun a U => a = #[(.int (0 : Int32))] ∧ Z.Warmed39 U.vm ∧ U.heap = h0) (fun _ _ _ _ _ => True) (fun _ U o U' => ∃ v L, o = .returned v ∧ own_Q (some (.ref w0)) h0 n0 v U'.heap L ∧ FrameEnd U o U' L ({ frames := 0, cells := 0, slots := 0, locals := 0 } : Room).cells ({ frames := 0, cells := 0, slots := 0, locals := 0 } : Room).slots) := by
  refine MetFree.of_bodySF (plainFor_of_name pn_com_example_recourse_recourse_CaseActionGivesAmountBackPinLaw) hisR ?_
  intro p e s m args below meth c s₁ Bd hml0 hP hK
  obtain ⟨rfl, hZ, hh⟩ := hP
  have hx := Bd.exec
  have hby := Bd.bytes
  have hml : c.maxLocals = 1 := hml0
  have hown : s.vm.findClass "com/example/recourse/recourse/CaseActionGivesAmountBackPinLaw" = some m.cls := findClass_of_methodNamed Bd.named
  have hnm := (name_of_methodNamed Bd.named Bd.method).1
  have X0 : Stand p l e ({ frames := 0, cells := 0, slots := 0, locals := 0 } : Room) s m #[(.int (0 : Int32))] below meth c s₁ [] 0 0 := Stand.of_body Bd
  have e0 : s₁.heap = h0 := by rw [← hh, Bd.state]; rfl
  have N0 := Fr.nil n0
  have pre0 : ∀ t, Steps p.tables e below (s₁.setTop (mkF m 0 #[.val (.int (0 : Int32))] [])) t → Steps p.tables e below (s₁.setTop (entryFrame m #[(.int (0 : Int32))] 1)) t := fun t k => castTop (ef_method_2_code_I m (0 : Int32)) k
  have P0 := P; obtain ⟨S0, E0, F0_ordinal, S1, E1, F1_ordinal, S2, E2, F2_ordinal, S3, E3, F3_ordinal, S4, E4, F4_ordinal, S5, E5, F5_ordinal, S6, E6, F6_ordinal, S7, E7, F7_ordinal, S8, E8, F8_ordinal, S9, E9, F9_ordinal, S10, E10, F10_ordinal, S11, E11, F11_ordinal, S12, E12, F12_ordinal⟩ := P0
  obtain ⟨T1, X1, e1, st1⟩ := getS2 X0 hx hZ hown (host := "") (Or.inl (hw _ (List.mem_of_getElem? (i := 5) rfl))) Via.refl e0 S0 (g := (mkF m 4 #[.val (.int (0 : Int32))] [])) rfl (hb hby d_method_2_code_4)
  obtain ⟨fs, hr, hrun, hended, hW, hsame⟩ := X1.leave (v := some (.ref w0)) (fun h => by rw [Bd.returns] at h; cases h)
  refine ⟨_, _, pre0 _ ?_, hrun, hended, _, _, rfl, ?_, ⟨_, rfl⟩, hW, hsame.mono (by decide) (by decide)⟩
  · show Steps p.tables e below (s₁.setTop (mkF m 0 #[.val (.int (0 : Int32))] [])) _
    refine XS.iloadN X0.here hx rfl (hb hby d_method_2_code_0) rfl ?_
    show Steps p.tables e below (s₁.setTop (mkF m 1 #[.val (.int (0 : Int32))] [(.int (0 : Int32))])) _
    refine XS.ifNo X0.here hx rfl (hb hby d_method_2_code_1) rfl (by decide) ?_
    show Steps p.tables e below (s₁.setTop (mkF m 4 #[.val (.int (0 : Int32))] [])) _
    refine st1 _ ?_
    show Steps p.tables e below (T1.setTop (mkF m 7 #[.val (.int (0 : Int32))] [(.ref w0)])) _
    jvm_step X1.here [X1.here.top, hx, (hb hby d_method_2_code_7), X1.method', Bd.returns, Value.isRef, FieldType.isReference]
    first | (intro acts; rw [hr _ acts rfl rfl rfl]) | rw [hr _ _ rfl rfl rfl]
    exact Steps.refl _
  · show own_Q (some (.ref w0)) h0 n0 _ T1.heap _
    rw [e1]
    exact ⟨rfl, N0, rfl⟩
theorem d_method_2_code_8 : decode method_2_code 8 = .ok (.iload_n 0, 1) := by decide +kernel
theorem d_method_2_code_9 : decode method_2_code 9 = .ok (.iconst 1, 1) := by decide +kernel
theorem d_method_2_code_10 : decode method_2_code 10 = .ok (.if_icmp .ne 7, 3) := by decide +kernel
theorem d_method_2_code_13 : decode method_2_code 13 = .ok (.getstatic 13, 3) := by decide +kernel
theorem d_method_2_code_16 : decode method_2_code 16 = .ok (.areturn, 1) := by decide +kernel
set_option maxRecDepth 65536 in
set_option maxHeartbeats 40000000 in
theorem own_pick_1 (l : Launch) (Z : State) (a0 : Array Value) (hw : ∀ d ∈ tables_1, d.before a0 Z = true) (ws : List Jvm.Cond) (w0 w1 w2 w3 w4 w5 w6 w7 w8 w9 w10 w11 w12 : Addr) (h0 : Heap) (n0 : Nat) (Z0 : n0 ≤ h0.size) (P : own_P Z h0 w0 w1 w2 w3 w4 w5 w6 w7 w8 w9 w10 w11 w12) :
    MetFree l (⟨"com/example/recourse/recourse/CaseActionGivesAmountBackPinLaw", "pick", "(I)Lcom/example/recourse/recourse/CaseAction;"⟩ : MethodName) (head1 (Jvm.Cond.code (⟨"com/example/recourse/recourse/CaseActionGivesAmountBackPinLaw", "pick", "(I)Lcom/example/recourse/recourse/CaseAction;"⟩ : MethodName) method_2_code 1 (some (.object "com/example/recourse/recourse/CaseAction")) :: ws) ({ frames := 0, cells := 0, slots := 0, locals := 0 } : Room)) (fun a U => a = #[(.int (1 : Int32))] ∧ Z.Warmed39 U.vm ∧ U.heap = h0) (fun _ _ _ _ _ => True) (fun _ U o U' => ∃ v L, o = .returned v ∧ own_Q (some (.ref w8)) h0 n0 v U'.heap L ∧ FrameEnd U o U' L ({ frames := 0, cells := 0, slots := 0, locals := 0 } : Room).cells ({ frames := 0, cells := 0, slots := 0, locals := 0 } : Room).slots) := by
  refine MetFree.of_bodySF (plainFor_of_name pn_com_example_recourse_recourse_CaseActionGivesAmountBackPinLaw) hisR ?_
  intro p e s m args below meth c s₁ Bd hml0 hP hK
  obtain ⟨rfl, hZ, hh⟩ := hP
  have hx := Bd.exec
  have hby := Bd.bytes
  have hml : c.maxLocals = 1 := hml0
  have hown : s.vm.findClass "com/example/recourse/recourse/CaseActionGivesAmountBackPinLaw" = some m.cls := findClass_of_methodNamed Bd.named
  have hnm := (name_of_methodNamed Bd.named Bd.method).1
  have X0 : Stand p l e ({ frames := 0, cells := 0, slots := 0, locals := 0 } : Room) s m #[(.int (1 : Int32))] below meth c s₁ [] 0 0 := Stand.of_body Bd
  have e0 : s₁.heap = h0 := by rw [← hh, Bd.state]; rfl
  have N0 := Fr.nil n0
  have pre0 : ∀ t, Steps p.tables e below (s₁.setTop (mkF m 0 #[.val (.int (1 : Int32))] [])) t → Steps p.tables e below (s₁.setTop (entryFrame m #[(.int (1 : Int32))] 1)) t := fun t k => castTop (ef_method_2_code_I m (1 : Int32)) k
  have P0 := P; obtain ⟨S0, E0, F0_ordinal, S1, E1, F1_ordinal, S2, E2, F2_ordinal, S3, E3, F3_ordinal, S4, E4, F4_ordinal, S5, E5, F5_ordinal, S6, E6, F6_ordinal, S7, E7, F7_ordinal, S8, E8, F8_ordinal, S9, E9, F9_ordinal, S10, E10, F10_ordinal, S11, E11, F11_ordinal, S12, E12, F12_ordinal⟩ := P0
  obtain ⟨T2, X2, e2, st2⟩ := getS2 X0 hx hZ hown (host := "") (Or.inl (hw _ (List.mem_of_getElem? (i := 28) rfl))) Via.refl e0 S8 (g := (mkF m 13 #[.val (.int (1 : Int32))] [])) rfl (hb hby d_method_2_code_13)
  obtain ⟨fs, hr, hrun, hended, hW, hsame⟩ := X2.leave (v := some (.ref w8)) (fun h => by rw [Bd.returns] at h; cases h)
  refine ⟨_, _, pre0 _ ?_, hrun, hended, _, _, rfl, ?_, ⟨_, rfl⟩, hW, hsame.mono (by decide) (by decide)⟩
  · show Steps p.tables e below (s₁.setTop (mkF m 0 #[.val (.int (1 : Int32))] [])) _
    refine XS.iloadN X0.here hx rfl (hb hby d_method_2_code_0) rfl ?_
    show Steps p.tables e below (s₁.setTop (mkF m 1 #[.val (.int (1 : Int32))] [(.int (1 : Int32))])) _
    refine XS.ifYes X0.here hx rfl (pc0 := 1) (pc' := 8) rfl (hb hby d_method_2_code_1) rfl (by decide) (by decide) (by decide) ?_
    show Steps p.tables e below (s₁.setTop (mkF m 8 #[.val (.int (1 : Int32))] [])) _
    refine XS.iloadN X0.here hx rfl (hb hby d_method_2_code_8) rfl ?_
    show Steps p.tables e below (s₁.setTop (mkF m 9 #[.val (.int (1 : Int32))] [(.int (1 : Int32))])) _
    refine XT.iconstV X0.here hx rfl (1 : Int32) (hb hby d_method_2_code_9) rfl ?_
    show Steps p.tables e below (s₁.setTop (mkF m 10 #[.val (.int (1 : Int32))] [(.int (1 : Int32)), (.int (1 : Int32))])) _
    refine XS.icmpNo X0.here hx rfl (hb hby d_method_2_code_10) rfl (by decide) ?_
    show Steps p.tables e below (s₁.setTop (mkF m 13 #[.val (.int (1 : Int32))] [])) _
    refine st2 _ ?_
    show Steps p.tables e below (T2.setTop (mkF m 16 #[.val (.int (1 : Int32))] [(.ref w8)])) _
    jvm_step X2.here [X2.here.top, hx, (hb hby d_method_2_code_16), X2.method', Bd.returns, Value.isRef, FieldType.isReference]
    first | (intro acts; rw [hr _ acts rfl rfl rfl]) | rw [hr _ _ rfl rfl rfl]
    exact Steps.refl _
  · show own_Q (some (.ref w8)) h0 n0 _ T2.heap _
    rw [e2]
    exact ⟨rfl, N0, rfl⟩
theorem d_method_2_code_17 : decode method_2_code 17 = .ok (.iload_n 0, 1) := by decide +kernel
theorem d_method_2_code_18 : decode method_2_code 18 = .ok (.iconst 2, 1) := by decide +kernel
theorem d_method_2_code_19 : decode method_2_code 19 = .ok (.if_icmp .ne 7, 3) := by decide +kernel
theorem d_method_2_code_22 : decode method_2_code 22 = .ok (.getstatic 16, 3) := by decide +kernel
theorem d_method_2_code_25 : decode method_2_code 25 = .ok (.areturn, 1) := by decide +kernel
set_option maxRecDepth 65536 in
set_option maxHeartbeats 40000000 in
theorem own_pick_2 (l : Launch) (Z : State) (a0 : Array Value) (hw : ∀ d ∈ tables_1, d.before a0 Z = true) (ws : List Jvm.Cond) (w0 w1 w2 w3 w4 w5 w6 w7 w8 w9 w10 w11 w12 : Addr) (h0 : Heap) (n0 : Nat) (Z0 : n0 ≤ h0.size) (P : own_P Z h0 w0 w1 w2 w3 w4 w5 w6 w7 w8 w9 w10 w11 w12) :
    MetFree l (⟨"com/example/recourse/recourse/CaseActionGivesAmountBackPinLaw", "pick", "(I)Lcom/example/recourse/recourse/CaseAction;"⟩ : MethodName) (head1 (Jvm.Cond.code (⟨"com/example/recourse/recourse/CaseActionGivesAmountBackPinLaw", "pick", "(I)Lcom/example/recourse/recourse/CaseAction;"⟩ : MethodName) method_2_code 1 (some (.object "com/example/recourse/recourse/CaseAction")) :: ws) ({ frames := 0, cells := 0, slots := 0, locals := 0 } : Room)) (fun a U => a = #[(.int (2 : Int32))] ∧ Z.Warmed39 U.vm ∧ U.heap = h0) (fun _ _ _ _ _ => True) (fun _ U o U' => ∃ v L, o = .returned v ∧ own_Q (some (.ref w6)) h0 n0 v U'.heap L ∧ FrameEnd U o U' L ({ frames := 0, cells := 0, slots := 0, locals := 0 } : Room).cells ({ frames := 0, cells := 0, slots := 0, locals := 0 } : Room).slots) := by
  refine MetFree.of_bodySF (plainFor_of_name pn_com_example_recourse_recourse_CaseActionGivesAmountBackPinLaw) hisR ?_
  intro p e s m args below meth c s₁ Bd hml0 hP hK
  obtain ⟨rfl, hZ, hh⟩ := hP
  have hx := Bd.exec
  have hby := Bd.bytes
  have hml : c.maxLocals = 1 := hml0
  have hown : s.vm.findClass "com/example/recourse/recourse/CaseActionGivesAmountBackPinLaw" = some m.cls := findClass_of_methodNamed Bd.named
  have hnm := (name_of_methodNamed Bd.named Bd.method).1
  have X0 : Stand p l e ({ frames := 0, cells := 0, slots := 0, locals := 0 } : Room) s m #[(.int (2 : Int32))] below meth c s₁ [] 0 0 := Stand.of_body Bd
  have e0 : s₁.heap = h0 := by rw [← hh, Bd.state]; rfl
  have N0 := Fr.nil n0
  have pre0 : ∀ t, Steps p.tables e below (s₁.setTop (mkF m 0 #[.val (.int (2 : Int32))] [])) t → Steps p.tables e below (s₁.setTop (entryFrame m #[(.int (2 : Int32))] 1)) t := fun t k => castTop (ef_method_2_code_I m (2 : Int32)) k
  have P0 := P; obtain ⟨S0, E0, F0_ordinal, S1, E1, F1_ordinal, S2, E2, F2_ordinal, S3, E3, F3_ordinal, S4, E4, F4_ordinal, S5, E5, F5_ordinal, S6, E6, F6_ordinal, S7, E7, F7_ordinal, S8, E8, F8_ordinal, S9, E9, F9_ordinal, S10, E10, F10_ordinal, S11, E11, F11_ordinal, S12, E12, F12_ordinal⟩ := P0
  obtain ⟨T3, X3, e3, st3⟩ := getS2 X0 hx hZ hown (host := "") (Or.inl (hw _ (List.mem_of_getElem? (i := 24) rfl))) Via.refl e0 S6 (g := (mkF m 22 #[.val (.int (2 : Int32))] [])) rfl (hb hby d_method_2_code_22)
  obtain ⟨fs, hr, hrun, hended, hW, hsame⟩ := X3.leave (v := some (.ref w6)) (fun h => by rw [Bd.returns] at h; cases h)
  refine ⟨_, _, pre0 _ ?_, hrun, hended, _, _, rfl, ?_, ⟨_, rfl⟩, hW, hsame.mono (by decide) (by decide)⟩
  · show Steps p.tables e below (s₁.setTop (mkF m 0 #[.val (.int (2 : Int32))] [])) _
    refine XS.iloadN X0.here hx rfl (hb hby d_method_2_code_0) rfl ?_
    show Steps p.tables e below (s₁.setTop (mkF m 1 #[.val (.int (2 : Int32))] [(.int (2 : Int32))])) _
    refine XS.ifYes X0.here hx rfl (pc0 := 1) (pc' := 8) rfl (hb hby d_method_2_code_1) rfl (by decide) (by decide) (by decide) ?_
    show Steps p.tables e below (s₁.setTop (mkF m 8 #[.val (.int (2 : Int32))] [])) _
    refine XS.iloadN X0.here hx rfl (hb hby d_method_2_code_8) rfl ?_
    show Steps p.tables e below (s₁.setTop (mkF m 9 #[.val (.int (2 : Int32))] [(.int (2 : Int32))])) _
    refine XT.iconstV X0.here hx rfl (1 : Int32) (hb hby d_method_2_code_9) rfl ?_
    show Steps p.tables e below (s₁.setTop (mkF m 10 #[.val (.int (2 : Int32))] [(.int (1 : Int32)), (.int (2 : Int32))])) _
    refine XS.icmpYes X0.here hx rfl (pc0 := 10) (pc' := 17) rfl (hb hby d_method_2_code_10) rfl (by decide) (by decide) (by decide) ?_
    show Steps p.tables e below (s₁.setTop (mkF m 17 #[.val (.int (2 : Int32))] [])) _
    refine XS.iloadN X0.here hx rfl (hb hby d_method_2_code_17) rfl ?_
    show Steps p.tables e below (s₁.setTop (mkF m 18 #[.val (.int (2 : Int32))] [(.int (2 : Int32))])) _
    refine XT.iconstV X0.here hx rfl (2 : Int32) (hb hby d_method_2_code_18) rfl ?_
    show Steps p.tables e below (s₁.setTop (mkF m 19 #[.val (.int (2 : Int32))] [(.int (2 : Int32)), (.int (2 : Int32))])) _
    refine XS.icmpNo X0.here hx rfl (hb hby d_method_2_code_19) rfl (by decide) ?_
    show Steps p.tables e below (s₁.setTop (mkF m 22 #[.val (.int (2 : Int32))] [])) _
    refine st3 _ ?_
    show Steps p.tables e below (T3.setTop (mkF m 25 #[.val (.int (2 : Int32))] [(.ref w6)])) _
    jvm_step X3.here [X3.here.top, hx, (hb hby d_method_2_code_25), X3.method', Bd.returns, Value.isRef, FieldType.isReference]
    first | (intro acts; rw [hr _ acts rfl rfl rfl]) | rw [hr _ _ rfl rfl rfl]
    exact Steps.refl _
  · show own_Q (some (.ref w6)) h0 n0 _ T3.heap _
    rw [e3]
    exact ⟨rfl, N0, rfl⟩
theorem d_method_2_code_26 : decode method_2_code 26 = .ok (.iload_n 0, 1) := by decide +kernel
theorem d_method_2_code_27 : decode method_2_code 27 = .ok (.iconst 3, 1) := by decide +kernel
theorem d_method_2_code_28 : decode method_2_code 28 = .ok (.if_icmp .ne 7, 3) := by decide +kernel
theorem d_method_2_code_31 : decode method_2_code 31 = .ok (.getstatic 19, 3) := by decide +kernel
theorem d_method_2_code_34 : decode method_2_code 34 = .ok (.areturn, 1) := by decide +kernel
set_option maxRecDepth 65536 in
set_option maxHeartbeats 40000000 in
theorem own_pick_3 (l : Launch) (Z : State) (a0 : Array Value) (hw : ∀ d ∈ tables_1, d.before a0 Z = true) (ws : List Jvm.Cond) (w0 w1 w2 w3 w4 w5 w6 w7 w8 w9 w10 w11 w12 : Addr) (h0 : Heap) (n0 : Nat) (Z0 : n0 ≤ h0.size) (P : own_P Z h0 w0 w1 w2 w3 w4 w5 w6 w7 w8 w9 w10 w11 w12) :
    MetFree l (⟨"com/example/recourse/recourse/CaseActionGivesAmountBackPinLaw", "pick", "(I)Lcom/example/recourse/recourse/CaseAction;"⟩ : MethodName) (head1 (Jvm.Cond.code (⟨"com/example/recourse/recourse/CaseActionGivesAmountBackPinLaw", "pick", "(I)Lcom/example/recourse/recourse/CaseAction;"⟩ : MethodName) method_2_code 1 (some (.object "com/example/recourse/recourse/CaseAction")) :: ws) ({ frames := 0, cells := 0, slots := 0, locals := 0 } : Room)) (fun a U => a = #[(.int (3 : Int32))] ∧ Z.Warmed39 U.vm ∧ U.heap = h0) (fun _ _ _ _ _ => True) (fun _ U o U' => ∃ v L, o = .returned v ∧ own_Q (some (.ref w2)) h0 n0 v U'.heap L ∧ FrameEnd U o U' L ({ frames := 0, cells := 0, slots := 0, locals := 0 } : Room).cells ({ frames := 0, cells := 0, slots := 0, locals := 0 } : Room).slots) := by
  refine MetFree.of_bodySF (plainFor_of_name pn_com_example_recourse_recourse_CaseActionGivesAmountBackPinLaw) hisR ?_
  intro p e s m args below meth c s₁ Bd hml0 hP hK
  obtain ⟨rfl, hZ, hh⟩ := hP
  have hx := Bd.exec
  have hby := Bd.bytes
  have hml : c.maxLocals = 1 := hml0
  have hown : s.vm.findClass "com/example/recourse/recourse/CaseActionGivesAmountBackPinLaw" = some m.cls := findClass_of_methodNamed Bd.named
  have hnm := (name_of_methodNamed Bd.named Bd.method).1
  have X0 : Stand p l e ({ frames := 0, cells := 0, slots := 0, locals := 0 } : Room) s m #[(.int (3 : Int32))] below meth c s₁ [] 0 0 := Stand.of_body Bd
  have e0 : s₁.heap = h0 := by rw [← hh, Bd.state]; rfl
  have N0 := Fr.nil n0
  have pre0 : ∀ t, Steps p.tables e below (s₁.setTop (mkF m 0 #[.val (.int (3 : Int32))] [])) t → Steps p.tables e below (s₁.setTop (entryFrame m #[(.int (3 : Int32))] 1)) t := fun t k => castTop (ef_method_2_code_I m (3 : Int32)) k
  have P0 := P; obtain ⟨S0, E0, F0_ordinal, S1, E1, F1_ordinal, S2, E2, F2_ordinal, S3, E3, F3_ordinal, S4, E4, F4_ordinal, S5, E5, F5_ordinal, S6, E6, F6_ordinal, S7, E7, F7_ordinal, S8, E8, F8_ordinal, S9, E9, F9_ordinal, S10, E10, F10_ordinal, S11, E11, F11_ordinal, S12, E12, F12_ordinal⟩ := P0
  obtain ⟨T4, X4, e4, st4⟩ := getS2 X0 hx hZ hown (host := "") (Or.inl (hw _ (List.mem_of_getElem? (i := 15) rfl))) Via.refl e0 S2 (g := (mkF m 31 #[.val (.int (3 : Int32))] [])) rfl (hb hby d_method_2_code_31)
  obtain ⟨fs, hr, hrun, hended, hW, hsame⟩ := X4.leave (v := some (.ref w2)) (fun h => by rw [Bd.returns] at h; cases h)
  refine ⟨_, _, pre0 _ ?_, hrun, hended, _, _, rfl, ?_, ⟨_, rfl⟩, hW, hsame.mono (by decide) (by decide)⟩
  · show Steps p.tables e below (s₁.setTop (mkF m 0 #[.val (.int (3 : Int32))] [])) _
    refine XS.iloadN X0.here hx rfl (hb hby d_method_2_code_0) rfl ?_
    show Steps p.tables e below (s₁.setTop (mkF m 1 #[.val (.int (3 : Int32))] [(.int (3 : Int32))])) _
    refine XS.ifYes X0.here hx rfl (pc0 := 1) (pc' := 8) rfl (hb hby d_method_2_code_1) rfl (by decide) (by decide) (by decide) ?_
    show Steps p.tables e below (s₁.setTop (mkF m 8 #[.val (.int (3 : Int32))] [])) _
    refine XS.iloadN X0.here hx rfl (hb hby d_method_2_code_8) rfl ?_
    show Steps p.tables e below (s₁.setTop (mkF m 9 #[.val (.int (3 : Int32))] [(.int (3 : Int32))])) _
    refine XT.iconstV X0.here hx rfl (1 : Int32) (hb hby d_method_2_code_9) rfl ?_
    show Steps p.tables e below (s₁.setTop (mkF m 10 #[.val (.int (3 : Int32))] [(.int (1 : Int32)), (.int (3 : Int32))])) _
    refine XS.icmpYes X0.here hx rfl (pc0 := 10) (pc' := 17) rfl (hb hby d_method_2_code_10) rfl (by decide) (by decide) (by decide) ?_
    show Steps p.tables e below (s₁.setTop (mkF m 17 #[.val (.int (3 : Int32))] [])) _
    refine XS.iloadN X0.here hx rfl (hb hby d_method_2_code_17) rfl ?_
    show Steps p.tables e below (s₁.setTop (mkF m 18 #[.val (.int (3 : Int32))] [(.int (3 : Int32))])) _
    refine XT.iconstV X0.here hx rfl (2 : Int32) (hb hby d_method_2_code_18) rfl ?_
    show Steps p.tables e below (s₁.setTop (mkF m 19 #[.val (.int (3 : Int32))] [(.int (2 : Int32)), (.int (3 : Int32))])) _
    refine XS.icmpYes X0.here hx rfl (pc0 := 19) (pc' := 26) rfl (hb hby d_method_2_code_19) rfl (by decide) (by decide) (by decide) ?_
    show Steps p.tables e below (s₁.setTop (mkF m 26 #[.val (.int (3 : Int32))] [])) _
    refine XS.iloadN X0.here hx rfl (hb hby d_method_2_code_26) rfl ?_
    show Steps p.tables e below (s₁.setTop (mkF m 27 #[.val (.int (3 : Int32))] [(.int (3 : Int32))])) _
    refine XT.iconstV X0.here hx rfl (3 : Int32) (hb hby d_method_2_code_27) rfl ?_
    show Steps p.tables e below (s₁.setTop (mkF m 28 #[.val (.int (3 : Int32))] [(.int (3 : Int32)), (.int (3 : Int32))])) _
    refine XS.icmpNo X0.here hx rfl (hb hby d_method_2_code_28) rfl (by decide) ?_
    show Steps p.tables e below (s₁.setTop (mkF m 31 #[.val (.int (3 : Int32))] [])) _
    refine st4 _ ?_
    show Steps p.tables e below (T4.setTop (mkF m 34 #[.val (.int (3 : Int32))] [(.ref w2)])) _
    jvm_step X4.here [X4.here.top, hx, (hb hby d_method_2_code_34), X4.method', Bd.returns, Value.isRef, FieldType.isReference]
    first | (intro acts; rw [hr _ acts rfl rfl rfl]) | rw [hr _ _ rfl rfl rfl]
    exact Steps.refl _
  · show own_Q (some (.ref w2)) h0 n0 _ T4.heap _
    rw [e4]
    exact ⟨rfl, N0, rfl⟩
theorem d_method_2_code_35 : decode method_2_code 35 = .ok (.iload_n 0, 1) := by decide +kernel
theorem d_method_2_code_36 : decode method_2_code 36 = .ok (.iconst 4, 1) := by decide +kernel
theorem d_method_2_code_37 : decode method_2_code 37 = .ok (.if_icmp .ne 7, 3) := by decide +kernel
theorem d_method_2_code_40 : decode method_2_code 40 = .ok (.getstatic 22, 3) := by decide +kernel
theorem d_method_2_code_43 : decode method_2_code 43 = .ok (.areturn, 1) := by decide +kernel
set_option maxRecDepth 65536 in
set_option maxHeartbeats 40000000 in
theorem own_pick_4 (l : Launch) (Z : State) (a0 : Array Value) (hw : ∀ d ∈ tables_1, d.before a0 Z = true) (ws : List Jvm.Cond) (w0 w1 w2 w3 w4 w5 w6 w7 w8 w9 w10 w11 w12 : Addr) (h0 : Heap) (n0 : Nat) (Z0 : n0 ≤ h0.size) (P : own_P Z h0 w0 w1 w2 w3 w4 w5 w6 w7 w8 w9 w10 w11 w12) :
    MetFree l (⟨"com/example/recourse/recourse/CaseActionGivesAmountBackPinLaw", "pick", "(I)Lcom/example/recourse/recourse/CaseAction;"⟩ : MethodName) (head1 (Jvm.Cond.code (⟨"com/example/recourse/recourse/CaseActionGivesAmountBackPinLaw", "pick", "(I)Lcom/example/recourse/recourse/CaseAction;"⟩ : MethodName) method_2_code 1 (some (.object "com/example/recourse/recourse/CaseAction")) :: ws) ({ frames := 0, cells := 0, slots := 0, locals := 0 } : Room)) (fun a U => a = #[(.int (4 : Int32))] ∧ Z.Warmed39 U.vm ∧ U.heap = h0) (fun _ _ _ _ _ => True) (fun _ U o U' => ∃ v L, o = .returned v ∧ own_Q (some (.ref w12)) h0 n0 v U'.heap L ∧ FrameEnd U o U' L ({ frames := 0, cells := 0, slots := 0, locals := 0 } : Room).cells ({ frames := 0, cells := 0, slots := 0, locals := 0 } : Room).slots) := by
  refine MetFree.of_bodySF (plainFor_of_name pn_com_example_recourse_recourse_CaseActionGivesAmountBackPinLaw) hisR ?_
  intro p e s m args below meth c s₁ Bd hml0 hP hK
  obtain ⟨rfl, hZ, hh⟩ := hP
  have hx := Bd.exec
  have hby := Bd.bytes
  have hml : c.maxLocals = 1 := hml0
  have hown : s.vm.findClass "com/example/recourse/recourse/CaseActionGivesAmountBackPinLaw" = some m.cls := findClass_of_methodNamed Bd.named
  have hnm := (name_of_methodNamed Bd.named Bd.method).1
  have X0 : Stand p l e ({ frames := 0, cells := 0, slots := 0, locals := 0 } : Room) s m #[(.int (4 : Int32))] below meth c s₁ [] 0 0 := Stand.of_body Bd
  have e0 : s₁.heap = h0 := by rw [← hh, Bd.state]; rfl
  have N0 := Fr.nil n0
  have pre0 : ∀ t, Steps p.tables e below (s₁.setTop (mkF m 0 #[.val (.int (4 : Int32))] [])) t → Steps p.tables e below (s₁.setTop (entryFrame m #[(.int (4 : Int32))] 1)) t := fun t k => castTop (ef_method_2_code_I m (4 : Int32)) k
  have P0 := P; obtain ⟨S0, E0, F0_ordinal, S1, E1, F1_ordinal, S2, E2, F2_ordinal, S3, E3, F3_ordinal, S4, E4, F4_ordinal, S5, E5, F5_ordinal, S6, E6, F6_ordinal, S7, E7, F7_ordinal, S8, E8, F8_ordinal, S9, E9, F9_ordinal, S10, E10, F10_ordinal, S11, E11, F11_ordinal, S12, E12, F12_ordinal⟩ := P0
  obtain ⟨T5, X5, e5, st5⟩ := getS2 X0 hx hZ hown (host := "") (Or.inl (hw _ (List.mem_of_getElem? (i := 36) rfl))) Via.refl e0 S12 (g := (mkF m 40 #[.val (.int (4 : Int32))] [])) rfl (hb hby d_method_2_code_40)
  obtain ⟨fs, hr, hrun, hended, hW, hsame⟩ := X5.leave (v := some (.ref w12)) (fun h => by rw [Bd.returns] at h; cases h)
  refine ⟨_, _, pre0 _ ?_, hrun, hended, _, _, rfl, ?_, ⟨_, rfl⟩, hW, hsame.mono (by decide) (by decide)⟩
  · show Steps p.tables e below (s₁.setTop (mkF m 0 #[.val (.int (4 : Int32))] [])) _
    refine XS.iloadN X0.here hx rfl (hb hby d_method_2_code_0) rfl ?_
    show Steps p.tables e below (s₁.setTop (mkF m 1 #[.val (.int (4 : Int32))] [(.int (4 : Int32))])) _
    refine XS.ifYes X0.here hx rfl (pc0 := 1) (pc' := 8) rfl (hb hby d_method_2_code_1) rfl (by decide) (by decide) (by decide) ?_
    show Steps p.tables e below (s₁.setTop (mkF m 8 #[.val (.int (4 : Int32))] [])) _
    refine XS.iloadN X0.here hx rfl (hb hby d_method_2_code_8) rfl ?_
    show Steps p.tables e below (s₁.setTop (mkF m 9 #[.val (.int (4 : Int32))] [(.int (4 : Int32))])) _
    refine XT.iconstV X0.here hx rfl (1 : Int32) (hb hby d_method_2_code_9) rfl ?_
    show Steps p.tables e below (s₁.setTop (mkF m 10 #[.val (.int (4 : Int32))] [(.int (1 : Int32)), (.int (4 : Int32))])) _
    refine XS.icmpYes X0.here hx rfl (pc0 := 10) (pc' := 17) rfl (hb hby d_method_2_code_10) rfl (by decide) (by decide) (by decide) ?_
    show Steps p.tables e below (s₁.setTop (mkF m 17 #[.val (.int (4 : Int32))] [])) _
    refine XS.iloadN X0.here hx rfl (hb hby d_method_2_code_17) rfl ?_
    show Steps p.tables e below (s₁.setTop (mkF m 18 #[.val (.int (4 : Int32))] [(.int (4 : Int32))])) _
    refine XT.iconstV X0.here hx rfl (2 : Int32) (hb hby d_method_2_code_18) rfl ?_
    show Steps p.tables e below (s₁.setTop (mkF m 19 #[.val (.int (4 : Int32))] [(.int (2 : Int32)), (.int (4 : Int32))])) _
    refine XS.icmpYes X0.here hx rfl (pc0 := 19) (pc' := 26) rfl (hb hby d_method_2_code_19) rfl (by decide) (by decide) (by decide) ?_
    show Steps p.tables e below (s₁.setTop (mkF m 26 #[.val (.int (4 : Int32))] [])) _
    refine XS.iloadN X0.here hx rfl (hb hby d_method_2_code_26) rfl ?_
    show Steps p.tables e below (s₁.setTop (mkF m 27 #[.val (.int (4 : Int32))] [(.int (4 : Int32))])) _
    refine XT.iconstV X0.here hx rfl (3 : Int32) (hb hby d_method_2_code_27) rfl ?_
    show Steps p.tables e below (s₁.setTop (mkF m 28 #[.val (.int (4 : Int32))] [(.int (3 : Int32)), (.int (4 : Int32))])) _
    refine XS.icmpYes X0.here hx rfl (pc0 := 28) (pc' := 35) rfl (hb hby d_method_2_code_28) rfl (by decide) (by decide) (by decide) ?_
    show Steps p.tables e below (s₁.setTop (mkF m 35 #[.val (.int (4 : Int32))] [])) _
    refine XS.iloadN X0.here hx rfl (hb hby d_method_2_code_35) rfl ?_
    show Steps p.tables e below (s₁.setTop (mkF m 36 #[.val (.int (4 : Int32))] [(.int (4 : Int32))])) _
    refine XT.iconstV X0.here hx rfl (4 : Int32) (hb hby d_method_2_code_36) rfl ?_
    show Steps p.tables e below (s₁.setTop (mkF m 37 #[.val (.int (4 : Int32))] [(.int (4 : Int32)), (.int (4 : Int32))])) _
    refine XS.icmpNo X0.here hx rfl (hb hby d_method_2_code_37) rfl (by decide) ?_
    show Steps p.tables e below (s₁.setTop (mkF m 40 #[.val (.int (4 : Int32))] [])) _
    refine st5 _ ?_
    show Steps p.tables e below (T5.setTop (mkF m 43 #[.val (.int (4 : Int32))] [(.ref w12)])) _
    jvm_step X5.here [X5.here.top, hx, (hb hby d_method_2_code_43), X5.method', Bd.returns, Value.isRef, FieldType.isReference]
    first | (intro acts; rw [hr _ acts rfl rfl rfl]) | rw [hr _ _ rfl rfl rfl]
    exact Steps.refl _
  · show own_Q (some (.ref w12)) h0 n0 _ T5.heap _
    rw [e5]
    exact ⟨rfl, N0, rfl⟩
theorem d_method_2_code_44 : decode method_2_code 44 = .ok (.iload_n 0, 1) := by decide +kernel
theorem d_method_2_code_45 : decode method_2_code 45 = .ok (.iconst 5, 1) := by decide +kernel
theorem d_method_2_code_46 : decode method_2_code 46 = .ok (.if_icmp .ne 7, 3) := by decide +kernel
theorem d_method_2_code_49 : decode method_2_code 49 = .ok (.getstatic 25, 3) := by decide +kernel
theorem d_method_2_code_52 : decode method_2_code 52 = .ok (.areturn, 1) := by decide +kernel
set_option maxRecDepth 65536 in
set_option maxHeartbeats 40000000 in
theorem own_pick_5 (l : Launch) (Z : State) (a0 : Array Value) (hw : ∀ d ∈ tables_1, d.before a0 Z = true) (ws : List Jvm.Cond) (w0 w1 w2 w3 w4 w5 w6 w7 w8 w9 w10 w11 w12 : Addr) (h0 : Heap) (n0 : Nat) (Z0 : n0 ≤ h0.size) (P : own_P Z h0 w0 w1 w2 w3 w4 w5 w6 w7 w8 w9 w10 w11 w12) :
    MetFree l (⟨"com/example/recourse/recourse/CaseActionGivesAmountBackPinLaw", "pick", "(I)Lcom/example/recourse/recourse/CaseAction;"⟩ : MethodName) (head1 (Jvm.Cond.code (⟨"com/example/recourse/recourse/CaseActionGivesAmountBackPinLaw", "pick", "(I)Lcom/example/recourse/recourse/CaseAction;"⟩ : MethodName) method_2_code 1 (some (.object "com/example/recourse/recourse/CaseAction")) :: ws) ({ frames := 0, cells := 0, slots := 0, locals := 0 } : Room)) (fun a U => a = #[(.int (5 : Int32))] ∧ Z.Warmed39 U.vm ∧ U.heap = h0) (fun _ _ _ _ _ => True) (fun _ U o U' => ∃ v L, o = .returned v ∧ own_Q (some (.ref w4)) h0 n0 v U'.heap L ∧ FrameEnd U o U' L ({ frames := 0, cells := 0, slots := 0, locals := 0 } : Room).cells ({ frames := 0, cells := 0, slots := 0, locals := 0 } : Room).slots) := by
  refine MetFree.of_bodySF (plainFor_of_name pn_com_example_recourse_recourse_CaseActionGivesAmountBackPinLaw) hisR ?_
  intro p e s m args below meth c s₁ Bd hml0 hP hK
  obtain ⟨rfl, hZ, hh⟩ := hP
  have hx := Bd.exec
  have hby := Bd.bytes
  have hml : c.maxLocals = 1 := hml0
  have hown : s.vm.findClass "com/example/recourse/recourse/CaseActionGivesAmountBackPinLaw" = some m.cls := findClass_of_methodNamed Bd.named
  have hnm := (name_of_methodNamed Bd.named Bd.method).1
  have X0 : Stand p l e ({ frames := 0, cells := 0, slots := 0, locals := 0 } : Room) s m #[(.int (5 : Int32))] below meth c s₁ [] 0 0 := Stand.of_body Bd
  have e0 : s₁.heap = h0 := by rw [← hh, Bd.state]; rfl
  have N0 := Fr.nil n0
  have pre0 : ∀ t, Steps p.tables e below (s₁.setTop (mkF m 0 #[.val (.int (5 : Int32))] [])) t → Steps p.tables e below (s₁.setTop (entryFrame m #[(.int (5 : Int32))] 1)) t := fun t k => castTop (ef_method_2_code_I m (5 : Int32)) k
  have P0 := P; obtain ⟨S0, E0, F0_ordinal, S1, E1, F1_ordinal, S2, E2, F2_ordinal, S3, E3, F3_ordinal, S4, E4, F4_ordinal, S5, E5, F5_ordinal, S6, E6, F6_ordinal, S7, E7, F7_ordinal, S8, E8, F8_ordinal, S9, E9, F9_ordinal, S10, E10, F10_ordinal, S11, E11, F11_ordinal, S12, E12, F12_ordinal⟩ := P0
  obtain ⟨T6, X6, e6, st6⟩ := getS2 X0 hx hZ hown (host := "") (Or.inl (hw _ (List.mem_of_getElem? (i := 19) rfl))) Via.refl e0 S4 (g := (mkF m 49 #[.val (.int (5 : Int32))] [])) rfl (hb hby d_method_2_code_49)
  obtain ⟨fs, hr, hrun, hended, hW, hsame⟩ := X6.leave (v := some (.ref w4)) (fun h => by rw [Bd.returns] at h; cases h)
  refine ⟨_, _, pre0 _ ?_, hrun, hended, _, _, rfl, ?_, ⟨_, rfl⟩, hW, hsame.mono (by decide) (by decide)⟩
  · show Steps p.tables e below (s₁.setTop (mkF m 0 #[.val (.int (5 : Int32))] [])) _
    refine XS.iloadN X0.here hx rfl (hb hby d_method_2_code_0) rfl ?_
    show Steps p.tables e below (s₁.setTop (mkF m 1 #[.val (.int (5 : Int32))] [(.int (5 : Int32))])) _
    refine XS.ifYes X0.here hx rfl (pc0 := 1) (pc' := 8) rfl (hb hby d_method_2_code_1) rfl (by decide) (by decide) (by decide) ?_
    show Steps p.tables e below (s₁.setTop (mkF m 8 #[.val (.int (5 : Int32))] [])) _
    refine XS.iloadN X0.here hx rfl (hb hby d_method_2_code_8) rfl ?_
    show Steps p.tables e below (s₁.setTop (mkF m 9 #[.val (.int (5 : Int32))] [(.int (5 : Int32))])) _
    refine XT.iconstV X0.here hx rfl (1 : Int32) (hb hby d_method_2_code_9) rfl ?_
    show Steps p.tables e below (s₁.setTop (mkF m 10 #[.val (.int (5 : Int32))] [(.int (1 : Int32)), (.int (5 : Int32))])) _
    refine XS.icmpYes X0.here hx rfl (pc0 := 10) (pc' := 17) rfl (hb hby d_method_2_code_10) rfl (by decide) (by decide) (by decide) ?_
    show Steps p.tables e below (s₁.setTop (mkF m 17 #[.val (.int (5 : Int32))] [])) _
    refine XS.iloadN X0.here hx rfl (hb hby d_method_2_code_17) rfl ?_
    show Steps p.tables e below (s₁.setTop (mkF m 18 #[.val (.int (5 : Int32))] [(.int (5 : Int32))])) _
    refine XT.iconstV X0.here hx rfl (2 : Int32) (hb hby d_method_2_code_18) rfl ?_
    show Steps p.tables e below (s₁.setTop (mkF m 19 #[.val (.int (5 : Int32))] [(.int (2 : Int32)), (.int (5 : Int32))])) _
    refine XS.icmpYes X0.here hx rfl (pc0 := 19) (pc' := 26) rfl (hb hby d_method_2_code_19) rfl (by decide) (by decide) (by decide) ?_
    show Steps p.tables e below (s₁.setTop (mkF m 26 #[.val (.int (5 : Int32))] [])) _
    refine XS.iloadN X0.here hx rfl (hb hby d_method_2_code_26) rfl ?_
    show Steps p.tables e below (s₁.setTop (mkF m 27 #[.val (.int (5 : Int32))] [(.int (5 : Int32))])) _
    refine XT.iconstV X0.here hx rfl (3 : Int32) (hb hby d_method_2_code_27) rfl ?_
    show Steps p.tables e below (s₁.setTop (mkF m 28 #[.val (.int (5 : Int32))] [(.int (3 : Int32)), (.int (5 : Int32))])) _
    refine XS.icmpYes X0.here hx rfl (pc0 := 28) (pc' := 35) rfl (hb hby d_method_2_code_28) rfl (by decide) (by decide) (by decide) ?_
    show Steps p.tables e below (s₁.setTop (mkF m 35 #[.val (.int (5 : Int32))] [])) _
    refine XS.iloadN X0.here hx rfl (hb hby d_method_2_code_35) rfl ?_
    show Steps p.tables e below (s₁.setTop (mkF m 36 #[.val (.int (5 : Int32))] [(.int (5 : Int32))])) _
    refine XT.iconstV X0.here hx rfl (4 : Int32) (hb hby d_method_2_code_36) rfl ?_
    show Steps p.tables e below (s₁.setTop (mkF m 37 #[.val (.int (5 : Int32))] [(.int (4 : Int32)), (.int (5 : Int32))])) _
    refine XS.icmpYes X0.here hx rfl (pc0 := 37) (pc' := 44) rfl (hb hby d_method_2_code_37) rfl (by decide) (by decide) (by decide) ?_
    show Steps p.tables e below (s₁.setTop (mkF m 44 #[.val (.int (5 : Int32))] [])) _
    refine XS.iloadN X0.here hx rfl (hb hby d_method_2_code_44) rfl ?_
    show Steps p.tables e below (s₁.setTop (mkF m 45 #[.val (.int (5 : Int32))] [(.int (5 : Int32))])) _
    refine XT.iconstV X0.here hx rfl (5 : Int32) (hb hby d_method_2_code_45) rfl ?_
    show Steps p.tables e below (s₁.setTop (mkF m 46 #[.val (.int (5 : Int32))] [(.int (5 : Int32)), (.int (5 : Int32))])) _
    refine XS.icmpNo X0.here hx rfl (hb hby d_method_2_code_46) rfl (by decide) ?_
    show Steps p.tables e below (s₁.setTop (mkF m 49 #[.val (.int (5 : Int32))] [])) _
    refine st6 _ ?_
    show Steps p.tables e below (T6.setTop (mkF m 52 #[.val (.int (5 : Int32))] [(.ref w4)])) _
    jvm_step X6.here [X6.here.top, hx, (hb hby d_method_2_code_52), X6.method', Bd.returns, Value.isRef, FieldType.isReference]
    first | (intro acts; rw [hr _ acts rfl rfl rfl]) | rw [hr _ _ rfl rfl rfl]
    exact Steps.refl _
  · show own_Q (some (.ref w4)) h0 n0 _ T6.heap _
    rw [e6]
    exact ⟨rfl, N0, rfl⟩
theorem d_method_2_code_53 : decode method_2_code 53 = .ok (.iload_n 0, 1) := by decide +kernel
theorem d_method_2_code_54 : decode method_2_code 54 = .ok (.bipush 6, 2) := by decide +kernel
theorem d_method_2_code_56 : decode method_2_code 56 = .ok (.if_icmp .ne 7, 3) := by decide +kernel
theorem d_method_2_code_59 : decode method_2_code 59 = .ok (.getstatic 28, 3) := by decide +kernel
theorem d_method_2_code_62 : decode method_2_code 62 = .ok (.areturn, 1) := by decide +kernel
set_option maxRecDepth 65536 in
set_option maxHeartbeats 40000000 in
theorem own_pick_6 (l : Launch) (Z : State) (a0 : Array Value) (hw : ∀ d ∈ tables_1, d.before a0 Z = true) (ws : List Jvm.Cond) (w0 w1 w2 w3 w4 w5 w6 w7 w8 w9 w10 w11 w12 : Addr) (h0 : Heap) (n0 : Nat) (Z0 : n0 ≤ h0.size) (P : own_P Z h0 w0 w1 w2 w3 w4 w5 w6 w7 w8 w9 w10 w11 w12) :
    MetFree l (⟨"com/example/recourse/recourse/CaseActionGivesAmountBackPinLaw", "pick", "(I)Lcom/example/recourse/recourse/CaseAction;"⟩ : MethodName) (head1 (Jvm.Cond.code (⟨"com/example/recourse/recourse/CaseActionGivesAmountBackPinLaw", "pick", "(I)Lcom/example/recourse/recourse/CaseAction;"⟩ : MethodName) method_2_code 1 (some (.object "com/example/recourse/recourse/CaseAction")) :: ws) ({ frames := 0, cells := 0, slots := 0, locals := 0 } : Room)) (fun a U => a = #[(.int (6 : Int32))] ∧ Z.Warmed39 U.vm ∧ U.heap = h0) (fun _ _ _ _ _ => True) (fun _ U o U' => ∃ v L, o = .returned v ∧ own_Q (some (.ref w3)) h0 n0 v U'.heap L ∧ FrameEnd U o U' L ({ frames := 0, cells := 0, slots := 0, locals := 0 } : Room).cells ({ frames := 0, cells := 0, slots := 0, locals := 0 } : Room).slots) := by
  refine MetFree.of_bodySF (plainFor_of_name pn_com_example_recourse_recourse_CaseActionGivesAmountBackPinLaw) hisR ?_
  intro p e s m args below meth c s₁ Bd hml0 hP hK
  obtain ⟨rfl, hZ, hh⟩ := hP
  have hx := Bd.exec
  have hby := Bd.bytes
  have hml : c.maxLocals = 1 := hml0
  have hown : s.vm.findClass "com/example/recourse/recourse/CaseActionGivesAmountBackPinLaw" = some m.cls := findClass_of_methodNamed Bd.named
  have hnm := (name_of_methodNamed Bd.named Bd.method).1
  have X0 : Stand p l e ({ frames := 0, cells := 0, slots := 0, locals := 0 } : Room) s m #[(.int (6 : Int32))] below meth c s₁ [] 0 0 := Stand.of_body Bd
  have e0 : s₁.heap = h0 := by rw [← hh, Bd.state]; rfl
  have N0 := Fr.nil n0
  have pre0 : ∀ t, Steps p.tables e below (s₁.setTop (mkF m 0 #[.val (.int (6 : Int32))] [])) t → Steps p.tables e below (s₁.setTop (entryFrame m #[(.int (6 : Int32))] 1)) t := fun t k => castTop (ef_method_2_code_I m (6 : Int32)) k
  have P0 := P; obtain ⟨S0, E0, F0_ordinal, S1, E1, F1_ordinal, S2, E2, F2_ordinal, S3, E3, F3_ordinal, S4, E4, F4_ordinal, S5, E5, F5_ordinal, S6, E6, F6_ordinal, S7, E7, F7_ordinal, S8, E8, F8_ordinal, S9, E9, F9_ordinal, S10, E10, F10_ordinal, S11, E11, F11_ordinal, S12, E12, F12_ordinal⟩ := P0
  obtain ⟨T7, X7, e7, st7⟩ := getS2 X0 hx hZ hown (host := "") (Or.inl (hw _ (List.mem_of_getElem? (i := 17) rfl))) Via.refl e0 S3 (g := (mkF m 59 #[.val (.int (6 : Int32))] [])) rfl (hb hby d_method_2_code_59)
  obtain ⟨fs, hr, hrun, hended, hW, hsame⟩ := X7.leave (v := some (.ref w3)) (fun h => by rw [Bd.returns] at h; cases h)
  refine ⟨_, _, pre0 _ ?_, hrun, hended, _, _, rfl, ?_, ⟨_, rfl⟩, hW, hsame.mono (by decide) (by decide)⟩
  · show Steps p.tables e below (s₁.setTop (mkF m 0 #[.val (.int (6 : Int32))] [])) _
    refine XS.iloadN X0.here hx rfl (hb hby d_method_2_code_0) rfl ?_
    show Steps p.tables e below (s₁.setTop (mkF m 1 #[.val (.int (6 : Int32))] [(.int (6 : Int32))])) _
    refine XS.ifYes X0.here hx rfl (pc0 := 1) (pc' := 8) rfl (hb hby d_method_2_code_1) rfl (by decide) (by decide) (by decide) ?_
    show Steps p.tables e below (s₁.setTop (mkF m 8 #[.val (.int (6 : Int32))] [])) _
    refine XS.iloadN X0.here hx rfl (hb hby d_method_2_code_8) rfl ?_
    show Steps p.tables e below (s₁.setTop (mkF m 9 #[.val (.int (6 : Int32))] [(.int (6 : Int32))])) _
    refine XT.iconstV X0.here hx rfl (1 : Int32) (hb hby d_method_2_code_9) rfl ?_
    show Steps p.tables e below (s₁.setTop (mkF m 10 #[.val (.int (6 : Int32))] [(.int (1 : Int32)), (.int (6 : Int32))])) _
    refine XS.icmpYes X0.here hx rfl (pc0 := 10) (pc' := 17) rfl (hb hby d_method_2_code_10) rfl (by decide) (by decide) (by decide) ?_
    show Steps p.tables e below (s₁.setTop (mkF m 17 #[.val (.int (6 : Int32))] [])) _
    refine XS.iloadN X0.here hx rfl (hb hby d_method_2_code_17) rfl ?_
    show Steps p.tables e below (s₁.setTop (mkF m 18 #[.val (.int (6 : Int32))] [(.int (6 : Int32))])) _
    refine XT.iconstV X0.here hx rfl (2 : Int32) (hb hby d_method_2_code_18) rfl ?_
    show Steps p.tables e below (s₁.setTop (mkF m 19 #[.val (.int (6 : Int32))] [(.int (2 : Int32)), (.int (6 : Int32))])) _
    refine XS.icmpYes X0.here hx rfl (pc0 := 19) (pc' := 26) rfl (hb hby d_method_2_code_19) rfl (by decide) (by decide) (by decide) ?_
    show Steps p.tables e below (s₁.setTop (mkF m 26 #[.val (.int (6 : Int32))] [])) _
    refine XS.iloadN X0.here hx rfl (hb hby d_method_2_code_26) rfl ?_
    show Steps p.tables e below (s₁.setTop (mkF m 27 #[.val (.int (6 : Int32))] [(.int (6 : Int32))])) _
    refine XT.iconstV X0.here hx rfl (3 : Int32) (hb hby d_method_2_code_27) rfl ?_
    show Steps p.tables e below (s₁.setTop (mkF m 28 #[.val (.int (6 : Int32))] [(.int (3 : Int32)), (.int (6 : Int32))])) _
    refine XS.icmpYes X0.here hx rfl (pc0 := 28) (pc' := 35) rfl (hb hby d_method_2_code_28) rfl (by decide) (by decide) (by decide) ?_
    show Steps p.tables e below (s₁.setTop (mkF m 35 #[.val (.int (6 : Int32))] [])) _
    refine XS.iloadN X0.here hx rfl (hb hby d_method_2_code_35) rfl ?_
    show Steps p.tables e below (s₁.setTop (mkF m 36 #[.val (.int (6 : Int32))] [(.int (6 : Int32))])) _
    refine XT.iconstV X0.here hx rfl (4 : Int32) (hb hby d_method_2_code_36) rfl ?_
    show Steps p.tables e below (s₁.setTop (mkF m 37 #[.val (.int (6 : Int32))] [(.int (4 : Int32)), (.int (6 : Int32))])) _
    refine XS.icmpYes X0.here hx rfl (pc0 := 37) (pc' := 44) rfl (hb hby d_method_2_code_37) rfl (by decide) (by decide) (by decide) ?_
    show Steps p.tables e below (s₁.setTop (mkF m 44 #[.val (.int (6 : Int32))] [])) _
    refine XS.iloadN X0.here hx rfl (hb hby d_method_2_code_44) rfl ?_
    show Steps p.tables e below (s₁.setTop (mkF m 45 #[.val (.int (6 : Int32))] [(.int (6 : Int32))])) _
    refine XT.iconstV X0.here hx rfl (5 : Int32) (hb hby d_method_2_code_45) rfl ?_
    show Steps p.tables e below (s₁.setTop (mkF m 46 #[.val (.int (6 : Int32))] [(.int (5 : Int32)), (.int (6 : Int32))])) _
    refine XS.icmpYes X0.here hx rfl (pc0 := 46) (pc' := 53) rfl (hb hby d_method_2_code_46) rfl (by decide) (by decide) (by decide) ?_
    show Steps p.tables e below (s₁.setTop (mkF m 53 #[.val (.int (6 : Int32))] [])) _
    refine XS.iloadN X0.here hx rfl (hb hby d_method_2_code_53) rfl ?_
    show Steps p.tables e below (s₁.setTop (mkF m 54 #[.val (.int (6 : Int32))] [(.int (6 : Int32))])) _
    refine XT.bipushV X0.here hx rfl (6 : Int32) (hb hby d_method_2_code_54) (by decide) ?_
    show Steps p.tables e below (s₁.setTop (mkF m 56 #[.val (.int (6 : Int32))] [(.int (6 : Int32)), (.int (6 : Int32))])) _
    refine XS.icmpNo X0.here hx rfl (hb hby d_method_2_code_56) rfl (by decide) ?_
    show Steps p.tables e below (s₁.setTop (mkF m 59 #[.val (.int (6 : Int32))] [])) _
    refine st7 _ ?_
    show Steps p.tables e below (T7.setTop (mkF m 62 #[.val (.int (6 : Int32))] [(.ref w3)])) _
    jvm_step X7.here [X7.here.top, hx, (hb hby d_method_2_code_62), X7.method', Bd.returns, Value.isRef, FieldType.isReference]
    first | (intro acts; rw [hr _ acts rfl rfl rfl]) | rw [hr _ _ rfl rfl rfl]
    exact Steps.refl _
  · show own_Q (some (.ref w3)) h0 n0 _ T7.heap _
    rw [e7]
    exact ⟨rfl, N0, rfl⟩
theorem d_method_2_code_63 : decode method_2_code 63 = .ok (.iload_n 0, 1) := by decide +kernel
theorem d_method_2_code_64 : decode method_2_code 64 = .ok (.bipush 7, 2) := by decide +kernel
theorem d_method_2_code_66 : decode method_2_code 66 = .ok (.if_icmp .ne 7, 3) := by decide +kernel
theorem d_method_2_code_69 : decode method_2_code 69 = .ok (.getstatic 31, 3) := by decide +kernel
theorem d_method_2_code_72 : decode method_2_code 72 = .ok (.areturn, 1) := by decide +kernel
set_option maxRecDepth 65536 in
set_option maxHeartbeats 40000000 in
theorem own_pick_7 (l : Launch) (Z : State) (a0 : Array Value) (hw : ∀ d ∈ tables_1, d.before a0 Z = true) (ws : List Jvm.Cond) (w0 w1 w2 w3 w4 w5 w6 w7 w8 w9 w10 w11 w12 : Addr) (h0 : Heap) (n0 : Nat) (Z0 : n0 ≤ h0.size) (P : own_P Z h0 w0 w1 w2 w3 w4 w5 w6 w7 w8 w9 w10 w11 w12) :
    MetFree l (⟨"com/example/recourse/recourse/CaseActionGivesAmountBackPinLaw", "pick", "(I)Lcom/example/recourse/recourse/CaseAction;"⟩ : MethodName) (head1 (Jvm.Cond.code (⟨"com/example/recourse/recourse/CaseActionGivesAmountBackPinLaw", "pick", "(I)Lcom/example/recourse/recourse/CaseAction;"⟩ : MethodName) method_2_code 1 (some (.object "com/example/recourse/recourse/CaseAction")) :: ws) ({ frames := 0, cells := 0, slots := 0, locals := 0 } : Room)) (fun a U => a = #[(.int (7 : Int32))] ∧ Z.Warmed39 U.vm ∧ U.heap = h0) (fun _ _ _ _ _ => True) (fun _ U o U' => ∃ v L, o = .returned v ∧ own_Q (some (.ref w1)) h0 n0 v U'.heap L ∧ FrameEnd U o U' L ({ frames := 0, cells := 0, slots := 0, locals := 0 } : Room).cells ({ frames := 0, cells := 0, slots := 0, locals := 0 } : Room).slots) := by
  refine MetFree.of_bodySF (plainFor_of_name pn_com_example_recourse_recourse_CaseActionGivesAmountBackPinLaw) hisR ?_
  intro p e s m args below meth c s₁ Bd hml0 hP hK
  obtain ⟨rfl, hZ, hh⟩ := hP
  have hx := Bd.exec
  have hby := Bd.bytes
  have hml : c.maxLocals = 1 := hml0
  have hown : s.vm.findClass "com/example/recourse/recourse/CaseActionGivesAmountBackPinLaw" = some m.cls := findClass_of_methodNamed Bd.named
  have hnm := (name_of_methodNamed Bd.named Bd.method).1
  have X0 : Stand p l e ({ frames := 0, cells := 0, slots := 0, locals := 0 } : Room) s m #[(.int (7 : Int32))] below meth c s₁ [] 0 0 := Stand.of_body Bd
  have e0 : s₁.heap = h0 := by rw [← hh, Bd.state]; rfl
  have N0 := Fr.nil n0
  have pre0 : ∀ t, Steps p.tables e below (s₁.setTop (mkF m 0 #[.val (.int (7 : Int32))] [])) t → Steps p.tables e below (s₁.setTop (entryFrame m #[(.int (7 : Int32))] 1)) t := fun t k => castTop (ef_method_2_code_I m (7 : Int32)) k
  have P0 := P; obtain ⟨S0, E0, F0_ordinal, S1, E1, F1_ordinal, S2, E2, F2_ordinal, S3, E3, F3_ordinal, S4, E4, F4_ordinal, S5, E5, F5_ordinal, S6, E6, F6_ordinal, S7, E7, F7_ordinal, S8, E8, F8_ordinal, S9, E9, F9_ordinal, S10, E10, F10_ordinal, S11, E11, F11_ordinal, S12, E12, F12_ordinal⟩ := P0
  obtain ⟨T8, X8, e8, st8⟩ := getS2 X0 hx hZ hown (host := "") (Or.inl (hw _ (List.mem_of_getElem? (i := 21) rfl))) Via.refl e0 S1 (g := (mkF m 69 #[.val (.int (7 : Int32))] [])) rfl (hb hby d_method_2_code_69)
  obtain ⟨fs, hr, hrun, hended, hW, hsame⟩ := X8.leave (v := some (.ref w1)) (fun h => by rw [Bd.returns] at h; cases h)
  refine ⟨_, _, pre0 _ ?_, hrun, hended, _, _, rfl, ?_, ⟨_, rfl⟩, hW, hsame.mono (by decide) (by decide)⟩
  · show Steps p.tables e below (s₁.setTop (mkF m 0 #[.val (.int (7 : Int32))] [])) _
    refine XS.iloadN X0.here hx rfl (hb hby d_method_2_code_0) rfl ?_
    show Steps p.tables e below (s₁.setTop (mkF m 1 #[.val (.int (7 : Int32))] [(.int (7 : Int32))])) _
    refine XS.ifYes X0.here hx rfl (pc0 := 1) (pc' := 8) rfl (hb hby d_method_2_code_1) rfl (by decide) (by decide) (by decide) ?_
    show Steps p.tables e below (s₁.setTop (mkF m 8 #[.val (.int (7 : Int32))] [])) _
    refine XS.iloadN X0.here hx rfl (hb hby d_method_2_code_8) rfl ?_
    show Steps p.tables e below (s₁.setTop (mkF m 9 #[.val (.int (7 : Int32))] [(.int (7 : Int32))])) _
    refine XT.iconstV X0.here hx rfl (1 : Int32) (hb hby d_method_2_code_9) rfl ?_
    show Steps p.tables e below (s₁.setTop (mkF m 10 #[.val (.int (7 : Int32))] [(.int (1 : Int32)), (.int (7 : Int32))])) _
    refine XS.icmpYes X0.here hx rfl (pc0 := 10) (pc' := 17) rfl (hb hby d_method_2_code_10) rfl (by decide) (by decide) (by decide) ?_
    show Steps p.tables e below (s₁.setTop (mkF m 17 #[.val (.int (7 : Int32))] [])) _
    refine XS.iloadN X0.here hx rfl (hb hby d_method_2_code_17) rfl ?_
    show Steps p.tables e below (s₁.setTop (mkF m 18 #[.val (.int (7 : Int32))] [(.int (7 : Int32))])) _
    refine XT.iconstV X0.here hx rfl (2 : Int32) (hb hby d_method_2_code_18) rfl ?_
    show Steps p.tables e below (s₁.setTop (mkF m 19 #[.val (.int (7 : Int32))] [(.int (2 : Int32)), (.int (7 : Int32))])) _
    refine XS.icmpYes X0.here hx rfl (pc0 := 19) (pc' := 26) rfl (hb hby d_method_2_code_19) rfl (by decide) (by decide) (by decide) ?_
    show Steps p.tables e below (s₁.setTop (mkF m 26 #[.val (.int (7 : Int32))] [])) _
    refine XS.iloadN X0.here hx rfl (hb hby d_method_2_code_26) rfl ?_
    show Steps p.tables e below (s₁.setTop (mkF m 27 #[.val (.int (7 : Int32))] [(.int (7 : Int32))])) _
    refine XT.iconstV X0.here hx rfl (3 : Int32) (hb hby d_method_2_code_27) rfl ?_
    show Steps p.tables e below (s₁.setTop (mkF m 28 #[.val (.int (7 : Int32))] [(.int (3 : Int32)), (.int (7 : Int32))])) _
    refine XS.icmpYes X0.here hx rfl (pc0 := 28) (pc' := 35) rfl (hb hby d_method_2_code_28) rfl (by decide) (by decide) (by decide) ?_
    show Steps p.tables e below (s₁.setTop (mkF m 35 #[.val (.int (7 : Int32))] [])) _
    refine XS.iloadN X0.here hx rfl (hb hby d_method_2_code_35) rfl ?_
    show Steps p.tables e below (s₁.setTop (mkF m 36 #[.val (.int (7 : Int32))] [(.int (7 : Int32))])) _
    refine XT.iconstV X0.here hx rfl (4 : Int32) (hb hby d_method_2_code_36) rfl ?_
    show Steps p.tables e below (s₁.setTop (mkF m 37 #[.val (.int (7 : Int32))] [(.int (4 : Int32)), (.int (7 : Int32))])) _
    refine XS.icmpYes X0.here hx rfl (pc0 := 37) (pc' := 44) rfl (hb hby d_method_2_code_37) rfl (by decide) (by decide) (by decide) ?_
    show Steps p.tables e below (s₁.setTop (mkF m 44 #[.val (.int (7 : Int32))] [])) _
    refine XS.iloadN X0.here hx rfl (hb hby d_method_2_code_44) rfl ?_
    show Steps p.tables e below (s₁.setTop (mkF m 45 #[.val (.int (7 : Int32))] [(.int (7 : Int32))])) _
    refine XT.iconstV X0.here hx rfl (5 : Int32) (hb hby d_method_2_code_45) rfl ?_
    show Steps p.tables e below (s₁.setTop (mkF m 46 #[.val (.int (7 : Int32))] [(.int (5 : Int32)), (.int (7 : Int32))])) _
    refine XS.icmpYes X0.here hx rfl (pc0 := 46) (pc' := 53) rfl (hb hby d_method_2_code_46) rfl (by decide) (by decide) (by decide) ?_
    show Steps p.tables e below (s₁.setTop (mkF m 53 #[.val (.int (7 : Int32))] [])) _
    refine XS.iloadN X0.here hx rfl (hb hby d_method_2_code_53) rfl ?_
    show Steps p.tables e below (s₁.setTop (mkF m 54 #[.val (.int (7 : Int32))] [(.int (7 : Int32))])) _
    refine XT.bipushV X0.here hx rfl (6 : Int32) (hb hby d_method_2_code_54) (by decide) ?_
    show Steps p.tables e below (s₁.setTop (mkF m 56 #[.val (.int (7 : Int32))] [(.int (6 : Int32)), (.int (7 : Int32))])) _
    refine XS.icmpYes X0.here hx rfl (pc0 := 56) (pc' := 63) rfl (hb hby d_method_2_code_56) rfl (by decide) (by decide) (by decide) ?_
    show Steps p.tables e below (s₁.setTop (mkF m 63 #[.val (.int (7 : Int32))] [])) _
    refine XS.iloadN X0.here hx rfl (hb hby d_method_2_code_63) rfl ?_
    show Steps p.tables e below (s₁.setTop (mkF m 64 #[.val (.int (7 : Int32))] [(.int (7 : Int32))])) _
    refine XT.bipushV X0.here hx rfl (7 : Int32) (hb hby d_method_2_code_64) (by decide) ?_
    show Steps p.tables e below (s₁.setTop (mkF m 66 #[.val (.int (7 : Int32))] [(.int (7 : Int32)), (.int (7 : Int32))])) _
    refine XS.icmpNo X0.here hx rfl (hb hby d_method_2_code_66) rfl (by decide) ?_
    show Steps p.tables e below (s₁.setTop (mkF m 69 #[.val (.int (7 : Int32))] [])) _
    refine st8 _ ?_
    show Steps p.tables e below (T8.setTop (mkF m 72 #[.val (.int (7 : Int32))] [(.ref w1)])) _
    jvm_step X8.here [X8.here.top, hx, (hb hby d_method_2_code_72), X8.method', Bd.returns, Value.isRef, FieldType.isReference]
    first | (intro acts; rw [hr _ acts rfl rfl rfl]) | rw [hr _ _ rfl rfl rfl]
    exact Steps.refl _
  · show own_Q (some (.ref w1)) h0 n0 _ T8.heap _
    rw [e8]
    exact ⟨rfl, N0, rfl⟩
theorem d_method_2_code_73 : decode method_2_code 73 = .ok (.iload_n 0, 1) := by decide +kernel
theorem d_method_2_code_74 : decode method_2_code 74 = .ok (.bipush 8, 2) := by decide +kernel
theorem d_method_2_code_76 : decode method_2_code 76 = .ok (.if_icmp .ne 7, 3) := by decide +kernel
theorem d_method_2_code_79 : decode method_2_code 79 = .ok (.getstatic 34, 3) := by decide +kernel
theorem d_method_2_code_82 : decode method_2_code 82 = .ok (.areturn, 1) := by decide +kernel
set_option maxRecDepth 65536 in
set_option maxHeartbeats 40000000 in
theorem own_pick_8 (l : Launch) (Z : State) (a0 : Array Value) (hw : ∀ d ∈ tables_1, d.before a0 Z = true) (ws : List Jvm.Cond) (w0 w1 w2 w3 w4 w5 w6 w7 w8 w9 w10 w11 w12 : Addr) (h0 : Heap) (n0 : Nat) (Z0 : n0 ≤ h0.size) (P : own_P Z h0 w0 w1 w2 w3 w4 w5 w6 w7 w8 w9 w10 w11 w12) :
    MetFree l (⟨"com/example/recourse/recourse/CaseActionGivesAmountBackPinLaw", "pick", "(I)Lcom/example/recourse/recourse/CaseAction;"⟩ : MethodName) (head1 (Jvm.Cond.code (⟨"com/example/recourse/recourse/CaseActionGivesAmountBackPinLaw", "pick", "(I)Lcom/example/recourse/recourse/CaseAction;"⟩ : MethodName) method_2_code 1 (some (.object "com/example/recourse/recourse/CaseAction")) :: ws) ({ frames := 0, cells := 0, slots := 0, locals := 0 } : Room)) (fun a U => a = #[(.int (8 : Int32))] ∧ Z.Warmed39 U.vm ∧ U.heap = h0) (fun _ _ _ _ _ => True) (fun _ U o U' => ∃ v L, o = .returned v ∧ own_Q (some (.ref w9)) h0 n0 v U'.heap L ∧ FrameEnd U o U' L ({ frames := 0, cells := 0, slots := 0, locals := 0 } : Room).cells ({ frames := 0, cells := 0, slots := 0, locals := 0 } : Room).slots) := by
  refine MetFree.of_bodySF (plainFor_of_name pn_com_example_recourse_recourse_CaseActionGivesAmountBackPinLaw) hisR ?_
  intro p e s m args below meth c s₁ Bd hml0 hP hK
  obtain ⟨rfl, hZ, hh⟩ := hP
  have hx := Bd.exec
  have hby := Bd.bytes
  have hml : c.maxLocals = 1 := hml0
  have hown : s.vm.findClass "com/example/recourse/recourse/CaseActionGivesAmountBackPinLaw" = some m.cls := findClass_of_methodNamed Bd.named
  have hnm := (name_of_methodNamed Bd.named Bd.method).1
  have X0 : Stand p l e ({ frames := 0, cells := 0, slots := 0, locals := 0 } : Room) s m #[(.int (8 : Int32))] below meth c s₁ [] 0 0 := Stand.of_body Bd
  have e0 : s₁.heap = h0 := by rw [← hh, Bd.state]; rfl
  have N0 := Fr.nil n0
  have pre0 : ∀ t, Steps p.tables e below (s₁.setTop (mkF m 0 #[.val (.int (8 : Int32))] [])) t → Steps p.tables e below (s₁.setTop (entryFrame m #[(.int (8 : Int32))] 1)) t := fun t k => castTop (ef_method_2_code_I m (8 : Int32)) k
  have P0 := P; obtain ⟨S0, E0, F0_ordinal, S1, E1, F1_ordinal, S2, E2, F2_ordinal, S3, E3, F3_ordinal, S4, E4, F4_ordinal, S5, E5, F5_ordinal, S6, E6, F6_ordinal, S7, E7, F7_ordinal, S8, E8, F8_ordinal, S9, E9, F9_ordinal, S10, E10, F10_ordinal, S11, E11, F11_ordinal, S12, E12, F12_ordinal⟩ := P0
  obtain ⟨T9, X9, e9, st9⟩ := getS2 X0 hx hZ hown (host := "") (Or.inl (hw _ (List.mem_of_getElem? (i := 30) rfl))) Via.refl e0 S9 (g := (mkF m 79 #[.val (.int (8 : Int32))] [])) rfl (hb hby d_method_2_code_79)
  obtain ⟨fs, hr, hrun, hended, hW, hsame⟩ := X9.leave (v := some (.ref w9)) (fun h => by rw [Bd.returns] at h; cases h)
  refine ⟨_, _, pre0 _ ?_, hrun, hended, _, _, rfl, ?_, ⟨_, rfl⟩, hW, hsame.mono (by decide) (by decide)⟩
  · show Steps p.tables e below (s₁.setTop (mkF m 0 #[.val (.int (8 : Int32))] [])) _
    refine XS.iloadN X0.here hx rfl (hb hby d_method_2_code_0) rfl ?_
    show Steps p.tables e below (s₁.setTop (mkF m 1 #[.val (.int (8 : Int32))] [(.int (8 : Int32))])) _
    refine XS.ifYes X0.here hx rfl (pc0 := 1) (pc' := 8) rfl (hb hby d_method_2_code_1) rfl (by decide) (by decide) (by decide) ?_
    show Steps p.tables e below (s₁.setTop (mkF m 8 #[.val (.int (8 : Int32))] [])) _
    refine XS.iloadN X0.here hx rfl (hb hby d_method_2_code_8) rfl ?_
    show Steps p.tables e below (s₁.setTop (mkF m 9 #[.val (.int (8 : Int32))] [(.int (8 : Int32))])) _
    refine XT.iconstV X0.here hx rfl (1 : Int32) (hb hby d_method_2_code_9) rfl ?_
    show Steps p.tables e below (s₁.setTop (mkF m 10 #[.val (.int (8 : Int32))] [(.int (1 : Int32)), (.int (8 : Int32))])) _
    refine XS.icmpYes X0.here hx rfl (pc0 := 10) (pc' := 17) rfl (hb hby d_method_2_code_10) rfl (by decide) (by decide) (by decide) ?_
    show Steps p.tables e below (s₁.setTop (mkF m 17 #[.val (.int (8 : Int32))] [])) _
    refine XS.iloadN X0.here hx rfl (hb hby d_method_2_code_17) rfl ?_
    show Steps p.tables e below (s₁.setTop (mkF m 18 #[.val (.int (8 : Int32))] [(.int (8 : Int32))])) _
    refine XT.iconstV X0.here hx rfl (2 : Int32) (hb hby d_method_2_code_18) rfl ?_
    show Steps p.tables e below (s₁.setTop (mkF m 19 #[.val (.int (8 : Int32))] [(.int (2 : Int32)), (.int (8 : Int32))])) _
    refine XS.icmpYes X0.here hx rfl (pc0 := 19) (pc' := 26) rfl (hb hby d_method_2_code_19) rfl (by decide) (by decide) (by decide) ?_
    show Steps p.tables e below (s₁.setTop (mkF m 26 #[.val (.int (8 : Int32))] [])) _
    refine XS.iloadN X0.here hx rfl (hb hby d_method_2_code_26) rfl ?_
    show Steps p.tables e below (s₁.setTop (mkF m 27 #[.val (.int (8 : Int32))] [(.int (8 : Int32))])) _
    refine XT.iconstV X0.here hx rfl (3 : Int32) (hb hby d_method_2_code_27) rfl ?_
    show Steps p.tables e below (s₁.setTop (mkF m 28 #[.val (.int (8 : Int32))] [(.int (3 : Int32)), (.int (8 : Int32))])) _
    refine XS.icmpYes X0.here hx rfl (pc0 := 28) (pc' := 35) rfl (hb hby d_method_2_code_28) rfl (by decide) (by decide) (by decide) ?_
    show Steps p.tables e below (s₁.setTop (mkF m 35 #[.val (.int (8 : Int32))] [])) _
    refine XS.iloadN X0.here hx rfl (hb hby d_method_2_code_35) rfl ?_
    show Steps p.tables e below (s₁.setTop (mkF m 36 #[.val (.int (8 : Int32))] [(.int (8 : Int32))])) _
    refine XT.iconstV X0.here hx rfl (4 : Int32) (hb hby d_method_2_code_36) rfl ?_
    show Steps p.tables e below (s₁.setTop (mkF m 37 #[.val (.int (8 : Int32))] [(.int (4 : Int32)), (.int (8 : Int32))])) _
    refine XS.icmpYes X0.here hx rfl (pc0 := 37) (pc' := 44) rfl (hb hby d_method_2_code_37) rfl (by decide) (by decide) (by decide) ?_
    show Steps p.tables e below (s₁.setTop (mkF m 44 #[.val (.int (8 : Int32))] [])) _
    refine XS.iloadN X0.here hx rfl (hb hby d_method_2_code_44) rfl ?_
    show Steps p.tables e below (s₁.setTop (mkF m 45 #[.val (.int (8 : Int32))] [(.int (8 : Int32))])) _
    refine XT.iconstV X0.here hx rfl (5 : Int32) (hb hby d_method_2_code_45) rfl ?_
    show Steps p.tables e below (s₁.setTop (mkF m 46 #[.val (.int (8 : Int32))] [(.int (5 : Int32)), (.int (8 : Int32))])) _
    refine XS.icmpYes X0.here hx rfl (pc0 := 46) (pc' := 53) rfl (hb hby d_method_2_code_46) rfl (by decide) (by decide) (by decide) ?_
    show Steps p.tables e below (s₁.setTop (mkF m 53 #[.val (.int (8 : Int32))] [])) _
    refine XS.iloadN X0.here hx rfl (hb hby d_method_2_code_53) rfl ?_
    show Steps p.tables e below (s₁.setTop (mkF m 54 #[.val (.int (8 : Int32))] [(.int (8 : Int32))])) _
    refine XT.bipushV X0.here hx rfl (6 : Int32) (hb hby d_method_2_code_54) (by decide) ?_
    show Steps p.tables e below (s₁.setTop (mkF m 56 #[.val (.int (8 : Int32))] [(.int (6 : Int32)), (.int (8 : Int32))])) _
    refine XS.icmpYes X0.here hx rfl (pc0 := 56) (pc' := 63) rfl (hb hby d_method_2_code_56) rfl (by decide) (by decide) (by decide) ?_
    show Steps p.tables e below (s₁.setTop (mkF m 63 #[.val (.int (8 : Int32))] [])) _
    refine XS.iloadN X0.here hx rfl (hb hby d_method_2_code_63) rfl ?_
    show Steps p.tables e below (s₁.setTop (mkF m 64 #[.val (.int (8 : Int32))] [(.int (8 : Int32))])) _
    refine XT.bipushV X0.here hx rfl (7 : Int32) (hb hby d_method_2_code_64) (by decide) ?_
    show Steps p.tables e below (s₁.setTop (mkF m 66 #[.val (.int (8 : Int32))] [(.int (7 : Int32)), (.int (8 : Int32))])) _
    refine XS.icmpYes X0.here hx rfl (pc0 := 66) (pc' := 73) rfl (hb hby d_method_2_code_66) rfl (by decide) (by decide) (by decide) ?_
    show Steps p.tables e below (s₁.setTop (mkF m 73 #[.val (.int (8 : Int32))] [])) _
    refine XS.iloadN X0.here hx rfl (hb hby d_method_2_code_73) rfl ?_
    show Steps p.tables e below (s₁.setTop (mkF m 74 #[.val (.int (8 : Int32))] [(.int (8 : Int32))])) _
    refine XT.bipushV X0.here hx rfl (8 : Int32) (hb hby d_method_2_code_74) (by decide) ?_
    show Steps p.tables e below (s₁.setTop (mkF m 76 #[.val (.int (8 : Int32))] [(.int (8 : Int32)), (.int (8 : Int32))])) _
    refine XS.icmpNo X0.here hx rfl (hb hby d_method_2_code_76) rfl (by decide) ?_
    show Steps p.tables e below (s₁.setTop (mkF m 79 #[.val (.int (8 : Int32))] [])) _
    refine st9 _ ?_
    show Steps p.tables e below (T9.setTop (mkF m 82 #[.val (.int (8 : Int32))] [(.ref w9)])) _
    jvm_step X9.here [X9.here.top, hx, (hb hby d_method_2_code_82), X9.method', Bd.returns, Value.isRef, FieldType.isReference]
    first | (intro acts; rw [hr _ acts rfl rfl rfl]) | rw [hr _ _ rfl rfl rfl]
    exact Steps.refl _
  · show own_Q (some (.ref w9)) h0 n0 _ T9.heap _
    rw [e9]
    exact ⟨rfl, N0, rfl⟩
theorem d_method_2_code_83 : decode method_2_code 83 = .ok (.iload_n 0, 1) := by decide +kernel
theorem d_method_2_code_84 : decode method_2_code 84 = .ok (.bipush 9, 2) := by decide +kernel
theorem d_method_2_code_86 : decode method_2_code 86 = .ok (.if_icmp .ne 7, 3) := by decide +kernel
theorem d_method_2_code_89 : decode method_2_code 89 = .ok (.getstatic 37, 3) := by decide +kernel
theorem d_method_2_code_92 : decode method_2_code 92 = .ok (.areturn, 1) := by decide +kernel
set_option maxRecDepth 65536 in
set_option maxHeartbeats 40000000 in
theorem own_pick_9 (l : Launch) (Z : State) (a0 : Array Value) (hw : ∀ d ∈ tables_1, d.before a0 Z = true) (ws : List Jvm.Cond) (w0 w1 w2 w3 w4 w5 w6 w7 w8 w9 w10 w11 w12 : Addr) (h0 : Heap) (n0 : Nat) (Z0 : n0 ≤ h0.size) (P : own_P Z h0 w0 w1 w2 w3 w4 w5 w6 w7 w8 w9 w10 w11 w12) :
    MetFree l (⟨"com/example/recourse/recourse/CaseActionGivesAmountBackPinLaw", "pick", "(I)Lcom/example/recourse/recourse/CaseAction;"⟩ : MethodName) (head1 (Jvm.Cond.code (⟨"com/example/recourse/recourse/CaseActionGivesAmountBackPinLaw", "pick", "(I)Lcom/example/recourse/recourse/CaseAction;"⟩ : MethodName) method_2_code 1 (some (.object "com/example/recourse/recourse/CaseAction")) :: ws) ({ frames := 0, cells := 0, slots := 0, locals := 0 } : Room)) (fun a U => a = #[(.int (9 : Int32))] ∧ Z.Warmed39 U.vm ∧ U.heap = h0) (fun _ _ _ _ _ => True) (fun _ U o U' => ∃ v L, o = .returned v ∧ own_Q (some (.ref w5)) h0 n0 v U'.heap L ∧ FrameEnd U o U' L ({ frames := 0, cells := 0, slots := 0, locals := 0 } : Room).cells ({ frames := 0, cells := 0, slots := 0, locals := 0 } : Room).slots) := by
  refine MetFree.of_bodySF (plainFor_of_name pn_com_example_recourse_recourse_CaseActionGivesAmountBackPinLaw) hisR ?_
  intro p e s m args below meth c s₁ Bd hml0 hP hK
  obtain ⟨rfl, hZ, hh⟩ := hP
  have hx := Bd.exec
  have hby := Bd.bytes
  have hml : c.maxLocals = 1 := hml0
  have hown : s.vm.findClass "com/example/recourse/recourse/CaseActionGivesAmountBackPinLaw" = some m.cls := findClass_of_methodNamed Bd.named
  have hnm := (name_of_methodNamed Bd.named Bd.method).1
  have X0 : Stand p l e ({ frames := 0, cells := 0, slots := 0, locals := 0 } : Room) s m #[(.int (9 : Int32))] below meth c s₁ [] 0 0 := Stand.of_body Bd
  have e0 : s₁.heap = h0 := by rw [← hh, Bd.state]; rfl
  have N0 := Fr.nil n0
  have pre0 : ∀ t, Steps p.tables e below (s₁.setTop (mkF m 0 #[.val (.int (9 : Int32))] [])) t → Steps p.tables e below (s₁.setTop (entryFrame m #[(.int (9 : Int32))] 1)) t := fun t k => castTop (ef_method_2_code_I m (9 : Int32)) k
  have P0 := P; obtain ⟨S0, E0, F0_ordinal, S1, E1, F1_ordinal, S2, E2, F2_ordinal, S3, E3, F3_ordinal, S4, E4, F4_ordinal, S5, E5, F5_ordinal, S6, E6, F6_ordinal, S7, E7, F7_ordinal, S8, E8, F8_ordinal, S9, E9, F9_ordinal, S10, E10, F10_ordinal, S11, E11, F11_ordinal, S12, E12, F12_ordinal⟩ := P0
  obtain ⟨T10, X10, e10, st10⟩ := getS2 X0 hx hZ hown (host := "") (Or.inl (hw _ (List.mem_of_getElem? (i := 22) rfl))) Via.refl e0 S5 (g := (mkF m 89 #[.val (.int (9 : Int32))] [])) rfl (hb hby d_method_2_code_89)
  obtain ⟨fs, hr, hrun, hended, hW, hsame⟩ := X10.leave (v := some (.ref w5)) (fun h => by rw [Bd.returns] at h; cases h)
  refine ⟨_, _, pre0 _ ?_, hrun, hended, _, _, rfl, ?_, ⟨_, rfl⟩, hW, hsame.mono (by decide) (by decide)⟩
  · show Steps p.tables e below (s₁.setTop (mkF m 0 #[.val (.int (9 : Int32))] [])) _
    refine XS.iloadN X0.here hx rfl (hb hby d_method_2_code_0) rfl ?_
    show Steps p.tables e below (s₁.setTop (mkF m 1 #[.val (.int (9 : Int32))] [(.int (9 : Int32))])) _
    refine XS.ifYes X0.here hx rfl (pc0 := 1) (pc' := 8) rfl (hb hby d_method_2_code_1) rfl (by decide) (by decide) (by decide) ?_
    show Steps p.tables e below (s₁.setTop (mkF m 8 #[.val (.int (9 : Int32))] [])) _
    refine XS.iloadN X0.here hx rfl (hb hby d_method_2_code_8) rfl ?_
    show Steps p.tables e below (s₁.setTop (mkF m 9 #[.val (.int (9 : Int32))] [(.int (9 : Int32))])) _
    refine XT.iconstV X0.here hx rfl (1 : Int32) (hb hby d_method_2_code_9) rfl ?_
    show Steps p.tables e below (s₁.setTop (mkF m 10 #[.val (.int (9 : Int32))] [(.int (1 : Int32)), (.int (9 : Int32))])) _
    refine XS.icmpYes X0.here hx rfl (pc0 := 10) (pc' := 17) rfl (hb hby d_method_2_code_10) rfl (by decide) (by decide) (by decide) ?_
    show Steps p.tables e below (s₁.setTop (mkF m 17 #[.val (.int (9 : Int32))] [])) _
    refine XS.iloadN X0.here hx rfl (hb hby d_method_2_code_17) rfl ?_
    show Steps p.tables e below (s₁.setTop (mkF m 18 #[.val (.int (9 : Int32))] [(.int (9 : Int32))])) _
    refine XT.iconstV X0.here hx rfl (2 : Int32) (hb hby d_method_2_code_18) rfl ?_
    show Steps p.tables e below (s₁.setTop (mkF m 19 #[.val (.int (9 : Int32))] [(.int (2 : Int32)), (.int (9 : Int32))])) _
    refine XS.icmpYes X0.here hx rfl (pc0 := 19) (pc' := 26) rfl (hb hby d_method_2_code_19) rfl (by decide) (by decide) (by decide) ?_
    show Steps p.tables e below (s₁.setTop (mkF m 26 #[.val (.int (9 : Int32))] [])) _
    refine XS.iloadN X0.here hx rfl (hb hby d_method_2_code_26) rfl ?_
    show Steps p.tables e below (s₁.setTop (mkF m 27 #[.val (.int (9 : Int32))] [(.int (9 : Int32))])) _
    refine XT.iconstV X0.here hx rfl (3 : Int32) (hb hby d_method_2_code_27) rfl ?_
    show Steps p.tables e below (s₁.setTop (mkF m 28 #[.val (.int (9 : Int32))] [(.int (3 : Int32)), (.int (9 : Int32))])) _
    refine XS.icmpYes X0.here hx rfl (pc0 := 28) (pc' := 35) rfl (hb hby d_method_2_code_28) rfl (by decide) (by decide) (by decide) ?_
    show Steps p.tables e below (s₁.setTop (mkF m 35 #[.val (.int (9 : Int32))] [])) _
    refine XS.iloadN X0.here hx rfl (hb hby d_method_2_code_35) rfl ?_
    show Steps p.tables e below (s₁.setTop (mkF m 36 #[.val (.int (9 : Int32))] [(.int (9 : Int32))])) _
    refine XT.iconstV X0.here hx rfl (4 : Int32) (hb hby d_method_2_code_36) rfl ?_
    show Steps p.tables e below (s₁.setTop (mkF m 37 #[.val (.int (9 : Int32))] [(.int (4 : Int32)), (.int (9 : Int32))])) _
    refine XS.icmpYes X0.here hx rfl (pc0 := 37) (pc' := 44) rfl (hb hby d_method_2_code_37) rfl (by decide) (by decide) (by decide) ?_
    show Steps p.tables e below (s₁.setTop (mkF m 44 #[.val (.int (9 : Int32))] [])) _
    refine XS.iloadN X0.here hx rfl (hb hby d_method_2_code_44) rfl ?_
    show Steps p.tables e below (s₁.setTop (mkF m 45 #[.val (.int (9 : Int32))] [(.int (9 : Int32))])) _
    refine XT.iconstV X0.here hx rfl (5 : Int32) (hb hby d_method_2_code_45) rfl ?_
    show Steps p.tables e below (s₁.setTop (mkF m 46 #[.val (.int (9 : Int32))] [(.int (5 : Int32)), (.int (9 : Int32))])) _
    refine XS.icmpYes X0.here hx rfl (pc0 := 46) (pc' := 53) rfl (hb hby d_method_2_code_46) rfl (by decide) (by decide) (by decide) ?_
    show Steps p.tables e below (s₁.setTop (mkF m 53 #[.val (.int (9 : Int32))] [])) _
    refine XS.iloadN X0.here hx rfl (hb hby d_method_2_code_53) rfl ?_
    show Steps p.tables e below (s₁.setTop (mkF m 54 #[.val (.int (9 : Int32))] [(.int (9 : Int32))])) _
    refine XT.bipushV X0.here hx rfl (6 : Int32) (hb hby d_method_2_code_54) (by decide) ?_
    show Steps p.tables e below (s₁.setTop (mkF m 56 #[.val (.int (9 : Int32))] [(.int (6 : Int32)), (.int (9 : Int32))])) _
    refine XS.icmpYes X0.here hx rfl (pc0 := 56) (pc' := 63) rfl (hb hby d_method_2_code_56) rfl (by decide) (by decide) (by decide) ?_
    show Steps p.tables e below (s₁.setTop (mkF m 63 #[.val (.int (9 : Int32))] [])) _
    refine XS.iloadN X0.here hx rfl (hb hby d_method_2_code_63) rfl ?_
    show Steps p.tables e below (s₁.setTop (mkF m 64 #[.val (.int (9 : Int32))] [(.int (9 : Int32))])) _
    refine XT.bipushV X0.here hx rfl (7 : Int32) (hb hby d_method_2_code_64) (by decide) ?_
    show Steps p.tables e below (s₁.setTop (mkF m 66 #[.val (.int (9 : Int32))] [(.int (7 : Int32)), (.int (9 : Int32))])) _
    refine XS.icmpYes X0.here hx rfl (pc0 := 66) (pc' := 73) rfl (hb hby d_method_2_code_66) rfl (by decide) (by decide) (by decide) ?_
    show Steps p.tables e below (s₁.setTop (mkF m 73 #[.val (.int (9 : Int32))] [])) _
    refine XS.iloadN X0.here hx rfl (hb hby d_method_2_code_73) rfl ?_
    show Steps p.tables e below (s₁.setTop (mkF m 74 #[.val (.int (9 : Int32))] [(.int (9 : Int32))])) _
    refine XT.bipushV X0.here hx rfl (8 : Int32) (hb hby d_method_2_code_74) (by decide) ?_
    show Steps p.tables e below (s₁.setTop (mkF m 76 #[.val (.int (9 : Int32))] [(.int (8 : Int32)), (.int (9 : Int32))])) _
    refine XS.icmpYes X0.here hx rfl (pc0 := 76) (pc' := 83) rfl (hb hby d_method_2_code_76) rfl (by decide) (by decide) (by decide) ?_
    show Steps p.tables e below (s₁.setTop (mkF m 83 #[.val (.int (9 : Int32))] [])) _
    refine XS.iloadN X0.here hx rfl (hb hby d_method_2_code_83) rfl ?_
    show Steps p.tables e below (s₁.setTop (mkF m 84 #[.val (.int (9 : Int32))] [(.int (9 : Int32))])) _
    refine XT.bipushV X0.here hx rfl (9 : Int32) (hb hby d_method_2_code_84) (by decide) ?_
    show Steps p.tables e below (s₁.setTop (mkF m 86 #[.val (.int (9 : Int32))] [(.int (9 : Int32)), (.int (9 : Int32))])) _
    refine XS.icmpNo X0.here hx rfl (hb hby d_method_2_code_86) rfl (by decide) ?_
    show Steps p.tables e below (s₁.setTop (mkF m 89 #[.val (.int (9 : Int32))] [])) _
    refine st10 _ ?_
    show Steps p.tables e below (T10.setTop (mkF m 92 #[.val (.int (9 : Int32))] [(.ref w5)])) _
    jvm_step X10.here [X10.here.top, hx, (hb hby d_method_2_code_92), X10.method', Bd.returns, Value.isRef, FieldType.isReference]
    first | (intro acts; rw [hr _ acts rfl rfl rfl]) | rw [hr _ _ rfl rfl rfl]
    exact Steps.refl _
  · show own_Q (some (.ref w5)) h0 n0 _ T10.heap _
    rw [e10]
    exact ⟨rfl, N0, rfl⟩
theorem d_method_2_code_93 : decode method_2_code 93 = .ok (.iload_n 0, 1) := by decide +kernel
theorem d_method_2_code_94 : decode method_2_code 94 = .ok (.bipush 10, 2) := by decide +kernel
theorem d_method_2_code_96 : decode method_2_code 96 = .ok (.if_icmp .ne 7, 3) := by decide +kernel
theorem d_method_2_code_99 : decode method_2_code 99 = .ok (.getstatic 40, 3) := by decide +kernel
theorem d_method_2_code_102 : decode method_2_code 102 = .ok (.areturn, 1) := by decide +kernel
set_option maxRecDepth 65536 in
set_option maxHeartbeats 40000000 in
theorem own_pick_10 (l : Launch) (Z : State) (a0 : Array Value) (hw : ∀ d ∈ tables_1, d.before a0 Z = true) (ws : List Jvm.Cond) (w0 w1 w2 w3 w4 w5 w6 w7 w8 w9 w10 w11 w12 : Addr) (h0 : Heap) (n0 : Nat) (Z0 : n0 ≤ h0.size) (P : own_P Z h0 w0 w1 w2 w3 w4 w5 w6 w7 w8 w9 w10 w11 w12) :
    MetFree l (⟨"com/example/recourse/recourse/CaseActionGivesAmountBackPinLaw", "pick", "(I)Lcom/example/recourse/recourse/CaseAction;"⟩ : MethodName) (head1 (Jvm.Cond.code (⟨"com/example/recourse/recourse/CaseActionGivesAmountBackPinLaw", "pick", "(I)Lcom/example/recourse/recourse/CaseAction;"⟩ : MethodName) method_2_code 1 (some (.object "com/example/recourse/recourse/CaseAction")) :: ws) ({ frames := 0, cells := 0, slots := 0, locals := 0 } : Room)) (fun a U => a = #[(.int (10 : Int32))] ∧ Z.Warmed39 U.vm ∧ U.heap = h0) (fun _ _ _ _ _ => True) (fun _ U o U' => ∃ v L, o = .returned v ∧ own_Q (some (.ref w10)) h0 n0 v U'.heap L ∧ FrameEnd U o U' L ({ frames := 0, cells := 0, slots := 0, locals := 0 } : Room).cells ({ frames := 0, cells := 0, slots := 0, locals := 0 } : Room).slots) := by
  refine MetFree.of_bodySF (plainFor_of_name pn_com_example_recourse_recourse_CaseActionGivesAmountBackPinLaw) hisR ?_
  intro p e s m args below meth c s₁ Bd hml0 hP hK
  obtain ⟨rfl, hZ, hh⟩ := hP
  have hx := Bd.exec
  have hby := Bd.bytes
  have hml : c.maxLocals = 1 := hml0
  have hown : s.vm.findClass "com/example/recourse/recourse/CaseActionGivesAmountBackPinLaw" = some m.cls := findClass_of_methodNamed Bd.named
  have hnm := (name_of_methodNamed Bd.named Bd.method).1
  have X0 : Stand p l e ({ frames := 0, cells := 0, slots := 0, locals := 0 } : Room) s m #[(.int (10 : Int32))] below meth c s₁ [] 0 0 := Stand.of_body Bd
  have e0 : s₁.heap = h0 := by rw [← hh, Bd.state]; rfl
  have N0 := Fr.nil n0
  have pre0 : ∀ t, Steps p.tables e below (s₁.setTop (mkF m 0 #[.val (.int (10 : Int32))] [])) t → Steps p.tables e below (s₁.setTop (entryFrame m #[(.int (10 : Int32))] 1)) t := fun t k => castTop (ef_method_2_code_I m (10 : Int32)) k
  have P0 := P; obtain ⟨S0, E0, F0_ordinal, S1, E1, F1_ordinal, S2, E2, F2_ordinal, S3, E3, F3_ordinal, S4, E4, F4_ordinal, S5, E5, F5_ordinal, S6, E6, F6_ordinal, S7, E7, F7_ordinal, S8, E8, F8_ordinal, S9, E9, F9_ordinal, S10, E10, F10_ordinal, S11, E11, F11_ordinal, S12, E12, F12_ordinal⟩ := P0
  obtain ⟨T11, X11, e11, st11⟩ := getS2 X0 hx hZ hown (host := "") (Or.inl (hw _ (List.mem_of_getElem? (i := 32) rfl))) Via.refl e0 S10 (g := (mkF m 99 #[.val (.int (10 : Int32))] [])) rfl (hb hby d_method_2_code_99)
  obtain ⟨fs, hr, hrun, hended, hW, hsame⟩ := X11.leave (v := some (.ref w10)) (fun h => by rw [Bd.returns] at h; cases h)
  refine ⟨_, _, pre0 _ ?_, hrun, hended, _, _, rfl, ?_, ⟨_, rfl⟩, hW, hsame.mono (by decide) (by decide)⟩
  · show Steps p.tables e below (s₁.setTop (mkF m 0 #[.val (.int (10 : Int32))] [])) _
    refine XS.iloadN X0.here hx rfl (hb hby d_method_2_code_0) rfl ?_
    show Steps p.tables e below (s₁.setTop (mkF m 1 #[.val (.int (10 : Int32))] [(.int (10 : Int32))])) _
    refine XS.ifYes X0.here hx rfl (pc0 := 1) (pc' := 8) rfl (hb hby d_method_2_code_1) rfl (by decide) (by decide) (by decide) ?_
    show Steps p.tables e below (s₁.setTop (mkF m 8 #[.val (.int (10 : Int32))] [])) _
    refine XS.iloadN X0.here hx rfl (hb hby d_method_2_code_8) rfl ?_
    show Steps p.tables e below (s₁.setTop (mkF m 9 #[.val (.int (10 : Int32))] [(.int (10 : Int32))])) _
    refine XT.iconstV X0.here hx rfl (1 : Int32) (hb hby d_method_2_code_9) rfl ?_
    show Steps p.tables e below (s₁.setTop (mkF m 10 #[.val (.int (10 : Int32))] [(.int (1 : Int32)), (.int (10 : Int32))])) _
    refine XS.icmpYes X0.here hx rfl (pc0 := 10) (pc' := 17) rfl (hb hby d_method_2_code_10) rfl (by decide) (by decide) (by decide) ?_
    show Steps p.tables e below (s₁.setTop (mkF m 17 #[.val (.int (10 : Int32))] [])) _
    refine XS.iloadN X0.here hx rfl (hb hby d_method_2_code_17) rfl ?_
    show Steps p.tables e below (s₁.setTop (mkF m 18 #[.val (.int (10 : Int32))] [(.int (10 : Int32))])) _
    refine XT.iconstV X0.here hx rfl (2 : Int32) (hb hby d_method_2_code_18) rfl ?_
    show Steps p.tables e below (s₁.setTop (mkF m 19 #[.val (.int (10 : Int32))] [(.int (2 : Int32)), (.int (10 : Int32))])) _
    refine XS.icmpYes X0.here hx rfl (pc0 := 19) (pc' := 26) rfl (hb hby d_method_2_code_19) rfl (by decide) (by decide) (by decide) ?_
    show Steps p.tables e below (s₁.setTop (mkF m 26 #[.val (.int (10 : Int32))] [])) _
    refine XS.iloadN X0.here hx rfl (hb hby d_method_2_code_26) rfl ?_
    show Steps p.tables e below (s₁.setTop (mkF m 27 #[.val (.int (10 : Int32))] [(.int (10 : Int32))])) _
    refine XT.iconstV X0.here hx rfl (3 : Int32) (hb hby d_method_2_code_27) rfl ?_
    show Steps p.tables e below (s₁.setTop (mkF m 28 #[.val (.int (10 : Int32))] [(.int (3 : Int32)), (.int (10 : Int32))])) _
    refine XS.icmpYes X0.here hx rfl (pc0 := 28) (pc' := 35) rfl (hb hby d_method_2_code_28) rfl (by decide) (by decide) (by decide) ?_
    show Steps p.tables e below (s₁.setTop (mkF m 35 #[.val (.int (10 : Int32))] [])) _
    refine XS.iloadN X0.here hx rfl (hb hby d_method_2_code_35) rfl ?_
    show Steps p.tables e below (s₁.setTop (mkF m 36 #[.val (.int (10 : Int32))] [(.int (10 : Int32))])) _
    refine XT.iconstV X0.here hx rfl (4 : Int32) (hb hby d_method_2_code_36) rfl ?_
    show Steps p.tables e below (s₁.setTop (mkF m 37 #[.val (.int (10 : Int32))] [(.int (4 : Int32)), (.int (10 : Int32))])) _
    refine XS.icmpYes X0.here hx rfl (pc0 := 37) (pc' := 44) rfl (hb hby d_method_2_code_37) rfl (by decide) (by decide) (by decide) ?_
    show Steps p.tables e below (s₁.setTop (mkF m 44 #[.val (.int (10 : Int32))] [])) _
    refine XS.iloadN X0.here hx rfl (hb hby d_method_2_code_44) rfl ?_
    show Steps p.tables e below (s₁.setTop (mkF m 45 #[.val (.int (10 : Int32))] [(.int (10 : Int32))])) _
    refine XT.iconstV X0.here hx rfl (5 : Int32) (hb hby d_method_2_code_45) rfl ?_
    show Steps p.tables e below (s₁.setTop (mkF m 46 #[.val (.int (10 : Int32))] [(.int (5 : Int32)), (.int (10 : Int32))])) _
    refine XS.icmpYes X0.here hx rfl (pc0 := 46) (pc' := 53) rfl (hb hby d_method_2_code_46) rfl (by decide) (by decide) (by decide) ?_
    show Steps p.tables e below (s₁.setTop (mkF m 53 #[.val (.int (10 : Int32))] [])) _
    refine XS.iloadN X0.here hx rfl (hb hby d_method_2_code_53) rfl ?_
    show Steps p.tables e below (s₁.setTop (mkF m 54 #[.val (.int (10 : Int32))] [(.int (10 : Int32))])) _
    refine XT.bipushV X0.here hx rfl (6 : Int32) (hb hby d_method_2_code_54) (by decide) ?_
    show Steps p.tables e below (s₁.setTop (mkF m 56 #[.val (.int (10 : Int32))] [(.int (6 : Int32)), (.int (10 : Int32))])) _
    refine XS.icmpYes X0.here hx rfl (pc0 := 56) (pc' := 63) rfl (hb hby d_method_2_code_56) rfl (by decide) (by decide) (by decide) ?_
    show Steps p.tables e below (s₁.setTop (mkF m 63 #[.val (.int (10 : Int32))] [])) _
    refine XS.iloadN X0.here hx rfl (hb hby d_method_2_code_63) rfl ?_
    show Steps p.tables e below (s₁.setTop (mkF m 64 #[.val (.int (10 : Int32))] [(.int (10 : Int32))])) _
    refine XT.bipushV X0.here hx rfl (7 : Int32) (hb hby d_method_2_code_64) (by decide) ?_
    show Steps p.tables e below (s₁.setTop (mkF m 66 #[.val (.int (10 : Int32))] [(.int (7 : Int32)), (.int (10 : Int32))])) _
    refine XS.icmpYes X0.here hx rfl (pc0 := 66) (pc' := 73) rfl (hb hby d_method_2_code_66) rfl (by decide) (by decide) (by decide) ?_
    show Steps p.tables e below (s₁.setTop (mkF m 73 #[.val (.int (10 : Int32))] [])) _
    refine XS.iloadN X0.here hx rfl (hb hby d_method_2_code_73) rfl ?_
    show Steps p.tables e below (s₁.setTop (mkF m 74 #[.val (.int (10 : Int32))] [(.int (10 : Int32))])) _
    refine XT.bipushV X0.here hx rfl (8 : Int32) (hb hby d_method_2_code_74) (by decide) ?_
    show Steps p.tables e below (s₁.setTop (mkF m 76 #[.val (.int (10 : Int32))] [(.int (8 : Int32)), (.int (10 : Int32))])) _
    refine XS.icmpYes X0.here hx rfl (pc0 := 76) (pc' := 83) rfl (hb hby d_method_2_code_76) rfl (by decide) (by decide) (by decide) ?_
    show Steps p.tables e below (s₁.setTop (mkF m 83 #[.val (.int (10 : Int32))] [])) _
    refine XS.iloadN X0.here hx rfl (hb hby d_method_2_code_83) rfl ?_
    show Steps p.tables e below (s₁.setTop (mkF m 84 #[.val (.int (10 : Int32))] [(.int (10 : Int32))])) _
    refine XT.bipushV X0.here hx rfl (9 : Int32) (hb hby d_method_2_code_84) (by decide) ?_
    show Steps p.tables e below (s₁.setTop (mkF m 86 #[.val (.int (10 : Int32))] [(.int (9 : Int32)), (.int (10 : Int32))])) _
    refine XS.icmpYes X0.here hx rfl (pc0 := 86) (pc' := 93) rfl (hb hby d_method_2_code_86) rfl (by decide) (by decide) (by decide) ?_
    show Steps p.tables e below (s₁.setTop (mkF m 93 #[.val (.int (10 : Int32))] [])) _
    refine XS.iloadN X0.here hx rfl (hb hby d_method_2_code_93) rfl ?_
    show Steps p.tables e below (s₁.setTop (mkF m 94 #[.val (.int (10 : Int32))] [(.int (10 : Int32))])) _
    refine XT.bipushV X0.here hx rfl (10 : Int32) (hb hby d_method_2_code_94) (by decide) ?_
    show Steps p.tables e below (s₁.setTop (mkF m 96 #[.val (.int (10 : Int32))] [(.int (10 : Int32)), (.int (10 : Int32))])) _
    refine XS.icmpNo X0.here hx rfl (hb hby d_method_2_code_96) rfl (by decide) ?_
    show Steps p.tables e below (s₁.setTop (mkF m 99 #[.val (.int (10 : Int32))] [])) _
    refine st11 _ ?_
    show Steps p.tables e below (T11.setTop (mkF m 102 #[.val (.int (10 : Int32))] [(.ref w10)])) _
    jvm_step X11.here [X11.here.top, hx, (hb hby d_method_2_code_102), X11.method', Bd.returns, Value.isRef, FieldType.isReference]
    first | (intro acts; rw [hr _ acts rfl rfl rfl]) | rw [hr _ _ rfl rfl rfl]
    exact Steps.refl _
  · show own_Q (some (.ref w10)) h0 n0 _ T11.heap _
    rw [e11]
    exact ⟨rfl, N0, rfl⟩
theorem d_method_2_code_103 : decode method_2_code 103 = .ok (.iload_n 0, 1) := by decide +kernel
theorem d_method_2_code_104 : decode method_2_code 104 = .ok (.bipush 11, 2) := by decide +kernel
theorem d_method_2_code_106 : decode method_2_code 106 = .ok (.if_icmp .ne 7, 3) := by decide +kernel
theorem d_method_2_code_109 : decode method_2_code 109 = .ok (.getstatic 43, 3) := by decide +kernel
theorem d_method_2_code_112 : decode method_2_code 112 = .ok (.areturn, 1) := by decide +kernel
set_option maxRecDepth 65536 in
set_option maxHeartbeats 40000000 in
theorem own_pick_11 (l : Launch) (Z : State) (a0 : Array Value) (hw : ∀ d ∈ tables_1, d.before a0 Z = true) (ws : List Jvm.Cond) (w0 w1 w2 w3 w4 w5 w6 w7 w8 w9 w10 w11 w12 : Addr) (h0 : Heap) (n0 : Nat) (Z0 : n0 ≤ h0.size) (P : own_P Z h0 w0 w1 w2 w3 w4 w5 w6 w7 w8 w9 w10 w11 w12) :
    MetFree l (⟨"com/example/recourse/recourse/CaseActionGivesAmountBackPinLaw", "pick", "(I)Lcom/example/recourse/recourse/CaseAction;"⟩ : MethodName) (head1 (Jvm.Cond.code (⟨"com/example/recourse/recourse/CaseActionGivesAmountBackPinLaw", "pick", "(I)Lcom/example/recourse/recourse/CaseAction;"⟩ : MethodName) method_2_code 1 (some (.object "com/example/recourse/recourse/CaseAction")) :: ws) ({ frames := 0, cells := 0, slots := 0, locals := 0 } : Room)) (fun a U => a = #[(.int (11 : Int32))] ∧ Z.Warmed39 U.vm ∧ U.heap = h0) (fun _ _ _ _ _ => True) (fun _ U o U' => ∃ v L, o = .returned v ∧ own_Q (some (.ref w7)) h0 n0 v U'.heap L ∧ FrameEnd U o U' L ({ frames := 0, cells := 0, slots := 0, locals := 0 } : Room).cells ({ frames := 0, cells := 0, slots := 0, locals := 0 } : Room).slots) := by
  refine MetFree.of_bodySF (plainFor_of_name pn_com_example_recourse_recourse_CaseActionGivesAmountBackPinLaw) hisR ?_
  intro p e s m args below meth c s₁ Bd hml0 hP hK
  obtain ⟨rfl, hZ, hh⟩ := hP
  have hx := Bd.exec
  have hby := Bd.bytes
  have hml : c.maxLocals = 1 := hml0
  have hown : s.vm.findClass "com/example/recourse/recourse/CaseActionGivesAmountBackPinLaw" = some m.cls := findClass_of_methodNamed Bd.named
  have hnm := (name_of_methodNamed Bd.named Bd.method).1
  have X0 : Stand p l e ({ frames := 0, cells := 0, slots := 0, locals := 0 } : Room) s m #[(.int (11 : Int32))] below meth c s₁ [] 0 0 := Stand.of_body Bd
  have e0 : s₁.heap = h0 := by rw [← hh, Bd.state]; rfl
  have N0 := Fr.nil n0
  have pre0 : ∀ t, Steps p.tables e below (s₁.setTop (mkF m 0 #[.val (.int (11 : Int32))] [])) t → Steps p.tables e below (s₁.setTop (entryFrame m #[(.int (11 : Int32))] 1)) t := fun t k => castTop (ef_method_2_code_I m (11 : Int32)) k
  have P0 := P; obtain ⟨S0, E0, F0_ordinal, S1, E1, F1_ordinal, S2, E2, F2_ordinal, S3, E3, F3_ordinal, S4, E4, F4_ordinal, S5, E5, F5_ordinal, S6, E6, F6_ordinal, S7, E7, F7_ordinal, S8, E8, F8_ordinal, S9, E9, F9_ordinal, S10, E10, F10_ordinal, S11, E11, F11_ordinal, S12, E12, F12_ordinal⟩ := P0
  obtain ⟨T12, X12, e12, st12⟩ := getS2 X0 hx hZ hown (host := "") (Or.inl (hw _ (List.mem_of_getElem? (i := 26) rfl))) Via.refl e0 S7 (g := (mkF m 109 #[.val (.int (11 : Int32))] [])) rfl (hb hby d_method_2_code_109)
  obtain ⟨fs, hr, hrun, hended, hW, hsame⟩ := X12.leave (v := some (.ref w7)) (fun h => by rw [Bd.returns] at h; cases h)
  refine ⟨_, _, pre0 _ ?_, hrun, hended, _, _, rfl, ?_, ⟨_, rfl⟩, hW, hsame.mono (by decide) (by decide)⟩
  · show Steps p.tables e below (s₁.setTop (mkF m 0 #[.val (.int (11 : Int32))] [])) _
    refine XS.iloadN X0.here hx rfl (hb hby d_method_2_code_0) rfl ?_
    show Steps p.tables e below (s₁.setTop (mkF m 1 #[.val (.int (11 : Int32))] [(.int (11 : Int32))])) _
    refine XS.ifYes X0.here hx rfl (pc0 := 1) (pc' := 8) rfl (hb hby d_method_2_code_1) rfl (by decide) (by decide) (by decide) ?_
    show Steps p.tables e below (s₁.setTop (mkF m 8 #[.val (.int (11 : Int32))] [])) _
    refine XS.iloadN X0.here hx rfl (hb hby d_method_2_code_8) rfl ?_
    show Steps p.tables e below (s₁.setTop (mkF m 9 #[.val (.int (11 : Int32))] [(.int (11 : Int32))])) _
    refine XT.iconstV X0.here hx rfl (1 : Int32) (hb hby d_method_2_code_9) rfl ?_
    show Steps p.tables e below (s₁.setTop (mkF m 10 #[.val (.int (11 : Int32))] [(.int (1 : Int32)), (.int (11 : Int32))])) _
    refine XS.icmpYes X0.here hx rfl (pc0 := 10) (pc' := 17) rfl (hb hby d_method_2_code_10) rfl (by decide) (by decide) (by decide) ?_
    show Steps p.tables e below (s₁.setTop (mkF m 17 #[.val (.int (11 : Int32))] [])) _
    refine XS.iloadN X0.here hx rfl (hb hby d_method_2_code_17) rfl ?_
    show Steps p.tables e below (s₁.setTop (mkF m 18 #[.val (.int (11 : Int32))] [(.int (11 : Int32))])) _
    refine XT.iconstV X0.here hx rfl (2 : Int32) (hb hby d_method_2_code_18) rfl ?_
    show Steps p.tables e below (s₁.setTop (mkF m 19 #[.val (.int (11 : Int32))] [(.int (2 : Int32)), (.int (11 : Int32))])) _
    refine XS.icmpYes X0.here hx rfl (pc0 := 19) (pc' := 26) rfl (hb hby d_method_2_code_19) rfl (by decide) (by decide) (by decide) ?_
    show Steps p.tables e below (s₁.setTop (mkF m 26 #[.val (.int (11 : Int32))] [])) _
    refine XS.iloadN X0.here hx rfl (hb hby d_method_2_code_26) rfl ?_
    show Steps p.tables e below (s₁.setTop (mkF m 27 #[.val (.int (11 : Int32))] [(.int (11 : Int32))])) _
    refine XT.iconstV X0.here hx rfl (3 : Int32) (hb hby d_method_2_code_27) rfl ?_
    show Steps p.tables e below (s₁.setTop (mkF m 28 #[.val (.int (11 : Int32))] [(.int (3 : Int32)), (.int (11 : Int32))])) _
    refine XS.icmpYes X0.here hx rfl (pc0 := 28) (pc' := 35) rfl (hb hby d_method_2_code_28) rfl (by decide) (by decide) (by decide) ?_
    show Steps p.tables e below (s₁.setTop (mkF m 35 #[.val (.int (11 : Int32))] [])) _
    refine XS.iloadN X0.here hx rfl (hb hby d_method_2_code_35) rfl ?_
    show Steps p.tables e below (s₁.setTop (mkF m 36 #[.val (.int (11 : Int32))] [(.int (11 : Int32))])) _
    refine XT.iconstV X0.here hx rfl (4 : Int32) (hb hby d_method_2_code_36) rfl ?_
    show Steps p.tables e below (s₁.setTop (mkF m 37 #[.val (.int (11 : Int32))] [(.int (4 : Int32)), (.int (11 : Int32))])) _
    refine XS.icmpYes X0.here hx rfl (pc0 := 37) (pc' := 44) rfl (hb hby d_method_2_code_37) rfl (by decide) (by decide) (by decide) ?_
    show Steps p.tables e below (s₁.setTop (mkF m 44 #[.val (.int (11 : Int32))] [])) _
    refine XS.iloadN X0.here hx rfl (hb hby d_method_2_code_44) rfl ?_
    show Steps p.tables e below (s₁.setTop (mkF m 45 #[.val (.int (11 : Int32))] [(.int (11 : Int32))])) _
    refine XT.iconstV X0.here hx rfl (5 : Int32) (hb hby d_method_2_code_45) rfl ?_
    show Steps p.tables e below (s₁.setTop (mkF m 46 #[.val (.int (11 : Int32))] [(.int (5 : Int32)), (.int (11 : Int32))])) _
    refine XS.icmpYes X0.here hx rfl (pc0 := 46) (pc' := 53) rfl (hb hby d_method_2_code_46) rfl (by decide) (by decide) (by decide) ?_
    show Steps p.tables e below (s₁.setTop (mkF m 53 #[.val (.int (11 : Int32))] [])) _
    refine XS.iloadN X0.here hx rfl (hb hby d_method_2_code_53) rfl ?_
    show Steps p.tables e below (s₁.setTop (mkF m 54 #[.val (.int (11 : Int32))] [(.int (11 : Int32))])) _
    refine XT.bipushV X0.here hx rfl (6 : Int32) (hb hby d_method_2_code_54) (by decide) ?_
    show Steps p.tables e below (s₁.setTop (mkF m 56 #[.val (.int (11 : Int32))] [(.int (6 : Int32)), (.int (11 : Int32))])) _
    refine XS.icmpYes X0.here hx rfl (pc0 := 56) (pc' := 63) rfl (hb hby d_method_2_code_56) rfl (by decide) (by decide) (by decide) ?_
    show Steps p.tables e below (s₁.setTop (mkF m 63 #[.val (.int (11 : Int32))] [])) _
    refine XS.iloadN X0.here hx rfl (hb hby d_method_2_code_63) rfl ?_
    show Steps p.tables e below (s₁.setTop (mkF m 64 #[.val (.int (11 : Int32))] [(.int (11 : Int32))])) _
    refine XT.bipushV X0.here hx rfl (7 : Int32) (hb hby d_method_2_code_64) (by decide) ?_
    show Steps p.tables e below (s₁.setTop (mkF m 66 #[.val (.int (11 : Int32))] [(.int (7 : Int32)), (.int (11 : Int32))])) _
    refine XS.icmpYes X0.here hx rfl (pc0 := 66) (pc' := 73) rfl (hb hby d_method_2_code_66) rfl (by decide) (by decide) (by decide) ?_
    show Steps p.tables e below (s₁.setTop (mkF m 73 #[.val (.int (11 : Int32))] [])) _
    refine XS.iloadN X0.here hx rfl (hb hby d_method_2_code_73) rfl ?_
    show Steps p.tables e below (s₁.setTop (mkF m 74 #[.val (.int (11 : Int32))] [(.int (11 : Int32))])) _
    refine XT.bipushV X0.here hx rfl (8 : Int32) (hb hby d_method_2_code_74) (by decide) ?_
    show Steps p.tables e below (s₁.setTop (mkF m 76 #[.val (.int (11 : Int32))] [(.int (8 : Int32)), (.int (11 : Int32))])) _
    refine XS.icmpYes X0.here hx rfl (pc0 := 76) (pc' := 83) rfl (hb hby d_method_2_code_76) rfl (by decide) (by decide) (by decide) ?_
    show Steps p.tables e below (s₁.setTop (mkF m 83 #[.val (.int (11 : Int32))] [])) _
    refine XS.iloadN X0.here hx rfl (hb hby d_method_2_code_83) rfl ?_
    show Steps p.tables e below (s₁.setTop (mkF m 84 #[.val (.int (11 : Int32))] [(.int (11 : Int32))])) _
    refine XT.bipushV X0.here hx rfl (9 : Int32) (hb hby d_method_2_code_84) (by decide) ?_
    show Steps p.tables e below (s₁.setTop (mkF m 86 #[.val (.int (11 : Int32))] [(.int (9 : Int32)), (.int (11 : Int32))])) _
    refine XS.icmpYes X0.here hx rfl (pc0 := 86) (pc' := 93) rfl (hb hby d_method_2_code_86) rfl (by decide) (by decide) (by decide) ?_
    show Steps p.tables e below (s₁.setTop (mkF m 93 #[.val (.int (11 : Int32))] [])) _
    refine XS.iloadN X0.here hx rfl (hb hby d_method_2_code_93) rfl ?_
    show Steps p.tables e below (s₁.setTop (mkF m 94 #[.val (.int (11 : Int32))] [(.int (11 : Int32))])) _
    refine XT.bipushV X0.here hx rfl (10 : Int32) (hb hby d_method_2_code_94) (by decide) ?_
    show Steps p.tables e below (s₁.setTop (mkF m 96 #[.val (.int (11 : Int32))] [(.int (10 : Int32)), (.int (11 : Int32))])) _
    refine XS.icmpYes X0.here hx rfl (pc0 := 96) (pc' := 103) rfl (hb hby d_method_2_code_96) rfl (by decide) (by decide) (by decide) ?_
    show Steps p.tables e below (s₁.setTop (mkF m 103 #[.val (.int (11 : Int32))] [])) _
    refine XS.iloadN X0.here hx rfl (hb hby d_method_2_code_103) rfl ?_
    show Steps p.tables e below (s₁.setTop (mkF m 104 #[.val (.int (11 : Int32))] [(.int (11 : Int32))])) _
    refine XT.bipushV X0.here hx rfl (11 : Int32) (hb hby d_method_2_code_104) (by decide) ?_
    show Steps p.tables e below (s₁.setTop (mkF m 106 #[.val (.int (11 : Int32))] [(.int (11 : Int32)), (.int (11 : Int32))])) _
    refine XS.icmpNo X0.here hx rfl (hb hby d_method_2_code_106) rfl (by decide) ?_
    show Steps p.tables e below (s₁.setTop (mkF m 109 #[.val (.int (11 : Int32))] [])) _
    refine st12 _ ?_
    show Steps p.tables e below (T12.setTop (mkF m 112 #[.val (.int (11 : Int32))] [(.ref w7)])) _
    jvm_step X12.here [X12.here.top, hx, (hb hby d_method_2_code_112), X12.method', Bd.returns, Value.isRef, FieldType.isReference]
    first | (intro acts; rw [hr _ acts rfl rfl rfl]) | rw [hr _ _ rfl rfl rfl]
    exact Steps.refl _
  · show own_Q (some (.ref w7)) h0 n0 _ T12.heap _
    rw [e12]
    exact ⟨rfl, N0, rfl⟩
theorem d_method_2_code_113 : decode method_2_code 113 = .ok (.getstatic 46, 3) := by decide +kernel
theorem d_method_2_code_116 : decode method_2_code 116 = .ok (.areturn, 1) := by decide +kernel
set_option maxRecDepth 65536 in
set_option maxHeartbeats 40000000 in
theorem own_pick_12 (l : Launch) (Z : State) (a0 : Array Value) (hw : ∀ d ∈ tables_1, d.before a0 Z = true) (ws : List Jvm.Cond) (w0 w1 w2 w3 w4 w5 w6 w7 w8 w9 w10 w11 w12 : Addr) (h0 : Heap) (n0 : Nat) (Z0 : n0 ≤ h0.size) (P : own_P Z h0 w0 w1 w2 w3 w4 w5 w6 w7 w8 w9 w10 w11 w12) :
    MetFree l (⟨"com/example/recourse/recourse/CaseActionGivesAmountBackPinLaw", "pick", "(I)Lcom/example/recourse/recourse/CaseAction;"⟩ : MethodName) (head1 (Jvm.Cond.code (⟨"com/example/recourse/recourse/CaseActionGivesAmountBackPinLaw", "pick", "(I)Lcom/example/recourse/recourse/CaseAction;"⟩ : MethodName) method_2_code 1 (some (.object "com/example/recourse/recourse/CaseAction")) :: ws) ({ frames := 0, cells := 0, slots := 0, locals := 0 } : Room)) (fun a U => a = #[(.int (12 : Int32))] ∧ Z.Warmed39 U.vm ∧ U.heap = h0) (fun _ _ _ _ _ => True) (fun _ U o U' => ∃ v L, o = .returned v ∧ own_Q (some (.ref w11)) h0 n0 v U'.heap L ∧ FrameEnd U o U' L ({ frames := 0, cells := 0, slots := 0, locals := 0 } : Room).cells ({ frames := 0, cells := 0, slots := 0, locals := 0 } : Room).slots) := by
  refine MetFree.of_bodySF (plainFor_of_name pn_com_example_recourse_recourse_CaseActionGivesAmountBackPinLaw) hisR ?_
  intro p e s m args below meth c s₁ Bd hml0 hP hK
  obtain ⟨rfl, hZ, hh⟩ := hP
  have hx := Bd.exec
  have hby := Bd.bytes
  have hml : c.maxLocals = 1 := hml0
  have hown : s.vm.findClass "com/example/recourse/recourse/CaseActionGivesAmountBackPinLaw" = some m.cls := findClass_of_methodNamed Bd.named
  have hnm := (name_of_methodNamed Bd.named Bd.method).1
  have X0 : Stand p l e ({ frames := 0, cells := 0, slots := 0, locals := 0 } : Room) s m #[(.int (12 : Int32))] below meth c s₁ [] 0 0 := Stand.of_body Bd
  have e0 : s₁.heap = h0 := by rw [← hh, Bd.state]; rfl
  have N0 := Fr.nil n0
  have pre0 : ∀ t, Steps p.tables e below (s₁.setTop (mkF m 0 #[.val (.int (12 : Int32))] [])) t → Steps p.tables e below (s₁.setTop (entryFrame m #[(.int (12 : Int32))] 1)) t := fun t k => castTop (ef_method_2_code_I m (12 : Int32)) k
  have P0 := P; obtain ⟨S0, E0, F0_ordinal, S1, E1, F1_ordinal, S2, E2, F2_ordinal, S3, E3, F3_ordinal, S4, E4, F4_ordinal, S5, E5, F5_ordinal, S6, E6, F6_ordinal, S7, E7, F7_ordinal, S8, E8, F8_ordinal, S9, E9, F9_ordinal, S10, E10, F10_ordinal, S11, E11, F11_ordinal, S12, E12, F12_ordinal⟩ := P0
  obtain ⟨T13, X13, e13, st13⟩ := getS2 X0 hx hZ hown (host := "") (Or.inl (hw _ (List.mem_of_getElem? (i := 34) rfl))) Via.refl e0 S11 (g := (mkF m 113 #[.val (.int (12 : Int32))] [])) rfl (hb hby d_method_2_code_113)
  obtain ⟨fs, hr, hrun, hended, hW, hsame⟩ := X13.leave (v := some (.ref w11)) (fun h => by rw [Bd.returns] at h; cases h)
  refine ⟨_, _, pre0 _ ?_, hrun, hended, _, _, rfl, ?_, ⟨_, rfl⟩, hW, hsame.mono (by decide) (by decide)⟩
  · show Steps p.tables e below (s₁.setTop (mkF m 0 #[.val (.int (12 : Int32))] [])) _
    refine XS.iloadN X0.here hx rfl (hb hby d_method_2_code_0) rfl ?_
    show Steps p.tables e below (s₁.setTop (mkF m 1 #[.val (.int (12 : Int32))] [(.int (12 : Int32))])) _
    refine XS.ifYes X0.here hx rfl (pc0 := 1) (pc' := 8) rfl (hb hby d_method_2_code_1) rfl (by decide) (by decide) (by decide) ?_
    show Steps p.tables e below (s₁.setTop (mkF m 8 #[.val (.int (12 : Int32))] [])) _
    refine XS.iloadN X0.here hx rfl (hb hby d_method_2_code_8) rfl ?_
    show Steps p.tables e below (s₁.setTop (mkF m 9 #[.val (.int (12 : Int32))] [(.int (12 : Int32))])) _
    refine XT.iconstV X0.here hx rfl (1 : Int32) (hb hby d_method_2_code_9) rfl ?_
    show Steps p.tables e below (s₁.setTop (mkF m 10 #[.val (.int (12 : Int32))] [(.int (1 : Int32)), (.int (12 : Int32))])) _
    refine XS.icmpYes X0.here hx rfl (pc0 := 10) (pc' := 17) rfl (hb hby d_method_2_code_10) rfl (by decide) (by decide) (by decide) ?_
    show Steps p.tables e below (s₁.setTop (mkF m 17 #[.val (.int (12 : Int32))] [])) _
    refine XS.iloadN X0.here hx rfl (hb hby d_method_2_code_17) rfl ?_
    show Steps p.tables e below (s₁.setTop (mkF m 18 #[.val (.int (12 : Int32))] [(.int (12 : Int32))])) _
    refine XT.iconstV X0.here hx rfl (2 : Int32) (hb hby d_method_2_code_18) rfl ?_
    show Steps p.tables e below (s₁.setTop (mkF m 19 #[.val (.int (12 : Int32))] [(.int (2 : Int32)), (.int (12 : Int32))])) _
    refine XS.icmpYes X0.here hx rfl (pc0 := 19) (pc' := 26) rfl (hb hby d_method_2_code_19) rfl (by decide) (by decide) (by decide) ?_
    show Steps p.tables e below (s₁.setTop (mkF m 26 #[.val (.int (12 : Int32))] [])) _
    refine XS.iloadN X0.here hx rfl (hb hby d_method_2_code_26) rfl ?_
    show Steps p.tables e below (s₁.setTop (mkF m 27 #[.val (.int (12 : Int32))] [(.int (12 : Int32))])) _
    refine XT.iconstV X0.here hx rfl (3 : Int32) (hb hby d_method_2_code_27) rfl ?_
    show Steps p.tables e below (s₁.setTop (mkF m 28 #[.val (.int (12 : Int32))] [(.int (3 : Int32)), (.int (12 : Int32))])) _
    refine XS.icmpYes X0.here hx rfl (pc0 := 28) (pc' := 35) rfl (hb hby d_method_2_code_28) rfl (by decide) (by decide) (by decide) ?_
    show Steps p.tables e below (s₁.setTop (mkF m 35 #[.val (.int (12 : Int32))] [])) _
    refine XS.iloadN X0.here hx rfl (hb hby d_method_2_code_35) rfl ?_
    show Steps p.tables e below (s₁.setTop (mkF m 36 #[.val (.int (12 : Int32))] [(.int (12 : Int32))])) _
    refine XT.iconstV X0.here hx rfl (4 : Int32) (hb hby d_method_2_code_36) rfl ?_
    show Steps p.tables e below (s₁.setTop (mkF m 37 #[.val (.int (12 : Int32))] [(.int (4 : Int32)), (.int (12 : Int32))])) _
    refine XS.icmpYes X0.here hx rfl (pc0 := 37) (pc' := 44) rfl (hb hby d_method_2_code_37) rfl (by decide) (by decide) (by decide) ?_
    show Steps p.tables e below (s₁.setTop (mkF m 44 #[.val (.int (12 : Int32))] [])) _
    refine XS.iloadN X0.here hx rfl (hb hby d_method_2_code_44) rfl ?_
    show Steps p.tables e below (s₁.setTop (mkF m 45 #[.val (.int (12 : Int32))] [(.int (12 : Int32))])) _
    refine XT.iconstV X0.here hx rfl (5 : Int32) (hb hby d_method_2_code_45) rfl ?_
    show Steps p.tables e below (s₁.setTop (mkF m 46 #[.val (.int (12 : Int32))] [(.int (5 : Int32)), (.int (12 : Int32))])) _
    refine XS.icmpYes X0.here hx rfl (pc0 := 46) (pc' := 53) rfl (hb hby d_method_2_code_46) rfl (by decide) (by decide) (by decide) ?_
    show Steps p.tables e below (s₁.setTop (mkF m 53 #[.val (.int (12 : Int32))] [])) _
    refine XS.iloadN X0.here hx rfl (hb hby d_method_2_code_53) rfl ?_
    show Steps p.tables e below (s₁.setTop (mkF m 54 #[.val (.int (12 : Int32))] [(.int (12 : Int32))])) _
    refine XT.bipushV X0.here hx rfl (6 : Int32) (hb hby d_method_2_code_54) (by decide) ?_
    show Steps p.tables e below (s₁.setTop (mkF m 56 #[.val (.int (12 : Int32))] [(.int (6 : Int32)), (.int (12 : Int32))])) _
    refine XS.icmpYes X0.here hx rfl (pc0 := 56) (pc' := 63) rfl (hb hby d_method_2_code_56) rfl (by decide) (by decide) (by decide) ?_
    show Steps p.tables e below (s₁.setTop (mkF m 63 #[.val (.int (12 : Int32))] [])) _
    refine XS.iloadN X0.here hx rfl (hb hby d_method_2_code_63) rfl ?_
    show Steps p.tables e below (s₁.setTop (mkF m 64 #[.val (.int (12 : Int32))] [(.int (12 : Int32))])) _
    refine XT.bipushV X0.here hx rfl (7 : Int32) (hb hby d_method_2_code_64) (by decide) ?_
    show Steps p.tables e below (s₁.setTop (mkF m 66 #[.val (.int (12 : Int32))] [(.int (7 : Int32)), (.int (12 : Int32))])) _
    refine XS.icmpYes X0.here hx rfl (pc0 := 66) (pc' := 73) rfl (hb hby d_method_2_code_66) rfl (by decide) (by decide) (by decide) ?_
    show Steps p.tables e below (s₁.setTop (mkF m 73 #[.val (.int (12 : Int32))] [])) _
    refine XS.iloadN X0.here hx rfl (hb hby d_method_2_code_73) rfl ?_
    show Steps p.tables e below (s₁.setTop (mkF m 74 #[.val (.int (12 : Int32))] [(.int (12 : Int32))])) _
    refine XT.bipushV X0.here hx rfl (8 : Int32) (hb hby d_method_2_code_74) (by decide) ?_
    show Steps p.tables e below (s₁.setTop (mkF m 76 #[.val (.int (12 : Int32))] [(.int (8 : Int32)), (.int (12 : Int32))])) _
    refine XS.icmpYes X0.here hx rfl (pc0 := 76) (pc' := 83) rfl (hb hby d_method_2_code_76) rfl (by decide) (by decide) (by decide) ?_
    show Steps p.tables e below (s₁.setTop (mkF m 83 #[.val (.int (12 : Int32))] [])) _
    refine XS.iloadN X0.here hx rfl (hb hby d_method_2_code_83) rfl ?_
    show Steps p.tables e below (s₁.setTop (mkF m 84 #[.val (.int (12 : Int32))] [(.int (12 : Int32))])) _
    refine XT.bipushV X0.here hx rfl (9 : Int32) (hb hby d_method_2_code_84) (by decide) ?_
    show Steps p.tables e below (s₁.setTop (mkF m 86 #[.val (.int (12 : Int32))] [(.int (9 : Int32)), (.int (12 : Int32))])) _
    refine XS.icmpYes X0.here hx rfl (pc0 := 86) (pc' := 93) rfl (hb hby d_method_2_code_86) rfl (by decide) (by decide) (by decide) ?_
    show Steps p.tables e below (s₁.setTop (mkF m 93 #[.val (.int (12 : Int32))] [])) _
    refine XS.iloadN X0.here hx rfl (hb hby d_method_2_code_93) rfl ?_
    show Steps p.tables e below (s₁.setTop (mkF m 94 #[.val (.int (12 : Int32))] [(.int (12 : Int32))])) _
    refine XT.bipushV X0.here hx rfl (10 : Int32) (hb hby d_method_2_code_94) (by decide) ?_
    show Steps p.tables e below (s₁.setTop (mkF m 96 #[.val (.int (12 : Int32))] [(.int (10 : Int32)), (.int (12 : Int32))])) _
    refine XS.icmpYes X0.here hx rfl (pc0 := 96) (pc' := 103) rfl (hb hby d_method_2_code_96) rfl (by decide) (by decide) (by decide) ?_
    show Steps p.tables e below (s₁.setTop (mkF m 103 #[.val (.int (12 : Int32))] [])) _
    refine XS.iloadN X0.here hx rfl (hb hby d_method_2_code_103) rfl ?_
    show Steps p.tables e below (s₁.setTop (mkF m 104 #[.val (.int (12 : Int32))] [(.int (12 : Int32))])) _
    refine XT.bipushV X0.here hx rfl (11 : Int32) (hb hby d_method_2_code_104) (by decide) ?_
    show Steps p.tables e below (s₁.setTop (mkF m 106 #[.val (.int (12 : Int32))] [(.int (11 : Int32)), (.int (12 : Int32))])) _
    refine XS.icmpYes X0.here hx rfl (pc0 := 106) (pc' := 113) rfl (hb hby d_method_2_code_106) rfl (by decide) (by decide) (by decide) ?_
    show Steps p.tables e below (s₁.setTop (mkF m 113 #[.val (.int (12 : Int32))] [])) _
    refine st13 _ ?_
    show Steps p.tables e below (T13.setTop (mkF m 116 #[.val (.int (12 : Int32))] [(.ref w11)])) _
    jvm_step X13.here [X13.here.top, hx, (hb hby d_method_2_code_116), X13.method', Bd.returns, Value.isRef, FieldType.isReference]
    first | (intro acts; rw [hr _ acts rfl rfl rfl]) | rw [hr _ _ rfl rfl rfl]
    exact Steps.refl _
  · show own_Q (some (.ref w11)) h0 n0 _ T13.heap _
    rw [e13]
    exact ⟨rfl, N0, rfl⟩
theorem d_prog_9_method_5_code_0 : decode prog_9_method_5_code 0 = .ok (.aload_n 0, 1) := by decide +kernel
theorem d_prog_9_method_5_code_1 : decode prog_9_method_5_code 1 = .ok (.getstatic 25, 3) := by decide +kernel
theorem d_prog_9_method_5_code_4 : decode prog_9_method_5_code 4 = .ok (.if_acmp .ne 7, 3) := by decide +kernel
theorem d_prog_9_method_5_code_11 : decode prog_9_method_5_code 11 = .ok (.iconst 0, 1) := by decide +kernel
theorem d_prog_9_method_5_code_12 : decode prog_9_method_5_code 12 = .ok (.ireturn, 1) := by decide +kernel
theorem ef_prog_9_method_5_code_A (m : MethodId) (x0 : Addr) : entryFrame m #[(.ref x0)] 1 = mkF m 0 #[.val (.ref x0)] [] := by first | (simp [entryFrame, mkF, argsToLocals, Value.category]; done) | rfl
theorem pn_com_example_recourse_recourse_CaseAction : plainName "com/example/recourse/recourse/CaseAction" = true := by first | (simp [plainName, overriddenIn]; done) | decide +kernel
set_option maxRecDepth 65536 in
set_option maxHeartbeats 40000000 in
theorem own_givesAmountBack_0 (l : Launch) (Z : State) (a0 : Array Value) (hw : ∀ d ∈ tables_1, d.before a0 Z = true) (ws : List Jvm.Cond) (w0 w1 w2 w3 w4 w5 w6 w7 w8 w9 w10 w11 w12 : Addr) (h0 : Heap) (n0 : Nat) (Z0 : n0 ≤ h0.size) (P : own_P Z h0 w0 w1 w2 w3 w4 w5 w6 w7 w8 w9 w10 w11 w12) :
    MetFree l (⟨"com/example/recourse/recourse/CaseAction", "givesAmountBack", "()Z"⟩ : MethodName) (head1 (Jvm.Cond.code (⟨"com/example/recourse/recourse/CaseAction", "givesAmountBack", "()Z"⟩ : MethodName) prog_9_method_5_code 1 (some .boolean) :: ws) ({ frames := 0, cells := 0, slots := 0, locals := 0 } : Room)) (fun a U => a = #[(.ref w0)] ∧ Z.Warmed39 U.vm ∧ U.heap = h0) (fun _ _ _ _ _ => True) (fun _ U o U' => ∃ v L, o = .returned v ∧ own_Q (some (.int (0 : Int32))) h0 n0 v U'.heap L ∧ FrameEnd U o U' L ({ frames := 0, cells := 0, slots := 0, locals := 0 } : Room).cells ({ frames := 0, cells := 0, slots := 0, locals := 0 } : Room).slots) := by
  refine MetFree.of_bodySF (plainFor_of_name pn_com_example_recourse_recourse_CaseAction) hisR ?_
  intro p e s m args below meth c s₁ Bd hml0 hP hK
  obtain ⟨rfl, hZ, hh⟩ := hP
  have hx := Bd.exec
  have hby := Bd.bytes
  have hml : c.maxLocals = 1 := hml0
  have hown : s.vm.findClass "com/example/recourse/recourse/CaseAction" = some m.cls := findClass_of_methodNamed Bd.named
  have hnm := (name_of_methodNamed Bd.named Bd.method).1
  have X0 : Stand p l e ({ frames := 0, cells := 0, slots := 0, locals := 0 } : Room) s m #[(.ref w0)] below meth c s₁ [] 0 0 := Stand.of_body Bd
  have e0 : s₁.heap = h0 := by rw [← hh, Bd.state]; rfl
  have N0 := Fr.nil n0
  have pre0 : ∀ t, Steps p.tables e below (s₁.setTop (mkF m 0 #[.val (.ref w0)] [])) t → Steps p.tables e below (s₁.setTop (entryFrame m #[(.ref w0)] 1)) t := fun t k => castTop (ef_prog_9_method_5_code_A m w0) k
  have P0 := P; obtain ⟨S0, E0, F0_ordinal, S1, E1, F1_ordinal, S2, E2, F2_ordinal, S3, E3, F3_ordinal, S4, E4, F4_ordinal, S5, E5, F5_ordinal, S6, E6, F6_ordinal, S7, E7, F7_ordinal, S8, E8, F8_ordinal, S9, E9, F9_ordinal, S10, E10, F10_ordinal, S11, E11, F11_ordinal, S12, E12, F12_ordinal⟩ := P0
  obtain ⟨T14, X14, e14, st14⟩ := getS2 X0 hx hZ hown (host := "") (Or.inl (hw _ (List.mem_of_getElem? (i := 13) rfl))) Via.refl e0 S1 (g := (mkF m 1 #[.val (.ref w0)] [(.ref w0)])) rfl (hb hby d_prog_9_method_5_code_1)
  obtain ⟨fs, hr, hrun, hended, hW, hsame⟩ := X14.leave (v := some (.int (0 : Int32))) (fun h => by rw [Bd.returns] at h; cases h)
  refine ⟨_, _, pre0 _ ?_, hrun, hended, _, _, rfl, ?_, ⟨_, rfl⟩, hW, hsame.mono (by decide) (by decide)⟩
  · show Steps p.tables e below (s₁.setTop (mkF m 0 #[.val (.ref w0)] [])) _
    refine XS.aloadN X0.here hx rfl (hb hby d_prog_9_method_5_code_0) rfl rfl ?_
    show Steps p.tables e below (s₁.setTop (mkF m 1 #[.val (.ref w0)] [(.ref w0)])) _
    refine st14 _ ?_
    show Steps p.tables e below (T14.setTop (mkF m 4 #[.val (.ref w0)] [(.ref w1), (.ref w0)])) _
    refine Jvm.RoadKit.acmp (g := (mkF m 4 #[.val (.ref w0)] [(.ref w1), (.ref w0)])) X14 hx rfl rfl rfl (pc0 := 4) (pc' := 11) (same := false) rfl (hb hby d_prog_9_method_5_code_4) rfl (decide_eq_false (fun q => (F0_ordinal.ne F1_ordinal (by decide)) (Value.ref.inj q))) (by decide) (by decide) ?_
    show Steps p.tables e below (T14.setTop (mkF m 11 #[.val (.ref w0)] [])) _
    refine XT.iconstV X14.here hx rfl (0 : Int32) (hb hby d_prog_9_method_5_code_11) rfl ?_
    show Steps p.tables e below (T14.setTop (mkF m 12 #[.val (.ref w0)] [(.int (0 : Int32))])) _
    exact retN X14 hx (t := .boolean) Bd.returns (by simp) (hb hby d_prog_9_method_5_code_12) hr
  · show own_Q (some (.int (0 : Int32))) h0 n0 _ T14.heap _
    rw [e14]
    exact ⟨rfl, N0, rfl⟩
theorem d_prog_9_method_5_code_7 : decode prog_9_method_5_code 7 = .ok (.iconst 1, 1) := by decide +kernel
theorem d_prog_9_method_5_code_8 : decode prog_9_method_5_code 8 = .ok (.goto 4, 3) := by decide +kernel
set_option maxRecDepth 65536 in
set_option maxHeartbeats 40000000 in
theorem own_givesAmountBack_1 (l : Launch) (Z : State) (a0 : Array Value) (hw : ∀ d ∈ tables_1, d.before a0 Z = true) (ws : List Jvm.Cond) (w0 w1 w2 w3 w4 w5 w6 w7 w8 w9 w10 w11 w12 : Addr) (h0 : Heap) (n0 : Nat) (Z0 : n0 ≤ h0.size) (P : own_P Z h0 w0 w1 w2 w3 w4 w5 w6 w7 w8 w9 w10 w11 w12) :
    MetFree l (⟨"com/example/recourse/recourse/CaseAction", "givesAmountBack", "()Z"⟩ : MethodName) (head1 (Jvm.Cond.code (⟨"com/example/recourse/recourse/CaseAction", "givesAmountBack", "()Z"⟩ : MethodName) prog_9_method_5_code 1 (some .boolean) :: ws) ({ frames := 0, cells := 0, slots := 0, locals := 0 } : Room)) (fun a U => a = #[(.ref w1)] ∧ Z.Warmed39 U.vm ∧ U.heap = h0) (fun _ _ _ _ _ => True) (fun _ U o U' => ∃ v L, o = .returned v ∧ own_Q (some (.int (1 : Int32))) h0 n0 v U'.heap L ∧ FrameEnd U o U' L ({ frames := 0, cells := 0, slots := 0, locals := 0 } : Room).cells ({ frames := 0, cells := 0, slots := 0, locals := 0 } : Room).slots) := by
  refine MetFree.of_bodySF (plainFor_of_name pn_com_example_recourse_recourse_CaseAction) hisR ?_
  intro p e s m args below meth c s₁ Bd hml0 hP hK
  obtain ⟨rfl, hZ, hh⟩ := hP
  have hx := Bd.exec
  have hby := Bd.bytes
  have hml : c.maxLocals = 1 := hml0
  have hown : s.vm.findClass "com/example/recourse/recourse/CaseAction" = some m.cls := findClass_of_methodNamed Bd.named
  have hnm := (name_of_methodNamed Bd.named Bd.method).1
  have X0 : Stand p l e ({ frames := 0, cells := 0, slots := 0, locals := 0 } : Room) s m #[(.ref w1)] below meth c s₁ [] 0 0 := Stand.of_body Bd
  have e0 : s₁.heap = h0 := by rw [← hh, Bd.state]; rfl
  have N0 := Fr.nil n0
  have pre0 : ∀ t, Steps p.tables e below (s₁.setTop (mkF m 0 #[.val (.ref w1)] [])) t → Steps p.tables e below (s₁.setTop (entryFrame m #[(.ref w1)] 1)) t := fun t k => castTop (ef_prog_9_method_5_code_A m w1) k
  have P0 := P; obtain ⟨S0, E0, F0_ordinal, S1, E1, F1_ordinal, S2, E2, F2_ordinal, S3, E3, F3_ordinal, S4, E4, F4_ordinal, S5, E5, F5_ordinal, S6, E6, F6_ordinal, S7, E7, F7_ordinal, S8, E8, F8_ordinal, S9, E9, F9_ordinal, S10, E10, F10_ordinal, S11, E11, F11_ordinal, S12, E12, F12_ordinal⟩ := P0
  obtain ⟨T15, X15, e15, st15⟩ := getS2 X0 hx hZ hown (host := "") (Or.inl (hw _ (List.mem_of_getElem? (i := 13) rfl))) Via.refl e0 S1 (g := (mkF m 1 #[.val (.ref w1)] [(.ref w1)])) rfl (hb hby d_prog_9_method_5_code_1)
  obtain ⟨fs, hr, hrun, hended, hW, hsame⟩ := X15.leave (v := some (.int (1 : Int32))) (fun h => by rw [Bd.returns] at h; cases h)
  refine ⟨_, _, pre0 _ ?_, hrun, hended, _, _, rfl, ?_, ⟨_, rfl⟩, hW, hsame.mono (by decide) (by decide)⟩
  · show Steps p.tables e below (s₁.setTop (mkF m 0 #[.val (.ref w1)] [])) _
    refine XS.aloadN X0.here hx rfl (hb hby d_prog_9_method_5_code_0) rfl rfl ?_
    show Steps p.tables e below (s₁.setTop (mkF m 1 #[.val (.ref w1)] [(.ref w1)])) _
    refine st15 _ ?_
    show Steps p.tables e below (T15.setTop (mkF m 4 #[.val (.ref w1)] [(.ref w1), (.ref w1)])) _
    refine Jvm.RoadKit.acmp (g := (mkF m 4 #[.val (.ref w1)] [(.ref w1), (.ref w1)])) X15 hx rfl rfl rfl (pc0 := 4) (pc' := 7) (same := true) rfl (hb hby d_prog_9_method_5_code_4) rfl (decide_eq_true rfl) (by decide) (by decide) ?_
    show Steps p.tables e below (T15.setTop (mkF m 7 #[.val (.ref w1)] [])) _
    refine XT.iconstV X15.here hx rfl (1 : Int32) (hb hby d_prog_9_method_5_code_7) rfl ?_
    show Steps p.tables e below (T15.setTop (mkF m 8 #[.val (.ref w1)] [(.int (1 : Int32))])) _
    refine XS.goto X15.here hx rfl (pc0 := 8) (pc' := 12) rfl (hb hby d_prog_9_method_5_code_8) (by decide) (by decide) ?_
    show Steps p.tables e below (T15.setTop (mkF m 12 #[.val (.ref w1)] [(.int (1 : Int32))])) _
    exact retN X15 hx (t := .boolean) Bd.returns (by simp) (hb hby d_prog_9_method_5_code_12) hr
  · show own_Q (some (.int (1 : Int32))) h0 n0 _ T15.heap _
    rw [e15]
    exact ⟨rfl, N0, rfl⟩
set_option maxRecDepth 65536 in
set_option maxHeartbeats 40000000 in
theorem own_givesAmountBack_2 (l : Launch) (Z : State) (a0 : Array Value) (hw : ∀ d ∈ tables_1, d.before a0 Z = true) (ws : List Jvm.Cond) (w0 w1 w2 w3 w4 w5 w6 w7 w8 w9 w10 w11 w12 : Addr) (h0 : Heap) (n0 : Nat) (Z0 : n0 ≤ h0.size) (P : own_P Z h0 w0 w1 w2 w3 w4 w5 w6 w7 w8 w9 w10 w11 w12) :
    MetFree l (⟨"com/example/recourse/recourse/CaseAction", "givesAmountBack", "()Z"⟩ : MethodName) (head1 (Jvm.Cond.code (⟨"com/example/recourse/recourse/CaseAction", "givesAmountBack", "()Z"⟩ : MethodName) prog_9_method_5_code 1 (some .boolean) :: ws) ({ frames := 0, cells := 0, slots := 0, locals := 0 } : Room)) (fun a U => a = #[(.ref w2)] ∧ Z.Warmed39 U.vm ∧ U.heap = h0) (fun _ _ _ _ _ => True) (fun _ U o U' => ∃ v L, o = .returned v ∧ own_Q (some (.int (0 : Int32))) h0 n0 v U'.heap L ∧ FrameEnd U o U' L ({ frames := 0, cells := 0, slots := 0, locals := 0 } : Room).cells ({ frames := 0, cells := 0, slots := 0, locals := 0 } : Room).slots) := by
  refine MetFree.of_bodySF (plainFor_of_name pn_com_example_recourse_recourse_CaseAction) hisR ?_
  intro p e s m args below meth c s₁ Bd hml0 hP hK
  obtain ⟨rfl, hZ, hh⟩ := hP
  have hx := Bd.exec
  have hby := Bd.bytes
  have hml : c.maxLocals = 1 := hml0
  have hown : s.vm.findClass "com/example/recourse/recourse/CaseAction" = some m.cls := findClass_of_methodNamed Bd.named
  have hnm := (name_of_methodNamed Bd.named Bd.method).1
  have X0 : Stand p l e ({ frames := 0, cells := 0, slots := 0, locals := 0 } : Room) s m #[(.ref w2)] below meth c s₁ [] 0 0 := Stand.of_body Bd
  have e0 : s₁.heap = h0 := by rw [← hh, Bd.state]; rfl
  have N0 := Fr.nil n0
  have pre0 : ∀ t, Steps p.tables e below (s₁.setTop (mkF m 0 #[.val (.ref w2)] [])) t → Steps p.tables e below (s₁.setTop (entryFrame m #[(.ref w2)] 1)) t := fun t k => castTop (ef_prog_9_method_5_code_A m w2) k
  have P0 := P; obtain ⟨S0, E0, F0_ordinal, S1, E1, F1_ordinal, S2, E2, F2_ordinal, S3, E3, F3_ordinal, S4, E4, F4_ordinal, S5, E5, F5_ordinal, S6, E6, F6_ordinal, S7, E7, F7_ordinal, S8, E8, F8_ordinal, S9, E9, F9_ordinal, S10, E10, F10_ordinal, S11, E11, F11_ordinal, S12, E12, F12_ordinal⟩ := P0
  obtain ⟨T16, X16, e16, st16⟩ := getS2 X0 hx hZ hown (host := "") (Or.inl (hw _ (List.mem_of_getElem? (i := 13) rfl))) Via.refl e0 S1 (g := (mkF m 1 #[.val (.ref w2)] [(.ref w2)])) rfl (hb hby d_prog_9_method_5_code_1)
  obtain ⟨fs, hr, hrun, hended, hW, hsame⟩ := X16.leave (v := some (.int (0 : Int32))) (fun h => by rw [Bd.returns] at h; cases h)
  refine ⟨_, _, pre0 _ ?_, hrun, hended, _, _, rfl, ?_, ⟨_, rfl⟩, hW, hsame.mono (by decide) (by decide)⟩
  · show Steps p.tables e below (s₁.setTop (mkF m 0 #[.val (.ref w2)] [])) _
    refine XS.aloadN X0.here hx rfl (hb hby d_prog_9_method_5_code_0) rfl rfl ?_
    show Steps p.tables e below (s₁.setTop (mkF m 1 #[.val (.ref w2)] [(.ref w2)])) _
    refine st16 _ ?_
    show Steps p.tables e below (T16.setTop (mkF m 4 #[.val (.ref w2)] [(.ref w1), (.ref w2)])) _
    refine Jvm.RoadKit.acmp (g := (mkF m 4 #[.val (.ref w2)] [(.ref w1), (.ref w2)])) X16 hx rfl rfl rfl (pc0 := 4) (pc' := 11) (same := false) rfl (hb hby d_prog_9_method_5_code_4) rfl (decide_eq_false (fun q => (F2_ordinal.ne F1_ordinal (by decide)) (Value.ref.inj q))) (by decide) (by decide) ?_
    show Steps p.tables e below (T16.setTop (mkF m 11 #[.val (.ref w2)] [])) _
    refine XT.iconstV X16.here hx rfl (0 : Int32) (hb hby d_prog_9_method_5_code_11) rfl ?_
    show Steps p.tables e below (T16.setTop (mkF m 12 #[.val (.ref w2)] [(.int (0 : Int32))])) _
    exact retN X16 hx (t := .boolean) Bd.returns (by simp) (hb hby d_prog_9_method_5_code_12) hr
  · show own_Q (some (.int (0 : Int32))) h0 n0 _ T16.heap _
    rw [e16]
    exact ⟨rfl, N0, rfl⟩
set_option maxRecDepth 65536 in
set_option maxHeartbeats 40000000 in
theorem own_givesAmountBack_3 (l : Launch) (Z : State) (a0 : Array Value) (hw : ∀ d ∈ tables_1, d.before a0 Z = true) (ws : List Jvm.Cond) (w0 w1 w2 w3 w4 w5 w6 w7 w8 w9 w10 w11 w12 : Addr) (h0 : Heap) (n0 : Nat) (Z0 : n0 ≤ h0.size) (P : own_P Z h0 w0 w1 w2 w3 w4 w5 w6 w7 w8 w9 w10 w11 w12) :
    MetFree l (⟨"com/example/recourse/recourse/CaseAction", "givesAmountBack", "()Z"⟩ : MethodName) (head1 (Jvm.Cond.code (⟨"com/example/recourse/recourse/CaseAction", "givesAmountBack", "()Z"⟩ : MethodName) prog_9_method_5_code 1 (some .boolean) :: ws) ({ frames := 0, cells := 0, slots := 0, locals := 0 } : Room)) (fun a U => a = #[(.ref w3)] ∧ Z.Warmed39 U.vm ∧ U.heap = h0) (fun _ _ _ _ _ => True) (fun _ U o U' => ∃ v L, o = .returned v ∧ own_Q (some (.int (0 : Int32))) h0 n0 v U'.heap L ∧ FrameEnd U o U' L ({ frames := 0, cells := 0, slots := 0, locals := 0 } : Room).cells ({ frames := 0, cells := 0, slots := 0, locals := 0 } : Room).slots) := by
  refine MetFree.of_bodySF (plainFor_of_name pn_com_example_recourse_recourse_CaseAction) hisR ?_
  intro p e s m args below meth c s₁ Bd hml0 hP hK
  obtain ⟨rfl, hZ, hh⟩ := hP
  have hx := Bd.exec
  have hby := Bd.bytes
  have hml : c.maxLocals = 1 := hml0
  have hown : s.vm.findClass "com/example/recourse/recourse/CaseAction" = some m.cls := findClass_of_methodNamed Bd.named
  have hnm := (name_of_methodNamed Bd.named Bd.method).1
  have X0 : Stand p l e ({ frames := 0, cells := 0, slots := 0, locals := 0 } : Room) s m #[(.ref w3)] below meth c s₁ [] 0 0 := Stand.of_body Bd
  have e0 : s₁.heap = h0 := by rw [← hh, Bd.state]; rfl
  have N0 := Fr.nil n0
  have pre0 : ∀ t, Steps p.tables e below (s₁.setTop (mkF m 0 #[.val (.ref w3)] [])) t → Steps p.tables e below (s₁.setTop (entryFrame m #[(.ref w3)] 1)) t := fun t k => castTop (ef_prog_9_method_5_code_A m w3) k
  have P0 := P; obtain ⟨S0, E0, F0_ordinal, S1, E1, F1_ordinal, S2, E2, F2_ordinal, S3, E3, F3_ordinal, S4, E4, F4_ordinal, S5, E5, F5_ordinal, S6, E6, F6_ordinal, S7, E7, F7_ordinal, S8, E8, F8_ordinal, S9, E9, F9_ordinal, S10, E10, F10_ordinal, S11, E11, F11_ordinal, S12, E12, F12_ordinal⟩ := P0
  obtain ⟨T17, X17, e17, st17⟩ := getS2 X0 hx hZ hown (host := "") (Or.inl (hw _ (List.mem_of_getElem? (i := 13) rfl))) Via.refl e0 S1 (g := (mkF m 1 #[.val (.ref w3)] [(.ref w3)])) rfl (hb hby d_prog_9_method_5_code_1)
  obtain ⟨fs, hr, hrun, hended, hW, hsame⟩ := X17.leave (v := some (.int (0 : Int32))) (fun h => by rw [Bd.returns] at h; cases h)
  refine ⟨_, _, pre0 _ ?_, hrun, hended, _, _, rfl, ?_, ⟨_, rfl⟩, hW, hsame.mono (by decide) (by decide)⟩
  · show Steps p.tables e below (s₁.setTop (mkF m 0 #[.val (.ref w3)] [])) _
    refine XS.aloadN X0.here hx rfl (hb hby d_prog_9_method_5_code_0) rfl rfl ?_
    show Steps p.tables e below (s₁.setTop (mkF m 1 #[.val (.ref w3)] [(.ref w3)])) _
    refine st17 _ ?_
    show Steps p.tables e below (T17.setTop (mkF m 4 #[.val (.ref w3)] [(.ref w1), (.ref w3)])) _
    refine Jvm.RoadKit.acmp (g := (mkF m 4 #[.val (.ref w3)] [(.ref w1), (.ref w3)])) X17 hx rfl rfl rfl (pc0 := 4) (pc' := 11) (same := false) rfl (hb hby d_prog_9_method_5_code_4) rfl (decide_eq_false (fun q => (F3_ordinal.ne F1_ordinal (by decide)) (Value.ref.inj q))) (by decide) (by decide) ?_
    show Steps p.tables e below (T17.setTop (mkF m 11 #[.val (.ref w3)] [])) _
    refine XT.iconstV X17.here hx rfl (0 : Int32) (hb hby d_prog_9_method_5_code_11) rfl ?_
    show Steps p.tables e below (T17.setTop (mkF m 12 #[.val (.ref w3)] [(.int (0 : Int32))])) _
    exact retN X17 hx (t := .boolean) Bd.returns (by simp) (hb hby d_prog_9_method_5_code_12) hr
  · show own_Q (some (.int (0 : Int32))) h0 n0 _ T17.heap _
    rw [e17]
    exact ⟨rfl, N0, rfl⟩
set_option maxRecDepth 65536 in
set_option maxHeartbeats 40000000 in
theorem own_givesAmountBack_4 (l : Launch) (Z : State) (a0 : Array Value) (hw : ∀ d ∈ tables_1, d.before a0 Z = true) (ws : List Jvm.Cond) (w0 w1 w2 w3 w4 w5 w6 w7 w8 w9 w10 w11 w12 : Addr) (h0 : Heap) (n0 : Nat) (Z0 : n0 ≤ h0.size) (P : own_P Z h0 w0 w1 w2 w3 w4 w5 w6 w7 w8 w9 w10 w11 w12) :
    MetFree l (⟨"com/example/recourse/recourse/CaseAction", "givesAmountBack", "()Z"⟩ : MethodName) (head1 (Jvm.Cond.code (⟨"com/example/recourse/recourse/CaseAction", "givesAmountBack", "()Z"⟩ : MethodName) prog_9_method_5_code 1 (some .boolean) :: ws) ({ frames := 0, cells := 0, slots := 0, locals := 0 } : Room)) (fun a U => a = #[(.ref w4)] ∧ Z.Warmed39 U.vm ∧ U.heap = h0) (fun _ _ _ _ _ => True) (fun _ U o U' => ∃ v L, o = .returned v ∧ own_Q (some (.int (0 : Int32))) h0 n0 v U'.heap L ∧ FrameEnd U o U' L ({ frames := 0, cells := 0, slots := 0, locals := 0 } : Room).cells ({ frames := 0, cells := 0, slots := 0, locals := 0 } : Room).slots) := by
  refine MetFree.of_bodySF (plainFor_of_name pn_com_example_recourse_recourse_CaseAction) hisR ?_
  intro p e s m args below meth c s₁ Bd hml0 hP hK
  obtain ⟨rfl, hZ, hh⟩ := hP
  have hx := Bd.exec
  have hby := Bd.bytes
  have hml : c.maxLocals = 1 := hml0
  have hown : s.vm.findClass "com/example/recourse/recourse/CaseAction" = some m.cls := findClass_of_methodNamed Bd.named
  have hnm := (name_of_methodNamed Bd.named Bd.method).1
  have X0 : Stand p l e ({ frames := 0, cells := 0, slots := 0, locals := 0 } : Room) s m #[(.ref w4)] below meth c s₁ [] 0 0 := Stand.of_body Bd
  have e0 : s₁.heap = h0 := by rw [← hh, Bd.state]; rfl
  have N0 := Fr.nil n0
  have pre0 : ∀ t, Steps p.tables e below (s₁.setTop (mkF m 0 #[.val (.ref w4)] [])) t → Steps p.tables e below (s₁.setTop (entryFrame m #[(.ref w4)] 1)) t := fun t k => castTop (ef_prog_9_method_5_code_A m w4) k
  have P0 := P; obtain ⟨S0, E0, F0_ordinal, S1, E1, F1_ordinal, S2, E2, F2_ordinal, S3, E3, F3_ordinal, S4, E4, F4_ordinal, S5, E5, F5_ordinal, S6, E6, F6_ordinal, S7, E7, F7_ordinal, S8, E8, F8_ordinal, S9, E9, F9_ordinal, S10, E10, F10_ordinal, S11, E11, F11_ordinal, S12, E12, F12_ordinal⟩ := P0
  obtain ⟨T18, X18, e18, st18⟩ := getS2 X0 hx hZ hown (host := "") (Or.inl (hw _ (List.mem_of_getElem? (i := 13) rfl))) Via.refl e0 S1 (g := (mkF m 1 #[.val (.ref w4)] [(.ref w4)])) rfl (hb hby d_prog_9_method_5_code_1)
  obtain ⟨fs, hr, hrun, hended, hW, hsame⟩ := X18.leave (v := some (.int (0 : Int32))) (fun h => by rw [Bd.returns] at h; cases h)
  refine ⟨_, _, pre0 _ ?_, hrun, hended, _, _, rfl, ?_, ⟨_, rfl⟩, hW, hsame.mono (by decide) (by decide)⟩
  · show Steps p.tables e below (s₁.setTop (mkF m 0 #[.val (.ref w4)] [])) _
    refine XS.aloadN X0.here hx rfl (hb hby d_prog_9_method_5_code_0) rfl rfl ?_
    show Steps p.tables e below (s₁.setTop (mkF m 1 #[.val (.ref w4)] [(.ref w4)])) _
    refine st18 _ ?_
    show Steps p.tables e below (T18.setTop (mkF m 4 #[.val (.ref w4)] [(.ref w1), (.ref w4)])) _
    refine Jvm.RoadKit.acmp (g := (mkF m 4 #[.val (.ref w4)] [(.ref w1), (.ref w4)])) X18 hx rfl rfl rfl (pc0 := 4) (pc' := 11) (same := false) rfl (hb hby d_prog_9_method_5_code_4) rfl (decide_eq_false (fun q => (F4_ordinal.ne F1_ordinal (by decide)) (Value.ref.inj q))) (by decide) (by decide) ?_
    show Steps p.tables e below (T18.setTop (mkF m 11 #[.val (.ref w4)] [])) _
    refine XT.iconstV X18.here hx rfl (0 : Int32) (hb hby d_prog_9_method_5_code_11) rfl ?_
    show Steps p.tables e below (T18.setTop (mkF m 12 #[.val (.ref w4)] [(.int (0 : Int32))])) _
    exact retN X18 hx (t := .boolean) Bd.returns (by simp) (hb hby d_prog_9_method_5_code_12) hr
  · show own_Q (some (.int (0 : Int32))) h0 n0 _ T18.heap _
    rw [e18]
    exact ⟨rfl, N0, rfl⟩
set_option maxRecDepth 65536 in
set_option maxHeartbeats 40000000 in
theorem own_givesAmountBack_5 (l : Launch) (Z : State) (a0 : Array Value) (hw : ∀ d ∈ tables_1, d.before a0 Z = true) (ws : List Jvm.Cond) (w0 w1 w2 w3 w4 w5 w6 w7 w8 w9 w10 w11 w12 : Addr) (h0 : Heap) (n0 : Nat) (Z0 : n0 ≤ h0.size) (P : own_P Z h0 w0 w1 w2 w3 w4 w5 w6 w7 w8 w9 w10 w11 w12) :
    MetFree l (⟨"com/example/recourse/recourse/CaseAction", "givesAmountBack", "()Z"⟩ : MethodName) (head1 (Jvm.Cond.code (⟨"com/example/recourse/recourse/CaseAction", "givesAmountBack", "()Z"⟩ : MethodName) prog_9_method_5_code 1 (some .boolean) :: ws) ({ frames := 0, cells := 0, slots := 0, locals := 0 } : Room)) (fun a U => a = #[(.ref w5)] ∧ Z.Warmed39 U.vm ∧ U.heap = h0) (fun _ _ _ _ _ => True) (fun _ U o U' => ∃ v L, o = .returned v ∧ own_Q (some (.int (0 : Int32))) h0 n0 v U'.heap L ∧ FrameEnd U o U' L ({ frames := 0, cells := 0, slots := 0, locals := 0 } : Room).cells ({ frames := 0, cells := 0, slots := 0, locals := 0 } : Room).slots) := by
  refine MetFree.of_bodySF (plainFor_of_name pn_com_example_recourse_recourse_CaseAction) hisR ?_
  intro p e s m args below meth c s₁ Bd hml0 hP hK
  obtain ⟨rfl, hZ, hh⟩ := hP
  have hx := Bd.exec
  have hby := Bd.bytes
  have hml : c.maxLocals = 1 := hml0
  have hown : s.vm.findClass "com/example/recourse/recourse/CaseAction" = some m.cls := findClass_of_methodNamed Bd.named
  have hnm := (name_of_methodNamed Bd.named Bd.method).1
  have X0 : Stand p l e ({ frames := 0, cells := 0, slots := 0, locals := 0 } : Room) s m #[(.ref w5)] below meth c s₁ [] 0 0 := Stand.of_body Bd
  have e0 : s₁.heap = h0 := by rw [← hh, Bd.state]; rfl
  have N0 := Fr.nil n0
  have pre0 : ∀ t, Steps p.tables e below (s₁.setTop (mkF m 0 #[.val (.ref w5)] [])) t → Steps p.tables e below (s₁.setTop (entryFrame m #[(.ref w5)] 1)) t := fun t k => castTop (ef_prog_9_method_5_code_A m w5) k
  have P0 := P; obtain ⟨S0, E0, F0_ordinal, S1, E1, F1_ordinal, S2, E2, F2_ordinal, S3, E3, F3_ordinal, S4, E4, F4_ordinal, S5, E5, F5_ordinal, S6, E6, F6_ordinal, S7, E7, F7_ordinal, S8, E8, F8_ordinal, S9, E9, F9_ordinal, S10, E10, F10_ordinal, S11, E11, F11_ordinal, S12, E12, F12_ordinal⟩ := P0
  obtain ⟨T19, X19, e19, st19⟩ := getS2 X0 hx hZ hown (host := "") (Or.inl (hw _ (List.mem_of_getElem? (i := 13) rfl))) Via.refl e0 S1 (g := (mkF m 1 #[.val (.ref w5)] [(.ref w5)])) rfl (hb hby d_prog_9_method_5_code_1)
  obtain ⟨fs, hr, hrun, hended, hW, hsame⟩ := X19.leave (v := some (.int (0 : Int32))) (fun h => by rw [Bd.returns] at h; cases h)
  refine ⟨_, _, pre0 _ ?_, hrun, hended, _, _, rfl, ?_, ⟨_, rfl⟩, hW, hsame.mono (by decide) (by decide)⟩
  · show Steps p.tables e below (s₁.setTop (mkF m 0 #[.val (.ref w5)] [])) _
    refine XS.aloadN X0.here hx rfl (hb hby d_prog_9_method_5_code_0) rfl rfl ?_
    show Steps p.tables e below (s₁.setTop (mkF m 1 #[.val (.ref w5)] [(.ref w5)])) _
    refine st19 _ ?_
    show Steps p.tables e below (T19.setTop (mkF m 4 #[.val (.ref w5)] [(.ref w1), (.ref w5)])) _
    refine Jvm.RoadKit.acmp (g := (mkF m 4 #[.val (.ref w5)] [(.ref w1), (.ref w5)])) X19 hx rfl rfl rfl (pc0 := 4) (pc' := 11) (same := false) rfl (hb hby d_prog_9_method_5_code_4) rfl (decide_eq_false (fun q => (F5_ordinal.ne F1_ordinal (by decide)) (Value.ref.inj q))) (by decide) (by decide) ?_
    show Steps p.tables e below (T19.setTop (mkF m 11 #[.val (.ref w5)] [])) _
    refine XT.iconstV X19.here hx rfl (0 : Int32) (hb hby d_prog_9_method_5_code_11) rfl ?_
    show Steps p.tables e below (T19.setTop (mkF m 12 #[.val (.ref w5)] [(.int (0 : Int32))])) _
    exact retN X19 hx (t := .boolean) Bd.returns (by simp) (hb hby d_prog_9_method_5_code_12) hr
  · show own_Q (some (.int (0 : Int32))) h0 n0 _ T19.heap _
    rw [e19]
    exact ⟨rfl, N0, rfl⟩
set_option maxRecDepth 65536 in
set_option maxHeartbeats 40000000 in
theorem own_givesAmountBack_6 (l : Launch) (Z : State) (a0 : Array Value) (hw : ∀ d ∈ tables_1, d.before a0 Z = true) (ws : List Jvm.Cond) (w0 w1 w2 w3 w4 w5 w6 w7 w8 w9 w10 w11 w12 : Addr) (h0 : Heap) (n0 : Nat) (Z0 : n0 ≤ h0.size) (P : own_P Z h0 w0 w1 w2 w3 w4 w5 w6 w7 w8 w9 w10 w11 w12) :
    MetFree l (⟨"com/example/recourse/recourse/CaseAction", "givesAmountBack", "()Z"⟩ : MethodName) (head1 (Jvm.Cond.code (⟨"com/example/recourse/recourse/CaseAction", "givesAmountBack", "()Z"⟩ : MethodName) prog_9_method_5_code 1 (some .boolean) :: ws) ({ frames := 0, cells := 0, slots := 0, locals := 0 } : Room)) (fun a U => a = #[(.ref w6)] ∧ Z.Warmed39 U.vm ∧ U.heap = h0) (fun _ _ _ _ _ => True) (fun _ U o U' => ∃ v L, o = .returned v ∧ own_Q (some (.int (0 : Int32))) h0 n0 v U'.heap L ∧ FrameEnd U o U' L ({ frames := 0, cells := 0, slots := 0, locals := 0 } : Room).cells ({ frames := 0, cells := 0, slots := 0, locals := 0 } : Room).slots) := by
  refine MetFree.of_bodySF (plainFor_of_name pn_com_example_recourse_recourse_CaseAction) hisR ?_
  intro p e s m args below meth c s₁ Bd hml0 hP hK
  obtain ⟨rfl, hZ, hh⟩ := hP
  have hx := Bd.exec
  have hby := Bd.bytes
  have hml : c.maxLocals = 1 := hml0
  have hown : s.vm.findClass "com/example/recourse/recourse/CaseAction" = some m.cls := findClass_of_methodNamed Bd.named
  have hnm := (name_of_methodNamed Bd.named Bd.method).1
  have X0 : Stand p l e ({ frames := 0, cells := 0, slots := 0, locals := 0 } : Room) s m #[(.ref w6)] below meth c s₁ [] 0 0 := Stand.of_body Bd
  have e0 : s₁.heap = h0 := by rw [← hh, Bd.state]; rfl
  have N0 := Fr.nil n0
  have pre0 : ∀ t, Steps p.tables e below (s₁.setTop (mkF m 0 #[.val (.ref w6)] [])) t → Steps p.tables e below (s₁.setTop (entryFrame m #[(.ref w6)] 1)) t := fun t k => castTop (ef_prog_9_method_5_code_A m w6) k
  have P0 := P; obtain ⟨S0, E0, F0_ordinal, S1, E1, F1_ordinal, S2, E2, F2_ordinal, S3, E3, F3_ordinal, S4, E4, F4_ordinal, S5, E5, F5_ordinal, S6, E6, F6_ordinal, S7, E7, F7_ordinal, S8, E8, F8_ordinal, S9, E9, F9_ordinal, S10, E10, F10_ordinal, S11, E11, F11_ordinal, S12, E12, F12_ordinal⟩ := P0
  obtain ⟨T20, X20, e20, st20⟩ := getS2 X0 hx hZ hown (host := "") (Or.inl (hw _ (List.mem_of_getElem? (i := 13) rfl))) Via.refl e0 S1 (g := (mkF m 1 #[.val (.ref w6)] [(.ref w6)])) rfl (hb hby d_prog_9_method_5_code_1)
  obtain ⟨fs, hr, hrun, hended, hW, hsame⟩ := X20.leave (v := some (.int (0 : Int32))) (fun h => by rw [Bd.returns] at h; cases h)
  refine ⟨_, _, pre0 _ ?_, hrun, hended, _, _, rfl, ?_, ⟨_, rfl⟩, hW, hsame.mono (by decide) (by decide)⟩
  · show Steps p.tables e below (s₁.setTop (mkF m 0 #[.val (.ref w6)] [])) _
    refine XS.aloadN X0.here hx rfl (hb hby d_prog_9_method_5_code_0) rfl rfl ?_
    show Steps p.tables e below (s₁.setTop (mkF m 1 #[.val (.ref w6)] [(.ref w6)])) _
    refine st20 _ ?_
    show Steps p.tables e below (T20.setTop (mkF m 4 #[.val (.ref w6)] [(.ref w1), (.ref w6)])) _
    refine Jvm.RoadKit.acmp (g := (mkF m 4 #[.val (.ref w6)] [(.ref w1), (.ref w6)])) X20 hx rfl rfl rfl (pc0 := 4) (pc' := 11) (same := false) rfl (hb hby d_prog_9_method_5_code_4) rfl (decide_eq_false (fun q => (F6_ordinal.ne F1_ordinal (by decide)) (Value.ref.inj q))) (by decide) (by decide) ?_
    show Steps p.tables e below (T20.setTop (mkF m 11 #[.val (.ref w6)] [])) _
    refine XT.iconstV X20.here hx rfl (0 : Int32) (hb hby d_prog_9_method_5_code_11) rfl ?_
    show Steps p.tables e below (T20.setTop (mkF m 12 #[.val (.ref w6)] [(.int (0 : Int32))])) _
    exact retN X20 hx (t := .boolean) Bd.returns (by simp) (hb hby d_prog_9_method_5_code_12) hr
  · show own_Q (some (.int (0 : Int32))) h0 n0 _ T20.heap _
    rw [e20]
    exact ⟨rfl, N0, rfl⟩
set_option maxRecDepth 65536 in
set_option maxHeartbeats 40000000 in
theorem own_givesAmountBack_7 (l : Launch) (Z : State) (a0 : Array Value) (hw : ∀ d ∈ tables_1, d.before a0 Z = true) (ws : List Jvm.Cond) (w0 w1 w2 w3 w4 w5 w6 w7 w8 w9 w10 w11 w12 : Addr) (h0 : Heap) (n0 : Nat) (Z0 : n0 ≤ h0.size) (P : own_P Z h0 w0 w1 w2 w3 w4 w5 w6 w7 w8 w9 w10 w11 w12) :
    MetFree l (⟨"com/example/recourse/recourse/CaseAction", "givesAmountBack", "()Z"⟩ : MethodName) (head1 (Jvm.Cond.code (⟨"com/example/recourse/recourse/CaseAction", "givesAmountBack", "()Z"⟩ : MethodName) prog_9_method_5_code 1 (some .boolean) :: ws) ({ frames := 0, cells := 0, slots := 0, locals := 0 } : Room)) (fun a U => a = #[(.ref w7)] ∧ Z.Warmed39 U.vm ∧ U.heap = h0) (fun _ _ _ _ _ => True) (fun _ U o U' => ∃ v L, o = .returned v ∧ own_Q (some (.int (0 : Int32))) h0 n0 v U'.heap L ∧ FrameEnd U o U' L ({ frames := 0, cells := 0, slots := 0, locals := 0 } : Room).cells ({ frames := 0, cells := 0, slots := 0, locals := 0 } : Room).slots) := by
  refine MetFree.of_bodySF (plainFor_of_name pn_com_example_recourse_recourse_CaseAction) hisR ?_
  intro p e s m args below meth c s₁ Bd hml0 hP hK
  obtain ⟨rfl, hZ, hh⟩ := hP
  have hx := Bd.exec
  have hby := Bd.bytes
  have hml : c.maxLocals = 1 := hml0
  have hown : s.vm.findClass "com/example/recourse/recourse/CaseAction" = some m.cls := findClass_of_methodNamed Bd.named
  have hnm := (name_of_methodNamed Bd.named Bd.method).1
  have X0 : Stand p l e ({ frames := 0, cells := 0, slots := 0, locals := 0 } : Room) s m #[(.ref w7)] below meth c s₁ [] 0 0 := Stand.of_body Bd
  have e0 : s₁.heap = h0 := by rw [← hh, Bd.state]; rfl
  have N0 := Fr.nil n0
  have pre0 : ∀ t, Steps p.tables e below (s₁.setTop (mkF m 0 #[.val (.ref w7)] [])) t → Steps p.tables e below (s₁.setTop (entryFrame m #[(.ref w7)] 1)) t := fun t k => castTop (ef_prog_9_method_5_code_A m w7) k
  have P0 := P; obtain ⟨S0, E0, F0_ordinal, S1, E1, F1_ordinal, S2, E2, F2_ordinal, S3, E3, F3_ordinal, S4, E4, F4_ordinal, S5, E5, F5_ordinal, S6, E6, F6_ordinal, S7, E7, F7_ordinal, S8, E8, F8_ordinal, S9, E9, F9_ordinal, S10, E10, F10_ordinal, S11, E11, F11_ordinal, S12, E12, F12_ordinal⟩ := P0
  obtain ⟨T21, X21, e21, st21⟩ := getS2 X0 hx hZ hown (host := "") (Or.inl (hw _ (List.mem_of_getElem? (i := 13) rfl))) Via.refl e0 S1 (g := (mkF m 1 #[.val (.ref w7)] [(.ref w7)])) rfl (hb hby d_prog_9_method_5_code_1)
  obtain ⟨fs, hr, hrun, hended, hW, hsame⟩ := X21.leave (v := some (.int (0 : Int32))) (fun h => by rw [Bd.returns] at h; cases h)
  refine ⟨_, _, pre0 _ ?_, hrun, hended, _, _, rfl, ?_, ⟨_, rfl⟩, hW, hsame.mono (by decide) (by decide)⟩
  · show Steps p.tables e below (s₁.setTop (mkF m 0 #[.val (.ref w7)] [])) _
    refine XS.aloadN X0.here hx rfl (hb hby d_prog_9_method_5_code_0) rfl rfl ?_
    show Steps p.tables e below (s₁.setTop (mkF m 1 #[.val (.ref w7)] [(.ref w7)])) _
    refine st21 _ ?_
    show Steps p.tables e below (T21.setTop (mkF m 4 #[.val (.ref w7)] [(.ref w1), (.ref w7)])) _
    refine Jvm.RoadKit.acmp (g := (mkF m 4 #[.val (.ref w7)] [(.ref w1), (.ref w7)])) X21 hx rfl rfl rfl (pc0 := 4) (pc' := 11) (same := false) rfl (hb hby d_prog_9_method_5_code_4) rfl (decide_eq_false (fun q => (F7_ordinal.ne F1_ordinal (by decide)) (Value.ref.inj q))) (by decide) (by decide) ?_
    show Steps p.tables e below (T21.setTop (mkF m 11 #[.val (.ref w7)] [])) _
    refine XT.iconstV X21.here hx rfl (0 : Int32) (hb hby d_prog_9_method_5_code_11) rfl ?_
    show Steps p.tables e below (T21.setTop (mkF m 12 #[.val (.ref w7)] [(.int (0 : Int32))])) _
    exact retN X21 hx (t := .boolean) Bd.returns (by simp) (hb hby d_prog_9_method_5_code_12) hr
  · show own_Q (some (.int (0 : Int32))) h0 n0 _ T21.heap _
    rw [e21]
    exact ⟨rfl, N0, rfl⟩
set_option maxRecDepth 65536 in
set_option maxHeartbeats 40000000 in
theorem own_givesAmountBack_8 (l : Launch) (Z : State) (a0 : Array Value) (hw : ∀ d ∈ tables_1, d.before a0 Z = true) (ws : List Jvm.Cond) (w0 w1 w2 w3 w4 w5 w6 w7 w8 w9 w10 w11 w12 : Addr) (h0 : Heap) (n0 : Nat) (Z0 : n0 ≤ h0.size) (P : own_P Z h0 w0 w1 w2 w3 w4 w5 w6 w7 w8 w9 w10 w11 w12) :
    MetFree l (⟨"com/example/recourse/recourse/CaseAction", "givesAmountBack", "()Z"⟩ : MethodName) (head1 (Jvm.Cond.code (⟨"com/example/recourse/recourse/CaseAction", "givesAmountBack", "()Z"⟩ : MethodName) prog_9_method_5_code 1 (some .boolean) :: ws) ({ frames := 0, cells := 0, slots := 0, locals := 0 } : Room)) (fun a U => a = #[(.ref w8)] ∧ Z.Warmed39 U.vm ∧ U.heap = h0) (fun _ _ _ _ _ => True) (fun _ U o U' => ∃ v L, o = .returned v ∧ own_Q (some (.int (0 : Int32))) h0 n0 v U'.heap L ∧ FrameEnd U o U' L ({ frames := 0, cells := 0, slots := 0, locals := 0 } : Room).cells ({ frames := 0, cells := 0, slots := 0, locals := 0 } : Room).slots) := by
  refine MetFree.of_bodySF (plainFor_of_name pn_com_example_recourse_recourse_CaseAction) hisR ?_
  intro p e s m args below meth c s₁ Bd hml0 hP hK
  obtain ⟨rfl, hZ, hh⟩ := hP
  have hx := Bd.exec
  have hby := Bd.bytes
  have hml : c.maxLocals = 1 := hml0
  have hown : s.vm.findClass "com/example/recourse/recourse/CaseAction" = some m.cls := findClass_of_methodNamed Bd.named
  have hnm := (name_of_methodNamed Bd.named Bd.method).1
  have X0 : Stand p l e ({ frames := 0, cells := 0, slots := 0, locals := 0 } : Room) s m #[(.ref w8)] below meth c s₁ [] 0 0 := Stand.of_body Bd
  have e0 : s₁.heap = h0 := by rw [← hh, Bd.state]; rfl
  have N0 := Fr.nil n0
  have pre0 : ∀ t, Steps p.tables e below (s₁.setTop (mkF m 0 #[.val (.ref w8)] [])) t → Steps p.tables e below (s₁.setTop (entryFrame m #[(.ref w8)] 1)) t := fun t k => castTop (ef_prog_9_method_5_code_A m w8) k
  have P0 := P; obtain ⟨S0, E0, F0_ordinal, S1, E1, F1_ordinal, S2, E2, F2_ordinal, S3, E3, F3_ordinal, S4, E4, F4_ordinal, S5, E5, F5_ordinal, S6, E6, F6_ordinal, S7, E7, F7_ordinal, S8, E8, F8_ordinal, S9, E9, F9_ordinal, S10, E10, F10_ordinal, S11, E11, F11_ordinal, S12, E12, F12_ordinal⟩ := P0
  obtain ⟨T22, X22, e22, st22⟩ := getS2 X0 hx hZ hown (host := "") (Or.inl (hw _ (List.mem_of_getElem? (i := 13) rfl))) Via.refl e0 S1 (g := (mkF m 1 #[.val (.ref w8)] [(.ref w8)])) rfl (hb hby d_prog_9_method_5_code_1)
  obtain ⟨fs, hr, hrun, hended, hW, hsame⟩ := X22.leave (v := some (.int (0 : Int32))) (fun h => by rw [Bd.returns] at h; cases h)
  refine ⟨_, _, pre0 _ ?_, hrun, hended, _, _, rfl, ?_, ⟨_, rfl⟩, hW, hsame.mono (by decide) (by decide)⟩
  · show Steps p.tables e below (s₁.setTop (mkF m 0 #[.val (.ref w8)] [])) _
    refine XS.aloadN X0.here hx rfl (hb hby d_prog_9_method_5_code_0) rfl rfl ?_
    show Steps p.tables e below (s₁.setTop (mkF m 1 #[.val (.ref w8)] [(.ref w8)])) _
    refine st22 _ ?_
    show Steps p.tables e below (T22.setTop (mkF m 4 #[.val (.ref w8)] [(.ref w1), (.ref w8)])) _
    refine Jvm.RoadKit.acmp (g := (mkF m 4 #[.val (.ref w8)] [(.ref w1), (.ref w8)])) X22 hx rfl rfl rfl (pc0 := 4) (pc' := 11) (same := false) rfl (hb hby d_prog_9_method_5_code_4) rfl (decide_eq_false (fun q => (F8_ordinal.ne F1_ordinal (by decide)) (Value.ref.inj q))) (by decide) (by decide) ?_
    show Steps p.tables e below (T22.setTop (mkF m 11 #[.val (.ref w8)] [])) _
    refine XT.iconstV X22.here hx rfl (0 : Int32) (hb hby d_prog_9_method_5_code_11) rfl ?_
    show Steps p.tables e below (T22.setTop (mkF m 12 #[.val (.ref w8)] [(.int (0 : Int32))])) _
    exact retN X22 hx (t := .boolean) Bd.returns (by simp) (hb hby d_prog_9_method_5_code_12) hr
  · show own_Q (some (.int (0 : Int32))) h0 n0 _ T22.heap _
    rw [e22]
    exact ⟨rfl, N0, rfl⟩
set_option maxRecDepth 65536 in
set_option maxHeartbeats 40000000 in
theorem own_givesAmountBack_9 (l : Launch) (Z : State) (a0 : Array Value) (hw : ∀ d ∈ tables_1, d.before a0 Z = true) (ws : List Jvm.Cond) (w0 w1 w2 w3 w4 w5 w6 w7 w8 w9 w10 w11 w12 : Addr) (h0 : Heap) (n0 : Nat) (Z0 : n0 ≤ h0.size) (P : own_P Z h0 w0 w1 w2 w3 w4 w5 w6 w7 w8 w9 w10 w11 w12) :
    MetFree l (⟨"com/example/recourse/recourse/CaseAction", "givesAmountBack", "()Z"⟩ : MethodName) (head1 (Jvm.Cond.code (⟨"com/example/recourse/recourse/CaseAction", "givesAmountBack", "()Z"⟩ : MethodName) prog_9_method_5_code 1 (some .boolean) :: ws) ({ frames := 0, cells := 0, slots := 0, locals := 0 } : Room)) (fun a U => a = #[(.ref w9)] ∧ Z.Warmed39 U.vm ∧ U.heap = h0) (fun _ _ _ _ _ => True) (fun _ U o U' => ∃ v L, o = .returned v ∧ own_Q (some (.int (0 : Int32))) h0 n0 v U'.heap L ∧ FrameEnd U o U' L ({ frames := 0, cells := 0, slots := 0, locals := 0 } : Room).cells ({ frames := 0, cells := 0, slots := 0, locals := 0 } : Room).slots) := by
  refine MetFree.of_bodySF (plainFor_of_name pn_com_example_recourse_recourse_CaseAction) hisR ?_
  intro p e s m args below meth c s₁ Bd hml0 hP hK
  obtain ⟨rfl, hZ, hh⟩ := hP
  have hx := Bd.exec
  have hby := Bd.bytes
  have hml : c.maxLocals = 1 := hml0
  have hown : s.vm.findClass "com/example/recourse/recourse/CaseAction" = some m.cls := findClass_of_methodNamed Bd.named
  have hnm := (name_of_methodNamed Bd.named Bd.method).1
  have X0 : Stand p l e ({ frames := 0, cells := 0, slots := 0, locals := 0 } : Room) s m #[(.ref w9)] below meth c s₁ [] 0 0 := Stand.of_body Bd
  have e0 : s₁.heap = h0 := by rw [← hh, Bd.state]; rfl
  have N0 := Fr.nil n0
  have pre0 : ∀ t, Steps p.tables e below (s₁.setTop (mkF m 0 #[.val (.ref w9)] [])) t → Steps p.tables e below (s₁.setTop (entryFrame m #[(.ref w9)] 1)) t := fun t k => castTop (ef_prog_9_method_5_code_A m w9) k
  have P0 := P; obtain ⟨S0, E0, F0_ordinal, S1, E1, F1_ordinal, S2, E2, F2_ordinal, S3, E3, F3_ordinal, S4, E4, F4_ordinal, S5, E5, F5_ordinal, S6, E6, F6_ordinal, S7, E7, F7_ordinal, S8, E8, F8_ordinal, S9, E9, F9_ordinal, S10, E10, F10_ordinal, S11, E11, F11_ordinal, S12, E12, F12_ordinal⟩ := P0
  obtain ⟨T23, X23, e23, st23⟩ := getS2 X0 hx hZ hown (host := "") (Or.inl (hw _ (List.mem_of_getElem? (i := 13) rfl))) Via.refl e0 S1 (g := (mkF m 1 #[.val (.ref w9)] [(.ref w9)])) rfl (hb hby d_prog_9_method_5_code_1)
  obtain ⟨fs, hr, hrun, hended, hW, hsame⟩ := X23.leave (v := some (.int (0 : Int32))) (fun h => by rw [Bd.returns] at h; cases h)
  refine ⟨_, _, pre0 _ ?_, hrun, hended, _, _, rfl, ?_, ⟨_, rfl⟩, hW, hsame.mono (by decide) (by decide)⟩
  · show Steps p.tables e below (s₁.setTop (mkF m 0 #[.val (.ref w9)] [])) _
    refine XS.aloadN X0.here hx rfl (hb hby d_prog_9_method_5_code_0) rfl rfl ?_
    show Steps p.tables e below (s₁.setTop (mkF m 1 #[.val (.ref w9)] [(.ref w9)])) _
    refine st23 _ ?_
    show Steps p.tables e below (T23.setTop (mkF m 4 #[.val (.ref w9)] [(.ref w1), (.ref w9)])) _
    refine Jvm.RoadKit.acmp (g := (mkF m 4 #[.val (.ref w9)] [(.ref w1), (.ref w9)])) X23 hx rfl rfl rfl (pc0 := 4) (pc' := 11) (same := false) rfl (hb hby d_prog_9_method_5_code_4) rfl (decide_eq_false (fun q => (F9_ordinal.ne F1_ordinal (by decide)) (Value.ref.inj q))) (by decide) (by decide) ?_
    show Steps p.tables e below (T23.setTop (mkF m 11 #[.val (.ref w9)] [])) _
    refine XT.iconstV X23.here hx rfl (0 : Int32) (hb hby d_prog_9_method_5_code_11) rfl ?_
    show Steps p.tables e below (T23.setTop (mkF m 12 #[.val (.ref w9)] [(.int (0 : Int32))])) _
    exact retN X23 hx (t := .boolean) Bd.returns (by simp) (hb hby d_prog_9_method_5_code_12) hr
  · show own_Q (some (.int (0 : Int32))) h0 n0 _ T23.heap _
    rw [e23]
    exact ⟨rfl, N0, rfl⟩
set_option maxRecDepth 65536 in
set_option maxHeartbeats 40000000 in
theorem own_givesAmountBack_10 (l : Launch) (Z : State) (a0 : Array Value) (hw : ∀ d ∈ tables_1, d.before a0 Z = true) (ws : List Jvm.Cond) (w0 w1 w2 w3 w4 w5 w6 w7 w8 w9 w10 w11 w12 : Addr) (h0 : Heap) (n0 : Nat) (Z0 : n0 ≤ h0.size) (P : own_P Z h0 w0 w1 w2 w3 w4 w5 w6 w7 w8 w9 w10 w11 w12) :
    MetFree l (⟨"com/example/recourse/recourse/CaseAction", "givesAmountBack", "()Z"⟩ : MethodName) (head1 (Jvm.Cond.code (⟨"com/example/recourse/recourse/CaseAction", "givesAmountBack", "()Z"⟩ : MethodName) prog_9_method_5_code 1 (some .boolean) :: ws) ({ frames := 0, cells := 0, slots := 0, locals := 0 } : Room)) (fun a U => a = #[(.ref w10)] ∧ Z.Warmed39 U.vm ∧ U.heap = h0) (fun _ _ _ _ _ => True) (fun _ U o U' => ∃ v L, o = .returned v ∧ own_Q (some (.int (0 : Int32))) h0 n0 v U'.heap L ∧ FrameEnd U o U' L ({ frames := 0, cells := 0, slots := 0, locals := 0 } : Room).cells ({ frames := 0, cells := 0, slots := 0, locals := 0 } : Room).slots) := by
  refine MetFree.of_bodySF (plainFor_of_name pn_com_example_recourse_recourse_CaseAction) hisR ?_
  intro p e s m args below meth c s₁ Bd hml0 hP hK
  obtain ⟨rfl, hZ, hh⟩ := hP
  have hx := Bd.exec
  have hby := Bd.bytes
  have hml : c.maxLocals = 1 := hml0
  have hown : s.vm.findClass "com/example/recourse/recourse/CaseAction" = some m.cls := findClass_of_methodNamed Bd.named
  have hnm := (name_of_methodNamed Bd.named Bd.method).1
  have X0 : Stand p l e ({ frames := 0, cells := 0, slots := 0, locals := 0 } : Room) s m #[(.ref w10)] below meth c s₁ [] 0 0 := Stand.of_body Bd
  have e0 : s₁.heap = h0 := by rw [← hh, Bd.state]; rfl
  have N0 := Fr.nil n0
  have pre0 : ∀ t, Steps p.tables e below (s₁.setTop (mkF m 0 #[.val (.ref w10)] [])) t → Steps p.tables e below (s₁.setTop (entryFrame m #[(.ref w10)] 1)) t := fun t k => castTop (ef_prog_9_method_5_code_A m w10) k
  have P0 := P; obtain ⟨S0, E0, F0_ordinal, S1, E1, F1_ordinal, S2, E2, F2_ordinal, S3, E3, F3_ordinal, S4, E4, F4_ordinal, S5, E5, F5_ordinal, S6, E6, F6_ordinal, S7, E7, F7_ordinal, S8, E8, F8_ordinal, S9, E9, F9_ordinal, S10, E10, F10_ordinal, S11, E11, F11_ordinal, S12, E12, F12_ordinal⟩ := P0
  obtain ⟨T24, X24, e24, st24⟩ := getS2 X0 hx hZ hown (host := "") (Or.inl (hw _ (List.mem_of_getElem? (i := 13) rfl))) Via.refl e0 S1 (g := (mkF m 1 #[.val (.ref w10)] [(.ref w10)])) rfl (hb hby d_prog_9_method_5_code_1)
  obtain ⟨fs, hr, hrun, hended, hW, hsame⟩ := X24.leave (v := some (.int (0 : Int32))) (fun h => by rw [Bd.returns] at h; cases h)
  refine ⟨_, _, pre0 _ ?_, hrun, hended, _, _, rfl, ?_, ⟨_, rfl⟩, hW, hsame.mono (by decide) (by decide)⟩
  · show Steps p.tables e below (s₁.setTop (mkF m 0 #[.val (.ref w10)] [])) _
    refine XS.aloadN X0.here hx rfl (hb hby d_prog_9_method_5_code_0) rfl rfl ?_
    show Steps p.tables e below (s₁.setTop (mkF m 1 #[.val (.ref w10)] [(.ref w10)])) _
    refine st24 _ ?_
    show Steps p.tables e below (T24.setTop (mkF m 4 #[.val (.ref w10)] [(.ref w1), (.ref w10)])) _
    refine Jvm.RoadKit.acmp (g := (mkF m 4 #[.val (.ref w10)] [(.ref w1), (.ref w10)])) X24 hx rfl rfl rfl (pc0 := 4) (pc' := 11) (same := false) rfl (hb hby d_prog_9_method_5_code_4) rfl (decide_eq_false (fun q => (F10_ordinal.ne F1_ordinal (by decide)) (Value.ref.inj q))) (by decide) (by decide) ?_
    show Steps p.tables e below (T24.setTop (mkF m 11 #[.val (.ref w10)] [])) _
    refine XT.iconstV X24.here hx rfl (0 : Int32) (hb hby d_prog_9_method_5_code_11) rfl ?_
    show Steps p.tables e below (T24.setTop (mkF m 12 #[.val (.ref w10)] [(.int (0 : Int32))])) _
    exact retN X24 hx (t := .boolean) Bd.returns (by simp) (hb hby d_prog_9_method_5_code_12) hr
  · show own_Q (some (.int (0 : Int32))) h0 n0 _ T24.heap _
    rw [e24]
    exact ⟨rfl, N0, rfl⟩
set_option maxRecDepth 65536 in
set_option maxHeartbeats 40000000 in
theorem own_givesAmountBack_11 (l : Launch) (Z : State) (a0 : Array Value) (hw : ∀ d ∈ tables_1, d.before a0 Z = true) (ws : List Jvm.Cond) (w0 w1 w2 w3 w4 w5 w6 w7 w8 w9 w10 w11 w12 : Addr) (h0 : Heap) (n0 : Nat) (Z0 : n0 ≤ h0.size) (P : own_P Z h0 w0 w1 w2 w3 w4 w5 w6 w7 w8 w9 w10 w11 w12) :
    MetFree l (⟨"com/example/recourse/recourse/CaseAction", "givesAmountBack", "()Z"⟩ : MethodName) (head1 (Jvm.Cond.code (⟨"com/example/recourse/recourse/CaseAction", "givesAmountBack", "()Z"⟩ : MethodName) prog_9_method_5_code 1 (some .boolean) :: ws) ({ frames := 0, cells := 0, slots := 0, locals := 0 } : Room)) (fun a U => a = #[(.ref w11)] ∧ Z.Warmed39 U.vm ∧ U.heap = h0) (fun _ _ _ _ _ => True) (fun _ U o U' => ∃ v L, o = .returned v ∧ own_Q (some (.int (0 : Int32))) h0 n0 v U'.heap L ∧ FrameEnd U o U' L ({ frames := 0, cells := 0, slots := 0, locals := 0 } : Room).cells ({ frames := 0, cells := 0, slots := 0, locals := 0 } : Room).slots) := by
  refine MetFree.of_bodySF (plainFor_of_name pn_com_example_recourse_recourse_CaseAction) hisR ?_
  intro p e s m args below meth c s₁ Bd hml0 hP hK
  obtain ⟨rfl, hZ, hh⟩ := hP
  have hx := Bd.exec
  have hby := Bd.bytes
  have hml : c.maxLocals = 1 := hml0
  have hown : s.vm.findClass "com/example/recourse/recourse/CaseAction" = some m.cls := findClass_of_methodNamed Bd.named
  have hnm := (name_of_methodNamed Bd.named Bd.method).1
  have X0 : Stand p l e ({ frames := 0, cells := 0, slots := 0, locals := 0 } : Room) s m #[(.ref w11)] below meth c s₁ [] 0 0 := Stand.of_body Bd
  have e0 : s₁.heap = h0 := by rw [← hh, Bd.state]; rfl
  have N0 := Fr.nil n0
  have pre0 : ∀ t, Steps p.tables e below (s₁.setTop (mkF m 0 #[.val (.ref w11)] [])) t → Steps p.tables e below (s₁.setTop (entryFrame m #[(.ref w11)] 1)) t := fun t k => castTop (ef_prog_9_method_5_code_A m w11) k
  have P0 := P; obtain ⟨S0, E0, F0_ordinal, S1, E1, F1_ordinal, S2, E2, F2_ordinal, S3, E3, F3_ordinal, S4, E4, F4_ordinal, S5, E5, F5_ordinal, S6, E6, F6_ordinal, S7, E7, F7_ordinal, S8, E8, F8_ordinal, S9, E9, F9_ordinal, S10, E10, F10_ordinal, S11, E11, F11_ordinal, S12, E12, F12_ordinal⟩ := P0
  obtain ⟨T25, X25, e25, st25⟩ := getS2 X0 hx hZ hown (host := "") (Or.inl (hw _ (List.mem_of_getElem? (i := 13) rfl))) Via.refl e0 S1 (g := (mkF m 1 #[.val (.ref w11)] [(.ref w11)])) rfl (hb hby d_prog_9_method_5_code_1)
  obtain ⟨fs, hr, hrun, hended, hW, hsame⟩ := X25.leave (v := some (.int (0 : Int32))) (fun h => by rw [Bd.returns] at h; cases h)
  refine ⟨_, _, pre0 _ ?_, hrun, hended, _, _, rfl, ?_, ⟨_, rfl⟩, hW, hsame.mono (by decide) (by decide)⟩
  · show Steps p.tables e below (s₁.setTop (mkF m 0 #[.val (.ref w11)] [])) _
    refine XS.aloadN X0.here hx rfl (hb hby d_prog_9_method_5_code_0) rfl rfl ?_
    show Steps p.tables e below (s₁.setTop (mkF m 1 #[.val (.ref w11)] [(.ref w11)])) _
    refine st25 _ ?_
    show Steps p.tables e below (T25.setTop (mkF m 4 #[.val (.ref w11)] [(.ref w1), (.ref w11)])) _
    refine Jvm.RoadKit.acmp (g := (mkF m 4 #[.val (.ref w11)] [(.ref w1), (.ref w11)])) X25 hx rfl rfl rfl (pc0 := 4) (pc' := 11) (same := false) rfl (hb hby d_prog_9_method_5_code_4) rfl (decide_eq_false (fun q => (F11_ordinal.ne F1_ordinal (by decide)) (Value.ref.inj q))) (by decide) (by decide) ?_
    show Steps p.tables e below (T25.setTop (mkF m 11 #[.val (.ref w11)] [])) _
    refine XT.iconstV X25.here hx rfl (0 : Int32) (hb hby d_prog_9_method_5_code_11) rfl ?_
    show Steps p.tables e below (T25.setTop (mkF m 12 #[.val (.ref w11)] [(.int (0 : Int32))])) _
    exact retN X25 hx (t := .boolean) Bd.returns (by simp) (hb hby d_prog_9_method_5_code_12) hr
  · show own_Q (some (.int (0 : Int32))) h0 n0 _ T25.heap _
    rw [e25]
    exact ⟨rfl, N0, rfl⟩
set_option maxRecDepth 65536 in
set_option maxHeartbeats 40000000 in
theorem own_givesAmountBack_12 (l : Launch) (Z : State) (a0 : Array Value) (hw : ∀ d ∈ tables_1, d.before a0 Z = true) (ws : List Jvm.Cond) (w0 w1 w2 w3 w4 w5 w6 w7 w8 w9 w10 w11 w12 : Addr) (h0 : Heap) (n0 : Nat) (Z0 : n0 ≤ h0.size) (P : own_P Z h0 w0 w1 w2 w3 w4 w5 w6 w7 w8 w9 w10 w11 w12) :
    MetFree l (⟨"com/example/recourse/recourse/CaseAction", "givesAmountBack", "()Z"⟩ : MethodName) (head1 (Jvm.Cond.code (⟨"com/example/recourse/recourse/CaseAction", "givesAmountBack", "()Z"⟩ : MethodName) prog_9_method_5_code 1 (some .boolean) :: ws) ({ frames := 0, cells := 0, slots := 0, locals := 0 } : Room)) (fun a U => a = #[(.ref w12)] ∧ Z.Warmed39 U.vm ∧ U.heap = h0) (fun _ _ _ _ _ => True) (fun _ U o U' => ∃ v L, o = .returned v ∧ own_Q (some (.int (0 : Int32))) h0 n0 v U'.heap L ∧ FrameEnd U o U' L ({ frames := 0, cells := 0, slots := 0, locals := 0 } : Room).cells ({ frames := 0, cells := 0, slots := 0, locals := 0 } : Room).slots) := by
  refine MetFree.of_bodySF (plainFor_of_name pn_com_example_recourse_recourse_CaseAction) hisR ?_
  intro p e s m args below meth c s₁ Bd hml0 hP hK
  obtain ⟨rfl, hZ, hh⟩ := hP
  have hx := Bd.exec
  have hby := Bd.bytes
  have hml : c.maxLocals = 1 := hml0
  have hown : s.vm.findClass "com/example/recourse/recourse/CaseAction" = some m.cls := findClass_of_methodNamed Bd.named
  have hnm := (name_of_methodNamed Bd.named Bd.method).1
  have X0 : Stand p l e ({ frames := 0, cells := 0, slots := 0, locals := 0 } : Room) s m #[(.ref w12)] below meth c s₁ [] 0 0 := Stand.of_body Bd
  have e0 : s₁.heap = h0 := by rw [← hh, Bd.state]; rfl
  have N0 := Fr.nil n0
  have pre0 : ∀ t, Steps p.tables e below (s₁.setTop (mkF m 0 #[.val (.ref w12)] [])) t → Steps p.tables e below (s₁.setTop (entryFrame m #[(.ref w12)] 1)) t := fun t k => castTop (ef_prog_9_method_5_code_A m w12) k
  have P0 := P; obtain ⟨S0, E0, F0_ordinal, S1, E1, F1_ordinal, S2, E2, F2_ordinal, S3, E3, F3_ordinal, S4, E4, F4_ordinal, S5, E5, F5_ordinal, S6, E6, F6_ordinal, S7, E7, F7_ordinal, S8, E8, F8_ordinal, S9, E9, F9_ordinal, S10, E10, F10_ordinal, S11, E11, F11_ordinal, S12, E12, F12_ordinal⟩ := P0
  obtain ⟨T26, X26, e26, st26⟩ := getS2 X0 hx hZ hown (host := "") (Or.inl (hw _ (List.mem_of_getElem? (i := 13) rfl))) Via.refl e0 S1 (g := (mkF m 1 #[.val (.ref w12)] [(.ref w12)])) rfl (hb hby d_prog_9_method_5_code_1)
  obtain ⟨fs, hr, hrun, hended, hW, hsame⟩ := X26.leave (v := some (.int (0 : Int32))) (fun h => by rw [Bd.returns] at h; cases h)
  refine ⟨_, _, pre0 _ ?_, hrun, hended, _, _, rfl, ?_, ⟨_, rfl⟩, hW, hsame.mono (by decide) (by decide)⟩
  · show Steps p.tables e below (s₁.setTop (mkF m 0 #[.val (.ref w12)] [])) _
    refine XS.aloadN X0.here hx rfl (hb hby d_prog_9_method_5_code_0) rfl rfl ?_
    show Steps p.tables e below (s₁.setTop (mkF m 1 #[.val (.ref w12)] [(.ref w12)])) _
    refine st26 _ ?_
    show Steps p.tables e below (T26.setTop (mkF m 4 #[.val (.ref w12)] [(.ref w1), (.ref w12)])) _
    refine Jvm.RoadKit.acmp (g := (mkF m 4 #[.val (.ref w12)] [(.ref w1), (.ref w12)])) X26 hx rfl rfl rfl (pc0 := 4) (pc' := 11) (same := false) rfl (hb hby d_prog_9_method_5_code_4) rfl (decide_eq_false (fun q => (F12_ordinal.ne F1_ordinal (by decide)) (Value.ref.inj q))) (by decide) (by decide) ?_
    show Steps p.tables e below (T26.setTop (mkF m 11 #[.val (.ref w12)] [])) _
    refine XT.iconstV X26.here hx rfl (0 : Int32) (hb hby d_prog_9_method_5_code_11) rfl ?_
    show Steps p.tables e below (T26.setTop (mkF m 12 #[.val (.ref w12)] [(.int (0 : Int32))])) _
    exact retN X26 hx (t := .boolean) Bd.returns (by simp) (hb hby d_prog_9_method_5_code_12) hr
  · show own_Q (some (.int (0 : Int32))) h0 n0 _ T26.heap _
    rw [e26]
    exact ⟨rfl, N0, rfl⟩
theorem pd__I_Lcom_example_recourse_recourse_CaseAction_ : parseMethodDescriptor "(I)Lcom/example/recourse/recourse/CaseAction;" = some ⟨[.int], (some (.object "com/example/recourse/recourse/CaseAction"))⟩ := by decide +kernel
theorem pd___Z : parseMethodDescriptor "()Z" = some ⟨[], (some .boolean)⟩ := by decide +kernel
theorem ef_code_I (m : MethodId) (x0 : Int32) : entryFrame m #[(.int x0)] maxLocals = mkF m 0 #[.val (.int x0), .unset, .unset, .unset] [] := by first | (simp [entryFrame, mkF, argsToLocals, Value.category, maxLocals]; done) | rfl
set_option maxRecDepth 65536 in
set_option maxHeartbeats 40000000 in
theorem own_law_0 (l : Launch) (Z : State) (a0 : Array Value) (hw : ∀ d ∈ tables_1, d.before a0 Z = true) (ws : List Jvm.Cond) (p1 : Int32) (w0 w1 w2 w3 w4 w5 w6 w7 w8 w9 w10 w11 w12 : Addr) (h0 : Heap) (n0 : Nat) (Z0 : n0 ≤ h0.size) (P : own_P Z h0 w0 w1 w2 w3 w4 w5 w6 w7 w8 w9 w10 w11 w12) (hk : ((p1 &&& (2147483647 : Int32)) % (13 : Int32)) = (0 : Int32)) :
    MetFree l x (head1 (Jvm.Cond.code x code maxLocals ret :: ws) room_1) (fun a U => a = #[(.int p1)] ∧ Z.Warmed39 U.vm ∧ U.heap = h0) (fun _ _ _ _ _ => True) (fun _ U o U' => ∃ v L, o = .returned v ∧ own_Q0 n0 v U'.heap L ∧ FrameEnd U o U' L room_1.cells room_1.slots) := by
  refine MetFree.of_bodySF (plainFor_of_name pn_com_example_recourse_recourse_CaseActionGivesAmountBackPinLaw) hisR ?_
  intro p e s m args below meth c s₁ Bd hml0 hP hK
  obtain ⟨rfl, hZ, hh⟩ := hP
  have hx := Bd.exec
  have hby := Bd.bytes
  have hml : c.maxLocals = 4 := hml0
  have hown : s.vm.findClass "com/example/recourse/recourse/CaseActionGivesAmountBackPinLaw" = some m.cls := findClass_of_methodNamed Bd.named
  have hnm := (name_of_methodNamed Bd.named Bd.method).1
  have X0 : Stand p l e room_1 s m #[(.int p1)] below meth c s₁ [] 0 0 := Stand.of_body Bd
  have e0 : s₁.heap = h0 := by rw [← hh, Bd.state]; rfl
  have N0 := Fr.nil n0
  have pre0 : ∀ t, Steps p.tables e below (s₁.setTop (mkF m 0 #[.val (.int p1), .unset, .unset, .unset] [])) t → Steps p.tables e below (s₁.setTop (entryFrame m #[(.int p1)] maxLocals)) t := fun t k => castTop (ef_code_I m p1) k
  have P0 := P; obtain ⟨S0, E0, F0_ordinal, S1, E1, F1_ordinal, S2, E2, F2_ordinal, S3, E3, F3_ordinal, S4, E4, F4_ordinal, S5, E5, F5_ordinal, S6, E6, F6_ordinal, S7, E7, F7_ordinal, S8, E8, F8_ordinal, S9, E9, F9_ordinal, S10, E10, F10_ordinal, S11, E11, F11_ordinal, S12, E12, F12_ordinal⟩ := P0
  obtain ⟨_, _, ⟨T27, L27, k27, n27⟩, -, X27, ⟨Lc27, hQ27, l27, y27, z27⟩, st27⟩ := Jvm.LawKit.callS X0 hx (y := (⟨"com/example/recourse/recourse/CaseActionGivesAmountBackPinLaw", "pick", "(I)Lcom/example/recourse/recourse/CaseAction;"⟩ : MethodName)) hown (mvT hZ (hw _ (List.mem_of_getElem? (i := 1) rfl))) (mvT hZ (hw _ (List.mem_of_getElem? (i := 2) rfl))) (mvT hZ (hw _ (List.mem_of_getElem? (i := 3) rfl))) (mvT hZ (hw _ (List.mem_of_getElem? (i := 4) rfl))) (by decide) (backOf (W := 0) (own_pick_0 l Z a0 hw [] w0 w1 w2 w3 w4 w5 w6 w7 w8 w9 w10 w11 w12 h0 n0 Z0 P) hZ (hw _ (List.mem_of_getElem? (i := 4) rfl)) (hw _ (List.mem_of_getElem? (i := 3) rfl)) (by decide) (by decide)) (g := (mkF m 9 #[.val (.int p1), .val (.int (0 : Int32)), .unset, .unset] [(.int (0 : Int32))])) rfl (by rw [hml]; rfl) (argsL := [(.int (0 : Int32))]) (rest := []) (lenOf pd__I_Lcom_example_recourse_recourse_CaseAction_ rfl) rfl (by show 2 * 0 + _ ≤ _; exact Nat.le_of_eq rfl) (hb hby at_9) (fun _ _ => ⟨rfl, e0, (by decide : 0 + 0 ≤ _), (by decide : 0 + 0 ≤ _)⟩)
  dsimp only [Pt.U, Pt.locs, Pt.cells, Pt.slots] at X27 l27 y27 z27 st27 hQ27
  subst l27 y27 z27
  obtain ⟨rfl, N27q, e27⟩ := hQ27
  have N27 := Fr.app N0 N27q
  obtain ⟨cq28, kq28, q28a, q28b, q28c⟩ := isOf hZ e27 E0
  obtain ⟨_, _, ⟨T28, L28, k28, n28⟩, -, X28, ⟨Lc28, hQ28, l28, y28, z28⟩, st28⟩ := X27.virtualBack hx (y := (⟨"com/example/recourse/recourse/CaseAction", "givesAmountBack", "()Z"⟩ : MethodName)) (z := (⟨"com/example/recourse/recourse/CaseAction", "givesAmountBack", "()Z"⟩ : MethodName)) hown (mvT hZ (hw _ (List.mem_of_getElem? (i := 8) rfl))) (mvT hZ (hw _ (List.mem_of_getElem? (i := 9) rfl))) (notFace_of_selects (args := #[]) (mvT hZ (hw _ (List.mem_of_getElem? (i := 11) rfl)))) (mvT hZ (hw _ (List.mem_of_getElem? (i := 11) rfl))) (mvT hZ (hw _ (List.mem_of_getElem? (i := 10) rfl))) (by decide) (backOf (W := 0) (own_givesAmountBack_0 l Z a0 hw [] w0 w1 w2 w3 w4 w5 w6 w7 w8 w9 w10 w11 w12 h0 n0 Z0 P) hZ (hw _ (List.mem_of_getElem? (i := 12) rfl)) (hw _ (List.mem_of_getElem? (i := 6) rfl)) (by decide) (by decide)) q28a q28c (g := (mkF m 26 #[.val (.int p1), .val (.int (0 : Int32)), .val (.ref w0), .val (.int (0 : Int32))] [(.ref w0)])) rfl (by rw [hml]; rfl) (Steps.refl _) (argsL := []) (rest := []) (lenOf pd___Z rfl) rfl (by show 2 * 0 + _ ≤ _; exact Nat.le_of_eq rfl) (hb hby at_26) (fun _ _ => ⟨rfl, e27, (by decide : 0 + 0 ≤ _), (by decide : 0 + 0 ≤ _)⟩)
  dsimp only [Pt.U, Pt.locs, Pt.cells, Pt.slots] at X28 l28 y28 z28 st28 hQ28
  subst l28 y28 z28
  obtain ⟨rfl, N28q, e28⟩ := hQ28
  have N28 := Fr.app N27 N28q
  obtain ⟨fs, hr, hrun, hended, hW, hsame⟩ := X28.leave (v := some (.int (1 : Int32))) (fun h => by rw [Bd.returns] at h; cases h)
  refine ⟨_, _, pre0 _ ?_, hrun, hended, _, _, rfl, ?_, ⟨_, rfl⟩, hW, hsame.mono (by decide) (by decide)⟩
  · show Steps p.tables e below (s₁.setTop (mkF m 0 #[.val (.int p1), .unset, .unset, .unset] [])) _
    refine XS.iloadN X0.here hx rfl (hb hby at_0) rfl ?_
    show Steps p.tables e below (s₁.setTop (mkF m 1 #[.val (.int p1), .unset, .unset, .unset] [(.int p1)])) _
    refine Jvm.Stand.ldcI X0 hx hown (mvT hZ (hw _ (List.mem_of_getElem? (i := 0) rfl))) rfl (hb hby at_1) ?_
    show Steps p.tables e below (s₁.setTop (mkF m 3 #[.val (.int p1), .unset, .unset, .unset] [(.int (2147483647 : Int32)), (.int p1)])) _
    refine XS.iand X0.here hx rfl (hb hby at_3) rfl ?_
    show Steps p.tables e below (s₁.setTop (mkF m 4 #[.val (.int p1), .unset, .unset, .unset] [(.int (p1 &&& (2147483647 : Int32)))])) _
    refine XT.bipushV X0.here hx rfl (13 : Int32) (hb hby at_4) (by decide) ?_
    show Steps p.tables e below (s₁.setTop (mkF m 6 #[.val (.int p1), .unset, .unset, .unset] [(.int (13 : Int32)), (.int (p1 &&& (2147483647 : Int32)))])) _
    refine iremM X0 hx rfl (hb hby at_6) rfl (by decide) ?_
    show Steps p.tables e below (s₁.setTop (mkF m 7 #[.val (.int p1), .unset, .unset, .unset] [(.int ((p1 &&& (2147483647 : Int32)) % (13 : Int32)))])) _
    rw [hk]
    show Steps p.tables e below (s₁.setTop (mkF m 7 #[.val (.int p1), .unset, .unset, .unset] [(.int (0 : Int32))])) _
    refine XS.istoreN X0.here hx rfl (hb hby at_7) rfl (l' := #[.val (.int p1), .val (.int (0 : Int32)), .unset, .unset]) rfl ?_
    show Steps p.tables e below (s₁.setTop (mkF m 8 #[.val (.int p1), .val (.int (0 : Int32)), .unset, .unset] [])) _
    refine XS.iloadN X0.here hx rfl (hb hby at_8) rfl ?_
    show Steps p.tables e below (s₁.setTop (mkF m 9 #[.val (.int p1), .val (.int (0 : Int32)), .unset, .unset] [(.int (0 : Int32))])) _
    refine st27 _ ?_
    show Steps p.tables e below (T27.setTop (mkF m 12 #[.val (.int p1), .val (.int (0 : Int32)), .unset, .unset] [(.ref w0)])) _
    refine XS.astoreN X27.here hx rfl (hb hby at_12) rfl rfl (l' := #[.val (.int p1), .val (.int (0 : Int32)), .val (.ref w0), .unset]) rfl ?_
    show Steps p.tables e below (T27.setTop (mkF m 13 #[.val (.int p1), .val (.int (0 : Int32)), .val (.ref w0), .unset] [])) _
    refine XS.iloadN X27.here hx rfl (hb hby at_13) rfl ?_
    show Steps p.tables e below (T27.setTop (mkF m 14 #[.val (.int p1), .val (.int (0 : Int32)), .val (.ref w0), .unset] [(.int (0 : Int32))])) _
    refine XT.bipushV X27.here hx rfl (7 : Int32) (hb hby at_14) (by decide) ?_
    show Steps p.tables e below (T27.setTop (mkF m 16 #[.val (.int p1), .val (.int (0 : Int32)), .val (.ref w0), .unset] [(.int (7 : Int32)), (.int (0 : Int32))])) _
    refine XS.icmpYes X27.here hx rfl (pc0 := 16) (pc' := 23) rfl (hb hby at_16) rfl (by decide) (by decide) (by decide) ?_
    show Steps p.tables e below (T27.setTop (mkF m 23 #[.val (.int p1), .val (.int (0 : Int32)), .val (.ref w0), .unset] [])) _
    refine XT.iconstV X27.here hx rfl (0 : Int32) (hb hby at_23) rfl ?_
    show Steps p.tables e below (T27.setTop (mkF m 24 #[.val (.int p1), .val (.int (0 : Int32)), .val (.ref w0), .unset] [(.int (0 : Int32))])) _
    refine XS.istoreN X27.here hx rfl (hb hby at_24) rfl (l' := #[.val (.int p1), .val (.int (0 : Int32)), .val (.ref w0), .val (.int (0 : Int32))]) rfl ?_
    show Steps p.tables e below (T27.setTop (mkF m 25 #[.val (.int p1), .val (.int (0 : Int32)), .val (.ref w0), .val (.int (0 : Int32))] [])) _
    refine XS.aloadN X27.here hx rfl (hb hby at_25) rfl rfl ?_
    show Steps p.tables e below (T27.setTop (mkF m 26 #[.val (.int p1), .val (.int (0 : Int32)), .val (.ref w0), .val (.int (0 : Int32))] [(.ref w0)])) _
    refine st28.trans ?_
    show Steps p.tables e below (T28.setTop (mkF m 29 #[.val (.int p1), .val (.int (0 : Int32)), .val (.ref w0), .val (.int (0 : Int32))] [(.int (0 : Int32))])) _
    refine XS.iloadN X28.here hx rfl (hb hby at_29) rfl ?_
    show Steps p.tables e below (T28.setTop (mkF m 30 #[.val (.int p1), .val (.int (0 : Int32)), .val (.ref w0), .val (.int (0 : Int32))] [(.int (0 : Int32)), (.int (0 : Int32))])) _
    refine XS.icmpNo X28.here hx rfl (hb hby at_30) rfl (by decide) ?_
    show Steps p.tables e below (T28.setTop (mkF m 33 #[.val (.int p1), .val (.int (0 : Int32)), .val (.ref w0), .val (.int (0 : Int32))] [])) _
    refine XT.iconstV X28.here hx rfl (1 : Int32) (hb hby at_33) rfl ?_
    show Steps p.tables e below (T28.setTop (mkF m 34 #[.val (.int p1), .val (.int (0 : Int32)), .val (.ref w0), .val (.int (0 : Int32))] [(.int (1 : Int32))])) _
    refine XS.goto X28.here hx rfl (pc0 := 34) (pc' := 38) rfl (hb hby at_34) (by decide) (by decide) ?_
    show Steps p.tables e below (T28.setTop (mkF m 38 #[.val (.int p1), .val (.int (0 : Int32)), .val (.ref w0), .val (.int (0 : Int32))] [(.int (1 : Int32))])) _
    exact retN X28 hx (t := .boolean) Bd.returns (by simp) (hb hby at_38) hr
  · show own_Q0 n0 _ T28.heap _
    exact ⟨rfl, N28⟩
set_option maxRecDepth 65536 in
set_option maxHeartbeats 40000000 in
theorem own_law_1 (l : Launch) (Z : State) (a0 : Array Value) (hw : ∀ d ∈ tables_1, d.before a0 Z = true) (ws : List Jvm.Cond) (p1 : Int32) (w0 w1 w2 w3 w4 w5 w6 w7 w8 w9 w10 w11 w12 : Addr) (h0 : Heap) (n0 : Nat) (Z0 : n0 ≤ h0.size) (P : own_P Z h0 w0 w1 w2 w3 w4 w5 w6 w7 w8 w9 w10 w11 w12) (hk : ((p1 &&& (2147483647 : Int32)) % (13 : Int32)) = (1 : Int32)) :
    MetFree l x (head1 (Jvm.Cond.code x code maxLocals ret :: ws) room_1) (fun a U => a = #[(.int p1)] ∧ Z.Warmed39 U.vm ∧ U.heap = h0) (fun _ _ _ _ _ => True) (fun _ U o U' => ∃ v L, o = .returned v ∧ own_Q0 n0 v U'.heap L ∧ FrameEnd U o U' L room_1.cells room_1.slots) := by
  refine MetFree.of_bodySF (plainFor_of_name pn_com_example_recourse_recourse_CaseActionGivesAmountBackPinLaw) hisR ?_
  intro p e s m args below meth c s₁ Bd hml0 hP hK
  obtain ⟨rfl, hZ, hh⟩ := hP
  have hx := Bd.exec
  have hby := Bd.bytes
  have hml : c.maxLocals = 4 := hml0
  have hown : s.vm.findClass "com/example/recourse/recourse/CaseActionGivesAmountBackPinLaw" = some m.cls := findClass_of_methodNamed Bd.named
  have hnm := (name_of_methodNamed Bd.named Bd.method).1
  have X0 : Stand p l e room_1 s m #[(.int p1)] below meth c s₁ [] 0 0 := Stand.of_body Bd
  have e0 : s₁.heap = h0 := by rw [← hh, Bd.state]; rfl
  have N0 := Fr.nil n0
  have pre0 : ∀ t, Steps p.tables e below (s₁.setTop (mkF m 0 #[.val (.int p1), .unset, .unset, .unset] [])) t → Steps p.tables e below (s₁.setTop (entryFrame m #[(.int p1)] maxLocals)) t := fun t k => castTop (ef_code_I m p1) k
  have P0 := P; obtain ⟨S0, E0, F0_ordinal, S1, E1, F1_ordinal, S2, E2, F2_ordinal, S3, E3, F3_ordinal, S4, E4, F4_ordinal, S5, E5, F5_ordinal, S6, E6, F6_ordinal, S7, E7, F7_ordinal, S8, E8, F8_ordinal, S9, E9, F9_ordinal, S10, E10, F10_ordinal, S11, E11, F11_ordinal, S12, E12, F12_ordinal⟩ := P0
  obtain ⟨_, _, ⟨T29, L29, k29, n29⟩, -, X29, ⟨Lc29, hQ29, l29, y29, z29⟩, st29⟩ := Jvm.LawKit.callS X0 hx (y := (⟨"com/example/recourse/recourse/CaseActionGivesAmountBackPinLaw", "pick", "(I)Lcom/example/recourse/recourse/CaseAction;"⟩ : MethodName)) hown (mvT hZ (hw _ (List.mem_of_getElem? (i := 1) rfl))) (mvT hZ (hw _ (List.mem_of_getElem? (i := 2) rfl))) (mvT hZ (hw _ (List.mem_of_getElem? (i := 3) rfl))) (mvT hZ (hw _ (List.mem_of_getElem? (i := 4) rfl))) (by decide) (backOf (W := 0) (own_pick_1 l Z a0 hw [] w0 w1 w2 w3 w4 w5 w6 w7 w8 w9 w10 w11 w12 h0 n0 Z0 P) hZ (hw _ (List.mem_of_getElem? (i := 4) rfl)) (hw _ (List.mem_of_getElem? (i := 3) rfl)) (by decide) (by decide)) (g := (mkF m 9 #[.val (.int p1), .val (.int (1 : Int32)), .unset, .unset] [(.int (1 : Int32))])) rfl (by rw [hml]; rfl) (argsL := [(.int (1 : Int32))]) (rest := []) (lenOf pd__I_Lcom_example_recourse_recourse_CaseAction_ rfl) rfl (by show 2 * 0 + _ ≤ _; exact Nat.le_of_eq rfl) (hb hby at_9) (fun _ _ => ⟨rfl, e0, (by decide : 0 + 0 ≤ _), (by decide : 0 + 0 ≤ _)⟩)
  dsimp only [Pt.U, Pt.locs, Pt.cells, Pt.slots] at X29 l29 y29 z29 st29 hQ29
  subst l29 y29 z29
  obtain ⟨rfl, N29q, e29⟩ := hQ29
  have N29 := Fr.app N0 N29q
  obtain ⟨cq30, kq30, q30a, q30b, q30c⟩ := isOf hZ e29 E8
  obtain ⟨_, _, ⟨T30, L30, k30, n30⟩, -, X30, ⟨Lc30, hQ30, l30, y30, z30⟩, st30⟩ := X29.virtualBack hx (y := (⟨"com/example/recourse/recourse/CaseAction", "givesAmountBack", "()Z"⟩ : MethodName)) (z := (⟨"com/example/recourse/recourse/CaseAction", "givesAmountBack", "()Z"⟩ : MethodName)) hown (mvT hZ (hw _ (List.mem_of_getElem? (i := 8) rfl))) (mvT hZ (hw _ (List.mem_of_getElem? (i := 9) rfl))) (notFace_of_selects (args := #[]) (mvT hZ (hw _ (List.mem_of_getElem? (i := 11) rfl)))) (mvT hZ (hw _ (List.mem_of_getElem? (i := 11) rfl))) (mvT hZ (hw _ (List.mem_of_getElem? (i := 10) rfl))) (by decide) (backOf (W := 0) (own_givesAmountBack_8 l Z a0 hw [] w0 w1 w2 w3 w4 w5 w6 w7 w8 w9 w10 w11 w12 h0 n0 Z0 P) hZ (hw _ (List.mem_of_getElem? (i := 12) rfl)) (hw _ (List.mem_of_getElem? (i := 6) rfl)) (by decide) (by decide)) q30a q30c (g := (mkF m 26 #[.val (.int p1), .val (.int (1 : Int32)), .val (.ref w8), .val (.int (0 : Int32))] [(.ref w8)])) rfl (by rw [hml]; rfl) (Steps.refl _) (argsL := []) (rest := []) (lenOf pd___Z rfl) rfl (by show 2 * 0 + _ ≤ _; exact Nat.le_of_eq rfl) (hb hby at_26) (fun _ _ => ⟨rfl, e29, (by decide : 0 + 0 ≤ _), (by decide : 0 + 0 ≤ _)⟩)
  dsimp only [Pt.U, Pt.locs, Pt.cells, Pt.slots] at X30 l30 y30 z30 st30 hQ30
  subst l30 y30 z30
  obtain ⟨rfl, N30q, e30⟩ := hQ30
  have N30 := Fr.app N29 N30q
  obtain ⟨fs, hr, hrun, hended, hW, hsame⟩ := X30.leave (v := some (.int (1 : Int32))) (fun h => by rw [Bd.returns] at h; cases h)
  refine ⟨_, _, pre0 _ ?_, hrun, hended, _, _, rfl, ?_, ⟨_, rfl⟩, hW, hsame.mono (by decide) (by decide)⟩
  · show Steps p.tables e below (s₁.setTop (mkF m 0 #[.val (.int p1), .unset, .unset, .unset] [])) _
    refine XS.iloadN X0.here hx rfl (hb hby at_0) rfl ?_
    show Steps p.tables e below (s₁.setTop (mkF m 1 #[.val (.int p1), .unset, .unset, .unset] [(.int p1)])) _
    refine Jvm.Stand.ldcI X0 hx hown (mvT hZ (hw _ (List.mem_of_getElem? (i := 0) rfl))) rfl (hb hby at_1) ?_
    show Steps p.tables e below (s₁.setTop (mkF m 3 #[.val (.int p1), .unset, .unset, .unset] [(.int (2147483647 : Int32)), (.int p1)])) _
    refine XS.iand X0.here hx rfl (hb hby at_3) rfl ?_
    show Steps p.tables e below (s₁.setTop (mkF m 4 #[.val (.int p1), .unset, .unset, .unset] [(.int (p1 &&& (2147483647 : Int32)))])) _
    refine XT.bipushV X0.here hx rfl (13 : Int32) (hb hby at_4) (by decide) ?_
    show Steps p.tables e below (s₁.setTop (mkF m 6 #[.val (.int p1), .unset, .unset, .unset] [(.int (13 : Int32)), (.int (p1 &&& (2147483647 : Int32)))])) _
    refine iremM X0 hx rfl (hb hby at_6) rfl (by decide) ?_
    show Steps p.tables e below (s₁.setTop (mkF m 7 #[.val (.int p1), .unset, .unset, .unset] [(.int ((p1 &&& (2147483647 : Int32)) % (13 : Int32)))])) _
    rw [hk]
    show Steps p.tables e below (s₁.setTop (mkF m 7 #[.val (.int p1), .unset, .unset, .unset] [(.int (1 : Int32))])) _
    refine XS.istoreN X0.here hx rfl (hb hby at_7) rfl (l' := #[.val (.int p1), .val (.int (1 : Int32)), .unset, .unset]) rfl ?_
    show Steps p.tables e below (s₁.setTop (mkF m 8 #[.val (.int p1), .val (.int (1 : Int32)), .unset, .unset] [])) _
    refine XS.iloadN X0.here hx rfl (hb hby at_8) rfl ?_
    show Steps p.tables e below (s₁.setTop (mkF m 9 #[.val (.int p1), .val (.int (1 : Int32)), .unset, .unset] [(.int (1 : Int32))])) _
    refine st29 _ ?_
    show Steps p.tables e below (T29.setTop (mkF m 12 #[.val (.int p1), .val (.int (1 : Int32)), .unset, .unset] [(.ref w8)])) _
    refine XS.astoreN X29.here hx rfl (hb hby at_12) rfl rfl (l' := #[.val (.int p1), .val (.int (1 : Int32)), .val (.ref w8), .unset]) rfl ?_
    show Steps p.tables e below (T29.setTop (mkF m 13 #[.val (.int p1), .val (.int (1 : Int32)), .val (.ref w8), .unset] [])) _
    refine XS.iloadN X29.here hx rfl (hb hby at_13) rfl ?_
    show Steps p.tables e below (T29.setTop (mkF m 14 #[.val (.int p1), .val (.int (1 : Int32)), .val (.ref w8), .unset] [(.int (1 : Int32))])) _
    refine XT.bipushV X29.here hx rfl (7 : Int32) (hb hby at_14) (by decide) ?_
    show Steps p.tables e below (T29.setTop (mkF m 16 #[.val (.int p1), .val (.int (1 : Int32)), .val (.ref w8), .unset] [(.int (7 : Int32)), (.int (1 : Int32))])) _
    refine XS.icmpYes X29.here hx rfl (pc0 := 16) (pc' := 23) rfl (hb hby at_16) rfl (by decide) (by decide) (by decide) ?_
    show Steps p.tables e below (T29.setTop (mkF m 23 #[.val (.int p1), .val (.int (1 : Int32)), .val (.ref w8), .unset] [])) _
    refine XT.iconstV X29.here hx rfl (0 : Int32) (hb hby at_23) rfl ?_
    show Steps p.tables e below (T29.setTop (mkF m 24 #[.val (.int p1), .val (.int (1 : Int32)), .val (.ref w8), .unset] [(.int (0 : Int32))])) _
    refine XS.istoreN X29.here hx rfl (hb hby at_24) rfl (l' := #[.val (.int p1), .val (.int (1 : Int32)), .val (.ref w8), .val (.int (0 : Int32))]) rfl ?_
    show Steps p.tables e below (T29.setTop (mkF m 25 #[.val (.int p1), .val (.int (1 : Int32)), .val (.ref w8), .val (.int (0 : Int32))] [])) _
    refine XS.aloadN X29.here hx rfl (hb hby at_25) rfl rfl ?_
    show Steps p.tables e below (T29.setTop (mkF m 26 #[.val (.int p1), .val (.int (1 : Int32)), .val (.ref w8), .val (.int (0 : Int32))] [(.ref w8)])) _
    refine st30.trans ?_
    show Steps p.tables e below (T30.setTop (mkF m 29 #[.val (.int p1), .val (.int (1 : Int32)), .val (.ref w8), .val (.int (0 : Int32))] [(.int (0 : Int32))])) _
    refine XS.iloadN X30.here hx rfl (hb hby at_29) rfl ?_
    show Steps p.tables e below (T30.setTop (mkF m 30 #[.val (.int p1), .val (.int (1 : Int32)), .val (.ref w8), .val (.int (0 : Int32))] [(.int (0 : Int32)), (.int (0 : Int32))])) _
    refine XS.icmpNo X30.here hx rfl (hb hby at_30) rfl (by decide) ?_
    show Steps p.tables e below (T30.setTop (mkF m 33 #[.val (.int p1), .val (.int (1 : Int32)), .val (.ref w8), .val (.int (0 : Int32))] [])) _
    refine XT.iconstV X30.here hx rfl (1 : Int32) (hb hby at_33) rfl ?_
    show Steps p.tables e below (T30.setTop (mkF m 34 #[.val (.int p1), .val (.int (1 : Int32)), .val (.ref w8), .val (.int (0 : Int32))] [(.int (1 : Int32))])) _
    refine XS.goto X30.here hx rfl (pc0 := 34) (pc' := 38) rfl (hb hby at_34) (by decide) (by decide) ?_
    show Steps p.tables e below (T30.setTop (mkF m 38 #[.val (.int p1), .val (.int (1 : Int32)), .val (.ref w8), .val (.int (0 : Int32))] [(.int (1 : Int32))])) _
    exact retN X30 hx (t := .boolean) Bd.returns (by simp) (hb hby at_38) hr
  · show own_Q0 n0 _ T30.heap _
    exact ⟨rfl, N30⟩
set_option maxRecDepth 65536 in
set_option maxHeartbeats 40000000 in
theorem own_law_2 (l : Launch) (Z : State) (a0 : Array Value) (hw : ∀ d ∈ tables_1, d.before a0 Z = true) (ws : List Jvm.Cond) (p1 : Int32) (w0 w1 w2 w3 w4 w5 w6 w7 w8 w9 w10 w11 w12 : Addr) (h0 : Heap) (n0 : Nat) (Z0 : n0 ≤ h0.size) (P : own_P Z h0 w0 w1 w2 w3 w4 w5 w6 w7 w8 w9 w10 w11 w12) (hk : ((p1 &&& (2147483647 : Int32)) % (13 : Int32)) = (2 : Int32)) :
    MetFree l x (head1 (Jvm.Cond.code x code maxLocals ret :: ws) room_1) (fun a U => a = #[(.int p1)] ∧ Z.Warmed39 U.vm ∧ U.heap = h0) (fun _ _ _ _ _ => True) (fun _ U o U' => ∃ v L, o = .returned v ∧ own_Q0 n0 v U'.heap L ∧ FrameEnd U o U' L room_1.cells room_1.slots) := by
  refine MetFree.of_bodySF (plainFor_of_name pn_com_example_recourse_recourse_CaseActionGivesAmountBackPinLaw) hisR ?_
  intro p e s m args below meth c s₁ Bd hml0 hP hK
  obtain ⟨rfl, hZ, hh⟩ := hP
  have hx := Bd.exec
  have hby := Bd.bytes
  have hml : c.maxLocals = 4 := hml0
  have hown : s.vm.findClass "com/example/recourse/recourse/CaseActionGivesAmountBackPinLaw" = some m.cls := findClass_of_methodNamed Bd.named
  have hnm := (name_of_methodNamed Bd.named Bd.method).1
  have X0 : Stand p l e room_1 s m #[(.int p1)] below meth c s₁ [] 0 0 := Stand.of_body Bd
  have e0 : s₁.heap = h0 := by rw [← hh, Bd.state]; rfl
  have N0 := Fr.nil n0
  have pre0 : ∀ t, Steps p.tables e below (s₁.setTop (mkF m 0 #[.val (.int p1), .unset, .unset, .unset] [])) t → Steps p.tables e below (s₁.setTop (entryFrame m #[(.int p1)] maxLocals)) t := fun t k => castTop (ef_code_I m p1) k
  have P0 := P; obtain ⟨S0, E0, F0_ordinal, S1, E1, F1_ordinal, S2, E2, F2_ordinal, S3, E3, F3_ordinal, S4, E4, F4_ordinal, S5, E5, F5_ordinal, S6, E6, F6_ordinal, S7, E7, F7_ordinal, S8, E8, F8_ordinal, S9, E9, F9_ordinal, S10, E10, F10_ordinal, S11, E11, F11_ordinal, S12, E12, F12_ordinal⟩ := P0
  obtain ⟨_, _, ⟨T31, L31, k31, n31⟩, -, X31, ⟨Lc31, hQ31, l31, y31, z31⟩, st31⟩ := Jvm.LawKit.callS X0 hx (y := (⟨"com/example/recourse/recourse/CaseActionGivesAmountBackPinLaw", "pick", "(I)Lcom/example/recourse/recourse/CaseAction;"⟩ : MethodName)) hown (mvT hZ (hw _ (List.mem_of_getElem? (i := 1) rfl))) (mvT hZ (hw _ (List.mem_of_getElem? (i := 2) rfl))) (mvT hZ (hw _ (List.mem_of_getElem? (i := 3) rfl))) (mvT hZ (hw _ (List.mem_of_getElem? (i := 4) rfl))) (by decide) (backOf (W := 0) (own_pick_2 l Z a0 hw [] w0 w1 w2 w3 w4 w5 w6 w7 w8 w9 w10 w11 w12 h0 n0 Z0 P) hZ (hw _ (List.mem_of_getElem? (i := 4) rfl)) (hw _ (List.mem_of_getElem? (i := 3) rfl)) (by decide) (by decide)) (g := (mkF m 9 #[.val (.int p1), .val (.int (2 : Int32)), .unset, .unset] [(.int (2 : Int32))])) rfl (by rw [hml]; rfl) (argsL := [(.int (2 : Int32))]) (rest := []) (lenOf pd__I_Lcom_example_recourse_recourse_CaseAction_ rfl) rfl (by show 2 * 0 + _ ≤ _; exact Nat.le_of_eq rfl) (hb hby at_9) (fun _ _ => ⟨rfl, e0, (by decide : 0 + 0 ≤ _), (by decide : 0 + 0 ≤ _)⟩)
  dsimp only [Pt.U, Pt.locs, Pt.cells, Pt.slots] at X31 l31 y31 z31 st31 hQ31
  subst l31 y31 z31
  obtain ⟨rfl, N31q, e31⟩ := hQ31
  have N31 := Fr.app N0 N31q
  obtain ⟨cq32, kq32, q32a, q32b, q32c⟩ := isOf hZ e31 E6
  obtain ⟨_, _, ⟨T32, L32, k32, n32⟩, -, X32, ⟨Lc32, hQ32, l32, y32, z32⟩, st32⟩ := X31.virtualBack hx (y := (⟨"com/example/recourse/recourse/CaseAction", "givesAmountBack", "()Z"⟩ : MethodName)) (z := (⟨"com/example/recourse/recourse/CaseAction", "givesAmountBack", "()Z"⟩ : MethodName)) hown (mvT hZ (hw _ (List.mem_of_getElem? (i := 8) rfl))) (mvT hZ (hw _ (List.mem_of_getElem? (i := 9) rfl))) (notFace_of_selects (args := #[]) (mvT hZ (hw _ (List.mem_of_getElem? (i := 11) rfl)))) (mvT hZ (hw _ (List.mem_of_getElem? (i := 11) rfl))) (mvT hZ (hw _ (List.mem_of_getElem? (i := 10) rfl))) (by decide) (backOf (W := 0) (own_givesAmountBack_6 l Z a0 hw [] w0 w1 w2 w3 w4 w5 w6 w7 w8 w9 w10 w11 w12 h0 n0 Z0 P) hZ (hw _ (List.mem_of_getElem? (i := 12) rfl)) (hw _ (List.mem_of_getElem? (i := 6) rfl)) (by decide) (by decide)) q32a q32c (g := (mkF m 26 #[.val (.int p1), .val (.int (2 : Int32)), .val (.ref w6), .val (.int (0 : Int32))] [(.ref w6)])) rfl (by rw [hml]; rfl) (Steps.refl _) (argsL := []) (rest := []) (lenOf pd___Z rfl) rfl (by show 2 * 0 + _ ≤ _; exact Nat.le_of_eq rfl) (hb hby at_26) (fun _ _ => ⟨rfl, e31, (by decide : 0 + 0 ≤ _), (by decide : 0 + 0 ≤ _)⟩)
  dsimp only [Pt.U, Pt.locs, Pt.cells, Pt.slots] at X32 l32 y32 z32 st32 hQ32
  subst l32 y32 z32
  obtain ⟨rfl, N32q, e32⟩ := hQ32
  have N32 := Fr.app N31 N32q
  obtain ⟨fs, hr, hrun, hended, hW, hsame⟩ := X32.leave (v := some (.int (1 : Int32))) (fun h => by rw [Bd.returns] at h; cases h)
  refine ⟨_, _, pre0 _ ?_, hrun, hended, _, _, rfl, ?_, ⟨_, rfl⟩, hW, hsame.mono (by decide) (by decide)⟩
  · show Steps p.tables e below (s₁.setTop (mkF m 0 #[.val (.int p1), .unset, .unset, .unset] [])) _
    refine XS.iloadN X0.here hx rfl (hb hby at_0) rfl ?_
    show Steps p.tables e below (s₁.setTop (mkF m 1 #[.val (.int p1), .unset, .unset, .unset] [(.int p1)])) _
    refine Jvm.Stand.ldcI X0 hx hown (mvT hZ (hw _ (List.mem_of_getElem? (i := 0) rfl))) rfl (hb hby at_1) ?_
    show Steps p.tables e below (s₁.setTop (mkF m 3 #[.val (.int p1), .unset, .unset, .unset] [(.int (2147483647 : Int32)), (.int p1)])) _
    refine XS.iand X0.here hx rfl (hb hby at_3) rfl ?_
    show Steps p.tables e below (s₁.setTop (mkF m 4 #[.val (.int p1), .unset, .unset, .unset] [(.int (p1 &&& (2147483647 : Int32)))])) _
    refine XT.bipushV X0.here hx rfl (13 : Int32) (hb hby at_4) (by decide) ?_
    show Steps p.tables e below (s₁.setTop (mkF m 6 #[.val (.int p1), .unset, .unset, .unset] [(.int (13 : Int32)), (.int (p1 &&& (2147483647 : Int32)))])) _
    refine iremM X0 hx rfl (hb hby at_6) rfl (by decide) ?_
    show Steps p.tables e below (s₁.setTop (mkF m 7 #[.val (.int p1), .unset, .unset, .unset] [(.int ((p1 &&& (2147483647 : Int32)) % (13 : Int32)))])) _
    rw [hk]
    show Steps p.tables e below (s₁.setTop (mkF m 7 #[.val (.int p1), .unset, .unset, .unset] [(.int (2 : Int32))])) _
    refine XS.istoreN X0.here hx rfl (hb hby at_7) rfl (l' := #[.val (.int p1), .val (.int (2 : Int32)), .unset, .unset]) rfl ?_
    show Steps p.tables e below (s₁.setTop (mkF m 8 #[.val (.int p1), .val (.int (2 : Int32)), .unset, .unset] [])) _
    refine XS.iloadN X0.here hx rfl (hb hby at_8) rfl ?_
    show Steps p.tables e below (s₁.setTop (mkF m 9 #[.val (.int p1), .val (.int (2 : Int32)), .unset, .unset] [(.int (2 : Int32))])) _
    refine st31 _ ?_
    show Steps p.tables e below (T31.setTop (mkF m 12 #[.val (.int p1), .val (.int (2 : Int32)), .unset, .unset] [(.ref w6)])) _
    refine XS.astoreN X31.here hx rfl (hb hby at_12) rfl rfl (l' := #[.val (.int p1), .val (.int (2 : Int32)), .val (.ref w6), .unset]) rfl ?_
    show Steps p.tables e below (T31.setTop (mkF m 13 #[.val (.int p1), .val (.int (2 : Int32)), .val (.ref w6), .unset] [])) _
    refine XS.iloadN X31.here hx rfl (hb hby at_13) rfl ?_
    show Steps p.tables e below (T31.setTop (mkF m 14 #[.val (.int p1), .val (.int (2 : Int32)), .val (.ref w6), .unset] [(.int (2 : Int32))])) _
    refine XT.bipushV X31.here hx rfl (7 : Int32) (hb hby at_14) (by decide) ?_
    show Steps p.tables e below (T31.setTop (mkF m 16 #[.val (.int p1), .val (.int (2 : Int32)), .val (.ref w6), .unset] [(.int (7 : Int32)), (.int (2 : Int32))])) _
    refine XS.icmpYes X31.here hx rfl (pc0 := 16) (pc' := 23) rfl (hb hby at_16) rfl (by decide) (by decide) (by decide) ?_
    show Steps p.tables e below (T31.setTop (mkF m 23 #[.val (.int p1), .val (.int (2 : Int32)), .val (.ref w6), .unset] [])) _
    refine XT.iconstV X31.here hx rfl (0 : Int32) (hb hby at_23) rfl ?_
    show Steps p.tables e below (T31.setTop (mkF m 24 #[.val (.int p1), .val (.int (2 : Int32)), .val (.ref w6), .unset] [(.int (0 : Int32))])) _
    refine XS.istoreN X31.here hx rfl (hb hby at_24) rfl (l' := #[.val (.int p1), .val (.int (2 : Int32)), .val (.ref w6), .val (.int (0 : Int32))]) rfl ?_
    show Steps p.tables e below (T31.setTop (mkF m 25 #[.val (.int p1), .val (.int (2 : Int32)), .val (.ref w6), .val (.int (0 : Int32))] [])) _
    refine XS.aloadN X31.here hx rfl (hb hby at_25) rfl rfl ?_
    show Steps p.tables e below (T31.setTop (mkF m 26 #[.val (.int p1), .val (.int (2 : Int32)), .val (.ref w6), .val (.int (0 : Int32))] [(.ref w6)])) _
    refine st32.trans ?_
    show Steps p.tables e below (T32.setTop (mkF m 29 #[.val (.int p1), .val (.int (2 : Int32)), .val (.ref w6), .val (.int (0 : Int32))] [(.int (0 : Int32))])) _
    refine XS.iloadN X32.here hx rfl (hb hby at_29) rfl ?_
    show Steps p.tables e below (T32.setTop (mkF m 30 #[.val (.int p1), .val (.int (2 : Int32)), .val (.ref w6), .val (.int (0 : Int32))] [(.int (0 : Int32)), (.int (0 : Int32))])) _
    refine XS.icmpNo X32.here hx rfl (hb hby at_30) rfl (by decide) ?_
    show Steps p.tables e below (T32.setTop (mkF m 33 #[.val (.int p1), .val (.int (2 : Int32)), .val (.ref w6), .val (.int (0 : Int32))] [])) _
    refine XT.iconstV X32.here hx rfl (1 : Int32) (hb hby at_33) rfl ?_
    show Steps p.tables e below (T32.setTop (mkF m 34 #[.val (.int p1), .val (.int (2 : Int32)), .val (.ref w6), .val (.int (0 : Int32))] [(.int (1 : Int32))])) _
    refine XS.goto X32.here hx rfl (pc0 := 34) (pc' := 38) rfl (hb hby at_34) (by decide) (by decide) ?_
    show Steps p.tables e below (T32.setTop (mkF m 38 #[.val (.int p1), .val (.int (2 : Int32)), .val (.ref w6), .val (.int (0 : Int32))] [(.int (1 : Int32))])) _
    exact retN X32 hx (t := .boolean) Bd.returns (by simp) (hb hby at_38) hr
  · show own_Q0 n0 _ T32.heap _
    exact ⟨rfl, N32⟩
set_option maxRecDepth 65536 in
set_option maxHeartbeats 40000000 in
theorem own_law_3 (l : Launch) (Z : State) (a0 : Array Value) (hw : ∀ d ∈ tables_1, d.before a0 Z = true) (ws : List Jvm.Cond) (p1 : Int32) (w0 w1 w2 w3 w4 w5 w6 w7 w8 w9 w10 w11 w12 : Addr) (h0 : Heap) (n0 : Nat) (Z0 : n0 ≤ h0.size) (P : own_P Z h0 w0 w1 w2 w3 w4 w5 w6 w7 w8 w9 w10 w11 w12) (hk : ((p1 &&& (2147483647 : Int32)) % (13 : Int32)) = (3 : Int32)) :
    MetFree l x (head1 (Jvm.Cond.code x code maxLocals ret :: ws) room_1) (fun a U => a = #[(.int p1)] ∧ Z.Warmed39 U.vm ∧ U.heap = h0) (fun _ _ _ _ _ => True) (fun _ U o U' => ∃ v L, o = .returned v ∧ own_Q0 n0 v U'.heap L ∧ FrameEnd U o U' L room_1.cells room_1.slots) := by
  refine MetFree.of_bodySF (plainFor_of_name pn_com_example_recourse_recourse_CaseActionGivesAmountBackPinLaw) hisR ?_
  intro p e s m args below meth c s₁ Bd hml0 hP hK
  obtain ⟨rfl, hZ, hh⟩ := hP
  have hx := Bd.exec
  have hby := Bd.bytes
  have hml : c.maxLocals = 4 := hml0
  have hown : s.vm.findClass "com/example/recourse/recourse/CaseActionGivesAmountBackPinLaw" = some m.cls := findClass_of_methodNamed Bd.named
  have hnm := (name_of_methodNamed Bd.named Bd.method).1
  have X0 : Stand p l e room_1 s m #[(.int p1)] below meth c s₁ [] 0 0 := Stand.of_body Bd
  have e0 : s₁.heap = h0 := by rw [← hh, Bd.state]; rfl
  have N0 := Fr.nil n0
  have pre0 : ∀ t, Steps p.tables e below (s₁.setTop (mkF m 0 #[.val (.int p1), .unset, .unset, .unset] [])) t → Steps p.tables e below (s₁.setTop (entryFrame m #[(.int p1)] maxLocals)) t := fun t k => castTop (ef_code_I m p1) k
  have P0 := P; obtain ⟨S0, E0, F0_ordinal, S1, E1, F1_ordinal, S2, E2, F2_ordinal, S3, E3, F3_ordinal, S4, E4, F4_ordinal, S5, E5, F5_ordinal, S6, E6, F6_ordinal, S7, E7, F7_ordinal, S8, E8, F8_ordinal, S9, E9, F9_ordinal, S10, E10, F10_ordinal, S11, E11, F11_ordinal, S12, E12, F12_ordinal⟩ := P0
  obtain ⟨_, _, ⟨T33, L33, k33, n33⟩, -, X33, ⟨Lc33, hQ33, l33, y33, z33⟩, st33⟩ := Jvm.LawKit.callS X0 hx (y := (⟨"com/example/recourse/recourse/CaseActionGivesAmountBackPinLaw", "pick", "(I)Lcom/example/recourse/recourse/CaseAction;"⟩ : MethodName)) hown (mvT hZ (hw _ (List.mem_of_getElem? (i := 1) rfl))) (mvT hZ (hw _ (List.mem_of_getElem? (i := 2) rfl))) (mvT hZ (hw _ (List.mem_of_getElem? (i := 3) rfl))) (mvT hZ (hw _ (List.mem_of_getElem? (i := 4) rfl))) (by decide) (backOf (W := 0) (own_pick_3 l Z a0 hw [] w0 w1 w2 w3 w4 w5 w6 w7 w8 w9 w10 w11 w12 h0 n0 Z0 P) hZ (hw _ (List.mem_of_getElem? (i := 4) rfl)) (hw _ (List.mem_of_getElem? (i := 3) rfl)) (by decide) (by decide)) (g := (mkF m 9 #[.val (.int p1), .val (.int (3 : Int32)), .unset, .unset] [(.int (3 : Int32))])) rfl (by rw [hml]; rfl) (argsL := [(.int (3 : Int32))]) (rest := []) (lenOf pd__I_Lcom_example_recourse_recourse_CaseAction_ rfl) rfl (by show 2 * 0 + _ ≤ _; exact Nat.le_of_eq rfl) (hb hby at_9) (fun _ _ => ⟨rfl, e0, (by decide : 0 + 0 ≤ _), (by decide : 0 + 0 ≤ _)⟩)
  dsimp only [Pt.U, Pt.locs, Pt.cells, Pt.slots] at X33 l33 y33 z33 st33 hQ33
  subst l33 y33 z33
  obtain ⟨rfl, N33q, e33⟩ := hQ33
  have N33 := Fr.app N0 N33q
  obtain ⟨cq34, kq34, q34a, q34b, q34c⟩ := isOf hZ e33 E2
  obtain ⟨_, _, ⟨T34, L34, k34, n34⟩, -, X34, ⟨Lc34, hQ34, l34, y34, z34⟩, st34⟩ := X33.virtualBack hx (y := (⟨"com/example/recourse/recourse/CaseAction", "givesAmountBack", "()Z"⟩ : MethodName)) (z := (⟨"com/example/recourse/recourse/CaseAction", "givesAmountBack", "()Z"⟩ : MethodName)) hown (mvT hZ (hw _ (List.mem_of_getElem? (i := 8) rfl))) (mvT hZ (hw _ (List.mem_of_getElem? (i := 9) rfl))) (notFace_of_selects (args := #[]) (mvT hZ (hw _ (List.mem_of_getElem? (i := 11) rfl)))) (mvT hZ (hw _ (List.mem_of_getElem? (i := 11) rfl))) (mvT hZ (hw _ (List.mem_of_getElem? (i := 10) rfl))) (by decide) (backOf (W := 0) (own_givesAmountBack_2 l Z a0 hw [] w0 w1 w2 w3 w4 w5 w6 w7 w8 w9 w10 w11 w12 h0 n0 Z0 P) hZ (hw _ (List.mem_of_getElem? (i := 12) rfl)) (hw _ (List.mem_of_getElem? (i := 6) rfl)) (by decide) (by decide)) q34a q34c (g := (mkF m 26 #[.val (.int p1), .val (.int (3 : Int32)), .val (.ref w2), .val (.int (0 : Int32))] [(.ref w2)])) rfl (by rw [hml]; rfl) (Steps.refl _) (argsL := []) (rest := []) (lenOf pd___Z rfl) rfl (by show 2 * 0 + _ ≤ _; exact Nat.le_of_eq rfl) (hb hby at_26) (fun _ _ => ⟨rfl, e33, (by decide : 0 + 0 ≤ _), (by decide : 0 + 0 ≤ _)⟩)
  dsimp only [Pt.U, Pt.locs, Pt.cells, Pt.slots] at X34 l34 y34 z34 st34 hQ34
  subst l34 y34 z34
  obtain ⟨rfl, N34q, e34⟩ := hQ34
  have N34 := Fr.app N33 N34q
  obtain ⟨fs, hr, hrun, hended, hW, hsame⟩ := X34.leave (v := some (.int (1 : Int32))) (fun h => by rw [Bd.returns] at h; cases h)
  refine ⟨_, _, pre0 _ ?_, hrun, hended, _, _, rfl, ?_, ⟨_, rfl⟩, hW, hsame.mono (by decide) (by decide)⟩
  · show Steps p.tables e below (s₁.setTop (mkF m 0 #[.val (.int p1), .unset, .unset, .unset] [])) _
    refine XS.iloadN X0.here hx rfl (hb hby at_0) rfl ?_
    show Steps p.tables e below (s₁.setTop (mkF m 1 #[.val (.int p1), .unset, .unset, .unset] [(.int p1)])) _
    refine Jvm.Stand.ldcI X0 hx hown (mvT hZ (hw _ (List.mem_of_getElem? (i := 0) rfl))) rfl (hb hby at_1) ?_
    show Steps p.tables e below (s₁.setTop (mkF m 3 #[.val (.int p1), .unset, .unset, .unset] [(.int (2147483647 : Int32)), (.int p1)])) _
    refine XS.iand X0.here hx rfl (hb hby at_3) rfl ?_
    show Steps p.tables e below (s₁.setTop (mkF m 4 #[.val (.int p1), .unset, .unset, .unset] [(.int (p1 &&& (2147483647 : Int32)))])) _
    refine XT.bipushV X0.here hx rfl (13 : Int32) (hb hby at_4) (by decide) ?_
    show Steps p.tables e below (s₁.setTop (mkF m 6 #[.val (.int p1), .unset, .unset, .unset] [(.int (13 : Int32)), (.int (p1 &&& (2147483647 : Int32)))])) _
    refine iremM X0 hx rfl (hb hby at_6) rfl (by decide) ?_
    show Steps p.tables e below (s₁.setTop (mkF m 7 #[.val (.int p1), .unset, .unset, .unset] [(.int ((p1 &&& (2147483647 : Int32)) % (13 : Int32)))])) _
    rw [hk]
    show Steps p.tables e below (s₁.setTop (mkF m 7 #[.val (.int p1), .unset, .unset, .unset] [(.int (3 : Int32))])) _
    refine XS.istoreN X0.here hx rfl (hb hby at_7) rfl (l' := #[.val (.int p1), .val (.int (3 : Int32)), .unset, .unset]) rfl ?_
    show Steps p.tables e below (s₁.setTop (mkF m 8 #[.val (.int p1), .val (.int (3 : Int32)), .unset, .unset] [])) _
    refine XS.iloadN X0.here hx rfl (hb hby at_8) rfl ?_
    show Steps p.tables e below (s₁.setTop (mkF m 9 #[.val (.int p1), .val (.int (3 : Int32)), .unset, .unset] [(.int (3 : Int32))])) _
    refine st33 _ ?_
    show Steps p.tables e below (T33.setTop (mkF m 12 #[.val (.int p1), .val (.int (3 : Int32)), .unset, .unset] [(.ref w2)])) _
    refine XS.astoreN X33.here hx rfl (hb hby at_12) rfl rfl (l' := #[.val (.int p1), .val (.int (3 : Int32)), .val (.ref w2), .unset]) rfl ?_
    show Steps p.tables e below (T33.setTop (mkF m 13 #[.val (.int p1), .val (.int (3 : Int32)), .val (.ref w2), .unset] [])) _
    refine XS.iloadN X33.here hx rfl (hb hby at_13) rfl ?_
    show Steps p.tables e below (T33.setTop (mkF m 14 #[.val (.int p1), .val (.int (3 : Int32)), .val (.ref w2), .unset] [(.int (3 : Int32))])) _
    refine XT.bipushV X33.here hx rfl (7 : Int32) (hb hby at_14) (by decide) ?_
    show Steps p.tables e below (T33.setTop (mkF m 16 #[.val (.int p1), .val (.int (3 : Int32)), .val (.ref w2), .unset] [(.int (7 : Int32)), (.int (3 : Int32))])) _
    refine XS.icmpYes X33.here hx rfl (pc0 := 16) (pc' := 23) rfl (hb hby at_16) rfl (by decide) (by decide) (by decide) ?_
    show Steps p.tables e below (T33.setTop (mkF m 23 #[.val (.int p1), .val (.int (3 : Int32)), .val (.ref w2), .unset] [])) _
    refine XT.iconstV X33.here hx rfl (0 : Int32) (hb hby at_23) rfl ?_
    show Steps p.tables e below (T33.setTop (mkF m 24 #[.val (.int p1), .val (.int (3 : Int32)), .val (.ref w2), .unset] [(.int (0 : Int32))])) _
    refine XS.istoreN X33.here hx rfl (hb hby at_24) rfl (l' := #[.val (.int p1), .val (.int (3 : Int32)), .val (.ref w2), .val (.int (0 : Int32))]) rfl ?_
    show Steps p.tables e below (T33.setTop (mkF m 25 #[.val (.int p1), .val (.int (3 : Int32)), .val (.ref w2), .val (.int (0 : Int32))] [])) _
    refine XS.aloadN X33.here hx rfl (hb hby at_25) rfl rfl ?_
    show Steps p.tables e below (T33.setTop (mkF m 26 #[.val (.int p1), .val (.int (3 : Int32)), .val (.ref w2), .val (.int (0 : Int32))] [(.ref w2)])) _
    refine st34.trans ?_
    show Steps p.tables e below (T34.setTop (mkF m 29 #[.val (.int p1), .val (.int (3 : Int32)), .val (.ref w2), .val (.int (0 : Int32))] [(.int (0 : Int32))])) _
    refine XS.iloadN X34.here hx rfl (hb hby at_29) rfl ?_
    show Steps p.tables e below (T34.setTop (mkF m 30 #[.val (.int p1), .val (.int (3 : Int32)), .val (.ref w2), .val (.int (0 : Int32))] [(.int (0 : Int32)), (.int (0 : Int32))])) _
    refine XS.icmpNo X34.here hx rfl (hb hby at_30) rfl (by decide) ?_
    show Steps p.tables e below (T34.setTop (mkF m 33 #[.val (.int p1), .val (.int (3 : Int32)), .val (.ref w2), .val (.int (0 : Int32))] [])) _
    refine XT.iconstV X34.here hx rfl (1 : Int32) (hb hby at_33) rfl ?_
    show Steps p.tables e below (T34.setTop (mkF m 34 #[.val (.int p1), .val (.int (3 : Int32)), .val (.ref w2), .val (.int (0 : Int32))] [(.int (1 : Int32))])) _
    refine XS.goto X34.here hx rfl (pc0 := 34) (pc' := 38) rfl (hb hby at_34) (by decide) (by decide) ?_
    show Steps p.tables e below (T34.setTop (mkF m 38 #[.val (.int p1), .val (.int (3 : Int32)), .val (.ref w2), .val (.int (0 : Int32))] [(.int (1 : Int32))])) _
    exact retN X34 hx (t := .boolean) Bd.returns (by simp) (hb hby at_38) hr
  · show own_Q0 n0 _ T34.heap _
    exact ⟨rfl, N34⟩
set_option maxRecDepth 65536 in
set_option maxHeartbeats 40000000 in
theorem own_law_4 (l : Launch) (Z : State) (a0 : Array Value) (hw : ∀ d ∈ tables_1, d.before a0 Z = true) (ws : List Jvm.Cond) (p1 : Int32) (w0 w1 w2 w3 w4 w5 w6 w7 w8 w9 w10 w11 w12 : Addr) (h0 : Heap) (n0 : Nat) (Z0 : n0 ≤ h0.size) (P : own_P Z h0 w0 w1 w2 w3 w4 w5 w6 w7 w8 w9 w10 w11 w12) (hk : ((p1 &&& (2147483647 : Int32)) % (13 : Int32)) = (4 : Int32)) :
    MetFree l x (head1 (Jvm.Cond.code x code maxLocals ret :: ws) room_1) (fun a U => a = #[(.int p1)] ∧ Z.Warmed39 U.vm ∧ U.heap = h0) (fun _ _ _ _ _ => True) (fun _ U o U' => ∃ v L, o = .returned v ∧ own_Q0 n0 v U'.heap L ∧ FrameEnd U o U' L room_1.cells room_1.slots) := by
  refine MetFree.of_bodySF (plainFor_of_name pn_com_example_recourse_recourse_CaseActionGivesAmountBackPinLaw) hisR ?_
  intro p e s m args below meth c s₁ Bd hml0 hP hK
  obtain ⟨rfl, hZ, hh⟩ := hP
  have hx := Bd.exec
  have hby := Bd.bytes
  have hml : c.maxLocals = 4 := hml0
  have hown : s.vm.findClass "com/example/recourse/recourse/CaseActionGivesAmountBackPinLaw" = some m.cls := findClass_of_methodNamed Bd.named
  have hnm := (name_of_methodNamed Bd.named Bd.method).1
  have X0 : Stand p l e room_1 s m #[(.int p1)] below meth c s₁ [] 0 0 := Stand.of_body Bd
  have e0 : s₁.heap = h0 := by rw [← hh, Bd.state]; rfl
  have N0 := Fr.nil n0
  have pre0 : ∀ t, Steps p.tables e below (s₁.setTop (mkF m 0 #[.val (.int p1), .unset, .unset, .unset] [])) t → Steps p.tables e below (s₁.setTop (entryFrame m #[(.int p1)] maxLocals)) t := fun t k => castTop (ef_code_I m p1) k
  have P0 := P; obtain ⟨S0, E0, F0_ordinal, S1, E1, F1_ordinal, S2, E2, F2_ordinal, S3, E3, F3_ordinal, S4, E4, F4_ordinal, S5, E5, F5_ordinal, S6, E6, F6_ordinal, S7, E7, F7_ordinal, S8, E8, F8_ordinal, S9, E9, F9_ordinal, S10, E10, F10_ordinal, S11, E11, F11_ordinal, S12, E12, F12_ordinal⟩ := P0
  obtain ⟨_, _, ⟨T35, L35, k35, n35⟩, -, X35, ⟨Lc35, hQ35, l35, y35, z35⟩, st35⟩ := Jvm.LawKit.callS X0 hx (y := (⟨"com/example/recourse/recourse/CaseActionGivesAmountBackPinLaw", "pick", "(I)Lcom/example/recourse/recourse/CaseAction;"⟩ : MethodName)) hown (mvT hZ (hw _ (List.mem_of_getElem? (i := 1) rfl))) (mvT hZ (hw _ (List.mem_of_getElem? (i := 2) rfl))) (mvT hZ (hw _ (List.mem_of_getElem? (i := 3) rfl))) (mvT hZ (hw _ (List.mem_of_getElem? (i := 4) rfl))) (by decide) (backOf (W := 0) (own_pick_4 l Z a0 hw [] w0 w1 w2 w3 w4 w5 w6 w7 w8 w9 w10 w11 w12 h0 n0 Z0 P) hZ (hw _ (List.mem_of_getElem? (i := 4) rfl)) (hw _ (List.mem_of_getElem? (i := 3) rfl)) (by decide) (by decide)) (g := (mkF m 9 #[.val (.int p1), .val (.int (4 : Int32)), .unset, .unset] [(.int (4 : Int32))])) rfl (by rw [hml]; rfl) (argsL := [(.int (4 : Int32))]) (rest := []) (lenOf pd__I_Lcom_example_recourse_recourse_CaseAction_ rfl) rfl (by show 2 * 0 + _ ≤ _; exact Nat.le_of_eq rfl) (hb hby at_9) (fun _ _ => ⟨rfl, e0, (by decide : 0 + 0 ≤ _), (by decide : 0 + 0 ≤ _)⟩)
  dsimp only [Pt.U, Pt.locs, Pt.cells, Pt.slots] at X35 l35 y35 z35 st35 hQ35
  subst l35 y35 z35
  obtain ⟨rfl, N35q, e35⟩ := hQ35
  have N35 := Fr.app N0 N35q
  obtain ⟨cq36, kq36, q36a, q36b, q36c⟩ := isOf hZ e35 E12
  obtain ⟨_, _, ⟨T36, L36, k36, n36⟩, -, X36, ⟨Lc36, hQ36, l36, y36, z36⟩, st36⟩ := X35.virtualBack hx (y := (⟨"com/example/recourse/recourse/CaseAction", "givesAmountBack", "()Z"⟩ : MethodName)) (z := (⟨"com/example/recourse/recourse/CaseAction", "givesAmountBack", "()Z"⟩ : MethodName)) hown (mvT hZ (hw _ (List.mem_of_getElem? (i := 8) rfl))) (mvT hZ (hw _ (List.mem_of_getElem? (i := 9) rfl))) (notFace_of_selects (args := #[]) (mvT hZ (hw _ (List.mem_of_getElem? (i := 11) rfl)))) (mvT hZ (hw _ (List.mem_of_getElem? (i := 11) rfl))) (mvT hZ (hw _ (List.mem_of_getElem? (i := 10) rfl))) (by decide) (backOf (W := 0) (own_givesAmountBack_12 l Z a0 hw [] w0 w1 w2 w3 w4 w5 w6 w7 w8 w9 w10 w11 w12 h0 n0 Z0 P) hZ (hw _ (List.mem_of_getElem? (i := 12) rfl)) (hw _ (List.mem_of_getElem? (i := 6) rfl)) (by decide) (by decide)) q36a q36c (g := (mkF m 26 #[.val (.int p1), .val (.int (4 : Int32)), .val (.ref w12), .val (.int (0 : Int32))] [(.ref w12)])) rfl (by rw [hml]; rfl) (Steps.refl _) (argsL := []) (rest := []) (lenOf pd___Z rfl) rfl (by show 2 * 0 + _ ≤ _; exact Nat.le_of_eq rfl) (hb hby at_26) (fun _ _ => ⟨rfl, e35, (by decide : 0 + 0 ≤ _), (by decide : 0 + 0 ≤ _)⟩)
  dsimp only [Pt.U, Pt.locs, Pt.cells, Pt.slots] at X36 l36 y36 z36 st36 hQ36
  subst l36 y36 z36
  obtain ⟨rfl, N36q, e36⟩ := hQ36
  have N36 := Fr.app N35 N36q
  obtain ⟨fs, hr, hrun, hended, hW, hsame⟩ := X36.leave (v := some (.int (1 : Int32))) (fun h => by rw [Bd.returns] at h; cases h)
  refine ⟨_, _, pre0 _ ?_, hrun, hended, _, _, rfl, ?_, ⟨_, rfl⟩, hW, hsame.mono (by decide) (by decide)⟩
  · show Steps p.tables e below (s₁.setTop (mkF m 0 #[.val (.int p1), .unset, .unset, .unset] [])) _
    refine XS.iloadN X0.here hx rfl (hb hby at_0) rfl ?_
    show Steps p.tables e below (s₁.setTop (mkF m 1 #[.val (.int p1), .unset, .unset, .unset] [(.int p1)])) _
    refine Jvm.Stand.ldcI X0 hx hown (mvT hZ (hw _ (List.mem_of_getElem? (i := 0) rfl))) rfl (hb hby at_1) ?_
    show Steps p.tables e below (s₁.setTop (mkF m 3 #[.val (.int p1), .unset, .unset, .unset] [(.int (2147483647 : Int32)), (.int p1)])) _
    refine XS.iand X0.here hx rfl (hb hby at_3) rfl ?_
    show Steps p.tables e below (s₁.setTop (mkF m 4 #[.val (.int p1), .unset, .unset, .unset] [(.int (p1 &&& (2147483647 : Int32)))])) _
    refine XT.bipushV X0.here hx rfl (13 : Int32) (hb hby at_4) (by decide) ?_
    show Steps p.tables e below (s₁.setTop (mkF m 6 #[.val (.int p1), .unset, .unset, .unset] [(.int (13 : Int32)), (.int (p1 &&& (2147483647 : Int32)))])) _
    refine iremM X0 hx rfl (hb hby at_6) rfl (by decide) ?_
    show Steps p.tables e below (s₁.setTop (mkF m 7 #[.val (.int p1), .unset, .unset, .unset] [(.int ((p1 &&& (2147483647 : Int32)) % (13 : Int32)))])) _
    rw [hk]
    show Steps p.tables e below (s₁.setTop (mkF m 7 #[.val (.int p1), .unset, .unset, .unset] [(.int (4 : Int32))])) _
    refine XS.istoreN X0.here hx rfl (hb hby at_7) rfl (l' := #[.val (.int p1), .val (.int (4 : Int32)), .unset, .unset]) rfl ?_
    show Steps p.tables e below (s₁.setTop (mkF m 8 #[.val (.int p1), .val (.int (4 : Int32)), .unset, .unset] [])) _
    refine XS.iloadN X0.here hx rfl (hb hby at_8) rfl ?_
    show Steps p.tables e below (s₁.setTop (mkF m 9 #[.val (.int p1), .val (.int (4 : Int32)), .unset, .unset] [(.int (4 : Int32))])) _
    refine st35 _ ?_
    show Steps p.tables e below (T35.setTop (mkF m 12 #[.val (.int p1), .val (.int (4 : Int32)), .unset, .unset] [(.ref w12)])) _
    refine XS.astoreN X35.here hx rfl (hb hby at_12) rfl rfl (l' := #[.val (.int p1), .val (.int (4 : Int32)), .val (.ref w12), .unset]) rfl ?_
    show Steps p.tables e below (T35.setTop (mkF m 13 #[.val (.int p1), .val (.int (4 : Int32)), .val (.ref w12), .unset] [])) _
    refine XS.iloadN X35.here hx rfl (hb hby at_13) rfl ?_
    show Steps p.tables e below (T35.setTop (mkF m 14 #[.val (.int p1), .val (.int (4 : Int32)), .val (.ref w12), .unset] [(.int (4 : Int32))])) _
    refine XT.bipushV X35.here hx rfl (7 : Int32) (hb hby at_14) (by decide) ?_
    show Steps p.tables e below (T35.setTop (mkF m 16 #[.val (.int p1), .val (.int (4 : Int32)), .val (.ref w12), .unset] [(.int (7 : Int32)), (.int (4 : Int32))])) _
    refine XS.icmpYes X35.here hx rfl (pc0 := 16) (pc' := 23) rfl (hb hby at_16) rfl (by decide) (by decide) (by decide) ?_
    show Steps p.tables e below (T35.setTop (mkF m 23 #[.val (.int p1), .val (.int (4 : Int32)), .val (.ref w12), .unset] [])) _
    refine XT.iconstV X35.here hx rfl (0 : Int32) (hb hby at_23) rfl ?_
    show Steps p.tables e below (T35.setTop (mkF m 24 #[.val (.int p1), .val (.int (4 : Int32)), .val (.ref w12), .unset] [(.int (0 : Int32))])) _
    refine XS.istoreN X35.here hx rfl (hb hby at_24) rfl (l' := #[.val (.int p1), .val (.int (4 : Int32)), .val (.ref w12), .val (.int (0 : Int32))]) rfl ?_
    show Steps p.tables e below (T35.setTop (mkF m 25 #[.val (.int p1), .val (.int (4 : Int32)), .val (.ref w12), .val (.int (0 : Int32))] [])) _
    refine XS.aloadN X35.here hx rfl (hb hby at_25) rfl rfl ?_
    show Steps p.tables e below (T35.setTop (mkF m 26 #[.val (.int p1), .val (.int (4 : Int32)), .val (.ref w12), .val (.int (0 : Int32))] [(.ref w12)])) _
    refine st36.trans ?_
    show Steps p.tables e below (T36.setTop (mkF m 29 #[.val (.int p1), .val (.int (4 : Int32)), .val (.ref w12), .val (.int (0 : Int32))] [(.int (0 : Int32))])) _
    refine XS.iloadN X36.here hx rfl (hb hby at_29) rfl ?_
    show Steps p.tables e below (T36.setTop (mkF m 30 #[.val (.int p1), .val (.int (4 : Int32)), .val (.ref w12), .val (.int (0 : Int32))] [(.int (0 : Int32)), (.int (0 : Int32))])) _
    refine XS.icmpNo X36.here hx rfl (hb hby at_30) rfl (by decide) ?_
    show Steps p.tables e below (T36.setTop (mkF m 33 #[.val (.int p1), .val (.int (4 : Int32)), .val (.ref w12), .val (.int (0 : Int32))] [])) _
    refine XT.iconstV X36.here hx rfl (1 : Int32) (hb hby at_33) rfl ?_
    show Steps p.tables e below (T36.setTop (mkF m 34 #[.val (.int p1), .val (.int (4 : Int32)), .val (.ref w12), .val (.int (0 : Int32))] [(.int (1 : Int32))])) _
    refine XS.goto X36.here hx rfl (pc0 := 34) (pc' := 38) rfl (hb hby at_34) (by decide) (by decide) ?_
    show Steps p.tables e below (T36.setTop (mkF m 38 #[.val (.int p1), .val (.int (4 : Int32)), .val (.ref w12), .val (.int (0 : Int32))] [(.int (1 : Int32))])) _
    exact retN X36 hx (t := .boolean) Bd.returns (by simp) (hb hby at_38) hr
  · show own_Q0 n0 _ T36.heap _
    exact ⟨rfl, N36⟩
set_option maxRecDepth 65536 in
set_option maxHeartbeats 40000000 in
theorem own_law_5 (l : Launch) (Z : State) (a0 : Array Value) (hw : ∀ d ∈ tables_1, d.before a0 Z = true) (ws : List Jvm.Cond) (p1 : Int32) (w0 w1 w2 w3 w4 w5 w6 w7 w8 w9 w10 w11 w12 : Addr) (h0 : Heap) (n0 : Nat) (Z0 : n0 ≤ h0.size) (P : own_P Z h0 w0 w1 w2 w3 w4 w5 w6 w7 w8 w9 w10 w11 w12) (hk : ((p1 &&& (2147483647 : Int32)) % (13 : Int32)) = (5 : Int32)) :
    MetFree l x (head1 (Jvm.Cond.code x code maxLocals ret :: ws) room_1) (fun a U => a = #[(.int p1)] ∧ Z.Warmed39 U.vm ∧ U.heap = h0) (fun _ _ _ _ _ => True) (fun _ U o U' => ∃ v L, o = .returned v ∧ own_Q0 n0 v U'.heap L ∧ FrameEnd U o U' L room_1.cells room_1.slots) := by
  refine MetFree.of_bodySF (plainFor_of_name pn_com_example_recourse_recourse_CaseActionGivesAmountBackPinLaw) hisR ?_
  intro p e s m args below meth c s₁ Bd hml0 hP hK
  obtain ⟨rfl, hZ, hh⟩ := hP
  have hx := Bd.exec
  have hby := Bd.bytes
  have hml : c.maxLocals = 4 := hml0
  have hown : s.vm.findClass "com/example/recourse/recourse/CaseActionGivesAmountBackPinLaw" = some m.cls := findClass_of_methodNamed Bd.named
  have hnm := (name_of_methodNamed Bd.named Bd.method).1
  have X0 : Stand p l e room_1 s m #[(.int p1)] below meth c s₁ [] 0 0 := Stand.of_body Bd
  have e0 : s₁.heap = h0 := by rw [← hh, Bd.state]; rfl
  have N0 := Fr.nil n0
  have pre0 : ∀ t, Steps p.tables e below (s₁.setTop (mkF m 0 #[.val (.int p1), .unset, .unset, .unset] [])) t → Steps p.tables e below (s₁.setTop (entryFrame m #[(.int p1)] maxLocals)) t := fun t k => castTop (ef_code_I m p1) k
  have P0 := P; obtain ⟨S0, E0, F0_ordinal, S1, E1, F1_ordinal, S2, E2, F2_ordinal, S3, E3, F3_ordinal, S4, E4, F4_ordinal, S5, E5, F5_ordinal, S6, E6, F6_ordinal, S7, E7, F7_ordinal, S8, E8, F8_ordinal, S9, E9, F9_ordinal, S10, E10, F10_ordinal, S11, E11, F11_ordinal, S12, E12, F12_ordinal⟩ := P0
  obtain ⟨_, _, ⟨T37, L37, k37, n37⟩, -, X37, ⟨Lc37, hQ37, l37, y37, z37⟩, st37⟩ := Jvm.LawKit.callS X0 hx (y := (⟨"com/example/recourse/recourse/CaseActionGivesAmountBackPinLaw", "pick", "(I)Lcom/example/recourse/recourse/CaseAction;"⟩ : MethodName)) hown (mvT hZ (hw _ (List.mem_of_getElem? (i := 1) rfl))) (mvT hZ (hw _ (List.mem_of_getElem? (i := 2) rfl))) (mvT hZ (hw _ (List.mem_of_getElem? (i := 3) rfl))) (mvT hZ (hw _ (List.mem_of_getElem? (i := 4) rfl))) (by decide) (backOf (W := 0) (own_pick_5 l Z a0 hw [] w0 w1 w2 w3 w4 w5 w6 w7 w8 w9 w10 w11 w12 h0 n0 Z0 P) hZ (hw _ (List.mem_of_getElem? (i := 4) rfl)) (hw _ (List.mem_of_getElem? (i := 3) rfl)) (by decide) (by decide)) (g := (mkF m 9 #[.val (.int p1), .val (.int (5 : Int32)), .unset, .unset] [(.int (5 : Int32))])) rfl (by rw [hml]; rfl) (argsL := [(.int (5 : Int32))]) (rest := []) (lenOf pd__I_Lcom_example_recourse_recourse_CaseAction_ rfl) rfl (by show 2 * 0 + _ ≤ _; exact Nat.le_of_eq rfl) (hb hby at_9) (fun _ _ => ⟨rfl, e0, (by decide : 0 + 0 ≤ _), (by decide : 0 + 0 ≤ _)⟩)
  dsimp only [Pt.U, Pt.locs, Pt.cells, Pt.slots] at X37 l37 y37 z37 st37 hQ37
  subst l37 y37 z37
  obtain ⟨rfl, N37q, e37⟩ := hQ37
  have N37 := Fr.app N0 N37q
  obtain ⟨cq38, kq38, q38a, q38b, q38c⟩ := isOf hZ e37 E4
  obtain ⟨_, _, ⟨T38, L38, k38, n38⟩, -, X38, ⟨Lc38, hQ38, l38, y38, z38⟩, st38⟩ := X37.virtualBack hx (y := (⟨"com/example/recourse/recourse/CaseAction", "givesAmountBack", "()Z"⟩ : MethodName)) (z := (⟨"com/example/recourse/recourse/CaseAction", "givesAmountBack", "()Z"⟩ : MethodName)) hown (mvT hZ (hw _ (List.mem_of_getElem? (i := 8) rfl))) (mvT hZ (hw _ (List.mem_of_getElem? (i := 9) rfl))) (notFace_of_selects (args := #[]) (mvT hZ (hw _ (List.mem_of_getElem? (i := 11) rfl)))) (mvT hZ (hw _ (List.mem_of_getElem? (i := 11) rfl))) (mvT hZ (hw _ (List.mem_of_getElem? (i := 10) rfl))) (by decide) (backOf (W := 0) (own_givesAmountBack_4 l Z a0 hw [] w0 w1 w2 w3 w4 w5 w6 w7 w8 w9 w10 w11 w12 h0 n0 Z0 P) hZ (hw _ (List.mem_of_getElem? (i := 12) rfl)) (hw _ (List.mem_of_getElem? (i := 6) rfl)) (by decide) (by decide)) q38a q38c (g := (mkF m 26 #[.val (.int p1), .val (.int (5 : Int32)), .val (.ref w4), .val (.int (0 : Int32))] [(.ref w4)])) rfl (by rw [hml]; rfl) (Steps.refl _) (argsL := []) (rest := []) (lenOf pd___Z rfl) rfl (by show 2 * 0 + _ ≤ _; exact Nat.le_of_eq rfl) (hb hby at_26) (fun _ _ => ⟨rfl, e37, (by decide : 0 + 0 ≤ _), (by decide : 0 + 0 ≤ _)⟩)
  dsimp only [Pt.U, Pt.locs, Pt.cells, Pt.slots] at X38 l38 y38 z38 st38 hQ38
  subst l38 y38 z38
  obtain ⟨rfl, N38q, e38⟩ := hQ38
  have N38 := Fr.app N37 N38q
  obtain ⟨fs, hr, hrun, hended, hW, hsame⟩ := X38.leave (v := some (.int (1 : Int32))) (fun h => by rw [Bd.returns] at h; cases h)
  refine ⟨_, _, pre0 _ ?_, hrun, hended, _, _, rfl, ?_, ⟨_, rfl⟩, hW, hsame.mono (by decide) (by decide)⟩
  · show Steps p.tables e below (s₁.setTop (mkF m 0 #[.val (.int p1), .unset, .unset, .unset] [])) _
    refine XS.iloadN X0.here hx rfl (hb hby at_0) rfl ?_
    show Steps p.tables e below (s₁.setTop (mkF m 1 #[.val (.int p1), .unset, .unset, .unset] [(.int p1)])) _
    refine Jvm.Stand.ldcI X0 hx hown (mvT hZ (hw _ (List.mem_of_getElem? (i := 0) rfl))) rfl (hb hby at_1) ?_
    show Steps p.tables e below (s₁.setTop (mkF m 3 #[.val (.int p1), .unset, .unset, .unset] [(.int (2147483647 : Int32)), (.int p1)])) _
    refine XS.iand X0.here hx rfl (hb hby at_3) rfl ?_
    show Steps p.tables e below (s₁.setTop (mkF m 4 #[.val (.int p1), .unset, .unset, .unset] [(.int (p1 &&& (2147483647 : Int32)))])) _
    refine XT.bipushV X0.here hx rfl (13 : Int32) (hb hby at_4) (by decide) ?_
    show Steps p.tables e below (s₁.setTop (mkF m 6 #[.val (.int p1), .unset, .unset, .unset] [(.int (13 : Int32)), (.int (p1 &&& (2147483647 : Int32)))])) _
    refine iremM X0 hx rfl (hb hby at_6) rfl (by decide) ?_
    show Steps p.tables e below (s₁.setTop (mkF m 7 #[.val (.int p1), .unset, .unset, .unset] [(.int ((p1 &&& (2147483647 : Int32)) % (13 : Int32)))])) _
    rw [hk]
    show Steps p.tables e below (s₁.setTop (mkF m 7 #[.val (.int p1), .unset, .unset, .unset] [(.int (5 : Int32))])) _
    refine XS.istoreN X0.here hx rfl (hb hby at_7) rfl (l' := #[.val (.int p1), .val (.int (5 : Int32)), .unset, .unset]) rfl ?_
    show Steps p.tables e below (s₁.setTop (mkF m 8 #[.val (.int p1), .val (.int (5 : Int32)), .unset, .unset] [])) _
    refine XS.iloadN X0.here hx rfl (hb hby at_8) rfl ?_
    show Steps p.tables e below (s₁.setTop (mkF m 9 #[.val (.int p1), .val (.int (5 : Int32)), .unset, .unset] [(.int (5 : Int32))])) _
    refine st37 _ ?_
    show Steps p.tables e below (T37.setTop (mkF m 12 #[.val (.int p1), .val (.int (5 : Int32)), .unset, .unset] [(.ref w4)])) _
    refine XS.astoreN X37.here hx rfl (hb hby at_12) rfl rfl (l' := #[.val (.int p1), .val (.int (5 : Int32)), .val (.ref w4), .unset]) rfl ?_
    show Steps p.tables e below (T37.setTop (mkF m 13 #[.val (.int p1), .val (.int (5 : Int32)), .val (.ref w4), .unset] [])) _
    refine XS.iloadN X37.here hx rfl (hb hby at_13) rfl ?_
    show Steps p.tables e below (T37.setTop (mkF m 14 #[.val (.int p1), .val (.int (5 : Int32)), .val (.ref w4), .unset] [(.int (5 : Int32))])) _
    refine XT.bipushV X37.here hx rfl (7 : Int32) (hb hby at_14) (by decide) ?_
    show Steps p.tables e below (T37.setTop (mkF m 16 #[.val (.int p1), .val (.int (5 : Int32)), .val (.ref w4), .unset] [(.int (7 : Int32)), (.int (5 : Int32))])) _
    refine XS.icmpYes X37.here hx rfl (pc0 := 16) (pc' := 23) rfl (hb hby at_16) rfl (by decide) (by decide) (by decide) ?_
    show Steps p.tables e below (T37.setTop (mkF m 23 #[.val (.int p1), .val (.int (5 : Int32)), .val (.ref w4), .unset] [])) _
    refine XT.iconstV X37.here hx rfl (0 : Int32) (hb hby at_23) rfl ?_
    show Steps p.tables e below (T37.setTop (mkF m 24 #[.val (.int p1), .val (.int (5 : Int32)), .val (.ref w4), .unset] [(.int (0 : Int32))])) _
    refine XS.istoreN X37.here hx rfl (hb hby at_24) rfl (l' := #[.val (.int p1), .val (.int (5 : Int32)), .val (.ref w4), .val (.int (0 : Int32))]) rfl ?_
    show Steps p.tables e below (T37.setTop (mkF m 25 #[.val (.int p1), .val (.int (5 : Int32)), .val (.ref w4), .val (.int (0 : Int32))] [])) _
    refine XS.aloadN X37.here hx rfl (hb hby at_25) rfl rfl ?_
    show Steps p.tables e below (T37.setTop (mkF m 26 #[.val (.int p1), .val (.int (5 : Int32)), .val (.ref w4), .val (.int (0 : Int32))] [(.ref w4)])) _
    refine st38.trans ?_
    show Steps p.tables e below (T38.setTop (mkF m 29 #[.val (.int p1), .val (.int (5 : Int32)), .val (.ref w4), .val (.int (0 : Int32))] [(.int (0 : Int32))])) _
    refine XS.iloadN X38.here hx rfl (hb hby at_29) rfl ?_
    show Steps p.tables e below (T38.setTop (mkF m 30 #[.val (.int p1), .val (.int (5 : Int32)), .val (.ref w4), .val (.int (0 : Int32))] [(.int (0 : Int32)), (.int (0 : Int32))])) _
    refine XS.icmpNo X38.here hx rfl (hb hby at_30) rfl (by decide) ?_
    show Steps p.tables e below (T38.setTop (mkF m 33 #[.val (.int p1), .val (.int (5 : Int32)), .val (.ref w4), .val (.int (0 : Int32))] [])) _
    refine XT.iconstV X38.here hx rfl (1 : Int32) (hb hby at_33) rfl ?_
    show Steps p.tables e below (T38.setTop (mkF m 34 #[.val (.int p1), .val (.int (5 : Int32)), .val (.ref w4), .val (.int (0 : Int32))] [(.int (1 : Int32))])) _
    refine XS.goto X38.here hx rfl (pc0 := 34) (pc' := 38) rfl (hb hby at_34) (by decide) (by decide) ?_
    show Steps p.tables e below (T38.setTop (mkF m 38 #[.val (.int p1), .val (.int (5 : Int32)), .val (.ref w4), .val (.int (0 : Int32))] [(.int (1 : Int32))])) _
    exact retN X38 hx (t := .boolean) Bd.returns (by simp) (hb hby at_38) hr
  · show own_Q0 n0 _ T38.heap _
    exact ⟨rfl, N38⟩
set_option maxRecDepth 65536 in
set_option maxHeartbeats 40000000 in
theorem own_law_6 (l : Launch) (Z : State) (a0 : Array Value) (hw : ∀ d ∈ tables_1, d.before a0 Z = true) (ws : List Jvm.Cond) (p1 : Int32) (w0 w1 w2 w3 w4 w5 w6 w7 w8 w9 w10 w11 w12 : Addr) (h0 : Heap) (n0 : Nat) (Z0 : n0 ≤ h0.size) (P : own_P Z h0 w0 w1 w2 w3 w4 w5 w6 w7 w8 w9 w10 w11 w12) (hk : ((p1 &&& (2147483647 : Int32)) % (13 : Int32)) = (6 : Int32)) :
    MetFree l x (head1 (Jvm.Cond.code x code maxLocals ret :: ws) room_1) (fun a U => a = #[(.int p1)] ∧ Z.Warmed39 U.vm ∧ U.heap = h0) (fun _ _ _ _ _ => True) (fun _ U o U' => ∃ v L, o = .returned v ∧ own_Q0 n0 v U'.heap L ∧ FrameEnd U o U' L room_1.cells room_1.slots) := by
  refine MetFree.of_bodySF (plainFor_of_name pn_com_example_recourse_recourse_CaseActionGivesAmountBackPinLaw) hisR ?_
  intro p e s m args below meth c s₁ Bd hml0 hP hK
  obtain ⟨rfl, hZ, hh⟩ := hP
  have hx := Bd.exec
  have hby := Bd.bytes
  have hml : c.maxLocals = 4 := hml0
  have hown : s.vm.findClass "com/example/recourse/recourse/CaseActionGivesAmountBackPinLaw" = some m.cls := findClass_of_methodNamed Bd.named
  have hnm := (name_of_methodNamed Bd.named Bd.method).1
  have X0 : Stand p l e room_1 s m #[(.int p1)] below meth c s₁ [] 0 0 := Stand.of_body Bd
  have e0 : s₁.heap = h0 := by rw [← hh, Bd.state]; rfl
  have N0 := Fr.nil n0
  have pre0 : ∀ t, Steps p.tables e below (s₁.setTop (mkF m 0 #[.val (.int p1), .unset, .unset, .unset] [])) t → Steps p.tables e below (s₁.setTop (entryFrame m #[(.int p1)] maxLocals)) t := fun t k => castTop (ef_code_I m p1) k
  have P0 := P; obtain ⟨S0, E0, F0_ordinal, S1, E1, F1_ordinal, S2, E2, F2_ordinal, S3, E3, F3_ordinal, S4, E4, F4_ordinal, S5, E5, F5_ordinal, S6, E6, F6_ordinal, S7, E7, F7_ordinal, S8, E8, F8_ordinal, S9, E9, F9_ordinal, S10, E10, F10_ordinal, S11, E11, F11_ordinal, S12, E12, F12_ordinal⟩ := P0
  obtain ⟨_, _, ⟨T39, L39, k39, n39⟩, -, X39, ⟨Lc39, hQ39, l39, y39, z39⟩, st39⟩ := Jvm.LawKit.callS X0 hx (y := (⟨"com/example/recourse/recourse/CaseActionGivesAmountBackPinLaw", "pick", "(I)Lcom/example/recourse/recourse/CaseAction;"⟩ : MethodName)) hown (mvT hZ (hw _ (List.mem_of_getElem? (i := 1) rfl))) (mvT hZ (hw _ (List.mem_of_getElem? (i := 2) rfl))) (mvT hZ (hw _ (List.mem_of_getElem? (i := 3) rfl))) (mvT hZ (hw _ (List.mem_of_getElem? (i := 4) rfl))) (by decide) (backOf (W := 0) (own_pick_6 l Z a0 hw [] w0 w1 w2 w3 w4 w5 w6 w7 w8 w9 w10 w11 w12 h0 n0 Z0 P) hZ (hw _ (List.mem_of_getElem? (i := 4) rfl)) (hw _ (List.mem_of_getElem? (i := 3) rfl)) (by decide) (by decide)) (g := (mkF m 9 #[.val (.int p1), .val (.int (6 : Int32)), .unset, .unset] [(.int (6 : Int32))])) rfl (by rw [hml]; rfl) (argsL := [(.int (6 : Int32))]) (rest := []) (lenOf pd__I_Lcom_example_recourse_recourse_CaseAction_ rfl) rfl (by show 2 * 0 + _ ≤ _; exact Nat.le_of_eq rfl) (hb hby at_9) (fun _ _ => ⟨rfl, e0, (by decide : 0 + 0 ≤ _), (by decide : 0 + 0 ≤ _)⟩)
  dsimp only [Pt.U, Pt.locs, Pt.cells, Pt.slots] at X39 l39 y39 z39 st39 hQ39
  subst l39 y39 z39
  obtain ⟨rfl, N39q, e39⟩ := hQ39
  have N39 := Fr.app N0 N39q
  obtain ⟨cq40, kq40, q40a, q40b, q40c⟩ := isOf hZ e39 E3
  obtain ⟨_, _, ⟨T40, L40, k40, n40⟩, -, X40, ⟨Lc40, hQ40, l40, y40, z40⟩, st40⟩ := X39.virtualBack hx (y := (⟨"com/example/recourse/recourse/CaseAction", "givesAmountBack", "()Z"⟩ : MethodName)) (z := (⟨"com/example/recourse/recourse/CaseAction", "givesAmountBack", "()Z"⟩ : MethodName)) hown (mvT hZ (hw _ (List.mem_of_getElem? (i := 8) rfl))) (mvT hZ (hw _ (List.mem_of_getElem? (i := 9) rfl))) (notFace_of_selects (args := #[]) (mvT hZ (hw _ (List.mem_of_getElem? (i := 11) rfl)))) (mvT hZ (hw _ (List.mem_of_getElem? (i := 11) rfl))) (mvT hZ (hw _ (List.mem_of_getElem? (i := 10) rfl))) (by decide) (backOf (W := 0) (own_givesAmountBack_3 l Z a0 hw [] w0 w1 w2 w3 w4 w5 w6 w7 w8 w9 w10 w11 w12 h0 n0 Z0 P) hZ (hw _ (List.mem_of_getElem? (i := 12) rfl)) (hw _ (List.mem_of_getElem? (i := 6) rfl)) (by decide) (by decide)) q40a q40c (g := (mkF m 26 #[.val (.int p1), .val (.int (6 : Int32)), .val (.ref w3), .val (.int (0 : Int32))] [(.ref w3)])) rfl (by rw [hml]; rfl) (Steps.refl _) (argsL := []) (rest := []) (lenOf pd___Z rfl) rfl (by show 2 * 0 + _ ≤ _; exact Nat.le_of_eq rfl) (hb hby at_26) (fun _ _ => ⟨rfl, e39, (by decide : 0 + 0 ≤ _), (by decide : 0 + 0 ≤ _)⟩)
  dsimp only [Pt.U, Pt.locs, Pt.cells, Pt.slots] at X40 l40 y40 z40 st40 hQ40
  subst l40 y40 z40
  obtain ⟨rfl, N40q, e40⟩ := hQ40
  have N40 := Fr.app N39 N40q
  obtain ⟨fs, hr, hrun, hended, hW, hsame⟩ := X40.leave (v := some (.int (1 : Int32))) (fun h => by rw [Bd.returns] at h; cases h)
  refine ⟨_, _, pre0 _ ?_, hrun, hended, _, _, rfl, ?_, ⟨_, rfl⟩, hW, hsame.mono (by decide) (by decide)⟩
  · show Steps p.tables e below (s₁.setTop (mkF m 0 #[.val (.int p1), .unset, .unset, .unset] [])) _
    refine XS.iloadN X0.here hx rfl (hb hby at_0) rfl ?_
    show Steps p.tables e below (s₁.setTop (mkF m 1 #[.val (.int p1), .unset, .unset, .unset] [(.int p1)])) _
    refine Jvm.Stand.ldcI X0 hx hown (mvT hZ (hw _ (List.mem_of_getElem? (i := 0) rfl))) rfl (hb hby at_1) ?_
    show Steps p.tables e below (s₁.setTop (mkF m 3 #[.val (.int p1), .unset, .unset, .unset] [(.int (2147483647 : Int32)), (.int p1)])) _
    refine XS.iand X0.here hx rfl (hb hby at_3) rfl ?_
    show Steps p.tables e below (s₁.setTop (mkF m 4 #[.val (.int p1), .unset, .unset, .unset] [(.int (p1 &&& (2147483647 : Int32)))])) _
    refine XT.bipushV X0.here hx rfl (13 : Int32) (hb hby at_4) (by decide) ?_
    show Steps p.tables e below (s₁.setTop (mkF m 6 #[.val (.int p1), .unset, .unset, .unset] [(.int (13 : Int32)), (.int (p1 &&& (2147483647 : Int32)))])) _
    refine iremM X0 hx rfl (hb hby at_6) rfl (by decide) ?_
    show Steps p.tables e below (s₁.setTop (mkF m 7 #[.val (.int p1), .unset, .unset, .unset] [(.int ((p1 &&& (2147483647 : Int32)) % (13 : Int32)))])) _
    rw [hk]
    show Steps p.tables e below (s₁.setTop (mkF m 7 #[.val (.int p1), .unset, .unset, .unset] [(.int (6 : Int32))])) _
    refine XS.istoreN X0.here hx rfl (hb hby at_7) rfl (l' := #[.val (.int p1), .val (.int (6 : Int32)), .unset, .unset]) rfl ?_
    show Steps p.tables e below (s₁.setTop (mkF m 8 #[.val (.int p1), .val (.int (6 : Int32)), .unset, .unset] [])) _
    refine XS.iloadN X0.here hx rfl (hb hby at_8) rfl ?_
    show Steps p.tables e below (s₁.setTop (mkF m 9 #[.val (.int p1), .val (.int (6 : Int32)), .unset, .unset] [(.int (6 : Int32))])) _
    refine st39 _ ?_
    show Steps p.tables e below (T39.setTop (mkF m 12 #[.val (.int p1), .val (.int (6 : Int32)), .unset, .unset] [(.ref w3)])) _
    refine XS.astoreN X39.here hx rfl (hb hby at_12) rfl rfl (l' := #[.val (.int p1), .val (.int (6 : Int32)), .val (.ref w3), .unset]) rfl ?_
    show Steps p.tables e below (T39.setTop (mkF m 13 #[.val (.int p1), .val (.int (6 : Int32)), .val (.ref w3), .unset] [])) _
    refine XS.iloadN X39.here hx rfl (hb hby at_13) rfl ?_
    show Steps p.tables e below (T39.setTop (mkF m 14 #[.val (.int p1), .val (.int (6 : Int32)), .val (.ref w3), .unset] [(.int (6 : Int32))])) _
    refine XT.bipushV X39.here hx rfl (7 : Int32) (hb hby at_14) (by decide) ?_
    show Steps p.tables e below (T39.setTop (mkF m 16 #[.val (.int p1), .val (.int (6 : Int32)), .val (.ref w3), .unset] [(.int (7 : Int32)), (.int (6 : Int32))])) _
    refine XS.icmpYes X39.here hx rfl (pc0 := 16) (pc' := 23) rfl (hb hby at_16) rfl (by decide) (by decide) (by decide) ?_
    show Steps p.tables e below (T39.setTop (mkF m 23 #[.val (.int p1), .val (.int (6 : Int32)), .val (.ref w3), .unset] [])) _
    refine XT.iconstV X39.here hx rfl (0 : Int32) (hb hby at_23) rfl ?_
    show Steps p.tables e below (T39.setTop (mkF m 24 #[.val (.int p1), .val (.int (6 : Int32)), .val (.ref w3), .unset] [(.int (0 : Int32))])) _
    refine XS.istoreN X39.here hx rfl (hb hby at_24) rfl (l' := #[.val (.int p1), .val (.int (6 : Int32)), .val (.ref w3), .val (.int (0 : Int32))]) rfl ?_
    show Steps p.tables e below (T39.setTop (mkF m 25 #[.val (.int p1), .val (.int (6 : Int32)), .val (.ref w3), .val (.int (0 : Int32))] [])) _
    refine XS.aloadN X39.here hx rfl (hb hby at_25) rfl rfl ?_
    show Steps p.tables e below (T39.setTop (mkF m 26 #[.val (.int p1), .val (.int (6 : Int32)), .val (.ref w3), .val (.int (0 : Int32))] [(.ref w3)])) _
    refine st40.trans ?_
    show Steps p.tables e below (T40.setTop (mkF m 29 #[.val (.int p1), .val (.int (6 : Int32)), .val (.ref w3), .val (.int (0 : Int32))] [(.int (0 : Int32))])) _
    refine XS.iloadN X40.here hx rfl (hb hby at_29) rfl ?_
    show Steps p.tables e below (T40.setTop (mkF m 30 #[.val (.int p1), .val (.int (6 : Int32)), .val (.ref w3), .val (.int (0 : Int32))] [(.int (0 : Int32)), (.int (0 : Int32))])) _
    refine XS.icmpNo X40.here hx rfl (hb hby at_30) rfl (by decide) ?_
    show Steps p.tables e below (T40.setTop (mkF m 33 #[.val (.int p1), .val (.int (6 : Int32)), .val (.ref w3), .val (.int (0 : Int32))] [])) _
    refine XT.iconstV X40.here hx rfl (1 : Int32) (hb hby at_33) rfl ?_
    show Steps p.tables e below (T40.setTop (mkF m 34 #[.val (.int p1), .val (.int (6 : Int32)), .val (.ref w3), .val (.int (0 : Int32))] [(.int (1 : Int32))])) _
    refine XS.goto X40.here hx rfl (pc0 := 34) (pc' := 38) rfl (hb hby at_34) (by decide) (by decide) ?_
    show Steps p.tables e below (T40.setTop (mkF m 38 #[.val (.int p1), .val (.int (6 : Int32)), .val (.ref w3), .val (.int (0 : Int32))] [(.int (1 : Int32))])) _
    exact retN X40 hx (t := .boolean) Bd.returns (by simp) (hb hby at_38) hr
  · show own_Q0 n0 _ T40.heap _
    exact ⟨rfl, N40⟩
set_option maxRecDepth 65536 in
set_option maxHeartbeats 40000000 in
theorem own_law_7 (l : Launch) (Z : State) (a0 : Array Value) (hw : ∀ d ∈ tables_1, d.before a0 Z = true) (ws : List Jvm.Cond) (p1 : Int32) (w0 w1 w2 w3 w4 w5 w6 w7 w8 w9 w10 w11 w12 : Addr) (h0 : Heap) (n0 : Nat) (Z0 : n0 ≤ h0.size) (P : own_P Z h0 w0 w1 w2 w3 w4 w5 w6 w7 w8 w9 w10 w11 w12) (hk : ((p1 &&& (2147483647 : Int32)) % (13 : Int32)) = (7 : Int32)) :
    MetFree l x (head1 (Jvm.Cond.code x code maxLocals ret :: ws) room_1) (fun a U => a = #[(.int p1)] ∧ Z.Warmed39 U.vm ∧ U.heap = h0) (fun _ _ _ _ _ => True) (fun _ U o U' => ∃ v L, o = .returned v ∧ own_Q0 n0 v U'.heap L ∧ FrameEnd U o U' L room_1.cells room_1.slots) := by
  refine MetFree.of_bodySF (plainFor_of_name pn_com_example_recourse_recourse_CaseActionGivesAmountBackPinLaw) hisR ?_
  intro p e s m args below meth c s₁ Bd hml0 hP hK
  obtain ⟨rfl, hZ, hh⟩ := hP
  have hx := Bd.exec
  have hby := Bd.bytes
  have hml : c.maxLocals = 4 := hml0
  have hown : s.vm.findClass "com/example/recourse/recourse/CaseActionGivesAmountBackPinLaw" = some m.cls := findClass_of_methodNamed Bd.named
  have hnm := (name_of_methodNamed Bd.named Bd.method).1
  have X0 : Stand p l e room_1 s m #[(.int p1)] below meth c s₁ [] 0 0 := Stand.of_body Bd
  have e0 : s₁.heap = h0 := by rw [← hh, Bd.state]; rfl
  have N0 := Fr.nil n0
  have pre0 : ∀ t, Steps p.tables e below (s₁.setTop (mkF m 0 #[.val (.int p1), .unset, .unset, .unset] [])) t → Steps p.tables e below (s₁.setTop (entryFrame m #[(.int p1)] maxLocals)) t := fun t k => castTop (ef_code_I m p1) k
  have P0 := P; obtain ⟨S0, E0, F0_ordinal, S1, E1, F1_ordinal, S2, E2, F2_ordinal, S3, E3, F3_ordinal, S4, E4, F4_ordinal, S5, E5, F5_ordinal, S6, E6, F6_ordinal, S7, E7, F7_ordinal, S8, E8, F8_ordinal, S9, E9, F9_ordinal, S10, E10, F10_ordinal, S11, E11, F11_ordinal, S12, E12, F12_ordinal⟩ := P0
  obtain ⟨_, _, ⟨T41, L41, k41, n41⟩, -, X41, ⟨Lc41, hQ41, l41, y41, z41⟩, st41⟩ := Jvm.LawKit.callS X0 hx (y := (⟨"com/example/recourse/recourse/CaseActionGivesAmountBackPinLaw", "pick", "(I)Lcom/example/recourse/recourse/CaseAction;"⟩ : MethodName)) hown (mvT hZ (hw _ (List.mem_of_getElem? (i := 1) rfl))) (mvT hZ (hw _ (List.mem_of_getElem? (i := 2) rfl))) (mvT hZ (hw _ (List.mem_of_getElem? (i := 3) rfl))) (mvT hZ (hw _ (List.mem_of_getElem? (i := 4) rfl))) (by decide) (backOf (W := 0) (own_pick_7 l Z a0 hw [] w0 w1 w2 w3 w4 w5 w6 w7 w8 w9 w10 w11 w12 h0 n0 Z0 P) hZ (hw _ (List.mem_of_getElem? (i := 4) rfl)) (hw _ (List.mem_of_getElem? (i := 3) rfl)) (by decide) (by decide)) (g := (mkF m 9 #[.val (.int p1), .val (.int (7 : Int32)), .unset, .unset] [(.int (7 : Int32))])) rfl (by rw [hml]; rfl) (argsL := [(.int (7 : Int32))]) (rest := []) (lenOf pd__I_Lcom_example_recourse_recourse_CaseAction_ rfl) rfl (by show 2 * 0 + _ ≤ _; exact Nat.le_of_eq rfl) (hb hby at_9) (fun _ _ => ⟨rfl, e0, (by decide : 0 + 0 ≤ _), (by decide : 0 + 0 ≤ _)⟩)
  dsimp only [Pt.U, Pt.locs, Pt.cells, Pt.slots] at X41 l41 y41 z41 st41 hQ41
  subst l41 y41 z41
  obtain ⟨rfl, N41q, e41⟩ := hQ41
  have N41 := Fr.app N0 N41q
  obtain ⟨cq42, kq42, q42a, q42b, q42c⟩ := isOf hZ e41 E1
  obtain ⟨_, _, ⟨T42, L42, k42, n42⟩, -, X42, ⟨Lc42, hQ42, l42, y42, z42⟩, st42⟩ := X41.virtualBack hx (y := (⟨"com/example/recourse/recourse/CaseAction", "givesAmountBack", "()Z"⟩ : MethodName)) (z := (⟨"com/example/recourse/recourse/CaseAction", "givesAmountBack", "()Z"⟩ : MethodName)) hown (mvT hZ (hw _ (List.mem_of_getElem? (i := 8) rfl))) (mvT hZ (hw _ (List.mem_of_getElem? (i := 9) rfl))) (notFace_of_selects (args := #[]) (mvT hZ (hw _ (List.mem_of_getElem? (i := 11) rfl)))) (mvT hZ (hw _ (List.mem_of_getElem? (i := 11) rfl))) (mvT hZ (hw _ (List.mem_of_getElem? (i := 10) rfl))) (by decide) (backOf (W := 0) (own_givesAmountBack_1 l Z a0 hw [] w0 w1 w2 w3 w4 w5 w6 w7 w8 w9 w10 w11 w12 h0 n0 Z0 P) hZ (hw _ (List.mem_of_getElem? (i := 12) rfl)) (hw _ (List.mem_of_getElem? (i := 6) rfl)) (by decide) (by decide)) q42a q42c (g := (mkF m 26 #[.val (.int p1), .val (.int (7 : Int32)), .val (.ref w1), .val (.int (1 : Int32))] [(.ref w1)])) rfl (by rw [hml]; rfl) (Steps.refl _) (argsL := []) (rest := []) (lenOf pd___Z rfl) rfl (by show 2 * 0 + _ ≤ _; exact Nat.le_of_eq rfl) (hb hby at_26) (fun _ _ => ⟨rfl, e41, (by decide : 0 + 0 ≤ _), (by decide : 0 + 0 ≤ _)⟩)
  dsimp only [Pt.U, Pt.locs, Pt.cells, Pt.slots] at X42 l42 y42 z42 st42 hQ42
  subst l42 y42 z42
  obtain ⟨rfl, N42q, e42⟩ := hQ42
  have N42 := Fr.app N41 N42q
  obtain ⟨fs, hr, hrun, hended, hW, hsame⟩ := X42.leave (v := some (.int (1 : Int32))) (fun h => by rw [Bd.returns] at h; cases h)
  refine ⟨_, _, pre0 _ ?_, hrun, hended, _, _, rfl, ?_, ⟨_, rfl⟩, hW, hsame.mono (by decide) (by decide)⟩
  · show Steps p.tables e below (s₁.setTop (mkF m 0 #[.val (.int p1), .unset, .unset, .unset] [])) _
    refine XS.iloadN X0.here hx rfl (hb hby at_0) rfl ?_
    show Steps p.tables e below (s₁.setTop (mkF m 1 #[.val (.int p1), .unset, .unset, .unset] [(.int p1)])) _
    refine Jvm.Stand.ldcI X0 hx hown (mvT hZ (hw _ (List.mem_of_getElem? (i := 0) rfl))) rfl (hb hby at_1) ?_
    show Steps p.tables e below (s₁.setTop (mkF m 3 #[.val (.int p1), .unset, .unset, .unset] [(.int (2147483647 : Int32)), (.int p1)])) _
    refine XS.iand X0.here hx rfl (hb hby at_3) rfl ?_
    show Steps p.tables e below (s₁.setTop (mkF m 4 #[.val (.int p1), .unset, .unset, .unset] [(.int (p1 &&& (2147483647 : Int32)))])) _
    refine XT.bipushV X0.here hx rfl (13 : Int32) (hb hby at_4) (by decide) ?_
    show Steps p.tables e below (s₁.setTop (mkF m 6 #[.val (.int p1), .unset, .unset, .unset] [(.int (13 : Int32)), (.int (p1 &&& (2147483647 : Int32)))])) _
    refine iremM X0 hx rfl (hb hby at_6) rfl (by decide) ?_
    show Steps p.tables e below (s₁.setTop (mkF m 7 #[.val (.int p1), .unset, .unset, .unset] [(.int ((p1 &&& (2147483647 : Int32)) % (13 : Int32)))])) _
    rw [hk]
    show Steps p.tables e below (s₁.setTop (mkF m 7 #[.val (.int p1), .unset, .unset, .unset] [(.int (7 : Int32))])) _
    refine XS.istoreN X0.here hx rfl (hb hby at_7) rfl (l' := #[.val (.int p1), .val (.int (7 : Int32)), .unset, .unset]) rfl ?_
    show Steps p.tables e below (s₁.setTop (mkF m 8 #[.val (.int p1), .val (.int (7 : Int32)), .unset, .unset] [])) _
    refine XS.iloadN X0.here hx rfl (hb hby at_8) rfl ?_
    show Steps p.tables e below (s₁.setTop (mkF m 9 #[.val (.int p1), .val (.int (7 : Int32)), .unset, .unset] [(.int (7 : Int32))])) _
    refine st41 _ ?_
    show Steps p.tables e below (T41.setTop (mkF m 12 #[.val (.int p1), .val (.int (7 : Int32)), .unset, .unset] [(.ref w1)])) _
    refine XS.astoreN X41.here hx rfl (hb hby at_12) rfl rfl (l' := #[.val (.int p1), .val (.int (7 : Int32)), .val (.ref w1), .unset]) rfl ?_
    show Steps p.tables e below (T41.setTop (mkF m 13 #[.val (.int p1), .val (.int (7 : Int32)), .val (.ref w1), .unset] [])) _
    refine XS.iloadN X41.here hx rfl (hb hby at_13) rfl ?_
    show Steps p.tables e below (T41.setTop (mkF m 14 #[.val (.int p1), .val (.int (7 : Int32)), .val (.ref w1), .unset] [(.int (7 : Int32))])) _
    refine XT.bipushV X41.here hx rfl (7 : Int32) (hb hby at_14) (by decide) ?_
    show Steps p.tables e below (T41.setTop (mkF m 16 #[.val (.int p1), .val (.int (7 : Int32)), .val (.ref w1), .unset] [(.int (7 : Int32)), (.int (7 : Int32))])) _
    refine XS.icmpNo X41.here hx rfl (hb hby at_16) rfl (by decide) ?_
    show Steps p.tables e below (T41.setTop (mkF m 19 #[.val (.int p1), .val (.int (7 : Int32)), .val (.ref w1), .unset] [])) _
    refine XT.iconstV X41.here hx rfl (1 : Int32) (hb hby at_19) rfl ?_
    show Steps p.tables e below (T41.setTop (mkF m 20 #[.val (.int p1), .val (.int (7 : Int32)), .val (.ref w1), .unset] [(.int (1 : Int32))])) _
    refine XS.goto X41.here hx rfl (pc0 := 20) (pc' := 24) rfl (hb hby at_20) (by decide) (by decide) ?_
    show Steps p.tables e below (T41.setTop (mkF m 24 #[.val (.int p1), .val (.int (7 : Int32)), .val (.ref w1), .unset] [(.int (1 : Int32))])) _
    refine XS.istoreN X41.here hx rfl (hb hby at_24) rfl (l' := #[.val (.int p1), .val (.int (7 : Int32)), .val (.ref w1), .val (.int (1 : Int32))]) rfl ?_
    show Steps p.tables e below (T41.setTop (mkF m 25 #[.val (.int p1), .val (.int (7 : Int32)), .val (.ref w1), .val (.int (1 : Int32))] [])) _
    refine XS.aloadN X41.here hx rfl (hb hby at_25) rfl rfl ?_
    show Steps p.tables e below (T41.setTop (mkF m 26 #[.val (.int p1), .val (.int (7 : Int32)), .val (.ref w1), .val (.int (1 : Int32))] [(.ref w1)])) _
    refine st42.trans ?_
    show Steps p.tables e below (T42.setTop (mkF m 29 #[.val (.int p1), .val (.int (7 : Int32)), .val (.ref w1), .val (.int (1 : Int32))] [(.int (1 : Int32))])) _
    refine XS.iloadN X42.here hx rfl (hb hby at_29) rfl ?_
    show Steps p.tables e below (T42.setTop (mkF m 30 #[.val (.int p1), .val (.int (7 : Int32)), .val (.ref w1), .val (.int (1 : Int32))] [(.int (1 : Int32)), (.int (1 : Int32))])) _
    refine XS.icmpNo X42.here hx rfl (hb hby at_30) rfl (by decide) ?_
    show Steps p.tables e below (T42.setTop (mkF m 33 #[.val (.int p1), .val (.int (7 : Int32)), .val (.ref w1), .val (.int (1 : Int32))] [])) _
    refine XT.iconstV X42.here hx rfl (1 : Int32) (hb hby at_33) rfl ?_
    show Steps p.tables e below (T42.setTop (mkF m 34 #[.val (.int p1), .val (.int (7 : Int32)), .val (.ref w1), .val (.int (1 : Int32))] [(.int (1 : Int32))])) _
    refine XS.goto X42.here hx rfl (pc0 := 34) (pc' := 38) rfl (hb hby at_34) (by decide) (by decide) ?_
    show Steps p.tables e below (T42.setTop (mkF m 38 #[.val (.int p1), .val (.int (7 : Int32)), .val (.ref w1), .val (.int (1 : Int32))] [(.int (1 : Int32))])) _
    exact retN X42 hx (t := .boolean) Bd.returns (by simp) (hb hby at_38) hr
  · show own_Q0 n0 _ T42.heap _
    exact ⟨rfl, N42⟩
set_option maxRecDepth 65536 in
set_option maxHeartbeats 40000000 in
theorem own_law_8 (l : Launch) (Z : State) (a0 : Array Value) (hw : ∀ d ∈ tables_1, d.before a0 Z = true) (ws : List Jvm.Cond) (p1 : Int32) (w0 w1 w2 w3 w4 w5 w6 w7 w8 w9 w10 w11 w12 : Addr) (h0 : Heap) (n0 : Nat) (Z0 : n0 ≤ h0.size) (P : own_P Z h0 w0 w1 w2 w3 w4 w5 w6 w7 w8 w9 w10 w11 w12) (hk : ((p1 &&& (2147483647 : Int32)) % (13 : Int32)) = (8 : Int32)) :
    MetFree l x (head1 (Jvm.Cond.code x code maxLocals ret :: ws) room_1) (fun a U => a = #[(.int p1)] ∧ Z.Warmed39 U.vm ∧ U.heap = h0) (fun _ _ _ _ _ => True) (fun _ U o U' => ∃ v L, o = .returned v ∧ own_Q0 n0 v U'.heap L ∧ FrameEnd U o U' L room_1.cells room_1.slots) := by
  refine MetFree.of_bodySF (plainFor_of_name pn_com_example_recourse_recourse_CaseActionGivesAmountBackPinLaw) hisR ?_
  intro p e s m args below meth c s₁ Bd hml0 hP hK
  obtain ⟨rfl, hZ, hh⟩ := hP
  have hx := Bd.exec
  have hby := Bd.bytes
  have hml : c.maxLocals = 4 := hml0
  have hown : s.vm.findClass "com/example/recourse/recourse/CaseActionGivesAmountBackPinLaw" = some m.cls := findClass_of_methodNamed Bd.named
  have hnm := (name_of_methodNamed Bd.named Bd.method).1
  have X0 : Stand p l e room_1 s m #[(.int p1)] below meth c s₁ [] 0 0 := Stand.of_body Bd
  have e0 : s₁.heap = h0 := by rw [← hh, Bd.state]; rfl
  have N0 := Fr.nil n0
  have pre0 : ∀ t, Steps p.tables e below (s₁.setTop (mkF m 0 #[.val (.int p1), .unset, .unset, .unset] [])) t → Steps p.tables e below (s₁.setTop (entryFrame m #[(.int p1)] maxLocals)) t := fun t k => castTop (ef_code_I m p1) k
  have P0 := P; obtain ⟨S0, E0, F0_ordinal, S1, E1, F1_ordinal, S2, E2, F2_ordinal, S3, E3, F3_ordinal, S4, E4, F4_ordinal, S5, E5, F5_ordinal, S6, E6, F6_ordinal, S7, E7, F7_ordinal, S8, E8, F8_ordinal, S9, E9, F9_ordinal, S10, E10, F10_ordinal, S11, E11, F11_ordinal, S12, E12, F12_ordinal⟩ := P0
  obtain ⟨_, _, ⟨T43, L43, k43, n43⟩, -, X43, ⟨Lc43, hQ43, l43, y43, z43⟩, st43⟩ := Jvm.LawKit.callS X0 hx (y := (⟨"com/example/recourse/recourse/CaseActionGivesAmountBackPinLaw", "pick", "(I)Lcom/example/recourse/recourse/CaseAction;"⟩ : MethodName)) hown (mvT hZ (hw _ (List.mem_of_getElem? (i := 1) rfl))) (mvT hZ (hw _ (List.mem_of_getElem? (i := 2) rfl))) (mvT hZ (hw _ (List.mem_of_getElem? (i := 3) rfl))) (mvT hZ (hw _ (List.mem_of_getElem? (i := 4) rfl))) (by decide) (backOf (W := 0) (own_pick_8 l Z a0 hw [] w0 w1 w2 w3 w4 w5 w6 w7 w8 w9 w10 w11 w12 h0 n0 Z0 P) hZ (hw _ (List.mem_of_getElem? (i := 4) rfl)) (hw _ (List.mem_of_getElem? (i := 3) rfl)) (by decide) (by decide)) (g := (mkF m 9 #[.val (.int p1), .val (.int (8 : Int32)), .unset, .unset] [(.int (8 : Int32))])) rfl (by rw [hml]; rfl) (argsL := [(.int (8 : Int32))]) (rest := []) (lenOf pd__I_Lcom_example_recourse_recourse_CaseAction_ rfl) rfl (by show 2 * 0 + _ ≤ _; exact Nat.le_of_eq rfl) (hb hby at_9) (fun _ _ => ⟨rfl, e0, (by decide : 0 + 0 ≤ _), (by decide : 0 + 0 ≤ _)⟩)
  dsimp only [Pt.U, Pt.locs, Pt.cells, Pt.slots] at X43 l43 y43 z43 st43 hQ43
  subst l43 y43 z43
  obtain ⟨rfl, N43q, e43⟩ := hQ43
  have N43 := Fr.app N0 N43q
  obtain ⟨cq44, kq44, q44a, q44b, q44c⟩ := isOf hZ e43 E9
  obtain ⟨_, _, ⟨T44, L44, k44, n44⟩, -, X44, ⟨Lc44, hQ44, l44, y44, z44⟩, st44⟩ := X43.virtualBack hx (y := (⟨"com/example/recourse/recourse/CaseAction", "givesAmountBack", "()Z"⟩ : MethodName)) (z := (⟨"com/example/recourse/recourse/CaseAction", "givesAmountBack", "()Z"⟩ : MethodName)) hown (mvT hZ (hw _ (List.mem_of_getElem? (i := 8) rfl))) (mvT hZ (hw _ (List.mem_of_getElem? (i := 9) rfl))) (notFace_of_selects (args := #[]) (mvT hZ (hw _ (List.mem_of_getElem? (i := 11) rfl)))) (mvT hZ (hw _ (List.mem_of_getElem? (i := 11) rfl))) (mvT hZ (hw _ (List.mem_of_getElem? (i := 10) rfl))) (by decide) (backOf (W := 0) (own_givesAmountBack_9 l Z a0 hw [] w0 w1 w2 w3 w4 w5 w6 w7 w8 w9 w10 w11 w12 h0 n0 Z0 P) hZ (hw _ (List.mem_of_getElem? (i := 12) rfl)) (hw _ (List.mem_of_getElem? (i := 6) rfl)) (by decide) (by decide)) q44a q44c (g := (mkF m 26 #[.val (.int p1), .val (.int (8 : Int32)), .val (.ref w9), .val (.int (0 : Int32))] [(.ref w9)])) rfl (by rw [hml]; rfl) (Steps.refl _) (argsL := []) (rest := []) (lenOf pd___Z rfl) rfl (by show 2 * 0 + _ ≤ _; exact Nat.le_of_eq rfl) (hb hby at_26) (fun _ _ => ⟨rfl, e43, (by decide : 0 + 0 ≤ _), (by decide : 0 + 0 ≤ _)⟩)
  dsimp only [Pt.U, Pt.locs, Pt.cells, Pt.slots] at X44 l44 y44 z44 st44 hQ44
  subst l44 y44 z44
  obtain ⟨rfl, N44q, e44⟩ := hQ44
  have N44 := Fr.app N43 N44q
  obtain ⟨fs, hr, hrun, hended, hW, hsame⟩ := X44.leave (v := some (.int (1 : Int32))) (fun h => by rw [Bd.returns] at h; cases h)
  refine ⟨_, _, pre0 _ ?_, hrun, hended, _, _, rfl, ?_, ⟨_, rfl⟩, hW, hsame.mono (by decide) (by decide)⟩
  · show Steps p.tables e below (s₁.setTop (mkF m 0 #[.val (.int p1), .unset, .unset, .unset] [])) _
    refine XS.iloadN X0.here hx rfl (hb hby at_0) rfl ?_
    show Steps p.tables e below (s₁.setTop (mkF m 1 #[.val (.int p1), .unset, .unset, .unset] [(.int p1)])) _
    refine Jvm.Stand.ldcI X0 hx hown (mvT hZ (hw _ (List.mem_of_getElem? (i := 0) rfl))) rfl (hb hby at_1) ?_
    show Steps p.tables e below (s₁.setTop (mkF m 3 #[.val (.int p1), .unset, .unset, .unset] [(.int (2147483647 : Int32)), (.int p1)])) _
    refine XS.iand X0.here hx rfl (hb hby at_3) rfl ?_
    show Steps p.tables e below (s₁.setTop (mkF m 4 #[.val (.int p1), .unset, .unset, .unset] [(.int (p1 &&& (2147483647 : Int32)))])) _
    refine XT.bipushV X0.here hx rfl (13 : Int32) (hb hby at_4) (by decide) ?_
    show Steps p.tables e below (s₁.setTop (mkF m 6 #[.val (.int p1), .unset, .unset, .unset] [(.int (13 : Int32)), (.int (p1 &&& (2147483647 : Int32)))])) _
    refine iremM X0 hx rfl (hb hby at_6) rfl (by decide) ?_
    show Steps p.tables e below (s₁.setTop (mkF m 7 #[.val (.int p1), .unset, .unset, .unset] [(.int ((p1 &&& (2147483647 : Int32)) % (13 : Int32)))])) _
    rw [hk]
    show Steps p.tables e below (s₁.setTop (mkF m 7 #[.val (.int p1), .unset, .unset, .unset] [(.int (8 : Int32))])) _
    refine XS.istoreN X0.here hx rfl (hb hby at_7) rfl (l' := #[.val (.int p1), .val (.int (8 : Int32)), .unset, .unset]) rfl ?_
    show Steps p.tables e below (s₁.setTop (mkF m 8 #[.val (.int p1), .val (.int (8 : Int32)), .unset, .unset] [])) _
    refine XS.iloadN X0.here hx rfl (hb hby at_8) rfl ?_
    show Steps p.tables e below (s₁.setTop (mkF m 9 #[.val (.int p1), .val (.int (8 : Int32)), .unset, .unset] [(.int (8 : Int32))])) _
    refine st43 _ ?_
    show Steps p.tables e below (T43.setTop (mkF m 12 #[.val (.int p1), .val (.int (8 : Int32)), .unset, .unset] [(.ref w9)])) _
    refine XS.astoreN X43.here hx rfl (hb hby at_12) rfl rfl (l' := #[.val (.int p1), .val (.int (8 : Int32)), .val (.ref w9), .unset]) rfl ?_
    show Steps p.tables e below (T43.setTop (mkF m 13 #[.val (.int p1), .val (.int (8 : Int32)), .val (.ref w9), .unset] [])) _
    refine XS.iloadN X43.here hx rfl (hb hby at_13) rfl ?_
    show Steps p.tables e below (T43.setTop (mkF m 14 #[.val (.int p1), .val (.int (8 : Int32)), .val (.ref w9), .unset] [(.int (8 : Int32))])) _
    refine XT.bipushV X43.here hx rfl (7 : Int32) (hb hby at_14) (by decide) ?_
    show Steps p.tables e below (T43.setTop (mkF m 16 #[.val (.int p1), .val (.int (8 : Int32)), .val (.ref w9), .unset] [(.int (7 : Int32)), (.int (8 : Int32))])) _
    refine XS.icmpYes X43.here hx rfl (pc0 := 16) (pc' := 23) rfl (hb hby at_16) rfl (by decide) (by decide) (by decide) ?_
    show Steps p.tables e below (T43.setTop (mkF m 23 #[.val (.int p1), .val (.int (8 : Int32)), .val (.ref w9), .unset] [])) _
    refine XT.iconstV X43.here hx rfl (0 : Int32) (hb hby at_23) rfl ?_
    show Steps p.tables e below (T43.setTop (mkF m 24 #[.val (.int p1), .val (.int (8 : Int32)), .val (.ref w9), .unset] [(.int (0 : Int32))])) _
    refine XS.istoreN X43.here hx rfl (hb hby at_24) rfl (l' := #[.val (.int p1), .val (.int (8 : Int32)), .val (.ref w9), .val (.int (0 : Int32))]) rfl ?_
    show Steps p.tables e below (T43.setTop (mkF m 25 #[.val (.int p1), .val (.int (8 : Int32)), .val (.ref w9), .val (.int (0 : Int32))] [])) _
    refine XS.aloadN X43.here hx rfl (hb hby at_25) rfl rfl ?_
    show Steps p.tables e below (T43.setTop (mkF m 26 #[.val (.int p1), .val (.int (8 : Int32)), .val (.ref w9), .val (.int (0 : Int32))] [(.ref w9)])) _
    refine st44.trans ?_
    show Steps p.tables e below (T44.setTop (mkF m 29 #[.val (.int p1), .val (.int (8 : Int32)), .val (.ref w9), .val (.int (0 : Int32))] [(.int (0 : Int32))])) _
    refine XS.iloadN X44.here hx rfl (hb hby at_29) rfl ?_
    show Steps p.tables e below (T44.setTop (mkF m 30 #[.val (.int p1), .val (.int (8 : Int32)), .val (.ref w9), .val (.int (0 : Int32))] [(.int (0 : Int32)), (.int (0 : Int32))])) _
    refine XS.icmpNo X44.here hx rfl (hb hby at_30) rfl (by decide) ?_
    show Steps p.tables e below (T44.setTop (mkF m 33 #[.val (.int p1), .val (.int (8 : Int32)), .val (.ref w9), .val (.int (0 : Int32))] [])) _
    refine XT.iconstV X44.here hx rfl (1 : Int32) (hb hby at_33) rfl ?_
    show Steps p.tables e below (T44.setTop (mkF m 34 #[.val (.int p1), .val (.int (8 : Int32)), .val (.ref w9), .val (.int (0 : Int32))] [(.int (1 : Int32))])) _
    refine XS.goto X44.here hx rfl (pc0 := 34) (pc' := 38) rfl (hb hby at_34) (by decide) (by decide) ?_
    show Steps p.tables e below (T44.setTop (mkF m 38 #[.val (.int p1), .val (.int (8 : Int32)), .val (.ref w9), .val (.int (0 : Int32))] [(.int (1 : Int32))])) _
    exact retN X44 hx (t := .boolean) Bd.returns (by simp) (hb hby at_38) hr
  · show own_Q0 n0 _ T44.heap _
    exact ⟨rfl, N44⟩
set_option maxRecDepth 65536 in
set_option maxHeartbeats 40000000 in
theorem own_law_9 (l : Launch) (Z : State) (a0 : Array Value) (hw : ∀ d ∈ tables_1, d.before a0 Z = true) (ws : List Jvm.Cond) (p1 : Int32) (w0 w1 w2 w3 w4 w5 w6 w7 w8 w9 w10 w11 w12 : Addr) (h0 : Heap) (n0 : Nat) (Z0 : n0 ≤ h0.size) (P : own_P Z h0 w0 w1 w2 w3 w4 w5 w6 w7 w8 w9 w10 w11 w12) (hk : ((p1 &&& (2147483647 : Int32)) % (13 : Int32)) = (9 : Int32)) :
    MetFree l x (head1 (Jvm.Cond.code x code maxLocals ret :: ws) room_1) (fun a U => a = #[(.int p1)] ∧ Z.Warmed39 U.vm ∧ U.heap = h0) (fun _ _ _ _ _ => True) (fun _ U o U' => ∃ v L, o = .returned v ∧ own_Q0 n0 v U'.heap L ∧ FrameEnd U o U' L room_1.cells room_1.slots) := by
  refine MetFree.of_bodySF (plainFor_of_name pn_com_example_recourse_recourse_CaseActionGivesAmountBackPinLaw) hisR ?_
  intro p e s m args below meth c s₁ Bd hml0 hP hK
  obtain ⟨rfl, hZ, hh⟩ := hP
  have hx := Bd.exec
  have hby := Bd.bytes
  have hml : c.maxLocals = 4 := hml0
  have hown : s.vm.findClass "com/example/recourse/recourse/CaseActionGivesAmountBackPinLaw" = some m.cls := findClass_of_methodNamed Bd.named
  have hnm := (name_of_methodNamed Bd.named Bd.method).1
  have X0 : Stand p l e room_1 s m #[(.int p1)] below meth c s₁ [] 0 0 := Stand.of_body Bd
  have e0 : s₁.heap = h0 := by rw [← hh, Bd.state]; rfl
  have N0 := Fr.nil n0
  have pre0 : ∀ t, Steps p.tables e below (s₁.setTop (mkF m 0 #[.val (.int p1), .unset, .unset, .unset] [])) t → Steps p.tables e below (s₁.setTop (entryFrame m #[(.int p1)] maxLocals)) t := fun t k => castTop (ef_code_I m p1) k
  have P0 := P; obtain ⟨S0, E0, F0_ordinal, S1, E1, F1_ordinal, S2, E2, F2_ordinal, S3, E3, F3_ordinal, S4, E4, F4_ordinal, S5, E5, F5_ordinal, S6, E6, F6_ordinal, S7, E7, F7_ordinal, S8, E8, F8_ordinal, S9, E9, F9_ordinal, S10, E10, F10_ordinal, S11, E11, F11_ordinal, S12, E12, F12_ordinal⟩ := P0
  obtain ⟨_, _, ⟨T45, L45, k45, n45⟩, -, X45, ⟨Lc45, hQ45, l45, y45, z45⟩, st45⟩ := Jvm.LawKit.callS X0 hx (y := (⟨"com/example/recourse/recourse/CaseActionGivesAmountBackPinLaw", "pick", "(I)Lcom/example/recourse/recourse/CaseAction;"⟩ : MethodName)) hown (mvT hZ (hw _ (List.mem_of_getElem? (i := 1) rfl))) (mvT hZ (hw _ (List.mem_of_getElem? (i := 2) rfl))) (mvT hZ (hw _ (List.mem_of_getElem? (i := 3) rfl))) (mvT hZ (hw _ (List.mem_of_getElem? (i := 4) rfl))) (by decide) (backOf (W := 0) (own_pick_9 l Z a0 hw [] w0 w1 w2 w3 w4 w5 w6 w7 w8 w9 w10 w11 w12 h0 n0 Z0 P) hZ (hw _ (List.mem_of_getElem? (i := 4) rfl)) (hw _ (List.mem_of_getElem? (i := 3) rfl)) (by decide) (by decide)) (g := (mkF m 9 #[.val (.int p1), .val (.int (9 : Int32)), .unset, .unset] [(.int (9 : Int32))])) rfl (by rw [hml]; rfl) (argsL := [(.int (9 : Int32))]) (rest := []) (lenOf pd__I_Lcom_example_recourse_recourse_CaseAction_ rfl) rfl (by show 2 * 0 + _ ≤ _; exact Nat.le_of_eq rfl) (hb hby at_9) (fun _ _ => ⟨rfl, e0, (by decide : 0 + 0 ≤ _), (by decide : 0 + 0 ≤ _)⟩)
  dsimp only [Pt.U, Pt.locs, Pt.cells, Pt.slots] at X45 l45 y45 z45 st45 hQ45
  subst l45 y45 z45
  obtain ⟨rfl, N45q, e45⟩ := hQ45
  have N45 := Fr.app N0 N45q
  obtain ⟨cq46, kq46, q46a, q46b, q46c⟩ := isOf hZ e45 E5
  obtain ⟨_, _, ⟨T46, L46, k46, n46⟩, -, X46, ⟨Lc46, hQ46, l46, y46, z46⟩, st46⟩ := X45.virtualBack hx (y := (⟨"com/example/recourse/recourse/CaseAction", "givesAmountBack", "()Z"⟩ : MethodName)) (z := (⟨"com/example/recourse/recourse/CaseAction", "givesAmountBack", "()Z"⟩ : MethodName)) hown (mvT hZ (hw _ (List.mem_of_getElem? (i := 8) rfl))) (mvT hZ (hw _ (List.mem_of_getElem? (i := 9) rfl))) (notFace_of_selects (args := #[]) (mvT hZ (hw _ (List.mem_of_getElem? (i := 11) rfl)))) (mvT hZ (hw _ (List.mem_of_getElem? (i := 11) rfl))) (mvT hZ (hw _ (List.mem_of_getElem? (i := 10) rfl))) (by decide) (backOf (W := 0) (own_givesAmountBack_5 l Z a0 hw [] w0 w1 w2 w3 w4 w5 w6 w7 w8 w9 w10 w11 w12 h0 n0 Z0 P) hZ (hw _ (List.mem_of_getElem? (i := 12) rfl)) (hw _ (List.mem_of_getElem? (i := 6) rfl)) (by decide) (by decide)) q46a q46c (g := (mkF m 26 #[.val (.int p1), .val (.int (9 : Int32)), .val (.ref w5), .val (.int (0 : Int32))] [(.ref w5)])) rfl (by rw [hml]; rfl) (Steps.refl _) (argsL := []) (rest := []) (lenOf pd___Z rfl) rfl (by show 2 * 0 + _ ≤ _; exact Nat.le_of_eq rfl) (hb hby at_26) (fun _ _ => ⟨rfl, e45, (by decide : 0 + 0 ≤ _), (by decide : 0 + 0 ≤ _)⟩)
  dsimp only [Pt.U, Pt.locs, Pt.cells, Pt.slots] at X46 l46 y46 z46 st46 hQ46
  subst l46 y46 z46
  obtain ⟨rfl, N46q, e46⟩ := hQ46
  have N46 := Fr.app N45 N46q
  obtain ⟨fs, hr, hrun, hended, hW, hsame⟩ := X46.leave (v := some (.int (1 : Int32))) (fun h => by rw [Bd.returns] at h; cases h)
  refine ⟨_, _, pre0 _ ?_, hrun, hended, _, _, rfl, ?_, ⟨_, rfl⟩, hW, hsame.mono (by decide) (by decide)⟩
  · show Steps p.tables e below (s₁.setTop (mkF m 0 #[.val (.int p1), .unset, .unset, .unset] [])) _
    refine XS.iloadN X0.here hx rfl (hb hby at_0) rfl ?_
    show Steps p.tables e below (s₁.setTop (mkF m 1 #[.val (.int p1), .unset, .unset, .unset] [(.int p1)])) _
    refine Jvm.Stand.ldcI X0 hx hown (mvT hZ (hw _ (List.mem_of_getElem? (i := 0) rfl))) rfl (hb hby at_1) ?_
    show Steps p.tables e below (s₁.setTop (mkF m 3 #[.val (.int p1), .unset, .unset, .unset] [(.int (2147483647 : Int32)), (.int p1)])) _
    refine XS.iand X0.here hx rfl (hb hby at_3) rfl ?_
    show Steps p.tables e below (s₁.setTop (mkF m 4 #[.val (.int p1), .unset, .unset, .unset] [(.int (p1 &&& (2147483647 : Int32)))])) _
    refine XT.bipushV X0.here hx rfl (13 : Int32) (hb hby at_4) (by decide) ?_
    show Steps p.tables e below (s₁.setTop (mkF m 6 #[.val (.int p1), .unset, .unset, .unset] [(.int (13 : Int32)), (.int (p1 &&& (2147483647 : Int32)))])) _
    refine iremM X0 hx rfl (hb hby at_6) rfl (by decide) ?_
    show Steps p.tables e below (s₁.setTop (mkF m 7 #[.val (.int p1), .unset, .unset, .unset] [(.int ((p1 &&& (2147483647 : Int32)) % (13 : Int32)))])) _
    rw [hk]
    show Steps p.tables e below (s₁.setTop (mkF m 7 #[.val (.int p1), .unset, .unset, .unset] [(.int (9 : Int32))])) _
    refine XS.istoreN X0.here hx rfl (hb hby at_7) rfl (l' := #[.val (.int p1), .val (.int (9 : Int32)), .unset, .unset]) rfl ?_
    show Steps p.tables e below (s₁.setTop (mkF m 8 #[.val (.int p1), .val (.int (9 : Int32)), .unset, .unset] [])) _
    refine XS.iloadN X0.here hx rfl (hb hby at_8) rfl ?_
    show Steps p.tables e below (s₁.setTop (mkF m 9 #[.val (.int p1), .val (.int (9 : Int32)), .unset, .unset] [(.int (9 : Int32))])) _
    refine st45 _ ?_
    show Steps p.tables e below (T45.setTop (mkF m 12 #[.val (.int p1), .val (.int (9 : Int32)), .unset, .unset] [(.ref w5)])) _
    refine XS.astoreN X45.here hx rfl (hb hby at_12) rfl rfl (l' := #[.val (.int p1), .val (.int (9 : Int32)), .val (.ref w5), .unset]) rfl ?_
    show Steps p.tables e below (T45.setTop (mkF m 13 #[.val (.int p1), .val (.int (9 : Int32)), .val (.ref w5), .unset] [])) _
    refine XS.iloadN X45.here hx rfl (hb hby at_13) rfl ?_
    show Steps p.tables e below (T45.setTop (mkF m 14 #[.val (.int p1), .val (.int (9 : Int32)), .val (.ref w5), .unset] [(.int (9 : Int32))])) _
    refine XT.bipushV X45.here hx rfl (7 : Int32) (hb hby at_14) (by decide) ?_
    show Steps p.tables e below (T45.setTop (mkF m 16 #[.val (.int p1), .val (.int (9 : Int32)), .val (.ref w5), .unset] [(.int (7 : Int32)), (.int (9 : Int32))])) _
    refine XS.icmpYes X45.here hx rfl (pc0 := 16) (pc' := 23) rfl (hb hby at_16) rfl (by decide) (by decide) (by decide) ?_
    show Steps p.tables e below (T45.setTop (mkF m 23 #[.val (.int p1), .val (.int (9 : Int32)), .val (.ref w5), .unset] [])) _
    refine XT.iconstV X45.here hx rfl (0 : Int32) (hb hby at_23) rfl ?_
    show Steps p.tables e below (T45.setTop (mkF m 24 #[.val (.int p1), .val (.int (9 : Int32)), .val (.ref w5), .unset] [(.int (0 : Int32))])) _
    refine XS.istoreN X45.here hx rfl (hb hby at_24) rfl (l' := #[.val (.int p1), .val (.int (9 : Int32)), .val (.ref w5), .val (.int (0 : Int32))]) rfl ?_
    show Steps p.tables e below (T45.setTop (mkF m 25 #[.val (.int p1), .val (.int (9 : Int32)), .val (.ref w5), .val (.int (0 : Int32))] [])) _
    refine XS.aloadN X45.here hx rfl (hb hby at_25) rfl rfl ?_
    show Steps p.tables e below (T45.setTop (mkF m 26 #[.val (.int p1), .val (.int (9 : Int32)), .val (.ref w5), .val (.int (0 : Int32))] [(.ref w5)])) _
    refine st46.trans ?_
    show Steps p.tables e below (T46.setTop (mkF m 29 #[.val (.int p1), .val (.int (9 : Int32)), .val (.ref w5), .val (.int (0 : Int32))] [(.int (0 : Int32))])) _
    refine XS.iloadN X46.here hx rfl (hb hby at_29) rfl ?_
    show Steps p.tables e below (T46.setTop (mkF m 30 #[.val (.int p1), .val (.int (9 : Int32)), .val (.ref w5), .val (.int (0 : Int32))] [(.int (0 : Int32)), (.int (0 : Int32))])) _
    refine XS.icmpNo X46.here hx rfl (hb hby at_30) rfl (by decide) ?_
    show Steps p.tables e below (T46.setTop (mkF m 33 #[.val (.int p1), .val (.int (9 : Int32)), .val (.ref w5), .val (.int (0 : Int32))] [])) _
    refine XT.iconstV X46.here hx rfl (1 : Int32) (hb hby at_33) rfl ?_
    show Steps p.tables e below (T46.setTop (mkF m 34 #[.val (.int p1), .val (.int (9 : Int32)), .val (.ref w5), .val (.int (0 : Int32))] [(.int (1 : Int32))])) _
    refine XS.goto X46.here hx rfl (pc0 := 34) (pc' := 38) rfl (hb hby at_34) (by decide) (by decide) ?_
    show Steps p.tables e below (T46.setTop (mkF m 38 #[.val (.int p1), .val (.int (9 : Int32)), .val (.ref w5), .val (.int (0 : Int32))] [(.int (1 : Int32))])) _
    exact retN X46 hx (t := .boolean) Bd.returns (by simp) (hb hby at_38) hr
  · show own_Q0 n0 _ T46.heap _
    exact ⟨rfl, N46⟩
set_option maxRecDepth 65536 in
set_option maxHeartbeats 40000000 in
theorem own_law_10 (l : Launch) (Z : State) (a0 : Array Value) (hw : ∀ d ∈ tables_1, d.before a0 Z = true) (ws : List Jvm.Cond) (p1 : Int32) (w0 w1 w2 w3 w4 w5 w6 w7 w8 w9 w10 w11 w12 : Addr) (h0 : Heap) (n0 : Nat) (Z0 : n0 ≤ h0.size) (P : own_P Z h0 w0 w1 w2 w3 w4 w5 w6 w7 w8 w9 w10 w11 w12) (hk : ((p1 &&& (2147483647 : Int32)) % (13 : Int32)) = (10 : Int32)) :
    MetFree l x (head1 (Jvm.Cond.code x code maxLocals ret :: ws) room_1) (fun a U => a = #[(.int p1)] ∧ Z.Warmed39 U.vm ∧ U.heap = h0) (fun _ _ _ _ _ => True) (fun _ U o U' => ∃ v L, o = .returned v ∧ own_Q0 n0 v U'.heap L ∧ FrameEnd U o U' L room_1.cells room_1.slots) := by
  refine MetFree.of_bodySF (plainFor_of_name pn_com_example_recourse_recourse_CaseActionGivesAmountBackPinLaw) hisR ?_
  intro p e s m args below meth c s₁ Bd hml0 hP hK
  obtain ⟨rfl, hZ, hh⟩ := hP
  have hx := Bd.exec
  have hby := Bd.bytes
  have hml : c.maxLocals = 4 := hml0
  have hown : s.vm.findClass "com/example/recourse/recourse/CaseActionGivesAmountBackPinLaw" = some m.cls := findClass_of_methodNamed Bd.named
  have hnm := (name_of_methodNamed Bd.named Bd.method).1
  have X0 : Stand p l e room_1 s m #[(.int p1)] below meth c s₁ [] 0 0 := Stand.of_body Bd
  have e0 : s₁.heap = h0 := by rw [← hh, Bd.state]; rfl
  have N0 := Fr.nil n0
  have pre0 : ∀ t, Steps p.tables e below (s₁.setTop (mkF m 0 #[.val (.int p1), .unset, .unset, .unset] [])) t → Steps p.tables e below (s₁.setTop (entryFrame m #[(.int p1)] maxLocals)) t := fun t k => castTop (ef_code_I m p1) k
  have P0 := P; obtain ⟨S0, E0, F0_ordinal, S1, E1, F1_ordinal, S2, E2, F2_ordinal, S3, E3, F3_ordinal, S4, E4, F4_ordinal, S5, E5, F5_ordinal, S6, E6, F6_ordinal, S7, E7, F7_ordinal, S8, E8, F8_ordinal, S9, E9, F9_ordinal, S10, E10, F10_ordinal, S11, E11, F11_ordinal, S12, E12, F12_ordinal⟩ := P0
  obtain ⟨_, _, ⟨T47, L47, k47, n47⟩, -, X47, ⟨Lc47, hQ47, l47, y47, z47⟩, st47⟩ := Jvm.LawKit.callS X0 hx (y := (⟨"com/example/recourse/recourse/CaseActionGivesAmountBackPinLaw", "pick", "(I)Lcom/example/recourse/recourse/CaseAction;"⟩ : MethodName)) hown (mvT hZ (hw _ (List.mem_of_getElem? (i := 1) rfl))) (mvT hZ (hw _ (List.mem_of_getElem? (i := 2) rfl))) (mvT hZ (hw _ (List.mem_of_getElem? (i := 3) rfl))) (mvT hZ (hw _ (List.mem_of_getElem? (i := 4) rfl))) (by decide) (backOf (W := 0) (own_pick_10 l Z a0 hw [] w0 w1 w2 w3 w4 w5 w6 w7 w8 w9 w10 w11 w12 h0 n0 Z0 P) hZ (hw _ (List.mem_of_getElem? (i := 4) rfl)) (hw _ (List.mem_of_getElem? (i := 3) rfl)) (by decide) (by decide)) (g := (mkF m 9 #[.val (.int p1), .val (.int (10 : Int32)), .unset, .unset] [(.int (10 : Int32))])) rfl (by rw [hml]; rfl) (argsL := [(.int (10 : Int32))]) (rest := []) (lenOf pd__I_Lcom_example_recourse_recourse_CaseAction_ rfl) rfl (by show 2 * 0 + _ ≤ _; exact Nat.le_of_eq rfl) (hb hby at_9) (fun _ _ => ⟨rfl, e0, (by decide : 0 + 0 ≤ _), (by decide : 0 + 0 ≤ _)⟩)
  dsimp only [Pt.U, Pt.locs, Pt.cells, Pt.slots] at X47 l47 y47 z47 st47 hQ47
  subst l47 y47 z47
  obtain ⟨rfl, N47q, e47⟩ := hQ47
  have N47 := Fr.app N0 N47q
  obtain ⟨cq48, kq48, q48a, q48b, q48c⟩ := isOf hZ e47 E10
  obtain ⟨_, _, ⟨T48, L48, k48, n48⟩, -, X48, ⟨Lc48, hQ48, l48, y48, z48⟩, st48⟩ := X47.virtualBack hx (y := (⟨"com/example/recourse/recourse/CaseAction", "givesAmountBack", "()Z"⟩ : MethodName)) (z := (⟨"com/example/recourse/recourse/CaseAction", "givesAmountBack", "()Z"⟩ : MethodName)) hown (mvT hZ (hw _ (List.mem_of_getElem? (i := 8) rfl))) (mvT hZ (hw _ (List.mem_of_getElem? (i := 9) rfl))) (notFace_of_selects (args := #[]) (mvT hZ (hw _ (List.mem_of_getElem? (i := 11) rfl)))) (mvT hZ (hw _ (List.mem_of_getElem? (i := 11) rfl))) (mvT hZ (hw _ (List.mem_of_getElem? (i := 10) rfl))) (by decide) (backOf (W := 0) (own_givesAmountBack_10 l Z a0 hw [] w0 w1 w2 w3 w4 w5 w6 w7 w8 w9 w10 w11 w12 h0 n0 Z0 P) hZ (hw _ (List.mem_of_getElem? (i := 12) rfl)) (hw _ (List.mem_of_getElem? (i := 6) rfl)) (by decide) (by decide)) q48a q48c (g := (mkF m 26 #[.val (.int p1), .val (.int (10 : Int32)), .val (.ref w10), .val (.int (0 : Int32))] [(.ref w10)])) rfl (by rw [hml]; rfl) (Steps.refl _) (argsL := []) (rest := []) (lenOf pd___Z rfl) rfl (by show 2 * 0 + _ ≤ _; exact Nat.le_of_eq rfl) (hb hby at_26) (fun _ _ => ⟨rfl, e47, (by decide : 0 + 0 ≤ _), (by decide : 0 + 0 ≤ _)⟩)
  dsimp only [Pt.U, Pt.locs, Pt.cells, Pt.slots] at X48 l48 y48 z48 st48 hQ48
  subst l48 y48 z48
  obtain ⟨rfl, N48q, e48⟩ := hQ48
  have N48 := Fr.app N47 N48q
  obtain ⟨fs, hr, hrun, hended, hW, hsame⟩ := X48.leave (v := some (.int (1 : Int32))) (fun h => by rw [Bd.returns] at h; cases h)
  refine ⟨_, _, pre0 _ ?_, hrun, hended, _, _, rfl, ?_, ⟨_, rfl⟩, hW, hsame.mono (by decide) (by decide)⟩
  · show Steps p.tables e below (s₁.setTop (mkF m 0 #[.val (.int p1), .unset, .unset, .unset] [])) _
    refine XS.iloadN X0.here hx rfl (hb hby at_0) rfl ?_
    show Steps p.tables e below (s₁.setTop (mkF m 1 #[.val (.int p1), .unset, .unset, .unset] [(.int p1)])) _
    refine Jvm.Stand.ldcI X0 hx hown (mvT hZ (hw _ (List.mem_of_getElem? (i := 0) rfl))) rfl (hb hby at_1) ?_
    show Steps p.tables e below (s₁.setTop (mkF m 3 #[.val (.int p1), .unset, .unset, .unset] [(.int (2147483647 : Int32)), (.int p1)])) _
    refine XS.iand X0.here hx rfl (hb hby at_3) rfl ?_
    show Steps p.tables e below (s₁.setTop (mkF m 4 #[.val (.int p1), .unset, .unset, .unset] [(.int (p1 &&& (2147483647 : Int32)))])) _
    refine XT.bipushV X0.here hx rfl (13 : Int32) (hb hby at_4) (by decide) ?_
    show Steps p.tables e below (s₁.setTop (mkF m 6 #[.val (.int p1), .unset, .unset, .unset] [(.int (13 : Int32)), (.int (p1 &&& (2147483647 : Int32)))])) _
    refine iremM X0 hx rfl (hb hby at_6) rfl (by decide) ?_
    show Steps p.tables e below (s₁.setTop (mkF m 7 #[.val (.int p1), .unset, .unset, .unset] [(.int ((p1 &&& (2147483647 : Int32)) % (13 : Int32)))])) _
    rw [hk]
    show Steps p.tables e below (s₁.setTop (mkF m 7 #[.val (.int p1), .unset, .unset, .unset] [(.int (10 : Int32))])) _
    refine XS.istoreN X0.here hx rfl (hb hby at_7) rfl (l' := #[.val (.int p1), .val (.int (10 : Int32)), .unset, .unset]) rfl ?_
    show Steps p.tables e below (s₁.setTop (mkF m 8 #[.val (.int p1), .val (.int (10 : Int32)), .unset, .unset] [])) _
    refine XS.iloadN X0.here hx rfl (hb hby at_8) rfl ?_
    show Steps p.tables e below (s₁.setTop (mkF m 9 #[.val (.int p1), .val (.int (10 : Int32)), .unset, .unset] [(.int (10 : Int32))])) _
    refine st47 _ ?_
    show Steps p.tables e below (T47.setTop (mkF m 12 #[.val (.int p1), .val (.int (10 : Int32)), .unset, .unset] [(.ref w10)])) _
    refine XS.astoreN X47.here hx rfl (hb hby at_12) rfl rfl (l' := #[.val (.int p1), .val (.int (10 : Int32)), .val (.ref w10), .unset]) rfl ?_
    show Steps p.tables e below (T47.setTop (mkF m 13 #[.val (.int p1), .val (.int (10 : Int32)), .val (.ref w10), .unset] [])) _
    refine XS.iloadN X47.here hx rfl (hb hby at_13) rfl ?_
    show Steps p.tables e below (T47.setTop (mkF m 14 #[.val (.int p1), .val (.int (10 : Int32)), .val (.ref w10), .unset] [(.int (10 : Int32))])) _
    refine XT.bipushV X47.here hx rfl (7 : Int32) (hb hby at_14) (by decide) ?_
    show Steps p.tables e below (T47.setTop (mkF m 16 #[.val (.int p1), .val (.int (10 : Int32)), .val (.ref w10), .unset] [(.int (7 : Int32)), (.int (10 : Int32))])) _
    refine XS.icmpYes X47.here hx rfl (pc0 := 16) (pc' := 23) rfl (hb hby at_16) rfl (by decide) (by decide) (by decide) ?_
    show Steps p.tables e below (T47.setTop (mkF m 23 #[.val (.int p1), .val (.int (10 : Int32)), .val (.ref w10), .unset] [])) _
    refine XT.iconstV X47.here hx rfl (0 : Int32) (hb hby at_23) rfl ?_
    show Steps p.tables e below (T47.setTop (mkF m 24 #[.val (.int p1), .val (.int (10 : Int32)), .val (.ref w10), .unset] [(.int (0 : Int32))])) _
    refine XS.istoreN X47.here hx rfl (hb hby at_24) rfl (l' := #[.val (.int p1), .val (.int (10 : Int32)), .val (.ref w10), .val (.int (0 : Int32))]) rfl ?_
    show Steps p.tables e below (T47.setTop (mkF m 25 #[.val (.int p1), .val (.int (10 : Int32)), .val (.ref w10), .val (.int (0 : Int32))] [])) _
    refine XS.aloadN X47.here hx rfl (hb hby at_25) rfl rfl ?_
    show Steps p.tables e below (T47.setTop (mkF m 26 #[.val (.int p1), .val (.int (10 : Int32)), .val (.ref w10), .val (.int (0 : Int32))] [(.ref w10)])) _
    refine st48.trans ?_
    show Steps p.tables e below (T48.setTop (mkF m 29 #[.val (.int p1), .val (.int (10 : Int32)), .val (.ref w10), .val (.int (0 : Int32))] [(.int (0 : Int32))])) _
    refine XS.iloadN X48.here hx rfl (hb hby at_29) rfl ?_
    show Steps p.tables e below (T48.setTop (mkF m 30 #[.val (.int p1), .val (.int (10 : Int32)), .val (.ref w10), .val (.int (0 : Int32))] [(.int (0 : Int32)), (.int (0 : Int32))])) _
    refine XS.icmpNo X48.here hx rfl (hb hby at_30) rfl (by decide) ?_
    show Steps p.tables e below (T48.setTop (mkF m 33 #[.val (.int p1), .val (.int (10 : Int32)), .val (.ref w10), .val (.int (0 : Int32))] [])) _
    refine XT.iconstV X48.here hx rfl (1 : Int32) (hb hby at_33) rfl ?_
    show Steps p.tables e below (T48.setTop (mkF m 34 #[.val (.int p1), .val (.int (10 : Int32)), .val (.ref w10), .val (.int (0 : Int32))] [(.int (1 : Int32))])) _
    refine XS.goto X48.here hx rfl (pc0 := 34) (pc' := 38) rfl (hb hby at_34) (by decide) (by decide) ?_
    show Steps p.tables e below (T48.setTop (mkF m 38 #[.val (.int p1), .val (.int (10 : Int32)), .val (.ref w10), .val (.int (0 : Int32))] [(.int (1 : Int32))])) _
    exact retN X48 hx (t := .boolean) Bd.returns (by simp) (hb hby at_38) hr
  · show own_Q0 n0 _ T48.heap _
    exact ⟨rfl, N48⟩
set_option maxRecDepth 65536 in
set_option maxHeartbeats 40000000 in
theorem own_law_11 (l : Launch) (Z : State) (a0 : Array Value) (hw : ∀ d ∈ tables_1, d.before a0 Z = true) (ws : List Jvm.Cond) (p1 : Int32) (w0 w1 w2 w3 w4 w5 w6 w7 w8 w9 w10 w11 w12 : Addr) (h0 : Heap) (n0 : Nat) (Z0 : n0 ≤ h0.size) (P : own_P Z h0 w0 w1 w2 w3 w4 w5 w6 w7 w8 w9 w10 w11 w12) (hk : ((p1 &&& (2147483647 : Int32)) % (13 : Int32)) = (11 : Int32)) :
    MetFree l x (head1 (Jvm.Cond.code x code maxLocals ret :: ws) room_1) (fun a U => a = #[(.int p1)] ∧ Z.Warmed39 U.vm ∧ U.heap = h0) (fun _ _ _ _ _ => True) (fun _ U o U' => ∃ v L, o = .returned v ∧ own_Q0 n0 v U'.heap L ∧ FrameEnd U o U' L room_1.cells room_1.slots) := by
  refine MetFree.of_bodySF (plainFor_of_name pn_com_example_recourse_recourse_CaseActionGivesAmountBackPinLaw) hisR ?_
  intro p e s m args below meth c s₁ Bd hml0 hP hK
  obtain ⟨rfl, hZ, hh⟩ := hP
  have hx := Bd.exec
  have hby := Bd.bytes
  have hml : c.maxLocals = 4 := hml0
  have hown : s.vm.findClass "com/example/recourse/recourse/CaseActionGivesAmountBackPinLaw" = some m.cls := findClass_of_methodNamed Bd.named
  have hnm := (name_of_methodNamed Bd.named Bd.method).1
  have X0 : Stand p l e room_1 s m #[(.int p1)] below meth c s₁ [] 0 0 := Stand.of_body Bd
  have e0 : s₁.heap = h0 := by rw [← hh, Bd.state]; rfl
  have N0 := Fr.nil n0
  have pre0 : ∀ t, Steps p.tables e below (s₁.setTop (mkF m 0 #[.val (.int p1), .unset, .unset, .unset] [])) t → Steps p.tables e below (s₁.setTop (entryFrame m #[(.int p1)] maxLocals)) t := fun t k => castTop (ef_code_I m p1) k
  have P0 := P; obtain ⟨S0, E0, F0_ordinal, S1, E1, F1_ordinal, S2, E2, F2_ordinal, S3, E3, F3_ordinal, S4, E4, F4_ordinal, S5, E5, F5_ordinal, S6, E6, F6_ordinal, S7, E7, F7_ordinal, S8, E8, F8_ordinal, S9, E9, F9_ordinal, S10, E10, F10_ordinal, S11, E11, F11_ordinal, S12, E12, F12_ordinal⟩ := P0
  obtain ⟨_, _, ⟨T49, L49, k49, n49⟩, -, X49, ⟨Lc49, hQ49, l49, y49, z49⟩, st49⟩ := Jvm.LawKit.callS X0 hx (y := (⟨"com/example/recourse/recourse/CaseActionGivesAmountBackPinLaw", "pick", "(I)Lcom/example/recourse/recourse/CaseAction;"⟩ : MethodName)) hown (mvT hZ (hw _ (List.mem_of_getElem? (i := 1) rfl))) (mvT hZ (hw _ (List.mem_of_getElem? (i := 2) rfl))) (mvT hZ (hw _ (List.mem_of_getElem? (i := 3) rfl))) (mvT hZ (hw _ (List.mem_of_getElem? (i := 4) rfl))) (by decide) (backOf (W := 0) (own_pick_11 l Z a0 hw [] w0 w1 w2 w3 w4 w5 w6 w7 w8 w9 w10 w11 w12 h0 n0 Z0 P) hZ (hw _ (List.mem_of_getElem? (i := 4) rfl)) (hw _ (List.mem_of_getElem? (i := 3) rfl)) (by decide) (by decide)) (g := (mkF m 9 #[.val (.int p1), .val (.int (11 : Int32)), .unset, .unset] [(.int (11 : Int32))])) rfl (by rw [hml]; rfl) (argsL := [(.int (11 : Int32))]) (rest := []) (lenOf pd__I_Lcom_example_recourse_recourse_CaseAction_ rfl) rfl (by show 2 * 0 + _ ≤ _; exact Nat.le_of_eq rfl) (hb hby at_9) (fun _ _ => ⟨rfl, e0, (by decide : 0 + 0 ≤ _), (by decide : 0 + 0 ≤ _)⟩)
  dsimp only [Pt.U, Pt.locs, Pt.cells, Pt.slots] at X49 l49 y49 z49 st49 hQ49
  subst l49 y49 z49
  obtain ⟨rfl, N49q, e49⟩ := hQ49
  have N49 := Fr.app N0 N49q
  obtain ⟨cq50, kq50, q50a, q50b, q50c⟩ := isOf hZ e49 E7
  obtain ⟨_, _, ⟨T50, L50, k50, n50⟩, -, X50, ⟨Lc50, hQ50, l50, y50, z50⟩, st50⟩ := X49.virtualBack hx (y := (⟨"com/example/recourse/recourse/CaseAction", "givesAmountBack", "()Z"⟩ : MethodName)) (z := (⟨"com/example/recourse/recourse/CaseAction", "givesAmountBack", "()Z"⟩ : MethodName)) hown (mvT hZ (hw _ (List.mem_of_getElem? (i := 8) rfl))) (mvT hZ (hw _ (List.mem_of_getElem? (i := 9) rfl))) (notFace_of_selects (args := #[]) (mvT hZ (hw _ (List.mem_of_getElem? (i := 11) rfl)))) (mvT hZ (hw _ (List.mem_of_getElem? (i := 11) rfl))) (mvT hZ (hw _ (List.mem_of_getElem? (i := 10) rfl))) (by decide) (backOf (W := 0) (own_givesAmountBack_7 l Z a0 hw [] w0 w1 w2 w3 w4 w5 w6 w7 w8 w9 w10 w11 w12 h0 n0 Z0 P) hZ (hw _ (List.mem_of_getElem? (i := 12) rfl)) (hw _ (List.mem_of_getElem? (i := 6) rfl)) (by decide) (by decide)) q50a q50c (g := (mkF m 26 #[.val (.int p1), .val (.int (11 : Int32)), .val (.ref w7), .val (.int (0 : Int32))] [(.ref w7)])) rfl (by rw [hml]; rfl) (Steps.refl _) (argsL := []) (rest := []) (lenOf pd___Z rfl) rfl (by show 2 * 0 + _ ≤ _; exact Nat.le_of_eq rfl) (hb hby at_26) (fun _ _ => ⟨rfl, e49, (by decide : 0 + 0 ≤ _), (by decide : 0 + 0 ≤ _)⟩)
  dsimp only [Pt.U, Pt.locs, Pt.cells, Pt.slots] at X50 l50 y50 z50 st50 hQ50
  subst l50 y50 z50
  obtain ⟨rfl, N50q, e50⟩ := hQ50
  have N50 := Fr.app N49 N50q
  obtain ⟨fs, hr, hrun, hended, hW, hsame⟩ := X50.leave (v := some (.int (1 : Int32))) (fun h => by rw [Bd.returns] at h; cases h)
  refine ⟨_, _, pre0 _ ?_, hrun, hended, _, _, rfl, ?_, ⟨_, rfl⟩, hW, hsame.mono (by decide) (by decide)⟩
  · show Steps p.tables e below (s₁.setTop (mkF m 0 #[.val (.int p1), .unset, .unset, .unset] [])) _
    refine XS.iloadN X0.here hx rfl (hb hby at_0) rfl ?_
    show Steps p.tables e below (s₁.setTop (mkF m 1 #[.val (.int p1), .unset, .unset, .unset] [(.int p1)])) _
    refine Jvm.Stand.ldcI X0 hx hown (mvT hZ (hw _ (List.mem_of_getElem? (i := 0) rfl))) rfl (hb hby at_1) ?_
    show Steps p.tables e below (s₁.setTop (mkF m 3 #[.val (.int p1), .unset, .unset, .unset] [(.int (2147483647 : Int32)), (.int p1)])) _
    refine XS.iand X0.here hx rfl (hb hby at_3) rfl ?_
    show Steps p.tables e below (s₁.setTop (mkF m 4 #[.val (.int p1), .unset, .unset, .unset] [(.int (p1 &&& (2147483647 : Int32)))])) _
    refine XT.bipushV X0.here hx rfl (13 : Int32) (hb hby at_4) (by decide) ?_
    show Steps p.tables e below (s₁.setTop (mkF m 6 #[.val (.int p1), .unset, .unset, .unset] [(.int (13 : Int32)), (.int (p1 &&& (2147483647 : Int32)))])) _
    refine iremM X0 hx rfl (hb hby at_6) rfl (by decide) ?_
    show Steps p.tables e below (s₁.setTop (mkF m 7 #[.val (.int p1), .unset, .unset, .unset] [(.int ((p1 &&& (2147483647 : Int32)) % (13 : Int32)))])) _
    rw [hk]
    show Steps p.tables e below (s₁.setTop (mkF m 7 #[.val (.int p1), .unset, .unset, .unset] [(.int (11 : Int32))])) _
    refine XS.istoreN X0.here hx rfl (hb hby at_7) rfl (l' := #[.val (.int p1), .val (.int (11 : Int32)), .unset, .unset]) rfl ?_
    show Steps p.tables e below (s₁.setTop (mkF m 8 #[.val (.int p1), .val (.int (11 : Int32)), .unset, .unset] [])) _
    refine XS.iloadN X0.here hx rfl (hb hby at_8) rfl ?_
    show Steps p.tables e below (s₁.setTop (mkF m 9 #[.val (.int p1), .val (.int (11 : Int32)), .unset, .unset] [(.int (11 : Int32))])) _
    refine st49 _ ?_
    show Steps p.tables e below (T49.setTop (mkF m 12 #[.val (.int p1), .val (.int (11 : Int32)), .unset, .unset] [(.ref w7)])) _
    refine XS.astoreN X49.here hx rfl (hb hby at_12) rfl rfl (l' := #[.val (.int p1), .val (.int (11 : Int32)), .val (.ref w7), .unset]) rfl ?_
    show Steps p.tables e below (T49.setTop (mkF m 13 #[.val (.int p1), .val (.int (11 : Int32)), .val (.ref w7), .unset] [])) _
    refine XS.iloadN X49.here hx rfl (hb hby at_13) rfl ?_
    show Steps p.tables e below (T49.setTop (mkF m 14 #[.val (.int p1), .val (.int (11 : Int32)), .val (.ref w7), .unset] [(.int (11 : Int32))])) _
    refine XT.bipushV X49.here hx rfl (7 : Int32) (hb hby at_14) (by decide) ?_
    show Steps p.tables e below (T49.setTop (mkF m 16 #[.val (.int p1), .val (.int (11 : Int32)), .val (.ref w7), .unset] [(.int (7 : Int32)), (.int (11 : Int32))])) _
    refine XS.icmpYes X49.here hx rfl (pc0 := 16) (pc' := 23) rfl (hb hby at_16) rfl (by decide) (by decide) (by decide) ?_
    show Steps p.tables e below (T49.setTop (mkF m 23 #[.val (.int p1), .val (.int (11 : Int32)), .val (.ref w7), .unset] [])) _
    refine XT.iconstV X49.here hx rfl (0 : Int32) (hb hby at_23) rfl ?_
    show Steps p.tables e below (T49.setTop (mkF m 24 #[.val (.int p1), .val (.int (11 : Int32)), .val (.ref w7), .unset] [(.int (0 : Int32))])) _
    refine XS.istoreN X49.here hx rfl (hb hby at_24) rfl (l' := #[.val (.int p1), .val (.int (11 : Int32)), .val (.ref w7), .val (.int (0 : Int32))]) rfl ?_
    show Steps p.tables e below (T49.setTop (mkF m 25 #[.val (.int p1), .val (.int (11 : Int32)), .val (.ref w7), .val (.int (0 : Int32))] [])) _
    refine XS.aloadN X49.here hx rfl (hb hby at_25) rfl rfl ?_
    show Steps p.tables e below (T49.setTop (mkF m 26 #[.val (.int p1), .val (.int (11 : Int32)), .val (.ref w7), .val (.int (0 : Int32))] [(.ref w7)])) _
    refine st50.trans ?_
    show Steps p.tables e below (T50.setTop (mkF m 29 #[.val (.int p1), .val (.int (11 : Int32)), .val (.ref w7), .val (.int (0 : Int32))] [(.int (0 : Int32))])) _
    refine XS.iloadN X50.here hx rfl (hb hby at_29) rfl ?_
    show Steps p.tables e below (T50.setTop (mkF m 30 #[.val (.int p1), .val (.int (11 : Int32)), .val (.ref w7), .val (.int (0 : Int32))] [(.int (0 : Int32)), (.int (0 : Int32))])) _
    refine XS.icmpNo X50.here hx rfl (hb hby at_30) rfl (by decide) ?_
    show Steps p.tables e below (T50.setTop (mkF m 33 #[.val (.int p1), .val (.int (11 : Int32)), .val (.ref w7), .val (.int (0 : Int32))] [])) _
    refine XT.iconstV X50.here hx rfl (1 : Int32) (hb hby at_33) rfl ?_
    show Steps p.tables e below (T50.setTop (mkF m 34 #[.val (.int p1), .val (.int (11 : Int32)), .val (.ref w7), .val (.int (0 : Int32))] [(.int (1 : Int32))])) _
    refine XS.goto X50.here hx rfl (pc0 := 34) (pc' := 38) rfl (hb hby at_34) (by decide) (by decide) ?_
    show Steps p.tables e below (T50.setTop (mkF m 38 #[.val (.int p1), .val (.int (11 : Int32)), .val (.ref w7), .val (.int (0 : Int32))] [(.int (1 : Int32))])) _
    exact retN X50 hx (t := .boolean) Bd.returns (by simp) (hb hby at_38) hr
  · show own_Q0 n0 _ T50.heap _
    exact ⟨rfl, N50⟩
set_option maxRecDepth 65536 in
set_option maxHeartbeats 40000000 in
theorem own_law_12 (l : Launch) (Z : State) (a0 : Array Value) (hw : ∀ d ∈ tables_1, d.before a0 Z = true) (ws : List Jvm.Cond) (p1 : Int32) (w0 w1 w2 w3 w4 w5 w6 w7 w8 w9 w10 w11 w12 : Addr) (h0 : Heap) (n0 : Nat) (Z0 : n0 ≤ h0.size) (P : own_P Z h0 w0 w1 w2 w3 w4 w5 w6 w7 w8 w9 w10 w11 w12) (hk : ((p1 &&& (2147483647 : Int32)) % (13 : Int32)) = (12 : Int32)) :
    MetFree l x (head1 (Jvm.Cond.code x code maxLocals ret :: ws) room_1) (fun a U => a = #[(.int p1)] ∧ Z.Warmed39 U.vm ∧ U.heap = h0) (fun _ _ _ _ _ => True) (fun _ U o U' => ∃ v L, o = .returned v ∧ own_Q0 n0 v U'.heap L ∧ FrameEnd U o U' L room_1.cells room_1.slots) := by
  refine MetFree.of_bodySF (plainFor_of_name pn_com_example_recourse_recourse_CaseActionGivesAmountBackPinLaw) hisR ?_
  intro p e s m args below meth c s₁ Bd hml0 hP hK
  obtain ⟨rfl, hZ, hh⟩ := hP
  have hx := Bd.exec
  have hby := Bd.bytes
  have hml : c.maxLocals = 4 := hml0
  have hown : s.vm.findClass "com/example/recourse/recourse/CaseActionGivesAmountBackPinLaw" = some m.cls := findClass_of_methodNamed Bd.named
  have hnm := (name_of_methodNamed Bd.named Bd.method).1
  have X0 : Stand p l e room_1 s m #[(.int p1)] below meth c s₁ [] 0 0 := Stand.of_body Bd
  have e0 : s₁.heap = h0 := by rw [← hh, Bd.state]; rfl
  have N0 := Fr.nil n0
  have pre0 : ∀ t, Steps p.tables e below (s₁.setTop (mkF m 0 #[.val (.int p1), .unset, .unset, .unset] [])) t → Steps p.tables e below (s₁.setTop (entryFrame m #[(.int p1)] maxLocals)) t := fun t k => castTop (ef_code_I m p1) k
  have P0 := P; obtain ⟨S0, E0, F0_ordinal, S1, E1, F1_ordinal, S2, E2, F2_ordinal, S3, E3, F3_ordinal, S4, E4, F4_ordinal, S5, E5, F5_ordinal, S6, E6, F6_ordinal, S7, E7, F7_ordinal, S8, E8, F8_ordinal, S9, E9, F9_ordinal, S10, E10, F10_ordinal, S11, E11, F11_ordinal, S12, E12, F12_ordinal⟩ := P0
  obtain ⟨_, _, ⟨T51, L51, k51, n51⟩, -, X51, ⟨Lc51, hQ51, l51, y51, z51⟩, st51⟩ := Jvm.LawKit.callS X0 hx (y := (⟨"com/example/recourse/recourse/CaseActionGivesAmountBackPinLaw", "pick", "(I)Lcom/example/recourse/recourse/CaseAction;"⟩ : MethodName)) hown (mvT hZ (hw _ (List.mem_of_getElem? (i := 1) rfl))) (mvT hZ (hw _ (List.mem_of_getElem? (i := 2) rfl))) (mvT hZ (hw _ (List.mem_of_getElem? (i := 3) rfl))) (mvT hZ (hw _ (List.mem_of_getElem? (i := 4) rfl))) (by decide) (backOf (W := 0) (own_pick_12 l Z a0 hw [] w0 w1 w2 w3 w4 w5 w6 w7 w8 w9 w10 w11 w12 h0 n0 Z0 P) hZ (hw _ (List.mem_of_getElem? (i := 4) rfl)) (hw _ (List.mem_of_getElem? (i := 3) rfl)) (by decide) (by decide)) (g := (mkF m 9 #[.val (.int p1), .val (.int (12 : Int32)), .unset, .unset] [(.int (12 : Int32))])) rfl (by rw [hml]; rfl) (argsL := [(.int (12 : Int32))]) (rest := []) (lenOf pd__I_Lcom_example_recourse_recourse_CaseAction_ rfl) rfl (by show 2 * 0 + _ ≤ _; exact Nat.le_of_eq rfl) (hb hby at_9) (fun _ _ => ⟨rfl, e0, (by decide : 0 + 0 ≤ _), (by decide : 0 + 0 ≤ _)⟩)
  dsimp only [Pt.U, Pt.locs, Pt.cells, Pt.slots] at X51 l51 y51 z51 st51 hQ51
  subst l51 y51 z51
  obtain ⟨rfl, N51q, e51⟩ := hQ51
  have N51 := Fr.app N0 N51q
  obtain ⟨cq52, kq52, q52a, q52b, q52c⟩ := isOf hZ e51 E11
  obtain ⟨_, _, ⟨T52, L52, k52, n52⟩, -, X52, ⟨Lc52, hQ52, l52, y52, z52⟩, st52⟩ := X51.virtualBack hx (y := (⟨"com/example/recourse/recourse/CaseAction", "givesAmountBack", "()Z"⟩ : MethodName)) (z := (⟨"com/example/recourse/recourse/CaseAction", "givesAmountBack", "()Z"⟩ : MethodName)) hown (mvT hZ (hw _ (List.mem_of_getElem? (i := 8) rfl))) (mvT hZ (hw _ (List.mem_of_getElem? (i := 9) rfl))) (notFace_of_selects (args := #[]) (mvT hZ (hw _ (List.mem_of_getElem? (i := 11) rfl)))) (mvT hZ (hw _ (List.mem_of_getElem? (i := 11) rfl))) (mvT hZ (hw _ (List.mem_of_getElem? (i := 10) rfl))) (by decide) (backOf (W := 0) (own_givesAmountBack_11 l Z a0 hw [] w0 w1 w2 w3 w4 w5 w6 w7 w8 w9 w10 w11 w12 h0 n0 Z0 P) hZ (hw _ (List.mem_of_getElem? (i := 12) rfl)) (hw _ (List.mem_of_getElem? (i := 6) rfl)) (by decide) (by decide)) q52a q52c (g := (mkF m 26 #[.val (.int p1), .val (.int (12 : Int32)), .val (.ref w11), .val (.int (0 : Int32))] [(.ref w11)])) rfl (by rw [hml]; rfl) (Steps.refl _) (argsL := []) (rest := []) (lenOf pd___Z rfl) rfl (by show 2 * 0 + _ ≤ _; exact Nat.le_of_eq rfl) (hb hby at_26) (fun _ _ => ⟨rfl, e51, (by decide : 0 + 0 ≤ _), (by decide : 0 + 0 ≤ _)⟩)
  dsimp only [Pt.U, Pt.locs, Pt.cells, Pt.slots] at X52 l52 y52 z52 st52 hQ52
  subst l52 y52 z52
  obtain ⟨rfl, N52q, e52⟩ := hQ52
  have N52 := Fr.app N51 N52q
  obtain ⟨fs, hr, hrun, hended, hW, hsame⟩ := X52.leave (v := some (.int (1 : Int32))) (fun h => by rw [Bd.returns] at h; cases h)
  refine ⟨_, _, pre0 _ ?_, hrun, hended, _, _, rfl, ?_, ⟨_, rfl⟩, hW, hsame.mono (by decide) (by decide)⟩
  · show Steps p.tables e below (s₁.setTop (mkF m 0 #[.val (.int p1), .unset, .unset, .unset] [])) _
    refine XS.iloadN X0.here hx rfl (hb hby at_0) rfl ?_
    show Steps p.tables e below (s₁.setTop (mkF m 1 #[.val (.int p1), .unset, .unset, .unset] [(.int p1)])) _
    refine Jvm.Stand.ldcI X0 hx hown (mvT hZ (hw _ (List.mem_of_getElem? (i := 0) rfl))) rfl (hb hby at_1) ?_
    show Steps p.tables e below (s₁.setTop (mkF m 3 #[.val (.int p1), .unset, .unset, .unset] [(.int (2147483647 : Int32)), (.int p1)])) _
    refine XS.iand X0.here hx rfl (hb hby at_3) rfl ?_
    show Steps p.tables e below (s₁.setTop (mkF m 4 #[.val (.int p1), .unset, .unset, .unset] [(.int (p1 &&& (2147483647 : Int32)))])) _
    refine XT.bipushV X0.here hx rfl (13 : Int32) (hb hby at_4) (by decide) ?_
    show Steps p.tables e below (s₁.setTop (mkF m 6 #[.val (.int p1), .unset, .unset, .unset] [(.int (13 : Int32)), (.int (p1 &&& (2147483647 : Int32)))])) _
    refine iremM X0 hx rfl (hb hby at_6) rfl (by decide) ?_
    show Steps p.tables e below (s₁.setTop (mkF m 7 #[.val (.int p1), .unset, .unset, .unset] [(.int ((p1 &&& (2147483647 : Int32)) % (13 : Int32)))])) _
    rw [hk]
    show Steps p.tables e below (s₁.setTop (mkF m 7 #[.val (.int p1), .unset, .unset, .unset] [(.int (12 : Int32))])) _
    refine XS.istoreN X0.here hx rfl (hb hby at_7) rfl (l' := #[.val (.int p1), .val (.int (12 : Int32)), .unset, .unset]) rfl ?_
    show Steps p.tables e below (s₁.setTop (mkF m 8 #[.val (.int p1), .val (.int (12 : Int32)), .unset, .unset] [])) _
    refine XS.iloadN X0.here hx rfl (hb hby at_8) rfl ?_
    show Steps p.tables e below (s₁.setTop (mkF m 9 #[.val (.int p1), .val (.int (12 : Int32)), .unset, .unset] [(.int (12 : Int32))])) _
    refine st51 _ ?_
    show Steps p.tables e below (T51.setTop (mkF m 12 #[.val (.int p1), .val (.int (12 : Int32)), .unset, .unset] [(.ref w11)])) _
    refine XS.astoreN X51.here hx rfl (hb hby at_12) rfl rfl (l' := #[.val (.int p1), .val (.int (12 : Int32)), .val (.ref w11), .unset]) rfl ?_
    show Steps p.tables e below (T51.setTop (mkF m 13 #[.val (.int p1), .val (.int (12 : Int32)), .val (.ref w11), .unset] [])) _
    refine XS.iloadN X51.here hx rfl (hb hby at_13) rfl ?_
    show Steps p.tables e below (T51.setTop (mkF m 14 #[.val (.int p1), .val (.int (12 : Int32)), .val (.ref w11), .unset] [(.int (12 : Int32))])) _
    refine XT.bipushV X51.here hx rfl (7 : Int32) (hb hby at_14) (by decide) ?_
    show Steps p.tables e below (T51.setTop (mkF m 16 #[.val (.int p1), .val (.int (12 : Int32)), .val (.ref w11), .unset] [(.int (7 : Int32)), (.int (12 : Int32))])) _
    refine XS.icmpYes X51.here hx rfl (pc0 := 16) (pc' := 23) rfl (hb hby at_16) rfl (by decide) (by decide) (by decide) ?_
    show Steps p.tables e below (T51.setTop (mkF m 23 #[.val (.int p1), .val (.int (12 : Int32)), .val (.ref w11), .unset] [])) _
    refine XT.iconstV X51.here hx rfl (0 : Int32) (hb hby at_23) rfl ?_
    show Steps p.tables e below (T51.setTop (mkF m 24 #[.val (.int p1), .val (.int (12 : Int32)), .val (.ref w11), .unset] [(.int (0 : Int32))])) _
    refine XS.istoreN X51.here hx rfl (hb hby at_24) rfl (l' := #[.val (.int p1), .val (.int (12 : Int32)), .val (.ref w11), .val (.int (0 : Int32))]) rfl ?_
    show Steps p.tables e below (T51.setTop (mkF m 25 #[.val (.int p1), .val (.int (12 : Int32)), .val (.ref w11), .val (.int (0 : Int32))] [])) _
    refine XS.aloadN X51.here hx rfl (hb hby at_25) rfl rfl ?_
    show Steps p.tables e below (T51.setTop (mkF m 26 #[.val (.int p1), .val (.int (12 : Int32)), .val (.ref w11), .val (.int (0 : Int32))] [(.ref w11)])) _
    refine st52.trans ?_
    show Steps p.tables e below (T52.setTop (mkF m 29 #[.val (.int p1), .val (.int (12 : Int32)), .val (.ref w11), .val (.int (0 : Int32))] [(.int (0 : Int32))])) _
    refine XS.iloadN X52.here hx rfl (hb hby at_29) rfl ?_
    show Steps p.tables e below (T52.setTop (mkF m 30 #[.val (.int p1), .val (.int (12 : Int32)), .val (.ref w11), .val (.int (0 : Int32))] [(.int (0 : Int32)), (.int (0 : Int32))])) _
    refine XS.icmpNo X52.here hx rfl (hb hby at_30) rfl (by decide) ?_
    show Steps p.tables e below (T52.setTop (mkF m 33 #[.val (.int p1), .val (.int (12 : Int32)), .val (.ref w11), .val (.int (0 : Int32))] [])) _
    refine XT.iconstV X52.here hx rfl (1 : Int32) (hb hby at_33) rfl ?_
    show Steps p.tables e below (T52.setTop (mkF m 34 #[.val (.int p1), .val (.int (12 : Int32)), .val (.ref w11), .val (.int (0 : Int32))] [(.int (1 : Int32))])) _
    refine XS.goto X52.here hx rfl (pc0 := 34) (pc' := 38) rfl (hb hby at_34) (by decide) (by decide) ?_
    show Steps p.tables e below (T52.setTop (mkF m 38 #[.val (.int p1), .val (.int (12 : Int32)), .val (.ref w11), .val (.int (0 : Int32))] [(.int (1 : Int32))])) _
    exact retN X52 hx (t := .boolean) Bd.returns (by simp) (hb hby at_38) hr
  · show own_Q0 n0 _ T52.heap _
    exact ⟨rfl, N52⟩
set_option maxRecDepth 65536 in
set_option maxHeartbeats 40000000 in
theorem own_law (l : Launch) (Z : State) (a0 : Array Value) (hw : ∀ d ∈ tables_1, d.before a0 Z = true) (ws : List Jvm.Cond) (p1 : Int32) (w0 w1 w2 w3 w4 w5 w6 w7 w8 w9 w10 w11 w12 : Addr) (h0 : Heap) (n0 : Nat) (Z0 : n0 ≤ h0.size) (P : own_P Z h0 w0 w1 w2 w3 w4 w5 w6 w7 w8 w9 w10 w11 w12) :
    MetFree l x (head1 (Jvm.Cond.code x code maxLocals ret :: ws) room_1) (fun a U => a = #[(.int p1)] ∧ Z.Warmed39 U.vm ∧ U.heap = h0) (fun _ _ _ _ _ => True) (fun _ U o U' => ∃ v L, o = .returned v ∧ own_Q0 n0 v U'.heap L ∧ FrameEnd U o U' L room_1.cells room_1.slots) := by
  rcases own_cases p1 with hk | hk | hk | hk | hk | hk | hk | hk | hk | hk | hk | hk | hk
  · exact own_law_0 l Z a0 hw ws p1 w0 w1 w2 w3 w4 w5 w6 w7 w8 w9 w10 w11 w12 h0 n0 Z0 P hk
  · exact own_law_1 l Z a0 hw ws p1 w0 w1 w2 w3 w4 w5 w6 w7 w8 w9 w10 w11 w12 h0 n0 Z0 P hk
  · exact own_law_2 l Z a0 hw ws p1 w0 w1 w2 w3 w4 w5 w6 w7 w8 w9 w10 w11 w12 h0 n0 Z0 P hk
  · exact own_law_3 l Z a0 hw ws p1 w0 w1 w2 w3 w4 w5 w6 w7 w8 w9 w10 w11 w12 h0 n0 Z0 P hk
  · exact own_law_4 l Z a0 hw ws p1 w0 w1 w2 w3 w4 w5 w6 w7 w8 w9 w10 w11 w12 h0 n0 Z0 P hk
  · exact own_law_5 l Z a0 hw ws p1 w0 w1 w2 w3 w4 w5 w6 w7 w8 w9 w10 w11 w12 h0 n0 Z0 P hk
  · exact own_law_6 l Z a0 hw ws p1 w0 w1 w2 w3 w4 w5 w6 w7 w8 w9 w10 w11 w12 h0 n0 Z0 P hk
  · exact own_law_7 l Z a0 hw ws p1 w0 w1 w2 w3 w4 w5 w6 w7 w8 w9 w10 w11 w12 h0 n0 Z0 P hk
  · exact own_law_8 l Z a0 hw ws p1 w0 w1 w2 w3 w4 w5 w6 w7 w8 w9 w10 w11 w12 h0 n0 Z0 P hk
  · exact own_law_9 l Z a0 hw ws p1 w0 w1 w2 w3 w4 w5 w6 w7 w8 w9 w10 w11 w12 h0 n0 Z0 P hk
  · exact own_law_10 l Z a0 hw ws p1 w0 w1 w2 w3 w4 w5 w6 w7 w8 w9 w10 w11 w12 h0 n0 Z0 P hk
  · exact own_law_11 l Z a0 hw ws p1 w0 w1 w2 w3 w4 w5 w6 w7 w8 w9 w10 w11 w12 h0 n0 Z0 P hk
  · exact own_law_12 l Z a0 hw ws p1 w0 w1 w2 w3 w4 w5 w6 w7 w8 w9 w10 w11 w12 h0 n0 Z0 P hk
set_option maxRecDepth 65536 in
set_option maxHeartbeats 40000000 in
theorem comes_1 {Post : Tables → Env → Array Value → State → Outcome → State → Prop} (hpost : ∀ tb e args s v u, (limb_1_1.after args s (.returned v) u = true ∧ limb_1_2.after args s (.returned v) u = true ∧ True) → FrameEnd s (.returned v) u (Jvm.fieldLocs frame_1_writes args s ++ Jvm.arrayLocs frame_1_arrays args s ++ Jvm.staticLocs frame_1_statics s) 0 0 → Post tb e args s (.returned v) u) :
    ArmFor flags0 classFile x code maxLocals ret World_1 tables_1 room_1 Calls_1 rest_1 Pre_1 Post := by
  intro l hfl _ _ p e ha hc hk s m args below hf hA hF happ hP
  obtain ⟨hcalls, hrest, hpre⟩ := hP
  obtain ⟨-, -, -, hnamed, -, -, -, hat⟩ := (Spec.applies_iff hf).mp happ
  obtain ⟨hg, hn⟩ := and_e (Cond.before_iff.mp (show (Jvm.Cond.and given_1 narrow_1).before args s = true from hpre))
  obtain ⟨gg, gr⟩ := and_e hg
  obtain ⟨a0, rfl⟩ : ∃ a0 : Value, args = #[a0] := by
    have hs : args.size = 1 := by simpa [Cond.value, given_1] using gg
    obtain ⟨L⟩ := args
    match L, hs with
    | [a0], _ => exact ⟨a0, rfl⟩
  have hw := fun d (hd : d ∈ tables_1) => atoms_spec (ws := Jvm.Cond.code x code maxLocals ret :: tables_1) hat d (List.mem_cons_of_mem _ hd)
  have hfit : Fit s := fun {y c} hc i hi => by
    obtain ⟨ha, rfl⟩ := Array.getElem?_eq_some_iff.mp hc
    have q := List.all_eq_true.mp ((Array.all_eq_true_iff_forall_mem.mp hF) _ (Array.getElem_mem ha)) i (List.mem_range.mpr hi)
    simpa [Array.getElem?_eq_getElem hi] using q
  obtain ⟨i0, ei0⟩ := is_v gr
  obtain rfl : a0 = (.int i0) := Option.some.inj ei0
  obtain ⟨c0, r0⟩ := and_e hn
  obtain ⟨c1, r1⟩ := and_e r0
  obtain ⟨c2, r2⟩ := and_e r1
  obtain ⟨c3, r3⟩ := and_e r2
  obtain ⟨c4, r4⟩ := and_e r3
  obtain ⟨c5, r5⟩ := and_e r4
  obtain ⟨c6, r6⟩ := and_e r5
  obtain ⟨c7, r7⟩ := and_e r6
  obtain ⟨c8, r8⟩ := and_e r7
  obtain ⟨c9, r9⟩ := and_e r8
  obtain ⟨c10, r10⟩ := and_e r9
  obtain ⟨c11, r11⟩ := and_e r10
  obtain ⟨c12, r12⟩ := and_e r11
  obtain ⟨c13, r13⟩ := and_e r12
  obtain ⟨c14, r14⟩ := and_e r13
  obtain ⟨c15, r15⟩ := and_e r14
  obtain ⟨c16, r16⟩ := and_e r15
  obtain ⟨c17, r17⟩ := and_e r16
  obtain ⟨c18, r18⟩ := and_e r17
  obtain ⟨c19, r19⟩ := and_e r18
  obtain ⟨c20, r20⟩ := and_e r19
  obtain ⟨c21, r21⟩ := and_e r20
  obtain ⟨c22, r22⟩ := and_e r21
  obtain ⟨c23, r23⟩ := and_e r22
  obtain ⟨c24, r24⟩ := and_e r23
  obtain ⟨w0, v0⟩ := exa_v c0
  have E0 := Exa.start v0 c0
  have S0 := Sta.start v0 (Or.inr ⟨(hw _ (List.mem_of_getElem? (i := 6) rfl)), (hw _ (List.mem_of_getElem? (i := 7) rfl))⟩)
  obtain ⟨w1, v1⟩ := exa_v c1
  have E1 := Exa.start v1 c1
  have S1 := Sta.start v1 (Or.inr ⟨(hw _ (List.mem_of_getElem? (i := 6) rfl)), (hw _ (List.mem_of_getElem? (i := 14) rfl))⟩)
  obtain ⟨w2, v2⟩ := exa_v c4
  have E2 := Exa.start v2 c4
  have S2 := Sta.start v2 (Or.inr ⟨(hw _ (List.mem_of_getElem? (i := 6) rfl)), (hw _ (List.mem_of_getElem? (i := 16) rfl))⟩)
  obtain ⟨w3, v3⟩ := exa_v c6
  have E3 := Exa.start v3 c6
  have S3 := Sta.start v3 (Or.inr ⟨(hw _ (List.mem_of_getElem? (i := 6) rfl)), (hw _ (List.mem_of_getElem? (i := 18) rfl))⟩)
  obtain ⟨w4, v4⟩ := exa_v c8
  have E4 := Exa.start v4 c8
  have S4 := Sta.start v4 (Or.inr ⟨(hw _ (List.mem_of_getElem? (i := 6) rfl)), (hw _ (List.mem_of_getElem? (i := 20) rfl))⟩)
  obtain ⟨w5, v5⟩ := exa_v c10
  have E5 := Exa.start v5 c10
  have S5 := Sta.start v5 (Or.inr ⟨(hw _ (List.mem_of_getElem? (i := 6) rfl)), (hw _ (List.mem_of_getElem? (i := 23) rfl))⟩)
  obtain ⟨w6, v6⟩ := exa_v c12
  have E6 := Exa.start v6 c12
  have S6 := Sta.start v6 (Or.inr ⟨(hw _ (List.mem_of_getElem? (i := 6) rfl)), (hw _ (List.mem_of_getElem? (i := 25) rfl))⟩)
  obtain ⟨w7, v7⟩ := exa_v c14
  have E7 := Exa.start v7 c14
  have S7 := Sta.start v7 (Or.inr ⟨(hw _ (List.mem_of_getElem? (i := 6) rfl)), (hw _ (List.mem_of_getElem? (i := 27) rfl))⟩)
  obtain ⟨w8, v8⟩ := exa_v c16
  have E8 := Exa.start v8 c16
  have S8 := Sta.start v8 (Or.inr ⟨(hw _ (List.mem_of_getElem? (i := 6) rfl)), (hw _ (List.mem_of_getElem? (i := 29) rfl))⟩)
  obtain ⟨w9, v9⟩ := exa_v c18
  have E9 := Exa.start v9 c18
  have S9 := Sta.start v9 (Or.inr ⟨(hw _ (List.mem_of_getElem? (i := 6) rfl)), (hw _ (List.mem_of_getElem? (i := 31) rfl))⟩)
  obtain ⟨w10, v10⟩ := exa_v c20
  have E10 := Exa.start v10 c20
  have S10 := Sta.start v10 (Or.inr ⟨(hw _ (List.mem_of_getElem? (i := 6) rfl)), (hw _ (List.mem_of_getElem? (i := 33) rfl))⟩)
  obtain ⟨w11, v11⟩ := exa_v c22
  have E11 := Exa.start v11 c22
  have S11 := Sta.start v11 (Or.inr ⟨(hw _ (List.mem_of_getElem? (i := 6) rfl)), (hw _ (List.mem_of_getElem? (i := 35) rfl))⟩)
  obtain ⟨w12, v12⟩ := exa_v c24
  have E12 := Exa.start v12 c24
  have S12 := Sta.start v12 (Or.inr ⟨(hw _ (List.mem_of_getElem? (i := 6) rfl)), (hw _ (List.mem_of_getElem? (i := 37) rfl))⟩)
  have F0_ordinal := own_fldI v0 c2
  have F1_ordinal := own_fldI v1 c3
  have F2_ordinal := own_fldI v2 c5
  have F3_ordinal := own_fldI v3 c7
  have F4_ordinal := own_fldI v4 c9
  have F5_ordinal := own_fldI v5 c11
  have F6_ordinal := own_fldI v6 c13
  have F7_ordinal := own_fldI v7 c15
  have F8_ordinal := own_fldI v8 c17
  have F9_ordinal := own_fldI v9 c19
  have F10_ordinal := own_fldI v10 c21
  have F11_ordinal := own_fldI v11 c23
  have F12_ordinal := own_fldI v12 r24
  have P : own_P s s.heap w0 w1 w2 w3 w4 w5 w6 w7 w8 w9 w10 w11 w12 := ⟨S0, E0, F0_ordinal, S1, E1, F1_ordinal, S2, E2, F2_ordinal, S3, E3, F3_ordinal, S4, E4, F4_ordinal, S5, E5, F5_ordinal, S6, E6, F6_ordinal, S7, E7, F7_ordinal, S8, E8, F8_ordinal, S9, E9, F9_ordinal, S10, E10, F10_ordinal, S11, E11, F11_ordinal, S12, E12, F12_ordinal⟩
  obtain ⟨n, o, h1, h2, h3, _, L, rfl, ⟨rfl, N⟩, hq⟩ := own_law l s _ hw tables_1 i0 w0 w1 w2 w3 w4 w5 w6 w7 w8 w9 w10 w11 w12 s.heap s.heap.size (Nat.le_refl _) P p e ha hc hk s m _ below hf ((Spec.applies_iff_loose hf).mp happ).1 ⟨rfl, State.Warmed39.refl s, rfl⟩ trivial
  refine ⟨n, _, h1, h2, h3, hpost _ _ _ _ _ _ ⟨Cond.after_iff.mpr rfl, Cond.after_iff.mpr (eq_i res_at (Term.int_eval (1)) rfl), trivial⟩ ⟨hq.1, hq.2.1, (hq.2.2.sift fun y hy => Or.inr (N y hy)).mono (by decide) (by decide)⟩⟩
theorem main_1_1 : Claimed_1_1 := comes_1 fun _ _ _ _ _ _ h hF => ⟨h.1, hF⟩
theorem main_1_2 : Claimed_1_2 := comes_1 fun _ _ _ _ _ _ h hF => ⟨h.2.1, hF⟩
end Jvm.Pilot.@@N@@
namespace Jvm.Pilot.@@N@@
open Jvm Jvm.ClassFile Sem Op Lib Jvm.Free Jvm.Stand Jvm.Pilot.@@N@@.Jvm.D
/-! MADE BY PROGRAM (witnessworld.py) out of the Statement's table words and the real class files: 12 classes; the members and pool entries that the words name. The judged class is class 1, her method 2. -/
namespace start1
open Jvm.ClassFile
def u (s : String) : CpInfo := .utf8 (stringToUtf16 s)
/-- a pool by its gaps: so many unusable entries, then the entry; so many at the end -/
def gap : Nat → List CpInfo → List CpInfo
  | 0, r => r
  | n + 1, r => .unusable :: gap n r
def poolList (es : List (Nat × CpInfo)) (last : Nat) : List CpInfo := es.foldr (fun e r => gap e.1 (e.2 :: r)) (gap last [])
def pool (es : List (Nat × CpInfo)) (last : Nat) : Array CpInfo := ⟨poolList es last⟩
def fileOf (pool : Array CpInfo) (this : Nat) (attrs : Array Attribute := #[]) (ms : Array MethodInfo := #[]) (fl : Nat := 33) (sup : Nat := 0) (ifs : Array Nat := #[]) (fds : Array FieldInfo := #[]) : ClassFile where
  minorVersion := 0
  majorVersion := 65
  constantPool := pool
  accessFlags := fl
  thisClass := this
  superClass := sup
  interfaces := ifs
  fields := fds
  methods := ms
  attributes := attrs
def plain (name : String) (sup : Option ClassId) : Class where
  name := name
  kind := .ordinary
  loader := none
  accessFlags := 33
  super := sup
  interfaces := #[]
  cf := none
  fields := #[]
  methods := #[]
  instanceTypes := #[]
  staticTypes := #[]
  resolved := #[]
  callSites := []
  init := .initialized
  statics := none
  mirror := none

def pool0 : Array CpInfo := pool [(5, u "<init>"), (0, u "()V"), (1, .class_ 10), (1, u "java/lang/Object")] 113

def k0m0 : Method := { name := "<init>", desc := "()V", sig := { parameters := [], returnType := none }, accessFlags := 1, code := none }
/-- java/lang/Object -/
def k0 : Class := { plain "java/lang/Object" none with
  accessFlags := 33
  interfaces := #[]
  cf := some (fileOf pool0 8 #[] #[{ accessFlags := 1, nameIndex := 5, descriptorIndex := 6, attributes := #[] }] 33 0 #[] #[])
  fields := #[]
  methods := #[k0m0]
  instanceTypes := #[]
  staticTypes := #[]
  resolved := Array.replicate 124 none
  statics := none }

def pool1 : Array CpInfo := pool [(2, .class_ 4), (1, u "java/lang/Object"), (0, u "<init>"), (0, u "()V"), (0, .fieldref 8 9), (0, .class_ 10), (0, .nameAndType 11 12), (0, u "com/example/recourse/recourse/CaseAction"), (0, u "CREATE"), (0, u "Lcom/example/recourse/recourse/CaseAction;"), (0, .fieldref 8 14), (0, .nameAndType 15 12), (0, u "REVIEW"), (0, .fieldref 8 17), (0, .nameAndType 18 12), (0, u "ASSIGN"), (0, .fieldref 8 20), (0, .nameAndType 21 12), (0, u "RE_OPEN"), (0, .fieldref 8 23), (0, .nameAndType 24 12), (0, u "CHARGEBACK_CREDIT"), (0, .fieldref 8 26), (0, .nameAndType 27 12), (0, u "CHARGEBACK_NO_CREDIT"), (0, .fieldref 8 29), (0, .nameAndType 30 12), (0, u "CHARGEBACK_SUBMIT"), (0, .fieldref 8 32), (0, .nameAndType 33 12), (0, u "WITHDRAW_AND_CLOSE"), (0, .fieldref 8 35), (0, .nameAndType 36 12), (0, u "WRITE_OFF"), (0, .fieldref 8 38), (0, .nameAndType 39 12), (0, u "CLOSE"), (0, .fieldref 8 41), (0, .nameAndType 42 12), (0, u "GRANT_CREDIT"), (0, .fieldref 8 44), (0, .nameAndType 45 12), (0, u "REVERT_CREDIT"), (0, .fieldref 8 47), (0, .nameAndType 48 12), (0, u "UPDATE"), (0, .integer 2147483647), (0, .methodref 51 52), (0, .class_ 53), (0, .nameAndType 54 55), (0, u "com/example/recourse/recourse/CaseActionGivesAmountBackPinLaw"), (0, u "pick"), (0, u "(I)Lcom/example/recourse/recourse/CaseAction;"), (0, .methodref 8 57), (0, .nameAndType 58 59), (0, u "givesAmountBack"), (0, u "()Z"), (3, u "law"), (0, u "(I)Z")] 2

def k1m0 : Method := { name := "<init>", desc := "()V", sig := { parameters := [], returnType := none }, accessFlags := 2, code := none }
def k1c1 : Code := { maxStack := 2, maxLocals := 1, code := method_2_code, exceptionTable := #[], attributes := #[] }
def k1m1 : Method := { name := "pick", desc := "(I)Lcom/example/recourse/recourse/CaseAction;", sig := { parameters := [.int], returnType := some (.object "com/example/recourse/recourse/CaseAction") }, accessFlags := 10, code := some k1c1 }
def k1c2 : Code := { maxStack := 2, maxLocals := 4, code := code, exceptionTable := #[], attributes := #[] }
def k1m2 : Method := { name := "law", desc := "(I)Z", sig := { parameters := [.int], returnType := some .boolean }, accessFlags := 9, code := some k1c2 }
/-- com/example/recourse/recourse/CaseActionGivesAmountBackPinLaw -/
def k1 : Class := { plain "com/example/recourse/recourse/CaseActionGivesAmountBackPinLaw" (some 0) with
  accessFlags := 49
  interfaces := #[]
  cf := some (fileOf pool1 51 #[] #[{ accessFlags := 2, nameIndex := 5, descriptorIndex := 6, attributes := #[] }, { accessFlags := 10, nameIndex := 54, descriptorIndex := 55, attributes := #[] }, { accessFlags := 9, nameIndex := 63, descriptorIndex := 64, attributes := #[] }] 49 2 #[] #[])
  fields := #[]
  methods := #[k1m0, k1m1, k1m2]
  instanceTypes := #[]
  staticTypes := #[]
  resolved := Array.replicate 67 none
  statics := none }

def pool2 : Array CpInfo := pool [(1, .class_ 2), (0, u "java/lang/constant/Constable"), (0, .class_ 4), (0, u "java/lang/Object")] 6

/-- java/lang/constant/Constable -/
def k2 : Class := { plain "java/lang/constant/Constable" (some 0) with
  accessFlags := 1537
  interfaces := #[]
  cf := some (fileOf pool2 1 #[] #[] 1537 3 #[] #[])
  fields := #[]
  methods := #[]
  instanceTypes := #[]
  staticTypes := #[]
  resolved := Array.replicate 11 none
  statics := none }

def pool3 : Array CpInfo := pool [(1, .class_ 2), (0, u "java/lang/Comparable"), (0, .class_ 4), (0, u "java/lang/Object")] 7

/-- java/lang/Comparable -/
def k3 : Class := { plain "java/lang/Comparable" (some 0) with
  accessFlags := 1537
  interfaces := #[]
  cf := some (fileOf pool3 1 #[] #[] 1537 3 #[] #[])
  fields := #[]
  methods := #[]
  instanceTypes := #[]
  staticTypes := #[]
  resolved := Array.replicate 12 none
  statics := none }

def pool4 : Array CpInfo := pool [(1, .class_ 2), (0, u "java/io/Serializable"), (0, .class_ 4), (0, u "java/lang/Object")] 2

/-- java/io/Serializable -/
def k4 : Class := { plain "java/io/Serializable" (some 0) with
  accessFlags := 1537
  interfaces := #[]
  cf := some (fileOf pool4 1 #[] #[] 1537 3 #[] #[])
  fields := #[]
  methods := #[]
  instanceTypes := #[]
  staticTypes := #[]
  resolved := Array.replicate 7 none
  statics := none }

def pool5 : Array CpInfo := pool [(2, .class_ 4), (1, u "java/lang/Enum"), (0, u "name"), (0, u "Ljava/lang/String;"), (2, u "ordinal"), (0, u "I"), (1, .class_ 14), (1, u "java/lang/Object"), (4, u "hash"), (86, .class_ 108), (1, u "java/lang/Enum$EnumDesc"), (2, .class_ 112), (0, u "java/lang/constant/Constable"), (0, .class_ 114), (0, u "java/lang/Comparable"), (0, .class_ 116), (0, u "java/io/Serializable")] 87

/-- java/lang/Enum -/
def k5 : Class := { plain "java/lang/Enum" (some 0) with
  accessFlags := 1057
  interfaces := #[2, 3, 4]
  cf := some (fileOf pool5 2 #[.nestMembers #[106]] #[] 1057 12 #[111, 113, 115] #[{ accessFlags := 18, nameIndex := 5, descriptorIndex := 6, attributes := #[] }, { accessFlags := 18, nameIndex := 9, descriptorIndex := 10, attributes := #[] }, { accessFlags := 2, nameIndex := 19, descriptorIndex := 10, attributes := #[] }])
  fields := #[{ name := "name", type := (.object "java/lang/String"), accessFlags := 18, slot := 0, constantValue := 0 }, { name := "ordinal", type := .int, accessFlags := 18, slot := 1, constantValue := 0 }, { name := "hash", type := .int, accessFlags := 2, slot := 2, constantValue := 0 }]
  methods := #[]
  instanceTypes := #[(.object "java/lang/String"), .int, .int]
  staticTypes := #[]
  resolved := Array.replicate 204 none
  statics := none }

def pool6 : Array CpInfo := pool [(1, .class_ 2), (0, u "com/example/recourse/recourse/CaseAction"), (2, u "CREATE"), (0, u "Lcom/example/recourse/recourse/CaseAction;"), (2, u "REVIEW"), (2, u "ASSIGN"), (2, u "RE_OPEN"), (2, u "CHARGEBACK_CREDIT"), (2, u "CHARGEBACK_NO_CREDIT"), (2, u "CHARGEBACK_SUBMIT"), (0, .fieldref 1 26), (0, .nameAndType 27 6), (0, u "WITHDRAW_AND_CLOSE"), (2, u "WRITE_OFF"), (2, u "CLOSE"), (2, u "GRANT_CREDIT"), (2, u "REVERT_CREDIT"), (2, u "UPDATE"), (2, u "$VALUES"), (0, u "[Lcom/example/recourse/recourse/CaseAction;"), (6, .class_ 55), (1, u "java/lang/Enum"), (32, u "()Z"), (1, u "givesAmountBack")] 4

def k6c0 : Code := { maxStack := 2, maxLocals := 1, code := prog_9_method_5_code, exceptionTable := #[], attributes := #[] }
def k6m0 : Method := { name := "givesAmountBack", desc := "()Z", sig := { parameters := [], returnType := some .boolean }, accessFlags := 0, code := some k6c0 }
/-- com/example/recourse/recourse/CaseAction -/
def k6 : Class := { plain "com/example/recourse/recourse/CaseAction" (some 5) with
  accessFlags := 16432
  interfaces := #[]
  cf := some (fileOf pool6 1 #[] #[{ accessFlags := 0, nameIndex := 90, descriptorIndex := 88, attributes := #[] }] 16432 53 #[] #[{ accessFlags := 16409, nameIndex := 5, descriptorIndex := 6, attributes := #[] }, { accessFlags := 16409, nameIndex := 9, descriptorIndex := 6, attributes := #[] }, { accessFlags := 16409, nameIndex := 12, descriptorIndex := 6, attributes := #[] }, { accessFlags := 16409, nameIndex := 15, descriptorIndex := 6, attributes := #[] }, { accessFlags := 16409, nameIndex := 18, descriptorIndex := 6, attributes := #[] }, { accessFlags := 16409, nameIndex := 21, descriptorIndex := 6, attributes := #[] }, { accessFlags := 16409, nameIndex := 24, descriptorIndex := 6, attributes := #[] }, { accessFlags := 16409, nameIndex := 27, descriptorIndex := 6, attributes := #[] }, { accessFlags := 16409, nameIndex := 30, descriptorIndex := 6, attributes := #[] }, { accessFlags := 16409, nameIndex := 33, descriptorIndex := 6, attributes := #[] }, { accessFlags := 16409, nameIndex := 36, descriptorIndex := 6, attributes := #[] }, { accessFlags := 16409, nameIndex := 39, descriptorIndex := 6, attributes := #[] }, { accessFlags := 16409, nameIndex := 42, descriptorIndex := 6, attributes := #[] }, { accessFlags := 4122, nameIndex := 45, descriptorIndex := 46, attributes := #[] }])
  fields := #[{ name := "CREATE", type := (.object "com/example/recourse/recourse/CaseAction"), accessFlags := 16409, slot := 0, constantValue := 0 }, { name := "REVIEW", type := (.object "com/example/recourse/recourse/CaseAction"), accessFlags := 16409, slot := 1, constantValue := 0 }, { name := "ASSIGN", type := (.object "com/example/recourse/recourse/CaseAction"), accessFlags := 16409, slot := 2, constantValue := 0 }, { name := "RE_OPEN", type := (.object "com/example/recourse/recourse/CaseAction"), accessFlags := 16409, slot := 3, constantValue := 0 }, { name := "CHARGEBACK_CREDIT", type := (.object "com/example/recourse/recourse/CaseAction"), accessFlags := 16409, slot := 4, constantValue := 0 }, { name := "CHARGEBACK_NO_CREDIT", type := (.object "com/example/recourse/recourse/CaseAction"), accessFlags := 16409, slot := 5, constantValue := 0 }, { name := "CHARGEBACK_SUBMIT", type := (.object "com/example/recourse/recourse/CaseAction"), accessFlags := 16409, slot := 6, constantValue := 0 }, { name := "WITHDRAW_AND_CLOSE", type := (.object "com/example/recourse/recourse/CaseAction"), accessFlags := 16409, slot := 7, constantValue := 0 }, { name := "WRITE_OFF", type := (.object "com/example/recourse/recourse/CaseAction"), accessFlags := 16409, slot := 8, constantValue := 0 }, { name := "CLOSE", type := (.object "com/example/recourse/recourse/CaseAction"), accessFlags := 16409, slot := 9, constantValue := 0 }, { name := "GRANT_CREDIT", type := (.object "com/example/recourse/recourse/CaseAction"), accessFlags := 16409, slot := 10, constantValue := 0 }, { name := "REVERT_CREDIT", type := (.object "com/example/recourse/recourse/CaseAction"), accessFlags := 16409, slot := 11, constantValue := 0 }, { name := "UPDATE", type := (.object "com/example/recourse/recourse/CaseAction"), accessFlags := 16409, slot := 12, constantValue := 0 }, { name := "$VALUES", type := (.array (.object "com/example/recourse/recourse/CaseAction")), accessFlags := 4122, slot := 13, constantValue := 0 }]
  methods := #[k6m0]
  instanceTypes := #[(.object "java/lang/String"), .int, .int]
  staticTypes := #[(.object "com/example/recourse/recourse/CaseAction"), (.object "com/example/recourse/recourse/CaseAction"), (.object "com/example/recourse/recourse/CaseAction"), (.object "com/example/recourse/recourse/CaseAction"), (.object "com/example/recourse/recourse/CaseAction"), (.object "com/example/recourse/recourse/CaseAction"), (.object "com/example/recourse/recourse/CaseAction"), (.object "com/example/recourse/recourse/CaseAction"), (.object "com/example/recourse/recourse/CaseAction"), (.object "com/example/recourse/recourse/CaseAction"), (.object "com/example/recourse/recourse/CaseAction"), (.object "com/example/recourse/recourse/CaseAction"), (.object "com/example/recourse/recourse/CaseAction"), (.array (.object "com/example/recourse/recourse/CaseAction"))]
  resolved := Array.replicate 95 none
  statics := some 0 }

def pool7 : Array CpInfo := pool [(1, u "java/lang/Cloneable"), (0, .class_ 1), (0, u "java/lang/Object"), (0, .class_ 3)] 3

/-- java/lang/Cloneable -/
def k7 : Class := { plain "java/lang/Cloneable" (some 0) with
  accessFlags := 1537
  interfaces := #[]
  cf := some (fileOf pool7 2 #[] #[] 1537 4 #[] #[])
  fields := #[]
  methods := #[]
  instanceTypes := #[]
  staticTypes := #[]
  resolved := Array.replicate 8 none
  statics := none }

/-- the primitive byte -/
def k8 : Class := { plain "byte" none with kind := .primitive 'B', accessFlags := 0x411 }
/-- [B -/
def k9 : Class := { plain "[B" (some 0) with kind := .array 8 .byte, interfaces := #[7, 4], accessFlags := 1041 }

/-- the primitive int -/
def k10 : Class := { plain "int" none with kind := .primitive 'I', accessFlags := 0x411 }
/-- [I -/
def k11 : Class := { plain "[I" (some 0) with kind := .array 10 .int, interfaces := #[7, 4], accessFlags := 1041 }

def heap : Heap := #[{ cls := 6, slots := #[.ref 1, .ref 9, .ref 7, .ref 3, .ref 13, .ref 5, .ref 4, .ref 2, .ref 10, .ref 6, .ref 11, .ref 8, .ref 12, .null], vm := .statics 6 },
  { cls := 6, slots := #[.null, .int 0, .int 0], vm := .none },
  { cls := 6, slots := #[.null, .int 7, .int 0], vm := .none },
  { cls := 6, slots := #[.null, .int 3, .int 0], vm := .none },
  { cls := 6, slots := #[.null, .int 6, .int 0], vm := .none },
  { cls := 6, slots := #[.null, .int 5, .int 0], vm := .none },
  { cls := 6, slots := #[.null, .int 9, .int 0], vm := .none },
  { cls := 6, slots := #[.null, .int 2, .int 0], vm := .none },
  { cls := 6, slots := #[.null, .int 11, .int 0], vm := .none },
  { cls := 6, slots := #[.null, .int 1, .int 0], vm := .none },
  { cls := 6, slots := #[.null, .int 8, .int 0], vm := .none },
  { cls := 6, slots := #[.null, .int 10, .int 0], vm := .none },
  { cls := 6, slots := #[.null, .int 12, .int 0], vm := .none },
  { cls := 6, slots := #[.null, .int 4, .int 0], vm := .none }]
def classes : Array Class := #[k0, k1, k2, k3, k4, k5, k6, k7, k8, k9, k10, k11]
def interned : List (Array UInt16 × Addr) := []
def slotsUsed : Nat := 53
def theMethod : MethodId := ⟨1, 2⟩
def args0 : Array Value := #[.int 5]
def aboutOver (below : List Frame) : State where
  vm := { classes := classes, interned := interned.toArray }
  heap := heap
  slotsUsed := slotsUsed
  threads := #[{ frames := .invoking theMethod args0 :: below }]
def below0 : List Frame := [.native { method := ⟨0, 0⟩, args := #[] }]
def about1 : State := aboutOver below0
def p0 : Program := .bare "" "" ""
def e0 : Env := launch0.env 0 0 0
theorem w_frames : about1.frames = Frame.invoking theMethod args0 :: below0 := rfl
set_option maxRecDepth 65536 in
theorem w_args : argsFit about1.vm theMethod args0 = true := by decide +kernel
set_option maxRecDepth 65536 in
theorem w_heap : heapFits about1 = true := by decide +kernel
set_option maxRecDepth 65536 in
theorem w_runnable : about1.curStatus? = some .runnable := by decide +kernel
set_option maxRecDepth 65536 in
theorem w_alone : about1.alone = true := by decide +kernel
set_option maxRecDepth 65536 in
theorem w_named : about1.methodNamed? x = some theMethod := by decide +kernel
set_option maxRecDepth 65536 in
theorem w_hears : about1.hears theMethod below0 = true := by decide +kernel
set_option maxRecDepth 65536 in
theorem w_ripe : about1.ripe theMethod args0 below0 = true := by decide +kernel
theorem w_running : about1.status = .running := rfl
set_option maxRecDepth 65536 in
theorem w_room : about1.hasRoom e0.platform room_1 = true :=
  launch0.hasRoom_least _ room_1 (by decide +kernel) (by decide +kernel) (by decide +kernel) (by decide +kernel) (by decide +kernel) (by decide +kernel)
theorem allAtoms_all (ts : List Jvm.Cond) (a : Array Jvm.Value) (st : Jvm.State) : (allAtoms ts).before a st = ts.all (fun c => c.before a st) := by
  induction ts with
  | nil => rfl
  | cons c t ih =>
    show (Jvm.Cond.and c (allAtoms t)).before a st = _
    rw [Jvm.Cond.before_and, ih, List.all_cons]
def words1 : List Jvm.Cond := Jvm.Cond.code x code maxLocals ret :: tables_1
/-- a 'code' word, met by the world's own term for the bytes: nothing is compared byte by byte -/
theorem code_word {y : MethodName} {bytes : ByteArray} {mx : Nat} {rt : Option FieldType} {a : Array Value} {s : State} {m : MethodId} {meth : Method} {c : Code} (h1 : s.methodNamed? y = some m) (h2 : s.vm.method? m = some meth) (h3 : meth.code = some c) (h4 : c.code = bytes)
    (h5 : (c.maxLocals == mx && c.exceptionTable.isEmpty && decide (c.maxStack ≤ mostOperands) && decide (meth.sig.returnType = rt) && !meth.locks && decide (parseMethodDescriptor y.desc = some meth.sig)) = true) : (Jvm.Cond.code y bytes mx rt).before a s = true := by
  simp only [Bool.and_eq_true, beq_iff_eq, Bool.not_eq_true', decide_eq_true_eq] at h5
  obtain ⟨⟨⟨⟨⟨g1, g2⟩, g3⟩, g4⟩, g5⟩, g6⟩ := h5
  simp [Cond.before, Cond.holds, Cond.value, h1, h2, h3, h4, g1, g2, g3, g4, g5, g6]
def isCode : Jvm.Cond → Bool
  | .code _ _ _ _ => true
  | _ => false
theorem all_split {L : List Jvm.Cond} {P : Jvm.Cond → Bool} (h1 : L.all (fun c => isCode c || P c) = true) (h2 : ∀ c ∈ L.filter isCode, P c = true) : L.all P = true := by
  refine List.all_eq_true.mpr fun c hc => ?_
  have h := List.all_eq_true.mp h1 c hc
  rcases Bool.eq_false_or_eq_true (isCode c) with hi | hi
  · exact h2 c (List.mem_filter.mpr ⟨hc, hi⟩)
  · simpa [hi] using h
set_option maxRecDepth 65536 in
theorem w_c0 : (Jvm.Cond.code x code maxLocals ret).before args0 about1 = true := code_word (m := ⟨1, 2⟩) (meth := k1m2) (c := k1c2) (by decide +kernel) rfl rfl rfl (by decide +kernel)
set_option maxRecDepth 65536 in
theorem w_c1 : (Jvm.Cond.code ({ cls := "com/example/recourse/recourse/CaseActionGivesAmountBackPinLaw", name := "pick", desc := "(I)Lcom/example/recourse/recourse/CaseAction;" } : Jvm.MethodName) method_2_code (1 : Nat) (Option.some (Jvm.ClassFile.FieldType.object "com/example/recourse/recourse/CaseAction"))).before args0 about1 = true := code_word (m := ⟨1, 1⟩) (meth := k1m1) (c := k1c1) (by decide +kernel) rfl rfl rfl (by decide +kernel)
set_option maxRecDepth 65536 in
theorem w_c2 : (Jvm.Cond.code ({ cls := "com/example/recourse/recourse/CaseAction", name := "givesAmountBack", desc := "()Z" } : Jvm.MethodName) prog_9_method_5_code (1 : Nat) (Option.some Jvm.ClassFile.FieldType.boolean)).before args0 about1 = true := code_word (m := ⟨6, 0⟩) (meth := k6m0) (c := k6c0) (by decide +kernel) rfl rfl rfl (by decide +kernel)
def codes1 : List Jvm.Cond := [Jvm.Cond.code x code maxLocals ret, Jvm.Cond.code ({ cls := "com/example/recourse/recourse/CaseActionGivesAmountBackPinLaw", name := "pick", desc := "(I)Lcom/example/recourse/recourse/CaseAction;" } : Jvm.MethodName) method_2_code (1 : Nat) (Option.some (Jvm.ClassFile.FieldType.object "com/example/recourse/recourse/CaseAction")), Jvm.Cond.code ({ cls := "com/example/recourse/recourse/CaseAction", name := "givesAmountBack", desc := "()Z" } : Jvm.MethodName) prog_9_method_5_code (1 : Nat) (Option.some Jvm.ClassFile.FieldType.boolean)]
set_option maxRecDepth 65536 in
theorem codes_eq : words1.filter isCode = codes1 := rfl
theorem w_codes : ∀ c ∈ words1.filter isCode, c.before args0 about1 = true := by
  rw [codes_eq]
  intro c hc
  simp only [codes1, List.mem_cons, List.not_mem_nil, or_false] at hc
  rcases hc with rfl | rfl | rfl
  · exact w_c0
  · exact w_c1
  · exact w_c2
set_option maxRecDepth 65536 in
theorem w_t1 : (words1.take 24).all (fun c => isCode c || c.before args0 about1) = true := by decide +kernel
set_option maxRecDepth 65536 in
theorem w_t2 : (words1.drop 24).all (fun c => isCode c || c.before args0 about1) = true := by decide +kernel
theorem w_tables : (allAtoms (Jvm.Cond.code x code maxLocals ret :: tables_1)).before args0 about1 = true := by
  rw [allAtoms_all]
  show words1.all (fun c => c.before args0 about1) = true
  refine all_split ?_ w_codes
  rw [← List.take_append_drop 24 words1, List.all_append, w_t1, w_t2]
  rfl
set_option maxRecDepth 65536 in
theorem w_case : (Jvm.Cond.and given_1 narrow_1).before args0 about1 = true := by decide +kernel
theorem w_applies : (headSpec (Jvm.Cond.code x code maxLocals ret :: tables_1) room_1).applies x e0.platform about1 = true :=
  (Spec.applies_iff w_frames).mpr ⟨w_running, w_runnable, w_alone, w_named, w_hears, w_ripe, w_room, w_tables⟩
theorem atStart : AtStart classFile x code maxLocals ret World_1 tables_1 room_1 Calls_1 rest_1 Pre_1 launch0 p0 e0 about1 theMethod args0 below0 :=
  ⟨lists_1, trivial, launch0.admits_env _ _ _, launch0.least_env, fairChoices_fair.cas, fairChoices_fair.clock, w_frames, w_args, w_heap, w_applies, trivial, trivial, w_case⟩
end start1
theorem witness_1 : WitnessClaimed_1 := ⟨start1.p0, start1.e0, start1.about1, start1.theMethod, start1.args0, start1.below0, start1.atStart⟩
end Jvm.Pilot.@@N@@
