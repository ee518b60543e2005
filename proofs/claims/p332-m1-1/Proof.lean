import JvmDerived
import JvmDerived.Pilot.@@N@@Statement
import JvmDerived.Pilot.@@N@@Code
set_option linter.unusedVariables false
set_option linter.unusedSimpArgs false
namespace Jvm.RoadKit
open Sem ClassFile Op Lib Jvm.Stand Jvm.Free Jvm.LawKit
section New
variable {p : Program} {l : Launch} {e : Env} {R : Room} {s : State} {m : MethodId} {args : Array Value} {below : List Frame} {meth : Method} {c : Code} {T : State} {locs : List Loc} {cells slots : Nat}
theorem retI (X : Stand p l e R s m args below meth c T locs cells slots) (hx : p.tables.exec = Jvm.exec) {pc : Nat} {Ls : Array Slot} {z : Int32} {rest : List Value} (hret : meth.sig.returnType = some .int) (hd : decode c.code pc = .ok (.ireturn, 1)) {fs : List Frame}
    (hl : ∀ (f : JFrame) (acts : List Action), f.method = m → f.locked = none → f.entered = [] → (doReturn e (T.setTop f) acts (some (.int z))).1 = T.setFrames fs) : Steps p.tables e below (T.setTop (mkF m pc Ls (.int z :: rest))) (T.setFrames fs) := by
  have hm' : T.vm.method? m = some meth := X.method'
  have hn : narrow .int (.int z) = .int z := rfl
  show Steps p.tables e below (T.setTop { method := m, pc := pc, locals := Ls, stack := _ :: rest, locked := none }) _
  jvm_step X.here [X.here.top, hx, hd, hm', hret, hn]
  first | (intro acts; rw [hl _ acts rfl rfl rfl]) | rw [hl _ _ rfl rfl rfl]
  exact Steps.refl _
end New
end Jvm.RoadKit
namespace Jvm.Pilot.@@N@@
open Jvm Jvm.ClassFile Sem Op Lib Jvm.Free Jvm.Stand Jvm.LawKit Jvm.RoadKit Bundle Jvm.Pilot.@@N@@.Jvm.D

def own_Q (r : Option Value) (h0 : Heap) (n0 : Nat) (v : Option Value) (h : Heap) (L : List Loc) : Prop := v = r ∧ Fr n0 L ∧ h = h0
def own_Q0 (n0 : Nat) (v : Option Value) (h : Heap) (L : List Loc) : Prop := v = some (.int 1) ∧ Fr n0 L
theorem own_cases (x : Int32) : ((x &&& (2147483647 : Int32)) % (19 : Int32)) = (0 : Int32) ∨ ((x &&& (2147483647 : Int32)) % (19 : Int32)) = (1 : Int32) ∨ ((x &&& (2147483647 : Int32)) % (19 : Int32)) = (2 : Int32) ∨ ((x &&& (2147483647 : Int32)) % (19 : Int32)) = (3 : Int32) ∨ ((x &&& (2147483647 : Int32)) % (19 : Int32)) = (4 : Int32) ∨ ((x &&& (2147483647 : Int32)) % (19 : Int32)) = (5 : Int32) ∨ ((x &&& (2147483647 : Int32)) % (19 : Int32)) = (6 : Int32) ∨ ((x &&& (2147483647 : Int32)) % (19 : Int32)) = (7 : Int32) ∨ ((x &&& (2147483647 : Int32)) % (19 : Int32)) = (8 : Int32) ∨ ((x &&& (2147483647 : Int32)) % (19 : Int32)) = (9 : Int32) ∨ ((x &&& (2147483647 : Int32)) % (19 : Int32)) = (10 : Int32) ∨ ((x &&& (2147483647 : Int32)) % (19 : Int32)) = (11 : Int32) ∨ ((x &&& (2147483647 : Int32)) % (19 : Int32)) = (12 : Int32) ∨ ((x &&& (2147483647 : Int32)) % (19 : Int32)) = (13 : Int32) ∨ ((x &&& (2147483647 : Int32)) % (19 : Int32)) = (14 : Int32) ∨ ((x &&& (2147483647 : Int32)) % (19 : Int32)) = (15 : Int32) ∨ ((x &&& (2147483647 : Int32)) % (19 : Int32)) = (16 : Int32) ∨ ((x &&& (2147483647 : Int32)) % (19 : Int32)) = (17 : Int32) ∨ ((x &&& (2147483647 : Int32)) % (19 : Int32)) = (18 : Int32) := by
  have h1 := c_and x (2147483647 : Int32) (by decide)
  have h2 := (c_irem (x &&& (2147483647 : Int32)) (19 : Int32) 19 (by decide)).1 h1.1
  have h3 : 0 ≤ ((x &&& (2147483647 : Int32)) % (19 : Int32)).toInt ∧ ((x &&& (2147483647 : Int32)) % (19 : Int32)).toInt < 19 := by rw [h2]; omega
  clear h2
  generalize ((x &&& (2147483647 : Int32)) % (19 : Int32)) = r at h3 ⊢
  have q : r.toInt = 0 ∨ r.toInt = 1 ∨ r.toInt = 2 ∨ r.toInt = 3 ∨ r.toInt = 4 ∨ r.toInt = 5 ∨ r.toInt = 6 ∨ r.toInt = 7 ∨ r.toInt = 8 ∨ r.toInt = 9 ∨ r.toInt = 10 ∨ r.toInt = 11 ∨ r.toInt = 12 ∨ r.toInt = 13 ∨ r.toInt = 14 ∨ r.toInt = 15 ∨ r.toInt = 16 ∨ r.toInt = 17 ∨ r.toInt = 18 := by omega
  rcases q with q | q | q | q | q | q | q | q | q | q | q | q | q | q | q | q | q | q | q
  · exact (Or.inl (Int32.toInt_inj.mp (q.trans (by decide))))
  · exact (Or.inr (Or.inl (Int32.toInt_inj.mp (q.trans (by decide)))))
  · exact (Or.inr (Or.inr (Or.inl (Int32.toInt_inj.mp (q.trans (by decide))))))
  · exact (Or.inr (Or.inr (Or.inr (Or.inl (Int32.toInt_inj.mp (q.trans (by decide)))))))
  · exact (Or.inr (Or.inr (Or.inr (Or.inr (Or.inl (Int32.toInt_inj.mp (q.trans (by decide))))))))
  · exact (Or.inr (Or.inr (Or.inr (Or.inr (Or.inr (Or.inl (Int32.toInt_inj.mp (q.trans (by decide)))))))))
  · exact (Or.inr (Or.inr (Or.inr (Or.inr (Or.inr (Or.inr (Or.inl (Int32.toInt_inj.mp (q.trans (by decide))))))))))
  · exact (Or.inr (Or.inr (Or.inr (Or.inr (Or.inr (Or.inr (Or.inr (Or.inl (Int32.toInt_inj.mp (q.trans (by decide)))))))))))
  · exact (Or.inr (Or.inr (Or.inr (Or.inr (Or.inr (Or.inr (Or.inr (Or.inr (Or.inl (Int32.toInt_inj.mp (q.trans (by decide))))))))))))
  · exact (Or.inr (Or.inr (Or.inr (Or.inr (Or.inr (Or.inr (Or.inr (Or.inr (Or.inr (Or.inl (Int32.toInt_inj.mp (q.trans (by decide)))))))))))))
  · exact (Or.inr (Or.inr (Or.inr (Or.inr (Or.inr (Or.inr (Or.inr (Or.inr (Or.inr (Or.inr (Or.inl (Int32.toInt_inj.mp (q.trans (by decide))))))))))))))
  · exact (Or.inr (Or.inr (Or.inr (Or.inr (Or.inr (Or.inr (Or.inr (Or.inr (Or.inr (Or.inr (Or.inr (Or.inl (Int32.toInt_inj.mp (q.trans (by decide)))))))))))))))
  · exact (Or.inr (Or.inr (Or.inr (Or.inr (Or.inr (Or.inr (Or.inr (Or.inr (Or.inr (Or.inr (Or.inr (Or.inr (Or.inl (Int32.toInt_inj.mp (q.trans (by decide))))))))))))))))
  · exact (Or.inr (Or.inr (Or.inr (Or.inr (Or.inr (Or.inr (Or.inr (Or.inr (Or.inr (Or.inr (Or.inr (Or.inr (Or.inr (Or.inl (Int32.toInt_inj.mp (q.trans (by decide)))))))))))))))))
  · exact (Or.inr (Or.inr (Or.inr (Or.inr (Or.inr (Or.inr (Or.inr (Or.inr (Or.inr (Or.inr (Or.inr (Or.inr (Or.inr (Or.inr (Or.inl (Int32.toInt_inj.mp (q.trans (by decide))))))))))))))))))
  · exact (Or.inr (Or.inr (Or.inr (Or.inr (Or.inr (Or.inr (Or.inr (Or.inr (Or.inr (Or.inr (Or.inr (Or.inr (Or.inr (Or.inr (Or.inr (Or.inl (Int32.toInt_inj.mp (q.trans (by decide)))))))))))))))))))
  · exact (Or.inr (Or.inr (Or.inr (Or.inr (Or.inr (Or.inr (Or.inr (Or.inr (Or.inr (Or.inr (Or.inr (Or.inr (Or.inr (Or.inr (Or.inr (Or.inr (Or.inl (Int32.toInt_inj.mp (q.trans (by decide))))))))))))))))))))
  · exact (Or.inr (Or.inr (Or.inr (Or.inr (Or.inr (Or.inr (Or.inr (Or.inr (Or.inr (Or.inr (Or.inr (Or.inr (Or.inr (Or.inr (Or.inr (Or.inr (Or.inr (Or.inl (Int32.toInt_inj.mp (q.trans (by decide)))))))))))))))))))))
  · exact (Or.inr (Or.inr (Or.inr (Or.inr (Or.inr (Or.inr (Or.inr (Or.inr (Or.inr (Or.inr (Or.inr (Or.inr (Or.inr (Or.inr (Or.inr (Or.inr (Or.inr (Or.inr (Int32.toInt_inj.mp (q.trans (by decide)))))))))))))))))))))
def own_P (Z : State) (h : Heap) (w0 : Addr) (cl : Cell) : Prop := (Sta Z h "com/example/tranchor/tranchor/Fraction" "POWERS_OF_TEN" "[J" (.ref w0)) ∧ (Arr Z h w0 cl .long) ∧ (cl.slots.size.toInt32 = (19 : Int32)) ∧ (¬ ((0 : Int32) < 0 ∨ cl.slots.size ≤ (0 : Int32).toNatClampNeg) ∧ cl.slots[(0 : Int32).toNatClampNeg]? = some (.long (1 : Int64))) ∧ (¬ ((1 : Int32) < 0 ∨ cl.slots.size ≤ (1 : Int32).toNatClampNeg) ∧ cl.slots[(1 : Int32).toNatClampNeg]? = some (.long (10 : Int64))) ∧ (¬ ((2 : Int32) < 0 ∨ cl.slots.size ≤ (2 : Int32).toNatClampNeg) ∧ cl.slots[(2 : Int32).toNatClampNeg]? = some (.long (100 : Int64))) ∧ (¬ ((3 : Int32) < 0 ∨ cl.slots.size ≤ (3 : Int32).toNatClampNeg) ∧ cl.slots[(3 : Int32).toNatClampNeg]? = some (.long (1000 : Int64))) ∧ (¬ ((4 : Int32) < 0 ∨ cl.slots.size ≤ (4 : Int32).toNatClampNeg) ∧ cl.slots[(4 : Int32).toNatClampNeg]? = some (.long (10000 : Int64))) ∧ (¬ ((5 : Int32) < 0 ∨ cl.slots.size ≤ (5 : Int32).toNatClampNeg) ∧ cl.slots[(5 : Int32).toNatClampNeg]? = some (.long (100000 : Int64))) ∧ (¬ ((6 : Int32) < 0 ∨ cl.slots.size ≤ (6 : Int32).toNatClampNeg) ∧ cl.slots[(6 : Int32).toNatClampNeg]? = some (.long (1000000 : Int64))) ∧ (¬ ((7 : Int32) < 0 ∨ cl.slots.size ≤ (7 : Int32).toNatClampNeg) ∧ cl.slots[(7 : Int32).toNatClampNeg]? = some (.long (10000000 : Int64))) ∧ (¬ ((8 : Int32) < 0 ∨ cl.slots.size ≤ (8 : Int32).toNatClampNeg) ∧ cl.slots[(8 : Int32).toNatClampNeg]? = some (.long (100000000 : Int64))) ∧ (¬ ((9 : Int32) < 0 ∨ cl.slots.size ≤ (9 : Int32).toNatClampNeg) ∧ cl.slots[(9 : Int32).toNatClampNeg]? = some (.long (1000000000 : Int64))) ∧ (¬ ((10 : Int32) < 0 ∨ cl.slots.size ≤ (10 : Int32).toNatClampNeg) ∧ cl.slots[(10 : Int32).toNatClampNeg]? = some (.long (10000000000 : Int64))) ∧ (¬ ((11 : Int32) < 0 ∨ cl.slots.size ≤ (11 : Int32).toNatClampNeg) ∧ cl.slots[(11 : Int32).toNatClampNeg]? = some (.long (100000000000 : Int64))) ∧ (¬ ((12 : Int32) < 0 ∨ cl.slots.size ≤ (12 : Int32).toNatClampNeg) ∧ cl.slots[(12 : Int32).toNatClampNeg]? = some (.long (1000000000000 : Int64))) ∧ (¬ ((13 : Int32) < 0 ∨ cl.slots.size ≤ (13 : Int32).toNatClampNeg) ∧ cl.slots[(13 : Int32).toNatClampNeg]? = some (.long (10000000000000 : Int64))) ∧ (¬ ((14 : Int32) < 0 ∨ cl.slots.size ≤ (14 : Int32).toNatClampNeg) ∧ cl.slots[(14 : Int32).toNatClampNeg]? = some (.long (100000000000000 : Int64))) ∧ (¬ ((15 : Int32) < 0 ∨ cl.slots.size ≤ (15 : Int32).toNatClampNeg) ∧ cl.slots[(15 : Int32).toNatClampNeg]? = some (.long (1000000000000000 : Int64))) ∧ (¬ ((16 : Int32) < 0 ∨ cl.slots.size ≤ (16 : Int32).toNatClampNeg) ∧ cl.slots[(16 : Int32).toNatClampNeg]? = some (.long (10000000000000000 : Int64))) ∧ (¬ ((17 : Int32) < 0 ∨ cl.slots.size ≤ (17 : Int32).toNatClampNeg) ∧ cl.slots[(17 : Int32).toNatClampNeg]? = some (.long (100000000000000000 : Int64))) ∧ (¬ ((18 : Int32) < 0 ∨ cl.slots.size ≤ (18 : Int32).toNatClampNeg) ∧ cl.slots[(18 : Int32).toNatClampNeg]? = some (.long (1000000000000000000 : Int64)))
theorem own_elJ {args : Array Value} {s : State} {t : Term} {a : Addr} {cl : Cell} {j : Int32} {k : Int64} (ev : t.eval args s none [] s = some (.ref a)) (hc : s.heap[a]? = some cl) (h : (Jvm.Cond.eq (Jvm.Term.elem t (Jvm.Term.int j)) (Jvm.Term.long k)).value args s none s [] = some true) : ¬ (j < 0 ∨ cl.slots.size ≤ j.toNatClampNeg) ∧ cl.slots[j.toNatClampNeg]? = some (.long k) := by
  obtain ⟨x, y, e1, e2, K1, K2⟩ := cmp_v (Or.inl h)
  have e3 : (Jvm.Term.long k).eval args s none [] s = some (.long k) := rfl
  obtain rfl : y = .long k := Option.some.inj (e2.symm.trans e3)
  obtain ⟨z, rfl⟩ := K2
  obtain rfl : z = k := gotT (eq_L e1 e3) h
  exact elem_in e1 ev rfl hc
theorem own_len {args : Array Value} {s : State} {t : Term} {a : Addr} {cl : Cell} {ty : FieldType} {k : Int32} (ev : t.eval args s none [] s = some (.ref a)) (A : Arr s s.heap a cl ty) (h : (Jvm.Cond.eq (Jvm.Term.length t) (Jvm.Term.int k)).value args s none s [] = some true) : cl.slots.size.toInt32 = k := by
  obtain ⟨x, y, e1, e2, K1, K2⟩ := cmp_v (Or.inl h)
  have e3 : (Jvm.Term.int k).eval args s none [] s = some (.int k) := rfl
  obtain ⟨a', c', q1, q2, rfl⟩ := Term.length_spec e1
  have e4 := gotT (Jvm.Cond.eq_ints e1 e3) h
  cases q1.symm.trans ev
  cases (A.fin (Vm.Alike.refl _)).symm.trans q2
  exact e4
theorem d_prog_3_method_31_code_0 : decode prog_3_method_31_code 0 = .ok (.iload_n 0, 1) := by decide +kernel
theorem d_prog_3_method_31_code_1 : decode prog_3_method_31_code 1 = .ok (.getstatic 79, 3) := by decide +kernel
theorem d_prog_3_method_31_code_4 : decode prog_3_method_31_code 4 = .ok (.arraylength, 1) := by decide +kernel
theorem d_prog_3_method_31_code_5 : decode prog_3_method_31_code 5 = .ok (.if_icmp .lt 17, 3) := by decide +kernel
theorem d_prog_3_method_31_code_22 : decode prog_3_method_31_code 22 = .ok (.getstatic 79, 3) := by decide +kernel
theorem d_prog_3_method_31_code_25 : decode prog_3_method_31_code 25 = .ok (.iload_n 0, 1) := by decide +kernel
theorem d_prog_3_method_31_code_26 : decode prog_3_method_31_code 26 = .ok (.laload, 1) := by decide +kernel
theorem d_prog_3_method_31_code_27 : decode prog_3_method_31_code 27 = .ok (.lreturn, 1) := by decide +kernel
theorem ef_prog_3_method_31_code_I (m : MethodId) (x0 : Int32) : entryFrame m #[(.int x0)] 1 = mkF m 0 #[.val (.int x0)] [] := by first | (simp [entryFrame, mkF, argsToLocals, Value.category]; done) | rfl
theorem pn_com_example_tranchor_tranchor_Fraction : plainName "com/example/tranchor/tranchor/Fraction" = true := by first | (simp [plainName, overriddenIn]; done) | decide +kernel
set_option maxRecDepth 65536 in
set_option maxHeartbeats 40000000 in
theorem own_pow_0 (l : Launch) (Z : State) (a0 : Array Value) (hw : ∀ d ∈ tables_1, d.before a0 Z = true) (ws : List Jvm.Cond) (w0 : Addr) (cl : Cell) (h0 : Heap) (n0 : Nat) (Z0 : n0 ≤ h0.size) (P : own_P Z h0 w0 cl) :
    MetFree l (⟨"com/example/tranchor/tranchor/Fraction", "powerOfTen", "(I)J"⟩ : MethodName) (head1 (Jvm.Cond.code (⟨"com/example/tranchor/tranchor/Fraction", "powerOfTen", "(I)J"⟩ : MethodName) prog_3_method_31_code 1 (some .long) :: ws) ({ frames := 0, cells := 0, slots := 0, locals := 0 } : Room)) (fun a U => a = #[(.int (0 : Int32))] ∧ Z.Warmed39 U.vm ∧ U.heap = h0) (fun _ _ _ _ _ => True) (fun _ U o U' => ∃ v L, o = .returned v ∧ own_Q (some (.long (1 : Int64))) h0 n0 v U'.heap L ∧ FrameEnd U o U' L ({ frames := 0, cells := 0, slots := 0, locals := 0 } : Room).cells ({ frames := 0, cells := 0, slots := 0, locals := 0 } : Room).slots) := by
  refine MetFree.of_bodySF (plainFor_of_name pn_com_example_tranchor_tranchor_Fraction) hisR ?_
  intro p e s m args below meth c s₁ Bd hml0 hP hK
  obtain ⟨rfl, hZ, hh⟩ := hP
  have hx := Bd.exec
  have hby := Bd.bytes
  have hml : c.maxLocals = 1 := hml0
  have hown : s.vm.findClass "com/example/tranchor/tranchor/Fraction" = some m.cls := findClass_of_methodNamed Bd.named
  have hnm := (name_of_methodNamed Bd.named Bd.method).1
  have X0 : Stand p l e ({ frames := 0, cells := 0, slots := 0, locals := 0 } : Room) s m #[(.int (0 : Int32))] below meth c s₁ [] 0 0 := Stand.of_body Bd
  have e0 : s₁.heap = h0 := by rw [← hh, Bd.state]; rfl
  have N0 := Fr.nil n0
  have pre0 : ∀ t, Steps p.tables e below (s₁.setTop (mkF m 0 #[.val (.int (0 : Int32))] [])) t → Steps p.tables e below (s₁.setTop (entryFrame m #[(.int (0 : Int32))] 1)) t := fun t k => castTop (ef_prog_3_method_31_code_I m (0 : Int32)) k
  have P0 := P; obtain ⟨S0, A0, Ln, D0, D1, D2, D3, D4, D5, D6, D7, D8, D9, D10, D11, D12, D13, D14, D15, D16, D17, D18⟩ := P0
  obtain ⟨T1, X1, e1, st1⟩ := getS2 X0 hx hZ hown (host := "") (Or.inl (hw _ (List.mem_of_getElem? (i := 5) rfl))) Via.refl e0 S0 (g := (mkF m 1 #[.val (.int (0 : Int32))] [(.int (0 : Int32))])) rfl (hb hby d_prog_3_method_31_code_1)
  obtain ⟨T2, X2, e2, st2⟩ := getS2 X1 hx hZ hown (host := "") (Or.inl (hw _ (List.mem_of_getElem? (i := 5) rfl))) Via.refl e1 S0 (g := (mkF m 22 #[.val (.int (0 : Int32))] [])) rfl (hb hby d_prog_3_method_31_code_22)
  obtain ⟨fs, hr, hrun, hended, hW, hsame⟩ := X2.leave (v := some (.long (1 : Int64))) (fun h => by rw [Bd.returns] at h; cases h)
  refine ⟨_, _, pre0 _ ?_, hrun, hended, _, _, rfl, ?_, ⟨_, rfl⟩, hW, hsame.mono (by decide) (by decide)⟩
  · show Steps p.tables e below (s₁.setTop (mkF m 0 #[.val (.int (0 : Int32))] [])) _
    refine XS.iloadN X0.here hx rfl (hb hby d_prog_3_method_31_code_0) rfl ?_
    show Steps p.tables e below (s₁.setTop (mkF m 1 #[.val (.int (0 : Int32))] [(.int (0 : Int32))])) _
    refine st1 _ ?_
    show Steps p.tables e below (T1.setTop (mkF m 4 #[.val (.int (0 : Int32))] [(.ref w0), (.int (0 : Int32))])) _
    refine X1.arraylength hx (by rw [e1]; exact A0.1) (State.isArrayOf_alike hZ.alike A0.2.1) (g := (mkF m 4 #[.val (.int (0 : Int32))] [(.ref w0), (.int (0 : Int32))])) rfl rfl (hb hby d_prog_3_method_31_code_4) _ ?_
    rw [Ln]
    show Steps p.tables e below (T1.setTop (mkF m 5 #[.val (.int (0 : Int32))] [(.int (19 : Int32)), (.int (0 : Int32))])) _
    refine XS.icmpYes X1.here hx rfl (pc0 := 5) (pc' := 22) rfl (hb hby d_prog_3_method_31_code_5) rfl (by decide) (by decide) (by decide) ?_
    show Steps p.tables e below (T1.setTop (mkF m 22 #[.val (.int (0 : Int32))] [])) _
    refine st2 _ ?_
    show Steps p.tables e below (T2.setTop (mkF m 25 #[.val (.int (0 : Int32))] [(.ref w0)])) _
    refine XS.iloadN X2.here hx rfl (hb hby d_prog_3_method_31_code_25) rfl ?_
    show Steps p.tables e below (T2.setTop (mkF m 26 #[.val (.int (0 : Int32))] [(.int (0 : Int32)), (.ref w0)])) _
    refine X2.laload hx (j := (0 : Int32)) (v := (.long (1 : Int64))) (by rw [e2]; exact A0.1) (State.isArrayOf_alike hZ.alike A0.2.1) A0.2.2 D0.1 D0.2 (g := (mkF m 26 #[.val (.int (0 : Int32))] [(.int (0 : Int32)), (.ref w0)])) rfl rfl (hb hby d_prog_3_method_31_code_26) _ ?_
    show Steps p.tables e below (T2.setTop (mkF m 27 #[.val (.int (0 : Int32))] [(.long (1 : Int64))])) _
    exact X2.lreturnOut hx Bd.returns (hb hby d_prog_3_method_31_code_27) hr
  · show own_Q (some (.long (1 : Int64))) h0 n0 _ T2.heap _
    rw [e2]
    exact ⟨rfl, N0, rfl⟩
set_option maxRecDepth 65536 in
set_option maxHeartbeats 40000000 in
theorem own_pow_1 (l : Launch) (Z : State) (a0 : Array Value) (hw : ∀ d ∈ tables_1, d.before a0 Z = true) (ws : List Jvm.Cond) (w0 : Addr) (cl : Cell) (h0 : Heap) (n0 : Nat) (Z0 : n0 ≤ h0.size) (P : own_P Z h0 w0 cl) :
    MetFree l (⟨"com/example/tranchor/tranchor/Fraction", "powerOfTen", "(I)J"⟩ : MethodName) (head1 (Jvm.Cond.code (⟨"com/example/tranchor/tranchor/Fraction", "powerOfTen", "(I)J"⟩ : MethodName) prog_3_method_31_code 1 (some .long) :: ws) ({ frames := 0, cells := 0, slots := 0, locals := 0 } : Room)) (fun a U => a = #[(.int (1 : Int32))] ∧ Z.Warmed39 U.vm ∧ U.heap = h0) (fun _ _ _ _ _ => True) (fun _ U o U' => ∃ v L, o = .returned v ∧ own_Q (some (.long (10 : Int64))) h0 n0 v U'.heap L ∧ FrameEnd U o U' L ({ frames := 0, cells := 0, slots := 0, locals := 0 } : Room).cells ({ frames := 0, cells := 0, slots := 0, locals := 0 } : Room).slots) := by
  refine MetFree.of_bodySF (plainFor_of_name pn_com_example_tranchor_tranchor_Fraction) hisR ?_
  intro p e s m args below meth c s₁ Bd hml0 hP hK
  obtain ⟨rfl, hZ, hh⟩ := hP
  have hx := Bd.exec
  have hby := Bd.bytes
  have hml : c.maxLocals = 1 := hml0
  have hown : s.vm.findClass "com/example/tranchor/tranchor/Fraction" = some m.cls := findClass_of_methodNamed Bd.named
  have hnm := (name_of_methodNamed Bd.named Bd.method).1
  have X0 : Stand p l e ({ frames := 0, cells := 0, slots := 0, locals := 0 } : Room) s m #[(.int (1 : Int32))] below meth c s₁ [] 0 0 := Stand.of_body Bd
  have e0 : s₁.heap = h0 := by rw [← hh, Bd.state]; rfl
  have N0 := Fr.nil n0
  have pre0 : ∀ t, Steps p.tables e below (s₁.setTop (mkF m 0 #[.val (.int (1 : Int32))] [])) t → Steps p.tables e below (s₁.setTop (entryFrame m #[(.int (1 : Int32))] 1)) t := fun t k => castTop (ef_prog_3_method_31_code_I m (1 : Int32)) k
  have P0 := P; obtain ⟨S0, A0, Ln, D0, D1, D2, D3, D4, D5, D6, D7, D8, D9, D10, D11, D12, D13, D14, D15, D16, D17, D18⟩ := P0
  obtain ⟨T3, X3, e3, st3⟩ := getS2 X0 hx hZ hown (host := "") (Or.inl (hw _ (List.mem_of_getElem? (i := 5) rfl))) Via.refl e0 S0 (g := (mkF m 1 #[.val (.int (1 : Int32))] [(.int (1 : Int32))])) rfl (hb hby d_prog_3_method_31_code_1)
  obtain ⟨T4, X4, e4, st4⟩ := getS2 X3 hx hZ hown (host := "") (Or.inl (hw _ (List.mem_of_getElem? (i := 5) rfl))) Via.refl e3 S0 (g := (mkF m 22 #[.val (.int (1 : Int32))] [])) rfl (hb hby d_prog_3_method_31_code_22)
  obtain ⟨fs, hr, hrun, hended, hW, hsame⟩ := X4.leave (v := some (.long (10 : Int64))) (fun h => by rw [Bd.returns] at h; cases h)
  refine ⟨_, _, pre0 _ ?_, hrun, hended, _, _, rfl, ?_, ⟨_, rfl⟩, hW, hsame.mono (by decide) (by decide)⟩
  · show Steps p.tables e below (s₁.setTop (mkF m 0 #[.val (.int (1 : Int32))] [])) _
    refine XS.iloadN X0.here hx rfl (hb hby d_prog_3_method_31_code_0) rfl ?_
    show Steps p.tables e below (s₁.setTop (mkF m 1 #[.val (.int (1 : Int32))] [(.int (1 : Int32))])) _
    refine st3 _ ?_
    show Steps p.tables e below (T3.setTop (mkF m 4 #[.val (.int (1 : Int32))] [(.ref w0), (.int (1 : Int32))])) _
    refine X3.arraylength hx (by rw [e3]; exact A0.1) (State.isArrayOf_alike hZ.alike A0.2.1) (g := (mkF m 4 #[.val (.int (1 : Int32))] [(.ref w0), (.int (1 : Int32))])) rfl rfl (hb hby d_prog_3_method_31_code_4) _ ?_
    rw [Ln]
    show Steps p.tables e below (T3.setTop (mkF m 5 #[.val (.int (1 : Int32))] [(.int (19 : Int32)), (.int (1 : Int32))])) _
    refine XS.icmpYes X3.here hx rfl (pc0 := 5) (pc' := 22) rfl (hb hby d_prog_3_method_31_code_5) rfl (by decide) (by decide) (by decide) ?_
    show Steps p.tables e below (T3.setTop (mkF m 22 #[.val (.int (1 : Int32))] [])) _
    refine st4 _ ?_
    show Steps p.tables e below (T4.setTop (mkF m 25 #[.val (.int (1 : Int32))] [(.ref w0)])) _
    refine XS.iloadN X4.here hx rfl (hb hby d_prog_3_method_31_code_25) rfl ?_
    show Steps p.tables e below (T4.setTop (mkF m 26 #[.val (.int (1 : Int32))] [(.int (1 : Int32)), (.ref w0)])) _
    refine X4.laload hx (j := (1 : Int32)) (v := (.long (10 : Int64))) (by rw [e4]; exact A0.1) (State.isArrayOf_alike hZ.alike A0.2.1) A0.2.2 D1.1 D1.2 (g := (mkF m 26 #[.val (.int (1 : Int32))] [(.int (1 : Int32)), (.ref w0)])) rfl rfl (hb hby d_prog_3_method_31_code_26) _ ?_
    show Steps p.tables e below (T4.setTop (mkF m 27 #[.val (.int (1 : Int32))] [(.long (10 : Int64))])) _
    exact X4.lreturnOut hx Bd.returns (hb hby d_prog_3_method_31_code_27) hr
  · show own_Q (some (.long (10 : Int64))) h0 n0 _ T4.heap _
    rw [e4]
    exact ⟨rfl, N0, rfl⟩
set_option maxRecDepth 65536 in
set_option maxHeartbeats 40000000 in
theorem own_pow_2 (l : Launch) (Z : State) (a0 : Array Value) (hw : ∀ d ∈ tables_1, d.before a0 Z = true) (ws : List Jvm.Cond) (w0 : Addr) (cl : Cell) (h0 : Heap) (n0 : Nat) (Z0 : n0 ≤ h0.size) (P : own_P Z h0 w0 cl) :
    MetFree l (⟨"com/example/tranchor/tranchor/Fraction", "powerOfTen", "(I)J"⟩ : MethodName) (head1 (Jvm.Cond.code (⟨"com/example/tranchor/tranchor/Fraction", "powerOfTen", "(I)J"⟩ : MethodName) prog_3_method_31_code 1 (some .long) :: ws) ({ frames := 0, cells := 0, slots := 0, locals := 0 } : Room)) (fun a U => a = #[(.int (2 : Int32))] ∧ Z.Warmed39 U.vm ∧ U.heap = h0) (fun _ _ _ _ _ => True) (fun _ U o U' => ∃ v L, o = .returned v ∧ own_Q (some (.long (100 : Int64))) h0 n0 v U'.heap L ∧ FrameEnd U o U' L ({ frames := 0, cells := 0, slots := 0, locals := 0 } : Room).cells ({ frames := 0, cells := 0, slots := 0, locals := 0 } : Room).slots) := by
  refine MetFree.of_bodySF (plainFor_of_name pn_com_example_tranchor_tranchor_Fraction) hisR ?_
  intro p e s m args below meth c s₁ Bd hml0 hP hK
  obtain ⟨rfl, hZ, hh⟩ := hP
  have hx := Bd.exec
  have hby := Bd.bytes
  have hml : c.maxLocals = 1 := hml0
  have hown : s.vm.findClass "com/example/tranchor/tranchor/Fraction" = some m.cls := findClass_of_methodNamed Bd.named
  have hnm := (name_of_methodNamed Bd.named Bd.method).1
  have X0 : Stand p l e ({ frames := 0, cells := 0, slots := 0, locals := 0 } : Room) s m #[(.int (2 : Int32))] below meth c s₁ [] 0 0 := Stand.of_body Bd
  have e0 : s₁.heap = h0 := by rw [← hh, Bd.state]; rfl
  have N0 := Fr.nil n0
  have pre0 : ∀ t, Steps p.tables e below (s₁.setTop (mkF m 0 #[.val (.int (2 : Int32))] [])) t → Steps p.tables e below (s₁.setTop (entryFrame m #[(.int (2 : Int32))] 1)) t := fun t k => castTop (ef_prog_3_method_31_code_I m (2 : Int32)) k
  have P0 := P; obtain ⟨S0, A0, Ln, D0, D1, D2, D3, D4, D5, D6, D7, D8, D9, D10, D11, D12, D13, D14, D15, D16, D17, D18⟩ := P0
  obtain ⟨T5, X5, e5, st5⟩ := getS2 X0 hx hZ hown (host := "") (Or.inl (hw _ (List.mem_of_getElem? (i := 5) rfl))) Via.refl e0 S0 (g := (mkF m 1 #[.val (.int (2 : Int32))] [(.int (2 : Int32))])) rfl (hb hby d_prog_3_method_31_code_1)
  obtain ⟨T6, X6, e6, st6⟩ := getS2 X5 hx hZ hown (host := "") (Or.inl (hw _ (List.mem_of_getElem? (i := 5) rfl))) Via.refl e5 S0 (g := (mkF m 22 #[.val (.int (2 : Int32))] [])) rfl (hb hby d_prog_3_method_31_code_22)
  obtain ⟨fs, hr, hrun, hended, hW, hsame⟩ := X6.leave (v := some (.long (100 : Int64))) (fun h => by rw [Bd.returns] at h; cases h)
  refine ⟨_, _, pre0 _ ?_, hrun, hended, _, _, rfl, ?_, ⟨_, rfl⟩, hW, hsame.mono (by decide) (by decide)⟩
  · show Steps p.tables e below (s₁.setTop (mkF m 0 #[.val (.int (2 : Int32))] [])) _
    refine XS.iloadN X0.here hx rfl (hb hby d_prog_3_method_31_code_0) rfl ?_
    show Steps p.tables e below (s₁.setTop (mkF m 1 #[.val (.int (2 : Int32))] [(.int (2 : Int32))])) _
    refine st5 _ ?_
    show Steps p.tables e below (T5.setTop (mkF m 4 #[.val (.int (2 : Int32))] [(.ref w0), (.int (2 : Int32))])) _
    refine X5.arraylength hx (by rw [e5]; exact A0.1) (State.isArrayOf_alike hZ.alike A0.2.1) (g := (mkF m 4 #[.val (.int (2 : Int32))] [(.ref w0), (.int (2 : Int32))])) rfl rfl (hb hby d_prog_3_method_31_code_4) _ ?_
    rw [Ln]
    show Steps p.tables e below (T5.setTop (mkF m 5 #[.val (.int (2 : Int32))] [(.int (19 : Int32)), (.int (2 : Int32))])) _
    refine XS.icmpYes X5.here hx rfl (pc0 := 5) (pc' := 22) rfl (hb hby d_prog_3_method_31_code_5) rfl (by decide) (by decide) (by decide) ?_
    show Steps p.tables e below (T5.setTop (mkF m 22 #[.val (.int (2 : Int32))] [])) _
    refine st6 _ ?_
    show Steps p.tables e below (T6.setTop (mkF m 25 #[.val (.int (2 : Int32))] [(.ref w0)])) _
    refine XS.iloadN X6.here hx rfl (hb hby d_prog_3_method_31_code_25) rfl ?_
    show Steps p.tables e below (T6.setTop (mkF m 26 #[.val (.int (2 : Int32))] [(.int (2 : Int32)), (.ref w0)])) _
    refine X6.laload hx (j := (2 : Int32)) (v := (.long (100 : Int64))) (by rw [e6]; exact A0.1) (State.isArrayOf_alike hZ.alike A0.2.1) A0.2.2 D2.1 D2.2 (g := (mkF m 26 #[.val (.int (2 : Int32))] [(.int (2 : Int32)), (.ref w0)])) rfl rfl (hb hby d_prog_3_method_31_code_26) _ ?_
    show Steps p.tables e below (T6.setTop (mkF m 27 #[.val (.int (2 : Int32))] [(.long (100 : Int64))])) _
    exact X6.lreturnOut hx Bd.returns (hb hby d_prog_3_method_31_code_27) hr
  · show own_Q (some (.long (100 : Int64))) h0 n0 _ T6.heap _
    rw [e6]
    exact ⟨rfl, N0, rfl⟩
set_option maxRecDepth 65536 in
set_option maxHeartbeats 40000000 in
theorem own_pow_3 (l : Launch) (Z : State) (a0 : Array Value) (hw : ∀ d ∈ tables_1, d.before a0 Z = true) (ws : List Jvm.Cond) (w0 : Addr) (cl : Cell) (h0 : Heap) (n0 : Nat) (Z0 : n0 ≤ h0.size) (P : own_P Z h0 w0 cl) :
    MetFree l (⟨"com/example/tranchor/tranchor/Fraction", "powerOfTen", "(I)J"⟩ : MethodName) (head1 (Jvm.Cond.code (⟨"com/example/tranchor/tranchor/Fraction", "powerOfTen", "(I)J"⟩ : MethodName) prog_3_method_31_code 1 (some .long) :: ws) ({ frames := 0, cells := 0, slots := 0, locals := 0 } : Room)) (fun a U => a = #[(.int (3 : Int32))] ∧ Z.Warmed39 U.vm ∧ U.heap = h0) (fun _ _ _ _ _ => True) (fun _ U o U' => ∃ v L, o = .returned v ∧ own_Q (some (.long (1000 : Int64))) h0 n0 v U'.heap L ∧ FrameEnd U o U' L ({ frames := 0, cells := 0, slots := 0, locals := 0 } : Room).cells ({ frames := 0, cells := 0, slots := 0, locals := 0 } : Room).slots) := by
  refine MetFree.of_bodySF (plainFor_of_name pn_com_example_tranchor_tranchor_Fraction) hisR ?_
  intro p e s m args below meth c s₁ Bd hml0 hP hK
  obtain ⟨rfl, hZ, hh⟩ := hP
  have hx := Bd.exec
  have hby := Bd.bytes
  have hml : c.maxLocals = 1 := hml0
  have hown : s.vm.findClass "com/example/tranchor/tranchor/Fraction" = some m.cls := findClass_of_methodNamed Bd.named
  have hnm := (name_of_methodNamed Bd.named Bd.method).1
  have X0 : Stand p l e ({ frames := 0, cells := 0, slots := 0, locals := 0 } : Room) s m #[(.int (3 : Int32))] below meth c s₁ [] 0 0 := Stand.of_body Bd
  have e0 : s₁.heap = h0 := by rw [← hh, Bd.state]; rfl
  have N0 := Fr.nil n0
  have pre0 : ∀ t, Steps p.tables e below (s₁.setTop (mkF m 0 #[.val (.int (3 : Int32))] [])) t → Steps p.tables e below (s₁.setTop (entryFrame m #[(.int (3 : Int32))] 1)) t := fun t k => castTop (ef_prog_3_method_31_code_I m (3 : Int32)) k
  have P0 := P; obtain ⟨S0, A0, Ln, D0, D1, D2, D3, D4, D5, D6, D7, D8, D9, D10, D11, D12, D13, D14, D15, D16, D17, D18⟩ := P0
  obtain ⟨T7, X7, e7, st7⟩ := getS2 X0 hx hZ hown (host := "") (Or.inl (hw _ (List.mem_of_getElem? (i := 5) rfl))) Via.refl e0 S0 (g := (mkF m 1 #[.val (.int (3 : Int32))] [(.int (3 : Int32))])) rfl (hb hby d_prog_3_method_31_code_1)
  obtain ⟨T8, X8, e8, st8⟩ := getS2 X7 hx hZ hown (host := "") (Or.inl (hw _ (List.mem_of_getElem? (i := 5) rfl))) Via.refl e7 S0 (g := (mkF m 22 #[.val (.int (3 : Int32))] [])) rfl (hb hby d_prog_3_method_31_code_22)
  obtain ⟨fs, hr, hrun, hended, hW, hsame⟩ := X8.leave (v := some (.long (1000 : Int64))) (fun h => by rw [Bd.returns] at h; cases h)
  refine ⟨_, _, pre0 _ ?_, hrun, hended, _, _, rfl, ?_, ⟨_, rfl⟩, hW, hsame.mono (by decide) (by decide)⟩
  · show Steps p.tables e below (s₁.setTop (mkF m 0 #[.val (.int (3 : Int32))] [])) _
    refine XS.iloadN X0.here hx rfl (hb hby d_prog_3_method_31_code_0) rfl ?_
    show Steps p.tables e below (s₁.setTop (mkF m 1 #[.val (.int (3 : Int32))] [(.int (3 : Int32))])) _
    refine st7 _ ?_
    show Steps p.tables e below (T7.setTop (mkF m 4 #[.val (.int (3 : Int32))] [(.ref w0), (.int (3 : Int32))])) _
    refine X7.arraylength hx (by rw [e7]; exact A0.1) (State.isArrayOf_alike hZ.alike A0.2.1) (g := (mkF m 4 #[.val (.int (3 : Int32))] [(.ref w0), (.int (3 : Int32))])) rfl rfl (hb hby d_prog_3_method_31_code_4) _ ?_
    rw [Ln]
    show Steps p.tables e below (T7.setTop (mkF m 5 #[.val (.int (3 : Int32))] [(.int (19 : Int32)), (.int (3 : Int32))])) _
    refine XS.icmpYes X7.here hx rfl (pc0 := 5) (pc' := 22) rfl (hb hby d_prog_3_method_31_code_5) rfl (by decide) (by decide) (by decide) ?_
    show Steps p.tables e below (T7.setTop (mkF m 22 #[.val (.int (3 : Int32))] [])) _
    refine st8 _ ?_
    show Steps p.tables e below (T8.setTop (mkF m 25 #[.val (.int (3 : Int32))] [(.ref w0)])) _
    refine XS.iloadN X8.here hx rfl (hb hby d_prog_3_method_31_code_25) rfl ?_
    show Steps p.tables e below (T8.setTop (mkF m 26 #[.val (.int (3 : Int32))] [(.int (3 : Int32)), (.ref w0)])) _
    refine X8.laload hx (j := (3 : Int32)) (v := (.long (1000 : Int64))) (by rw [e8]; exact A0.1) (State.isArrayOf_alike hZ.alike A0.2.1) A0.2.2 D3.1 D3.2 (g := (mkF m 26 #[.val (.int (3 : Int32))] [(.int (3 : Int32)), (.ref w0)])) rfl rfl (hb hby d_prog_3_method_31_code_26) _ ?_
    show Steps p.tables e below (T8.setTop (mkF m 27 #[.val (.int (3 : Int32))] [(.long (1000 : Int64))])) _
    exact X8.lreturnOut hx Bd.returns (hb hby d_prog_3_method_31_code_27) hr
  · show own_Q (some (.long (1000 : Int64))) h0 n0 _ T8.heap _
    rw [e8]
    exact ⟨rfl, N0, rfl⟩
set_option maxRecDepth 65536 in
set_option maxHeartbeats 40000000 in
theorem own_pow_4 (l : Launch) (Z : State) (a0 : Array Value) (hw : ∀ d ∈ tables_1, d.before a0 Z = true) (ws : List Jvm.Cond) (w0 : Addr) (cl : Cell) (h0 : Heap) (n0 : Nat) (Z0 : n0 ≤ h0.size) (P : own_P Z h0 w0 cl) :
    MetFree l (⟨"com/example/tranchor/tranchor/Fraction", "powerOfTen", "(I)J"⟩ : MethodName) (head1 (Jvm.Cond.code (⟨"com/example/tranchor/tranchor/Fraction", "powerOfTen", "(I)J"⟩ : MethodName) prog_3_method_31_code 1 (some .long) :: ws) ({ frames := 0, cells := 0, slots := 0, locals := 0 } : Room)) (fun a U => a = #[(.int (4 : Int32))] ∧ Z.Warmed39 U.vm ∧ U.heap = h0) (fun _ _ _ _ _ => True) (fun _ U o U' => ∃ v L, o = .returned v ∧ own_Q (some (.long (10000 : Int64))) h0 n0 v U'.heap L ∧ FrameEnd U o U' L ({ frames := 0, cells := 0, slots := 0, locals := 0 } : Room).cells ({ frames := 0, cells := 0, slots := 0, locals := 0 } : Room).slots) := by
  refine MetFree.of_bodySF (plainFor_of_name pn_com_example_tranchor_tranchor_Fraction) hisR ?_
  intro p e s m args below meth c s₁ Bd hml0 hP hK
  obtain ⟨rfl, hZ, hh⟩ := hP
  have hx := Bd.exec
  have hby := Bd.bytes
  have hml : c.maxLocals = 1 := hml0
  have hown : s.vm.findClass "com/example/tranchor/tranchor/Fraction" = some m.cls := findClass_of_methodNamed Bd.named
  have hnm := (name_of_methodNamed Bd.named Bd.method).1
  have X0 : Stand p l e ({ frames := 0, cells := 0, slots := 0, locals := 0 } : Room) s m #[(.int (4 : Int32))] below meth c s₁ [] 0 0 := Stand.of_body Bd
  have e0 : s₁.heap = h0 := by rw [← hh, Bd.state]; rfl
  have N0 := Fr.nil n0
  have pre0 : ∀ t, Steps p.tables e below (s₁.setTop (mkF m 0 #[.val (.int (4 : Int32))] [])) t → Steps p.tables e below (s₁.setTop (entryFrame m #[(.int (4 : Int32))] 1)) t := fun t k => castTop (ef_prog_3_method_31_code_I m (4 : Int32)) k
  have P0 := P; obtain ⟨S0, A0, Ln, D0, D1, D2, D3, D4, D5, D6, D7, D8, D9, D10, D11, D12, D13, D14, D15, D16, D17, D18⟩ := P0
  obtain ⟨T9, X9, e9, st9⟩ := getS2 X0 hx hZ hown (host := "") (Or.inl (hw _ (List.mem_of_getElem? (i := 5) rfl))) Via.refl e0 S0 (g := (mkF m 1 #[.val (.int (4 : Int32))] [(.int (4 : Int32))])) rfl (hb hby d_prog_3_method_31_code_1)
  obtain ⟨T10, X10, e10, st10⟩ := getS2 X9 hx hZ hown (host := "") (Or.inl (hw _ (List.mem_of_getElem? (i := 5) rfl))) Via.refl e9 S0 (g := (mkF m 22 #[.val (.int (4 : Int32))] [])) rfl (hb hby d_prog_3_method_31_code_22)
  obtain ⟨fs, hr, hrun, hended, hW, hsame⟩ := X10.leave (v := some (.long (10000 : Int64))) (fun h => by rw [Bd.returns] at h; cases h)
  refine ⟨_, _, pre0 _ ?_, hrun, hended, _, _, rfl, ?_, ⟨_, rfl⟩, hW, hsame.mono (by decide) (by decide)⟩
  · show Steps p.tables e below (s₁.setTop (mkF m 0 #[.val (.int (4 : Int32))] [])) _
    refine XS.iloadN X0.here hx rfl (hb hby d_prog_3_method_31_code_0) rfl ?_
    show Steps p.tables e below (s₁.setTop (mkF m 1 #[.val (.int (4 : Int32))] [(.int (4 : Int32))])) _
    refine st9 _ ?_
    show Steps p.tables e below (T9.setTop (mkF m 4 #[.val (.int (4 : Int32))] [(.ref w0), (.int (4 : Int32))])) _
    refine X9.arraylength hx (by rw [e9]; exact A0.1) (State.isArrayOf_alike hZ.alike A0.2.1) (g := (mkF m 4 #[.val (.int (4 : Int32))] [(.ref w0), (.int (4 : Int32))])) rfl rfl (hb hby d_prog_3_method_31_code_4) _ ?_
    rw [Ln]
    show Steps p.tables e below (T9.setTop (mkF m 5 #[.val (.int (4 : Int32))] [(.int (19 : Int32)), (.int (4 : Int32))])) _
    refine XS.icmpYes X9.here hx rfl (pc0 := 5) (pc' := 22) rfl (hb hby d_prog_3_method_31_code_5) rfl (by decide) (by decide) (by decide) ?_
    show Steps p.tables e below (T9.setTop (mkF m 22 #[.val (.int (4 : Int32))] [])) _
    refine st10 _ ?_
    show Steps p.tables e below (T10.setTop (mkF m 25 #[.val (.int (4 : Int32))] [(.ref w0)])) _
    refine XS.iloadN X10.here hx rfl (hb hby d_prog_3_method_31_code_25) rfl ?_
    show Steps p.tables e below (T10.setTop (mkF m 26 #[.val (.int (4 : Int32))] [(.int (4 : Int32)), (.ref w0)])) _
    refine X10.laload hx (j := (4 : Int32)) (v := (.long (10000 : Int64))) (by rw [e10]; exact A0.1) (State.isArrayOf_alike hZ.alike A0.2.1) A0.2.2 D4.1 D4.2 (g := (mkF m 26 #[.val (.int (4 : Int32))] [(.int (4 : Int32)), (.ref w0)])) rfl rfl (hb hby d_prog_3_method_31_code_26) _ ?_
    show Steps p.tables e below (T10.setTop (mkF m 27 #[.val (.int (4 : Int32))] [(.long (10000 : Int64))])) _
    exact X10.lreturnOut hx Bd.returns (hb hby d_prog_3_method_31_code_27) hr
  · show own_Q (some (.long (10000 : Int64))) h0 n0 _ T10.heap _
    rw [e10]
    exact ⟨rfl, N0, rfl⟩
set_option maxRecDepth 65536 in
set_option maxHeartbeats 40000000 in
theorem own_pow_5 (l : Launch) (Z : State) (a0 : Array Value) (hw : ∀ d ∈ tables_1, d.before a0 Z = true) (ws : List Jvm.Cond) (w0 : Addr) (cl : Cell) (h0 : Heap) (n0 : Nat) (Z0 : n0 ≤ h0.size) (P : own_P Z h0 w0 cl) :
    MetFree l (⟨"com/example/tranchor/tranchor/Fraction", "powerOfTen", "(I)J"⟩ : MethodName) (head1 (Jvm.Cond.code (⟨"com/example/tranchor/tranchor/Fraction", "powerOfTen", "(I)J"⟩ : MethodName) prog_3_method_31_code 1 (some .long) :: ws) ({ frames := 0, cells := 0, slots := 0, locals := 0 } : Room)) (fun a U => a = #[(.int (5 : Int32))] ∧ Z.Warmed39 U.vm ∧ U.heap = h0) (fun _ _ _ _ _ => True) (fun _ U o U' => ∃ v L, o = .returned v ∧ own_Q (some (.long (100000 : Int64))) h0 n0 v U'.heap L ∧ FrameEnd U o U' L ({ frames := 0, cells := 0, slots := 0, locals := 0 } : Room).cells ({ frames := 0, cells := 0, slots := 0, locals := 0 } : Room).slots) := by
  refine MetFree.of_bodySF (plainFor_of_name pn_com_example_tranchor_tranchor_Fraction) hisR ?_
  intro p e s m args below meth c s₁ Bd hml0 hP hK
  obtain ⟨rfl, hZ, hh⟩ := hP
  have hx := Bd.exec
  have hby := Bd.bytes
  have hml : c.maxLocals = 1 := hml0
  have hown : s.vm.findClass "com/example/tranchor/tranchor/Fraction" = some m.cls := findClass_of_methodNamed Bd.named
  have hnm := (name_of_methodNamed Bd.named Bd.method).1
  have X0 : Stand p l e ({ frames := 0, cells := 0, slots := 0, locals := 0 } : Room) s m #[(.int (5 : Int32))] below meth c s₁ [] 0 0 := Stand.of_body Bd
  have e0 : s₁.heap = h0 := by rw [← hh, Bd.state]; rfl
  have N0 := Fr.nil n0
  have pre0 : ∀ t, Steps p.tables e below (s₁.setTop (mkF m 0 #[.val (.int (5 : Int32))] [])) t → Steps p.tables e below (s₁.setTop (entryFrame m #[(.int (5 : Int32))] 1)) t := fun t k => castTop (ef_prog_3_method_31_code_I m (5 : Int32)) k
  have P0 := P; obtain ⟨S0, A0, Ln, D0, D1, D2, D3, D4, D5, D6, D7, D8, D9, D10, D11, D12, D13, D14, D15, D16, D17, D18⟩ := P0
  obtain ⟨T11, X11, e11, st11⟩ := getS2 X0 hx hZ hown (host := "") (Or.inl (hw _ (List.mem_of_getElem? (i := 5) rfl))) Via.refl e0 S0 (g := (mkF m 1 #[.val (.int (5 : Int32))] [(.int (5 : Int32))])) rfl (hb hby d_prog_3_method_31_code_1)
  obtain ⟨T12, X12, e12, st12⟩ := getS2 X11 hx hZ hown (host := "") (Or.inl (hw _ (List.mem_of_getElem? (i := 5) rfl))) Via.refl e11 S0 (g := (mkF m 22 #[.val (.int (5 : Int32))] [])) rfl (hb hby d_prog_3_method_31_code_22)
  obtain ⟨fs, hr, hrun, hended, hW, hsame⟩ := X12.leave (v := some (.long (100000 : Int64))) (fun h => by rw [Bd.returns] at h; cases h)
  refine ⟨_, _, pre0 _ ?_, hrun, hended, _, _, rfl, ?_, ⟨_, rfl⟩, hW, hsame.mono (by decide) (by decide)⟩
  · show Steps p.tables e below (s₁.setTop (mkF m 0 #[.val (.int (5 : Int32))] [])) _
    refine XS.iloadN X0.here hx rfl (hb hby d_prog_3_method_31_code_0) rfl ?_
    show Steps p.tables e below (s₁.setTop (mkF m 1 #[.val (.int (5 : Int32))] [(.int (5 : Int32))])) _
    refine st11 _ ?_
    show Steps p.tables e below (T11.setTop (mkF m 4 #[.val (.int (5 : Int32))] [(.ref w0), (.int (5 : Int32))])) _
    refine X11.arraylength hx (by rw [e11]; exact A0.1) (State.isArrayOf_alike hZ.alike A0.2.1) (g := (mkF m 4 #[.val (.int (5 : Int32))] [(.ref w0), (.int (5 : Int32))])) rfl rfl (hb hby d_prog_3_method_31_code_4) _ ?_
    rw [Ln]
    show Steps p.tables e below (T11.setTop (mkF m 5 #[.val (.int (5 : Int32))] [(.int (19 : Int32)), (.int (5 : Int32))])) _
    refine XS.icmpYes X11.here hx rfl (pc0 := 5) (pc' := 22) rfl (hb hby d_prog_3_method_31_code_5) rfl (by decide) (by decide) (by decide) ?_
    show Steps p.tables e below (T11.setTop (mkF m 22 #[.val (.int (5 : Int32))] [])) _
    refine st12 _ ?_
    show Steps p.tables e below (T12.setTop (mkF m 25 #[.val (.int (5 : Int32))] [(.ref w0)])) _
    refine XS.iloadN X12.here hx rfl (hb hby d_prog_3_method_31_code_25) rfl ?_
    show Steps p.tables e below (T12.setTop (mkF m 26 #[.val (.int (5 : Int32))] [(.int (5 : Int32)), (.ref w0)])) _
    refine X12.laload hx (j := (5 : Int32)) (v := (.long (100000 : Int64))) (by rw [e12]; exact A0.1) (State.isArrayOf_alike hZ.alike A0.2.1) A0.2.2 D5.1 D5.2 (g := (mkF m 26 #[.val (.int (5 : Int32))] [(.int (5 : Int32)), (.ref w0)])) rfl rfl (hb hby d_prog_3_method_31_code_26) _ ?_
    show Steps p.tables e below (T12.setTop (mkF m 27 #[.val (.int (5 : Int32))] [(.long (100000 : Int64))])) _
    exact X12.lreturnOut hx Bd.returns (hb hby d_prog_3_method_31_code_27) hr
  · show own_Q (some (.long (100000 : Int64))) h0 n0 _ T12.heap _
    rw [e12]
    exact ⟨rfl, N0, rfl⟩
set_option maxRecDepth 65536 in
set_option maxHeartbeats 40000000 in
theorem own_pow_6 (l : Launch) (Z : State) (a0 : Array Value) (hw : ∀ d ∈ tables_1, d.before a0 Z = true) (ws : List Jvm.Cond) (w0 : Addr) (cl : Cell) (h0 : Heap) (n0 : Nat) (Z0 : n0 ≤ h0.size) (P : own_P Z h0 w0 cl) :
    MetFree l (⟨"com/example/tranchor/tranchor/Fraction", "powerOfTen", "(I)J"⟩ : MethodName) (head1 (Jvm.Cond.code (⟨"com/example/tranchor/tranchor/Fraction", "powerOfTen", "(I)J"⟩ : MethodName) prog_3_method_31_code 1 (some .long) :: ws) ({ frames := 0, cells := 0, slots := 0, locals := 0 } : Room)) (fun a U => a = #[(.int (6 : Int32))] ∧ Z.Warmed39 U.vm ∧ U.heap = h0) (fun _ _ _ _ _ => True) (fun _ U o U' => ∃ v L, o = .returned v ∧ own_Q (some (.long (1000000 : Int64))) h0 n0 v U'.heap L ∧ FrameEnd U o U' L ({ frames := 0, cells := 0, slots := 0, locals := 0 } : Room).cells ({ frames := 0, cells := 0, slots := 0, locals := 0 } : Room).slots) := by
  refine MetFree.of_bodySF (plainFor_of_name pn_com_example_tranchor_tranchor_Fraction) hisR ?_
  intro p e s m args below meth c s₁ Bd hml0 hP hK
  obtain ⟨rfl, hZ, hh⟩ := hP
  have hx := Bd.exec
  have hby := Bd.bytes
  have hml : c.maxLocals = 1 := hml0
  have hown : s.vm.findClass "com/example/tranchor/tranchor/Fraction" = some m.cls := findClass_of_methodNamed Bd.named
  have hnm := (name_of_methodNamed Bd.named Bd.method).1
  have X0 : Stand p l e ({ frames := 0, cells := 0, slots := 0, locals := 0 } : Room) s m #[(.int (6 : Int32))] below meth c s₁ [] 0 0 := Stand.of_body Bd
  have e0 : s₁.heap = h0 := by rw [← hh, Bd.state]; rfl
  have N0 := Fr.nil n0
  have pre0 : ∀ t, Steps p.tables e below (s₁.setTop (mkF m 0 #[.val (.int (6 : Int32))] [])) t → Steps p.tables e below (s₁.setTop (entryFrame m #[(.int (6 : Int32))] 1)) t := fun t k => castTop (ef_prog_3_method_31_code_I m (6 : Int32)) k
  have P0 := P; obtain ⟨S0, A0, Ln, D0, D1, D2, D3, D4, D5, D6, D7, D8, D9, D10, D11, D12, D13, D14, D15, D16, D17, D18⟩ := P0
  obtain ⟨T13, X13, e13, st13⟩ := getS2 X0 hx hZ hown (host := "") (Or.inl (hw _ (List.mem_of_getElem? (i := 5) rfl))) Via.refl e0 S0 (g := (mkF m 1 #[.val (.int (6 : Int32))] [(.int (6 : Int32))])) rfl (hb hby d_prog_3_method_31_code_1)
  obtain ⟨T14, X14, e14, st14⟩ := getS2 X13 hx hZ hown (host := "") (Or.inl (hw _ (List.mem_of_getElem? (i := 5) rfl))) Via.refl e13 S0 (g := (mkF m 22 #[.val (.int (6 : Int32))] [])) rfl (hb hby d_prog_3_method_31_code_22)
  obtain ⟨fs, hr, hrun, hended, hW, hsame⟩ := X14.leave (v := some (.long (1000000 : Int64))) (fun h => by rw [Bd.returns] at h; cases h)
  refine ⟨_, _, pre0 _ ?_, hrun, hended, _, _, rfl, ?_, ⟨_, rfl⟩, hW, hsame.mono (by decide) (by decide)⟩
  · show Steps p.tables e below (s₁.setTop (mkF m 0 #[.val (.int (6 : Int32))] [])) _
    refine XS.iloadN X0.here hx rfl (hb hby d_prog_3_method_31_code_0) rfl ?_
    show Steps p.tables e below (s₁.setTop (mkF m 1 #[.val (.int (6 : Int32))] [(.int (6 : Int32))])) _
    refine st13 _ ?_
    show Steps p.tables e below (T13.setTop (mkF m 4 #[.val (.int (6 : Int32))] [(.ref w0), (.int (6 : Int32))])) _
    refine X13.arraylength hx (by rw [e13]; exact A0.1) (State.isArrayOf_alike hZ.alike A0.2.1) (g := (mkF m 4 #[.val (.int (6 : Int32))] [(.ref w0), (.int (6 : Int32))])) rfl rfl (hb hby d_prog_3_method_31_code_4) _ ?_
    rw [Ln]
    show Steps p.tables e below (T13.setTop (mkF m 5 #[.val (.int (6 : Int32))] [(.int (19 : Int32)), (.int (6 : Int32))])) _
    refine XS.icmpYes X13.here hx rfl (pc0 := 5) (pc' := 22) rfl (hb hby d_prog_3_method_31_code_5) rfl (by decide) (by decide) (by decide) ?_
    show Steps p.tables e below (T13.setTop (mkF m 22 #[.val (.int (6 : Int32))] [])) _
    refine st14 _ ?_
    show Steps p.tables e below (T14.setTop (mkF m 25 #[.val (.int (6 : Int32))] [(.ref w0)])) _
    refine XS.iloadN X14.here hx rfl (hb hby d_prog_3_method_31_code_25) rfl ?_
    show Steps p.tables e below (T14.setTop (mkF m 26 #[.val (.int (6 : Int32))] [(.int (6 : Int32)), (.ref w0)])) _
    refine X14.laload hx (j := (6 : Int32)) (v := (.long (1000000 : Int64))) (by rw [e14]; exact A0.1) (State.isArrayOf_alike hZ.alike A0.2.1) A0.2.2 D6.1 D6.2 (g := (mkF m 26 #[.val (.int (6 : Int32))] [(.int (6 : Int32)), (.ref w0)])) rfl rfl (hb hby d_prog_3_method_31_code_26) _ ?_
    show Steps p.tables e below (T14.setTop (mkF m 27 #[.val (.int (6 : Int32))] [(.long (1000000 : Int64))])) _
    exact X14.lreturnOut hx Bd.returns (hb hby d_prog_3_method_31_code_27) hr
  · show own_Q (some (.long (1000000 : Int64))) h0 n0 _ T14.heap _
    rw [e14]
    exact ⟨rfl, N0, rfl⟩
set_option maxRecDepth 65536 in
set_option maxHeartbeats 40000000 in
theorem own_pow_7 (l : Launch) (Z : State) (a0 : Array Value) (hw : ∀ d ∈ tables_1, d.before a0 Z = true) (ws : List Jvm.Cond) (w0 : Addr) (cl : Cell) (h0 : Heap) (n0 : Nat) (Z0 : n0 ≤ h0.size) (P : own_P Z h0 w0 cl) :
    MetFree l (⟨"com/example/tranchor/tranchor/Fraction", "powerOfTen", "(I)J"⟩ : MethodName) (head1 (Jvm.Cond.code (⟨"com/example/tranchor/tranchor/Fraction", "powerOfTen", "(I)J"⟩ : MethodName) prog_3_method_31_code 1 (some .long) :: ws) ({ frames := 0, cells := 0, slots := 0, locals := 0 } : Room)) (fun a U => a = #[(.int (7 : Int32))] ∧ Z.Warmed39 U.vm ∧ U.heap = h0) (fun _ _ _ _ _ => True) (fun _ U o U' => ∃ v L, o = .returned v ∧ own_Q (some (.long (10000000 : Int64))) h0 n0 v U'.heap L ∧ FrameEnd U o U' L ({ frames := 0, cells := 0, slots := 0, locals := 0 } : Room).cells ({ frames := 0, cells := 0, slots := 0, locals := 0 } : Room).slots) := by
  refine MetFree.of_bodySF (plainFor_of_name pn_com_example_tranchor_tranchor_Fraction) hisR ?_
  intro p e s m args below meth c s₁ Bd hml0 hP hK
  obtain ⟨rfl, hZ, hh⟩ := hP
  have hx := Bd.exec
  have hby := Bd.bytes
  have hml : c.maxLocals = 1 := hml0
  have hown : s.vm.findClass "com/example/tranchor/tranchor/Fraction" = some m.cls := findClass_of_methodNamed Bd.named
  have hnm := (name_of_methodNamed Bd.named Bd.method).1
  have X0 : Stand p l e ({ frames := 0, cells := 0, slots := 0, locals := 0 } : Room) s m #[(.int (7 : Int32))] below meth c s₁ [] 0 0 := Stand.of_body Bd
  have e0 : s₁.heap = h0 := by rw [← hh, Bd.state]; rfl
  have N0 := Fr.nil n0
  have pre0 : ∀ t, Steps p.tables e below (s₁.setTop (mkF m 0 #[.val (.int (7 : Int32))] [])) t → Steps p.tables e below (s₁.setTop (entryFrame m #[(.int (7 : Int32))] 1)) t := fun t k => castTop (ef_prog_3_method_31_code_I m (7 : Int32)) k
  have P0 := P; obtain ⟨S0, A0, Ln, D0, D1, D2, D3, D4, D5, D6, D7, D8, D9, D10, D11, D12, D13, D14, D15, D16, D17, D18⟩ := P0
  obtain ⟨T15, X15, e15, st15⟩ := getS2 X0 hx hZ hown (host := "") (Or.inl (hw _ (List.mem_of_getElem? (i := 5) rfl))) Via.refl e0 S0 (g := (mkF m 1 #[.val (.int (7 : Int32))] [(.int (7 : Int32))])) rfl (hb hby d_prog_3_method_31_code_1)
  obtain ⟨T16, X16, e16, st16⟩ := getS2 X15 hx hZ hown (host := "") (Or.inl (hw _ (List.mem_of_getElem? (i := 5) rfl))) Via.refl e15 S0 (g := (mkF m 22 #[.val (.int (7 : Int32))] [])) rfl (hb hby d_prog_3_method_31_code_22)
  obtain ⟨fs, hr, hrun, hended, hW, hsame⟩ := X16.leave (v := some (.long (10000000 : Int64))) (fun h => by rw [Bd.returns] at h; cases h)
  refine ⟨_, _, pre0 _ ?_, hrun, hended, _, _, rfl, ?_, ⟨_, rfl⟩, hW, hsame.mono (by decide) (by decide)⟩
  · show Steps p.tables e below (s₁.setTop (mkF m 0 #[.val (.int (7 : Int32))] [])) _
    refine XS.iloadN X0.here hx rfl (hb hby d_prog_3_method_31_code_0) rfl ?_
    show Steps p.tables e below (s₁.setTop (mkF m 1 #[.val (.int (7 : Int32))] [(.int (7 : Int32))])) _
    refine st15 _ ?_
    show Steps p.tables e below (T15.setTop (mkF m 4 #[.val (.int (7 : Int32))] [(.ref w0), (.int (7 : Int32))])) _
    refine X15.arraylength hx (by rw [e15]; exact A0.1) (State.isArrayOf_alike hZ.alike A0.2.1) (g := (mkF m 4 #[.val (.int (7 : Int32))] [(.ref w0), (.int (7 : Int32))])) rfl rfl (hb hby d_prog_3_method_31_code_4) _ ?_
    rw [Ln]
    show Steps p.tables e below (T15.setTop (mkF m 5 #[.val (.int (7 : Int32))] [(.int (19 : Int32)), (.int (7 : Int32))])) _
    refine XS.icmpYes X15.here hx rfl (pc0 := 5) (pc' := 22) rfl (hb hby d_prog_3_method_31_code_5) rfl (by decide) (by decide) (by decide) ?_
    show Steps p.tables e below (T15.setTop (mkF m 22 #[.val (.int (7 : Int32))] [])) _
    refine st16 _ ?_
    show Steps p.tables e below (T16.setTop (mkF m 25 #[.val (.int (7 : Int32))] [(.ref w0)])) _
    refine XS.iloadN X16.here hx rfl (hb hby d_prog_3_method_31_code_25) rfl ?_
    show Steps p.tables e below (T16.setTop (mkF m 26 #[.val (.int (7 : Int32))] [(.int (7 : Int32)), (.ref w0)])) _
    refine X16.laload hx (j := (7 : Int32)) (v := (.long (10000000 : Int64))) (by rw [e16]; exact A0.1) (State.isArrayOf_alike hZ.alike A0.2.1) A0.2.2 D7.1 D7.2 (g := (mkF m 26 #[.val (.int (7 : Int32))] [(.int (7 : Int32)), (.ref w0)])) rfl rfl (hb hby d_prog_3_method_31_code_26) _ ?_
    show Steps p.tables e below (T16.setTop (mkF m 27 #[.val (.int (7 : Int32))] [(.long (10000000 : Int64))])) _
    exact X16.lreturnOut hx Bd.returns (hb hby d_prog_3_method_31_code_27) hr
  · show own_Q (some (.long (10000000 : Int64))) h0 n0 _ T16.heap _
    rw [e16]
    exact ⟨rfl, N0, rfl⟩
set_option maxRecDepth 65536 in
set_option maxHeartbeats 40000000 in
theorem own_pow_8 (l : Launch) (Z : State) (a0 : Array Value) (hw : ∀ d ∈ tables_1, d.before a0 Z = true) (ws : List Jvm.Cond) (w0 : Addr) (cl : Cell) (h0 : Heap) (n0 : Nat) (Z0 : n0 ≤ h0.size) (P : own_P Z h0 w0 cl) :
    MetFree l (⟨"com/example/tranchor/tranchor/Fraction", "powerOfTen", "(I)J"⟩ : MethodName) (head1 (Jvm.Cond.code (⟨"com/example/tranchor/tranchor/Fraction", "powerOfTen", "(I)J"⟩ : MethodName) prog_3_method_31_code 1 (some .long) :: ws) ({ frames := 0, cells := 0, slots := 0, locals := 0 } : Room)) (fun a U => a = #[(.int (8 : Int32))] ∧ Z.Warmed39 U.vm ∧ U.heap = h0) (fun _ _ _ _ _ => True) (fun _ U o U' => ∃ v L, o = .returned v ∧ own_Q (some (.long (100000000 : Int64))) h0 n0 v U'.heap L ∧ FrameEnd U o U' L ({ frames := 0, cells := 0, slots := 0, locals := 0 } : Room).cells ({ frames := 0, cells := 0, slots := 0, locals := 0 } : Room).slots) := by
  refine MetFree.of_bodySF (plainFor_of_name pn_com_example_tranchor_tranchor_Fraction) hisR ?_
  intro p e s m args below meth c s₁ Bd hml0 hP hK
  obtain ⟨rfl, hZ, hh⟩ := hP
  have hx := Bd.exec
  have hby := Bd.bytes
  have hml : c.maxLocals = 1 := hml0
  have hown : s.vm.findClass "com/example/tranchor/tranchor/Fraction" = some m.cls := findClass_of_methodNamed Bd.named
  have hnm := (name_of_methodNamed Bd.named Bd.method).1
  have X0 : Stand p l e ({ frames := 0, cells := 0, slots := 0, locals := 0 } : Room) s m #[(.int (8 : Int32))] below meth c s₁ [] 0 0 := Stand.of_body Bd
  have e0 : s₁.heap = h0 := by rw [← hh, Bd.state]; rfl
  have N0 := Fr.nil n0
  have pre0 : ∀ t, Steps p.tables e below (s₁.setTop (mkF m 0 #[.val (.int (8 : Int32))] [])) t → Steps p.tables e below (s₁.setTop (entryFrame m #[(.int (8 : Int32))] 1)) t := fun t k => castTop (ef_prog_3_method_31_code_I m (8 : Int32)) k
  have P0 := P; obtain ⟨S0, A0, Ln, D0, D1, D2, D3, D4, D5, D6, D7, D8, D9, D10, D11, D12, D13, D14, D15, D16, D17, D18⟩ := P0
  obtain ⟨T17, X17, e17, st17⟩ := getS2 X0 hx hZ hown (host := "") (Or.inl (hw _ (List.mem_of_getElem? (i := 5) rfl))) Via.refl e0 S0 (g := (mkF m 1 #[.val (.int (8 : Int32))] [(.int (8 : Int32))])) rfl (hb hby d_prog_3_method_31_code_1)
  obtain ⟨T18, X18, e18, st18⟩ := getS2 X17 hx hZ hown (host := "") (Or.inl (hw _ (List.mem_of_getElem? (i := 5) rfl))) Via.refl e17 S0 (g := (mkF m 22 #[.val (.int (8 : Int32))] [])) rfl (hb hby d_prog_3_method_31_code_22)
  obtain ⟨fs, hr, hrun, hended, hW, hsame⟩ := X18.leave (v := some (.long (100000000 : Int64))) (fun h => by rw [Bd.returns] at h; cases h)
  refine ⟨_, _, pre0 _ ?_, hrun, hended, _, _, rfl, ?_, ⟨_, rfl⟩, hW, hsame.mono (by decide) (by decide)⟩
  · show Steps p.tables e below (s₁.setTop (mkF m 0 #[.val (.int (8 : Int32))] [])) _
    refine XS.iloadN X0.here hx rfl (hb hby d_prog_3_method_31_code_0) rfl ?_
    show Steps p.tables e below (s₁.setTop (mkF m 1 #[.val (.int (8 : Int32))] [(.int (8 : Int32))])) _
    refine st17 _ ?_
    show Steps p.tables e below (T17.setTop (mkF m 4 #[.val (.int (8 : Int32))] [(.ref w0), (.int (8 : Int32))])) _
    refine X17.arraylength hx (by rw [e17]; exact A0.1) (State.isArrayOf_alike hZ.alike A0.2.1) (g := (mkF m 4 #[.val (.int (8 : Int32))] [(.ref w0), (.int (8 : Int32))])) rfl rfl (hb hby d_prog_3_method_31_code_4) _ ?_
    rw [Ln]
    show Steps p.tables e below (T17.setTop (mkF m 5 #[.val (.int (8 : Int32))] [(.int (19 : Int32)), (.int (8 : Int32))])) _
    refine XS.icmpYes X17.here hx rfl (pc0 := 5) (pc' := 22) rfl (hb hby d_prog_3_method_31_code_5) rfl (by decide) (by decide) (by decide) ?_
    show Steps p.tables e below (T17.setTop (mkF m 22 #[.val (.int (8 : Int32))] [])) _
    refine st18 _ ?_
    show Steps p.tables e below (T18.setTop (mkF m 25 #[.val (.int (8 : Int32))] [(.ref w0)])) _
    refine XS.iloadN X18.here hx rfl (hb hby d_prog_3_method_31_code_25) rfl ?_
    show Steps p.tables e below (T18.setTop (mkF m 26 #[.val (.int (8 : Int32))] [(.int (8 : Int32)), (.ref w0)])) _
    refine X18.laload hx (j := (8 : Int32)) (v := (.long (100000000 : Int64))) (by rw [e18]; exact A0.1) (State.isArrayOf_alike hZ.alike A0.2.1) A0.2.2 D8.1 D8.2 (g := (mkF m 26 #[.val (.int (8 : Int32))] [(.int (8 : Int32)), (.ref w0)])) rfl rfl (hb hby d_prog_3_method_31_code_26) _ ?_
    show Steps p.tables e below (T18.setTop (mkF m 27 #[.val (.int (8 : Int32))] [(.long (100000000 : Int64))])) _
    exact X18.lreturnOut hx Bd.returns (hb hby d_prog_3_method_31_code_27) hr
  · show own_Q (some (.long (100000000 : Int64))) h0 n0 _ T18.heap _
    rw [e18]
    exact ⟨rfl, N0, rfl⟩
set_option maxRecDepth 65536 in
set_option maxHeartbeats 40000000 in
theorem own_pow_9 (l : Launch) (Z : State) (a0 : Array Value) (hw : ∀ d ∈ tables_1, d.before a0 Z = true) (ws : List Jvm.Cond) (w0 : Addr) (cl : Cell) (h0 : Heap) (n0 : Nat) (Z0 : n0 ≤ h0.size) (P : own_P Z h0 w0 cl) :
    MetFree l (⟨"com/example/tranchor/tranchor/Fraction", "powerOfTen", "(I)J"⟩ : MethodName) (head1 (Jvm.Cond.code (⟨"com/example/tranchor/tranchor/Fraction", "powerOfTen", "(I)J"⟩ : MethodName) prog_3_method_31_code 1 (some .long) :: ws) ({ frames := 0, cells := 0, slots := 0, locals := 0 } : Room)) (fun a U => a = #[(.int (9 : Int32))] ∧ Z.Warmed39 U.vm ∧ U.heap = h0) (fun _ _ _ _ _ => True) (fun _ U o U' => ∃ v L, o = .returned v ∧ own_Q (some (.long (1000000000 : Int64))) h0 n0 v U'.heap L ∧ FrameEnd U o U' L ({ frames := 0, cells := 0, slots := 0, locals := 0 } : Room).cells ({ frames := 0, cells := 0, slots := 0, locals := 0 } : Room).slots) := by
  refine MetFree.of_bodySF (plainFor_of_name pn_com_example_tranchor_tranchor_Fraction) hisR ?_
  intro p e s m args below meth c s₁ Bd hml0 hP hK
  obtain ⟨rfl, hZ, hh⟩ := hP
  have hx := Bd.exec
  have hby := Bd.bytes
  have hml : c.maxLocals = 1 := hml0
  have hown : s.vm.findClass "com/example/tranchor/tranchor/Fraction" = some m.cls := findClass_of_methodNamed Bd.named
  have hnm := (name_of_methodNamed Bd.named Bd.method).1
  have X0 : Stand p l e ({ frames := 0, cells := 0, slots := 0, locals := 0 } : Room) s m #[(.int (9 : Int32))] below meth c s₁ [] 0 0 := Stand.of_body Bd
  have e0 : s₁.heap = h0 := by rw [← hh, Bd.state]; rfl
  have N0 := Fr.nil n0
  have pre0 : ∀ t, Steps p.tables e below (s₁.setTop (mkF m 0 #[.val (.int (9 : Int32))] [])) t → Steps p.tables e below (s₁.setTop (entryFrame m #[(.int (9 : Int32))] 1)) t := fun t k => castTop (ef_prog_3_method_31_code_I m (9 : Int32)) k
  have P0 := P; obtain ⟨S0, A0, Ln, D0, D1, D2, D3, D4, D5, D6, D7, D8, D9, D10, D11, D12, D13, D14, D15, D16, D17, D18⟩ := P0
  obtain ⟨T19, X19, e19, st19⟩ := getS2 X0 hx hZ hown (host := "") (Or.inl (hw _ (List.mem_of_getElem? (i := 5) rfl))) Via.refl e0 S0 (g := (mkF m 1 #[.val (.int (9 : Int32))] [(.int (9 : Int32))])) rfl (hb hby d_prog_3_method_31_code_1)
  obtain ⟨T20, X20, e20, st20⟩ := getS2 X19 hx hZ hown (host := "") (Or.inl (hw _ (List.mem_of_getElem? (i := 5) rfl))) Via.refl e19 S0 (g := (mkF m 22 #[.val (.int (9 : Int32))] [])) rfl (hb hby d_prog_3_method_31_code_22)
  obtain ⟨fs, hr, hrun, hended, hW, hsame⟩ := X20.leave (v := some (.long (1000000000 : Int64))) (fun h => by rw [Bd.returns] at h; cases h)
  refine ⟨_, _, pre0 _ ?_, hrun, hended, _, _, rfl, ?_, ⟨_, rfl⟩, hW, hsame.mono (by decide) (by decide)⟩
  · show Steps p.tables e below (s₁.setTop (mkF m 0 #[.val (.int (9 : Int32))] [])) _
    refine XS.iloadN X0.here hx rfl (hb hby d_prog_3_method_31_code_0) rfl ?_
    show Steps p.tables e below (s₁.setTop (mkF m 1 #[.val (.int (9 : Int32))] [(.int (9 : Int32))])) _
    refine st19 _ ?_
    show Steps p.tables e below (T19.setTop (mkF m 4 #[.val (.int (9 : Int32))] [(.ref w0), (.int (9 : Int32))])) _
    refine X19.arraylength hx (by rw [e19]; exact A0.1) (State.isArrayOf_alike hZ.alike A0.2.1) (g := (mkF m 4 #[.val (.int (9 : Int32))] [(.ref w0), (.int (9 : Int32))])) rfl rfl (hb hby d_prog_3_method_31_code_4) _ ?_
    rw [Ln]
    show Steps p.tables e below (T19.setTop (mkF m 5 #[.val (.int (9 : Int32))] [(.int (19 : Int32)), (.int (9 : Int32))])) _
    refine XS.icmpYes X19.here hx rfl (pc0 := 5) (pc' := 22) rfl (hb hby d_prog_3_method_31_code_5) rfl (by decide) (by decide) (by decide) ?_
    show Steps p.tables e below (T19.setTop (mkF m 22 #[.val (.int (9 : Int32))] [])) _
    refine st20 _ ?_
    show Steps p.tables e below (T20.setTop (mkF m 25 #[.val (.int (9 : Int32))] [(.ref w0)])) _
    refine XS.iloadN X20.here hx rfl (hb hby d_prog_3_method_31_code_25) rfl ?_
    show Steps p.tables e below (T20.setTop (mkF m 26 #[.val (.int (9 : Int32))] [(.int (9 : Int32)), (.ref w0)])) _
    refine X20.laload hx (j := (9 : Int32)) (v := (.long (1000000000 : Int64))) (by rw [e20]; exact A0.1) (State.isArrayOf_alike hZ.alike A0.2.1) A0.2.2 D9.1 D9.2 (g := (mkF m 26 #[.val (.int (9 : Int32))] [(.int (9 : Int32)), (.ref w0)])) rfl rfl (hb hby d_prog_3_method_31_code_26) _ ?_
    show Steps p.tables e below (T20.setTop (mkF m 27 #[.val (.int (9 : Int32))] [(.long (1000000000 : Int64))])) _
    exact X20.lreturnOut hx Bd.returns (hb hby d_prog_3_method_31_code_27) hr
  · show own_Q (some (.long (1000000000 : Int64))) h0 n0 _ T20.heap _
    rw [e20]
    exact ⟨rfl, N0, rfl⟩
set_option maxRecDepth 65536 in
set_option maxHeartbeats 40000000 in
theorem own_pow_10 (l : Launch) (Z : State) (a0 : Array Value) (hw : ∀ d ∈ tables_1, d.before a0 Z = true) (ws : List Jvm.Cond) (w0 : Addr) (cl : Cell) (h0 : Heap) (n0 : Nat) (Z0 : n0 ≤ h0.size) (P : own_P Z h0 w0 cl) :
    MetFree l (⟨"com/example/tranchor/tranchor/Fraction", "powerOfTen", "(I)J"⟩ : MethodName) (head1 (Jvm.Cond.code (⟨"com/example/tranchor/tranchor/Fraction", "powerOfTen", "(I)J"⟩ : MethodName) prog_3_method_31_code 1 (some .long) :: ws) ({ frames := 0, cells := 0, slots := 0, locals := 0 } : Room)) (fun a U => a = #[(.int (10 : Int32))] ∧ Z.Warmed39 U.vm ∧ U.heap = h0) (fun _ _ _ _ _ => True) (fun _ U o U' => ∃ v L, o = .returned v ∧ own_Q (some (.long (10000000000 : Int64))) h0 n0 v U'.heap L ∧ FrameEnd U o U' L ({ frames := 0, cells := 0, slots := 0, locals := 0 } : Room).cells ({ frames := 0, cells := 0, slots := 0, locals := 0 } : Room).slots) := by
  refine MetFree.of_bodySF (plainFor_of_name pn_com_example_tranchor_tranchor_Fraction) hisR ?_
  intro p e s m args below meth c s₁ Bd hml0 hP hK
  obtain ⟨rfl, hZ, hh⟩ := hP
  have hx := Bd.exec
  have hby := Bd.bytes
  have hml : c.maxLocals = 1 := hml0
  have hown : s.vm.findClass "com/example/tranchor/tranchor/Fraction" = some m.cls := findClass_of_methodNamed Bd.named
  have hnm := (name_of_methodNamed Bd.named Bd.method).1
  have X0 : Stand p l e ({ frames := 0, cells := 0, slots := 0, locals := 0 } : Room) s m #[(.int (10 : Int32))] below meth c s₁ [] 0 0 := Stand.of_body Bd
  have e0 : s₁.heap = h0 := by rw [← hh, Bd.state]; rfl
  have N0 := Fr.nil n0
  have pre0 : ∀ t, Steps p.tables e below (s₁.setTop (mkF m 0 #[.val (.int (10 : Int32))] [])) t → Steps p.tables e below (s₁.setTop (entryFrame m #[(.int (10 : Int32))] 1)) t := fun t k => castTop (ef_prog_3_method_31_code_I m (10 : Int32)) k
  have P0 := P; obtain ⟨S0, A0, Ln, D0, D1, D2, D3, D4, D5, D6, D7, D8, D9, D10, D11, D12, D13, D14, D15, D16, D17, D18⟩ := P0
  obtain ⟨T21, X21, e21, st21⟩ := getS2 X0 hx hZ hown (host := "") (Or.inl (hw _ (List.mem_of_getElem? (i := 5) rfl))) Via.refl e0 S0 (g := (mkF m 1 #[.val (.int (10 : Int32))] [(.int (10 : Int32))])) rfl (hb hby d_prog_3_method_31_code_1)
  obtain ⟨T22, X22, e22, st22⟩ := getS2 X21 hx hZ hown (host := "") (Or.inl (hw _ (List.mem_of_getElem? (i := 5) rfl))) Via.refl e21 S0 (g := (mkF m 22 #[.val (.int (10 : Int32))] [])) rfl (hb hby d_prog_3_method_31_code_22)
  obtain ⟨fs, hr, hrun, hended, hW, hsame⟩ := X22.leave (v := some (.long (10000000000 : Int64))) (fun h => by rw [Bd.returns] at h; cases h)
  refine ⟨_, _, pre0 _ ?_, hrun, hended, _, _, rfl, ?_, ⟨_, rfl⟩, hW, hsame.mono (by decide) (by decide)⟩
  · show Steps p.tables e below (s₁.setTop (mkF m 0 #[.val (.int (10 : Int32))] [])) _
    refine XS.iloadN X0.here hx rfl (hb hby d_prog_3_method_31_code_0) rfl ?_
    show Steps p.tables e below (s₁.setTop (mkF m 1 #[.val (.int (10 : Int32))] [(.int (10 : Int32))])) _
    refine st21 _ ?_
    show Steps p.tables e below (T21.setTop (mkF m 4 #[.val (.int (10 : Int32))] [(.ref w0), (.int (10 : Int32))])) _
    refine X21.arraylength hx (by rw [e21]; exact A0.1) (State.isArrayOf_alike hZ.alike A0.2.1) (g := (mkF m 4 #[.val (.int (10 : Int32))] [(.ref w0), (.int (10 : Int32))])) rfl rfl (hb hby d_prog_3_method_31_code_4) _ ?_
    rw [Ln]
    show Steps p.tables e below (T21.setTop (mkF m 5 #[.val (.int (10 : Int32))] [(.int (19 : Int32)), (.int (10 : Int32))])) _
    refine XS.icmpYes X21.here hx rfl (pc0 := 5) (pc' := 22) rfl (hb hby d_prog_3_method_31_code_5) rfl (by decide) (by decide) (by decide) ?_
    show Steps p.tables e below (T21.setTop (mkF m 22 #[.val (.int (10 : Int32))] [])) _
    refine st22 _ ?_
    show Steps p.tables e below (T22.setTop (mkF m 25 #[.val (.int (10 : Int32))] [(.ref w0)])) _
    refine XS.iloadN X22.here hx rfl (hb hby d_prog_3_method_31_code_25) rfl ?_
    show Steps p.tables e below (T22.setTop (mkF m 26 #[.val (.int (10 : Int32))] [(.int (10 : Int32)), (.ref w0)])) _
    refine X22.laload hx (j := (10 : Int32)) (v := (.long (10000000000 : Int64))) (by rw [e22]; exact A0.1) (State.isArrayOf_alike hZ.alike A0.2.1) A0.2.2 D10.1 D10.2 (g := (mkF m 26 #[.val (.int (10 : Int32))] [(.int (10 : Int32)), (.ref w0)])) rfl rfl (hb hby d_prog_3_method_31_code_26) _ ?_
    show Steps p.tables e below (T22.setTop (mkF m 27 #[.val (.int (10 : Int32))] [(.long (10000000000 : Int64))])) _
    exact X22.lreturnOut hx Bd.returns (hb hby d_prog_3_method_31_code_27) hr
  · show own_Q (some (.long (10000000000 : Int64))) h0 n0 _ T22.heap _
    rw [e22]
    exact ⟨rfl, N0, rfl⟩
set_option maxRecDepth 65536 in
set_option maxHeartbeats 40000000 in
theorem own_pow_11 (l : Launch) (Z : State) (a0 : Array Value) (hw : ∀ d ∈ tables_1, d.before a0 Z = true) (ws : List Jvm.Cond) (w0 : Addr) (cl : Cell) (h0 : Heap) (n0 : Nat) (Z0 : n0 ≤ h0.size) (P : own_P Z h0 w0 cl) :
    MetFree l (⟨"com/example/tranchor/tranchor/Fraction", "powerOfTen", "(I)J"⟩ : MethodName) (head1 (Jvm.Cond.code (⟨"com/example/tranchor/tranchor/Fraction", "powerOfTen", "(I)J"⟩ : MethodName) prog_3_method_31_code 1 (some .long) :: ws) ({ frames := 0, cells := 0, slots := 0, locals := 0 } : Room)) (fun a U => a = #[(.int (11 : Int32))] ∧ Z.Warmed39 U.vm ∧ U.heap = h0) (fun _ _ _ _ _ => True) (fun _ U o U' => ∃ v L, o = .returned v ∧ own_Q (some (.long (100000000000 : Int64))) h0 n0 v U'.heap L ∧ FrameEnd U o U' L ({ frames := 0, cells := 0, slots := 0, locals := 0 } : Room).cells ({ frames := 0, cells := 0, slots := 0, locals := 0 } : Room).slots) := by
  refine MetFree.of_bodySF (plainFor_of_name pn_com_example_tranchor_tranchor_Fraction) hisR ?_
  intro p e s m args below meth c s₁ Bd hml0 hP hK
  obtain ⟨rfl, hZ, hh⟩ := hP
  have hx := Bd.exec
  have hby := Bd.bytes
  have hml : c.maxLocals = 1 := hml0
  have hown : s.vm.findClass "com/example/tranchor/tranchor/Fraction" = some m.cls := findClass_of_methodNamed Bd.named
  have hnm := (name_of_methodNamed Bd.named Bd.method).1
  have X0 : Stand p l e ({ frames := 0, cells := 0, slots := 0, locals := 0 } : Room) s m #[(.int (11 : Int32))] below meth c s₁ [] 0 0 := Stand.of_body Bd
  have e0 : s₁.heap = h0 := by rw [← hh, Bd.state]; rfl
  have N0 := Fr.nil n0
  have pre0 : ∀ t, Steps p.tables e below (s₁.setTop (mkF m 0 #[.val (.int (11 : Int32))] [])) t → Steps p.tables e below (s₁.setTop (entryFrame m #[(.int (11 : Int32))] 1)) t := fun t k => castTop (ef_prog_3_method_31_code_I m (11 : Int32)) k
  have P0 := P; obtain ⟨S0, A0, Ln, D0, D1, D2, D3, D4, D5, D6, D7, D8, D9, D10, D11, D12, D13, D14, D15, D16, D17, D18⟩ := P0
  obtain ⟨T23, X23, e23, st23⟩ := getS2 X0 hx hZ hown (host := "") (Or.inl (hw _ (List.mem_of_getElem? (i := 5) rfl))) Via.refl e0 S0 (g := (mkF m 1 #[.val (.int (11 : Int32))] [(.int (11 : Int32))])) rfl (hb hby d_prog_3_method_31_code_1)
  obtain ⟨T24, X24, e24, st24⟩ := getS2 X23 hx hZ hown (host := "") (Or.inl (hw _ (List.mem_of_getElem? (i := 5) rfl))) Via.refl e23 S0 (g := (mkF m 22 #[.val (.int (11 : Int32))] [])) rfl (hb hby d_prog_3_method_31_code_22)
  obtain ⟨fs, hr, hrun, hended, hW, hsame⟩ := X24.leave (v := some (.long (100000000000 : Int64))) (fun h => by rw [Bd.returns] at h; cases h)
  refine ⟨_, _, pre0 _ ?_, hrun, hended, _, _, rfl, ?_, ⟨_, rfl⟩, hW, hsame.mono (by decide) (by decide)⟩
  · show Steps p.tables e below (s₁.setTop (mkF m 0 #[.val (.int (11 : Int32))] [])) _
    refine XS.iloadN X0.here hx rfl (hb hby d_prog_3_method_31_code_0) rfl ?_
    show Steps p.tables e below (s₁.setTop (mkF m 1 #[.val (.int (11 : Int32))] [(.int (11 : Int32))])) _
    refine st23 _ ?_
    show Steps p.tables e below (T23.setTop (mkF m 4 #[.val (.int (11 : Int32))] [(.ref w0), (.int (11 : Int32))])) _
    refine X23.arraylength hx (by rw [e23]; exact A0.1) (State.isArrayOf_alike hZ.alike A0.2.1) (g := (mkF m 4 #[.val (.int (11 : Int32))] [(.ref w0), (.int (11 : Int32))])) rfl rfl (hb hby d_prog_3_method_31_code_4) _ ?_
    rw [Ln]
    show Steps p.tables e below (T23.setTop (mkF m 5 #[.val (.int (11 : Int32))] [(.int (19 : Int32)), (.int (11 : Int32))])) _
    refine XS.icmpYes X23.here hx rfl (pc0 := 5) (pc' := 22) rfl (hb hby d_prog_3_method_31_code_5) rfl (by decide) (by decide) (by decide) ?_
    show Steps p.tables e below (T23.setTop (mkF m 22 #[.val (.int (11 : Int32))] [])) _
    refine st24 _ ?_
    show Steps p.tables e below (T24.setTop (mkF m 25 #[.val (.int (11 : Int32))] [(.ref w0)])) _
    refine XS.iloadN X24.here hx rfl (hb hby d_prog_3_method_31_code_25) rfl ?_
    show Steps p.tables e below (T24.setTop (mkF m 26 #[.val (.int (11 : Int32))] [(.int (11 : Int32)), (.ref w0)])) _
    refine X24.laload hx (j := (11 : Int32)) (v := (.long (100000000000 : Int64))) (by rw [e24]; exact A0.1) (State.isArrayOf_alike hZ.alike A0.2.1) A0.2.2 D11.1 D11.2 (g := (mkF m 26 #[.val (.int (11 : Int32))] [(.int (11 : Int32)), (.ref w0)])) rfl rfl (hb hby d_prog_3_method_31_code_26) _ ?_
    show Steps p.tables e below (T24.setTop (mkF m 27 #[.val (.int (11 : Int32))] [(.long (100000000000 : Int64))])) _
    exact X24.lreturnOut hx Bd.returns (hb hby d_prog_3_method_31_code_27) hr
  · show own_Q (some (.long (100000000000 : Int64))) h0 n0 _ T24.heap _
    rw [e24]
    exact ⟨rfl, N0, rfl⟩
set_option maxRecDepth 65536 in
set_option maxHeartbeats 40000000 in
theorem own_pow_12 (l : Launch) (Z : State) (a0 : Array Value) (hw : ∀ d ∈ tables_1, d.before a0 Z = true) (ws : List Jvm.Cond) (w0 : Addr) (cl : Cell) (h0 : Heap) (n0 : Nat) (Z0 : n0 ≤ h0.size) (P : own_P Z h0 w0 cl) :
    MetFree l (⟨"com/example/tranchor/tranchor/Fraction", "powerOfTen", "(I)J"⟩ : MethodName) (head1 (Jvm.Cond.code (⟨"com/example/tranchor/tranchor/Fraction", "powerOfTen", "(I)J"⟩ : MethodName) prog_3_method_31_code 1 (some .long) :: ws) ({ frames := 0, cells := 0, slots := 0, locals := 0 } : Room)) (fun a U => a = #[(.int (12 : Int32))] ∧ Z.Warmed39 U.vm ∧ U.heap = h0) (fun _ _ _ _ _ => True) (fun _ U o U' => ∃ v L, o = .returned v ∧ own_Q (some (.long (1000000000000 : Int64))) h0 n0 v U'.heap L ∧ FrameEnd U o U' L ({ frames := 0, cells := 0, slots := 0, locals := 0 } : Room).cells ({ frames := 0, cells := 0, slots := 0, locals := 0 } : Room).slots) := by
  refine MetFree.of_bodySF (plainFor_of_name pn_com_example_tranchor_tranchor_Fraction) hisR ?_
  intro p e s m args below meth c s₁ Bd hml0 hP hK
  obtain ⟨rfl, hZ, hh⟩ := hP
  have hx := Bd.exec
  have hby := Bd.bytes
  have hml : c.maxLocals = 1 := hml0
  have hown : s.vm.findClass "com/example/tranchor/tranchor/Fraction" = some m.cls := findClass_of_methodNamed Bd.named
  have hnm := (name_of_methodNamed Bd.named Bd.method).1
  have X0 : Stand p l e ({ frames := 0, cells := 0, slots := 0, locals := 0 } : Room) s m #[(.int (12 : Int32))] below meth c s₁ [] 0 0 := Stand.of_body Bd
  have e0 : s₁.heap = h0 := by rw [← hh, Bd.state]; rfl
  have N0 := Fr.nil n0
  have pre0 : ∀ t, Steps p.tables e below (s₁.setTop (mkF m 0 #[.val (.int (12 : Int32))] [])) t → Steps p.tables e below (s₁.setTop (entryFrame m #[(.int (12 : Int32))] 1)) t := fun t k => castTop (ef_prog_3_method_31_code_I m (12 : Int32)) k
  have P0 := P; obtain ⟨S0, A0, Ln, D0, D1, D2, D3, D4, D5, D6, D7, D8, D9, D10, D11, D12, D13, D14, D15, D16, D17, D18⟩ := P0
  obtain ⟨T25, X25, e25, st25⟩ := getS2 X0 hx hZ hown (host := "") (Or.inl (hw _ (List.mem_of_getElem? (i := 5) rfl))) Via.refl e0 S0 (g := (mkF m 1 #[.val (.int (12 : Int32))] [(.int (12 : Int32))])) rfl (hb hby d_prog_3_method_31_code_1)
  obtain ⟨T26, X26, e26, st26⟩ := getS2 X25 hx hZ hown (host := "") (Or.inl (hw _ (List.mem_of_getElem? (i := 5) rfl))) Via.refl e25 S0 (g := (mkF m 22 #[.val (.int (12 : Int32))] [])) rfl (hb hby d_prog_3_method_31_code_22)
  obtain ⟨fs, hr, hrun, hended, hW, hsame⟩ := X26.leave (v := some (.long (1000000000000 : Int64))) (fun h => by rw [Bd.returns] at h; cases h)
  refine ⟨_, _, pre0 _ ?_, hrun, hended, _, _, rfl, ?_, ⟨_, rfl⟩, hW, hsame.mono (by decide) (by decide)⟩
  · show Steps p.tables e below (s₁.setTop (mkF m 0 #[.val (.int (12 : Int32))] [])) _
    refine XS.iloadN X0.here hx rfl (hb hby d_prog_3_method_31_code_0) rfl ?_
    show Steps p.tables e below (s₁.setTop (mkF m 1 #[.val (.int (12 : Int32))] [(.int (12 : Int32))])) _
    refine st25 _ ?_
    show Steps p.tables e below (T25.setTop (mkF m 4 #[.val (.int (12 : Int32))] [(.ref w0), (.int (12 : Int32))])) _
    refine X25.arraylength hx (by rw [e25]; exact A0.1) (State.isArrayOf_alike hZ.alike A0.2.1) (g := (mkF m 4 #[.val (.int (12 : Int32))] [(.ref w0), (.int (12 : Int32))])) rfl rfl (hb hby d_prog_3_method_31_code_4) _ ?_
    rw [Ln]
    show Steps p.tables e below (T25.setTop (mkF m 5 #[.val (.int (12 : Int32))] [(.int (19 : Int32)), (.int (12 : Int32))])) _
    refine XS.icmpYes X25.here hx rfl (pc0 := 5) (pc' := 22) rfl (hb hby d_prog_3_method_31_code_5) rfl (by decide) (by decide) (by decide) ?_
    show Steps p.tables e below (T25.setTop (mkF m 22 #[.val (.int (12 : Int32))] [])) _
    refine st26 _ ?_
    show Steps p.tables e below (T26.setTop (mkF m 25 #[.val (.int (12 : Int32))] [(.ref w0)])) _
    refine XS.iloadN X26.here hx rfl (hb hby d_prog_3_method_31_code_25) rfl ?_
    show Steps p.tables e below (T26.setTop (mkF m 26 #[.val (.int (12 : Int32))] [(.int (12 : Int32)), (.ref w0)])) _
    refine X26.laload hx (j := (12 : Int32)) (v := (.long (1000000000000 : Int64))) (by rw [e26]; exact A0.1) (State.isArrayOf_alike hZ.alike A0.2.1) A0.2.2 D12.1 D12.2 (g := (mkF m 26 #[.val (.int (12 : Int32))] [(.int (12 : Int32)), (.ref w0)])) rfl rfl (hb hby d_prog_3_method_31_code_26) _ ?_
    show Steps p.tables e below (T26.setTop (mkF m 27 #[.val (.int (12 : Int32))] [(.long (1000000000000 : Int64))])) _
    exact X26.lreturnOut hx Bd.returns (hb hby d_prog_3_method_31_code_27) hr
  · show own_Q (some (.long (1000000000000 : Int64))) h0 n0 _ T26.heap _
    rw [e26]
    exact ⟨rfl, N0, rfl⟩
set_option maxRecDepth 65536 in
set_option maxHeartbeats 40000000 in
theorem own_pow_13 (l : Launch) (Z : State) (a0 : Array Value) (hw : ∀ d ∈ tables_1, d.before a0 Z = true) (ws : List Jvm.Cond) (w0 : Addr) (cl : Cell) (h0 : Heap) (n0 : Nat) (Z0 : n0 ≤ h0.size) (P : own_P Z h0 w0 cl) :
    MetFree l (⟨"com/example/tranchor/tranchor/Fraction", "powerOfTen", "(I)J"⟩ : MethodName) (head1 (Jvm.Cond.code (⟨"com/example/tranchor/tranchor/Fraction", "powerOfTen", "(I)J"⟩ : MethodName) prog_3_method_31_code 1 (some .long) :: ws) ({ frames := 0, cells := 0, slots := 0, locals := 0 } : Room)) (fun a U => a = #[(.int (13 : Int32))] ∧ Z.Warmed39 U.vm ∧ U.heap = h0) (fun _ _ _ _ _ => True) (fun _ U o U' => ∃ v L, o = .returned v ∧ own_Q (some (.long (10000000000000 : Int64))) h0 n0 v U'.heap L ∧ FrameEnd U o U' L ({ frames := 0, cells := 0, slots := 0, locals := 0 } : Room).cells ({ frames := 0, cells := 0, slots := 0, locals := 0 } : Room).slots) := by
  refine MetFree.of_bodySF (plainFor_of_name pn_com_example_tranchor_tranchor_Fraction) hisR ?_
  intro p e s m args below meth c s₁ Bd hml0 hP hK
  obtain ⟨rfl, hZ, hh⟩ := hP
  have hx := Bd.exec
  have hby := Bd.bytes
  have hml : c.maxLocals = 1 := hml0
  have hown : s.vm.findClass "com/example/tranchor/tranchor/Fraction" = some m.cls := findClass_of_methodNamed Bd.named
  have hnm := (name_of_methodNamed Bd.named Bd.method).1
  have X0 : Stand p l e ({ frames := 0, cells := 0, slots := 0, locals := 0 } : Room) s m #[(.int (13 : Int32))] below meth c s₁ [] 0 0 := Stand.of_body Bd
  have e0 : s₁.heap = h0 := by rw [← hh, Bd.state]; rfl
  have N0 := Fr.nil n0
  have pre0 : ∀ t, Steps p.tables e below (s₁.setTop (mkF m 0 #[.val (.int (13 : Int32))] [])) t → Steps p.tables e below (s₁.setTop (entryFrame m #[(.int (13 : Int32))] 1)) t := fun t k => castTop (ef_prog_3_method_31_code_I m (13 : Int32)) k
  have P0 := P; obtain ⟨S0, A0, Ln, D0, D1, D2, D3, D4, D5, D6, D7, D8, D9, D10, D11, D12, D13, D14, D15, D16, D17, D18⟩ := P0
  obtain ⟨T27, X27, e27, st27⟩ := getS2 X0 hx hZ hown (host := "") (Or.inl (hw _ (List.mem_of_getElem? (i := 5) rfl))) Via.refl e0 S0 (g := (mkF m 1 #[.val (.int (13 : Int32))] [(.int (13 : Int32))])) rfl (hb hby d_prog_3_method_31_code_1)
  obtain ⟨T28, X28, e28, st28⟩ := getS2 X27 hx hZ hown (host := "") (Or.inl (hw _ (List.mem_of_getElem? (i := 5) rfl))) Via.refl e27 S0 (g := (mkF m 22 #[.val (.int (13 : Int32))] [])) rfl (hb hby d_prog_3_method_31_code_22)
  obtain ⟨fs, hr, hrun, hended, hW, hsame⟩ := X28.leave (v := some (.long (10000000000000 : Int64))) (fun h => by rw [Bd.returns] at h; cases h)
  refine ⟨_, _, pre0 _ ?_, hrun, hended, _, _, rfl, ?_, ⟨_, rfl⟩, hW, hsame.mono (by decide) (by decide)⟩
  · show Steps p.tables e below (s₁.setTop (mkF m 0 #[.val (.int (13 : Int32))] [])) _
    refine XS.iloadN X0.here hx rfl (hb hby d_prog_3_method_31_code_0) rfl ?_
    show Steps p.tables e below (s₁.setTop (mkF m 1 #[.val (.int (13 : Int32))] [(.int (13 : Int32))])) _
    refine st27 _ ?_
    show Steps p.tables e below (T27.setTop (mkF m 4 #[.val (.int (13 : Int32))] [(.ref w0), (.int (13 : Int32))])) _
    refine X27.arraylength hx (by rw [e27]; exact A0.1) (State.isArrayOf_alike hZ.alike A0.2.1) (g := (mkF m 4 #[.val (.int (13 : Int32))] [(.ref w0), (.int (13 : Int32))])) rfl rfl (hb hby d_prog_3_method_31_code_4) _ ?_
    rw [Ln]
    show Steps p.tables e below (T27.setTop (mkF m 5 #[.val (.int (13 : Int32))] [(.int (19 : Int32)), (.int (13 : Int32))])) _
    refine XS.icmpYes X27.here hx rfl (pc0 := 5) (pc' := 22) rfl (hb hby d_prog_3_method_31_code_5) rfl (by decide) (by decide) (by decide) ?_
    show Steps p.tables e below (T27.setTop (mkF m 22 #[.val (.int (13 : Int32))] [])) _
    refine st28 _ ?_
    show Steps p.tables e below (T28.setTop (mkF m 25 #[.val (.int (13 : Int32))] [(.ref w0)])) _
    refine XS.iloadN X28.here hx rfl (hb hby d_prog_3_method_31_code_25) rfl ?_
    show Steps p.tables e below (T28.setTop (mkF m 26 #[.val (.int (13 : Int32))] [(.int (13 : Int32)), (.ref w0)])) _
    refine X28.laload hx (j := (13 : Int32)) (v := (.long (10000000000000 : Int64))) (by rw [e28]; exact A0.1) (State.isArrayOf_alike hZ.alike A0.2.1) A0.2.2 D13.1 D13.2 (g := (mkF m 26 #[.val (.int (13 : Int32))] [(.int (13 : Int32)), (.ref w0)])) rfl rfl (hb hby d_prog_3_method_31_code_26) _ ?_
    show Steps p.tables e below (T28.setTop (mkF m 27 #[.val (.int (13 : Int32))] [(.long (10000000000000 : Int64))])) _
    exact X28.lreturnOut hx Bd.returns (hb hby d_prog_3_method_31_code_27) hr
  · show own_Q (some (.long (10000000000000 : Int64))) h0 n0 _ T28.heap _
    rw [e28]
    exact ⟨rfl, N0, rfl⟩
set_option maxRecDepth 65536 in
set_option maxHeartbeats 40000000 in
theorem own_pow_14 (l : Launch) (Z : State) (a0 : Array Value) (hw : ∀ d ∈ tables_1, d.before a0 Z = true) (ws : List Jvm.Cond) (w0 : Addr) (cl : Cell) (h0 : Heap) (n0 : Nat) (Z0 : n0 ≤ h0.size) (P : own_P Z h0 w0 cl) :
    MetFree l (⟨"com/example/tranchor/tranchor/Fraction", "powerOfTen", "(I)J"⟩ : MethodName) (head1 (Jvm.Cond.code (⟨"com/example/tranchor/tranchor/Fraction", "powerOfTen", "(I)J"⟩ : MethodName) prog_3_method_31_code 1 (some .long) :: ws) ({ frames := 0, cells := 0, slots := 0, locals := 0 } : Room)) (fun a U => a = #[(.int (14 : Int32))] ∧ Z.Warmed39 U.vm ∧ U.heap = h0) (fun _ _ _ _ _ => True) (fun _ U o U' => ∃ v L, o = .returned v ∧ own_Q (some (.long (100000000000000 : Int64))) h0 n0 v U'.heap L ∧ FrameEnd U o U' L ({ frames := 0, cells := 0, slots := 0, locals := 0 } : Room).cells ({ frames := 0, cells := 0, slots := 0, locals := 0 } : Room).slots) := by
  refine MetFree.of_bodySF (plainFor_of_name pn_com_example_tranchor_tranchor_Fraction) hisR ?_
  intro p e s m args below meth c s₁ Bd hml0 hP hK
  obtain ⟨rfl, hZ, hh⟩ := hP
  have hx := Bd.exec
  have hby := Bd.bytes
  have hml : c.maxLocals = 1 := hml0
  have hown : s.vm.findClass "com/example/tranchor/tranchor/Fraction" = some m.cls := findClass_of_methodNamed Bd.named
  have hnm := (name_of_methodNamed Bd.named Bd.method).1
  have X0 : Stand p l e ({ frames := 0, cells := 0, slots := 0, locals := 0 } : Room) s m #[(.int (14 : Int32))] below meth c s₁ [] 0 0 := Stand.of_body Bd
  have e0 : s₁.heap = h0 := by rw [← hh, Bd.state]; rfl
  have N0 := Fr.nil n0
  have pre0 : ∀ t, Steps p.tables e below (s₁.setTop (mkF m 0 #[.val (.int (14 : Int32))] [])) t → Steps p.tables e below (s₁.setTop (entryFrame m #[(.int (14 : Int32))] 1)) t := fun t k => castTop (ef_prog_3_method_31_code_I m (14 : Int32)) k
  have P0 := P; obtain ⟨S0, A0, Ln, D0, D1, D2, D3, D4, D5, D6, D7, D8, D9, D10, D11, D12, D13, D14, D15, D16, D17, D18⟩ := P0
  obtain ⟨T29, X29, e29, st29⟩ := getS2 X0 hx hZ hown (host := "") (Or.inl (hw _ (List.mem_of_getElem? (i := 5) rfl))) Via.refl e0 S0 (g := (mkF m 1 #[.val (.int (14 : Int32))] [(.int (14 : Int32))])) rfl (hb hby d_prog_3_method_31_code_1)
  obtain ⟨T30, X30, e30, st30⟩ := getS2 X29 hx hZ hown (host := "") (Or.inl (hw _ (List.mem_of_getElem? (i := 5) rfl))) Via.refl e29 S0 (g := (mkF m 22 #[.val (.int (14 : Int32))] [])) rfl (hb hby d_prog_3_method_31_code_22)
  obtain ⟨fs, hr, hrun, hended, hW, hsame⟩ := X30.leave (v := some (.long (100000000000000 : Int64))) (fun h => by rw [Bd.returns] at h; cases h)
  refine ⟨_, _, pre0 _ ?_, hrun, hended, _, _, rfl, ?_, ⟨_, rfl⟩, hW, hsame.mono (by decide) (by decide)⟩
  · show Steps p.tables e below (s₁.setTop (mkF m 0 #[.val (.int (14 : Int32))] [])) _
    refine XS.iloadN X0.here hx rfl (hb hby d_prog_3_method_31_code_0) rfl ?_
    show Steps p.tables e below (s₁.setTop (mkF m 1 #[.val (.int (14 : Int32))] [(.int (14 : Int32))])) _
    refine st29 _ ?_
    show Steps p.tables e below (T29.setTop (mkF m 4 #[.val (.int (14 : Int32))] [(.ref w0), (.int (14 : Int32))])) _
    refine X29.arraylength hx (by rw [e29]; exact A0.1) (State.isArrayOf_alike hZ.alike A0.2.1) (g := (mkF m 4 #[.val (.int (14 : Int32))] [(.ref w0), (.int (14 : Int32))])) rfl rfl (hb hby d_prog_3_method_31_code_4) _ ?_
    rw [Ln]
    show Steps p.tables e below (T29.setTop (mkF m 5 #[.val (.int (14 : Int32))] [(.int (19 : Int32)), (.int (14 : Int32))])) _
    refine XS.icmpYes X29.here hx rfl (pc0 := 5) (pc' := 22) rfl (hb hby d_prog_3_method_31_code_5) rfl (by decide) (by decide) (by decide) ?_
    show Steps p.tables e below (T29.setTop (mkF m 22 #[.val (.int (14 : Int32))] [])) _
    refine st30 _ ?_
    show Steps p.tables e below (T30.setTop (mkF m 25 #[.val (.int (14 : Int32))] [(.ref w0)])) _
    refine XS.iloadN X30.here hx rfl (hb hby d_prog_3_method_31_code_25) rfl ?_
    show Steps p.tables e below (T30.setTop (mkF m 26 #[.val (.int (14 : Int32))] [(.int (14 : Int32)), (.ref w0)])) _
    refine X30.laload hx (j := (14 : Int32)) (v := (.long (100000000000000 : Int64))) (by rw [e30]; exact A0.1) (State.isArrayOf_alike hZ.alike A0.2.1) A0.2.2 D14.1 D14.2 (g := (mkF m 26 #[.val (.int (14 : Int32))] [(.int (14 : Int32)), (.ref w0)])) rfl rfl (hb hby d_prog_3_method_31_code_26) _ ?_
    show Steps p.tables e below (T30.setTop (mkF m 27 #[.val (.int (14 : Int32))] [(.long (100000000000000 : Int64))])) _
    exact X30.lreturnOut hx Bd.returns (hb hby d_prog_3_method_31_code_27) hr
  · show own_Q (some (.long (100000000000000 : Int64))) h0 n0 _ T30.heap _
    rw [e30]
    exact ⟨rfl, N0, rfl⟩
set_option maxRecDepth 65536 in
set_option maxHeartbeats 40000000 in
theorem own_pow_15 (l : Launch) (Z : State) (a0 : Array Value) (hw : ∀ d ∈ tables_1, d.before a0 Z = true) (ws : List Jvm.Cond) (w0 : Addr) (cl : Cell) (h0 : Heap) (n0 : Nat) (Z0 : n0 ≤ h0.size) (P : own_P Z h0 w0 cl) :
    MetFree l (⟨"com/example/tranchor/tranchor/Fraction", "powerOfTen", "(I)J"⟩ : MethodName) (head1 (Jvm.Cond.code (⟨"com/example/tranchor/tranchor/Fraction", "powerOfTen", "(I)J"⟩ : MethodName) prog_3_method_31_code 1 (some .long) :: ws) ({ frames := 0, cells := 0, slots := 0, locals := 0 } : Room)) (fun a U => a = #[(.int (15 : Int32))] ∧ Z.Warmed39 U.vm ∧ U.heap = h0) (fun _ _ _ _ _ => True) (fun _ U o U' => ∃ v L, o = .returned v ∧ own_Q (some (.long (1000000000000000 : Int64))) h0 n0 v U'.heap L ∧ FrameEnd U o U' L ({ frames := 0, cells := 0, slots := 0, locals := 0 } : Room).cells ({ frames := 0, cells := 0, slots := 0, locals := 0 } : Room).slots) := by
  refine MetFree.of_bodySF (plainFor_of_name pn_com_example_tranchor_tranchor_Fraction) hisR ?_
  intro p e s m args below meth c s₁ Bd hml0 hP hK
  obtain ⟨rfl, hZ, hh⟩ := hP
  have hx := Bd.exec
  have hby := Bd.bytes
  have hml : c.maxLocals = 1 := hml0
  have hown : s.vm.findClass "com/example/tranchor/tranchor/Fraction" = some m.cls := findClass_of_methodNamed Bd.named
  have hnm := (name_of_methodNamed Bd.named Bd.method).1
  have X0 : Stand p l e ({ frames := 0, cells := 0, slots := 0, locals := 0 } : Room) s m #[(.int (15 : Int32))] below meth c s₁ [] 0 0 := Stand.of_body Bd
  have e0 : s₁.heap = h0 := by rw [← hh, Bd.state]; rfl
  have N0 := Fr.nil n0
  have pre0 : ∀ t, Steps p.tables e below (s₁.setTop (mkF m 0 #[.val (.int (15 : Int32))] [])) t → Steps p.tables e below (s₁.setTop (entryFrame m #[(.int (15 : Int32))] 1)) t := fun t k => castTop (ef_prog_3_method_31_code_I m (15 : Int32)) k
  have P0 := P; obtain ⟨S0, A0, Ln, D0, D1, D2, D3, D4, D5, D6, D7, D8, D9, D10, D11, D12, D13, D14, D15, D16, D17, D18⟩ := P0
  obtain ⟨T31, X31, e31, st31⟩ := getS2 X0 hx hZ hown (host := "") (Or.inl (hw _ (List.mem_of_getElem? (i := 5) rfl))) Via.refl e0 S0 (g := (mkF m 1 #[.val (.int (15 : Int32))] [(.int (15 : Int32))])) rfl (hb hby d_prog_3_method_31_code_1)
  obtain ⟨T32, X32, e32, st32⟩ := getS2 X31 hx hZ hown (host := "") (Or.inl (hw _ (List.mem_of_getElem? (i := 5) rfl))) Via.refl e31 S0 (g := (mkF m 22 #[.val (.int (15 : Int32))] [])) rfl (hb hby d_prog_3_method_31_code_22)
  obtain ⟨fs, hr, hrun, hended, hW, hsame⟩ := X32.leave (v := some (.long (1000000000000000 : Int64))) (fun h => by rw [Bd.returns] at h; cases h)
  refine ⟨_, _, pre0 _ ?_, hrun, hended, _, _, rfl, ?_, ⟨_, rfl⟩, hW, hsame.mono (by decide) (by decide)⟩
  · show Steps p.tables e below (s₁.setTop (mkF m 0 #[.val (.int (15 : Int32))] [])) _
    refine XS.iloadN X0.here hx rfl (hb hby d_prog_3_method_31_code_0) rfl ?_
    show Steps p.tables e below (s₁.setTop (mkF m 1 #[.val (.int (15 : Int32))] [(.int (15 : Int32))])) _
    refine st31 _ ?_
    show Steps p.tables e below (T31.setTop (mkF m 4 #[.val (.int (15 : Int32))] [(.ref w0), (.int (15 : Int32))])) _
    refine X31.arraylength hx (by rw [e31]; exact A0.1) (State.isArrayOf_alike hZ.alike A0.2.1) (g := (mkF m 4 #[.val (.int (15 : Int32))] [(.ref w0), (.int (15 : Int32))])) rfl rfl (hb hby d_prog_3_method_31_code_4) _ ?_
    rw [Ln]
    show Steps p.tables e below (T31.setTop (mkF m 5 #[.val (.int (15 : Int32))] [(.int (19 : Int32)), (.int (15 : Int32))])) _
    refine XS.icmpYes X31.here hx rfl (pc0 := 5) (pc' := 22) rfl (hb hby d_prog_3_method_31_code_5) rfl (by decide) (by decide) (by decide) ?_
    show Steps p.tables e below (T31.setTop (mkF m 22 #[.val (.int (15 : Int32))] [])) _
    refine st32 _ ?_
    show Steps p.tables e below (T32.setTop (mkF m 25 #[.val (.int (15 : Int32))] [(.ref w0)])) _
    refine XS.iloadN X32.here hx rfl (hb hby d_prog_3_method_31_code_25) rfl ?_
    show Steps p.tables e below (T32.setTop (mkF m 26 #[.val (.int (15 : Int32))] [(.int (15 : Int32)), (.ref w0)])) _
    refine X32.laload hx (j := (15 : Int32)) (v := (.long (1000000000000000 : Int64))) (by rw [e32]; exact A0.1) (State.isArrayOf_alike hZ.alike A0.2.1) A0.2.2 D15.1 D15.2 (g := (mkF m 26 #[.val (.int (15 : Int32))] [(.int (15 : Int32)), (.ref w0)])) rfl rfl (hb hby d_prog_3_method_31_code_26) _ ?_
    show Steps p.tables e below (T32.setTop (mkF m 27 #[.val (.int (15 : Int32))] [(.long (1000000000000000 : Int64))])) _
    exact X32.lreturnOut hx Bd.returns (hb hby d_prog_3_method_31_code_27) hr
  · show own_Q (some (.long (1000000000000000 : Int64))) h0 n0 _ T32.heap _
    rw [e32]
    exact ⟨rfl, N0, rfl⟩
set_option maxRecDepth 65536 in
set_option maxHeartbeats 40000000 in
theorem own_pow_16 (l : Launch) (Z : State) (a0 : Array Value) (hw : ∀ d ∈ tables_1, d.before a0 Z = true) (ws : List Jvm.Cond) (w0 : Addr) (cl : Cell) (h0 : Heap) (n0 : Nat) (Z0 : n0 ≤ h0.size) (P : own_P Z h0 w0 cl) :
    MetFree l (⟨"com/example/tranchor/tranchor/Fraction", "powerOfTen", "(I)J"⟩ : MethodName) (head1 (Jvm.Cond.code (⟨"com/example/tranchor/tranchor/Fraction", "powerOfTen", "(I)J"⟩ : MethodName) prog_3_method_31_code 1 (some .long) :: ws) ({ frames := 0, cells := 0, slots := 0, locals := 0 } : Room)) (fun a U => a = #[(.int (16 : Int32))] ∧ Z.Warmed39 U.vm ∧ U.heap = h0) (fun _ _ _ _ _ => True) (fun _ U o U' => ∃ v L, o = .returned v ∧ own_Q (some (.long (10000000000000000 : Int64))) h0 n0 v U'.heap L ∧ FrameEnd U o U' L ({ frames := 0, cells := 0, slots := 0, locals := 0 } : Room).cells ({ frames := 0, cells := 0, slots := 0, locals := 0 } : Room).slots) := by
  refine MetFree.of_bodySF (plainFor_of_name pn_com_example_tranchor_tranchor_Fraction) hisR ?_
  intro p e s m args below meth c s₁ Bd hml0 hP hK
  obtain ⟨rfl, hZ, hh⟩ := hP
  have hx := Bd.exec
  have hby := Bd.bytes
  have hml : c.maxLocals = 1 := hml0
  have hown : s.vm.findClass "com/example/tranchor/tranchor/Fraction" = some m.cls := findClass_of_methodNamed Bd.named
  have hnm := (name_of_methodNamed Bd.named Bd.method).1
  have X0 : Stand p l e ({ frames := 0, cells := 0, slots := 0, locals := 0 } : Room) s m #[(.int (16 : Int32))] below meth c s₁ [] 0 0 := Stand.of_body Bd
  have e0 : s₁.heap = h0 := by rw [← hh, Bd.state]; rfl
  have N0 := Fr.nil n0
  have pre0 : ∀ t, Steps p.tables e below (s₁.setTop (mkF m 0 #[.val (.int (16 : Int32))] [])) t → Steps p.tables e below (s₁.setTop (entryFrame m #[(.int (16 : Int32))] 1)) t := fun t k => castTop (ef_prog_3_method_31_code_I m (16 : Int32)) k
  have P0 := P; obtain ⟨S0, A0, Ln, D0, D1, D2, D3, D4, D5, D6, D7, D8, D9, D10, D11, D12, D13, D14, D15, D16, D17, D18⟩ := P0
  obtain ⟨T33, X33, e33, st33⟩ := getS2 X0 hx hZ hown (host := "") (Or.inl (hw _ (List.mem_of_getElem? (i := 5) rfl))) Via.refl e0 S0 (g := (mkF m 1 #[.val (.int (16 : Int32))] [(.int (16 : Int32))])) rfl (hb hby d_prog_3_method_31_code_1)
  obtain ⟨T34, X34, e34, st34⟩ := getS2 X33 hx hZ hown (host := "") (Or.inl (hw _ (List.mem_of_getElem? (i := 5) rfl))) Via.refl e33 S0 (g := (mkF m 22 #[.val (.int (16 : Int32))] [])) rfl (hb hby d_prog_3_method_31_code_22)
  obtain ⟨fs, hr, hrun, hended, hW, hsame⟩ := X34.leave (v := some (.long (10000000000000000 : Int64))) (fun h => by rw [Bd.returns] at h; cases h)
  refine ⟨_, _, pre0 _ ?_, hrun, hended, _, _, rfl, ?_, ⟨_, rfl⟩, hW, hsame.mono (by decide) (by decide)⟩
  · show Steps p.tables e below (s₁.setTop (mkF m 0 #[.val (.int (16 : Int32))] [])) _
    refine XS.iloadN X0.here hx rfl (hb hby d_prog_3_method_31_code_0) rfl ?_
    show Steps p.tables e below (s₁.setTop (mkF m 1 #[.val (.int (16 : Int32))] [(.int (16 : Int32))])) _
    refine st33 _ ?_
    show Steps p.tables e below (T33.setTop (mkF m 4 #[.val (.int (16 : Int32))] [(.ref w0), (.int (16 : Int32))])) _
    refine X33.arraylength hx (by rw [e33]; exact A0.1) (State.isArrayOf_alike hZ.alike A0.2.1) (g := (mkF m 4 #[.val (.int (16 : Int32))] [(.ref w0), (.int (16 : Int32))])) rfl rfl (hb hby d_prog_3_method_31_code_4) _ ?_
    rw [Ln]
    show Steps p.tables e below (T33.setTop (mkF m 5 #[.val (.int (16 : Int32))] [(.int (19 : Int32)), (.int (16 : Int32))])) _
    refine XS.icmpYes X33.here hx rfl (pc0 := 5) (pc' := 22) rfl (hb hby d_prog_3_method_31_code_5) rfl (by decide) (by decide) (by decide) ?_
    show Steps p.tables e below (T33.setTop (mkF m 22 #[.val (.int (16 : Int32))] [])) _
    refine st34 _ ?_
    show Steps p.tables e below (T34.setTop (mkF m 25 #[.val (.int (16 : Int32))] [(.ref w0)])) _
    refine XS.iloadN X34.here hx rfl (hb hby d_prog_3_method_31_code_25) rfl ?_
    show Steps p.tables e below (T34.setTop (mkF m 26 #[.val (.int (16 : Int32))] [(.int (16 : Int32)), (.ref w0)])) _
    refine X34.laload hx (j := (16 : Int32)) (v := (.long (10000000000000000 : Int64))) (by rw [e34]; exact A0.1) (State.isArrayOf_alike hZ.alike A0.2.1) A0.2.2 D16.1 D16.2 (g := (mkF m 26 #[.val (.int (16 : Int32))] [(.int (16 : Int32)), (.ref w0)])) rfl rfl (hb hby d_prog_3_method_31_code_26) _ ?_
    show Steps p.tables e below (T34.setTop (mkF m 27 #[.val (.int (16 : Int32))] [(.long (10000000000000000 : Int64))])) _
    exact X34.lreturnOut hx Bd.returns (hb hby d_prog_3_method_31_code_27) hr
  · show own_Q (some (.long (10000000000000000 : Int64))) h0 n0 _ T34.heap _
    rw [e34]
    exact ⟨rfl, N0, rfl⟩
set_option maxRecDepth 65536 in
set_option maxHeartbeats 40000000 in
theorem own_pow_17 (l : Launch) (Z : State) (a0 : Array Value) (hw : ∀ d ∈ tables_1, d.before a0 Z = true) (ws : List Jvm.Cond) (w0 : Addr) (cl : Cell) (h0 : Heap) (n0 : Nat) (Z0 : n0 ≤ h0.size) (P : own_P Z h0 w0 cl) :
    MetFree l (⟨"com/example/tranchor/tranchor/Fraction", "powerOfTen", "(I)J"⟩ : MethodName) (head1 (Jvm.Cond.code (⟨"com/example/tranchor/tranchor/Fraction", "powerOfTen", "(I)J"⟩ : MethodName) prog_3_method_31_code 1 (some .long) :: ws) ({ frames := 0, cells := 0, slots := 0, locals := 0 } : Room)) (fun a U => a = #[(.int (17 : Int32))] ∧ Z.Warmed39 U.vm ∧ U.heap = h0) (fun _ _ _ _ _ => True) (fun _ U o U' => ∃ v L, o = .returned v ∧ own_Q (some (.long (100000000000000000 : Int64))) h0 n0 v U'.heap L ∧ FrameEnd U o U' L ({ frames := 0, cells := 0, slots := 0, locals := 0 } : Room).cells ({ frames := 0, cells := 0, slots := 0, locals := 0 } : Room).slots) := by
  refine MetFree.of_bodySF (plainFor_of_name pn_com_example_tranchor_tranchor_Fraction) hisR ?_
  intro p e s m args below meth c s₁ Bd hml0 hP hK
  obtain ⟨rfl, hZ, hh⟩ := hP
  have hx := Bd.exec
  have hby := Bd.bytes
  have hml : c.maxLocals = 1 := hml0
  have hown : s.vm.findClass "com/example/tranchor/tranchor/Fraction" = some m.cls := findClass_of_methodNamed Bd.named
  have hnm := (name_of_methodNamed Bd.named Bd.method).1
  have X0 : Stand p l e ({ frames := 0, cells := 0, slots := 0, locals := 0 } : Room) s m #[(.int (17 : Int32))] below meth c s₁ [] 0 0 := Stand.of_body Bd
  have e0 : s₁.heap = h0 := by rw [← hh, Bd.state]; rfl
  have N0 := Fr.nil n0
  have pre0 : ∀ t, Steps p.tables e below (s₁.setTop (mkF m 0 #[.val (.int (17 : Int32))] [])) t → Steps p.tables e below (s₁.setTop (entryFrame m #[(.int (17 : Int32))] 1)) t := fun t k => castTop (ef_prog_3_method_31_code_I m (17 : Int32)) k
  have P0 := P; obtain ⟨S0, A0, Ln, D0, D1, D2, D3, D4, D5, D6, D7, D8, D9, D10, D11, D12, D13, D14, D15, D16, D17, D18⟩ := P0
  obtain ⟨T35, X35, e35, st35⟩ := getS2 X0 hx hZ hown (host := "") (Or.inl (hw _ (List.mem_of_getElem? (i := 5) rfl))) Via.refl e0 S0 (g := (mkF m 1 #[.val (.int (17 : Int32))] [(.int (17 : Int32))])) rfl (hb hby d_prog_3_method_31_code_1)
  obtain ⟨T36, X36, e36, st36⟩ := getS2 X35 hx hZ hown (host := "") (Or.inl (hw _ (List.mem_of_getElem? (i := 5) rfl))) Via.refl e35 S0 (g := (mkF m 22 #[.val (.int (17 : Int32))] [])) rfl (hb hby d_prog_3_method_31_code_22)
  obtain ⟨fs, hr, hrun, hended, hW, hsame⟩ := X36.leave (v := some (.long (100000000000000000 : Int64))) (fun h => by rw [Bd.returns] at h; cases h)
  refine ⟨_, _, pre0 _ ?_, hrun, hended, _, _, rfl, ?_, ⟨_, rfl⟩, hW, hsame.mono (by decide) (by decide)⟩
  · show Steps p.tables e below (s₁.setTop (mkF m 0 #[.val (.int (17 : Int32))] [])) _
    refine XS.iloadN X0.here hx rfl (hb hby d_prog_3_method_31_code_0) rfl ?_
    show Steps p.tables e below (s₁.setTop (mkF m 1 #[.val (.int (17 : Int32))] [(.int (17 : Int32))])) _
    refine st35 _ ?_
    show Steps p.tables e below (T35.setTop (mkF m 4 #[.val (.int (17 : Int32))] [(.ref w0), (.int (17 : Int32))])) _
    refine X35.arraylength hx (by rw [e35]; exact A0.1) (State.isArrayOf_alike hZ.alike A0.2.1) (g := (mkF m 4 #[.val (.int (17 : Int32))] [(.ref w0), (.int (17 : Int32))])) rfl rfl (hb hby d_prog_3_method_31_code_4) _ ?_
    rw [Ln]
    show Steps p.tables e below (T35.setTop (mkF m 5 #[.val (.int (17 : Int32))] [(.int (19 : Int32)), (.int (17 : Int32))])) _
    refine XS.icmpYes X35.here hx rfl (pc0 := 5) (pc' := 22) rfl (hb hby d_prog_3_method_31_code_5) rfl (by decide) (by decide) (by decide) ?_
    show Steps p.tables e below (T35.setTop (mkF m 22 #[.val (.int (17 : Int32))] [])) _
    refine st36 _ ?_
    show Steps p.tables e below (T36.setTop (mkF m 25 #[.val (.int (17 : Int32))] [(.ref w0)])) _
    refine XS.iloadN X36.here hx rfl (hb hby d_prog_3_method_31_code_25) rfl ?_
    show Steps p.tables e below (T36.setTop (mkF m 26 #[.val (.int (17 : Int32))] [(.int (17 : Int32)), (.ref w0)])) _
    refine X36.laload hx (j := (17 : Int32)) (v := (.long (100000000000000000 : Int64))) (by rw [e36]; exact A0.1) (State.isArrayOf_alike hZ.alike A0.2.1) A0.2.2 D17.1 D17.2 (g := (mkF m 26 #[.val (.int (17 : Int32))] [(.int (17 : Int32)), (.ref w0)])) rfl rfl (hb hby d_prog_3_method_31_code_26) _ ?_
    show Steps p.tables e below (T36.setTop (mkF m 27 #[.val (.int (17 : Int32))] [(.long (100000000000000000 : Int64))])) _
    exact X36.lreturnOut hx Bd.returns (hb hby d_prog_3_method_31_code_27) hr
  · show own_Q (some (.long (100000000000000000 : Int64))) h0 n0 _ T36.heap _
    rw [e36]
    exact ⟨rfl, N0, rfl⟩
set_option maxRecDepth 65536 in
set_option maxHeartbeats 40000000 in
theorem own_pow_18 (l : Launch) (Z : State) (a0 : Array Value) (hw : ∀ d ∈ tables_1, d.before a0 Z = true) (ws : List Jvm.Cond) (w0 : Addr) (cl : Cell) (h0 : Heap) (n0 : Nat) (Z0 : n0 ≤ h0.size) (P : own_P Z h0 w0 cl) :
    MetFree l (⟨"com/example/tranchor/tranchor/Fraction", "powerOfTen", "(I)J"⟩ : MethodName) (head1 (Jvm.Cond.code (⟨"com/example/tranchor/tranchor/Fraction", "powerOfTen", "(I)J"⟩ : MethodName) prog_3_method_31_code 1 (some .long) :: ws) ({ frames := 0, cells := 0, slots := 0, locals := 0 } : Room)) (fun a U => a = #[(.int (18 : Int32))] ∧ Z.Warmed39 U.vm ∧ U.heap = h0) (fun _ _ _ _ _ => True) (fun _ U o U' => ∃ v L, o = .returned v ∧ own_Q (some (.long (1000000000000000000 : Int64))) h0 n0 v U'.heap L ∧ FrameEnd U o U' L ({ frames := 0, cells := 0, slots := 0, locals := 0 } : Room).cells ({ frames := 0, cells := 0, slots := 0, locals := 0 } : Room).slots) := by
  refine MetFree.of_bodySF (plainFor_of_name pn_com_example_tranchor_tranchor_Fraction) hisR ?_
  intro p e s m args below meth c s₁ Bd hml0 hP hK
  obtain ⟨rfl, hZ, hh⟩ := hP
  have hx := Bd.exec
  have hby := Bd.bytes
  have hml : c.maxLocals = 1 := hml0
  have hown : s.vm.findClass "com/example/tranchor/tranchor/Fraction" = some m.cls := findClass_of_methodNamed Bd.named
  have hnm := (name_of_methodNamed Bd.named Bd.method).1
  have X0 : Stand p l e ({ frames := 0, cells := 0, slots := 0, locals := 0 } : Room) s m #[(.int (18 : Int32))] below meth c s₁ [] 0 0 := Stand.of_body Bd
  have e0 : s₁.heap = h0 := by rw [← hh, Bd.state]; rfl
  have N0 := Fr.nil n0
  have pre0 : ∀ t, Steps p.tables e below (s₁.setTop (mkF m 0 #[.val (.int (18 : Int32))] [])) t → Steps p.tables e below (s₁.setTop (entryFrame m #[(.int (18 : Int32))] 1)) t := fun t k => castTop (ef_prog_3_method_31_code_I m (18 : Int32)) k
  have P0 := P; obtain ⟨S0, A0, Ln, D0, D1, D2, D3, D4, D5, D6, D7, D8, D9, D10, D11, D12, D13, D14, D15, D16, D17, D18⟩ := P0
  obtain ⟨T37, X37, e37, st37⟩ := getS2 X0 hx hZ hown (host := "") (Or.inl (hw _ (List.mem_of_getElem? (i := 5) rfl))) Via.refl e0 S0 (g := (mkF m 1 #[.val (.int (18 : Int32))] [(.int (18 : Int32))])) rfl (hb hby d_prog_3_method_31_code_1)
  obtain ⟨T38, X38, e38, st38⟩ := getS2 X37 hx hZ hown (host := "") (Or.inl (hw _ (List.mem_of_getElem? (i := 5) rfl))) Via.refl e37 S0 (g := (mkF m 22 #[.val (.int (18 : Int32))] [])) rfl (hb hby d_prog_3_method_31_code_22)
  obtain ⟨fs, hr, hrun, hended, hW, hsame⟩ := X38.leave (v := some (.long (1000000000000000000 : Int64))) (fun h => by rw [Bd.returns] at h; cases h)
  refine ⟨_, _, pre0 _ ?_, hrun, hended, _, _, rfl, ?_, ⟨_, rfl⟩, hW, hsame.mono (by decide) (by decide)⟩
  · show Steps p.tables e below (s₁.setTop (mkF m 0 #[.val (.int (18 : Int32))] [])) _
    refine XS.iloadN X0.here hx rfl (hb hby d_prog_3_method_31_code_0) rfl ?_
    show Steps p.tables e below (s₁.setTop (mkF m 1 #[.val (.int (18 : Int32))] [(.int (18 : Int32))])) _
    refine st37 _ ?_
    show Steps p.tables e below (T37.setTop (mkF m 4 #[.val (.int (18 : Int32))] [(.ref w0), (.int (18 : Int32))])) _
    refine X37.arraylength hx (by rw [e37]; exact A0.1) (State.isArrayOf_alike hZ.alike A0.2.1) (g := (mkF m 4 #[.val (.int (18 : Int32))] [(.ref w0), (.int (18 : Int32))])) rfl rfl (hb hby d_prog_3_method_31_code_4) _ ?_
    rw [Ln]
    show Steps p.tables e below (T37.setTop (mkF m 5 #[.val (.int (18 : Int32))] [(.int (19 : Int32)), (.int (18 : Int32))])) _
    refine XS.icmpYes X37.here hx rfl (pc0 := 5) (pc' := 22) rfl (hb hby d_prog_3_method_31_code_5) rfl (by decide) (by decide) (by decide) ?_
    show Steps p.tables e below (T37.setTop (mkF m 22 #[.val (.int (18 : Int32))] [])) _
    refine st38 _ ?_
    show Steps p.tables e below (T38.setTop (mkF m 25 #[.val (.int (18 : Int32))] [(.ref w0)])) _
    refine XS.iloadN X38.here hx rfl (hb hby d_prog_3_method_31_code_25) rfl ?_
    show Steps p.tables e below (T38.setTop (mkF m 26 #[.val (.int (18 : Int32))] [(.int (18 : Int32)), (.ref w0)])) _
    refine X38.laload hx (j := (18 : Int32)) (v := (.long (1000000000000000000 : Int64))) (by rw [e38]; exact A0.1) (State.isArrayOf_alike hZ.alike A0.2.1) A0.2.2 D18.1 D18.2 (g := (mkF m 26 #[.val (.int (18 : Int32))] [(.int (18 : Int32)), (.ref w0)])) rfl rfl (hb hby d_prog_3_method_31_code_26) _ ?_
    show Steps p.tables e below (T38.setTop (mkF m 27 #[.val (.int (18 : Int32))] [(.long (1000000000000000000 : Int64))])) _
    exact X38.lreturnOut hx Bd.returns (hb hby d_prog_3_method_31_code_27) hr
  · show own_Q (some (.long (1000000000000000000 : Int64))) h0 n0 _ T38.heap _
    rw [e38]
    exact ⟨rfl, N0, rfl⟩
theorem pd__I_J : parseMethodDescriptor "(I)J" = some ⟨[.int], (some .long)⟩ := by decide +kernel
theorem ef_code_I (m : MethodId) (x0 : Int32) : entryFrame m #[(.int x0)] maxLocals = mkF m 0 #[.val (.int x0), .unset, .unset, .unset] [] := by first | (simp [entryFrame, mkF, argsToLocals, Value.category, maxLocals]; done) | rfl
theorem pn_com_example_tranchor_tranchor_FractionPowerOfTenPinLaw : plainName "com/example/tranchor/tranchor/FractionPowerOfTenPinLaw" = true := by first | (simp [plainName, overriddenIn]; done) | decide +kernel
set_option maxRecDepth 65536 in
set_option maxHeartbeats 40000000 in
theorem own_law_0 (l : Launch) (Z : State) (a0 : Array Value) (hw : ∀ d ∈ tables_1, d.before a0 Z = true) (ws : List Jvm.Cond) (p1 : Int32) (w0 : Addr) (cl : Cell) (h0 : Heap) (n0 : Nat) (Z0 : n0 ≤ h0.size) (P : own_P Z h0 w0 cl) (hk : ((p1 &&& (2147483647 : Int32)) % (19 : Int32)) = (0 : Int32)) :
    MetFree l x (head1 (Jvm.Cond.code x code maxLocals ret :: ws) room_1) (fun a U => a = #[(.int p1)] ∧ Z.Warmed39 U.vm ∧ U.heap = h0) (fun _ _ _ _ _ => True) (fun _ U o U' => ∃ v L, o = .returned v ∧ own_Q0 n0 v U'.heap L ∧ FrameEnd U o U' L room_1.cells room_1.slots) := by
  refine MetFree.of_bodySF (plainFor_of_name pn_com_example_tranchor_tranchor_FractionPowerOfTenPinLaw) hisR ?_
  intro p e s m args below meth c s₁ Bd hml0 hP hK
  obtain ⟨rfl, hZ, hh⟩ := hP
  have hx := Bd.exec
  have hby := Bd.bytes
  have hml : c.maxLocals = 4 := hml0
  have hown : s.vm.findClass "com/example/tranchor/tranchor/FractionPowerOfTenPinLaw" = some m.cls := findClass_of_methodNamed Bd.named
  have hnm := (name_of_methodNamed Bd.named Bd.method).1
  have X0 : Stand p l e room_1 s m #[(.int p1)] below meth c s₁ [] 0 0 := Stand.of_body Bd
  have e0 : s₁.heap = h0 := by rw [← hh, Bd.state]; rfl
  have N0 := Fr.nil n0
  have pre0 : ∀ t, Steps p.tables e below (s₁.setTop (mkF m 0 #[.val (.int p1), .unset, .unset, .unset] [])) t → Steps p.tables e below (s₁.setTop (entryFrame m #[(.int p1)] maxLocals)) t := fun t k => castTop (ef_code_I m p1) k
  obtain ⟨_, _, ⟨T39, L39, k39, n39⟩, -, X39, ⟨Lc39, hQ39, l39, y39, z39⟩, st39⟩ := Jvm.LawKit.callS X0 hx (y := (⟨"com/example/tranchor/tranchor/Fraction", "powerOfTen", "(I)J"⟩ : MethodName)) hown (mvT hZ (hw _ (List.mem_of_getElem? (i := 1) rfl))) (mvT hZ (hw _ (List.mem_of_getElem? (i := 2) rfl))) (mvT hZ (hw _ (List.mem_of_getElem? (i := 3) rfl))) (mvT hZ (hw _ (List.mem_of_getElem? (i := 4) rfl))) (by decide) (backOf (W := 0) (own_pow_0 l Z a0 hw [] w0 cl h0 n0 Z0 P) hZ (hw _ (List.mem_of_getElem? (i := 4) rfl)) (hw _ (List.mem_of_getElem? (i := 3) rfl)) (by decide) (by decide)) (g := (mkF m 73 #[.val (.int p1), .val (.int (0 : Int32)), .val (.long (1 : Int64)), .second] [(.int (0 : Int32))])) rfl (by rw [hml]; rfl) (argsL := [(.int (0 : Int32))]) (rest := []) (lenOf pd__I_J rfl) rfl (by show 2 * 0 + _ ≤ _; exact Nat.le_of_eq rfl) (hb hby at_73) (fun _ _ => ⟨rfl, e0, (by decide : 0 + 0 ≤ _), (by decide : 0 + 0 ≤ _)⟩)
  dsimp only [Pt.U, Pt.locs, Pt.cells, Pt.slots] at X39 l39 y39 z39 st39 hQ39
  subst l39 y39 z39
  obtain ⟨rfl, N39q, e39⟩ := hQ39
  have N39 := Fr.app N0 N39q
  obtain ⟨fs, hr, hrun, hended, hW, hsame⟩ := X39.leave (v := some (.int (1 : Int32))) (fun h => by rw [Bd.returns] at h; cases h)
  refine ⟨_, _, pre0 _ ?_, hrun, hended, _, _, rfl, ?_, ⟨_, rfl⟩, hW, hsame.mono (by decide) (by decide)⟩
  · show Steps p.tables e below (s₁.setTop (mkF m 0 #[.val (.int p1), .unset, .unset, .unset] [])) _
    refine XS.iloadN X0.here hx rfl (hb hby at_0) rfl ?_
    show Steps p.tables e below (s₁.setTop (mkF m 1 #[.val (.int p1), .unset, .unset, .unset] [(.int p1)])) _
    refine Jvm.Stand.ldcI X0 hx hown (mvT hZ (hw _ (List.mem_of_getElem? (i := 0) rfl))) rfl (hb hby at_1) ?_
    show Steps p.tables e below (s₁.setTop (mkF m 3 #[.val (.int p1), .unset, .unset, .unset] [(.int (2147483647 : Int32)), (.int p1)])) _
    refine XS.iand X0.here hx rfl (hb hby at_3) rfl ?_
    show Steps p.tables e below (s₁.setTop (mkF m 4 #[.val (.int p1), .unset, .unset, .unset] [(.int (p1 &&& (2147483647 : Int32)))])) _
    refine XT.bipushV X0.here hx rfl (19 : Int32) (hb hby at_4) (by decide) ?_
    show Steps p.tables e below (s₁.setTop (mkF m 6 #[.val (.int p1), .unset, .unset, .unset] [(.int (19 : Int32)), (.int (p1 &&& (2147483647 : Int32)))])) _
    refine iremM X0 hx rfl (hb hby at_6) rfl (by decide) ?_
    show Steps p.tables e below (s₁.setTop (mkF m 7 #[.val (.int p1), .unset, .unset, .unset] [(.int ((p1 &&& (2147483647 : Int32)) % (19 : Int32)))])) _
    rw [hk]
    show Steps p.tables e below (s₁.setTop (mkF m 7 #[.val (.int p1), .unset, .unset, .unset] [(.int (0 : Int32))])) _
    refine XS.istoreN X0.here hx rfl (hb hby at_7) rfl (l' := #[.val (.int p1), .val (.int (0 : Int32)), .unset, .unset]) rfl ?_
    show Steps p.tables e below (s₁.setTop (mkF m 8 #[.val (.int p1), .val (.int (0 : Int32)), .unset, .unset] [])) _
    refine XT.lconstV X0.here hx rfl (1 : Int64) (hb hby at_8) rfl ?_
    show Steps p.tables e below (s₁.setTop (mkF m 9 #[.val (.int p1), .val (.int (0 : Int32)), .unset, .unset] [(.long (1 : Int64))])) _
    refine XT.lstoreN X0.here hx rfl (hb hby at_9) rfl (l' := #[.val (.int p1), .val (.int (0 : Int32)), .val (.long (1 : Int64)), .second]) rfl ?_
    show Steps p.tables e below (s₁.setTop (mkF m 10 #[.val (.int p1), .val (.int (0 : Int32)), .val (.long (1 : Int64)), .second] [])) _
    refine XS.iloadN X0.here hx rfl (hb hby at_10) rfl ?_
    show Steps p.tables e below (s₁.setTop (mkF m 11 #[.val (.int p1), .val (.int (0 : Int32)), .val (.long (1 : Int64)), .second] [(.int (0 : Int32))])) _
    refine XT.iconstV X0.here hx rfl (1 : Int32) (hb hby at_11) rfl ?_
    show Steps p.tables e below (s₁.setTop (mkF m 12 #[.val (.int p1), .val (.int (0 : Int32)), .val (.long (1 : Int64)), .second] [(.int (1 : Int32)), (.int (0 : Int32))])) _
    refine XS.iand X0.here hx rfl (hb hby at_12) rfl ?_
    rw [show ((0 : Int32) &&& (1 : Int32)) = (0 : Int32) from by decide]
    show Steps p.tables e below (s₁.setTop (mkF m 13 #[.val (.int p1), .val (.int (0 : Int32)), .val (.long (1 : Int64)), .second] [(.int (0 : Int32))])) _
    refine XS.ifYes X0.here hx rfl (pc0 := 13) (pc' := 22) rfl (hb hby at_13) rfl (by decide) (by decide) (by decide) ?_
    show Steps p.tables e below (s₁.setTop (mkF m 22 #[.val (.int p1), .val (.int (0 : Int32)), .val (.long (1 : Int64)), .second] [])) _
    refine XS.iloadN X0.here hx rfl (hb hby at_22) rfl ?_
    show Steps p.tables e below (s₁.setTop (mkF m 23 #[.val (.int p1), .val (.int (0 : Int32)), .val (.long (1 : Int64)), .second] [(.int (0 : Int32))])) _
    refine XT.iconstV X0.here hx rfl (2 : Int32) (hb hby at_23) rfl ?_
    show Steps p.tables e below (s₁.setTop (mkF m 24 #[.val (.int p1), .val (.int (0 : Int32)), .val (.long (1 : Int64)), .second] [(.int (2 : Int32)), (.int (0 : Int32))])) _
    refine XS.iand X0.here hx rfl (hb hby at_24) rfl ?_
    rw [show ((0 : Int32) &&& (2 : Int32)) = (0 : Int32) from by decide]
    show Steps p.tables e below (s₁.setTop (mkF m 25 #[.val (.int p1), .val (.int (0 : Int32)), .val (.long (1 : Int64)), .second] [(.int (0 : Int32))])) _
    refine XS.ifYes X0.here hx rfl (pc0 := 25) (pc' := 34) rfl (hb hby at_25) rfl (by decide) (by decide) (by decide) ?_
    show Steps p.tables e below (s₁.setTop (mkF m 34 #[.val (.int p1), .val (.int (0 : Int32)), .val (.long (1 : Int64)), .second] [])) _
    refine XS.iloadN X0.here hx rfl (hb hby at_34) rfl ?_
    show Steps p.tables e below (s₁.setTop (mkF m 35 #[.val (.int p1), .val (.int (0 : Int32)), .val (.long (1 : Int64)), .second] [(.int (0 : Int32))])) _
    refine XT.iconstV X0.here hx rfl (4 : Int32) (hb hby at_35) rfl ?_
    show Steps p.tables e below (s₁.setTop (mkF m 36 #[.val (.int p1), .val (.int (0 : Int32)), .val (.long (1 : Int64)), .second] [(.int (4 : Int32)), (.int (0 : Int32))])) _
    refine XS.iand X0.here hx rfl (hb hby at_36) rfl ?_
    rw [show ((0 : Int32) &&& (4 : Int32)) = (0 : Int32) from by decide]
    show Steps p.tables e below (s₁.setTop (mkF m 37 #[.val (.int p1), .val (.int (0 : Int32)), .val (.long (1 : Int64)), .second] [(.int (0 : Int32))])) _
    refine XS.ifYes X0.here hx rfl (pc0 := 37) (pc' := 46) rfl (hb hby at_37) rfl (by decide) (by decide) (by decide) ?_
    show Steps p.tables e below (s₁.setTop (mkF m 46 #[.val (.int p1), .val (.int (0 : Int32)), .val (.long (1 : Int64)), .second] [])) _
    refine XS.iloadN X0.here hx rfl (hb hby at_46) rfl ?_
    show Steps p.tables e below (s₁.setTop (mkF m 47 #[.val (.int p1), .val (.int (0 : Int32)), .val (.long (1 : Int64)), .second] [(.int (0 : Int32))])) _
    refine XT.bipushV X0.here hx rfl (8 : Int32) (hb hby at_47) (by decide) ?_
    show Steps p.tables e below (s₁.setTop (mkF m 49 #[.val (.int p1), .val (.int (0 : Int32)), .val (.long (1 : Int64)), .second] [(.int (8 : Int32)), (.int (0 : Int32))])) _
    refine XS.iand X0.here hx rfl (hb hby at_49) rfl ?_
    rw [show ((0 : Int32) &&& (8 : Int32)) = (0 : Int32) from by decide]
    show Steps p.tables e below (s₁.setTop (mkF m 50 #[.val (.int p1), .val (.int (0 : Int32)), .val (.long (1 : Int64)), .second] [(.int (0 : Int32))])) _
    refine XS.ifYes X0.here hx rfl (pc0 := 50) (pc' := 59) rfl (hb hby at_50) rfl (by decide) (by decide) (by decide) ?_
    show Steps p.tables e below (s₁.setTop (mkF m 59 #[.val (.int p1), .val (.int (0 : Int32)), .val (.long (1 : Int64)), .second] [])) _
    refine XS.iloadN X0.here hx rfl (hb hby at_59) rfl ?_
    show Steps p.tables e below (s₁.setTop (mkF m 60 #[.val (.int p1), .val (.int (0 : Int32)), .val (.long (1 : Int64)), .second] [(.int (0 : Int32))])) _
    refine XT.bipushV X0.here hx rfl (16 : Int32) (hb hby at_60) (by decide) ?_
    show Steps p.tables e below (s₁.setTop (mkF m 62 #[.val (.int p1), .val (.int (0 : Int32)), .val (.long (1 : Int64)), .second] [(.int (16 : Int32)), (.int (0 : Int32))])) _
    refine XS.iand X0.here hx rfl (hb hby at_62) rfl ?_
    rw [show ((0 : Int32) &&& (16 : Int32)) = (0 : Int32) from by decide]
    show Steps p.tables e below (s₁.setTop (mkF m 63 #[.val (.int p1), .val (.int (0 : Int32)), .val (.long (1 : Int64)), .second] [(.int (0 : Int32))])) _
    refine XS.ifYes X0.here hx rfl (pc0 := 63) (pc' := 72) rfl (hb hby at_63) rfl (by decide) (by decide) (by decide) ?_
    show Steps p.tables e below (s₁.setTop (mkF m 72 #[.val (.int p1), .val (.int (0 : Int32)), .val (.long (1 : Int64)), .second] [])) _
    refine XS.iloadN X0.here hx rfl (hb hby at_72) rfl ?_
    show Steps p.tables e below (s₁.setTop (mkF m 73 #[.val (.int p1), .val (.int (0 : Int32)), .val (.long (1 : Int64)), .second] [(.int (0 : Int32))])) _
    refine st39 _ ?_
    show Steps p.tables e below (T39.setTop (mkF m 76 #[.val (.int p1), .val (.int (0 : Int32)), .val (.long (1 : Int64)), .second] [(.long (1 : Int64))])) _
    refine XT.lloadN X39.here hx rfl (hb hby at_76) rfl ?_
    show Steps p.tables e below (T39.setTop (mkF m 77 #[.val (.int p1), .val (.int (0 : Int32)), .val (.long (1 : Int64)), .second] [(.long (1 : Int64)), (.long (1 : Int64))])) _
    refine XT.lcmp X39.here hx rfl (hb hby at_77) rfl ?_
    show Steps p.tables e below (T39.setTop (mkF m 78 #[.val (.int p1), .val (.int (0 : Int32)), .val (.long (1 : Int64)), .second] [(.int (XT.cmpL (1 : Int64) (1 : Int64)))])) _
    refine XS.ifNo X39.here hx rfl (hb hby at_78) rfl (XT.ll_ne_f (by decide)) ?_
    show Steps p.tables e below (T39.setTop (mkF m 81 #[.val (.int p1), .val (.int (0 : Int32)), .val (.long (1 : Int64)), .second] [])) _
    refine XT.iconstV X39.here hx rfl (1 : Int32) (hb hby at_81) rfl ?_
    show Steps p.tables e below (T39.setTop (mkF m 82 #[.val (.int p1), .val (.int (0 : Int32)), .val (.long (1 : Int64)), .second] [(.int (1 : Int32))])) _
    refine XS.goto X39.here hx rfl (pc0 := 82) (pc' := 86) rfl (hb hby at_82) (by decide) (by decide) ?_
    show Steps p.tables e below (T39.setTop (mkF m 86 #[.val (.int p1), .val (.int (0 : Int32)), .val (.long (1 : Int64)), .second] [(.int (1 : Int32))])) _
    exact retN X39 hx (t := .boolean) Bd.returns (by simp) (hb hby at_86) hr
  · show own_Q0 n0 _ T39.heap _
    exact ⟨rfl, N39⟩
set_option maxRecDepth 65536 in
set_option maxHeartbeats 40000000 in
theorem own_law_1 (l : Launch) (Z : State) (a0 : Array Value) (hw : ∀ d ∈ tables_1, d.before a0 Z = true) (ws : List Jvm.Cond) (p1 : Int32) (w0 : Addr) (cl : Cell) (h0 : Heap) (n0 : Nat) (Z0 : n0 ≤ h0.size) (P : own_P Z h0 w0 cl) (hk : ((p1 &&& (2147483647 : Int32)) % (19 : Int32)) = (1 : Int32)) :
    MetFree l x (head1 (Jvm.Cond.code x code maxLocals ret :: ws) room_1) (fun a U => a = #[(.int p1)] ∧ Z.Warmed39 U.vm ∧ U.heap = h0) (fun _ _ _ _ _ => True) (fun _ U o U' => ∃ v L, o = .returned v ∧ own_Q0 n0 v U'.heap L ∧ FrameEnd U o U' L room_1.cells room_1.slots) := by
  refine MetFree.of_bodySF (plainFor_of_name pn_com_example_tranchor_tranchor_FractionPowerOfTenPinLaw) hisR ?_
  intro p e s m args below meth c s₁ Bd hml0 hP hK
  obtain ⟨rfl, hZ, hh⟩ := hP
  have hx := Bd.exec
  have hby := Bd.bytes
  have hml : c.maxLocals = 4 := hml0
  have hown : s.vm.findClass "com/example/tranchor/tranchor/FractionPowerOfTenPinLaw" = some m.cls := findClass_of_methodNamed Bd.named
  have hnm := (name_of_methodNamed Bd.named Bd.method).1
  have X0 : Stand p l e room_1 s m #[(.int p1)] below meth c s₁ [] 0 0 := Stand.of_body Bd
  have e0 : s₁.heap = h0 := by rw [← hh, Bd.state]; rfl
  have N0 := Fr.nil n0
  have pre0 : ∀ t, Steps p.tables e below (s₁.setTop (mkF m 0 #[.val (.int p1), .unset, .unset, .unset] [])) t → Steps p.tables e below (s₁.setTop (entryFrame m #[(.int p1)] maxLocals)) t := fun t k => castTop (ef_code_I m p1) k
  obtain ⟨_, _, ⟨T40, L40, k40, n40⟩, -, X40, ⟨Lc40, hQ40, l40, y40, z40⟩, st40⟩ := Jvm.LawKit.callS X0 hx (y := (⟨"com/example/tranchor/tranchor/Fraction", "powerOfTen", "(I)J"⟩ : MethodName)) hown (mvT hZ (hw _ (List.mem_of_getElem? (i := 1) rfl))) (mvT hZ (hw _ (List.mem_of_getElem? (i := 2) rfl))) (mvT hZ (hw _ (List.mem_of_getElem? (i := 3) rfl))) (mvT hZ (hw _ (List.mem_of_getElem? (i := 4) rfl))) (by decide) (backOf (W := 0) (own_pow_1 l Z a0 hw [] w0 cl h0 n0 Z0 P) hZ (hw _ (List.mem_of_getElem? (i := 4) rfl)) (hw _ (List.mem_of_getElem? (i := 3) rfl)) (by decide) (by decide)) (g := (mkF m 73 #[.val (.int p1), .val (.int (1 : Int32)), .val (.long (10 : Int64)), .second] [(.int (1 : Int32))])) rfl (by rw [hml]; rfl) (argsL := [(.int (1 : Int32))]) (rest := []) (lenOf pd__I_J rfl) rfl (by show 2 * 0 + _ ≤ _; exact Nat.le_of_eq rfl) (hb hby at_73) (fun _ _ => ⟨rfl, e0, (by decide : 0 + 0 ≤ _), (by decide : 0 + 0 ≤ _)⟩)
  dsimp only [Pt.U, Pt.locs, Pt.cells, Pt.slots] at X40 l40 y40 z40 st40 hQ40
  subst l40 y40 z40
  obtain ⟨rfl, N40q, e40⟩ := hQ40
  have N40 := Fr.app N0 N40q
  obtain ⟨fs, hr, hrun, hended, hW, hsame⟩ := X40.leave (v := some (.int (1 : Int32))) (fun h => by rw [Bd.returns] at h; cases h)
  refine ⟨_, _, pre0 _ ?_, hrun, hended, _, _, rfl, ?_, ⟨_, rfl⟩, hW, hsame.mono (by decide) (by decide)⟩
  · show Steps p.tables e below (s₁.setTop (mkF m 0 #[.val (.int p1), .unset, .unset, .unset] [])) _
    refine XS.iloadN X0.here hx rfl (hb hby at_0) rfl ?_
    show Steps p.tables e below (s₁.setTop (mkF m 1 #[.val (.int p1), .unset, .unset, .unset] [(.int p1)])) _
    refine Jvm.Stand.ldcI X0 hx hown (mvT hZ (hw _ (List.mem_of_getElem? (i := 0) rfl))) rfl (hb hby at_1) ?_
    show Steps p.tables e below (s₁.setTop (mkF m 3 #[.val (.int p1), .unset, .unset, .unset] [(.int (2147483647 : Int32)), (.int p1)])) _
    refine XS.iand X0.here hx rfl (hb hby at_3) rfl ?_
    show Steps p.tables e below (s₁.setTop (mkF m 4 #[.val (.int p1), .unset, .unset, .unset] [(.int (p1 &&& (2147483647 : Int32)))])) _
    refine XT.bipushV X0.here hx rfl (19 : Int32) (hb hby at_4) (by decide) ?_
    show Steps p.tables e below (s₁.setTop (mkF m 6 #[.val (.int p1), .unset, .unset, .unset] [(.int (19 : Int32)), (.int (p1 &&& (2147483647 : Int32)))])) _
    refine iremM X0 hx rfl (hb hby at_6) rfl (by decide) ?_
    show Steps p.tables e below (s₁.setTop (mkF m 7 #[.val (.int p1), .unset, .unset, .unset] [(.int ((p1 &&& (2147483647 : Int32)) % (19 : Int32)))])) _
    rw [hk]
    show Steps p.tables e below (s₁.setTop (mkF m 7 #[.val (.int p1), .unset, .unset, .unset] [(.int (1 : Int32))])) _
    refine XS.istoreN X0.here hx rfl (hb hby at_7) rfl (l' := #[.val (.int p1), .val (.int (1 : Int32)), .unset, .unset]) rfl ?_
    show Steps p.tables e below (s₁.setTop (mkF m 8 #[.val (.int p1), .val (.int (1 : Int32)), .unset, .unset] [])) _
    refine XT.lconstV X0.here hx rfl (1 : Int64) (hb hby at_8) rfl ?_
    show Steps p.tables e below (s₁.setTop (mkF m 9 #[.val (.int p1), .val (.int (1 : Int32)), .unset, .unset] [(.long (1 : Int64))])) _
    refine XT.lstoreN X0.here hx rfl (hb hby at_9) rfl (l' := #[.val (.int p1), .val (.int (1 : Int32)), .val (.long (1 : Int64)), .second]) rfl ?_
    show Steps p.tables e below (s₁.setTop (mkF m 10 #[.val (.int p1), .val (.int (1 : Int32)), .val (.long (1 : Int64)), .second] [])) _
    refine XS.iloadN X0.here hx rfl (hb hby at_10) rfl ?_
    show Steps p.tables e below (s₁.setTop (mkF m 11 #[.val (.int p1), .val (.int (1 : Int32)), .val (.long (1 : Int64)), .second] [(.int (1 : Int32))])) _
    refine XT.iconstV X0.here hx rfl (1 : Int32) (hb hby at_11) rfl ?_
    show Steps p.tables e below (s₁.setTop (mkF m 12 #[.val (.int p1), .val (.int (1 : Int32)), .val (.long (1 : Int64)), .second] [(.int (1 : Int32)), (.int (1 : Int32))])) _
    refine XS.iand X0.here hx rfl (hb hby at_12) rfl ?_
    rw [show ((1 : Int32) &&& (1 : Int32)) = (1 : Int32) from by decide]
    show Steps p.tables e below (s₁.setTop (mkF m 13 #[.val (.int p1), .val (.int (1 : Int32)), .val (.long (1 : Int64)), .second] [(.int (1 : Int32))])) _
    refine XS.ifNo X0.here hx rfl (hb hby at_13) rfl (by decide) ?_
    show Steps p.tables e below (s₁.setTop (mkF m 16 #[.val (.int p1), .val (.int (1 : Int32)), .val (.long (1 : Int64)), .second] [])) _
    refine XT.lloadN X0.here hx rfl (hb hby at_16) rfl ?_
    show Steps p.tables e below (s₁.setTop (mkF m 17 #[.val (.int p1), .val (.int (1 : Int32)), .val (.long (1 : Int64)), .second] [(.long (1 : Int64))])) _
    refine Jvm.Stand.ldc2J X0 hx hown (mvT hZ (hw _ (List.mem_of_getElem? (i := 7) rfl))) rfl (hb hby at_17) ?_
    show Steps p.tables e below (s₁.setTop (mkF m 20 #[.val (.int p1), .val (.int (1 : Int32)), .val (.long (1 : Int64)), .second] [(.long (10 : Int64)), (.long (1 : Int64))])) _
    refine XT.lmul X0.here hx rfl (hb hby at_20) rfl ?_
    rw [show ((1 : Int64) * (10 : Int64)) = (10 : Int64) from by decide]
    show Steps p.tables e below (s₁.setTop (mkF m 21 #[.val (.int p1), .val (.int (1 : Int32)), .val (.long (1 : Int64)), .second] [(.long (10 : Int64))])) _
    refine XT.lstoreN X0.here hx rfl (hb hby at_21) rfl (l' := #[.val (.int p1), .val (.int (1 : Int32)), .val (.long (10 : Int64)), .second]) rfl ?_
    show Steps p.tables e below (s₁.setTop (mkF m 22 #[.val (.int p1), .val (.int (1 : Int32)), .val (.long (10 : Int64)), .second] [])) _
    refine XS.iloadN X0.here hx rfl (hb hby at_22) rfl ?_
    show Steps p.tables e below (s₁.setTop (mkF m 23 #[.val (.int p1), .val (.int (1 : Int32)), .val (.long (10 : Int64)), .second] [(.int (1 : Int32))])) _
    refine XT.iconstV X0.here hx rfl (2 : Int32) (hb hby at_23) rfl ?_
    show Steps p.tables e below (s₁.setTop (mkF m 24 #[.val (.int p1), .val (.int (1 : Int32)), .val (.long (10 : Int64)), .second] [(.int (2 : Int32)), (.int (1 : Int32))])) _
    refine XS.iand X0.here hx rfl (hb hby at_24) rfl ?_
    rw [show ((1 : Int32) &&& (2 : Int32)) = (0 : Int32) from by decide]
    show Steps p.tables e below (s₁.setTop (mkF m 25 #[.val (.int p1), .val (.int (1 : Int32)), .val (.long (10 : Int64)), .second] [(.int (0 : Int32))])) _
    refine XS.ifYes X0.here hx rfl (pc0 := 25) (pc' := 34) rfl (hb hby at_25) rfl (by decide) (by decide) (by decide) ?_
    show Steps p.tables e below (s₁.setTop (mkF m 34 #[.val (.int p1), .val (.int (1 : Int32)), .val (.long (10 : Int64)), .second] [])) _
    refine XS.iloadN X0.here hx rfl (hb hby at_34) rfl ?_
    show Steps p.tables e below (s₁.setTop (mkF m 35 #[.val (.int p1), .val (.int (1 : Int32)), .val (.long (10 : Int64)), .second] [(.int (1 : Int32))])) _
    refine XT.iconstV X0.here hx rfl (4 : Int32) (hb hby at_35) rfl ?_
    show Steps p.tables e below (s₁.setTop (mkF m 36 #[.val (.int p1), .val (.int (1 : Int32)), .val (.long (10 : Int64)), .second] [(.int (4 : Int32)), (.int (1 : Int32))])) _
    refine XS.iand X0.here hx rfl (hb hby at_36) rfl ?_
    rw [show ((1 : Int32) &&& (4 : Int32)) = (0 : Int32) from by decide]
    show Steps p.tables e below (s₁.setTop (mkF m 37 #[.val (.int p1), .val (.int (1 : Int32)), .val (.long (10 : Int64)), .second] [(.int (0 : Int32))])) _
    refine XS.ifYes X0.here hx rfl (pc0 := 37) (pc' := 46) rfl (hb hby at_37) rfl (by decide) (by decide) (by decide) ?_
    show Steps p.tables e below (s₁.setTop (mkF m 46 #[.val (.int p1), .val (.int (1 : Int32)), .val (.long (10 : Int64)), .second] [])) _
    refine XS.iloadN X0.here hx rfl (hb hby at_46) rfl ?_
    show Steps p.tables e below (s₁.setTop (mkF m 47 #[.val (.int p1), .val (.int (1 : Int32)), .val (.long (10 : Int64)), .second] [(.int (1 : Int32))])) _
    refine XT.bipushV X0.here hx rfl (8 : Int32) (hb hby at_47) (by decide) ?_
    show Steps p.tables e below (s₁.setTop (mkF m 49 #[.val (.int p1), .val (.int (1 : Int32)), .val (.long (10 : Int64)), .second] [(.int (8 : Int32)), (.int (1 : Int32))])) _
    refine XS.iand X0.here hx rfl (hb hby at_49) rfl ?_
    rw [show ((1 : Int32) &&& (8 : Int32)) = (0 : Int32) from by decide]
    show Steps p.tables e below (s₁.setTop (mkF m 50 #[.val (.int p1), .val (.int (1 : Int32)), .val (.long (10 : Int64)), .second] [(.int (0 : Int32))])) _
    refine XS.ifYes X0.here hx rfl (pc0 := 50) (pc' := 59) rfl (hb hby at_50) rfl (by decide) (by decide) (by decide) ?_
    show Steps p.tables e below (s₁.setTop (mkF m 59 #[.val (.int p1), .val (.int (1 : Int32)), .val (.long (10 : Int64)), .second] [])) _
    refine XS.iloadN X0.here hx rfl (hb hby at_59) rfl ?_
    show Steps p.tables e below (s₁.setTop (mkF m 60 #[.val (.int p1), .val (.int (1 : Int32)), .val (.long (10 : Int64)), .second] [(.int (1 : Int32))])) _
    refine XT.bipushV X0.here hx rfl (16 : Int32) (hb hby at_60) (by decide) ?_
    show Steps p.tables e below (s₁.setTop (mkF m 62 #[.val (.int p1), .val (.int (1 : Int32)), .val (.long (10 : Int64)), .second] [(.int (16 : Int32)), (.int (1 : Int32))])) _
    refine XS.iand X0.here hx rfl (hb hby at_62) rfl ?_
    rw [show ((1 : Int32) &&& (16 : Int32)) = (0 : Int32) from by decide]
    show Steps p.tables e below (s₁.setTop (mkF m 63 #[.val (.int p1), .val (.int (1 : Int32)), .val (.long (10 : Int64)), .second] [(.int (0 : Int32))])) _
    refine XS.ifYes X0.here hx rfl (pc0 := 63) (pc' := 72) rfl (hb hby at_63) rfl (by decide) (by decide) (by decide) ?_
    show Steps p.tables e below (s₁.setTop (mkF m 72 #[.val (.int p1), .val (.int (1 : Int32)), .val (.long (10 : Int64)), .second] [])) _
    refine XS.iloadN X0.here hx rfl (hb hby at_72) rfl ?_
    show Steps p.tables e below (s₁.setTop (mkF m 73 #[.val (.int p1), .val (.int (1 : Int32)), .val (.long (10 : Int64)), .second] [(.int (1 : Int32))])) _
    refine st40 _ ?_
    show Steps p.tables e below (T40.setTop (mkF m 76 #[.val (.int p1), .val (.int (1 : Int32)), .val (.long (10 : Int64)), .second] [(.long (10 : Int64))])) _
    refine XT.lloadN X40.here hx rfl (hb hby at_76) rfl ?_
    show Steps p.tables e below (T40.setTop (mkF m 77 #[.val (.int p1), .val (.int (1 : Int32)), .val (.long (10 : Int64)), .second] [(.long (10 : Int64)), (.long (10 : Int64))])) _
    refine XT.lcmp X40.here hx rfl (hb hby at_77) rfl ?_
    show Steps p.tables e below (T40.setTop (mkF m 78 #[.val (.int p1), .val (.int (1 : Int32)), .val (.long (10 : Int64)), .second] [(.int (XT.cmpL (10 : Int64) (10 : Int64)))])) _
    refine XS.ifNo X40.here hx rfl (hb hby at_78) rfl (XT.ll_ne_f (by decide)) ?_
    show Steps p.tables e below (T40.setTop (mkF m 81 #[.val (.int p1), .val (.int (1 : Int32)), .val (.long (10 : Int64)), .second] [])) _
    refine XT.iconstV X40.here hx rfl (1 : Int32) (hb hby at_81) rfl ?_
    show Steps p.tables e below (T40.setTop (mkF m 82 #[.val (.int p1), .val (.int (1 : Int32)), .val (.long (10 : Int64)), .second] [(.int (1 : Int32))])) _
    refine XS.goto X40.here hx rfl (pc0 := 82) (pc' := 86) rfl (hb hby at_82) (by decide) (by decide) ?_
    show Steps p.tables e below (T40.setTop (mkF m 86 #[.val (.int p1), .val (.int (1 : Int32)), .val (.long (10 : Int64)), .second] [(.int (1 : Int32))])) _
    exact retN X40 hx (t := .boolean) Bd.returns (by simp) (hb hby at_86) hr
  · show own_Q0 n0 _ T40.heap _
    exact ⟨rfl, N40⟩
set_option maxRecDepth 65536 in
set_option maxHeartbeats 40000000 in
theorem own_law_2 (l : Launch) (Z : State) (a0 : Array Value) (hw : ∀ d ∈ tables_1, d.before a0 Z = true) (ws : List Jvm.Cond) (p1 : Int32) (w0 : Addr) (cl : Cell) (h0 : Heap) (n0 : Nat) (Z0 : n0 ≤ h0.size) (P : own_P Z h0 w0 cl) (hk : ((p1 &&& (2147483647 : Int32)) % (19 : Int32)) = (2 : Int32)) :
    MetFree l x (head1 (Jvm.Cond.code x code maxLocals ret :: ws) room_1) (fun a U => a = #[(.int p1)] ∧ Z.Warmed39 U.vm ∧ U.heap = h0) (fun _ _ _ _ _ => True) (fun _ U o U' => ∃ v L, o = .returned v ∧ own_Q0 n0 v U'.heap L ∧ FrameEnd U o U' L room_1.cells room_1.slots) := by
  refine MetFree.of_bodySF (plainFor_of_name pn_com_example_tranchor_tranchor_FractionPowerOfTenPinLaw) hisR ?_
  intro p e s m args below meth c s₁ Bd hml0 hP hK
  obtain ⟨rfl, hZ, hh⟩ := hP
  have hx := Bd.exec
  have hby := Bd.bytes
  have hml : c.maxLocals = 4 := hml0
  have hown : s.vm.findClass "com/example/tranchor/tranchor/FractionPowerOfTenPinLaw" = some m.cls := findClass_of_methodNamed Bd.named
  have hnm := (name_of_methodNamed Bd.named Bd.method).1
  have X0 : Stand p l e room_1 s m #[(.int p1)] below meth c s₁ [] 0 0 := Stand.of_body Bd
  have e0 : s₁.heap = h0 := by rw [← hh, Bd.state]; rfl
  have N0 := Fr.nil n0
  have pre0 : ∀ t, Steps p.tables e below (s₁.setTop (mkF m 0 #[.val (.int p1), .unset, .unset, .unset] [])) t → Steps p.tables e below (s₁.setTop (entryFrame m #[(.int p1)] maxLocals)) t := fun t k => castTop (ef_code_I m p1) k
  obtain ⟨_, _, ⟨T41, L41, k41, n41⟩, -, X41, ⟨Lc41, hQ41, l41, y41, z41⟩, st41⟩ := Jvm.LawKit.callS X0 hx (y := (⟨"com/example/tranchor/tranchor/Fraction", "powerOfTen", "(I)J"⟩ : MethodName)) hown (mvT hZ (hw _ (List.mem_of_getElem? (i := 1) rfl))) (mvT hZ (hw _ (List.mem_of_getElem? (i := 2) rfl))) (mvT hZ (hw _ (List.mem_of_getElem? (i := 3) rfl))) (mvT hZ (hw _ (List.mem_of_getElem? (i := 4) rfl))) (by decide) (backOf (W := 0) (own_pow_2 l Z a0 hw [] w0 cl h0 n0 Z0 P) hZ (hw _ (List.mem_of_getElem? (i := 4) rfl)) (hw _ (List.mem_of_getElem? (i := 3) rfl)) (by decide) (by decide)) (g := (mkF m 73 #[.val (.int p1), .val (.int (2 : Int32)), .val (.long (100 : Int64)), .second] [(.int (2 : Int32))])) rfl (by rw [hml]; rfl) (argsL := [(.int (2 : Int32))]) (rest := []) (lenOf pd__I_J rfl) rfl (by show 2 * 0 + _ ≤ _; exact Nat.le_of_eq rfl) (hb hby at_73) (fun _ _ => ⟨rfl, e0, (by decide : 0 + 0 ≤ _), (by decide : 0 + 0 ≤ _)⟩)
  dsimp only [Pt.U, Pt.locs, Pt.cells, Pt.slots] at X41 l41 y41 z41 st41 hQ41
  subst l41 y41 z41
  obtain ⟨rfl, N41q, e41⟩ := hQ41
  have N41 := Fr.app N0 N41q
  obtain ⟨fs, hr, hrun, hended, hW, hsame⟩ := X41.leave (v := some (.int (1 : Int32))) (fun h => by rw [Bd.returns] at h; cases h)
  refine ⟨_, _, pre0 _ ?_, hrun, hended, _, _, rfl, ?_, ⟨_, rfl⟩, hW, hsame.mono (by decide) (by decide)⟩
  · show Steps p.tables e below (s₁.setTop (mkF m 0 #[.val (.int p1), .unset, .unset, .unset] [])) _
    refine XS.iloadN X0.here hx rfl (hb hby at_0) rfl ?_
    show Steps p.tables e below (s₁.setTop (mkF m 1 #[.val (.int p1), .unset, .unset, .unset] [(.int p1)])) _
    refine Jvm.Stand.ldcI X0 hx hown (mvT hZ (hw _ (List.mem_of_getElem? (i := 0) rfl))) rfl (hb hby at_1) ?_
    show Steps p.tables e below (s₁.setTop (mkF m 3 #[.val (.int p1), .unset, .unset, .unset] [(.int (2147483647 : Int32)), (.int p1)])) _
    refine XS.iand X0.here hx rfl (hb hby at_3) rfl ?_
    show Steps p.tables e below (s₁.setTop (mkF m 4 #[.val (.int p1), .unset, .unset, .unset] [(.int (p1 &&& (2147483647 : Int32)))])) _
    refine XT.bipushV X0.here hx rfl (19 : Int32) (hb hby at_4) (by decide) ?_
    show Steps p.tables e below (s₁.setTop (mkF m 6 #[.val (.int p1), .unset, .unset, .unset] [(.int (19 : Int32)), (.int (p1 &&& (2147483647 : Int32)))])) _
    refine iremM X0 hx rfl (hb hby at_6) rfl (by decide) ?_
    show Steps p.tables e below (s₁.setTop (mkF m 7 #[.val (.int p1), .unset, .unset, .unset] [(.int ((p1 &&& (2147483647 : Int32)) % (19 : Int32)))])) _
    rw [hk]
    show Steps p.tables e below (s₁.setTop (mkF m 7 #[.val (.int p1), .unset, .unset, .unset] [(.int (2 : Int32))])) _
    refine XS.istoreN X0.here hx rfl (hb hby at_7) rfl (l' := #[.val (.int p1), .val (.int (2 : Int32)), .unset, .unset]) rfl ?_
    show Steps p.tables e below (s₁.setTop (mkF m 8 #[.val (.int p1), .val (.int (2 : Int32)), .unset, .unset] [])) _
    refine XT.lconstV X0.here hx rfl (1 : Int64) (hb hby at_8) rfl ?_
    show Steps p.tables e below (s₁.setTop (mkF m 9 #[.val (.int p1), .val (.int (2 : Int32)), .unset, .unset] [(.long (1 : Int64))])) _
    refine XT.lstoreN X0.here hx rfl (hb hby at_9) rfl (l' := #[.val (.int p1), .val (.int (2 : Int32)), .val (.long (1 : Int64)), .second]) rfl ?_
    show Steps p.tables e below (s₁.setTop (mkF m 10 #[.val (.int p1), .val (.int (2 : Int32)), .val (.long (1 : Int64)), .second] [])) _
    refine XS.iloadN X0.here hx rfl (hb hby at_10) rfl ?_
    show Steps p.tables e below (s₁.setTop (mkF m 11 #[.val (.int p1), .val (.int (2 : Int32)), .val (.long (1 : Int64)), .second] [(.int (2 : Int32))])) _
    refine XT.iconstV X0.here hx rfl (1 : Int32) (hb hby at_11) rfl ?_
    show Steps p.tables e below (s₁.setTop (mkF m 12 #[.val (.int p1), .val (.int (2 : Int32)), .val (.long (1 : Int64)), .second] [(.int (1 : Int32)), (.int (2 : Int32))])) _
    refine XS.iand X0.here hx rfl (hb hby at_12) rfl ?_
    rw [show ((2 : Int32) &&& (1 : Int32)) = (0 : Int32) from by decide]
    show Steps p.tables e below (s₁.setTop (mkF m 13 #[.val (.int p1), .val (.int (2 : Int32)), .val (.long (1 : Int64)), .second] [(.int (0 : Int32))])) _
    refine XS.ifYes X0.here hx rfl (pc0 := 13) (pc' := 22) rfl (hb hby at_13) rfl (by decide) (by decide) (by decide) ?_
    show Steps p.tables e below (s₁.setTop (mkF m 22 #[.val (.int p1), .val (.int (2 : Int32)), .val (.long (1 : Int64)), .second] [])) _
    refine XS.iloadN X0.here hx rfl (hb hby at_22) rfl ?_
    show Steps p.tables e below (s₁.setTop (mkF m 23 #[.val (.int p1), .val (.int (2 : Int32)), .val (.long (1 : Int64)), .second] [(.int (2 : Int32))])) _
    refine XT.iconstV X0.here hx rfl (2 : Int32) (hb hby at_23) rfl ?_
    show Steps p.tables e below (s₁.setTop (mkF m 24 #[.val (.int p1), .val (.int (2 : Int32)), .val (.long (1 : Int64)), .second] [(.int (2 : Int32)), (.int (2 : Int32))])) _
    refine XS.iand X0.here hx rfl (hb hby at_24) rfl ?_
    rw [show ((2 : Int32) &&& (2 : Int32)) = (2 : Int32) from by decide]
    show Steps p.tables e below (s₁.setTop (mkF m 25 #[.val (.int p1), .val (.int (2 : Int32)), .val (.long (1 : Int64)), .second] [(.int (2 : Int32))])) _
    refine XS.ifNo X0.here hx rfl (hb hby at_25) rfl (by decide) ?_
    show Steps p.tables e below (s₁.setTop (mkF m 28 #[.val (.int p1), .val (.int (2 : Int32)), .val (.long (1 : Int64)), .second] [])) _
    refine XT.lloadN X0.here hx rfl (hb hby at_28) rfl ?_
    show Steps p.tables e below (s₁.setTop (mkF m 29 #[.val (.int p1), .val (.int (2 : Int32)), .val (.long (1 : Int64)), .second] [(.long (1 : Int64))])) _
    refine Jvm.Stand.ldc2J X0 hx hown (mvT hZ (hw _ (List.mem_of_getElem? (i := 8) rfl))) rfl (hb hby at_29) ?_
    show Steps p.tables e below (s₁.setTop (mkF m 32 #[.val (.int p1), .val (.int (2 : Int32)), .val (.long (1 : Int64)), .second] [(.long (100 : Int64)), (.long (1 : Int64))])) _
    refine XT.lmul X0.here hx rfl (hb hby at_32) rfl ?_
    rw [show ((1 : Int64) * (100 : Int64)) = (100 : Int64) from by decide]
    show Steps p.tables e below (s₁.setTop (mkF m 33 #[.val (.int p1), .val (.int (2 : Int32)), .val (.long (1 : Int64)), .second] [(.long (100 : Int64))])) _
    refine XT.lstoreN X0.here hx rfl (hb hby at_33) rfl (l' := #[.val (.int p1), .val (.int (2 : Int32)), .val (.long (100 : Int64)), .second]) rfl ?_
    show Steps p.tables e below (s₁.setTop (mkF m 34 #[.val (.int p1), .val (.int (2 : Int32)), .val (.long (100 : Int64)), .second] [])) _
    refine XS.iloadN X0.here hx rfl (hb hby at_34) rfl ?_
    show Steps p.tables e below (s₁.setTop (mkF m 35 #[.val (.int p1), .val (.int (2 : Int32)), .val (.long (100 : Int64)), .second] [(.int (2 : Int32))])) _
    refine XT.iconstV X0.here hx rfl (4 : Int32) (hb hby at_35) rfl ?_
    show Steps p.tables e below (s₁.setTop (mkF m 36 #[.val (.int p1), .val (.int (2 : Int32)), .val (.long (100 : Int64)), .second] [(.int (4 : Int32)), (.int (2 : Int32))])) _
    refine XS.iand X0.here hx rfl (hb hby at_36) rfl ?_
    rw [show ((2 : Int32) &&& (4 : Int32)) = (0 : Int32) from by decide]
    show Steps p.tables e below (s₁.setTop (mkF m 37 #[.val (.int p1), .val (.int (2 : Int32)), .val (.long (100 : Int64)), .second] [(.int (0 : Int32))])) _
    refine XS.ifYes X0.here hx rfl (pc0 := 37) (pc' := 46) rfl (hb hby at_37) rfl (by decide) (by decide) (by decide) ?_
    show Steps p.tables e below (s₁.setTop (mkF m 46 #[.val (.int p1), .val (.int (2 : Int32)), .val (.long (100 : Int64)), .second] [])) _
    refine XS.iloadN X0.here hx rfl (hb hby at_46) rfl ?_
    show Steps p.tables e below (s₁.setTop (mkF m 47 #[.val (.int p1), .val (.int (2 : Int32)), .val (.long (100 : Int64)), .second] [(.int (2 : Int32))])) _
    refine XT.bipushV X0.here hx rfl (8 : Int32) (hb hby at_47) (by decide) ?_
    show Steps p.tables e below (s₁.setTop (mkF m 49 #[.val (.int p1), .val (.int (2 : Int32)), .val (.long (100 : Int64)), .second] [(.int (8 : Int32)), (.int (2 : Int32))])) _
    refine XS.iand X0.here hx rfl (hb hby at_49) rfl ?_
    rw [show ((2 : Int32) &&& (8 : Int32)) = (0 : Int32) from by decide]
    show Steps p.tables e below (s₁.setTop (mkF m 50 #[.val (.int p1), .val (.int (2 : Int32)), .val (.long (100 : Int64)), .second] [(.int (0 : Int32))])) _
    refine XS.ifYes X0.here hx rfl (pc0 := 50) (pc' := 59) rfl (hb hby at_50) rfl (by decide) (by decide) (by decide) ?_
    show Steps p.tables e below (s₁.setTop (mkF m 59 #[.val (.int p1), .val (.int (2 : Int32)), .val (.long (100 : Int64)), .second] [])) _
    refine XS.iloadN X0.here hx rfl (hb hby at_59) rfl ?_
    show Steps p.tables e below (s₁.setTop (mkF m 60 #[.val (.int p1), .val (.int (2 : Int32)), .val (.long (100 : Int64)), .second] [(.int (2 : Int32))])) _
    refine XT.bipushV X0.here hx rfl (16 : Int32) (hb hby at_60) (by decide) ?_
    show Steps p.tables e below (s₁.setTop (mkF m 62 #[.val (.int p1), .val (.int (2 : Int32)), .val (.long (100 : Int64)), .second] [(.int (16 : Int32)), (.int (2 : Int32))])) _
    refine XS.iand X0.here hx rfl (hb hby at_62) rfl ?_
    rw [show ((2 : Int32) &&& (16 : Int32)) = (0 : Int32) from by decide]
    show Steps p.tables e below (s₁.setTop (mkF m 63 #[.val (.int p1), .val (.int (2 : Int32)), .val (.long (100 : Int64)), .second] [(.int (0 : Int32))])) _
    refine XS.ifYes X0.here hx rfl (pc0 := 63) (pc' := 72) rfl (hb hby at_63) rfl (by decide) (by decide) (by decide) ?_
    show Steps p.tables e below (s₁.setTop (mkF m 72 #[.val (.int p1), .val (.int (2 : Int32)), .val (.long (100 : Int64)), .second] [])) _
    refine XS.iloadN X0.here hx rfl (hb hby at_72) rfl ?_
    show Steps p.tables e below (s₁.setTop (mkF m 73 #[.val (.int p1), .val (.int (2 : Int32)), .val (.long (100 : Int64)), .second] [(.int (2 : Int32))])) _
    refine st41 _ ?_
    show Steps p.tables e below (T41.setTop (mkF m 76 #[.val (.int p1), .val (.int (2 : Int32)), .val (.long (100 : Int64)), .second] [(.long (100 : Int64))])) _
    refine XT.lloadN X41.here hx rfl (hb hby at_76) rfl ?_
    show Steps p.tables e below (T41.setTop (mkF m 77 #[.val (.int p1), .val (.int (2 : Int32)), .val (.long (100 : Int64)), .second] [(.long (100 : Int64)), (.long (100 : Int64))])) _
    refine XT.lcmp X41.here hx rfl (hb hby at_77) rfl ?_
    show Steps p.tables e below (T41.setTop (mkF m 78 #[.val (.int p1), .val (.int (2 : Int32)), .val (.long (100 : Int64)), .second] [(.int (XT.cmpL (100 : Int64) (100 : Int64)))])) _
    refine XS.ifNo X41.here hx rfl (hb hby at_78) rfl (XT.ll_ne_f (by decide)) ?_
    show Steps p.tables e below (T41.setTop (mkF m 81 #[.val (.int p1), .val (.int (2 : Int32)), .val (.long (100 : Int64)), .second] [])) _
    refine XT.iconstV X41.here hx rfl (1 : Int32) (hb hby at_81) rfl ?_
    show Steps p.tables e below (T41.setTop (mkF m 82 #[.val (.int p1), .val (.int (2 : Int32)), .val (.long (100 : Int64)), .second] [(.int (1 : Int32))])) _
    refine XS.goto X41.here hx rfl (pc0 := 82) (pc' := 86) rfl (hb hby at_82) (by decide) (by decide) ?_
    show Steps p.tables e below (T41.setTop (mkF m 86 #[.val (.int p1), .val (.int (2 : Int32)), .val (.long (100 : Int64)), .second] [(.int (1 : Int32))])) _
    exact retN X41 hx (t := .boolean) Bd.returns (by simp) (hb hby at_86) hr
  · show own_Q0 n0 _ T41.heap _
    exact ⟨rfl, N41⟩
set_option maxRecDepth 65536 in
set_option maxHeartbeats 40000000 in
theorem own_law_3 (l : Launch) (Z : State) (a0 : Array Value) (hw : ∀ d ∈ tables_1, d.before a0 Z = true) (ws : List Jvm.Cond) (p1 : Int32) (w0 : Addr) (cl : Cell) (h0 : Heap) (n0 : Nat) (Z0 : n0 ≤ h0.size) (P : own_P Z h0 w0 cl) (hk : ((p1 &&& (2147483647 : Int32)) % (19 : Int32)) = (3 : Int32)) :
    MetFree l x (head1 (Jvm.Cond.code x code maxLocals ret :: ws) room_1) (fun a U => a = #[(.int p1)] ∧ Z.Warmed39 U.vm ∧ U.heap = h0) (fun _ _ _ _ _ => True) (fun _ U o U' => ∃ v L, o = .returned v ∧ own_Q0 n0 v U'.heap L ∧ FrameEnd U o U' L room_1.cells room_1.slots) := by
  refine MetFree.of_bodySF (plainFor_of_name pn_com_example_tranchor_tranchor_FractionPowerOfTenPinLaw) hisR ?_
  intro p e s m args below meth c s₁ Bd hml0 hP hK
  obtain ⟨rfl, hZ, hh⟩ := hP
  have hx := Bd.exec
  have hby := Bd.bytes
  have hml : c.maxLocals = 4 := hml0
  have hown : s.vm.findClass "com/example/tranchor/tranchor/FractionPowerOfTenPinLaw" = some m.cls := findClass_of_methodNamed Bd.named
  have hnm := (name_of_methodNamed Bd.named Bd.method).1
  have X0 : Stand p l e room_1 s m #[(.int p1)] below meth c s₁ [] 0 0 := Stand.of_body Bd
  have e0 : s₁.heap = h0 := by rw [← hh, Bd.state]; rfl
  have N0 := Fr.nil n0
  have pre0 : ∀ t, Steps p.tables e below (s₁.setTop (mkF m 0 #[.val (.int p1), .unset, .unset, .unset] [])) t → Steps p.tables e below (s₁.setTop (entryFrame m #[(.int p1)] maxLocals)) t := fun t k => castTop (ef_code_I m p1) k
  obtain ⟨_, _, ⟨T42, L42, k42, n42⟩, -, X42, ⟨Lc42, hQ42, l42, y42, z42⟩, st42⟩ := Jvm.LawKit.callS X0 hx (y := (⟨"com/example/tranchor/tranchor/Fraction", "powerOfTen", "(I)J"⟩ : MethodName)) hown (mvT hZ (hw _ (List.mem_of_getElem? (i := 1) rfl))) (mvT hZ (hw _ (List.mem_of_getElem? (i := 2) rfl))) (mvT hZ (hw _ (List.mem_of_getElem? (i := 3) rfl))) (mvT hZ (hw _ (List.mem_of_getElem? (i := 4) rfl))) (by decide) (backOf (W := 0) (own_pow_3 l Z a0 hw [] w0 cl h0 n0 Z0 P) hZ (hw _ (List.mem_of_getElem? (i := 4) rfl)) (hw _ (List.mem_of_getElem? (i := 3) rfl)) (by decide) (by decide)) (g := (mkF m 73 #[.val (.int p1), .val (.int (3 : Int32)), .val (.long (1000 : Int64)), .second] [(.int (3 : Int32))])) rfl (by rw [hml]; rfl) (argsL := [(.int (3 : Int32))]) (rest := []) (lenOf pd__I_J rfl) rfl (by show 2 * 0 + _ ≤ _; exact Nat.le_of_eq rfl) (hb hby at_73) (fun _ _ => ⟨rfl, e0, (by decide : 0 + 0 ≤ _), (by decide : 0 + 0 ≤ _)⟩)
  dsimp only [Pt.U, Pt.locs, Pt.cells, Pt.slots] at X42 l42 y42 z42 st42 hQ42
  subst l42 y42 z42
  obtain ⟨rfl, N42q, e42⟩ := hQ42
  have N42 := Fr.app N0 N42q
  obtain ⟨fs, hr, hrun, hended, hW, hsame⟩ := X42.leave (v := some (.int (1 : Int32))) (fun h => by rw [Bd.returns] at h; cases h)
  refine ⟨_, _, pre0 _ ?_, hrun, hended, _, _, rfl, ?_, ⟨_, rfl⟩, hW, hsame.mono (by decide) (by decide)⟩
  · show Steps p.tables e below (s₁.setTop (mkF m 0 #[.val (.int p1), .unset, .unset, .unset] [])) _
    refine XS.iloadN X0.here hx rfl (hb hby at_0) rfl ?_
    show Steps p.tables e below (s₁.setTop (mkF m 1 #[.val (.int p1), .unset, .unset, .unset] [(.int p1)])) _
    refine Jvm.Stand.ldcI X0 hx hown (mvT hZ (hw _ (List.mem_of_getElem? (i := 0) rfl))) rfl (hb hby at_1) ?_
    show Steps p.tables e below (s₁.setTop (mkF m 3 #[.val (.int p1), .unset, .unset, .unset] [(.int (2147483647 : Int32)), (.int p1)])) _
    refine XS.iand X0.here hx rfl (hb hby at_3) rfl ?_
    show Steps p.tables e below (s₁.setTop (mkF m 4 #[.val (.int p1), .unset, .unset, .unset] [(.int (p1 &&& (2147483647 : Int32)))])) _
    refine XT.bipushV X0.here hx rfl (19 : Int32) (hb hby at_4) (by decide) ?_
    show Steps p.tables e below (s₁.setTop (mkF m 6 #[.val (.int p1), .unset, .unset, .unset] [(.int (19 : Int32)), (.int (p1 &&& (2147483647 : Int32)))])) _
    refine iremM X0 hx rfl (hb hby at_6) rfl (by decide) ?_
    show Steps p.tables e below (s₁.setTop (mkF m 7 #[.val (.int p1), .unset, .unset, .unset] [(.int ((p1 &&& (2147483647 : Int32)) % (19 : Int32)))])) _
    rw [hk]
    show Steps p.tables e below (s₁.setTop (mkF m 7 #[.val (.int p1), .unset, .unset, .unset] [(.int (3 : Int32))])) _
    refine XS.istoreN X0.here hx rfl (hb hby at_7) rfl (l' := #[.val (.int p1), .val (.int (3 : Int32)), .unset, .unset]) rfl ?_
    show Steps p.tables e below (s₁.setTop (mkF m 8 #[.val (.int p1), .val (.int (3 : Int32)), .unset, .unset] [])) _
    refine XT.lconstV X0.here hx rfl (1 : Int64) (hb hby at_8) rfl ?_
    show Steps p.tables e below (s₁.setTop (mkF m 9 #[.val (.int p1), .val (.int (3 : Int32)), .unset, .unset] [(.long (1 : Int64))])) _
    refine XT.lstoreN X0.here hx rfl (hb hby at_9) rfl (l' := #[.val (.int p1), .val (.int (3 : Int32)), .val (.long (1 : Int64)), .second]) rfl ?_
    show Steps p.tables e below (s₁.setTop (mkF m 10 #[.val (.int p1), .val (.int (3 : Int32)), .val (.long (1 : Int64)), .second] [])) _
    refine XS.iloadN X0.here hx rfl (hb hby at_10) rfl ?_
    show Steps p.tables e below (s₁.setTop (mkF m 11 #[.val (.int p1), .val (.int (3 : Int32)), .val (.long (1 : Int64)), .second] [(.int (3 : Int32))])) _
    refine XT.iconstV X0.here hx rfl (1 : Int32) (hb hby at_11) rfl ?_
    show Steps p.tables e below (s₁.setTop (mkF m 12 #[.val (.int p1), .val (.int (3 : Int32)), .val (.long (1 : Int64)), .second] [(.int (1 : Int32)), (.int (3 : Int32))])) _
    refine XS.iand X0.here hx rfl (hb hby at_12) rfl ?_
    rw [show ((3 : Int32) &&& (1 : Int32)) = (1 : Int32) from by decide]
    show Steps p.tables e below (s₁.setTop (mkF m 13 #[.val (.int p1), .val (.int (3 : Int32)), .val (.long (1 : Int64)), .second] [(.int (1 : Int32))])) _
    refine XS.ifNo X0.here hx rfl (hb hby at_13) rfl (by decide) ?_
    show Steps p.tables e below (s₁.setTop (mkF m 16 #[.val (.int p1), .val (.int (3 : Int32)), .val (.long (1 : Int64)), .second] [])) _
    refine XT.lloadN X0.here hx rfl (hb hby at_16) rfl ?_
    show Steps p.tables e below (s₁.setTop (mkF m 17 #[.val (.int p1), .val (.int (3 : Int32)), .val (.long (1 : Int64)), .second] [(.long (1 : Int64))])) _
    refine Jvm.Stand.ldc2J X0 hx hown (mvT hZ (hw _ (List.mem_of_getElem? (i := 7) rfl))) rfl (hb hby at_17) ?_
    show Steps p.tables e below (s₁.setTop (mkF m 20 #[.val (.int p1), .val (.int (3 : Int32)), .val (.long (1 : Int64)), .second] [(.long (10 : Int64)), (.long (1 : Int64))])) _
    refine XT.lmul X0.here hx rfl (hb hby at_20) rfl ?_
    rw [show ((1 : Int64) * (10 : Int64)) = (10 : Int64) from by decide]
    show Steps p.tables e below (s₁.setTop (mkF m 21 #[.val (.int p1), .val (.int (3 : Int32)), .val (.long (1 : Int64)), .second] [(.long (10 : Int64))])) _
    refine XT.lstoreN X0.here hx rfl (hb hby at_21) rfl (l' := #[.val (.int p1), .val (.int (3 : Int32)), .val (.long (10 : Int64)), .second]) rfl ?_
    show Steps p.tables e below (s₁.setTop (mkF m 22 #[.val (.int p1), .val (.int (3 : Int32)), .val (.long (10 : Int64)), .second] [])) _
    refine XS.iloadN X0.here hx rfl (hb hby at_22) rfl ?_
    show Steps p.tables e below (s₁.setTop (mkF m 23 #[.val (.int p1), .val (.int (3 : Int32)), .val (.long (10 : Int64)), .second] [(.int (3 : Int32))])) _
    refine XT.iconstV X0.here hx rfl (2 : Int32) (hb hby at_23) rfl ?_
    show Steps p.tables e below (s₁.setTop (mkF m 24 #[.val (.int p1), .val (.int (3 : Int32)), .val (.long (10 : Int64)), .second] [(.int (2 : Int32)), (.int (3 : Int32))])) _
    refine XS.iand X0.here hx rfl (hb hby at_24) rfl ?_
    rw [show ((3 : Int32) &&& (2 : Int32)) = (2 : Int32) from by decide]
    show Steps p.tables e below (s₁.setTop (mkF m 25 #[.val (.int p1), .val (.int (3 : Int32)), .val (.long (10 : Int64)), .second] [(.int (2 : Int32))])) _
    refine XS.ifNo X0.here hx rfl (hb hby at_25) rfl (by decide) ?_
    show Steps p.tables e below (s₁.setTop (mkF m 28 #[.val (.int p1), .val (.int (3 : Int32)), .val (.long (10 : Int64)), .second] [])) _
    refine XT.lloadN X0.here hx rfl (hb hby at_28) rfl ?_
    show Steps p.tables e below (s₁.setTop (mkF m 29 #[.val (.int p1), .val (.int (3 : Int32)), .val (.long (10 : Int64)), .second] [(.long (10 : Int64))])) _
    refine Jvm.Stand.ldc2J X0 hx hown (mvT hZ (hw _ (List.mem_of_getElem? (i := 8) rfl))) rfl (hb hby at_29) ?_
    show Steps p.tables e below (s₁.setTop (mkF m 32 #[.val (.int p1), .val (.int (3 : Int32)), .val (.long (10 : Int64)), .second] [(.long (100 : Int64)), (.long (10 : Int64))])) _
    refine XT.lmul X0.here hx rfl (hb hby at_32) rfl ?_
    rw [show ((10 : Int64) * (100 : Int64)) = (1000 : Int64) from by decide]
    show Steps p.tables e below (s₁.setTop (mkF m 33 #[.val (.int p1), .val (.int (3 : Int32)), .val (.long (10 : Int64)), .second] [(.long (1000 : Int64))])) _
    refine XT.lstoreN X0.here hx rfl (hb hby at_33) rfl (l' := #[.val (.int p1), .val (.int (3 : Int32)), .val (.long (1000 : Int64)), .second]) rfl ?_
    show Steps p.tables e below (s₁.setTop (mkF m 34 #[.val (.int p1), .val (.int (3 : Int32)), .val (.long (1000 : Int64)), .second] [])) _
    refine XS.iloadN X0.here hx rfl (hb hby at_34) rfl ?_
    show Steps p.tables e below (s₁.setTop (mkF m 35 #[.val (.int p1), .val (.int (3 : Int32)), .val (.long (1000 : Int64)), .second] [(.int (3 : Int32))])) _
    refine XT.iconstV X0.here hx rfl (4 : Int32) (hb hby at_35) rfl ?_
    show Steps p.tables e below (s₁.setTop (mkF m 36 #[.val (.int p1), .val (.int (3 : Int32)), .val (.long (1000 : Int64)), .second] [(.int (4 : Int32)), (.int (3 : Int32))])) _
    refine XS.iand X0.here hx rfl (hb hby at_36) rfl ?_
    rw [show ((3 : Int32) &&& (4 : Int32)) = (0 : Int32) from by decide]
    show Steps p.tables e below (s₁.setTop (mkF m 37 #[.val (.int p1), .val (.int (3 : Int32)), .val (.long (1000 : Int64)), .second] [(.int (0 : Int32))])) _
    refine XS.ifYes X0.here hx rfl (pc0 := 37) (pc' := 46) rfl (hb hby at_37) rfl (by decide) (by decide) (by decide) ?_
    show Steps p.tables e below (s₁.setTop (mkF m 46 #[.val (.int p1), .val (.int (3 : Int32)), .val (.long (1000 : Int64)), .second] [])) _
    refine XS.iloadN X0.here hx rfl (hb hby at_46) rfl ?_
    show Steps p.tables e below (s₁.setTop (mkF m 47 #[.val (.int p1), .val (.int (3 : Int32)), .val (.long (1000 : Int64)), .second] [(.int (3 : Int32))])) _
    refine XT.bipushV X0.here hx rfl (8 : Int32) (hb hby at_47) (by decide) ?_
    show Steps p.tables e below (s₁.setTop (mkF m 49 #[.val (.int p1), .val (.int (3 : Int32)), .val (.long (1000 : Int64)), .second] [(.int (8 : Int32)), (.int (3 : Int32))])) _
    refine XS.iand X0.here hx rfl (hb hby at_49) rfl ?_
    rw [show ((3 : Int32) &&& (8 : Int32)) = (0 : Int32) from by decide]
    show Steps p.tables e below (s₁.setTop (mkF m 50 #[.val (.int p1), .val (.int (3 : Int32)), .val (.long (1000 : Int64)), .second] [(.int (0 : Int32))])) _
    refine XS.ifYes X0.here hx rfl (pc0 := 50) (pc' := 59) rfl (hb hby at_50) rfl (by decide) (by decide) (by decide) ?_
    show Steps p.tables e below (s₁.setTop (mkF m 59 #[.val (.int p1), .val (.int (3 : Int32)), .val (.long (1000 : Int64)), .second] [])) _
    refine XS.iloadN X0.here hx rfl (hb hby at_59) rfl ?_
    show Steps p.tables e below (s₁.setTop (mkF m 60 #[.val (.int p1), .val (.int (3 : Int32)), .val (.long (1000 : Int64)), .second] [(.int (3 : Int32))])) _
    refine XT.bipushV X0.here hx rfl (16 : Int32) (hb hby at_60) (by decide) ?_
    show Steps p.tables e below (s₁.setTop (mkF m 62 #[.val (.int p1), .val (.int (3 : Int32)), .val (.long (1000 : Int64)), .second] [(.int (16 : Int32)), (.int (3 : Int32))])) _
    refine XS.iand X0.here hx rfl (hb hby at_62) rfl ?_
    rw [show ((3 : Int32) &&& (16 : Int32)) = (0 : Int32) from by decide]
    show Steps p.tables e below (s₁.setTop (mkF m 63 #[.val (.int p1), .val (.int (3 : Int32)), .val (.long (1000 : Int64)), .second] [(.int (0 : Int32))])) _
    refine XS.ifYes X0.here hx rfl (pc0 := 63) (pc' := 72) rfl (hb hby at_63) rfl (by decide) (by decide) (by decide) ?_
    show Steps p.tables e below (s₁.setTop (mkF m 72 #[.val (.int p1), .val (.int (3 : Int32)), .val (.long (1000 : Int64)), .second] [])) _
    refine XS.iloadN X0.here hx rfl (hb hby at_72) rfl ?_
    show Steps p.tables e below (s₁.setTop (mkF m 73 #[.val (.int p1), .val (.int (3 : Int32)), .val (.long (1000 : Int64)), .second] [(.int (3 : Int32))])) _
    refine st42 _ ?_
    show Steps p.tables e below (T42.setTop (mkF m 76 #[.val (.int p1), .val (.int (3 : Int32)), .val (.long (1000 : Int64)), .second] [(.long (1000 : Int64))])) _
    refine XT.lloadN X42.here hx rfl (hb hby at_76) rfl ?_
    show Steps p.tables e below (T42.setTop (mkF m 77 #[.val (.int p1), .val (.int (3 : Int32)), .val (.long (1000 : Int64)), .second] [(.long (1000 : Int64)), (.long (1000 : Int64))])) _
    refine XT.lcmp X42.here hx rfl (hb hby at_77) rfl ?_
    show Steps p.tables e below (T42.setTop (mkF m 78 #[.val (.int p1), .val (.int (3 : Int32)), .val (.long (1000 : Int64)), .second] [(.int (XT.cmpL (1000 : Int64) (1000 : Int64)))])) _
    refine XS.ifNo X42.here hx rfl (hb hby at_78) rfl (XT.ll_ne_f (by decide)) ?_
    show Steps p.tables e below (T42.setTop (mkF m 81 #[.val (.int p1), .val (.int (3 : Int32)), .val (.long (1000 : Int64)), .second] [])) _
    refine XT.iconstV X42.here hx rfl (1 : Int32) (hb hby at_81) rfl ?_
    show Steps p.tables e below (T42.setTop (mkF m 82 #[.val (.int p1), .val (.int (3 : Int32)), .val (.long (1000 : Int64)), .second] [(.int (1 : Int32))])) _
    refine XS.goto X42.here hx rfl (pc0 := 82) (pc' := 86) rfl (hb hby at_82) (by decide) (by decide) ?_
    show Steps p.tables e below (T42.setTop (mkF m 86 #[.val (.int p1), .val (.int (3 : Int32)), .val (.long (1000 : Int64)), .second] [(.int (1 : Int32))])) _
    exact retN X42 hx (t := .boolean) Bd.returns (by simp) (hb hby at_86) hr
  · show own_Q0 n0 _ T42.heap _
    exact ⟨rfl, N42⟩
set_option maxRecDepth 65536 in
set_option maxHeartbeats 40000000 in
theorem own_law_4 (l : Launch) (Z : State) (a0 : Array Value) (hw : ∀ d ∈ tables_1, d.before a0 Z = true) (ws : List Jvm.Cond) (p1 : Int32) (w0 : Addr) (cl : Cell) (h0 : Heap) (n0 : Nat) (Z0 : n0 ≤ h0.size) (P : own_P Z h0 w0 cl) (hk : ((p1 &&& (2147483647 : Int32)) % (19 : Int32)) = (4 : Int32)) :
    MetFree l x (head1 (Jvm.Cond.code x code maxLocals ret :: ws) room_1) (fun a U => a = #[(.int p1)] ∧ Z.Warmed39 U.vm ∧ U.heap = h0) (fun _ _ _ _ _ => True) (fun _ U o U' => ∃ v L, o = .returned v ∧ own_Q0 n0 v U'.heap L ∧ FrameEnd U o U' L room_1.cells room_1.slots) := by
  refine MetFree.of_bodySF (plainFor_of_name pn_com_example_tranchor_tranchor_FractionPowerOfTenPinLaw) hisR ?_
  intro p e s m args below meth c s₁ Bd hml0 hP hK
  obtain ⟨rfl, hZ, hh⟩ := hP
  have hx := Bd.exec
  have hby := Bd.bytes
  have hml : c.maxLocals = 4 := hml0
  have hown : s.vm.findClass "com/example/tranchor/tranchor/FractionPowerOfTenPinLaw" = some m.cls := findClass_of_methodNamed Bd.named
  have hnm := (name_of_methodNamed Bd.named Bd.method).1
  have X0 : Stand p l e room_1 s m #[(.int p1)] below meth c s₁ [] 0 0 := Stand.of_body Bd
  have e0 : s₁.heap = h0 := by rw [← hh, Bd.state]; rfl
  have N0 := Fr.nil n0
  have pre0 : ∀ t, Steps p.tables e below (s₁.setTop (mkF m 0 #[.val (.int p1), .unset, .unset, .unset] [])) t → Steps p.tables e below (s₁.setTop (entryFrame m #[(.int p1)] maxLocals)) t := fun t k => castTop (ef_code_I m p1) k
  obtain ⟨_, _, ⟨T43, L43, k43, n43⟩, -, X43, ⟨Lc43, hQ43, l43, y43, z43⟩, st43⟩ := Jvm.LawKit.callS X0 hx (y := (⟨"com/example/tranchor/tranchor/Fraction", "powerOfTen", "(I)J"⟩ : MethodName)) hown (mvT hZ (hw _ (List.mem_of_getElem? (i := 1) rfl))) (mvT hZ (hw _ (List.mem_of_getElem? (i := 2) rfl))) (mvT hZ (hw _ (List.mem_of_getElem? (i := 3) rfl))) (mvT hZ (hw _ (List.mem_of_getElem? (i := 4) rfl))) (by decide) (backOf (W := 0) (own_pow_4 l Z a0 hw [] w0 cl h0 n0 Z0 P) hZ (hw _ (List.mem_of_getElem? (i := 4) rfl)) (hw _ (List.mem_of_getElem? (i := 3) rfl)) (by decide) (by decide)) (g := (mkF m 73 #[.val (.int p1), .val (.int (4 : Int32)), .val (.long (10000 : Int64)), .second] [(.int (4 : Int32))])) rfl (by rw [hml]; rfl) (argsL := [(.int (4 : Int32))]) (rest := []) (lenOf pd__I_J rfl) rfl (by show 2 * 0 + _ ≤ _; exact Nat.le_of_eq rfl) (hb hby at_73) (fun _ _ => ⟨rfl, e0, (by decide : 0 + 0 ≤ _), (by decide : 0 + 0 ≤ _)⟩)
  dsimp only [Pt.U, Pt.locs, Pt.cells, Pt.slots] at X43 l43 y43 z43 st43 hQ43
  subst l43 y43 z43
  obtain ⟨rfl, N43q, e43⟩ := hQ43
  have N43 := Fr.app N0 N43q
  obtain ⟨fs, hr, hrun, hended, hW, hsame⟩ := X43.leave (v := some (.int (1 : Int32))) (fun h => by rw [Bd.returns] at h; cases h)
  refine ⟨_, _, pre0 _ ?_, hrun, hended, _, _, rfl, ?_, ⟨_, rfl⟩, hW, hsame.mono (by decide) (by decide)⟩
  · show Steps p.tables e below (s₁.setTop (mkF m 0 #[.val (.int p1), .unset, .unset, .unset] [])) _
    refine XS.iloadN X0.here hx rfl (hb hby at_0) rfl ?_
    show Steps p.tables e below (s₁.setTop (mkF m 1 #[.val (.int p1), .unset, .unset, .unset] [(.int p1)])) _
    refine Jvm.Stand.ldcI X0 hx hown (mvT hZ (hw _ (List.mem_of_getElem? (i := 0) rfl))) rfl (hb hby at_1) ?_
    show Steps p.tables e below (s₁.setTop (mkF m 3 #[.val (.int p1), .unset, .unset, .unset] [(.int (2147483647 : Int32)), (.int p1)])) _
    refine XS.iand X0.here hx rfl (hb hby at_3) rfl ?_
    show Steps p.tables e below (s₁.setTop (mkF m 4 #[.val (.int p1), .unset, .unset, .unset] [(.int (p1 &&& (2147483647 : Int32)))])) _
    refine XT.bipushV X0.here hx rfl (19 : Int32) (hb hby at_4) (by decide) ?_
    show Steps p.tables e below (s₁.setTop (mkF m 6 #[.val (.int p1), .unset, .unset, .unset] [(.int (19 : Int32)), (.int (p1 &&& (2147483647 : Int32)))])) _
    refine iremM X0 hx rfl (hb hby at_6) rfl (by decide) ?_
    show Steps p.tables e below (s₁.setTop (mkF m 7 #[.val (.int p1), .unset, .unset, .unset] [(.int ((p1 &&& (2147483647 : Int32)) % (19 : Int32)))])) _
    rw [hk]
    show Steps p.tables e below (s₁.setTop (mkF m 7 #[.val (.int p1), .unset, .unset, .unset] [(.int (4 : Int32))])) _
    refine XS.istoreN X0.here hx rfl (hb hby at_7) rfl (l' := #[.val (.int p1), .val (.int (4 : Int32)), .unset, .unset]) rfl ?_
    show Steps p.tables e below (s₁.setTop (mkF m 8 #[.val (.int p1), .val (.int (4 : Int32)), .unset, .unset] [])) _
    refine XT.lconstV X0.here hx rfl (1 : Int64) (hb hby at_8) rfl ?_
    show Steps p.tables e below (s₁.setTop (mkF m 9 #[.val (.int p1), .val (.int (4 : Int32)), .unset, .unset] [(.long (1 : Int64))])) _
    refine XT.lstoreN X0.here hx rfl (hb hby at_9) rfl (l' := #[.val (.int p1), .val (.int (4 : Int32)), .val (.long (1 : Int64)), .second]) rfl ?_
    show Steps p.tables e below (s₁.setTop (mkF m 10 #[.val (.int p1), .val (.int (4 : Int32)), .val (.long (1 : Int64)), .second] [])) _
    refine XS.iloadN X0.here hx rfl (hb hby at_10) rfl ?_
    show Steps p.tables e below (s₁.setTop (mkF m 11 #[.val (.int p1), .val (.int (4 : Int32)), .val (.long (1 : Int64)), .second] [(.int (4 : Int32))])) _
    refine XT.iconstV X0.here hx rfl (1 : Int32) (hb hby at_11) rfl ?_
    show Steps p.tables e below (s₁.setTop (mkF m 12 #[.val (.int p1), .val (.int (4 : Int32)), .val (.long (1 : Int64)), .second] [(.int (1 : Int32)), (.int (4 : Int32))])) _
    refine XS.iand X0.here hx rfl (hb hby at_12) rfl ?_
    rw [show ((4 : Int32) &&& (1 : Int32)) = (0 : Int32) from by decide]
    show Steps p.tables e below (s₁.setTop (mkF m 13 #[.val (.int p1), .val (.int (4 : Int32)), .val (.long (1 : Int64)), .second] [(.int (0 : Int32))])) _
    refine XS.ifYes X0.here hx rfl (pc0 := 13) (pc' := 22) rfl (hb hby at_13) rfl (by decide) (by decide) (by decide) ?_
    show Steps p.tables e below (s₁.setTop (mkF m 22 #[.val (.int p1), .val (.int (4 : Int32)), .val (.long (1 : Int64)), .second] [])) _
    refine XS.iloadN X0.here hx rfl (hb hby at_22) rfl ?_
    show Steps p.tables e below (s₁.setTop (mkF m 23 #[.val (.int p1), .val (.int (4 : Int32)), .val (.long (1 : Int64)), .second] [(.int (4 : Int32))])) _
    refine XT.iconstV X0.here hx rfl (2 : Int32) (hb hby at_23) rfl ?_
    show Steps p.tables e below (s₁.setTop (mkF m 24 #[.val (.int p1), .val (.int (4 : Int32)), .val (.long (1 : Int64)), .second] [(.int (2 : Int32)), (.int (4 : Int32))])) _
    refine XS.iand X0.here hx rfl (hb hby at_24) rfl ?_
    rw [show ((4 : Int32) &&& (2 : Int32)) = (0 : Int32) from by decide]
    show Steps p.tables e below (s₁.setTop (mkF m 25 #[.val (.int p1), .val (.int (4 : Int32)), .val (.long (1 : Int64)), .second] [(.int (0 : Int32))])) _
    refine XS.ifYes X0.here hx rfl (pc0 := 25) (pc' := 34) rfl (hb hby at_25) rfl (by decide) (by decide) (by decide) ?_
    show Steps p.tables e below (s₁.setTop (mkF m 34 #[.val (.int p1), .val (.int (4 : Int32)), .val (.long (1 : Int64)), .second] [])) _
    refine XS.iloadN X0.here hx rfl (hb hby at_34) rfl ?_
    show Steps p.tables e below (s₁.setTop (mkF m 35 #[.val (.int p1), .val (.int (4 : Int32)), .val (.long (1 : Int64)), .second] [(.int (4 : Int32))])) _
    refine XT.iconstV X0.here hx rfl (4 : Int32) (hb hby at_35) rfl ?_
    show Steps p.tables e below (s₁.setTop (mkF m 36 #[.val (.int p1), .val (.int (4 : Int32)), .val (.long (1 : Int64)), .second] [(.int (4 : Int32)), (.int (4 : Int32))])) _
    refine XS.iand X0.here hx rfl (hb hby at_36) rfl ?_
    rw [show ((4 : Int32) &&& (4 : Int32)) = (4 : Int32) from by decide]
    show Steps p.tables e below (s₁.setTop (mkF m 37 #[.val (.int p1), .val (.int (4 : Int32)), .val (.long (1 : Int64)), .second] [(.int (4 : Int32))])) _
    refine XS.ifNo X0.here hx rfl (hb hby at_37) rfl (by decide) ?_
    show Steps p.tables e below (s₁.setTop (mkF m 40 #[.val (.int p1), .val (.int (4 : Int32)), .val (.long (1 : Int64)), .second] [])) _
    refine XT.lloadN X0.here hx rfl (hb hby at_40) rfl ?_
    show Steps p.tables e below (s₁.setTop (mkF m 41 #[.val (.int p1), .val (.int (4 : Int32)), .val (.long (1 : Int64)), .second] [(.long (1 : Int64))])) _
    refine Jvm.Stand.ldc2J X0 hx hown (mvT hZ (hw _ (List.mem_of_getElem? (i := 9) rfl))) rfl (hb hby at_41) ?_
    show Steps p.tables e below (s₁.setTop (mkF m 44 #[.val (.int p1), .val (.int (4 : Int32)), .val (.long (1 : Int64)), .second] [(.long (10000 : Int64)), (.long (1 : Int64))])) _
    refine XT.lmul X0.here hx rfl (hb hby at_44) rfl ?_
    rw [show ((1 : Int64) * (10000 : Int64)) = (10000 : Int64) from by decide]
    show Steps p.tables e below (s₁.setTop (mkF m 45 #[.val (.int p1), .val (.int (4 : Int32)), .val (.long (1 : Int64)), .second] [(.long (10000 : Int64))])) _
    refine XT.lstoreN X0.here hx rfl (hb hby at_45) rfl (l' := #[.val (.int p1), .val (.int (4 : Int32)), .val (.long (10000 : Int64)), .second]) rfl ?_
    show Steps p.tables e below (s₁.setTop (mkF m 46 #[.val (.int p1), .val (.int (4 : Int32)), .val (.long (10000 : Int64)), .second] [])) _
    refine XS.iloadN X0.here hx rfl (hb hby at_46) rfl ?_
    show Steps p.tables e below (s₁.setTop (mkF m 47 #[.val (.int p1), .val (.int (4 : Int32)), .val (.long (10000 : Int64)), .second] [(.int (4 : Int32))])) _
    refine XT.bipushV X0.here hx rfl (8 : Int32) (hb hby at_47) (by decide) ?_
    show Steps p.tables e below (s₁.setTop (mkF m 49 #[.val (.int p1), .val (.int (4 : Int32)), .val (.long (10000 : Int64)), .second] [(.int (8 : Int32)), (.int (4 : Int32))])) _
    refine XS.iand X0.here hx rfl (hb hby at_49) rfl ?_
    rw [show ((4 : Int32) &&& (8 : Int32)) = (0 : Int32) from by decide]
    show Steps p.tables e below (s₁.setTop (mkF m 50 #[.val (.int p1), .val (.int (4 : Int32)), .val (.long (10000 : Int64)), .second] [(.int (0 : Int32))])) _
    refine XS.ifYes X0.here hx rfl (pc0 := 50) (pc' := 59) rfl (hb hby at_50) rfl (by decide) (by decide) (by decide) ?_
    show Steps p.tables e below (s₁.setTop (mkF m 59 #[.val (.int p1), .val (.int (4 : Int32)), .val (.long (10000 : Int64)), .second] [])) _
    refine XS.iloadN X0.here hx rfl (hb hby at_59) rfl ?_
    show Steps p.tables e below (s₁.setTop (mkF m 60 #[.val (.int p1), .val (.int (4 : Int32)), .val (.long (10000 : Int64)), .second] [(.int (4 : Int32))])) _
    refine XT.bipushV X0.here hx rfl (16 : Int32) (hb hby at_60) (by decide) ?_
    show Steps p.tables e below (s₁.setTop (mkF m 62 #[.val (.int p1), .val (.int (4 : Int32)), .val (.long (10000 : Int64)), .second] [(.int (16 : Int32)), (.int (4 : Int32))])) _
    refine XS.iand X0.here hx rfl (hb hby at_62) rfl ?_
    rw [show ((4 : Int32) &&& (16 : Int32)) = (0 : Int32) from by decide]
    show Steps p.tables e below (s₁.setTop (mkF m 63 #[.val (.int p1), .val (.int (4 : Int32)), .val (.long (10000 : Int64)), .second] [(.int (0 : Int32))])) _
    refine XS.ifYes X0.here hx rfl (pc0 := 63) (pc' := 72) rfl (hb hby at_63) rfl (by decide) (by decide) (by decide) ?_
    show Steps p.tables e below (s₁.setTop (mkF m 72 #[.val (.int p1), .val (.int (4 : Int32)), .val (.long (10000 : Int64)), .second] [])) _
    refine XS.iloadN X0.here hx rfl (hb hby at_72) rfl ?_
    show Steps p.tables e below (s₁.setTop (mkF m 73 #[.val (.int p1), .val (.int (4 : Int32)), .val (.long (10000 : Int64)), .second] [(.int (4 : Int32))])) _
    refine st43 _ ?_
    show Steps p.tables e below (T43.setTop (mkF m 76 #[.val (.int p1), .val (.int (4 : Int32)), .val (.long (10000 : Int64)), .second] [(.long (10000 : Int64))])) _
    refine XT.lloadN X43.here hx rfl (hb hby at_76) rfl ?_
    show Steps p.tables e below (T43.setTop (mkF m 77 #[.val (.int p1), .val (.int (4 : Int32)), .val (.long (10000 : Int64)), .second] [(.long (10000 : Int64)), (.long (10000 : Int64))])) _
    refine XT.lcmp X43.here hx rfl (hb hby at_77) rfl ?_
    show Steps p.tables e below (T43.setTop (mkF m 78 #[.val (.int p1), .val (.int (4 : Int32)), .val (.long (10000 : Int64)), .second] [(.int (XT.cmpL (10000 : Int64) (10000 : Int64)))])) _
    refine XS.ifNo X43.here hx rfl (hb hby at_78) rfl (XT.ll_ne_f (by decide)) ?_
    show Steps p.tables e below (T43.setTop (mkF m 81 #[.val (.int p1), .val (.int (4 : Int32)), .val (.long (10000 : Int64)), .second] [])) _
    refine XT.iconstV X43.here hx rfl (1 : Int32) (hb hby at_81) rfl ?_
    show Steps p.tables e below (T43.setTop (mkF m 82 #[.val (.int p1), .val (.int (4 : Int32)), .val (.long (10000 : Int64)), .second] [(.int (1 : Int32))])) _
    refine XS.goto X43.here hx rfl (pc0 := 82) (pc' := 86) rfl (hb hby at_82) (by decide) (by decide) ?_
    show Steps p.tables e below (T43.setTop (mkF m 86 #[.val (.int p1), .val (.int (4 : Int32)), .val (.long (10000 : Int64)), .second] [(.int (1 : Int32))])) _
    exact retN X43 hx (t := .boolean) Bd.returns (by simp) (hb hby at_86) hr
  · show own_Q0 n0 _ T43.heap _
    exact ⟨rfl, N43⟩
set_option maxRecDepth 65536 in
set_option maxHeartbeats 40000000 in
theorem own_law_5 (l : Launch) (Z : State) (a0 : Array Value) (hw : ∀ d ∈ tables_1, d.before a0 Z = true) (ws : List Jvm.Cond) (p1 : Int32) (w0 : Addr) (cl : Cell) (h0 : Heap) (n0 : Nat) (Z0 : n0 ≤ h0.size) (P : own_P Z h0 w0 cl) (hk : ((p1 &&& (2147483647 : Int32)) % (19 : Int32)) = (5 : Int32)) :
    MetFree l x (head1 (Jvm.Cond.code x code maxLocals ret :: ws) room_1) (fun a U => a = #[(.int p1)] ∧ Z.Warmed39 U.vm ∧ U.heap = h0) (fun _ _ _ _ _ => True) (fun _ U o U' => ∃ v L, o = .returned v ∧ own_Q0 n0 v U'.heap L ∧ FrameEnd U o U' L room_1.cells room_1.slots) := by
  refine MetFree.of_bodySF (plainFor_of_name pn_com_example_tranchor_tranchor_FractionPowerOfTenPinLaw) hisR ?_
  intro p e s m args below meth c s₁ Bd hml0 hP hK
  obtain ⟨rfl, hZ, hh⟩ := hP
  have hx := Bd.exec
  have hby := Bd.bytes
  have hml : c.maxLocals = 4 := hml0
  have hown : s.vm.findClass "com/example/tranchor/tranchor/FractionPowerOfTenPinLaw" = some m.cls := findClass_of_methodNamed Bd.named
  have hnm := (name_of_methodNamed Bd.named Bd.method).1
  have X0 : Stand p l e room_1 s m #[(.int p1)] below meth c s₁ [] 0 0 := Stand.of_body Bd
  have e0 : s₁.heap = h0 := by rw [← hh, Bd.state]; rfl
  have N0 := Fr.nil n0
  have pre0 : ∀ t, Steps p.tables e below (s₁.setTop (mkF m 0 #[.val (.int p1), .unset, .unset, .unset] [])) t → Steps p.tables e below (s₁.setTop (entryFrame m #[(.int p1)] maxLocals)) t := fun t k => castTop (ef_code_I m p1) k
  obtain ⟨_, _, ⟨T44, L44, k44, n44⟩, -, X44, ⟨Lc44, hQ44, l44, y44, z44⟩, st44⟩ := Jvm.LawKit.callS X0 hx (y := (⟨"com/example/tranchor/tranchor/Fraction", "powerOfTen", "(I)J"⟩ : MethodName)) hown (mvT hZ (hw _ (List.mem_of_getElem? (i := 1) rfl))) (mvT hZ (hw _ (List.mem_of_getElem? (i := 2) rfl))) (mvT hZ (hw _ (List.mem_of_getElem? (i := 3) rfl))) (mvT hZ (hw _ (List.mem_of_getElem? (i := 4) rfl))) (by decide) (backOf (W := 0) (own_pow_5 l Z a0 hw [] w0 cl h0 n0 Z0 P) hZ (hw _ (List.mem_of_getElem? (i := 4) rfl)) (hw _ (List.mem_of_getElem? (i := 3) rfl)) (by decide) (by decide)) (g := (mkF m 73 #[.val (.int p1), .val (.int (5 : Int32)), .val (.long (100000 : Int64)), .second] [(.int (5 : Int32))])) rfl (by rw [hml]; rfl) (argsL := [(.int (5 : Int32))]) (rest := []) (lenOf pd__I_J rfl) rfl (by show 2 * 0 + _ ≤ _; exact Nat.le_of_eq rfl) (hb hby at_73) (fun _ _ => ⟨rfl, e0, (by decide : 0 + 0 ≤ _), (by decide : 0 + 0 ≤ _)⟩)
  dsimp only [Pt.U, Pt.locs, Pt.cells, Pt.slots] at X44 l44 y44 z44 st44 hQ44
  subst l44 y44 z44
  obtain ⟨rfl, N44q, e44⟩ := hQ44
  have N44 := Fr.app N0 N44q
  obtain ⟨fs, hr, hrun, hended, hW, hsame⟩ := X44.leave (v := some (.int (1 : Int32))) (fun h => by rw [Bd.returns] at h; cases h)
  refine ⟨_, _, pre0 _ ?_, hrun, hended, _, _, rfl, ?_, ⟨_, rfl⟩, hW, hsame.mono (by decide) (by decide)⟩
  · show Steps p.tables e below (s₁.setTop (mkF m 0 #[.val (.int p1), .unset, .unset, .unset] [])) _
    refine XS.iloadN X0.here hx rfl (hb hby at_0) rfl ?_
    show Steps p.tables e below (s₁.setTop (mkF m 1 #[.val (.int p1), .unset, .unset, .unset] [(.int p1)])) _
    refine Jvm.Stand.ldcI X0 hx hown (mvT hZ (hw _ (List.mem_of_getElem? (i := 0) rfl))) rfl (hb hby at_1) ?_
    show Steps p.tables e below (s₁.setTop (mkF m 3 #[.val (.int p1), .unset, .unset, .unset] [(.int (2147483647 : Int32)), (.int p1)])) _
    refine XS.iand X0.here hx rfl (hb hby at_3) rfl ?_
    show Steps p.tables e below (s₁.setTop (mkF m 4 #[.val (.int p1), .unset, .unset, .unset] [(.int (p1 &&& (2147483647 : Int32)))])) _
    refine XT.bipushV X0.here hx rfl (19 : Int32) (hb hby at_4) (by decide) ?_
    show Steps p.tables e below (s₁.setTop (mkF m 6 #[.val (.int p1), .unset, .unset, .unset] [(.int (19 : Int32)), (.int (p1 &&& (2147483647 : Int32)))])) _
    refine iremM X0 hx rfl (hb hby at_6) rfl (by decide) ?_
    show Steps p.tables e below (s₁.setTop (mkF m 7 #[.val (.int p1), .unset, .unset, .unset] [(.int ((p1 &&& (2147483647 : Int32)) % (19 : Int32)))])) _
    rw [hk]
    show Steps p.tables e below (s₁.setTop (mkF m 7 #[.val (.int p1), .unset, .unset, .unset] [(.int (5 : Int32))])) _
    refine XS.istoreN X0.here hx rfl (hb hby at_7) rfl (l' := #[.val (.int p1), .val (.int (5 : Int32)), .unset, .unset]) rfl ?_
    show Steps p.tables e below (s₁.setTop (mkF m 8 #[.val (.int p1), .val (.int (5 : Int32)), .unset, .unset] [])) _
    refine XT.lconstV X0.here hx rfl (1 : Int64) (hb hby at_8) rfl ?_
    show Steps p.tables e below (s₁.setTop (mkF m 9 #[.val (.int p1), .val (.int (5 : Int32)), .unset, .unset] [(.long (1 : Int64))])) _
    refine XT.lstoreN X0.here hx rfl (hb hby at_9) rfl (l' := #[.val (.int p1), .val (.int (5 : Int32)), .val (.long (1 : Int64)), .second]) rfl ?_
    show Steps p.tables e below (s₁.setTop (mkF m 10 #[.val (.int p1), .val (.int (5 : Int32)), .val (.long (1 : Int64)), .second] [])) _
    refine XS.iloadN X0.here hx rfl (hb hby at_10) rfl ?_
    show Steps p.tables e below (s₁.setTop (mkF m 11 #[.val (.int p1), .val (.int (5 : Int32)), .val (.long (1 : Int64)), .second] [(.int (5 : Int32))])) _
    refine XT.iconstV X0.here hx rfl (1 : Int32) (hb hby at_11) rfl ?_
    show Steps p.tables e below (s₁.setTop (mkF m 12 #[.val (.int p1), .val (.int (5 : Int32)), .val (.long (1 : Int64)), .second] [(.int (1 : Int32)), (.int (5 : Int32))])) _
    refine XS.iand X0.here hx rfl (hb hby at_12) rfl ?_
    rw [show ((5 : Int32) &&& (1 : Int32)) = (1 : Int32) from by decide]
    show Steps p.tables e below (s₁.setTop (mkF m 13 #[.val (.int p1), .val (.int (5 : Int32)), .val (.long (1 : Int64)), .second] [(.int (1 : Int32))])) _
    refine XS.ifNo X0.here hx rfl (hb hby at_13) rfl (by decide) ?_
    show Steps p.tables e below (s₁.setTop (mkF m 16 #[.val (.int p1), .val (.int (5 : Int32)), .val (.long (1 : Int64)), .second] [])) _
    refine XT.lloadN X0.here hx rfl (hb hby at_16) rfl ?_
    show Steps p.tables e below (s₁.setTop (mkF m 17 #[.val (.int p1), .val (.int (5 : Int32)), .val (.long (1 : Int64)), .second] [(.long (1 : Int64))])) _
    refine Jvm.Stand.ldc2J X0 hx hown (mvT hZ (hw _ (List.mem_of_getElem? (i := 7) rfl))) rfl (hb hby at_17) ?_
    show Steps p.tables e below (s₁.setTop (mkF m 20 #[.val (.int p1), .val (.int (5 : Int32)), .val (.long (1 : Int64)), .second] [(.long (10 : Int64)), (.long (1 : Int64))])) _
    refine XT.lmul X0.here hx rfl (hb hby at_20) rfl ?_
    rw [show ((1 : Int64) * (10 : Int64)) = (10 : Int64) from by decide]
    show Steps p.tables e below (s₁.setTop (mkF m 21 #[.val (.int p1), .val (.int (5 : Int32)), .val (.long (1 : Int64)), .second] [(.long (10 : Int64))])) _
    refine XT.lstoreN X0.here hx rfl (hb hby at_21) rfl (l' := #[.val (.int p1), .val (.int (5 : Int32)), .val (.long (10 : Int64)), .second]) rfl ?_
    show Steps p.tables e below (s₁.setTop (mkF m 22 #[.val (.int p1), .val (.int (5 : Int32)), .val (.long (10 : Int64)), .second] [])) _
    refine XS.iloadN X0.here hx rfl (hb hby at_22) rfl ?_
    show Steps p.tables e below (s₁.setTop (mkF m 23 #[.val (.int p1), .val (.int (5 : Int32)), .val (.long (10 : Int64)), .second] [(.int (5 : Int32))])) _
    refine XT.iconstV X0.here hx rfl (2 : Int32) (hb hby at_23) rfl ?_
    show Steps p.tables e below (s₁.setTop (mkF m 24 #[.val (.int p1), .val (.int (5 : Int32)), .val (.long (10 : Int64)), .second] [(.int (2 : Int32)), (.int (5 : Int32))])) _
    refine XS.iand X0.here hx rfl (hb hby at_24) rfl ?_
    rw [show ((5 : Int32) &&& (2 : Int32)) = (0 : Int32) from by decide]
    show Steps p.tables e below (s₁.setTop (mkF m 25 #[.val (.int p1), .val (.int (5 : Int32)), .val (.long (10 : Int64)), .second] [(.int (0 : Int32))])) _
    refine XS.ifYes X0.here hx rfl (pc0 := 25) (pc' := 34) rfl (hb hby at_25) rfl (by decide) (by decide) (by decide) ?_
    show Steps p.tables e below (s₁.setTop (mkF m 34 #[.val (.int p1), .val (.int (5 : Int32)), .val (.long (10 : Int64)), .second] [])) _
    refine XS.iloadN X0.here hx rfl (hb hby at_34) rfl ?_
    show Steps p.tables e below (s₁.setTop (mkF m 35 #[.val (.int p1), .val (.int (5 : Int32)), .val (.long (10 : Int64)), .second] [(.int (5 : Int32))])) _
    refine XT.iconstV X0.here hx rfl (4 : Int32) (hb hby at_35) rfl ?_
    show Steps p.tables e below (s₁.setTop (mkF m 36 #[.val (.int p1), .val (.int (5 : Int32)), .val (.long (10 : Int64)), .second] [(.int (4 : Int32)), (.int (5 : Int32))])) _
    refine XS.iand X0.here hx rfl (hb hby at_36) rfl ?_
    rw [show ((5 : Int32) &&& (4 : Int32)) = (4 : Int32) from by decide]
    show Steps p.tables e below (s₁.setTop (mkF m 37 #[.val (.int p1), .val (.int (5 : Int32)), .val (.long (10 : Int64)), .second] [(.int (4 : Int32))])) _
    refine XS.ifNo X0.here hx rfl (hb hby at_37) rfl (by decide) ?_
    show Steps p.tables e below (s₁.setTop (mkF m 40 #[.val (.int p1), .val (.int (5 : Int32)), .val (.long (10 : Int64)), .second] [])) _
    refine XT.lloadN X0.here hx rfl (hb hby at_40) rfl ?_
    show Steps p.tables e below (s₁.setTop (mkF m 41 #[.val (.int p1), .val (.int (5 : Int32)), .val (.long (10 : Int64)), .second] [(.long (10 : Int64))])) _
    refine Jvm.Stand.ldc2J X0 hx hown (mvT hZ (hw _ (List.mem_of_getElem? (i := 9) rfl))) rfl (hb hby at_41) ?_
    show Steps p.tables e below (s₁.setTop (mkF m 44 #[.val (.int p1), .val (.int (5 : Int32)), .val (.long (10 : Int64)), .second] [(.long (10000 : Int64)), (.long (10 : Int64))])) _
    refine XT.lmul X0.here hx rfl (hb hby at_44) rfl ?_
    rw [show ((10 : Int64) * (10000 : Int64)) = (100000 : Int64) from by decide]
    show Steps p.tables e below (s₁.setTop (mkF m 45 #[.val (.int p1), .val (.int (5 : Int32)), .val (.long (10 : Int64)), .second] [(.long (100000 : Int64))])) _
    refine XT.lstoreN X0.here hx rfl (hb hby at_45) rfl (l' := #[.val (.int p1), .val (.int (5 : Int32)), .val (.long (100000 : Int64)), .second]) rfl ?_
    show Steps p.tables e below (s₁.setTop (mkF m 46 #[.val (.int p1), .val (.int (5 : Int32)), .val (.long (100000 : Int64)), .second] [])) _
    refine XS.iloadN X0.here hx rfl (hb hby at_46) rfl ?_
    show Steps p.tables e below (s₁.setTop (mkF m 47 #[.val (.int p1), .val (.int (5 : Int32)), .val (.long (100000 : Int64)), .second] [(.int (5 : Int32))])) _
    refine XT.bipushV X0.here hx rfl (8 : Int32) (hb hby at_47) (by decide) ?_
    show Steps p.tables e below (s₁.setTop (mkF m 49 #[.val (.int p1), .val (.int (5 : Int32)), .val (.long (100000 : Int64)), .second] [(.int (8 : Int32)), (.int (5 : Int32))])) _
    refine XS.iand X0.here hx rfl (hb hby at_49) rfl ?_
    rw [show ((5 : Int32) &&& (8 : Int32)) = (0 : Int32) from by decide]
    show Steps p.tables e below (s₁.setTop (mkF m 50 #[.val (.int p1), .val (.int (5 : Int32)), .val (.long (100000 : Int64)), .second] [(.int (0 : Int32))])) _
    refine XS.ifYes X0.here hx rfl (pc0 := 50) (pc' := 59) rfl (hb hby at_50) rfl (by decide) (by decide) (by decide) ?_
    show Steps p.tables e below (s₁.setTop (mkF m 59 #[.val (.int p1), .val (.int (5 : Int32)), .val (.long (100000 : Int64)), .second] [])) _
    refine XS.iloadN X0.here hx rfl (hb hby at_59) rfl ?_
    show Steps p.tables e below (s₁.setTop (mkF m 60 #[.val (.int p1), .val (.int (5 : Int32)), .val (.long (100000 : Int64)), .second] [(.int (5 : Int32))])) _
    refine XT.bipushV X0.here hx rfl (16 : Int32) (hb hby at_60) (by decide) ?_
    show Steps p.tables e below (s₁.setTop (mkF m 62 #[.val (.int p1), .val (.int (5 : Int32)), .val (.long (100000 : Int64)), .second] [(.int (16 : Int32)), (.int (5 : Int32))])) _
    refine XS.iand X0.here hx rfl (hb hby at_62) rfl ?_
    rw [show ((5 : Int32) &&& (16 : Int32)) = (0 : Int32) from by decide]
    show Steps p.tables e below (s₁.setTop (mkF m 63 #[.val (.int p1), .val (.int (5 : Int32)), .val (.long (100000 : Int64)), .second] [(.int (0 : Int32))])) _
    refine XS.ifYes X0.here hx rfl (pc0 := 63) (pc' := 72) rfl (hb hby at_63) rfl (by decide) (by decide) (by decide) ?_
    show Steps p.tables e below (s₁.setTop (mkF m 72 #[.val (.int p1), .val (.int (5 : Int32)), .val (.long (100000 : Int64)), .second] [])) _
    refine XS.iloadN X0.here hx rfl (hb hby at_72) rfl ?_
    show Steps p.tables e below (s₁.setTop (mkF m 73 #[.val (.int p1), .val (.int (5 : Int32)), .val (.long (100000 : Int64)), .second] [(.int (5 : Int32))])) _
    refine st44 _ ?_
    show Steps p.tables e below (T44.setTop (mkF m 76 #[.val (.int p1), .val (.int (5 : Int32)), .val (.long (100000 : Int64)), .second] [(.long (100000 : Int64))])) _
    refine XT.lloadN X44.here hx rfl (hb hby at_76) rfl ?_
    show Steps p.tables e below (T44.setTop (mkF m 77 #[.val (.int p1), .val (.int (5 : Int32)), .val (.long (100000 : Int64)), .second] [(.long (100000 : Int64)), (.long (100000 : Int64))])) _
    refine XT.lcmp X44.here hx rfl (hb hby at_77) rfl ?_
    show Steps p.tables e below (T44.setTop (mkF m 78 #[.val (.int p1), .val (.int (5 : Int32)), .val (.long (100000 : Int64)), .second] [(.int (XT.cmpL (100000 : Int64) (100000 : Int64)))])) _
    refine XS.ifNo X44.here hx rfl (hb hby at_78) rfl (XT.ll_ne_f (by decide)) ?_
    show Steps p.tables e below (T44.setTop (mkF m 81 #[.val (.int p1), .val (.int (5 : Int32)), .val (.long (100000 : Int64)), .second] [])) _
    refine XT.iconstV X44.here hx rfl (1 : Int32) (hb hby at_81) rfl ?_
    show Steps p.tables e below (T44.setTop (mkF m 82 #[.val (.int p1), .val (.int (5 : Int32)), .val (.long (100000 : Int64)), .second] [(.int (1 : Int32))])) _
    refine XS.goto X44.here hx rfl (pc0 := 82) (pc' := 86) rfl (hb hby at_82) (by decide) (by decide) ?_
    show Steps p.tables e below (T44.setTop (mkF m 86 #[.val (.int p1), .val (.int (5 : Int32)), .val (.long (100000 : Int64)), .second] [(.int (1 : Int32))])) _
    exact retN X44 hx (t := .boolean) Bd.returns (by simp) (hb hby at_86) hr
  · show own_Q0 n0 _ T44.heap _
    exact ⟨rfl, N44⟩
set_option maxRecDepth 65536 in
set_option maxHeartbeats 40000000 in
theorem own_law_6 (l : Launch) (Z : State) (a0 : Array Value) (hw : ∀ d ∈ tables_1, d.before a0 Z = true) (ws : List Jvm.Cond) (p1 : Int32) (w0 : Addr) (cl : Cell) (h0 : Heap) (n0 : Nat) (Z0 : n0 ≤ h0.size) (P : own_P Z h0 w0 cl) (hk : ((p1 &&& (2147483647 : Int32)) % (19 : Int32)) = (6 : Int32)) :
    MetFree l x (head1 (Jvm.Cond.code x code maxLocals ret :: ws) room_1) (fun a U => a = #[(.int p1)] ∧ Z.Warmed39 U.vm ∧ U.heap = h0) (fun _ _ _ _ _ => True) (fun _ U o U' => ∃ v L, o = .returned v ∧ own_Q0 n0 v U'.heap L ∧ FrameEnd U o U' L room_1.cells room_1.slots) := by
  refine MetFree.of_bodySF (plainFor_of_name pn_com_example_tranchor_tranchor_FractionPowerOfTenPinLaw) hisR ?_
  intro p e s m args below meth c s₁ Bd hml0 hP hK
  obtain ⟨rfl, hZ, hh⟩ := hP
  have hx := Bd.exec
  have hby := Bd.bytes
  have hml : c.maxLocals = 4 := hml0
  have hown : s.vm.findClass "com/example/tranchor/tranchor/FractionPowerOfTenPinLaw" = some m.cls := findClass_of_methodNamed Bd.named
  have hnm := (name_of_methodNamed Bd.named Bd.method).1
  have X0 : Stand p l e room_1 s m #[(.int p1)] below meth c s₁ [] 0 0 := Stand.of_body Bd
  have e0 : s₁.heap = h0 := by rw [← hh, Bd.state]; rfl
  have N0 := Fr.nil n0
  have pre0 : ∀ t, Steps p.tables e below (s₁.setTop (mkF m 0 #[.val (.int p1), .unset, .unset, .unset] [])) t → Steps p.tables e below (s₁.setTop (entryFrame m #[(.int p1)] maxLocals)) t := fun t k => castTop (ef_code_I m p1) k
  obtain ⟨_, _, ⟨T45, L45, k45, n45⟩, -, X45, ⟨Lc45, hQ45, l45, y45, z45⟩, st45⟩ := Jvm.LawKit.callS X0 hx (y := (⟨"com/example/tranchor/tranchor/Fraction", "powerOfTen", "(I)J"⟩ : MethodName)) hown (mvT hZ (hw _ (List.mem_of_getElem? (i := 1) rfl))) (mvT hZ (hw _ (List.mem_of_getElem? (i := 2) rfl))) (mvT hZ (hw _ (List.mem_of_getElem? (i := 3) rfl))) (mvT hZ (hw _ (List.mem_of_getElem? (i := 4) rfl))) (by decide) (backOf (W := 0) (own_pow_6 l Z a0 hw [] w0 cl h0 n0 Z0 P) hZ (hw _ (List.mem_of_getElem? (i := 4) rfl)) (hw _ (List.mem_of_getElem? (i := 3) rfl)) (by decide) (by decide)) (g := (mkF m 73 #[.val (.int p1), .val (.int (6 : Int32)), .val (.long (1000000 : Int64)), .second] [(.int (6 : Int32))])) rfl (by rw [hml]; rfl) (argsL := [(.int (6 : Int32))]) (rest := []) (lenOf pd__I_J rfl) rfl (by show 2 * 0 + _ ≤ _; exact Nat.le_of_eq rfl) (hb hby at_73) (fun _ _ => ⟨rfl, e0, (by decide : 0 + 0 ≤ _), (by decide : 0 + 0 ≤ _)⟩)
  dsimp only [Pt.U, Pt.locs, Pt.cells, Pt.slots] at X45 l45 y45 z45 st45 hQ45
  subst l45 y45 z45
  obtain ⟨rfl, N45q, e45⟩ := hQ45
  have N45 := Fr.app N0 N45q
  obtain ⟨fs, hr, hrun, hended, hW, hsame⟩ := X45.leave (v := some (.int (1 : Int32))) (fun h => by rw [Bd.returns] at h; cases h)
  refine ⟨_, _, pre0 _ ?_, hrun, hended, _, _, rfl, ?_, ⟨_, rfl⟩, hW, hsame.mono (by decide) (by decide)⟩
  · show Steps p.tables e below (s₁.setTop (mkF m 0 #[.val (.int p1), .unset, .unset, .unset] [])) _
    refine XS.iloadN X0.here hx rfl (hb hby at_0) rfl ?_
    show Steps p.tables e below (s₁.setTop (mkF m 1 #[.val (.int p1), .unset, .unset, .unset] [(.int p1)])) _
    refine Jvm.Stand.ldcI X0 hx hown (mvT hZ (hw _ (List.mem_of_getElem? (i := 0) rfl))) rfl (hb hby at_1) ?_
    show Steps p.tables e below (s₁.setTop (mkF m 3 #[.val (.int p1), .unset, .unset, .unset] [(.int (2147483647 : Int32)), (.int p1)])) _
    refine XS.iand X0.here hx rfl (hb hby at_3) rfl ?_
    show Steps p.tables e below (s₁.setTop (mkF m 4 #[.val (.int p1), .unset, .unset, .unset] [(.int (p1 &&& (2147483647 : Int32)))])) _
    refine XT.bipushV X0.here hx rfl (19 : Int32) (hb hby at_4) (by decide) ?_
    show Steps p.tables e below (s₁.setTop (mkF m 6 #[.val (.int p1), .unset, .unset, .unset] [(.int (19 : Int32)), (.int (p1 &&& (2147483647 : Int32)))])) _
    refine iremM X0 hx rfl (hb hby at_6) rfl (by decide) ?_
    show Steps p.tables e below (s₁.setTop (mkF m 7 #[.val (.int p1), .unset, .unset, .unset] [(.int ((p1 &&& (2147483647 : Int32)) % (19 : Int32)))])) _
    rw [hk]
    show Steps p.tables e below (s₁.setTop (mkF m 7 #[.val (.int p1), .unset, .unset, .unset] [(.int (6 : Int32))])) _
    refine XS.istoreN X0.here hx rfl (hb hby at_7) rfl (l' := #[.val (.int p1), .val (.int (6 : Int32)), .unset, .unset]) rfl ?_
    show Steps p.tables e below (s₁.setTop (mkF m 8 #[.val (.int p1), .val (.int (6 : Int32)), .unset, .unset] [])) _
    refine XT.lconstV X0.here hx rfl (1 : Int64) (hb hby at_8) rfl ?_
    show Steps p.tables e below (s₁.setTop (mkF m 9 #[.val (.int p1), .val (.int (6 : Int32)), .unset, .unset] [(.long (1 : Int64))])) _
    refine XT.lstoreN X0.here hx rfl (hb hby at_9) rfl (l' := #[.val (.int p1), .val (.int (6 : Int32)), .val (.long (1 : Int64)), .second]) rfl ?_
    show Steps p.tables e below (s₁.setTop (mkF m 10 #[.val (.int p1), .val (.int (6 : Int32)), .val (.long (1 : Int64)), .second] [])) _
    refine XS.iloadN X0.here hx rfl (hb hby at_10) rfl ?_
    show Steps p.tables e below (s₁.setTop (mkF m 11 #[.val (.int p1), .val (.int (6 : Int32)), .val (.long (1 : Int64)), .second] [(.int (6 : Int32))])) _
    refine XT.iconstV X0.here hx rfl (1 : Int32) (hb hby at_11) rfl ?_
    show Steps p.tables e below (s₁.setTop (mkF m 12 #[.val (.int p1), .val (.int (6 : Int32)), .val (.long (1 : Int64)), .second] [(.int (1 : Int32)), (.int (6 : Int32))])) _
    refine XS.iand X0.here hx rfl (hb hby at_12) rfl ?_
    rw [show ((6 : Int32) &&& (1 : Int32)) = (0 : Int32) from by decide]
    show Steps p.tables e below (s₁.setTop (mkF m 13 #[.val (.int p1), .val (.int (6 : Int32)), .val (.long (1 : Int64)), .second] [(.int (0 : Int32))])) _
    refine XS.ifYes X0.here hx rfl (pc0 := 13) (pc' := 22) rfl (hb hby at_13) rfl (by decide) (by decide) (by decide) ?_
    show Steps p.tables e below (s₁.setTop (mkF m 22 #[.val (.int p1), .val (.int (6 : Int32)), .val (.long (1 : Int64)), .second] [])) _
    refine XS.iloadN X0.here hx rfl (hb hby at_22) rfl ?_
    show Steps p.tables e below (s₁.setTop (mkF m 23 #[.val (.int p1), .val (.int (6 : Int32)), .val (.long (1 : Int64)), .second] [(.int (6 : Int32))])) _
    refine XT.iconstV X0.here hx rfl (2 : Int32) (hb hby at_23) rfl ?_
    show Steps p.tables e below (s₁.setTop (mkF m 24 #[.val (.int p1), .val (.int (6 : Int32)), .val (.long (1 : Int64)), .second] [(.int (2 : Int32)), (.int (6 : Int32))])) _
    refine XS.iand X0.here hx rfl (hb hby at_24) rfl ?_
    rw [show ((6 : Int32) &&& (2 : Int32)) = (2 : Int32) from by decide]
    show Steps p.tables e below (s₁.setTop (mkF m 25 #[.val (.int p1), .val (.int (6 : Int32)), .val (.long (1 : Int64)), .second] [(.int (2 : Int32))])) _
    refine XS.ifNo X0.here hx rfl (hb hby at_25) rfl (by decide) ?_
    show Steps p.tables e below (s₁.setTop (mkF m 28 #[.val (.int p1), .val (.int (6 : Int32)), .val (.long (1 : Int64)), .second] [])) _
    refine XT.lloadN X0.here hx rfl (hb hby at_28) rfl ?_
    show Steps p.tables e below (s₁.setTop (mkF m 29 #[.val (.int p1), .val (.int (6 : Int32)), .val (.long (1 : Int64)), .second] [(.long (1 : Int64))])) _
    refine Jvm.Stand.ldc2J X0 hx hown (mvT hZ (hw _ (List.mem_of_getElem? (i := 8) rfl))) rfl (hb hby at_29) ?_
    show Steps p.tables e below (s₁.setTop (mkF m 32 #[.val (.int p1), .val (.int (6 : Int32)), .val (.long (1 : Int64)), .second] [(.long (100 : Int64)), (.long (1 : Int64))])) _
    refine XT.lmul X0.here hx rfl (hb hby at_32) rfl ?_
    rw [show ((1 : Int64) * (100 : Int64)) = (100 : Int64) from by decide]
    show Steps p.tables e below (s₁.setTop (mkF m 33 #[.val (.int p1), .val (.int (6 : Int32)), .val (.long (1 : Int64)), .second] [(.long (100 : Int64))])) _
    refine XT.lstoreN X0.here hx rfl (hb hby at_33) rfl (l' := #[.val (.int p1), .val (.int (6 : Int32)), .val (.long (100 : Int64)), .second]) rfl ?_
    show Steps p.tables e below (s₁.setTop (mkF m 34 #[.val (.int p1), .val (.int (6 : Int32)), .val (.long (100 : Int64)), .second] [])) _
    refine XS.iloadN X0.here hx rfl (hb hby at_34) rfl ?_
    show Steps p.tables e below (s₁.setTop (mkF m 35 #[.val (.int p1), .val (.int (6 : Int32)), .val (.long (100 : Int64)), .second] [(.int (6 : Int32))])) _
    refine XT.iconstV X0.here hx rfl (4 : Int32) (hb hby at_35) rfl ?_
    show Steps p.tables e below (s₁.setTop (mkF m 36 #[.val (.int p1), .val (.int (6 : Int32)), .val (.long (100 : Int64)), .second] [(.int (4 : Int32)), (.int (6 : Int32))])) _
    refine XS.iand X0.here hx rfl (hb hby at_36) rfl ?_
    rw [show ((6 : Int32) &&& (4 : Int32)) = (4 : Int32) from by decide]
    show Steps p.tables e below (s₁.setTop (mkF m 37 #[.val (.int p1), .val (.int (6 : Int32)), .val (.long (100 : Int64)), .second] [(.int (4 : Int32))])) _
    refine XS.ifNo X0.here hx rfl (hb hby at_37) rfl (by decide) ?_
    show Steps p.tables e below (s₁.setTop (mkF m 40 #[.val (.int p1), .val (.int (6 : Int32)), .val (.long (100 : Int64)), .second] [])) _
    refine XT.lloadN X0.here hx rfl (hb hby at_40) rfl ?_
    show Steps p.tables e below (s₁.setTop (mkF m 41 #[.val (.int p1), .val (.int (6 : Int32)), .val (.long (100 : Int64)), .second] [(.long (100 : Int64))])) _
    refine Jvm.Stand.ldc2J X0 hx hown (mvT hZ (hw _ (List.mem_of_getElem? (i := 9) rfl))) rfl (hb hby at_41) ?_
    show Steps p.tables e below (s₁.setTop (mkF m 44 #[.val (.int p1), .val (.int (6 : Int32)), .val (.long (100 : Int64)), .second] [(.long (10000 : Int64)), (.long (100 : Int64))])) _
    refine XT.lmul X0.here hx rfl (hb hby at_44) rfl ?_
    rw [show ((100 : Int64) * (10000 : Int64)) = (1000000 : Int64) from by decide]
    show Steps p.tables e below (s₁.setTop (mkF m 45 #[.val (.int p1), .val (.int (6 : Int32)), .val (.long (100 : Int64)), .second] [(.long (1000000 : Int64))])) _
    refine XT.lstoreN X0.here hx rfl (hb hby at_45) rfl (l' := #[.val (.int p1), .val (.int (6 : Int32)), .val (.long (1000000 : Int64)), .second]) rfl ?_
    show Steps p.tables e below (s₁.setTop (mkF m 46 #[.val (.int p1), .val (.int (6 : Int32)), .val (.long (1000000 : Int64)), .second] [])) _
    refine XS.iloadN X0.here hx rfl (hb hby at_46) rfl ?_
    show Steps p.tables e below (s₁.setTop (mkF m 47 #[.val (.int p1), .val (.int (6 : Int32)), .val (.long (1000000 : Int64)), .second] [(.int (6 : Int32))])) _
    refine XT.bipushV X0.here hx rfl (8 : Int32) (hb hby at_47) (by decide) ?_
    show Steps p.tables e below (s₁.setTop (mkF m 49 #[.val (.int p1), .val (.int (6 : Int32)), .val (.long (1000000 : Int64)), .second] [(.int (8 : Int32)), (.int (6 : Int32))])) _
    refine XS.iand X0.here hx rfl (hb hby at_49) rfl ?_
    rw [show ((6 : Int32) &&& (8 : Int32)) = (0 : Int32) from by decide]
    show Steps p.tables e below (s₁.setTop (mkF m 50 #[.val (.int p1), .val (.int (6 : Int32)), .val (.long (1000000 : Int64)), .second] [(.int (0 : Int32))])) _
    refine XS.ifYes X0.here hx rfl (pc0 := 50) (pc' := 59) rfl (hb hby at_50) rfl (by decide) (by decide) (by decide) ?_
    show Steps p.tables e below (s₁.setTop (mkF m 59 #[.val (.int p1), .val (.int (6 : Int32)), .val (.long (1000000 : Int64)), .second] [])) _
    refine XS.iloadN X0.here hx rfl (hb hby at_59) rfl ?_
    show Steps p.tables e below (s₁.setTop (mkF m 60 #[.val (.int p1), .val (.int (6 : Int32)), .val (.long (1000000 : Int64)), .second] [(.int (6 : Int32))])) _
    refine XT.bipushV X0.here hx rfl (16 : Int32) (hb hby at_60) (by decide) ?_
    show Steps p.tables e below (s₁.setTop (mkF m 62 #[.val (.int p1), .val (.int (6 : Int32)), .val (.long (1000000 : Int64)), .second] [(.int (16 : Int32)), (.int (6 : Int32))])) _
    refine XS.iand X0.here hx rfl (hb hby at_62) rfl ?_
    rw [show ((6 : Int32) &&& (16 : Int32)) = (0 : Int32) from by decide]
    show Steps p.tables e below (s₁.setTop (mkF m 63 #[.val (.int p1), .val (.int (6 : Int32)), .val (.long (1000000 : Int64)), .second] [(.int (0 : Int32))])) _
    refine XS.ifYes X0.here hx rfl (pc0 := 63) (pc' := 72) rfl (hb hby at_63) rfl (by decide) (by decide) (by decide) ?_
    show Steps p.tables e below (s₁.setTop (mkF m 72 #[.val (.int p1), .val (.int (6 : Int32)), .val (.long (1000000 : Int64)), .second] [])) _
    refine XS.iloadN X0.here hx rfl (hb hby at_72) rfl ?_
    show Steps p.tables e below (s₁.setTop (mkF m 73 #[.val (.int p1), .val (.int (6 : Int32)), .val (.long (1000000 : Int64)), .second] [(.int (6 : Int32))])) _
    refine st45 _ ?_
    show Steps p.tables e below (T45.setTop (mkF m 76 #[.val (.int p1), .val (.int (6 : Int32)), .val (.long (1000000 : Int64)), .second] [(.long (1000000 : Int64))])) _
    refine XT.lloadN X45.here hx rfl (hb hby at_76) rfl ?_
    show Steps p.tables e below (T45.setTop (mkF m 77 #[.val (.int p1), .val (.int (6 : Int32)), .val (.long (1000000 : Int64)), .second] [(.long (1000000 : Int64)), (.long (1000000 : Int64))])) _
    refine XT.lcmp X45.here hx rfl (hb hby at_77) rfl ?_
    show Steps p.tables e below (T45.setTop (mkF m 78 #[.val (.int p1), .val (.int (6 : Int32)), .val (.long (1000000 : Int64)), .second] [(.int (XT.cmpL (1000000 : Int64) (1000000 : Int64)))])) _
    refine XS.ifNo X45.here hx rfl (hb hby at_78) rfl (XT.ll_ne_f (by decide)) ?_
    show Steps p.tables e below (T45.setTop (mkF m 81 #[.val (.int p1), .val (.int (6 : Int32)), .val (.long (1000000 : Int64)), .second] [])) _
    refine XT.iconstV X45.here hx rfl (1 : Int32) (hb hby at_81) rfl ?_
    show Steps p.tables e below (T45.setTop (mkF m 82 #[.val (.int p1), .val (.int (6 : Int32)), .val (.long (1000000 : Int64)), .second] [(.int (1 : Int32))])) _
    refine XS.goto X45.here hx rfl (pc0 := 82) (pc' := 86) rfl (hb hby at_82) (by decide) (by decide) ?_
    show Steps p.tables e below (T45.setTop (mkF m 86 #[.val (.int p1), .val (.int (6 : Int32)), .val (.long (1000000 : Int64)), .second] [(.int (1 : Int32))])) _
    exact retN X45 hx (t := .boolean) Bd.returns (by simp) (hb hby at_86) hr
  · show own_Q0 n0 _ T45.heap _
    exact ⟨rfl, N45⟩
set_option maxRecDepth 65536 in
set_option maxHeartbeats 40000000 in
theorem own_law_7 (l : Launch) (Z : State) (a0 : Array Value) (hw : ∀ d ∈ tables_1, d.before a0 Z = true) (ws : List Jvm.Cond) (p1 : Int32) (w0 : Addr) (cl : Cell) (h0 : Heap) (n0 : Nat) (Z0 : n0 ≤ h0.size) (P : own_P Z h0 w0 cl) (hk : ((p1 &&& (2147483647 : Int32)) % (19 : Int32)) = (7 : Int32)) :
    MetFree l x (head1 (Jvm.Cond.code x code maxLocals ret :: ws) room_1) (fun a U => a = #[(.int p1)] ∧ Z.Warmed39 U.vm ∧ U.heap = h0) (fun _ _ _ _ _ => True) (fun _ U o U' => ∃ v L, o = .returned v ∧ own_Q0 n0 v U'.heap L ∧ FrameEnd U o U' L room_1.cells room_1.slots) := by
  refine MetFree.of_bodySF (plainFor_of_name pn_com_example_tranchor_tranchor_FractionPowerOfTenPinLaw) hisR ?_
  intro p e s m args below meth c s₁ Bd hml0 hP hK
  obtain ⟨rfl, hZ, hh⟩ := hP
  have hx := Bd.exec
  have hby := Bd.bytes
  have hml : c.maxLocals = 4 := hml0
  have hown : s.vm.findClass "com/example/tranchor/tranchor/FractionPowerOfTenPinLaw" = some m.cls := findClass_of_methodNamed Bd.named
  have hnm := (name_of_methodNamed Bd.named Bd.method).1
  have X0 : Stand p l e room_1 s m #[(.int p1)] below meth c s₁ [] 0 0 := Stand.of_body Bd
  have e0 : s₁.heap = h0 := by rw [← hh, Bd.state]; rfl
  have N0 := Fr.nil n0
  have pre0 : ∀ t, Steps p.tables e below (s₁.setTop (mkF m 0 #[.val (.int p1), .unset, .unset, .unset] [])) t → Steps p.tables e below (s₁.setTop (entryFrame m #[(.int p1)] maxLocals)) t := fun t k => castTop (ef_code_I m p1) k
  obtain ⟨_, _, ⟨T46, L46, k46, n46⟩, -, X46, ⟨Lc46, hQ46, l46, y46, z46⟩, st46⟩ := Jvm.LawKit.callS X0 hx (y := (⟨"com/example/tranchor/tranchor/Fraction", "powerOfTen", "(I)J"⟩ : MethodName)) hown (mvT hZ (hw _ (List.mem_of_getElem? (i := 1) rfl))) (mvT hZ (hw _ (List.mem_of_getElem? (i := 2) rfl))) (mvT hZ (hw _ (List.mem_of_getElem? (i := 3) rfl))) (mvT hZ (hw _ (List.mem_of_getElem? (i := 4) rfl))) (by decide) (backOf (W := 0) (own_pow_7 l Z a0 hw [] w0 cl h0 n0 Z0 P) hZ (hw _ (List.mem_of_getElem? (i := 4) rfl)) (hw _ (List.mem_of_getElem? (i := 3) rfl)) (by decide) (by decide)) (g := (mkF m 73 #[.val (.int p1), .val (.int (7 : Int32)), .val (.long (10000000 : Int64)), .second] [(.int (7 : Int32))])) rfl (by rw [hml]; rfl) (argsL := [(.int (7 : Int32))]) (rest := []) (lenOf pd__I_J rfl) rfl (by show 2 * 0 + _ ≤ _; exact Nat.le_of_eq rfl) (hb hby at_73) (fun _ _ => ⟨rfl, e0, (by decide : 0 + 0 ≤ _), (by decide : 0 + 0 ≤ _)⟩)
  dsimp only [Pt.U, Pt.locs, Pt.cells, Pt.slots] at X46 l46 y46 z46 st46 hQ46
  subst l46 y46 z46
  obtain ⟨rfl, N46q, e46⟩ := hQ46
  have N46 := Fr.app N0 N46q
  obtain ⟨fs, hr, hrun, hended, hW, hsame⟩ := X46.leave (v := some (.int (1 : Int32))) (fun h => by rw [Bd.returns] at h; cases h)
  refine ⟨_, _, pre0 _ ?_, hrun, hended, _, _, rfl, ?_, ⟨_, rfl⟩, hW, hsame.mono (by decide) (by decide)⟩
  · show Steps p.tables e below (s₁.setTop (mkF m 0 #[.val (.int p1), .unset, .unset, .unset] [])) _
    refine XS.iloadN X0.here hx rfl (hb hby at_0) rfl ?_
    show Steps p.tables e below (s₁.setTop (mkF m 1 #[.val (.int p1), .unset, .unset, .unset] [(.int p1)])) _
    refine Jvm.Stand.ldcI X0 hx hown (mvT hZ (hw _ (List.mem_of_getElem? (i := 0) rfl))) rfl (hb hby at_1) ?_
    show Steps p.tables e below (s₁.setTop (mkF m 3 #[.val (.int p1), .unset, .unset, .unset] [(.int (2147483647 : Int32)), (.int p1)])) _
    refine XS.iand X0.here hx rfl (hb hby at_3) rfl ?_
    show Steps p.tables e below (s₁.setTop (mkF m 4 #[.val (.int p1), .unset, .unset, .unset] [(.int (p1 &&& (2147483647 : Int32)))])) _
    refine XT.bipushV X0.here hx rfl (19 : Int32) (hb hby at_4) (by decide) ?_
    show Steps p.tables e below (s₁.setTop (mkF m 6 #[.val (.int p1), .unset, .unset, .unset] [(.int (19 : Int32)), (.int (p1 &&& (2147483647 : Int32)))])) _
    refine iremM X0 hx rfl (hb hby at_6) rfl (by decide) ?_
    show Steps p.tables e below (s₁.setTop (mkF m 7 #[.val (.int p1), .unset, .unset, .unset] [(.int ((p1 &&& (2147483647 : Int32)) % (19 : Int32)))])) _
    rw [hk]
    show Steps p.tables e below (s₁.setTop (mkF m 7 #[.val (.int p1), .unset, .unset, .unset] [(.int (7 : Int32))])) _
    refine XS.istoreN X0.here hx rfl (hb hby at_7) rfl (l' := #[.val (.int p1), .val (.int (7 : Int32)), .unset, .unset]) rfl ?_
    show Steps p.tables e below (s₁.setTop (mkF m 8 #[.val (.int p1), .val (.int (7 : Int32)), .unset, .unset] [])) _
    refine XT.lconstV X0.here hx rfl (1 : Int64) (hb hby at_8) rfl ?_
    show Steps p.tables e below (s₁.setTop (mkF m 9 #[.val (.int p1), .val (.int (7 : Int32)), .unset, .unset] [(.long (1 : Int64))])) _
    refine XT.lstoreN X0.here hx rfl (hb hby at_9) rfl (l' := #[.val (.int p1), .val (.int (7 : Int32)), .val (.long (1 : Int64)), .second]) rfl ?_
    show Steps p.tables e below (s₁.setTop (mkF m 10 #[.val (.int p1), .val (.int (7 : Int32)), .val (.long (1 : Int64)), .second] [])) _
    refine XS.iloadN X0.here hx rfl (hb hby at_10) rfl ?_
    show Steps p.tables e below (s₁.setTop (mkF m 11 #[.val (.int p1), .val (.int (7 : Int32)), .val (.long (1 : Int64)), .second] [(.int (7 : Int32))])) _
    refine XT.iconstV X0.here hx rfl (1 : Int32) (hb hby at_11) rfl ?_
    show Steps p.tables e below (s₁.setTop (mkF m 12 #[.val (.int p1), .val (.int (7 : Int32)), .val (.long (1 : Int64)), .second] [(.int (1 : Int32)), (.int (7 : Int32))])) _
    refine XS.iand X0.here hx rfl (hb hby at_12) rfl ?_
    rw [show ((7 : Int32) &&& (1 : Int32)) = (1 : Int32) from by decide]
    show Steps p.tables e below (s₁.setTop (mkF m 13 #[.val (.int p1), .val (.int (7 : Int32)), .val (.long (1 : Int64)), .second] [(.int (1 : Int32))])) _
    refine XS.ifNo X0.here hx rfl (hb hby at_13) rfl (by decide) ?_
    show Steps p.tables e below (s₁.setTop (mkF m 16 #[.val (.int p1), .val (.int (7 : Int32)), .val (.long (1 : Int64)), .second] [])) _
    refine XT.lloadN X0.here hx rfl (hb hby at_16) rfl ?_
    show Steps p.tables e below (s₁.setTop (mkF m 17 #[.val (.int p1), .val (.int (7 : Int32)), .val (.long (1 : Int64)), .second] [(.long (1 : Int64))])) _
    refine Jvm.Stand.ldc2J X0 hx hown (mvT hZ (hw _ (List.mem_of_getElem? (i := 7) rfl))) rfl (hb hby at_17) ?_
    show Steps p.tables e below (s₁.setTop (mkF m 20 #[.val (.int p1), .val (.int (7 : Int32)), .val (.long (1 : Int64)), .second] [(.long (10 : Int64)), (.long (1 : Int64))])) _
    refine XT.lmul X0.here hx rfl (hb hby at_20) rfl ?_
    rw [show ((1 : Int64) * (10 : Int64)) = (10 : Int64) from by decide]
    show Steps p.tables e below (s₁.setTop (mkF m 21 #[.val (.int p1), .val (.int (7 : Int32)), .val (.long (1 : Int64)), .second] [(.long (10 : Int64))])) _
    refine XT.lstoreN X0.here hx rfl (hb hby at_21) rfl (l' := #[.val (.int p1), .val (.int (7 : Int32)), .val (.long (10 : Int64)), .second]) rfl ?_
    show Steps p.tables e below (s₁.setTop (mkF m 22 #[.val (.int p1), .val (.int (7 : Int32)), .val (.long (10 : Int64)), .second] [])) _
    refine XS.iloadN X0.here hx rfl (hb hby at_22) rfl ?_
    show Steps p.tables e below (s₁.setTop (mkF m 23 #[.val (.int p1), .val (.int (7 : Int32)), .val (.long (10 : Int64)), .second] [(.int (7 : Int32))])) _
    refine XT.iconstV X0.here hx rfl (2 : Int32) (hb hby at_23) rfl ?_
    show Steps p.tables e below (s₁.setTop (mkF m 24 #[.val (.int p1), .val (.int (7 : Int32)), .val (.long (10 : Int64)), .second] [(.int (2 : Int32)), (.int (7 : Int32))])) _
    refine XS.iand X0.here hx rfl (hb hby at_24) rfl ?_
    rw [show ((7 : Int32) &&& (2 : Int32)) = (2 : Int32) from by decide]
    show Steps p.tables e below (s₁.setTop (mkF m 25 #[.val (.int p1), .val (.int (7 : Int32)), .val (.long (10 : Int64)), .second] [(.int (2 : Int32))])) _
    refine XS.ifNo X0.here hx rfl (hb hby at_25) rfl (by decide) ?_
    show Steps p.tables e below (s₁.setTop (mkF m 28 #[.val (.int p1), .val (.int (7 : Int32)), .val (.long (10 : Int64)), .second] [])) _
    refine XT.lloadN X0.here hx rfl (hb hby at_28) rfl ?_
    show Steps p.tables e below (s₁.setTop (mkF m 29 #[.val (.int p1), .val (.int (7 : Int32)), .val (.long (10 : Int64)), .second] [(.long (10 : Int64))])) _
    refine Jvm.Stand.ldc2J X0 hx hown (mvT hZ (hw _ (List.mem_of_getElem? (i := 8) rfl))) rfl (hb hby at_29) ?_
    show Steps p.tables e below (s₁.setTop (mkF m 32 #[.val (.int p1), .val (.int (7 : Int32)), .val (.long (10 : Int64)), .second] [(.long (100 : Int64)), (.long (10 : Int64))])) _
    refine XT.lmul X0.here hx rfl (hb hby at_32) rfl ?_
    rw [show ((10 : Int64) * (100 : Int64)) = (1000 : Int64) from by decide]
    show Steps p.tables e below (s₁.setTop (mkF m 33 #[.val (.int p1), .val (.int (7 : Int32)), .val (.long (10 : Int64)), .second] [(.long (1000 : Int64))])) _
    refine XT.lstoreN X0.here hx rfl (hb hby at_33) rfl (l' := #[.val (.int p1), .val (.int (7 : Int32)), .val (.long (1000 : Int64)), .second]) rfl ?_
    show Steps p.tables e below (s₁.setTop (mkF m 34 #[.val (.int p1), .val (.int (7 : Int32)), .val (.long (1000 : Int64)), .second] [])) _
    refine XS.iloadN X0.here hx rfl (hb hby at_34) rfl ?_
    show Steps p.tables e below (s₁.setTop (mkF m 35 #[.val (.int p1), .val (.int (7 : Int32)), .val (.long (1000 : Int64)), .second] [(.int (7 : Int32))])) _
    refine XT.iconstV X0.here hx rfl (4 : Int32) (hb hby at_35) rfl ?_
    show Steps p.tables e below (s₁.setTop (mkF m 36 #[.val (.int p1), .val (.int (7 : Int32)), .val (.long (1000 : Int64)), .second] [(.int (4 : Int32)), (.int (7 : Int32))])) _
    refine XS.iand X0.here hx rfl (hb hby at_36) rfl ?_
    rw [show ((7 : Int32) &&& (4 : Int32)) = (4 : Int32) from by decide]
    show Steps p.tables e below (s₁.setTop (mkF m 37 #[.val (.int p1), .val (.int (7 : Int32)), .val (.long (1000 : Int64)), .second] [(.int (4 : Int32))])) _
    refine XS.ifNo X0.here hx rfl (hb hby at_37) rfl (by decide) ?_
    show Steps p.tables e below (s₁.setTop (mkF m 40 #[.val (.int p1), .val (.int (7 : Int32)), .val (.long (1000 : Int64)), .second] [])) _
    refine XT.lloadN X0.here hx rfl (hb hby at_40) rfl ?_
    show Steps p.tables e below (s₁.setTop (mkF m 41 #[.val (.int p1), .val (.int (7 : Int32)), .val (.long (1000 : Int64)), .second] [(.long (1000 : Int64))])) _
    refine Jvm.Stand.ldc2J X0 hx hown (mvT hZ (hw _ (List.mem_of_getElem? (i := 9) rfl))) rfl (hb hby at_41) ?_
    show Steps p.tables e below (s₁.setTop (mkF m 44 #[.val (.int p1), .val (.int (7 : Int32)), .val (.long (1000 : Int64)), .second] [(.long (10000 : Int64)), (.long (1000 : Int64))])) _
    refine XT.lmul X0.here hx rfl (hb hby at_44) rfl ?_
    rw [show ((1000 : Int64) * (10000 : Int64)) = (10000000 : Int64) from by decide]
    show Steps p.tables e below (s₁.setTop (mkF m 45 #[.val (.int p1), .val (.int (7 : Int32)), .val (.long (1000 : Int64)), .second] [(.long (10000000 : Int64))])) _
    refine XT.lstoreN X0.here hx rfl (hb hby at_45) rfl (l' := #[.val (.int p1), .val (.int (7 : Int32)), .val (.long (10000000 : Int64)), .second]) rfl ?_
    show Steps p.tables e below (s₁.setTop (mkF m 46 #[.val (.int p1), .val (.int (7 : Int32)), .val (.long (10000000 : Int64)), .second] [])) _
    refine XS.iloadN X0.here hx rfl (hb hby at_46) rfl ?_
    show Steps p.tables e below (s₁.setTop (mkF m 47 #[.val (.int p1), .val (.int (7 : Int32)), .val (.long (10000000 : Int64)), .second] [(.int (7 : Int32))])) _
    refine XT.bipushV X0.here hx rfl (8 : Int32) (hb hby at_47) (by decide) ?_
    show Steps p.tables e below (s₁.setTop (mkF m 49 #[.val (.int p1), .val (.int (7 : Int32)), .val (.long (10000000 : Int64)), .second] [(.int (8 : Int32)), (.int (7 : Int32))])) _
    refine XS.iand X0.here hx rfl (hb hby at_49) rfl ?_
    rw [show ((7 : Int32) &&& (8 : Int32)) = (0 : Int32) from by decide]
    show Steps p.tables e below (s₁.setTop (mkF m 50 #[.val (.int p1), .val (.int (7 : Int32)), .val (.long (10000000 : Int64)), .second] [(.int (0 : Int32))])) _
    refine XS.ifYes X0.here hx rfl (pc0 := 50) (pc' := 59) rfl (hb hby at_50) rfl (by decide) (by decide) (by decide) ?_
    show Steps p.tables e below (s₁.setTop (mkF m 59 #[.val (.int p1), .val (.int (7 : Int32)), .val (.long (10000000 : Int64)), .second] [])) _
    refine XS.iloadN X0.here hx rfl (hb hby at_59) rfl ?_
    show Steps p.tables e below (s₁.setTop (mkF m 60 #[.val (.int p1), .val (.int (7 : Int32)), .val (.long (10000000 : Int64)), .second] [(.int (7 : Int32))])) _
    refine XT.bipushV X0.here hx rfl (16 : Int32) (hb hby at_60) (by decide) ?_
    show Steps p.tables e below (s₁.setTop (mkF m 62 #[.val (.int p1), .val (.int (7 : Int32)), .val (.long (10000000 : Int64)), .second] [(.int (16 : Int32)), (.int (7 : Int32))])) _
    refine XS.iand X0.here hx rfl (hb hby at_62) rfl ?_
    rw [show ((7 : Int32) &&& (16 : Int32)) = (0 : Int32) from by decide]
    show Steps p.tables e below (s₁.setTop (mkF m 63 #[.val (.int p1), .val (.int (7 : Int32)), .val (.long (10000000 : Int64)), .second] [(.int (0 : Int32))])) _
    refine XS.ifYes X0.here hx rfl (pc0 := 63) (pc' := 72) rfl (hb hby at_63) rfl (by decide) (by decide) (by decide) ?_
    show Steps p.tables e below (s₁.setTop (mkF m 72 #[.val (.int p1), .val (.int (7 : Int32)), .val (.long (10000000 : Int64)), .second] [])) _
    refine XS.iloadN X0.here hx rfl (hb hby at_72) rfl ?_
    show Steps p.tables e below (s₁.setTop (mkF m 73 #[.val (.int p1), .val (.int (7 : Int32)), .val (.long (10000000 : Int64)), .second] [(.int (7 : Int32))])) _
    refine st46 _ ?_
    show Steps p.tables e below (T46.setTop (mkF m 76 #[.val (.int p1), .val (.int (7 : Int32)), .val (.long (10000000 : Int64)), .second] [(.long (10000000 : Int64))])) _
    refine XT.lloadN X46.here hx rfl (hb hby at_76) rfl ?_
    show Steps p.tables e below (T46.setTop (mkF m 77 #[.val (.int p1), .val (.int (7 : Int32)), .val (.long (10000000 : Int64)), .second] [(.long (10000000 : Int64)), (.long (10000000 : Int64))])) _
    refine XT.lcmp X46.here hx rfl (hb hby at_77) rfl ?_
    show Steps p.tables e below (T46.setTop (mkF m 78 #[.val (.int p1), .val (.int (7 : Int32)), .val (.long (10000000 : Int64)), .second] [(.int (XT.cmpL (10000000 : Int64) (10000000 : Int64)))])) _
    refine XS.ifNo X46.here hx rfl (hb hby at_78) rfl (XT.ll_ne_f (by decide)) ?_
    show Steps p.tables e below (T46.setTop (mkF m 81 #[.val (.int p1), .val (.int (7 : Int32)), .val (.long (10000000 : Int64)), .second] [])) _
    refine XT.iconstV X46.here hx rfl (1 : Int32) (hb hby at_81) rfl ?_
    show Steps p.tables e below (T46.setTop (mkF m 82 #[.val (.int p1), .val (.int (7 : Int32)), .val (.long (10000000 : Int64)), .second] [(.int (1 : Int32))])) _
    refine XS.goto X46.here hx rfl (pc0 := 82) (pc' := 86) rfl (hb hby at_82) (by decide) (by decide) ?_
    show Steps p.tables e below (T46.setTop (mkF m 86 #[.val (.int p1), .val (.int (7 : Int32)), .val (.long (10000000 : Int64)), .second] [(.int (1 : Int32))])) _
    exact retN X46 hx (t := .boolean) Bd.returns (by simp) (hb hby at_86) hr
  · show own_Q0 n0 _ T46.heap _
    exact ⟨rfl, N46⟩
set_option maxRecDepth 65536 in
set_option maxHeartbeats 40000000 in
theorem own_law_8 (l : Launch) (Z : State) (a0 : Array Value) (hw : ∀ d ∈ tables_1, d.before a0 Z = true) (ws : List Jvm.Cond) (p1 : Int32) (w0 : Addr) (cl : Cell) (h0 : Heap) (n0 : Nat) (Z0 : n0 ≤ h0.size) (P : own_P Z h0 w0 cl) (hk : ((p1 &&& (2147483647 : Int32)) % (19 : Int32)) = (8 : Int32)) :
    MetFree l x (head1 (Jvm.Cond.code x code maxLocals ret :: ws) room_1) (fun a U => a = #[(.int p1)] ∧ Z.Warmed39 U.vm ∧ U.heap = h0) (fun _ _ _ _ _ => True) (fun _ U o U' => ∃ v L, o = .returned v ∧ own_Q0 n0 v U'.heap L ∧ FrameEnd U o U' L room_1.cells room_1.slots) := by
  refine MetFree.of_bodySF (plainFor_of_name pn_com_example_tranchor_tranchor_FractionPowerOfTenPinLaw) hisR ?_
  intro p e s m args below meth c s₁ Bd hml0 hP hK
  obtain ⟨rfl, hZ, hh⟩ := hP
  have hx := Bd.exec
  have hby := Bd.bytes
  have hml : c.maxLocals = 4 := hml0
  have hown : s.vm.findClass "com/example/tranchor/tranchor/FractionPowerOfTenPinLaw" = some m.cls := findClass_of_methodNamed Bd.named
  have hnm := (name_of_methodNamed Bd.named Bd.method).1
  have X0 : Stand p l e room_1 s m #[(.int p1)] below meth c s₁ [] 0 0 := Stand.of_body Bd
  have e0 : s₁.heap = h0 := by rw [← hh, Bd.state]; rfl
  have N0 := Fr.nil n0
  have pre0 : ∀ t, Steps p.tables e below (s₁.setTop (mkF m 0 #[.val (.int p1), .unset, .unset, .unset] [])) t → Steps p.tables e below (s₁.setTop (entryFrame m #[(.int p1)] maxLocals)) t := fun t k => castTop (ef_code_I m p1) k
  obtain ⟨_, _, ⟨T47, L47, k47, n47⟩, -, X47, ⟨Lc47, hQ47, l47, y47, z47⟩, st47⟩ := Jvm.LawKit.callS X0 hx (y := (⟨"com/example/tranchor/tranchor/Fraction", "powerOfTen", "(I)J"⟩ : MethodName)) hown (mvT hZ (hw _ (List.mem_of_getElem? (i := 1) rfl))) (mvT hZ (hw _ (List.mem_of_getElem? (i := 2) rfl))) (mvT hZ (hw _ (List.mem_of_getElem? (i := 3) rfl))) (mvT hZ (hw _ (List.mem_of_getElem? (i := 4) rfl))) (by decide) (backOf (W := 0) (own_pow_8 l Z a0 hw [] w0 cl h0 n0 Z0 P) hZ (hw _ (List.mem_of_getElem? (i := 4) rfl)) (hw _ (List.mem_of_getElem? (i := 3) rfl)) (by decide) (by decide)) (g := (mkF m 73 #[.val (.int p1), .val (.int (8 : Int32)), .val (.long (100000000 : Int64)), .second] [(.int (8 : Int32))])) rfl (by rw [hml]; rfl) (argsL := [(.int (8 : Int32))]) (rest := []) (lenOf pd__I_J rfl) rfl (by show 2 * 0 + _ ≤ _; exact Nat.le_of_eq rfl) (hb hby at_73) (fun _ _ => ⟨rfl, e0, (by decide : 0 + 0 ≤ _), (by decide : 0 + 0 ≤ _)⟩)
  dsimp only [Pt.U, Pt.locs, Pt.cells, Pt.slots] at X47 l47 y47 z47 st47 hQ47
  subst l47 y47 z47
  obtain ⟨rfl, N47q, e47⟩ := hQ47
  have N47 := Fr.app N0 N47q
  obtain ⟨fs, hr, hrun, hended, hW, hsame⟩ := X47.leave (v := some (.int (1 : Int32))) (fun h => by rw [Bd.returns] at h; cases h)
  refine ⟨_, _, pre0 _ ?_, hrun, hended, _, _, rfl, ?_, ⟨_, rfl⟩, hW, hsame.mono (by decide) (by decide)⟩
  · show Steps p.tables e below (s₁.setTop (mkF m 0 #[.val (.int p1), .unset, .unset, .unset] [])) _
    refine XS.iloadN X0.here hx rfl (hb hby at_0) rfl ?_
    show Steps p.tables e below (s₁.setTop (mkF m 1 #[.val (.int p1), .unset, .unset, .unset] [(.int p1)])) _
    refine Jvm.Stand.ldcI X0 hx hown (mvT hZ (hw _ (List.mem_of_getElem? (i := 0) rfl))) rfl (hb hby at_1) ?_
    show Steps p.tables e below (s₁.setTop (mkF m 3 #[.val (.int p1), .unset, .unset, .unset] [(.int (2147483647 : Int32)), (.int p1)])) _
    refine XS.iand X0.here hx rfl (hb hby at_3) rfl ?_
    show Steps p.tables e below (s₁.setTop (mkF m 4 #[.val (.int p1), .unset, .unset, .unset] [(.int (p1 &&& (2147483647 : Int32)))])) _
    refine XT.bipushV X0.here hx rfl (19 : Int32) (hb hby at_4) (by decide) ?_
    show Steps p.tables e below (s₁.setTop (mkF m 6 #[.val (.int p1), .unset, .unset, .unset] [(.int (19 : Int32)), (.int (p1 &&& (2147483647 : Int32)))])) _
    refine iremM X0 hx rfl (hb hby at_6) rfl (by decide) ?_
    show Steps p.tables e below (s₁.setTop (mkF m 7 #[.val (.int p1), .unset, .unset, .unset] [(.int ((p1 &&& (2147483647 : Int32)) % (19 : Int32)))])) _
    rw [hk]
    show Steps p.tables e below (s₁.setTop (mkF m 7 #[.val (.int p1), .unset, .unset, .unset] [(.int (8 : Int32))])) _
    refine XS.istoreN X0.here hx rfl (hb hby at_7) rfl (l' := #[.val (.int p1), .val (.int (8 : Int32)), .unset, .unset]) rfl ?_
    show Steps p.tables e below (s₁.setTop (mkF m 8 #[.val (.int p1), .val (.int (8 : Int32)), .unset, .unset] [])) _
    refine XT.lconstV X0.here hx rfl (1 : Int64) (hb hby at_8) rfl ?_
    show Steps p.tables e below (s₁.setTop (mkF m 9 #[.val (.int p1), .val (.int (8 : Int32)), .unset, .unset] [(.long (1 : Int64))])) _
    refine XT.lstoreN X0.here hx rfl (hb hby at_9) rfl (l' := #[.val (.int p1), .val (.int (8 : Int32)), .val (.long (1 : Int64)), .second]) rfl ?_
    show Steps p.tables e below (s₁.setTop (mkF m 10 #[.val (.int p1), .val (.int (8 : Int32)), .val (.long (1 : Int64)), .second] [])) _
    refine XS.iloadN X0.here hx rfl (hb hby at_10) rfl ?_
    show Steps p.tables e below (s₁.setTop (mkF m 11 #[.val (.int p1), .val (.int (8 : Int32)), .val (.long (1 : Int64)), .second] [(.int (8 : Int32))])) _
    refine XT.iconstV X0.here hx rfl (1 : Int32) (hb hby at_11) rfl ?_
    show Steps p.tables e below (s₁.setTop (mkF m 12 #[.val (.int p1), .val (.int (8 : Int32)), .val (.long (1 : Int64)), .second] [(.int (1 : Int32)), (.int (8 : Int32))])) _
    refine XS.iand X0.here hx rfl (hb hby at_12) rfl ?_
    rw [show ((8 : Int32) &&& (1 : Int32)) = (0 : Int32) from by decide]
    show Steps p.tables e below (s₁.setTop (mkF m 13 #[.val (.int p1), .val (.int (8 : Int32)), .val (.long (1 : Int64)), .second] [(.int (0 : Int32))])) _
    refine XS.ifYes X0.here hx rfl (pc0 := 13) (pc' := 22) rfl (hb hby at_13) rfl (by decide) (by decide) (by decide) ?_
    show Steps p.tables e below (s₁.setTop (mkF m 22 #[.val (.int p1), .val (.int (8 : Int32)), .val (.long (1 : Int64)), .second] [])) _
    refine XS.iloadN X0.here hx rfl (hb hby at_22) rfl ?_
    show Steps p.tables e below (s₁.setTop (mkF m 23 #[.val (.int p1), .val (.int (8 : Int32)), .val (.long (1 : Int64)), .second] [(.int (8 : Int32))])) _
    refine XT.iconstV X0.here hx rfl (2 : Int32) (hb hby at_23) rfl ?_
    show Steps p.tables e below (s₁.setTop (mkF m 24 #[.val (.int p1), .val (.int (8 : Int32)), .val (.long (1 : Int64)), .second] [(.int (2 : Int32)), (.int (8 : Int32))])) _
    refine XS.iand X0.here hx rfl (hb hby at_24) rfl ?_
    rw [show ((8 : Int32) &&& (2 : Int32)) = (0 : Int32) from by decide]
    show Steps p.tables e below (s₁.setTop (mkF m 25 #[.val (.int p1), .val (.int (8 : Int32)), .val (.long (1 : Int64)), .second] [(.int (0 : Int32))])) _
    refine XS.ifYes X0.here hx rfl (pc0 := 25) (pc' := 34) rfl (hb hby at_25) rfl (by decide) (by decide) (by decide) ?_
    show Steps p.tables e below (s₁.setTop (mkF m 34 #[.val (.int p1), .val (.int (8 : Int32)), .val (.long (1 : Int64)), .second] [])) _
    refine XS.iloadN X0.here hx rfl (hb hby at_34) rfl ?_
    show Steps p.tables e below (s₁.setTop (mkF m 35 #[.val (.int p1), .val (.int (8 : Int32)), .val (.long (1 : Int64)), .second] [(.int (8 : Int32))])) _
    refine XT.iconstV X0.here hx rfl (4 : Int32) (hb hby at_35) rfl ?_
    show Steps p.tables e below (s₁.setTop (mkF m 36 #[.val (.int p1), .val (.int (8 : Int32)), .val (.long (1 : Int64)), .second] [(.int (4 : Int32)), (.int (8 : Int32))])) _
    refine XS.iand X0.here hx rfl (hb hby at_36) rfl ?_
    rw [show ((8 : Int32) &&& (4 : Int32)) = (0 : Int32) from by decide]
    show Steps p.tables e below (s₁.setTop (mkF m 37 #[.val (.int p1), .val (.int (8 : Int32)), .val (.long (1 : Int64)), .second] [(.int (0 : Int32))])) _
    refine XS.ifYes X0.here hx rfl (pc0 := 37) (pc' := 46) rfl (hb hby at_37) rfl (by decide) (by decide) (by decide) ?_
    show Steps p.tables e below (s₁.setTop (mkF m 46 #[.val (.int p1), .val (.int (8 : Int32)), .val (.long (1 : Int64)), .second] [])) _
    refine XS.iloadN X0.here hx rfl (hb hby at_46) rfl ?_
    show Steps p.tables e below (s₁.setTop (mkF m 47 #[.val (.int p1), .val (.int (8 : Int32)), .val (.long (1 : Int64)), .second] [(.int (8 : Int32))])) _
    refine XT.bipushV X0.here hx rfl (8 : Int32) (hb hby at_47) (by decide) ?_
    show Steps p.tables e below (s₁.setTop (mkF m 49 #[.val (.int p1), .val (.int (8 : Int32)), .val (.long (1 : Int64)), .second] [(.int (8 : Int32)), (.int (8 : Int32))])) _
    refine XS.iand X0.here hx rfl (hb hby at_49) rfl ?_
    rw [show ((8 : Int32) &&& (8 : Int32)) = (8 : Int32) from by decide]
    show Steps p.tables e below (s₁.setTop (mkF m 50 #[.val (.int p1), .val (.int (8 : Int32)), .val (.long (1 : Int64)), .second] [(.int (8 : Int32))])) _
    refine XS.ifNo X0.here hx rfl (hb hby at_50) rfl (by decide) ?_
    show Steps p.tables e below (s₁.setTop (mkF m 53 #[.val (.int p1), .val (.int (8 : Int32)), .val (.long (1 : Int64)), .second] [])) _
    refine XT.lloadN X0.here hx rfl (hb hby at_53) rfl ?_
    show Steps p.tables e below (s₁.setTop (mkF m 54 #[.val (.int p1), .val (.int (8 : Int32)), .val (.long (1 : Int64)), .second] [(.long (1 : Int64))])) _
    refine Jvm.Stand.ldc2J X0 hx hown (mvT hZ (hw _ (List.mem_of_getElem? (i := 10) rfl))) rfl (hb hby at_54) ?_
    show Steps p.tables e below (s₁.setTop (mkF m 57 #[.val (.int p1), .val (.int (8 : Int32)), .val (.long (1 : Int64)), .second] [(.long (100000000 : Int64)), (.long (1 : Int64))])) _
    refine XT.lmul X0.here hx rfl (hb hby at_57) rfl ?_
    rw [show ((1 : Int64) * (100000000 : Int64)) = (100000000 : Int64) from by decide]
    show Steps p.tables e below (s₁.setTop (mkF m 58 #[.val (.int p1), .val (.int (8 : Int32)), .val (.long (1 : Int64)), .second] [(.long (100000000 : Int64))])) _
    refine XT.lstoreN X0.here hx rfl (hb hby at_58) rfl (l' := #[.val (.int p1), .val (.int (8 : Int32)), .val (.long (100000000 : Int64)), .second]) rfl ?_
    show Steps p.tables e below (s₁.setTop (mkF m 59 #[.val (.int p1), .val (.int (8 : Int32)), .val (.long (100000000 : Int64)), .second] [])) _
    refine XS.iloadN X0.here hx rfl (hb hby at_59) rfl ?_
    show Steps p.tables e below (s₁.setTop (mkF m 60 #[.val (.int p1), .val (.int (8 : Int32)), .val (.long (100000000 : Int64)), .second] [(.int (8 : Int32))])) _
    refine XT.bipushV X0.here hx rfl (16 : Int32) (hb hby at_60) (by decide) ?_
    show Steps p.tables e below (s₁.setTop (mkF m 62 #[.val (.int p1), .val (.int (8 : Int32)), .val (.long (100000000 : Int64)), .second] [(.int (16 : Int32)), (.int (8 : Int32))])) _
    refine XS.iand X0.here hx rfl (hb hby at_62) rfl ?_
    rw [show ((8 : Int32) &&& (16 : Int32)) = (0 : Int32) from by decide]
    show Steps p.tables e below (s₁.setTop (mkF m 63 #[.val (.int p1), .val (.int (8 : Int32)), .val (.long (100000000 : Int64)), .second] [(.int (0 : Int32))])) _
    refine XS.ifYes X0.here hx rfl (pc0 := 63) (pc' := 72) rfl (hb hby at_63) rfl (by decide) (by decide) (by decide) ?_
    show Steps p.tables e below (s₁.setTop (mkF m 72 #[.val (.int p1), .val (.int (8 : Int32)), .val (.long (100000000 : Int64)), .second] [])) _
    refine XS.iloadN X0.here hx rfl (hb hby at_72) rfl ?_
    show Steps p.tables e below (s₁.setTop (mkF m 73 #[.val (.int p1), .val (.int (8 : Int32)), .val (.long (100000000 : Int64)), .second] [(.int (8 : Int32))])) _
    refine st47 _ ?_
    show Steps p.tables e below (T47.setTop (mkF m 76 #[.val (.int p1), .val (.int (8 : Int32)), .val (.long (100000000 : Int64)), .second] [(.long (100000000 : Int64))])) _
    refine XT.lloadN X47.here hx rfl (hb hby at_76) rfl ?_
    show Steps p.tables e below (T47.setTop (mkF m 77 #[.val (.int p1), .val (.int (8 : Int32)), .val (.long (100000000 : Int64)), .second] [(.long (100000000 : Int64)), (.long (100000000 : Int64))])) _
    refine XT.lcmp X47.here hx rfl (hb hby at_77) rfl ?_
    show Steps p.tables e below (T47.setTop (mkF m 78 #[.val (.int p1), .val (.int (8 : Int32)), .val (.long (100000000 : Int64)), .second] [(.int (XT.cmpL (100000000 : Int64) (100000000 : Int64)))])) _
    refine XS.ifNo X47.here hx rfl (hb hby at_78) rfl (XT.ll_ne_f (by decide)) ?_
    show Steps p.tables e below (T47.setTop (mkF m 81 #[.val (.int p1), .val (.int (8 : Int32)), .val (.long (100000000 : Int64)), .second] [])) _
    refine XT.iconstV X47.here hx rfl (1 : Int32) (hb hby at_81) rfl ?_
    show Steps p.tables e below (T47.setTop (mkF m 82 #[.val (.int p1), .val (.int (8 : Int32)), .val (.long (100000000 : Int64)), .second] [(.int (1 : Int32))])) _
    refine XS.goto X47.here hx rfl (pc0 := 82) (pc' := 86) rfl (hb hby at_82) (by decide) (by decide) ?_
    show Steps p.tables e below (T47.setTop (mkF m 86 #[.val (.int p1), .val (.int (8 : Int32)), .val (.long (100000000 : Int64)), .second] [(.int (1 : Int32))])) _
    exact retN X47 hx (t := .boolean) Bd.returns (by simp) (hb hby at_86) hr
  · show own_Q0 n0 _ T47.heap _
    exact ⟨rfl, N47⟩
set_option maxRecDepth 65536 in
set_option maxHeartbeats 40000000 in
theorem own_law_9 (l : Launch) (Z : State) (a0 : Array Value) (hw : ∀ d ∈ tables_1, d.before a0 Z = true) (ws : List Jvm.Cond) (p1 : Int32) (w0 : Addr) (cl : Cell) (h0 : Heap) (n0 : Nat) (Z0 : n0 ≤ h0.size) (P : own_P Z h0 w0 cl) (hk : ((p1 &&& (2147483647 : Int32)) % (19 : Int32)) = (9 : Int32)) :
    MetFree l x (head1 (Jvm.Cond.code x code maxLocals ret :: ws) room_1) (fun a U => a = #[(.int p1)] ∧ Z.Warmed39 U.vm ∧ U.heap = h0) (fun _ _ _ _ _ => True) (fun _ U o U' => ∃ v L, o = .returned v ∧ own_Q0 n0 v U'.heap L ∧ FrameEnd U o U' L room_1.cells room_1.slots) := by
  refine MetFree.of_bodySF (plainFor_of_name pn_com_example_tranchor_tranchor_FractionPowerOfTenPinLaw) hisR ?_
  intro p e s m args below meth c s₁ Bd hml0 hP hK
  obtain ⟨rfl, hZ, hh⟩ := hP
  have hx := Bd.exec
  have hby := Bd.bytes
  have hml : c.maxLocals = 4 := hml0
  have hown : s.vm.findClass "com/example/tranchor/tranchor/FractionPowerOfTenPinLaw" = some m.cls := findClass_of_methodNamed Bd.named
  have hnm := (name_of_methodNamed Bd.named Bd.method).1
  have X0 : Stand p l e room_1 s m #[(.int p1)] below meth c s₁ [] 0 0 := Stand.of_body Bd
  have e0 : s₁.heap = h0 := by rw [← hh, Bd.state]; rfl
  have N0 := Fr.nil n0
  have pre0 : ∀ t, Steps p.tables e below (s₁.setTop (mkF m 0 #[.val (.int p1), .unset, .unset, .unset] [])) t → Steps p.tables e below (s₁.setTop (entryFrame m #[(.int p1)] maxLocals)) t := fun t k => castTop (ef_code_I m p1) k
  obtain ⟨_, _, ⟨T48, L48, k48, n48⟩, -, X48, ⟨Lc48, hQ48, l48, y48, z48⟩, st48⟩ := Jvm.LawKit.callS X0 hx (y := (⟨"com/example/tranchor/tranchor/Fraction", "powerOfTen", "(I)J"⟩ : MethodName)) hown (mvT hZ (hw _ (List.mem_of_getElem? (i := 1) rfl))) (mvT hZ (hw _ (List.mem_of_getElem? (i := 2) rfl))) (mvT hZ (hw _ (List.mem_of_getElem? (i := 3) rfl))) (mvT hZ (hw _ (List.mem_of_getElem? (i := 4) rfl))) (by decide) (backOf (W := 0) (own_pow_9 l Z a0 hw [] w0 cl h0 n0 Z0 P) hZ (hw _ (List.mem_of_getElem? (i := 4) rfl)) (hw _ (List.mem_of_getElem? (i := 3) rfl)) (by decide) (by decide)) (g := (mkF m 73 #[.val (.int p1), .val (.int (9 : Int32)), .val (.long (1000000000 : Int64)), .second] [(.int (9 : Int32))])) rfl (by rw [hml]; rfl) (argsL := [(.int (9 : Int32))]) (rest := []) (lenOf pd__I_J rfl) rfl (by show 2 * 0 + _ ≤ _; exact Nat.le_of_eq rfl) (hb hby at_73) (fun _ _ => ⟨rfl, e0, (by decide : 0 + 0 ≤ _), (by decide : 0 + 0 ≤ _)⟩)
  dsimp only [Pt.U, Pt.locs, Pt.cells, Pt.slots] at X48 l48 y48 z48 st48 hQ48
  subst l48 y48 z48
  obtain ⟨rfl, N48q, e48⟩ := hQ48
  have N48 := Fr.app N0 N48q
  obtain ⟨fs, hr, hrun, hended, hW, hsame⟩ := X48.leave (v := some (.int (1 : Int32))) (fun h => by rw [Bd.returns] at h; cases h)
  refine ⟨_, _, pre0 _ ?_, hrun, hended, _, _, rfl, ?_, ⟨_, rfl⟩, hW, hsame.mono (by decide) (by decide)⟩
  · show Steps p.tables e below (s₁.setTop (mkF m 0 #[.val (.int p1), .unset, .unset, .unset] [])) _
    refine XS.iloadN X0.here hx rfl (hb hby at_0) rfl ?_
    show Steps p.tables e below (s₁.setTop (mkF m 1 #[.val (.int p1), .unset, .unset, .unset] [(.int p1)])) _
    refine Jvm.Stand.ldcI X0 hx hown (mvT hZ (hw _ (List.mem_of_getElem? (i := 0) rfl))) rfl (hb hby at_1) ?_
    show Steps p.tables e below (s₁.setTop (mkF m 3 #[.val (.int p1), .unset, .unset, .unset] [(.int (2147483647 : Int32)), (.int p1)])) _
    refine XS.iand X0.here hx rfl (hb hby at_3) rfl ?_
    show Steps p.tables e below (s₁.setTop (mkF m 4 #[.val (.int p1), .unset, .unset, .unset] [(.int (p1 &&& (2147483647 : Int32)))])) _
    refine XT.bipushV X0.here hx rfl (19 : Int32) (hb hby at_4) (by decide) ?_
    show Steps p.tables e below (s₁.setTop (mkF m 6 #[.val (.int p1), .unset, .unset, .unset] [(.int (19 : Int32)), (.int (p1 &&& (2147483647 : Int32)))])) _
    refine iremM X0 hx rfl (hb hby at_6) rfl (by decide) ?_
    show Steps p.tables e below (s₁.setTop (mkF m 7 #[.val (.int p1), .unset, .unset, .unset] [(.int ((p1 &&& (2147483647 : Int32)) % (19 : Int32)))])) _
    rw [hk]
    show Steps p.tables e below (s₁.setTop (mkF m 7 #[.val (.int p1), .unset, .unset, .unset] [(.int (9 : Int32))])) _
    refine XS.istoreN X0.here hx rfl (hb hby at_7) rfl (l' := #[.val (.int p1), .val (.int (9 : Int32)), .unset, .unset]) rfl ?_
    show Steps p.tables e below (s₁.setTop (mkF m 8 #[.val (.int p1), .val (.int (9 : Int32)), .unset, .unset] [])) _
    refine XT.lconstV X0.here hx rfl (1 : Int64) (hb hby at_8) rfl ?_
    show Steps p.tables e below (s₁.setTop (mkF m 9 #[.val (.int p1), .val (.int (9 : Int32)), .unset, .unset] [(.long (1 : Int64))])) _
    refine XT.lstoreN X0.here hx rfl (hb hby at_9) rfl (l' := #[.val (.int p1), .val (.int (9 : Int32)), .val (.long (1 : Int64)), .second]) rfl ?_
    show Steps p.tables e below (s₁.setTop (mkF m 10 #[.val (.int p1), .val (.int (9 : Int32)), .val (.long (1 : Int64)), .second] [])) _
    refine XS.iloadN X0.here hx rfl (hb hby at_10) rfl ?_
    show Steps p.tables e below (s₁.setTop (mkF m 11 #[.val (.int p1), .val (.int (9 : Int32)), .val (.long (1 : Int64)), .second] [(.int (9 : Int32))])) _
    refine XT.iconstV X0.here hx rfl (1 : Int32) (hb hby at_11) rfl ?_
    show Steps p.tables e below (s₁.setTop (mkF m 12 #[.val (.int p1), .val (.int (9 : Int32)), .val (.long (1 : Int64)), .second] [(.int (1 : Int32)), (.int (9 : Int32))])) _
    refine XS.iand X0.here hx rfl (hb hby at_12) rfl ?_
    rw [show ((9 : Int32) &&& (1 : Int32)) = (1 : Int32) from by decide]
    show Steps p.tables e below (s₁.setTop (mkF m 13 #[.val (.int p1), .val (.int (9 : Int32)), .val (.long (1 : Int64)), .second] [(.int (1 : Int32))])) _
    refine XS.ifNo X0.here hx rfl (hb hby at_13) rfl (by decide) ?_
    show Steps p.tables e below (s₁.setTop (mkF m 16 #[.val (.int p1), .val (.int (9 : Int32)), .val (.long (1 : Int64)), .second] [])) _
    refine XT.lloadN X0.here hx rfl (hb hby at_16) rfl ?_
    show Steps p.tables e below (s₁.setTop (mkF m 17 #[.val (.int p1), .val (.int (9 : Int32)), .val (.long (1 : Int64)), .second] [(.long (1 : Int64))])) _
    refine Jvm.Stand.ldc2J X0 hx hown (mvT hZ (hw _ (List.mem_of_getElem? (i := 7) rfl))) rfl (hb hby at_17) ?_
    show Steps p.tables e below (s₁.setTop (mkF m 20 #[.val (.int p1), .val (.int (9 : Int32)), .val (.long (1 : Int64)), .second] [(.long (10 : Int64)), (.long (1 : Int64))])) _
    refine XT.lmul X0.here hx rfl (hb hby at_20) rfl ?_
    rw [show ((1 : Int64) * (10 : Int64)) = (10 : Int64) from by decide]
    show Steps p.tables e below (s₁.setTop (mkF m 21 #[.val (.int p1), .val (.int (9 : Int32)), .val (.long (1 : Int64)), .second] [(.long (10 : Int64))])) _
    refine XT.lstoreN X0.here hx rfl (hb hby at_21) rfl (l' := #[.val (.int p1), .val (.int (9 : Int32)), .val (.long (10 : Int64)), .second]) rfl ?_
    show Steps p.tables e below (s₁.setTop (mkF m 22 #[.val (.int p1), .val (.int (9 : Int32)), .val (.long (10 : Int64)), .second] [])) _
    refine XS.iloadN X0.here hx rfl (hb hby at_22) rfl ?_
    show Steps p.tables e below (s₁.setTop (mkF m 23 #[.val (.int p1), .val (.int (9 : Int32)), .val (.long (10 : Int64)), .second] [(.int (9 : Int32))])) _
    refine XT.iconstV X0.here hx rfl (2 : Int32) (hb hby at_23) rfl ?_
    show Steps p.tables e below (s₁.setTop (mkF m 24 #[.val (.int p1), .val (.int (9 : Int32)), .val (.long (10 : Int64)), .second] [(.int (2 : Int32)), (.int (9 : Int32))])) _
    refine XS.iand X0.here hx rfl (hb hby at_24) rfl ?_
    rw [show ((9 : Int32) &&& (2 : Int32)) = (0 : Int32) from by decide]
    show Steps p.tables e below (s₁.setTop (mkF m 25 #[.val (.int p1), .val (.int (9 : Int32)), .val (.long (10 : Int64)), .second] [(.int (0 : Int32))])) _
    refine XS.ifYes X0.here hx rfl (pc0 := 25) (pc' := 34) rfl (hb hby at_25) rfl (by decide) (by decide) (by decide) ?_
    show Steps p.tables e below (s₁.setTop (mkF m 34 #[.val (.int p1), .val (.int (9 : Int32)), .val (.long (10 : Int64)), .second] [])) _
    refine XS.iloadN X0.here hx rfl (hb hby at_34) rfl ?_
    show Steps p.tables e below (s₁.setTop (mkF m 35 #[.val (.int p1), .val (.int (9 : Int32)), .val (.long (10 : Int64)), .second] [(.int (9 : Int32))])) _
    refine XT.iconstV X0.here hx rfl (4 : Int32) (hb hby at_35) rfl ?_
    show Steps p.tables e below (s₁.setTop (mkF m 36 #[.val (.int p1), .val (.int (9 : Int32)), .val (.long (10 : Int64)), .second] [(.int (4 : Int32)), (.int (9 : Int32))])) _
    refine XS.iand X0.here hx rfl (hb hby at_36) rfl ?_
    rw [show ((9 : Int32) &&& (4 : Int32)) = (0 : Int32) from by decide]
    show Steps p.tables e below (s₁.setTop (mkF m 37 #[.val (.int p1), .val (.int (9 : Int32)), .val (.long (10 : Int64)), .second] [(.int (0 : Int32))])) _
    refine XS.ifYes X0.here hx rfl (pc0 := 37) (pc' := 46) rfl (hb hby at_37) rfl (by decide) (by decide) (by decide) ?_
    show Steps p.tables e below (s₁.setTop (mkF m 46 #[.val (.int p1), .val (.int (9 : Int32)), .val (.long (10 : Int64)), .second] [])) _
    refine XS.iloadN X0.here hx rfl (hb hby at_46) rfl ?_
    show Steps p.tables e below (s₁.setTop (mkF m 47 #[.val (.int p1), .val (.int (9 : Int32)), .val (.long (10 : Int64)), .second] [(.int (9 : Int32))])) _
    refine XT.bipushV X0.here hx rfl (8 : Int32) (hb hby at_47) (by decide) ?_
    show Steps p.tables e below (s₁.setTop (mkF m 49 #[.val (.int p1), .val (.int (9 : Int32)), .val (.long (10 : Int64)), .second] [(.int (8 : Int32)), (.int (9 : Int32))])) _
    refine XS.iand X0.here hx rfl (hb hby at_49) rfl ?_
    rw [show ((9 : Int32) &&& (8 : Int32)) = (8 : Int32) from by decide]
    show Steps p.tables e below (s₁.setTop (mkF m 50 #[.val (.int p1), .val (.int (9 : Int32)), .val (.long (10 : Int64)), .second] [(.int (8 : Int32))])) _
    refine XS.ifNo X0.here hx rfl (hb hby at_50) rfl (by decide) ?_
    show Steps p.tables e below (s₁.setTop (mkF m 53 #[.val (.int p1), .val (.int (9 : Int32)), .val (.long (10 : Int64)), .second] [])) _
    refine XT.lloadN X0.here hx rfl (hb hby at_53) rfl ?_
    show Steps p.tables e below (s₁.setTop (mkF m 54 #[.val (.int p1), .val (.int (9 : Int32)), .val (.long (10 : Int64)), .second] [(.long (10 : Int64))])) _
    refine Jvm.Stand.ldc2J X0 hx hown (mvT hZ (hw _ (List.mem_of_getElem? (i := 10) rfl))) rfl (hb hby at_54) ?_
    show Steps p.tables e below (s₁.setTop (mkF m 57 #[.val (.int p1), .val (.int (9 : Int32)), .val (.long (10 : Int64)), .second] [(.long (100000000 : Int64)), (.long (10 : Int64))])) _
    refine XT.lmul X0.here hx rfl (hb hby at_57) rfl ?_
    rw [show ((10 : Int64) * (100000000 : Int64)) = (1000000000 : Int64) from by decide]
    show Steps p.tables e below (s₁.setTop (mkF m 58 #[.val (.int p1), .val (.int (9 : Int32)), .val (.long (10 : Int64)), .second] [(.long (1000000000 : Int64))])) _
    refine XT.lstoreN X0.here hx rfl (hb hby at_58) rfl (l' := #[.val (.int p1), .val (.int (9 : Int32)), .val (.long (1000000000 : Int64)), .second]) rfl ?_
    show Steps p.tables e below (s₁.setTop (mkF m 59 #[.val (.int p1), .val (.int (9 : Int32)), .val (.long (1000000000 : Int64)), .second] [])) _
    refine XS.iloadN X0.here hx rfl (hb hby at_59) rfl ?_
    show Steps p.tables e below (s₁.setTop (mkF m 60 #[.val (.int p1), .val (.int (9 : Int32)), .val (.long (1000000000 : Int64)), .second] [(.int (9 : Int32))])) _
    refine XT.bipushV X0.here hx rfl (16 : Int32) (hb hby at_60) (by decide) ?_
    show Steps p.tables e below (s₁.setTop (mkF m 62 #[.val (.int p1), .val (.int (9 : Int32)), .val (.long (1000000000 : Int64)), .second] [(.int (16 : Int32)), (.int (9 : Int32))])) _
    refine XS.iand X0.here hx rfl (hb hby at_62) rfl ?_
    rw [show ((9 : Int32) &&& (16 : Int32)) = (0 : Int32) from by decide]
    show Steps p.tables e below (s₁.setTop (mkF m 63 #[.val (.int p1), .val (.int (9 : Int32)), .val (.long (1000000000 : Int64)), .second] [(.int (0 : Int32))])) _
    refine XS.ifYes X0.here hx rfl (pc0 := 63) (pc' := 72) rfl (hb hby at_63) rfl (by decide) (by decide) (by decide) ?_
    show Steps p.tables e below (s₁.setTop (mkF m 72 #[.val (.int p1), .val (.int (9 : Int32)), .val (.long (1000000000 : Int64)), .second] [])) _
    refine XS.iloadN X0.here hx rfl (hb hby at_72) rfl ?_
    show Steps p.tables e below (s₁.setTop (mkF m 73 #[.val (.int p1), .val (.int (9 : Int32)), .val (.long (1000000000 : Int64)), .second] [(.int (9 : Int32))])) _
    refine st48 _ ?_
    show Steps p.tables e below (T48.setTop (mkF m 76 #[.val (.int p1), .val (.int (9 : Int32)), .val (.long (1000000000 : Int64)), .second] [(.long (1000000000 : Int64))])) _
    refine XT.lloadN X48.here hx rfl (hb hby at_76) rfl ?_
    show Steps p.tables e below (T48.setTop (mkF m 77 #[.val (.int p1), .val (.int (9 : Int32)), .val (.long (1000000000 : Int64)), .second] [(.long (1000000000 : Int64)), (.long (1000000000 : Int64))])) _
    refine XT.lcmp X48.here hx rfl (hb hby at_77) rfl ?_
    show Steps p.tables e below (T48.setTop (mkF m 78 #[.val (.int p1), .val (.int (9 : Int32)), .val (.long (1000000000 : Int64)), .second] [(.int (XT.cmpL (1000000000 : Int64) (1000000000 : Int64)))])) _
    refine XS.ifNo X48.here hx rfl (hb hby at_78) rfl (XT.ll_ne_f (by decide)) ?_
    show Steps p.tables e below (T48.setTop (mkF m 81 #[.val (.int p1), .val (.int (9 : Int32)), .val (.long (1000000000 : Int64)), .second] [])) _
    refine XT.iconstV X48.here hx rfl (1 : Int32) (hb hby at_81) rfl ?_
    show Steps p.tables e below (T48.setTop (mkF m 82 #[.val (.int p1), .val (.int (9 : Int32)), .val (.long (1000000000 : Int64)), .second] [(.int (1 : Int32))])) _
    refine XS.goto X48.here hx rfl (pc0 := 82) (pc' := 86) rfl (hb hby at_82) (by decide) (by decide) ?_
    show Steps p.tables e below (T48.setTop (mkF m 86 #[.val (.int p1), .val (.int (9 : Int32)), .val (.long (1000000000 : Int64)), .second] [(.int (1 : Int32))])) _
    exact retN X48 hx (t := .boolean) Bd.returns (by simp) (hb hby at_86) hr
  · show own_Q0 n0 _ T48.heap _
    exact ⟨rfl, N48⟩
set_option maxRecDepth 65536 in
set_option maxHeartbeats 40000000 in
theorem own_law_10 (l : Launch) (Z : State) (a0 : Array Value) (hw : ∀ d ∈ tables_1, d.before a0 Z = true) (ws : List Jvm.Cond) (p1 : Int32) (w0 : Addr) (cl : Cell) (h0 : Heap) (n0 : Nat) (Z0 : n0 ≤ h0.size) (P : own_P Z h0 w0 cl) (hk : ((p1 &&& (2147483647 : Int32)) % (19 : Int32)) = (10 : Int32)) :
    MetFree l x (head1 (Jvm.Cond.code x code maxLocals ret :: ws) room_1) (fun a U => a = #[(.int p1)] ∧ Z.Warmed39 U.vm ∧ U.heap = h0) (fun _ _ _ _ _ => True) (fun _ U o U' => ∃ v L, o = .returned v ∧ own_Q0 n0 v U'.heap L ∧ FrameEnd U o U' L room_1.cells room_1.slots) := by
  refine MetFree.of_bodySF (plainFor_of_name pn_com_example_tranchor_tranchor_FractionPowerOfTenPinLaw) hisR ?_
  intro p e s m args below meth c s₁ Bd hml0 hP hK
  obtain ⟨rfl, hZ, hh⟩ := hP
  have hx := Bd.exec
  have hby := Bd.bytes
  have hml : c.maxLocals = 4 := hml0
  have hown : s.vm.findClass "com/example/tranchor/tranchor/FractionPowerOfTenPinLaw" = some m.cls := findClass_of_methodNamed Bd.named
  have hnm := (name_of_methodNamed Bd.named Bd.method).1
  have X0 : Stand p l e room_1 s m #[(.int p1)] below meth c s₁ [] 0 0 := Stand.of_body Bd
  have e0 : s₁.heap = h0 := by rw [← hh, Bd.state]; rfl
  have N0 := Fr.nil n0
  have pre0 : ∀ t, Steps p.tables e below (s₁.setTop (mkF m 0 #[.val (.int p1), .unset, .unset, .unset] [])) t → Steps p.tables e below (s₁.setTop (entryFrame m #[(.int p1)] maxLocals)) t := fun t k => castTop (ef_code_I m p1) k
  obtain ⟨_, _, ⟨T49, L49, k49, n49⟩, -, X49, ⟨Lc49, hQ49, l49, y49, z49⟩, st49⟩ := Jvm.LawKit.callS X0 hx (y := (⟨"com/example/tranchor/tranchor/Fraction", "powerOfTen", "(I)J"⟩ : MethodName)) hown (mvT hZ (hw _ (List.mem_of_getElem? (i := 1) rfl))) (mvT hZ (hw _ (List.mem_of_getElem? (i := 2) rfl))) (mvT hZ (hw _ (List.mem_of_getElem? (i := 3) rfl))) (mvT hZ (hw _ (List.mem_of_getElem? (i := 4) rfl))) (by decide) (backOf (W := 0) (own_pow_10 l Z a0 hw [] w0 cl h0 n0 Z0 P) hZ (hw _ (List.mem_of_getElem? (i := 4) rfl)) (hw _ (List.mem_of_getElem? (i := 3) rfl)) (by decide) (by decide)) (g := (mkF m 73 #[.val (.int p1), .val (.int (10 : Int32)), .val (.long (10000000000 : Int64)), .second] [(.int (10 : Int32))])) rfl (by rw [hml]; rfl) (argsL := [(.int (10 : Int32))]) (rest := []) (lenOf pd__I_J rfl) rfl (by show 2 * 0 + _ ≤ _; exact Nat.le_of_eq rfl) (hb hby at_73) (fun _ _ => ⟨rfl, e0, (by decide : 0 + 0 ≤ _), (by decide : 0 + 0 ≤ _)⟩)
  dsimp only [Pt.U, Pt.locs, Pt.cells, Pt.slots] at X49 l49 y49 z49 st49 hQ49
  subst l49 y49 z49
  obtain ⟨rfl, N49q, e49⟩ := hQ49
  have N49 := Fr.app N0 N49q
  obtain ⟨fs, hr, hrun, hended, hW, hsame⟩ := X49.leave (v := some (.int (1 : Int32))) (fun h => by rw [Bd.returns] at h; cases h)
  refine ⟨_, _, pre0 _ ?_, hrun, hended, _, _, rfl, ?_, ⟨_, rfl⟩, hW, hsame.mono (by decide) (by decide)⟩
  · show Steps p.tables e below (s₁.setTop (mkF m 0 #[.val (.int p1), .unset, .unset, .unset] [])) _
    refine XS.iloadN X0.here hx rfl (hb hby at_0) rfl ?_
    show Steps p.tables e below (s₁.setTop (mkF m 1 #[.val (.int p1), .unset, .unset, .unset] [(.int p1)])) _
    refine Jvm.Stand.ldcI X0 hx hown (mvT hZ (hw _ (List.mem_of_getElem? (i := 0) rfl))) rfl (hb hby at_1) ?_
    show Steps p.tables e below (s₁.setTop (mkF m 3 #[.val (.int p1), .unset, .unset, .unset] [(.int (2147483647 : Int32)), (.int p1)])) _
    refine XS.iand X0.here hx rfl (hb hby at_3) rfl ?_
    show Steps p.tables e below (s₁.setTop (mkF m 4 #[.val (.int p1), .unset, .unset, .unset] [(.int (p1 &&& (2147483647 : Int32)))])) _
    refine XT.bipushV X0.here hx rfl (19 : Int32) (hb hby at_4) (by decide) ?_
    show Steps p.tables e below (s₁.setTop (mkF m 6 #[.val (.int p1), .unset, .unset, .unset] [(.int (19 : Int32)), (.int (p1 &&& (2147483647 : Int32)))])) _
    refine iremM X0 hx rfl (hb hby at_6) rfl (by decide) ?_
    show Steps p.tables e below (s₁.setTop (mkF m 7 #[.val (.int p1), .unset, .unset, .unset] [(.int ((p1 &&& (2147483647 : Int32)) % (19 : Int32)))])) _
    rw [hk]
    show Steps p.tables e below (s₁.setTop (mkF m 7 #[.val (.int p1), .unset, .unset, .unset] [(.int (10 : Int32))])) _
    refine XS.istoreN X0.here hx rfl (hb hby at_7) rfl (l' := #[.val (.int p1), .val (.int (10 : Int32)), .unset, .unset]) rfl ?_
    show Steps p.tables e below (s₁.setTop (mkF m 8 #[.val (.int p1), .val (.int (10 : Int32)), .unset, .unset] [])) _
    refine XT.lconstV X0.here hx rfl (1 : Int64) (hb hby at_8) rfl ?_
    show Steps p.tables e below (s₁.setTop (mkF m 9 #[.val (.int p1), .val (.int (10 : Int32)), .unset, .unset] [(.long (1 : Int64))])) _
    refine XT.lstoreN X0.here hx rfl (hb hby at_9) rfl (l' := #[.val (.int p1), .val (.int (10 : Int32)), .val (.long (1 : Int64)), .second]) rfl ?_
    show Steps p.tables e below (s₁.setTop (mkF m 10 #[.val (.int p1), .val (.int (10 : Int32)), .val (.long (1 : Int64)), .second] [])) _
    refine XS.iloadN X0.here hx rfl (hb hby at_10) rfl ?_
    show Steps p.tables e below (s₁.setTop (mkF m 11 #[.val (.int p1), .val (.int (10 : Int32)), .val (.long (1 : Int64)), .second] [(.int (10 : Int32))])) _
    refine XT.iconstV X0.here hx rfl (1 : Int32) (hb hby at_11) rfl ?_
    show Steps p.tables e below (s₁.setTop (mkF m 12 #[.val (.int p1), .val (.int (10 : Int32)), .val (.long (1 : Int64)), .second] [(.int (1 : Int32)), (.int (10 : Int32))])) _
    refine XS.iand X0.here hx rfl (hb hby at_12) rfl ?_
    rw [show ((10 : Int32) &&& (1 : Int32)) = (0 : Int32) from by decide]
    show Steps p.tables e below (s₁.setTop (mkF m 13 #[.val (.int p1), .val (.int (10 : Int32)), .val (.long (1 : Int64)), .second] [(.int (0 : Int32))])) _
    refine XS.ifYes X0.here hx rfl (pc0 := 13) (pc' := 22) rfl (hb hby at_13) rfl (by decide) (by decide) (by decide) ?_
    show Steps p.tables e below (s₁.setTop (mkF m 22 #[.val (.int p1), .val (.int (10 : Int32)), .val (.long (1 : Int64)), .second] [])) _
    refine XS.iloadN X0.here hx rfl (hb hby at_22) rfl ?_
    show Steps p.tables e below (s₁.setTop (mkF m 23 #[.val (.int p1), .val (.int (10 : Int32)), .val (.long (1 : Int64)), .second] [(.int (10 : Int32))])) _
    refine XT.iconstV X0.here hx rfl (2 : Int32) (hb hby at_23) rfl ?_
    show Steps p.tables e below (s₁.setTop (mkF m 24 #[.val (.int p1), .val (.int (10 : Int32)), .val (.long (1 : Int64)), .second] [(.int (2 : Int32)), (.int (10 : Int32))])) _
    refine XS.iand X0.here hx rfl (hb hby at_24) rfl ?_
    rw [show ((10 : Int32) &&& (2 : Int32)) = (2 : Int32) from by decide]
    show Steps p.tables e below (s₁.setTop (mkF m 25 #[.val (.int p1), .val (.int (10 : Int32)), .val (.long (1 : Int64)), .second] [(.int (2 : Int32))])) _
    refine XS.ifNo X0.here hx rfl (hb hby at_25) rfl (by decide) ?_
    show Steps p.tables e below (s₁.setTop (mkF m 28 #[.val (.int p1), .val (.int (10 : Int32)), .val (.long (1 : Int64)), .second] [])) _
    refine XT.lloadN X0.here hx rfl (hb hby at_28) rfl ?_
    show Steps p.tables e below (s₁.setTop (mkF m 29 #[.val (.int p1), .val (.int (10 : Int32)), .val (.long (1 : Int64)), .second] [(.long (1 : Int64))])) _
    refine Jvm.Stand.ldc2J X0 hx hown (mvT hZ (hw _ (List.mem_of_getElem? (i := 8) rfl))) rfl (hb hby at_29) ?_
    show Steps p.tables e below (s₁.setTop (mkF m 32 #[.val (.int p1), .val (.int (10 : Int32)), .val (.long (1 : Int64)), .second] [(.long (100 : Int64)), (.long (1 : Int64))])) _
    refine XT.lmul X0.here hx rfl (hb hby at_32) rfl ?_
    rw [show ((1 : Int64) * (100 : Int64)) = (100 : Int64) from by decide]
    show Steps p.tables e below (s₁.setTop (mkF m 33 #[.val (.int p1), .val (.int (10 : Int32)), .val (.long (1 : Int64)), .second] [(.long (100 : Int64))])) _
    refine XT.lstoreN X0.here hx rfl (hb hby at_33) rfl (l' := #[.val (.int p1), .val (.int (10 : Int32)), .val (.long (100 : Int64)), .second]) rfl ?_
    show Steps p.tables e below (s₁.setTop (mkF m 34 #[.val (.int p1), .val (.int (10 : Int32)), .val (.long (100 : Int64)), .second] [])) _
    refine XS.iloadN X0.here hx rfl (hb hby at_34) rfl ?_
    show Steps p.tables e below (s₁.setTop (mkF m 35 #[.val (.int p1), .val (.int (10 : Int32)), .val (.long (100 : Int64)), .second] [(.int (10 : Int32))])) _
    refine XT.iconstV X0.here hx rfl (4 : Int32) (hb hby at_35) rfl ?_
    show Steps p.tables e below (s₁.setTop (mkF m 36 #[.val (.int p1), .val (.int (10 : Int32)), .val (.long (100 : Int64)), .second] [(.int (4 : Int32)), (.int (10 : Int32))])) _
    refine XS.iand X0.here hx rfl (hb hby at_36) rfl ?_
    rw [show ((10 : Int32) &&& (4 : Int32)) = (0 : Int32) from by decide]
    show Steps p.tables e below (s₁.setTop (mkF m 37 #[.val (.int p1), .val (.int (10 : Int32)), .val (.long (100 : Int64)), .second] [(.int (0 : Int32))])) _
    refine XS.ifYes X0.here hx rfl (pc0 := 37) (pc' := 46) rfl (hb hby at_37) rfl (by decide) (by decide) (by decide) ?_
    show Steps p.tables e below (s₁.setTop (mkF m 46 #[.val (.int p1), .val (.int (10 : Int32)), .val (.long (100 : Int64)), .second] [])) _
    refine XS.iloadN X0.here hx rfl (hb hby at_46) rfl ?_
    show Steps p.tables e below (s₁.setTop (mkF m 47 #[.val (.int p1), .val (.int (10 : Int32)), .val (.long (100 : Int64)), .second] [(.int (10 : Int32))])) _
    refine XT.bipushV X0.here hx rfl (8 : Int32) (hb hby at_47) (by decide) ?_
    show Steps p.tables e below (s₁.setTop (mkF m 49 #[.val (.int p1), .val (.int (10 : Int32)), .val (.long (100 : Int64)), .second] [(.int (8 : Int32)), (.int (10 : Int32))])) _
    refine XS.iand X0.here hx rfl (hb hby at_49) rfl ?_
    rw [show ((10 : Int32) &&& (8 : Int32)) = (8 : Int32) from by decide]
    show Steps p.tables e below (s₁.setTop (mkF m 50 #[.val (.int p1), .val (.int (10 : Int32)), .val (.long (100 : Int64)), .second] [(.int (8 : Int32))])) _
    refine XS.ifNo X0.here hx rfl (hb hby at_50) rfl (by decide) ?_
    show Steps p.tables e below (s₁.setTop (mkF m 53 #[.val (.int p1), .val (.int (10 : Int32)), .val (.long (100 : Int64)), .second] [])) _
    refine XT.lloadN X0.here hx rfl (hb hby at_53) rfl ?_
    show Steps p.tables e below (s₁.setTop (mkF m 54 #[.val (.int p1), .val (.int (10 : Int32)), .val (.long (100 : Int64)), .second] [(.long (100 : Int64))])) _
    refine Jvm.Stand.ldc2J X0 hx hown (mvT hZ (hw _ (List.mem_of_getElem? (i := 10) rfl))) rfl (hb hby at_54) ?_
    show Steps p.tables e below (s₁.setTop (mkF m 57 #[.val (.int p1), .val (.int (10 : Int32)), .val (.long (100 : Int64)), .second] [(.long (100000000 : Int64)), (.long (100 : Int64))])) _
    refine XT.lmul X0.here hx rfl (hb hby at_57) rfl ?_
    rw [show ((100 : Int64) * (100000000 : Int64)) = (10000000000 : Int64) from by decide]
    show Steps p.tables e below (s₁.setTop (mkF m 58 #[.val (.int p1), .val (.int (10 : Int32)), .val (.long (100 : Int64)), .second] [(.long (10000000000 : Int64))])) _
    refine XT.lstoreN X0.here hx rfl (hb hby at_58) rfl (l' := #[.val (.int p1), .val (.int (10 : Int32)), .val (.long (10000000000 : Int64)), .second]) rfl ?_
    show Steps p.tables e below (s₁.setTop (mkF m 59 #[.val (.int p1), .val (.int (10 : Int32)), .val (.long (10000000000 : Int64)), .second] [])) _
    refine XS.iloadN X0.here hx rfl (hb hby at_59) rfl ?_
    show Steps p.tables e below (s₁.setTop (mkF m 60 #[.val (.int p1), .val (.int (10 : Int32)), .val (.long (10000000000 : Int64)), .second] [(.int (10 : Int32))])) _
    refine XT.bipushV X0.here hx rfl (16 : Int32) (hb hby at_60) (by decide) ?_
    show Steps p.tables e below (s₁.setTop (mkF m 62 #[.val (.int p1), .val (.int (10 : Int32)), .val (.long (10000000000 : Int64)), .second] [(.int (16 : Int32)), (.int (10 : Int32))])) _
    refine XS.iand X0.here hx rfl (hb hby at_62) rfl ?_
    rw [show ((10 : Int32) &&& (16 : Int32)) = (0 : Int32) from by decide]
    show Steps p.tables e below (s₁.setTop (mkF m 63 #[.val (.int p1), .val (.int (10 : Int32)), .val (.long (10000000000 : Int64)), .second] [(.int (0 : Int32))])) _
    refine XS.ifYes X0.here hx rfl (pc0 := 63) (pc' := 72) rfl (hb hby at_63) rfl (by decide) (by decide) (by decide) ?_
    show Steps p.tables e below (s₁.setTop (mkF m 72 #[.val (.int p1), .val (.int (10 : Int32)), .val (.long (10000000000 : Int64)), .second] [])) _
    refine XS.iloadN X0.here hx rfl (hb hby at_72) rfl ?_
    show Steps p.tables e below (s₁.setTop (mkF m 73 #[.val (.int p1), .val (.int (10 : Int32)), .val (.long (10000000000 : Int64)), .second] [(.int (10 : Int32))])) _
    refine st49 _ ?_
    show Steps p.tables e below (T49.setTop (mkF m 76 #[.val (.int p1), .val (.int (10 : Int32)), .val (.long (10000000000 : Int64)), .second] [(.long (10000000000 : Int64))])) _
    refine XT.lloadN X49.here hx rfl (hb hby at_76) rfl ?_
    show Steps p.tables e below (T49.setTop (mkF m 77 #[.val (.int p1), .val (.int (10 : Int32)), .val (.long (10000000000 : Int64)), .second] [(.long (10000000000 : Int64)), (.long (10000000000 : Int64))])) _
    refine XT.lcmp X49.here hx rfl (hb hby at_77) rfl ?_
    show Steps p.tables e below (T49.setTop (mkF m 78 #[.val (.int p1), .val (.int (10 : Int32)), .val (.long (10000000000 : Int64)), .second] [(.int (XT.cmpL (10000000000 : Int64) (10000000000 : Int64)))])) _
    refine XS.ifNo X49.here hx rfl (hb hby at_78) rfl (XT.ll_ne_f (by decide)) ?_
    show Steps p.tables e below (T49.setTop (mkF m 81 #[.val (.int p1), .val (.int (10 : Int32)), .val (.long (10000000000 : Int64)), .second] [])) _
    refine XT.iconstV X49.here hx rfl (1 : Int32) (hb hby at_81) rfl ?_
    show Steps p.tables e below (T49.setTop (mkF m 82 #[.val (.int p1), .val (.int (10 : Int32)), .val (.long (10000000000 : Int64)), .second] [(.int (1 : Int32))])) _
    refine XS.goto X49.here hx rfl (pc0 := 82) (pc' := 86) rfl (hb hby at_82) (by decide) (by decide) ?_
    show Steps p.tables e below (T49.setTop (mkF m 86 #[.val (.int p1), .val (.int (10 : Int32)), .val (.long (10000000000 : Int64)), .second] [(.int (1 : Int32))])) _
    exact retN X49 hx (t := .boolean) Bd.returns (by simp) (hb hby at_86) hr
  · show own_Q0 n0 _ T49.heap _
    exact ⟨rfl, N49⟩
set_option maxRecDepth 65536 in
set_option maxHeartbeats 40000000 in
theorem own_law_11 (l : Launch) (Z : State) (a0 : Array Value) (hw : ∀ d ∈ tables_1, d.before a0 Z = true) (ws : List Jvm.Cond) (p1 : Int32) (w0 : Addr) (cl : Cell) (h0 : Heap) (n0 : Nat) (Z0 : n0 ≤ h0.size) (P : own_P Z h0 w0 cl) (hk : ((p1 &&& (2147483647 : Int32)) % (19 : Int32)) = (11 : Int32)) :
    MetFree l x (head1 (Jvm.Cond.code x code maxLocals ret :: ws) room_1) (fun a U => a = #[(.int p1)] ∧ Z.Warmed39 U.vm ∧ U.heap = h0) (fun _ _ _ _ _ => True) (fun _ U o U' => ∃ v L, o = .returned v ∧ own_Q0 n0 v U'.heap L ∧ FrameEnd U o U' L room_1.cells room_1.slots) := by
  refine MetFree.of_bodySF (plainFor_of_name pn_com_example_tranchor_tranchor_FractionPowerOfTenPinLaw) hisR ?_
  intro p e s m args below meth c s₁ Bd hml0 hP hK
  obtain ⟨rfl, hZ, hh⟩ := hP
  have hx := Bd.exec
  have hby := Bd.bytes
  have hml : c.maxLocals = 4 := hml0
  have hown : s.vm.findClass "com/example/tranchor/tranchor/FractionPowerOfTenPinLaw" = some m.cls := findClass_of_methodNamed Bd.named
  have hnm := (name_of_methodNamed Bd.named Bd.method).1
  have X0 : Stand p l e room_1 s m #[(.int p1)] below meth c s₁ [] 0 0 := Stand.of_body Bd
  have e0 : s₁.heap = h0 := by rw [← hh, Bd.state]; rfl
  have N0 := Fr.nil n0
  have pre0 : ∀ t, Steps p.tables e below (s₁.setTop (mkF m 0 #[.val (.int p1), .unset, .unset, .unset] [])) t → Steps p.tables e below (s₁.setTop (entryFrame m #[(.int p1)] maxLocals)) t := fun t k => castTop (ef_code_I m p1) k
  obtain ⟨_, _, ⟨T50, L50, k50, n50⟩, -, X50, ⟨Lc50, hQ50, l50, y50, z50⟩, st50⟩ := Jvm.LawKit.callS X0 hx (y := (⟨"com/example/tranchor/tranchor/Fraction", "powerOfTen", "(I)J"⟩ : MethodName)) hown (mvT hZ (hw _ (List.mem_of_getElem? (i := 1) rfl))) (mvT hZ (hw _ (List.mem_of_getElem? (i := 2) rfl))) (mvT hZ (hw _ (List.mem_of_getElem? (i := 3) rfl))) (mvT hZ (hw _ (List.mem_of_getElem? (i := 4) rfl))) (by decide) (backOf (W := 0) (own_pow_11 l Z a0 hw [] w0 cl h0 n0 Z0 P) hZ (hw _ (List.mem_of_getElem? (i := 4) rfl)) (hw _ (List.mem_of_getElem? (i := 3) rfl)) (by decide) (by decide)) (g := (mkF m 73 #[.val (.int p1), .val (.int (11 : Int32)), .val (.long (100000000000 : Int64)), .second] [(.int (11 : Int32))])) rfl (by rw [hml]; rfl) (argsL := [(.int (11 : Int32))]) (rest := []) (lenOf pd__I_J rfl) rfl (by show 2 * 0 + _ ≤ _; exact Nat.le_of_eq rfl) (hb hby at_73) (fun _ _ => ⟨rfl, e0, (by decide : 0 + 0 ≤ _), (by decide : 0 + 0 ≤ _)⟩)
  dsimp only [Pt.U, Pt.locs, Pt.cells, Pt.slots] at X50 l50 y50 z50 st50 hQ50
  subst l50 y50 z50
  obtain ⟨rfl, N50q, e50⟩ := hQ50
  have N50 := Fr.app N0 N50q
  obtain ⟨fs, hr, hrun, hended, hW, hsame⟩ := X50.leave (v := some (.int (1 : Int32))) (fun h => by rw [Bd.returns] at h; cases h)
  refine ⟨_, _, pre0 _ ?_, hrun, hended, _, _, rfl, ?_, ⟨_, rfl⟩, hW, hsame.mono (by decide) (by decide)⟩
  · show Steps p.tables e below (s₁.setTop (mkF m 0 #[.val (.int p1), .unset, .unset, .unset] [])) _
    refine XS.iloadN X0.here hx rfl (hb hby at_0) rfl ?_
    show Steps p.tables e below (s₁.setTop (mkF m 1 #[.val (.int p1), .unset, .unset, .unset] [(.int p1)])) _
    refine Jvm.Stand.ldcI X0 hx hown (mvT hZ (hw _ (List.mem_of_getElem? (i := 0) rfl))) rfl (hb hby at_1) ?_
    show Steps p.tables e below (s₁.setTop (mkF m 3 #[.val (.int p1), .unset, .unset, .unset] [(.int (2147483647 : Int32)), (.int p1)])) _
    refine XS.iand X0.here hx rfl (hb hby at_3) rfl ?_
    show Steps p.tables e below (s₁.setTop (mkF m 4 #[.val (.int p1), .unset, .unset, .unset] [(.int (p1 &&& (2147483647 : Int32)))])) _
    refine XT.bipushV X0.here hx rfl (19 : Int32) (hb hby at_4) (by decide) ?_
    show Steps p.tables e below (s₁.setTop (mkF m 6 #[.val (.int p1), .unset, .unset, .unset] [(.int (19 : Int32)), (.int (p1 &&& (2147483647 : Int32)))])) _
    refine iremM X0 hx rfl (hb hby at_6) rfl (by decide) ?_
    show Steps p.tables e below (s₁.setTop (mkF m 7 #[.val (.int p1), .unset, .unset, .unset] [(.int ((p1 &&& (2147483647 : Int32)) % (19 : Int32)))])) _
    rw [hk]
    show Steps p.tables e below (s₁.setTop (mkF m 7 #[.val (.int p1), .unset, .unset, .unset] [(.int (11 : Int32))])) _
    refine XS.istoreN X0.here hx rfl (hb hby at_7) rfl (l' := #[.val (.int p1), .val (.int (11 : Int32)), .unset, .unset]) rfl ?_
    show Steps p.tables e below (s₁.setTop (mkF m 8 #[.val (.int p1), .val (.int (11 : Int32)), .unset, .unset] [])) _
    refine XT.lconstV X0.here hx rfl (1 : Int64) (hb hby at_8) rfl ?_
    show Steps p.tables e below (s₁.setTop (mkF m 9 #[.val (.int p1), .val (.int (11 : Int32)), .unset, .unset] [(.long (1 : Int64))])) _
    refine XT.lstoreN X0.here hx rfl (hb hby at_9) rfl (l' := #[.val (.int p1), .val (.int (11 : Int32)), .val (.long (1 : Int64)), .second]) rfl ?_
    show Steps p.tables e below (s₁.setTop (mkF m 10 #[.val (.int p1), .val (.int (11 : Int32)), .val (.long (1 : Int64)), .second] [])) _
    refine XS.iloadN X0.here hx rfl (hb hby at_10) rfl ?_
    show Steps p.tables e below (s₁.setTop (mkF m 11 #[.val (.int p1), .val (.int (11 : Int32)), .val (.long (1 : Int64)), .second] [(.int (11 : Int32))])) _
    refine XT.iconstV X0.here hx rfl (1 : Int32) (hb hby at_11) rfl ?_
    show Steps p.tables e below (s₁.setTop (mkF m 12 #[.val (.int p1), .val (.int (11 : Int32)), .val (.long (1 : Int64)), .second] [(.int (1 : Int32)), (.int (11 : Int32))])) _
    refine XS.iand X0.here hx rfl (hb hby at_12) rfl ?_
    rw [show ((11 : Int32) &&& (1 : Int32)) = (1 : Int32) from by decide]
    show Steps p.tables e below (s₁.setTop (mkF m 13 #[.val (.int p1), .val (.int (11 : Int32)), .val (.long (1 : Int64)), .second] [(.int (1 : Int32))])) _
    refine XS.ifNo X0.here hx rfl (hb hby at_13) rfl (by decide) ?_
    show Steps p.tables e below (s₁.setTop (mkF m 16 #[.val (.int p1), .val (.int (11 : Int32)), .val (.long (1 : Int64)), .second] [])) _
    refine XT.lloadN X0.here hx rfl (hb hby at_16) rfl ?_
    show Steps p.tables e below (s₁.setTop (mkF m 17 #[.val (.int p1), .val (.int (11 : Int32)), .val (.long (1 : Int64)), .second] [(.long (1 : Int64))])) _
    refine Jvm.Stand.ldc2J X0 hx hown (mvT hZ (hw _ (List.mem_of_getElem? (i := 7) rfl))) rfl (hb hby at_17) ?_
    show Steps p.tables e below (s₁.setTop (mkF m 20 #[.val (.int p1), .val (.int (11 : Int32)), .val (.long (1 : Int64)), .second] [(.long (10 : Int64)), (.long (1 : Int64))])) _
    refine XT.lmul X0.here hx rfl (hb hby at_20) rfl ?_
    rw [show ((1 : Int64) * (10 : Int64)) = (10 : Int64) from by decide]
    show Steps p.tables e below (s₁.setTop (mkF m 21 #[.val (.int p1), .val (.int (11 : Int32)), .val (.long (1 : Int64)), .second] [(.long (10 : Int64))])) _
    refine XT.lstoreN X0.here hx rfl (hb hby at_21) rfl (l' := #[.val (.int p1), .val (.int (11 : Int32)), .val (.long (10 : Int64)), .second]) rfl ?_
    show Steps p.tables e below (s₁.setTop (mkF m 22 #[.val (.int p1), .val (.int (11 : Int32)), .val (.long (10 : Int64)), .second] [])) _
    refine XS.iloadN X0.here hx rfl (hb hby at_22) rfl ?_
    show Steps p.tables e below (s₁.setTop (mkF m 23 #[.val (.int p1), .val (.int (11 : Int32)), .val (.long (10 : Int64)), .second] [(.int (11 : Int32))])) _
    refine XT.iconstV X0.here hx rfl (2 : Int32) (hb hby at_23) rfl ?_
    show Steps p.tables e below (s₁.setTop (mkF m 24 #[.val (.int p1), .val (.int (11 : Int32)), .val (.long (10 : Int64)), .second] [(.int (2 : Int32)), (.int (11 : Int32))])) _
    refine XS.iand X0.here hx rfl (hb hby at_24) rfl ?_
    rw [show ((11 : Int32) &&& (2 : Int32)) = (2 : Int32) from by decide]
    show Steps p.tables e below (s₁.setTop (mkF m 25 #[.val (.int p1), .val (.int (11 : Int32)), .val (.long (10 : Int64)), .second] [(.int (2 : Int32))])) _
    refine XS.ifNo X0.here hx rfl (hb hby at_25) rfl (by decide) ?_
    show Steps p.tables e below (s₁.setTop (mkF m 28 #[.val (.int p1), .val (.int (11 : Int32)), .val (.long (10 : Int64)), .second] [])) _
    refine XT.lloadN X0.here hx rfl (hb hby at_28) rfl ?_
    show Steps p.tables e below (s₁.setTop (mkF m 29 #[.val (.int p1), .val (.int (11 : Int32)), .val (.long (10 : Int64)), .second] [(.long (10 : Int64))])) _
    refine Jvm.Stand.ldc2J X0 hx hown (mvT hZ (hw _ (List.mem_of_getElem? (i := 8) rfl))) rfl (hb hby at_29) ?_
    show Steps p.tables e below (s₁.setTop (mkF m 32 #[.val (.int p1), .val (.int (11 : Int32)), .val (.long (10 : Int64)), .second] [(.long (100 : Int64)), (.long (10 : Int64))])) _
    refine XT.lmul X0.here hx rfl (hb hby at_32) rfl ?_
    rw [show ((10 : Int64) * (100 : Int64)) = (1000 : Int64) from by decide]
    show Steps p.tables e below (s₁.setTop (mkF m 33 #[.val (.int p1), .val (.int (11 : Int32)), .val (.long (10 : Int64)), .second] [(.long (1000 : Int64))])) _
    refine XT.lstoreN X0.here hx rfl (hb hby at_33) rfl (l' := #[.val (.int p1), .val (.int (11 : Int32)), .val (.long (1000 : Int64)), .second]) rfl ?_
    show Steps p.tables e below (s₁.setTop (mkF m 34 #[.val (.int p1), .val (.int (11 : Int32)), .val (.long (1000 : Int64)), .second] [])) _
    refine XS.iloadN X0.here hx rfl (hb hby at_34) rfl ?_
    show Steps p.tables e below (s₁.setTop (mkF m 35 #[.val (.int p1), .val (.int (11 : Int32)), .val (.long (1000 : Int64)), .second] [(.int (11 : Int32))])) _
    refine XT.iconstV X0.here hx rfl (4 : Int32) (hb hby at_35) rfl ?_
    show Steps p.tables e below (s₁.setTop (mkF m 36 #[.val (.int p1), .val (.int (11 : Int32)), .val (.long (1000 : Int64)), .second] [(.int (4 : Int32)), (.int (11 : Int32))])) _
    refine XS.iand X0.here hx rfl (hb hby at_36) rfl ?_
    rw [show ((11 : Int32) &&& (4 : Int32)) = (0 : Int32) from by decide]
    show Steps p.tables e below (s₁.setTop (mkF m 37 #[.val (.int p1), .val (.int (11 : Int32)), .val (.long (1000 : Int64)), .second] [(.int (0 : Int32))])) _
    refine XS.ifYes X0.here hx rfl (pc0 := 37) (pc' := 46) rfl (hb hby at_37) rfl (by decide) (by decide) (by decide) ?_
    show Steps p.tables e below (s₁.setTop (mkF m 46 #[.val (.int p1), .val (.int (11 : Int32)), .val (.long (1000 : Int64)), .second] [])) _
    refine XS.iloadN X0.here hx rfl (hb hby at_46) rfl ?_
    show Steps p.tables e below (s₁.setTop (mkF m 47 #[.val (.int p1), .val (.int (11 : Int32)), .val (.long (1000 : Int64)), .second] [(.int (11 : Int32))])) _
    refine XT.bipushV X0.here hx rfl (8 : Int32) (hb hby at_47) (by decide) ?_
    show Steps p.tables e below (s₁.setTop (mkF m 49 #[.val (.int p1), .val (.int (11 : Int32)), .val (.long (1000 : Int64)), .second] [(.int (8 : Int32)), (.int (11 : Int32))])) _
    refine XS.iand X0.here hx rfl (hb hby at_49) rfl ?_
    rw [show ((11 : Int32) &&& (8 : Int32)) = (8 : Int32) from by decide]
    show Steps p.tables e below (s₁.setTop (mkF m 50 #[.val (.int p1), .val (.int (11 : Int32)), .val (.long (1000 : Int64)), .second] [(.int (8 : Int32))])) _
    refine XS.ifNo X0.here hx rfl (hb hby at_50) rfl (by decide) ?_
    show Steps p.tables e below (s₁.setTop (mkF m 53 #[.val (.int p1), .val (.int (11 : Int32)), .val (.long (1000 : Int64)), .second] [])) _
    refine XT.lloadN X0.here hx rfl (hb hby at_53) rfl ?_
    show Steps p.tables e below (s₁.setTop (mkF m 54 #[.val (.int p1), .val (.int (11 : Int32)), .val (.long (1000 : Int64)), .second] [(.long (1000 : Int64))])) _
    refine Jvm.Stand.ldc2J X0 hx hown (mvT hZ (hw _ (List.mem_of_getElem? (i := 10) rfl))) rfl (hb hby at_54) ?_
    show Steps p.tables e below (s₁.setTop (mkF m 57 #[.val (.int p1), .val (.int (11 : Int32)), .val (.long (1000 : Int64)), .second] [(.long (100000000 : Int64)), (.long (1000 : Int64))])) _
    refine XT.lmul X0.here hx rfl (hb hby at_57) rfl ?_
    rw [show ((1000 : Int64) * (100000000 : Int64)) = (100000000000 : Int64) from by decide]
    show Steps p.tables e below (s₁.setTop (mkF m 58 #[.val (.int p1), .val (.int (11 : Int32)), .val (.long (1000 : Int64)), .second] [(.long (100000000000 : Int64))])) _
    refine XT.lstoreN X0.here hx rfl (hb hby at_58) rfl (l' := #[.val (.int p1), .val (.int (11 : Int32)), .val (.long (100000000000 : Int64)), .second]) rfl ?_
    show Steps p.tables e below (s₁.setTop (mkF m 59 #[.val (.int p1), .val (.int (11 : Int32)), .val (.long (100000000000 : Int64)), .second] [])) _
    refine XS.iloadN X0.here hx rfl (hb hby at_59) rfl ?_
    show Steps p.tables e below (s₁.setTop (mkF m 60 #[.val (.int p1), .val (.int (11 : Int32)), .val (.long (100000000000 : Int64)), .second] [(.int (11 : Int32))])) _
    refine XT.bipushV X0.here hx rfl (16 : Int32) (hb hby at_60) (by decide) ?_
    show Steps p.tables e below (s₁.setTop (mkF m 62 #[.val (.int p1), .val (.int (11 : Int32)), .val (.long (100000000000 : Int64)), .second] [(.int (16 : Int32)), (.int (11 : Int32))])) _
    refine XS.iand X0.here hx rfl (hb hby at_62) rfl ?_
    rw [show ((11 : Int32) &&& (16 : Int32)) = (0 : Int32) from by decide]
    show Steps p.tables e below (s₁.setTop (mkF m 63 #[.val (.int p1), .val (.int (11 : Int32)), .val (.long (100000000000 : Int64)), .second] [(.int (0 : Int32))])) _
    refine XS.ifYes X0.here hx rfl (pc0 := 63) (pc' := 72) rfl (hb hby at_63) rfl (by decide) (by decide) (by decide) ?_
    show Steps p.tables e below (s₁.setTop (mkF m 72 #[.val (.int p1), .val (.int (11 : Int32)), .val (.long (100000000000 : Int64)), .second] [])) _
    refine XS.iloadN X0.here hx rfl (hb hby at_72) rfl ?_
    show Steps p.tables e below (s₁.setTop (mkF m 73 #[.val (.int p1), .val (.int (11 : Int32)), .val (.long (100000000000 : Int64)), .second] [(.int (11 : Int32))])) _
    refine st50 _ ?_
    show Steps p.tables e below (T50.setTop (mkF m 76 #[.val (.int p1), .val (.int (11 : Int32)), .val (.long (100000000000 : Int64)), .second] [(.long (100000000000 : Int64))])) _
    refine XT.lloadN X50.here hx rfl (hb hby at_76) rfl ?_
    show Steps p.tables e below (T50.setTop (mkF m 77 #[.val (.int p1), .val (.int (11 : Int32)), .val (.long (100000000000 : Int64)), .second] [(.long (100000000000 : Int64)), (.long (100000000000 : Int64))])) _
    refine XT.lcmp X50.here hx rfl (hb hby at_77) rfl ?_
    show Steps p.tables e below (T50.setTop (mkF m 78 #[.val (.int p1), .val (.int (11 : Int32)), .val (.long (100000000000 : Int64)), .second] [(.int (XT.cmpL (100000000000 : Int64) (100000000000 : Int64)))])) _
    refine XS.ifNo X50.here hx rfl (hb hby at_78) rfl (XT.ll_ne_f (by decide)) ?_
    show Steps p.tables e below (T50.setTop (mkF m 81 #[.val (.int p1), .val (.int (11 : Int32)), .val (.long (100000000000 : Int64)), .second] [])) _
    refine XT.iconstV X50.here hx rfl (1 : Int32) (hb hby at_81) rfl ?_
    show Steps p.tables e below (T50.setTop (mkF m 82 #[.val (.int p1), .val (.int (11 : Int32)), .val (.long (100000000000 : Int64)), .second] [(.int (1 : Int32))])) _
    refine XS.goto X50.here hx rfl (pc0 := 82) (pc' := 86) rfl (hb hby at_82) (by decide) (by decide) ?_
    show Steps p.tables e below (T50.setTop (mkF m 86 #[.val (.int p1), .val (.int (11 : Int32)), .val (.long (100000000000 : Int64)), .second] [(.int (1 : Int32))])) _
    exact retN X50 hx (t := .boolean) Bd.returns (by simp) (hb hby at_86) hr
  · show own_Q0 n0 _ T50.heap _
    exact ⟨rfl, N50⟩
set_option maxRecDepth 65536 in
set_option maxHeartbeats 40000000 in
theorem own_law_12 (l : Launch) (Z : State) (a0 : Array Value) (hw : ∀ d ∈ tables_1, d.before a0 Z = true) (ws : List Jvm.Cond) (p1 : Int32) (w0 : Addr) (cl : Cell) (h0 : Heap) (n0 : Nat) (Z0 : n0 ≤ h0.size) (P : own_P Z h0 w0 cl) (hk : ((p1 &&& (2147483647 : Int32)) % (19 : Int32)) = (12 : Int32)) :
    MetFree l x (head1 (Jvm.Cond.code x code maxLocals ret :: ws) room_1) (fun a U => a = #[(.int p1)] ∧ Z.Warmed39 U.vm ∧ U.heap = h0) (fun _ _ _ _ _ => True) (fun _ U o U' => ∃ v L, o = .returned v ∧ own_Q0 n0 v U'.heap L ∧ FrameEnd U o U' L room_1.cells room_1.slots) := by
  refine MetFree.of_bodySF (plainFor_of_name pn_com_example_tranchor_tranchor_FractionPowerOfTenPinLaw) hisR ?_
  intro p e s m args below meth c s₁ Bd hml0 hP hK
  obtain ⟨rfl, hZ, hh⟩ := hP
  have hx := Bd.exec
  have hby := Bd.bytes
  have hml : c.maxLocals = 4 := hml0
  have hown : s.vm.findClass "com/example/tranchor/tranchor/FractionPowerOfTenPinLaw" = some m.cls := findClass_of_methodNamed Bd.named
  have hnm := (name_of_methodNamed Bd.named Bd.method).1
  have X0 : Stand p l e room_1 s m #[(.int p1)] below meth c s₁ [] 0 0 := Stand.of_body Bd
  have e0 : s₁.heap = h0 := by rw [← hh, Bd.state]; rfl
  have N0 := Fr.nil n0
  have pre0 : ∀ t, Steps p.tables e below (s₁.setTop (mkF m 0 #[.val (.int p1), .unset, .unset, .unset] [])) t → Steps p.tables e below (s₁.setTop (entryFrame m #[(.int p1)] maxLocals)) t := fun t k => castTop (ef_code_I m p1) k
  obtain ⟨_, _, ⟨T51, L51, k51, n51⟩, -, X51, ⟨Lc51, hQ51, l51, y51, z51⟩, st51⟩ := Jvm.LawKit.callS X0 hx (y := (⟨"com/example/tranchor/tranchor/Fraction", "powerOfTen", "(I)J"⟩ : MethodName)) hown (mvT hZ (hw _ (List.mem_of_getElem? (i := 1) rfl))) (mvT hZ (hw _ (List.mem_of_getElem? (i := 2) rfl))) (mvT hZ (hw _ (List.mem_of_getElem? (i := 3) rfl))) (mvT hZ (hw _ (List.mem_of_getElem? (i := 4) rfl))) (by decide) (backOf (W := 0) (own_pow_12 l Z a0 hw [] w0 cl h0 n0 Z0 P) hZ (hw _ (List.mem_of_getElem? (i := 4) rfl)) (hw _ (List.mem_of_getElem? (i := 3) rfl)) (by decide) (by decide)) (g := (mkF m 73 #[.val (.int p1), .val (.int (12 : Int32)), .val (.long (1000000000000 : Int64)), .second] [(.int (12 : Int32))])) rfl (by rw [hml]; rfl) (argsL := [(.int (12 : Int32))]) (rest := []) (lenOf pd__I_J rfl) rfl (by show 2 * 0 + _ ≤ _; exact Nat.le_of_eq rfl) (hb hby at_73) (fun _ _ => ⟨rfl, e0, (by decide : 0 + 0 ≤ _), (by decide : 0 + 0 ≤ _)⟩)
  dsimp only [Pt.U, Pt.locs, Pt.cells, Pt.slots] at X51 l51 y51 z51 st51 hQ51
  subst l51 y51 z51
  obtain ⟨rfl, N51q, e51⟩ := hQ51
  have N51 := Fr.app N0 N51q
  obtain ⟨fs, hr, hrun, hended, hW, hsame⟩ := X51.leave (v := some (.int (1 : Int32))) (fun h => by rw [Bd.returns] at h; cases h)
  refine ⟨_, _, pre0 _ ?_, hrun, hended, _, _, rfl, ?_, ⟨_, rfl⟩, hW, hsame.mono (by decide) (by decide)⟩
  · show Steps p.tables e below (s₁.setTop (mkF m 0 #[.val (.int p1), .unset, .unset, .unset] [])) _
    refine XS.iloadN X0.here hx rfl (hb hby at_0) rfl ?_
    show Steps p.tables e below (s₁.setTop (mkF m 1 #[.val (.int p1), .unset, .unset, .unset] [(.int p1)])) _
    refine Jvm.Stand.ldcI X0 hx hown (mvT hZ (hw _ (List.mem_of_getElem? (i := 0) rfl))) rfl (hb hby at_1) ?_
    show Steps p.tables e below (s₁.setTop (mkF m 3 #[.val (.int p1), .unset, .unset, .unset] [(.int (2147483647 : Int32)), (.int p1)])) _
    refine XS.iand X0.here hx rfl (hb hby at_3) rfl ?_
    show Steps p.tables e below (s₁.setTop (mkF m 4 #[.val (.int p1), .unset, .unset, .unset] [(.int (p1 &&& (2147483647 : Int32)))])) _
    refine XT.bipushV X0.here hx rfl (19 : Int32) (hb hby at_4) (by decide) ?_
    show Steps p.tables e below (s₁.setTop (mkF m 6 #[.val (.int p1), .unset, .unset, .unset] [(.int (19 : Int32)), (.int (p1 &&& (2147483647 : Int32)))])) _
    refine iremM X0 hx rfl (hb hby at_6) rfl (by decide) ?_
    show Steps p.tables e below (s₁.setTop (mkF m 7 #[.val (.int p1), .unset, .unset, .unset] [(.int ((p1 &&& (2147483647 : Int32)) % (19 : Int32)))])) _
    rw [hk]
    show Steps p.tables e below (s₁.setTop (mkF m 7 #[.val (.int p1), .unset, .unset, .unset] [(.int (12 : Int32))])) _
    refine XS.istoreN X0.here hx rfl (hb hby at_7) rfl (l' := #[.val (.int p1), .val (.int (12 : Int32)), .unset, .unset]) rfl ?_
    show Steps p.tables e below (s₁.setTop (mkF m 8 #[.val (.int p1), .val (.int (12 : Int32)), .unset, .unset] [])) _
    refine XT.lconstV X0.here hx rfl (1 : Int64) (hb hby at_8) rfl ?_
    show Steps p.tables e below (s₁.setTop (mkF m 9 #[.val (.int p1), .val (.int (12 : Int32)), .unset, .unset] [(.long (1 : Int64))])) _
    refine XT.lstoreN X0.here hx rfl (hb hby at_9) rfl (l' := #[.val (.int p1), .val (.int (12 : Int32)), .val (.long (1 : Int64)), .second]) rfl ?_
    show Steps p.tables e below (s₁.setTop (mkF m 10 #[.val (.int p1), .val (.int (12 : Int32)), .val (.long (1 : Int64)), .second] [])) _
    refine XS.iloadN X0.here hx rfl (hb hby at_10) rfl ?_
    show Steps p.tables e below (s₁.setTop (mkF m 11 #[.val (.int p1), .val (.int (12 : Int32)), .val (.long (1 : Int64)), .second] [(.int (12 : Int32))])) _
    refine XT.iconstV X0.here hx rfl (1 : Int32) (hb hby at_11) rfl ?_
    show Steps p.tables e below (s₁.setTop (mkF m 12 #[.val (.int p1), .val (.int (12 : Int32)), .val (.long (1 : Int64)), .second] [(.int (1 : Int32)), (.int (12 : Int32))])) _
    refine XS.iand X0.here hx rfl (hb hby at_12) rfl ?_
    rw [show ((12 : Int32) &&& (1 : Int32)) = (0 : Int32) from by decide]
    show Steps p.tables e below (s₁.setTop (mkF m 13 #[.val (.int p1), .val (.int (12 : Int32)), .val (.long (1 : Int64)), .second] [(.int (0 : Int32))])) _
    refine XS.ifYes X0.here hx rfl (pc0 := 13) (pc' := 22) rfl (hb hby at_13) rfl (by decide) (by decide) (by decide) ?_
    show Steps p.tables e below (s₁.setTop (mkF m 22 #[.val (.int p1), .val (.int (12 : Int32)), .val (.long (1 : Int64)), .second] [])) _
    refine XS.iloadN X0.here hx rfl (hb hby at_22) rfl ?_
    show Steps p.tables e below (s₁.setTop (mkF m 23 #[.val (.int p1), .val (.int (12 : Int32)), .val (.long (1 : Int64)), .second] [(.int (12 : Int32))])) _
    refine XT.iconstV X0.here hx rfl (2 : Int32) (hb hby at_23) rfl ?_
    show Steps p.tables e below (s₁.setTop (mkF m 24 #[.val (.int p1), .val (.int (12 : Int32)), .val (.long (1 : Int64)), .second] [(.int (2 : Int32)), (.int (12 : Int32))])) _
    refine XS.iand X0.here hx rfl (hb hby at_24) rfl ?_
    rw [show ((12 : Int32) &&& (2 : Int32)) = (0 : Int32) from by decide]
    show Steps p.tables e below (s₁.setTop (mkF m 25 #[.val (.int p1), .val (.int (12 : Int32)), .val (.long (1 : Int64)), .second] [(.int (0 : Int32))])) _
    refine XS.ifYes X0.here hx rfl (pc0 := 25) (pc' := 34) rfl (hb hby at_25) rfl (by decide) (by decide) (by decide) ?_
    show Steps p.tables e below (s₁.setTop (mkF m 34 #[.val (.int p1), .val (.int (12 : Int32)), .val (.long (1 : Int64)), .second] [])) _
    refine XS.iloadN X0.here hx rfl (hb hby at_34) rfl ?_
    show Steps p.tables e below (s₁.setTop (mkF m 35 #[.val (.int p1), .val (.int (12 : Int32)), .val (.long (1 : Int64)), .second] [(.int (12 : Int32))])) _
    refine XT.iconstV X0.here hx rfl (4 : Int32) (hb hby at_35) rfl ?_
    show Steps p.tables e below (s₁.setTop (mkF m 36 #[.val (.int p1), .val (.int (12 : Int32)), .val (.long (1 : Int64)), .second] [(.int (4 : Int32)), (.int (12 : Int32))])) _
    refine XS.iand X0.here hx rfl (hb hby at_36) rfl ?_
    rw [show ((12 : Int32) &&& (4 : Int32)) = (4 : Int32) from by decide]
    show Steps p.tables e below (s₁.setTop (mkF m 37 #[.val (.int p1), .val (.int (12 : Int32)), .val (.long (1 : Int64)), .second] [(.int (4 : Int32))])) _
    refine XS.ifNo X0.here hx rfl (hb hby at_37) rfl (by decide) ?_
    show Steps p.tables e below (s₁.setTop (mkF m 40 #[.val (.int p1), .val (.int (12 : Int32)), .val (.long (1 : Int64)), .second] [])) _
    refine XT.lloadN X0.here hx rfl (hb hby at_40) rfl ?_
    show Steps p.tables e below (s₁.setTop (mkF m 41 #[.val (.int p1), .val (.int (12 : Int32)), .val (.long (1 : Int64)), .second] [(.long (1 : Int64))])) _
    refine Jvm.Stand.ldc2J X0 hx hown (mvT hZ (hw _ (List.mem_of_getElem? (i := 9) rfl))) rfl (hb hby at_41) ?_
    show Steps p.tables e below (s₁.setTop (mkF m 44 #[.val (.int p1), .val (.int (12 : Int32)), .val (.long (1 : Int64)), .second] [(.long (10000 : Int64)), (.long (1 : Int64))])) _
    refine XT.lmul X0.here hx rfl (hb hby at_44) rfl ?_
    rw [show ((1 : Int64) * (10000 : Int64)) = (10000 : Int64) from by decide]
    show Steps p.tables e below (s₁.setTop (mkF m 45 #[.val (.int p1), .val (.int (12 : Int32)), .val (.long (1 : Int64)), .second] [(.long (10000 : Int64))])) _
    refine XT.lstoreN X0.here hx rfl (hb hby at_45) rfl (l' := #[.val (.int p1), .val (.int (12 : Int32)), .val (.long (10000 : Int64)), .second]) rfl ?_
    show Steps p.tables e below (s₁.setTop (mkF m 46 #[.val (.int p1), .val (.int (12 : Int32)), .val (.long (10000 : Int64)), .second] [])) _
    refine XS.iloadN X0.here hx rfl (hb hby at_46) rfl ?_
    show Steps p.tables e below (s₁.setTop (mkF m 47 #[.val (.int p1), .val (.int (12 : Int32)), .val (.long (10000 : Int64)), .second] [(.int (12 : Int32))])) _
    refine XT.bipushV X0.here hx rfl (8 : Int32) (hb hby at_47) (by decide) ?_
    show Steps p.tables e below (s₁.setTop (mkF m 49 #[.val (.int p1), .val (.int (12 : Int32)), .val (.long (10000 : Int64)), .second] [(.int (8 : Int32)), (.int (12 : Int32))])) _
    refine XS.iand X0.here hx rfl (hb hby at_49) rfl ?_
    rw [show ((12 : Int32) &&& (8 : Int32)) = (8 : Int32) from by decide]
    show Steps p.tables e below (s₁.setTop (mkF m 50 #[.val (.int p1), .val (.int (12 : Int32)), .val (.long (10000 : Int64)), .second] [(.int (8 : Int32))])) _
    refine XS.ifNo X0.here hx rfl (hb hby at_50) rfl (by decide) ?_
    show Steps p.tables e below (s₁.setTop (mkF m 53 #[.val (.int p1), .val (.int (12 : Int32)), .val (.long (10000 : Int64)), .second] [])) _
    refine XT.lloadN X0.here hx rfl (hb hby at_53) rfl ?_
    show Steps p.tables e below (s₁.setTop (mkF m 54 #[.val (.int p1), .val (.int (12 : Int32)), .val (.long (10000 : Int64)), .second] [(.long (10000 : Int64))])) _
    refine Jvm.Stand.ldc2J X0 hx hown (mvT hZ (hw _ (List.mem_of_getElem? (i := 10) rfl))) rfl (hb hby at_54) ?_
    show Steps p.tables e below (s₁.setTop (mkF m 57 #[.val (.int p1), .val (.int (12 : Int32)), .val (.long (10000 : Int64)), .second] [(.long (100000000 : Int64)), (.long (10000 : Int64))])) _
    refine XT.lmul X0.here hx rfl (hb hby at_57) rfl ?_
    rw [show ((10000 : Int64) * (100000000 : Int64)) = (1000000000000 : Int64) from by decide]
    show Steps p.tables e below (s₁.setTop (mkF m 58 #[.val (.int p1), .val (.int (12 : Int32)), .val (.long (10000 : Int64)), .second] [(.long (1000000000000 : Int64))])) _
    refine XT.lstoreN X0.here hx rfl (hb hby at_58) rfl (l' := #[.val (.int p1), .val (.int (12 : Int32)), .val (.long (1000000000000 : Int64)), .second]) rfl ?_
    show Steps p.tables e below (s₁.setTop (mkF m 59 #[.val (.int p1), .val (.int (12 : Int32)), .val (.long (1000000000000 : Int64)), .second] [])) _
    refine XS.iloadN X0.here hx rfl (hb hby at_59) rfl ?_
    show Steps p.tables e below (s₁.setTop (mkF m 60 #[.val (.int p1), .val (.int (12 : Int32)), .val (.long (1000000000000 : Int64)), .second] [(.int (12 : Int32))])) _
    refine XT.bipushV X0.here hx rfl (16 : Int32) (hb hby at_60) (by decide) ?_
    show Steps p.tables e below (s₁.setTop (mkF m 62 #[.val (.int p1), .val (.int (12 : Int32)), .val (.long (1000000000000 : Int64)), .second] [(.int (16 : Int32)), (.int (12 : Int32))])) _
    refine XS.iand X0.here hx rfl (hb hby at_62) rfl ?_
    rw [show ((12 : Int32) &&& (16 : Int32)) = (0 : Int32) from by decide]
    show Steps p.tables e below (s₁.setTop (mkF m 63 #[.val (.int p1), .val (.int (12 : Int32)), .val (.long (1000000000000 : Int64)), .second] [(.int (0 : Int32))])) _
    refine XS.ifYes X0.here hx rfl (pc0 := 63) (pc' := 72) rfl (hb hby at_63) rfl (by decide) (by decide) (by decide) ?_
    show Steps p.tables e below (s₁.setTop (mkF m 72 #[.val (.int p1), .val (.int (12 : Int32)), .val (.long (1000000000000 : Int64)), .second] [])) _
    refine XS.iloadN X0.here hx rfl (hb hby at_72) rfl ?_
    show Steps p.tables e below (s₁.setTop (mkF m 73 #[.val (.int p1), .val (.int (12 : Int32)), .val (.long (1000000000000 : Int64)), .second] [(.int (12 : Int32))])) _
    refine st51 _ ?_
    show Steps p.tables e below (T51.setTop (mkF m 76 #[.val (.int p1), .val (.int (12 : Int32)), .val (.long (1000000000000 : Int64)), .second] [(.long (1000000000000 : Int64))])) _
    refine XT.lloadN X51.here hx rfl (hb hby at_76) rfl ?_
    show Steps p.tables e below (T51.setTop (mkF m 77 #[.val (.int p1), .val (.int (12 : Int32)), .val (.long (1000000000000 : Int64)), .second] [(.long (1000000000000 : Int64)), (.long (1000000000000 : Int64))])) _
    refine XT.lcmp X51.here hx rfl (hb hby at_77) rfl ?_
    show Steps p.tables e below (T51.setTop (mkF m 78 #[.val (.int p1), .val (.int (12 : Int32)), .val (.long (1000000000000 : Int64)), .second] [(.int (XT.cmpL (1000000000000 : Int64) (1000000000000 : Int64)))])) _
    refine XS.ifNo X51.here hx rfl (hb hby at_78) rfl (XT.ll_ne_f (by decide)) ?_
    show Steps p.tables e below (T51.setTop (mkF m 81 #[.val (.int p1), .val (.int (12 : Int32)), .val (.long (1000000000000 : Int64)), .second] [])) _
    refine XT.iconstV X51.here hx rfl (1 : Int32) (hb hby at_81) rfl ?_
    show Steps p.tables e below (T51.setTop (mkF m 82 #[.val (.int p1), .val (.int (12 : Int32)), .val (.long (1000000000000 : Int64)), .second] [(.int (1 : Int32))])) _
    refine XS.goto X51.here hx rfl (pc0 := 82) (pc' := 86) rfl (hb hby at_82) (by decide) (by decide) ?_
    show Steps p.tables e below (T51.setTop (mkF m 86 #[.val (.int p1), .val (.int (12 : Int32)), .val (.long (1000000000000 : Int64)), .second] [(.int (1 : Int32))])) _
    exact retN X51 hx (t := .boolean) Bd.returns (by simp) (hb hby at_86) hr
  · show own_Q0 n0 _ T51.heap _
    exact ⟨rfl, N51⟩
set_option maxRecDepth 65536 in
set_option maxHeartbeats 40000000 in
theorem own_law_13 (l : Launch) (Z : State) (a0 : Array Value) (hw : ∀ d ∈ tables_1, d.before a0 Z = true) (ws : List Jvm.Cond) (p1 : Int32) (w0 : Addr) (cl : Cell) (h0 : Heap) (n0 : Nat) (Z0 : n0 ≤ h0.size) (P : own_P Z h0 w0 cl) (hk : ((p1 &&& (2147483647 : Int32)) % (19 : Int32)) = (13 : Int32)) :
    MetFree l x (head1 (Jvm.Cond.code x code maxLocals ret :: ws) room_1) (fun a U => a = #[(.int p1)] ∧ Z.Warmed39 U.vm ∧ U.heap = h0) (fun _ _ _ _ _ => True) (fun _ U o U' => ∃ v L, o = .returned v ∧ own_Q0 n0 v U'.heap L ∧ FrameEnd U o U' L room_1.cells room_1.slots) := by
  refine MetFree.of_bodySF (plainFor_of_name pn_com_example_tranchor_tranchor_FractionPowerOfTenPinLaw) hisR ?_
  intro p e s m args below meth c s₁ Bd hml0 hP hK
  obtain ⟨rfl, hZ, hh⟩ := hP
  have hx := Bd.exec
  have hby := Bd.bytes
  have hml : c.maxLocals = 4 := hml0
  have hown : s.vm.findClass "com/example/tranchor/tranchor/FractionPowerOfTenPinLaw" = some m.cls := findClass_of_methodNamed Bd.named
  have hnm := (name_of_methodNamed Bd.named Bd.method).1
  have X0 : Stand p l e room_1 s m #[(.int p1)] below meth c s₁ [] 0 0 := Stand.of_body Bd
  have e0 : s₁.heap = h0 := by rw [← hh, Bd.state]; rfl
  have N0 := Fr.nil n0
  have pre0 : ∀ t, Steps p.tables e below (s₁.setTop (mkF m 0 #[.val (.int p1), .unset, .unset, .unset] [])) t → Steps p.tables e below (s₁.setTop (entryFrame m #[(.int p1)] maxLocals)) t := fun t k => castTop (ef_code_I m p1) k
  obtain ⟨_, _, ⟨T52, L52, k52, n52⟩, -, X52, ⟨Lc52, hQ52, l52, y52, z52⟩, st52⟩ := Jvm.LawKit.callS X0 hx (y := (⟨"com/example/tranchor/tranchor/Fraction", "powerOfTen", "(I)J"⟩ : MethodName)) hown (mvT hZ (hw _ (List.mem_of_getElem? (i := 1) rfl))) (mvT hZ (hw _ (List.mem_of_getElem? (i := 2) rfl))) (mvT hZ (hw _ (List.mem_of_getElem? (i := 3) rfl))) (mvT hZ (hw _ (List.mem_of_getElem? (i := 4) rfl))) (by decide) (backOf (W := 0) (own_pow_13 l Z a0 hw [] w0 cl h0 n0 Z0 P) hZ (hw _ (List.mem_of_getElem? (i := 4) rfl)) (hw _ (List.mem_of_getElem? (i := 3) rfl)) (by decide) (by decide)) (g := (mkF m 73 #[.val (.int p1), .val (.int (13 : Int32)), .val (.long (10000000000000 : Int64)), .second] [(.int (13 : Int32))])) rfl (by rw [hml]; rfl) (argsL := [(.int (13 : Int32))]) (rest := []) (lenOf pd__I_J rfl) rfl (by show 2 * 0 + _ ≤ _; exact Nat.le_of_eq rfl) (hb hby at_73) (fun _ _ => ⟨rfl, e0, (by decide : 0 + 0 ≤ _), (by decide : 0 + 0 ≤ _)⟩)
  dsimp only [Pt.U, Pt.locs, Pt.cells, Pt.slots] at X52 l52 y52 z52 st52 hQ52
  subst l52 y52 z52
  obtain ⟨rfl, N52q, e52⟩ := hQ52
  have N52 := Fr.app N0 N52q
  obtain ⟨fs, hr, hrun, hended, hW, hsame⟩ := X52.leave (v := some (.int (1 : Int32))) (fun h => by rw [Bd.returns] at h; cases h)
  refine ⟨_, _, pre0 _ ?_, hrun, hended, _, _, rfl, ?_, ⟨_, rfl⟩, hW, hsame.mono (by decide) (by decide)⟩
  · show Steps p.tables e below (s₁.setTop (mkF m 0 #[.val (.int p1), .unset, .unset, .unset] [])) _
    refine XS.iloadN X0.here hx rfl (hb hby at_0) rfl ?_
    show Steps p.tables e below (s₁.setTop (mkF m 1 #[.val (.int p1), .unset, .unset, .unset] [(.int p1)])) _
    refine Jvm.Stand.ldcI X0 hx hown (mvT hZ (hw _ (List.mem_of_getElem? (i := 0) rfl))) rfl (hb hby at_1) ?_
    show Steps p.tables e below (s₁.setTop (mkF m 3 #[.val (.int p1), .unset, .unset, .unset] [(.int (2147483647 : Int32)), (.int p1)])) _
    refine XS.iand X0.here hx rfl (hb hby at_3) rfl ?_
    show Steps p.tables e below (s₁.setTop (mkF m 4 #[.val (.int p1), .unset, .unset, .unset] [(.int (p1 &&& (2147483647 : Int32)))])) _
    refine XT.bipushV X0.here hx rfl (19 : Int32) (hb hby at_4) (by decide) ?_
    show Steps p.tables e below (s₁.setTop (mkF m 6 #[.val (.int p1), .unset, .unset, .unset] [(.int (19 : Int32)), (.int (p1 &&& (2147483647 : Int32)))])) _
    refine iremM X0 hx rfl (hb hby at_6) rfl (by decide) ?_
    show Steps p.tables e below (s₁.setTop (mkF m 7 #[.val (.int p1), .unset, .unset, .unset] [(.int ((p1 &&& (2147483647 : Int32)) % (19 : Int32)))])) _
    rw [hk]
    show Steps p.tables e below (s₁.setTop (mkF m 7 #[.val (.int p1), .unset, .unset, .unset] [(.int (13 : Int32))])) _
    refine XS.istoreN X0.here hx rfl (hb hby at_7) rfl (l' := #[.val (.int p1), .val (.int (13 : Int32)), .unset, .unset]) rfl ?_
    show Steps p.tables e below (s₁.setTop (mkF m 8 #[.val (.int p1), .val (.int (13 : Int32)), .unset, .unset] [])) _
    refine XT.lconstV X0.here hx rfl (1 : Int64) (hb hby at_8) rfl ?_
    show Steps p.tables e below (s₁.setTop (mkF m 9 #[.val (.int p1), .val (.int (13 : Int32)), .unset, .unset] [(.long (1 : Int64))])) _
    refine XT.lstoreN X0.here hx rfl (hb hby at_9) rfl (l' := #[.val (.int p1), .val (.int (13 : Int32)), .val (.long (1 : Int64)), .second]) rfl ?_
    show Steps p.tables e below (s₁.setTop (mkF m 10 #[.val (.int p1), .val (.int (13 : Int32)), .val (.long (1 : Int64)), .second] [])) _
    refine XS.iloadN X0.here hx rfl (hb hby at_10) rfl ?_
    show Steps p.tables e below (s₁.setTop (mkF m 11 #[.val (.int p1), .val (.int (13 : Int32)), .val (.long (1 : Int64)), .second] [(.int (13 : Int32))])) _
    refine XT.iconstV X0.here hx rfl (1 : Int32) (hb hby at_11) rfl ?_
    show Steps p.tables e below (s₁.setTop (mkF m 12 #[.val (.int p1), .val (.int (13 : Int32)), .val (.long (1 : Int64)), .second] [(.int (1 : Int32)), (.int (13 : Int32))])) _
    refine XS.iand X0.here hx rfl (hb hby at_12) rfl ?_
    rw [show ((13 : Int32) &&& (1 : Int32)) = (1 : Int32) from by decide]
    show Steps p.tables e below (s₁.setTop (mkF m 13 #[.val (.int p1), .val (.int (13 : Int32)), .val (.long (1 : Int64)), .second] [(.int (1 : Int32))])) _
    refine XS.ifNo X0.here hx rfl (hb hby at_13) rfl (by decide) ?_
    show Steps p.tables e below (s₁.setTop (mkF m 16 #[.val (.int p1), .val (.int (13 : Int32)), .val (.long (1 : Int64)), .second] [])) _
    refine XT.lloadN X0.here hx rfl (hb hby at_16) rfl ?_
    show Steps p.tables e below (s₁.setTop (mkF m 17 #[.val (.int p1), .val (.int (13 : Int32)), .val (.long (1 : Int64)), .second] [(.long (1 : Int64))])) _
    refine Jvm.Stand.ldc2J X0 hx hown (mvT hZ (hw _ (List.mem_of_getElem? (i := 7) rfl))) rfl (hb hby at_17) ?_
    show Steps p.tables e below (s₁.setTop (mkF m 20 #[.val (.int p1), .val (.int (13 : Int32)), .val (.long (1 : Int64)), .second] [(.long (10 : Int64)), (.long (1 : Int64))])) _
    refine XT.lmul X0.here hx rfl (hb hby at_20) rfl ?_
    rw [show ((1 : Int64) * (10 : Int64)) = (10 : Int64) from by decide]
    show Steps p.tables e below (s₁.setTop (mkF m 21 #[.val (.int p1), .val (.int (13 : Int32)), .val (.long (1 : Int64)), .second] [(.long (10 : Int64))])) _
    refine XT.lstoreN X0.here hx rfl (hb hby at_21) rfl (l' := #[.val (.int p1), .val (.int (13 : Int32)), .val (.long (10 : Int64)), .second]) rfl ?_
    show Steps p.tables e below (s₁.setTop (mkF m 22 #[.val (.int p1), .val (.int (13 : Int32)), .val (.long (10 : Int64)), .second] [])) _
    refine XS.iloadN X0.here hx rfl (hb hby at_22) rfl ?_
    show Steps p.tables e below (s₁.setTop (mkF m 23 #[.val (.int p1), .val (.int (13 : Int32)), .val (.long (10 : Int64)), .second] [(.int (13 : Int32))])) _
    refine XT.iconstV X0.here hx rfl (2 : Int32) (hb hby at_23) rfl ?_
    show Steps p.tables e below (s₁.setTop (mkF m 24 #[.val (.int p1), .val (.int (13 : Int32)), .val (.long (10 : Int64)), .second] [(.int (2 : Int32)), (.int (13 : Int32))])) _
    refine XS.iand X0.here hx rfl (hb hby at_24) rfl ?_
    rw [show ((13 : Int32) &&& (2 : Int32)) = (0 : Int32) from by decide]
    show Steps p.tables e below (s₁.setTop (mkF m 25 #[.val (.int p1), .val (.int (13 : Int32)), .val (.long (10 : Int64)), .second] [(.int (0 : Int32))])) _
    refine XS.ifYes X0.here hx rfl (pc0 := 25) (pc' := 34) rfl (hb hby at_25) rfl (by decide) (by decide) (by decide) ?_
    show Steps p.tables e below (s₁.setTop (mkF m 34 #[.val (.int p1), .val (.int (13 : Int32)), .val (.long (10 : Int64)), .second] [])) _
    refine XS.iloadN X0.here hx rfl (hb hby at_34) rfl ?_
    show Steps p.tables e below (s₁.setTop (mkF m 35 #[.val (.int p1), .val (.int (13 : Int32)), .val (.long (10 : Int64)), .second] [(.int (13 : Int32))])) _
    refine XT.iconstV X0.here hx rfl (4 : Int32) (hb hby at_35) rfl ?_
    show Steps p.tables e below (s₁.setTop (mkF m 36 #[.val (.int p1), .val (.int (13 : Int32)), .val (.long (10 : Int64)), .second] [(.int (4 : Int32)), (.int (13 : Int32))])) _
    refine XS.iand X0.here hx rfl (hb hby at_36) rfl ?_
    rw [show ((13 : Int32) &&& (4 : Int32)) = (4 : Int32) from by decide]
    show Steps p.tables e below (s₁.setTop (mkF m 37 #[.val (.int p1), .val (.int (13 : Int32)), .val (.long (10 : Int64)), .second] [(.int (4 : Int32))])) _
    refine XS.ifNo X0.here hx rfl (hb hby at_37) rfl (by decide) ?_
    show Steps p.tables e below (s₁.setTop (mkF m 40 #[.val (.int p1), .val (.int (13 : Int32)), .val (.long (10 : Int64)), .second] [])) _
    refine XT.lloadN X0.here hx rfl (hb hby at_40) rfl ?_
    show Steps p.tables e below (s₁.setTop (mkF m 41 #[.val (.int p1), .val (.int (13 : Int32)), .val (.long (10 : Int64)), .second] [(.long (10 : Int64))])) _
    refine Jvm.Stand.ldc2J X0 hx hown (mvT hZ (hw _ (List.mem_of_getElem? (i := 9) rfl))) rfl (hb hby at_41) ?_
    show Steps p.tables e below (s₁.setTop (mkF m 44 #[.val (.int p1), .val (.int (13 : Int32)), .val (.long (10 : Int64)), .second] [(.long (10000 : Int64)), (.long (10 : Int64))])) _
    refine XT.lmul X0.here hx rfl (hb hby at_44) rfl ?_
    rw [show ((10 : Int64) * (10000 : Int64)) = (100000 : Int64) from by decide]
    show Steps p.tables e below (s₁.setTop (mkF m 45 #[.val (.int p1), .val (.int (13 : Int32)), .val (.long (10 : Int64)), .second] [(.long (100000 : Int64))])) _
    refine XT.lstoreN X0.here hx rfl (hb hby at_45) rfl (l' := #[.val (.int p1), .val (.int (13 : Int32)), .val (.long (100000 : Int64)), .second]) rfl ?_
    show Steps p.tables e below (s₁.setTop (mkF m 46 #[.val (.int p1), .val (.int (13 : Int32)), .val (.long (100000 : Int64)), .second] [])) _
    refine XS.iloadN X0.here hx rfl (hb hby at_46) rfl ?_
    show Steps p.tables e below (s₁.setTop (mkF m 47 #[.val (.int p1), .val (.int (13 : Int32)), .val (.long (100000 : Int64)), .second] [(.int (13 : Int32))])) _
    refine XT.bipushV X0.here hx rfl (8 : Int32) (hb hby at_47) (by decide) ?_
    show Steps p.tables e below (s₁.setTop (mkF m 49 #[.val (.int p1), .val (.int (13 : Int32)), .val (.long (100000 : Int64)), .second] [(.int (8 : Int32)), (.int (13 : Int32))])) _
    refine XS.iand X0.here hx rfl (hb hby at_49) rfl ?_
    rw [show ((13 : Int32) &&& (8 : Int32)) = (8 : Int32) from by decide]
    show Steps p.tables e below (s₁.setTop (mkF m 50 #[.val (.int p1), .val (.int (13 : Int32)), .val (.long (100000 : Int64)), .second] [(.int (8 : Int32))])) _
    refine XS.ifNo X0.here hx rfl (hb hby at_50) rfl (by decide) ?_
    show Steps p.tables e below (s₁.setTop (mkF m 53 #[.val (.int p1), .val (.int (13 : Int32)), .val (.long (100000 : Int64)), .second] [])) _
    refine XT.lloadN X0.here hx rfl (hb hby at_53) rfl ?_
    show Steps p.tables e below (s₁.setTop (mkF m 54 #[.val (.int p1), .val (.int (13 : Int32)), .val (.long (100000 : Int64)), .second] [(.long (100000 : Int64))])) _
    refine Jvm.Stand.ldc2J X0 hx hown (mvT hZ (hw _ (List.mem_of_getElem? (i := 10) rfl))) rfl (hb hby at_54) ?_
    show Steps p.tables e below (s₁.setTop (mkF m 57 #[.val (.int p1), .val (.int (13 : Int32)), .val (.long (100000 : Int64)), .second] [(.long (100000000 : Int64)), (.long (100000 : Int64))])) _
    refine XT.lmul X0.here hx rfl (hb hby at_57) rfl ?_
    rw [show ((100000 : Int64) * (100000000 : Int64)) = (10000000000000 : Int64) from by decide]
    show Steps p.tables e below (s₁.setTop (mkF m 58 #[.val (.int p1), .val (.int (13 : Int32)), .val (.long (100000 : Int64)), .second] [(.long (10000000000000 : Int64))])) _
    refine XT.lstoreN X0.here hx rfl (hb hby at_58) rfl (l' := #[.val (.int p1), .val (.int (13 : Int32)), .val (.long (10000000000000 : Int64)), .second]) rfl ?_
    show Steps p.tables e below (s₁.setTop (mkF m 59 #[.val (.int p1), .val (.int (13 : Int32)), .val (.long (10000000000000 : Int64)), .second] [])) _
    refine XS.iloadN X0.here hx rfl (hb hby at_59) rfl ?_
    show Steps p.tables e below (s₁.setTop (mkF m 60 #[.val (.int p1), .val (.int (13 : Int32)), .val (.long (10000000000000 : Int64)), .second] [(.int (13 : Int32))])) _
    refine XT.bipushV X0.here hx rfl (16 : Int32) (hb hby at_60) (by decide) ?_
    show Steps p.tables e below (s₁.setTop (mkF m 62 #[.val (.int p1), .val (.int (13 : Int32)), .val (.long (10000000000000 : Int64)), .second] [(.int (16 : Int32)), (.int (13 : Int32))])) _
    refine XS.iand X0.here hx rfl (hb hby at_62) rfl ?_
    rw [show ((13 : Int32) &&& (16 : Int32)) = (0 : Int32) from by decide]
    show Steps p.tables e below (s₁.setTop (mkF m 63 #[.val (.int p1), .val (.int (13 : Int32)), .val (.long (10000000000000 : Int64)), .second] [(.int (0 : Int32))])) _
    refine XS.ifYes X0.here hx rfl (pc0 := 63) (pc' := 72) rfl (hb hby at_63) rfl (by decide) (by decide) (by decide) ?_
    show Steps p.tables e below (s₁.setTop (mkF m 72 #[.val (.int p1), .val (.int (13 : Int32)), .val (.long (10000000000000 : Int64)), .second] [])) _
    refine XS.iloadN X0.here hx rfl (hb hby at_72) rfl ?_
    show Steps p.tables e below (s₁.setTop (mkF m 73 #[.val (.int p1), .val (.int (13 : Int32)), .val (.long (10000000000000 : Int64)), .second] [(.int (13 : Int32))])) _
    refine st52 _ ?_
    show Steps p.tables e below (T52.setTop (mkF m 76 #[.val (.int p1), .val (.int (13 : Int32)), .val (.long (10000000000000 : Int64)), .second] [(.long (10000000000000 : Int64))])) _
    refine XT.lloadN X52.here hx rfl (hb hby at_76) rfl ?_
    show Steps p.tables e below (T52.setTop (mkF m 77 #[.val (.int p1), .val (.int (13 : Int32)), .val (.long (10000000000000 : Int64)), .second] [(.long (10000000000000 : Int64)), (.long (10000000000000 : Int64))])) _
    refine XT.lcmp X52.here hx rfl (hb hby at_77) rfl ?_
    show Steps p.tables e below (T52.setTop (mkF m 78 #[.val (.int p1), .val (.int (13 : Int32)), .val (.long (10000000000000 : Int64)), .second] [(.int (XT.cmpL (10000000000000 : Int64) (10000000000000 : Int64)))])) _
    refine XS.ifNo X52.here hx rfl (hb hby at_78) rfl (XT.ll_ne_f (by decide)) ?_
    show Steps p.tables e below (T52.setTop (mkF m 81 #[.val (.int p1), .val (.int (13 : Int32)), .val (.long (10000000000000 : Int64)), .second] [])) _
    refine XT.iconstV X52.here hx rfl (1 : Int32) (hb hby at_81) rfl ?_
    show Steps p.tables e below (T52.setTop (mkF m 82 #[.val (.int p1), .val (.int (13 : Int32)), .val (.long (10000000000000 : Int64)), .second] [(.int (1 : Int32))])) _
    refine XS.goto X52.here hx rfl (pc0 := 82) (pc' := 86) rfl (hb hby at_82) (by decide) (by decide) ?_
    show Steps p.tables e below (T52.setTop (mkF m 86 #[.val (.int p1), .val (.int (13 : Int32)), .val (.long (10000000000000 : Int64)), .second] [(.int (1 : Int32))])) _
    exact retN X52 hx (t := .boolean) Bd.returns (by simp) (hb hby at_86) hr
  · show own_Q0 n0 _ T52.heap _
    exact ⟨rfl, N52⟩
set_option maxRecDepth 65536 in
set_option maxHeartbeats 40000000 in
theorem own_law_14 (l : Launch) (Z : State) (a0 : Array Value) (hw : ∀ d ∈ tables_1, d.before a0 Z = true) (ws : List Jvm.Cond) (p1 : Int32) (w0 : Addr) (cl : Cell) (h0 : Heap) (n0 : Nat) (Z0 : n0 ≤ h0.size) (P : own_P Z h0 w0 cl) (hk : ((p1 &&& (2147483647 : Int32)) % (19 : Int32)) = (14 : Int32)) :
    MetFree l x (head1 (Jvm.Cond.code x code maxLocals ret :: ws) room_1) (fun a U => a = #[(.int p1)] ∧ Z.Warmed39 U.vm ∧ U.heap = h0) (fun _ _ _ _ _ => True) (fun _ U o U' => ∃ v L, o = .returned v ∧ own_Q0 n0 v U'.heap L ∧ FrameEnd U o U' L room_1.cells room_1.slots) := by
  refine MetFree.of_bodySF (plainFor_of_name pn_com_example_tranchor_tranchor_FractionPowerOfTenPinLaw) hisR ?_
  intro p e s m args below meth c s₁ Bd hml0 hP hK
  obtain ⟨rfl, hZ, hh⟩ := hP
  have hx := Bd.exec
  have hby := Bd.bytes
  have hml : c.maxLocals = 4 := hml0
  have hown : s.vm.findClass "com/example/tranchor/tranchor/FractionPowerOfTenPinLaw" = some m.cls := findClass_of_methodNamed Bd.named
  have hnm := (name_of_methodNamed Bd.named Bd.method).1
  have X0 : Stand p l e room_1 s m #[(.int p1)] below meth c s₁ [] 0 0 := Stand.of_body Bd
  have e0 : s₁.heap = h0 := by rw [← hh, Bd.state]; rfl
  have N0 := Fr.nil n0
  have pre0 : ∀ t, Steps p.tables e below (s₁.setTop (mkF m 0 #[.val (.int p1), .unset, .unset, .unset] [])) t → Steps p.tables e below (s₁.setTop (entryFrame m #[(.int p1)] maxLocals)) t := fun t k => castTop (ef_code_I m p1) k
  obtain ⟨_, _, ⟨T53, L53, k53, n53⟩, -, X53, ⟨Lc53, hQ53, l53, y53, z53⟩, st53⟩ := Jvm.LawKit.callS X0 hx (y := (⟨"com/example/tranchor/tranchor/Fraction", "powerOfTen", "(I)J"⟩ : MethodName)) hown (mvT hZ (hw _ (List.mem_of_getElem? (i := 1) rfl))) (mvT hZ (hw _ (List.mem_of_getElem? (i := 2) rfl))) (mvT hZ (hw _ (List.mem_of_getElem? (i := 3) rfl))) (mvT hZ (hw _ (List.mem_of_getElem? (i := 4) rfl))) (by decide) (backOf (W := 0) (own_pow_14 l Z a0 hw [] w0 cl h0 n0 Z0 P) hZ (hw _ (List.mem_of_getElem? (i := 4) rfl)) (hw _ (List.mem_of_getElem? (i := 3) rfl)) (by decide) (by decide)) (g := (mkF m 73 #[.val (.int p1), .val (.int (14 : Int32)), .val (.long (100000000000000 : Int64)), .second] [(.int (14 : Int32))])) rfl (by rw [hml]; rfl) (argsL := [(.int (14 : Int32))]) (rest := []) (lenOf pd__I_J rfl) rfl (by show 2 * 0 + _ ≤ _; exact Nat.le_of_eq rfl) (hb hby at_73) (fun _ _ => ⟨rfl, e0, (by decide : 0 + 0 ≤ _), (by decide : 0 + 0 ≤ _)⟩)
  dsimp only [Pt.U, Pt.locs, Pt.cells, Pt.slots] at X53 l53 y53 z53 st53 hQ53
  subst l53 y53 z53
  obtain ⟨rfl, N53q, e53⟩ := hQ53
  have N53 := Fr.app N0 N53q
  obtain ⟨fs, hr, hrun, hended, hW, hsame⟩ := X53.leave (v := some (.int (1 : Int32))) (fun h => by rw [Bd.returns] at h; cases h)
  refine ⟨_, _, pre0 _ ?_, hrun, hended, _, _, rfl, ?_, ⟨_, rfl⟩, hW, hsame.mono (by decide) (by decide)⟩
  · show Steps p.tables e below (s₁.setTop (mkF m 0 #[.val (.int p1), .unset, .unset, .unset] [])) _
    refine XS.iloadN X0.here hx rfl (hb hby at_0) rfl ?_
    show Steps p.tables e below (s₁.setTop (mkF m 1 #[.val (.int p1), .unset, .unset, .unset] [(.int p1)])) _
    refine Jvm.Stand.ldcI X0 hx hown (mvT hZ (hw _ (List.mem_of_getElem? (i := 0) rfl))) rfl (hb hby at_1) ?_
    show Steps p.tables e below (s₁.setTop (mkF m 3 #[.val (.int p1), .unset, .unset, .unset] [(.int (2147483647 : Int32)), (.int p1)])) _
    refine XS.iand X0.here hx rfl (hb hby at_3) rfl ?_
    show Steps p.tables e below (s₁.setTop (mkF m 4 #[.val (.int p1), .unset, .unset, .unset] [(.int (p1 &&& (2147483647 : Int32)))])) _
    refine XT.bipushV X0.here hx rfl (19 : Int32) (hb hby at_4) (by decide) ?_
    show Steps p.tables e below (s₁.setTop (mkF m 6 #[.val (.int p1), .unset, .unset, .unset] [(.int (19 : Int32)), (.int (p1 &&& (2147483647 : Int32)))])) _
    refine iremM X0 hx rfl (hb hby at_6) rfl (by decide) ?_
    show Steps p.tables e below (s₁.setTop (mkF m 7 #[.val (.int p1), .unset, .unset, .unset] [(.int ((p1 &&& (2147483647 : Int32)) % (19 : Int32)))])) _
    rw [hk]
    show Steps p.tables e below (s₁.setTop (mkF m 7 #[.val (.int p1), .unset, .unset, .unset] [(.int (14 : Int32))])) _
    refine XS.istoreN X0.here hx rfl (hb hby at_7) rfl (l' := #[.val (.int p1), .val (.int (14 : Int32)), .unset, .unset]) rfl ?_
    show Steps p.tables e below (s₁.setTop (mkF m 8 #[.val (.int p1), .val (.int (14 : Int32)), .unset, .unset] [])) _
    refine XT.lconstV X0.here hx rfl (1 : Int64) (hb hby at_8) rfl ?_
    show Steps p.tables e below (s₁.setTop (mkF m 9 #[.val (.int p1), .val (.int (14 : Int32)), .unset, .unset] [(.long (1 : Int64))])) _
    refine XT.lstoreN X0.here hx rfl (hb hby at_9) rfl (l' := #[.val (.int p1), .val (.int (14 : Int32)), .val (.long (1 : Int64)), .second]) rfl ?_
    show Steps p.tables e below (s₁.setTop (mkF m 10 #[.val (.int p1), .val (.int (14 : Int32)), .val (.long (1 : Int64)), .second] [])) _
    refine XS.iloadN X0.here hx rfl (hb hby at_10) rfl ?_
    show Steps p.tables e below (s₁.setTop (mkF m 11 #[.val (.int p1), .val (.int (14 : Int32)), .val (.long (1 : Int64)), .second] [(.int (14 : Int32))])) _
    refine XT.iconstV X0.here hx rfl (1 : Int32) (hb hby at_11) rfl ?_
    show Steps p.tables e below (s₁.setTop (mkF m 12 #[.val (.int p1), .val (.int (14 : Int32)), .val (.long (1 : Int64)), .second] [(.int (1 : Int32)), (.int (14 : Int32))])) _
    refine XS.iand X0.here hx rfl (hb hby at_12) rfl ?_
    rw [show ((14 : Int32) &&& (1 : Int32)) = (0 : Int32) from by decide]
    show Steps p.tables e below (s₁.setTop (mkF m 13 #[.val (.int p1), .val (.int (14 : Int32)), .val (.long (1 : Int64)), .second] [(.int (0 : Int32))])) _
    refine XS.ifYes X0.here hx rfl (pc0 := 13) (pc' := 22) rfl (hb hby at_13) rfl (by decide) (by decide) (by decide) ?_
    show Steps p.tables e below (s₁.setTop (mkF m 22 #[.val (.int p1), .val (.int (14 : Int32)), .val (.long (1 : Int64)), .second] [])) _
    refine XS.iloadN X0.here hx rfl (hb hby at_22) rfl ?_
    show Steps p.tables e below (s₁.setTop (mkF m 23 #[.val (.int p1), .val (.int (14 : Int32)), .val (.long (1 : Int64)), .second] [(.int (14 : Int32))])) _
    refine XT.iconstV X0.here hx rfl (2 : Int32) (hb hby at_23) rfl ?_
    show Steps p.tables e below (s₁.setTop (mkF m 24 #[.val (.int p1), .val (.int (14 : Int32)), .val (.long (1 : Int64)), .second] [(.int (2 : Int32)), (.int (14 : Int32))])) _
    refine XS.iand X0.here hx rfl (hb hby at_24) rfl ?_
    rw [show ((14 : Int32) &&& (2 : Int32)) = (2 : Int32) from by decide]
    show Steps p.tables e below (s₁.setTop (mkF m 25 #[.val (.int p1), .val (.int (14 : Int32)), .val (.long (1 : Int64)), .second] [(.int (2 : Int32))])) _
    refine XS.ifNo X0.here hx rfl (hb hby at_25) rfl (by decide) ?_
    show Steps p.tables e below (s₁.setTop (mkF m 28 #[.val (.int p1), .val (.int (14 : Int32)), .val (.long (1 : Int64)), .second] [])) _
    refine XT.lloadN X0.here hx rfl (hb hby at_28) rfl ?_
    show Steps p.tables e below (s₁.setTop (mkF m 29 #[.val (.int p1), .val (.int (14 : Int32)), .val (.long (1 : Int64)), .second] [(.long (1 : Int64))])) _
    refine Jvm.Stand.ldc2J X0 hx hown (mvT hZ (hw _ (List.mem_of_getElem? (i := 8) rfl))) rfl (hb hby at_29) ?_
    show Steps p.tables e below (s₁.setTop (mkF m 32 #[.val (.int p1), .val (.int (14 : Int32)), .val (.long (1 : Int64)), .second] [(.long (100 : Int64)), (.long (1 : Int64))])) _
    refine XT.lmul X0.here hx rfl (hb hby at_32) rfl ?_
    rw [show ((1 : Int64) * (100 : Int64)) = (100 : Int64) from by decide]
    show Steps p.tables e below (s₁.setTop (mkF m 33 #[.val (.int p1), .val (.int (14 : Int32)), .val (.long (1 : Int64)), .second] [(.long (100 : Int64))])) _
    refine XT.lstoreN X0.here hx rfl (hb hby at_33) rfl (l' := #[.val (.int p1), .val (.int (14 : Int32)), .val (.long (100 : Int64)), .second]) rfl ?_
    show Steps p.tables e below (s₁.setTop (mkF m 34 #[.val (.int p1), .val (.int (14 : Int32)), .val (.long (100 : Int64)), .second] [])) _
    refine XS.iloadN X0.here hx rfl (hb hby at_34) rfl ?_
    show Steps p.tables e below (s₁.setTop (mkF m 35 #[.val (.int p1), .val (.int (14 : Int32)), .val (.long (100 : Int64)), .second] [(.int (14 : Int32))])) _
    refine XT.iconstV X0.here hx rfl (4 : Int32) (hb hby at_35) rfl ?_
    show Steps p.tables e below (s₁.setTop (mkF m 36 #[.val (.int p1), .val (.int (14 : Int32)), .val (.long (100 : Int64)), .second] [(.int (4 : Int32)), (.int (14 : Int32))])) _
    refine XS.iand X0.here hx rfl (hb hby at_36) rfl ?_
    rw [show ((14 : Int32) &&& (4 : Int32)) = (4 : Int32) from by decide]
    show Steps p.tables e below (s₁.setTop (mkF m 37 #[.val (.int p1), .val (.int (14 : Int32)), .val (.long (100 : Int64)), .second] [(.int (4 : Int32))])) _
    refine XS.ifNo X0.here hx rfl (hb hby at_37) rfl (by decide) ?_
    show Steps p.tables e below (s₁.setTop (mkF m 40 #[.val (.int p1), .val (.int (14 : Int32)), .val (.long (100 : Int64)), .second] [])) _
    refine XT.lloadN X0.here hx rfl (hb hby at_40) rfl ?_
    show Steps p.tables e below (s₁.setTop (mkF m 41 #[.val (.int p1), .val (.int (14 : Int32)), .val (.long (100 : Int64)), .second] [(.long (100 : Int64))])) _
    refine Jvm.Stand.ldc2J X0 hx hown (mvT hZ (hw _ (List.mem_of_getElem? (i := 9) rfl))) rfl (hb hby at_41) ?_
    show Steps p.tables e below (s₁.setTop (mkF m 44 #[.val (.int p1), .val (.int (14 : Int32)), .val (.long (100 : Int64)), .second] [(.long (10000 : Int64)), (.long (100 : Int64))])) _
    refine XT.lmul X0.here hx rfl (hb hby at_44) rfl ?_
    rw [show ((100 : Int64) * (10000 : Int64)) = (1000000 : Int64) from by decide]
    show Steps p.tables e below (s₁.setTop (mkF m 45 #[.val (.int p1), .val (.int (14 : Int32)), .val (.long (100 : Int64)), .second] [(.long (1000000 : Int64))])) _
    refine XT.lstoreN X0.here hx rfl (hb hby at_45) rfl (l' := #[.val (.int p1), .val (.int (14 : Int32)), .val (.long (1000000 : Int64)), .second]) rfl ?_
    show Steps p.tables e below (s₁.setTop (mkF m 46 #[.val (.int p1), .val (.int (14 : Int32)), .val (.long (1000000 : Int64)), .second] [])) _
    refine XS.iloadN X0.here hx rfl (hb hby at_46) rfl ?_
    show Steps p.tables e below (s₁.setTop (mkF m 47 #[.val (.int p1), .val (.int (14 : Int32)), .val (.long (1000000 : Int64)), .second] [(.int (14 : Int32))])) _
    refine XT.bipushV X0.here hx rfl (8 : Int32) (hb hby at_47) (by decide) ?_
    show Steps p.tables e below (s₁.setTop (mkF m 49 #[.val (.int p1), .val (.int (14 : Int32)), .val (.long (1000000 : Int64)), .second] [(.int (8 : Int32)), (.int (14 : Int32))])) _
    refine XS.iand X0.here hx rfl (hb hby at_49) rfl ?_
    rw [show ((14 : Int32) &&& (8 : Int32)) = (8 : Int32) from by decide]
    show Steps p.tables e below (s₁.setTop (mkF m 50 #[.val (.int p1), .val (.int (14 : Int32)), .val (.long (1000000 : Int64)), .second] [(.int (8 : Int32))])) _
    refine XS.ifNo X0.here hx rfl (hb hby at_50) rfl (by decide) ?_
    show Steps p.tables e below (s₁.setTop (mkF m 53 #[.val (.int p1), .val (.int (14 : Int32)), .val (.long (1000000 : Int64)), .second] [])) _
    refine XT.lloadN X0.here hx rfl (hb hby at_53) rfl ?_
    show Steps p.tables e below (s₁.setTop (mkF m 54 #[.val (.int p1), .val (.int (14 : Int32)), .val (.long (1000000 : Int64)), .second] [(.long (1000000 : Int64))])) _
    refine Jvm.Stand.ldc2J X0 hx hown (mvT hZ (hw _ (List.mem_of_getElem? (i := 10) rfl))) rfl (hb hby at_54) ?_
    show Steps p.tables e below (s₁.setTop (mkF m 57 #[.val (.int p1), .val (.int (14 : Int32)), .val (.long (1000000 : Int64)), .second] [(.long (100000000 : Int64)), (.long (1000000 : Int64))])) _
    refine XT.lmul X0.here hx rfl (hb hby at_57) rfl ?_
    rw [show ((1000000 : Int64) * (100000000 : Int64)) = (100000000000000 : Int64) from by decide]
    show Steps p.tables e below (s₁.setTop (mkF m 58 #[.val (.int p1), .val (.int (14 : Int32)), .val (.long (1000000 : Int64)), .second] [(.long (100000000000000 : Int64))])) _
    refine XT.lstoreN X0.here hx rfl (hb hby at_58) rfl (l' := #[.val (.int p1), .val (.int (14 : Int32)), .val (.long (100000000000000 : Int64)), .second]) rfl ?_
    show Steps p.tables e below (s₁.setTop (mkF m 59 #[.val (.int p1), .val (.int (14 : Int32)), .val (.long (100000000000000 : Int64)), .second] [])) _
    refine XS.iloadN X0.here hx rfl (hb hby at_59) rfl ?_
    show Steps p.tables e below (s₁.setTop (mkF m 60 #[.val (.int p1), .val (.int (14 : Int32)), .val (.long (100000000000000 : Int64)), .second] [(.int (14 : Int32))])) _
    refine XT.bipushV X0.here hx rfl (16 : Int32) (hb hby at_60) (by decide) ?_
    show Steps p.tables e below (s₁.setTop (mkF m 62 #[.val (.int p1), .val (.int (14 : Int32)), .val (.long (100000000000000 : Int64)), .second] [(.int (16 : Int32)), (.int (14 : Int32))])) _
    refine XS.iand X0.here hx rfl (hb hby at_62) rfl ?_
    rw [show ((14 : Int32) &&& (16 : Int32)) = (0 : Int32) from by decide]
    show Steps p.tables e below (s₁.setTop (mkF m 63 #[.val (.int p1), .val (.int (14 : Int32)), .val (.long (100000000000000 : Int64)), .second] [(.int (0 : Int32))])) _
    refine XS.ifYes X0.here hx rfl (pc0 := 63) (pc' := 72) rfl (hb hby at_63) rfl (by decide) (by decide) (by decide) ?_
    show Steps p.tables e below (s₁.setTop (mkF m 72 #[.val (.int p1), .val (.int (14 : Int32)), .val (.long (100000000000000 : Int64)), .second] [])) _
    refine XS.iloadN X0.here hx rfl (hb hby at_72) rfl ?_
    show Steps p.tables e below (s₁.setTop (mkF m 73 #[.val (.int p1), .val (.int (14 : Int32)), .val (.long (100000000000000 : Int64)), .second] [(.int (14 : Int32))])) _
    refine st53 _ ?_
    show Steps p.tables e below (T53.setTop (mkF m 76 #[.val (.int p1), .val (.int (14 : Int32)), .val (.long (100000000000000 : Int64)), .second] [(.long (100000000000000 : Int64))])) _
    refine XT.lloadN X53.here hx rfl (hb hby at_76) rfl ?_
    show Steps p.tables e below (T53.setTop (mkF m 77 #[.val (.int p1), .val (.int (14 : Int32)), .val (.long (100000000000000 : Int64)), .second] [(.long (100000000000000 : Int64)), (.long (100000000000000 : Int64))])) _
    refine XT.lcmp X53.here hx rfl (hb hby at_77) rfl ?_
    show Steps p.tables e below (T53.setTop (mkF m 78 #[.val (.int p1), .val (.int (14 : Int32)), .val (.long (100000000000000 : Int64)), .second] [(.int (XT.cmpL (100000000000000 : Int64) (100000000000000 : Int64)))])) _
    refine XS.ifNo X53.here hx rfl (hb hby at_78) rfl (XT.ll_ne_f (by decide)) ?_
    show Steps p.tables e below (T53.setTop (mkF m 81 #[.val (.int p1), .val (.int (14 : Int32)), .val (.long (100000000000000 : Int64)), .second] [])) _
    refine XT.iconstV X53.here hx rfl (1 : Int32) (hb hby at_81) rfl ?_
    show Steps p.tables e below (T53.setTop (mkF m 82 #[.val (.int p1), .val (.int (14 : Int32)), .val (.long (100000000000000 : Int64)), .second] [(.int (1 : Int32))])) _
    refine XS.goto X53.here hx rfl (pc0 := 82) (pc' := 86) rfl (hb hby at_82) (by decide) (by decide) ?_
    show Steps p.tables e below (T53.setTop (mkF m 86 #[.val (.int p1), .val (.int (14 : Int32)), .val (.long (100000000000000 : Int64)), .second] [(.int (1 : Int32))])) _
    exact retN X53 hx (t := .boolean) Bd.returns (by simp) (hb hby at_86) hr
  · show own_Q0 n0 _ T53.heap _
    exact ⟨rfl, N53⟩
set_option maxRecDepth 65536 in
set_option maxHeartbeats 40000000 in
theorem own_law_15 (l : Launch) (Z : State) (a0 : Array Value) (hw : ∀ d ∈ tables_1, d.before a0 Z = true) (ws : List Jvm.Cond) (p1 : Int32) (w0 : Addr) (cl : Cell) (h0 : Heap) (n0 : Nat) (Z0 : n0 ≤ h0.size) (P : own_P Z h0 w0 cl) (hk : ((p1 &&& (2147483647 : Int32)) % (19 : Int32)) = (15 : Int32)) :
    MetFree l x (head1 (Jvm.Cond.code x code maxLocals ret :: ws) room_1) (fun a U => a = #[(.int p1)] ∧ Z.Warmed39 U.vm ∧ U.heap = h0) (fun _ _ _ _ _ => True) (fun _ U o U' => ∃ v L, o = .returned v ∧ own_Q0 n0 v U'.heap L ∧ FrameEnd U o U' L room_1.cells room_1.slots) := by
  refine MetFree.of_bodySF (plainFor_of_name pn_com_example_tranchor_tranchor_FractionPowerOfTenPinLaw) hisR ?_
  intro p e s m args below meth c s₁ Bd hml0 hP hK
  obtain ⟨rfl, hZ, hh⟩ := hP
  have hx := Bd.exec
  have hby := Bd.bytes
  have hml : c.maxLocals = 4 := hml0
  have hown : s.vm.findClass "com/example/tranchor/tranchor/FractionPowerOfTenPinLaw" = some m.cls := findClass_of_methodNamed Bd.named
  have hnm := (name_of_methodNamed Bd.named Bd.method).1
  have X0 : Stand p l e room_1 s m #[(.int p1)] below meth c s₁ [] 0 0 := Stand.of_body Bd
  have e0 : s₁.heap = h0 := by rw [← hh, Bd.state]; rfl
  have N0 := Fr.nil n0
  have pre0 : ∀ t, Steps p.tables e below (s₁.setTop (mkF m 0 #[.val (.int p1), .unset, .unset, .unset] [])) t → Steps p.tables e below (s₁.setTop (entryFrame m #[(.int p1)] maxLocals)) t := fun t k => castTop (ef_code_I m p1) k
  obtain ⟨_, _, ⟨T54, L54, k54, n54⟩, -, X54, ⟨Lc54, hQ54, l54, y54, z54⟩, st54⟩ := Jvm.LawKit.callS X0 hx (y := (⟨"com/example/tranchor/tranchor/Fraction", "powerOfTen", "(I)J"⟩ : MethodName)) hown (mvT hZ (hw _ (List.mem_of_getElem? (i := 1) rfl))) (mvT hZ (hw _ (List.mem_of_getElem? (i := 2) rfl))) (mvT hZ (hw _ (List.mem_of_getElem? (i := 3) rfl))) (mvT hZ (hw _ (List.mem_of_getElem? (i := 4) rfl))) (by decide) (backOf (W := 0) (own_pow_15 l Z a0 hw [] w0 cl h0 n0 Z0 P) hZ (hw _ (List.mem_of_getElem? (i := 4) rfl)) (hw _ (List.mem_of_getElem? (i := 3) rfl)) (by decide) (by decide)) (g := (mkF m 73 #[.val (.int p1), .val (.int (15 : Int32)), .val (.long (1000000000000000 : Int64)), .second] [(.int (15 : Int32))])) rfl (by rw [hml]; rfl) (argsL := [(.int (15 : Int32))]) (rest := []) (lenOf pd__I_J rfl) rfl (by show 2 * 0 + _ ≤ _; exact Nat.le_of_eq rfl) (hb hby at_73) (fun _ _ => ⟨rfl, e0, (by decide : 0 + 0 ≤ _), (by decide : 0 + 0 ≤ _)⟩)
  dsimp only [Pt.U, Pt.locs, Pt.cells, Pt.slots] at X54 l54 y54 z54 st54 hQ54
  subst l54 y54 z54
  obtain ⟨rfl, N54q, e54⟩ := hQ54
  have N54 := Fr.app N0 N54q
  obtain ⟨fs, hr, hrun, hended, hW, hsame⟩ := X54.leave (v := some (.int (1 : Int32))) (fun h => by rw [Bd.returns] at h; cases h)
  refine ⟨_, _, pre0 _ ?_, hrun, hended, _, _, rfl, ?_, ⟨_, rfl⟩, hW, hsame.mono (by decide) (by decide)⟩
  · show Steps p.tables e below (s₁.setTop (mkF m 0 #[.val (.int p1), .unset, .unset, .unset] [])) _
    refine XS.iloadN X0.here hx rfl (hb hby at_0) rfl ?_
    show Steps p.tables e below (s₁.setTop (mkF m 1 #[.val (.int p1), .unset, .unset, .unset] [(.int p1)])) _
    refine Jvm.Stand.ldcI X0 hx hown (mvT hZ (hw _ (List.mem_of_getElem? (i := 0) rfl))) rfl (hb hby at_1) ?_
    show Steps p.tables e below (s₁.setTop (mkF m 3 #[.val (.int p1), .unset, .unset, .unset] [(.int (2147483647 : Int32)), (.int p1)])) _
    refine XS.iand X0.here hx rfl (hb hby at_3) rfl ?_
    show Steps p.tables e below (s₁.setTop (mkF m 4 #[.val (.int p1), .unset, .unset, .unset] [(.int (p1 &&& (2147483647 : Int32)))])) _
    refine XT.bipushV X0.here hx rfl (19 : Int32) (hb hby at_4) (by decide) ?_
    show Steps p.tables e below (s₁.setTop (mkF m 6 #[.val (.int p1), .unset, .unset, .unset] [(.int (19 : Int32)), (.int (p1 &&& (2147483647 : Int32)))])) _
    refine iremM X0 hx rfl (hb hby at_6) rfl (by decide) ?_
    show Steps p.tables e below (s₁.setTop (mkF m 7 #[.val (.int p1), .unset, .unset, .unset] [(.int ((p1 &&& (2147483647 : Int32)) % (19 : Int32)))])) _
    rw [hk]
    show Steps p.tables e below (s₁.setTop (mkF m 7 #[.val (.int p1), .unset, .unset, .unset] [(.int (15 : Int32))])) _
    refine XS.istoreN X0.here hx rfl (hb hby at_7) rfl (l' := #[.val (.int p1), .val (.int (15 : Int32)), .unset, .unset]) rfl ?_
    show Steps p.tables e below (s₁.setTop (mkF m 8 #[.val (.int p1), .val (.int (15 : Int32)), .unset, .unset] [])) _
    refine XT.lconstV X0.here hx rfl (1 : Int64) (hb hby at_8) rfl ?_
    show Steps p.tables e below (s₁.setTop (mkF m 9 #[.val (.int p1), .val (.int (15 : Int32)), .unset, .unset] [(.long (1 : Int64))])) _
    refine XT.lstoreN X0.here hx rfl (hb hby at_9) rfl (l' := #[.val (.int p1), .val (.int (15 : Int32)), .val (.long (1 : Int64)), .second]) rfl ?_
    show Steps p.tables e below (s₁.setTop (mkF m 10 #[.val (.int p1), .val (.int (15 : Int32)), .val (.long (1 : Int64)), .second] [])) _
    refine XS.iloadN X0.here hx rfl (hb hby at_10) rfl ?_
    show Steps p.tables e below (s₁.setTop (mkF m 11 #[.val (.int p1), .val (.int (15 : Int32)), .val (.long (1 : Int64)), .second] [(.int (15 : Int32))])) _
    refine XT.iconstV X0.here hx rfl (1 : Int32) (hb hby at_11) rfl ?_
    show Steps p.tables e below (s₁.setTop (mkF m 12 #[.val (.int p1), .val (.int (15 : Int32)), .val (.long (1 : Int64)), .second] [(.int (1 : Int32)), (.int (15 : Int32))])) _
    refine XS.iand X0.here hx rfl (hb hby at_12) rfl ?_
    rw [show ((15 : Int32) &&& (1 : Int32)) = (1 : Int32) from by decide]
    show Steps p.tables e below (s₁.setTop (mkF m 13 #[.val (.int p1), .val (.int (15 : Int32)), .val (.long (1 : Int64)), .second] [(.int (1 : Int32))])) _
    refine XS.ifNo X0.here hx rfl (hb hby at_13) rfl (by decide) ?_
    show Steps p.tables e below (s₁.setTop (mkF m 16 #[.val (.int p1), .val (.int (15 : Int32)), .val (.long (1 : Int64)), .second] [])) _
    refine XT.lloadN X0.here hx rfl (hb hby at_16) rfl ?_
    show Steps p.tables e below (s₁.setTop (mkF m 17 #[.val (.int p1), .val (.int (15 : Int32)), .val (.long (1 : Int64)), .second] [(.long (1 : Int64))])) _
    refine Jvm.Stand.ldc2J X0 hx hown (mvT hZ (hw _ (List.mem_of_getElem? (i := 7) rfl))) rfl (hb hby at_17) ?_
    show Steps p.tables e below (s₁.setTop (mkF m 20 #[.val (.int p1), .val (.int (15 : Int32)), .val (.long (1 : Int64)), .second] [(.long (10 : Int64)), (.long (1 : Int64))])) _
    refine XT.lmul X0.here hx rfl (hb hby at_20) rfl ?_
    rw [show ((1 : Int64) * (10 : Int64)) = (10 : Int64) from by decide]
    show Steps p.tables e below (s₁.setTop (mkF m 21 #[.val (.int p1), .val (.int (15 : Int32)), .val (.long (1 : Int64)), .second] [(.long (10 : Int64))])) _
    refine XT.lstoreN X0.here hx rfl (hb hby at_21) rfl (l' := #[.val (.int p1), .val (.int (15 : Int32)), .val (.long (10 : Int64)), .second]) rfl ?_
    show Steps p.tables e below (s₁.setTop (mkF m 22 #[.val (.int p1), .val (.int (15 : Int32)), .val (.long (10 : Int64)), .second] [])) _
    refine XS.iloadN X0.here hx rfl (hb hby at_22) rfl ?_
    show Steps p.tables e below (s₁.setTop (mkF m 23 #[.val (.int p1), .val (.int (15 : Int32)), .val (.long (10 : Int64)), .second] [(.int (15 : Int32))])) _
    refine XT.iconstV X0.here hx rfl (2 : Int32) (hb hby at_23) rfl ?_
    show Steps p.tables e below (s₁.setTop (mkF m 24 #[.val (.int p1), .val (.int (15 : Int32)), .val (.long (10 : Int64)), .second] [(.int (2 : Int32)), (.int (15 : Int32))])) _
    refine XS.iand X0.here hx rfl (hb hby at_24) rfl ?_
    rw [show ((15 : Int32) &&& (2 : Int32)) = (2 : Int32) from by decide]
    show Steps p.tables e below (s₁.setTop (mkF m 25 #[.val (.int p1), .val (.int (15 : Int32)), .val (.long (10 : Int64)), .second] [(.int (2 : Int32))])) _
    refine XS.ifNo X0.here hx rfl (hb hby at_25) rfl (by decide) ?_
    show Steps p.tables e below (s₁.setTop (mkF m 28 #[.val (.int p1), .val (.int (15 : Int32)), .val (.long (10 : Int64)), .second] [])) _
    refine XT.lloadN X0.here hx rfl (hb hby at_28) rfl ?_
    show Steps p.tables e below (s₁.setTop (mkF m 29 #[.val (.int p1), .val (.int (15 : Int32)), .val (.long (10 : Int64)), .second] [(.long (10 : Int64))])) _
    refine Jvm.Stand.ldc2J X0 hx hown (mvT hZ (hw _ (List.mem_of_getElem? (i := 8) rfl))) rfl (hb hby at_29) ?_
    show Steps p.tables e below (s₁.setTop (mkF m 32 #[.val (.int p1), .val (.int (15 : Int32)), .val (.long (10 : Int64)), .second] [(.long (100 : Int64)), (.long (10 : Int64))])) _
    refine XT.lmul X0.here hx rfl (hb hby at_32) rfl ?_
    rw [show ((10 : Int64) * (100 : Int64)) = (1000 : Int64) from by decide]
    show Steps p.tables e below (s₁.setTop (mkF m 33 #[.val (.int p1), .val (.int (15 : Int32)), .val (.long (10 : Int64)), .second] [(.long (1000 : Int64))])) _
    refine XT.lstoreN X0.here hx rfl (hb hby at_33) rfl (l' := #[.val (.int p1), .val (.int (15 : Int32)), .val (.long (1000 : Int64)), .second]) rfl ?_
    show Steps p.tables e below (s₁.setTop (mkF m 34 #[.val (.int p1), .val (.int (15 : Int32)), .val (.long (1000 : Int64)), .second] [])) _
    refine XS.iloadN X0.here hx rfl (hb hby at_34) rfl ?_
    show Steps p.tables e below (s₁.setTop (mkF m 35 #[.val (.int p1), .val (.int (15 : Int32)), .val (.long (1000 : Int64)), .second] [(.int (15 : Int32))])) _
    refine XT.iconstV X0.here hx rfl (4 : Int32) (hb hby at_35) rfl ?_
    show Steps p.tables e below (s₁.setTop (mkF m 36 #[.val (.int p1), .val (.int (15 : Int32)), .val (.long (1000 : Int64)), .second] [(.int (4 : Int32)), (.int (15 : Int32))])) _
    refine XS.iand X0.here hx rfl (hb hby at_36) rfl ?_
    rw [show ((15 : Int32) &&& (4 : Int32)) = (4 : Int32) from by decide]
    show Steps p.tables e below (s₁.setTop (mkF m 37 #[.val (.int p1), .val (.int (15 : Int32)), .val (.long (1000 : Int64)), .second] [(.int (4 : Int32))])) _
    refine XS.ifNo X0.here hx rfl (hb hby at_37) rfl (by decide) ?_
    show Steps p.tables e below (s₁.setTop (mkF m 40 #[.val (.int p1), .val (.int (15 : Int32)), .val (.long (1000 : Int64)), .second] [])) _
    refine XT.lloadN X0.here hx rfl (hb hby at_40) rfl ?_
    show Steps p.tables e below (s₁.setTop (mkF m 41 #[.val (.int p1), .val (.int (15 : Int32)), .val (.long (1000 : Int64)), .second] [(.long (1000 : Int64))])) _
    refine Jvm.Stand.ldc2J X0 hx hown (mvT hZ (hw _ (List.mem_of_getElem? (i := 9) rfl))) rfl (hb hby at_41) ?_
    show Steps p.tables e below (s₁.setTop (mkF m 44 #[.val (.int p1), .val (.int (15 : Int32)), .val (.long (1000 : Int64)), .second] [(.long (10000 : Int64)), (.long (1000 : Int64))])) _
    refine XT.lmul X0.here hx rfl (hb hby at_44) rfl ?_
    rw [show ((1000 : Int64) * (10000 : Int64)) = (10000000 : Int64) from by decide]
    show Steps p.tables e below (s₁.setTop (mkF m 45 #[.val (.int p1), .val (.int (15 : Int32)), .val (.long (1000 : Int64)), .second] [(.long (10000000 : Int64))])) _
    refine XT.lstoreN X0.here hx rfl (hb hby at_45) rfl (l' := #[.val (.int p1), .val (.int (15 : Int32)), .val (.long (10000000 : Int64)), .second]) rfl ?_
    show Steps p.tables e below (s₁.setTop (mkF m 46 #[.val (.int p1), .val (.int (15 : Int32)), .val (.long (10000000 : Int64)), .second] [])) _
    refine XS.iloadN X0.here hx rfl (hb hby at_46) rfl ?_
    show Steps p.tables e below (s₁.setTop (mkF m 47 #[.val (.int p1), .val (.int (15 : Int32)), .val (.long (10000000 : Int64)), .second] [(.int (15 : Int32))])) _
    refine XT.bipushV X0.here hx rfl (8 : Int32) (hb hby at_47) (by decide) ?_
    show Steps p.tables e below (s₁.setTop (mkF m 49 #[.val (.int p1), .val (.int (15 : Int32)), .val (.long (10000000 : Int64)), .second] [(.int (8 : Int32)), (.int (15 : Int32))])) _
    refine XS.iand X0.here hx rfl (hb hby at_49) rfl ?_
    rw [show ((15 : Int32) &&& (8 : Int32)) = (8 : Int32) from by decide]
    show Steps p.tables e below (s₁.setTop (mkF m 50 #[.val (.int p1), .val (.int (15 : Int32)), .val (.long (10000000 : Int64)), .second] [(.int (8 : Int32))])) _
    refine XS.ifNo X0.here hx rfl (hb hby at_50) rfl (by decide) ?_
    show Steps p.tables e below (s₁.setTop (mkF m 53 #[.val (.int p1), .val (.int (15 : Int32)), .val (.long (10000000 : Int64)), .second] [])) _
    refine XT.lloadN X0.here hx rfl (hb hby at_53) rfl ?_
    show Steps p.tables e below (s₁.setTop (mkF m 54 #[.val (.int p1), .val (.int (15 : Int32)), .val (.long (10000000 : Int64)), .second] [(.long (10000000 : Int64))])) _
    refine Jvm.Stand.ldc2J X0 hx hown (mvT hZ (hw _ (List.mem_of_getElem? (i := 10) rfl))) rfl (hb hby at_54) ?_
    show Steps p.tables e below (s₁.setTop (mkF m 57 #[.val (.int p1), .val (.int (15 : Int32)), .val (.long (10000000 : Int64)), .second] [(.long (100000000 : Int64)), (.long (10000000 : Int64))])) _
    refine XT.lmul X0.here hx rfl (hb hby at_57) rfl ?_
    rw [show ((10000000 : Int64) * (100000000 : Int64)) = (1000000000000000 : Int64) from by decide]
    show Steps p.tables e below (s₁.setTop (mkF m 58 #[.val (.int p1), .val (.int (15 : Int32)), .val (.long (10000000 : Int64)), .second] [(.long (1000000000000000 : Int64))])) _
    refine XT.lstoreN X0.here hx rfl (hb hby at_58) rfl (l' := #[.val (.int p1), .val (.int (15 : Int32)), .val (.long (1000000000000000 : Int64)), .second]) rfl ?_
    show Steps p.tables e below (s₁.setTop (mkF m 59 #[.val (.int p1), .val (.int (15 : Int32)), .val (.long (1000000000000000 : Int64)), .second] [])) _
    refine XS.iloadN X0.here hx rfl (hb hby at_59) rfl ?_
    show Steps p.tables e below (s₁.setTop (mkF m 60 #[.val (.int p1), .val (.int (15 : Int32)), .val (.long (1000000000000000 : Int64)), .second] [(.int (15 : Int32))])) _
    refine XT.bipushV X0.here hx rfl (16 : Int32) (hb hby at_60) (by decide) ?_
    show Steps p.tables e below (s₁.setTop (mkF m 62 #[.val (.int p1), .val (.int (15 : Int32)), .val (.long (1000000000000000 : Int64)), .second] [(.int (16 : Int32)), (.int (15 : Int32))])) _
    refine XS.iand X0.here hx rfl (hb hby at_62) rfl ?_
    rw [show ((15 : Int32) &&& (16 : Int32)) = (0 : Int32) from by decide]
    show Steps p.tables e below (s₁.setTop (mkF m 63 #[.val (.int p1), .val (.int (15 : Int32)), .val (.long (1000000000000000 : Int64)), .second] [(.int (0 : Int32))])) _
    refine XS.ifYes X0.here hx rfl (pc0 := 63) (pc' := 72) rfl (hb hby at_63) rfl (by decide) (by decide) (by decide) ?_
    show Steps p.tables e below (s₁.setTop (mkF m 72 #[.val (.int p1), .val (.int (15 : Int32)), .val (.long (1000000000000000 : Int64)), .second] [])) _
    refine XS.iloadN X0.here hx rfl (hb hby at_72) rfl ?_
    show Steps p.tables e below (s₁.setTop (mkF m 73 #[.val (.int p1), .val (.int (15 : Int32)), .val (.long (1000000000000000 : Int64)), .second] [(.int (15 : Int32))])) _
    refine st54 _ ?_
    show Steps p.tables e below (T54.setTop (mkF m 76 #[.val (.int p1), .val (.int (15 : Int32)), .val (.long (1000000000000000 : Int64)), .second] [(.long (1000000000000000 : Int64))])) _
    refine XT.lloadN X54.here hx rfl (hb hby at_76) rfl ?_
    show Steps p.tables e below (T54.setTop (mkF m 77 #[.val (.int p1), .val (.int (15 : Int32)), .val (.long (1000000000000000 : Int64)), .second] [(.long (1000000000000000 : Int64)), (.long (1000000000000000 : Int64))])) _
    refine XT.lcmp X54.here hx rfl (hb hby at_77) rfl ?_
    show Steps p.tables e below (T54.setTop (mkF m 78 #[.val (.int p1), .val (.int (15 : Int32)), .val (.long (1000000000000000 : Int64)), .second] [(.int (XT.cmpL (1000000000000000 : Int64) (1000000000000000 : Int64)))])) _
    refine XS.ifNo X54.here hx rfl (hb hby at_78) rfl (XT.ll_ne_f (by decide)) ?_
    show Steps p.tables e below (T54.setTop (mkF m 81 #[.val (.int p1), .val (.int (15 : Int32)), .val (.long (1000000000000000 : Int64)), .second] [])) _
    refine XT.iconstV X54.here hx rfl (1 : Int32) (hb hby at_81) rfl ?_
    show Steps p.tables e below (T54.setTop (mkF m 82 #[.val (.int p1), .val (.int (15 : Int32)), .val (.long (1000000000000000 : Int64)), .second] [(.int (1 : Int32))])) _
    refine XS.goto X54.here hx rfl (pc0 := 82) (pc' := 86) rfl (hb hby at_82) (by decide) (by decide) ?_
    show Steps p.tables e below (T54.setTop (mkF m 86 #[.val (.int p1), .val (.int (15 : Int32)), .val (.long (1000000000000000 : Int64)), .second] [(.int (1 : Int32))])) _
    exact retN X54 hx (t := .boolean) Bd.returns (by simp) (hb hby at_86) hr
  · show own_Q0 n0 _ T54.heap _
    exact ⟨rfl, N54⟩
set_option maxRecDepth 65536 in
set_option maxHeartbeats 40000000 in
theorem own_law_16 (l : Launch) (Z : State) (a0 : Array Value) (hw : ∀ d ∈ tables_1, d.before a0 Z = true) (ws : List Jvm.Cond) (p1 : Int32) (w0 : Addr) (cl : Cell) (h0 : Heap) (n0 : Nat) (Z0 : n0 ≤ h0.size) (P : own_P Z h0 w0 cl) (hk : ((p1 &&& (2147483647 : Int32)) % (19 : Int32)) = (16 : Int32)) :
    MetFree l x (head1 (Jvm.Cond.code x code maxLocals ret :: ws) room_1) (fun a U => a = #[(.int p1)] ∧ Z.Warmed39 U.vm ∧ U.heap = h0) (fun _ _ _ _ _ => True) (fun _ U o U' => ∃ v L, o = .returned v ∧ own_Q0 n0 v U'.heap L ∧ FrameEnd U o U' L room_1.cells room_1.slots) := by
  refine MetFree.of_bodySF (plainFor_of_name pn_com_example_tranchor_tranchor_FractionPowerOfTenPinLaw) hisR ?_
  intro p e s m args below meth c s₁ Bd hml0 hP hK
  obtain ⟨rfl, hZ, hh⟩ := hP
  have hx := Bd.exec
  have hby := Bd.bytes
  have hml : c.maxLocals = 4 := hml0
  have hown : s.vm.findClass "com/example/tranchor/tranchor/FractionPowerOfTenPinLaw" = some m.cls := findClass_of_methodNamed Bd.named
  have hnm := (name_of_methodNamed Bd.named Bd.method).1
  have X0 : Stand p l e room_1 s m #[(.int p1)] below meth c s₁ [] 0 0 := Stand.of_body Bd
  have e0 : s₁.heap = h0 := by rw [← hh, Bd.state]; rfl
  have N0 := Fr.nil n0
  have pre0 : ∀ t, Steps p.tables e below (s₁.setTop (mkF m 0 #[.val (.int p1), .unset, .unset, .unset] [])) t → Steps p.tables e below (s₁.setTop (entryFrame m #[(.int p1)] maxLocals)) t := fun t k => castTop (ef_code_I m p1) k
  obtain ⟨_, _, ⟨T55, L55, k55, n55⟩, -, X55, ⟨Lc55, hQ55, l55, y55, z55⟩, st55⟩ := Jvm.LawKit.callS X0 hx (y := (⟨"com/example/tranchor/tranchor/Fraction", "powerOfTen", "(I)J"⟩ : MethodName)) hown (mvT hZ (hw _ (List.mem_of_getElem? (i := 1) rfl))) (mvT hZ (hw _ (List.mem_of_getElem? (i := 2) rfl))) (mvT hZ (hw _ (List.mem_of_getElem? (i := 3) rfl))) (mvT hZ (hw _ (List.mem_of_getElem? (i := 4) rfl))) (by decide) (backOf (W := 0) (own_pow_16 l Z a0 hw [] w0 cl h0 n0 Z0 P) hZ (hw _ (List.mem_of_getElem? (i := 4) rfl)) (hw _ (List.mem_of_getElem? (i := 3) rfl)) (by decide) (by decide)) (g := (mkF m 73 #[.val (.int p1), .val (.int (16 : Int32)), .val (.long (10000000000000000 : Int64)), .second] [(.int (16 : Int32))])) rfl (by rw [hml]; rfl) (argsL := [(.int (16 : Int32))]) (rest := []) (lenOf pd__I_J rfl) rfl (by show 2 * 0 + _ ≤ _; exact Nat.le_of_eq rfl) (hb hby at_73) (fun _ _ => ⟨rfl, e0, (by decide : 0 + 0 ≤ _), (by decide : 0 + 0 ≤ _)⟩)
  dsimp only [Pt.U, Pt.locs, Pt.cells, Pt.slots] at X55 l55 y55 z55 st55 hQ55
  subst l55 y55 z55
  obtain ⟨rfl, N55q, e55⟩ := hQ55
  have N55 := Fr.app N0 N55q
  obtain ⟨fs, hr, hrun, hended, hW, hsame⟩ := X55.leave (v := some (.int (1 : Int32))) (fun h => by rw [Bd.returns] at h; cases h)
  refine ⟨_, _, pre0 _ ?_, hrun, hended, _, _, rfl, ?_, ⟨_, rfl⟩, hW, hsame.mono (by decide) (by decide)⟩
  · show Steps p.tables e below (s₁.setTop (mkF m 0 #[.val (.int p1), .unset, .unset, .unset] [])) _
    refine XS.iloadN X0.here hx rfl (hb hby at_0) rfl ?_
    show Steps p.tables e below (s₁.setTop (mkF m 1 #[.val (.int p1), .unset, .unset, .unset] [(.int p1)])) _
    refine Jvm.Stand.ldcI X0 hx hown (mvT hZ (hw _ (List.mem_of_getElem? (i := 0) rfl))) rfl (hb hby at_1) ?_
    show Steps p.tables e below (s₁.setTop (mkF m 3 #[.val (.int p1), .unset, .unset, .unset] [(.int (2147483647 : Int32)), (.int p1)])) _
    refine XS.iand X0.here hx rfl (hb hby at_3) rfl ?_
    show Steps p.tables e below (s₁.setTop (mkF m 4 #[.val (.int p1), .unset, .unset, .unset] [(.int (p1 &&& (2147483647 : Int32)))])) _
    refine XT.bipushV X0.here hx rfl (19 : Int32) (hb hby at_4) (by decide) ?_
    show Steps p.tables e below (s₁.setTop (mkF m 6 #[.val (.int p1), .unset, .unset, .unset] [(.int (19 : Int32)), (.int (p1 &&& (2147483647 : Int32)))])) _
    refine iremM X0 hx rfl (hb hby at_6) rfl (by decide) ?_
    show Steps p.tables e below (s₁.setTop (mkF m 7 #[.val (.int p1), .unset, .unset, .unset] [(.int ((p1 &&& (2147483647 : Int32)) % (19 : Int32)))])) _
    rw [hk]
    show Steps p.tables e below (s₁.setTop (mkF m 7 #[.val (.int p1), .unset, .unset, .unset] [(.int (16 : Int32))])) _
    refine XS.istoreN X0.here hx rfl (hb hby at_7) rfl (l' := #[.val (.int p1), .val (.int (16 : Int32)), .unset, .unset]) rfl ?_
    show Steps p.tables e below (s₁.setTop (mkF m 8 #[.val (.int p1), .val (.int (16 : Int32)), .unset, .unset] [])) _
    refine XT.lconstV X0.here hx rfl (1 : Int64) (hb hby at_8) rfl ?_
    show Steps p.tables e below (s₁.setTop (mkF m 9 #[.val (.int p1), .val (.int (16 : Int32)), .unset, .unset] [(.long (1 : Int64))])) _
    refine XT.lstoreN X0.here hx rfl (hb hby at_9) rfl (l' := #[.val (.int p1), .val (.int (16 : Int32)), .val (.long (1 : Int64)), .second]) rfl ?_
    show Steps p.tables e below (s₁.setTop (mkF m 10 #[.val (.int p1), .val (.int (16 : Int32)), .val (.long (1 : Int64)), .second] [])) _
    refine XS.iloadN X0.here hx rfl (hb hby at_10) rfl ?_
    show Steps p.tables e below (s₁.setTop (mkF m 11 #[.val (.int p1), .val (.int (16 : Int32)), .val (.long (1 : Int64)), .second] [(.int (16 : Int32))])) _
    refine XT.iconstV X0.here hx rfl (1 : Int32) (hb hby at_11) rfl ?_
    show Steps p.tables e below (s₁.setTop (mkF m 12 #[.val (.int p1), .val (.int (16 : Int32)), .val (.long (1 : Int64)), .second] [(.int (1 : Int32)), (.int (16 : Int32))])) _
    refine XS.iand X0.here hx rfl (hb hby at_12) rfl ?_
    rw [show ((16 : Int32) &&& (1 : Int32)) = (0 : Int32) from by decide]
    show Steps p.tables e below (s₁.setTop (mkF m 13 #[.val (.int p1), .val (.int (16 : Int32)), .val (.long (1 : Int64)), .second] [(.int (0 : Int32))])) _
    refine XS.ifYes X0.here hx rfl (pc0 := 13) (pc' := 22) rfl (hb hby at_13) rfl (by decide) (by decide) (by decide) ?_
    show Steps p.tables e below (s₁.setTop (mkF m 22 #[.val (.int p1), .val (.int (16 : Int32)), .val (.long (1 : Int64)), .second] [])) _
    refine XS.iloadN X0.here hx rfl (hb hby at_22) rfl ?_
    show Steps p.tables e below (s₁.setTop (mkF m 23 #[.val (.int p1), .val (.int (16 : Int32)), .val (.long (1 : Int64)), .second] [(.int (16 : Int32))])) _
    refine XT.iconstV X0.here hx rfl (2 : Int32) (hb hby at_23) rfl ?_
    show Steps p.tables e below (s₁.setTop (mkF m 24 #[.val (.int p1), .val (.int (16 : Int32)), .val (.long (1 : Int64)), .second] [(.int (2 : Int32)), (.int (16 : Int32))])) _
    refine XS.iand X0.here hx rfl (hb hby at_24) rfl ?_
    rw [show ((16 : Int32) &&& (2 : Int32)) = (0 : Int32) from by decide]
    show Steps p.tables e below (s₁.setTop (mkF m 25 #[.val (.int p1), .val (.int (16 : Int32)), .val (.long (1 : Int64)), .second] [(.int (0 : Int32))])) _
    refine XS.ifYes X0.here hx rfl (pc0 := 25) (pc' := 34) rfl (hb hby at_25) rfl (by decide) (by decide) (by decide) ?_
    show Steps p.tables e below (s₁.setTop (mkF m 34 #[.val (.int p1), .val (.int (16 : Int32)), .val (.long (1 : Int64)), .second] [])) _
    refine XS.iloadN X0.here hx rfl (hb hby at_34) rfl ?_
    show Steps p.tables e below (s₁.setTop (mkF m 35 #[.val (.int p1), .val (.int (16 : Int32)), .val (.long (1 : Int64)), .second] [(.int (16 : Int32))])) _
    refine XT.iconstV X0.here hx rfl (4 : Int32) (hb hby at_35) rfl ?_
    show Steps p.tables e below (s₁.setTop (mkF m 36 #[.val (.int p1), .val (.int (16 : Int32)), .val (.long (1 : Int64)), .second] [(.int (4 : Int32)), (.int (16 : Int32))])) _
    refine XS.iand X0.here hx rfl (hb hby at_36) rfl ?_
    rw [show ((16 : Int32) &&& (4 : Int32)) = (0 : Int32) from by decide]
    show Steps p.tables e below (s₁.setTop (mkF m 37 #[.val (.int p1), .val (.int (16 : Int32)), .val (.long (1 : Int64)), .second] [(.int (0 : Int32))])) _
    refine XS.ifYes X0.here hx rfl (pc0 := 37) (pc' := 46) rfl (hb hby at_37) rfl (by decide) (by decide) (by decide) ?_
    show Steps p.tables e below (s₁.setTop (mkF m 46 #[.val (.int p1), .val (.int (16 : Int32)), .val (.long (1 : Int64)), .second] [])) _
    refine XS.iloadN X0.here hx rfl (hb hby at_46) rfl ?_
    show Steps p.tables e below (s₁.setTop (mkF m 47 #[.val (.int p1), .val (.int (16 : Int32)), .val (.long (1 : Int64)), .second] [(.int (16 : Int32))])) _
    refine XT.bipushV X0.here hx rfl (8 : Int32) (hb hby at_47) (by decide) ?_
    show Steps p.tables e below (s₁.setTop (mkF m 49 #[.val (.int p1), .val (.int (16 : Int32)), .val (.long (1 : Int64)), .second] [(.int (8 : Int32)), (.int (16 : Int32))])) _
    refine XS.iand X0.here hx rfl (hb hby at_49) rfl ?_
    rw [show ((16 : Int32) &&& (8 : Int32)) = (0 : Int32) from by decide]
    show Steps p.tables e below (s₁.setTop (mkF m 50 #[.val (.int p1), .val (.int (16 : Int32)), .val (.long (1 : Int64)), .second] [(.int (0 : Int32))])) _
    refine XS.ifYes X0.here hx rfl (pc0 := 50) (pc' := 59) rfl (hb hby at_50) rfl (by decide) (by decide) (by decide) ?_
    show Steps p.tables e below (s₁.setTop (mkF m 59 #[.val (.int p1), .val (.int (16 : Int32)), .val (.long (1 : Int64)), .second] [])) _
    refine XS.iloadN X0.here hx rfl (hb hby at_59) rfl ?_
    show Steps p.tables e below (s₁.setTop (mkF m 60 #[.val (.int p1), .val (.int (16 : Int32)), .val (.long (1 : Int64)), .second] [(.int (16 : Int32))])) _
    refine XT.bipushV X0.here hx rfl (16 : Int32) (hb hby at_60) (by decide) ?_
    show Steps p.tables e below (s₁.setTop (mkF m 62 #[.val (.int p1), .val (.int (16 : Int32)), .val (.long (1 : Int64)), .second] [(.int (16 : Int32)), (.int (16 : Int32))])) _
    refine XS.iand X0.here hx rfl (hb hby at_62) rfl ?_
    rw [show ((16 : Int32) &&& (16 : Int32)) = (16 : Int32) from by decide]
    show Steps p.tables e below (s₁.setTop (mkF m 63 #[.val (.int p1), .val (.int (16 : Int32)), .val (.long (1 : Int64)), .second] [(.int (16 : Int32))])) _
    refine XS.ifNo X0.here hx rfl (hb hby at_63) rfl (by decide) ?_
    show Steps p.tables e below (s₁.setTop (mkF m 66 #[.val (.int p1), .val (.int (16 : Int32)), .val (.long (1 : Int64)), .second] [])) _
    refine XT.lloadN X0.here hx rfl (hb hby at_66) rfl ?_
    show Steps p.tables e below (s₁.setTop (mkF m 67 #[.val (.int p1), .val (.int (16 : Int32)), .val (.long (1 : Int64)), .second] [(.long (1 : Int64))])) _
    refine Jvm.Stand.ldc2J X0 hx hown (mvT hZ (hw _ (List.mem_of_getElem? (i := 11) rfl))) rfl (hb hby at_67) ?_
    show Steps p.tables e below (s₁.setTop (mkF m 70 #[.val (.int p1), .val (.int (16 : Int32)), .val (.long (1 : Int64)), .second] [(.long (10000000000000000 : Int64)), (.long (1 : Int64))])) _
    refine XT.lmul X0.here hx rfl (hb hby at_70) rfl ?_
    rw [show ((1 : Int64) * (10000000000000000 : Int64)) = (10000000000000000 : Int64) from by decide]
    show Steps p.tables e below (s₁.setTop (mkF m 71 #[.val (.int p1), .val (.int (16 : Int32)), .val (.long (1 : Int64)), .second] [(.long (10000000000000000 : Int64))])) _
    refine XT.lstoreN X0.here hx rfl (hb hby at_71) rfl (l' := #[.val (.int p1), .val (.int (16 : Int32)), .val (.long (10000000000000000 : Int64)), .second]) rfl ?_
    show Steps p.tables e below (s₁.setTop (mkF m 72 #[.val (.int p1), .val (.int (16 : Int32)), .val (.long (10000000000000000 : Int64)), .second] [])) _
    refine XS.iloadN X0.here hx rfl (hb hby at_72) rfl ?_
    show Steps p.tables e below (s₁.setTop (mkF m 73 #[.val (.int p1), .val (.int (16 : Int32)), .val (.long (10000000000000000 : Int64)), .second] [(.int (16 : Int32))])) _
    refine st55 _ ?_
    show Steps p.tables e below (T55.setTop (mkF m 76 #[.val (.int p1), .val (.int (16 : Int32)), .val (.long (10000000000000000 : Int64)), .second] [(.long (10000000000000000 : Int64))])) _
    refine XT.lloadN X55.here hx rfl (hb hby at_76) rfl ?_
    show Steps p.tables e below (T55.setTop (mkF m 77 #[.val (.int p1), .val (.int (16 : Int32)), .val (.long (10000000000000000 : Int64)), .second] [(.long (10000000000000000 : Int64)), (.long (10000000000000000 : Int64))])) _
    refine XT.lcmp X55.here hx rfl (hb hby at_77) rfl ?_
    show Steps p.tables e below (T55.setTop (mkF m 78 #[.val (.int p1), .val (.int (16 : Int32)), .val (.long (10000000000000000 : Int64)), .second] [(.int (XT.cmpL (10000000000000000 : Int64) (10000000000000000 : Int64)))])) _
    refine XS.ifNo X55.here hx rfl (hb hby at_78) rfl (XT.ll_ne_f (by decide)) ?_
    show Steps p.tables e below (T55.setTop (mkF m 81 #[.val (.int p1), .val (.int (16 : Int32)), .val (.long (10000000000000000 : Int64)), .second] [])) _
    refine XT.iconstV X55.here hx rfl (1 : Int32) (hb hby at_81) rfl ?_
    show Steps p.tables e below (T55.setTop (mkF m 82 #[.val (.int p1), .val (.int (16 : Int32)), .val (.long (10000000000000000 : Int64)), .second] [(.int (1 : Int32))])) _
    refine XS.goto X55.here hx rfl (pc0 := 82) (pc' := 86) rfl (hb hby at_82) (by decide) (by decide) ?_
    show Steps p.tables e below (T55.setTop (mkF m 86 #[.val (.int p1), .val (.int (16 : Int32)), .val (.long (10000000000000000 : Int64)), .second] [(.int (1 : Int32))])) _
    exact retN X55 hx (t := .boolean) Bd.returns (by simp) (hb hby at_86) hr
  · show own_Q0 n0 _ T55.heap _
    exact ⟨rfl, N55⟩
set_option maxRecDepth 65536 in
set_option maxHeartbeats 40000000 in
theorem own_law_17 (l : Launch) (Z : State) (a0 : Array Value) (hw : ∀ d ∈ tables_1, d.before a0 Z = true) (ws : List Jvm.Cond) (p1 : Int32) (w0 : Addr) (cl : Cell) (h0 : Heap) (n0 : Nat) (Z0 : n0 ≤ h0.size) (P : own_P Z h0 w0 cl) (hk : ((p1 &&& (2147483647 : Int32)) % (19 : Int32)) = (17 : Int32)) :
    MetFree l x (head1 (Jvm.Cond.code x code maxLocals ret :: ws) room_1) (fun a U => a = #[(.int p1)] ∧ Z.Warmed39 U.vm ∧ U.heap = h0) (fun _ _ _ _ _ => True) (fun _ U o U' => ∃ v L, o = .returned v ∧ own_Q0 n0 v U'.heap L ∧ FrameEnd U o U' L room_1.cells room_1.slots) := by
  refine MetFree.of_bodySF (plainFor_of_name pn_com_example_tranchor_tranchor_FractionPowerOfTenPinLaw) hisR ?_
  intro p e s m args below meth c s₁ Bd hml0 hP hK
  obtain ⟨rfl, hZ, hh⟩ := hP
  have hx := Bd.exec
  have hby := Bd.bytes
  have hml : c.maxLocals = 4 := hml0
  have hown : s.vm.findClass "com/example/tranchor/tranchor/FractionPowerOfTenPinLaw" = some m.cls := findClass_of_methodNamed Bd.named
  have hnm := (name_of_methodNamed Bd.named Bd.method).1
  have X0 : Stand p l e room_1 s m #[(.int p1)] below meth c s₁ [] 0 0 := Stand.of_body Bd
  have e0 : s₁.heap = h0 := by rw [← hh, Bd.state]; rfl
  have N0 := Fr.nil n0
  have pre0 : ∀ t, Steps p.tables e below (s₁.setTop (mkF m 0 #[.val (.int p1), .unset, .unset, .unset] [])) t → Steps p.tables e below (s₁.setTop (entryFrame m #[(.int p1)] maxLocals)) t := fun t k => castTop (ef_code_I m p1) k
  obtain ⟨_, _, ⟨T56, L56, k56, n56⟩, -, X56, ⟨Lc56, hQ56, l56, y56, z56⟩, st56⟩ := Jvm.LawKit.callS X0 hx (y := (⟨"com/example/tranchor/tranchor/Fraction", "powerOfTen", "(I)J"⟩ : MethodName)) hown (mvT hZ (hw _ (List.mem_of_getElem? (i := 1) rfl))) (mvT hZ (hw _ (List.mem_of_getElem? (i := 2) rfl))) (mvT hZ (hw _ (List.mem_of_getElem? (i := 3) rfl))) (mvT hZ (hw _ (List.mem_of_getElem? (i := 4) rfl))) (by decide) (backOf (W := 0) (own_pow_17 l Z a0 hw [] w0 cl h0 n0 Z0 P) hZ (hw _ (List.mem_of_getElem? (i := 4) rfl)) (hw _ (List.mem_of_getElem? (i := 3) rfl)) (by decide) (by decide)) (g := (mkF m 73 #[.val (.int p1), .val (.int (17 : Int32)), .val (.long (100000000000000000 : Int64)), .second] [(.int (17 : Int32))])) rfl (by rw [hml]; rfl) (argsL := [(.int (17 : Int32))]) (rest := []) (lenOf pd__I_J rfl) rfl (by show 2 * 0 + _ ≤ _; exact Nat.le_of_eq rfl) (hb hby at_73) (fun _ _ => ⟨rfl, e0, (by decide : 0 + 0 ≤ _), (by decide : 0 + 0 ≤ _)⟩)
  dsimp only [Pt.U, Pt.locs, Pt.cells, Pt.slots] at X56 l56 y56 z56 st56 hQ56
  subst l56 y56 z56
  obtain ⟨rfl, N56q, e56⟩ := hQ56
  have N56 := Fr.app N0 N56q
  obtain ⟨fs, hr, hrun, hended, hW, hsame⟩ := X56.leave (v := some (.int (1 : Int32))) (fun h => by rw [Bd.returns] at h; cases h)
  refine ⟨_, _, pre0 _ ?_, hrun, hended, _, _, rfl, ?_, ⟨_, rfl⟩, hW, hsame.mono (by decide) (by decide)⟩
  · show Steps p.tables e below (s₁.setTop (mkF m 0 #[.val (.int p1), .unset, .unset, .unset] [])) _
    refine XS.iloadN X0.here hx rfl (hb hby at_0) rfl ?_
    show Steps p.tables e below (s₁.setTop (mkF m 1 #[.val (.int p1), .unset, .unset, .unset] [(.int p1)])) _
    refine Jvm.Stand.ldcI X0 hx hown (mvT hZ (hw _ (List.mem_of_getElem? (i := 0) rfl))) rfl (hb hby at_1) ?_
    show Steps p.tables e below (s₁.setTop (mkF m 3 #[.val (.int p1), .unset, .unset, .unset] [(.int (2147483647 : Int32)), (.int p1)])) _
    refine XS.iand X0.here hx rfl (hb hby at_3) rfl ?_
    show Steps p.tables e below (s₁.setTop (mkF m 4 #[.val (.int p1), .unset, .unset, .unset] [(.int (p1 &&& (2147483647 : Int32)))])) _
    refine XT.bipushV X0.here hx rfl (19 : Int32) (hb hby at_4) (by decide) ?_
    show Steps p.tables e below (s₁.setTop (mkF m 6 #[.val (.int p1), .unset, .unset, .unset] [(.int (19 : Int32)), (.int (p1 &&& (2147483647 : Int32)))])) _
    refine iremM X0 hx rfl (hb hby at_6) rfl (by decide) ?_
    show Steps p.tables e below (s₁.setTop (mkF m 7 #[.val (.int p1), .unset, .unset, .unset] [(.int ((p1 &&& (2147483647 : Int32)) % (19 : Int32)))])) _
    rw [hk]
    show Steps p.tables e below (s₁.setTop (mkF m 7 #[.val (.int p1), .unset, .unset, .unset] [(.int (17 : Int32))])) _
    refine XS.istoreN X0.here hx rfl (hb hby at_7) rfl (l' := #[.val (.int p1), .val (.int (17 : Int32)), .unset, .unset]) rfl ?_
    show Steps p.tables e below (s₁.setTop (mkF m 8 #[.val (.int p1), .val (.int (17 : Int32)), .unset, .unset] [])) _
    refine XT.lconstV X0.here hx rfl (1 : Int64) (hb hby at_8) rfl ?_
    show Steps p.tables e below (s₁.setTop (mkF m 9 #[.val (.int p1), .val (.int (17 : Int32)), .unset, .unset] [(.long (1 : Int64))])) _
    refine XT.lstoreN X0.here hx rfl (hb hby at_9) rfl (l' := #[.val (.int p1), .val (.int (17 : Int32)), .val (.long (1 : Int64)), .second]) rfl ?_
    show Steps p.tables e below (s₁.setTop (mkF m 10 #[.val (.int p1), .val (.int (17 : Int32)), .val (.long (1 : Int64)), .second] [])) _
    refine XS.iloadN X0.here hx rfl (hb hby at_10) rfl ?_
    show Steps p.tables e below (s₁.setTop (mkF m 11 #[.val (.int p1), .val (.int (17 : Int32)), .val (.long (1 : Int64)), .second] [(.int (17 : Int32))])) _
    refine XT.iconstV X0.here hx rfl (1 : Int32) (hb hby at_11) rfl ?_
    show Steps p.tables e below (s₁.setTop (mkF m 12 #[.val (.int p1), .val (.int (17 : Int32)), .val (.long (1 : Int64)), .second] [(.int (1 : Int32)), (.int (17 : Int32))])) _
    refine XS.iand X0.here hx rfl (hb hby at_12) rfl ?_
    rw [show ((17 : Int32) &&& (1 : Int32)) = (1 : Int32) from by decide]
    show Steps p.tables e below (s₁.setTop (mkF m 13 #[.val (.int p1), .val (.int (17 : Int32)), .val (.long (1 : Int64)), .second] [(.int (1 : Int32))])) _
    refine XS.ifNo X0.here hx rfl (hb hby at_13) rfl (by decide) ?_
    show Steps p.tables e below (s₁.setTop (mkF m 16 #[.val (.int p1), .val (.int (17 : Int32)), .val (.long (1 : Int64)), .second] [])) _
    refine XT.lloadN X0.here hx rfl (hb hby at_16) rfl ?_
    show Steps p.tables e below (s₁.setTop (mkF m 17 #[.val (.int p1), .val (.int (17 : Int32)), .val (.long (1 : Int64)), .second] [(.long (1 : Int64))])) _
    refine Jvm.Stand.ldc2J X0 hx hown (mvT hZ (hw _ (List.mem_of_getElem? (i := 7) rfl))) rfl (hb hby at_17) ?_
    show Steps p.tables e below (s₁.setTop (mkF m 20 #[.val (.int p1), .val (.int (17 : Int32)), .val (.long (1 : Int64)), .second] [(.long (10 : Int64)), (.long (1 : Int64))])) _
    refine XT.lmul X0.here hx rfl (hb hby at_20) rfl ?_
    rw [show ((1 : Int64) * (10 : Int64)) = (10 : Int64) from by decide]
    show Steps p.tables e below (s₁.setTop (mkF m 21 #[.val (.int p1), .val (.int (17 : Int32)), .val (.long (1 : Int64)), .second] [(.long (10 : Int64))])) _
    refine XT.lstoreN X0.here hx rfl (hb hby at_21) rfl (l' := #[.val (.int p1), .val (.int (17 : Int32)), .val (.long (10 : Int64)), .second]) rfl ?_
    show Steps p.tables e below (s₁.setTop (mkF m 22 #[.val (.int p1), .val (.int (17 : Int32)), .val (.long (10 : Int64)), .second] [])) _
    refine XS.iloadN X0.here hx rfl (hb hby at_22) rfl ?_
    show Steps p.tables e below (s₁.setTop (mkF m 23 #[.val (.int p1), .val (.int (17 : Int32)), .val (.long (10 : Int64)), .second] [(.int (17 : Int32))])) _
    refine XT.iconstV X0.here hx rfl (2 : Int32) (hb hby at_23) rfl ?_
    show Steps p.tables e below (s₁.setTop (mkF m 24 #[.val (.int p1), .val (.int (17 : Int32)), .val (.long (10 : Int64)), .second] [(.int (2 : Int32)), (.int (17 : Int32))])) _
    refine XS.iand X0.here hx rfl (hb hby at_24) rfl ?_
    rw [show ((17 : Int32) &&& (2 : Int32)) = (0 : Int32) from by decide]
    show Steps p.tables e below (s₁.setTop (mkF m 25 #[.val (.int p1), .val (.int (17 : Int32)), .val (.long (10 : Int64)), .second] [(.int (0 : Int32))])) _
    refine XS.ifYes X0.here hx rfl (pc0 := 25) (pc' := 34) rfl (hb hby at_25) rfl (by decide) (by decide) (by decide) ?_
    show Steps p.tables e below (s₁.setTop (mkF m 34 #[.val (.int p1), .val (.int (17 : Int32)), .val (.long (10 : Int64)), .second] [])) _
    refine XS.iloadN X0.here hx rfl (hb hby at_34) rfl ?_
    show Steps p.tables e below (s₁.setTop (mkF m 35 #[.val (.int p1), .val (.int (17 : Int32)), .val (.long (10 : Int64)), .second] [(.int (17 : Int32))])) _
    refine XT.iconstV X0.here hx rfl (4 : Int32) (hb hby at_35) rfl ?_
    show Steps p.tables e below (s₁.setTop (mkF m 36 #[.val (.int p1), .val (.int (17 : Int32)), .val (.long (10 : Int64)), .second] [(.int (4 : Int32)), (.int (17 : Int32))])) _
    refine XS.iand X0.here hx rfl (hb hby at_36) rfl ?_
    rw [show ((17 : Int32) &&& (4 : Int32)) = (0 : Int32) from by decide]
    show Steps p.tables e below (s₁.setTop (mkF m 37 #[.val (.int p1), .val (.int (17 : Int32)), .val (.long (10 : Int64)), .second] [(.int (0 : Int32))])) _
    refine XS.ifYes X0.here hx rfl (pc0 := 37) (pc' := 46) rfl (hb hby at_37) rfl (by decide) (by decide) (by decide) ?_
    show Steps p.tables e below (s₁.setTop (mkF m 46 #[.val (.int p1), .val (.int (17 : Int32)), .val (.long (10 : Int64)), .second] [])) _
    refine XS.iloadN X0.here hx rfl (hb hby at_46) rfl ?_
    show Steps p.tables e below (s₁.setTop (mkF m 47 #[.val (.int p1), .val (.int (17 : Int32)), .val (.long (10 : Int64)), .second] [(.int (17 : Int32))])) _
    refine XT.bipushV X0.here hx rfl (8 : Int32) (hb hby at_47) (by decide) ?_
    show Steps p.tables e below (s₁.setTop (mkF m 49 #[.val (.int p1), .val (.int (17 : Int32)), .val (.long (10 : Int64)), .second] [(.int (8 : Int32)), (.int (17 : Int32))])) _
    refine XS.iand X0.here hx rfl (hb hby at_49) rfl ?_
    rw [show ((17 : Int32) &&& (8 : Int32)) = (0 : Int32) from by decide]
    show Steps p.tables e below (s₁.setTop (mkF m 50 #[.val (.int p1), .val (.int (17 : Int32)), .val (.long (10 : Int64)), .second] [(.int (0 : Int32))])) _
    refine XS.ifYes X0.here hx rfl (pc0 := 50) (pc' := 59) rfl (hb hby at_50) rfl (by decide) (by decide) (by decide) ?_
    show Steps p.tables e below (s₁.setTop (mkF m 59 #[.val (.int p1), .val (.int (17 : Int32)), .val (.long (10 : Int64)), .second] [])) _
    refine XS.iloadN X0.here hx rfl (hb hby at_59) rfl ?_
    show Steps p.tables e below (s₁.setTop (mkF m 60 #[.val (.int p1), .val (.int (17 : Int32)), .val (.long (10 : Int64)), .second] [(.int (17 : Int32))])) _
    refine XT.bipushV X0.here hx rfl (16 : Int32) (hb hby at_60) (by decide) ?_
    show Steps p.tables e below (s₁.setTop (mkF m 62 #[.val (.int p1), .val (.int (17 : Int32)), .val (.long (10 : Int64)), .second] [(.int (16 : Int32)), (.int (17 : Int32))])) _
    refine XS.iand X0.here hx rfl (hb hby at_62) rfl ?_
    rw [show ((17 : Int32) &&& (16 : Int32)) = (16 : Int32) from by decide]
    show Steps p.tables e below (s₁.setTop (mkF m 63 #[.val (.int p1), .val (.int (17 : Int32)), .val (.long (10 : Int64)), .second] [(.int (16 : Int32))])) _
    refine XS.ifNo X0.here hx rfl (hb hby at_63) rfl (by decide) ?_
    show Steps p.tables e below (s₁.setTop (mkF m 66 #[.val (.int p1), .val (.int (17 : Int32)), .val (.long (10 : Int64)), .second] [])) _
    refine XT.lloadN X0.here hx rfl (hb hby at_66) rfl ?_
    show Steps p.tables e below (s₁.setTop (mkF m 67 #[.val (.int p1), .val (.int (17 : Int32)), .val (.long (10 : Int64)), .second] [(.long (10 : Int64))])) _
    refine Jvm.Stand.ldc2J X0 hx hown (mvT hZ (hw _ (List.mem_of_getElem? (i := 11) rfl))) rfl (hb hby at_67) ?_
    show Steps p.tables e below (s₁.setTop (mkF m 70 #[.val (.int p1), .val (.int (17 : Int32)), .val (.long (10 : Int64)), .second] [(.long (10000000000000000 : Int64)), (.long (10 : Int64))])) _
    refine XT.lmul X0.here hx rfl (hb hby at_70) rfl ?_
    rw [show ((10 : Int64) * (10000000000000000 : Int64)) = (100000000000000000 : Int64) from by decide]
    show Steps p.tables e below (s₁.setTop (mkF m 71 #[.val (.int p1), .val (.int (17 : Int32)), .val (.long (10 : Int64)), .second] [(.long (100000000000000000 : Int64))])) _
    refine XT.lstoreN X0.here hx rfl (hb hby at_71) rfl (l' := #[.val (.int p1), .val (.int (17 : Int32)), .val (.long (100000000000000000 : Int64)), .second]) rfl ?_
    show Steps p.tables e below (s₁.setTop (mkF m 72 #[.val (.int p1), .val (.int (17 : Int32)), .val (.long (100000000000000000 : Int64)), .second] [])) _
    refine XS.iloadN X0.here hx rfl (hb hby at_72) rfl ?_
    show Steps p.tables e below (s₁.setTop (mkF m 73 #[.val (.int p1), .val (.int (17 : Int32)), .val (.long (100000000000000000 : Int64)), .second] [(.int (17 : Int32))])) _
    refine st56 _ ?_
    show Steps p.tables e below (T56.setTop (mkF m 76 #[.val (.int p1), .val (.int (17 : Int32)), .val (.long (100000000000000000 : Int64)), .second] [(.long (100000000000000000 : Int64))])) _
    refine XT.lloadN X56.here hx rfl (hb hby at_76) rfl ?_
    show Steps p.tables e below (T56.setTop (mkF m 77 #[.val (.int p1), .val (.int (17 : Int32)), .val (.long (100000000000000000 : Int64)), .second] [(.long (100000000000000000 : Int64)), (.long (100000000000000000 : Int64))])) _
    refine XT.lcmp X56.here hx rfl (hb hby at_77) rfl ?_
    show Steps p.tables e below (T56.setTop (mkF m 78 #[.val (.int p1), .val (.int (17 : Int32)), .val (.long (100000000000000000 : Int64)), .second] [(.int (XT.cmpL (100000000000000000 : Int64) (100000000000000000 : Int64)))])) _
    refine XS.ifNo X56.here hx rfl (hb hby at_78) rfl (XT.ll_ne_f (by decide)) ?_
    show Steps p.tables e below (T56.setTop (mkF m 81 #[.val (.int p1), .val (.int (17 : Int32)), .val (.long (100000000000000000 : Int64)), .second] [])) _
    refine XT.iconstV X56.here hx rfl (1 : Int32) (hb hby at_81) rfl ?_
    show Steps p.tables e below (T56.setTop (mkF m 82 #[.val (.int p1), .val (.int (17 : Int32)), .val (.long (100000000000000000 : Int64)), .second] [(.int (1 : Int32))])) _
    refine XS.goto X56.here hx rfl (pc0 := 82) (pc' := 86) rfl (hb hby at_82) (by decide) (by decide) ?_
    show Steps p.tables e below (T56.setTop (mkF m 86 #[.val (.int p1), .val (.int (17 : Int32)), .val (.long (100000000000000000 : Int64)), .second] [(.int (1 : Int32))])) _
    exact retN X56 hx (t := .boolean) Bd.returns (by simp) (hb hby at_86) hr
  · show own_Q0 n0 _ T56.heap _
    exact ⟨rfl, N56⟩
set_option maxRecDepth 65536 in
set_option maxHeartbeats 40000000 in
theorem own_law_18 (l : Launch) (Z : State) (a0 : Array Value) (hw : ∀ d ∈ tables_1, d.before a0 Z = true) (ws : List Jvm.Cond) (p1 : Int32) (w0 : Addr) (cl : Cell) (h0 : Heap) (n0 : Nat) (Z0 : n0 ≤ h0.size) (P : own_P Z h0 w0 cl) (hk : ((p1 &&& (2147483647 : Int32)) % (19 : Int32)) = (18 : Int32)) :
    MetFree l x (head1 (Jvm.Cond.code x code maxLocals ret :: ws) room_1) (fun a U => a = #[(.int p1)] ∧ Z.Warmed39 U.vm ∧ U.heap = h0) (fun _ _ _ _ _ => True) (fun _ U o U' => ∃ v L, o = .returned v ∧ own_Q0 n0 v U'.heap L ∧ FrameEnd U o U' L room_1.cells room_1.slots) := by
  refine MetFree.of_bodySF (plainFor_of_name pn_com_example_tranchor_tranchor_FractionPowerOfTenPinLaw) hisR ?_
  intro p e s m args below meth c s₁ Bd hml0 hP hK
  obtain ⟨rfl, hZ, hh⟩ := hP
  have hx := Bd.exec
  have hby := Bd.bytes
  have hml : c.maxLocals = 4 := hml0
  have hown : s.vm.findClass "com/example/tranchor/tranchor/FractionPowerOfTenPinLaw" = some m.cls := findClass_of_methodNamed Bd.named
  have hnm := (name_of_methodNamed Bd.named Bd.method).1
  have X0 : Stand p l e room_1 s m #[(.int p1)] below meth c s₁ [] 0 0 := Stand.of_body Bd
  have e0 : s₁.heap = h0 := by rw [← hh, Bd.state]; rfl
  have N0 := Fr.nil n0
  have pre0 : ∀ t, Steps p.tables e below (s₁.setTop (mkF m 0 #[.val (.int p1), .unset, .unset, .unset] [])) t → Steps p.tables e below (s₁.setTop (entryFrame m #[(.int p1)] maxLocals)) t := fun t k => castTop (ef_code_I m p1) k
  obtain ⟨_, _, ⟨T57, L57, k57, n57⟩, -, X57, ⟨Lc57, hQ57, l57, y57, z57⟩, st57⟩ := Jvm.LawKit.callS X0 hx (y := (⟨"com/example/tranchor/tranchor/Fraction", "powerOfTen", "(I)J"⟩ : MethodName)) hown (mvT hZ (hw _ (List.mem_of_getElem? (i := 1) rfl))) (mvT hZ (hw _ (List.mem_of_getElem? (i := 2) rfl))) (mvT hZ (hw _ (List.mem_of_getElem? (i := 3) rfl))) (mvT hZ (hw _ (List.mem_of_getElem? (i := 4) rfl))) (by decide) (backOf (W := 0) (own_pow_18 l Z a0 hw [] w0 cl h0 n0 Z0 P) hZ (hw _ (List.mem_of_getElem? (i := 4) rfl)) (hw _ (List.mem_of_getElem? (i := 3) rfl)) (by decide) (by decide)) (g := (mkF m 73 #[.val (.int p1), .val (.int (18 : Int32)), .val (.long (1000000000000000000 : Int64)), .second] [(.int (18 : Int32))])) rfl (by rw [hml]; rfl) (argsL := [(.int (18 : Int32))]) (rest := []) (lenOf pd__I_J rfl) rfl (by show 2 * 0 + _ ≤ _; exact Nat.le_of_eq rfl) (hb hby at_73) (fun _ _ => ⟨rfl, e0, (by decide : 0 + 0 ≤ _), (by decide : 0 + 0 ≤ _)⟩)
  dsimp only [Pt.U, Pt.locs, Pt.cells, Pt.slots] at X57 l57 y57 z57 st57 hQ57
  subst l57 y57 z57
  obtain ⟨rfl, N57q, e57⟩ := hQ57
  have N57 := Fr.app N0 N57q
  obtain ⟨fs, hr, hrun, hended, hW, hsame⟩ := X57.leave (v := some (.int (1 : Int32))) (fun h => by rw [Bd.returns] at h; cases h)
  refine ⟨_, _, pre0 _ ?_, hrun, hended, _, _, rfl, ?_, ⟨_, rfl⟩, hW, hsame.mono (by decide) (by decide)⟩
  · show Steps p.tables e below (s₁.setTop (mkF m 0 #[.val (.int p1), .unset, .unset, .unset] [])) _
    refine XS.iloadN X0.here hx rfl (hb hby at_0) rfl ?_
    show Steps p.tables e below (s₁.setTop (mkF m 1 #[.val (.int p1), .unset, .unset, .unset] [(.int p1)])) _
    refine Jvm.Stand.ldcI X0 hx hown (mvT hZ (hw _ (List.mem_of_getElem? (i := 0) rfl))) rfl (hb hby at_1) ?_
    show Steps p.tables e below (s₁.setTop (mkF m 3 #[.val (.int p1), .unset, .unset, .unset] [(.int (2147483647 : Int32)), (.int p1)])) _
    refine XS.iand X0.here hx rfl (hb hby at_3) rfl ?_
    show Steps p.tables e below (s₁.setTop (mkF m 4 #[.val (.int p1), .unset, .unset, .unset] [(.int (p1 &&& (2147483647 : Int32)))])) _
    refine XT.bipushV X0.here hx rfl (19 : Int32) (hb hby at_4) (by decide) ?_
    show Steps p.tables e below (s₁.setTop (mkF m 6 #[.val (.int p1), .unset, .unset, .unset] [(.int (19 : Int32)), (.int (p1 &&& (2147483647 : Int32)))])) _
    refine iremM X0 hx rfl (hb hby at_6) rfl (by decide) ?_
    show Steps p.tables e below (s₁.setTop (mkF m 7 #[.val (.int p1), .unset, .unset, .unset] [(.int ((p1 &&& (2147483647 : Int32)) % (19 : Int32)))])) _
    rw [hk]
    show Steps p.tables e below (s₁.setTop (mkF m 7 #[.val (.int p1), .unset, .unset, .unset] [(.int (18 : Int32))])) _
    refine XS.istoreN X0.here hx rfl (hb hby at_7) rfl (l' := #[.val (.int p1), .val (.int (18 : Int32)), .unset, .unset]) rfl ?_
    show Steps p.tables e below (s₁.setTop (mkF m 8 #[.val (.int p1), .val (.int (18 : Int32)), .unset, .unset] [])) _
    refine XT.lconstV X0.here hx rfl (1 : Int64) (hb hby at_8) rfl ?_
    show Steps p.tables e below (s₁.setTop (mkF m 9 #[.val (.int p1), .val (.int (18 : Int32)), .unset, .unset] [(.long (1 : Int64))])) _
    refine XT.lstoreN X0.here hx rfl (hb hby at_9) rfl (l' := #[.val (.int p1), .val (.int (18 : Int32)), .val (.long (1 : Int64)), .second]) rfl ?_
    show Steps p.tables e below (s₁.setTop (mkF m 10 #[.val (.int p1), .val (.int (18 : Int32)), .val (.long (1 : Int64)), .second] [])) _
    refine XS.iloadN X0.here hx rfl (hb hby at_10) rfl ?_
    show Steps p.tables e below (s₁.setTop (mkF m 11 #[.val (.int p1), .val (.int (18 : Int32)), .val (.long (1 : Int64)), .second] [(.int (18 : Int32))])) _
    refine XT.iconstV X0.here hx rfl (1 : Int32) (hb hby at_11) rfl ?_
    show Steps p.tables e below (s₁.setTop (mkF m 12 #[.val (.int p1), .val (.int (18 : Int32)), .val (.long (1 : Int64)), .second] [(.int (1 : Int32)), (.int (18 : Int32))])) _
    refine XS.iand X0.here hx rfl (hb hby at_12) rfl ?_
    rw [show ((18 : Int32) &&& (1 : Int32)) = (0 : Int32) from by decide]
    show Steps p.tables e below (s₁.setTop (mkF m 13 #[.val (.int p1), .val (.int (18 : Int32)), .val (.long (1 : Int64)), .second] [(.int (0 : Int32))])) _
    refine XS.ifYes X0.here hx rfl (pc0 := 13) (pc' := 22) rfl (hb hby at_13) rfl (by decide) (by decide) (by decide) ?_
    show Steps p.tables e below (s₁.setTop (mkF m 22 #[.val (.int p1), .val (.int (18 : Int32)), .val (.long (1 : Int64)), .second] [])) _
    refine XS.iloadN X0.here hx rfl (hb hby at_22) rfl ?_
    show Steps p.tables e below (s₁.setTop (mkF m 23 #[.val (.int p1), .val (.int (18 : Int32)), .val (.long (1 : Int64)), .second] [(.int (18 : Int32))])) _
    refine XT.iconstV X0.here hx rfl (2 : Int32) (hb hby at_23) rfl ?_
    show Steps p.tables e below (s₁.setTop (mkF m 24 #[.val (.int p1), .val (.int (18 : Int32)), .val (.long (1 : Int64)), .second] [(.int (2 : Int32)), (.int (18 : Int32))])) _
    refine XS.iand X0.here hx rfl (hb hby at_24) rfl ?_
    rw [show ((18 : Int32) &&& (2 : Int32)) = (2 : Int32) from by decide]
    show Steps p.tables e below (s₁.setTop (mkF m 25 #[.val (.int p1), .val (.int (18 : Int32)), .val (.long (1 : Int64)), .second] [(.int (2 : Int32))])) _
    refine XS.ifNo X0.here hx rfl (hb hby at_25) rfl (by decide) ?_
    show Steps p.tables e below (s₁.setTop (mkF m 28 #[.val (.int p1), .val (.int (18 : Int32)), .val (.long (1 : Int64)), .second] [])) _
    refine XT.lloadN X0.here hx rfl (hb hby at_28) rfl ?_
    show Steps p.tables e below (s₁.setTop (mkF m 29 #[.val (.int p1), .val (.int (18 : Int32)), .val (.long (1 : Int64)), .second] [(.long (1 : Int64))])) _
    refine Jvm.Stand.ldc2J X0 hx hown (mvT hZ (hw _ (List.mem_of_getElem? (i := 8) rfl))) rfl (hb hby at_29) ?_
    show Steps p.tables e below (s₁.setTop (mkF m 32 #[.val (.int p1), .val (.int (18 : Int32)), .val (.long (1 : Int64)), .second] [(.long (100 : Int64)), (.long (1 : Int64))])) _
    refine XT.lmul X0.here hx rfl (hb hby at_32) rfl ?_
    rw [show ((1 : Int64) * (100 : Int64)) = (100 : Int64) from by decide]
    show Steps p.tables e below (s₁.setTop (mkF m 33 #[.val (.int p1), .val (.int (18 : Int32)), .val (.long (1 : Int64)), .second] [(.long (100 : Int64))])) _
    refine XT.lstoreN X0.here hx rfl (hb hby at_33) rfl (l' := #[.val (.int p1), .val (.int (18 : Int32)), .val (.long (100 : Int64)), .second]) rfl ?_
    show Steps p.tables e below (s₁.setTop (mkF m 34 #[.val (.int p1), .val (.int (18 : Int32)), .val (.long (100 : Int64)), .second] [])) _
    refine XS.iloadN X0.here hx rfl (hb hby at_34) rfl ?_
    show Steps p.tables e below (s₁.setTop (mkF m 35 #[.val (.int p1), .val (.int (18 : Int32)), .val (.long (100 : Int64)), .second] [(.int (18 : Int32))])) _
    refine XT.iconstV X0.here hx rfl (4 : Int32) (hb hby at_35) rfl ?_
    show Steps p.tables e below (s₁.setTop (mkF m 36 #[.val (.int p1), .val (.int (18 : Int32)), .val (.long (100 : Int64)), .second] [(.int (4 : Int32)), (.int (18 : Int32))])) _
    refine XS.iand X0.here hx rfl (hb hby at_36) rfl ?_
    rw [show ((18 : Int32) &&& (4 : Int32)) = (0 : Int32) from by decide]
    show Steps p.tables e below (s₁.setTop (mkF m 37 #[.val (.int p1), .val (.int (18 : Int32)), .val (.long (100 : Int64)), .second] [(.int (0 : Int32))])) _
    refine XS.ifYes X0.here hx rfl (pc0 := 37) (pc' := 46) rfl (hb hby at_37) rfl (by decide) (by decide) (by decide) ?_
    show Steps p.tables e below (s₁.setTop (mkF m 46 #[.val (.int p1), .val (.int (18 : Int32)), .val (.long (100 : Int64)), .second] [])) _
    refine XS.iloadN X0.here hx rfl (hb hby at_46) rfl ?_
    show Steps p.tables e below (s₁.setTop (mkF m 47 #[.val (.int p1), .val (.int (18 : Int32)), .val (.long (100 : Int64)), .second] [(.int (18 : Int32))])) _
    refine XT.bipushV X0.here hx rfl (8 : Int32) (hb hby at_47) (by decide) ?_
    show Steps p.tables e below (s₁.setTop (mkF m 49 #[.val (.int p1), .val (.int (18 : Int32)), .val (.long (100 : Int64)), .second] [(.int (8 : Int32)), (.int (18 : Int32))])) _
    refine XS.iand X0.here hx rfl (hb hby at_49) rfl ?_
    rw [show ((18 : Int32) &&& (8 : Int32)) = (0 : Int32) from by decide]
    show Steps p.tables e below (s₁.setTop (mkF m 50 #[.val (.int p1), .val (.int (18 : Int32)), .val (.long (100 : Int64)), .second] [(.int (0 : Int32))])) _
    refine XS.ifYes X0.here hx rfl (pc0 := 50) (pc' := 59) rfl (hb hby at_50) rfl (by decide) (by decide) (by decide) ?_
    show Steps p.tables e below (s₁.setTop (mkF m 59 #[.val (.int p1), .val (.int (18 : Int32)), .val (.long (100 : Int64)), .second] [])) _
    refine XS.iloadN X0.here hx rfl (hb hby at_59) rfl ?_
    show Steps p.tables e below (s₁.setTop (mkF m 60 #[.val (.int p1), .val (.int (18 : Int32)), .val (.long (100 : Int64)), .second] [(.int (18 : Int32))])) _
    refine XT.bipushV X0.here hx rfl (16 : Int32) (hb hby at_60) (by decide) ?_
    show Steps p.tables e below (s₁.setTop (mkF m 62 #[.val (.int p1), .val (.int (18 : Int32)), .val (.long (100 : Int64)), .second] [(.int (16 : Int32)), (.int (18 : Int32))])) _
    refine XS.iand X0.here hx rfl (hb hby at_62) rfl ?_
    rw [show ((18 : Int32) &&& (16 : Int32)) = (16 : Int32) from by decide]
    show Steps p.tables e below (s₁.setTop (mkF m 63 #[.val (.int p1), .val (.int (18 : Int32)), .val (.long (100 : Int64)), .second] [(.int (16 : Int32))])) _
    refine XS.ifNo X0.here hx rfl (hb hby at_63) rfl (by decide) ?_
    show Steps p.tables e below (s₁.setTop (mkF m 66 #[.val (.int p1), .val (.int (18 : Int32)), .val (.long (100 : Int64)), .second] [])) _
    refine XT.lloadN X0.here hx rfl (hb hby at_66) rfl ?_
    show Steps p.tables e below (s₁.setTop (mkF m 67 #[.val (.int p1), .val (.int (18 : Int32)), .val (.long (100 : Int64)), .second] [(.long (100 : Int64))])) _
    refine Jvm.Stand.ldc2J X0 hx hown (mvT hZ (hw _ (List.mem_of_getElem? (i := 11) rfl))) rfl (hb hby at_67) ?_
    show Steps p.tables e below (s₁.setTop (mkF m 70 #[.val (.int p1), .val (.int (18 : Int32)), .val (.long (100 : Int64)), .second] [(.long (10000000000000000 : Int64)), (.long (100 : Int64))])) _
    refine XT.lmul X0.here hx rfl (hb hby at_70) rfl ?_
    rw [show ((100 : Int64) * (10000000000000000 : Int64)) = (1000000000000000000 : Int64) from by decide]
    show Steps p.tables e below (s₁.setTop (mkF m 71 #[.val (.int p1), .val (.int (18 : Int32)), .val (.long (100 : Int64)), .second] [(.long (1000000000000000000 : Int64))])) _
    refine XT.lstoreN X0.here hx rfl (hb hby at_71) rfl (l' := #[.val (.int p1), .val (.int (18 : Int32)), .val (.long (1000000000000000000 : Int64)), .second]) rfl ?_
    show Steps p.tables e below (s₁.setTop (mkF m 72 #[.val (.int p1), .val (.int (18 : Int32)), .val (.long (1000000000000000000 : Int64)), .second] [])) _
    refine XS.iloadN X0.here hx rfl (hb hby at_72) rfl ?_
    show Steps p.tables e below (s₁.setTop (mkF m 73 #[.val (.int p1), .val (.int (18 : Int32)), .val (.long (1000000000000000000 : Int64)), .second] [(.int (18 : Int32))])) _
    refine st57 _ ?_
    show Steps p.tables e below (T57.setTop (mkF m 76 #[.val (.int p1), .val (.int (18 : Int32)), .val (.long (1000000000000000000 : Int64)), .second] [(.long (1000000000000000000 : Int64))])) _
    refine XT.lloadN X57.here hx rfl (hb hby at_76) rfl ?_
    show Steps p.tables e below (T57.setTop (mkF m 77 #[.val (.int p1), .val (.int (18 : Int32)), .val (.long (1000000000000000000 : Int64)), .second] [(.long (1000000000000000000 : Int64)), (.long (1000000000000000000 : Int64))])) _
    refine XT.lcmp X57.here hx rfl (hb hby at_77) rfl ?_
    show Steps p.tables e below (T57.setTop (mkF m 78 #[.val (.int p1), .val (.int (18 : Int32)), .val (.long (1000000000000000000 : Int64)), .second] [(.int (XT.cmpL (1000000000000000000 : Int64) (1000000000000000000 : Int64)))])) _
    refine XS.ifNo X57.here hx rfl (hb hby at_78) rfl (XT.ll_ne_f (by decide)) ?_
    show Steps p.tables e below (T57.setTop (mkF m 81 #[.val (.int p1), .val (.int (18 : Int32)), .val (.long (1000000000000000000 : Int64)), .second] [])) _
    refine XT.iconstV X57.here hx rfl (1 : Int32) (hb hby at_81) rfl ?_
    show Steps p.tables e below (T57.setTop (mkF m 82 #[.val (.int p1), .val (.int (18 : Int32)), .val (.long (1000000000000000000 : Int64)), .second] [(.int (1 : Int32))])) _
    refine XS.goto X57.here hx rfl (pc0 := 82) (pc' := 86) rfl (hb hby at_82) (by decide) (by decide) ?_
    show Steps p.tables e below (T57.setTop (mkF m 86 #[.val (.int p1), .val (.int (18 : Int32)), .val (.long (1000000000000000000 : Int64)), .second] [(.int (1 : Int32))])) _
    exact retN X57 hx (t := .boolean) Bd.returns (by simp) (hb hby at_86) hr
  · show own_Q0 n0 _ T57.heap _
    exact ⟨rfl, N57⟩
set_option maxRecDepth 65536 in
set_option maxHeartbeats 40000000 in
theorem own_law (l : Launch) (Z : State) (a0 : Array Value) (hw : ∀ d ∈ tables_1, d.before a0 Z = true) (ws : List Jvm.Cond) (p1 : Int32) (w0 : Addr) (cl : Cell) (h0 : Heap) (n0 : Nat) (Z0 : n0 ≤ h0.size) (P : own_P Z h0 w0 cl) :
    MetFree l x (head1 (Jvm.Cond.code x code maxLocals ret :: ws) room_1) (fun a U => a = #[(.int p1)] ∧ Z.Warmed39 U.vm ∧ U.heap = h0) (fun _ _ _ _ _ => True) (fun _ U o U' => ∃ v L, o = .returned v ∧ own_Q0 n0 v U'.heap L ∧ FrameEnd U o U' L room_1.cells room_1.slots) := by
  rcases own_cases p1 with hk | hk | hk | hk | hk | hk | hk | hk | hk | hk | hk | hk | hk | hk | hk | hk | hk | hk | hk
  · exact own_law_0 l Z a0 hw ws p1 w0 cl h0 n0 Z0 P hk
  · exact own_law_1 l Z a0 hw ws p1 w0 cl h0 n0 Z0 P hk
  · exact own_law_2 l Z a0 hw ws p1 w0 cl h0 n0 Z0 P hk
  · exact own_law_3 l Z a0 hw ws p1 w0 cl h0 n0 Z0 P hk
  · exact own_law_4 l Z a0 hw ws p1 w0 cl h0 n0 Z0 P hk
  · exact own_law_5 l Z a0 hw ws p1 w0 cl h0 n0 Z0 P hk
  · exact own_law_6 l Z a0 hw ws p1 w0 cl h0 n0 Z0 P hk
  · exact own_law_7 l Z a0 hw ws p1 w0 cl h0 n0 Z0 P hk
  · exact own_law_8 l Z a0 hw ws p1 w0 cl h0 n0 Z0 P hk
  · exact own_law_9 l Z a0 hw ws p1 w0 cl h0 n0 Z0 P hk
  · exact own_law_10 l Z a0 hw ws p1 w0 cl h0 n0 Z0 P hk
  · exact own_law_11 l Z a0 hw ws p1 w0 cl h0 n0 Z0 P hk
  · exact own_law_12 l Z a0 hw ws p1 w0 cl h0 n0 Z0 P hk
  · exact own_law_13 l Z a0 hw ws p1 w0 cl h0 n0 Z0 P hk
  · exact own_law_14 l Z a0 hw ws p1 w0 cl h0 n0 Z0 P hk
  · exact own_law_15 l Z a0 hw ws p1 w0 cl h0 n0 Z0 P hk
  · exact own_law_16 l Z a0 hw ws p1 w0 cl h0 n0 Z0 P hk
  · exact own_law_17 l Z a0 hw ws p1 w0 cl h0 n0 Z0 P hk
  · exact own_law_18 l Z a0 hw ws p1 w0 cl h0 n0 Z0 P hk
set_option maxRecDepth 65536 in
set_option maxHeartbeats 40000000 in
theorem comes_1 {Post : Tables → Env → Array Value → State → Outcome → State → Prop} (hpost : ∀ tb e args s v u, (limb_1_1.after args s (.returned v) u = true ∧ limb_1_2.after args s (.returned v) u = true ∧ True) → FrameEnd s (.returned v) u (Jvm.fieldLocs frame_1_writes args s ++ Jvm.arrayLocs frame_1_arrays args s ++ Jvm.staticLocs frame_1_statics s) 0 0 → Post tb e args s (.returned v) u) :
    ArmFor flags0 classFile x code maxLocals ret World_1 tables_1 room_1 Calls_1 rest_1 Pre_1 Post := by
  intro l hfl _ _ p e ha hc hk s m args below hf hA hF happ hP
  obtain ⟨hcalls, hrest, hpre⟩ := hP
  obtain ⟨-, -, -, hnamed, -, -, -, hat⟩ := (Spec.applies_iff hf).mp happ
  obtain ⟨hg, hn⟩ := and_e (Cond.before_iff.mp (show (Jvm.Cond.and given_1 narrow_1).before args s = true from hpre))
  obtain ⟨gg, gr⟩ := and_e hg
  obtain ⟨a0, rfl⟩ : ∃ a0 : Value, args = #[a0] := by
    have hs : args.size = 1 := by simpa [Cond.value, given_1] using gg
    obtain ⟨L⟩ := args
    match L, hs with
    | [a0], _ => exact ⟨a0, rfl⟩
  have hw := fun d (hd : d ∈ tables_1) => atoms_spec (ws := Jvm.Cond.code x code maxLocals ret :: tables_1) hat d (List.mem_cons_of_mem _ hd)
  have hfit : Fit s := fun {y c} hc i hi => by
    obtain ⟨ha, rfl⟩ := Array.getElem?_eq_some_iff.mp hc
    have q := List.all_eq_true.mp ((Array.all_eq_true_iff_forall_mem.mp hF) _ (Array.getElem_mem ha)) i (List.mem_range.mpr hi)
    simpa [Array.getElem?_eq_getElem hi] using q
  obtain ⟨i0, ei0⟩ := is_v gr
  obtain rfl : a0 = (.int i0) := Option.some.inj ei0
  obtain ⟨c0, r0⟩ := and_e hn
  obtain ⟨c1, r1⟩ := and_e r0
  obtain ⟨c2, r2⟩ := and_e r1
  obtain ⟨c3, r3⟩ := and_e r2
  obtain ⟨c4, r4⟩ := and_e r3
  obtain ⟨c5, r5⟩ := and_e r4
  obtain ⟨c6, r6⟩ := and_e r5
  obtain ⟨c7, r7⟩ := and_e r6
  obtain ⟨c8, r8⟩ := and_e r7
  obtain ⟨c9, r9⟩ := and_e r8
  obtain ⟨c10, r10⟩ := and_e r9
  obtain ⟨c11, r11⟩ := and_e r10
  obtain ⟨c12, r12⟩ := and_e r11
  obtain ⟨c13, r13⟩ := and_e r12
  obtain ⟨c14, r14⟩ := and_e r13
  obtain ⟨c15, r15⟩ := and_e r14
  obtain ⟨c16, r16⟩ := and_e r15
  obtain ⟨c17, r17⟩ := and_e r16
  obtain ⟨c18, r18⟩ := and_e r17
  obtain ⟨c19, r19⟩ := and_e r18
  obtain ⟨w0, v0⟩ := arr_v c0
  have S0 := Sta.start v0 (Or.inr ⟨(hw _ (List.mem_of_getElem? (i := 3) rfl)), (hw _ (List.mem_of_getElem? (i := 6) rfl))⟩)
  obtain ⟨cl, A0⟩ := Arr.start v0 c0
  have Ln := own_len v0 A0 c1
  have D0 := own_elJ v0 A0.1 c2
  have D1 := own_elJ v0 A0.1 c3
  have D2 := own_elJ v0 A0.1 c4
  have D3 := own_elJ v0 A0.1 c5
  have D4 := own_elJ v0 A0.1 c6
  have D5 := own_elJ v0 A0.1 c7
  have D6 := own_elJ v0 A0.1 c8
  have D7 := own_elJ v0 A0.1 c9
  have D8 := own_elJ v0 A0.1 c10
  have D9 := own_elJ v0 A0.1 c11
  have D10 := own_elJ v0 A0.1 c12
  have D11 := own_elJ v0 A0.1 c13
  have D12 := own_elJ v0 A0.1 c14
  have D13 := own_elJ v0 A0.1 c15
  have D14 := own_elJ v0 A0.1 c16
  have D15 := own_elJ v0 A0.1 c17
  have D16 := own_elJ v0 A0.1 c18
  have D17 := own_elJ v0 A0.1 c19
  have D18 := own_elJ v0 A0.1 r19
  have P : own_P s s.heap w0 cl := ⟨S0, A0, Ln, D0, D1, D2, D3, D4, D5, D6, D7, D8, D9, D10, D11, D12, D13, D14, D15, D16, D17, D18⟩
  obtain ⟨n, o, h1, h2, h3, _, L, rfl, ⟨rfl, N⟩, hq⟩ := own_law l s _ hw tables_1 i0 w0 cl s.heap s.heap.size (Nat.le_refl _) P p e ha hc hk s m _ below hf ((Spec.applies_iff_loose hf).mp happ).1 ⟨rfl, State.Warmed39.refl s, rfl⟩ trivial
  refine ⟨n, _, h1, h2, h3, hpost _ _ _ _ _ _ ⟨Cond.after_iff.mpr rfl, Cond.after_iff.mpr (eq_i res_at (Term.int_eval (1)) rfl), trivial⟩ ⟨hq.1, hq.2.1, (hq.2.2.sift fun y hy => Or.inr (N y hy)).mono (by decide) (by decide)⟩⟩
theorem main_1_1 : Claimed_1_1 := comes_1 fun _ _ _ _ _ _ h hF => ⟨h.1, hF⟩
theorem main_1_2 : Claimed_1_2 := comes_1 fun _ _ _ _ _ _ h hF => ⟨h.2.1, hF⟩
end Jvm.Pilot.@@N@@
namespace Jvm.Pilot.@@N@@
open Jvm Jvm.ClassFile Sem Op Lib Jvm.Free Jvm.Stand Jvm.Pilot.@@N@@.Jvm.D
/-! MADE BY PROGRAM (witnessworld.py) out of the Statement's table words and the real class files: 12 classes; the members and pool entries that the words name. The judged class is class 1, her method 1. -/
namespace start1
open Jvm.ClassFile
def u (s : String) : CpInfo := .utf8 (stringToUtf16 s)
/-- a pool by its gaps: so many unusable entries, then the entry; so many at the end -/
def gap : Nat → List CpInfo → List CpInfo
  | 0, r => r
  | n + 1, r => .unusable :: gap n r
def poolList (es : List (Nat × CpInfo)) (last : Nat) : List CpInfo := es.foldr (fun e r => gap e.1 (e.2 :: r)) (gap last [])
def pool (es : List (Nat × CpInfo)) (last : Nat) : Array CpInfo := ⟨poolList es last⟩
def fileOf (pool : Array CpInfo) (this : Nat) (attrs : Array Attribute := #[]) (ms : Array MethodInfo := #[]) (fl : Nat := 33) (sup : Nat := 0) (ifs : Array Nat := #[]) (fds : Array FieldInfo := #[]) : ClassFile where
  minorVersion := 0
  majorVersion := 65
  constantPool := pool
  accessFlags := fl
  thisClass := this
  superClass := sup
  interfaces := ifs
  fields := fds
  methods := ms
  attributes := attrs
def plain (name : String) (sup : Option ClassId) : Class where
  name := name
  kind := .ordinary
  loader := none
  accessFlags := 33
  super := sup
  interfaces := #[]
  cf := none
  fields := #[]
  methods := #[]
  instanceTypes := #[]
  staticTypes := #[]
  resolved := #[]
  callSites := []
  init := .initialized
  statics := none
  mirror := none

def pool0 : Array CpInfo := pool [(5, u "<init>"), (0, u "()V"), (1, .class_ 10), (1, u "java/lang/Object")] 113

def k0m0 : Method := { name := "<init>", desc := "()V", sig := { parameters := [], returnType := none }, accessFlags := 1, code := none }
/-- java/lang/Object -/
def k0 : Class := { plain "java/lang/Object" none with
  accessFlags := 33
  interfaces := #[]
  cf := some (fileOf pool0 8 #[] #[{ accessFlags := 1, nameIndex := 5, descriptorIndex := 6, attributes := #[] }] 33 0 #[] #[])
  fields := #[]
  methods := #[k0m0]
  instanceTypes := #[]
  staticTypes := #[]
  resolved := Array.replicate 124 none
  statics := none }

def pool1 : Array CpInfo := pool [(2, .class_ 4), (1, u "java/lang/Object"), (0, u "<init>"), (0, u "()V"), (0, .integer 2147483647), (0, .long 10), (1, .long 100), (1, .long 10000), (1, .long 100000000), (1, .long 10000000000000000), (1, .methodref 19 20), (0, .class_ 21), (0, .nameAndType 22 23), (0, u "com/example/tranchor/tranchor/Fraction"), (0, u "powerOfTen"), (0, u "(I)J"), (0, .class_ 25), (0, u "com/example/tranchor/tranchor/FractionPowerOfTenPinLaw"), (2, u "law"), (0, u "(I)Z")] 3

def k1m0 : Method := { name := "<init>", desc := "()V", sig := { parameters := [], returnType := none }, accessFlags := 1, code := none }
def k1c1 : Code := { maxStack := 4, maxLocals := 4, code := code, exceptionTable := #[], attributes := #[] }
def k1m1 : Method := { name := "law", desc := "(I)Z", sig := { parameters := [.int], returnType := some .boolean }, accessFlags := 9, code := some k1c1 }
/-- com/example/tranchor/tranchor/FractionPowerOfTenPinLaw -/
def k1 : Class := { plain "com/example/tranchor/tranchor/FractionPowerOfTenPinLaw" (some 0) with
  accessFlags := 49
  interfaces := #[]
  cf := some (fileOf pool1 24 #[] #[{ accessFlags := 1, nameIndex := 5, descriptorIndex := 6, attributes := #[] }, { accessFlags := 9, nameIndex := 28, descriptorIndex := 29, attributes := #[] }] 49 2 #[] #[])
  fields := #[]
  methods := #[k1m0, k1m1]
  instanceTypes := #[]
  staticTypes := #[]
  resolved := Array.replicate 33 none
  statics := none }

def pool2 : Array CpInfo := pool [(1, .class_ 2), (0, u "java/lang/Comparable"), (0, .class_ 4), (0, u "java/lang/Object")] 7

/-- java/lang/Comparable -/
def k2 : Class := { plain "java/lang/Comparable" (some 0) with
  accessFlags := 1537
  interfaces := #[]
  cf := some (fileOf pool2 1 #[] #[] 1537 3 #[] #[])
  fields := #[]
  methods := #[]
  instanceTypes := #[]
  staticTypes := #[]
  resolved := Array.replicate 12 none
  statics := none }

def pool3 : Array CpInfo := pool [(2, .class_ 4), (1, u "java/lang/Object"), (3, .class_ 10), (1, u "com/example/tranchor/tranchor/Fraction"), (0, u "numerator"), (0, u "J"), (2, u "denominator"), (2, u "bigNumerator"), (0, u "Ljava/math/BigInteger;"), (2, u "bigDenominator"), (56, .fieldref 8 80), (0, .nameAndType 81 82), (0, u "POWERS_OF_TEN"), (0, u "[J"), (126, .class_ 211), (1, u "com/example/tranchor/tranchor/Fraction$1"), (56, u "ZERO"), (0, u "Lcom/example/tranchor/tranchor/Fraction;"), (2, u "ONE"), (4, .class_ 278), (0, u "java/lang/Comparable"), (13, u "powerOfTen"), (0, u "(I)J")] 26

def k3c0 : Code := { maxStack := 3, maxLocals := 1, code := prog_3_method_31_code, exceptionTable := #[], attributes := #[] }
def k3m0 : Method := { name := "powerOfTen", desc := "(I)J", sig := { parameters := [.int], returnType := some .long }, accessFlags := 8, code := some k3c0 }
/-- com/example/tranchor/tranchor/Fraction -/
def k3 : Class := { plain "com/example/tranchor/tranchor/Fraction" (some 0) with
  accessFlags := 49
  interfaces := #[2]
  cf := some (fileOf pool3 8 #[.nestMembers #[209]] #[{ accessFlags := 8, nameIndex := 292, descriptorIndex := 293, attributes := #[] }] 49 2 #[277] #[{ accessFlags := 25, nameIndex := 268, descriptorIndex := 269, attributes := #[] }, { accessFlags := 25, nameIndex := 272, descriptorIndex := 269, attributes := #[] }, { accessFlags := 26, nameIndex := 81, descriptorIndex := 82, attributes := #[] }, { accessFlags := 18, nameIndex := 11, descriptorIndex := 12, attributes := #[] }, { accessFlags := 18, nameIndex := 15, descriptorIndex := 12, attributes := #[] }, { accessFlags := 18, nameIndex := 18, descriptorIndex := 19, attributes := #[] }, { accessFlags := 18, nameIndex := 22, descriptorIndex := 19, attributes := #[] }])
  fields := #[{ name := "ZERO", type := (.object "com/example/tranchor/tranchor/Fraction"), accessFlags := 25, slot := 0, constantValue := 0 }, { name := "ONE", type := (.object "com/example/tranchor/tranchor/Fraction"), accessFlags := 25, slot := 1, constantValue := 0 }, { name := "POWERS_OF_TEN", type := (.array .long), accessFlags := 26, slot := 2, constantValue := 0 }, { name := "numerator", type := .long, accessFlags := 18, slot := 0, constantValue := 0 }, { name := "denominator", type := .long, accessFlags := 18, slot := 1, constantValue := 0 }, { name := "bigNumerator", type := (.object "java/math/BigInteger"), accessFlags := 18, slot := 2, constantValue := 0 }, { name := "bigDenominator", type := (.object "java/math/BigInteger"), accessFlags := 18, slot := 3, constantValue := 0 }]
  methods := #[k3m0]
  instanceTypes := #[.long, .long, (.object "java/math/BigInteger"), (.object "java/math/BigInteger")]
  staticTypes := #[(.object "com/example/tranchor/tranchor/Fraction"), (.object "com/example/tranchor/tranchor/Fraction"), (.array .long)]
  resolved := Array.replicate 320 none
  statics := some 0 }

def pool4 : Array CpInfo := pool [(1, u "java/lang/Cloneable"), (0, .class_ 1), (0, u "java/lang/Object"), (0, .class_ 3)] 3

/-- java/lang/Cloneable -/
def k4 : Class := { plain "java/lang/Cloneable" (some 0) with
  accessFlags := 1537
  interfaces := #[]
  cf := some (fileOf pool4 2 #[] #[] 1537 4 #[] #[])
  fields := #[]
  methods := #[]
  instanceTypes := #[]
  staticTypes := #[]
  resolved := Array.replicate 8 none
  statics := none }

def pool5 : Array CpInfo := pool [(1, u "java/io/Serializable"), (0, .class_ 1), (0, u "java/lang/Object"), (0, .class_ 3)] 3

/-- java/io/Serializable -/
def k5 : Class := { plain "java/io/Serializable" (some 0) with
  accessFlags := 1537
  interfaces := #[]
  cf := some (fileOf pool5 2 #[] #[] 1537 4 #[] #[])
  fields := #[]
  methods := #[]
  instanceTypes := #[]
  staticTypes := #[]
  resolved := Array.replicate 8 none
  statics := none }

/-- the primitive byte -/
def k6 : Class := { plain "byte" none with kind := .primitive 'B', accessFlags := 0x411 }
/-- [B -/
def k7 : Class := { plain "[B" (some 0) with kind := .array 6 .byte, interfaces := #[4, 5], accessFlags := 1041 }

/-- the primitive int -/
def k8 : Class := { plain "int" none with kind := .primitive 'I', accessFlags := 0x411 }
/-- [I -/
def k9 : Class := { plain "[I" (some 0) with kind := .array 8 .int, interfaces := #[4, 5], accessFlags := 1041 }

/-- the primitive long -/
def k10 : Class := { plain "long" none with kind := .primitive 'J', accessFlags := 0x411 }
/-- [J -/
def k11 : Class := { plain "[J" (some 0) with kind := .array 10 .long, interfaces := #[4, 5], accessFlags := 1041 }

def heap : Heap := #[{ cls := 3, slots := #[.null, .null, .ref 1], vm := .statics 3 },
  { cls := 11, slots := #[.long 1, .long 10, .long 100, .long 1000, .long 10000, .long 100000, .long 1000000, .long 10000000, .long 100000000, .long 1000000000, .long 10000000000, .long 100000000000, .long 1000000000000, .long 10000000000000, .long 100000000000000, .long 1000000000000000, .long 10000000000000000, .long 100000000000000000, .long 1000000000000000000], vm := .none }]
def classes : Array Class := #[k0, k1, k2, k3, k4, k5, k6, k7, k8, k9, k10, k11]
def interned : List (Array UInt16 × Addr) := []
def slotsUsed : Nat := 22
def theMethod : MethodId := ⟨1, 1⟩
def args0 : Array Value := #[.int 5]
def aboutOver (below : List Frame) : State where
  vm := { classes := classes, interned := interned.toArray }
  heap := heap
  slotsUsed := slotsUsed
  threads := #[{ frames := .invoking theMethod args0 :: below }]
def below0 : List Frame := [.native { method := ⟨0, 0⟩, args := #[] }]
def about1 : State := aboutOver below0
def p0 : Program := .bare "" "" ""
def e0 : Env := launch0.env 0 0 0
theorem w_frames : about1.frames = Frame.invoking theMethod args0 :: below0 := rfl
set_option maxRecDepth 65536 in
theorem w_args : argsFit about1.vm theMethod args0 = true := by decide +kernel
set_option maxRecDepth 65536 in
theorem w_heap : heapFits about1 = true := by decide +kernel
set_option maxRecDepth 65536 in
theorem w_runnable : about1.curStatus? = some .runnable := by decide +kernel
set_option maxRecDepth 65536 in
theorem w_alone : about1.alone = true := by decide +kernel
set_option maxRecDepth 65536 in
theorem w_named : about1.methodNamed? x = some theMethod := by decide +kernel
set_option maxRecDepth 65536 in
theorem w_hears : about1.hears theMethod below0 = true := by decide +kernel
set_option maxRecDepth 65536 in
theorem w_ripe : about1.ripe theMethod args0 below0 = true := by decide +kernel
theorem w_running : about1.status = .running := rfl
set_option maxRecDepth 65536 in
theorem w_room : about1.hasRoom e0.platform room_1 = true :=
  launch0.hasRoom_least _ room_1 (by decide +kernel) (by decide +kernel) (by decide +kernel) (by decide +kernel) (by decide +kernel) (by decide +kernel)
theorem allAtoms_all (ts : List Jvm.Cond) (a : Array Jvm.Value) (st : Jvm.State) : (allAtoms ts).before a st = ts.all (fun c => c.before a st) := by
  induction ts with
  | nil => rfl
  | cons c t ih =>
    show (Jvm.Cond.and c (allAtoms t)).before a st = _
    rw [Jvm.Cond.before_and, ih, List.all_cons]
def words1 : List Jvm.Cond := Jvm.Cond.code x code maxLocals ret :: tables_1
/-- a 'code' word, met by the world's own term for the bytes: nothing is compared byte by byte -/
theorem code_word {y : MethodName} {bytes : ByteArray} {mx : Nat} {rt : Option FieldType} {a : Array Value} {s : State} {m : MethodId} {meth : Method} {c : Code} (h1 : s.methodNamed? y = some m) (h2 : s.vm.method? m = some meth) (h3 : meth.code = some c) (h4 : c.code = bytes)
    (h5 : (c.maxLocals == mx && c.exceptionTable.isEmpty && decide (c.maxStack ≤ mostOperands) && decide (meth.sig.returnType = rt) && !meth.locks && decide (parseMethodDescriptor y.desc = some meth.sig)) = true) : (Jvm.Cond.code y bytes mx rt).before a s = true := by
  simp only [Bool.and_eq_true, beq_iff_eq, Bool.not_eq_true', decide_eq_true_eq] at h5
  obtain ⟨⟨⟨⟨⟨g1, g2⟩, g3⟩, g4⟩, g5⟩, g6⟩ := h5
  simp [Cond.before, Cond.holds, Cond.value, h1, h2, h3, h4, g1, g2, g3, g4, g5, g6]
def isCode : Jvm.Cond → Bool
  | .code _ _ _ _ => true
  | _ => false
theorem all_split {L : List Jvm.Cond} {P : Jvm.Cond → Bool} (h1 : L.all (fun c => isCode c || P c) = true) (h2 : ∀ c ∈ L.filter isCode, P c = true) : L.all P = true := by
  refine List.all_eq_true.mpr fun c hc => ?_
  have h := List.all_eq_true.mp h1 c hc
  rcases Bool.eq_false_or_eq_true (isCode c) with hi | hi
  · exact h2 c (List.mem_filter.mpr ⟨hc, hi⟩)
  · simpa [hi] using h
set_option maxRecDepth 65536 in
theorem w_c0 : (Jvm.Cond.code x code maxLocals ret).before args0 about1 = true := code_word (m := ⟨1, 1⟩) (meth := k1m1) (c := k1c1) (by decide +kernel) rfl rfl rfl (by decide +kernel)
set_option maxRecDepth 65536 in
theorem w_c1 : (Jvm.Cond.code ({ cls := "com/example/tranchor/tranchor/Fraction", name := "powerOfTen", desc := "(I)J" } : Jvm.MethodName) prog_3_method_31_code (1 : Nat) (Option.some Jvm.ClassFile.FieldType.long)).before args0 about1 = true := code_word (m := ⟨3, 0⟩) (meth := k3m0) (c := k3c0) (by decide +kernel) rfl rfl rfl (by decide +kernel)
def codes1 : List Jvm.Cond := [Jvm.Cond.code x code maxLocals ret, Jvm.Cond.code ({ cls := "com/example/tranchor/tranchor/Fraction", name := "powerOfTen", desc := "(I)J" } : Jvm.MethodName) prog_3_method_31_code (1 : Nat) (Option.some Jvm.ClassFile.FieldType.long)]
set_option maxRecDepth 65536 in
theorem codes_eq : words1.filter isCode = codes1 := rfl
theorem w_codes : ∀ c ∈ words1.filter isCode, c.before args0 about1 = true := by
  rw [codes_eq]
  intro c hc
  simp only [codes1, List.mem_cons, List.not_mem_nil, or_false] at hc
  rcases hc with rfl | rfl
  · exact w_c0
  · exact w_c1
set_option maxRecDepth 65536 in
theorem w_t1 : words1.all (fun c => isCode c || c.before args0 about1) = true := by decide +kernel
theorem w_tables : (allAtoms (Jvm.Cond.code x code maxLocals ret :: tables_1)).before args0 about1 = true := by
  rw [allAtoms_all]
  show words1.all (fun c => c.before args0 about1) = true
  refine all_split ?_ w_codes
  rw [w_t1]
set_option maxRecDepth 65536 in
theorem w_case : (Jvm.Cond.and given_1 narrow_1).before args0 about1 = true := by decide +kernel
theorem w_applies : (headSpec (Jvm.Cond.code x code maxLocals ret :: tables_1) room_1).applies x e0.platform about1 = true :=
  (Spec.applies_iff w_frames).mpr ⟨w_running, w_runnable, w_alone, w_named, w_hears, w_ripe, w_room, w_tables⟩
theorem atStart : AtStart classFile x code maxLocals ret World_1 tables_1 room_1 Calls_1 rest_1 Pre_1 launch0 p0 e0 about1 theMethod args0 below0 :=
  ⟨lists_1, trivial, launch0.admits_env _ _ _, launch0.least_env, fairChoices_fair.cas, fairChoices_fair.clock, w_frames, w_args, w_heap, w_applies, trivial, trivial, w_case⟩
end start1
theorem witness_1 : WitnessClaimed_1 := ⟨start1.p0, start1.e0, start1.about1, start1.theMethod, start1.args0, start1.below0, start1.atStart⟩
end Jvm.Pilot.@@N@@
