import JvmDerived
import JvmDerived.Pilot.@@N@@Statement
import JvmDerived.Pilot.@@N@@Code
set_option linter.unusedVariables false
set_option linter.unusedSimpArgs false
namespace Jvm.RoadKit
open Sem ClassFile Op Lib Jvm.Stand Jvm.Free Jvm.LawKit
section New
variable {p : Program} {l : Launch} {e : Env} {R : Room} {s : State} {m : MethodId} {args : Array Value} {below : List Frame} {meth : Method} {c : Code} {T : State} {locs : List Loc} {cells slots : Nat}
theorem retI (X : Stand p l e R s m args below meth c T locs cells slots) (hx : p.tables.exec = Jvm.exec) {pc : Nat} {Ls : Array Slot} {z : Int32} {rest : List Value} (hret : meth.sig.returnType = some .int) (hd : decode c.code pc = .ok (.ireturn, 1)) {fs : List Frame}
    (hl : ∀ (f : JFrame) (acts : List Action), f.method = m → f.locked = none → f.entered = [] → (doReturn e (T.setTop f) acts (some (.int z))).1 = T.setFrames fs) : Steps p.tables e below (T.setTop (mkF m pc Ls (.int z :: rest))) (T.setFrames fs) := by
  have hm' : T.vm.method? m = some meth := X.method'
  have hn : narrow .int (.int z) = .int z := rfl
  show Steps p.tables e below (T.setTop { method := m, pc := pc, locals := Ls, stack := _ :: rest, locked := none }) _
  jvm_step X.here [X.here.top, hx, hd, hm', hret, hn]
  first | (intro acts; rw [hl _ acts rfl rfl rfl]) | rw [hl _ _ rfl rfl rfl]
  exact Steps.refl _
end New
end Jvm.RoadKit
namespace Jvm.Pilot.@@N@@
open Jvm Jvm.ClassFile Sem Op Lib Jvm.Free Jvm.Stand Jvm.LawKit Jvm.RoadKit Bundle Jvm.Pilot.@@N@@.Jvm.D

def own_Q (r : Option Value) (h0 : Heap) (n0 : Nat) (v : Option Value) (h : Heap) (L : List Loc) : Prop := v = r ∧ Fr n0 L ∧ h = h0
def own_Q0 (n0 : Nat) (v : Option Value) (h : Heap) (L : List Loc) : Prop := v = some (.int 1) ∧ Fr n0 L
def own_P (Z : State) (h : Heap) (w0 w1 w2 w3 w4 w5 w6 w7 w8 w9 w10 w11 w12 w13 w14 w15 w16 w17 w18 : Addr) : Prop := (Sta Z h "com/example/plimsoll/plimsoll/wire/SaspType" "HEADER" "Lcom/example/plimsoll/plimsoll/wire/SaspType;" (.ref w0)) ∧ (Exa Z h w0 "com/example/plimsoll/plimsoll/wire/SaspType") ∧ (Fld Z h w0 "com/example/plimsoll/plimsoll/wire/SaspType" "code" "I" (.int (8208 : Int32))) ∧ (Sta Z h "com/example/plimsoll/plimsoll/wire/SaspType" "REGISTRATION_REQUEST" "Lcom/example/plimsoll/plimsoll/wire/SaspType;" (.ref w1)) ∧ (Exa Z h w1 "com/example/plimsoll/plimsoll/wire/SaspType") ∧ (Fld Z h w1 "com/example/plimsoll/plimsoll/wire/SaspType" "code" "I" (.int (4112 : Int32))) ∧ (Sta Z h "com/example/plimsoll/plimsoll/wire/SaspType" "REGISTRATION_REPLY" "Lcom/example/plimsoll/plimsoll/wire/SaspType;" (.ref w2)) ∧ (Exa Z h w2 "com/example/plimsoll/plimsoll/wire/SaspType") ∧ (Fld Z h w2 "com/example/plimsoll/plimsoll/wire/SaspType" "code" "I" (.int (4117 : Int32))) ∧ (Sta Z h "com/example/plimsoll/plimsoll/wire/SaspType" "DEREGISTRATION_REQUEST" "Lcom/example/plimsoll/plimsoll/wire/SaspType;" (.ref w3)) ∧ (Exa Z h w3 "com/example/plimsoll/plimsoll/wire/SaspType") ∧ (Fld Z h w3 "com/example/plimsoll/plimsoll/wire/SaspType" "code" "I" (.int (4128 : Int32))) ∧ (Sta Z h "com/example/plimsoll/plimsoll/wire/SaspType" "DEREGISTRATION_REPLY" "Lcom/example/plimsoll/plimsoll/wire/SaspType;" (.ref w4)) ∧ (Exa Z h w4 "com/example/plimsoll/plimsoll/wire/SaspType") ∧ (Fld Z h w4 "com/example/plimsoll/plimsoll/wire/SaspType" "code" "I" (.int (4133 : Int32))) ∧ (Sta Z h "com/example/plimsoll/plimsoll/wire/SaspType" "GET_WEIGHTS_REQUEST" "Lcom/example/plimsoll/plimsoll/wire/SaspType;" (.ref w5)) ∧ (Exa Z h w5 "com/example/plimsoll/plimsoll/wire/SaspType") ∧ (Fld Z h w5 "com/example/plimsoll/plimsoll/wire/SaspType" "code" "I" (.int (4144 : Int32))) ∧ (Sta Z h "com/example/plimsoll/plimsoll/wire/SaspType" "GET_WEIGHTS_REPLY" "Lcom/example/plimsoll/plimsoll/wire/SaspType;" (.ref w6)) ∧ (Exa Z h w6 "com/example/plimsoll/plimsoll/wire/SaspType") ∧ (Fld Z h w6 "com/example/plimsoll/plimsoll/wire/SaspType" "code" "I" (.int (4149 : Int32))) ∧ (Sta Z h "com/example/plimsoll/plimsoll/wire/SaspType" "SEND_WEIGHTS" "Lcom/example/plimsoll/plimsoll/wire/SaspType;" (.ref w7)) ∧ (Exa Z h w7 "com/example/plimsoll/plimsoll/wire/SaspType") ∧ (Fld Z h w7 "com/example/plimsoll/plimsoll/wire/SaspType" "code" "I" (.int (4160 : Int32))) ∧ (Sta Z h "com/example/plimsoll/plimsoll/wire/SaspType" "SET_LB_STATE_REQUEST" "Lcom/example/plimsoll/plimsoll/wire/SaspType;" (.ref w8)) ∧ (Exa Z h w8 "com/example/plimsoll/plimsoll/wire/SaspType") ∧ (Fld Z h w8 "com/example/plimsoll/plimsoll/wire/SaspType" "code" "I" (.int (4176 : Int32))) ∧ (Sta Z h "com/example/plimsoll/plimsoll/wire/SaspType" "SET_LB_STATE_REPLY" "Lcom/example/plimsoll/plimsoll/wire/SaspType;" (.ref w9)) ∧ (Exa Z h w9 "com/example/plimsoll/plimsoll/wire/SaspType") ∧ (Fld Z h w9 "com/example/plimsoll/plimsoll/wire/SaspType" "code" "I" (.int (4181 : Int32))) ∧ (Sta Z h "com/example/plimsoll/plimsoll/wire/SaspType" "SET_MEMBER_STATE_REQUEST" "Lcom/example/plimsoll/plimsoll/wire/SaspType;" (.ref w10)) ∧ (Exa Z h w10 "com/example/plimsoll/plimsoll/wire/SaspType") ∧ (Fld Z h w10 "com/example/plimsoll/plimsoll/wire/SaspType" "code" "I" (.int (4192 : Int32))) ∧ (Sta Z h "com/example/plimsoll/plimsoll/wire/SaspType" "SET_MEMBER_STATE_REPLY" "Lcom/example/plimsoll/plimsoll/wire/SaspType;" (.ref w11)) ∧ (Exa Z h w11 "com/example/plimsoll/plimsoll/wire/SaspType") ∧ (Fld Z h w11 "com/example/plimsoll/plimsoll/wire/SaspType" "code" "I" (.int (4197 : Int32))) ∧ (Sta Z h "com/example/plimsoll/plimsoll/wire/SaspType" "MEMBER_DATA" "Lcom/example/plimsoll/plimsoll/wire/SaspType;" (.ref w12)) ∧ (Exa Z h w12 "com/example/plimsoll/plimsoll/wire/SaspType") ∧ (Fld Z h w12 "com/example/plimsoll/plimsoll/wire/SaspType" "code" "I" (.int (12304 : Int32))) ∧ (Sta Z h "com/example/plimsoll/plimsoll/wire/SaspType" "GROUP_DATA" "Lcom/example/plimsoll/plimsoll/wire/SaspType;" (.ref w13)) ∧ (Exa Z h w13 "com/example/plimsoll/plimsoll/wire/SaspType") ∧ (Fld Z h w13 "com/example/plimsoll/plimsoll/wire/SaspType" "code" "I" (.int (12305 : Int32))) ∧ (Sta Z h "com/example/plimsoll/plimsoll/wire/SaspType" "WEIGHT_ENTRY" "Lcom/example/plimsoll/plimsoll/wire/SaspType;" (.ref w14)) ∧ (Exa Z h w14 "com/example/plimsoll/plimsoll/wire/SaspType") ∧ (Fld Z h w14 "com/example/plimsoll/plimsoll/wire/SaspType" "code" "I" (.int (12306 : Int32))) ∧ (Sta Z h "com/example/plimsoll/plimsoll/wire/SaspType" "MEMBER_STATE_INSTANCE" "Lcom/example/plimsoll/plimsoll/wire/SaspType;" (.ref w15)) ∧ (Exa Z h w15 "com/example/plimsoll/plimsoll/wire/SaspType") ∧ (Fld Z h w15 "com/example/plimsoll/plimsoll/wire/SaspType" "code" "I" (.int (12307 : Int32))) ∧ (Sta Z h "com/example/plimsoll/plimsoll/wire/SaspType" "GROUP_OF_MEMBER_DATA" "Lcom/example/plimsoll/plimsoll/wire/SaspType;" (.ref w16)) ∧ (Exa Z h w16 "com/example/plimsoll/plimsoll/wire/SaspType") ∧ (Fld Z h w16 "com/example/plimsoll/plimsoll/wire/SaspType" "code" "I" (.int (16400 : Int32))) ∧ (Sta Z h "com/example/plimsoll/plimsoll/wire/SaspType" "GROUP_OF_WEIGHT_ENTRY_DATA" "Lcom/example/plimsoll/plimsoll/wire/SaspType;" (.ref w17)) ∧ (Exa Z h w17 "com/example/plimsoll/plimsoll/wire/SaspType") ∧ (Fld Z h w17 "com/example/plimsoll/plimsoll/wire/SaspType" "code" "I" (.int (16401 : Int32))) ∧ (Sta Z h "com/example/plimsoll/plimsoll/wire/SaspType" "GROUP_OF_MEMBER_STATE_DATA" "Lcom/example/plimsoll/plimsoll/wire/SaspType;" (.ref w18)) ∧ (Exa Z h w18 "com/example/plimsoll/plimsoll/wire/SaspType") ∧ (Fld Z h w18 "com/example/plimsoll/plimsoll/wire/SaspType" "code" "I" (.int (16402 : Int32)))
theorem own_P_ext {Z : State} {h h' : Heap} {w0 w1 w2 w3 w4 w5 w6 w7 w8 w9 w10 w11 w12 w13 w14 w15 w16 w17 w18 : Addr} (P : own_P Z h w0 w1 w2 w3 w4 w5 w6 w7 w8 w9 w10 w11 w12 w13 w14 w15 w16 w17 w18) (E : Ext h h') : own_P Z h' w0 w1 w2 w3 w4 w5 w6 w7 w8 w9 w10 w11 w12 w13 w14 w15 w16 w17 w18 := by
  obtain ⟨S0, E0, F0_code, S1, E1, F1_code, S2, E2, F2_code, S3, E3, F3_code, S4, E4, F4_code, S5, E5, F5_code, S6, E6, F6_code, S7, E7, F7_code, S8, E8, F8_code, S9, E9, F9_code, S10, E10, F10_code, S11, E11, F11_code, S12, E12, F12_code, S13, E13, F13_code, S14, E14, F14_code, S15, E15, F15_code, S16, E16, F16_code, S17, E17, F17_code, S18, E18, F18_code⟩ := P
  exact ⟨S0.ext E, E0.ext E, F0_code.ext E, S1.ext E, E1.ext E, F1_code.ext E, S2.ext E, E2.ext E, F2_code.ext E, S3.ext E, E3.ext E, F3_code.ext E, S4.ext E, E4.ext E, F4_code.ext E, S5.ext E, E5.ext E, F5_code.ext E, S6.ext E, E6.ext E, F6_code.ext E, S7.ext E, E7.ext E, F7_code.ext E, S8.ext E, E8.ext E, F8_code.ext E, S9.ext E, E9.ext E, F9_code.ext E, S10.ext E, E10.ext E, F10_code.ext E, S11.ext E, E11.ext E, F11_code.ext E, S12.ext E, E12.ext E, F12_code.ext E, S13.ext E, E13.ext E, F13_code.ext E, S14.ext E, E14.ext E, F14_code.ext E, S15.ext E, E15.ext E, F15_code.ext E, S16.ext E, E16.ext E, F16_code.ext E, S17.ext E, E17.ext E, F17_code.ext E, S18.ext E, E18.ext E, F18_code.ext E⟩
theorem own_fldI {args : Array Value} {s : State} {t : Term} {C n d : String} {a : Addr} {k : Int32} (ev : t.eval args s none [] s = some (.ref a)) (h : (Jvm.Cond.eq (Jvm.Term.field t C n d) (Jvm.Term.int k)).value args s none s [] = some true) : Fld s s.heap a C n d (.int k) := by
  obtain ⟨x, y, e1, e2, K1, K2⟩ := cmp_v (Or.inl h)
  have e3 : (Jvm.Term.int k).eval args s none [] s = some (.int k) := rfl
  obtain rfl : y = .int k := Option.some.inj (e2.symm.trans e3)
  obtain ⟨z, rfl⟩ := K2
  obtain rfl : z = k := gotT (Jvm.Cond.eq_ints e1 e3) h
  exact Fld.start ((fld_at ev).symm.trans e1)
theorem own_fldJ {args : Array Value} {s : State} {t : Term} {C n d : String} {a : Addr} {k : Int64} (ev : t.eval args s none [] s = some (.ref a)) (h : (Jvm.Cond.eq (Jvm.Term.field t C n d) (Jvm.Term.long k)).value args s none s [] = some true) : Fld s s.heap a C n d (.long k) := by
  obtain ⟨x, y, e1, e2, K1, K2⟩ := cmp_v (Or.inl h)
  have e3 : (Jvm.Term.long k).eval args s none [] s = some (.long k) := rfl
  obtain rfl : y = .long k := Option.some.inj (e2.symm.trans e3)
  obtain ⟨z, rfl⟩ := K2
  obtain rfl : z = k := gotT (eq_L e1 e3) h
  exact Fld.start ((fld_at ev).symm.trans e1)
theorem own_ext_trans {h h' h'' : Heap} (E : Ext h h') (E' : Ext h' h'') : Ext h h'' := ⟨Nat.le_trans E.1 E'.1, fun a c q => E'.2 a c (E.2 a c q)⟩
theorem own_ext_wr {h0 h h' : Heap} {a : Addr} {sl : Nat} {v : Value} (E : Ext h0 h) (W : Wr h h' a sl v) (q : h0.size ≤ a) : Ext h0 h' := by
  refine ⟨by rw [W.size]; exact E.1, fun b c hb => ?_⟩
  have hne : b ≠ a := Nat.ne_of_lt (Nat.lt_of_lt_of_le (Array.getElem?_eq_some_iff.mp hb).1 q)
  obtain ⟨c', e1, -, -, -, e5, -⟩ := wr_at W (E.2 b c hb)
  rw [e1, e5 hne]
theorem own_stR {p : Program} {l : Launch} {e : Env} {R : Room} {s : State} {m : MethodId} {args : Array Value} {below : List Frame} {meth : Method} {c : Code} {T : State} {locs : List Loc} {cells slots : Nat} {Z : State} {h : Heap}
    (X : Stand p l e R s m args below meth c T locs cells slots) (hx : p.tables.exec = Jvm.exec) (hZ : Z.Warmed39 s.vm) (eT : T.heap = h) {a y : Addr} {k : ClassId} {ty : FieldType} {z : Int32} {vs : List Value} {dv : Value} {C : String} (F : Arv Z h a k ty z vs dv) (O : Ovr Z k C) (I : Ins Z h y C true) {j : Int32} (hj : ¬ j < 0 ∧ j < z) {i : Nat} (hi : j.toNatClampNeg = i) (hl : i < vs.length) (hty : ty.isReference = true)
    {g : JFrame} (hg : g.method = m) {rest : List Value} (hs : g.stack = .ref y :: .int j :: .ref a :: rest) (hd : decode c.code g.pc = .ok (.aastore, 1)) :
    ∃ T' h', Stand p l e R s m args below meth c T' (locs ++ [⟨a, j.toNatClampNeg⟩]) cells slots ∧ T'.heap = h' ∧ Wr h h' a j.toNatClampNeg (.ref y) ∧ Arv Z h' a k ty z (vs.set i (.ref y)) dv ∧ ∀ target, Steps p.tables e below (T'.setTop { g with pc := g.pc + 1, stack := rest }) target → Steps p.tables e below (T.setTop g) target := by
  obtain ⟨cl, A, q1, S, q3, H, G⟩ := F
  obtain ⟨T', h', X', e', W, st⟩ := stR X hx hZ eT A (inb_of S hj) hty (Sto.ofV A q1 O I) hg hs hd
  exact ⟨T', h', X', e', W, Arv.set A q1 S q3 H G (by cases ty <;> first | rfl | cases hty) W i hi hl, st⟩
theorem own_at {Z : State} {h : Heap} {a : Addr} {k : ClassId} {ty : FieldType} {z : Int32} {vs : List Value} {dv : Value} (F : Arv Z h a k ty z vs dv) {j : Int32} {v : Value} (hj : ¬ j < 0 ∧ j < z) (u : vs.getD j.toNatClampNeg dv = v) :
    ∃ c : Cell, Arr Z h a c ty ∧ ¬ (j < 0 ∨ c.slots.size ≤ j.toNatClampNeg) ∧ c.slots[j.toNatClampNeg]? = some v := by
  obtain ⟨c, A, -, S, -, H, -⟩ := F
  exact ⟨c, A, inb_of S hj, H.at (inb_of S hj) u⟩
theorem own_cases (x : Int32) : ((x &&& (2147483647 : Int32)) % (19 : Int32)) = (0 : Int32) ∨ ((x &&& (2147483647 : Int32)) % (19 : Int32)) = (1 : Int32) ∨ ((x &&& (2147483647 : Int32)) % (19 : Int32)) = (2 : Int32) ∨ ((x &&& (2147483647 : Int32)) % (19 : Int32)) = (3 : Int32) ∨ ((x &&& (2147483647 : Int32)) % (19 : Int32)) = (4 : Int32) ∨ ((x &&& (2147483647 : Int32)) % (19 : Int32)) = (5 : Int32) ∨ ((x &&& (2147483647 : Int32)) % (19 : Int32)) = (6 : Int32) ∨ ((x &&& (2147483647 : Int32)) % (19 : Int32)) = (7 : Int32) ∨ ((x &&& (2147483647 : Int32)) % (19 : Int32)) = (8 : Int32) ∨ ((x &&& (2147483647 : Int32)) % (19 : Int32)) = (9 : Int32) ∨ ((x &&& (2147483647 : Int32)) % (19 : Int32)) = (10 : Int32) ∨ ((x &&& (2147483647 : Int32)) % (19 : Int32)) = (11 : Int32) ∨ ((x &&& (2147483647 : Int32)) % (19 : Int32)) = (12 : Int32) ∨ ((x &&& (2147483647 : Int32)) % (19 : Int32)) = (13 : Int32) ∨ ((x &&& (2147483647 : Int32)) % (19 : Int32)) = (14 : Int32) ∨ ((x &&& (2147483647 : Int32)) % (19 : Int32)) = (15 : Int32) ∨ ((x &&& (2147483647 : Int32)) % (19 : Int32)) = (16 : Int32) ∨ ((x &&& (2147483647 : Int32)) % (19 : Int32)) = (17 : Int32) ∨ ((x &&& (2147483647 : Int32)) % (19 : Int32)) = (18 : Int32) := by
  have h1 := c_and x (2147483647 : Int32) (by decide)
  have h2 := (c_irem (x &&& (2147483647 : Int32)) (19 : Int32) 19 (by decide)).1 h1.1
  have h3 : 0 ≤ ((x &&& (2147483647 : Int32)) % (19 : Int32)).toInt ∧ ((x &&& (2147483647 : Int32)) % (19 : Int32)).toInt < 19 := by rw [h2]; omega
  clear h2
  generalize ((x &&& (2147483647 : Int32)) % (19 : Int32)) = r at h3 ⊢
  have q : r.toInt = 0 ∨ r.toInt = 1 ∨ r.toInt = 2 ∨ r.toInt = 3 ∨ r.toInt = 4 ∨ r.toInt = 5 ∨ r.toInt = 6 ∨ r.toInt = 7 ∨ r.toInt = 8 ∨ r.toInt = 9 ∨ r.toInt = 10 ∨ r.toInt = 11 ∨ r.toInt = 12 ∨ r.toInt = 13 ∨ r.toInt = 14 ∨ r.toInt = 15 ∨ r.toInt = 16 ∨ r.toInt = 17 ∨ r.toInt = 18 := by omega
  rcases q with q | q | q | q | q | q | q | q | q | q | q | q | q | q | q | q | q | q | q
  · exact (Or.inl (Int32.toInt_inj.mp (q.trans (by decide))))
  · exact (Or.inr (Or.inl (Int32.toInt_inj.mp (q.trans (by decide)))))
  · exact (Or.inr (Or.inr (Or.inl (Int32.toInt_inj.mp (q.trans (by decide))))))
  · exact (Or.inr (Or.inr (Or.inr (Or.inl (Int32.toInt_inj.mp (q.trans (by decide)))))))
  · exact (Or.inr (Or.inr (Or.inr (Or.inr (Or.inl (Int32.toInt_inj.mp (q.trans (by decide))))))))
  · exact (Or.inr (Or.inr (Or.inr (Or.inr (Or.inr (Or.inl (Int32.toInt_inj.mp (q.trans (by decide)))))))))
  · exact (Or.inr (Or.inr (Or.inr (Or.inr (Or.inr (Or.inr (Or.inl (Int32.toInt_inj.mp (q.trans (by decide))))))))))
  · exact (Or.inr (Or.inr (Or.inr (Or.inr (Or.inr (Or.inr (Or.inr (Or.inl (Int32.toInt_inj.mp (q.trans (by decide)))))))))))
  · exact (Or.inr (Or.inr (Or.inr (Or.inr (Or.inr (Or.inr (Or.inr (Or.inr (Or.inl (Int32.toInt_inj.mp (q.trans (by decide))))))))))))
  · exact (Or.inr (Or.inr (Or.inr (Or.inr (Or.inr (Or.inr (Or.inr (Or.inr (Or.inr (Or.inl (Int32.toInt_inj.mp (q.trans (by decide)))))))))))))
  · exact (Or.inr (Or.inr (Or.inr (Or.inr (Or.inr (Or.inr (Or.inr (Or.inr (Or.inr (Or.inr (Or.inl (Int32.toInt_inj.mp (q.trans (by decide))))))))))))))
  · exact (Or.inr (Or.inr (Or.inr (Or.inr (Or.inr (Or.inr (Or.inr (Or.inr (Or.inr (Or.inr (Or.inr (Or.inl (Int32.toInt_inj.mp (q.trans (by decide)))))))))))))))
  · exact (Or.inr (Or.inr (Or.inr (Or.inr (Or.inr (Or.inr (Or.inr (Or.inr (Or.inr (Or.inr (Or.inr (Or.inr (Or.inl (Int32.toInt_inj.mp (q.trans (by decide))))))))))))))))
  · exact (Or.inr (Or.inr (Or.inr (Or.inr (Or.inr (Or.inr (Or.inr (Or.inr (Or.inr (Or.inr (Or.inr (Or.inr (Or.inr (Or.inl (Int32.toInt_inj.mp (q.trans (by decide)))))))))))))))))
  · exact (Or.inr (Or.inr (Or.inr (Or.inr (Or.inr (Or.inr (Or.inr (Or.inr (Or.inr (Or.inr (Or.inr (Or.inr (Or.inr (Or.inr (Or.inl (Int32.toInt_inj.mp (q.trans (by decide))))))))))))))))))
  · exact (Or.inr (Or.inr (Or.inr (Or.inr (Or.inr (Or.inr (Or.inr (Or.inr (Or.inr (Or.inr (Or.inr (Or.inr (Or.inr (Or.inr (Or.inr (Or.inl (Int32.toInt_inj.mp (q.trans (by decide)))))))))))))))))))
  · exact (Or.inr (Or.inr (Or.inr (Or.inr (Or.inr (Or.inr (Or.inr (Or.inr (Or.inr (Or.inr (Or.inr (Or.inr (Or.inr (Or.inr (Or.inr (Or.inr (Or.inl (Int32.toInt_inj.mp (q.trans (by decide))))))))))))))))))))
  · exact (Or.inr (Or.inr (Or.inr (Or.inr (Or.inr (Or.inr (Or.inr (Or.inr (Or.inr (Or.inr (Or.inr (Or.inr (Or.inr (Or.inr (Or.inr (Or.inr (Or.inr (Or.inl (Int32.toInt_inj.mp (q.trans (by decide)))))))))))))))))))))
  · exact (Or.inr (Or.inr (Or.inr (Or.inr (Or.inr (Or.inr (Or.inr (Or.inr (Or.inr (Or.inr (Or.inr (Or.inr (Or.inr (Or.inr (Or.inr (Or.inr (Or.inr (Or.inr (Int32.toInt_inj.mp (q.trans (by decide)))))))))))))))))))))
theorem d_prog_92_method_6_code_0 : decode prog_92_method_6_code 0 = .ok (.aload_n 0, 1) := by decide +kernel
theorem d_prog_92_method_6_code_1 : decode prog_92_method_6_code 1 = .ok (.getfield 80, 3) := by decide +kernel
theorem d_prog_92_method_6_code_4 : decode prog_92_method_6_code 4 = .ok (.ldc 112, 2) := by decide +kernel
theorem d_prog_92_method_6_code_6 : decode prog_92_method_6_code 6 = .ok (.iand, 1) := by decide +kernel
theorem d_prog_92_method_6_code_7 : decode prog_92_method_6_code 7 = .ok (.sipush 4096, 3) := by decide +kernel
theorem d_prog_92_method_6_code_10 : decode prog_92_method_6_code 10 = .ok (.if_icmp .ne 7, 3) := by decide +kernel
theorem d_prog_92_method_6_code_17 : decode prog_92_method_6_code 17 = .ok (.iconst 0, 1) := by decide +kernel
theorem d_prog_92_method_6_code_18 : decode prog_92_method_6_code 18 = .ok (.ireturn, 1) := by decide +kernel
theorem ef_prog_92_method_6_code_A (m : MethodId) (x0 : Addr) : entryFrame m #[(.ref x0)] 1 = mkF m 0 #[.val (.ref x0)] [] := by first | (simp [entryFrame, mkF, argsToLocals, Value.category]; done) | rfl
theorem pn_com_example_plimsoll_plimsoll_wire_SaspType : plainName "com/example/plimsoll/plimsoll/wire/SaspType" = true := by first | (simp [plainName, overriddenIn]; done) | decide +kernel
set_option maxRecDepth 65536 in
set_option maxHeartbeats 40000000 in
theorem own_isMessage_0 (l : Launch) (Z : State) (a0 : Array Value) (hw : ∀ d ∈ tables_1, d.before a0 Z = true) (ws : List Jvm.Cond) (w0 w1 w2 w3 w4 w5 w6 w7 w8 w9 w10 w11 w12 w13 w14 w15 w16 w17 w18 : Addr) (h0 : Heap) (n0 : Nat) (Z0 : n0 ≤ h0.size) (P : own_P Z h0 w0 w1 w2 w3 w4 w5 w6 w7 w8 w9 w10 w11 w12 w13 w14 w15 w16 w17 w18) :
    MetFree l (⟨"com/example/plimsoll/plimsoll/wire/SaspType", "isMessage", "()Z"⟩ : MethodName) (head1 (Jvm.Cond.code (⟨"com/example/plimsoll/plimsoll/wire/SaspType", "isMessage", "()Z"⟩ : MethodName) prog_92_method_6_code 1 (some .boolean) :: ws) ({ frames := 0, cells := 0, slots := 0, locals := 0 } : Room)) (fun a U => a = #[(.ref w0)] ∧ Z.Warmed39 U.vm ∧ U.heap = h0) (fun _ _ _ _ _ => True) (fun _ U o U' => ∃ v L, o = .returned v ∧ own_Q (some (.int (0 : Int32))) h0 n0 v U'.heap L ∧ FrameEnd U o U' L ({ frames := 0, cells := 0, slots := 0, locals := 0 } : Room).cells ({ frames := 0, cells := 0, slots := 0, locals := 0 } : Room).slots) := by
  refine MetFree.of_bodySF (plainFor_of_name pn_com_example_plimsoll_plimsoll_wire_SaspType) hisR ?_
  intro p e s m args below meth c s₁ Bd hml0 hP hK
  obtain ⟨rfl, hZ, hh⟩ := hP
  have hx := Bd.exec
  have hby := Bd.bytes
  have hml : c.maxLocals = 1 := hml0
  have hown : s.vm.findClass "com/example/plimsoll/plimsoll/wire/SaspType" = some m.cls := findClass_of_methodNamed Bd.named
  have hnm := (name_of_methodNamed Bd.named Bd.method).1
  have X0 : Stand p l e ({ frames := 0, cells := 0, slots := 0, locals := 0 } : Room) s m #[(.ref w0)] below meth c s₁ [] 0 0 := Stand.of_body Bd
  have e0 : s₁.heap = h0 := by rw [← hh, Bd.state]; rfl
  have N0 := Fr.nil n0
  have pre0 : ∀ t, Steps p.tables e below (s₁.setTop (mkF m 0 #[.val (.ref w0)] [])) t → Steps p.tables e below (s₁.setTop (entryFrame m #[(.ref w0)] 1)) t := fun t k => castTop (ef_prog_92_method_6_code_A m w0) k
  have P0 := P; obtain ⟨S0, E0, F0_code, S1, E1, F1_code, S2, E2, F2_code, S3, E3, F3_code, S4, E4, F4_code, S5, E5, F5_code, S6, E6, F6_code, S7, E7, F7_code, S8, E8, F8_code, S9, E9, F9_code, S10, E10, F10_code, S11, E11, F11_code, S12, E12, F12_code, S13, E13, F13_code, S14, E14, F14_code, S15, E15, F15_code, S16, E16, F16_code, S17, E17, F17_code, S18, E18, F18_code⟩ := P0
  obtain ⟨T1, X1, e1, st1⟩ := getF X0 hx hZ hown (host := "") (Or.inl (hw _ (List.mem_of_getElem? (i := 48) rfl))) Via.refl e0 F0_code (g := (mkF m 1 #[.val (.ref w0)] [(.ref w0)])) rfl rfl (hb hby d_prog_92_method_6_code_1)
  obtain ⟨fs, hr, hrun, hended, hW, hsame⟩ := X1.leave (v := some (.int (0 : Int32))) (fun h => by rw [Bd.returns] at h; cases h)
  refine ⟨_, _, pre0 _ ?_, hrun, hended, _, _, rfl, ?_, ⟨_, rfl⟩, hW, hsame.mono (by decide) (by decide)⟩
  · show Steps p.tables e below (s₁.setTop (mkF m 0 #[.val (.ref w0)] [])) _
    refine XS.aloadN X0.here hx rfl (hb hby d_prog_92_method_6_code_0) rfl rfl ?_
    show Steps p.tables e below (s₁.setTop (mkF m 1 #[.val (.ref w0)] [(.ref w0)])) _
    refine st1 _ ?_
    show Steps p.tables e below (T1.setTop (mkF m 4 #[.val (.ref w0)] [(.int (8208 : Int32))])) _
    refine Jvm.Stand.ldcI X1 hx hown (mvT hZ (hw _ (List.mem_of_getElem? (i := 50) rfl))) rfl (hb hby d_prog_92_method_6_code_4) ?_
    show Steps p.tables e below (T1.setTop (mkF m 6 #[.val (.ref w0)] [(.int (61440 : Int32)), (.int (8208 : Int32))])) _
    refine XS.iand X1.here hx rfl (hb hby d_prog_92_method_6_code_6) rfl ?_
    rw [show ((8208 : Int32) &&& (61440 : Int32)) = (8192 : Int32) from by decide]
    show Steps p.tables e below (T1.setTop (mkF m 7 #[.val (.ref w0)] [(.int (8192 : Int32))])) _
    refine XT.sipushV X1.here hx rfl (4096 : Int32) (hb hby d_prog_92_method_6_code_7) (by decide) ?_
    show Steps p.tables e below (T1.setTop (mkF m 10 #[.val (.ref w0)] [(.int (4096 : Int32)), (.int (8192 : Int32))])) _
    refine XS.icmpYes X1.here hx rfl (pc0 := 10) (pc' := 17) rfl (hb hby d_prog_92_method_6_code_10) rfl (by decide) (by decide) (by decide) ?_
    show Steps p.tables e below (T1.setTop (mkF m 17 #[.val (.ref w0)] [])) _
    refine XT.iconstV X1.here hx rfl (0 : Int32) (hb hby d_prog_92_method_6_code_17) rfl ?_
    show Steps p.tables e below (T1.setTop (mkF m 18 #[.val (.ref w0)] [(.int (0 : Int32))])) _
    exact retN X1 hx (t := .boolean) Bd.returns (by simp) (hb hby d_prog_92_method_6_code_18) hr
  · show own_Q (some (.int (0 : Int32))) h0 n0 _ T1.heap _
    rw [e1]
    exact ⟨rfl, N0, rfl⟩
theorem d_prog_92_method_6_code_13 : decode prog_92_method_6_code 13 = .ok (.iconst 1, 1) := by decide +kernel
theorem d_prog_92_method_6_code_14 : decode prog_92_method_6_code 14 = .ok (.goto 4, 3) := by decide +kernel
set_option maxRecDepth 65536 in
set_option maxHeartbeats 40000000 in
theorem own_isMessage_1 (l : Launch) (Z : State) (a0 : Array Value) (hw : ∀ d ∈ tables_1, d.before a0 Z = true) (ws : List Jvm.Cond) (w0 w1 w2 w3 w4 w5 w6 w7 w8 w9 w10 w11 w12 w13 w14 w15 w16 w17 w18 : Addr) (h0 : Heap) (n0 : Nat) (Z0 : n0 ≤ h0.size) (P : own_P Z h0 w0 w1 w2 w3 w4 w5 w6 w7 w8 w9 w10 w11 w12 w13 w14 w15 w16 w17 w18) :
    MetFree l (⟨"com/example/plimsoll/plimsoll/wire/SaspType", "isMessage", "()Z"⟩ : MethodName) (head1 (Jvm.Cond.code (⟨"com/example/plimsoll/plimsoll/wire/SaspType", "isMessage", "()Z"⟩ : MethodName) prog_92_method_6_code 1 (some .boolean) :: ws) ({ frames := 0, cells := 0, slots := 0, locals := 0 } : Room)) (fun a U => a = #[(.ref w1)] ∧ Z.Warmed39 U.vm ∧ U.heap = h0) (fun _ _ _ _ _ => True) (fun _ U o U' => ∃ v L, o = .returned v ∧ own_Q (some (.int (1 : Int32))) h0 n0 v U'.heap L ∧ FrameEnd U o U' L ({ frames := 0, cells := 0, slots := 0, locals := 0 } : Room).cells ({ frames := 0, cells := 0, slots := 0, locals := 0 } : Room).slots) := by
  refine MetFree.of_bodySF (plainFor_of_name pn_com_example_plimsoll_plimsoll_wire_SaspType) hisR ?_
  intro p e s m args below meth c s₁ Bd hml0 hP hK
  obtain ⟨rfl, hZ, hh⟩ := hP
  have hx := Bd.exec
  have hby := Bd.bytes
  have hml : c.maxLocals = 1 := hml0
  have hown : s.vm.findClass "com/example/plimsoll/plimsoll/wire/SaspType" = some m.cls := findClass_of_methodNamed Bd.named
  have hnm := (name_of_methodNamed Bd.named Bd.method).1
  have X0 : Stand p l e ({ frames := 0, cells := 0, slots := 0, locals := 0 } : Room) s m #[(.ref w1)] below meth c s₁ [] 0 0 := Stand.of_body Bd
  have e0 : s₁.heap = h0 := by rw [← hh, Bd.state]; rfl
  have N0 := Fr.nil n0
  have pre0 : ∀ t, Steps p.tables e below (s₁.setTop (mkF m 0 #[.val (.ref w1)] [])) t → Steps p.tables e below (s₁.setTop (entryFrame m #[(.ref w1)] 1)) t := fun t k => castTop (ef_prog_92_method_6_code_A m w1) k
  have P0 := P; obtain ⟨S0, E0, F0_code, S1, E1, F1_code, S2, E2, F2_code, S3, E3, F3_code, S4, E4, F4_code, S5, E5, F5_code, S6, E6, F6_code, S7, E7, F7_code, S8, E8, F8_code, S9, E9, F9_code, S10, E10, F10_code, S11, E11, F11_code, S12, E12, F12_code, S13, E13, F13_code, S14, E14, F14_code, S15, E15, F15_code, S16, E16, F16_code, S17, E17, F17_code, S18, E18, F18_code⟩ := P0
  obtain ⟨T2, X2, e2, st2⟩ := getF X0 hx hZ hown (host := "") (Or.inl (hw _ (List.mem_of_getElem? (i := 48) rfl))) Via.refl e0 F1_code (g := (mkF m 1 #[.val (.ref w1)] [(.ref w1)])) rfl rfl (hb hby d_prog_92_method_6_code_1)
  obtain ⟨fs, hr, hrun, hended, hW, hsame⟩ := X2.leave (v := some (.int (1 : Int32))) (fun h => by rw [Bd.returns] at h; cases h)
  refine ⟨_, _, pre0 _ ?_, hrun, hended, _, _, rfl, ?_, ⟨_, rfl⟩, hW, hsame.mono (by decide) (by decide)⟩
  · show Steps p.tables e below (s₁.setTop (mkF m 0 #[.val (.ref w1)] [])) _
    refine XS.aloadN X0.here hx rfl (hb hby d_prog_92_method_6_code_0) rfl rfl ?_
    show Steps p.tables e below (s₁.setTop (mkF m 1 #[.val (.ref w1)] [(.ref w1)])) _
    refine st2 _ ?_
    show Steps p.tables e below (T2.setTop (mkF m 4 #[.val (.ref w1)] [(.int (4112 : Int32))])) _
    refine Jvm.Stand.ldcI X2 hx hown (mvT hZ (hw _ (List.mem_of_getElem? (i := 50) rfl))) rfl (hb hby d_prog_92_method_6_code_4) ?_
    show Steps p.tables e below (T2.setTop (mkF m 6 #[.val (.ref w1)] [(.int (61440 : Int32)), (.int (4112 : Int32))])) _
    refine XS.iand X2.here hx rfl (hb hby d_prog_92_method_6_code_6) rfl ?_
    rw [show ((4112 : Int32) &&& (61440 : Int32)) = (4096 : Int32) from by decide]
    show Steps p.tables e below (T2.setTop (mkF m 7 #[.val (.ref w1)] [(.int (4096 : Int32))])) _
    refine XT.sipushV X2.here hx rfl (4096 : Int32) (hb hby d_prog_92_method_6_code_7) (by decide) ?_
    show Steps p.tables e below (T2.setTop (mkF m 10 #[.val (.ref w1)] [(.int (4096 : Int32)), (.int (4096 : Int32))])) _
    refine XS.icmpNo X2.here hx rfl (hb hby d_prog_92_method_6_code_10) rfl (by decide) ?_
    show Steps p.tables e below (T2.setTop (mkF m 13 #[.val (.ref w1)] [])) _
    refine XT.iconstV X2.here hx rfl (1 : Int32) (hb hby d_prog_92_method_6_code_13) rfl ?_
    show Steps p.tables e below (T2.setTop (mkF m 14 #[.val (.ref w1)] [(.int (1 : Int32))])) _
    refine XS.goto X2.here hx rfl (pc0 := 14) (pc' := 18) rfl (hb hby d_prog_92_method_6_code_14) (by decide) (by decide) ?_
    show Steps p.tables e below (T2.setTop (mkF m 18 #[.val (.ref w1)] [(.int (1 : Int32))])) _
    exact retN X2 hx (t := .boolean) Bd.returns (by simp) (hb hby d_prog_92_method_6_code_18) hr
  · show own_Q (some (.int (1 : Int32))) h0 n0 _ T2.heap _
    rw [e2]
    exact ⟨rfl, N0, rfl⟩
set_option maxRecDepth 65536 in
set_option maxHeartbeats 40000000 in
theorem own_isMessage_2 (l : Launch) (Z : State) (a0 : Array Value) (hw : ∀ d ∈ tables_1, d.before a0 Z = true) (ws : List Jvm.Cond) (w0 w1 w2 w3 w4 w5 w6 w7 w8 w9 w10 w11 w12 w13 w14 w15 w16 w17 w18 : Addr) (h0 : Heap) (n0 : Nat) (Z0 : n0 ≤ h0.size) (P : own_P Z h0 w0 w1 w2 w3 w4 w5 w6 w7 w8 w9 w10 w11 w12 w13 w14 w15 w16 w17 w18) :
    MetFree l (⟨"com/example/plimsoll/plimsoll/wire/SaspType", "isMessage", "()Z"⟩ : MethodName) (head1 (Jvm.Cond.code (⟨"com/example/plimsoll/plimsoll/wire/SaspType", "isMessage", "()Z"⟩ : MethodName) prog_92_method_6_code 1 (some .boolean) :: ws) ({ frames := 0, cells := 0, slots := 0, locals := 0 } : Room)) (fun a U => a = #[(.ref w2)] ∧ Z.Warmed39 U.vm ∧ U.heap = h0) (fun _ _ _ _ _ => True) (fun _ U o U' => ∃ v L, o = .returned v ∧ own_Q (some (.int (1 : Int32))) h0 n0 v U'.heap L ∧ FrameEnd U o U' L ({ frames := 0, cells := 0, slots := 0, locals := 0 } : Room).cells ({ frames := 0, cells := 0, slots := 0, locals := 0 } : Room).slots) := by
  refine MetFree.of_bodySF (plainFor_of_name pn_com_example_plimsoll_plimsoll_wire_SaspType) hisR ?_
  intro p e s m args below meth c s₁ Bd hml0 hP hK
  obtain ⟨rfl, hZ, hh⟩ := hP
  have hx := Bd.exec
  have hby := Bd.bytes
  have hml : c.maxLocals = 1 := hml0
  have hown : s.vm.findClass "com/example/plimsoll/plimsoll/wire/SaspType" = some m.cls := findClass_of_methodNamed Bd.named
  have hnm := (name_of_methodNamed Bd.named Bd.method).1
  have X0 : Stand p l e ({ frames := 0, cells := 0, slots := 0, locals := 0 } : Room) s m #[(.ref w2)] below meth c s₁ [] 0 0 := Stand.of_body Bd
  have e0 : s₁.heap = h0 := by rw [← hh, Bd.state]; rfl
  have N0 := Fr.nil n0
  have pre0 : ∀ t, Steps p.tables e below (s₁.setTop (mkF m 0 #[.val (.ref w2)] [])) t → Steps p.tables e below (s₁.setTop (entryFrame m #[(.ref w2)] 1)) t := fun t k => castTop (ef_prog_92_method_6_code_A m w2) k
  have P0 := P; obtain ⟨S0, E0, F0_code, S1, E1, F1_code, S2, E2, F2_code, S3, E3, F3_code, S4, E4, F4_code, S5, E5, F5_code, S6, E6, F6_code, S7, E7, F7_code, S8, E8, F8_code, S9, E9, F9_code, S10, E10, F10_code, S11, E11, F11_code, S12, E12, F12_code, S13, E13, F13_code, S14, E14, F14_code, S15, E15, F15_code, S16, E16, F16_code, S17, E17, F17_code, S18, E18, F18_code⟩ := P0
  obtain ⟨T3, X3, e3, st3⟩ := getF X0 hx hZ hown (host := "") (Or.inl (hw _ (List.mem_of_getElem? (i := 48) rfl))) Via.refl e0 F2_code (g := (mkF m 1 #[.val (.ref w2)] [(.ref w2)])) rfl rfl (hb hby d_prog_92_method_6_code_1)
  obtain ⟨fs, hr, hrun, hended, hW, hsame⟩ := X3.leave (v := some (.int (1 : Int32))) (fun h => by rw [Bd.returns] at h; cases h)
  refine ⟨_, _, pre0 _ ?_, hrun, hended, _, _, rfl, ?_, ⟨_, rfl⟩, hW, hsame.mono (by decide) (by decide)⟩
  · show Steps p.tables e below (s₁.setTop (mkF m 0 #[.val (.ref w2)] [])) _
    refine XS.aloadN X0.here hx rfl (hb hby d_prog_92_method_6_code_0) rfl rfl ?_
    show Steps p.tables e below (s₁.setTop (mkF m 1 #[.val (.ref w2)] [(.ref w2)])) _
    refine st3 _ ?_
    show Steps p.tables e below (T3.setTop (mkF m 4 #[.val (.ref w2)] [(.int (4117 : Int32))])) _
    refine Jvm.Stand.ldcI X3 hx hown (mvT hZ (hw _ (List.mem_of_getElem? (i := 50) rfl))) rfl (hb hby d_prog_92_method_6_code_4) ?_
    show Steps p.tables e below (T3.setTop (mkF m 6 #[.val (.ref w2)] [(.int (61440 : Int32)), (.int (4117 : Int32))])) _
    refine XS.iand X3.here hx rfl (hb hby d_prog_92_method_6_code_6) rfl ?_
    rw [show ((4117 : Int32) &&& (61440 : Int32)) = (4096 : Int32) from by decide]
    show Steps p.tables e below (T3.setTop (mkF m 7 #[.val (.ref w2)] [(.int (4096 : Int32))])) _
    refine XT.sipushV X3.here hx rfl (4096 : Int32) (hb hby d_prog_92_method_6_code_7) (by decide) ?_
    show Steps p.tables e below (T3.setTop (mkF m 10 #[.val (.ref w2)] [(.int (4096 : Int32)), (.int (4096 : Int32))])) _
    refine XS.icmpNo X3.here hx rfl (hb hby d_prog_92_method_6_code_10) rfl (by decide) ?_
    show Steps p.tables e below (T3.setTop (mkF m 13 #[.val (.ref w2)] [])) _
    refine XT.iconstV X3.here hx rfl (1 : Int32) (hb hby d_prog_92_method_6_code_13) rfl ?_
    show Steps p.tables e below (T3.setTop (mkF m 14 #[.val (.ref w2)] [(.int (1 : Int32))])) _
    refine XS.goto X3.here hx rfl (pc0 := 14) (pc' := 18) rfl (hb hby d_prog_92_method_6_code_14) (by decide) (by decide) ?_
    show Steps p.tables e below (T3.setTop (mkF m 18 #[.val (.ref w2)] [(.int (1 : Int32))])) _
    exact retN X3 hx (t := .boolean) Bd.returns (by simp) (hb hby d_prog_92_method_6_code_18) hr
  · show own_Q (some (.int (1 : Int32))) h0 n0 _ T3.heap _
    rw [e3]
    exact ⟨rfl, N0, rfl⟩
set_option maxRecDepth 65536 in
set_option maxHeartbeats 40000000 in
theorem own_isMessage_3 (l : Launch) (Z : State) (a0 : Array Value) (hw : ∀ d ∈ tables_1, d.before a0 Z = true) (ws : List Jvm.Cond) (w0 w1 w2 w3 w4 w5 w6 w7 w8 w9 w10 w11 w12 w13 w14 w15 w16 w17 w18 : Addr) (h0 : Heap) (n0 : Nat) (Z0 : n0 ≤ h0.size) (P : own_P Z h0 w0 w1 w2 w3 w4 w5 w6 w7 w8 w9 w10 w11 w12 w13 w14 w15 w16 w17 w18) :
    MetFree l (⟨"com/example/plimsoll/plimsoll/wire/SaspType", "isMessage", "()Z"⟩ : MethodName) (head1 (Jvm.Cond.code (⟨"com/example/plimsoll/plimsoll/wire/SaspType", "isMessage", "()Z"⟩ : MethodName) prog_92_method_6_code 1 (some .boolean) :: ws) ({ frames := 0, cells := 0, slots := 0, locals := 0 } : Room)) (fun a U => a = #[(.ref w3)] ∧ Z.Warmed39 U.vm ∧ U.heap = h0) (fun _ _ _ _ _ => True) (fun _ U o U' => ∃ v L, o = .returned v ∧ own_Q (some (.int (1 : Int32))) h0 n0 v U'.heap L ∧ FrameEnd U o U' L ({ frames := 0, cells := 0, slots := 0, locals := 0 } : Room).cells ({ frames := 0, cells := 0, slots := 0, locals := 0 } : Room).slots) := by
  refine MetFree.of_bodySF (plainFor_of_name pn_com_example_plimsoll_plimsoll_wire_SaspType) hisR ?_
  intro p e s m args below meth c s₁ Bd hml0 hP hK
  obtain ⟨rfl, hZ, hh⟩ := hP
  have hx := Bd.exec
  have hby := Bd.bytes
  have hml : c.maxLocals = 1 := hml0
  have hown : s.vm.findClass "com/example/plimsoll/plimsoll/wire/SaspType" = some m.cls := findClass_of_methodNamed Bd.named
  have hnm := (name_of_methodNamed Bd.named Bd.method).1
  have X0 : Stand p l e ({ frames := 0, cells := 0, slots := 0, locals := 0 } : Room) s m #[(.ref w3)] below meth c s₁ [] 0 0 := Stand.of_body Bd
  have e0 : s₁.heap = h0 := by rw [← hh, Bd.state]; rfl
  have N0 := Fr.nil n0
  have pre0 : ∀ t, Steps p.tables e below (s₁.setTop (mkF m 0 #[.val (.ref w3)] [])) t → Steps p.tables e below (s₁.setTop (entryFrame m #[(.ref w3)] 1)) t := fun t k => castTop (ef_prog_92_method_6_code_A m w3) k
  have P0 := P; obtain ⟨S0, E0, F0_code, S1, E1, F1_code, S2, E2, F2_code, S3, E3, F3_code, S4, E4, F4_code, S5, E5, F5_code, S6, E6, F6_code, S7, E7, F7_code, S8, E8, F8_code, S9, E9, F9_code, S10, E10, F10_code, S11, E11, F11_code, S12, E12, F12_code, S13, E13, F13_code, S14, E14, F14_code, S15, E15, F15_code, S16, E16, F16_code, S17, E17, F17_code, S18, E18, F18_code⟩ := P0
  obtain ⟨T4, X4, e4, st4⟩ := getF X0 hx hZ hown (host := "") (Or.inl (hw _ (List.mem_of_getElem? (i := 48) rfl))) Via.refl e0 F3_code (g := (mkF m 1 #[.val (.ref w3)] [(.ref w3)])) rfl rfl (hb hby d_prog_92_method_6_code_1)
  obtain ⟨fs, hr, hrun, hended, hW, hsame⟩ := X4.leave (v := some (.int (1 : Int32))) (fun h => by rw [Bd.returns] at h; cases h)
  refine ⟨_, _, pre0 _ ?_, hrun, hended, _, _, rfl, ?_, ⟨_, rfl⟩, hW, hsame.mono (by decide) (by decide)⟩
  · show Steps p.tables e below (s₁.setTop (mkF m 0 #[.val (.ref w3)] [])) _
    refine XS.aloadN X0.here hx rfl (hb hby d_prog_92_method_6_code_0) rfl rfl ?_
    show Steps p.tables e below (s₁.setTop (mkF m 1 #[.val (.ref w3)] [(.ref w3)])) _
    refine st4 _ ?_
    show Steps p.tables e below (T4.setTop (mkF m 4 #[.val (.ref w3)] [(.int (4128 : Int32))])) _
    refine Jvm.Stand.ldcI X4 hx hown (mvT hZ (hw _ (List.mem_of_getElem? (i := 50) rfl))) rfl (hb hby d_prog_92_method_6_code_4) ?_
    show Steps p.tables e below (T4.setTop (mkF m 6 #[.val (.ref w3)] [(.int (61440 : Int32)), (.int (4128 : Int32))])) _
    refine XS.iand X4.here hx rfl (hb hby d_prog_92_method_6_code_6) rfl ?_
    rw [show ((4128 : Int32) &&& (61440 : Int32)) = (4096 : Int32) from by decide]
    show Steps p.tables e below (T4.setTop (mkF m 7 #[.val (.ref w3)] [(.int (4096 : Int32))])) _
    refine XT.sipushV X4.here hx rfl (4096 : Int32) (hb hby d_prog_92_method_6_code_7) (by decide) ?_
    show Steps p.tables e below (T4.setTop (mkF m 10 #[.val (.ref w3)] [(.int (4096 : Int32)), (.int (4096 : Int32))])) _
    refine XS.icmpNo X4.here hx rfl (hb hby d_prog_92_method_6_code_10) rfl (by decide) ?_
    show Steps p.tables e below (T4.setTop (mkF m 13 #[.val (.ref w3)] [])) _
    refine XT.iconstV X4.here hx rfl (1 : Int32) (hb hby d_prog_92_method_6_code_13) rfl ?_
    show Steps p.tables e below (T4.setTop (mkF m 14 #[.val (.ref w3)] [(.int (1 : Int32))])) _
    refine XS.goto X4.here hx rfl (pc0 := 14) (pc' := 18) rfl (hb hby d_prog_92_method_6_code_14) (by decide) (by decide) ?_
    show Steps p.tables e below (T4.setTop (mkF m 18 #[.val (.ref w3)] [(.int (1 : Int32))])) _
    exact retN X4 hx (t := .boolean) Bd.returns (by simp) (hb hby d_prog_92_method_6_code_18) hr
  · show own_Q (some (.int (1 : Int32))) h0 n0 _ T4.heap _
    rw [e4]
    exact ⟨rfl, N0, rfl⟩
set_option maxRecDepth 65536 in
set_option maxHeartbeats 40000000 in
theorem own_isMessage_4 (l : Launch) (Z : State) (a0 : Array Value) (hw : ∀ d ∈ tables_1, d.before a0 Z = true) (ws : List Jvm.Cond) (w0 w1 w2 w3 w4 w5 w6 w7 w8 w9 w10 w11 w12 w13 w14 w15 w16 w17 w18 : Addr) (h0 : Heap) (n0 : Nat) (Z0 : n0 ≤ h0.size) (P : own_P Z h0 w0 w1 w2 w3 w4 w5 w6 w7 w8 w9 w10 w11 w12 w13 w14 w15 w16 w17 w18) :
    MetFree l (⟨"com/example/plimsoll/plimsoll/wire/SaspType", "isMessage", "()Z"⟩ : MethodName) (head1 (Jvm.Cond.code (⟨"com/example/plimsoll/plimsoll/wire/SaspType", "isMessage", "()Z"⟩ : MethodName) prog_92_method_6_code 1 (some .boolean) :: ws) ({ frames := 0, cells := 0, slots := 0, locals := 0 } : Room)) (fun a U => a = #[(.ref w4)] ∧ Z.Warmed39 U.vm ∧ U.heap = h0) (fun _ _ _ _ _ => True) (fun _ U o U' => ∃ v L, o = .returned v ∧ own_Q (some (.int (1 : Int32))) h0 n0 v U'.heap L ∧ FrameEnd U o U' L ({ frames := 0, cells := 0, slots := 0, locals := 0 } : Room).cells ({ frames := 0, cells := 0, slots := 0, locals := 0 } : Room).slots) := by
  refine MetFree.of_bodySF (plainFor_of_name pn_com_example_plimsoll_plimsoll_wire_SaspType) hisR ?_
  intro p e s m args below meth c s₁ Bd hml0 hP hK
  obtain ⟨rfl, hZ, hh⟩ := hP
  have hx := Bd.exec
  have hby := Bd.bytes
  have hml : c.maxLocals = 1 := hml0
  have hown : s.vm.findClass "com/example/plimsoll/plimsoll/wire/SaspType" = some m.cls := findClass_of_methodNamed Bd.named
  have hnm := (name_of_methodNamed Bd.named Bd.method).1
  have X0 : Stand p l e ({ frames := 0, cells := 0, slots := 0, locals := 0 } : Room) s m #[(.ref w4)] below meth c s₁ [] 0 0 := Stand.of_body Bd
  have e0 : s₁.heap = h0 := by rw [← hh, Bd.state]; rfl
  have N0 := Fr.nil n0
  have pre0 : ∀ t, Steps p.tables e below (s₁.setTop (mkF m 0 #[.val (.ref w4)] [])) t → Steps p.tables e below (s₁.setTop (entryFrame m #[(.ref w4)] 1)) t := fun t k => castTop (ef_prog_92_method_6_code_A m w4) k
  have P0 := P; obtain ⟨S0, E0, F0_code, S1, E1, F1_code, S2, E2, F2_code, S3, E3, F3_code, S4, E4, F4_code, S5, E5, F5_code, S6, E6, F6_code, S7, E7, F7_code, S8, E8, F8_code, S9, E9, F9_code, S10, E10, F10_code, S11, E11, F11_code, S12, E12, F12_code, S13, E13, F13_code, S14, E14, F14_code, S15, E15, F15_code, S16, E16, F16_code, S17, E17, F17_code, S18, E18, F18_code⟩ := P0
  obtain ⟨T5, X5, e5, st5⟩ := getF X0 hx hZ hown (host := "") (Or.inl (hw _ (List.mem_of_getElem? (i := 48) rfl))) Via.refl e0 F4_code (g := (mkF m 1 #[.val (.ref w4)] [(.ref w4)])) rfl rfl (hb hby d_prog_92_method_6_code_1)
  obtain ⟨fs, hr, hrun, hended, hW, hsame⟩ := X5.leave (v := some (.int (1 : Int32))) (fun h => by rw [Bd.returns] at h; cases h)
  refine ⟨_, _, pre0 _ ?_, hrun, hended, _, _, rfl, ?_, ⟨_, rfl⟩, hW, hsame.mono (by decide) (by decide)⟩
  · show Steps p.tables e below (s₁.setTop (mkF m 0 #[.val (.ref w4)] [])) _
    refine XS.aloadN X0.here hx rfl (hb hby d_prog_92_method_6_code_0) rfl rfl ?_
    show Steps p.tables e below (s₁.setTop (mkF m 1 #[.val (.ref w4)] [(.ref w4)])) _
    refine st5 _ ?_
    show Steps p.tables e below (T5.setTop (mkF m 4 #[.val (.ref w4)] [(.int (4133 : Int32))])) _
    refine Jvm.Stand.ldcI X5 hx hown (mvT hZ (hw _ (List.mem_of_getElem? (i := 50) rfl))) rfl (hb hby d_prog_92_method_6_code_4) ?_
    show Steps p.tables e below (T5.setTop (mkF m 6 #[.val (.ref w4)] [(.int (61440 : Int32)), (.int (4133 : Int32))])) _
    refine XS.iand X5.here hx rfl (hb hby d_prog_92_method_6_code_6) rfl ?_
    rw [show ((4133 : Int32) &&& (61440 : Int32)) = (4096 : Int32) from by decide]
    show Steps p.tables e below (T5.setTop (mkF m 7 #[.val (.ref w4)] [(.int (4096 : Int32))])) _
    refine XT.sipushV X5.here hx rfl (4096 : Int32) (hb hby d_prog_92_method_6_code_7) (by decide) ?_
    show Steps p.tables e below (T5.setTop (mkF m 10 #[.val (.ref w4)] [(.int (4096 : Int32)), (.int (4096 : Int32))])) _
    refine XS.icmpNo X5.here hx rfl (hb hby d_prog_92_method_6_code_10) rfl (by decide) ?_
    show Steps p.tables e below (T5.setTop (mkF m 13 #[.val (.ref w4)] [])) _
    refine XT.iconstV X5.here hx rfl (1 : Int32) (hb hby d_prog_92_method_6_code_13) rfl ?_
    show Steps p.tables e below (T5.setTop (mkF m 14 #[.val (.ref w4)] [(.int (1 : Int32))])) _
    refine XS.goto X5.here hx rfl (pc0 := 14) (pc' := 18) rfl (hb hby d_prog_92_method_6_code_14) (by decide) (by decide) ?_
    show Steps p.tables e below (T5.setTop (mkF m 18 #[.val (.ref w4)] [(.int (1 : Int32))])) _
    exact retN X5 hx (t := .boolean) Bd.returns (by simp) (hb hby d_prog_92_method_6_code_18) hr
  · show own_Q (some (.int (1 : Int32))) h0 n0 _ T5.heap _
    rw [e5]
    exact ⟨rfl, N0, rfl⟩
set_option maxRecDepth 65536 in
set_option maxHeartbeats 40000000 in
theorem own_isMessage_5 (l : Launch) (Z : State) (a0 : Array Value) (hw : ∀ d ∈ tables_1, d.before a0 Z = true) (ws : List Jvm.Cond) (w0 w1 w2 w3 w4 w5 w6 w7 w8 w9 w10 w11 w12 w13 w14 w15 w16 w17 w18 : Addr) (h0 : Heap) (n0 : Nat) (Z0 : n0 ≤ h0.size) (P : own_P Z h0 w0 w1 w2 w3 w4 w5 w6 w7 w8 w9 w10 w11 w12 w13 w14 w15 w16 w17 w18) :
    MetFree l (⟨"com/example/plimsoll/plimsoll/wire/SaspType", "isMessage", "()Z"⟩ : MethodName) (head1 (Jvm.Cond.code (⟨"com/example/plimsoll/plimsoll/wire/SaspType", "isMessage", "()Z"⟩ : MethodName) prog_92_method_6_code 1 (some .boolean) :: ws) ({ frames := 0, cells := 0, slots := 0, locals := 0 } : Room)) (fun a U => a = #[(.ref w5)] ∧ Z.Warmed39 U.vm ∧ U.heap = h0) (fun _ _ _ _ _ => True) (fun _ U o U' => ∃ v L, o = .returned v ∧ own_Q (some (.int (1 : Int32))) h0 n0 v U'.heap L ∧ FrameEnd U o U' L ({ frames := 0, cells := 0, slots := 0, locals := 0 } : Room).cells ({ frames := 0, cells := 0, slots := 0, locals := 0 } : Room).slots) := by
  refine MetFree.of_bodySF (plainFor_of_name pn_com_example_plimsoll_plimsoll_wire_SaspType) hisR ?_
  intro p e s m args below meth c s₁ Bd hml0 hP hK
  obtain ⟨rfl, hZ, hh⟩ := hP
  have hx := Bd.exec
  have hby := Bd.bytes
  have hml : c.maxLocals = 1 := hml0
  have hown : s.vm.findClass "com/example/plimsoll/plimsoll/wire/SaspType" = some m.cls := findClass_of_methodNamed Bd.named
  have hnm := (name_of_methodNamed Bd.named Bd.method).1
  have X0 : Stand p l e ({ frames := 0, cells := 0, slots := 0, locals := 0 } : Room) s m #[(.ref w5)] below meth c s₁ [] 0 0 := Stand.of_body Bd
  have e0 : s₁.heap = h0 := by rw [← hh, Bd.state]; rfl
  have N0 := Fr.nil n0
  have pre0 : ∀ t, Steps p.tables e below (s₁.setTop (mkF m 0 #[.val (.ref w5)] [])) t → Steps p.tables e below (s₁.setTop (entryFrame m #[(.ref w5)] 1)) t := fun t k => castTop (ef_prog_92_method_6_code_A m w5) k
  have P0 := P; obtain ⟨S0, E0, F0_code, S1, E1, F1_code, S2, E2, F2_code, S3, E3, F3_code, S4, E4, F4_code, S5, E5, F5_code, S6, E6, F6_code, S7, E7, F7_code, S8, E8, F8_code, S9, E9, F9_code, S10, E10, F10_code, S11, E11, F11_code, S12, E12, F12_code, S13, E13, F13_code, S14, E14, F14_code, S15, E15, F15_code, S16, E16, F16_code, S17, E17, F17_code, S18, E18, F18_code⟩ := P0
  obtain ⟨T6, X6, e6, st6⟩ := getF X0 hx hZ hown (host := "") (Or.inl (hw _ (List.mem_of_getElem? (i := 48) rfl))) Via.refl e0 F5_code (g := (mkF m 1 #[.val (.ref w5)] [(.ref w5)])) rfl rfl (hb hby d_prog_92_method_6_code_1)
  obtain ⟨fs, hr, hrun, hended, hW, hsame⟩ := X6.leave (v := some (.int (1 : Int32))) (fun h => by rw [Bd.returns] at h; cases h)
  refine ⟨_, _, pre0 _ ?_, hrun, hended, _, _, rfl, ?_, ⟨_, rfl⟩, hW, hsame.mono (by decide) (by decide)⟩
  · show Steps p.tables e below (s₁.setTop (mkF m 0 #[.val (.ref w5)] [])) _
    refine XS.aloadN X0.here hx rfl (hb hby d_prog_92_method_6_code_0) rfl rfl ?_
    show Steps p.tables e below (s₁.setTop (mkF m 1 #[.val (.ref w5)] [(.ref w5)])) _
    refine st6 _ ?_
    show Steps p.tables e below (T6.setTop (mkF m 4 #[.val (.ref w5)] [(.int (4144 : Int32))])) _
    refine Jvm.Stand.ldcI X6 hx hown (mvT hZ (hw _ (List.mem_of_getElem? (i := 50) rfl))) rfl (hb hby d_prog_92_method_6_code_4) ?_
    show Steps p.tables e below (T6.setTop (mkF m 6 #[.val (.ref w5)] [(.int (61440 : Int32)), (.int (4144 : Int32))])) _
    refine XS.iand X6.here hx rfl (hb hby d_prog_92_method_6_code_6) rfl ?_
    rw [show ((4144 : Int32) &&& (61440 : Int32)) = (4096 : Int32) from by decide]
    show Steps p.tables e below (T6.setTop (mkF m 7 #[.val (.ref w5)] [(.int (4096 : Int32))])) _
    refine XT.sipushV X6.here hx rfl (4096 : Int32) (hb hby d_prog_92_method_6_code_7) (by decide) ?_
    show Steps p.tables e below (T6.setTop (mkF m 10 #[.val (.ref w5)] [(.int (4096 : Int32)), (.int (4096 : Int32))])) _
    refine XS.icmpNo X6.here hx rfl (hb hby d_prog_92_method_6_code_10) rfl (by decide) ?_
    show Steps p.tables e below (T6.setTop (mkF m 13 #[.val (.ref w5)] [])) _
    refine XT.iconstV X6.here hx rfl (1 : Int32) (hb hby d_prog_92_method_6_code_13) rfl ?_
    show Steps p.tables e below (T6.setTop (mkF m 14 #[.val (.ref w5)] [(.int (1 : Int32))])) _
    refine XS.goto X6.here hx rfl (pc0 := 14) (pc' := 18) rfl (hb hby d_prog_92_method_6_code_14) (by decide) (by decide) ?_
    show Steps p.tables e below (T6.setTop (mkF m 18 #[.val (.ref w5)] [(.int (1 : Int32))])) _
    exact retN X6 hx (t := .boolean) Bd.returns (by simp) (hb hby d_prog_92_method_6_code_18) hr
  · show own_Q (some (.int (1 : Int32))) h0 n0 _ T6.heap _
    rw [e6]
    exact ⟨rfl, N0, rfl⟩
set_option maxRecDepth 65536 in
set_option maxHeartbeats 40000000 in
theorem own_isMessage_6 (l : Launch) (Z : State) (a0 : Array Value) (hw : ∀ d ∈ tables_1, d.before a0 Z = true) (ws : List Jvm.Cond) (w0 w1 w2 w3 w4 w5 w6 w7 w8 w9 w10 w11 w12 w13 w14 w15 w16 w17 w18 : Addr) (h0 : Heap) (n0 : Nat) (Z0 : n0 ≤ h0.size) (P : own_P Z h0 w0 w1 w2 w3 w4 w5 w6 w7 w8 w9 w10 w11 w12 w13 w14 w15 w16 w17 w18) :
    MetFree l (⟨"com/example/plimsoll/plimsoll/wire/SaspType", "isMessage", "()Z"⟩ : MethodName) (head1 (Jvm.Cond.code (⟨"com/example/plimsoll/plimsoll/wire/SaspType", "isMessage", "()Z"⟩ : MethodName) prog_92_method_6_code 1 (some .boolean) :: ws) ({ frames := 0, cells := 0, slots := 0, locals := 0 } : Room)) (fun a U => a = #[(.ref w6)] ∧ Z.Warmed39 U.vm ∧ U.heap = h0) (fun _ _ _ _ _ => True) (fun _ U o U' => ∃ v L, o = .returned v ∧ own_Q (some (.int (1 : Int32))) h0 n0 v U'.heap L ∧ FrameEnd U o U' L ({ frames := 0, cells := 0, slots := 0, locals := 0 } : Room).cells ({ frames := 0, cells := 0, slots := 0, locals := 0 } : Room).slots) := by
  refine MetFree.of_bodySF (plainFor_of_name pn_com_example_plimsoll_plimsoll_wire_SaspType) hisR ?_
  intro p e s m args below meth c s₁ Bd hml0 hP hK
  obtain ⟨rfl, hZ, hh⟩ := hP
  have hx := Bd.exec
  have hby := Bd.bytes
  have hml : c.maxLocals = 1 := hml0
  have hown : s.vm.findClass "com/example/plimsoll/plimsoll/wire/SaspType" = some m.cls := findClass_of_methodNamed Bd.named
  have hnm := (name_of_methodNamed Bd.named Bd.method).1
  have X0 : Stand p l e ({ frames := 0, cells := 0, slots := 0, locals := 0 } : Room) s m #[(.ref w6)] below meth c s₁ [] 0 0 := Stand.of_body Bd
  have e0 : s₁.heap = h0 := by rw [← hh, Bd.state]; rfl
  have N0 := Fr.nil n0
  have pre0 : ∀ t, Steps p.tables e below (s₁.setTop (mkF m 0 #[.val (.ref w6)] [])) t → Steps p.tables e below (s₁.setTop (entryFrame m #[(.ref w6)] 1)) t := fun t k => castTop (ef_prog_92_method_6_code_A m w6) k
  have P0 := P; obtain ⟨S0, E0, F0_code, S1, E1, F1_code, S2, E2, F2_code, S3, E3, F3_code, S4, E4, F4_code, S5, E5, F5_code, S6, E6, F6_code, S7, E7, F7_code, S8, E8, F8_code, S9, E9, F9_code, S10, E10, F10_code, S11, E11, F11_code, S12, E12, F12_code, S13, E13, F13_code, S14, E14, F14_code, S15, E15, F15_code, S16, E16, F16_code, S17, E17, F17_code, S18, E18, F18_code⟩ := P0
  obtain ⟨T7, X7, e7, st7⟩ := getF X0 hx hZ hown (host := "") (Or.inl (hw _ (List.mem_of_getElem? (i := 48) rfl))) Via.refl e0 F6_code (g := (mkF m 1 #[.val (.ref w6)] [(.ref w6)])) rfl rfl (hb hby d_prog_92_method_6_code_1)
  obtain ⟨fs, hr, hrun, hended, hW, hsame⟩ := X7.leave (v := some (.int (1 : Int32))) (fun h => by rw [Bd.returns] at h; cases h)
  refine ⟨_, _, pre0 _ ?_, hrun, hended, _, _, rfl, ?_, ⟨_, rfl⟩, hW, hsame.mono (by decide) (by decide)⟩
  · show Steps p.tables e below (s₁.setTop (mkF m 0 #[.val (.ref w6)] [])) _
    refine XS.aloadN X0.here hx rfl (hb hby d_prog_92_method_6_code_0) rfl rfl ?_
    show Steps p.tables e below (s₁.setTop (mkF m 1 #[.val (.ref w6)] [(.ref w6)])) _
    refine st7 _ ?_
    show Steps p.tables e below (T7.setTop (mkF m 4 #[.val (.ref w6)] [(.int (4149 : Int32))])) _
    refine Jvm.Stand.ldcI X7 hx hown (mvT hZ (hw _ (List.mem_of_getElem? (i := 50) rfl))) rfl (hb hby d_prog_92_method_6_code_4) ?_
    show Steps p.tables e below (T7.setTop (mkF m 6 #[.val (.ref w6)] [(.int (61440 : Int32)), (.int (4149 : Int32))])) _
    refine XS.iand X7.here hx rfl (hb hby d_prog_92_method_6_code_6) rfl ?_
    rw [show ((4149 : Int32) &&& (61440 : Int32)) = (4096 : Int32) from by decide]
    show Steps p.tables e below (T7.setTop (mkF m 7 #[.val (.ref w6)] [(.int (4096 : Int32))])) _
    refine XT.sipushV X7.here hx rfl (4096 : Int32) (hb hby d_prog_92_method_6_code_7) (by decide) ?_
    show Steps p.tables e below (T7.setTop (mkF m 10 #[.val (.ref w6)] [(.int (4096 : Int32)), (.int (4096 : Int32))])) _
    refine XS.icmpNo X7.here hx rfl (hb hby d_prog_92_method_6_code_10) rfl (by decide) ?_
    show Steps p.tables e below (T7.setTop (mkF m 13 #[.val (.ref w6)] [])) _
    refine XT.iconstV X7.here hx rfl (1 : Int32) (hb hby d_prog_92_method_6_code_13) rfl ?_
    show Steps p.tables e below (T7.setTop (mkF m 14 #[.val (.ref w6)] [(.int (1 : Int32))])) _
    refine XS.goto X7.here hx rfl (pc0 := 14) (pc' := 18) rfl (hb hby d_prog_92_method_6_code_14) (by decide) (by decide) ?_
    show Steps p.tables e below (T7.setTop (mkF m 18 #[.val (.ref w6)] [(.int (1 : Int32))])) _
    exact retN X7 hx (t := .boolean) Bd.returns (by simp) (hb hby d_prog_92_method_6_code_18) hr
  · show own_Q (some (.int (1 : Int32))) h0 n0 _ T7.heap _
    rw [e7]
    exact ⟨rfl, N0, rfl⟩
set_option maxRecDepth 65536 in
set_option maxHeartbeats 40000000 in
theorem own_isMessage_7 (l : Launch) (Z : State) (a0 : Array Value) (hw : ∀ d ∈ tables_1, d.before a0 Z = true) (ws : List Jvm.Cond) (w0 w1 w2 w3 w4 w5 w6 w7 w8 w9 w10 w11 w12 w13 w14 w15 w16 w17 w18 : Addr) (h0 : Heap) (n0 : Nat) (Z0 : n0 ≤ h0.size) (P : own_P Z h0 w0 w1 w2 w3 w4 w5 w6 w7 w8 w9 w10 w11 w12 w13 w14 w15 w16 w17 w18) :
    MetFree l (⟨"com/example/plimsoll/plimsoll/wire/SaspType", "isMessage", "()Z"⟩ : MethodName) (head1 (Jvm.Cond.code (⟨"com/example/plimsoll/plimsoll/wire/SaspType", "isMessage", "()Z"⟩ : MethodName) prog_92_method_6_code 1 (some .boolean) :: ws) ({ frames := 0, cells := 0, slots := 0, locals := 0 } : Room)) (fun a U => a = #[(.ref w7)] ∧ Z.Warmed39 U.vm ∧ U.heap = h0) (fun _ _ _ _ _ => True) (fun _ U o U' => ∃ v L, o = .returned v ∧ own_Q (some (.int (1 : Int32))) h0 n0 v U'.heap L ∧ FrameEnd U o U' L ({ frames := 0, cells := 0, slots := 0, locals := 0 } : Room).cells ({ frames := 0, cells := 0, slots := 0, locals := 0 } : Room).slots) := by
  refine MetFree.of_bodySF (plainFor_of_name pn_com_example_plimsoll_plimsoll_wire_SaspType) hisR ?_
  intro p e s m args below meth c s₁ Bd hml0 hP hK
  obtain ⟨rfl, hZ, hh⟩ := hP
  have hx := Bd.exec
  have hby := Bd.bytes
  have hml : c.maxLocals = 1 := hml0
  have hown : s.vm.findClass "com/example/plimsoll/plimsoll/wire/SaspType" = some m.cls := findClass_of_methodNamed Bd.named
  have hnm := (name_of_methodNamed Bd.named Bd.method).1
  have X0 : Stand p l e ({ frames := 0, cells := 0, slots := 0, locals := 0 } : Room) s m #[(.ref w7)] below meth c s₁ [] 0 0 := Stand.of_body Bd
  have e0 : s₁.heap = h0 := by rw [← hh, Bd.state]; rfl
  have N0 := Fr.nil n0
  have pre0 : ∀ t, Steps p.tables e below (s₁.setTop (mkF m 0 #[.val (.ref w7)] [])) t → Steps p.tables e below (s₁.setTop (entryFrame m #[(.ref w7)] 1)) t := fun t k => castTop (ef_prog_92_method_6_code_A m w7) k
  have P0 := P; obtain ⟨S0, E0, F0_code, S1, E1, F1_code, S2, E2, F2_code, S3, E3, F3_code, S4, E4, F4_code, S5, E5, F5_code, S6, E6, F6_code, S7, E7, F7_code, S8, E8, F8_code, S9, E9, F9_code, S10, E10, F10_code, S11, E11, F11_code, S12, E12, F12_code, S13, E13, F13_code, S14, E14, F14_code, S15, E15, F15_code, S16, E16, F16_code, S17, E17, F17_code, S18, E18, F18_code⟩ := P0
  obtain ⟨T8, X8, e8, st8⟩ := getF X0 hx hZ hown (host := "") (Or.inl (hw _ (List.mem_of_getElem? (i := 48) rfl))) Via.refl e0 F7_code (g := (mkF m 1 #[.val (.ref w7)] [(.ref w7)])) rfl rfl (hb hby d_prog_92_method_6_code_1)
  obtain ⟨fs, hr, hrun, hended, hW, hsame⟩ := X8.leave (v := some (.int (1 : Int32))) (fun h => by rw [Bd.returns] at h; cases h)
  refine ⟨_, _, pre0 _ ?_, hrun, hended, _, _, rfl, ?_, ⟨_, rfl⟩, hW, hsame.mono (by decide) (by decide)⟩
  · show Steps p.tables e below (s₁.setTop (mkF m 0 #[.val (.ref w7)] [])) _
    refine XS.aloadN X0.here hx rfl (hb hby d_prog_92_method_6_code_0) rfl rfl ?_
    show Steps p.tables e below (s₁.setTop (mkF m 1 #[.val (.ref w7)] [(.ref w7)])) _
    refine st8 _ ?_
    show Steps p.tables e below (T8.setTop (mkF m 4 #[.val (.ref w7)] [(.int (4160 : Int32))])) _
    refine Jvm.Stand.ldcI X8 hx hown (mvT hZ (hw _ (List.mem_of_getElem? (i := 50) rfl))) rfl (hb hby d_prog_92_method_6_code_4) ?_
    show Steps p.tables e below (T8.setTop (mkF m 6 #[.val (.ref w7)] [(.int (61440 : Int32)), (.int (4160 : Int32))])) _
    refine XS.iand X8.here hx rfl (hb hby d_prog_92_method_6_code_6) rfl ?_
    rw [show ((4160 : Int32) &&& (61440 : Int32)) = (4096 : Int32) from by decide]
    show Steps p.tables e below (T8.setTop (mkF m 7 #[.val (.ref w7)] [(.int (4096 : Int32))])) _
    refine XT.sipushV X8.here hx rfl (4096 : Int32) (hb hby d_prog_92_method_6_code_7) (by decide) ?_
    show Steps p.tables e below (T8.setTop (mkF m 10 #[.val (.ref w7)] [(.int (4096 : Int32)), (.int (4096 : Int32))])) _
    refine XS.icmpNo X8.here hx rfl (hb hby d_prog_92_method_6_code_10) rfl (by decide) ?_
    show Steps p.tables e below (T8.setTop (mkF m 13 #[.val (.ref w7)] [])) _
    refine XT.iconstV X8.here hx rfl (1 : Int32) (hb hby d_prog_92_method_6_code_13) rfl ?_
    show Steps p.tables e below (T8.setTop (mkF m 14 #[.val (.ref w7)] [(.int (1 : Int32))])) _
    refine XS.goto X8.here hx rfl (pc0 := 14) (pc' := 18) rfl (hb hby d_prog_92_method_6_code_14) (by decide) (by decide) ?_
    show Steps p.tables e below (T8.setTop (mkF m 18 #[.val (.ref w7)] [(.int (1 : Int32))])) _
    exact retN X8 hx (t := .boolean) Bd.returns (by simp) (hb hby d_prog_92_method_6_code_18) hr
  · show own_Q (some (.int (1 : Int32))) h0 n0 _ T8.heap _
    rw [e8]
    exact ⟨rfl, N0, rfl⟩
set_option maxRecDepth 65536 in
set_option maxHeartbeats 40000000 in
theorem own_isMessage_8 (l : Launch) (Z : State) (a0 : Array Value) (hw : ∀ d ∈ tables_1, d.before a0 Z = true) (ws : List Jvm.Cond) (w0 w1 w2 w3 w4 w5 w6 w7 w8 w9 w10 w11 w12 w13 w14 w15 w16 w17 w18 : Addr) (h0 : Heap) (n0 : Nat) (Z0 : n0 ≤ h0.size) (P : own_P Z h0 w0 w1 w2 w3 w4 w5 w6 w7 w8 w9 w10 w11 w12 w13 w14 w15 w16 w17 w18) :
    MetFree l (⟨"com/example/plimsoll/plimsoll/wire/SaspType", "isMessage", "()Z"⟩ : MethodName) (head1 (Jvm.Cond.code (⟨"com/example/plimsoll/plimsoll/wire/SaspType", "isMessage", "()Z"⟩ : MethodName) prog_92_method_6_code 1 (some .boolean) :: ws) ({ frames := 0, cells := 0, slots := 0, locals := 0 } : Room)) (fun a U => a = #[(.ref w8)] ∧ Z.Warmed39 U.vm ∧ U.heap = h0) (fun _ _ _ _ _ => True) (fun _ U o U' => ∃ v L, o = .returned v ∧ own_Q (some (.int (1 : Int32))) h0 n0 v U'.heap L ∧ FrameEnd U o U' L ({ frames := 0, cells := 0, slots := 0, locals := 0 } : Room).cells ({ frames := 0, cells := 0, slots := 0, locals := 0 } : Room).slots) := by
  refine MetFree.of_bodySF (plainFor_of_name pn_com_example_plimsoll_plimsoll_wire_SaspType) hisR ?_
  intro p e s m args below meth c s₁ Bd hml0 hP hK
  obtain ⟨rfl, hZ, hh⟩ := hP
  have hx := Bd.exec
  have hby := Bd.bytes
  have hml : c.maxLocals = 1 := hml0
  have hown : s.vm.findClass "com/example/plimsoll/plimsoll/wire/SaspType" = some m.cls := findClass_of_methodNamed Bd.named
  have hnm := (name_of_methodNamed Bd.named Bd.method).1
  have X0 : Stand p l e ({ frames := 0, cells := 0, slots := 0, locals := 0 } : Room) s m #[(.ref w8)] below meth c s₁ [] 0 0 := Stand.of_body Bd
  have e0 : s₁.heap = h0 := by rw [← hh, Bd.state]; rfl
  have N0 := Fr.nil n0
  have pre0 : ∀ t, Steps p.tables e below (s₁.setTop (mkF m 0 #[.val (.ref w8)] [])) t → Steps p.tables e below (s₁.setTop (entryFrame m #[(.ref w8)] 1)) t := fun t k => castTop (ef_prog_92_method_6_code_A m w8) k
  have P0 := P; obtain ⟨S0, E0, F0_code, S1, E1, F1_code, S2, E2, F2_code, S3, E3, F3_code, S4, E4, F4_code, S5, E5, F5_code, S6, E6, F6_code, S7, E7, F7_code, S8, E8, F8_code, S9, E9, F9_code, S10, E10, F10_code, S11, E11, F11_code, S12, E12, F12_code, S13, E13, F13_code, S14, E14, F14_code, S15, E15, F15_code, S16, E16, F16_code, S17, E17, F17_code, S18, E18, F18_code⟩ := P0
  obtain ⟨T9, X9, e9, st9⟩ := getF X0 hx hZ hown (host := "") (Or.inl (hw _ (List.mem_of_getElem? (i := 48) rfl))) Via.refl e0 F8_code (g := (mkF m 1 #[.val (.ref w8)] [(.ref w8)])) rfl rfl (hb hby d_prog_92_method_6_code_1)
  obtain ⟨fs, hr, hrun, hended, hW, hsame⟩ := X9.leave (v := some (.int (1 : Int32))) (fun h => by rw [Bd.returns] at h; cases h)
  refine ⟨_, _, pre0 _ ?_, hrun, hended, _, _, rfl, ?_, ⟨_, rfl⟩, hW, hsame.mono (by decide) (by decide)⟩
  · show Steps p.tables e below (s₁.setTop (mkF m 0 #[.val (.ref w8)] [])) _
    refine XS.aloadN X0.here hx rfl (hb hby d_prog_92_method_6_code_0) rfl rfl ?_
    show Steps p.tables e below (s₁.setTop (mkF m 1 #[.val (.ref w8)] [(.ref w8)])) _
    refine st9 _ ?_
    show Steps p.tables e below (T9.setTop (mkF m 4 #[.val (.ref w8)] [(.int (4176 : Int32))])) _
    refine Jvm.Stand.ldcI X9 hx hown (mvT hZ (hw _ (List.mem_of_getElem? (i := 50) rfl))) rfl (hb hby d_prog_92_method_6_code_4) ?_
    show Steps p.tables e below (T9.setTop (mkF m 6 #[.val (.ref w8)] [(.int (61440 : Int32)), (.int (4176 : Int32))])) _
    refine XS.iand X9.here hx rfl (hb hby d_prog_92_method_6_code_6) rfl ?_
    rw [show ((4176 : Int32) &&& (61440 : Int32)) = (4096 : Int32) from by decide]
    show Steps p.tables e below (T9.setTop (mkF m 7 #[.val (.ref w8)] [(.int (4096 : Int32))])) _
    refine XT.sipushV X9.here hx rfl (4096 : Int32) (hb hby d_prog_92_method_6_code_7) (by decide) ?_
    show Steps p.tables e below (T9.setTop (mkF m 10 #[.val (.ref w8)] [(.int (4096 : Int32)), (.int (4096 : Int32))])) _
    refine XS.icmpNo X9.here hx rfl (hb hby d_prog_92_method_6_code_10) rfl (by decide) ?_
    show Steps p.tables e below (T9.setTop (mkF m 13 #[.val (.ref w8)] [])) _
    refine XT.iconstV X9.here hx rfl (1 : Int32) (hb hby d_prog_92_method_6_code_13) rfl ?_
    show Steps p.tables e below (T9.setTop (mkF m 14 #[.val (.ref w8)] [(.int (1 : Int32))])) _
    refine XS.goto X9.here hx rfl (pc0 := 14) (pc' := 18) rfl (hb hby d_prog_92_method_6_code_14) (by decide) (by decide) ?_
    show Steps p.tables e below (T9.setTop (mkF m 18 #[.val (.ref w8)] [(.int (1 : Int32))])) _
    exact retN X9 hx (t := .boolean) Bd.returns (by simp) (hb hby d_prog_92_method_6_code_18) hr
  · show own_Q (some (.int (1 : Int32))) h0 n0 _ T9.heap _
    rw [e9]
    exact ⟨rfl, N0, rfl⟩
set_option maxRecDepth 65536 in
set_option maxHeartbeats 40000000 in
theorem own_isMessage_9 (l : Launch) (Z : State) (a0 : Array Value) (hw : ∀ d ∈ tables_1, d.before a0 Z = true) (ws : List Jvm.Cond) (w0 w1 w2 w3 w4 w5 w6 w7 w8 w9 w10 w11 w12 w13 w14 w15 w16 w17 w18 : Addr) (h0 : Heap) (n0 : Nat) (Z0 : n0 ≤ h0.size) (P : own_P Z h0 w0 w1 w2 w3 w4 w5 w6 w7 w8 w9 w10 w11 w12 w13 w14 w15 w16 w17 w18) :
    MetFree l (⟨"com/example/plimsoll/plimsoll/wire/SaspType", "isMessage", "()Z"⟩ : MethodName) (head1 (Jvm.Cond.code (⟨"com/example/plimsoll/plimsoll/wire/SaspType", "isMessage", "()Z"⟩ : MethodName) prog_92_method_6_code 1 (some .boolean) :: ws) ({ frames := 0, cells := 0, slots := 0, locals := 0 } : Room)) (fun a U => a = #[(.ref w9)] ∧ Z.Warmed39 U.vm ∧ U.heap = h0) (fun _ _ _ _ _ => True) (fun _ U o U' => ∃ v L, o = .returned v ∧ own_Q (some (.int (1 : Int32))) h0 n0 v U'.heap L ∧ FrameEnd U o U' L ({ frames := 0, cells := 0, slots := 0, locals := 0 } : Room).cells ({ frames := 0, cells := 0, slots := 0, locals := 0 } : Room).slots) := by
  refine MetFree.of_bodySF (plainFor_of_name pn_com_example_plimsoll_plimsoll_wire_SaspType) hisR ?_
  intro p e s m args below meth c s₁ Bd hml0 hP hK
  obtain ⟨rfl, hZ, hh⟩ := hP
  have hx := Bd.exec
  have hby := Bd.bytes
  have hml : c.maxLocals = 1 := hml0
  have hown : s.vm.findClass "com/example/plimsoll/plimsoll/wire/SaspType" = some m.cls := findClass_of_methodNamed Bd.named
  have hnm := (name_of_methodNamed Bd.named Bd.method).1
  have X0 : Stand p l e ({ frames := 0, cells := 0, slots := 0, locals := 0 } : Room) s m #[(.ref w9)] below meth c s₁ [] 0 0 := Stand.of_body Bd
  have e0 : s₁.heap = h0 := by rw [← hh, Bd.state]; rfl
  have N0 := Fr.nil n0
  have pre0 : ∀ t, Steps p.tables e below (s₁.setTop (mkF m 0 #[.val (.ref w9)] [])) t → Steps p.tables e below (s₁.setTop (entryFrame m #[(.ref w9)] 1)) t := fun t k => castTop (ef_prog_92_method_6_code_A m w9) k
  have P0 := P; obtain ⟨S0, E0, F0_code, S1, E1, F1_code, S2, E2, F2_code, S3, E3, F3_code, S4, E4, F4_code, S5, E5, F5_code, S6, E6, F6_code, S7, E7, F7_code, S8, E8, F8_code, S9, E9, F9_code, S10, E10, F10_code, S11, E11, F11_code, S12, E12, F12_code, S13, E13, F13_code, S14, E14, F14_code, S15, E15, F15_code, S16, E16, F16_code, S17, E17, F17_code, S18, E18, F18_code⟩ := P0
  obtain ⟨T10, X10, e10, st10⟩ := getF X0 hx hZ hown (host := "") (Or.inl (hw _ (List.mem_of_getElem? (i := 48) rfl))) Via.refl e0 F9_code (g := (mkF m 1 #[.val (.ref w9)] [(.ref w9)])) rfl rfl (hb hby d_prog_92_method_6_code_1)
  obtain ⟨fs, hr, hrun, hended, hW, hsame⟩ := X10.leave (v := some (.int (1 : Int32))) (fun h => by rw [Bd.returns] at h; cases h)
  refine ⟨_, _, pre0 _ ?_, hrun, hended, _, _, rfl, ?_, ⟨_, rfl⟩, hW, hsame.mono (by decide) (by decide)⟩
  · show Steps p.tables e below (s₁.setTop (mkF m 0 #[.val (.ref w9)] [])) _
    refine XS.aloadN X0.here hx rfl (hb hby d_prog_92_method_6_code_0) rfl rfl ?_
    show Steps p.tables e below (s₁.setTop (mkF m 1 #[.val (.ref w9)] [(.ref w9)])) _
    refine st10 _ ?_
    show Steps p.tables e below (T10.setTop (mkF m 4 #[.val (.ref w9)] [(.int (4181 : Int32))])) _
    refine Jvm.Stand.ldcI X10 hx hown (mvT hZ (hw _ (List.mem_of_getElem? (i := 50) rfl))) rfl (hb hby d_prog_92_method_6_code_4) ?_
    show Steps p.tables e below (T10.setTop (mkF m 6 #[.val (.ref w9)] [(.int (61440 : Int32)), (.int (4181 : Int32))])) _
    refine XS.iand X10.here hx rfl (hb hby d_prog_92_method_6_code_6) rfl ?_
    rw [show ((4181 : Int32) &&& (61440 : Int32)) = (4096 : Int32) from by decide]
    show Steps p.tables e below (T10.setTop (mkF m 7 #[.val (.ref w9)] [(.int (4096 : Int32))])) _
    refine XT.sipushV X10.here hx rfl (4096 : Int32) (hb hby d_prog_92_method_6_code_7) (by decide) ?_
    show Steps p.tables e below (T10.setTop (mkF m 10 #[.val (.ref w9)] [(.int (4096 : Int32)), (.int (4096 : Int32))])) _
    refine XS.icmpNo X10.here hx rfl (hb hby d_prog_92_method_6_code_10) rfl (by decide) ?_
    show Steps p.tables e below (T10.setTop (mkF m 13 #[.val (.ref w9)] [])) _
    refine XT.iconstV X10.here hx rfl (1 : Int32) (hb hby d_prog_92_method_6_code_13) rfl ?_
    show Steps p.tables e below (T10.setTop (mkF m 14 #[.val (.ref w9)] [(.int (1 : Int32))])) _
    refine XS.goto X10.here hx rfl (pc0 := 14) (pc' := 18) rfl (hb hby d_prog_92_method_6_code_14) (by decide) (by decide) ?_
    show Steps p.tables e below (T10.setTop (mkF m 18 #[.val (.ref w9)] [(.int (1 : Int32))])) _
    exact retN X10 hx (t := .boolean) Bd.returns (by simp) (hb hby d_prog_92_method_6_code_18) hr
  · show own_Q (some (.int (1 : Int32))) h0 n0 _ T10.heap _
    rw [e10]
    exact ⟨rfl, N0, rfl⟩
set_option maxRecDepth 65536 in
set_option maxHeartbeats 40000000 in
theorem own_isMessage_10 (l : Launch) (Z : State) (a0 : Array Value) (hw : ∀ d ∈ tables_1, d.before a0 Z = true) (ws : List Jvm.Cond) (w0 w1 w2 w3 w4 w5 w6 w7 w8 w9 w10 w11 w12 w13 w14 w15 w16 w17 w18 : Addr) (h0 : Heap) (n0 : Nat) (Z0 : n0 ≤ h0.size) (P : own_P Z h0 w0 w1 w2 w3 w4 w5 w6 w7 w8 w9 w10 w11 w12 w13 w14 w15 w16 w17 w18) :
    MetFree l (⟨"com/example/plimsoll/plimsoll/wire/SaspType", "isMessage", "()Z"⟩ : MethodName) (head1 (Jvm.Cond.code (⟨"com/example/plimsoll/plimsoll/wire/SaspType", "isMessage", "()Z"⟩ : MethodName) prog_92_method_6_code 1 (some .boolean) :: ws) ({ frames := 0, cells := 0, slots := 0, locals := 0 } : Room)) (fun a U => a = #[(.ref w10)] ∧ Z.Warmed39 U.vm ∧ U.heap = h0) (fun _ _ _ _ _ => True) (fun _ U o U' => ∃ v L, o = .returned v ∧ own_Q (some (.int (1 : Int32))) h0 n0 v U'.heap L ∧ FrameEnd U o U' L ({ frames := 0, cells := 0, slots := 0, locals := 0 } : Room).cells ({ frames := 0, cells := 0, slots := 0, locals := 0 } : Room).slots) := by
  refine MetFree.of_bodySF (plainFor_of_name pn_com_example_plimsoll_plimsoll_wire_SaspType) hisR ?_
  intro p e s m args below meth c s₁ Bd hml0 hP hK
  obtain ⟨rfl, hZ, hh⟩ := hP
  have hx := Bd.exec
  have hby := Bd.bytes
  have hml : c.maxLocals = 1 := hml0
  have hown : s.vm.findClass "com/example/plimsoll/plimsoll/wire/SaspType" = some m.cls := findClass_of_methodNamed Bd.named
  have hnm := (name_of_methodNamed Bd.named Bd.method).1
  have X0 : Stand p l e ({ frames := 0, cells := 0, slots := 0, locals := 0 } : Room) s m #[(.ref w10)] below meth c s₁ [] 0 0 := Stand.of_body Bd
  have e0 : s₁.heap = h0 := by rw [← hh, Bd.state]; rfl
  have N0 := Fr.nil n0
  have pre0 : ∀ t, Steps p.tables e below (s₁.setTop (mkF m 0 #[.val (.ref w10)] [])) t → Steps p.tables e below (s₁.setTop (entryFrame m #[(.ref w10)] 1)) t := fun t k => castTop (ef_prog_92_method_6_code_A m w10) k
  have P0 := P; obtain ⟨S0, E0, F0_code, S1, E1, F1_code, S2, E2, F2_code, S3, E3, F3_code, S4, E4, F4_code, S5, E5, F5_code, S6, E6, F6_code, S7, E7, F7_code, S8, E8, F8_code, S9, E9, F9_code, S10, E10, F10_code, S11, E11, F11_code, S12, E12, F12_code, S13, E13, F13_code, S14, E14, F14_code, S15, E15, F15_code, S16, E16, F16_code, S17, E17, F17_code, S18, E18, F18_code⟩ := P0
  obtain ⟨T11, X11, e11, st11⟩ := getF X0 hx hZ hown (host := "") (Or.inl (hw _ (List.mem_of_getElem? (i := 48) rfl))) Via.refl e0 F10_code (g := (mkF m 1 #[.val (.ref w10)] [(.ref w10)])) rfl rfl (hb hby d_prog_92_method_6_code_1)
  obtain ⟨fs, hr, hrun, hended, hW, hsame⟩ := X11.leave (v := some (.int (1 : Int32))) (fun h => by rw [Bd.returns] at h; cases h)
  refine ⟨_, _, pre0 _ ?_, hrun, hended, _, _, rfl, ?_, ⟨_, rfl⟩, hW, hsame.mono (by decide) (by decide)⟩
  · show Steps p.tables e below (s₁.setTop (mkF m 0 #[.val (.ref w10)] [])) _
    refine XS.aloadN X0.here hx rfl (hb hby d_prog_92_method_6_code_0) rfl rfl ?_
    show Steps p.tables e below (s₁.setTop (mkF m 1 #[.val (.ref w10)] [(.ref w10)])) _
    refine st11 _ ?_
    show Steps p.tables e below (T11.setTop (mkF m 4 #[.val (.ref w10)] [(.int (4192 : Int32))])) _
    refine Jvm.Stand.ldcI X11 hx hown (mvT hZ (hw _ (List.mem_of_getElem? (i := 50) rfl))) rfl (hb hby d_prog_92_method_6_code_4) ?_
    show Steps p.tables e below (T11.setTop (mkF m 6 #[.val (.ref w10)] [(.int (61440 : Int32)), (.int (4192 : Int32))])) _
    refine XS.iand X11.here hx rfl (hb hby d_prog_92_method_6_code_6) rfl ?_
    rw [show ((4192 : Int32) &&& (61440 : Int32)) = (4096 : Int32) from by decide]
    show Steps p.tables e below (T11.setTop (mkF m 7 #[.val (.ref w10)] [(.int (4096 : Int32))])) _
    refine XT.sipushV X11.here hx rfl (4096 : Int32) (hb hby d_prog_92_method_6_code_7) (by decide) ?_
    show Steps p.tables e below (T11.setTop (mkF m 10 #[.val (.ref w10)] [(.int (4096 : Int32)), (.int (4096 : Int32))])) _
    refine XS.icmpNo X11.here hx rfl (hb hby d_prog_92_method_6_code_10) rfl (by decide) ?_
    show Steps p.tables e below (T11.setTop (mkF m 13 #[.val (.ref w10)] [])) _
    refine XT.iconstV X11.here hx rfl (1 : Int32) (hb hby d_prog_92_method_6_code_13) rfl ?_
    show Steps p.tables e below (T11.setTop (mkF m 14 #[.val (.ref w10)] [(.int (1 : Int32))])) _
    refine XS.goto X11.here hx rfl (pc0 := 14) (pc' := 18) rfl (hb hby d_prog_92_method_6_code_14) (by decide) (by decide) ?_
    show Steps p.tables e below (T11.setTop (mkF m 18 #[.val (.ref w10)] [(.int (1 : Int32))])) _
    exact retN X11 hx (t := .boolean) Bd.returns (by simp) (hb hby d_prog_92_method_6_code_18) hr
  · show own_Q (some (.int (1 : Int32))) h0 n0 _ T11.heap _
    rw [e11]
    exact ⟨rfl, N0, rfl⟩
set_option maxRecDepth 65536 in
set_option maxHeartbeats 40000000 in
theorem own_isMessage_11 (l : Launch) (Z : State) (a0 : Array Value) (hw : ∀ d ∈ tables_1, d.before a0 Z = true) (ws : List Jvm.Cond) (w0 w1 w2 w3 w4 w5 w6 w7 w8 w9 w10 w11 w12 w13 w14 w15 w16 w17 w18 : Addr) (h0 : Heap) (n0 : Nat) (Z0 : n0 ≤ h0.size) (P : own_P Z h0 w0 w1 w2 w3 w4 w5 w6 w7 w8 w9 w10 w11 w12 w13 w14 w15 w16 w17 w18) :
    MetFree l (⟨"com/example/plimsoll/plimsoll/wire/SaspType", "isMessage", "()Z"⟩ : MethodName) (head1 (Jvm.Cond.code (⟨"com/example/plimsoll/plimsoll/wire/SaspType", "isMessage", "()Z"⟩ : MethodName) prog_92_method_6_code 1 (some .boolean) :: ws) ({ frames := 0, cells := 0, slots := 0, locals := 0 } : Room)) (fun a U => a = #[(.ref w11)] ∧ Z.Warmed39 U.vm ∧ U.heap = h0) (fun _ _ _ _ _ => True) (fun _ U o U' => ∃ v L, o = .returned v ∧ own_Q (some (.int (1 : Int32))) h0 n0 v U'.heap L ∧ FrameEnd U o U' L ({ frames := 0, cells := 0, slots := 0, locals := 0 } : Room).cells ({ frames := 0, cells := 0, slots := 0, locals := 0 } : Room).slots) := by
  refine MetFree.of_bodySF (plainFor_of_name pn_com_example_plimsoll_plimsoll_wire_SaspType) hisR ?_
  intro p e s m args below meth c s₁ Bd hml0 hP hK
  obtain ⟨rfl, hZ, hh⟩ := hP
  have hx := Bd.exec
  have hby := Bd.bytes
  have hml : c.maxLocals = 1 := hml0
  have hown : s.vm.findClass "com/example/plimsoll/plimsoll/wire/SaspType" = some m.cls := findClass_of_methodNamed Bd.named
  have hnm := (name_of_methodNamed Bd.named Bd.method).1
  have X0 : Stand p l e ({ frames := 0, cells := 0, slots := 0, locals := 0 } : Room) s m #[(.ref w11)] below meth c s₁ [] 0 0 := Stand.of_body Bd
  have e0 : s₁.heap = h0 := by rw [← hh, Bd.state]; rfl
  have N0 := Fr.nil n0
  have pre0 : ∀ t, Steps p.tables e below (s₁.setTop (mkF m 0 #[.val (.ref w11)] [])) t → Steps p.tables e below (s₁.setTop (entryFrame m #[(.ref w11)] 1)) t := fun t k => castTop (ef_prog_92_method_6_code_A m w11) k
  have P0 := P; obtain ⟨S0, E0, F0_code, S1, E1, F1_code, S2, E2, F2_code, S3, E3, F3_code, S4, E4, F4_code, S5, E5, F5_code, S6, E6, F6_code, S7, E7, F7_code, S8, E8, F8_code, S9, E9, F9_code, S10, E10, F10_code, S11, E11, F11_code, S12, E12, F12_code, S13, E13, F13_code, S14, E14, F14_code, S15, E15, F15_code, S16, E16, F16_code, S17, E17, F17_code, S18, E18, F18_code⟩ := P0
  obtain ⟨T12, X12, e12, st12⟩ := getF X0 hx hZ hown (host := "") (Or.inl (hw _ (List.mem_of_getElem? (i := 48) rfl))) Via.refl e0 F11_code (g := (mkF m 1 #[.val (.ref w11)] [(.ref w11)])) rfl rfl (hb hby d_prog_92_method_6_code_1)
  obtain ⟨fs, hr, hrun, hended, hW, hsame⟩ := X12.leave (v := some (.int (1 : Int32))) (fun h => by rw [Bd.returns] at h; cases h)
  refine ⟨_, _, pre0 _ ?_, hrun, hended, _, _, rfl, ?_, ⟨_, rfl⟩, hW, hsame.mono (by decide) (by decide)⟩
  · show Steps p.tables e below (s₁.setTop (mkF m 0 #[.val (.ref w11)] [])) _
    refine XS.aloadN X0.here hx rfl (hb hby d_prog_92_method_6_code_0) rfl rfl ?_
    show Steps p.tables e below (s₁.setTop (mkF m 1 #[.val (.ref w11)] [(.ref w11)])) _
    refine st12 _ ?_
    show Steps p.tables e below (T12.setTop (mkF m 4 #[.val (.ref w11)] [(.int (4197 : Int32))])) _
    refine Jvm.Stand.ldcI X12 hx hown (mvT hZ (hw _ (List.mem_of_getElem? (i := 50) rfl))) rfl (hb hby d_prog_92_method_6_code_4) ?_
    show Steps p.tables e below (T12.setTop (mkF m 6 #[.val (.ref w11)] [(.int (61440 : Int32)), (.int (4197 : Int32))])) _
    refine XS.iand X12.here hx rfl (hb hby d_prog_92_method_6_code_6) rfl ?_
    rw [show ((4197 : Int32) &&& (61440 : Int32)) = (4096 : Int32) from by decide]
    show Steps p.tables e below (T12.setTop (mkF m 7 #[.val (.ref w11)] [(.int (4096 : Int32))])) _
    refine XT.sipushV X12.here hx rfl (4096 : Int32) (hb hby d_prog_92_method_6_code_7) (by decide) ?_
    show Steps p.tables e below (T12.setTop (mkF m 10 #[.val (.ref w11)] [(.int (4096 : Int32)), (.int (4096 : Int32))])) _
    refine XS.icmpNo X12.here hx rfl (hb hby d_prog_92_method_6_code_10) rfl (by decide) ?_
    show Steps p.tables e below (T12.setTop (mkF m 13 #[.val (.ref w11)] [])) _
    refine XT.iconstV X12.here hx rfl (1 : Int32) (hb hby d_prog_92_method_6_code_13) rfl ?_
    show Steps p.tables e below (T12.setTop (mkF m 14 #[.val (.ref w11)] [(.int (1 : Int32))])) _
    refine XS.goto X12.here hx rfl (pc0 := 14) (pc' := 18) rfl (hb hby d_prog_92_method_6_code_14) (by decide) (by decide) ?_
    show Steps p.tables e below (T12.setTop (mkF m 18 #[.val (.ref w11)] [(.int (1 : Int32))])) _
    exact retN X12 hx (t := .boolean) Bd.returns (by simp) (hb hby d_prog_92_method_6_code_18) hr
  · show own_Q (some (.int (1 : Int32))) h0 n0 _ T12.heap _
    rw [e12]
    exact ⟨rfl, N0, rfl⟩
set_option maxRecDepth 65536 in
set_option maxHeartbeats 40000000 in
theorem own_isMessage_12 (l : Launch) (Z : State) (a0 : Array Value) (hw : ∀ d ∈ tables_1, d.before a0 Z = true) (ws : List Jvm.Cond) (w0 w1 w2 w3 w4 w5 w6 w7 w8 w9 w10 w11 w12 w13 w14 w15 w16 w17 w18 : Addr) (h0 : Heap) (n0 : Nat) (Z0 : n0 ≤ h0.size) (P : own_P Z h0 w0 w1 w2 w3 w4 w5 w6 w7 w8 w9 w10 w11 w12 w13 w14 w15 w16 w17 w18) :
    MetFree l (⟨"com/example/plimsoll/plimsoll/wire/SaspType", "isMessage", "()Z"⟩ : MethodName) (head1 (Jvm.Cond.code (⟨"com/example/plimsoll/plimsoll/wire/SaspType", "isMessage", "()Z"⟩ : MethodName) prog_92_method_6_code 1 (some .boolean) :: ws) ({ frames := 0, cells := 0, slots := 0, locals := 0 } : Room)) (fun a U => a = #[(.ref w12)] ∧ Z.Warmed39 U.vm ∧ U.heap = h0) (fun _ _ _ _ _ => True) (fun _ U o U' => ∃ v L, o = .returned v ∧ own_Q (some (.int (0 : Int32))) h0 n0 v U'.heap L ∧ FrameEnd U o U' L ({ frames := 0, cells := 0, slots := 0, locals := 0 } : Room).cells ({ frames := 0, cells := 0, slots := 0, locals := 0 } : Room).slots) := by
  refine MetFree.of_bodySF (plainFor_of_name pn_com_example_plimsoll_plimsoll_wire_SaspType) hisR ?_
  intro p e s m args below meth c s₁ Bd hml0 hP hK
  obtain ⟨rfl, hZ, hh⟩ := hP
  have hx := Bd.exec
  have hby := Bd.bytes
  have hml : c.maxLocals = 1 := hml0
  have hown : s.vm.findClass "com/example/plimsoll/plimsoll/wire/SaspType" = some m.cls := findClass_of_methodNamed Bd.named
  have hnm := (name_of_methodNamed Bd.named Bd.method).1
  have X0 : Stand p l e ({ frames := 0, cells := 0, slots := 0, locals := 0 } : Room) s m #[(.ref w12)] below meth c s₁ [] 0 0 := Stand.of_body Bd
  have e0 : s₁.heap = h0 := by rw [← hh, Bd.state]; rfl
  have N0 := Fr.nil n0
  have pre0 : ∀ t, Steps p.tables e below (s₁.setTop (mkF m 0 #[.val (.ref w12)] [])) t → Steps p.tables e below (s₁.setTop (entryFrame m #[(.ref w12)] 1)) t := fun t k => castTop (ef_prog_92_method_6_code_A m w12) k
  have P0 := P; obtain ⟨S0, E0, F0_code, S1, E1, F1_code, S2, E2, F2_code, S3, E3, F3_code, S4, E4, F4_code, S5, E5, F5_code, S6, E6, F6_code, S7, E7, F7_code, S8, E8, F8_code, S9, E9, F9_code, S10, E10, F10_code, S11, E11, F11_code, S12, E12, F12_code, S13, E13, F13_code, S14, E14, F14_code, S15, E15, F15_code, S16, E16, F16_code, S17, E17, F17_code, S18, E18, F18_code⟩ := P0
  obtain ⟨T13, X13, e13, st13⟩ := getF X0 hx hZ hown (host := "") (Or.inl (hw _ (List.mem_of_getElem? (i := 48) rfl))) Via.refl e0 F12_code (g := (mkF m 1 #[.val (.ref w12)] [(.ref w12)])) rfl rfl (hb hby d_prog_92_method_6_code_1)
  obtain ⟨fs, hr, hrun, hended, hW, hsame⟩ := X13.leave (v := some (.int (0 : Int32))) (fun h => by rw [Bd.returns] at h; cases h)
  refine ⟨_, _, pre0 _ ?_, hrun, hended, _, _, rfl, ?_, ⟨_, rfl⟩, hW, hsame.mono (by decide) (by decide)⟩
  · show Steps p.tables e below (s₁.setTop (mkF m 0 #[.val (.ref w12)] [])) _
    refine XS.aloadN X0.here hx rfl (hb hby d_prog_92_method_6_code_0) rfl rfl ?_
    show Steps p.tables e below (s₁.setTop (mkF m 1 #[.val (.ref w12)] [(.ref w12)])) _
    refine st13 _ ?_
    show Steps p.tables e below (T13.setTop (mkF m 4 #[.val (.ref w12)] [(.int (12304 : Int32))])) _
    refine Jvm.Stand.ldcI X13 hx hown (mvT hZ (hw _ (List.mem_of_getElem? (i := 50) rfl))) rfl (hb hby d_prog_92_method_6_code_4) ?_
    show Steps p.tables e below (T13.setTop (mkF m 6 #[.val (.ref w12)] [(.int (61440 : Int32)), (.int (12304 : Int32))])) _
    refine XS.iand X13.here hx rfl (hb hby d_prog_92_method_6_code_6) rfl ?_
    rw [show ((12304 : Int32) &&& (61440 : Int32)) = (12288 : Int32) from by decide]
    show Steps p.tables e below (T13.setTop (mkF m 7 #[.val (.ref w12)] [(.int (12288 : Int32))])) _
    refine XT.sipushV X13.here hx rfl (4096 : Int32) (hb hby d_prog_92_method_6_code_7) (by decide) ?_
    show Steps p.tables e below (T13.setTop (mkF m 10 #[.val (.ref w12)] [(.int (4096 : Int32)), (.int (12288 : Int32))])) _
    refine XS.icmpYes X13.here hx rfl (pc0 := 10) (pc' := 17) rfl (hb hby d_prog_92_method_6_code_10) rfl (by decide) (by decide) (by decide) ?_
    show Steps p.tables e below (T13.setTop (mkF m 17 #[.val (.ref w12)] [])) _
    refine XT.iconstV X13.here hx rfl (0 : Int32) (hb hby d_prog_92_method_6_code_17) rfl ?_
    show Steps p.tables e below (T13.setTop (mkF m 18 #[.val (.ref w12)] [(.int (0 : Int32))])) _
    exact retN X13 hx (t := .boolean) Bd.returns (by simp) (hb hby d_prog_92_method_6_code_18) hr
  · show own_Q (some (.int (0 : Int32))) h0 n0 _ T13.heap _
    rw [e13]
    exact ⟨rfl, N0, rfl⟩
set_option maxRecDepth 65536 in
set_option maxHeartbeats 40000000 in
theorem own_isMessage_13 (l : Launch) (Z : State) (a0 : Array Value) (hw : ∀ d ∈ tables_1, d.before a0 Z = true) (ws : List Jvm.Cond) (w0 w1 w2 w3 w4 w5 w6 w7 w8 w9 w10 w11 w12 w13 w14 w15 w16 w17 w18 : Addr) (h0 : Heap) (n0 : Nat) (Z0 : n0 ≤ h0.size) (P : own_P Z h0 w0 w1 w2 w3 w4 w5 w6 w7 w8 w9 w10 w11 w12 w13 w14 w15 w16 w17 w18) :
    MetFree l (⟨"com/example/plimsoll/plimsoll/wire/SaspType", "isMessage", "()Z"⟩ : MethodName) (head1 (Jvm.Cond.code (⟨"com/example/plimsoll/plimsoll/wire/SaspType", "isMessage", "()Z"⟩ : MethodName) prog_92_method_6_code 1 (some .boolean) :: ws) ({ frames := 0, cells := 0, slots := 0, locals := 0 } : Room)) (fun a U => a = #[(.ref w13)] ∧ Z.Warmed39 U.vm ∧ U.heap = h0) (fun _ _ _ _ _ => True) (fun _ U o U' => ∃ v L, o = .returned v ∧ own_Q (some (.int (0 : Int32))) h0 n0 v U'.heap L ∧ FrameEnd U o U' L ({ frames := 0, cells := 0, slots := 0, locals := 0 } : Room).cells ({ frames := 0, cells := 0, slots := 0, locals := 0 } : Room).slots) := by
  refine MetFree.of_bodySF (plainFor_of_name pn_com_example_plimsoll_plimsoll_wire_SaspType) hisR ?_
  intro p e s m args below meth c s₁ Bd hml0 hP hK
  obtain ⟨rfl, hZ, hh⟩ := hP
  have hx := Bd.exec
  have hby := Bd.bytes
  have hml : c.maxLocals = 1 := hml0
  have hown : s.vm.findClass "com/example/plimsoll/plimsoll/wire/SaspType" = some m.cls := findClass_of_methodNamed Bd.named
  have hnm := (name_of_methodNamed Bd.named Bd.method).1
  have X0 : Stand p l e ({ frames := 0, cells := 0, slots := 0, locals := 0 } : Room) s m #[(.ref w13)] below meth c s₁ [] 0 0 := Stand.of_body Bd
  have e0 : s₁.heap = h0 := by rw [← hh, Bd.state]; rfl
  have N0 := Fr.nil n0
  have pre0 : ∀ t, Steps p.tables e below (s₁.setTop (mkF m 0 #[.val (.ref w13)] [])) t → Steps p.tables e below (s₁.setTop (entryFrame m #[(.ref w13)] 1)) t := fun t k => castTop (ef_prog_92_method_6_code_A m w13) k
  have P0 := P; obtain ⟨S0, E0, F0_code, S1, E1, F1_code, S2, E2, F2_code, S3, E3, F3_code, S4, E4, F4_code, S5, E5, F5_code, S6, E6, F6_code, S7, E7, F7_code, S8, E8, F8_code, S9, E9, F9_code, S10, E10, F10_code, S11, E11, F11_code, S12, E12, F12_code, S13, E13, F13_code, S14, E14, F14_code, S15, E15, F15_code, S16, E16, F16_code, S17, E17, F17_code, S18, E18, F18_code⟩ := P0
  obtain ⟨T14, X14, e14, st14⟩ := getF X0 hx hZ hown (host := "") (Or.inl (hw _ (List.mem_of_getElem? (i := 48) rfl))) Via.refl e0 F13_code (g := (mkF m 1 #[.val (.ref w13)] [(.ref w13)])) rfl rfl (hb hby d_prog_92_method_6_code_1)
  obtain ⟨fs, hr, hrun, hended, hW, hsame⟩ := X14.leave (v := some (.int (0 : Int32))) (fun h => by rw [Bd.returns] at h; cases h)
  refine ⟨_, _, pre0 _ ?_, hrun, hended, _, _, rfl, ?_, ⟨_, rfl⟩, hW, hsame.mono (by decide) (by decide)⟩
  · show Steps p.tables e below (s₁.setTop (mkF m 0 #[.val (.ref w13)] [])) _
    refine XS.aloadN X0.here hx rfl (hb hby d_prog_92_method_6_code_0) rfl rfl ?_
    show Steps p.tables e below (s₁.setTop (mkF m 1 #[.val (.ref w13)] [(.ref w13)])) _
    refine st14 _ ?_
    show Steps p.tables e below (T14.setTop (mkF m 4 #[.val (.ref w13)] [(.int (12305 : Int32))])) _
    refine Jvm.Stand.ldcI X14 hx hown (mvT hZ (hw _ (List.mem_of_getElem? (i := 50) rfl))) rfl (hb hby d_prog_92_method_6_code_4) ?_
    show Steps p.tables e below (T14.setTop (mkF m 6 #[.val (.ref w13)] [(.int (61440 : Int32)), (.int (12305 : Int32))])) _
    refine XS.iand X14.here hx rfl (hb hby d_prog_92_method_6_code_6) rfl ?_
    rw [show ((12305 : Int32) &&& (61440 : Int32)) = (12288 : Int32) from by decide]
    show Steps p.tables e below (T14.setTop (mkF m 7 #[.val (.ref w13)] [(.int (12288 : Int32))])) _
    refine XT.sipushV X14.here hx rfl (4096 : Int32) (hb hby d_prog_92_method_6_code_7) (by decide) ?_
    show Steps p.tables e below (T14.setTop (mkF m 10 #[.val (.ref w13)] [(.int (4096 : Int32)), (.int (12288 : Int32))])) _
    refine XS.icmpYes X14.here hx rfl (pc0 := 10) (pc' := 17) rfl (hb hby d_prog_92_method_6_code_10) rfl (by decide) (by decide) (by decide) ?_
    show Steps p.tables e below (T14.setTop (mkF m 17 #[.val (.ref w13)] [])) _
    refine XT.iconstV X14.here hx rfl (0 : Int32) (hb hby d_prog_92_method_6_code_17) rfl ?_
    show Steps p.tables e below (T14.setTop (mkF m 18 #[.val (.ref w13)] [(.int (0 : Int32))])) _
    exact retN X14 hx (t := .boolean) Bd.returns (by simp) (hb hby d_prog_92_method_6_code_18) hr
  · show own_Q (some (.int (0 : Int32))) h0 n0 _ T14.heap _
    rw [e14]
    exact ⟨rfl, N0, rfl⟩
set_option maxRecDepth 65536 in
set_option maxHeartbeats 40000000 in
theorem own_isMessage_14 (l : Launch) (Z : State) (a0 : Array Value) (hw : ∀ d ∈ tables_1, d.before a0 Z = true) (ws : List Jvm.Cond) (w0 w1 w2 w3 w4 w5 w6 w7 w8 w9 w10 w11 w12 w13 w14 w15 w16 w17 w18 : Addr) (h0 : Heap) (n0 : Nat) (Z0 : n0 ≤ h0.size) (P : own_P Z h0 w0 w1 w2 w3 w4 w5 w6 w7 w8 w9 w10 w11 w12 w13 w14 w15 w16 w17 w18) :
    MetFree l (⟨"com/example/plimsoll/plimsoll/wire/SaspType", "isMessage", "()Z"⟩ : MethodName) (head1 (Jvm.Cond.code (⟨"com/example/plimsoll/plimsoll/wire/SaspType", "isMessage", "()Z"⟩ : MethodName) prog_92_method_6_code 1 (some .boolean) :: ws) ({ frames := 0, cells := 0, slots := 0, locals := 0 } : Room)) (fun a U => a = #[(.ref w14)] ∧ Z.Warmed39 U.vm ∧ U.heap = h0) (fun _ _ _ _ _ => True) (fun _ U o U' => ∃ v L, o = .returned v ∧ own_Q (some (.int (0 : Int32))) h0 n0 v U'.heap L ∧ FrameEnd U o U' L ({ frames := 0, cells := 0, slots := 0, locals := 0 } : Room).cells ({ frames := 0, cells := 0, slots := 0, locals := 0 } : Room).slots) := by
  refine MetFree.of_bodySF (plainFor_of_name pn_com_example_plimsoll_plimsoll_wire_SaspType) hisR ?_
  intro p e s m args below meth c s₁ Bd hml0 hP hK
  obtain ⟨rfl, hZ, hh⟩ := hP
  have hx := Bd.exec
  have hby := Bd.bytes
  have hml : c.maxLocals = 1 := hml0
  have hown : s.vm.findClass "com/example/plimsoll/plimsoll/wire/SaspType" = some m.cls := findClass_of_methodNamed Bd.named
  have hnm := (name_of_methodNamed Bd.named Bd.method).1
  have X0 : Stand p l e ({ frames := 0, cells := 0, slots := 0, locals := 0 } : Room) s m #[(.ref w14)] below meth c s₁ [] 0 0 := Stand.of_body Bd
  have e0 : s₁.heap = h0 := by rw [← hh, Bd.state]; rfl
  have N0 := Fr.nil n0
  have pre0 : ∀ t, Steps p.tables e below (s₁.setTop (mkF m 0 #[.val (.ref w14)] [])) t → Steps p.tables e below (s₁.setTop (entryFrame m #[(.ref w14)] 1)) t := fun t k => castTop (ef_prog_92_method_6_code_A m w14) k
  have P0 := P; obtain ⟨S0, E0, F0_code, S1, E1, F1_code, S2, E2, F2_code, S3, E3, F3_code, S4, E4, F4_code, S5, E5, F5_code, S6, E6, F6_code, S7, E7, F7_code, S8, E8, F8_code, S9, E9, F9_code, S10, E10, F10_code, S11, E11, F11_code, S12, E12, F12_code, S13, E13, F13_code, S14, E14, F14_code, S15, E15, F15_code, S16, E16, F16_code, S17, E17, F17_code, S18, E18, F18_code⟩ := P0
  obtain ⟨T15, X15, e15, st15⟩ := getF X0 hx hZ hown (host := "") (Or.inl (hw _ (List.mem_of_getElem? (i := 48) rfl))) Via.refl e0 F14_code (g := (mkF m 1 #[.val (.ref w14)] [(.ref w14)])) rfl rfl (hb hby d_prog_92_method_6_code_1)
  obtain ⟨fs, hr, hrun, hended, hW, hsame⟩ := X15.leave (v := some (.int (0 : Int32))) (fun h => by rw [Bd.returns] at h; cases h)
  refine ⟨_, _, pre0 _ ?_, hrun, hended, _, _, rfl, ?_, ⟨_, rfl⟩, hW, hsame.mono (by decide) (by decide)⟩
  · show Steps p.tables e below (s₁.setTop (mkF m 0 #[.val (.ref w14)] [])) _
    refine XS.aloadN X0.here hx rfl (hb hby d_prog_92_method_6_code_0) rfl rfl ?_
    show Steps p.tables e below (s₁.setTop (mkF m 1 #[.val (.ref w14)] [(.ref w14)])) _
    refine st15 _ ?_
    show Steps p.tables e below (T15.setTop (mkF m 4 #[.val (.ref w14)] [(.int (12306 : Int32))])) _
    refine Jvm.Stand.ldcI X15 hx hown (mvT hZ (hw _ (List.mem_of_getElem? (i := 50) rfl))) rfl (hb hby d_prog_92_method_6_code_4) ?_
    show Steps p.tables e below (T15.setTop (mkF m 6 #[.val (.ref w14)] [(.int (61440 : Int32)), (.int (12306 : Int32))])) _
    refine XS.iand X15.here hx rfl (hb hby d_prog_92_method_6_code_6) rfl ?_
    rw [show ((12306 : Int32) &&& (61440 : Int32)) = (12288 : Int32) from by decide]
    show Steps p.tables e below (T15.setTop (mkF m 7 #[.val (.ref w14)] [(.int (12288 : Int32))])) _
    refine XT.sipushV X15.here hx rfl (4096 : Int32) (hb hby d_prog_92_method_6_code_7) (by decide) ?_
    show Steps p.tables e below (T15.setTop (mkF m 10 #[.val (.ref w14)] [(.int (4096 : Int32)), (.int (12288 : Int32))])) _
    refine XS.icmpYes X15.here hx rfl (pc0 := 10) (pc' := 17) rfl (hb hby d_prog_92_method_6_code_10) rfl (by decide) (by decide) (by decide) ?_
    show Steps p.tables e below (T15.setTop (mkF m 17 #[.val (.ref w14)] [])) _
    refine XT.iconstV X15.here hx rfl (0 : Int32) (hb hby d_prog_92_method_6_code_17) rfl ?_
    show Steps p.tables e below (T15.setTop (mkF m 18 #[.val (.ref w14)] [(.int (0 : Int32))])) _
    exact retN X15 hx (t := .boolean) Bd.returns (by simp) (hb hby d_prog_92_method_6_code_18) hr
  · show own_Q (some (.int (0 : Int32))) h0 n0 _ T15.heap _
    rw [e15]
    exact ⟨rfl, N0, rfl⟩
set_option maxRecDepth 65536 in
set_option maxHeartbeats 40000000 in
theorem own_isMessage_15 (l : Launch) (Z : State) (a0 : Array Value) (hw : ∀ d ∈ tables_1, d.before a0 Z = true) (ws : List Jvm.Cond) (w0 w1 w2 w3 w4 w5 w6 w7 w8 w9 w10 w11 w12 w13 w14 w15 w16 w17 w18 : Addr) (h0 : Heap) (n0 : Nat) (Z0 : n0 ≤ h0.size) (P : own_P Z h0 w0 w1 w2 w3 w4 w5 w6 w7 w8 w9 w10 w11 w12 w13 w14 w15 w16 w17 w18) :
    MetFree l (⟨"com/example/plimsoll/plimsoll/wire/SaspType", "isMessage", "()Z"⟩ : MethodName) (head1 (Jvm.Cond.code (⟨"com/example/plimsoll/plimsoll/wire/SaspType", "isMessage", "()Z"⟩ : MethodName) prog_92_method_6_code 1 (some .boolean) :: ws) ({ frames := 0, cells := 0, slots := 0, locals := 0 } : Room)) (fun a U => a = #[(.ref w15)] ∧ Z.Warmed39 U.vm ∧ U.heap = h0) (fun _ _ _ _ _ => True) (fun _ U o U' => ∃ v L, o = .returned v ∧ own_Q (some (.int (0 : Int32))) h0 n0 v U'.heap L ∧ FrameEnd U o U' L ({ frames := 0, cells := 0, slots := 0, locals := 0 } : Room).cells ({ frames := 0, cells := 0, slots := 0, locals := 0 } : Room).slots) := by
  refine MetFree.of_bodySF (plainFor_of_name pn_com_example_plimsoll_plimsoll_wire_SaspType) hisR ?_
  intro p e s m args below meth c s₁ Bd hml0 hP hK
  obtain ⟨rfl, hZ, hh⟩ := hP
  have hx := Bd.exec
  have hby := Bd.bytes
  have hml : c.maxLocals = 1 := hml0
  have hown : s.vm.findClass "com/example/plimsoll/plimsoll/wire/SaspType" = some m.cls := findClass_of_methodNamed Bd.named
  have hnm := (name_of_methodNamed Bd.named Bd.method).1
  have X0 : Stand p l e ({ frames := 0, cells := 0, slots := 0, locals := 0 } : Room) s m #[(.ref w15)] below meth c s₁ [] 0 0 := Stand.of_body Bd
  have e0 : s₁.heap = h0 := by rw [← hh, Bd.state]; rfl
  have N0 := Fr.nil n0
  have pre0 : ∀ t, Steps p.tables e below (s₁.setTop (mkF m 0 #[.val (.ref w15)] [])) t → Steps p.tables e below (s₁.setTop (entryFrame m #[(.ref w15)] 1)) t := fun t k => castTop (ef_prog_92_method_6_code_A m w15) k
  have P0 := P; obtain ⟨S0, E0, F0_code, S1, E1, F1_code, S2, E2, F2_code, S3, E3, F3_code, S4, E4, F4_code, S5, E5, F5_code, S6, E6, F6_code, S7, E7, F7_code, S8, E8, F8_code, S9, E9, F9_code, S10, E10, F10_code, S11, E11, F11_code, S12, E12, F12_code, S13, E13, F13_code, S14, E14, F14_code, S15, E15, F15_code, S16, E16, F16_code, S17, E17, F17_code, S18, E18, F18_code⟩ := P0
  obtain ⟨T16, X16, e16, st16⟩ := getF X0 hx hZ hown (host := "") (Or.inl (hw _ (List.mem_of_getElem? (i := 48) rfl))) Via.refl e0 F15_code (g := (mkF m 1 #[.val (.ref w15)] [(.ref w15)])) rfl rfl (hb hby d_prog_92_method_6_code_1)
  obtain ⟨fs, hr, hrun, hended, hW, hsame⟩ := X16.leave (v := some (.int (0 : Int32))) (fun h => by rw [Bd.returns] at h; cases h)
  refine ⟨_, _, pre0 _ ?_, hrun, hended, _, _, rfl, ?_, ⟨_, rfl⟩, hW, hsame.mono (by decide) (by decide)⟩
  · show Steps p.tables e below (s₁.setTop (mkF m 0 #[.val (.ref w15)] [])) _
    refine XS.aloadN X0.here hx rfl (hb hby d_prog_92_method_6_code_0) rfl rfl ?_
    show Steps p.tables e below (s₁.setTop (mkF m 1 #[.val (.ref w15)] [(.ref w15)])) _
    refine st16 _ ?_
    show Steps p.tables e below (T16.setTop (mkF m 4 #[.val (.ref w15)] [(.int (12307 : Int32))])) _
    refine Jvm.Stand.ldcI X16 hx hown (mvT hZ (hw _ (List.mem_of_getElem? (i := 50) rfl))) rfl (hb hby d_prog_92_method_6_code_4) ?_
    show Steps p.tables e below (T16.setTop (mkF m 6 #[.val (.ref w15)] [(.int (61440 : Int32)), (.int (12307 : Int32))])) _
    refine XS.iand X16.here hx rfl (hb hby d_prog_92_method_6_code_6) rfl ?_
    rw [show ((12307 : Int32) &&& (61440 : Int32)) = (12288 : Int32) from by decide]
    show Steps p.tables e below (T16.setTop (mkF m 7 #[.val (.ref w15)] [(.int (12288 : Int32))])) _
    refine XT.sipushV X16.here hx rfl (4096 : Int32) (hb hby d_prog_92_method_6_code_7) (by decide) ?_
    show Steps p.tables e below (T16.setTop (mkF m 10 #[.val (.ref w15)] [(.int (4096 : Int32)), (.int (12288 : Int32))])) _
    refine XS.icmpYes X16.here hx rfl (pc0 := 10) (pc' := 17) rfl (hb hby d_prog_92_method_6_code_10) rfl (by decide) (by decide) (by decide) ?_
    show Steps p.tables e below (T16.setTop (mkF m 17 #[.val (.ref w15)] [])) _
    refine XT.iconstV X16.here hx rfl (0 : Int32) (hb hby d_prog_92_method_6_code_17) rfl ?_
    show Steps p.tables e below (T16.setTop (mkF m 18 #[.val (.ref w15)] [(.int (0 : Int32))])) _
    exact retN X16 hx (t := .boolean) Bd.returns (by simp) (hb hby d_prog_92_method_6_code_18) hr
  · show own_Q (some (.int (0 : Int32))) h0 n0 _ T16.heap _
    rw [e16]
    exact ⟨rfl, N0, rfl⟩
set_option maxRecDepth 65536 in
set_option maxHeartbeats 40000000 in
theorem own_isMessage_16 (l : Launch) (Z : State) (a0 : Array Value) (hw : ∀ d ∈ tables_1, d.before a0 Z = true) (ws : List Jvm.Cond) (w0 w1 w2 w3 w4 w5 w6 w7 w8 w9 w10 w11 w12 w13 w14 w15 w16 w17 w18 : Addr) (h0 : Heap) (n0 : Nat) (Z0 : n0 ≤ h0.size) (P : own_P Z h0 w0 w1 w2 w3 w4 w5 w6 w7 w8 w9 w10 w11 w12 w13 w14 w15 w16 w17 w18) :
    MetFree l (⟨"com/example/plimsoll/plimsoll/wire/SaspType", "isMessage", "()Z"⟩ : MethodName) (head1 (Jvm.Cond.code (⟨"com/example/plimsoll/plimsoll/wire/SaspType", "isMessage", "()Z"⟩ : MethodName) prog_92_method_6_code 1 (some .boolean) :: ws) ({ frames := 0, cells := 0, slots := 0, locals := 0 } : Room)) (fun a U => a = #[(.ref w16)] ∧ Z.Warmed39 U.vm ∧ U.heap = h0) (fun _ _ _ _ _ => True) (fun _ U o U' => ∃ v L, o = .returned v ∧ own_Q (some (.int (0 : Int32))) h0 n0 v U'.heap L ∧ FrameEnd U o U' L ({ frames := 0, cells := 0, slots := 0, locals := 0 } : Room).cells ({ frames := 0, cells := 0, slots := 0, locals := 0 } : Room).slots) := by
  refine MetFree.of_bodySF (plainFor_of_name pn_com_example_plimsoll_plimsoll_wire_SaspType) hisR ?_
  intro p e s m args below meth c s₁ Bd hml0 hP hK
  obtain ⟨rfl, hZ, hh⟩ := hP
  have hx := Bd.exec
  have hby := Bd.bytes
  have hml : c.maxLocals = 1 := hml0
  have hown : s.vm.findClass "com/example/plimsoll/plimsoll/wire/SaspType" = some m.cls := findClass_of_methodNamed Bd.named
  have hnm := (name_of_methodNamed Bd.named Bd.method).1
  have X0 : Stand p l e ({ frames := 0, cells := 0, slots := 0, locals := 0 } : Room) s m #[(.ref w16)] below meth c s₁ [] 0 0 := Stand.of_body Bd
  have e0 : s₁.heap = h0 := by rw [← hh, Bd.state]; rfl
  have N0 := Fr.nil n0
  have pre0 : ∀ t, Steps p.tables e below (s₁.setTop (mkF m 0 #[.val (.ref w16)] [])) t → Steps p.tables e below (s₁.setTop (entryFrame m #[(.ref w16)] 1)) t := fun t k => castTop (ef_prog_92_method_6_code_A m w16) k
  have P0 := P; obtain ⟨S0, E0, F0_code, S1, E1, F1_code, S2, E2, F2_code, S3, E3, F3_code, S4, E4, F4_code, S5, E5, F5_code, S6, E6, F6_code, S7, E7, F7_code, S8, E8, F8_code, S9, E9, F9_code, S10, E10, F10_code, S11, E11, F11_code, S12, E12, F12_code, S13, E13, F13_code, S14, E14, F14_code, S15, E15, F15_code, S16, E16, F16_code, S17, E17, F17_code, S18, E18, F18_code⟩ := P0
  obtain ⟨T17, X17, e17, st17⟩ := getF X0 hx hZ hown (host := "") (Or.inl (hw _ (List.mem_of_getElem? (i := 48) rfl))) Via.refl e0 F16_code (g := (mkF m 1 #[.val (.ref w16)] [(.ref w16)])) rfl rfl (hb hby d_prog_92_method_6_code_1)
  obtain ⟨fs, hr, hrun, hended, hW, hsame⟩ := X17.leave (v := some (.int (0 : Int32))) (fun h => by rw [Bd.returns] at h; cases h)
  refine ⟨_, _, pre0 _ ?_, hrun, hended, _, _, rfl, ?_, ⟨_, rfl⟩, hW, hsame.mono (by decide) (by decide)⟩
  · show Steps p.tables e below (s₁.setTop (mkF m 0 #[.val (.ref w16)] [])) _
    refine XS.aloadN X0.here hx rfl (hb hby d_prog_92_method_6_code_0) rfl rfl ?_
    show Steps p.tables e below (s₁.setTop (mkF m 1 #[.val (.ref w16)] [(.ref w16)])) _
    refine st17 _ ?_
    show Steps p.tables e below (T17.setTop (mkF m 4 #[.val (.ref w16)] [(.int (16400 : Int32))])) _
    refine Jvm.Stand.ldcI X17 hx hown (mvT hZ (hw _ (List.mem_of_getElem? (i := 50) rfl))) rfl (hb hby d_prog_92_method_6_code_4) ?_
    show Steps p.tables e below (T17.setTop (mkF m 6 #[.val (.ref w16)] [(.int (61440 : Int32)), (.int (16400 : Int32))])) _
    refine XS.iand X17.here hx rfl (hb hby d_prog_92_method_6_code_6) rfl ?_
    rw [show ((16400 : Int32) &&& (61440 : Int32)) = (16384 : Int32) from by decide]
    show Steps p.tables e below (T17.setTop (mkF m 7 #[.val (.ref w16)] [(.int (16384 : Int32))])) _
    refine XT.sipushV X17.here hx rfl (4096 : Int32) (hb hby d_prog_92_method_6_code_7) (by decide) ?_
    show Steps p.tables e below (T17.setTop (mkF m 10 #[.val (.ref w16)] [(.int (4096 : Int32)), (.int (16384 : Int32))])) _
    refine XS.icmpYes X17.here hx rfl (pc0 := 10) (pc' := 17) rfl (hb hby d_prog_92_method_6_code_10) rfl (by decide) (by decide) (by decide) ?_
    show Steps p.tables e below (T17.setTop (mkF m 17 #[.val (.ref w16)] [])) _
    refine XT.iconstV X17.here hx rfl (0 : Int32) (hb hby d_prog_92_method_6_code_17) rfl ?_
    show Steps p.tables e below (T17.setTop (mkF m 18 #[.val (.ref w16)] [(.int (0 : Int32))])) _
    exact retN X17 hx (t := .boolean) Bd.returns (by simp) (hb hby d_prog_92_method_6_code_18) hr
  · show own_Q (some (.int (0 : Int32))) h0 n0 _ T17.heap _
    rw [e17]
    exact ⟨rfl, N0, rfl⟩
set_option maxRecDepth 65536 in
set_option maxHeartbeats 40000000 in
theorem own_isMessage_17 (l : Launch) (Z : State) (a0 : Array Value) (hw : ∀ d ∈ tables_1, d.before a0 Z = true) (ws : List Jvm.Cond) (w0 w1 w2 w3 w4 w5 w6 w7 w8 w9 w10 w11 w12 w13 w14 w15 w16 w17 w18 : Addr) (h0 : Heap) (n0 : Nat) (Z0 : n0 ≤ h0.size) (P : own_P Z h0 w0 w1 w2 w3 w4 w5 w6 w7 w8 w9 w10 w11 w12 w13 w14 w15 w16 w17 w18) :
    MetFree l (⟨"com/example/plimsoll/plimsoll/wire/SaspType", "isMessage", "()Z"⟩ : MethodName) (head1 (Jvm.Cond.code (⟨"com/example/plimsoll/plimsoll/wire/SaspType", "isMessage", "()Z"⟩ : MethodName) prog_92_method_6_code 1 (some .boolean) :: ws) ({ frames := 0, cells := 0, slots := 0, locals := 0 } : Room)) (fun a U => a = #[(.ref w17)] ∧ Z.Warmed39 U.vm ∧ U.heap = h0) (fun _ _ _ _ _ => True) (fun _ U o U' => ∃ v L, o = .returned v ∧ own_Q (some (.int (0 : Int32))) h0 n0 v U'.heap L ∧ FrameEnd U o U' L ({ frames := 0, cells := 0, slots := 0, locals := 0 } : Room).cells ({ frames := 0, cells := 0, slots := 0, locals := 0 } : Room).slots) := by
  refine MetFree.of_bodySF (plainFor_of_name pn_com_example_plimsoll_plimsoll_wire_SaspType) hisR ?_
  intro p e s m args below meth c s₁ Bd hml0 hP hK
  obtain ⟨rfl, hZ, hh⟩ := hP
  have hx := Bd.exec
  have hby := Bd.bytes
  have hml : c.maxLocals = 1 := hml0
  have hown : s.vm.findClass "com/example/plimsoll/plimsoll/wire/SaspType" = some m.cls := findClass_of_methodNamed Bd.named
  have hnm := (name_of_methodNamed Bd.named Bd.method).1
  have X0 : Stand p l e ({ frames := 0, cells := 0, slots := 0, locals := 0 } : Room) s m #[(.ref w17)] below meth c s₁ [] 0 0 := Stand.of_body Bd
  have e0 : s₁.heap = h0 := by rw [← hh, Bd.state]; rfl
  have N0 := Fr.nil n0
  have pre0 : ∀ t, Steps p.tables e below (s₁.setTop (mkF m 0 #[.val (.ref w17)] [])) t → Steps p.tables e below (s₁.setTop (entryFrame m #[(.ref w17)] 1)) t := fun t k => castTop (ef_prog_92_method_6_code_A m w17) k
  have P0 := P; obtain ⟨S0, E0, F0_code, S1, E1, F1_code, S2, E2, F2_code, S3, E3, F3_code, S4, E4, F4_code, S5, E5, F5_code, S6, E6, F6_code, S7, E7, F7_code, S8, E8, F8_code, S9, E9, F9_code, S10, E10, F10_code, S11, E11, F11_code, S12, E12, F12_code, S13, E13, F13_code, S14, E14, F14_code, S15, E15, F15_code, S16, E16, F16_code, S17, E17, F17_code, S18, E18, F18_code⟩ := P0
  obtain ⟨T18, X18, e18, st18⟩ := getF X0 hx hZ hown (host := "") (Or.inl (hw _ (List.mem_of_getElem? (i := 48) rfl))) Via.refl e0 F17_code (g := (mkF m 1 #[.val (.ref w17)] [(.ref w17)])) rfl rfl (hb hby d_prog_92_method_6_code_1)
  obtain ⟨fs, hr, hrun, hended, hW, hsame⟩ := X18.leave (v := some (.int (0 : Int32))) (fun h => by rw [Bd.returns] at h; cases h)
  refine ⟨_, _, pre0 _ ?_, hrun, hended, _, _, rfl, ?_, ⟨_, rfl⟩, hW, hsame.mono (by decide) (by decide)⟩
  · show Steps p.tables e below (s₁.setTop (mkF m 0 #[.val (.ref w17)] [])) _
    refine XS.aloadN X0.here hx rfl (hb hby d_prog_92_method_6_code_0) rfl rfl ?_
    show Steps p.tables e below (s₁.setTop (mkF m 1 #[.val (.ref w17)] [(.ref w17)])) _
    refine st18 _ ?_
    show Steps p.tables e below (T18.setTop (mkF m 4 #[.val (.ref w17)] [(.int (16401 : Int32))])) _
    refine Jvm.Stand.ldcI X18 hx hown (mvT hZ (hw _ (List.mem_of_getElem? (i := 50) rfl))) rfl (hb hby d_prog_92_method_6_code_4) ?_
    show Steps p.tables e below (T18.setTop (mkF m 6 #[.val (.ref w17)] [(.int (61440 : Int32)), (.int (16401 : Int32))])) _
    refine XS.iand X18.here hx rfl (hb hby d_prog_92_method_6_code_6) rfl ?_
    rw [show ((16401 : Int32) &&& (61440 : Int32)) = (16384 : Int32) from by decide]
    show Steps p.tables e below (T18.setTop (mkF m 7 #[.val (.ref w17)] [(.int (16384 : Int32))])) _
    refine XT.sipushV X18.here hx rfl (4096 : Int32) (hb hby d_prog_92_method_6_code_7) (by decide) ?_
    show Steps p.tables e below (T18.setTop (mkF m 10 #[.val (.ref w17)] [(.int (4096 : Int32)), (.int (16384 : Int32))])) _
    refine XS.icmpYes X18.here hx rfl (pc0 := 10) (pc' := 17) rfl (hb hby d_prog_92_method_6_code_10) rfl (by decide) (by decide) (by decide) ?_
    show Steps p.tables e below (T18.setTop (mkF m 17 #[.val (.ref w17)] [])) _
    refine XT.iconstV X18.here hx rfl (0 : Int32) (hb hby d_prog_92_method_6_code_17) rfl ?_
    show Steps p.tables e below (T18.setTop (mkF m 18 #[.val (.ref w17)] [(.int (0 : Int32))])) _
    exact retN X18 hx (t := .boolean) Bd.returns (by simp) (hb hby d_prog_92_method_6_code_18) hr
  · show own_Q (some (.int (0 : Int32))) h0 n0 _ T18.heap _
    rw [e18]
    exact ⟨rfl, N0, rfl⟩
set_option maxRecDepth 65536 in
set_option maxHeartbeats 40000000 in
theorem own_isMessage_18 (l : Launch) (Z : State) (a0 : Array Value) (hw : ∀ d ∈ tables_1, d.before a0 Z = true) (ws : List Jvm.Cond) (w0 w1 w2 w3 w4 w5 w6 w7 w8 w9 w10 w11 w12 w13 w14 w15 w16 w17 w18 : Addr) (h0 : Heap) (n0 : Nat) (Z0 : n0 ≤ h0.size) (P : own_P Z h0 w0 w1 w2 w3 w4 w5 w6 w7 w8 w9 w10 w11 w12 w13 w14 w15 w16 w17 w18) :
    MetFree l (⟨"com/example/plimsoll/plimsoll/wire/SaspType", "isMessage", "()Z"⟩ : MethodName) (head1 (Jvm.Cond.code (⟨"com/example/plimsoll/plimsoll/wire/SaspType", "isMessage", "()Z"⟩ : MethodName) prog_92_method_6_code 1 (some .boolean) :: ws) ({ frames := 0, cells := 0, slots := 0, locals := 0 } : Room)) (fun a U => a = #[(.ref w18)] ∧ Z.Warmed39 U.vm ∧ U.heap = h0) (fun _ _ _ _ _ => True) (fun _ U o U' => ∃ v L, o = .returned v ∧ own_Q (some (.int (0 : Int32))) h0 n0 v U'.heap L ∧ FrameEnd U o U' L ({ frames := 0, cells := 0, slots := 0, locals := 0 } : Room).cells ({ frames := 0, cells := 0, slots := 0, locals := 0 } : Room).slots) := by
  refine MetFree.of_bodySF (plainFor_of_name pn_com_example_plimsoll_plimsoll_wire_SaspType) hisR ?_
  intro p e s m args below meth c s₁ Bd hml0 hP hK
  obtain ⟨rfl, hZ, hh⟩ := hP
  have hx := Bd.exec
  have hby := Bd.bytes
  have hml : c.maxLocals = 1 := hml0
  have hown : s.vm.findClass "com/example/plimsoll/plimsoll/wire/SaspType" = some m.cls := findClass_of_methodNamed Bd.named
  have hnm := (name_of_methodNamed Bd.named Bd.method).1
  have X0 : Stand p l e ({ frames := 0, cells := 0, slots := 0, locals := 0 } : Room) s m #[(.ref w18)] below meth c s₁ [] 0 0 := Stand.of_body Bd
  have e0 : s₁.heap = h0 := by rw [← hh, Bd.state]; rfl
  have N0 := Fr.nil n0
  have pre0 : ∀ t, Steps p.tables e below (s₁.setTop (mkF m 0 #[.val (.ref w18)] [])) t → Steps p.tables e below (s₁.setTop (entryFrame m #[(.ref w18)] 1)) t := fun t k => castTop (ef_prog_92_method_6_code_A m w18) k
  have P0 := P; obtain ⟨S0, E0, F0_code, S1, E1, F1_code, S2, E2, F2_code, S3, E3, F3_code, S4, E4, F4_code, S5, E5, F5_code, S6, E6, F6_code, S7, E7, F7_code, S8, E8, F8_code, S9, E9, F9_code, S10, E10, F10_code, S11, E11, F11_code, S12, E12, F12_code, S13, E13, F13_code, S14, E14, F14_code, S15, E15, F15_code, S16, E16, F16_code, S17, E17, F17_code, S18, E18, F18_code⟩ := P0
  obtain ⟨T19, X19, e19, st19⟩ := getF X0 hx hZ hown (host := "") (Or.inl (hw _ (List.mem_of_getElem? (i := 48) rfl))) Via.refl e0 F18_code (g := (mkF m 1 #[.val (.ref w18)] [(.ref w18)])) rfl rfl (hb hby d_prog_92_method_6_code_1)
  obtain ⟨fs, hr, hrun, hended, hW, hsame⟩ := X19.leave (v := some (.int (0 : Int32))) (fun h => by rw [Bd.returns] at h; cases h)
  refine ⟨_, _, pre0 _ ?_, hrun, hended, _, _, rfl, ?_, ⟨_, rfl⟩, hW, hsame.mono (by decide) (by decide)⟩
  · show Steps p.tables e below (s₁.setTop (mkF m 0 #[.val (.ref w18)] [])) _
    refine XS.aloadN X0.here hx rfl (hb hby d_prog_92_method_6_code_0) rfl rfl ?_
    show Steps p.tables e below (s₁.setTop (mkF m 1 #[.val (.ref w18)] [(.ref w18)])) _
    refine st19 _ ?_
    show Steps p.tables e below (T19.setTop (mkF m 4 #[.val (.ref w18)] [(.int (16402 : Int32))])) _
    refine Jvm.Stand.ldcI X19 hx hown (mvT hZ (hw _ (List.mem_of_getElem? (i := 50) rfl))) rfl (hb hby d_prog_92_method_6_code_4) ?_
    show Steps p.tables e below (T19.setTop (mkF m 6 #[.val (.ref w18)] [(.int (61440 : Int32)), (.int (16402 : Int32))])) _
    refine XS.iand X19.here hx rfl (hb hby d_prog_92_method_6_code_6) rfl ?_
    rw [show ((16402 : Int32) &&& (61440 : Int32)) = (16384 : Int32) from by decide]
    show Steps p.tables e below (T19.setTop (mkF m 7 #[.val (.ref w18)] [(.int (16384 : Int32))])) _
    refine XT.sipushV X19.here hx rfl (4096 : Int32) (hb hby d_prog_92_method_6_code_7) (by decide) ?_
    show Steps p.tables e below (T19.setTop (mkF m 10 #[.val (.ref w18)] [(.int (4096 : Int32)), (.int (16384 : Int32))])) _
    refine XS.icmpYes X19.here hx rfl (pc0 := 10) (pc' := 17) rfl (hb hby d_prog_92_method_6_code_10) rfl (by decide) (by decide) (by decide) ?_
    show Steps p.tables e below (T19.setTop (mkF m 17 #[.val (.ref w18)] [])) _
    refine XT.iconstV X19.here hx rfl (0 : Int32) (hb hby d_prog_92_method_6_code_17) rfl ?_
    show Steps p.tables e below (T19.setTop (mkF m 18 #[.val (.ref w18)] [(.int (0 : Int32))])) _
    exact retN X19 hx (t := .boolean) Bd.returns (by simp) (hb hby d_prog_92_method_6_code_18) hr
  · show own_Q (some (.int (0 : Int32))) h0 n0 _ T19.heap _
    rw [e19]
    exact ⟨rfl, N0, rfl⟩
theorem pd___Z : parseMethodDescriptor "()Z" = some ⟨[], (some .boolean)⟩ := by decide +kernel
theorem ef_code_I (m : MethodId) (x0 : Int32) : entryFrame m #[(.int x0)] maxLocals = mkF m 0 #[.val (.int x0), .unset, .unset, .unset] [] := by first | (simp [entryFrame, mkF, argsToLocals, Value.category, maxLocals]; done) | rfl
theorem pn_com_example_plimsoll_plimsoll_wire_SaspTypeIsMessagePinLaw : plainName "com/example/plimsoll/plimsoll/wire/SaspTypeIsMessagePinLaw" = true := by first | (simp [plainName, overriddenIn]; done) | decide +kernel
set_option maxRecDepth 65536 in
set_option maxHeartbeats 40000000 in
theorem own_law (l : Launch) (Z : State) (a0 : Array Value) (hw : ∀ d ∈ tables_1, d.before a0 Z = true) (ws : List Jvm.Cond) (p1 : Int32) (w0 w1 w2 w3 w4 w5 w6 w7 w8 w9 w10 w11 w12 w13 w14 w15 w16 w17 w18 : Addr) (h0 : Heap) (n0 : Nat) (Z0 : n0 ≤ h0.size) (P : own_P Z h0 w0 w1 w2 w3 w4 w5 w6 w7 w8 w9 w10 w11 w12 w13 w14 w15 w16 w17 w18) :
    MetFree l x (head1 (Jvm.Cond.code x code maxLocals ret :: ws) room_1) (fun a U => a = #[(.int p1)] ∧ Z.Warmed39 U.vm ∧ U.heap = h0) (fun _ _ _ _ _ => True) (fun _ U o U' => ∃ v L, o = .returned v ∧ own_Q0 n0 v U'.heap L ∧ FrameEnd U o U' L room_1.cells room_1.slots) := by
  refine MetFree.of_bodySF (plainFor_of_name pn_com_example_plimsoll_plimsoll_wire_SaspTypeIsMessagePinLaw) hisR ?_
  intro p e s m args below meth c s₁ Bd hml0 hP hK
  obtain ⟨rfl, hZ, hh⟩ := hP
  have hx := Bd.exec
  have hby := Bd.bytes
  have hml : c.maxLocals = 4 := hml0
  have hown : s.vm.findClass "com/example/plimsoll/plimsoll/wire/SaspTypeIsMessagePinLaw" = some m.cls := findClass_of_methodNamed Bd.named
  have hnm := (name_of_methodNamed Bd.named Bd.method).1
  have X0 : Stand p l e room_1 s m #[(.int p1)] below meth c s₁ [] 0 0 := Stand.of_body Bd
  have e0 : s₁.heap = h0 := by rw [← hh, Bd.state]; rfl
  have N0 := Fr.nil n0
  have pre0 : ∀ t, Steps p.tables e below (s₁.setTop (mkF m 0 #[.val (.int p1), .unset, .unset, .unset] [])) t → Steps p.tables e below (s₁.setTop (entryFrame m #[(.int p1)] maxLocals)) t := fun t k => castTop (ef_code_I m p1) k
  have P0 := P; obtain ⟨S0, E0, F0_code, S1, E1, F1_code, S2, E2, F2_code, S3, E3, F3_code, S4, E4, F4_code, S5, E5, F5_code, S6, E6, F6_code, S7, E7, F7_code, S8, E8, F8_code, S9, E9, F9_code, S10, E10, F10_code, S11, E11, F11_code, S12, E12, F12_code, S13, E13, F13_code, S14, E14, F14_code, S15, E15, F15_code, S16, E16, F16_code, S17, E17, F17_code, S18, E18, F18_code⟩ := P0
  have thru0 : ∃ (U : State) (hB : Heap) (locs2 : List Loc) (bB : Addr) (kB : ClassId), Stand p l e room_1 s m #[(.int p1)] below meth c U locs2 1 19 ∧ U.heap = hB ∧ Fr n0 locs2 ∧ Ext h0 hB ∧ Arv Z hB bB kB (.object "com/example/plimsoll/plimsoll/wire/SaspType") (19 : Int32) [(.ref w0), (.ref w1), (.ref w2), (.ref w3), (.ref w4), (.ref w5), (.ref w6), (.ref w7), (.ref w8), (.ref w9), (.ref w10), (.ref w11), (.ref w12), (.ref w13), (.ref w14), (.ref w15), (.ref w16), (.ref w17), (.ref w18)] .null ∧ ∀ t, Steps p.tables e below (U.setTop (mkF m 133 #[.val (.int p1), .val (.ref bB), .unset, .unset] [])) t → Steps p.tables e below (s₁.setTop (mkF m 0 #[.val (.int p1), .unset, .unset, .unset] [])) t := by
    obtain ⟨T20, h20, k20, X20, e20, E20, A20, O20, st20⟩ := newR X0 hx hZ hown (hw _ (List.mem_of_getElem? (i := 0) rfl)) (hw _ (List.mem_of_getElem? (i := 1) rfl)) e0 (g := (mkF m 2 #[.val (.int p1), .unset, .unset, .unset] [(.int (19 : Int32))])) rfl (hb hby at_2) rfl (by decide) (cap := 19) (by decide) (by decide) (by decide) (by decide)
    obtain ⟨b20, g20⟩ : ∃ z, z = h0.size := ⟨_, rfl⟩
    rw [← g20] at A20 st20
    have q20 : h0.size ≤ b20 := by rw [g20]; exact Nat.le_refl _
    have V20 : Arv Z h20 b20 k20 (.object "com/example/plimsoll/plimsoll/wire/SaspType") (19 : Int32) (List.replicate 19 .null) .null := (Arv.new A20 (by decide)).pad (fun i => pad_rep [] .null 19 i)
    have EX20 : Ext h0 h20 := E20
    have Z20 : n0 ≤ h20.size := Nat.le_trans Z0 EX20.1
    obtain ⟨T21, X21, e21, st21⟩ := getS2 X20 hx hZ hown (host := "") (Or.inl (hw _ (List.mem_of_getElem? (i := 2) rfl))) Via.refl e20 (S0.ext EX20) (g := (mkF m 7 #[.val (.int p1), .unset, .unset, .unset] [(.int (0 : Int32)), (.ref b20), (.ref b20)])) rfl (hb hby at_7)
    obtain ⟨T22, h22, X22, e22, W22, V22, st22⟩ := own_stR X21 hx hZ e21 V20 O20 (Ins.self (E0.ext EX20)) (j := (0 : Int32)) (by decide) (i := 0) (by decide) (by simp) rfl (g := (mkF m 10 #[.val (.int p1), .unset, .unset, .unset] [(.ref w0), (.int (0 : Int32)), (.ref b20), (.ref b20)])) rfl rfl (hb hby at_10)
    have N22 := Fr.snoc X22 N0 (Nat.le_trans Z0 q20)
    have EX22 : Ext h0 h22 := own_ext_wr EX20 W22 q20
    have Z22 : n0 ≤ h22.size := Nat.le_trans Z0 EX22.1
    obtain ⟨T23, X23, e23, st23⟩ := getS2 X22 hx hZ hown (host := "") (Or.inl (hw _ (List.mem_of_getElem? (i := 6) rfl))) Via.refl e22 (S1.ext EX22) (g := (mkF m 13 #[.val (.int p1), .unset, .unset, .unset] [(.int (1 : Int32)), (.ref b20), (.ref b20)])) rfl (hb hby at_13)
    obtain ⟨T24, h24, X24, e24, W24, V24, st24⟩ := own_stR X23 hx hZ e23 V22 O20 (Ins.self (E1.ext EX22)) (j := (1 : Int32)) (by decide) (i := 1) (by decide) (by simp) rfl (g := (mkF m 16 #[.val (.int p1), .unset, .unset, .unset] [(.ref w1), (.int (1 : Int32)), (.ref b20), (.ref b20)])) rfl rfl (hb hby at_16)
    have N24 := Fr.snoc X24 N22 (Nat.le_trans Z0 q20)
    have EX24 : Ext h0 h24 := own_ext_wr EX22 W24 q20
    have Z24 : n0 ≤ h24.size := Nat.le_trans Z0 EX24.1
    obtain ⟨T25, X25, e25, st25⟩ := getS2 X24 hx hZ hown (host := "") (Or.inl (hw _ (List.mem_of_getElem? (i := 8) rfl))) Via.refl e24 (S2.ext EX24) (g := (mkF m 19 #[.val (.int p1), .unset, .unset, .unset] [(.int (2 : Int32)), (.ref b20), (.ref b20)])) rfl (hb hby at_19)
    obtain ⟨T26, h26, X26, e26, W26, V26, st26⟩ := own_stR X25 hx hZ e25 V24 O20 (Ins.self (E2.ext EX24)) (j := (2 : Int32)) (by decide) (i := 2) (by decide) (by simp) rfl (g := (mkF m 22 #[.val (.int p1), .unset, .unset, .unset] [(.ref w2), (.int (2 : Int32)), (.ref b20), (.ref b20)])) rfl rfl (hb hby at_22)
    have N26 := Fr.snoc X26 N24 (Nat.le_trans Z0 q20)
    have EX26 : Ext h0 h26 := own_ext_wr EX24 W26 q20
    have Z26 : n0 ≤ h26.size := Nat.le_trans Z0 EX26.1
    obtain ⟨T27, X27, e27, st27⟩ := getS2 X26 hx hZ hown (host := "") (Or.inl (hw _ (List.mem_of_getElem? (i := 10) rfl))) Via.refl e26 (S3.ext EX26) (g := (mkF m 25 #[.val (.int p1), .unset, .unset, .unset] [(.int (3 : Int32)), (.ref b20), (.ref b20)])) rfl (hb hby at_25)
    obtain ⟨T28, h28, X28, e28, W28, V28, st28⟩ := own_stR X27 hx hZ e27 V26 O20 (Ins.self (E3.ext EX26)) (j := (3 : Int32)) (by decide) (i := 3) (by decide) (by simp) rfl (g := (mkF m 28 #[.val (.int p1), .unset, .unset, .unset] [(.ref w3), (.int (3 : Int32)), (.ref b20), (.ref b20)])) rfl rfl (hb hby at_28)
    have N28 := Fr.snoc X28 N26 (Nat.le_trans Z0 q20)
    have EX28 : Ext h0 h28 := own_ext_wr EX26 W28 q20
    have Z28 : n0 ≤ h28.size := Nat.le_trans Z0 EX28.1
    obtain ⟨T29, X29, e29, st29⟩ := getS2 X28 hx hZ hown (host := "") (Or.inl (hw _ (List.mem_of_getElem? (i := 12) rfl))) Via.refl e28 (S4.ext EX28) (g := (mkF m 31 #[.val (.int p1), .unset, .unset, .unset] [(.int (4 : Int32)), (.ref b20), (.ref b20)])) rfl (hb hby at_31)
    obtain ⟨T30, h30, X30, e30, W30, V30, st30⟩ := own_stR X29 hx hZ e29 V28 O20 (Ins.self (E4.ext EX28)) (j := (4 : Int32)) (by decide) (i := 4) (by decide) (by simp) rfl (g := (mkF m 34 #[.val (.int p1), .unset, .unset, .unset] [(.ref w4), (.int (4 : Int32)), (.ref b20), (.ref b20)])) rfl rfl (hb hby at_34)
    have N30 := Fr.snoc X30 N28 (Nat.le_trans Z0 q20)
    have EX30 : Ext h0 h30 := own_ext_wr EX28 W30 q20
    have Z30 : n0 ≤ h30.size := Nat.le_trans Z0 EX30.1
    obtain ⟨T31, X31, e31, st31⟩ := getS2 X30 hx hZ hown (host := "") (Or.inl (hw _ (List.mem_of_getElem? (i := 14) rfl))) Via.refl e30 (S5.ext EX30) (g := (mkF m 37 #[.val (.int p1), .unset, .unset, .unset] [(.int (5 : Int32)), (.ref b20), (.ref b20)])) rfl (hb hby at_37)
    obtain ⟨T32, h32, X32, e32, W32, V32, st32⟩ := own_stR X31 hx hZ e31 V30 O20 (Ins.self (E5.ext EX30)) (j := (5 : Int32)) (by decide) (i := 5) (by decide) (by simp) rfl (g := (mkF m 40 #[.val (.int p1), .unset, .unset, .unset] [(.ref w5), (.int (5 : Int32)), (.ref b20), (.ref b20)])) rfl rfl (hb hby at_40)
    have N32 := Fr.snoc X32 N30 (Nat.le_trans Z0 q20)
    have EX32 : Ext h0 h32 := own_ext_wr EX30 W32 q20
    have Z32 : n0 ≤ h32.size := Nat.le_trans Z0 EX32.1
    obtain ⟨T33, X33, e33, st33⟩ := getS2 X32 hx hZ hown (host := "") (Or.inl (hw _ (List.mem_of_getElem? (i := 16) rfl))) Via.refl e32 (S6.ext EX32) (g := (mkF m 44 #[.val (.int p1), .unset, .unset, .unset] [(.int (6 : Int32)), (.ref b20), (.ref b20)])) rfl (hb hby at_44)
    obtain ⟨T34, h34, X34, e34, W34, V34, st34⟩ := own_stR X33 hx hZ e33 V32 O20 (Ins.self (E6.ext EX32)) (j := (6 : Int32)) (by decide) (i := 6) (by decide) (by simp) rfl (g := (mkF m 47 #[.val (.int p1), .unset, .unset, .unset] [(.ref w6), (.int (6 : Int32)), (.ref b20), (.ref b20)])) rfl rfl (hb hby at_47)
    have N34 := Fr.snoc X34 N32 (Nat.le_trans Z0 q20)
    have EX34 : Ext h0 h34 := own_ext_wr EX32 W34 q20
    have Z34 : n0 ≤ h34.size := Nat.le_trans Z0 EX34.1
    obtain ⟨T35, X35, e35, st35⟩ := getS2 X34 hx hZ hown (host := "") (Or.inl (hw _ (List.mem_of_getElem? (i := 18) rfl))) Via.refl e34 (S7.ext EX34) (g := (mkF m 51 #[.val (.int p1), .unset, .unset, .unset] [(.int (7 : Int32)), (.ref b20), (.ref b20)])) rfl (hb hby at_51)
    obtain ⟨T36, h36, X36, e36, W36, V36, st36⟩ := own_stR X35 hx hZ e35 V34 O20 (Ins.self (E7.ext EX34)) (j := (7 : Int32)) (by decide) (i := 7) (by decide) (by simp) rfl (g := (mkF m 54 #[.val (.int p1), .unset, .unset, .unset] [(.ref w7), (.int (7 : Int32)), (.ref b20), (.ref b20)])) rfl rfl (hb hby at_54)
    have N36 := Fr.snoc X36 N34 (Nat.le_trans Z0 q20)
    have EX36 : Ext h0 h36 := own_ext_wr EX34 W36 q20
    have Z36 : n0 ≤ h36.size := Nat.le_trans Z0 EX36.1
    obtain ⟨T37, X37, e37, st37⟩ := getS2 X36 hx hZ hown (host := "") (Or.inl (hw _ (List.mem_of_getElem? (i := 20) rfl))) Via.refl e36 (S8.ext EX36) (g := (mkF m 58 #[.val (.int p1), .unset, .unset, .unset] [(.int (8 : Int32)), (.ref b20), (.ref b20)])) rfl (hb hby at_58)
    obtain ⟨T38, h38, X38, e38, W38, V38, st38⟩ := own_stR X37 hx hZ e37 V36 O20 (Ins.self (E8.ext EX36)) (j := (8 : Int32)) (by decide) (i := 8) (by decide) (by simp) rfl (g := (mkF m 61 #[.val (.int p1), .unset, .unset, .unset] [(.ref w8), (.int (8 : Int32)), (.ref b20), (.ref b20)])) rfl rfl (hb hby at_61)
    have N38 := Fr.snoc X38 N36 (Nat.le_trans Z0 q20)
    have EX38 : Ext h0 h38 := own_ext_wr EX36 W38 q20
    have Z38 : n0 ≤ h38.size := Nat.le_trans Z0 EX38.1
    obtain ⟨T39, X39, e39, st39⟩ := getS2 X38 hx hZ hown (host := "") (Or.inl (hw _ (List.mem_of_getElem? (i := 22) rfl))) Via.refl e38 (S9.ext EX38) (g := (mkF m 65 #[.val (.int p1), .unset, .unset, .unset] [(.int (9 : Int32)), (.ref b20), (.ref b20)])) rfl (hb hby at_65)
    obtain ⟨T40, h40, X40, e40, W40, V40, st40⟩ := own_stR X39 hx hZ e39 V38 O20 (Ins.self (E9.ext EX38)) (j := (9 : Int32)) (by decide) (i := 9) (by decide) (by simp) rfl (g := (mkF m 68 #[.val (.int p1), .unset, .unset, .unset] [(.ref w9), (.int (9 : Int32)), (.ref b20), (.ref b20)])) rfl rfl (hb hby at_68)
    have N40 := Fr.snoc X40 N38 (Nat.le_trans Z0 q20)
    have EX40 : Ext h0 h40 := own_ext_wr EX38 W40 q20
    have Z40 : n0 ≤ h40.size := Nat.le_trans Z0 EX40.1
    obtain ⟨T41, X41, e41, st41⟩ := getS2 X40 hx hZ hown (host := "") (Or.inl (hw _ (List.mem_of_getElem? (i := 24) rfl))) Via.refl e40 (S10.ext EX40) (g := (mkF m 72 #[.val (.int p1), .unset, .unset, .unset] [(.int (10 : Int32)), (.ref b20), (.ref b20)])) rfl (hb hby at_72)
    obtain ⟨T42, h42, X42, e42, W42, V42, st42⟩ := own_stR X41 hx hZ e41 V40 O20 (Ins.self (E10.ext EX40)) (j := (10 : Int32)) (by decide) (i := 10) (by decide) (by simp) rfl (g := (mkF m 75 #[.val (.int p1), .unset, .unset, .unset] [(.ref w10), (.int (10 : Int32)), (.ref b20), (.ref b20)])) rfl rfl (hb hby at_75)
    have N42 := Fr.snoc X42 N40 (Nat.le_trans Z0 q20)
    have EX42 : Ext h0 h42 := own_ext_wr EX40 W42 q20
    have Z42 : n0 ≤ h42.size := Nat.le_trans Z0 EX42.1
    obtain ⟨T43, X43, e43, st43⟩ := getS2 X42 hx hZ hown (host := "") (Or.inl (hw _ (List.mem_of_getElem? (i := 26) rfl))) Via.refl e42 (S11.ext EX42) (g := (mkF m 79 #[.val (.int p1), .unset, .unset, .unset] [(.int (11 : Int32)), (.ref b20), (.ref b20)])) rfl (hb hby at_79)
    obtain ⟨T44, h44, X44, e44, W44, V44, st44⟩ := own_stR X43 hx hZ e43 V42 O20 (Ins.self (E11.ext EX42)) (j := (11 : Int32)) (by decide) (i := 11) (by decide) (by simp) rfl (g := (mkF m 82 #[.val (.int p1), .unset, .unset, .unset] [(.ref w11), (.int (11 : Int32)), (.ref b20), (.ref b20)])) rfl rfl (hb hby at_82)
    have N44 := Fr.snoc X44 N42 (Nat.le_trans Z0 q20)
    have EX44 : Ext h0 h44 := own_ext_wr EX42 W44 q20
    have Z44 : n0 ≤ h44.size := Nat.le_trans Z0 EX44.1
    obtain ⟨T45, X45, e45, st45⟩ := getS2 X44 hx hZ hown (host := "") (Or.inl (hw _ (List.mem_of_getElem? (i := 28) rfl))) Via.refl e44 (S12.ext EX44) (g := (mkF m 86 #[.val (.int p1), .unset, .unset, .unset] [(.int (12 : Int32)), (.ref b20), (.ref b20)])) rfl (hb hby at_86)
    obtain ⟨T46, h46, X46, e46, W46, V46, st46⟩ := own_stR X45 hx hZ e45 V44 O20 (Ins.self (E12.ext EX44)) (j := (12 : Int32)) (by decide) (i := 12) (by decide) (by simp) rfl (g := (mkF m 89 #[.val (.int p1), .unset, .unset, .unset] [(.ref w12), (.int (12 : Int32)), (.ref b20), (.ref b20)])) rfl rfl (hb hby at_89)
    have N46 := Fr.snoc X46 N44 (Nat.le_trans Z0 q20)
    have EX46 : Ext h0 h46 := own_ext_wr EX44 W46 q20
    have Z46 : n0 ≤ h46.size := Nat.le_trans Z0 EX46.1
    obtain ⟨T47, X47, e47, st47⟩ := getS2 X46 hx hZ hown (host := "") (Or.inl (hw _ (List.mem_of_getElem? (i := 30) rfl))) Via.refl e46 (S13.ext EX46) (g := (mkF m 93 #[.val (.int p1), .unset, .unset, .unset] [(.int (13 : Int32)), (.ref b20), (.ref b20)])) rfl (hb hby at_93)
    obtain ⟨T48, h48, X48, e48, W48, V48, st48⟩ := own_stR X47 hx hZ e47 V46 O20 (Ins.self (E13.ext EX46)) (j := (13 : Int32)) (by decide) (i := 13) (by decide) (by simp) rfl (g := (mkF m 96 #[.val (.int p1), .unset, .unset, .unset] [(.ref w13), (.int (13 : Int32)), (.ref b20), (.ref b20)])) rfl rfl (hb hby at_96)
    have N48 := Fr.snoc X48 N46 (Nat.le_trans Z0 q20)
    have EX48 : Ext h0 h48 := own_ext_wr EX46 W48 q20
    have Z48 : n0 ≤ h48.size := Nat.le_trans Z0 EX48.1
    obtain ⟨T49, X49, e49, st49⟩ := getS2 X48 hx hZ hown (host := "") (Or.inl (hw _ (List.mem_of_getElem? (i := 32) rfl))) Via.refl e48 (S14.ext EX48) (g := (mkF m 100 #[.val (.int p1), .unset, .unset, .unset] [(.int (14 : Int32)), (.ref b20), (.ref b20)])) rfl (hb hby at_100)
    obtain ⟨T50, h50, X50, e50, W50, V50, st50⟩ := own_stR X49 hx hZ e49 V48 O20 (Ins.self (E14.ext EX48)) (j := (14 : Int32)) (by decide) (i := 14) (by decide) (by simp) rfl (g := (mkF m 103 #[.val (.int p1), .unset, .unset, .unset] [(.ref w14), (.int (14 : Int32)), (.ref b20), (.ref b20)])) rfl rfl (hb hby at_103)
    have N50 := Fr.snoc X50 N48 (Nat.le_trans Z0 q20)
    have EX50 : Ext h0 h50 := own_ext_wr EX48 W50 q20
    have Z50 : n0 ≤ h50.size := Nat.le_trans Z0 EX50.1
    obtain ⟨T51, X51, e51, st51⟩ := getS2 X50 hx hZ hown (host := "") (Or.inl (hw _ (List.mem_of_getElem? (i := 34) rfl))) Via.refl e50 (S15.ext EX50) (g := (mkF m 107 #[.val (.int p1), .unset, .unset, .unset] [(.int (15 : Int32)), (.ref b20), (.ref b20)])) rfl (hb hby at_107)
    obtain ⟨T52, h52, X52, e52, W52, V52, st52⟩ := own_stR X51 hx hZ e51 V50 O20 (Ins.self (E15.ext EX50)) (j := (15 : Int32)) (by decide) (i := 15) (by decide) (by simp) rfl (g := (mkF m 110 #[.val (.int p1), .unset, .unset, .unset] [(.ref w15), (.int (15 : Int32)), (.ref b20), (.ref b20)])) rfl rfl (hb hby at_110)
    have N52 := Fr.snoc X52 N50 (Nat.le_trans Z0 q20)
    have EX52 : Ext h0 h52 := own_ext_wr EX50 W52 q20
    have Z52 : n0 ≤ h52.size := Nat.le_trans Z0 EX52.1
    obtain ⟨T53, X53, e53, st53⟩ := getS2 X52 hx hZ hown (host := "") (Or.inl (hw _ (List.mem_of_getElem? (i := 36) rfl))) Via.refl e52 (S16.ext EX52) (g := (mkF m 114 #[.val (.int p1), .unset, .unset, .unset] [(.int (16 : Int32)), (.ref b20), (.ref b20)])) rfl (hb hby at_114)
    obtain ⟨T54, h54, X54, e54, W54, V54, st54⟩ := own_stR X53 hx hZ e53 V52 O20 (Ins.self (E16.ext EX52)) (j := (16 : Int32)) (by decide) (i := 16) (by decide) (by simp) rfl (g := (mkF m 117 #[.val (.int p1), .unset, .unset, .unset] [(.ref w16), (.int (16 : Int32)), (.ref b20), (.ref b20)])) rfl rfl (hb hby at_117)
    have N54 := Fr.snoc X54 N52 (Nat.le_trans Z0 q20)
    have EX54 : Ext h0 h54 := own_ext_wr EX52 W54 q20
    have Z54 : n0 ≤ h54.size := Nat.le_trans Z0 EX54.1
    obtain ⟨T55, X55, e55, st55⟩ := getS2 X54 hx hZ hown (host := "") (Or.inl (hw _ (List.mem_of_getElem? (i := 38) rfl))) Via.refl e54 (S17.ext EX54) (g := (mkF m 121 #[.val (.int p1), .unset, .unset, .unset] [(.int (17 : Int32)), (.ref b20), (.ref b20)])) rfl (hb hby at_121)
    obtain ⟨T56, h56, X56, e56, W56, V56, st56⟩ := own_stR X55 hx hZ e55 V54 O20 (Ins.self (E17.ext EX54)) (j := (17 : Int32)) (by decide) (i := 17) (by decide) (by simp) rfl (g := (mkF m 124 #[.val (.int p1), .unset, .unset, .unset] [(.ref w17), (.int (17 : Int32)), (.ref b20), (.ref b20)])) rfl rfl (hb hby at_124)
    have N56 := Fr.snoc X56 N54 (Nat.le_trans Z0 q20)
    have EX56 : Ext h0 h56 := own_ext_wr EX54 W56 q20
    have Z56 : n0 ≤ h56.size := Nat.le_trans Z0 EX56.1
    obtain ⟨T57, X57, e57, st57⟩ := getS2 X56 hx hZ hown (host := "") (Or.inl (hw _ (List.mem_of_getElem? (i := 40) rfl))) Via.refl e56 (S18.ext EX56) (g := (mkF m 128 #[.val (.int p1), .unset, .unset, .unset] [(.int (18 : Int32)), (.ref b20), (.ref b20)])) rfl (hb hby at_128)
    obtain ⟨T58, h58, X58, e58, W58, V58, st58⟩ := own_stR X57 hx hZ e57 V56 O20 (Ins.self (E18.ext EX56)) (j := (18 : Int32)) (by decide) (i := 18) (by decide) (by simp) rfl (g := (mkF m 131 #[.val (.int p1), .unset, .unset, .unset] [(.ref w18), (.int (18 : Int32)), (.ref b20), (.ref b20)])) rfl rfl (hb hby at_131)
    have N58 := Fr.snoc X58 N56 (Nat.le_trans Z0 q20)
    have EX58 : Ext h0 h58 := own_ext_wr EX56 W58 q20
    have Z58 : n0 ≤ h58.size := Nat.le_trans Z0 EX58.1
    refine ⟨T58, h58, _, b20, k20, X58, e58, N58, EX58, V58, ?_⟩
    intro t kk
    show Steps p.tables e below (s₁.setTop (mkF m 0 #[.val (.int p1), .unset, .unset, .unset] [])) _
    refine XT.bipushV X0.here hx rfl (19 : Int32) (hb hby at_0) (by decide) ?_
    show Steps p.tables e below (s₁.setTop (mkF m 2 #[.val (.int p1), .unset, .unset, .unset] [(.int (19 : Int32))])) _
    refine st20 _ ?_
    show Steps p.tables e below (T20.setTop (mkF m 5 #[.val (.int p1), .unset, .unset, .unset] [(.ref b20)])) _
    refine XS.dup X20.here hx rfl (hb hby at_5) rfl rfl ?_
    show Steps p.tables e below (T20.setTop (mkF m 6 #[.val (.int p1), .unset, .unset, .unset] [(.ref b20), (.ref b20)])) _
    refine XT.iconstV X20.here hx rfl (0 : Int32) (hb hby at_6) rfl ?_
    show Steps p.tables e below (T20.setTop (mkF m 7 #[.val (.int p1), .unset, .unset, .unset] [(.int (0 : Int32)), (.ref b20), (.ref b20)])) _
    refine st21 _ ?_
    show Steps p.tables e below (T21.setTop (mkF m 10 #[.val (.int p1), .unset, .unset, .unset] [(.ref w0), (.int (0 : Int32)), (.ref b20), (.ref b20)])) _
    refine st22 _ ?_
    show Steps p.tables e below (T22.setTop (mkF m 11 #[.val (.int p1), .unset, .unset, .unset] [(.ref b20)])) _
    refine XS.dup X22.here hx rfl (hb hby at_11) rfl rfl ?_
    show Steps p.tables e below (T22.setTop (mkF m 12 #[.val (.int p1), .unset, .unset, .unset] [(.ref b20), (.ref b20)])) _
    refine XT.iconstV X22.here hx rfl (1 : Int32) (hb hby at_12) rfl ?_
    show Steps p.tables e below (T22.setTop (mkF m 13 #[.val (.int p1), .unset, .unset, .unset] [(.int (1 : Int32)), (.ref b20), (.ref b20)])) _
    refine st23 _ ?_
    show Steps p.tables e below (T23.setTop (mkF m 16 #[.val (.int p1), .unset, .unset, .unset] [(.ref w1), (.int (1 : Int32)), (.ref b20), (.ref b20)])) _
    refine st24 _ ?_
    show Steps p.tables e below (T24.setTop (mkF m 17 #[.val (.int p1), .unset, .unset, .unset] [(.ref b20)])) _
    refine XS.dup X24.here hx rfl (hb hby at_17) rfl rfl ?_
    show Steps p.tables e below (T24.setTop (mkF m 18 #[.val (.int p1), .unset, .unset, .unset] [(.ref b20), (.ref b20)])) _
    refine XT.iconstV X24.here hx rfl (2 : Int32) (hb hby at_18) rfl ?_
    show Steps p.tables e below (T24.setTop (mkF m 19 #[.val (.int p1), .unset, .unset, .unset] [(.int (2 : Int32)), (.ref b20), (.ref b20)])) _
    refine st25 _ ?_
    show Steps p.tables e below (T25.setTop (mkF m 22 #[.val (.int p1), .unset, .unset, .unset] [(.ref w2), (.int (2 : Int32)), (.ref b20), (.ref b20)])) _
    refine st26 _ ?_
    show Steps p.tables e below (T26.setTop (mkF m 23 #[.val (.int p1), .unset, .unset, .unset] [(.ref b20)])) _
    refine XS.dup X26.here hx rfl (hb hby at_23) rfl rfl ?_
    show Steps p.tables e below (T26.setTop (mkF m 24 #[.val (.int p1), .unset, .unset, .unset] [(.ref b20), (.ref b20)])) _
    refine XT.iconstV X26.here hx rfl (3 : Int32) (hb hby at_24) rfl ?_
    show Steps p.tables e below (T26.setTop (mkF m 25 #[.val (.int p1), .unset, .unset, .unset] [(.int (3 : Int32)), (.ref b20), (.ref b20)])) _
    refine st27 _ ?_
    show Steps p.tables e below (T27.setTop (mkF m 28 #[.val (.int p1), .unset, .unset, .unset] [(.ref w3), (.int (3 : Int32)), (.ref b20), (.ref b20)])) _
    refine st28 _ ?_
    show Steps p.tables e below (T28.setTop (mkF m 29 #[.val (.int p1), .unset, .unset, .unset] [(.ref b20)])) _
    refine XS.dup X28.here hx rfl (hb hby at_29) rfl rfl ?_
    show Steps p.tables e below (T28.setTop (mkF m 30 #[.val (.int p1), .unset, .unset, .unset] [(.ref b20), (.ref b20)])) _
    refine XT.iconstV X28.here hx rfl (4 : Int32) (hb hby at_30) rfl ?_
    show Steps p.tables e below (T28.setTop (mkF m 31 #[.val (.int p1), .unset, .unset, .unset] [(.int (4 : Int32)), (.ref b20), (.ref b20)])) _
    refine st29 _ ?_
    show Steps p.tables e below (T29.setTop (mkF m 34 #[.val (.int p1), .unset, .unset, .unset] [(.ref w4), (.int (4 : Int32)), (.ref b20), (.ref b20)])) _
    refine st30 _ ?_
    show Steps p.tables e below (T30.setTop (mkF m 35 #[.val (.int p1), .unset, .unset, .unset] [(.ref b20)])) _
    refine XS.dup X30.here hx rfl (hb hby at_35) rfl rfl ?_
    show Steps p.tables e below (T30.setTop (mkF m 36 #[.val (.int p1), .unset, .unset, .unset] [(.ref b20), (.ref b20)])) _
    refine XT.iconstV X30.here hx rfl (5 : Int32) (hb hby at_36) rfl ?_
    show Steps p.tables e below (T30.setTop (mkF m 37 #[.val (.int p1), .unset, .unset, .unset] [(.int (5 : Int32)), (.ref b20), (.ref b20)])) _
    refine st31 _ ?_
    show Steps p.tables e below (T31.setTop (mkF m 40 #[.val (.int p1), .unset, .unset, .unset] [(.ref w5), (.int (5 : Int32)), (.ref b20), (.ref b20)])) _
    refine st32 _ ?_
    show Steps p.tables e below (T32.setTop (mkF m 41 #[.val (.int p1), .unset, .unset, .unset] [(.ref b20)])) _
    refine XS.dup X32.here hx rfl (hb hby at_41) rfl rfl ?_
    show Steps p.tables e below (T32.setTop (mkF m 42 #[.val (.int p1), .unset, .unset, .unset] [(.ref b20), (.ref b20)])) _
    refine XT.bipushV X32.here hx rfl (6 : Int32) (hb hby at_42) (by decide) ?_
    show Steps p.tables e below (T32.setTop (mkF m 44 #[.val (.int p1), .unset, .unset, .unset] [(.int (6 : Int32)), (.ref b20), (.ref b20)])) _
    refine st33 _ ?_
    show Steps p.tables e below (T33.setTop (mkF m 47 #[.val (.int p1), .unset, .unset, .unset] [(.ref w6), (.int (6 : Int32)), (.ref b20), (.ref b20)])) _
    refine st34 _ ?_
    show Steps p.tables e below (T34.setTop (mkF m 48 #[.val (.int p1), .unset, .unset, .unset] [(.ref b20)])) _
    refine XS.dup X34.here hx rfl (hb hby at_48) rfl rfl ?_
    show Steps p.tables e below (T34.setTop (mkF m 49 #[.val (.int p1), .unset, .unset, .unset] [(.ref b20), (.ref b20)])) _
    refine XT.bipushV X34.here hx rfl (7 : Int32) (hb hby at_49) (by decide) ?_
    show Steps p.tables e below (T34.setTop (mkF m 51 #[.val (.int p1), .unset, .unset, .unset] [(.int (7 : Int32)), (.ref b20), (.ref b20)])) _
    refine st35 _ ?_
    show Steps p.tables e below (T35.setTop (mkF m 54 #[.val (.int p1), .unset, .unset, .unset] [(.ref w7), (.int (7 : Int32)), (.ref b20), (.ref b20)])) _
    refine st36 _ ?_
    show Steps p.tables e below (T36.setTop (mkF m 55 #[.val (.int p1), .unset, .unset, .unset] [(.ref b20)])) _
    refine XS.dup X36.here hx rfl (hb hby at_55) rfl rfl ?_
    show Steps p.tables e below (T36.setTop (mkF m 56 #[.val (.int p1), .unset, .unset, .unset] [(.ref b20), (.ref b20)])) _
    refine XT.bipushV X36.here hx rfl (8 : Int32) (hb hby at_56) (by decide) ?_
    show Steps p.tables e below (T36.setTop (mkF m 58 #[.val (.int p1), .unset, .unset, .unset] [(.int (8 : Int32)), (.ref b20), (.ref b20)])) _
    refine st37 _ ?_
    show Steps p.tables e below (T37.setTop (mkF m 61 #[.val (.int p1), .unset, .unset, .unset] [(.ref w8), (.int (8 : Int32)), (.ref b20), (.ref b20)])) _
    refine st38 _ ?_
    show Steps p.tables e below (T38.setTop (mkF m 62 #[.val (.int p1), .unset, .unset, .unset] [(.ref b20)])) _
    refine XS.dup X38.here hx rfl (hb hby at_62) rfl rfl ?_
    show Steps p.tables e below (T38.setTop (mkF m 63 #[.val (.int p1), .unset, .unset, .unset] [(.ref b20), (.ref b20)])) _
    refine XT.bipushV X38.here hx rfl (9 : Int32) (hb hby at_63) (by decide) ?_
    show Steps p.tables e below (T38.setTop (mkF m 65 #[.val (.int p1), .unset, .unset, .unset] [(.int (9 : Int32)), (.ref b20), (.ref b20)])) _
    refine st39 _ ?_
    show Steps p.tables e below (T39.setTop (mkF m 68 #[.val (.int p1), .unset, .unset, .unset] [(.ref w9), (.int (9 : Int32)), (.ref b20), (.ref b20)])) _
    refine st40 _ ?_
    show Steps p.tables e below (T40.setTop (mkF m 69 #[.val (.int p1), .unset, .unset, .unset] [(.ref b20)])) _
    refine XS.dup X40.here hx rfl (hb hby at_69) rfl rfl ?_
    show Steps p.tables e below (T40.setTop (mkF m 70 #[.val (.int p1), .unset, .unset, .unset] [(.ref b20), (.ref b20)])) _
    refine XT.bipushV X40.here hx rfl (10 : Int32) (hb hby at_70) (by decide) ?_
    show Steps p.tables e below (T40.setTop (mkF m 72 #[.val (.int p1), .unset, .unset, .unset] [(.int (10 : Int32)), (.ref b20), (.ref b20)])) _
    refine st41 _ ?_
    show Steps p.tables e below (T41.setTop (mkF m 75 #[.val (.int p1), .unset, .unset, .unset] [(.ref w10), (.int (10 : Int32)), (.ref b20), (.ref b20)])) _
    refine st42 _ ?_
    show Steps p.tables e below (T42.setTop (mkF m 76 #[.val (.int p1), .unset, .unset, .unset] [(.ref b20)])) _
    refine XS.dup X42.here hx rfl (hb hby at_76) rfl rfl ?_
    show Steps p.tables e below (T42.setTop (mkF m 77 #[.val (.int p1), .unset, .unset, .unset] [(.ref b20), (.ref b20)])) _
    refine XT.bipushV X42.here hx rfl (11 : Int32) (hb hby at_77) (by decide) ?_
    show Steps p.tables e below (T42.setTop (mkF m 79 #[.val (.int p1), .unset, .unset, .unset] [(.int (11 : Int32)), (.ref b20), (.ref b20)])) _
    refine st43 _ ?_
    show Steps p.tables e below (T43.setTop (mkF m 82 #[.val (.int p1), .unset, .unset, .unset] [(.ref w11), (.int (11 : Int32)), (.ref b20), (.ref b20)])) _
    refine st44 _ ?_
    show Steps p.tables e below (T44.setTop (mkF m 83 #[.val (.int p1), .unset, .unset, .unset] [(.ref b20)])) _
    refine XS.dup X44.here hx rfl (hb hby at_83) rfl rfl ?_
    show Steps p.tables e below (T44.setTop (mkF m 84 #[.val (.int p1), .unset, .unset, .unset] [(.ref b20), (.ref b20)])) _
    refine XT.bipushV X44.here hx rfl (12 : Int32) (hb hby at_84) (by decide) ?_
    show Steps p.tables e below (T44.setTop (mkF m 86 #[.val (.int p1), .unset, .unset, .unset] [(.int (12 : Int32)), (.ref b20), (.ref b20)])) _
    refine st45 _ ?_
    show Steps p.tables e below (T45.setTop (mkF m 89 #[.val (.int p1), .unset, .unset, .unset] [(.ref w12), (.int (12 : Int32)), (.ref b20), (.ref b20)])) _
    refine st46 _ ?_
    show Steps p.tables e below (T46.setTop (mkF m 90 #[.val (.int p1), .unset, .unset, .unset] [(.ref b20)])) _
    refine XS.dup X46.here hx rfl (hb hby at_90) rfl rfl ?_
    show Steps p.tables e below (T46.setTop (mkF m 91 #[.val (.int p1), .unset, .unset, .unset] [(.ref b20), (.ref b20)])) _
    refine XT.bipushV X46.here hx rfl (13 : Int32) (hb hby at_91) (by decide) ?_
    show Steps p.tables e below (T46.setTop (mkF m 93 #[.val (.int p1), .unset, .unset, .unset] [(.int (13 : Int32)), (.ref b20), (.ref b20)])) _
    refine st47 _ ?_
    show Steps p.tables e below (T47.setTop (mkF m 96 #[.val (.int p1), .unset, .unset, .unset] [(.ref w13), (.int (13 : Int32)), (.ref b20), (.ref b20)])) _
    refine st48 _ ?_
    show Steps p.tables e below (T48.setTop (mkF m 97 #[.val (.int p1), .unset, .unset, .unset] [(.ref b20)])) _
    refine XS.dup X48.here hx rfl (hb hby at_97) rfl rfl ?_
    show Steps p.tables e below (T48.setTop (mkF m 98 #[.val (.int p1), .unset, .unset, .unset] [(.ref b20), (.ref b20)])) _
    refine XT.bipushV X48.here hx rfl (14 : Int32) (hb hby at_98) (by decide) ?_
    show Steps p.tables e below (T48.setTop (mkF m 100 #[.val (.int p1), .unset, .unset, .unset] [(.int (14 : Int32)), (.ref b20), (.ref b20)])) _
    refine st49 _ ?_
    show Steps p.tables e below (T49.setTop (mkF m 103 #[.val (.int p1), .unset, .unset, .unset] [(.ref w14), (.int (14 : Int32)), (.ref b20), (.ref b20)])) _
    refine st50 _ ?_
    show Steps p.tables e below (T50.setTop (mkF m 104 #[.val (.int p1), .unset, .unset, .unset] [(.ref b20)])) _
    refine XS.dup X50.here hx rfl (hb hby at_104) rfl rfl ?_
    show Steps p.tables e below (T50.setTop (mkF m 105 #[.val (.int p1), .unset, .unset, .unset] [(.ref b20), (.ref b20)])) _
    refine XT.bipushV X50.here hx rfl (15 : Int32) (hb hby at_105) (by decide) ?_
    show Steps p.tables e below (T50.setTop (mkF m 107 #[.val (.int p1), .unset, .unset, .unset] [(.int (15 : Int32)), (.ref b20), (.ref b20)])) _
    refine st51 _ ?_
    show Steps p.tables e below (T51.setTop (mkF m 110 #[.val (.int p1), .unset, .unset, .unset] [(.ref w15), (.int (15 : Int32)), (.ref b20), (.ref b20)])) _
    refine st52 _ ?_
    show Steps p.tables e below (T52.setTop (mkF m 111 #[.val (.int p1), .unset, .unset, .unset] [(.ref b20)])) _
    refine XS.dup X52.here hx rfl (hb hby at_111) rfl rfl ?_
    show Steps p.tables e below (T52.setTop (mkF m 112 #[.val (.int p1), .unset, .unset, .unset] [(.ref b20), (.ref b20)])) _
    refine XT.bipushV X52.here hx rfl (16 : Int32) (hb hby at_112) (by decide) ?_
    show Steps p.tables e below (T52.setTop (mkF m 114 #[.val (.int p1), .unset, .unset, .unset] [(.int (16 : Int32)), (.ref b20), (.ref b20)])) _
    refine st53 _ ?_
    show Steps p.tables e below (T53.setTop (mkF m 117 #[.val (.int p1), .unset, .unset, .unset] [(.ref w16), (.int (16 : Int32)), (.ref b20), (.ref b20)])) _
    refine st54 _ ?_
    show Steps p.tables e below (T54.setTop (mkF m 118 #[.val (.int p1), .unset, .unset, .unset] [(.ref b20)])) _
    refine XS.dup X54.here hx rfl (hb hby at_118) rfl rfl ?_
    show Steps p.tables e below (T54.setTop (mkF m 119 #[.val (.int p1), .unset, .unset, .unset] [(.ref b20), (.ref b20)])) _
    refine XT.bipushV X54.here hx rfl (17 : Int32) (hb hby at_119) (by decide) ?_
    show Steps p.tables e below (T54.setTop (mkF m 121 #[.val (.int p1), .unset, .unset, .unset] [(.int (17 : Int32)), (.ref b20), (.ref b20)])) _
    refine st55 _ ?_
    show Steps p.tables e below (T55.setTop (mkF m 124 #[.val (.int p1), .unset, .unset, .unset] [(.ref w17), (.int (17 : Int32)), (.ref b20), (.ref b20)])) _
    refine st56 _ ?_
    show Steps p.tables e below (T56.setTop (mkF m 125 #[.val (.int p1), .unset, .unset, .unset] [(.ref b20)])) _
    refine XS.dup X56.here hx rfl (hb hby at_125) rfl rfl ?_
    show Steps p.tables e below (T56.setTop (mkF m 126 #[.val (.int p1), .unset, .unset, .unset] [(.ref b20), (.ref b20)])) _
    refine XT.bipushV X56.here hx rfl (18 : Int32) (hb hby at_126) (by decide) ?_
    show Steps p.tables e below (T56.setTop (mkF m 128 #[.val (.int p1), .unset, .unset, .unset] [(.int (18 : Int32)), (.ref b20), (.ref b20)])) _
    refine st57 _ ?_
    show Steps p.tables e below (T57.setTop (mkF m 131 #[.val (.int p1), .unset, .unset, .unset] [(.ref w18), (.int (18 : Int32)), (.ref b20), (.ref b20)])) _
    refine st58 _ ?_
    show Steps p.tables e below (T58.setTop (mkF m 132 #[.val (.int p1), .unset, .unset, .unset] [(.ref b20)])) _
    refine XS.astoreN X58.here hx rfl (hb hby at_132) rfl rfl (l' := #[.val (.int p1), .val (.ref b20), .unset, .unset]) rfl ?_
    show Steps p.tables e below (T58.setTop (mkF m 133 #[.val (.int p1), .val (.ref b20), .unset, .unset] [])) _
    exact kk
  obtain ⟨U, hB, locsU, bB, kB, Y, eU, NU, EXB, VB, thru⟩ := thru0
  have ZB : n0 ≤ hB.size := Nat.le_trans Z0 EXB.1
  rcases own_cases p1 with hk | hk | hk | hk | hk | hk | hk | hk | hk | hk | hk | hk | hk | hk | hk | hk | hk | hk | hk
  · obtain ⟨cl59, Ar59, Q59, H59⟩ := own_at VB (j := (0 : Int32)) (v := (.ref w0)) (by decide) rfl
    obtain ⟨cq60, kq60, q60a, q60b, q60c⟩ := isOf hZ eU (E0.ext EXB)
    obtain ⟨_, _, ⟨T60, L60, k60, n60⟩, -, X60, ⟨Lc60, hQ60, l60, y60, z60⟩, st60⟩ := Y.virtualBack hx (y := (⟨"com/example/plimsoll/plimsoll/wire/SaspType", "isMessage", "()Z"⟩ : MethodName)) (z := (⟨"com/example/plimsoll/plimsoll/wire/SaspType", "isMessage", "()Z"⟩ : MethodName)) hown (mvT hZ (hw _ (List.mem_of_getElem? (i := 43) rfl))) (mvT hZ (hw _ (List.mem_of_getElem? (i := 44) rfl))) (notFace_of_selects (args := #[]) (mvT hZ (hw _ (List.mem_of_getElem? (i := 46) rfl)))) (mvT hZ (hw _ (List.mem_of_getElem? (i := 46) rfl))) (mvT hZ (hw _ (List.mem_of_getElem? (i := 45) rfl))) (by decide) (backOf (W := 0) (own_isMessage_0 l Z a0 hw [] w0 w1 w2 w3 w4 w5 w6 w7 w8 w9 w10 w11 w12 w13 w14 w15 w16 w17 w18 hB n0 ZB (own_P_ext P EXB)) hZ (hw _ (List.mem_of_getElem? (i := 47) rfl)) (hw _ (List.mem_of_getElem? (i := 3) rfl)) (by decide) (by decide)) q60a q60c (g := (mkF m 161 #[.val (.int p1), .val (.ref bB), .val (.int (0 : Int32)), .val (.int (0 : Int32))] [(.ref w0)])) rfl (by rw [hml]; rfl) (Steps.refl _) (argsL := []) (rest := []) (lenOf pd___Z rfl) rfl (by show 2 * 0 + _ ≤ _; exact Nat.le_of_eq rfl) (hb hby at_161) (fun _ _ => ⟨rfl, eU, (by decide : 1 + 0 ≤ _), (by decide : 19 + 0 ≤ _)⟩)
    dsimp only [Pt.U, Pt.locs, Pt.cells, Pt.slots] at X60 l60 y60 z60 st60 hQ60
    subst l60 y60 z60
    obtain ⟨rfl, N60q, e60⟩ := hQ60
    have N60 := Fr.app NU N60q
    obtain ⟨fs, hr, hrun, hended, hW, hsame⟩ := X60.leave (v := some (.int (1 : Int32))) (fun h => by rw [Bd.returns] at h; cases h)
    refine ⟨_, _, pre0 _ (thru _ ?_), hrun, hended, _, _, rfl, ?_, ⟨_, rfl⟩, hW, hsame.mono (by decide) (by decide)⟩
    · show Steps p.tables e below (U.setTop (mkF m 133 #[.val (.int p1), .val (.ref bB), .unset, .unset] [])) _
      refine XS.iloadN Y.here hx rfl (hb hby at_133) rfl ?_
      show Steps p.tables e below (U.setTop (mkF m 134 #[.val (.int p1), .val (.ref bB), .unset, .unset] [(.int p1)])) _
      refine Jvm.Stand.ldcI Y hx hown (mvT hZ (hw _ (List.mem_of_getElem? (i := 42) rfl))) rfl (hb hby at_134) ?_
      show Steps p.tables e below (U.setTop (mkF m 136 #[.val (.int p1), .val (.ref bB), .unset, .unset] [(.int (2147483647 : Int32)), (.int p1)])) _
      refine XS.iand Y.here hx rfl (hb hby at_136) rfl ?_
      show Steps p.tables e below (U.setTop (mkF m 137 #[.val (.int p1), .val (.ref bB), .unset, .unset] [(.int (p1 &&& (2147483647 : Int32)))])) _
      refine XT.bipushV Y.here hx rfl (19 : Int32) (hb hby at_137) (by decide) ?_
      show Steps p.tables e below (U.setTop (mkF m 139 #[.val (.int p1), .val (.ref bB), .unset, .unset] [(.int (19 : Int32)), (.int (p1 &&& (2147483647 : Int32)))])) _
      refine iremM Y hx rfl (hb hby at_139) rfl (by decide) ?_
      show Steps p.tables e below (U.setTop (mkF m 140 #[.val (.int p1), .val (.ref bB), .unset, .unset] [(.int ((p1 &&& (2147483647 : Int32)) % (19 : Int32)))])) _
      rw [hk]
      show Steps p.tables e below (U.setTop (mkF m 140 #[.val (.int p1), .val (.ref bB), .unset, .unset] [(.int (0 : Int32))])) _
      refine XS.istoreN Y.here hx rfl (hb hby at_140) rfl (l' := #[.val (.int p1), .val (.ref bB), .val (.int (0 : Int32)), .unset]) rfl ?_
      show Steps p.tables e below (U.setTop (mkF m 141 #[.val (.int p1), .val (.ref bB), .val (.int (0 : Int32)), .unset] [])) _
      refine XS.iloadN Y.here hx rfl (hb hby at_141) rfl ?_
      show Steps p.tables e below (U.setTop (mkF m 142 #[.val (.int p1), .val (.ref bB), .val (.int (0 : Int32)), .unset] [(.int (0 : Int32))])) _
      refine XT.iconstV Y.here hx rfl (1 : Int32) (hb hby at_142) rfl ?_
      show Steps p.tables e below (U.setTop (mkF m 143 #[.val (.int p1), .val (.ref bB), .val (.int (0 : Int32)), .unset] [(.int (1 : Int32)), (.int (0 : Int32))])) _
      refine XS.icmpYes Y.here hx rfl (pc0 := 143) (pc' := 156) rfl (hb hby at_143) rfl (by decide) (by decide) (by decide) ?_
      show Steps p.tables e below (U.setTop (mkF m 156 #[.val (.int p1), .val (.ref bB), .val (.int (0 : Int32)), .unset] [])) _
      refine XT.iconstV Y.here hx rfl (0 : Int32) (hb hby at_156) rfl ?_
      show Steps p.tables e below (U.setTop (mkF m 157 #[.val (.int p1), .val (.ref bB), .val (.int (0 : Int32)), .unset] [(.int (0 : Int32))])) _
      refine XS.istoreN Y.here hx rfl (hb hby at_157) rfl (l' := #[.val (.int p1), .val (.ref bB), .val (.int (0 : Int32)), .val (.int (0 : Int32))]) rfl ?_
      show Steps p.tables e below (U.setTop (mkF m 158 #[.val (.int p1), .val (.ref bB), .val (.int (0 : Int32)), .val (.int (0 : Int32))] [])) _
      refine XS.aloadN Y.here hx rfl (hb hby at_158) rfl rfl ?_
      show Steps p.tables e below (U.setTop (mkF m 159 #[.val (.int p1), .val (.ref bB), .val (.int (0 : Int32)), .val (.int (0 : Int32))] [(.ref bB)])) _
      refine XS.iloadN Y.here hx rfl (hb hby at_159) rfl ?_
      show Steps p.tables e below (U.setTop (mkF m 160 #[.val (.int p1), .val (.ref bB), .val (.int (0 : Int32)), .val (.int (0 : Int32))] [(.int (0 : Int32)), (.ref bB)])) _
      refine Y.aaload hx (j := (0 : Int32)) (v := (.ref w0)) (by rw [eU]; exact Ar59.1) (State.isArrayOf_alike hZ.alike Ar59.2.1) rfl Ar59.2.2 Q59 H59 (g := (mkF m 160 #[.val (.int p1), .val (.ref bB), .val (.int (0 : Int32)), .val (.int (0 : Int32))] [(.int (0 : Int32)), (.ref bB)])) rfl rfl (hb hby at_160) _ ?_
      show Steps p.tables e below (U.setTop (mkF m 161 #[.val (.int p1), .val (.ref bB), .val (.int (0 : Int32)), .val (.int (0 : Int32))] [(.ref w0)])) _
      refine st60.trans ?_
      show Steps p.tables e below (T60.setTop (mkF m 164 #[.val (.int p1), .val (.ref bB), .val (.int (0 : Int32)), .val (.int (0 : Int32))] [(.int (0 : Int32))])) _
      refine XS.iloadN X60.here hx rfl (hb hby at_164) rfl ?_
      show Steps p.tables e below (T60.setTop (mkF m 165 #[.val (.int p1), .val (.ref bB), .val (.int (0 : Int32)), .val (.int (0 : Int32))] [(.int (0 : Int32)), (.int (0 : Int32))])) _
      refine XS.icmpNo X60.here hx rfl (hb hby at_165) rfl (by decide) ?_
      show Steps p.tables e below (T60.setTop (mkF m 168 #[.val (.int p1), .val (.ref bB), .val (.int (0 : Int32)), .val (.int (0 : Int32))] [])) _
      refine XT.iconstV X60.here hx rfl (1 : Int32) (hb hby at_168) rfl ?_
      show Steps p.tables e below (T60.setTop (mkF m 169 #[.val (.int p1), .val (.ref bB), .val (.int (0 : Int32)), .val (.int (0 : Int32))] [(.int (1 : Int32))])) _
      refine XS.goto X60.here hx rfl (pc0 := 169) (pc' := 173) rfl (hb hby at_169) (by decide) (by decide) ?_
      show Steps p.tables e below (T60.setTop (mkF m 173 #[.val (.int p1), .val (.ref bB), .val (.int (0 : Int32)), .val (.int (0 : Int32))] [(.int (1 : Int32))])) _
      exact retN X60 hx (t := .boolean) Bd.returns (by simp) (hb hby at_173) hr
    · show own_Q0 n0 _ T60.heap _
      exact ⟨rfl, N60⟩
  · obtain ⟨cl61, Ar61, Q61, H61⟩ := own_at VB (j := (1 : Int32)) (v := (.ref w1)) (by decide) rfl
    obtain ⟨cq62, kq62, q62a, q62b, q62c⟩ := isOf hZ eU (E1.ext EXB)
    obtain ⟨_, _, ⟨T62, L62, k62, n62⟩, -, X62, ⟨Lc62, hQ62, l62, y62, z62⟩, st62⟩ := Y.virtualBack hx (y := (⟨"com/example/plimsoll/plimsoll/wire/SaspType", "isMessage", "()Z"⟩ : MethodName)) (z := (⟨"com/example/plimsoll/plimsoll/wire/SaspType", "isMessage", "()Z"⟩ : MethodName)) hown (mvT hZ (hw _ (List.mem_of_getElem? (i := 43) rfl))) (mvT hZ (hw _ (List.mem_of_getElem? (i := 44) rfl))) (notFace_of_selects (args := #[]) (mvT hZ (hw _ (List.mem_of_getElem? (i := 46) rfl)))) (mvT hZ (hw _ (List.mem_of_getElem? (i := 46) rfl))) (mvT hZ (hw _ (List.mem_of_getElem? (i := 45) rfl))) (by decide) (backOf (W := 0) (own_isMessage_1 l Z a0 hw [] w0 w1 w2 w3 w4 w5 w6 w7 w8 w9 w10 w11 w12 w13 w14 w15 w16 w17 w18 hB n0 ZB (own_P_ext P EXB)) hZ (hw _ (List.mem_of_getElem? (i := 47) rfl)) (hw _ (List.mem_of_getElem? (i := 3) rfl)) (by decide) (by decide)) q62a q62c (g := (mkF m 161 #[.val (.int p1), .val (.ref bB), .val (.int (1 : Int32)), .val (.int (1 : Int32))] [(.ref w1)])) rfl (by rw [hml]; rfl) (Steps.refl _) (argsL := []) (rest := []) (lenOf pd___Z rfl) rfl (by show 2 * 0 + _ ≤ _; exact Nat.le_of_eq rfl) (hb hby at_161) (fun _ _ => ⟨rfl, eU, (by decide : 1 + 0 ≤ _), (by decide : 19 + 0 ≤ _)⟩)
    dsimp only [Pt.U, Pt.locs, Pt.cells, Pt.slots] at X62 l62 y62 z62 st62 hQ62
    subst l62 y62 z62
    obtain ⟨rfl, N62q, e62⟩ := hQ62
    have N62 := Fr.app NU N62q
    obtain ⟨fs, hr, hrun, hended, hW, hsame⟩ := X62.leave (v := some (.int (1 : Int32))) (fun h => by rw [Bd.returns] at h; cases h)
    refine ⟨_, _, pre0 _ (thru _ ?_), hrun, hended, _, _, rfl, ?_, ⟨_, rfl⟩, hW, hsame.mono (by decide) (by decide)⟩
    · show Steps p.tables e below (U.setTop (mkF m 133 #[.val (.int p1), .val (.ref bB), .unset, .unset] [])) _
      refine XS.iloadN Y.here hx rfl (hb hby at_133) rfl ?_
      show Steps p.tables e below (U.setTop (mkF m 134 #[.val (.int p1), .val (.ref bB), .unset, .unset] [(.int p1)])) _
      refine Jvm.Stand.ldcI Y hx hown (mvT hZ (hw _ (List.mem_of_getElem? (i := 42) rfl))) rfl (hb hby at_134) ?_
      show Steps p.tables e below (U.setTop (mkF m 136 #[.val (.int p1), .val (.ref bB), .unset, .unset] [(.int (2147483647 : Int32)), (.int p1)])) _
      refine XS.iand Y.here hx rfl (hb hby at_136) rfl ?_
      show Steps p.tables e below (U.setTop (mkF m 137 #[.val (.int p1), .val (.ref bB), .unset, .unset] [(.int (p1 &&& (2147483647 : Int32)))])) _
      refine XT.bipushV Y.here hx rfl (19 : Int32) (hb hby at_137) (by decide) ?_
      show Steps p.tables e below (U.setTop (mkF m 139 #[.val (.int p1), .val (.ref bB), .unset, .unset] [(.int (19 : Int32)), (.int (p1 &&& (2147483647 : Int32)))])) _
      refine iremM Y hx rfl (hb hby at_139) rfl (by decide) ?_
      show Steps p.tables e below (U.setTop (mkF m 140 #[.val (.int p1), .val (.ref bB), .unset, .unset] [(.int ((p1 &&& (2147483647 : Int32)) % (19 : Int32)))])) _
      rw [hk]
      show Steps p.tables e below (U.setTop (mkF m 140 #[.val (.int p1), .val (.ref bB), .unset, .unset] [(.int (1 : Int32))])) _
      refine XS.istoreN Y.here hx rfl (hb hby at_140) rfl (l' := #[.val (.int p1), .val (.ref bB), .val (.int (1 : Int32)), .unset]) rfl ?_
      show Steps p.tables e below (U.setTop (mkF m 141 #[.val (.int p1), .val (.ref bB), .val (.int (1 : Int32)), .unset] [])) _
      refine XS.iloadN Y.here hx rfl (hb hby at_141) rfl ?_
      show Steps p.tables e below (U.setTop (mkF m 142 #[.val (.int p1), .val (.ref bB), .val (.int (1 : Int32)), .unset] [(.int (1 : Int32))])) _
      refine XT.iconstV Y.here hx rfl (1 : Int32) (hb hby at_142) rfl ?_
      show Steps p.tables e below (U.setTop (mkF m 143 #[.val (.int p1), .val (.ref bB), .val (.int (1 : Int32)), .unset] [(.int (1 : Int32)), (.int (1 : Int32))])) _
      refine XS.icmpNo Y.here hx rfl (hb hby at_143) rfl (by decide) ?_
      show Steps p.tables e below (U.setTop (mkF m 146 #[.val (.int p1), .val (.ref bB), .val (.int (1 : Int32)), .unset] [])) _
      refine XS.iloadN Y.here hx rfl (hb hby at_146) rfl ?_
      show Steps p.tables e below (U.setTop (mkF m 147 #[.val (.int p1), .val (.ref bB), .val (.int (1 : Int32)), .unset] [(.int (1 : Int32))])) _
      refine XT.bipushV Y.here hx rfl (11 : Int32) (hb hby at_147) (by decide) ?_
      show Steps p.tables e below (U.setTop (mkF m 149 #[.val (.int p1), .val (.ref bB), .val (.int (1 : Int32)), .unset] [(.int (11 : Int32)), (.int (1 : Int32))])) _
      refine XS.icmpNo Y.here hx rfl (hb hby at_149) rfl (by decide) ?_
      show Steps p.tables e below (U.setTop (mkF m 152 #[.val (.int p1), .val (.ref bB), .val (.int (1 : Int32)), .unset] [])) _
      refine XT.iconstV Y.here hx rfl (1 : Int32) (hb hby at_152) rfl ?_
      show Steps p.tables e below (U.setTop (mkF m 153 #[.val (.int p1), .val (.ref bB), .val (.int (1 : Int32)), .unset] [(.int (1 : Int32))])) _
      refine XS.goto Y.here hx rfl (pc0 := 153) (pc' := 157) rfl (hb hby at_153) (by decide) (by decide) ?_
      show Steps p.tables e below (U.setTop (mkF m 157 #[.val (.int p1), .val (.ref bB), .val (.int (1 : Int32)), .unset] [(.int (1 : Int32))])) _
      refine XS.istoreN Y.here hx rfl (hb hby at_157) rfl (l' := #[.val (.int p1), .val (.ref bB), .val (.int (1 : Int32)), .val (.int (1 : Int32))]) rfl ?_
      show Steps p.tables e below (U.setTop (mkF m 158 #[.val (.int p1), .val (.ref bB), .val (.int (1 : Int32)), .val (.int (1 : Int32))] [])) _
      refine XS.aloadN Y.here hx rfl (hb hby at_158) rfl rfl ?_
      show Steps p.tables e below (U.setTop (mkF m 159 #[.val (.int p1), .val (.ref bB), .val (.int (1 : Int32)), .val (.int (1 : Int32))] [(.ref bB)])) _
      refine XS.iloadN Y.here hx rfl (hb hby at_159) rfl ?_
      show Steps p.tables e below (U.setTop (mkF m 160 #[.val (.int p1), .val (.ref bB), .val (.int (1 : Int32)), .val (.int (1 : Int32))] [(.int (1 : Int32)), (.ref bB)])) _
      refine Y.aaload hx (j := (1 : Int32)) (v := (.ref w1)) (by rw [eU]; exact Ar61.1) (State.isArrayOf_alike hZ.alike Ar61.2.1) rfl Ar61.2.2 Q61 H61 (g := (mkF m 160 #[.val (.int p1), .val (.ref bB), .val (.int (1 : Int32)), .val (.int (1 : Int32))] [(.int (1 : Int32)), (.ref bB)])) rfl rfl (hb hby at_160) _ ?_
      show Steps p.tables e below (U.setTop (mkF m 161 #[.val (.int p1), .val (.ref bB), .val (.int (1 : Int32)), .val (.int (1 : Int32))] [(.ref w1)])) _
      refine st62.trans ?_
      show Steps p.tables e below (T62.setTop (mkF m 164 #[.val (.int p1), .val (.ref bB), .val (.int (1 : Int32)), .val (.int (1 : Int32))] [(.int (1 : Int32))])) _
      refine XS.iloadN X62.here hx rfl (hb hby at_164) rfl ?_
      show Steps p.tables e below (T62.setTop (mkF m 165 #[.val (.int p1), .val (.ref bB), .val (.int (1 : Int32)), .val (.int (1 : Int32))] [(.int (1 : Int32)), (.int (1 : Int32))])) _
      refine XS.icmpNo X62.here hx rfl (hb hby at_165) rfl (by decide) ?_
      show Steps p.tables e below (T62.setTop (mkF m 168 #[.val (.int p1), .val (.ref bB), .val (.int (1 : Int32)), .val (.int (1 : Int32))] [])) _
      refine XT.iconstV X62.here hx rfl (1 : Int32) (hb hby at_168) rfl ?_
      show Steps p.tables e below (T62.setTop (mkF m 169 #[.val (.int p1), .val (.ref bB), .val (.int (1 : Int32)), .val (.int (1 : Int32))] [(.int (1 : Int32))])) _
      refine XS.goto X62.here hx rfl (pc0 := 169) (pc' := 173) rfl (hb hby at_169) (by decide) (by decide) ?_
      show Steps p.tables e below (T62.setTop (mkF m 173 #[.val (.int p1), .val (.ref bB), .val (.int (1 : Int32)), .val (.int (1 : Int32))] [(.int (1 : Int32))])) _
      exact retN X62 hx (t := .boolean) Bd.returns (by simp) (hb hby at_173) hr
    · show own_Q0 n0 _ T62.heap _
      exact ⟨rfl, N62⟩
  · obtain ⟨cl63, Ar63, Q63, H63⟩ := own_at VB (j := (2 : Int32)) (v := (.ref w2)) (by decide) rfl
    obtain ⟨cq64, kq64, q64a, q64b, q64c⟩ := isOf hZ eU (E2.ext EXB)
    obtain ⟨_, _, ⟨T64, L64, k64, n64⟩, -, X64, ⟨Lc64, hQ64, l64, y64, z64⟩, st64⟩ := Y.virtualBack hx (y := (⟨"com/example/plimsoll/plimsoll/wire/SaspType", "isMessage", "()Z"⟩ : MethodName)) (z := (⟨"com/example/plimsoll/plimsoll/wire/SaspType", "isMessage", "()Z"⟩ : MethodName)) hown (mvT hZ (hw _ (List.mem_of_getElem? (i := 43) rfl))) (mvT hZ (hw _ (List.mem_of_getElem? (i := 44) rfl))) (notFace_of_selects (args := #[]) (mvT hZ (hw _ (List.mem_of_getElem? (i := 46) rfl)))) (mvT hZ (hw _ (List.mem_of_getElem? (i := 46) rfl))) (mvT hZ (hw _ (List.mem_of_getElem? (i := 45) rfl))) (by decide) (backOf (W := 0) (own_isMessage_2 l Z a0 hw [] w0 w1 w2 w3 w4 w5 w6 w7 w8 w9 w10 w11 w12 w13 w14 w15 w16 w17 w18 hB n0 ZB (own_P_ext P EXB)) hZ (hw _ (List.mem_of_getElem? (i := 47) rfl)) (hw _ (List.mem_of_getElem? (i := 3) rfl)) (by decide) (by decide)) q64a q64c (g := (mkF m 161 #[.val (.int p1), .val (.ref bB), .val (.int (2 : Int32)), .val (.int (1 : Int32))] [(.ref w2)])) rfl (by rw [hml]; rfl) (Steps.refl _) (argsL := []) (rest := []) (lenOf pd___Z rfl) rfl (by show 2 * 0 + _ ≤ _; exact Nat.le_of_eq rfl) (hb hby at_161) (fun _ _ => ⟨rfl, eU, (by decide : 1 + 0 ≤ _), (by decide : 19 + 0 ≤ _)⟩)
    dsimp only [Pt.U, Pt.locs, Pt.cells, Pt.slots] at X64 l64 y64 z64 st64 hQ64
    subst l64 y64 z64
    obtain ⟨rfl, N64q, e64⟩ := hQ64
    have N64 := Fr.app NU N64q
    obtain ⟨fs, hr, hrun, hended, hW, hsame⟩ := X64.leave (v := some (.int (1 : Int32))) (fun h => by rw [Bd.returns] at h; cases h)
    refine ⟨_, _, pre0 _ (thru _ ?_), hrun, hended, _, _, rfl, ?_, ⟨_, rfl⟩, hW, hsame.mono (by decide) (by decide)⟩
    · show Steps p.tables e below (U.setTop (mkF m 133 #[.val (.int p1), .val (.ref bB), .unset, .unset] [])) _
      refine XS.iloadN Y.here hx rfl (hb hby at_133) rfl ?_
      show Steps p.tables e below (U.setTop (mkF m 134 #[.val (.int p1), .val (.ref bB), .unset, .unset] [(.int p1)])) _
      refine Jvm.Stand.ldcI Y hx hown (mvT hZ (hw _ (List.mem_of_getElem? (i := 42) rfl))) rfl (hb hby at_134) ?_
      show Steps p.tables e below (U.setTop (mkF m 136 #[.val (.int p1), .val (.ref bB), .unset, .unset] [(.int (2147483647 : Int32)), (.int p1)])) _
      refine XS.iand Y.here hx rfl (hb hby at_136) rfl ?_
      show Steps p.tables e below (U.setTop (mkF m 137 #[.val (.int p1), .val (.ref bB), .unset, .unset] [(.int (p1 &&& (2147483647 : Int32)))])) _
      refine XT.bipushV Y.here hx rfl (19 : Int32) (hb hby at_137) (by decide) ?_
      show Steps p.tables e below (U.setTop (mkF m 139 #[.val (.int p1), .val (.ref bB), .unset, .unset] [(.int (19 : Int32)), (.int (p1 &&& (2147483647 : Int32)))])) _
      refine iremM Y hx rfl (hb hby at_139) rfl (by decide) ?_
      show Steps p.tables e below (U.setTop (mkF m 140 #[.val (.int p1), .val (.ref bB), .unset, .unset] [(.int ((p1 &&& (2147483647 : Int32)) % (19 : Int32)))])) _
      rw [hk]
      show Steps p.tables e below (U.setTop (mkF m 140 #[.val (.int p1), .val (.ref bB), .unset, .unset] [(.int (2 : Int32))])) _
      refine XS.istoreN Y.here hx rfl (hb hby at_140) rfl (l' := #[.val (.int p1), .val (.ref bB), .val (.int (2 : Int32)), .unset]) rfl ?_
      show Steps p.tables e below (U.setTop (mkF m 141 #[.val (.int p1), .val (.ref bB), .val (.int (2 : Int32)), .unset] [])) _
      refine XS.iloadN Y.here hx rfl (hb hby at_141) rfl ?_
      show Steps p.tables e below (U.setTop (mkF m 142 #[.val (.int p1), .val (.ref bB), .val (.int (2 : Int32)), .unset] [(.int (2 : Int32))])) _
      refine XT.iconstV Y.here hx rfl (1 : Int32) (hb hby at_142) rfl ?_
      show Steps p.tables e below (U.setTop (mkF m 143 #[.val (.int p1), .val (.ref bB), .val (.int (2 : Int32)), .unset] [(.int (1 : Int32)), (.int (2 : Int32))])) _
      refine XS.icmpNo Y.here hx rfl (hb hby at_143) rfl (by decide) ?_
      show Steps p.tables e below (U.setTop (mkF m 146 #[.val (.int p1), .val (.ref bB), .val (.int (2 : Int32)), .unset] [])) _
      refine XS.iloadN Y.here hx rfl (hb hby at_146) rfl ?_
      show Steps p.tables e below (U.setTop (mkF m 147 #[.val (.int p1), .val (.ref bB), .val (.int (2 : Int32)), .unset] [(.int (2 : Int32))])) _
      refine XT.bipushV Y.here hx rfl (11 : Int32) (hb hby at_147) (by decide) ?_
      show Steps p.tables e below (U.setTop (mkF m 149 #[.val (.int p1), .val (.ref bB), .val (.int (2 : Int32)), .unset] [(.int (11 : Int32)), (.int (2 : Int32))])) _
      refine XS.icmpNo Y.here hx rfl (hb hby at_149) rfl (by decide) ?_
      show Steps p.tables e below (U.setTop (mkF m 152 #[.val (.int p1), .val (.ref bB), .val (.int (2 : Int32)), .unset] [])) _
      refine XT.iconstV Y.here hx rfl (1 : Int32) (hb hby at_152) rfl ?_
      show Steps p.tables e below (U.setTop (mkF m 153 #[.val (.int p1), .val (.ref bB), .val (.int (2 : Int32)), .unset] [(.int (1 : Int32))])) _
      refine XS.goto Y.here hx rfl (pc0 := 153) (pc' := 157) rfl (hb hby at_153) (by decide) (by decide) ?_
      show Steps p.tables e below (U.setTop (mkF m 157 #[.val (.int p1), .val (.ref bB), .val (.int (2 : Int32)), .unset] [(.int (1 : Int32))])) _
      refine XS.istoreN Y.here hx rfl (hb hby at_157) rfl (l' := #[.val (.int p1), .val (.ref bB), .val (.int (2 : Int32)), .val (.int (1 : Int32))]) rfl ?_
      show Steps p.tables e below (U.setTop (mkF m 158 #[.val (.int p1), .val (.ref bB), .val (.int (2 : Int32)), .val (.int (1 : Int32))] [])) _
      refine XS.aloadN Y.here hx rfl (hb hby at_158) rfl rfl ?_
      show Steps p.tables e below (U.setTop (mkF m 159 #[.val (.int p1), .val (.ref bB), .val (.int (2 : Int32)), .val (.int (1 : Int32))] [(.ref bB)])) _
      refine XS.iloadN Y.here hx rfl (hb hby at_159) rfl ?_
      show Steps p.tables e below (U.setTop (mkF m 160 #[.val (.int p1), .val (.ref bB), .val (.int (2 : Int32)), .val (.int (1 : Int32))] [(.int (2 : Int32)), (.ref bB)])) _
      refine Y.aaload hx (j := (2 : Int32)) (v := (.ref w2)) (by rw [eU]; exact Ar63.1) (State.isArrayOf_alike hZ.alike Ar63.2.1) rfl Ar63.2.2 Q63 H63 (g := (mkF m 160 #[.val (.int p1), .val (.ref bB), .val (.int (2 : Int32)), .val (.int (1 : Int32))] [(.int (2 : Int32)), (.ref bB)])) rfl rfl (hb hby at_160) _ ?_
      show Steps p.tables e below (U.setTop (mkF m 161 #[.val (.int p1), .val (.ref bB), .val (.int (2 : Int32)), .val (.int (1 : Int32))] [(.ref w2)])) _
      refine st64.trans ?_
      show Steps p.tables e below (T64.setTop (mkF m 164 #[.val (.int p1), .val (.ref bB), .val (.int (2 : Int32)), .val (.int (1 : Int32))] [(.int (1 : Int32))])) _
      refine XS.iloadN X64.here hx rfl (hb hby at_164) rfl ?_
      show Steps p.tables e below (T64.setTop (mkF m 165 #[.val (.int p1), .val (.ref bB), .val (.int (2 : Int32)), .val (.int (1 : Int32))] [(.int (1 : Int32)), (.int (1 : Int32))])) _
      refine XS.icmpNo X64.here hx rfl (hb hby at_165) rfl (by decide) ?_
      show Steps p.tables e below (T64.setTop (mkF m 168 #[.val (.int p1), .val (.ref bB), .val (.int (2 : Int32)), .val (.int (1 : Int32))] [])) _
      refine XT.iconstV X64.here hx rfl (1 : Int32) (hb hby at_168) rfl ?_
      show Steps p.tables e below (T64.setTop (mkF m 169 #[.val (.int p1), .val (.ref bB), .val (.int (2 : Int32)), .val (.int (1 : Int32))] [(.int (1 : Int32))])) _
      refine XS.goto X64.here hx rfl (pc0 := 169) (pc' := 173) rfl (hb hby at_169) (by decide) (by decide) ?_
      show Steps p.tables e below (T64.setTop (mkF m 173 #[.val (.int p1), .val (.ref bB), .val (.int (2 : Int32)), .val (.int (1 : Int32))] [(.int (1 : Int32))])) _
      exact retN X64 hx (t := .boolean) Bd.returns (by simp) (hb hby at_173) hr
    · show own_Q0 n0 _ T64.heap _
      exact ⟨rfl, N64⟩
  · obtain ⟨cl65, Ar65, Q65, H65⟩ := own_at VB (j := (3 : Int32)) (v := (.ref w3)) (by decide) rfl
    obtain ⟨cq66, kq66, q66a, q66b, q66c⟩ := isOf hZ eU (E3.ext EXB)
    obtain ⟨_, _, ⟨T66, L66, k66, n66⟩, -, X66, ⟨Lc66, hQ66, l66, y66, z66⟩, st66⟩ := Y.virtualBack hx (y := (⟨"com/example/plimsoll/plimsoll/wire/SaspType", "isMessage", "()Z"⟩ : MethodName)) (z := (⟨"com/example/plimsoll/plimsoll/wire/SaspType", "isMessage", "()Z"⟩ : MethodName)) hown (mvT hZ (hw _ (List.mem_of_getElem? (i := 43) rfl))) (mvT hZ (hw _ (List.mem_of_getElem? (i := 44) rfl))) (notFace_of_selects (args := #[]) (mvT hZ (hw _ (List.mem_of_getElem? (i := 46) rfl)))) (mvT hZ (hw _ (List.mem_of_getElem? (i := 46) rfl))) (mvT hZ (hw _ (List.mem_of_getElem? (i := 45) rfl))) (by decide) (backOf (W := 0) (own_isMessage_3 l Z a0 hw [] w0 w1 w2 w3 w4 w5 w6 w7 w8 w9 w10 w11 w12 w13 w14 w15 w16 w17 w18 hB n0 ZB (own_P_ext P EXB)) hZ (hw _ (List.mem_of_getElem? (i := 47) rfl)) (hw _ (List.mem_of_getElem? (i := 3) rfl)) (by decide) (by decide)) q66a q66c (g := (mkF m 161 #[.val (.int p1), .val (.ref bB), .val (.int (3 : Int32)), .val (.int (1 : Int32))] [(.ref w3)])) rfl (by rw [hml]; rfl) (Steps.refl _) (argsL := []) (rest := []) (lenOf pd___Z rfl) rfl (by show 2 * 0 + _ ≤ _; exact Nat.le_of_eq rfl) (hb hby at_161) (fun _ _ => ⟨rfl, eU, (by decide : 1 + 0 ≤ _), (by decide : 19 + 0 ≤ _)⟩)
    dsimp only [Pt.U, Pt.locs, Pt.cells, Pt.slots] at X66 l66 y66 z66 st66 hQ66
    subst l66 y66 z66
    obtain ⟨rfl, N66q, e66⟩ := hQ66
    have N66 := Fr.app NU N66q
    obtain ⟨fs, hr, hrun, hended, hW, hsame⟩ := X66.leave (v := some (.int (1 : Int32))) (fun h => by rw [Bd.returns] at h; cases h)
    refine ⟨_, _, pre0 _ (thru _ ?_), hrun, hended, _, _, rfl, ?_, ⟨_, rfl⟩, hW, hsame.mono (by decide) (by decide)⟩
    · show Steps p.tables e below (U.setTop (mkF m 133 #[.val (.int p1), .val (.ref bB), .unset, .unset] [])) _
      refine XS.iloadN Y.here hx rfl (hb hby at_133) rfl ?_
      show Steps p.tables e below (U.setTop (mkF m 134 #[.val (.int p1), .val (.ref bB), .unset, .unset] [(.int p1)])) _
      refine Jvm.Stand.ldcI Y hx hown (mvT hZ (hw _ (List.mem_of_getElem? (i := 42) rfl))) rfl (hb hby at_134) ?_
      show Steps p.tables e below (U.setTop (mkF m 136 #[.val (.int p1), .val (.ref bB), .unset, .unset] [(.int (2147483647 : Int32)), (.int p1)])) _
      refine XS.iand Y.here hx rfl (hb hby at_136) rfl ?_
      show Steps p.tables e below (U.setTop (mkF m 137 #[.val (.int p1), .val (.ref bB), .unset, .unset] [(.int (p1 &&& (2147483647 : Int32)))])) _
      refine XT.bipushV Y.here hx rfl (19 : Int32) (hb hby at_137) (by decide) ?_
      show Steps p.tables e below (U.setTop (mkF m 139 #[.val (.int p1), .val (.ref bB), .unset, .unset] [(.int (19 : Int32)), (.int (p1 &&& (2147483647 : Int32)))])) _
      refine iremM Y hx rfl (hb hby at_139) rfl (by decide) ?_
      show Steps p.tables e below (U.setTop (mkF m 140 #[.val (.int p1), .val (.ref bB), .unset, .unset] [(.int ((p1 &&& (2147483647 : Int32)) % (19 : Int32)))])) _
      rw [hk]
      show Steps p.tables e below (U.setTop (mkF m 140 #[.val (.int p1), .val (.ref bB), .unset, .unset] [(.int (3 : Int32))])) _
      refine XS.istoreN Y.here hx rfl (hb hby at_140) rfl (l' := #[.val (.int p1), .val (.ref bB), .val (.int (3 : Int32)), .unset]) rfl ?_
      show Steps p.tables e below (U.setTop (mkF m 141 #[.val (.int p1), .val (.ref bB), .val (.int (3 : Int32)), .unset] [])) _
      refine XS.iloadN Y.here hx rfl (hb hby at_141) rfl ?_
      show Steps p.tables e below (U.setTop (mkF m 142 #[.val (.int p1), .val (.ref bB), .val (.int (3 : Int32)), .unset] [(.int (3 : Int32))])) _
      refine XT.iconstV Y.here hx rfl (1 : Int32) (hb hby at_142) rfl ?_
      show Steps p.tables e below (U.setTop (mkF m 143 #[.val (.int p1), .val (.ref bB), .val (.int (3 : Int32)), .unset] [(.int (1 : Int32)), (.int (3 : Int32))])) _
      refine XS.icmpNo Y.here hx rfl (hb hby at_143) rfl (by decide) ?_
      show Steps p.tables e below (U.setTop (mkF m 146 #[.val (.int p1), .val (.ref bB), .val (.int (3 : Int32)), .unset] [])) _
      refine XS.iloadN Y.here hx rfl (hb hby at_146) rfl ?_
      show Steps p.tables e below (U.setTop (mkF m 147 #[.val (.int p1), .val (.ref bB), .val (.int (3 : Int32)), .unset] [(.int (3 : Int32))])) _
      refine XT.bipushV Y.here hx rfl (11 : Int32) (hb hby at_147) (by decide) ?_
      show Steps p.tables e below (U.setTop (mkF m 149 #[.val (.int p1), .val (.ref bB), .val (.int (3 : Int32)), .unset] [(.int (11 : Int32)), (.int (3 : Int32))])) _
      refine XS.icmpNo Y.here hx rfl (hb hby at_149) rfl (by decide) ?_
      show Steps p.tables e below (U.setTop (mkF m 152 #[.val (.int p1), .val (.ref bB), .val (.int (3 : Int32)), .unset] [])) _
      refine XT.iconstV Y.here hx rfl (1 : Int32) (hb hby at_152) rfl ?_
      show Steps p.tables e below (U.setTop (mkF m 153 #[.val (.int p1), .val (.ref bB), .val (.int (3 : Int32)), .unset] [(.int (1 : Int32))])) _
      refine XS.goto Y.here hx rfl (pc0 := 153) (pc' := 157) rfl (hb hby at_153) (by decide) (by decide) ?_
      show Steps p.tables e below (U.setTop (mkF m 157 #[.val (.int p1), .val (.ref bB), .val (.int (3 : Int32)), .unset] [(.int (1 : Int32))])) _
      refine XS.istoreN Y.here hx rfl (hb hby at_157) rfl (l' := #[.val (.int p1), .val (.ref bB), .val (.int (3 : Int32)), .val (.int (1 : Int32))]) rfl ?_
      show Steps p.tables e below (U.setTop (mkF m 158 #[.val (.int p1), .val (.ref bB), .val (.int (3 : Int32)), .val (.int (1 : Int32))] [])) _
      refine XS.aloadN Y.here hx rfl (hb hby at_158) rfl rfl ?_
      show Steps p.tables e below (U.setTop (mkF m 159 #[.val (.int p1), .val (.ref bB), .val (.int (3 : Int32)), .val (.int (1 : Int32))] [(.ref bB)])) _
      refine XS.iloadN Y.here hx rfl (hb hby at_159) rfl ?_
      show Steps p.tables e below (U.setTop (mkF m 160 #[.val (.int p1), .val (.ref bB), .val (.int (3 : Int32)), .val (.int (1 : Int32))] [(.int (3 : Int32)), (.ref bB)])) _
      refine Y.aaload hx (j := (3 : Int32)) (v := (.ref w3)) (by rw [eU]; exact Ar65.1) (State.isArrayOf_alike hZ.alike Ar65.2.1) rfl Ar65.2.2 Q65 H65 (g := (mkF m 160 #[.val (.int p1), .val (.ref bB), .val (.int (3 : Int32)), .val (.int (1 : Int32))] [(.int (3 : Int32)), (.ref bB)])) rfl rfl (hb hby at_160) _ ?_
      show Steps p.tables e below (U.setTop (mkF m 161 #[.val (.int p1), .val (.ref bB), .val (.int (3 : Int32)), .val (.int (1 : Int32))] [(.ref w3)])) _
      refine st66.trans ?_
      show Steps p.tables e below (T66.setTop (mkF m 164 #[.val (.int p1), .val (.ref bB), .val (.int (3 : Int32)), .val (.int (1 : Int32))] [(.int (1 : Int32))])) _
      refine XS.iloadN X66.here hx rfl (hb hby at_164) rfl ?_
      show Steps p.tables e below (T66.setTop (mkF m 165 #[.val (.int p1), .val (.ref bB), .val (.int (3 : Int32)), .val (.int (1 : Int32))] [(.int (1 : Int32)), (.int (1 : Int32))])) _
      refine XS.icmpNo X66.here hx rfl (hb hby at_165) rfl (by decide) ?_
      show Steps p.tables e below (T66.setTop (mkF m 168 #[.val (.int p1), .val (.ref bB), .val (.int (3 : Int32)), .val (.int (1 : Int32))] [])) _
      refine XT.iconstV X66.here hx rfl (1 : Int32) (hb hby at_168) rfl ?_
      show Steps p.tables e below (T66.setTop (mkF m 169 #[.val (.int p1), .val (.ref bB), .val (.int (3 : Int32)), .val (.int (1 : Int32))] [(.int (1 : Int32))])) _
      refine XS.goto X66.here hx rfl (pc0 := 169) (pc' := 173) rfl (hb hby at_169) (by decide) (by decide) ?_
      show Steps p.tables e below (T66.setTop (mkF m 173 #[.val (.int p1), .val (.ref bB), .val (.int (3 : Int32)), .val (.int (1 : Int32))] [(.int (1 : Int32))])) _
      exact retN X66 hx (t := .boolean) Bd.returns (by simp) (hb hby at_173) hr
    · show own_Q0 n0 _ T66.heap _
      exact ⟨rfl, N66⟩
  · obtain ⟨cl67, Ar67, Q67, H67⟩ := own_at VB (j := (4 : Int32)) (v := (.ref w4)) (by decide) rfl
    obtain ⟨cq68, kq68, q68a, q68b, q68c⟩ := isOf hZ eU (E4.ext EXB)
    obtain ⟨_, _, ⟨T68, L68, k68, n68⟩, -, X68, ⟨Lc68, hQ68, l68, y68, z68⟩, st68⟩ := Y.virtualBack hx (y := (⟨"com/example/plimsoll/plimsoll/wire/SaspType", "isMessage", "()Z"⟩ : MethodName)) (z := (⟨"com/example/plimsoll/plimsoll/wire/SaspType", "isMessage", "()Z"⟩ : MethodName)) hown (mvT hZ (hw _ (List.mem_of_getElem? (i := 43) rfl))) (mvT hZ (hw _ (List.mem_of_getElem? (i := 44) rfl))) (notFace_of_selects (args := #[]) (mvT hZ (hw _ (List.mem_of_getElem? (i := 46) rfl)))) (mvT hZ (hw _ (List.mem_of_getElem? (i := 46) rfl))) (mvT hZ (hw _ (List.mem_of_getElem? (i := 45) rfl))) (by decide) (backOf (W := 0) (own_isMessage_4 l Z a0 hw [] w0 w1 w2 w3 w4 w5 w6 w7 w8 w9 w10 w11 w12 w13 w14 w15 w16 w17 w18 hB n0 ZB (own_P_ext P EXB)) hZ (hw _ (List.mem_of_getElem? (i := 47) rfl)) (hw _ (List.mem_of_getElem? (i := 3) rfl)) (by decide) (by decide)) q68a q68c (g := (mkF m 161 #[.val (.int p1), .val (.ref bB), .val (.int (4 : Int32)), .val (.int (1 : Int32))] [(.ref w4)])) rfl (by rw [hml]; rfl) (Steps.refl _) (argsL := []) (rest := []) (lenOf pd___Z rfl) rfl (by show 2 * 0 + _ ≤ _; exact Nat.le_of_eq rfl) (hb hby at_161) (fun _ _ => ⟨rfl, eU, (by decide : 1 + 0 ≤ _), (by decide : 19 + 0 ≤ _)⟩)
    dsimp only [Pt.U, Pt.locs, Pt.cells, Pt.slots] at X68 l68 y68 z68 st68 hQ68
    subst l68 y68 z68
    obtain ⟨rfl, N68q, e68⟩ := hQ68
    have N68 := Fr.app NU N68q
    obtain ⟨fs, hr, hrun, hended, hW, hsame⟩ := X68.leave (v := some (.int (1 : Int32))) (fun h => by rw [Bd.returns] at h; cases h)
    refine ⟨_, _, pre0 _ (thru _ ?_), hrun, hended, _, _, rfl, ?_, ⟨_, rfl⟩, hW, hsame.mono (by decide) (by decide)⟩
    · show Steps p.tables e below (U.setTop (mkF m 133 #[.val (.int p1), .val (.ref bB), .unset, .unset] [])) _
      refine XS.iloadN Y.here hx rfl (hb hby at_133) rfl ?_
      show Steps p.tables e below (U.setTop (mkF m 134 #[.val (.int p1), .val (.ref bB), .unset, .unset] [(.int p1)])) _
      refine Jvm.Stand.ldcI Y hx hown (mvT hZ (hw _ (List.mem_of_getElem? (i := 42) rfl))) rfl (hb hby at_134) ?_
      show Steps p.tables e below (U.setTop (mkF m 136 #[.val (.int p1), .val (.ref bB), .unset, .unset] [(.int (2147483647 : Int32)), (.int p1)])) _
      refine XS.iand Y.here hx rfl (hb hby at_136) rfl ?_
      show Steps p.tables e below (U.setTop (mkF m 137 #[.val (.int p1), .val (.ref bB), .unset, .unset] [(.int (p1 &&& (2147483647 : Int32)))])) _
      refine XT.bipushV Y.here hx rfl (19 : Int32) (hb hby at_137) (by decide) ?_
      show Steps p.tables e below (U.setTop (mkF m 139 #[.val (.int p1), .val (.ref bB), .unset, .unset] [(.int (19 : Int32)), (.int (p1 &&& (2147483647 : Int32)))])) _
      refine iremM Y hx rfl (hb hby at_139) rfl (by decide) ?_
      show Steps p.tables e below (U.setTop (mkF m 140 #[.val (.int p1), .val (.ref bB), .unset, .unset] [(.int ((p1 &&& (2147483647 : Int32)) % (19 : Int32)))])) _
      rw [hk]
      show Steps p.tables e below (U.setTop (mkF m 140 #[.val (.int p1), .val (.ref bB), .unset, .unset] [(.int (4 : Int32))])) _
      refine XS.istoreN Y.here hx rfl (hb hby at_140) rfl (l' := #[.val (.int p1), .val (.ref bB), .val (.int (4 : Int32)), .unset]) rfl ?_
      show Steps p.tables e below (U.setTop (mkF m 141 #[.val (.int p1), .val (.ref bB), .val (.int (4 : Int32)), .unset] [])) _
      refine XS.iloadN Y.here hx rfl (hb hby at_141) rfl ?_
      show Steps p.tables e below (U.setTop (mkF m 142 #[.val (.int p1), .val (.ref bB), .val (.int (4 : Int32)), .unset] [(.int (4 : Int32))])) _
      refine XT.iconstV Y.here hx rfl (1 : Int32) (hb hby at_142) rfl ?_
      show Steps p.tables e below (U.setTop (mkF m 143 #[.val (.int p1), .val (.ref bB), .val (.int (4 : Int32)), .unset] [(.int (1 : Int32)), (.int (4 : Int32))])) _
      refine XS.icmpNo Y.here hx rfl (hb hby at_143) rfl (by decide) ?_
      show Steps p.tables e below (U.setTop (mkF m 146 #[.val (.int p1), .val (.ref bB), .val (.int (4 : Int32)), .unset] [])) _
      refine XS.iloadN Y.here hx rfl (hb hby at_146) rfl ?_
      show Steps p.tables e below (U.setTop (mkF m 147 #[.val (.int p1), .val (.ref bB), .val (.int (4 : Int32)), .unset] [(.int (4 : Int32))])) _
      refine XT.bipushV Y.here hx rfl (11 : Int32) (hb hby at_147) (by decide) ?_
      show Steps p.tables e below (U.setTop (mkF m 149 #[.val (.int p1), .val (.ref bB), .val (.int (4 : Int32)), .unset] [(.int (11 : Int32)), (.int (4 : Int32))])) _
      refine XS.icmpNo Y.here hx rfl (hb hby at_149) rfl (by decide) ?_
      show Steps p.tables e below (U.setTop (mkF m 152 #[.val (.int p1), .val (.ref bB), .val (.int (4 : Int32)), .unset] [])) _
      refine XT.iconstV Y.here hx rfl (1 : Int32) (hb hby at_152) rfl ?_
      show Steps p.tables e below (U.setTop (mkF m 153 #[.val (.int p1), .val (.ref bB), .val (.int (4 : Int32)), .unset] [(.int (1 : Int32))])) _
      refine XS.goto Y.here hx rfl (pc0 := 153) (pc' := 157) rfl (hb hby at_153) (by decide) (by decide) ?_
      show Steps p.tables e below (U.setTop (mkF m 157 #[.val (.int p1), .val (.ref bB), .val (.int (4 : Int32)), .unset] [(.int (1 : Int32))])) _
      refine XS.istoreN Y.here hx rfl (hb hby at_157) rfl (l' := #[.val (.int p1), .val (.ref bB), .val (.int (4 : Int32)), .val (.int (1 : Int32))]) rfl ?_
      show Steps p.tables e below (U.setTop (mkF m 158 #[.val (.int p1), .val (.ref bB), .val (.int (4 : Int32)), .val (.int (1 : Int32))] [])) _
      refine XS.aloadN Y.here hx rfl (hb hby at_158) rfl rfl ?_
      show Steps p.tables e below (U.setTop (mkF m 159 #[.val (.int p1), .val (.ref bB), .val (.int (4 : Int32)), .val (.int (1 : Int32))] [(.ref bB)])) _
      refine XS.iloadN Y.here hx rfl (hb hby at_159) rfl ?_
      show Steps p.tables e below (U.setTop (mkF m 160 #[.val (.int p1), .val (.ref bB), .val (.int (4 : Int32)), .val (.int (1 : Int32))] [(.int (4 : Int32)), (.ref bB)])) _
      refine Y.aaload hx (j := (4 : Int32)) (v := (.ref w4)) (by rw [eU]; exact Ar67.1) (State.isArrayOf_alike hZ.alike Ar67.2.1) rfl Ar67.2.2 Q67 H67 (g := (mkF m 160 #[.val (.int p1), .val (.ref bB), .val (.int (4 : Int32)), .val (.int (1 : Int32))] [(.int (4 : Int32)), (.ref bB)])) rfl rfl (hb hby at_160) _ ?_
      show Steps p.tables e below (U.setTop (mkF m 161 #[.val (.int p1), .val (.ref bB), .val (.int (4 : Int32)), .val (.int (1 : Int32))] [(.ref w4)])) _
      refine st68.trans ?_
      show Steps p.tables e below (T68.setTop (mkF m 164 #[.val (.int p1), .val (.ref bB), .val (.int (4 : Int32)), .val (.int (1 : Int32))] [(.int (1 : Int32))])) _
      refine XS.iloadN X68.here hx rfl (hb hby at_164) rfl ?_
      show Steps p.tables e below (T68.setTop (mkF m 165 #[.val (.int p1), .val (.ref bB), .val (.int (4 : Int32)), .val (.int (1 : Int32))] [(.int (1 : Int32)), (.int (1 : Int32))])) _
      refine XS.icmpNo X68.here hx rfl (hb hby at_165) rfl (by decide) ?_
      show Steps p.tables e below (T68.setTop (mkF m 168 #[.val (.int p1), .val (.ref bB), .val (.int (4 : Int32)), .val (.int (1 : Int32))] [])) _
      refine XT.iconstV X68.here hx rfl (1 : Int32) (hb hby at_168) rfl ?_
      show Steps p.tables e below (T68.setTop (mkF m 169 #[.val (.int p1), .val (.ref bB), .val (.int (4 : Int32)), .val (.int (1 : Int32))] [(.int (1 : Int32))])) _
      refine XS.goto X68.here hx rfl (pc0 := 169) (pc' := 173) rfl (hb hby at_169) (by decide) (by decide) ?_
      show Steps p.tables e below (T68.setTop (mkF m 173 #[.val (.int p1), .val (.ref bB), .val (.int (4 : Int32)), .val (.int (1 : Int32))] [(.int (1 : Int32))])) _
      exact retN X68 hx (t := .boolean) Bd.returns (by simp) (hb hby at_173) hr
    · show own_Q0 n0 _ T68.heap _
      exact ⟨rfl, N68⟩
  · obtain ⟨cl69, Ar69, Q69, H69⟩ := own_at VB (j := (5 : Int32)) (v := (.ref w5)) (by decide) rfl
    obtain ⟨cq70, kq70, q70a, q70b, q70c⟩ := isOf hZ eU (E5.ext EXB)
    obtain ⟨_, _, ⟨T70, L70, k70, n70⟩, -, X70, ⟨Lc70, hQ70, l70, y70, z70⟩, st70⟩ := Y.virtualBack hx (y := (⟨"com/example/plimsoll/plimsoll/wire/SaspType", "isMessage", "()Z"⟩ : MethodName)) (z := (⟨"com/example/plimsoll/plimsoll/wire/SaspType", "isMessage", "()Z"⟩ : MethodName)) hown (mvT hZ (hw _ (List.mem_of_getElem? (i := 43) rfl))) (mvT hZ (hw _ (List.mem_of_getElem? (i := 44) rfl))) (notFace_of_selects (args := #[]) (mvT hZ (hw _ (List.mem_of_getElem? (i := 46) rfl)))) (mvT hZ (hw _ (List.mem_of_getElem? (i := 46) rfl))) (mvT hZ (hw _ (List.mem_of_getElem? (i := 45) rfl))) (by decide) (backOf (W := 0) (own_isMessage_5 l Z a0 hw [] w0 w1 w2 w3 w4 w5 w6 w7 w8 w9 w10 w11 w12 w13 w14 w15 w16 w17 w18 hB n0 ZB (own_P_ext P EXB)) hZ (hw _ (List.mem_of_getElem? (i := 47) rfl)) (hw _ (List.mem_of_getElem? (i := 3) rfl)) (by decide) (by decide)) q70a q70c (g := (mkF m 161 #[.val (.int p1), .val (.ref bB), .val (.int (5 : Int32)), .val (.int (1 : Int32))] [(.ref w5)])) rfl (by rw [hml]; rfl) (Steps.refl _) (argsL := []) (rest := []) (lenOf pd___Z rfl) rfl (by show 2 * 0 + _ ≤ _; exact Nat.le_of_eq rfl) (hb hby at_161) (fun _ _ => ⟨rfl, eU, (by decide : 1 + 0 ≤ _), (by decide : 19 + 0 ≤ _)⟩)
    dsimp only [Pt.U, Pt.locs, Pt.cells, Pt.slots] at X70 l70 y70 z70 st70 hQ70
    subst l70 y70 z70
    obtain ⟨rfl, N70q, e70⟩ := hQ70
    have N70 := Fr.app NU N70q
    obtain ⟨fs, hr, hrun, hended, hW, hsame⟩ := X70.leave (v := some (.int (1 : Int32))) (fun h => by rw [Bd.returns] at h; cases h)
    refine ⟨_, _, pre0 _ (thru _ ?_), hrun, hended, _, _, rfl, ?_, ⟨_, rfl⟩, hW, hsame.mono (by decide) (by decide)⟩
    · show Steps p.tables e below (U.setTop (mkF m 133 #[.val (.int p1), .val (.ref bB), .unset, .unset] [])) _
      refine XS.iloadN Y.here hx rfl (hb hby at_133) rfl ?_
      show Steps p.tables e below (U.setTop (mkF m 134 #[.val (.int p1), .val (.ref bB), .unset, .unset] [(.int p1)])) _
      refine Jvm.Stand.ldcI Y hx hown (mvT hZ (hw _ (List.mem_of_getElem? (i := 42) rfl))) rfl (hb hby at_134) ?_
      show Steps p.tables e below (U.setTop (mkF m 136 #[.val (.int p1), .val (.ref bB), .unset, .unset] [(.int (2147483647 : Int32)), (.int p1)])) _
      refine XS.iand Y.here hx rfl (hb hby at_136) rfl ?_
      show Steps p.tables e below (U.setTop (mkF m 137 #[.val (.int p1), .val (.ref bB), .unset, .unset] [(.int (p1 &&& (2147483647 : Int32)))])) _
      refine XT.bipushV Y.here hx rfl (19 : Int32) (hb hby at_137) (by decide) ?_
      show Steps p.tables e below (U.setTop (mkF m 139 #[.val (.int p1), .val (.ref bB), .unset, .unset] [(.int (19 : Int32)), (.int (p1 &&& (2147483647 : Int32)))])) _
      refine iremM Y hx rfl (hb hby at_139) rfl (by decide) ?_
      show Steps p.tables e below (U.setTop (mkF m 140 #[.val (.int p1), .val (.ref bB), .unset, .unset] [(.int ((p1 &&& (2147483647 : Int32)) % (19 : Int32)))])) _
      rw [hk]
      show Steps p.tables e below (U.setTop (mkF m 140 #[.val (.int p1), .val (.ref bB), .unset, .unset] [(.int (5 : Int32))])) _
      refine XS.istoreN Y.here hx rfl (hb hby at_140) rfl (l' := #[.val (.int p1), .val (.ref bB), .val (.int (5 : Int32)), .unset]) rfl ?_
      show Steps p.tables e below (U.setTop (mkF m 141 #[.val (.int p1), .val (.ref bB), .val (.int (5 : Int32)), .unset] [])) _
      refine XS.iloadN Y.here hx rfl (hb hby at_141) rfl ?_
      show Steps p.tables e below (U.setTop (mkF m 142 #[.val (.int p1), .val (.ref bB), .val (.int (5 : Int32)), .unset] [(.int (5 : Int32))])) _
      refine XT.iconstV Y.here hx rfl (1 : Int32) (hb hby at_142) rfl ?_
      show Steps p.tables e below (U.setTop (mkF m 143 #[.val (.int p1), .val (.ref bB), .val (.int (5 : Int32)), .unset] [(.int (1 : Int32)), (.int (5 : Int32))])) _
      refine XS.icmpNo Y.here hx rfl (hb hby at_143) rfl (by decide) ?_
      show Steps p.tables e below (U.setTop (mkF m 146 #[.val (.int p1), .val (.ref bB), .val (.int (5 : Int32)), .unset] [])) _
      refine XS.iloadN Y.here hx rfl (hb hby at_146) rfl ?_
      show Steps p.tables e below (U.setTop (mkF m 147 #[.val (.int p1), .val (.ref bB), .val (.int (5 : Int32)), .unset] [(.int (5 : Int32))])) _
      refine XT.bipushV Y.here hx rfl (11 : Int32) (hb hby at_147) (by decide) ?_
      show Steps p.tables e below (U.setTop (mkF m 149 #[.val (.int p1), .val (.ref bB), .val (.int (5 : Int32)), .unset] [(.int (11 : Int32)), (.int (5 : Int32))])) _
      refine XS.icmpNo Y.here hx rfl (hb hby at_149) rfl (by decide) ?_
      show Steps p.tables e below (U.setTop (mkF m 152 #[.val (.int p1), .val (.ref bB), .val (.int (5 : Int32)), .unset] [])) _
      refine XT.iconstV Y.here hx rfl (1 : Int32) (hb hby at_152) rfl ?_
      show Steps p.tables e below (U.setTop (mkF m 153 #[.val (.int p1), .val (.ref bB), .val (.int (5 : Int32)), .unset] [(.int (1 : Int32))])) _
      refine XS.goto Y.here hx rfl (pc0 := 153) (pc' := 157) rfl (hb hby at_153) (by decide) (by decide) ?_
      show Steps p.tables e below (U.setTop (mkF m 157 #[.val (.int p1), .val (.ref bB), .val (.int (5 : Int32)), .unset] [(.int (1 : Int32))])) _
      refine XS.istoreN Y.here hx rfl (hb hby at_157) rfl (l' := #[.val (.int p1), .val (.ref bB), .val (.int (5 : Int32)), .val (.int (1 : Int32))]) rfl ?_
      show Steps p.tables e below (U.setTop (mkF m 158 #[.val (.int p1), .val (.ref bB), .val (.int (5 : Int32)), .val (.int (1 : Int32))] [])) _
      refine XS.aloadN Y.here hx rfl (hb hby at_158) rfl rfl ?_
      show Steps p.tables e below (U.setTop (mkF m 159 #[.val (.int p1), .val (.ref bB), .val (.int (5 : Int32)), .val (.int (1 : Int32))] [(.ref bB)])) _
      refine XS.iloadN Y.here hx rfl (hb hby at_159) rfl ?_
      show Steps p.tables e below (U.setTop (mkF m 160 #[.val (.int p1), .val (.ref bB), .val (.int (5 : Int32)), .val (.int (1 : Int32))] [(.int (5 : Int32)), (.ref bB)])) _
      refine Y.aaload hx (j := (5 : Int32)) (v := (.ref w5)) (by rw [eU]; exact Ar69.1) (State.isArrayOf_alike hZ.alike Ar69.2.1) rfl Ar69.2.2 Q69 H69 (g := (mkF m 160 #[.val (.int p1), .val (.ref bB), .val (.int (5 : Int32)), .val (.int (1 : Int32))] [(.int (5 : Int32)), (.ref bB)])) rfl rfl (hb hby at_160) _ ?_
      show Steps p.tables e below (U.setTop (mkF m 161 #[.val (.int p1), .val (.ref bB), .val (.int (5 : Int32)), .val (.int (1 : Int32))] [(.ref w5)])) _
      refine st70.trans ?_
      show Steps p.tables e below (T70.setTop (mkF m 164 #[.val (.int p1), .val (.ref bB), .val (.int (5 : Int32)), .val (.int (1 : Int32))] [(.int (1 : Int32))])) _
      refine XS.iloadN X70.here hx rfl (hb hby at_164) rfl ?_
      show Steps p.tables e below (T70.setTop (mkF m 165 #[.val (.int p1), .val (.ref bB), .val (.int (5 : Int32)), .val (.int (1 : Int32))] [(.int (1 : Int32)), (.int (1 : Int32))])) _
      refine XS.icmpNo X70.here hx rfl (hb hby at_165) rfl (by decide) ?_
      show Steps p.tables e below (T70.setTop (mkF m 168 #[.val (.int p1), .val (.ref bB), .val (.int (5 : Int32)), .val (.int (1 : Int32))] [])) _
      refine XT.iconstV X70.here hx rfl (1 : Int32) (hb hby at_168) rfl ?_
      show Steps p.tables e below (T70.setTop (mkF m 169 #[.val (.int p1), .val (.ref bB), .val (.int (5 : Int32)), .val (.int (1 : Int32))] [(.int (1 : Int32))])) _
      refine XS.goto X70.here hx rfl (pc0 := 169) (pc' := 173) rfl (hb hby at_169) (by decide) (by decide) ?_
      show Steps p.tables e below (T70.setTop (mkF m 173 #[.val (.int p1), .val (.ref bB), .val (.int (5 : Int32)), .val (.int (1 : Int32))] [(.int (1 : Int32))])) _
      exact retN X70 hx (t := .boolean) Bd.returns (by simp) (hb hby at_173) hr
    · show own_Q0 n0 _ T70.heap _
      exact ⟨rfl, N70⟩
  · obtain ⟨cl71, Ar71, Q71, H71⟩ := own_at VB (j := (6 : Int32)) (v := (.ref w6)) (by decide) rfl
    obtain ⟨cq72, kq72, q72a, q72b, q72c⟩ := isOf hZ eU (E6.ext EXB)
    obtain ⟨_, _, ⟨T72, L72, k72, n72⟩, -, X72, ⟨Lc72, hQ72, l72, y72, z72⟩, st72⟩ := Y.virtualBack hx (y := (⟨"com/example/plimsoll/plimsoll/wire/SaspType", "isMessage", "()Z"⟩ : MethodName)) (z := (⟨"com/example/plimsoll/plimsoll/wire/SaspType", "isMessage", "()Z"⟩ : MethodName)) hown (mvT hZ (hw _ (List.mem_of_getElem? (i := 43) rfl))) (mvT hZ (hw _ (List.mem_of_getElem? (i := 44) rfl))) (notFace_of_selects (args := #[]) (mvT hZ (hw _ (List.mem_of_getElem? (i := 46) rfl)))) (mvT hZ (hw _ (List.mem_of_getElem? (i := 46) rfl))) (mvT hZ (hw _ (List.mem_of_getElem? (i := 45) rfl))) (by decide) (backOf (W := 0) (own_isMessage_6 l Z a0 hw [] w0 w1 w2 w3 w4 w5 w6 w7 w8 w9 w10 w11 w12 w13 w14 w15 w16 w17 w18 hB n0 ZB (own_P_ext P EXB)) hZ (hw _ (List.mem_of_getElem? (i := 47) rfl)) (hw _ (List.mem_of_getElem? (i := 3) rfl)) (by decide) (by decide)) q72a q72c (g := (mkF m 161 #[.val (.int p1), .val (.ref bB), .val (.int (6 : Int32)), .val (.int (1 : Int32))] [(.ref w6)])) rfl (by rw [hml]; rfl) (Steps.refl _) (argsL := []) (rest := []) (lenOf pd___Z rfl) rfl (by show 2 * 0 + _ ≤ _; exact Nat.le_of_eq rfl) (hb hby at_161) (fun _ _ => ⟨rfl, eU, (by decide : 1 + 0 ≤ _), (by decide : 19 + 0 ≤ _)⟩)
    dsimp only [Pt.U, Pt.locs, Pt.cells, Pt.slots] at X72 l72 y72 z72 st72 hQ72
    subst l72 y72 z72
    obtain ⟨rfl, N72q, e72⟩ := hQ72
    have N72 := Fr.app NU N72q
    obtain ⟨fs, hr, hrun, hended, hW, hsame⟩ := X72.leave (v := some (.int (1 : Int32))) (fun h => by rw [Bd.returns] at h; cases h)
    refine ⟨_, _, pre0 _ (thru _ ?_), hrun, hended, _, _, rfl, ?_, ⟨_, rfl⟩, hW, hsame.mono (by decide) (by decide)⟩
    · show Steps p.tables e below (U.setTop (mkF m 133 #[.val (.int p1), .val (.ref bB), .unset, .unset] [])) _
      refine XS.iloadN Y.here hx rfl (hb hby at_133) rfl ?_
      show Steps p.tables e below (U.setTop (mkF m 134 #[.val (.int p1), .val (.ref bB), .unset, .unset] [(.int p1)])) _
      refine Jvm.Stand.ldcI Y hx hown (mvT hZ (hw _ (List.mem_of_getElem? (i := 42) rfl))) rfl (hb hby at_134) ?_
      show Steps p.tables e below (U.setTop (mkF m 136 #[.val (.int p1), .val (.ref bB), .unset, .unset] [(.int (2147483647 : Int32)), (.int p1)])) _
      refine XS.iand Y.here hx rfl (hb hby at_136) rfl ?_
      show Steps p.tables e below (U.setTop (mkF m 137 #[.val (.int p1), .val (.ref bB), .unset, .unset] [(.int (p1 &&& (2147483647 : Int32)))])) _
      refine XT.bipushV Y.here hx rfl (19 : Int32) (hb hby at_137) (by decide) ?_
      show Steps p.tables e below (U.setTop (mkF m 139 #[.val (.int p1), .val (.ref bB), .unset, .unset] [(.int (19 : Int32)), (.int (p1 &&& (2147483647 : Int32)))])) _
      refine iremM Y hx rfl (hb hby at_139) rfl (by decide) ?_
      show Steps p.tables e below (U.setTop (mkF m 140 #[.val (.int p1), .val (.ref bB), .unset, .unset] [(.int ((p1 &&& (2147483647 : Int32)) % (19 : Int32)))])) _
      rw [hk]
      show Steps p.tables e below (U.setTop (mkF m 140 #[.val (.int p1), .val (.ref bB), .unset, .unset] [(.int (6 : Int32))])) _
      refine XS.istoreN Y.here hx rfl (hb hby at_140) rfl (l' := #[.val (.int p1), .val (.ref bB), .val (.int (6 : Int32)), .unset]) rfl ?_
      show Steps p.tables e below (U.setTop (mkF m 141 #[.val (.int p1), .val (.ref bB), .val (.int (6 : Int32)), .unset] [])) _
      refine XS.iloadN Y.here hx rfl (hb hby at_141) rfl ?_
      show Steps p.tables e below (U.setTop (mkF m 142 #[.val (.int p1), .val (.ref bB), .val (.int (6 : Int32)), .unset] [(.int (6 : Int32))])) _
      refine XT.iconstV Y.here hx rfl (1 : Int32) (hb hby at_142) rfl ?_
      show Steps p.tables e below (U.setTop (mkF m 143 #[.val (.int p1), .val (.ref bB), .val (.int (6 : Int32)), .unset] [(.int (1 : Int32)), (.int (6 : Int32))])) _
      refine XS.icmpNo Y.here hx rfl (hb hby at_143) rfl (by decide) ?_
      show Steps p.tables e below (U.setTop (mkF m 146 #[.val (.int p1), .val (.ref bB), .val (.int (6 : Int32)), .unset] [])) _
      refine XS.iloadN Y.here hx rfl (hb hby at_146) rfl ?_
      show Steps p.tables e below (U.setTop (mkF m 147 #[.val (.int p1), .val (.ref bB), .val (.int (6 : Int32)), .unset] [(.int (6 : Int32))])) _
      refine XT.bipushV Y.here hx rfl (11 : Int32) (hb hby at_147) (by decide) ?_
      show Steps p.tables e below (U.setTop (mkF m 149 #[.val (.int p1), .val (.ref bB), .val (.int (6 : Int32)), .unset] [(.int (11 : Int32)), (.int (6 : Int32))])) _
      refine XS.icmpNo Y.here hx rfl (hb hby at_149) rfl (by decide) ?_
      show Steps p.tables e below (U.setTop (mkF m 152 #[.val (.int p1), .val (.ref bB), .val (.int (6 : Int32)), .unset] [])) _
      refine XT.iconstV Y.here hx rfl (1 : Int32) (hb hby at_152) rfl ?_
      show Steps p.tables e below (U.setTop (mkF m 153 #[.val (.int p1), .val (.ref bB), .val (.int (6 : Int32)), .unset] [(.int (1 : Int32))])) _
      refine XS.goto Y.here hx rfl (pc0 := 153) (pc' := 157) rfl (hb hby at_153) (by decide) (by decide) ?_
      show Steps p.tables e below (U.setTop (mkF m 157 #[.val (.int p1), .val (.ref bB), .val (.int (6 : Int32)), .unset] [(.int (1 : Int32))])) _
      refine XS.istoreN Y.here hx rfl (hb hby at_157) rfl (l' := #[.val (.int p1), .val (.ref bB), .val (.int (6 : Int32)), .val (.int (1 : Int32))]) rfl ?_
      show Steps p.tables e below (U.setTop (mkF m 158 #[.val (.int p1), .val (.ref bB), .val (.int (6 : Int32)), .val (.int (1 : Int32))] [])) _
      refine XS.aloadN Y.here hx rfl (hb hby at_158) rfl rfl ?_
      show Steps p.tables e below (U.setTop (mkF m 159 #[.val (.int p1), .val (.ref bB), .val (.int (6 : Int32)), .val (.int (1 : Int32))] [(.ref bB)])) _
      refine XS.iloadN Y.here hx rfl (hb hby at_159) rfl ?_
      show Steps p.tables e below (U.setTop (mkF m 160 #[.val (.int p1), .val (.ref bB), .val (.int (6 : Int32)), .val (.int (1 : Int32))] [(.int (6 : Int32)), (.ref bB)])) _
      refine Y.aaload hx (j := (6 : Int32)) (v := (.ref w6)) (by rw [eU]; exact Ar71.1) (State.isArrayOf_alike hZ.alike Ar71.2.1) rfl Ar71.2.2 Q71 H71 (g := (mkF m 160 #[.val (.int p1), .val (.ref bB), .val (.int (6 : Int32)), .val (.int (1 : Int32))] [(.int (6 : Int32)), (.ref bB)])) rfl rfl (hb hby at_160) _ ?_
      show Steps p.tables e below (U.setTop (mkF m 161 #[.val (.int p1), .val (.ref bB), .val (.int (6 : Int32)), .val (.int (1 : Int32))] [(.ref w6)])) _
      refine st72.trans ?_
      show Steps p.tables e below (T72.setTop (mkF m 164 #[.val (.int p1), .val (.ref bB), .val (.int (6 : Int32)), .val (.int (1 : Int32))] [(.int (1 : Int32))])) _
      refine XS.iloadN X72.here hx rfl (hb hby at_164) rfl ?_
      show Steps p.tables e below (T72.setTop (mkF m 165 #[.val (.int p1), .val (.ref bB), .val (.int (6 : Int32)), .val (.int (1 : Int32))] [(.int (1 : Int32)), (.int (1 : Int32))])) _
      refine XS.icmpNo X72.here hx rfl (hb hby at_165) rfl (by decide) ?_
      show Steps p.tables e below (T72.setTop (mkF m 168 #[.val (.int p1), .val (.ref bB), .val (.int (6 : Int32)), .val (.int (1 : Int32))] [])) _
      refine XT.iconstV X72.here hx rfl (1 : Int32) (hb hby at_168) rfl ?_
      show Steps p.tables e below (T72.setTop (mkF m 169 #[.val (.int p1), .val (.ref bB), .val (.int (6 : Int32)), .val (.int (1 : Int32))] [(.int (1 : Int32))])) _
      refine XS.goto X72.here hx rfl (pc0 := 169) (pc' := 173) rfl (hb hby at_169) (by decide) (by decide) ?_
      show Steps p.tables e below (T72.setTop (mkF m 173 #[.val (.int p1), .val (.ref bB), .val (.int (6 : Int32)), .val (.int (1 : Int32))] [(.int (1 : Int32))])) _
      exact retN X72 hx (t := .boolean) Bd.returns (by simp) (hb hby at_173) hr
    · show own_Q0 n0 _ T72.heap _
      exact ⟨rfl, N72⟩
  · obtain ⟨cl73, Ar73, Q73, H73⟩ := own_at VB (j := (7 : Int32)) (v := (.ref w7)) (by decide) rfl
    obtain ⟨cq74, kq74, q74a, q74b, q74c⟩ := isOf hZ eU (E7.ext EXB)
    obtain ⟨_, _, ⟨T74, L74, k74, n74⟩, -, X74, ⟨Lc74, hQ74, l74, y74, z74⟩, st74⟩ := Y.virtualBack hx (y := (⟨"com/example/plimsoll/plimsoll/wire/SaspType", "isMessage", "()Z"⟩ : MethodName)) (z := (⟨"com/example/plimsoll/plimsoll/wire/SaspType", "isMessage", "()Z"⟩ : MethodName)) hown (mvT hZ (hw _ (List.mem_of_getElem? (i := 43) rfl))) (mvT hZ (hw _ (List.mem_of_getElem? (i := 44) rfl))) (notFace_of_selects (args := #[]) (mvT hZ (hw _ (List.mem_of_getElem? (i := 46) rfl)))) (mvT hZ (hw _ (List.mem_of_getElem? (i := 46) rfl))) (mvT hZ (hw _ (List.mem_of_getElem? (i := 45) rfl))) (by decide) (backOf (W := 0) (own_isMessage_7 l Z a0 hw [] w0 w1 w2 w3 w4 w5 w6 w7 w8 w9 w10 w11 w12 w13 w14 w15 w16 w17 w18 hB n0 ZB (own_P_ext P EXB)) hZ (hw _ (List.mem_of_getElem? (i := 47) rfl)) (hw _ (List.mem_of_getElem? (i := 3) rfl)) (by decide) (by decide)) q74a q74c (g := (mkF m 161 #[.val (.int p1), .val (.ref bB), .val (.int (7 : Int32)), .val (.int (1 : Int32))] [(.ref w7)])) rfl (by rw [hml]; rfl) (Steps.refl _) (argsL := []) (rest := []) (lenOf pd___Z rfl) rfl (by show 2 * 0 + _ ≤ _; exact Nat.le_of_eq rfl) (hb hby at_161) (fun _ _ => ⟨rfl, eU, (by decide : 1 + 0 ≤ _), (by decide : 19 + 0 ≤ _)⟩)
    dsimp only [Pt.U, Pt.locs, Pt.cells, Pt.slots] at X74 l74 y74 z74 st74 hQ74
    subst l74 y74 z74
    obtain ⟨rfl, N74q, e74⟩ := hQ74
    have N74 := Fr.app NU N74q
    obtain ⟨fs, hr, hrun, hended, hW, hsame⟩ := X74.leave (v := some (.int (1 : Int32))) (fun h => by rw [Bd.returns] at h; cases h)
    refine ⟨_, _, pre0 _ (thru _ ?_), hrun, hended, _, _, rfl, ?_, ⟨_, rfl⟩, hW, hsame.mono (by decide) (by decide)⟩
    · show Steps p.tables e below (U.setTop (mkF m 133 #[.val (.int p1), .val (.ref bB), .unset, .unset] [])) _
      refine XS.iloadN Y.here hx rfl (hb hby at_133) rfl ?_
      show Steps p.tables e below (U.setTop (mkF m 134 #[.val (.int p1), .val (.ref bB), .unset, .unset] [(.int p1)])) _
      refine Jvm.Stand.ldcI Y hx hown (mvT hZ (hw _ (List.mem_of_getElem? (i := 42) rfl))) rfl (hb hby at_134) ?_
      show Steps p.tables e below (U.setTop (mkF m 136 #[.val (.int p1), .val (.ref bB), .unset, .unset] [(.int (2147483647 : Int32)), (.int p1)])) _
      refine XS.iand Y.here hx rfl (hb hby at_136) rfl ?_
      show Steps p.tables e below (U.setTop (mkF m 137 #[.val (.int p1), .val (.ref bB), .unset, .unset] [(.int (p1 &&& (2147483647 : Int32)))])) _
      refine XT.bipushV Y.here hx rfl (19 : Int32) (hb hby at_137) (by decide) ?_
      show Steps p.tables e below (U.setTop (mkF m 139 #[.val (.int p1), .val (.ref bB), .unset, .unset] [(.int (19 : Int32)), (.int (p1 &&& (2147483647 : Int32)))])) _
      refine iremM Y hx rfl (hb hby at_139) rfl (by decide) ?_
      show Steps p.tables e below (U.setTop (mkF m 140 #[.val (.int p1), .val (.ref bB), .unset, .unset] [(.int ((p1 &&& (2147483647 : Int32)) % (19 : Int32)))])) _
      rw [hk]
      show Steps p.tables e below (U.setTop (mkF m 140 #[.val (.int p1), .val (.ref bB), .unset, .unset] [(.int (7 : Int32))])) _
      refine XS.istoreN Y.here hx rfl (hb hby at_140) rfl (l' := #[.val (.int p1), .val (.ref bB), .val (.int (7 : Int32)), .unset]) rfl ?_
      show Steps p.tables e below (U.setTop (mkF m 141 #[.val (.int p1), .val (.ref bB), .val (.int (7 : Int32)), .unset] [])) _
      refine XS.iloadN Y.here hx rfl (hb hby at_141) rfl ?_
      show Steps p.tables e below (U.setTop (mkF m 142 #[.val (.int p1), .val (.ref bB), .val (.int (7 : Int32)), .unset] [(.int (7 : Int32))])) _
      refine XT.iconstV Y.here hx rfl (1 : Int32) (hb hby at_142) rfl ?_
      show Steps p.tables e below (U.setTop (mkF m 143 #[.val (.int p1), .val (.ref bB), .val (.int (7 : Int32)), .unset] [(.int (1 : Int32)), (.int (7 : Int32))])) _
      refine XS.icmpNo Y.here hx rfl (hb hby at_143) rfl (by decide) ?_
      show Steps p.tables e below (U.setTop (mkF m 146 #[.val (.int p1), .val (.ref bB), .val (.int (7 : Int32)), .unset] [])) _
      refine XS.iloadN Y.here hx rfl (hb hby at_146) rfl ?_
      show Steps p.tables e below (U.setTop (mkF m 147 #[.val (.int p1), .val (.ref bB), .val (.int (7 : Int32)), .unset] [(.int (7 : Int32))])) _
      refine XT.bipushV Y.here hx rfl (11 : Int32) (hb hby at_147) (by decide) ?_
      show Steps p.tables e below (U.setTop (mkF m 149 #[.val (.int p1), .val (.ref bB), .val (.int (7 : Int32)), .unset] [(.int (11 : Int32)), (.int (7 : Int32))])) _
      refine XS.icmpNo Y.here hx rfl (hb hby at_149) rfl (by decide) ?_
      show Steps p.tables e below (U.setTop (mkF m 152 #[.val (.int p1), .val (.ref bB), .val (.int (7 : Int32)), .unset] [])) _
      refine XT.iconstV Y.here hx rfl (1 : Int32) (hb hby at_152) rfl ?_
      show Steps p.tables e below (U.setTop (mkF m 153 #[.val (.int p1), .val (.ref bB), .val (.int (7 : Int32)), .unset] [(.int (1 : Int32))])) _
      refine XS.goto Y.here hx rfl (pc0 := 153) (pc' := 157) rfl (hb hby at_153) (by decide) (by decide) ?_
      show Steps p.tables e below (U.setTop (mkF m 157 #[.val (.int p1), .val (.ref bB), .val (.int (7 : Int32)), .unset] [(.int (1 : Int32))])) _
      refine XS.istoreN Y.here hx rfl (hb hby at_157) rfl (l' := #[.val (.int p1), .val (.ref bB), .val (.int (7 : Int32)), .val (.int (1 : Int32))]) rfl ?_
      show Steps p.tables e below (U.setTop (mkF m 158 #[.val (.int p1), .val (.ref bB), .val (.int (7 : Int32)), .val (.int (1 : Int32))] [])) _
      refine XS.aloadN Y.here hx rfl (hb hby at_158) rfl rfl ?_
      show Steps p.tables e below (U.setTop (mkF m 159 #[.val (.int p1), .val (.ref bB), .val (.int (7 : Int32)), .val (.int (1 : Int32))] [(.ref bB)])) _
      refine XS.iloadN Y.here hx rfl (hb hby at_159) rfl ?_
      show Steps p.tables e below (U.setTop (mkF m 160 #[.val (.int p1), .val (.ref bB), .val (.int (7 : Int32)), .val (.int (1 : Int32))] [(.int (7 : Int32)), (.ref bB)])) _
      refine Y.aaload hx (j := (7 : Int32)) (v := (.ref w7)) (by rw [eU]; exact Ar73.1) (State.isArrayOf_alike hZ.alike Ar73.2.1) rfl Ar73.2.2 Q73 H73 (g := (mkF m 160 #[.val (.int p1), .val (.ref bB), .val (.int (7 : Int32)), .val (.int (1 : Int32))] [(.int (7 : Int32)), (.ref bB)])) rfl rfl (hb hby at_160) _ ?_
      show Steps p.tables e below (U.setTop (mkF m 161 #[.val (.int p1), .val (.ref bB), .val (.int (7 : Int32)), .val (.int (1 : Int32))] [(.ref w7)])) _
      refine st74.trans ?_
      show Steps p.tables e below (T74.setTop (mkF m 164 #[.val (.int p1), .val (.ref bB), .val (.int (7 : Int32)), .val (.int (1 : Int32))] [(.int (1 : Int32))])) _
      refine XS.iloadN X74.here hx rfl (hb hby at_164) rfl ?_
      show Steps p.tables e below (T74.setTop (mkF m 165 #[.val (.int p1), .val (.ref bB), .val (.int (7 : Int32)), .val (.int (1 : Int32))] [(.int (1 : Int32)), (.int (1 : Int32))])) _
      refine XS.icmpNo X74.here hx rfl (hb hby at_165) rfl (by decide) ?_
      show Steps p.tables e below (T74.setTop (mkF m 168 #[.val (.int p1), .val (.ref bB), .val (.int (7 : Int32)), .val (.int (1 : Int32))] [])) _
      refine XT.iconstV X74.here hx rfl (1 : Int32) (hb hby at_168) rfl ?_
      show Steps p.tables e below (T74.setTop (mkF m 169 #[.val (.int p1), .val (.ref bB), .val (.int (7 : Int32)), .val (.int (1 : Int32))] [(.int (1 : Int32))])) _
      refine XS.goto X74.here hx rfl (pc0 := 169) (pc' := 173) rfl (hb hby at_169) (by decide) (by decide) ?_
      show Steps p.tables e below (T74.setTop (mkF m 173 #[.val (.int p1), .val (.ref bB), .val (.int (7 : Int32)), .val (.int (1 : Int32))] [(.int (1 : Int32))])) _
      exact retN X74 hx (t := .boolean) Bd.returns (by simp) (hb hby at_173) hr
    · show own_Q0 n0 _ T74.heap _
      exact ⟨rfl, N74⟩
  · obtain ⟨cl75, Ar75, Q75, H75⟩ := own_at VB (j := (8 : Int32)) (v := (.ref w8)) (by decide) rfl
    obtain ⟨cq76, kq76, q76a, q76b, q76c⟩ := isOf hZ eU (E8.ext EXB)
    obtain ⟨_, _, ⟨T76, L76, k76, n76⟩, -, X76, ⟨Lc76, hQ76, l76, y76, z76⟩, st76⟩ := Y.virtualBack hx (y := (⟨"com/example/plimsoll/plimsoll/wire/SaspType", "isMessage", "()Z"⟩ : MethodName)) (z := (⟨"com/example/plimsoll/plimsoll/wire/SaspType", "isMessage", "()Z"⟩ : MethodName)) hown (mvT hZ (hw _ (List.mem_of_getElem? (i := 43) rfl))) (mvT hZ (hw _ (List.mem_of_getElem? (i := 44) rfl))) (notFace_of_selects (args := #[]) (mvT hZ (hw _ (List.mem_of_getElem? (i := 46) rfl)))) (mvT hZ (hw _ (List.mem_of_getElem? (i := 46) rfl))) (mvT hZ (hw _ (List.mem_of_getElem? (i := 45) rfl))) (by decide) (backOf (W := 0) (own_isMessage_8 l Z a0 hw [] w0 w1 w2 w3 w4 w5 w6 w7 w8 w9 w10 w11 w12 w13 w14 w15 w16 w17 w18 hB n0 ZB (own_P_ext P EXB)) hZ (hw _ (List.mem_of_getElem? (i := 47) rfl)) (hw _ (List.mem_of_getElem? (i := 3) rfl)) (by decide) (by decide)) q76a q76c (g := (mkF m 161 #[.val (.int p1), .val (.ref bB), .val (.int (8 : Int32)), .val (.int (1 : Int32))] [(.ref w8)])) rfl (by rw [hml]; rfl) (Steps.refl _) (argsL := []) (rest := []) (lenOf pd___Z rfl) rfl (by show 2 * 0 + _ ≤ _; exact Nat.le_of_eq rfl) (hb hby at_161) (fun _ _ => ⟨rfl, eU, (by decide : 1 + 0 ≤ _), (by decide : 19 + 0 ≤ _)⟩)
    dsimp only [Pt.U, Pt.locs, Pt.cells, Pt.slots] at X76 l76 y76 z76 st76 hQ76
    subst l76 y76 z76
    obtain ⟨rfl, N76q, e76⟩ := hQ76
    have N76 := Fr.app NU N76q
    obtain ⟨fs, hr, hrun, hended, hW, hsame⟩ := X76.leave (v := some (.int (1 : Int32))) (fun h => by rw [Bd.returns] at h; cases h)
    refine ⟨_, _, pre0 _ (thru _ ?_), hrun, hended, _, _, rfl, ?_, ⟨_, rfl⟩, hW, hsame.mono (by decide) (by decide)⟩
    · show Steps p.tables e below (U.setTop (mkF m 133 #[.val (.int p1), .val (.ref bB), .unset, .unset] [])) _
      refine XS.iloadN Y.here hx rfl (hb hby at_133) rfl ?_
      show Steps p.tables e below (U.setTop (mkF m 134 #[.val (.int p1), .val (.ref bB), .unset, .unset] [(.int p1)])) _
      refine Jvm.Stand.ldcI Y hx hown (mvT hZ (hw _ (List.mem_of_getElem? (i := 42) rfl))) rfl (hb hby at_134) ?_
      show Steps p.tables e below (U.setTop (mkF m 136 #[.val (.int p1), .val (.ref bB), .unset, .unset] [(.int (2147483647 : Int32)), (.int p1)])) _
      refine XS.iand Y.here hx rfl (hb hby at_136) rfl ?_
      show Steps p.tables e below (U.setTop (mkF m 137 #[.val (.int p1), .val (.ref bB), .unset, .unset] [(.int (p1 &&& (2147483647 : Int32)))])) _
      refine XT.bipushV Y.here hx rfl (19 : Int32) (hb hby at_137) (by decide) ?_
      show Steps p.tables e below (U.setTop (mkF m 139 #[.val (.int p1), .val (.ref bB), .unset, .unset] [(.int (19 : Int32)), (.int (p1 &&& (2147483647 : Int32)))])) _
      refine iremM Y hx rfl (hb hby at_139) rfl (by decide) ?_
      show Steps p.tables e below (U.setTop (mkF m 140 #[.val (.int p1), .val (.ref bB), .unset, .unset] [(.int ((p1 &&& (2147483647 : Int32)) % (19 : Int32)))])) _
      rw [hk]
      show Steps p.tables e below (U.setTop (mkF m 140 #[.val (.int p1), .val (.ref bB), .unset, .unset] [(.int (8 : Int32))])) _
      refine XS.istoreN Y.here hx rfl (hb hby at_140) rfl (l' := #[.val (.int p1), .val (.ref bB), .val (.int (8 : Int32)), .unset]) rfl ?_
      show Steps p.tables e below (U.setTop (mkF m 141 #[.val (.int p1), .val (.ref bB), .val (.int (8 : Int32)), .unset] [])) _
      refine XS.iloadN Y.here hx rfl (hb hby at_141) rfl ?_
      show Steps p.tables e below (U.setTop (mkF m 142 #[.val (.int p1), .val (.ref bB), .val (.int (8 : Int32)), .unset] [(.int (8 : Int32))])) _
      refine XT.iconstV Y.here hx rfl (1 : Int32) (hb hby at_142) rfl ?_
      show Steps p.tables e below (U.setTop (mkF m 143 #[.val (.int p1), .val (.ref bB), .val (.int (8 : Int32)), .unset] [(.int (1 : Int32)), (.int (8 : Int32))])) _
      refine XS.icmpNo Y.here hx rfl (hb hby at_143) rfl (by decide) ?_
      show Steps p.tables e below (U.setTop (mkF m 146 #[.val (.int p1), .val (.ref bB), .val (.int (8 : Int32)), .unset] [])) _
      refine XS.iloadN Y.here hx rfl (hb hby at_146) rfl ?_
      show Steps p.tables e below (U.setTop (mkF m 147 #[.val (.int p1), .val (.ref bB), .val (.int (8 : Int32)), .unset] [(.int (8 : Int32))])) _
      refine XT.bipushV Y.here hx rfl (11 : Int32) (hb hby at_147) (by decide) ?_
      show Steps p.tables e below (U.setTop (mkF m 149 #[.val (.int p1), .val (.ref bB), .val (.int (8 : Int32)), .unset] [(.int (11 : Int32)), (.int (8 : Int32))])) _
      refine XS.icmpNo Y.here hx rfl (hb hby at_149) rfl (by decide) ?_
      show Steps p.tables e below (U.setTop (mkF m 152 #[.val (.int p1), .val (.ref bB), .val (.int (8 : Int32)), .unset] [])) _
      refine XT.iconstV Y.here hx rfl (1 : Int32) (hb hby at_152) rfl ?_
      show Steps p.tables e below (U.setTop (mkF m 153 #[.val (.int p1), .val (.ref bB), .val (.int (8 : Int32)), .unset] [(.int (1 : Int32))])) _
      refine XS.goto Y.here hx rfl (pc0 := 153) (pc' := 157) rfl (hb hby at_153) (by decide) (by decide) ?_
      show Steps p.tables e below (U.setTop (mkF m 157 #[.val (.int p1), .val (.ref bB), .val (.int (8 : Int32)), .unset] [(.int (1 : Int32))])) _
      refine XS.istoreN Y.here hx rfl (hb hby at_157) rfl (l' := #[.val (.int p1), .val (.ref bB), .val (.int (8 : Int32)), .val (.int (1 : Int32))]) rfl ?_
      show Steps p.tables e below (U.setTop (mkF m 158 #[.val (.int p1), .val (.ref bB), .val (.int (8 : Int32)), .val (.int (1 : Int32))] [])) _
      refine XS.aloadN Y.here hx rfl (hb hby at_158) rfl rfl ?_
      show Steps p.tables e below (U.setTop (mkF m 159 #[.val (.int p1), .val (.ref bB), .val (.int (8 : Int32)), .val (.int (1 : Int32))] [(.ref bB)])) _
      refine XS.iloadN Y.here hx rfl (hb hby at_159) rfl ?_
      show Steps p.tables e below (U.setTop (mkF m 160 #[.val (.int p1), .val (.ref bB), .val (.int (8 : Int32)), .val (.int (1 : Int32))] [(.int (8 : Int32)), (.ref bB)])) _
      refine Y.aaload hx (j := (8 : Int32)) (v := (.ref w8)) (by rw [eU]; exact Ar75.1) (State.isArrayOf_alike hZ.alike Ar75.2.1) rfl Ar75.2.2 Q75 H75 (g := (mkF m 160 #[.val (.int p1), .val (.ref bB), .val (.int (8 : Int32)), .val (.int (1 : Int32))] [(.int (8 : Int32)), (.ref bB)])) rfl rfl (hb hby at_160) _ ?_
      show Steps p.tables e below (U.setTop (mkF m 161 #[.val (.int p1), .val (.ref bB), .val (.int (8 : Int32)), .val (.int (1 : Int32))] [(.ref w8)])) _
      refine st76.trans ?_
      show Steps p.tables e below (T76.setTop (mkF m 164 #[.val (.int p1), .val (.ref bB), .val (.int (8 : Int32)), .val (.int (1 : Int32))] [(.int (1 : Int32))])) _
      refine XS.iloadN X76.here hx rfl (hb hby at_164) rfl ?_
      show Steps p.tables e below (T76.setTop (mkF m 165 #[.val (.int p1), .val (.ref bB), .val (.int (8 : Int32)), .val (.int (1 : Int32))] [(.int (1 : Int32)), (.int (1 : Int32))])) _
      refine XS.icmpNo X76.here hx rfl (hb hby at_165) rfl (by decide) ?_
      show Steps p.tables e below (T76.setTop (mkF m 168 #[.val (.int p1), .val (.ref bB), .val (.int (8 : Int32)), .val (.int (1 : Int32))] [])) _
      refine XT.iconstV X76.here hx rfl (1 : Int32) (hb hby at_168) rfl ?_
      show Steps p.tables e below (T76.setTop (mkF m 169 #[.val (.int p1), .val (.ref bB), .val (.int (8 : Int32)), .val (.int (1 : Int32))] [(.int (1 : Int32))])) _
      refine XS.goto X76.here hx rfl (pc0 := 169) (pc' := 173) rfl (hb hby at_169) (by decide) (by decide) ?_
      show Steps p.tables e below (T76.setTop (mkF m 173 #[.val (.int p1), .val (.ref bB), .val (.int (8 : Int32)), .val (.int (1 : Int32))] [(.int (1 : Int32))])) _
      exact retN X76 hx (t := .boolean) Bd.returns (by simp) (hb hby at_173) hr
    · show own_Q0 n0 _ T76.heap _
      exact ⟨rfl, N76⟩
  · obtain ⟨cl77, Ar77, Q77, H77⟩ := own_at VB (j := (9 : Int32)) (v := (.ref w9)) (by decide) rfl
    obtain ⟨cq78, kq78, q78a, q78b, q78c⟩ := isOf hZ eU (E9.ext EXB)
    obtain ⟨_, _, ⟨T78, L78, k78, n78⟩, -, X78, ⟨Lc78, hQ78, l78, y78, z78⟩, st78⟩ := Y.virtualBack hx (y := (⟨"com/example/plimsoll/plimsoll/wire/SaspType", "isMessage", "()Z"⟩ : MethodName)) (z := (⟨"com/example/plimsoll/plimsoll/wire/SaspType", "isMessage", "()Z"⟩ : MethodName)) hown (mvT hZ (hw _ (List.mem_of_getElem? (i := 43) rfl))) (mvT hZ (hw _ (List.mem_of_getElem? (i := 44) rfl))) (notFace_of_selects (args := #[]) (mvT hZ (hw _ (List.mem_of_getElem? (i := 46) rfl)))) (mvT hZ (hw _ (List.mem_of_getElem? (i := 46) rfl))) (mvT hZ (hw _ (List.mem_of_getElem? (i := 45) rfl))) (by decide) (backOf (W := 0) (own_isMessage_9 l Z a0 hw [] w0 w1 w2 w3 w4 w5 w6 w7 w8 w9 w10 w11 w12 w13 w14 w15 w16 w17 w18 hB n0 ZB (own_P_ext P EXB)) hZ (hw _ (List.mem_of_getElem? (i := 47) rfl)) (hw _ (List.mem_of_getElem? (i := 3) rfl)) (by decide) (by decide)) q78a q78c (g := (mkF m 161 #[.val (.int p1), .val (.ref bB), .val (.int (9 : Int32)), .val (.int (1 : Int32))] [(.ref w9)])) rfl (by rw [hml]; rfl) (Steps.refl _) (argsL := []) (rest := []) (lenOf pd___Z rfl) rfl (by show 2 * 0 + _ ≤ _; exact Nat.le_of_eq rfl) (hb hby at_161) (fun _ _ => ⟨rfl, eU, (by decide : 1 + 0 ≤ _), (by decide : 19 + 0 ≤ _)⟩)
    dsimp only [Pt.U, Pt.locs, Pt.cells, Pt.slots] at X78 l78 y78 z78 st78 hQ78
    subst l78 y78 z78
    obtain ⟨rfl, N78q, e78⟩ := hQ78
    have N78 := Fr.app NU N78q
    obtain ⟨fs, hr, hrun, hended, hW, hsame⟩ := X78.leave (v := some (.int (1 : Int32))) (fun h => by rw [Bd.returns] at h; cases h)
    refine ⟨_, _, pre0 _ (thru _ ?_), hrun, hended, _, _, rfl, ?_, ⟨_, rfl⟩, hW, hsame.mono (by decide) (by decide)⟩
    · show Steps p.tables e below (U.setTop (mkF m 133 #[.val (.int p1), .val (.ref bB), .unset, .unset] [])) _
      refine XS.iloadN Y.here hx rfl (hb hby at_133) rfl ?_
      show Steps p.tables e below (U.setTop (mkF m 134 #[.val (.int p1), .val (.ref bB), .unset, .unset] [(.int p1)])) _
      refine Jvm.Stand.ldcI Y hx hown (mvT hZ (hw _ (List.mem_of_getElem? (i := 42) rfl))) rfl (hb hby at_134) ?_
      show Steps p.tables e below (U.setTop (mkF m 136 #[.val (.int p1), .val (.ref bB), .unset, .unset] [(.int (2147483647 : Int32)), (.int p1)])) _
      refine XS.iand Y.here hx rfl (hb hby at_136) rfl ?_
      show Steps p.tables e below (U.setTop (mkF m 137 #[.val (.int p1), .val (.ref bB), .unset, .unset] [(.int (p1 &&& (2147483647 : Int32)))])) _
      refine XT.bipushV Y.here hx rfl (19 : Int32) (hb hby at_137) (by decide) ?_
      show Steps p.tables e below (U.setTop (mkF m 139 #[.val (.int p1), .val (.ref bB), .unset, .unset] [(.int (19 : Int32)), (.int (p1 &&& (2147483647 : Int32)))])) _
      refine iremM Y hx rfl (hb hby at_139) rfl (by decide) ?_
      show Steps p.tables e below (U.setTop (mkF m 140 #[.val (.int p1), .val (.ref bB), .unset, .unset] [(.int ((p1 &&& (2147483647 : Int32)) % (19 : Int32)))])) _
      rw [hk]
      show Steps p.tables e below (U.setTop (mkF m 140 #[.val (.int p1), .val (.ref bB), .unset, .unset] [(.int (9 : Int32))])) _
      refine XS.istoreN Y.here hx rfl (hb hby at_140) rfl (l' := #[.val (.int p1), .val (.ref bB), .val (.int (9 : Int32)), .unset]) rfl ?_
      show Steps p.tables e below (U.setTop (mkF m 141 #[.val (.int p1), .val (.ref bB), .val (.int (9 : Int32)), .unset] [])) _
      refine XS.iloadN Y.here hx rfl (hb hby at_141) rfl ?_
      show Steps p.tables e below (U.setTop (mkF m 142 #[.val (.int p1), .val (.ref bB), .val (.int (9 : Int32)), .unset] [(.int (9 : Int32))])) _
      refine XT.iconstV Y.here hx rfl (1 : Int32) (hb hby at_142) rfl ?_
      show Steps p.tables e below (U.setTop (mkF m 143 #[.val (.int p1), .val (.ref bB), .val (.int (9 : Int32)), .unset] [(.int (1 : Int32)), (.int (9 : Int32))])) _
      refine XS.icmpNo Y.here hx rfl (hb hby at_143) rfl (by decide) ?_
      show Steps p.tables e below (U.setTop (mkF m 146 #[.val (.int p1), .val (.ref bB), .val (.int (9 : Int32)), .unset] [])) _
      refine XS.iloadN Y.here hx rfl (hb hby at_146) rfl ?_
      show Steps p.tables e below (U.setTop (mkF m 147 #[.val (.int p1), .val (.ref bB), .val (.int (9 : Int32)), .unset] [(.int (9 : Int32))])) _
      refine XT.bipushV Y.here hx rfl (11 : Int32) (hb hby at_147) (by decide) ?_
      show Steps p.tables e below (U.setTop (mkF m 149 #[.val (.int p1), .val (.ref bB), .val (.int (9 : Int32)), .unset] [(.int (11 : Int32)), (.int (9 : Int32))])) _
      refine XS.icmpNo Y.here hx rfl (hb hby at_149) rfl (by decide) ?_
      show Steps p.tables e below (U.setTop (mkF m 152 #[.val (.int p1), .val (.ref bB), .val (.int (9 : Int32)), .unset] [])) _
      refine XT.iconstV Y.here hx rfl (1 : Int32) (hb hby at_152) rfl ?_
      show Steps p.tables e below (U.setTop (mkF m 153 #[.val (.int p1), .val (.ref bB), .val (.int (9 : Int32)), .unset] [(.int (1 : Int32))])) _
      refine XS.goto Y.here hx rfl (pc0 := 153) (pc' := 157) rfl (hb hby at_153) (by decide) (by decide) ?_
      show Steps p.tables e below (U.setTop (mkF m 157 #[.val (.int p1), .val (.ref bB), .val (.int (9 : Int32)), .unset] [(.int (1 : Int32))])) _
      refine XS.istoreN Y.here hx rfl (hb hby at_157) rfl (l' := #[.val (.int p1), .val (.ref bB), .val (.int (9 : Int32)), .val (.int (1 : Int32))]) rfl ?_
      show Steps p.tables e below (U.setTop (mkF m 158 #[.val (.int p1), .val (.ref bB), .val (.int (9 : Int32)), .val (.int (1 : Int32))] [])) _
      refine XS.aloadN Y.here hx rfl (hb hby at_158) rfl rfl ?_
      show Steps p.tables e below (U.setTop (mkF m 159 #[.val (.int p1), .val (.ref bB), .val (.int (9 : Int32)), .val (.int (1 : Int32))] [(.ref bB)])) _
      refine XS.iloadN Y.here hx rfl (hb hby at_159) rfl ?_
      show Steps p.tables e below (U.setTop (mkF m 160 #[.val (.int p1), .val (.ref bB), .val (.int (9 : Int32)), .val (.int (1 : Int32))] [(.int (9 : Int32)), (.ref bB)])) _
      refine Y.aaload hx (j := (9 : Int32)) (v := (.ref w9)) (by rw [eU]; exact Ar77.1) (State.isArrayOf_alike hZ.alike Ar77.2.1) rfl Ar77.2.2 Q77 H77 (g := (mkF m 160 #[.val (.int p1), .val (.ref bB), .val (.int (9 : Int32)), .val (.int (1 : Int32))] [(.int (9 : Int32)), (.ref bB)])) rfl rfl (hb hby at_160) _ ?_
      show Steps p.tables e below (U.setTop (mkF m 161 #[.val (.int p1), .val (.ref bB), .val (.int (9 : Int32)), .val (.int (1 : Int32))] [(.ref w9)])) _
      refine st78.trans ?_
      show Steps p.tables e below (T78.setTop (mkF m 164 #[.val (.int p1), .val (.ref bB), .val (.int (9 : Int32)), .val (.int (1 : Int32))] [(.int (1 : Int32))])) _
      refine XS.iloadN X78.here hx rfl (hb hby at_164) rfl ?_
      show Steps p.tables e below (T78.setTop (mkF m 165 #[.val (.int p1), .val (.ref bB), .val (.int (9 : Int32)), .val (.int (1 : Int32))] [(.int (1 : Int32)), (.int (1 : Int32))])) _
      refine XS.icmpNo X78.here hx rfl (hb hby at_165) rfl (by decide) ?_
      show Steps p.tables e below (T78.setTop (mkF m 168 #[.val (.int p1), .val (.ref bB), .val (.int (9 : Int32)), .val (.int (1 : Int32))] [])) _
      refine XT.iconstV X78.here hx rfl (1 : Int32) (hb hby at_168) rfl ?_
      show Steps p.tables e below (T78.setTop (mkF m 169 #[.val (.int p1), .val (.ref bB), .val (.int (9 : Int32)), .val (.int (1 : Int32))] [(.int (1 : Int32))])) _
      refine XS.goto X78.here hx rfl (pc0 := 169) (pc' := 173) rfl (hb hby at_169) (by decide) (by decide) ?_
      show Steps p.tables e below (T78.setTop (mkF m 173 #[.val (.int p1), .val (.ref bB), .val (.int (9 : Int32)), .val (.int (1 : Int32))] [(.int (1 : Int32))])) _
      exact retN X78 hx (t := .boolean) Bd.returns (by simp) (hb hby at_173) hr
    · show own_Q0 n0 _ T78.heap _
      exact ⟨rfl, N78⟩
  · obtain ⟨cl79, Ar79, Q79, H79⟩ := own_at VB (j := (10 : Int32)) (v := (.ref w10)) (by decide) rfl
    obtain ⟨cq80, kq80, q80a, q80b, q80c⟩ := isOf hZ eU (E10.ext EXB)
    obtain ⟨_, _, ⟨T80, L80, k80, n80⟩, -, X80, ⟨Lc80, hQ80, l80, y80, z80⟩, st80⟩ := Y.virtualBack hx (y := (⟨"com/example/plimsoll/plimsoll/wire/SaspType", "isMessage", "()Z"⟩ : MethodName)) (z := (⟨"com/example/plimsoll/plimsoll/wire/SaspType", "isMessage", "()Z"⟩ : MethodName)) hown (mvT hZ (hw _ (List.mem_of_getElem? (i := 43) rfl))) (mvT hZ (hw _ (List.mem_of_getElem? (i := 44) rfl))) (notFace_of_selects (args := #[]) (mvT hZ (hw _ (List.mem_of_getElem? (i := 46) rfl)))) (mvT hZ (hw _ (List.mem_of_getElem? (i := 46) rfl))) (mvT hZ (hw _ (List.mem_of_getElem? (i := 45) rfl))) (by decide) (backOf (W := 0) (own_isMessage_10 l Z a0 hw [] w0 w1 w2 w3 w4 w5 w6 w7 w8 w9 w10 w11 w12 w13 w14 w15 w16 w17 w18 hB n0 ZB (own_P_ext P EXB)) hZ (hw _ (List.mem_of_getElem? (i := 47) rfl)) (hw _ (List.mem_of_getElem? (i := 3) rfl)) (by decide) (by decide)) q80a q80c (g := (mkF m 161 #[.val (.int p1), .val (.ref bB), .val (.int (10 : Int32)), .val (.int (1 : Int32))] [(.ref w10)])) rfl (by rw [hml]; rfl) (Steps.refl _) (argsL := []) (rest := []) (lenOf pd___Z rfl) rfl (by show 2 * 0 + _ ≤ _; exact Nat.le_of_eq rfl) (hb hby at_161) (fun _ _ => ⟨rfl, eU, (by decide : 1 + 0 ≤ _), (by decide : 19 + 0 ≤ _)⟩)
    dsimp only [Pt.U, Pt.locs, Pt.cells, Pt.slots] at X80 l80 y80 z80 st80 hQ80
    subst l80 y80 z80
    obtain ⟨rfl, N80q, e80⟩ := hQ80
    have N80 := Fr.app NU N80q
    obtain ⟨fs, hr, hrun, hended, hW, hsame⟩ := X80.leave (v := some (.int (1 : Int32))) (fun h => by rw [Bd.returns] at h; cases h)
    refine ⟨_, _, pre0 _ (thru _ ?_), hrun, hended, _, _, rfl, ?_, ⟨_, rfl⟩, hW, hsame.mono (by decide) (by decide)⟩
    · show Steps p.tables e below (U.setTop (mkF m 133 #[.val (.int p1), .val (.ref bB), .unset, .unset] [])) _
      refine XS.iloadN Y.here hx rfl (hb hby at_133) rfl ?_
      show Steps p.tables e below (U.setTop (mkF m 134 #[.val (.int p1), .val (.ref bB), .unset, .unset] [(.int p1)])) _
      refine Jvm.Stand.ldcI Y hx hown (mvT hZ (hw _ (List.mem_of_getElem? (i := 42) rfl))) rfl (hb hby at_134) ?_
      show Steps p.tables e below (U.setTop (mkF m 136 #[.val (.int p1), .val (.ref bB), .unset, .unset] [(.int (2147483647 : Int32)), (.int p1)])) _
      refine XS.iand Y.here hx rfl (hb hby at_136) rfl ?_
      show Steps p.tables e below (U.setTop (mkF m 137 #[.val (.int p1), .val (.ref bB), .unset, .unset] [(.int (p1 &&& (2147483647 : Int32)))])) _
      refine XT.bipushV Y.here hx rfl (19 : Int32) (hb hby at_137) (by decide) ?_
      show Steps p.tables e below (U.setTop (mkF m 139 #[.val (.int p1), .val (.ref bB), .unset, .unset] [(.int (19 : Int32)), (.int (p1 &&& (2147483647 : Int32)))])) _
      refine iremM Y hx rfl (hb hby at_139) rfl (by decide) ?_
      show Steps p.tables e below (U.setTop (mkF m 140 #[.val (.int p1), .val (.ref bB), .unset, .unset] [(.int ((p1 &&& (2147483647 : Int32)) % (19 : Int32)))])) _
      rw [hk]
      show Steps p.tables e below (U.setTop (mkF m 140 #[.val (.int p1), .val (.ref bB), .unset, .unset] [(.int (10 : Int32))])) _
      refine XS.istoreN Y.here hx rfl (hb hby at_140) rfl (l' := #[.val (.int p1), .val (.ref bB), .val (.int (10 : Int32)), .unset]) rfl ?_
      show Steps p.tables e below (U.setTop (mkF m 141 #[.val (.int p1), .val (.ref bB), .val (.int (10 : Int32)), .unset] [])) _
      refine XS.iloadN Y.here hx rfl (hb hby at_141) rfl ?_
      show Steps p.tables e below (U.setTop (mkF m 142 #[.val (.int p1), .val (.ref bB), .val (.int (10 : Int32)), .unset] [(.int (10 : Int32))])) _
      refine XT.iconstV Y.here hx rfl (1 : Int32) (hb hby at_142) rfl ?_
      show Steps p.tables e below (U.setTop (mkF m 143 #[.val (.int p1), .val (.ref bB), .val (.int (10 : Int32)), .unset] [(.int (1 : Int32)), (.int (10 : Int32))])) _
      refine XS.icmpNo Y.here hx rfl (hb hby at_143) rfl (by decide) ?_
      show Steps p.tables e below (U.setTop (mkF m 146 #[.val (.int p1), .val (.ref bB), .val (.int (10 : Int32)), .unset] [])) _
      refine XS.iloadN Y.here hx rfl (hb hby at_146) rfl ?_
      show Steps p.tables e below (U.setTop (mkF m 147 #[.val (.int p1), .val (.ref bB), .val (.int (10 : Int32)), .unset] [(.int (10 : Int32))])) _
      refine XT.bipushV Y.here hx rfl (11 : Int32) (hb hby at_147) (by decide) ?_
      show Steps p.tables e below (U.setTop (mkF m 149 #[.val (.int p1), .val (.ref bB), .val (.int (10 : Int32)), .unset] [(.int (11 : Int32)), (.int (10 : Int32))])) _
      refine XS.icmpNo Y.here hx rfl (hb hby at_149) rfl (by decide) ?_
      show Steps p.tables e below (U.setTop (mkF m 152 #[.val (.int p1), .val (.ref bB), .val (.int (10 : Int32)), .unset] [])) _
      refine XT.iconstV Y.here hx rfl (1 : Int32) (hb hby at_152) rfl ?_
      show Steps p.tables e below (U.setTop (mkF m 153 #[.val (.int p1), .val (.ref bB), .val (.int (10 : Int32)), .unset] [(.int (1 : Int32))])) _
      refine XS.goto Y.here hx rfl (pc0 := 153) (pc' := 157) rfl (hb hby at_153) (by decide) (by decide) ?_
      show Steps p.tables e below (U.setTop (mkF m 157 #[.val (.int p1), .val (.ref bB), .val (.int (10 : Int32)), .unset] [(.int (1 : Int32))])) _
      refine XS.istoreN Y.here hx rfl (hb hby at_157) rfl (l' := #[.val (.int p1), .val (.ref bB), .val (.int (10 : Int32)), .val (.int (1 : Int32))]) rfl ?_
      show Steps p.tables e below (U.setTop (mkF m 158 #[.val (.int p1), .val (.ref bB), .val (.int (10 : Int32)), .val (.int (1 : Int32))] [])) _
      refine XS.aloadN Y.here hx rfl (hb hby at_158) rfl rfl ?_
      show Steps p.tables e below (U.setTop (mkF m 159 #[.val (.int p1), .val (.ref bB), .val (.int (10 : Int32)), .val (.int (1 : Int32))] [(.ref bB)])) _
      refine XS.iloadN Y.here hx rfl (hb hby at_159) rfl ?_
      show Steps p.tables e below (U.setTop (mkF m 160 #[.val (.int p1), .val (.ref bB), .val (.int (10 : Int32)), .val (.int (1 : Int32))] [(.int (10 : Int32)), (.ref bB)])) _
      refine Y.aaload hx (j := (10 : Int32)) (v := (.ref w10)) (by rw [eU]; exact Ar79.1) (State.isArrayOf_alike hZ.alike Ar79.2.1) rfl Ar79.2.2 Q79 H79 (g := (mkF m 160 #[.val (.int p1), .val (.ref bB), .val (.int (10 : Int32)), .val (.int (1 : Int32))] [(.int (10 : Int32)), (.ref bB)])) rfl rfl (hb hby at_160) _ ?_
      show Steps p.tables e below (U.setTop (mkF m 161 #[.val (.int p1), .val (.ref bB), .val (.int (10 : Int32)), .val (.int (1 : Int32))] [(.ref w10)])) _
      refine st80.trans ?_
      show Steps p.tables e below (T80.setTop (mkF m 164 #[.val (.int p1), .val (.ref bB), .val (.int (10 : Int32)), .val (.int (1 : Int32))] [(.int (1 : Int32))])) _
      refine XS.iloadN X80.here hx rfl (hb hby at_164) rfl ?_
      show Steps p.tables e below (T80.setTop (mkF m 165 #[.val (.int p1), .val (.ref bB), .val (.int (10 : Int32)), .val (.int (1 : Int32))] [(.int (1 : Int32)), (.int (1 : Int32))])) _
      refine XS.icmpNo X80.here hx rfl (hb hby at_165) rfl (by decide) ?_
      show Steps p.tables e below (T80.setTop (mkF m 168 #[.val (.int p1), .val (.ref bB), .val (.int (10 : Int32)), .val (.int (1 : Int32))] [])) _
      refine XT.iconstV X80.here hx rfl (1 : Int32) (hb hby at_168) rfl ?_
      show Steps p.tables e below (T80.setTop (mkF m 169 #[.val (.int p1), .val (.ref bB), .val (.int (10 : Int32)), .val (.int (1 : Int32))] [(.int (1 : Int32))])) _
      refine XS.goto X80.here hx rfl (pc0 := 169) (pc' := 173) rfl (hb hby at_169) (by decide) (by decide) ?_
      show Steps p.tables e below (T80.setTop (mkF m 173 #[.val (.int p1), .val (.ref bB), .val (.int (10 : Int32)), .val (.int (1 : Int32))] [(.int (1 : Int32))])) _
      exact retN X80 hx (t := .boolean) Bd.returns (by simp) (hb hby at_173) hr
    · show own_Q0 n0 _ T80.heap _
      exact ⟨rfl, N80⟩
  · obtain ⟨cl81, Ar81, Q81, H81⟩ := own_at VB (j := (11 : Int32)) (v := (.ref w11)) (by decide) rfl
    obtain ⟨cq82, kq82, q82a, q82b, q82c⟩ := isOf hZ eU (E11.ext EXB)
    obtain ⟨_, _, ⟨T82, L82, k82, n82⟩, -, X82, ⟨Lc82, hQ82, l82, y82, z82⟩, st82⟩ := Y.virtualBack hx (y := (⟨"com/example/plimsoll/plimsoll/wire/SaspType", "isMessage", "()Z"⟩ : MethodName)) (z := (⟨"com/example/plimsoll/plimsoll/wire/SaspType", "isMessage", "()Z"⟩ : MethodName)) hown (mvT hZ (hw _ (List.mem_of_getElem? (i := 43) rfl))) (mvT hZ (hw _ (List.mem_of_getElem? (i := 44) rfl))) (notFace_of_selects (args := #[]) (mvT hZ (hw _ (List.mem_of_getElem? (i := 46) rfl)))) (mvT hZ (hw _ (List.mem_of_getElem? (i := 46) rfl))) (mvT hZ (hw _ (List.mem_of_getElem? (i := 45) rfl))) (by decide) (backOf (W := 0) (own_isMessage_11 l Z a0 hw [] w0 w1 w2 w3 w4 w5 w6 w7 w8 w9 w10 w11 w12 w13 w14 w15 w16 w17 w18 hB n0 ZB (own_P_ext P EXB)) hZ (hw _ (List.mem_of_getElem? (i := 47) rfl)) (hw _ (List.mem_of_getElem? (i := 3) rfl)) (by decide) (by decide)) q82a q82c (g := (mkF m 161 #[.val (.int p1), .val (.ref bB), .val (.int (11 : Int32)), .val (.int (1 : Int32))] [(.ref w11)])) rfl (by rw [hml]; rfl) (Steps.refl _) (argsL := []) (rest := []) (lenOf pd___Z rfl) rfl (by show 2 * 0 + _ ≤ _; exact Nat.le_of_eq rfl) (hb hby at_161) (fun _ _ => ⟨rfl, eU, (by decide : 1 + 0 ≤ _), (by decide : 19 + 0 ≤ _)⟩)
    dsimp only [Pt.U, Pt.locs, Pt.cells, Pt.slots] at X82 l82 y82 z82 st82 hQ82
    subst l82 y82 z82
    obtain ⟨rfl, N82q, e82⟩ := hQ82
    have N82 := Fr.app NU N82q
    obtain ⟨fs, hr, hrun, hended, hW, hsame⟩ := X82.leave (v := some (.int (1 : Int32))) (fun h => by rw [Bd.returns] at h; cases h)
    refine ⟨_, _, pre0 _ (thru _ ?_), hrun, hended, _, _, rfl, ?_, ⟨_, rfl⟩, hW, hsame.mono (by decide) (by decide)⟩
    · show Steps p.tables e below (U.setTop (mkF m 133 #[.val (.int p1), .val (.ref bB), .unset, .unset] [])) _
      refine XS.iloadN Y.here hx rfl (hb hby at_133) rfl ?_
      show Steps p.tables e below (U.setTop (mkF m 134 #[.val (.int p1), .val (.ref bB), .unset, .unset] [(.int p1)])) _
      refine Jvm.Stand.ldcI Y hx hown (mvT hZ (hw _ (List.mem_of_getElem? (i := 42) rfl))) rfl (hb hby at_134) ?_
      show Steps p.tables e below (U.setTop (mkF m 136 #[.val (.int p1), .val (.ref bB), .unset, .unset] [(.int (2147483647 : Int32)), (.int p1)])) _
      refine XS.iand Y.here hx rfl (hb hby at_136) rfl ?_
      show Steps p.tables e below (U.setTop (mkF m 137 #[.val (.int p1), .val (.ref bB), .unset, .unset] [(.int (p1 &&& (2147483647 : Int32)))])) _
      refine XT.bipushV Y.here hx rfl (19 : Int32) (hb hby at_137) (by decide) ?_
      show Steps p.tables e below (U.setTop (mkF m 139 #[.val (.int p1), .val (.ref bB), .unset, .unset] [(.int (19 : Int32)), (.int (p1 &&& (2147483647 : Int32)))])) _
      refine iremM Y hx rfl (hb hby at_139) rfl (by decide) ?_
      show Steps p.tables e below (U.setTop (mkF m 140 #[.val (.int p1), .val (.ref bB), .unset, .unset] [(.int ((p1 &&& (2147483647 : Int32)) % (19 : Int32)))])) _
      rw [hk]
      show Steps p.tables e below (U.setTop (mkF m 140 #[.val (.int p1), .val (.ref bB), .unset, .unset] [(.int (11 : Int32))])) _
      refine XS.istoreN Y.here hx rfl (hb hby at_140) rfl (l' := #[.val (.int p1), .val (.ref bB), .val (.int (11 : Int32)), .unset]) rfl ?_
      show Steps p.tables e below (U.setTop (mkF m 141 #[.val (.int p1), .val (.ref bB), .val (.int (11 : Int32)), .unset] [])) _
      refine XS.iloadN Y.here hx rfl (hb hby at_141) rfl ?_
      show Steps p.tables e below (U.setTop (mkF m 142 #[.val (.int p1), .val (.ref bB), .val (.int (11 : Int32)), .unset] [(.int (11 : Int32))])) _
      refine XT.iconstV Y.here hx rfl (1 : Int32) (hb hby at_142) rfl ?_
      show Steps p.tables e below (U.setTop (mkF m 143 #[.val (.int p1), .val (.ref bB), .val (.int (11 : Int32)), .unset] [(.int (1 : Int32)), (.int (11 : Int32))])) _
      refine XS.icmpNo Y.here hx rfl (hb hby at_143) rfl (by decide) ?_
      show Steps p.tables e below (U.setTop (mkF m 146 #[.val (.int p1), .val (.ref bB), .val (.int (11 : Int32)), .unset] [])) _
      refine XS.iloadN Y.here hx rfl (hb hby at_146) rfl ?_
      show Steps p.tables e below (U.setTop (mkF m 147 #[.val (.int p1), .val (.ref bB), .val (.int (11 : Int32)), .unset] [(.int (11 : Int32))])) _
      refine XT.bipushV Y.here hx rfl (11 : Int32) (hb hby at_147) (by decide) ?_
      show Steps p.tables e below (U.setTop (mkF m 149 #[.val (.int p1), .val (.ref bB), .val (.int (11 : Int32)), .unset] [(.int (11 : Int32)), (.int (11 : Int32))])) _
      refine XS.icmpNo Y.here hx rfl (hb hby at_149) rfl (by decide) ?_
      show Steps p.tables e below (U.setTop (mkF m 152 #[.val (.int p1), .val (.ref bB), .val (.int (11 : Int32)), .unset] [])) _
      refine XT.iconstV Y.here hx rfl (1 : Int32) (hb hby at_152) rfl ?_
      show Steps p.tables e below (U.setTop (mkF m 153 #[.val (.int p1), .val (.ref bB), .val (.int (11 : Int32)), .unset] [(.int (1 : Int32))])) _
      refine XS.goto Y.here hx rfl (pc0 := 153) (pc' := 157) rfl (hb hby at_153) (by decide) (by decide) ?_
      show Steps p.tables e below (U.setTop (mkF m 157 #[.val (.int p1), .val (.ref bB), .val (.int (11 : Int32)), .unset] [(.int (1 : Int32))])) _
      refine XS.istoreN Y.here hx rfl (hb hby at_157) rfl (l' := #[.val (.int p1), .val (.ref bB), .val (.int (11 : Int32)), .val (.int (1 : Int32))]) rfl ?_
      show Steps p.tables e below (U.setTop (mkF m 158 #[.val (.int p1), .val (.ref bB), .val (.int (11 : Int32)), .val (.int (1 : Int32))] [])) _
      refine XS.aloadN Y.here hx rfl (hb hby at_158) rfl rfl ?_
      show Steps p.tables e below (U.setTop (mkF m 159 #[.val (.int p1), .val (.ref bB), .val (.int (11 : Int32)), .val (.int (1 : Int32))] [(.ref bB)])) _
      refine XS.iloadN Y.here hx rfl (hb hby at_159) rfl ?_
      show Steps p.tables e below (U.setTop (mkF m 160 #[.val (.int p1), .val (.ref bB), .val (.int (11 : Int32)), .val (.int (1 : Int32))] [(.int (11 : Int32)), (.ref bB)])) _
      refine Y.aaload hx (j := (11 : Int32)) (v := (.ref w11)) (by rw [eU]; exact Ar81.1) (State.isArrayOf_alike hZ.alike Ar81.2.1) rfl Ar81.2.2 Q81 H81 (g := (mkF m 160 #[.val (.int p1), .val (.ref bB), .val (.int (11 : Int32)), .val (.int (1 : Int32))] [(.int (11 : Int32)), (.ref bB)])) rfl rfl (hb hby at_160) _ ?_
      show Steps p.tables e below (U.setTop (mkF m 161 #[.val (.int p1), .val (.ref bB), .val (.int (11 : Int32)), .val (.int (1 : Int32))] [(.ref w11)])) _
      refine st82.trans ?_
      show Steps p.tables e below (T82.setTop (mkF m 164 #[.val (.int p1), .val (.ref bB), .val (.int (11 : Int32)), .val (.int (1 : Int32))] [(.int (1 : Int32))])) _
      refine XS.iloadN X82.here hx rfl (hb hby at_164) rfl ?_
      show Steps p.tables e below (T82.setTop (mkF m 165 #[.val (.int p1), .val (.ref bB), .val (.int (11 : Int32)), .val (.int (1 : Int32))] [(.int (1 : Int32)), (.int (1 : Int32))])) _
      refine XS.icmpNo X82.here hx rfl (hb hby at_165) rfl (by decide) ?_
      show Steps p.tables e below (T82.setTop (mkF m 168 #[.val (.int p1), .val (.ref bB), .val (.int (11 : Int32)), .val (.int (1 : Int32))] [])) _
      refine XT.iconstV X82.here hx rfl (1 : Int32) (hb hby at_168) rfl ?_
      show Steps p.tables e below (T82.setTop (mkF m 169 #[.val (.int p1), .val (.ref bB), .val (.int (11 : Int32)), .val (.int (1 : Int32))] [(.int (1 : Int32))])) _
      refine XS.goto X82.here hx rfl (pc0 := 169) (pc' := 173) rfl (hb hby at_169) (by decide) (by decide) ?_
      show Steps p.tables e below (T82.setTop (mkF m 173 #[.val (.int p1), .val (.ref bB), .val (.int (11 : Int32)), .val (.int (1 : Int32))] [(.int (1 : Int32))])) _
      exact retN X82 hx (t := .boolean) Bd.returns (by simp) (hb hby at_173) hr
    · show own_Q0 n0 _ T82.heap _
      exact ⟨rfl, N82⟩
  · obtain ⟨cl83, Ar83, Q83, H83⟩ := own_at VB (j := (12 : Int32)) (v := (.ref w12)) (by decide) rfl
    obtain ⟨cq84, kq84, q84a, q84b, q84c⟩ := isOf hZ eU (E12.ext EXB)
    obtain ⟨_, _, ⟨T84, L84, k84, n84⟩, -, X84, ⟨Lc84, hQ84, l84, y84, z84⟩, st84⟩ := Y.virtualBack hx (y := (⟨"com/example/plimsoll/plimsoll/wire/SaspType", "isMessage", "()Z"⟩ : MethodName)) (z := (⟨"com/example/plimsoll/plimsoll/wire/SaspType", "isMessage", "()Z"⟩ : MethodName)) hown (mvT hZ (hw _ (List.mem_of_getElem? (i := 43) rfl))) (mvT hZ (hw _ (List.mem_of_getElem? (i := 44) rfl))) (notFace_of_selects (args := #[]) (mvT hZ (hw _ (List.mem_of_getElem? (i := 46) rfl)))) (mvT hZ (hw _ (List.mem_of_getElem? (i := 46) rfl))) (mvT hZ (hw _ (List.mem_of_getElem? (i := 45) rfl))) (by decide) (backOf (W := 0) (own_isMessage_12 l Z a0 hw [] w0 w1 w2 w3 w4 w5 w6 w7 w8 w9 w10 w11 w12 w13 w14 w15 w16 w17 w18 hB n0 ZB (own_P_ext P EXB)) hZ (hw _ (List.mem_of_getElem? (i := 47) rfl)) (hw _ (List.mem_of_getElem? (i := 3) rfl)) (by decide) (by decide)) q84a q84c (g := (mkF m 161 #[.val (.int p1), .val (.ref bB), .val (.int (12 : Int32)), .val (.int (0 : Int32))] [(.ref w12)])) rfl (by rw [hml]; rfl) (Steps.refl _) (argsL := []) (rest := []) (lenOf pd___Z rfl) rfl (by show 2 * 0 + _ ≤ _; exact Nat.le_of_eq rfl) (hb hby at_161) (fun _ _ => ⟨rfl, eU, (by decide : 1 + 0 ≤ _), (by decide : 19 + 0 ≤ _)⟩)
    dsimp only [Pt.U, Pt.locs, Pt.cells, Pt.slots] at X84 l84 y84 z84 st84 hQ84
    subst l84 y84 z84
    obtain ⟨rfl, N84q, e84⟩ := hQ84
    have N84 := Fr.app NU N84q
    obtain ⟨fs, hr, hrun, hended, hW, hsame⟩ := X84.leave (v := some (.int (1 : Int32))) (fun h => by rw [Bd.returns] at h; cases h)
    refine ⟨_, _, pre0 _ (thru _ ?_), hrun, hended, _, _, rfl, ?_, ⟨_, rfl⟩, hW, hsame.mono (by decide) (by decide)⟩
    · show Steps p.tables e below (U.setTop (mkF m 133 #[.val (.int p1), .val (.ref bB), .unset, .unset] [])) _
      refine XS.iloadN Y.here hx rfl (hb hby at_133) rfl ?_
      show Steps p.tables e below (U.setTop (mkF m 134 #[.val (.int p1), .val (.ref bB), .unset, .unset] [(.int p1)])) _
      refine Jvm.Stand.ldcI Y hx hown (mvT hZ (hw _ (List.mem_of_getElem? (i := 42) rfl))) rfl (hb hby at_134) ?_
      show Steps p.tables e below (U.setTop (mkF m 136 #[.val (.int p1), .val (.ref bB), .unset, .unset] [(.int (2147483647 : Int32)), (.int p1)])) _
      refine XS.iand Y.here hx rfl (hb hby at_136) rfl ?_
      show Steps p.tables e below (U.setTop (mkF m 137 #[.val (.int p1), .val (.ref bB), .unset, .unset] [(.int (p1 &&& (2147483647 : Int32)))])) _
      refine XT.bipushV Y.here hx rfl (19 : Int32) (hb hby at_137) (by decide) ?_
      show Steps p.tables e below (U.setTop (mkF m 139 #[.val (.int p1), .val (.ref bB), .unset, .unset] [(.int (19 : Int32)), (.int (p1 &&& (2147483647 : Int32)))])) _
      refine iremM Y hx rfl (hb hby at_139) rfl (by decide) ?_
      show Steps p.tables e below (U.setTop (mkF m 140 #[.val (.int p1), .val (.ref bB), .unset, .unset] [(.int ((p1 &&& (2147483647 : Int32)) % (19 : Int32)))])) _
      rw [hk]
      show Steps p.tables e below (U.setTop (mkF m 140 #[.val (.int p1), .val (.ref bB), .unset, .unset] [(.int (12 : Int32))])) _
      refine XS.istoreN Y.here hx rfl (hb hby at_140) rfl (l' := #[.val (.int p1), .val (.ref bB), .val (.int (12 : Int32)), .unset]) rfl ?_
      show Steps p.tables e below (U.setTop (mkF m 141 #[.val (.int p1), .val (.ref bB), .val (.int (12 : Int32)), .unset] [])) _
      refine XS.iloadN Y.here hx rfl (hb hby at_141) rfl ?_
      show Steps p.tables e below (U.setTop (mkF m 142 #[.val (.int p1), .val (.ref bB), .val (.int (12 : Int32)), .unset] [(.int (12 : Int32))])) _
      refine XT.iconstV Y.here hx rfl (1 : Int32) (hb hby at_142) rfl ?_
      show Steps p.tables e below (U.setTop (mkF m 143 #[.val (.int p1), .val (.ref bB), .val (.int (12 : Int32)), .unset] [(.int (1 : Int32)), (.int (12 : Int32))])) _
      refine XS.icmpNo Y.here hx rfl (hb hby at_143) rfl (by decide) ?_
      show Steps p.tables e below (U.setTop (mkF m 146 #[.val (.int p1), .val (.ref bB), .val (.int (12 : Int32)), .unset] [])) _
      refine XS.iloadN Y.here hx rfl (hb hby at_146) rfl ?_
      show Steps p.tables e below (U.setTop (mkF m 147 #[.val (.int p1), .val (.ref bB), .val (.int (12 : Int32)), .unset] [(.int (12 : Int32))])) _
      refine XT.bipushV Y.here hx rfl (11 : Int32) (hb hby at_147) (by decide) ?_
      show Steps p.tables e below (U.setTop (mkF m 149 #[.val (.int p1), .val (.ref bB), .val (.int (12 : Int32)), .unset] [(.int (11 : Int32)), (.int (12 : Int32))])) _
      refine XS.icmpYes Y.here hx rfl (pc0 := 149) (pc' := 156) rfl (hb hby at_149) rfl (by decide) (by decide) (by decide) ?_
      show Steps p.tables e below (U.setTop (mkF m 156 #[.val (.int p1), .val (.ref bB), .val (.int (12 : Int32)), .unset] [])) _
      refine XT.iconstV Y.here hx rfl (0 : Int32) (hb hby at_156) rfl ?_
      show Steps p.tables e below (U.setTop (mkF m 157 #[.val (.int p1), .val (.ref bB), .val (.int (12 : Int32)), .unset] [(.int (0 : Int32))])) _
      refine XS.istoreN Y.here hx rfl (hb hby at_157) rfl (l' := #[.val (.int p1), .val (.ref bB), .val (.int (12 : Int32)), .val (.int (0 : Int32))]) rfl ?_
      show Steps p.tables e below (U.setTop (mkF m 158 #[.val (.int p1), .val (.ref bB), .val (.int (12 : Int32)), .val (.int (0 : Int32))] [])) _
      refine XS.aloadN Y.here hx rfl (hb hby at_158) rfl rfl ?_
      show Steps p.tables e below (U.setTop (mkF m 159 #[.val (.int p1), .val (.ref bB), .val (.int (12 : Int32)), .val (.int (0 : Int32))] [(.ref bB)])) _
      refine XS.iloadN Y.here hx rfl (hb hby at_159) rfl ?_
      show Steps p.tables e below (U.setTop (mkF m 160 #[.val (.int p1), .val (.ref bB), .val (.int (12 : Int32)), .val (.int (0 : Int32))] [(.int (12 : Int32)), (.ref bB)])) _
      refine Y.aaload hx (j := (12 : Int32)) (v := (.ref w12)) (by rw [eU]; exact Ar83.1) (State.isArrayOf_alike hZ.alike Ar83.2.1) rfl Ar83.2.2 Q83 H83 (g := (mkF m 160 #[.val (.int p1), .val (.ref bB), .val (.int (12 : Int32)), .val (.int (0 : Int32))] [(.int (12 : Int32)), (.ref bB)])) rfl rfl (hb hby at_160) _ ?_
      show Steps p.tables e below (U.setTop (mkF m 161 #[.val (.int p1), .val (.ref bB), .val (.int (12 : Int32)), .val (.int (0 : Int32))] [(.ref w12)])) _
      refine st84.trans ?_
      show Steps p.tables e below (T84.setTop (mkF m 164 #[.val (.int p1), .val (.ref bB), .val (.int (12 : Int32)), .val (.int (0 : Int32))] [(.int (0 : Int32))])) _
      refine XS.iloadN X84.here hx rfl (hb hby at_164) rfl ?_
      show Steps p.tables e below (T84.setTop (mkF m 165 #[.val (.int p1), .val (.ref bB), .val (.int (12 : Int32)), .val (.int (0 : Int32))] [(.int (0 : Int32)), (.int (0 : Int32))])) _
      refine XS.icmpNo X84.here hx rfl (hb hby at_165) rfl (by decide) ?_
      show Steps p.tables e below (T84.setTop (mkF m 168 #[.val (.int p1), .val (.ref bB), .val (.int (12 : Int32)), .val (.int (0 : Int32))] [])) _
      refine XT.iconstV X84.here hx rfl (1 : Int32) (hb hby at_168) rfl ?_
      show Steps p.tables e below (T84.setTop (mkF m 169 #[.val (.int p1), .val (.ref bB), .val (.int (12 : Int32)), .val (.int (0 : Int32))] [(.int (1 : Int32))])) _
      refine XS.goto X84.here hx rfl (pc0 := 169) (pc' := 173) rfl (hb hby at_169) (by decide) (by decide) ?_
      show Steps p.tables e below (T84.setTop (mkF m 173 #[.val (.int p1), .val (.ref bB), .val (.int (12 : Int32)), .val (.int (0 : Int32))] [(.int (1 : Int32))])) _
      exact retN X84 hx (t := .boolean) Bd.returns (by simp) (hb hby at_173) hr
    · show own_Q0 n0 _ T84.heap _
      exact ⟨rfl, N84⟩
  · obtain ⟨cl85, Ar85, Q85, H85⟩ := own_at VB (j := (13 : Int32)) (v := (.ref w13)) (by decide) rfl
    obtain ⟨cq86, kq86, q86a, q86b, q86c⟩ := isOf hZ eU (E13.ext EXB)
    obtain ⟨_, _, ⟨T86, L86, k86, n86⟩, -, X86, ⟨Lc86, hQ86, l86, y86, z86⟩, st86⟩ := Y.virtualBack hx (y := (⟨"com/example/plimsoll/plimsoll/wire/SaspType", "isMessage", "()Z"⟩ : MethodName)) (z := (⟨"com/example/plimsoll/plimsoll/wire/SaspType", "isMessage", "()Z"⟩ : MethodName)) hown (mvT hZ (hw _ (List.mem_of_getElem? (i := 43) rfl))) (mvT hZ (hw _ (List.mem_of_getElem? (i := 44) rfl))) (notFace_of_selects (args := #[]) (mvT hZ (hw _ (List.mem_of_getElem? (i := 46) rfl)))) (mvT hZ (hw _ (List.mem_of_getElem? (i := 46) rfl))) (mvT hZ (hw _ (List.mem_of_getElem? (i := 45) rfl))) (by decide) (backOf (W := 0) (own_isMessage_13 l Z a0 hw [] w0 w1 w2 w3 w4 w5 w6 w7 w8 w9 w10 w11 w12 w13 w14 w15 w16 w17 w18 hB n0 ZB (own_P_ext P EXB)) hZ (hw _ (List.mem_of_getElem? (i := 47) rfl)) (hw _ (List.mem_of_getElem? (i := 3) rfl)) (by decide) (by decide)) q86a q86c (g := (mkF m 161 #[.val (.int p1), .val (.ref bB), .val (.int (13 : Int32)), .val (.int (0 : Int32))] [(.ref w13)])) rfl (by rw [hml]; rfl) (Steps.refl _) (argsL := []) (rest := []) (lenOf pd___Z rfl) rfl (by show 2 * 0 + _ ≤ _; exact Nat.le_of_eq rfl) (hb hby at_161) (fun _ _ => ⟨rfl, eU, (by decide : 1 + 0 ≤ _), (by decide : 19 + 0 ≤ _)⟩)
    dsimp only [Pt.U, Pt.locs, Pt.cells, Pt.slots] at X86 l86 y86 z86 st86 hQ86
    subst l86 y86 z86
    obtain ⟨rfl, N86q, e86⟩ := hQ86
    have N86 := Fr.app NU N86q
    obtain ⟨fs, hr, hrun, hended, hW, hsame⟩ := X86.leave (v := some (.int (1 : Int32))) (fun h => by rw [Bd.returns] at h; cases h)
    refine ⟨_, _, pre0 _ (thru _ ?_), hrun, hended, _, _, rfl, ?_, ⟨_, rfl⟩, hW, hsame.mono (by decide) (by decide)⟩
    · show Steps p.tables e below (U.setTop (mkF m 133 #[.val (.int p1), .val (.ref bB), .unset, .unset] [])) _
      refine XS.iloadN Y.here hx rfl (hb hby at_133) rfl ?_
      show Steps p.tables e below (U.setTop (mkF m 134 #[.val (.int p1), .val (.ref bB), .unset, .unset] [(.int p1)])) _
      refine Jvm.Stand.ldcI Y hx hown (mvT hZ (hw _ (List.mem_of_getElem? (i := 42) rfl))) rfl (hb hby at_134) ?_
      show Steps p.tables e below (U.setTop (mkF m 136 #[.val (.int p1), .val (.ref bB), .unset, .unset] [(.int (2147483647 : Int32)), (.int p1)])) _
      refine XS.iand Y.here hx rfl (hb hby at_136) rfl ?_
      show Steps p.tables e below (U.setTop (mkF m 137 #[.val (.int p1), .val (.ref bB), .unset, .unset] [(.int (p1 &&& (2147483647 : Int32)))])) _
      refine XT.bipushV Y.here hx rfl (19 : Int32) (hb hby at_137) (by decide) ?_
      show Steps p.tables e below (U.setTop (mkF m 139 #[.val (.int p1), .val (.ref bB), .unset, .unset] [(.int (19 : Int32)), (.int (p1 &&& (2147483647 : Int32)))])) _
      refine iremM Y hx rfl (hb hby at_139) rfl (by decide) ?_
      show Steps p.tables e below (U.setTop (mkF m 140 #[.val (.int p1), .val (.ref bB), .unset, .unset] [(.int ((p1 &&& (2147483647 : Int32)) % (19 : Int32)))])) _
      rw [hk]
      show Steps p.tables e below (U.setTop (mkF m 140 #[.val (.int p1), .val (.ref bB), .unset, .unset] [(.int (13 : Int32))])) _
      refine XS.istoreN Y.here hx rfl (hb hby at_140) rfl (l' := #[.val (.int p1), .val (.ref bB), .val (.int (13 : Int32)), .unset]) rfl ?_
      show Steps p.tables e below (U.setTop (mkF m 141 #[.val (.int p1), .val (.ref bB), .val (.int (13 : Int32)), .unset] [])) _
      refine XS.iloadN Y.here hx rfl (hb hby at_141) rfl ?_
      show Steps p.tables e below (U.setTop (mkF m 142 #[.val (.int p1), .val (.ref bB), .val (.int (13 : Int32)), .unset] [(.int (13 : Int32))])) _
      refine XT.iconstV Y.here hx rfl (1 : Int32) (hb hby at_142) rfl ?_
      show Steps p.tables e below (U.setTop (mkF m 143 #[.val (.int p1), .val (.ref bB), .val (.int (13 : Int32)), .unset] [(.int (1 : Int32)), (.int (13 : Int32))])) _
      refine XS.icmpNo Y.here hx rfl (hb hby at_143) rfl (by decide) ?_
      show Steps p.tables e below (U.setTop (mkF m 146 #[.val (.int p1), .val (.ref bB), .val (.int (13 : Int32)), .unset] [])) _
      refine XS.iloadN Y.here hx rfl (hb hby at_146) rfl ?_
      show Steps p.tables e below (U.setTop (mkF m 147 #[.val (.int p1), .val (.ref bB), .val (.int (13 : Int32)), .unset] [(.int (13 : Int32))])) _
      refine XT.bipushV Y.here hx rfl (11 : Int32) (hb hby at_147) (by decide) ?_
      show Steps p.tables e below (U.setTop (mkF m 149 #[.val (.int p1), .val (.ref bB), .val (.int (13 : Int32)), .unset] [(.int (11 : Int32)), (.int (13 : Int32))])) _
      refine XS.icmpYes Y.here hx rfl (pc0 := 149) (pc' := 156) rfl (hb hby at_149) rfl (by decide) (by decide) (by decide) ?_
      show Steps p.tables e below (U.setTop (mkF m 156 #[.val (.int p1), .val (.ref bB), .val (.int (13 : Int32)), .unset] [])) _
      refine XT.iconstV Y.here hx rfl (0 : Int32) (hb hby at_156) rfl ?_
      show Steps p.tables e below (U.setTop (mkF m 157 #[.val (.int p1), .val (.ref bB), .val (.int (13 : Int32)), .unset] [(.int (0 : Int32))])) _
      refine XS.istoreN Y.here hx rfl (hb hby at_157) rfl (l' := #[.val (.int p1), .val (.ref bB), .val (.int (13 : Int32)), .val (.int (0 : Int32))]) rfl ?_
      show Steps p.tables e below (U.setTop (mkF m 158 #[.val (.int p1), .val (.ref bB), .val (.int (13 : Int32)), .val (.int (0 : Int32))] [])) _
      refine XS.aloadN Y.here hx rfl (hb hby at_158) rfl rfl ?_
      show Steps p.tables e below (U.setTop (mkF m 159 #[.val (.int p1), .val (.ref bB), .val (.int (13 : Int32)), .val (.int (0 : Int32))] [(.ref bB)])) _
      refine XS.iloadN Y.here hx rfl (hb hby at_159) rfl ?_
      show Steps p.tables e below (U.setTop (mkF m 160 #[.val (.int p1), .val (.ref bB), .val (.int (13 : Int32)), .val (.int (0 : Int32))] [(.int (13 : Int32)), (.ref bB)])) _
      refine Y.aaload hx (j := (13 : Int32)) (v := (.ref w13)) (by rw [eU]; exact Ar85.1) (State.isArrayOf_alike hZ.alike Ar85.2.1) rfl Ar85.2.2 Q85 H85 (g := (mkF m 160 #[.val (.int p1), .val (.ref bB), .val (.int (13 : Int32)), .val (.int (0 : Int32))] [(.int (13 : Int32)), (.ref bB)])) rfl rfl (hb hby at_160) _ ?_
      show Steps p.tables e below (U.setTop (mkF m 161 #[.val (.int p1), .val (.ref bB), .val (.int (13 : Int32)), .val (.int (0 : Int32))] [(.ref w13)])) _
      refine st86.trans ?_
      show Steps p.tables e below (T86.setTop (mkF m 164 #[.val (.int p1), .val (.ref bB), .val (.int (13 : Int32)), .val (.int (0 : Int32))] [(.int (0 : Int32))])) _
      refine XS.iloadN X86.here hx rfl (hb hby at_164) rfl ?_
      show Steps p.tables e below (T86.setTop (mkF m 165 #[.val (.int p1), .val (.ref bB), .val (.int (13 : Int32)), .val (.int (0 : Int32))] [(.int (0 : Int32)), (.int (0 : Int32))])) _
      refine XS.icmpNo X86.here hx rfl (hb hby at_165) rfl (by decide) ?_
      show Steps p.tables e below (T86.setTop (mkF m 168 #[.val (.int p1), .val (.ref bB), .val (.int (13 : Int32)), .val (.int (0 : Int32))] [])) _
      refine XT.iconstV X86.here hx rfl (1 : Int32) (hb hby at_168) rfl ?_
      show Steps p.tables e below (T86.setTop (mkF m 169 #[.val (.int p1), .val (.ref bB), .val (.int (13 : Int32)), .val (.int (0 : Int32))] [(.int (1 : Int32))])) _
      refine XS.goto X86.here hx rfl (pc0 := 169) (pc' := 173) rfl (hb hby at_169) (by decide) (by decide) ?_
      show Steps p.tables e below (T86.setTop (mkF m 173 #[.val (.int p1), .val (.ref bB), .val (.int (13 : Int32)), .val (.int (0 : Int32))] [(.int (1 : Int32))])) _
      exact retN X86 hx (t := .boolean) Bd.returns (by simp) (hb hby at_173) hr
    · show own_Q0 n0 _ T86.heap _
      exact ⟨rfl, N86⟩
  · obtain ⟨cl87, Ar87, Q87, H87⟩ := own_at VB (j := (14 : Int32)) (v := (.ref w14)) (by decide) rfl
    obtain ⟨cq88, kq88, q88a, q88b, q88c⟩ := isOf hZ eU (E14.ext EXB)
    obtain ⟨_, _, ⟨T88, L88, k88, n88⟩, -, X88, ⟨Lc88, hQ88, l88, y88, z88⟩, st88⟩ := Y.virtualBack hx (y := (⟨"com/example/plimsoll/plimsoll/wire/SaspType", "isMessage", "()Z"⟩ : MethodName)) (z := (⟨"com/example/plimsoll/plimsoll/wire/SaspType", "isMessage", "()Z"⟩ : MethodName)) hown (mvT hZ (hw _ (List.mem_of_getElem? (i := 43) rfl))) (mvT hZ (hw _ (List.mem_of_getElem? (i := 44) rfl))) (notFace_of_selects (args := #[]) (mvT hZ (hw _ (List.mem_of_getElem? (i := 46) rfl)))) (mvT hZ (hw _ (List.mem_of_getElem? (i := 46) rfl))) (mvT hZ (hw _ (List.mem_of_getElem? (i := 45) rfl))) (by decide) (backOf (W := 0) (own_isMessage_14 l Z a0 hw [] w0 w1 w2 w3 w4 w5 w6 w7 w8 w9 w10 w11 w12 w13 w14 w15 w16 w17 w18 hB n0 ZB (own_P_ext P EXB)) hZ (hw _ (List.mem_of_getElem? (i := 47) rfl)) (hw _ (List.mem_of_getElem? (i := 3) rfl)) (by decide) (by decide)) q88a q88c (g := (mkF m 161 #[.val (.int p1), .val (.ref bB), .val (.int (14 : Int32)), .val (.int (0 : Int32))] [(.ref w14)])) rfl (by rw [hml]; rfl) (Steps.refl _) (argsL := []) (rest := []) (lenOf pd___Z rfl) rfl (by show 2 * 0 + _ ≤ _; exact Nat.le_of_eq rfl) (hb hby at_161) (fun _ _ => ⟨rfl, eU, (by decide : 1 + 0 ≤ _), (by decide : 19 + 0 ≤ _)⟩)
    dsimp only [Pt.U, Pt.locs, Pt.cells, Pt.slots] at X88 l88 y88 z88 st88 hQ88
    subst l88 y88 z88
    obtain ⟨rfl, N88q, e88⟩ := hQ88
    have N88 := Fr.app NU N88q
    obtain ⟨fs, hr, hrun, hended, hW, hsame⟩ := X88.leave (v := some (.int (1 : Int32))) (fun h => by rw [Bd.returns] at h; cases h)
    refine ⟨_, _, pre0 _ (thru _ ?_), hrun, hended, _, _, rfl, ?_, ⟨_, rfl⟩, hW, hsame.mono (by decide) (by decide)⟩
    · show Steps p.tables e below (U.setTop (mkF m 133 #[.val (.int p1), .val (.ref bB), .unset, .unset] [])) _
      refine XS.iloadN Y.here hx rfl (hb hby at_133) rfl ?_
      show Steps p.tables e below (U.setTop (mkF m 134 #[.val (.int p1), .val (.ref bB), .unset, .unset] [(.int p1)])) _
      refine Jvm.Stand.ldcI Y hx hown (mvT hZ (hw _ (List.mem_of_getElem? (i := 42) rfl))) rfl (hb hby at_134) ?_
      show Steps p.tables e below (U.setTop (mkF m 136 #[.val (.int p1), .val (.ref bB), .unset, .unset] [(.int (2147483647 : Int32)), (.int p1)])) _
      refine XS.iand Y.here hx rfl (hb hby at_136) rfl ?_
      show Steps p.tables e below (U.setTop (mkF m 137 #[.val (.int p1), .val (.ref bB), .unset, .unset] [(.int (p1 &&& (2147483647 : Int32)))])) _
      refine XT.bipushV Y.here hx rfl (19 : Int32) (hb hby at_137) (by decide) ?_
      show Steps p.tables e below (U.setTop (mkF m 139 #[.val (.int p1), .val (.ref bB), .unset, .unset] [(.int (19 : Int32)), (.int (p1 &&& (2147483647 : Int32)))])) _
      refine iremM Y hx rfl (hb hby at_139) rfl (by decide) ?_
      show Steps p.tables e below (U.setTop (mkF m 140 #[.val (.int p1), .val (.ref bB), .unset, .unset] [(.int ((p1 &&& (2147483647 : Int32)) % (19 : Int32)))])) _
      rw [hk]
      show Steps p.tables e below (U.setTop (mkF m 140 #[.val (.int p1), .val (.ref bB), .unset, .unset] [(.int (14 : Int32))])) _
      refine XS.istoreN Y.here hx rfl (hb hby at_140) rfl (l' := #[.val (.int p1), .val (.ref bB), .val (.int (14 : Int32)), .unset]) rfl ?_
      show Steps p.tables e below (U.setTop (mkF m 141 #[.val (.int p1), .val (.ref bB), .val (.int (14 : Int32)), .unset] [])) _
      refine XS.iloadN Y.here hx rfl (hb hby at_141) rfl ?_
      show Steps p.tables e below (U.setTop (mkF m 142 #[.val (.int p1), .val (.ref bB), .val (.int (14 : Int32)), .unset] [(.int (14 : Int32))])) _
      refine XT.iconstV Y.here hx rfl (1 : Int32) (hb hby at_142) rfl ?_
      show Steps p.tables e below (U.setTop (mkF m 143 #[.val (.int p1), .val (.ref bB), .val (.int (14 : Int32)), .unset] [(.int (1 : Int32)), (.int (14 : Int32))])) _
      refine XS.icmpNo Y.here hx rfl (hb hby at_143) rfl (by decide) ?_
      show Steps p.tables e below (U.setTop (mkF m 146 #[.val (.int p1), .val (.ref bB), .val (.int (14 : Int32)), .unset] [])) _
      refine XS.iloadN Y.here hx rfl (hb hby at_146) rfl ?_
      show Steps p.tables e below (U.setTop (mkF m 147 #[.val (.int p1), .val (.ref bB), .val (.int (14 : Int32)), .unset] [(.int (14 : Int32))])) _
      refine XT.bipushV Y.here hx rfl (11 : Int32) (hb hby at_147) (by decide) ?_
      show Steps p.tables e below (U.setTop (mkF m 149 #[.val (.int p1), .val (.ref bB), .val (.int (14 : Int32)), .unset] [(.int (11 : Int32)), (.int (14 : Int32))])) _
      refine XS.icmpYes Y.here hx rfl (pc0 := 149) (pc' := 156) rfl (hb hby at_149) rfl (by decide) (by decide) (by decide) ?_
      show Steps p.tables e below (U.setTop (mkF m 156 #[.val (.int p1), .val (.ref bB), .val (.int (14 : Int32)), .unset] [])) _
      refine XT.iconstV Y.here hx rfl (0 : Int32) (hb hby at_156) rfl ?_
      show Steps p.tables e below (U.setTop (mkF m 157 #[.val (.int p1), .val (.ref bB), .val (.int (14 : Int32)), .unset] [(.int (0 : Int32))])) _
      refine XS.istoreN Y.here hx rfl (hb hby at_157) rfl (l' := #[.val (.int p1), .val (.ref bB), .val (.int (14 : Int32)), .val (.int (0 : Int32))]) rfl ?_
      show Steps p.tables e below (U.setTop (mkF m 158 #[.val (.int p1), .val (.ref bB), .val (.int (14 : Int32)), .val (.int (0 : Int32))] [])) _
      refine XS.aloadN Y.here hx rfl (hb hby at_158) rfl rfl ?_
      show Steps p.tables e below (U.setTop (mkF m 159 #[.val (.int p1), .val (.ref bB), .val (.int (14 : Int32)), .val (.int (0 : Int32))] [(.ref bB)])) _
      refine XS.iloadN Y.here hx rfl (hb hby at_159) rfl ?_
      show Steps p.tables e below (U.setTop (mkF m 160 #[.val (.int p1), .val (.ref bB), .val (.int (14 : Int32)), .val (.int (0 : Int32))] [(.int (14 : Int32)), (.ref bB)])) _
      refine Y.aaload hx (j := (14 : Int32)) (v := (.ref w14)) (by rw [eU]; exact Ar87.1) (State.isArrayOf_alike hZ.alike Ar87.2.1) rfl Ar87.2.2 Q87 H87 (g := (mkF m 160 #[.val (.int p1), .val (.ref bB), .val (.int (14 : Int32)), .val (.int (0 : Int32))] [(.int (14 : Int32)), (.ref bB)])) rfl rfl (hb hby at_160) _ ?_
      show Steps p.tables e below (U.setTop (mkF m 161 #[.val (.int p1), .val (.ref bB), .val (.int (14 : Int32)), .val (.int (0 : Int32))] [(.ref w14)])) _
      refine st88.trans ?_
      show Steps p.tables e below (T88.setTop (mkF m 164 #[.val (.int p1), .val (.ref bB), .val (.int (14 : Int32)), .val (.int (0 : Int32))] [(.int (0 : Int32))])) _
      refine XS.iloadN X88.here hx rfl (hb hby at_164) rfl ?_
      show Steps p.tables e below (T88.setTop (mkF m 165 #[.val (.int p1), .val (.ref bB), .val (.int (14 : Int32)), .val (.int (0 : Int32))] [(.int (0 : Int32)), (.int (0 : Int32))])) _
      refine XS.icmpNo X88.here hx rfl (hb hby at_165) rfl (by decide) ?_
      show Steps p.tables e below (T88.setTop (mkF m 168 #[.val (.int p1), .val (.ref bB), .val (.int (14 : Int32)), .val (.int (0 : Int32))] [])) _
      refine XT.iconstV X88.here hx rfl (1 : Int32) (hb hby at_168) rfl ?_
      show Steps p.tables e below (T88.setTop (mkF m 169 #[.val (.int p1), .val (.ref bB), .val (.int (14 : Int32)), .val (.int (0 : Int32))] [(.int (1 : Int32))])) _
      refine XS.goto X88.here hx rfl (pc0 := 169) (pc' := 173) rfl (hb hby at_169) (by decide) (by decide) ?_
      show Steps p.tables e below (T88.setTop (mkF m 173 #[.val (.int p1), .val (.ref bB), .val (.int (14 : Int32)), .val (.int (0 : Int32))] [(.int (1 : Int32))])) _
      exact retN X88 hx (t := .boolean) Bd.returns (by simp) (hb hby at_173) hr
    · show own_Q0 n0 _ T88.heap _
      exact ⟨rfl, N88⟩
  · obtain ⟨cl89, Ar89, Q89, H89⟩ := own_at VB (j := (15 : Int32)) (v := (.ref w15)) (by decide) rfl
    obtain ⟨cq90, kq90, q90a, q90b, q90c⟩ := isOf hZ eU (E15.ext EXB)
    obtain ⟨_, _, ⟨T90, L90, k90, n90⟩, -, X90, ⟨Lc90, hQ90, l90, y90, z90⟩, st90⟩ := Y.virtualBack hx (y := (⟨"com/example/plimsoll/plimsoll/wire/SaspType", "isMessage", "()Z"⟩ : MethodName)) (z := (⟨"com/example/plimsoll/plimsoll/wire/SaspType", "isMessage", "()Z"⟩ : MethodName)) hown (mvT hZ (hw _ (List.mem_of_getElem? (i := 43) rfl))) (mvT hZ (hw _ (List.mem_of_getElem? (i := 44) rfl))) (notFace_of_selects (args := #[]) (mvT hZ (hw _ (List.mem_of_getElem? (i := 46) rfl)))) (mvT hZ (hw _ (List.mem_of_getElem? (i := 46) rfl))) (mvT hZ (hw _ (List.mem_of_getElem? (i := 45) rfl))) (by decide) (backOf (W := 0) (own_isMessage_15 l Z a0 hw [] w0 w1 w2 w3 w4 w5 w6 w7 w8 w9 w10 w11 w12 w13 w14 w15 w16 w17 w18 hB n0 ZB (own_P_ext P EXB)) hZ (hw _ (List.mem_of_getElem? (i := 47) rfl)) (hw _ (List.mem_of_getElem? (i := 3) rfl)) (by decide) (by decide)) q90a q90c (g := (mkF m 161 #[.val (.int p1), .val (.ref bB), .val (.int (15 : Int32)), .val (.int (0 : Int32))] [(.ref w15)])) rfl (by rw [hml]; rfl) (Steps.refl _) (argsL := []) (rest := []) (lenOf pd___Z rfl) rfl (by show 2 * 0 + _ ≤ _; exact Nat.le_of_eq rfl) (hb hby at_161) (fun _ _ => ⟨rfl, eU, (by decide : 1 + 0 ≤ _), (by decide : 19 + 0 ≤ _)⟩)
    dsimp only [Pt.U, Pt.locs, Pt.cells, Pt.slots] at X90 l90 y90 z90 st90 hQ90
    subst l90 y90 z90
    obtain ⟨rfl, N90q, e90⟩ := hQ90
    have N90 := Fr.app NU N90q
    obtain ⟨fs, hr, hrun, hended, hW, hsame⟩ := X90.leave (v := some (.int (1 : Int32))) (fun h => by rw [Bd.returns] at h; cases h)
    refine ⟨_, _, pre0 _ (thru _ ?_), hrun, hended, _, _, rfl, ?_, ⟨_, rfl⟩, hW, hsame.mono (by decide) (by decide)⟩
    · show Steps p.tables e below (U.setTop (mkF m 133 #[.val (.int p1), .val (.ref bB), .unset, .unset] [])) _
      refine XS.iloadN Y.here hx rfl (hb hby at_133) rfl ?_
      show Steps p.tables e below (U.setTop (mkF m 134 #[.val (.int p1), .val (.ref bB), .unset, .unset] [(.int p1)])) _
      refine Jvm.Stand.ldcI Y hx hown (mvT hZ (hw _ (List.mem_of_getElem? (i := 42) rfl))) rfl (hb hby at_134) ?_
      show Steps p.tables e below (U.setTop (mkF m 136 #[.val (.int p1), .val (.ref bB), .unset, .unset] [(.int (2147483647 : Int32)), (.int p1)])) _
      refine XS.iand Y.here hx rfl (hb hby at_136) rfl ?_
      show Steps p.tables e below (U.setTop (mkF m 137 #[.val (.int p1), .val (.ref bB), .unset, .unset] [(.int (p1 &&& (2147483647 : Int32)))])) _
      refine XT.bipushV Y.here hx rfl (19 : Int32) (hb hby at_137) (by decide) ?_
      show Steps p.tables e below (U.setTop (mkF m 139 #[.val (.int p1), .val (.ref bB), .unset, .unset] [(.int (19 : Int32)), (.int (p1 &&& (2147483647 : Int32)))])) _
      refine iremM Y hx rfl (hb hby at_139) rfl (by decide) ?_
      show Steps p.tables e below (U.setTop (mkF m 140 #[.val (.int p1), .val (.ref bB), .unset, .unset] [(.int ((p1 &&& (2147483647 : Int32)) % (19 : Int32)))])) _
      rw [hk]
      show Steps p.tables e below (U.setTop (mkF m 140 #[.val (.int p1), .val (.ref bB), .unset, .unset] [(.int (15 : Int32))])) _
      refine XS.istoreN Y.here hx rfl (hb hby at_140) rfl (l' := #[.val (.int p1), .val (.ref bB), .val (.int (15 : Int32)), .unset]) rfl ?_
      show Steps p.tables e below (U.setTop (mkF m 141 #[.val (.int p1), .val (.ref bB), .val (.int (15 : Int32)), .unset] [])) _
      refine XS.iloadN Y.here hx rfl (hb hby at_141) rfl ?_
      show Steps p.tables e below (U.setTop (mkF m 142 #[.val (.int p1), .val (.ref bB), .val (.int (15 : Int32)), .unset] [(.int (15 : Int32))])) _
      refine XT.iconstV Y.here hx rfl (1 : Int32) (hb hby at_142) rfl ?_
      show Steps p.tables e below (U.setTop (mkF m 143 #[.val (.int p1), .val (.ref bB), .val (.int (15 : Int32)), .unset] [(.int (1 : Int32)), (.int (15 : Int32))])) _
      refine XS.icmpNo Y.here hx rfl (hb hby at_143) rfl (by decide) ?_
      show Steps p.tables e below (U.setTop (mkF m 146 #[.val (.int p1), .val (.ref bB), .val (.int (15 : Int32)), .unset] [])) _
      refine XS.iloadN Y.here hx rfl (hb hby at_146) rfl ?_
      show Steps p.tables e below (U.setTop (mkF m 147 #[.val (.int p1), .val (.ref bB), .val (.int (15 : Int32)), .unset] [(.int (15 : Int32))])) _
      refine XT.bipushV Y.here hx rfl (11 : Int32) (hb hby at_147) (by decide) ?_
      show Steps p.tables e below (U.setTop (mkF m 149 #[.val (.int p1), .val (.ref bB), .val (.int (15 : Int32)), .unset] [(.int (11 : Int32)), (.int (15 : Int32))])) _
      refine XS.icmpYes Y.here hx rfl (pc0 := 149) (pc' := 156) rfl (hb hby at_149) rfl (by decide) (by decide) (by decide) ?_
      show Steps p.tables e below (U.setTop (mkF m 156 #[.val (.int p1), .val (.ref bB), .val (.int (15 : Int32)), .unset] [])) _
      refine XT.iconstV Y.here hx rfl (0 : Int32) (hb hby at_156) rfl ?_
      show Steps p.tables e below (U.setTop (mkF m 157 #[.val (.int p1), .val (.ref bB), .val (.int (15 : Int32)), .unset] [(.int (0 : Int32))])) _
      refine XS.istoreN Y.here hx rfl (hb hby at_157) rfl (l' := #[.val (.int p1), .val (.ref bB), .val (.int (15 : Int32)), .val (.int (0 : Int32))]) rfl ?_
      show Steps p.tables e below (U.setTop (mkF m 158 #[.val (.int p1), .val (.ref bB), .val (.int (15 : Int32)), .val (.int (0 : Int32))] [])) _
      refine XS.aloadN Y.here hx rfl (hb hby at_158) rfl rfl ?_
      show Steps p.tables e below (U.setTop (mkF m 159 #[.val (.int p1), .val (.ref bB), .val (.int (15 : Int32)), .val (.int (0 : Int32))] [(.ref bB)])) _
      refine XS.iloadN Y.here hx rfl (hb hby at_159) rfl ?_
      show Steps p.tables e below (U.setTop (mkF m 160 #[.val (.int p1), .val (.ref bB), .val (.int (15 : Int32)), .val (.int (0 : Int32))] [(.int (15 : Int32)), (.ref bB)])) _
      refine Y.aaload hx (j := (15 : Int32)) (v := (.ref w15)) (by rw [eU]; exact Ar89.1) (State.isArrayOf_alike hZ.alike Ar89.2.1) rfl Ar89.2.2 Q89 H89 (g := (mkF m 160 #[.val (.int p1), .val (.ref bB), .val (.int (15 : Int32)), .val (.int (0 : Int32))] [(.int (15 : Int32)), (.ref bB)])) rfl rfl (hb hby at_160) _ ?_
      show Steps p.tables e below (U.setTop (mkF m 161 #[.val (.int p1), .val (.ref bB), .val (.int (15 : Int32)), .val (.int (0 : Int32))] [(.ref w15)])) _
      refine st90.trans ?_
      show Steps p.tables e below (T90.setTop (mkF m 164 #[.val (.int p1), .val (.ref bB), .val (.int (15 : Int32)), .val (.int (0 : Int32))] [(.int (0 : Int32))])) _
      refine XS.iloadN X90.here hx rfl (hb hby at_164) rfl ?_
      show Steps p.tables e below (T90.setTop (mkF m 165 #[.val (.int p1), .val (.ref bB), .val (.int (15 : Int32)), .val (.int (0 : Int32))] [(.int (0 : Int32)), (.int (0 : Int32))])) _
      refine XS.icmpNo X90.here hx rfl (hb hby at_165) rfl (by decide) ?_
      show Steps p.tables e below (T90.setTop (mkF m 168 #[.val (.int p1), .val (.ref bB), .val (.int (15 : Int32)), .val (.int (0 : Int32))] [])) _
      refine XT.iconstV X90.here hx rfl (1 : Int32) (hb hby at_168) rfl ?_
      show Steps p.tables e below (T90.setTop (mkF m 169 #[.val (.int p1), .val (.ref bB), .val (.int (15 : Int32)), .val (.int (0 : Int32))] [(.int (1 : Int32))])) _
      refine XS.goto X90.here hx rfl (pc0 := 169) (pc' := 173) rfl (hb hby at_169) (by decide) (by decide) ?_
      show Steps p.tables e below (T90.setTop (mkF m 173 #[.val (.int p1), .val (.ref bB), .val (.int (15 : Int32)), .val (.int (0 : Int32))] [(.int (1 : Int32))])) _
      exact retN X90 hx (t := .boolean) Bd.returns (by simp) (hb hby at_173) hr
    · show own_Q0 n0 _ T90.heap _
      exact ⟨rfl, N90⟩
  · obtain ⟨cl91, Ar91, Q91, H91⟩ := own_at VB (j := (16 : Int32)) (v := (.ref w16)) (by decide) rfl
    obtain ⟨cq92, kq92, q92a, q92b, q92c⟩ := isOf hZ eU (E16.ext EXB)
    obtain ⟨_, _, ⟨T92, L92, k92, n92⟩, -, X92, ⟨Lc92, hQ92, l92, y92, z92⟩, st92⟩ := Y.virtualBack hx (y := (⟨"com/example/plimsoll/plimsoll/wire/SaspType", "isMessage", "()Z"⟩ : MethodName)) (z := (⟨"com/example/plimsoll/plimsoll/wire/SaspType", "isMessage", "()Z"⟩ : MethodName)) hown (mvT hZ (hw _ (List.mem_of_getElem? (i := 43) rfl))) (mvT hZ (hw _ (List.mem_of_getElem? (i := 44) rfl))) (notFace_of_selects (args := #[]) (mvT hZ (hw _ (List.mem_of_getElem? (i := 46) rfl)))) (mvT hZ (hw _ (List.mem_of_getElem? (i := 46) rfl))) (mvT hZ (hw _ (List.mem_of_getElem? (i := 45) rfl))) (by decide) (backOf (W := 0) (own_isMessage_16 l Z a0 hw [] w0 w1 w2 w3 w4 w5 w6 w7 w8 w9 w10 w11 w12 w13 w14 w15 w16 w17 w18 hB n0 ZB (own_P_ext P EXB)) hZ (hw _ (List.mem_of_getElem? (i := 47) rfl)) (hw _ (List.mem_of_getElem? (i := 3) rfl)) (by decide) (by decide)) q92a q92c (g := (mkF m 161 #[.val (.int p1), .val (.ref bB), .val (.int (16 : Int32)), .val (.int (0 : Int32))] [(.ref w16)])) rfl (by rw [hml]; rfl) (Steps.refl _) (argsL := []) (rest := []) (lenOf pd___Z rfl) rfl (by show 2 * 0 + _ ≤ _; exact Nat.le_of_eq rfl) (hb hby at_161) (fun _ _ => ⟨rfl, eU, (by decide : 1 + 0 ≤ _), (by decide : 19 + 0 ≤ _)⟩)
    dsimp only [Pt.U, Pt.locs, Pt.cells, Pt.slots] at X92 l92 y92 z92 st92 hQ92
    subst l92 y92 z92
    obtain ⟨rfl, N92q, e92⟩ := hQ92
    have N92 := Fr.app NU N92q
    obtain ⟨fs, hr, hrun, hended, hW, hsame⟩ := X92.leave (v := some (.int (1 : Int32))) (fun h => by rw [Bd.returns] at h; cases h)
    refine ⟨_, _, pre0 _ (thru _ ?_), hrun, hended, _, _, rfl, ?_, ⟨_, rfl⟩, hW, hsame.mono (by decide) (by decide)⟩
    · show Steps p.tables e below (U.setTop (mkF m 133 #[.val (.int p1), .val (.ref bB), .unset, .unset] [])) _
      refine XS.iloadN Y.here hx rfl (hb hby at_133) rfl ?_
      show Steps p.tables e below (U.setTop (mkF m 134 #[.val (.int p1), .val (.ref bB), .unset, .unset] [(.int p1)])) _
      refine Jvm.Stand.ldcI Y hx hown (mvT hZ (hw _ (List.mem_of_getElem? (i := 42) rfl))) rfl (hb hby at_134) ?_
      show Steps p.tables e below (U.setTop (mkF m 136 #[.val (.int p1), .val (.ref bB), .unset, .unset] [(.int (2147483647 : Int32)), (.int p1)])) _
      refine XS.iand Y.here hx rfl (hb hby at_136) rfl ?_
      show Steps p.tables e below (U.setTop (mkF m 137 #[.val (.int p1), .val (.ref bB), .unset, .unset] [(.int (p1 &&& (2147483647 : Int32)))])) _
      refine XT.bipushV Y.here hx rfl (19 : Int32) (hb hby at_137) (by decide) ?_
      show Steps p.tables e below (U.setTop (mkF m 139 #[.val (.int p1), .val (.ref bB), .unset, .unset] [(.int (19 : Int32)), (.int (p1 &&& (2147483647 : Int32)))])) _
      refine iremM Y hx rfl (hb hby at_139) rfl (by decide) ?_
      show Steps p.tables e below (U.setTop (mkF m 140 #[.val (.int p1), .val (.ref bB), .unset, .unset] [(.int ((p1 &&& (2147483647 : Int32)) % (19 : Int32)))])) _
      rw [hk]
      show Steps p.tables e below (U.setTop (mkF m 140 #[.val (.int p1), .val (.ref bB), .unset, .unset] [(.int (16 : Int32))])) _
      refine XS.istoreN Y.here hx rfl (hb hby at_140) rfl (l' := #[.val (.int p1), .val (.ref bB), .val (.int (16 : Int32)), .unset]) rfl ?_
      show Steps p.tables e below (U.setTop (mkF m 141 #[.val (.int p1), .val (.ref bB), .val (.int (16 : Int32)), .unset] [])) _
      refine XS.iloadN Y.here hx rfl (hb hby at_141) rfl ?_
      show Steps p.tables e below (U.setTop (mkF m 142 #[.val (.int p1), .val (.ref bB), .val (.int (16 : Int32)), .unset] [(.int (16 : Int32))])) _
      refine XT.iconstV Y.here hx rfl (1 : Int32) (hb hby at_142) rfl ?_
      show Steps p.tables e below (U.setTop (mkF m 143 #[.val (.int p1), .val (.ref bB), .val (.int (16 : Int32)), .unset] [(.int (1 : Int32)), (.int (16 : Int32))])) _
      refine XS.icmpNo Y.here hx rfl (hb hby at_143) rfl (by decide) ?_
      show Steps p.tables e below (U.setTop (mkF m 146 #[.val (.int p1), .val (.ref bB), .val (.int (16 : Int32)), .unset] [])) _
      refine XS.iloadN Y.here hx rfl (hb hby at_146) rfl ?_
      show Steps p.tables e below (U.setTop (mkF m 147 #[.val (.int p1), .val (.ref bB), .val (.int (16 : Int32)), .unset] [(.int (16 : Int32))])) _
      refine XT.bipushV Y.here hx rfl (11 : Int32) (hb hby at_147) (by decide) ?_
      show Steps p.tables e below (U.setTop (mkF m 149 #[.val (.int p1), .val (.ref bB), .val (.int (16 : Int32)), .unset] [(.int (11 : Int32)), (.int (16 : Int32))])) _
      refine XS.icmpYes Y.here hx rfl (pc0 := 149) (pc' := 156) rfl (hb hby at_149) rfl (by decide) (by decide) (by decide) ?_
      show Steps p.tables e below (U.setTop (mkF m 156 #[.val (.int p1), .val (.ref bB), .val (.int (16 : Int32)), .unset] [])) _
      refine XT.iconstV Y.here hx rfl (0 : Int32) (hb hby at_156) rfl ?_
      show Steps p.tables e below (U.setTop (mkF m 157 #[.val (.int p1), .val (.ref bB), .val (.int (16 : Int32)), .unset] [(.int (0 : Int32))])) _
      refine XS.istoreN Y.here hx rfl (hb hby at_157) rfl (l' := #[.val (.int p1), .val (.ref bB), .val (.int (16 : Int32)), .val (.int (0 : Int32))]) rfl ?_
      show Steps p.tables e below (U.setTop (mkF m 158 #[.val (.int p1), .val (.ref bB), .val (.int (16 : Int32)), .val (.int (0 : Int32))] [])) _
      refine XS.aloadN Y.here hx rfl (hb hby at_158) rfl rfl ?_
      show Steps p.tables e below (U.setTop (mkF m 159 #[.val (.int p1), .val (.ref bB), .val (.int (16 : Int32)), .val (.int (0 : Int32))] [(.ref bB)])) _
      refine XS.iloadN Y.here hx rfl (hb hby at_159) rfl ?_
      show Steps p.tables e below (U.setTop (mkF m 160 #[.val (.int p1), .val (.ref bB), .val (.int (16 : Int32)), .val (.int (0 : Int32))] [(.int (16 : Int32)), (.ref bB)])) _
      refine Y.aaload hx (j := (16 : Int32)) (v := (.ref w16)) (by rw [eU]; exact Ar91.1) (State.isArrayOf_alike hZ.alike Ar91.2.1) rfl Ar91.2.2 Q91 H91 (g := (mkF m 160 #[.val (.int p1), .val (.ref bB), .val (.int (16 : Int32)), .val (.int (0 : Int32))] [(.int (16 : Int32)), (.ref bB)])) rfl rfl (hb hby at_160) _ ?_
      show Steps p.tables e below (U.setTop (mkF m 161 #[.val (.int p1), .val (.ref bB), .val (.int (16 : Int32)), .val (.int (0 : Int32))] [(.ref w16)])) _
      refine st92.trans ?_
      show Steps p.tables e below (T92.setTop (mkF m 164 #[.val (.int p1), .val (.ref bB), .val (.int (16 : Int32)), .val (.int (0 : Int32))] [(.int (0 : Int32))])) _
      refine XS.iloadN X92.here hx rfl (hb hby at_164) rfl ?_
      show Steps p.tables e below (T92.setTop (mkF m 165 #[.val (.int p1), .val (.ref bB), .val (.int (16 : Int32)), .val (.int (0 : Int32))] [(.int (0 : Int32)), (.int (0 : Int32))])) _
      refine XS.icmpNo X92.here hx rfl (hb hby at_165) rfl (by decide) ?_
      show Steps p.tables e below (T92.setTop (mkF m 168 #[.val (.int p1), .val (.ref bB), .val (.int (16 : Int32)), .val (.int (0 : Int32))] [])) _
      refine XT.iconstV X92.here hx rfl (1 : Int32) (hb hby at_168) rfl ?_
      show Steps p.tables e below (T92.setTop (mkF m 169 #[.val (.int p1), .val (.ref bB), .val (.int (16 : Int32)), .val (.int (0 : Int32))] [(.int (1 : Int32))])) _
      refine XS.goto X92.here hx rfl (pc0 := 169) (pc' := 173) rfl (hb hby at_169) (by decide) (by decide) ?_
      show Steps p.tables e below (T92.setTop (mkF m 173 #[.val (.int p1), .val (.ref bB), .val (.int (16 : Int32)), .val (.int (0 : Int32))] [(.int (1 : Int32))])) _
      exact retN X92 hx (t := .boolean) Bd.returns (by simp) (hb hby at_173) hr
    · show own_Q0 n0 _ T92.heap _
      exact ⟨rfl, N92⟩
  · obtain ⟨cl93, Ar93, Q93, H93⟩ := own_at VB (j := (17 : Int32)) (v := (.ref w17)) (by decide) rfl
    obtain ⟨cq94, kq94, q94a, q94b, q94c⟩ := isOf hZ eU (E17.ext EXB)
    obtain ⟨_, _, ⟨T94, L94, k94, n94⟩, -, X94, ⟨Lc94, hQ94, l94, y94, z94⟩, st94⟩ := Y.virtualBack hx (y := (⟨"com/example/plimsoll/plimsoll/wire/SaspType", "isMessage", "()Z"⟩ : MethodName)) (z := (⟨"com/example/plimsoll/plimsoll/wire/SaspType", "isMessage", "()Z"⟩ : MethodName)) hown (mvT hZ (hw _ (List.mem_of_getElem? (i := 43) rfl))) (mvT hZ (hw _ (List.mem_of_getElem? (i := 44) rfl))) (notFace_of_selects (args := #[]) (mvT hZ (hw _ (List.mem_of_getElem? (i := 46) rfl)))) (mvT hZ (hw _ (List.mem_of_getElem? (i := 46) rfl))) (mvT hZ (hw _ (List.mem_of_getElem? (i := 45) rfl))) (by decide) (backOf (W := 0) (own_isMessage_17 l Z a0 hw [] w0 w1 w2 w3 w4 w5 w6 w7 w8 w9 w10 w11 w12 w13 w14 w15 w16 w17 w18 hB n0 ZB (own_P_ext P EXB)) hZ (hw _ (List.mem_of_getElem? (i := 47) rfl)) (hw _ (List.mem_of_getElem? (i := 3) rfl)) (by decide) (by decide)) q94a q94c (g := (mkF m 161 #[.val (.int p1), .val (.ref bB), .val (.int (17 : Int32)), .val (.int (0 : Int32))] [(.ref w17)])) rfl (by rw [hml]; rfl) (Steps.refl _) (argsL := []) (rest := []) (lenOf pd___Z rfl) rfl (by show 2 * 0 + _ ≤ _; exact Nat.le_of_eq rfl) (hb hby at_161) (fun _ _ => ⟨rfl, eU, (by decide : 1 + 0 ≤ _), (by decide : 19 + 0 ≤ _)⟩)
    dsimp only [Pt.U, Pt.locs, Pt.cells, Pt.slots] at X94 l94 y94 z94 st94 hQ94
    subst l94 y94 z94
    obtain ⟨rfl, N94q, e94⟩ := hQ94
    have N94 := Fr.app NU N94q
    obtain ⟨fs, hr, hrun, hended, hW, hsame⟩ := X94.leave (v := some (.int (1 : Int32))) (fun h => by rw [Bd.returns] at h; cases h)
    refine ⟨_, _, pre0 _ (thru _ ?_), hrun, hended, _, _, rfl, ?_, ⟨_, rfl⟩, hW, hsame.mono (by decide) (by decide)⟩
    · show Steps p.tables e below (U.setTop (mkF m 133 #[.val (.int p1), .val (.ref bB), .unset, .unset] [])) _
      refine XS.iloadN Y.here hx rfl (hb hby at_133) rfl ?_
      show Steps p.tables e below (U.setTop (mkF m 134 #[.val (.int p1), .val (.ref bB), .unset, .unset] [(.int p1)])) _
      refine Jvm.Stand.ldcI Y hx hown (mvT hZ (hw _ (List.mem_of_getElem? (i := 42) rfl))) rfl (hb hby at_134) ?_
      show Steps p.tables e below (U.setTop (mkF m 136 #[.val (.int p1), .val (.ref bB), .unset, .unset] [(.int (2147483647 : Int32)), (.int p1)])) _
      refine XS.iand Y.here hx rfl (hb hby at_136) rfl ?_
      show Steps p.tables e below (U.setTop (mkF m 137 #[.val (.int p1), .val (.ref bB), .unset, .unset] [(.int (p1 &&& (2147483647 : Int32)))])) _
      refine XT.bipushV Y.here hx rfl (19 : Int32) (hb hby at_137) (by decide) ?_
      show Steps p.tables e below (U.setTop (mkF m 139 #[.val (.int p1), .val (.ref bB), .unset, .unset] [(.int (19 : Int32)), (.int (p1 &&& (2147483647 : Int32)))])) _
      refine iremM Y hx rfl (hb hby at_139) rfl (by decide) ?_
      show Steps p.tables e below (U.setTop (mkF m 140 #[.val (.int p1), .val (.ref bB), .unset, .unset] [(.int ((p1 &&& (2147483647 : Int32)) % (19 : Int32)))])) _
      rw [hk]
      show Steps p.tables e below (U.setTop (mkF m 140 #[.val (.int p1), .val (.ref bB), .unset, .unset] [(.int (17 : Int32))])) _
      refine XS.istoreN Y.here hx rfl (hb hby at_140) rfl (l' := #[.val (.int p1), .val (.ref bB), .val (.int (17 : Int32)), .unset]) rfl ?_
      show Steps p.tables e below (U.setTop (mkF m 141 #[.val (.int p1), .val (.ref bB), .val (.int (17 : Int32)), .unset] [])) _
      refine XS.iloadN Y.here hx rfl (hb hby at_141) rfl ?_
      show Steps p.tables e below (U.setTop (mkF m 142 #[.val (.int p1), .val (.ref bB), .val (.int (17 : Int32)), .unset] [(.int (17 : Int32))])) _
      refine XT.iconstV Y.here hx rfl (1 : Int32) (hb hby at_142) rfl ?_
      show Steps p.tables e below (U.setTop (mkF m 143 #[.val (.int p1), .val (.ref bB), .val (.int (17 : Int32)), .unset] [(.int (1 : Int32)), (.int (17 : Int32))])) _
      refine XS.icmpNo Y.here hx rfl (hb hby at_143) rfl (by decide) ?_
      show Steps p.tables e below (U.setTop (mkF m 146 #[.val (.int p1), .val (.ref bB), .val (.int (17 : Int32)), .unset] [])) _
      refine XS.iloadN Y.here hx rfl (hb hby at_146) rfl ?_
      show Steps p.tables e below (U.setTop (mkF m 147 #[.val (.int p1), .val (.ref bB), .val (.int (17 : Int32)), .unset] [(.int (17 : Int32))])) _
      refine XT.bipushV Y.here hx rfl (11 : Int32) (hb hby at_147) (by decide) ?_
      show Steps p.tables e below (U.setTop (mkF m 149 #[.val (.int p1), .val (.ref bB), .val (.int (17 : Int32)), .unset] [(.int (11 : Int32)), (.int (17 : Int32))])) _
      refine XS.icmpYes Y.here hx rfl (pc0 := 149) (pc' := 156) rfl (hb hby at_149) rfl (by decide) (by decide) (by decide) ?_
      show Steps p.tables e below (U.setTop (mkF m 156 #[.val (.int p1), .val (.ref bB), .val (.int (17 : Int32)), .unset] [])) _
      refine XT.iconstV Y.here hx rfl (0 : Int32) (hb hby at_156) rfl ?_
      show Steps p.tables e below (U.setTop (mkF m 157 #[.val (.int p1), .val (.ref bB), .val (.int (17 : Int32)), .unset] [(.int (0 : Int32))])) _
      refine XS.istoreN Y.here hx rfl (hb hby at_157) rfl (l' := #[.val (.int p1), .val (.ref bB), .val (.int (17 : Int32)), .val (.int (0 : Int32))]) rfl ?_
      show Steps p.tables e below (U.setTop (mkF m 158 #[.val (.int p1), .val (.ref bB), .val (.int (17 : Int32)), .val (.int (0 : Int32))] [])) _
      refine XS.aloadN Y.here hx rfl (hb hby at_158) rfl rfl ?_
      show Steps p.tables e below (U.setTop (mkF m 159 #[.val (.int p1), .val (.ref bB), .val (.int (17 : Int32)), .val (.int (0 : Int32))] [(.ref bB)])) _
      refine XS.iloadN Y.here hx rfl (hb hby at_159) rfl ?_
      show Steps p.tables e below (U.setTop (mkF m 160 #[.val (.int p1), .val (.ref bB), .val (.int (17 : Int32)), .val (.int (0 : Int32))] [(.int (17 : Int32)), (.ref bB)])) _
      refine Y.aaload hx (j := (17 : Int32)) (v := (.ref w17)) (by rw [eU]; exact Ar93.1) (State.isArrayOf_alike hZ.alike Ar93.2.1) rfl Ar93.2.2 Q93 H93 (g := (mkF m 160 #[.val (.int p1), .val (.ref bB), .val (.int (17 : Int32)), .val (.int (0 : Int32))] [(.int (17 : Int32)), (.ref bB)])) rfl rfl (hb hby at_160) _ ?_
      show Steps p.tables e below (U.setTop (mkF m 161 #[.val (.int p1), .val (.ref bB), .val (.int (17 : Int32)), .val (.int (0 : Int32))] [(.ref w17)])) _
      refine st94.trans ?_
      show Steps p.tables e below (T94.setTop (mkF m 164 #[.val (.int p1), .val (.ref bB), .val (.int (17 : Int32)), .val (.int (0 : Int32))] [(.int (0 : Int32))])) _
      refine XS.iloadN X94.here hx rfl (hb hby at_164) rfl ?_
      show Steps p.tables e below (T94.setTop (mkF m 165 #[.val (.int p1), .val (.ref bB), .val (.int (17 : Int32)), .val (.int (0 : Int32))] [(.int (0 : Int32)), (.int (0 : Int32))])) _
      refine XS.icmpNo X94.here hx rfl (hb hby at_165) rfl (by decide) ?_
      show Steps p.tables e below (T94.setTop (mkF m 168 #[.val (.int p1), .val (.ref bB), .val (.int (17 : Int32)), .val (.int (0 : Int32))] [])) _
      refine XT.iconstV X94.here hx rfl (1 : Int32) (hb hby at_168) rfl ?_
      show Steps p.tables e below (T94.setTop (mkF m 169 #[.val (.int p1), .val (.ref bB), .val (.int (17 : Int32)), .val (.int (0 : Int32))] [(.int (1 : Int32))])) _
      refine XS.goto X94.here hx rfl (pc0 := 169) (pc' := 173) rfl (hb hby at_169) (by decide) (by decide) ?_
      show Steps p.tables e below (T94.setTop (mkF m 173 #[.val (.int p1), .val (.ref bB), .val (.int (17 : Int32)), .val (.int (0 : Int32))] [(.int (1 : Int32))])) _
      exact retN X94 hx (t := .boolean) Bd.returns (by simp) (hb hby at_173) hr
    · show own_Q0 n0 _ T94.heap _
      exact ⟨rfl, N94⟩
  · obtain ⟨cl95, Ar95, Q95, H95⟩ := own_at VB (j := (18 : Int32)) (v := (.ref w18)) (by decide) rfl
    obtain ⟨cq96, kq96, q96a, q96b, q96c⟩ := isOf hZ eU (E18.ext EXB)
    obtain ⟨_, _, ⟨T96, L96, k96, n96⟩, -, X96, ⟨Lc96, hQ96, l96, y96, z96⟩, st96⟩ := Y.virtualBack hx (y := (⟨"com/example/plimsoll/plimsoll/wire/SaspType", "isMessage", "()Z"⟩ : MethodName)) (z := (⟨"com/example/plimsoll/plimsoll/wire/SaspType", "isMessage", "()Z"⟩ : MethodName)) hown (mvT hZ (hw _ (List.mem_of_getElem? (i := 43) rfl))) (mvT hZ (hw _ (List.mem_of_getElem? (i := 44) rfl))) (notFace_of_selects (args := #[]) (mvT hZ (hw _ (List.mem_of_getElem? (i := 46) rfl)))) (mvT hZ (hw _ (List.mem_of_getElem? (i := 46) rfl))) (mvT hZ (hw _ (List.mem_of_getElem? (i := 45) rfl))) (by decide) (backOf (W := 0) (own_isMessage_18 l Z a0 hw [] w0 w1 w2 w3 w4 w5 w6 w7 w8 w9 w10 w11 w12 w13 w14 w15 w16 w17 w18 hB n0 ZB (own_P_ext P EXB)) hZ (hw _ (List.mem_of_getElem? (i := 47) rfl)) (hw _ (List.mem_of_getElem? (i := 3) rfl)) (by decide) (by decide)) q96a q96c (g := (mkF m 161 #[.val (.int p1), .val (.ref bB), .val (.int (18 : Int32)), .val (.int (0 : Int32))] [(.ref w18)])) rfl (by rw [hml]; rfl) (Steps.refl _) (argsL := []) (rest := []) (lenOf pd___Z rfl) rfl (by show 2 * 0 + _ ≤ _; exact Nat.le_of_eq rfl) (hb hby at_161) (fun _ _ => ⟨rfl, eU, (by decide : 1 + 0 ≤ _), (by decide : 19 + 0 ≤ _)⟩)
    dsimp only [Pt.U, Pt.locs, Pt.cells, Pt.slots] at X96 l96 y96 z96 st96 hQ96
    subst l96 y96 z96
    obtain ⟨rfl, N96q, e96⟩ := hQ96
    have N96 := Fr.app NU N96q
    obtain ⟨fs, hr, hrun, hended, hW, hsame⟩ := X96.leave (v := some (.int (1 : Int32))) (fun h => by rw [Bd.returns] at h; cases h)
    refine ⟨_, _, pre0 _ (thru _ ?_), hrun, hended, _, _, rfl, ?_, ⟨_, rfl⟩, hW, hsame.mono (by decide) (by decide)⟩
    · show Steps p.tables e below (U.setTop (mkF m 133 #[.val (.int p1), .val (.ref bB), .unset, .unset] [])) _
      refine XS.iloadN Y.here hx rfl (hb hby at_133) rfl ?_
      show Steps p.tables e below (U.setTop (mkF m 134 #[.val (.int p1), .val (.ref bB), .unset, .unset] [(.int p1)])) _
      refine Jvm.Stand.ldcI Y hx hown (mvT hZ (hw _ (List.mem_of_getElem? (i := 42) rfl))) rfl (hb hby at_134) ?_
      show Steps p.tables e below (U.setTop (mkF m 136 #[.val (.int p1), .val (.ref bB), .unset, .unset] [(.int (2147483647 : Int32)), (.int p1)])) _
      refine XS.iand Y.here hx rfl (hb hby at_136) rfl ?_
      show Steps p.tables e below (U.setTop (mkF m 137 #[.val (.int p1), .val (.ref bB), .unset, .unset] [(.int (p1 &&& (2147483647 : Int32)))])) _
      refine XT.bipushV Y.here hx rfl (19 : Int32) (hb hby at_137) (by decide) ?_
      show Steps p.tables e below (U.setTop (mkF m 139 #[.val (.int p1), .val (.ref bB), .unset, .unset] [(.int (19 : Int32)), (.int (p1 &&& (2147483647 : Int32)))])) _
      refine iremM Y hx rfl (hb hby at_139) rfl (by decide) ?_
      show Steps p.tables e below (U.setTop (mkF m 140 #[.val (.int p1), .val (.ref bB), .unset, .unset] [(.int ((p1 &&& (2147483647 : Int32)) % (19 : Int32)))])) _
      rw [hk]
      show Steps p.tables e below (U.setTop (mkF m 140 #[.val (.int p1), .val (.ref bB), .unset, .unset] [(.int (18 : Int32))])) _
      refine XS.istoreN Y.here hx rfl (hb hby at_140) rfl (l' := #[.val (.int p1), .val (.ref bB), .val (.int (18 : Int32)), .unset]) rfl ?_
      show Steps p.tables e below (U.setTop (mkF m 141 #[.val (.int p1), .val (.ref bB), .val (.int (18 : Int32)), .unset] [])) _
      refine XS.iloadN Y.here hx rfl (hb hby at_141) rfl ?_
      show Steps p.tables e below (U.setTop (mkF m 142 #[.val (.int p1), .val (.ref bB), .val (.int (18 : Int32)), .unset] [(.int (18 : Int32))])) _
      refine XT.iconstV Y.here hx rfl (1 : Int32) (hb hby at_142) rfl ?_
      show Steps p.tables e below (U.setTop (mkF m 143 #[.val (.int p1), .val (.ref bB), .val (.int (18 : Int32)), .unset] [(.int (1 : Int32)), (.int (18 : Int32))])) _
      refine XS.icmpNo Y.here hx rfl (hb hby at_143) rfl (by decide) ?_
      show Steps p.tables e below (U.setTop (mkF m 146 #[.val (.int p1), .val (.ref bB), .val (.int (18 : Int32)), .unset] [])) _
      refine XS.iloadN Y.here hx rfl (hb hby at_146) rfl ?_
      show Steps p.tables e below (U.setTop (mkF m 147 #[.val (.int p1), .val (.ref bB), .val (.int (18 : Int32)), .unset] [(.int (18 : Int32))])) _
      refine XT.bipushV Y.here hx rfl (11 : Int32) (hb hby at_147) (by decide) ?_
      show Steps p.tables e below (U.setTop (mkF m 149 #[.val (.int p1), .val (.ref bB), .val (.int (18 : Int32)), .unset] [(.int (11 : Int32)), (.int (18 : Int32))])) _
      refine XS.icmpYes Y.here hx rfl (pc0 := 149) (pc' := 156) rfl (hb hby at_149) rfl (by decide) (by decide) (by decide) ?_
      show Steps p.tables e below (U.setTop (mkF m 156 #[.val (.int p1), .val (.ref bB), .val (.int (18 : Int32)), .unset] [])) _
      refine XT.iconstV Y.here hx rfl (0 : Int32) (hb hby at_156) rfl ?_
      show Steps p.tables e below (U.setTop (mkF m 157 #[.val (.int p1), .val (.ref bB), .val (.int (18 : Int32)), .unset] [(.int (0 : Int32))])) _
      refine XS.istoreN Y.here hx rfl (hb hby at_157) rfl (l' := #[.val (.int p1), .val (.ref bB), .val (.int (18 : Int32)), .val (.int (0 : Int32))]) rfl ?_
      show Steps p.tables e below (U.setTop (mkF m 158 #[.val (.int p1), .val (.ref bB), .val (.int (18 : Int32)), .val (.int (0 : Int32))] [])) _
      refine XS.aloadN Y.here hx rfl (hb hby at_158) rfl rfl ?_
      show Steps p.tables e below (U.setTop (mkF m 159 #[.val (.int p1), .val (.ref bB), .val (.int (18 : Int32)), .val (.int (0 : Int32))] [(.ref bB)])) _
      refine XS.iloadN Y.here hx rfl (hb hby at_159) rfl ?_
      show Steps p.tables e below (U.setTop (mkF m 160 #[.val (.int p1), .val (.ref bB), .val (.int (18 : Int32)), .val (.int (0 : Int32))] [(.int (18 : Int32)), (.ref bB)])) _
      refine Y.aaload hx (j := (18 : Int32)) (v := (.ref w18)) (by rw [eU]; exact Ar95.1) (State.isArrayOf_alike hZ.alike Ar95.2.1) rfl Ar95.2.2 Q95 H95 (g := (mkF m 160 #[.val (.int p1), .val (.ref bB), .val (.int (18 : Int32)), .val (.int (0 : Int32))] [(.int (18 : Int32)), (.ref bB)])) rfl rfl (hb hby at_160) _ ?_
      show Steps p.tables e below (U.setTop (mkF m 161 #[.val (.int p1), .val (.ref bB), .val (.int (18 : Int32)), .val (.int (0 : Int32))] [(.ref w18)])) _
      refine st96.trans ?_
      show Steps p.tables e below (T96.setTop (mkF m 164 #[.val (.int p1), .val (.ref bB), .val (.int (18 : Int32)), .val (.int (0 : Int32))] [(.int (0 : Int32))])) _
      refine XS.iloadN X96.here hx rfl (hb hby at_164) rfl ?_
      show Steps p.tables e below (T96.setTop (mkF m 165 #[.val (.int p1), .val (.ref bB), .val (.int (18 : Int32)), .val (.int (0 : Int32))] [(.int (0 : Int32)), (.int (0 : Int32))])) _
      refine XS.icmpNo X96.here hx rfl (hb hby at_165) rfl (by decide) ?_
      show Steps p.tables e below (T96.setTop (mkF m 168 #[.val (.int p1), .val (.ref bB), .val (.int (18 : Int32)), .val (.int (0 : Int32))] [])) _
      refine XT.iconstV X96.here hx rfl (1 : Int32) (hb hby at_168) rfl ?_
      show Steps p.tables e below (T96.setTop (mkF m 169 #[.val (.int p1), .val (.ref bB), .val (.int (18 : Int32)), .val (.int (0 : Int32))] [(.int (1 : Int32))])) _
      refine XS.goto X96.here hx rfl (pc0 := 169) (pc' := 173) rfl (hb hby at_169) (by decide) (by decide) ?_
      show Steps p.tables e below (T96.setTop (mkF m 173 #[.val (.int p1), .val (.ref bB), .val (.int (18 : Int32)), .val (.int (0 : Int32))] [(.int (1 : Int32))])) _
      exact retN X96 hx (t := .boolean) Bd.returns (by simp) (hb hby at_173) hr
    · show own_Q0 n0 _ T96.heap _
      exact ⟨rfl, N96⟩
set_option maxRecDepth 65536 in
set_option maxHeartbeats 40000000 in
theorem comes_1 {Post : Tables → Env → Array Value → State → Outcome → State → Prop} (hpost : ∀ tb e args s v u, (limb_1_1.after args s (.returned v) u = true ∧ limb_1_2.after args s (.returned v) u = true ∧ True) → FrameEnd s (.returned v) u (Jvm.fieldLocs frame_1_writes args s ++ Jvm.arrayLocs frame_1_arrays args s ++ Jvm.staticLocs frame_1_statics s) 16 128 → Post tb e args s (.returned v) u) :
    ArmFor flags0 classFile x code maxLocals ret World_1 tables_1 room_1 Calls_1 rest_1 Pre_1 Post := by
  intro l hfl _ _ p e ha hc hk s m args below hf hA hF happ hP
  obtain ⟨hcalls, hrest, hpre⟩ := hP
  obtain ⟨-, -, -, hnamed, -, -, -, hat⟩ := (Spec.applies_iff hf).mp happ
  obtain ⟨hg, hn⟩ := and_e (Cond.before_iff.mp (show (Jvm.Cond.and given_1 narrow_1).before args s = true from hpre))
  obtain ⟨gg, gr⟩ := and_e hg
  obtain ⟨a0, rfl⟩ : ∃ a0 : Value, args = #[a0] := by
    have hs : args.size = 1 := by simpa [Cond.value, given_1] using gg
    obtain ⟨L⟩ := args
    match L, hs with
    | [a0], _ => exact ⟨a0, rfl⟩
  have hw := fun d (hd : d ∈ tables_1) => atoms_spec (ws := Jvm.Cond.code x code maxLocals ret :: tables_1) hat d (List.mem_cons_of_mem _ hd)
  have hfit : Fit s := fun {y c} hc i hi => by
    obtain ⟨ha, rfl⟩ := Array.getElem?_eq_some_iff.mp hc
    have q := List.all_eq_true.mp ((Array.all_eq_true_iff_forall_mem.mp hF) _ (Array.getElem_mem ha)) i (List.mem_range.mpr hi)
    simpa [Array.getElem?_eq_getElem hi] using q
  obtain ⟨i0, ei0⟩ := is_v gr
  obtain rfl : a0 = (.int i0) := Option.some.inj ei0
  obtain ⟨c0, r0⟩ := and_e hn
  obtain ⟨c1, r1⟩ := and_e r0
  obtain ⟨c2, r2⟩ := and_e r1
  obtain ⟨c3, r3⟩ := and_e r2
  obtain ⟨c4, r4⟩ := and_e r3
  obtain ⟨c5, r5⟩ := and_e r4
  obtain ⟨c6, r6⟩ := and_e r5
  obtain ⟨c7, r7⟩ := and_e r6
  obtain ⟨c8, r8⟩ := and_e r7
  obtain ⟨c9, r9⟩ := and_e r8
  obtain ⟨c10, r10⟩ := and_e r9
  obtain ⟨c11, r11⟩ := and_e r10
  obtain ⟨c12, r12⟩ := and_e r11
  obtain ⟨c13, r13⟩ := and_e r12
  obtain ⟨c14, r14⟩ := and_e r13
  obtain ⟨c15, r15⟩ := and_e r14
  obtain ⟨c16, r16⟩ := and_e r15
  obtain ⟨c17, r17⟩ := and_e r16
  obtain ⟨c18, r18⟩ := and_e r17
  obtain ⟨c19, r19⟩ := and_e r18
  obtain ⟨c20, r20⟩ := and_e r19
  obtain ⟨c21, r21⟩ := and_e r20
  obtain ⟨c22, r22⟩ := and_e r21
  obtain ⟨c23, r23⟩ := and_e r22
  obtain ⟨c24, r24⟩ := and_e r23
  obtain ⟨c25, r25⟩ := and_e r24
  obtain ⟨c26, r26⟩ := and_e r25
  obtain ⟨c27, r27⟩ := and_e r26
  obtain ⟨c28, r28⟩ := and_e r27
  obtain ⟨c29, r29⟩ := and_e r28
  obtain ⟨c30, r30⟩ := and_e r29
  obtain ⟨c31, r31⟩ := and_e r30
  obtain ⟨c32, r32⟩ := and_e r31
  obtain ⟨c33, r33⟩ := and_e r32
  obtain ⟨c34, r34⟩ := and_e r33
  obtain ⟨c35, r35⟩ := and_e r34
  obtain ⟨c36, r36⟩ := and_e r35
  obtain ⟨w0, v0⟩ := exa_v c0
  have E0 := Exa.start v0 c0
  have S0 := Sta.start v0 (Or.inr ⟨(hw _ (List.mem_of_getElem? (i := 3) rfl)), (hw _ (List.mem_of_getElem? (i := 4) rfl))⟩)
  obtain ⟨w1, v1⟩ := exa_v c1
  have E1 := Exa.start v1 c1
  have S1 := Sta.start v1 (Or.inr ⟨(hw _ (List.mem_of_getElem? (i := 3) rfl)), (hw _ (List.mem_of_getElem? (i := 7) rfl))⟩)
  obtain ⟨w2, v2⟩ := exa_v c2
  have E2 := Exa.start v2 c2
  have S2 := Sta.start v2 (Or.inr ⟨(hw _ (List.mem_of_getElem? (i := 3) rfl)), (hw _ (List.mem_of_getElem? (i := 9) rfl))⟩)
  obtain ⟨w3, v3⟩ := exa_v c3
  have E3 := Exa.start v3 c3
  have S3 := Sta.start v3 (Or.inr ⟨(hw _ (List.mem_of_getElem? (i := 3) rfl)), (hw _ (List.mem_of_getElem? (i := 11) rfl))⟩)
  obtain ⟨w4, v4⟩ := exa_v c4
  have E4 := Exa.start v4 c4
  have S4 := Sta.start v4 (Or.inr ⟨(hw _ (List.mem_of_getElem? (i := 3) rfl)), (hw _ (List.mem_of_getElem? (i := 13) rfl))⟩)
  obtain ⟨w5, v5⟩ := exa_v c5
  have E5 := Exa.start v5 c5
  have S5 := Sta.start v5 (Or.inr ⟨(hw _ (List.mem_of_getElem? (i := 3) rfl)), (hw _ (List.mem_of_getElem? (i := 15) rfl))⟩)
  obtain ⟨w6, v6⟩ := exa_v c6
  have E6 := Exa.start v6 c6
  have S6 := Sta.start v6 (Or.inr ⟨(hw _ (List.mem_of_getElem? (i := 3) rfl)), (hw _ (List.mem_of_getElem? (i := 17) rfl))⟩)
  obtain ⟨w7, v7⟩ := exa_v c7
  have E7 := Exa.start v7 c7
  have S7 := Sta.start v7 (Or.inr ⟨(hw _ (List.mem_of_getElem? (i := 3) rfl)), (hw _ (List.mem_of_getElem? (i := 19) rfl))⟩)
  obtain ⟨w8, v8⟩ := exa_v c8
  have E8 := Exa.start v8 c8
  have S8 := Sta.start v8 (Or.inr ⟨(hw _ (List.mem_of_getElem? (i := 3) rfl)), (hw _ (List.mem_of_getElem? (i := 21) rfl))⟩)
  obtain ⟨w9, v9⟩ := exa_v c9
  have E9 := Exa.start v9 c9
  have S9 := Sta.start v9 (Or.inr ⟨(hw _ (List.mem_of_getElem? (i := 3) rfl)), (hw _ (List.mem_of_getElem? (i := 23) rfl))⟩)
  obtain ⟨w10, v10⟩ := exa_v c10
  have E10 := Exa.start v10 c10
  have S10 := Sta.start v10 (Or.inr ⟨(hw _ (List.mem_of_getElem? (i := 3) rfl)), (hw _ (List.mem_of_getElem? (i := 25) rfl))⟩)
  obtain ⟨w11, v11⟩ := exa_v c11
  have E11 := Exa.start v11 c11
  have S11 := Sta.start v11 (Or.inr ⟨(hw _ (List.mem_of_getElem? (i := 3) rfl)), (hw _ (List.mem_of_getElem? (i := 27) rfl))⟩)
  obtain ⟨w12, v12⟩ := exa_v c12
  have E12 := Exa.start v12 c12
  have S12 := Sta.start v12 (Or.inr ⟨(hw _ (List.mem_of_getElem? (i := 3) rfl)), (hw _ (List.mem_of_getElem? (i := 29) rfl))⟩)
  obtain ⟨w13, v13⟩ := exa_v c13
  have E13 := Exa.start v13 c13
  have S13 := Sta.start v13 (Or.inr ⟨(hw _ (List.mem_of_getElem? (i := 3) rfl)), (hw _ (List.mem_of_getElem? (i := 31) rfl))⟩)
  obtain ⟨w14, v14⟩ := exa_v c14
  have E14 := Exa.start v14 c14
  have S14 := Sta.start v14 (Or.inr ⟨(hw _ (List.mem_of_getElem? (i := 3) rfl)), (hw _ (List.mem_of_getElem? (i := 33) rfl))⟩)
  obtain ⟨w15, v15⟩ := exa_v c15
  have E15 := Exa.start v15 c15
  have S15 := Sta.start v15 (Or.inr ⟨(hw _ (List.mem_of_getElem? (i := 3) rfl)), (hw _ (List.mem_of_getElem? (i := 35) rfl))⟩)
  obtain ⟨w16, v16⟩ := exa_v c16
  have E16 := Exa.start v16 c16
  have S16 := Sta.start v16 (Or.inr ⟨(hw _ (List.mem_of_getElem? (i := 3) rfl)), (hw _ (List.mem_of_getElem? (i := 37) rfl))⟩)
  obtain ⟨w17, v17⟩ := exa_v c17
  have E17 := Exa.start v17 c17
  have S17 := Sta.start v17 (Or.inr ⟨(hw _ (List.mem_of_getElem? (i := 3) rfl)), (hw _ (List.mem_of_getElem? (i := 39) rfl))⟩)
  obtain ⟨w18, v18⟩ := exa_v c18
  have E18 := Exa.start v18 c18
  have S18 := Sta.start v18 (Or.inr ⟨(hw _ (List.mem_of_getElem? (i := 3) rfl)), (hw _ (List.mem_of_getElem? (i := 41) rfl))⟩)
  have F0_code := own_fldI v0 c19
  have F3_code := own_fldI v3 c20
  have F15_code := own_fldI v15 c21
  have F5_code := own_fldI v5 c22
  have F17_code := own_fldI v17 c23
  have F7_code := own_fldI v7 c24
  have F2_code := own_fldI v2 c25
  have F11_code := own_fldI v11 c26
  have F10_code := own_fldI v10 c27
  have F8_code := own_fldI v8 c28
  have F1_code := own_fldI v1 c29
  have F14_code := own_fldI v14 c30
  have F18_code := own_fldI v18 c31
  have F6_code := own_fldI v6 c32
  have F16_code := own_fldI v16 c33
  have F4_code := own_fldI v4 c34
  have F9_code := own_fldI v9 c35
  have F12_code := own_fldI v12 c36
  have F13_code := own_fldI v13 r36
  have P : own_P s s.heap w0 w1 w2 w3 w4 w5 w6 w7 w8 w9 w10 w11 w12 w13 w14 w15 w16 w17 w18 := ⟨S0, E0, F0_code, S1, E1, F1_code, S2, E2, F2_code, S3, E3, F3_code, S4, E4, F4_code, S5, E5, F5_code, S6, E6, F6_code, S7, E7, F7_code, S8, E8, F8_code, S9, E9, F9_code, S10, E10, F10_code, S11, E11, F11_code, S12, E12, F12_code, S13, E13, F13_code, S14, E14, F14_code, S15, E15, F15_code, S16, E16, F16_code, S17, E17, F17_code, S18, E18, F18_code⟩
  obtain ⟨n, o, h1, h2, h3, _, L, rfl, ⟨rfl, N⟩, hq⟩ := own_law l s _ hw tables_1 i0 w0 w1 w2 w3 w4 w5 w6 w7 w8 w9 w10 w11 w12 w13 w14 w15 w16 w17 w18 s.heap s.heap.size (Nat.le_refl _) P p e ha hc hk s m _ below hf ((Spec.applies_iff_loose hf).mp happ).1 ⟨rfl, State.Warmed39.refl s, rfl⟩ trivial
  refine ⟨n, _, h1, h2, h3, hpost _ _ _ _ _ _ ⟨Cond.after_iff.mpr rfl, Cond.after_iff.mpr (eq_i res_at (Term.int_eval (1)) rfl), trivial⟩ ⟨hq.1, hq.2.1, (hq.2.2.sift fun y hy => Or.inr (N y hy)).mono (by decide) (by decide)⟩⟩
theorem main_1_1 : Claimed_1_1 := comes_1 fun _ _ _ _ _ _ h hF => ⟨h.1, hF⟩
theorem main_1_2 : Claimed_1_2 := comes_1 fun _ _ _ _ _ _ h hF => ⟨h.2.1, hF⟩
end Jvm.Pilot.@@N@@
namespace Jvm.Pilot.@@N@@
open Jvm Jvm.ClassFile Sem Op Lib Jvm.Free Jvm.Stand Jvm.Pilot.@@N@@.Jvm.D
/-! MADE BY PROGRAM (witnessworld.py) out of the Statement's table words and the real class files: 13 classes; the members and pool entries that the words name. The judged class is class 1, her method 1. -/
namespace start1
open Jvm.ClassFile
def u (s : String) : CpInfo := .utf8 (stringToUtf16 s)
/-- a pool by its gaps: so many unusable entries, then the entry; so many at the end -/
def gap : Nat → List CpInfo → List CpInfo
  | 0, r => r
  | n + 1, r => .unusable :: gap n r
def poolList (es : List (Nat × CpInfo)) (last : Nat) : List CpInfo := es.foldr (fun e r => gap e.1 (e.2 :: r)) (gap last [])
def pool (es : List (Nat × CpInfo)) (last : Nat) : Array CpInfo := ⟨poolList es last⟩
def fileOf (pool : Array CpInfo) (this : Nat) (attrs : Array Attribute := #[]) (ms : Array MethodInfo := #[]) (fl : Nat := 33) (sup : Nat := 0) (ifs : Array Nat := #[]) (fds : Array FieldInfo := #[]) : ClassFile where
  minorVersion := 0
  majorVersion := 65
  constantPool := pool
  accessFlags := fl
  thisClass := this
  superClass := sup
  interfaces := ifs
  fields := fds
  methods := ms
  attributes := attrs
def plain (name : String) (sup : Option ClassId) : Class where
  name := name
  kind := .ordinary
  loader := none
  accessFlags := 33
  super := sup
  interfaces := #[]
  cf := none
  fields := #[]
  methods := #[]
  instanceTypes := #[]
  staticTypes := #[]
  resolved := #[]
  callSites := []
  init := .initialized
  statics := none
  mirror := none

def pool0 : Array CpInfo := pool [(5, u "<init>"), (0, u "()V"), (1, .class_ 10), (1, u "java/lang/Object")] 113

def k0m0 : Method := { name := "<init>", desc := "()V", sig := { parameters := [], returnType := none }, accessFlags := 1, code := none }
/-- java/lang/Object -/
def k0 : Class := { plain "java/lang/Object" none with
  accessFlags := 33
  interfaces := #[]
  cf := some (fileOf pool0 8 #[] #[{ accessFlags := 1, nameIndex := 5, descriptorIndex := 6, attributes := #[] }] 33 0 #[] #[])
  fields := #[]
  methods := #[k0m0]
  instanceTypes := #[]
  staticTypes := #[]
  resolved := Array.replicate 124 none
  statics := none }

def pool1 : Array CpInfo := pool [(2, .class_ 4), (1, u "java/lang/Object"), (0, u "<init>"), (0, u "()V"), (0, .class_ 8), (0, u "com/example/plimsoll/plimsoll/wire/SaspType"), (0, .fieldref 7 10), (0, .nameAndType 11 12), (0, u "HEADER"), (0, u "Lcom/example/plimsoll/plimsoll/wire/SaspType;"), (0, .fieldref 7 14), (0, .nameAndType 15 12), (0, u "REGISTRATION_REQUEST"), (0, .fieldref 7 17), (0, .nameAndType 18 12), (0, u "REGISTRATION_REPLY"), (0, .fieldref 7 20), (0, .nameAndType 21 12), (0, u "DEREGISTRATION_REQUEST"), (0, .fieldref 7 23), (0, .nameAndType 24 12), (0, u "DEREGISTRATION_REPLY"), (0, .fieldref 7 26), (0, .nameAndType 27 12), (0, u "GET_WEIGHTS_REQUEST"), (0, .fieldref 7 29), (0, .nameAndType 30 12), (0, u "GET_WEIGHTS_REPLY"), (0, .fieldref 7 32), (0, .nameAndType 33 12), (0, u "SEND_WEIGHTS"), (0, .fieldref 7 35), (0, .nameAndType 36 12), (0, u "SET_LB_STATE_REQUEST"), (0, .fieldref 7 38), (0, .nameAndType 39 12), (0, u "SET_LB_STATE_REPLY"), (0, .fieldref 7 41), (0, .nameAndType 42 12), (0, u "SET_MEMBER_STATE_REQUEST"), (0, .fieldref 7 44), (0, .nameAndType 45 12), (0, u "SET_MEMBER_STATE_REPLY"), (0, .fieldref 7 47), (0, .nameAndType 48 12), (0, u "MEMBER_DATA"), (0, .fieldref 7 50), (0, .nameAndType 51 12), (0, u "GROUP_DATA"), (0, .fieldref 7 53), (0, .nameAndType 54 12), (0, u "WEIGHT_ENTRY"), (0, .fieldref 7 56), (0, .nameAndType 57 12), (0, u "MEMBER_STATE_INSTANCE"), (0, .fieldref 7 59), (0, .nameAndType 60 12), (0, u "GROUP_OF_MEMBER_DATA"), (0, .fieldref 7 62), (0, .nameAndType 63 12), (0, u "GROUP_OF_WEIGHT_ENTRY_DATA"), (0, .fieldref 7 65), (0, .nameAndType 66 12), (0, u "GROUP_OF_MEMBER_STATE_DATA"), (0, .integer 2147483647), (0, .methodref 7 69), (0, .nameAndType 70 71), (0, u "isMessage"), (0, u "()Z"), (0, .class_ 73), (0, u "com/example/plimsoll/plimsoll/wire/SaspTypeIsMessagePinLaw"), (2, u "law"), (0, u "(I)Z")] 5

def k1m0 : Method := { name := "<init>", desc := "()V", sig := { parameters := [], returnType := none }, accessFlags := 1, code := none }
def k1c1 : Code := { maxStack := 4, maxLocals := 4, code := code, exceptionTable := #[], attributes := #[] }
def k1m1 : Method := { name := "law", desc := "(I)Z", sig := { parameters := [.int], returnType := some .boolean }, accessFlags := 9, code := some k1c1 }
/-- com/example/plimsoll/plimsoll/wire/SaspTypeIsMessagePinLaw -/
def k1 : Class := { plain "com/example/plimsoll/plimsoll/wire/SaspTypeIsMessagePinLaw" (some 0) with
  accessFlags := 49
  interfaces := #[]
  cf := some (fileOf pool1 72 #[] #[{ accessFlags := 1, nameIndex := 5, descriptorIndex := 6, attributes := #[] }, { accessFlags := 9, nameIndex := 76, descriptorIndex := 77, attributes := #[] }] 49 2 #[] #[])
  fields := #[]
  methods := #[k1m0, k1m1]
  instanceTypes := #[]
  staticTypes := #[]
  resolved := Array.replicate 83 none
  statics := none }

def pool2 : Array CpInfo := pool [(1, .class_ 2), (0, u "java/lang/constant/Constable"), (0, .class_ 4), (0, u "java/lang/Object")] 6

/-- java/lang/constant/Constable -/
def k2 : Class := { plain "java/lang/constant/Constable" (some 0) with
  accessFlags := 1537
  interfaces := #[]
  cf := some (fileOf pool2 1 #[] #[] 1537 3 #[] #[])
  fields := #[]
  methods := #[]
  instanceTypes := #[]
  staticTypes := #[]
  resolved := Array.replicate 11 none
  statics := none }

def pool3 : Array CpInfo := pool [(1, .class_ 2), (0, u "java/lang/Comparable"), (0, .class_ 4), (0, u "java/lang/Object")] 7

/-- java/lang/Comparable -/
def k3 : Class := { plain "java/lang/Comparable" (some 0) with
  accessFlags := 1537
  interfaces := #[]
  cf := some (fileOf pool3 1 #[] #[] 1537 3 #[] #[])
  fields := #[]
  methods := #[]
  instanceTypes := #[]
  staticTypes := #[]
  resolved := Array.replicate 12 none
  statics := none }

def pool4 : Array CpInfo := pool [(1, .class_ 2), (0, u "java/io/Serializable"), (0, .class_ 4), (0, u "java/lang/Object")] 2

/-- java/io/Serializable -/
def k4 : Class := { plain "java/io/Serializable" (some 0) with
  accessFlags := 1537
  interfaces := #[]
  cf := some (fileOf pool4 1 #[] #[] 1537 3 #[] #[])
  fields := #[]
  methods := #[]
  instanceTypes := #[]
  staticTypes := #[]
  resolved := Array.replicate 7 none
  statics := none }

def pool5 : Array CpInfo := pool [(2, .class_ 4), (1, u "java/lang/Enum"), (0, u "name"), (0, u "Ljava/lang/String;"), (2, u "ordinal"), (0, u "I"), (1, .class_ 14), (1, u "java/lang/Object"), (4, u "hash"), (86, .class_ 108), (1, u "java/lang/Enum$EnumDesc"), (2, .class_ 112), (0, u "java/lang/constant/Constable"), (0, .class_ 114), (0, u "java/lang/Comparable"), (0, .class_ 116), (0, u "java/io/Serializable")] 87

/-- java/lang/Enum -/
def k5 : Class := { plain "java/lang/Enum" (some 0) with
  accessFlags := 1057
  interfaces := #[2, 3, 4]
  cf := some (fileOf pool5 2 #[.nestMembers #[106]] #[] 1057 12 #[111, 113, 115] #[{ accessFlags := 18, nameIndex := 5, descriptorIndex := 6, attributes := #[] }, { accessFlags := 18, nameIndex := 9, descriptorIndex := 10, attributes := #[] }, { accessFlags := 2, nameIndex := 19, descriptorIndex := 10, attributes := #[] }])
  fields := #[{ name := "name", type := (.object "java/lang/String"), accessFlags := 18, slot := 0, constantValue := 0 }, { name := "ordinal", type := .int, accessFlags := 18, slot := 1, constantValue := 0 }, { name := "hash", type := .int, accessFlags := 2, slot := 2, constantValue := 0 }]
  methods := #[]
  instanceTypes := #[(.object "java/lang/String"), .int, .int]
  staticTypes := #[]
  resolved := Array.replicate 204 none
  statics := none }

def pool6 : Array CpInfo := pool [(1, .class_ 2), (0, u "com/example/plimsoll/plimsoll/wire/SaspType"), (2, u "HEADER"), (0, u "Lcom/example/plimsoll/plimsoll/wire/SaspType;"), (2, u "REGISTRATION_REQUEST"), (2, u "REGISTRATION_REPLY"), (2, u "DEREGISTRATION_REQUEST"), (2, u "DEREGISTRATION_REPLY"), (2, u "GET_WEIGHTS_REQUEST"), (2, u "GET_WEIGHTS_REPLY"), (2, u "SEND_WEIGHTS"), (2, u "SET_LB_STATE_REQUEST"), (2, u "SET_LB_STATE_REPLY"), (2, u "SET_MEMBER_STATE_REQUEST"), (2, u "SET_MEMBER_STATE_REPLY"), (2, u "MEMBER_DATA"), (2, u "GROUP_DATA"), (2, u "WEIGHT_ENTRY"), (2, u "MEMBER_STATE_INSTANCE"), (2, u "GROUP_OF_MEMBER_DATA"), (2, u "GROUP_OF_WEIGHT_ENTRY_DATA"), (2, u "GROUP_OF_MEMBER_STATE_DATA"), (2, u "$VALUES"), (0, u "[Lcom/example/plimsoll/plimsoll/wire/SaspType;"), (6, .class_ 73), (1, u "java/lang/Enum"), (6, .fieldref 1 81), (0, .nameAndType 82 83), (0, u "code"), (0, u "I"), (2, u "specName"), (0, u "Ljava/lang/String;"), (24, .integer 61440), (88, u "MESSAGE_CLASS"), (11, u "isMessage"), (0, u "()Z")] 33

def k6c0 : Code := { maxStack := 2, maxLocals := 1, code := prog_92_method_6_code, exceptionTable := #[], attributes := #[] }
def k6m0 : Method := { name := "isMessage", desc := "()Z", sig := { parameters := [], returnType := some .boolean }, accessFlags := 1, code := some k6c0 }
/-- com/example/plimsoll/plimsoll/wire/SaspType -/
def k6 : Class := { plain "com/example/plimsoll/plimsoll/wire/SaspType" (some 5) with
  accessFlags := 16433
  interfaces := #[]
  cf := some (fileOf pool6 1 #[] #[{ accessFlags := 1, nameIndex := 213, descriptorIndex := 214, attributes := #[] }] 16433 71 #[] #[{ accessFlags := 16409, nameIndex := 5, descriptorIndex := 6, attributes := #[] }, { accessFlags := 16409, nameIndex := 9, descriptorIndex := 6, attributes := #[] }, { accessFlags := 16409, nameIndex := 12, descriptorIndex := 6, attributes := #[] }, { accessFlags := 16409, nameIndex := 15, descriptorIndex := 6, attributes := #[] }, { accessFlags := 16409, nameIndex := 18, descriptorIndex := 6, attributes := #[] }, { accessFlags := 16409, nameIndex := 21, descriptorIndex := 6, attributes := #[] }, { accessFlags := 16409, nameIndex := 24, descriptorIndex := 6, attributes := #[] }, { accessFlags := 16409, nameIndex := 27, descriptorIndex := 6, attributes := #[] }, { accessFlags := 16409, nameIndex := 30, descriptorIndex := 6, attributes := #[] }, { accessFlags := 16409, nameIndex := 33, descriptorIndex := 6, attributes := #[] }, { accessFlags := 16409, nameIndex := 36, descriptorIndex := 6, attributes := #[] }, { accessFlags := 16409, nameIndex := 39, descriptorIndex := 6, attributes := #[] }, { accessFlags := 16409, nameIndex := 42, descriptorIndex := 6, attributes := #[] }, { accessFlags := 16409, nameIndex := 45, descriptorIndex := 6, attributes := #[] }, { accessFlags := 16409, nameIndex := 48, descriptorIndex := 6, attributes := #[] }, { accessFlags := 16409, nameIndex := 51, descriptorIndex := 6, attributes := #[] }, { accessFlags := 16409, nameIndex := 54, descriptorIndex := 6, attributes := #[] }, { accessFlags := 16409, nameIndex := 57, descriptorIndex := 6, attributes := #[] }, { accessFlags := 16409, nameIndex := 60, descriptorIndex := 6, attributes := #[] }, { accessFlags := 26, nameIndex := 201, descriptorIndex := 83, attributes := #[] }, { accessFlags := 18, nameIndex := 82, descriptorIndex := 83, attributes := #[] }, { accessFlags := 18, nameIndex := 86, descriptorIndex := 87, attributes := #[] }, { accessFlags := 4122, nameIndex := 63, descriptorIndex := 64, attributes := #[] }])
  fields := #[{ name := "HEADER", type := (.object "com/example/plimsoll/plimsoll/wire/SaspType"), accessFlags := 16409, slot := 0, constantValue := 0 }, { name := "REGISTRATION_REQUEST", type := (.object "com/example/plimsoll/plimsoll/wire/SaspType"), accessFlags := 16409, slot := 1, constantValue := 0 }, { name := "REGISTRATION_REPLY", type := (.object "com/example/plimsoll/plimsoll/wire/SaspType"), accessFlags := 16409, slot := 2, constantValue := 0 }, { name := "DEREGISTRATION_REQUEST", type := (.object "com/example/plimsoll/plimsoll/wire/SaspType"), accessFlags := 16409, slot := 3, constantValue := 0 }, { name := "DEREGISTRATION_REPLY", type := (.object "com/example/plimsoll/plimsoll/wire/SaspType"), accessFlags := 16409, slot := 4, constantValue := 0 }, { name := "GET_WEIGHTS_REQUEST", type := (.object "com/example/plimsoll/plimsoll/wire/SaspType"), accessFlags := 16409, slot := 5, constantValue := 0 }, { name := "GET_WEIGHTS_REPLY", type := (.object "com/example/plimsoll/plimsoll/wire/SaspType"), accessFlags := 16409, slot := 6, constantValue := 0 }, { name := "SEND_WEIGHTS", type := (.object "com/example/plimsoll/plimsoll/wire/SaspType"), accessFlags := 16409, slot := 7, constantValue := 0 }, { name := "SET_LB_STATE_REQUEST", type := (.object "com/example/plimsoll/plimsoll/wire/SaspType"), accessFlags := 16409, slot := 8, constantValue := 0 }, { name := "SET_LB_STATE_REPLY", type := (.object "com/example/plimsoll/plimsoll/wire/SaspType"), accessFlags := 16409, slot := 9, constantValue := 0 }, { name := "SET_MEMBER_STATE_REQUEST", type := (.object "com/example/plimsoll/plimsoll/wire/SaspType"), accessFlags := 16409, slot := 10, constantValue := 0 }, { name := "SET_MEMBER_STATE_REPLY", type := (.object "com/example/plimsoll/plimsoll/wire/SaspType"), accessFlags := 16409, slot := 11, constantValue := 0 }, { name := "MEMBER_DATA", type := (.object "com/example/plimsoll/plimsoll/wire/SaspType"), accessFlags := 16409, slot := 12, constantValue := 0 }, { name := "GROUP_DATA", type := (.object "com/example/plimsoll/plimsoll/wire/SaspType"), accessFlags := 16409, slot := 13, constantValue := 0 }, { name := "WEIGHT_ENTRY", type := (.object "com/example/plimsoll/plimsoll/wire/SaspType"), accessFlags := 16409, slot := 14, constantValue := 0 }, { name := "MEMBER_STATE_INSTANCE", type := (.object "com/example/plimsoll/plimsoll/wire/SaspType"), accessFlags := 16409, slot := 15, constantValue := 0 }, { name := "GROUP_OF_MEMBER_DATA", type := (.object "com/example/plimsoll/plimsoll/wire/SaspType"), accessFlags := 16409, slot := 16, constantValue := 0 }, { name := "GROUP_OF_WEIGHT_ENTRY_DATA", type := (.object "com/example/plimsoll/plimsoll/wire/SaspType"), accessFlags := 16409, slot := 17, constantValue := 0 }, { name := "GROUP_OF_MEMBER_STATE_DATA", type := (.object "com/example/plimsoll/plimsoll/wire/SaspType"), accessFlags := 16409, slot := 18, constantValue := 0 }, { name := "MESSAGE_CLASS", type := .int, accessFlags := 26, slot := 19, constantValue := 0 }, { name := "code", type := .int, accessFlags := 18, slot := 3, constantValue := 0 }, { name := "specName", type := (.object "java/lang/String"), accessFlags := 18, slot := 4, constantValue := 0 }, { name := "$VALUES", type := (.array (.object "com/example/plimsoll/plimsoll/wire/SaspType")), accessFlags := 4122, slot := 20, constantValue := 0 }]
  methods := #[k6m0]
  instanceTypes := #[(.object "java/lang/String"), .int, .int, .int, (.object "java/lang/String")]
  staticTypes := #[(.object "com/example/plimsoll/plimsoll/wire/SaspType"), (.object "com/example/plimsoll/plimsoll/wire/SaspType"), (.object "com/example/plimsoll/plimsoll/wire/SaspType"), (.object "com/example/plimsoll/plimsoll/wire/SaspType"), (.object "com/example/plimsoll/plimsoll/wire/SaspType"), (.object "com/example/plimsoll/plimsoll/wire/SaspType"), (.object "com/example/plimsoll/plimsoll/wire/SaspType"), (.object "com/example/plimsoll/plimsoll/wire/SaspType"), (.object "com/example/plimsoll/plimsoll/wire/SaspType"), (.object "com/example/plimsoll/plimsoll/wire/SaspType"), (.object "com/example/plimsoll/plimsoll/wire/SaspType"), (.object "com/example/plimsoll/plimsoll/wire/SaspType"), (.object "com/example/plimsoll/plimsoll/wire/SaspType"), (.object "com/example/plimsoll/plimsoll/wire/SaspType"), (.object "com/example/plimsoll/plimsoll/wire/SaspType"), (.object "com/example/plimsoll/plimsoll/wire/SaspType"), (.object "com/example/plimsoll/plimsoll/wire/SaspType"), (.object "com/example/plimsoll/plimsoll/wire/SaspType"), (.object "com/example/plimsoll/plimsoll/wire/SaspType"), .int, (.array (.object "com/example/plimsoll/plimsoll/wire/SaspType"))]
  resolved := Array.replicate 248 none
  statics := some 0 }

def pool7 : Array CpInfo := pool [(1, u "java/lang/Cloneable"), (0, .class_ 1), (0, u "java/lang/Object"), (0, .class_ 3)] 3

/-- java/lang/Cloneable -/
def k7 : Class := { plain "java/lang/Cloneable" (some 0) with
  accessFlags := 1537
  interfaces := #[]
  cf := some (fileOf pool7 2 #[] #[] 1537 4 #[] #[])
  fields := #[]
  methods := #[]
  instanceTypes := #[]
  staticTypes := #[]
  resolved := Array.replicate 8 none
  statics := none }

/-- the primitive byte -/
def k8 : Class := { plain "byte" none with kind := .primitive 'B', accessFlags := 0x411 }
/-- [B -/
def k9 : Class := { plain "[B" (some 0) with kind := .array 8 .byte, interfaces := #[7, 4], accessFlags := 1041 }

/-- the primitive int -/
def k10 : Class := { plain "int" none with kind := .primitive 'I', accessFlags := 0x411 }
/-- [I -/
def k11 : Class := { plain "[I" (some 0) with kind := .array 10 .int, interfaces := #[7, 4], accessFlags := 1041 }

/-- [Lcom/example/plimsoll/plimsoll/wire/SaspType; -/
def k12 : Class := { plain "[Lcom/example/plimsoll/plimsoll/wire/SaspType;" (some 0) with kind := .array 6 (.object "com/example/plimsoll/plimsoll/wire/SaspType"), interfaces := #[7, 4], accessFlags := 1041 }

def heap : Heap := #[{ cls := 6, slots := #[.ref 1, .ref 2, .ref 3, .ref 4, .ref 5, .ref 6, .ref 7, .ref 8, .ref 9, .ref 10, .ref 11, .ref 12, .ref 13, .ref 14, .ref 15, .ref 16, .ref 17, .ref 18, .ref 19, .int 0, .null], vm := .statics 6 },
  { cls := 6, slots := #[.null, .int 0, .int 0, .int 8208, .null], vm := .none },
  { cls := 6, slots := #[.null, .int 0, .int 0, .int 4112, .null], vm := .none },
  { cls := 6, slots := #[.null, .int 0, .int 0, .int 4117, .null], vm := .none },
  { cls := 6, slots := #[.null, .int 0, .int 0, .int 4128, .null], vm := .none },
  { cls := 6, slots := #[.null, .int 0, .int 0, .int 4133, .null], vm := .none },
  { cls := 6, slots := #[.null, .int 0, .int 0, .int 4144, .null], vm := .none },
  { cls := 6, slots := #[.null, .int 0, .int 0, .int 4149, .null], vm := .none },
  { cls := 6, slots := #[.null, .int 0, .int 0, .int 4160, .null], vm := .none },
  { cls := 6, slots := #[.null, .int 0, .int 0, .int 4176, .null], vm := .none },
  { cls := 6, slots := #[.null, .int 0, .int 0, .int 4181, .null], vm := .none },
  { cls := 6, slots := #[.null, .int 0, .int 0, .int 4192, .null], vm := .none },
  { cls := 6, slots := #[.null, .int 0, .int 0, .int 4197, .null], vm := .none },
  { cls := 6, slots := #[.null, .int 0, .int 0, .int 12304, .null], vm := .none },
  { cls := 6, slots := #[.null, .int 0, .int 0, .int 12305, .null], vm := .none },
  { cls := 6, slots := #[.null, .int 0, .int 0, .int 12306, .null], vm := .none },
  { cls := 6, slots := #[.null, .int 0, .int 0, .int 12307, .null], vm := .none },
  { cls := 6, slots := #[.null, .int 0, .int 0, .int 16400, .null], vm := .none },
  { cls := 6, slots := #[.null, .int 0, .int 0, .int 16401, .null], vm := .none },
  { cls := 6, slots := #[.null, .int 0, .int 0, .int 16402, .null], vm := .none }]
def classes : Array Class := #[k0, k1, k2, k3, k4, k5, k6, k7, k8, k9, k10, k11, k12]
def interned : List (Array UInt16 × Addr) := []
def slotsUsed : Nat := 116
def theMethod : MethodId := ⟨1, 1⟩
def args0 : Array Value := #[.int 5]
def aboutOver (below : List Frame) : State where
  vm := { classes := classes, interned := interned.toArray }
  heap := heap
  slotsUsed := slotsUsed
  threads := #[{ frames := .invoking theMethod args0 :: below }]
def below0 : List Frame := [.native { method := ⟨0, 0⟩, args := #[] }]
def about1 : State := aboutOver below0
def p0 : Program := .bare "" "" ""
def e0 : Env := launch0.env 0 0 0
theorem w_frames : about1.frames = Frame.invoking theMethod args0 :: below0 := rfl
set_option maxRecDepth 65536 in
theorem w_args : argsFit about1.vm theMethod args0 = true := by decide +kernel
set_option maxRecDepth 65536 in
theorem w_heap : heapFits about1 = true := by decide +kernel
set_option maxRecDepth 65536 in
theorem w_runnable : about1.curStatus? = some .runnable := by decide +kernel
set_option maxRecDepth 65536 in
theorem w_alone : about1.alone = true := by decide +kernel
set_option maxRecDepth 65536 in
theorem w_named : about1.methodNamed? x = some theMethod := by decide +kernel
set_option maxRecDepth 65536 in
theorem w_hears : about1.hears theMethod below0 = true := by decide +kernel
set_option maxRecDepth 65536 in
theorem w_ripe : about1.ripe theMethod args0 below0 = true := by decide +kernel
theorem w_running : about1.status = .running := rfl
set_option maxRecDepth 65536 in
theorem w_room : about1.hasRoom e0.platform room_1 = true :=
  launch0.hasRoom_least _ room_1 (by decide +kernel) (by decide +kernel) (by decide +kernel) (by decide +kernel) (by decide +kernel) (by decide +kernel)
theorem allAtoms_all (ts : List Jvm.Cond) (a : Array Jvm.Value) (st : Jvm.State) : (allAtoms ts).before a st = ts.all (fun c => c.before a st) := by
  induction ts with
  | nil => rfl
  | cons c t ih =>
    show (Jvm.Cond.and c (allAtoms t)).before a st = _
    rw [Jvm.Cond.before_and, ih, List.all_cons]
def words1 : List Jvm.Cond := Jvm.Cond.code x code maxLocals ret :: tables_1
/-- a 'code' word, met by the world's own term for the bytes: nothing is compared byte by byte -/
theorem code_word {y : MethodName} {bytes : ByteArray} {mx : Nat} {rt : Option FieldType} {a : Array Value} {s : State} {m : MethodId} {meth : Method} {c : Code} (h1 : s.methodNamed? y = some m) (h2 : s.vm.method? m = some meth) (h3 : meth.code = some c) (h4 : c.code = bytes)
    (h5 : (c.maxLocals == mx && c.exceptionTable.isEmpty && decide (c.maxStack ≤ mostOperands) && decide (meth.sig.returnType = rt) && !meth.locks && decide (parseMethodDescriptor y.desc = some meth.sig)) = true) : (Jvm.Cond.code y bytes mx rt).before a s = true := by
  simp only [Bool.and_eq_true, beq_iff_eq, Bool.not_eq_true', decide_eq_true_eq] at h5
  obtain ⟨⟨⟨⟨⟨g1, g2⟩, g3⟩, g4⟩, g5⟩, g6⟩ := h5
  simp [Cond.before, Cond.holds, Cond.value, h1, h2, h3, h4, g1, g2, g3, g4, g5, g6]
def isCode : Jvm.Cond → Bool
  | .code _ _ _ _ => true
  | _ => false
theorem all_split {L : List Jvm.Cond} {P : Jvm.Cond → Bool} (h1 : L.all (fun c => isCode c || P c) = true) (h2 : ∀ c ∈ L.filter isCode, P c = true) : L.all P = true := by
  refine List.all_eq_true.mpr fun c hc => ?_
  have h := List.all_eq_true.mp h1 c hc
  rcases Bool.eq_false_or_eq_true (isCode c) with hi | hi
  · exact h2 c (List.mem_filter.mpr ⟨hc, hi⟩)
  · simpa [hi] using h
set_option maxRecDepth 65536 in
theorem w_c0 : (Jvm.Cond.code x code maxLocals ret).before args0 about1 = true := code_word (m := ⟨1, 1⟩) (meth := k1m1) (c := k1c1) (by decide +kernel) rfl rfl rfl (by decide +kernel)
set_option maxRecDepth 65536 in
theorem w_c1 : (Jvm.Cond.code ({ cls := "com/example/plimsoll/plimsoll/wire/SaspType", name := "isMessage", desc := "()Z" } : Jvm.MethodName) prog_92_method_6_code (1 : Nat) (Option.some Jvm.ClassFile.FieldType.boolean)).before args0 about1 = true := code_word (m := ⟨6, 0⟩) (meth := k6m0) (c := k6c0) (by decide +kernel) rfl rfl rfl (by decide +kernel)
def codes1 : List Jvm.Cond := [Jvm.Cond.code x code maxLocals ret, Jvm.Cond.code ({ cls := "com/example/plimsoll/plimsoll/wire/SaspType", name := "isMessage", desc := "()Z" } : Jvm.MethodName) prog_92_method_6_code (1 : Nat) (Option.some Jvm.ClassFile.FieldType.boolean)]
set_option maxRecDepth 65536 in
theorem codes_eq : words1.filter isCode = codes1 := rfl
theorem w_codes : ∀ c ∈ words1.filter isCode, c.before args0 about1 = true := by
  rw [codes_eq]
  intro c hc
  simp only [codes1, List.mem_cons, List.not_mem_nil, or_false] at hc
  rcases hc with rfl | rfl
  · exact w_c0
  · exact w_c1
set_option maxRecDepth 65536 in
theorem w_t1 : (words1.take 24).all (fun c => isCode c || c.before args0 about1) = true := by decide +kernel
set_option maxRecDepth 65536 in
theorem w_t2 : ((words1.drop 24).take 24).all (fun c => isCode c || c.before args0 about1) = true := by decide +kernel
set_option maxRecDepth 65536 in
theorem w_t3 : ((words1.drop 24).drop 24).all (fun c => isCode c || c.before args0 about1) = true := by decide +kernel
theorem w_tables : (allAtoms (Jvm.Cond.code x code maxLocals ret :: tables_1)).before args0 about1 = true := by
  rw [allAtoms_all]
  show words1.all (fun c => c.before args0 about1) = true
  refine all_split ?_ w_codes
  rw [← List.take_append_drop 24 words1, List.all_append, w_t1, ← List.take_append_drop 24 (words1.drop 24), List.all_append, w_t2, w_t3]
  rfl
set_option maxRecDepth 65536 in
theorem w_case : (Jvm.Cond.and given_1 narrow_1).before args0 about1 = true := by decide +kernel
theorem w_applies : (headSpec (Jvm.Cond.code x code maxLocals ret :: tables_1) room_1).applies x e0.platform about1 = true :=
  (Spec.applies_iff w_frames).mpr ⟨w_running, w_runnable, w_alone, w_named, w_hears, w_ripe, w_room, w_tables⟩
theorem atStart : AtStart classFile x code maxLocals ret World_1 tables_1 room_1 Calls_1 rest_1 Pre_1 launch0 p0 e0 about1 theMethod args0 below0 :=
  ⟨lists_1, trivial, launch0.admits_env _ _ _, launch0.least_env, fairChoices_fair.cas, fairChoices_fair.clock, w_frames, w_args, w_heap, w_applies, trivial, trivial, w_case⟩
end start1
theorem witness_1 : WitnessClaimed_1 := ⟨start1.p0, start1.e0, start1.about1, start1.theMethod, start1.args0, start1.below0, start1.atStart⟩
end Jvm.Pilot.@@N@@
