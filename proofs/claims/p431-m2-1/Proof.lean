import JvmDerived
import JvmDerived.Pilot.@@N@@Statement
import JvmDerived.Pilot.@@N@@Code
set_option linter.unusedVariables false
set_option linter.unusedSimpArgs false
namespace Jvm.RoadKit
open Sem ClassFile Op Lib Jvm.Stand Jvm.Free Jvm.LawKit
section New
variable {p : Program} {l : Launch} {e : Env} {R : Room} {s : State} {m : MethodId} {args : Array Value} {below : List Frame} {meth : Method} {c : Code} {T : State} {locs : List Loc} {cells slots : Nat}
theorem retI (X : Stand p l e R s m args below meth c T locs cells slots) (hx : p.tables.exec = Jvm.exec) {pc : Nat} {Ls : Array Slot} {z : Int32} {rest : List Value} (hret : meth.sig.returnType = some .int) (hd : decode c.code pc = .ok (.ireturn, 1)) {fs : List Frame}
    (hl : ∀ (f : JFrame) (acts : List Action), f.method = m → f.locked = none → f.entered = [] → (doReturn e (T.setTop f) acts (some (.int z))).1 = T.setFrames fs) : Steps p.tables e below (T.setTop (mkF m pc Ls (.int z :: rest))) (T.setFrames fs) := by
  have hm' : T.vm.method? m = some meth := X.method'
  have hn : narrow .int (.int z) = .int z := rfl
  show Steps p.tables e below (T.setTop { method := m, pc := pc, locals := Ls, stack := _ :: rest, locked := none }) _
  jvm_step X.here [X.here.top, hx, hd, hm', hret, hn]
  first | (intro acts; rw [hl _ acts rfl rfl rfl]) | rw [hl _ _ rfl rfl rfl]
  exact Steps.refl _
end New
end Jvm.RoadKit
namespace Jvm.Pilot.@@N@@
open Jvm Jvm.ClassFile Sem Op Lib Jvm.Free Jvm.Stand Jvm.LawKit Jvm.RoadKit Bundle Jvm.Pilot.@@N@@.Jvm.D

def own_Q (r : Option Value) (h0 : Heap) (n0 : Nat) (v : Option Value) (h : Heap) (L : List Loc) : Prop := v = r ∧ Fr n0 L ∧ h = h0
def own_Q0 (n0 : Nat) (v : Option Value) (h : Heap) (L : List Loc) : Prop := v = some (.int 1) ∧ Fr n0 L
def own_P (Z : State) (h : Heap) (w0 w1 w2 w3 w4 w5 w6 w7 w8 w9 w10 w11 w12 w13 w14 w15 w16 w17 w18 w19 w20 w21 w22 w23 : Addr) : Prop := (Sta Z h "apportion/io/DataType" "STRING" "Lapportion/io/DataType;" (.ref w0)) ∧ (Exa Z h w0 "apportion/io/DataType") ∧ (Fld Z h w0 "java/lang/Enum" "ordinal" "I" (.int (0 : Int32))) ∧ (Sta Z h "apportion/io/DataType" "INT" "Lapportion/io/DataType;" (.ref w1)) ∧ (Exa Z h w1 "apportion/io/DataType") ∧ (Fld Z h w1 "java/lang/Enum" "ordinal" "I" (.int (3 : Int32))) ∧ (Sta Z h "apportion/io/DataType" "CURRENCY" "Lapportion/io/DataType;" (.ref w2)) ∧ (Exa Z h w2 "apportion/io/DataType") ∧ (Fld Z h w2 "java/lang/Enum" "ordinal" "I" (.int (14 : Int32))) ∧ (Sta Z h "apportion/io/DataType" "MONTH_YEAR" "Lapportion/io/DataType;" (.ref w3)) ∧ (Exa Z h w3 "apportion/io/DataType") ∧ (Fld Z h w3 "java/lang/Enum" "ordinal" "I" (.int (19 : Int32))) ∧ (Sta Z h "apportion/io/DataType" "EXCHANGE" "Lapportion/io/DataType;" (.ref w4)) ∧ (Exa Z h w4 "apportion/io/DataType") ∧ (Fld Z h w4 "java/lang/Enum" "ordinal" "I" (.int (15 : Int32))) ∧ (Sta Z h "apportion/io/DataType" "BOOLEAN" "Lapportion/io/DataType;" (.ref w5)) ∧ (Exa Z h w5 "apportion/io/DataType") ∧ (Fld Z h w5 "java/lang/Enum" "ordinal" "I" (.int (2 : Int32))) ∧ (Sta Z h "apportion/io/DataType" "DAY_OF_MONTH" "Lapportion/io/DataType;" (.ref w6)) ∧ (Exa Z h w6 "apportion/io/DataType") ∧ (Fld Z h w6 "java/lang/Enum" "ordinal" "I" (.int (7 : Int32))) ∧ (Sta Z h "apportion/io/DataType" "PRICE_OFFSET" "Lapportion/io/DataType;" (.ref w7)) ∧ (Exa Z h w7 "apportion/io/DataType") ∧ (Fld Z h w7 "java/lang/Enum" "ordinal" "I" (.int (11 : Int32))) ∧ (Sta Z h "apportion/io/DataType" "COUNTRY" "Lapportion/io/DataType;" (.ref w8)) ∧ (Exa Z h w8 "apportion/io/DataType") ∧ (Fld Z h w8 "java/lang/Enum" "ordinal" "I" (.int (16 : Int32))) ∧ (Sta Z h "apportion/io/DataType" "FLOAT" "Lapportion/io/DataType;" (.ref w9)) ∧ (Exa Z h w9 "apportion/io/DataType") ∧ (Fld Z h w9 "java/lang/Enum" "ordinal" "I" (.int (8 : Int32))) ∧ (Sta Z h "apportion/io/DataType" "CHAR" "Lapportion/io/DataType;" (.ref w10)) ∧ (Exa Z h w10 "apportion/io/DataType") ∧ (Fld Z h w10 "java/lang/Enum" "ordinal" "I" (.int (1 : Int32))) ∧ (Sta Z h "apportion/io/DataType" "XML_DATA" "Lapportion/io/DataType;" (.ref w11)) ∧ (Exa Z h w11 "apportion/io/DataType") ∧ (Fld Z h w11 "java/lang/Enum" "ordinal" "I" (.int (23 : Int32))) ∧ (Sta Z h "apportion/io/DataType" "PRICE" "Lapportion/io/DataType;" (.ref w12)) ∧ (Exa Z h w12 "apportion/io/DataType") ∧ (Fld Z h w12 "java/lang/Enum" "ordinal" "I" (.int (10 : Int32))) ∧ (Sta Z h "apportion/io/DataType" "QTY" "Lapportion/io/DataType;" (.ref w13)) ∧ (Exa Z h w13 "apportion/io/DataType") ∧ (Fld Z h w13 "java/lang/Enum" "ordinal" "I" (.int (9 : Int32))) ∧ (Sta Z h "apportion/io/DataType" "MONTH_YEAR_4_2" "Lapportion/io/DataType;" (.ref w14)) ∧ (Exa Z h w14 "apportion/io/DataType") ∧ (Fld Z h w14 "java/lang/Enum" "ordinal" "I" (.int (20 : Int32))) ∧ (Sta Z h "apportion/io/DataType" "SEQ_NUM" "Lapportion/io/DataType;" (.ref w15)) ∧ (Exa Z h w15 "apportion/io/DataType") ∧ (Fld Z h w15 "java/lang/Enum" "ordinal" "I" (.int (4 : Int32))) ∧ (Sta Z h "apportion/io/DataType" "LOCAL_MKT_DATE" "Lapportion/io/DataType;" (.ref w16)) ∧ (Exa Z h w16 "apportion/io/DataType") ∧ (Fld Z h w16 "java/lang/Enum" "ordinal" "I" (.int (18 : Int32))) ∧ (Sta Z h "apportion/io/DataType" "LENGTH" "Lapportion/io/DataType;" (.ref w17)) ∧ (Exa Z h w17 "apportion/io/DataType") ∧ (Fld Z h w17 "java/lang/Enum" "ordinal" "I" (.int (5 : Int32))) ∧ (Sta Z h "apportion/io/DataType" "NUM_IN_GROUP" "Lapportion/io/DataType;" (.ref w18)) ∧ (Exa Z h w18 "apportion/io/DataType") ∧ (Fld Z h w18 "java/lang/Enum" "ordinal" "I" (.int (6 : Int32))) ∧ (Sta Z h "apportion/io/DataType" "AMT" "Lapportion/io/DataType;" (.ref w19)) ∧ (Exa Z h w19 "apportion/io/DataType") ∧ (Fld Z h w19 "java/lang/Enum" "ordinal" "I" (.int (12 : Int32))) ∧ (Sta Z h "apportion/io/DataType" "UTC_TIMESTAMP" "Lapportion/io/DataType;" (.ref w20)) ∧ (Exa Z h w20 "apportion/io/DataType") ∧ (Fld Z h w20 "java/lang/Enum" "ordinal" "I" (.int (17 : Int32))) ∧ (Sta Z h "apportion/io/DataType" "TZ_TIME_ONLY" "Lapportion/io/DataType;" (.ref w21)) ∧ (Exa Z h w21 "apportion/io/DataType") ∧ (Fld Z h w21 "java/lang/Enum" "ordinal" "I" (.int (21 : Int32))) ∧ (Sta Z h "apportion/io/DataType" "PERCENTAGE" "Lapportion/io/DataType;" (.ref w22)) ∧ (Exa Z h w22 "apportion/io/DataType") ∧ (Fld Z h w22 "java/lang/Enum" "ordinal" "I" (.int (13 : Int32))) ∧ (Sta Z h "apportion/io/DataType" "DATA" "Lapportion/io/DataType;" (.ref w23)) ∧ (Exa Z h w23 "apportion/io/DataType") ∧ (Fld Z h w23 "java/lang/Enum" "ordinal" "I" (.int (22 : Int32)))
theorem own_fldI {args : Array Value} {s : State} {t : Term} {C n d : String} {a : Addr} {k : Int32} (ev : t.eval args s none [] s = some (.ref a)) (h : (Jvm.Cond.eq (Jvm.Term.field t C n d) (Jvm.Term.int k)).value args s none s [] = some true) : Fld s s.heap a C n d (.int k) := by
  obtain ⟨x, y, e1, e2, K1, K2⟩ := cmp_v (Or.inl h)
  have e3 : (Jvm.Term.int k).eval args s none [] s = some (.int k) := rfl
  obtain rfl : y = .int k := Option.some.inj (e2.symm.trans e3)
  obtain ⟨z, rfl⟩ := K2
  obtain rfl : z = k := gotT (Jvm.Cond.eq_ints e1 e3) h
  exact Fld.start ((fld_at ev).symm.trans e1)
theorem own_fldJ {args : Array Value} {s : State} {t : Term} {C n d : String} {a : Addr} {k : Int64} (ev : t.eval args s none [] s = some (.ref a)) (h : (Jvm.Cond.eq (Jvm.Term.field t C n d) (Jvm.Term.long k)).value args s none s [] = some true) : Fld s s.heap a C n d (.long k) := by
  obtain ⟨x, y, e1, e2, K1, K2⟩ := cmp_v (Or.inl h)
  have e3 : (Jvm.Term.long k).eval args s none [] s = some (.long k) := rfl
  obtain rfl : y = .long k := Option.some.inj (e2.symm.trans e3)
  obtain ⟨z, rfl⟩ := K2
  obtain rfl : z = k := gotT (eq_L e1 e3) h
  exact Fld.start ((fld_at ev).symm.trans e1)
theorem own_cases (x : Int32) : ((x &&& (2147483647 : Int32)) % (24 : Int32)) = (0 : Int32) ∨ ((x &&& (2147483647 : Int32)) % (24 : Int32)) = (1 : Int32) ∨ ((x &&& (2147483647 : Int32)) % (24 : Int32)) = (2 : Int32) ∨ ((x &&& (2147483647 : Int32)) % (24 : Int32)) = (3 : Int32) ∨ ((x &&& (2147483647 : Int32)) % (24 : Int32)) = (4 : Int32) ∨ ((x &&& (2147483647 : Int32)) % (24 : Int32)) = (5 : Int32) ∨ ((x &&& (2147483647 : Int32)) % (24 : Int32)) = (6 : Int32) ∨ ((x &&& (2147483647 : Int32)) % (24 : Int32)) = (7 : Int32) ∨ ((x &&& (2147483647 : Int32)) % (24 : Int32)) = (8 : Int32) ∨ ((x &&& (2147483647 : Int32)) % (24 : Int32)) = (9 : Int32) ∨ ((x &&& (2147483647 : Int32)) % (24 : Int32)) = (10 : Int32) ∨ ((x &&& (2147483647 : Int32)) % (24 : Int32)) = (11 : Int32) ∨ ((x &&& (2147483647 : Int32)) % (24 : Int32)) = (12 : Int32) ∨ ((x &&& (2147483647 : Int32)) % (24 : Int32)) = (13 : Int32) ∨ ((x &&& (2147483647 : Int32)) % (24 : Int32)) = (14 : Int32) ∨ ((x &&& (2147483647 : Int32)) % (24 : Int32)) = (15 : Int32) ∨ ((x &&& (2147483647 : Int32)) % (24 : Int32)) = (16 : Int32) ∨ ((x &&& (2147483647 : Int32)) % (24 : Int32)) = (17 : Int32) ∨ ((x &&& (2147483647 : Int32)) % (24 : Int32)) = (18 : Int32) ∨ ((x &&& (2147483647 : Int32)) % (24 : Int32)) = (19 : Int32) ∨ ((x &&& (2147483647 : Int32)) % (24 : Int32)) = (20 : Int32) ∨ ((x &&& (2147483647 : Int32)) % (24 : Int32)) = (21 : Int32) ∨ ((x &&& (2147483647 : Int32)) % (24 : Int32)) = (22 : Int32) ∨ ((x &&& (2147483647 : Int32)) % (24 : Int32)) = (23 : Int32) := by
  have h1 := c_and x (2147483647 : Int32) (by decide)
  have h2 := (c_irem (x &&& (2147483647 : Int32)) (24 : Int32) 24 (by decide)).1 h1.1
  have h3 : 0 ≤ ((x &&& (2147483647 : Int32)) % (24 : Int32)).toInt ∧ ((x &&& (2147483647 : Int32)) % (24 : Int32)).toInt < 24 := by rw [h2]; omega
  clear h2
  generalize ((x &&& (2147483647 : Int32)) % (24 : Int32)) = r at h3 ⊢
  have q : r.toInt = 0 ∨ r.toInt = 1 ∨ r.toInt = 2 ∨ r.toInt = 3 ∨ r.toInt = 4 ∨ r.toInt = 5 ∨ r.toInt = 6 ∨ r.toInt = 7 ∨ r.toInt = 8 ∨ r.toInt = 9 ∨ r.toInt = 10 ∨ r.toInt = 11 ∨ r.toInt = 12 ∨ r.toInt = 13 ∨ r.toInt = 14 ∨ r.toInt = 15 ∨ r.toInt = 16 ∨ r.toInt = 17 ∨ r.toInt = 18 ∨ r.toInt = 19 ∨ r.toInt = 20 ∨ r.toInt = 21 ∨ r.toInt = 22 ∨ r.toInt = 23 := by omega
  rcases q with q | q | q | q | q | q | q | q | q | q | q | q | q | q | q | q | q | q | q | q | q | q | q | q
  · exact (Or.inl (Int32.toInt_inj.mp (q.trans (by decide))))
  · exact (Or.inr (Or.inl (Int32.toInt_inj.mp (q.trans (by decide)))))
  · exact (Or.inr (Or.inr (Or.inl (Int32.toInt_inj.mp (q.trans (by decide))))))
  · exact (Or.inr (Or.inr (Or.inr (Or.inl (Int32.toInt_inj.mp (q.trans (by decide)))))))
  · exact (Or.inr (Or.inr (Or.inr (Or.inr (Or.inl (Int32.toInt_inj.mp (q.trans (by decide))))))))
  · exact (Or.inr (Or.inr (Or.inr (Or.inr (Or.inr (Or.inl (Int32.toInt_inj.mp (q.trans (by decide)))))))))
  · exact (Or.inr (Or.inr (Or.inr (Or.inr (Or.inr (Or.inr (Or.inl (Int32.toInt_inj.mp (q.trans (by decide))))))))))
  · exact (Or.inr (Or.inr (Or.inr (Or.inr (Or.inr (Or.inr (Or.inr (Or.inl (Int32.toInt_inj.mp (q.trans (by decide)))))))))))
  · exact (Or.inr (Or.inr (Or.inr (Or.inr (Or.inr (Or.inr (Or.inr (Or.inr (Or.inl (Int32.toInt_inj.mp (q.trans (by decide))))))))))))
  · exact (Or.inr (Or.inr (Or.inr (Or.inr (Or.inr (Or.inr (Or.inr (Or.inr (Or.inr (Or.inl (Int32.toInt_inj.mp (q.trans (by decide)))))))))))))
  · exact (Or.inr (Or.inr (Or.inr (Or.inr (Or.inr (Or.inr (Or.inr (Or.inr (Or.inr (Or.inr (Or.inl (Int32.toInt_inj.mp (q.trans (by decide))))))))))))))
  · exact (Or.inr (Or.inr (Or.inr (Or.inr (Or.inr (Or.inr (Or.inr (Or.inr (Or.inr (Or.inr (Or.inr (Or.inl (Int32.toInt_inj.mp (q.trans (by decide)))))))))))))))
  · exact (Or.inr (Or.inr (Or.inr (Or.inr (Or.inr (Or.inr (Or.inr (Or.inr (Or.inr (Or.inr (Or.inr (Or.inr (Or.inl (Int32.toInt_inj.mp (q.trans (by decide))))))))))))))))
  · exact (Or.inr (Or.inr (Or.inr (Or.inr (Or.inr (Or.inr (Or.inr (Or.inr (Or.inr (Or.inr (Or.inr (Or.inr (Or.inr (Or.inl (Int32.toInt_inj.mp (q.trans (by decide)))))))))))))))))
  · exact (Or.inr (Or.inr (Or.inr (Or.inr (Or.inr (Or.inr (Or.inr (Or.inr (Or.inr (Or.inr (Or.inr (Or.inr (Or.inr (Or.inr (Or.inl (Int32.toInt_inj.mp (q.trans (by decide))))))))))))))))))
  · exact (Or.inr (Or.inr (Or.inr (Or.inr (Or.inr (Or.inr (Or.inr (Or.inr (Or.inr (Or.inr (Or.inr (Or.inr (Or.inr (Or.inr (Or.inr (Or.inl (Int32.toInt_inj.mp (q.trans (by decide)))))))))))))))))))
  · exact (Or.inr (Or.inr (Or.inr (Or.inr (Or.inr (Or.inr (Or.inr (Or.inr (Or.inr (Or.inr (Or.inr (Or.inr (Or.inr (Or.inr (Or.inr (Or.inr (Or.inl (Int32.toInt_inj.mp (q.trans (by decide))))))))))))))))))))
  · exact (Or.inr (Or.inr (Or.inr (Or.inr (Or.inr (Or.inr (Or.inr (Or.inr (Or.inr (Or.inr (Or.inr (Or.inr (Or.inr (Or.inr (Or.inr (Or.inr (Or.inr (Or.inl (Int32.toInt_inj.mp (q.trans (by decide)))))))))))))))))))))
  · exact (Or.inr (Or.inr (Or.inr (Or.inr (Or.inr (Or.inr (Or.inr (Or.inr (Or.inr (Or.inr (Or.inr (Or.inr (Or.inr (Or.inr (Or.inr (Or.inr (Or.inr (Or.inr (Or.inl (Int32.toInt_inj.mp (q.trans (by decide))))))))))))))))))))))
  · exact (Or.inr (Or.inr (Or.inr (Or.inr (Or.inr (Or.inr (Or.inr (Or.inr (Or.inr (Or.inr (Or.inr (Or.inr (Or.inr (Or.inr (Or.inr (Or.inr (Or.inr (Or.inr (Or.inr (Or.inl (Int32.toInt_inj.mp (q.trans (by decide)))))))))))))))))))))))
  · exact (Or.inr (Or.inr (Or.inr (Or.inr (Or.inr (Or.inr (Or.inr (Or.inr (Or.inr (Or.inr (Or.inr (Or.inr (Or.inr (Or.inr (Or.inr (Or.inr (Or.inr (Or.inr (Or.inr (Or.inr (Or.inl (Int32.toInt_inj.mp (q.trans (by decide))))))))))))))))))))))))
  · exact (Or.inr (Or.inr (Or.inr (Or.inr (Or.inr (Or.inr (Or.inr (Or.inr (Or.inr (Or.inr (Or.inr (Or.inr (Or.inr (Or.inr (Or.inr (Or.inr (Or.inr (Or.inr (Or.inr (Or.inr (Or.inr (Or.inl (Int32.toInt_inj.mp (q.trans (by decide)))))))))))))))))))))))))
  · exact (Or.inr (Or.inr (Or.inr (Or.inr (Or.inr (Or.inr (Or.inr (Or.inr (Or.inr (Or.inr (Or.inr (Or.inr (Or.inr (Or.inr (Or.inr (Or.inr (Or.inr (Or.inr (Or.inr (Or.inr (Or.inr (Or.inr (Or.inl (Int32.toInt_inj.mp (q.trans (by decide))))))))))))))))))))))))))
  · exact (Or.inr (Or.inr (Or.inr (Or.inr (Or.inr (Or.inr (Or.inr (Or.inr (Or.inr (Or.inr (Or.inr (Or.inr (Or.inr (Or.inr (Or.inr (Or.inr (Or.inr (Or.inr (Or.inr (Or.inr (Or.inr (Or.inr (Or.inr (Int32.toInt_inj.mp (q.trans (by decide))))))))))))))))))))))))))
theorem d_method_2_code_0 : decode method_2_code 0 = .ok (.iload_n 0, 1) := by decide +kernel
theorem d_method_2_code_1 : decode method_2_code 1 = .ok (.ifCond .ne 7, 3) := by decide +kernel
theorem d_method_2_code_4 : decode method_2_code 4 = .ok (.getstatic 7, 3) := by decide +kernel
theorem d_method_2_code_7 : decode method_2_code 7 = .ok (.areturn, 1) := by decide +kernel
theorem ef_method_2_code_I (m : MethodId) (x0 : Int32) : entryFrame m #[(.int x0)] 1 = mkF m 0 #[.val (.int x0)] [] := by first | (simp [entryFrame, mkF, argsToLocals, Value.category]; done) | rfl
theorem pn_apportion_io_DataTypeIsDecimalPinLaw : plainName "apportion/io/DataTypeIsDecimalPinLaw" = true := by first | (simp [plainName, overriddenIn]; done) | decide +kernel
set_option maxRecDepth 65536 in
set_option maxHeartbeats 40000000 in
theorem own_pick_0 (l : Launch) (Z : State) (a0 : Array Value) (hw : ∀ d ∈ tables_1, d.before a0 Z = true) (ws : List Jvm.Cond) (w0 w1 w2 w3 w4 w5 w6 w7 w8 w9 w10 w11 w12 w13 w14 w15 w16 w17 w18 w19 w20 w21 w22 w23 : Addr) (h0 : Heap) (n0 : Nat) (Z0 : n0 ≤ h0.size) (P : own_P Z h0 w0 w1 w2 w3 w4 w5 w6 w7 w8 w9 w10 w11 w12 w13 w14 w15 w16 w17 w18 w19 w20 w21 w22 w23) :
    MetFree l (⟨"apportion/io/DataTypeIsDecimalPinLaw", "pick", "(I)Lapportion/io/DataType;"⟩ : MethodName) (head1 (Jvm.Cond.code (⟨"apportion/io/DataTypeIsDecimalPinLaw", "pick", "(I)Lapportion/io/DataType;"⟩ : MethodName) method_2_code 1 (some (.object "apportion/io/DataType")) :: ws) ({ frames := 0, cells := 0, slots := 0, locals := 0 } : Room)) (fun a U => a = #[(.int (0 : Int32))] ∧ Z.Warmed39 U.vm ∧ U.heap = h0) (fun _ _ _ _ _ => True) (fun _ U o U' => ∃ v L, o = .returned v ∧ own_Q (some (.ref w0)) h0 n0 v U'.heap L ∧ FrameEnd U o U' L ({ frames := 0, cells := 0, slots := 0, locals := 0 } : Room).cells ({ frames := 0, cells := 0, slots := 0, locals := 0 } : Room).slots) := by
  refine MetFree.of_bodySF (plainFor_of_name pn_apportion_io_DataTypeIsDecimalPinLaw) hisR ?_
  intro p e s m args below meth c s₁ Bd hml0 hP hK
  obtain ⟨rfl, hZ, hh⟩ := hP
  have hx := Bd.exec
  have hby := Bd.bytes
  have hml : c.maxLocals = 1 := hml0
  have hown : s.vm.findClass "apportion/io/DataTypeIsDecimalPinLaw" = some m.cls := findClass_of_methodNamed Bd.named
  have hnm := (name_of_methodNamed Bd.named Bd.method).1
  have X0 : Stand p l e ({ frames := 0, cells := 0, slots := 0, locals := 0 } : Room) s m #[(.int (0 : Int32))] below meth c s₁ [] 0 0 := Stand.of_body Bd
  have e0 : s₁.heap = h0 := by rw [← hh, Bd.state]; rfl
  have N0 := Fr.nil n0
  have pre0 : ∀ t, Steps p.tables e below (s₁.setTop (mkF m 0 #[.val (.int (0 : Int32))] [])) t → Steps p.tables e below (s₁.setTop (entryFrame m #[(.int (0 : Int32))] 1)) t := fun t k => castTop (ef_method_2_code_I m (0 : Int32)) k
  have P0 := P; obtain ⟨S0, E0, F0_ordinal, S1, E1, F1_ordinal, S2, E2, F2_ordinal, S3, E3, F3_ordinal, S4, E4, F4_ordinal, S5, E5, F5_ordinal, S6, E6, F6_ordinal, S7, E7, F7_ordinal, S8, E8, F8_ordinal, S9, E9, F9_ordinal, S10, E10, F10_ordinal, S11, E11, F11_ordinal, S12, E12, F12_ordinal, S13, E13, F13_ordinal, S14, E14, F14_ordinal, S15, E15, F15_ordinal, S16, E16, F16_ordinal, S17, E17, F17_ordinal, S18, E18, F18_ordinal, S19, E19, F19_ordinal, S20, E20, F20_ordinal, S21, E21, F21_ordinal, S22, E22, F22_ordinal, S23, E23, F23_ordinal⟩ := P0
  obtain ⟨T1, X1, e1, st1⟩ := getS2 X0 hx hZ hown (host := "") (Or.inl (hw _ (List.mem_of_getElem? (i := 5) rfl))) Via.refl e0 S0 (g := (mkF m 4 #[.val (.int (0 : Int32))] [])) rfl (hb hby d_method_2_code_4)
  obtain ⟨fs, hr, hrun, hended, hW, hsame⟩ := X1.leave (v := some (.ref w0)) (fun h => by rw [Bd.returns] at h; cases h)
  refine ⟨_, _, pre0 _ ?_, hrun, hended, _, _, rfl, ?_, ⟨_, rfl⟩, hW, hsame.mono (by decide) (by decide)⟩
  · show Steps p.tables e below (s₁.setTop (mkF m 0 #[.val (.int (0 : Int32))] [])) _
    refine XS.iloadN X0.here hx rfl (hb hby d_method_2_code_0) rfl ?_
    show Steps p.tables e below (s₁.setTop (mkF m 1 #[.val (.int (0 : Int32))] [(.int (0 : Int32))])) _
    refine XS.ifNo X0.here hx rfl (hb hby d_method_2_code_1) rfl (by decide) ?_
    show Steps p.tables e below (s₁.setTop (mkF m 4 #[.val (.int (0 : Int32))] [])) _
    refine st1 _ ?_
    show Steps p.tables e below (T1.setTop (mkF m 7 #[.val (.int (0 : Int32))] [(.ref w0)])) _
    jvm_step X1.here [X1.here.top, hx, (hb hby d_method_2_code_7), X1.method', Bd.returns, Value.isRef, FieldType.isReference]
    first | (intro acts; rw [hr _ acts rfl rfl rfl]) | rw [hr _ _ rfl rfl rfl]
    exact Steps.refl _
  · show own_Q (some (.ref w0)) h0 n0 _ T1.heap _
    rw [e1]
    exact ⟨rfl, N0, rfl⟩
theorem d_method_2_code_8 : decode method_2_code 8 = .ok (.iload_n 0, 1) := by decide +kernel
theorem d_method_2_code_9 : decode method_2_code 9 = .ok (.iconst 1, 1) := by decide +kernel
theorem d_method_2_code_10 : decode method_2_code 10 = .ok (.if_icmp .ne 7, 3) := by decide +kernel
theorem d_method_2_code_13 : decode method_2_code 13 = .ok (.getstatic 13, 3) := by decide +kernel
theorem d_method_2_code_16 : decode method_2_code 16 = .ok (.areturn, 1) := by decide +kernel
set_option maxRecDepth 65536 in
set_option maxHeartbeats 40000000 in
theorem own_pick_1 (l : Launch) (Z : State) (a0 : Array Value) (hw : ∀ d ∈ tables_1, d.before a0 Z = true) (ws : List Jvm.Cond) (w0 w1 w2 w3 w4 w5 w6 w7 w8 w9 w10 w11 w12 w13 w14 w15 w16 w17 w18 w19 w20 w21 w22 w23 : Addr) (h0 : Heap) (n0 : Nat) (Z0 : n0 ≤ h0.size) (P : own_P Z h0 w0 w1 w2 w3 w4 w5 w6 w7 w8 w9 w10 w11 w12 w13 w14 w15 w16 w17 w18 w19 w20 w21 w22 w23) :
    MetFree l (⟨"apportion/io/DataTypeIsDecimalPinLaw", "pick", "(I)Lapportion/io/DataType;"⟩ : MethodName) (head1 (Jvm.Cond.code (⟨"apportion/io/DataTypeIsDecimalPinLaw", "pick", "(I)Lapportion/io/DataType;"⟩ : MethodName) method_2_code 1 (some (.object "apportion/io/DataType")) :: ws) ({ frames := 0, cells := 0, slots := 0, locals := 0 } : Room)) (fun a U => a = #[(.int (1 : Int32))] ∧ Z.Warmed39 U.vm ∧ U.heap = h0) (fun _ _ _ _ _ => True) (fun _ U o U' => ∃ v L, o = .returned v ∧ own_Q (some (.ref w10)) h0 n0 v U'.heap L ∧ FrameEnd U o U' L ({ frames := 0, cells := 0, slots := 0, locals := 0 } : Room).cells ({ frames := 0, cells := 0, slots := 0, locals := 0 } : Room).slots) := by
  refine MetFree.of_bodySF (plainFor_of_name pn_apportion_io_DataTypeIsDecimalPinLaw) hisR ?_
  intro p e s m args below meth c s₁ Bd hml0 hP hK
  obtain ⟨rfl, hZ, hh⟩ := hP
  have hx := Bd.exec
  have hby := Bd.bytes
  have hml : c.maxLocals = 1 := hml0
  have hown : s.vm.findClass "apportion/io/DataTypeIsDecimalPinLaw" = some m.cls := findClass_of_methodNamed Bd.named
  have hnm := (name_of_methodNamed Bd.named Bd.method).1
  have X0 : Stand p l e ({ frames := 0, cells := 0, slots := 0, locals := 0 } : Room) s m #[(.int (1 : Int32))] below meth c s₁ [] 0 0 := Stand.of_body Bd
  have e0 : s₁.heap = h0 := by rw [← hh, Bd.state]; rfl
  have N0 := Fr.nil n0
  have pre0 : ∀ t, Steps p.tables e below (s₁.setTop (mkF m 0 #[.val (.int (1 : Int32))] [])) t → Steps p.tables e below (s₁.setTop (entryFrame m #[(.int (1 : Int32))] 1)) t := fun t k => castTop (ef_method_2_code_I m (1 : Int32)) k
  have P0 := P; obtain ⟨S0, E0, F0_ordinal, S1, E1, F1_ordinal, S2, E2, F2_ordinal, S3, E3, F3_ordinal, S4, E4, F4_ordinal, S5, E5, F5_ordinal, S6, E6, F6_ordinal, S7, E7, F7_ordinal, S8, E8, F8_ordinal, S9, E9, F9_ordinal, S10, E10, F10_ordinal, S11, E11, F11_ordinal, S12, E12, F12_ordinal, S13, E13, F13_ordinal, S14, E14, F14_ordinal, S15, E15, F15_ordinal, S16, E16, F16_ordinal, S17, E17, F17_ordinal, S18, E18, F18_ordinal, S19, E19, F19_ordinal, S20, E20, F20_ordinal, S21, E21, F21_ordinal, S22, E22, F22_ordinal, S23, E23, F23_ordinal⟩ := P0
  obtain ⟨T2, X2, e2, st2⟩ := getS2 X0 hx hZ hown (host := "") (Or.inl (hw _ (List.mem_of_getElem? (i := 40) rfl))) Via.refl e0 S10 (g := (mkF m 13 #[.val (.int (1 : Int32))] [])) rfl (hb hby d_method_2_code_13)
  obtain ⟨fs, hr, hrun, hended, hW, hsame⟩ := X2.leave (v := some (.ref w10)) (fun h => by rw [Bd.returns] at h; cases h)
  refine ⟨_, _, pre0 _ ?_, hrun, hended, _, _, rfl, ?_, ⟨_, rfl⟩, hW, hsame.mono (by decide) (by decide)⟩
  · show Steps p.tables e below (s₁.setTop (mkF m 0 #[.val (.int (1 : Int32))] [])) _
    refine XS.iloadN X0.here hx rfl (hb hby d_method_2_code_0) rfl ?_
    show Steps p.tables e below (s₁.setTop (mkF m 1 #[.val (.int (1 : Int32))] [(.int (1 : Int32))])) _
    refine XS.ifYes X0.here hx rfl (pc0 := 1) (pc' := 8) rfl (hb hby d_method_2_code_1) rfl (by decide) (by decide) (by decide) ?_
    show Steps p.tables e below (s₁.setTop (mkF m 8 #[.val (.int (1 : Int32))] [])) _
    refine XS.iloadN X0.here hx rfl (hb hby d_method_2_code_8) rfl ?_
    show Steps p.tables e below (s₁.setTop (mkF m 9 #[.val (.int (1 : Int32))] [(.int (1 : Int32))])) _
    refine XT.iconstV X0.here hx rfl (1 : Int32) (hb hby d_method_2_code_9) rfl ?_
    show Steps p.tables e below (s₁.setTop (mkF m 10 #[.val (.int (1 : Int32))] [(.int (1 : Int32)), (.int (1 : Int32))])) _
    refine XS.icmpNo X0.here hx rfl (hb hby d_method_2_code_10) rfl (by decide) ?_
    show Steps p.tables e below (s₁.setTop (mkF m 13 #[.val (.int (1 : Int32))] [])) _
    refine st2 _ ?_
    show Steps p.tables e below (T2.setTop (mkF m 16 #[.val (.int (1 : Int32))] [(.ref w10)])) _
    jvm_step X2.here [X2.here.top, hx, (hb hby d_method_2_code_16), X2.method', Bd.returns, Value.isRef, FieldType.isReference]
    first | (intro acts; rw [hr _ acts rfl rfl rfl]) | rw [hr _ _ rfl rfl rfl]
    exact Steps.refl _
  · show own_Q (some (.ref w10)) h0 n0 _ T2.heap _
    rw [e2]
    exact ⟨rfl, N0, rfl⟩
theorem d_method_2_code_17 : decode method_2_code 17 = .ok (.iload_n 0, 1) := by decide +kernel
theorem d_method_2_code_18 : decode method_2_code 18 = .ok (.iconst 2, 1) := by decide +kernel
theorem d_method_2_code_19 : decode method_2_code 19 = .ok (.if_icmp .ne 7, 3) := by decide +kernel
theorem d_method_2_code_22 : decode method_2_code 22 = .ok (.getstatic 16, 3) := by decide +kernel
theorem d_method_2_code_25 : decode method_2_code 25 = .ok (.areturn, 1) := by decide +kernel
set_option maxRecDepth 65536 in
set_option maxHeartbeats 40000000 in
theorem own_pick_2 (l : Launch) (Z : State) (a0 : Array Value) (hw : ∀ d ∈ tables_1, d.before a0 Z = true) (ws : List Jvm.Cond) (w0 w1 w2 w3 w4 w5 w6 w7 w8 w9 w10 w11 w12 w13 w14 w15 w16 w17 w18 w19 w20 w21 w22 w23 : Addr) (h0 : Heap) (n0 : Nat) (Z0 : n0 ≤ h0.size) (P : own_P Z h0 w0 w1 w2 w3 w4 w5 w6 w7 w8 w9 w10 w11 w12 w13 w14 w15 w16 w17 w18 w19 w20 w21 w22 w23) :
    MetFree l (⟨"apportion/io/DataTypeIsDecimalPinLaw", "pick", "(I)Lapportion/io/DataType;"⟩ : MethodName) (head1 (Jvm.Cond.code (⟨"apportion/io/DataTypeIsDecimalPinLaw", "pick", "(I)Lapportion/io/DataType;"⟩ : MethodName) method_2_code 1 (some (.object "apportion/io/DataType")) :: ws) ({ frames := 0, cells := 0, slots := 0, locals := 0 } : Room)) (fun a U => a = #[(.int (2 : Int32))] ∧ Z.Warmed39 U.vm ∧ U.heap = h0) (fun _ _ _ _ _ => True) (fun _ U o U' => ∃ v L, o = .returned v ∧ own_Q (some (.ref w5)) h0 n0 v U'.heap L ∧ FrameEnd U o U' L ({ frames := 0, cells := 0, slots := 0, locals := 0 } : Room).cells ({ frames := 0, cells := 0, slots := 0, locals := 0 } : Room).slots) := by
  refine MetFree.of_bodySF (plainFor_of_name pn_apportion_io_DataTypeIsDecimalPinLaw) hisR ?_
  intro p e s m args below meth c s₁ Bd hml0 hP hK
  obtain ⟨rfl, hZ, hh⟩ := hP
  have hx := Bd.exec
  have hby := Bd.bytes
  have hml : c.maxLocals = 1 := hml0
  have hown : s.vm.findClass "apportion/io/DataTypeIsDecimalPinLaw" = some m.cls := findClass_of_methodNamed Bd.named
  have hnm := (name_of_methodNamed Bd.named Bd.method).1
  have X0 : Stand p l e ({ frames := 0, cells := 0, slots := 0, locals := 0 } : Room) s m #[(.int (2 : Int32))] below meth c s₁ [] 0 0 := Stand.of_body Bd
  have e0 : s₁.heap = h0 := by rw [← hh, Bd.state]; rfl
  have N0 := Fr.nil n0
  have pre0 : ∀ t, Steps p.tables e below (s₁.setTop (mkF m 0 #[.val (.int (2 : Int32))] [])) t → Steps p.tables e below (s₁.setTop (entryFrame m #[(.int (2 : Int32))] 1)) t := fun t k => castTop (ef_method_2_code_I m (2 : Int32)) k
  have P0 := P; obtain ⟨S0, E0, F0_ordinal, S1, E1, F1_ordinal, S2, E2, F2_ordinal, S3, E3, F3_ordinal, S4, E4, F4_ordinal, S5, E5, F5_ordinal, S6, E6, F6_ordinal, S7, E7, F7_ordinal, S8, E8, F8_ordinal, S9, E9, F9_ordinal, S10, E10, F10_ordinal, S11, E11, F11_ordinal, S12, E12, F12_ordinal, S13, E13, F13_ordinal, S14, E14, F14_ordinal, S15, E15, F15_ordinal, S16, E16, F16_ordinal, S17, E17, F17_ordinal, S18, E18, F18_ordinal, S19, E19, F19_ordinal, S20, E20, F20_ordinal, S21, E21, F21_ordinal, S22, E22, F22_ordinal, S23, E23, F23_ordinal⟩ := P0
  obtain ⟨T3, X3, e3, st3⟩ := getS2 X0 hx hZ hown (host := "") (Or.inl (hw _ (List.mem_of_getElem? (i := 30) rfl))) Via.refl e0 S5 (g := (mkF m 22 #[.val (.int (2 : Int32))] [])) rfl (hb hby d_method_2_code_22)
  obtain ⟨fs, hr, hrun, hended, hW, hsame⟩ := X3.leave (v := some (.ref w5)) (fun h => by rw [Bd.returns] at h; cases h)
  refine ⟨_, _, pre0 _ ?_, hrun, hended, _, _, rfl, ?_, ⟨_, rfl⟩, hW, hsame.mono (by decide) (by decide)⟩
  · show Steps p.tables e below (s₁.setTop (mkF m 0 #[.val (.int (2 : Int32))] [])) _
    refine XS.iloadN X0.here hx rfl (hb hby d_method_2_code_0) rfl ?_
    show Steps p.tables e below (s₁.setTop (mkF m 1 #[.val (.int (2 : Int32))] [(.int (2 : Int32))])) _
    refine XS.ifYes X0.here hx rfl (pc0 := 1) (pc' := 8) rfl (hb hby d_method_2_code_1) rfl (by decide) (by decide) (by decide) ?_
    show Steps p.tables e below (s₁.setTop (mkF m 8 #[.val (.int (2 : Int32))] [])) _
    refine XS.iloadN X0.here hx rfl (hb hby d_method_2_code_8) rfl ?_
    show Steps p.tables e below (s₁.setTop (mkF m 9 #[.val (.int (2 : Int32))] [(.int (2 : Int32))])) _
    refine XT.iconstV X0.here hx rfl (1 : Int32) (hb hby d_method_2_code_9) rfl ?_
    show Steps p.tables e below (s₁.setTop (mkF m 10 #[.val (.int (2 : Int32))] [(.int (1 : Int32)), (.int (2 : Int32))])) _
    refine XS.icmpYes X0.here hx rfl (pc0 := 10) (pc' := 17) rfl (hb hby d_method_2_code_10) rfl (by decide) (by decide) (by decide) ?_
    show Steps p.tables e below (s₁.setTop (mkF m 17 #[.val (.int (2 : Int32))] [])) _
    refine XS.iloadN X0.here hx rfl (hb hby d_method_2_code_17) rfl ?_
    show Steps p.tables e below (s₁.setTop (mkF m 18 #[.val (.int (2 : Int32))] [(.int (2 : Int32))])) _
    refine XT.iconstV X0.here hx rfl (2 : Int32) (hb hby d_method_2_code_18) rfl ?_
    show Steps p.tables e below (s₁.setTop (mkF m 19 #[.val (.int (2 : Int32))] [(.int (2 : Int32)), (.int (2 : Int32))])) _
    refine XS.icmpNo X0.here hx rfl (hb hby d_method_2_code_19) rfl (by decide) ?_
    show Steps p.tables e below (s₁.setTop (mkF m 22 #[.val (.int (2 : Int32))] [])) _
    refine st3 _ ?_
    show Steps p.tables e below (T3.setTop (mkF m 25 #[.val (.int (2 : Int32))] [(.ref w5)])) _
    jvm_step X3.here [X3.here.top, hx, (hb hby d_method_2_code_25), X3.method', Bd.returns, Value.isRef, FieldType.isReference]
    first | (intro acts; rw [hr _ acts rfl rfl rfl]) | rw [hr _ _ rfl rfl rfl]
    exact Steps.refl _
  · show own_Q (some (.ref w5)) h0 n0 _ T3.heap _
    rw [e3]
    exact ⟨rfl, N0, rfl⟩
theorem d_method_2_code_26 : decode method_2_code 26 = .ok (.iload_n 0, 1) := by decide +kernel
theorem d_method_2_code_27 : decode method_2_code 27 = .ok (.iconst 3, 1) := by decide +kernel
theorem d_method_2_code_28 : decode method_2_code 28 = .ok (.if_icmp .ne 7, 3) := by decide +kernel
theorem d_method_2_code_31 : decode method_2_code 31 = .ok (.getstatic 19, 3) := by decide +kernel
theorem d_method_2_code_34 : decode method_2_code 34 = .ok (.areturn, 1) := by decide +kernel
set_option maxRecDepth 65536 in
set_option maxHeartbeats 40000000 in
theorem own_pick_3 (l : Launch) (Z : State) (a0 : Array Value) (hw : ∀ d ∈ tables_1, d.before a0 Z = true) (ws : List Jvm.Cond) (w0 w1 w2 w3 w4 w5 w6 w7 w8 w9 w10 w11 w12 w13 w14 w15 w16 w17 w18 w19 w20 w21 w22 w23 : Addr) (h0 : Heap) (n0 : Nat) (Z0 : n0 ≤ h0.size) (P : own_P Z h0 w0 w1 w2 w3 w4 w5 w6 w7 w8 w9 w10 w11 w12 w13 w14 w15 w16 w17 w18 w19 w20 w21 w22 w23) :
    MetFree l (⟨"apportion/io/DataTypeIsDecimalPinLaw", "pick", "(I)Lapportion/io/DataType;"⟩ : MethodName) (head1 (Jvm.Cond.code (⟨"apportion/io/DataTypeIsDecimalPinLaw", "pick", "(I)Lapportion/io/DataType;"⟩ : MethodName) method_2_code 1 (some (.object "apportion/io/DataType")) :: ws) ({ frames := 0, cells := 0, slots := 0, locals := 0 } : Room)) (fun a U => a = #[(.int (3 : Int32))] ∧ Z.Warmed39 U.vm ∧ U.heap = h0) (fun _ _ _ _ _ => True) (fun _ U o U' => ∃ v L, o = .returned v ∧ own_Q (some (.ref w1)) h0 n0 v U'.heap L ∧ FrameEnd U o U' L ({ frames := 0, cells := 0, slots := 0, locals := 0 } : Room).cells ({ frames := 0, cells := 0, slots := 0, locals := 0 } : Room).slots) := by
  refine MetFree.of_bodySF (plainFor_of_name pn_apportion_io_DataTypeIsDecimalPinLaw) hisR ?_
  intro p e s m args below meth c s₁ Bd hml0 hP hK
  obtain ⟨rfl, hZ, hh⟩ := hP
  have hx := Bd.exec
  have hby := Bd.bytes
  have hml : c.maxLocals = 1 := hml0
  have hown : s.vm.findClass "apportion/io/DataTypeIsDecimalPinLaw" = some m.cls := findClass_of_methodNamed Bd.named
  have hnm := (name_of_methodNamed Bd.named Bd.method).1
  have X0 : Stand p l e ({ frames := 0, cells := 0, slots := 0, locals := 0 } : Room) s m #[(.int (3 : Int32))] below meth c s₁ [] 0 0 := Stand.of_body Bd
  have e0 : s₁.heap = h0 := by rw [← hh, Bd.state]; rfl
  have N0 := Fr.nil n0
  have pre0 : ∀ t, Steps p.tables e below (s₁.setTop (mkF m 0 #[.val (.int (3 : Int32))] [])) t → Steps p.tables e below (s₁.setTop (entryFrame m #[(.int (3 : Int32))] 1)) t := fun t k => castTop (ef_method_2_code_I m (3 : Int32)) k
  have P0 := P; obtain ⟨S0, E0, F0_ordinal, S1, E1, F1_ordinal, S2, E2, F2_ordinal, S3, E3, F3_ordinal, S4, E4, F4_ordinal, S5, E5, F5_ordinal, S6, E6, F6_ordinal, S7, E7, F7_ordinal, S8, E8, F8_ordinal, S9, E9, F9_ordinal, S10, E10, F10_ordinal, S11, E11, F11_ordinal, S12, E12, F12_ordinal, S13, E13, F13_ordinal, S14, E14, F14_ordinal, S15, E15, F15_ordinal, S16, E16, F16_ordinal, S17, E17, F17_ordinal, S18, E18, F18_ordinal, S19, E19, F19_ordinal, S20, E20, F20_ordinal, S21, E21, F21_ordinal, S22, E22, F22_ordinal, S23, E23, F23_ordinal⟩ := P0
  obtain ⟨T4, X4, e4, st4⟩ := getS2 X0 hx hZ hown (host := "") (Or.inl (hw _ (List.mem_of_getElem? (i := 22) rfl))) Via.refl e0 S1 (g := (mkF m 31 #[.val (.int (3 : Int32))] [])) rfl (hb hby d_method_2_code_31)
  obtain ⟨fs, hr, hrun, hended, hW, hsame⟩ := X4.leave (v := some (.ref w1)) (fun h => by rw [Bd.returns] at h; cases h)
  refine ⟨_, _, pre0 _ ?_, hrun, hended, _, _, rfl, ?_, ⟨_, rfl⟩, hW, hsame.mono (by decide) (by decide)⟩
  · show Steps p.tables e below (s₁.setTop (mkF m 0 #[.val (.int (3 : Int32))] [])) _
    refine XS.iloadN X0.here hx rfl (hb hby d_method_2_code_0) rfl ?_
    show Steps p.tables e below (s₁.setTop (mkF m 1 #[.val (.int (3 : Int32))] [(.int (3 : Int32))])) _
    refine XS.ifYes X0.here hx rfl (pc0 := 1) (pc' := 8) rfl (hb hby d_method_2_code_1) rfl (by decide) (by decide) (by decide) ?_
    show Steps p.tables e below (s₁.setTop (mkF m 8 #[.val (.int (3 : Int32))] [])) _
    refine XS.iloadN X0.here hx rfl (hb hby d_method_2_code_8) rfl ?_
    show Steps p.tables e below (s₁.setTop (mkF m 9 #[.val (.int (3 : Int32))] [(.int (3 : Int32))])) _
    refine XT.iconstV X0.here hx rfl (1 : Int32) (hb hby d_method_2_code_9) rfl ?_
    show Steps p.tables e below (s₁.setTop (mkF m 10 #[.val (.int (3 : Int32))] [(.int (1 : Int32)), (.int (3 : Int32))])) _
    refine XS.icmpYes X0.here hx rfl (pc0 := 10) (pc' := 17) rfl (hb hby d_method_2_code_10) rfl (by decide) (by decide) (by decide) ?_
    show Steps p.tables e below (s₁.setTop (mkF m 17 #[.val (.int (3 : Int32))] [])) _
    refine XS.iloadN X0.here hx rfl (hb hby d_method_2_code_17) rfl ?_
    show Steps p.tables e below (s₁.setTop (mkF m 18 #[.val (.int (3 : Int32))] [(.int (3 : Int32))])) _
    refine XT.iconstV X0.here hx rfl (2 : Int32) (hb hby d_method_2_code_18) rfl ?_
    show Steps p.tables e below (s₁.setTop (mkF m 19 #[.val (.int (3 : Int32))] [(.int (2 : Int32)), (.int (3 : Int32))])) _
    refine XS.icmpYes X0.here hx rfl (pc0 := 19) (pc' := 26) rfl (hb hby d_method_2_code_19) rfl (by decide) (by decide) (by decide) ?_
    show Steps p.tables e below (s₁.setTop (mkF m 26 #[.val (.int (3 : Int32))] [])) _
    refine XS.iloadN X0.here hx rfl (hb hby d_method_2_code_26) rfl ?_
    show Steps p.tables e below (s₁.setTop (mkF m 27 #[.val (.int (3 : Int32))] [(.int (3 : Int32))])) _
    refine XT.iconstV X0.here hx rfl (3 : Int32) (hb hby d_method_2_code_27) rfl ?_
    show Steps p.tables e below (s₁.setTop (mkF m 28 #[.val (.int (3 : Int32))] [(.int (3 : Int32)), (.int (3 : Int32))])) _
    refine XS.icmpNo X0.here hx rfl (hb hby d_method_2_code_28) rfl (by decide) ?_
    show Steps p.tables e below (s₁.setTop (mkF m 31 #[.val (.int (3 : Int32))] [])) _
    refine st4 _ ?_
    show Steps p.tables e below (T4.setTop (mkF m 34 #[.val (.int (3 : Int32))] [(.ref w1)])) _
    jvm_step X4.here [X4.here.top, hx, (hb hby d_method_2_code_34), X4.method', Bd.returns, Value.isRef, FieldType.isReference]
    first | (intro acts; rw [hr _ acts rfl rfl rfl]) | rw [hr _ _ rfl rfl rfl]
    exact Steps.refl _
  · show own_Q (some (.ref w1)) h0 n0 _ T4.heap _
    rw [e4]
    exact ⟨rfl, N0, rfl⟩
theorem d_method_2_code_35 : decode method_2_code 35 = .ok (.iload_n 0, 1) := by decide +kernel
theorem d_method_2_code_36 : decode method_2_code 36 = .ok (.iconst 4, 1) := by decide +kernel
theorem d_method_2_code_37 : decode method_2_code 37 = .ok (.if_icmp .ne 7, 3) := by decide +kernel
theorem d_method_2_code_40 : decode method_2_code 40 = .ok (.getstatic 22, 3) := by decide +kernel
theorem d_method_2_code_43 : decode method_2_code 43 = .ok (.areturn, 1) := by decide +kernel
set_option maxRecDepth 65536 in
set_option maxHeartbeats 40000000 in
theorem own_pick_4 (l : Launch) (Z : State) (a0 : Array Value) (hw : ∀ d ∈ tables_1, d.before a0 Z = true) (ws : List Jvm.Cond) (w0 w1 w2 w3 w4 w5 w6 w7 w8 w9 w10 w11 w12 w13 w14 w15 w16 w17 w18 w19 w20 w21 w22 w23 : Addr) (h0 : Heap) (n0 : Nat) (Z0 : n0 ≤ h0.size) (P : own_P Z h0 w0 w1 w2 w3 w4 w5 w6 w7 w8 w9 w10 w11 w12 w13 w14 w15 w16 w17 w18 w19 w20 w21 w22 w23) :
    MetFree l (⟨"apportion/io/DataTypeIsDecimalPinLaw", "pick", "(I)Lapportion/io/DataType;"⟩ : MethodName) (head1 (Jvm.Cond.code (⟨"apportion/io/DataTypeIsDecimalPinLaw", "pick", "(I)Lapportion/io/DataType;"⟩ : MethodName) method_2_code 1 (some (.object "apportion/io/DataType")) :: ws) ({ frames := 0, cells := 0, slots := 0, locals := 0 } : Room)) (fun a U => a = #[(.int (4 : Int32))] ∧ Z.Warmed39 U.vm ∧ U.heap = h0) (fun _ _ _ _ _ => True) (fun _ U o U' => ∃ v L, o = .returned v ∧ own_Q (some (.ref w15)) h0 n0 v U'.heap L ∧ FrameEnd U o U' L ({ frames := 0, cells := 0, slots := 0, locals := 0 } : Room).cells ({ frames := 0, cells := 0, slots := 0, locals := 0 } : Room).slots) := by
  refine MetFree.of_bodySF (plainFor_of_name pn_apportion_io_DataTypeIsDecimalPinLaw) hisR ?_
  intro p e s m args below meth c s₁ Bd hml0 hP hK
  obtain ⟨rfl, hZ, hh⟩ := hP
  have hx := Bd.exec
  have hby := Bd.bytes
  have hml : c.maxLocals = 1 := hml0
  have hown : s.vm.findClass "apportion/io/DataTypeIsDecimalPinLaw" = some m.cls := findClass_of_methodNamed Bd.named
  have hnm := (name_of_methodNamed Bd.named Bd.method).1
  have X0 : Stand p l e ({ frames := 0, cells := 0, slots := 0, locals := 0 } : Room) s m #[(.int (4 : Int32))] below meth c s₁ [] 0 0 := Stand.of_body Bd
  have e0 : s₁.heap = h0 := by rw [← hh, Bd.state]; rfl
  have N0 := Fr.nil n0
  have pre0 : ∀ t, Steps p.tables e below (s₁.setTop (mkF m 0 #[.val (.int (4 : Int32))] [])) t → Steps p.tables e below (s₁.setTop (entryFrame m #[(.int (4 : Int32))] 1)) t := fun t k => castTop (ef_method_2_code_I m (4 : Int32)) k
  have P0 := P; obtain ⟨S0, E0, F0_ordinal, S1, E1, F1_ordinal, S2, E2, F2_ordinal, S3, E3, F3_ordinal, S4, E4, F4_ordinal, S5, E5, F5_ordinal, S6, E6, F6_ordinal, S7, E7, F7_ordinal, S8, E8, F8_ordinal, S9, E9, F9_ordinal, S10, E10, F10_ordinal, S11, E11, F11_ordinal, S12, E12, F12_ordinal, S13, E13, F13_ordinal, S14, E14, F14_ordinal, S15, E15, F15_ordinal, S16, E16, F16_ordinal, S17, E17, F17_ordinal, S18, E18, F18_ordinal, S19, E19, F19_ordinal, S20, E20, F20_ordinal, S21, E21, F21_ordinal, S22, E22, F22_ordinal, S23, E23, F23_ordinal⟩ := P0
  obtain ⟨T5, X5, e5, st5⟩ := getS2 X0 hx hZ hown (host := "") (Or.inl (hw _ (List.mem_of_getElem? (i := 50) rfl))) Via.refl e0 S15 (g := (mkF m 40 #[.val (.int (4 : Int32))] [])) rfl (hb hby d_method_2_code_40)
  obtain ⟨fs, hr, hrun, hended, hW, hsame⟩ := X5.leave (v := some (.ref w15)) (fun h => by rw [Bd.returns] at h; cases h)
  refine ⟨_, _, pre0 _ ?_, hrun, hended, _, _, rfl, ?_, ⟨_, rfl⟩, hW, hsame.mono (by decide) (by decide)⟩
  · show Steps p.tables e below (s₁.setTop (mkF m 0 #[.val (.int (4 : Int32))] [])) _
    refine XS.iloadN X0.here hx rfl (hb hby d_method_2_code_0) rfl ?_
    show Steps p.tables e below (s₁.setTop (mkF m 1 #[.val (.int (4 : Int32))] [(.int (4 : Int32))])) _
    refine XS.ifYes X0.here hx rfl (pc0 := 1) (pc' := 8) rfl (hb hby d_method_2_code_1) rfl (by decide) (by decide) (by decide) ?_
    show Steps p.tables e below (s₁.setTop (mkF m 8 #[.val (.int (4 : Int32))] [])) _
    refine XS.iloadN X0.here hx rfl (hb hby d_method_2_code_8) rfl ?_
    show Steps p.tables e below (s₁.setTop (mkF m 9 #[.val (.int (4 : Int32))] [(.int (4 : Int32))])) _
    refine XT.iconstV X0.here hx rfl (1 : Int32) (hb hby d_method_2_code_9) rfl ?_
    show Steps p.tables e below (s₁.setTop (mkF m 10 #[.val (.int (4 : Int32))] [(.int (1 : Int32)), (.int (4 : Int32))])) _
    refine XS.icmpYes X0.here hx rfl (pc0 := 10) (pc' := 17) rfl (hb hby d_method_2_code_10) rfl (by decide) (by decide) (by decide) ?_
    show Steps p.tables e below (s₁.setTop (mkF m 17 #[.val (.int (4 : Int32))] [])) _
    refine XS.iloadN X0.here hx rfl (hb hby d_method_2_code_17) rfl ?_
    show Steps p.tables e below (s₁.setTop (mkF m 18 #[.val (.int (4 : Int32))] [(.int (4 : Int32))])) _
    refine XT.iconstV X0.here hx rfl (2 : Int32) (hb hby d_method_2_code_18) rfl ?_
    show Steps p.tables e below (s₁.setTop (mkF m 19 #[.val (.int (4 : Int32))] [(.int (2 : Int32)), (.int (4 : Int32))])) _
    refine XS.icmpYes X0.here hx rfl (pc0 := 19) (pc' := 26) rfl (hb hby d_method_2_code_19) rfl (by decide) (by decide) (by decide) ?_
    show Steps p.tables e below (s₁.setTop (mkF m 26 #[.val (.int (4 : Int32))] [])) _
    refine XS.iloadN X0.here hx rfl (hb hby d_method_2_code_26) rfl ?_
    show Steps p.tables e below (s₁.setTop (mkF m 27 #[.val (.int (4 : Int32))] [(.int (4 : Int32))])) _
    refine XT.iconstV X0.here hx rfl (3 : Int32) (hb hby d_method_2_code_27) rfl ?_
    show Steps p.tables e below (s₁.setTop (mkF m 28 #[.val (.int (4 : Int32))] [(.int (3 : Int32)), (.int (4 : Int32))])) _
    refine XS.icmpYes X0.here hx rfl (pc0 := 28) (pc' := 35) rfl (hb hby d_method_2_code_28) rfl (by decide) (by decide) (by decide) ?_
    show Steps p.tables e below (s₁.setTop (mkF m 35 #[.val (.int (4 : Int32))] [])) _
    refine XS.iloadN X0.here hx rfl (hb hby d_method_2_code_35) rfl ?_
    show Steps p.tables e below (s₁.setTop (mkF m 36 #[.val (.int (4 : Int32))] [(.int (4 : Int32))])) _
    refine XT.iconstV X0.here hx rfl (4 : Int32) (hb hby d_method_2_code_36) rfl ?_
    show Steps p.tables e below (s₁.setTop (mkF m 37 #[.val (.int (4 : Int32))] [(.int (4 : Int32)), (.int (4 : Int32))])) _
    refine XS.icmpNo X0.here hx rfl (hb hby d_method_2_code_37) rfl (by decide) ?_
    show Steps p.tables e below (s₁.setTop (mkF m 40 #[.val (.int (4 : Int32))] [])) _
    refine st5 _ ?_
    show Steps p.tables e below (T5.setTop (mkF m 43 #[.val (.int (4 : Int32))] [(.ref w15)])) _
    jvm_step X5.here [X5.here.top, hx, (hb hby d_method_2_code_43), X5.method', Bd.returns, Value.isRef, FieldType.isReference]
    first | (intro acts; rw [hr _ acts rfl rfl rfl]) | rw [hr _ _ rfl rfl rfl]
    exact Steps.refl _
  · show own_Q (some (.ref w15)) h0 n0 _ T5.heap _
    rw [e5]
    exact ⟨rfl, N0, rfl⟩
theorem d_method_2_code_44 : decode method_2_code 44 = .ok (.iload_n 0, 1) := by decide +kernel
theorem d_method_2_code_45 : decode method_2_code 45 = .ok (.iconst 5, 1) := by decide +kernel
theorem d_method_2_code_46 : decode method_2_code 46 = .ok (.if_icmp .ne 7, 3) := by decide +kernel
theorem d_method_2_code_49 : decode method_2_code 49 = .ok (.getstatic 25, 3) := by decide +kernel
theorem d_method_2_code_52 : decode method_2_code 52 = .ok (.areturn, 1) := by decide +kernel
set_option maxRecDepth 65536 in
set_option maxHeartbeats 40000000 in
theorem own_pick_5 (l : Launch) (Z : State) (a0 : Array Value) (hw : ∀ d ∈ tables_1, d.before a0 Z = true) (ws : List Jvm.Cond) (w0 w1 w2 w3 w4 w5 w6 w7 w8 w9 w10 w11 w12 w13 w14 w15 w16 w17 w18 w19 w20 w21 w22 w23 : Addr) (h0 : Heap) (n0 : Nat) (Z0 : n0 ≤ h0.size) (P : own_P Z h0 w0 w1 w2 w3 w4 w5 w6 w7 w8 w9 w10 w11 w12 w13 w14 w15 w16 w17 w18 w19 w20 w21 w22 w23) :
    MetFree l (⟨"apportion/io/DataTypeIsDecimalPinLaw", "pick", "(I)Lapportion/io/DataType;"⟩ : MethodName) (head1 (Jvm.Cond.code (⟨"apportion/io/DataTypeIsDecimalPinLaw", "pick", "(I)Lapportion/io/DataType;"⟩ : MethodName) method_2_code 1 (some (.object "apportion/io/DataType")) :: ws) ({ frames := 0, cells := 0, slots := 0, locals := 0 } : Room)) (fun a U => a = #[(.int (5 : Int32))] ∧ Z.Warmed39 U.vm ∧ U.heap = h0) (fun _ _ _ _ _ => True) (fun _ U o U' => ∃ v L, o = .returned v ∧ own_Q (some (.ref w17)) h0 n0 v U'.heap L ∧ FrameEnd U o U' L ({ frames := 0, cells := 0, slots := 0, locals := 0 } : Room).cells ({ frames := 0, cells := 0, slots := 0, locals := 0 } : Room).slots) := by
  refine MetFree.of_bodySF (plainFor_of_name pn_apportion_io_DataTypeIsDecimalPinLaw) hisR ?_
  intro p e s m args below meth c s₁ Bd hml0 hP hK
  obtain ⟨rfl, hZ, hh⟩ := hP
  have hx := Bd.exec
  have hby := Bd.bytes
  have hml : c.maxLocals = 1 := hml0
  have hown : s.vm.findClass "apportion/io/DataTypeIsDecimalPinLaw" = some m.cls := findClass_of_methodNamed Bd.named
  have hnm := (name_of_methodNamed Bd.named Bd.method).1
  have X0 : Stand p l e ({ frames := 0, cells := 0, slots := 0, locals := 0 } : Room) s m #[(.int (5 : Int32))] below meth c s₁ [] 0 0 := Stand.of_body Bd
  have e0 : s₁.heap = h0 := by rw [← hh, Bd.state]; rfl
  have N0 := Fr.nil n0
  have pre0 : ∀ t, Steps p.tables e below (s₁.setTop (mkF m 0 #[.val (.int (5 : Int32))] [])) t → Steps p.tables e below (s₁.setTop (entryFrame m #[(.int (5 : Int32))] 1)) t := fun t k => castTop (ef_method_2_code_I m (5 : Int32)) k
  have P0 := P; obtain ⟨S0, E0, F0_ordinal, S1, E1, F1_ordinal, S2, E2, F2_ordinal, S3, E3, F3_ordinal, S4, E4, F4_ordinal, S5, E5, F5_ordinal, S6, E6, F6_ordinal, S7, E7, F7_ordinal, S8, E8, F8_ordinal, S9, E9, F9_ordinal, S10, E10, F10_ordinal, S11, E11, F11_ordinal, S12, E12, F12_ordinal, S13, E13, F13_ordinal, S14, E14, F14_ordinal, S15, E15, F15_ordinal, S16, E16, F16_ordinal, S17, E17, F17_ordinal, S18, E18, F18_ordinal, S19, E19, F19_ordinal, S20, E20, F20_ordinal, S21, E21, F21_ordinal, S22, E22, F22_ordinal, S23, E23, F23_ordinal⟩ := P0
  obtain ⟨T6, X6, e6, st6⟩ := getS2 X0 hx hZ hown (host := "") (Or.inl (hw _ (List.mem_of_getElem? (i := 54) rfl))) Via.refl e0 S17 (g := (mkF m 49 #[.val (.int (5 : Int32))] [])) rfl (hb hby d_method_2_code_49)
  obtain ⟨fs, hr, hrun, hended, hW, hsame⟩ := X6.leave (v := some (.ref w17)) (fun h => by rw [Bd.returns] at h; cases h)
  refine ⟨_, _, pre0 _ ?_, hrun, hended, _, _, rfl, ?_, ⟨_, rfl⟩, hW, hsame.mono (by decide) (by decide)⟩
  · show Steps p.tables e below (s₁.setTop (mkF m 0 #[.val (.int (5 : Int32))] [])) _
    refine XS.iloadN X0.here hx rfl (hb hby d_method_2_code_0) rfl ?_
    show Steps p.tables e below (s₁.setTop (mkF m 1 #[.val (.int (5 : Int32))] [(.int (5 : Int32))])) _
    refine XS.ifYes X0.here hx rfl (pc0 := 1) (pc' := 8) rfl (hb hby d_method_2_code_1) rfl (by decide) (by decide) (by decide) ?_
    show Steps p.tables e below (s₁.setTop (mkF m 8 #[.val (.int (5 : Int32))] [])) _
    refine XS.iloadN X0.here hx rfl (hb hby d_method_2_code_8) rfl ?_
    show Steps p.tables e below (s₁.setTop (mkF m 9 #[.val (.int (5 : Int32))] [(.int (5 : Int32))])) _
    refine XT.iconstV X0.here hx rfl (1 : Int32) (hb hby d_method_2_code_9) rfl ?_
    show Steps p.tables e below (s₁.setTop (mkF m 10 #[.val (.int (5 : Int32))] [(.int (1 : Int32)), (.int (5 : Int32))])) _
    refine XS.icmpYes X0.here hx rfl (pc0 := 10) (pc' := 17) rfl (hb hby d_method_2_code_10) rfl (by decide) (by decide) (by decide) ?_
    show Steps p.tables e below (s₁.setTop (mkF m 17 #[.val (.int (5 : Int32))] [])) _
    refine XS.iloadN X0.here hx rfl (hb hby d_method_2_code_17) rfl ?_
    show Steps p.tables e below (s₁.setTop (mkF m 18 #[.val (.int (5 : Int32))] [(.int (5 : Int32))])) _
    refine XT.iconstV X0.here hx rfl (2 : Int32) (hb hby d_method_2_code_18) rfl ?_
    show Steps p.tables e below (s₁.setTop (mkF m 19 #[.val (.int (5 : Int32))] [(.int (2 : Int32)), (.int (5 : Int32))])) _
    refine XS.icmpYes X0.here hx rfl (pc0 := 19) (pc' := 26) rfl (hb hby d_method_2_code_19) rfl (by decide) (by decide) (by decide) ?_
    show Steps p.tables e below (s₁.setTop (mkF m 26 #[.val (.int (5 : Int32))] [])) _
    refine XS.iloadN X0.here hx rfl (hb hby d_method_2_code_26) rfl ?_
    show Steps p.tables e below (s₁.setTop (mkF m 27 #[.val (.int (5 : Int32))] [(.int (5 : Int32))])) _
    refine XT.iconstV X0.here hx rfl (3 : Int32) (hb hby d_method_2_code_27) rfl ?_
    show Steps p.tables e below (s₁.setTop (mkF m 28 #[.val (.int (5 : Int32))] [(.int (3 : Int32)), (.int (5 : Int32))])) _
    refine XS.icmpYes X0.here hx rfl (pc0 := 28) (pc' := 35) rfl (hb hby d_method_2_code_28) rfl (by decide) (by decide) (by decide) ?_
    show Steps p.tables e below (s₁.setTop (mkF m 35 #[.val (.int (5 : Int32))] [])) _
    refine XS.iloadN X0.here hx rfl (hb hby d_method_2_code_35) rfl ?_
    show Steps p.tables e below (s₁.setTop (mkF m 36 #[.val (.int (5 : Int32))] [(.int (5 : Int32))])) _
    refine XT.iconstV X0.here hx rfl (4 : Int32) (hb hby d_method_2_code_36) rfl ?_
    show Steps p.tables e below (s₁.setTop (mkF m 37 #[.val (.int (5 : Int32))] [(.int (4 : Int32)), (.int (5 : Int32))])) _
    refine XS.icmpYes X0.here hx rfl (pc0 := 37) (pc' := 44) rfl (hb hby d_method_2_code_37) rfl (by decide) (by decide) (by decide) ?_
    show Steps p.tables e below (s₁.setTop (mkF m 44 #[.val (.int (5 : Int32))] [])) _
    refine XS.iloadN X0.here hx rfl (hb hby d_method_2_code_44) rfl ?_
    show Steps p.tables e below (s₁.setTop (mkF m 45 #[.val (.int (5 : Int32))] [(.int (5 : Int32))])) _
    refine XT.iconstV X0.here hx rfl (5 : Int32) (hb hby d_method_2_code_45) rfl ?_
    show Steps p.tables e below (s₁.setTop (mkF m 46 #[.val (.int (5 : Int32))] [(.int (5 : Int32)), (.int (5 : Int32))])) _
    refine XS.icmpNo X0.here hx rfl (hb hby d_method_2_code_46) rfl (by decide) ?_
    show Steps p.tables e below (s₁.setTop (mkF m 49 #[.val (.int (5 : Int32))] [])) _
    refine st6 _ ?_
    show Steps p.tables e below (T6.setTop (mkF m 52 #[.val (.int (5 : Int32))] [(.ref w17)])) _
    jvm_step X6.here [X6.here.top, hx, (hb hby d_method_2_code_52), X6.method', Bd.returns, Value.isRef, FieldType.isReference]
    first | (intro acts; rw [hr _ acts rfl rfl rfl]) | rw [hr _ _ rfl rfl rfl]
    exact Steps.refl _
  · show own_Q (some (.ref w17)) h0 n0 _ T6.heap _
    rw [e6]
    exact ⟨rfl, N0, rfl⟩
theorem d_method_2_code_53 : decode method_2_code 53 = .ok (.iload_n 0, 1) := by decide +kernel
theorem d_method_2_code_54 : decode method_2_code 54 = .ok (.bipush 6, 2) := by decide +kernel
theorem d_method_2_code_56 : decode method_2_code 56 = .ok (.if_icmp .ne 7, 3) := by decide +kernel
theorem d_method_2_code_59 : decode method_2_code 59 = .ok (.getstatic 28, 3) := by decide +kernel
theorem d_method_2_code_62 : decode method_2_code 62 = .ok (.areturn, 1) := by decide +kernel
set_option maxRecDepth 65536 in
set_option maxHeartbeats 40000000 in
theorem own_pick_6 (l : Launch) (Z : State) (a0 : Array Value) (hw : ∀ d ∈ tables_1, d.before a0 Z = true) (ws : List Jvm.Cond) (w0 w1 w2 w3 w4 w5 w6 w7 w8 w9 w10 w11 w12 w13 w14 w15 w16 w17 w18 w19 w20 w21 w22 w23 : Addr) (h0 : Heap) (n0 : Nat) (Z0 : n0 ≤ h0.size) (P : own_P Z h0 w0 w1 w2 w3 w4 w5 w6 w7 w8 w9 w10 w11 w12 w13 w14 w15 w16 w17 w18 w19 w20 w21 w22 w23) :
    MetFree l (⟨"apportion/io/DataTypeIsDecimalPinLaw", "pick", "(I)Lapportion/io/DataType;"⟩ : MethodName) (head1 (Jvm.Cond.code (⟨"apportion/io/DataTypeIsDecimalPinLaw", "pick", "(I)Lapportion/io/DataType;"⟩ : MethodName) method_2_code 1 (some (.object "apportion/io/DataType")) :: ws) ({ frames := 0, cells := 0, slots := 0, locals := 0 } : Room)) (fun a U => a = #[(.int (6 : Int32))] ∧ Z.Warmed39 U.vm ∧ U.heap = h0) (fun _ _ _ _ _ => True) (fun _ U o U' => ∃ v L, o = .returned v ∧ own_Q (some (.ref w18)) h0 n0 v U'.heap L ∧ FrameEnd U o U' L ({ frames := 0, cells := 0, slots := 0, locals := 0 } : Room).cells ({ frames := 0, cells := 0, slots := 0, locals := 0 } : Room).slots) := by
  refine MetFree.of_bodySF (plainFor_of_name pn_apportion_io_DataTypeIsDecimalPinLaw) hisR ?_
  intro p e s m args below meth c s₁ Bd hml0 hP hK
  obtain ⟨rfl, hZ, hh⟩ := hP
  have hx := Bd.exec
  have hby := Bd.bytes
  have hml : c.maxLocals = 1 := hml0
  have hown : s.vm.findClass "apportion/io/DataTypeIsDecimalPinLaw" = some m.cls := findClass_of_methodNamed Bd.named
  have hnm := (name_of_methodNamed Bd.named Bd.method).1
  have X0 : Stand p l e ({ frames := 0, cells := 0, slots := 0, locals := 0 } : Room) s m #[(.int (6 : Int32))] below meth c s₁ [] 0 0 := Stand.of_body Bd
  have e0 : s₁.heap = h0 := by rw [← hh, Bd.state]; rfl
  have N0 := Fr.nil n0
  have pre0 : ∀ t, Steps p.tables e below (s₁.setTop (mkF m 0 #[.val (.int (6 : Int32))] [])) t → Steps p.tables e below (s₁.setTop (entryFrame m #[(.int (6 : Int32))] 1)) t := fun t k => castTop (ef_method_2_code_I m (6 : Int32)) k
  have P0 := P; obtain ⟨S0, E0, F0_ordinal, S1, E1, F1_ordinal, S2, E2, F2_ordinal, S3, E3, F3_ordinal, S4, E4, F4_ordinal, S5, E5, F5_ordinal, S6, E6, F6_ordinal, S7, E7, F7_ordinal, S8, E8, F8_ordinal, S9, E9, F9_ordinal, S10, E10, F10_ordinal, S11, E11, F11_ordinal, S12, E12, F12_ordinal, S13, E13, F13_ordinal, S14, E14, F14_ordinal, S15, E15, F15_ordinal, S16, E16, F16_ordinal, S17, E17, F17_ordinal, S18, E18, F18_ordinal, S19, E19, F19_ordinal, S20, E20, F20_ordinal, S21, E21, F21_ordinal, S22, E22, F22_ordinal, S23, E23, F23_ordinal⟩ := P0
  obtain ⟨T7, X7, e7, st7⟩ := getS2 X0 hx hZ hown (host := "") (Or.inl (hw _ (List.mem_of_getElem? (i := 56) rfl))) Via.refl e0 S18 (g := (mkF m 59 #[.val (.int (6 : Int32))] [])) rfl (hb hby d_method_2_code_59)
  obtain ⟨fs, hr, hrun, hended, hW, hsame⟩ := X7.leave (v := some (.ref w18)) (fun h => by rw [Bd.returns] at h; cases h)
  refine ⟨_, _, pre0 _ ?_, hrun, hended, _, _, rfl, ?_, ⟨_, rfl⟩, hW, hsame.mono (by decide) (by decide)⟩
  · show Steps p.tables e below (s₁.setTop (mkF m 0 #[.val (.int (6 : Int32))] [])) _
    refine XS.iloadN X0.here hx rfl (hb hby d_method_2_code_0) rfl ?_
    show Steps p.tables e below (s₁.setTop (mkF m 1 #[.val (.int (6 : Int32))] [(.int (6 : Int32))])) _
    refine XS.ifYes X0.here hx rfl (pc0 := 1) (pc' := 8) rfl (hb hby d_method_2_code_1) rfl (by decide) (by decide) (by decide) ?_
    show Steps p.tables e below (s₁.setTop (mkF m 8 #[.val (.int (6 : Int32))] [])) _
    refine XS.iloadN X0.here hx rfl (hb hby d_method_2_code_8) rfl ?_
    show Steps p.tables e below (s₁.setTop (mkF m 9 #[.val (.int (6 : Int32))] [(.int (6 : Int32))])) _
    refine XT.iconstV X0.here hx rfl (1 : Int32) (hb hby d_method_2_code_9) rfl ?_
    show Steps p.tables e below (s₁.setTop (mkF m 10 #[.val (.int (6 : Int32))] [(.int (1 : Int32)), (.int (6 : Int32))])) _
    refine XS.icmpYes X0.here hx rfl (pc0 := 10) (pc' := 17) rfl (hb hby d_method_2_code_10) rfl (by decide) (by decide) (by decide) ?_
    show Steps p.tables e below (s₁.setTop (mkF m 17 #[.val (.int (6 : Int32))] [])) _
    refine XS.iloadN X0.here hx rfl (hb hby d_method_2_code_17) rfl ?_
    show Steps p.tables e below (s₁.setTop (mkF m 18 #[.val (.int (6 : Int32))] [(.int (6 : Int32))])) _
    refine XT.iconstV X0.here hx rfl (2 : Int32) (hb hby d_method_2_code_18) rfl ?_
    show Steps p.tables e below (s₁.setTop (mkF m 19 #[.val (.int (6 : Int32))] [(.int (2 : Int32)), (.int (6 : Int32))])) _
    refine XS.icmpYes X0.here hx rfl (pc0 := 19) (pc' := 26) rfl (hb hby d_method_2_code_19) rfl (by decide) (by decide) (by decide) ?_
    show Steps p.tables e below (s₁.setTop (mkF m 26 #[.val (.int (6 : Int32))] [])) _
    refine XS.iloadN X0.here hx rfl (hb hby d_method_2_code_26) rfl ?_
    show Steps p.tables e below (s₁.setTop (mkF m 27 #[.val (.int (6 : Int32))] [(.int (6 : Int32))])) _
    refine XT.iconstV X0.here hx rfl (3 : Int32) (hb hby d_method_2_code_27) rfl ?_
    show Steps p.tables e below (s₁.setTop (mkF m 28 #[.val (.int (6 : Int32))] [(.int (3 : Int32)), (.int (6 : Int32))])) _
    refine XS.icmpYes X0.here hx rfl (pc0 := 28) (pc' := 35) rfl (hb hby d_method_2_code_28) rfl (by decide) (by decide) (by decide) ?_
    show Steps p.tables e below (s₁.setTop (mkF m 35 #[.val (.int (6 : Int32))] [])) _
    refine XS.iloadN X0.here hx rfl (hb hby d_method_2_code_35) rfl ?_
    show Steps p.tables e below (s₁.setTop (mkF m 36 #[.val (.int (6 : Int32))] [(.int (6 : Int32))])) _
    refine XT.iconstV X0.here hx rfl (4 : Int32) (hb hby d_method_2_code_36) rfl ?_
    show Steps p.tables e below (s₁.setTop (mkF m 37 #[.val (.int (6 : Int32))] [(.int (4 : Int32)), (.int (6 : Int32))])) _
    refine XS.icmpYes X0.here hx rfl (pc0 := 37) (pc' := 44) rfl (hb hby d_method_2_code_37) rfl (by decide) (by decide) (by decide) ?_
    show Steps p.tables e below (s₁.setTop (mkF m 44 #[.val (.int (6 : Int32))] [])) _
    refine XS.iloadN X0.here hx rfl (hb hby d_method_2_code_44) rfl ?_
    show Steps p.tables e below (s₁.setTop (mkF m 45 #[.val (.int (6 : Int32))] [(.int (6 : Int32))])) _
    refine XT.iconstV X0.here hx rfl (5 : Int32) (hb hby d_method_2_code_45) rfl ?_
    show Steps p.tables e below (s₁.setTop (mkF m 46 #[.val (.int (6 : Int32))] [(.int (5 : Int32)), (.int (6 : Int32))])) _
    refine XS.icmpYes X0.here hx rfl (pc0 := 46) (pc' := 53) rfl (hb hby d_method_2_code_46) rfl (by decide) (by decide) (by decide) ?_
    show Steps p.tables e below (s₁.setTop (mkF m 53 #[.val (.int (6 : Int32))] [])) _
    refine XS.iloadN X0.here hx rfl (hb hby d_method_2_code_53) rfl ?_
    show Steps p.tables e below (s₁.setTop (mkF m 54 #[.val (.int (6 : Int32))] [(.int (6 : Int32))])) _
    refine XT.bipushV X0.here hx rfl (6 : Int32) (hb hby d_method_2_code_54) (by decide) ?_
    show Steps p.tables e below (s₁.setTop (mkF m 56 #[.val (.int (6 : Int32))] [(.int (6 : Int32)), (.int (6 : Int32))])) _
    refine XS.icmpNo X0.here hx rfl (hb hby d_method_2_code_56) rfl (by decide) ?_
    show Steps p.tables e below (s₁.setTop (mkF m 59 #[.val (.int (6 : Int32))] [])) _
    refine st7 _ ?_
    show Steps p.tables e below (T7.setTop (mkF m 62 #[.val (.int (6 : Int32))] [(.ref w18)])) _
    jvm_step X7.here [X7.here.top, hx, (hb hby d_method_2_code_62), X7.method', Bd.returns, Value.isRef, FieldType.isReference]
    first | (intro acts; rw [hr _ acts rfl rfl rfl]) | rw [hr _ _ rfl rfl rfl]
    exact Steps.refl _
  · show own_Q (some (.ref w18)) h0 n0 _ T7.heap _
    rw [e7]
    exact ⟨rfl, N0, rfl⟩
theorem d_method_2_code_63 : decode method_2_code 63 = .ok (.iload_n 0, 1) := by decide +kernel
theorem d_method_2_code_64 : decode method_2_code 64 = .ok (.bipush 7, 2) := by decide +kernel
theorem d_method_2_code_66 : decode method_2_code 66 = .ok (.if_icmp .ne 7, 3) := by decide +kernel
theorem d_method_2_code_69 : decode method_2_code 69 = .ok (.getstatic 31, 3) := by decide +kernel
theorem d_method_2_code_72 : decode method_2_code 72 = .ok (.areturn, 1) := by decide +kernel
set_option maxRecDepth 65536 in
set_option maxHeartbeats 40000000 in
theorem own_pick_7 (l : Launch) (Z : State) (a0 : Array Value) (hw : ∀ d ∈ tables_1, d.before a0 Z = true) (ws : List Jvm.Cond) (w0 w1 w2 w3 w4 w5 w6 w7 w8 w9 w10 w11 w12 w13 w14 w15 w16 w17 w18 w19 w20 w21 w22 w23 : Addr) (h0 : Heap) (n0 : Nat) (Z0 : n0 ≤ h0.size) (P : own_P Z h0 w0 w1 w2 w3 w4 w5 w6 w7 w8 w9 w10 w11 w12 w13 w14 w15 w16 w17 w18 w19 w20 w21 w22 w23) :
    MetFree l (⟨"apportion/io/DataTypeIsDecimalPinLaw", "pick", "(I)Lapportion/io/DataType;"⟩ : MethodName) (head1 (Jvm.Cond.code (⟨"apportion/io/DataTypeIsDecimalPinLaw", "pick", "(I)Lapportion/io/DataType;"⟩ : MethodName) method_2_code 1 (some (.object "apportion/io/DataType")) :: ws) ({ frames := 0, cells := 0, slots := 0, locals := 0 } : Room)) (fun a U => a = #[(.int (7 : Int32))] ∧ Z.Warmed39 U.vm ∧ U.heap = h0) (fun _ _ _ _ _ => True) (fun _ U o U' => ∃ v L, o = .returned v ∧ own_Q (some (.ref w6)) h0 n0 v U'.heap L ∧ FrameEnd U o U' L ({ frames := 0, cells := 0, slots := 0, locals := 0 } : Room).cells ({ frames := 0, cells := 0, slots := 0, locals := 0 } : Room).slots) := by
  refine MetFree.of_bodySF (plainFor_of_name pn_apportion_io_DataTypeIsDecimalPinLaw) hisR ?_
  intro p e s m args below meth c s₁ Bd hml0 hP hK
  obtain ⟨rfl, hZ, hh⟩ := hP
  have hx := Bd.exec
  have hby := Bd.bytes
  have hml : c.maxLocals = 1 := hml0
  have hown : s.vm.findClass "apportion/io/DataTypeIsDecimalPinLaw" = some m.cls := findClass_of_methodNamed Bd.named
  have hnm := (name_of_methodNamed Bd.named Bd.method).1
  have X0 : Stand p l e ({ frames := 0, cells := 0, slots := 0, locals := 0 } : Room) s m #[(.int (7 : Int32))] below meth c s₁ [] 0 0 := Stand.of_body Bd
  have e0 : s₁.heap = h0 := by rw [← hh, Bd.state]; rfl
  have N0 := Fr.nil n0
  have pre0 : ∀ t, Steps p.tables e below (s₁.setTop (mkF m 0 #[.val (.int (7 : Int32))] [])) t → Steps p.tables e below (s₁.setTop (entryFrame m #[(.int (7 : Int32))] 1)) t := fun t k => castTop (ef_method_2_code_I m (7 : Int32)) k
  have P0 := P; obtain ⟨S0, E0, F0_ordinal, S1, E1, F1_ordinal, S2, E2, F2_ordinal, S3, E3, F3_ordinal, S4, E4, F4_ordinal, S5, E5, F5_ordinal, S6, E6, F6_ordinal, S7, E7, F7_ordinal, S8, E8, F8_ordinal, S9, E9, F9_ordinal, S10, E10, F10_ordinal, S11, E11, F11_ordinal, S12, E12, F12_ordinal, S13, E13, F13_ordinal, S14, E14, F14_ordinal, S15, E15, F15_ordinal, S16, E16, F16_ordinal, S17, E17, F17_ordinal, S18, E18, F18_ordinal, S19, E19, F19_ordinal, S20, E20, F20_ordinal, S21, E21, F21_ordinal, S22, E22, F22_ordinal, S23, E23, F23_ordinal⟩ := P0
  obtain ⟨T8, X8, e8, st8⟩ := getS2 X0 hx hZ hown (host := "") (Or.inl (hw _ (List.mem_of_getElem? (i := 32) rfl))) Via.refl e0 S6 (g := (mkF m 69 #[.val (.int (7 : Int32))] [])) rfl (hb hby d_method_2_code_69)
  obtain ⟨fs, hr, hrun, hended, hW, hsame⟩ := X8.leave (v := some (.ref w6)) (fun h => by rw [Bd.returns] at h; cases h)
  refine ⟨_, _, pre0 _ ?_, hrun, hended, _, _, rfl, ?_, ⟨_, rfl⟩, hW, hsame.mono (by decide) (by decide)⟩
  · show Steps p.tables e below (s₁.setTop (mkF m 0 #[.val (.int (7 : Int32))] [])) _
    refine XS.iloadN X0.here hx rfl (hb hby d_method_2_code_0) rfl ?_
    show Steps p.tables e below (s₁.setTop (mkF m 1 #[.val (.int (7 : Int32))] [(.int (7 : Int32))])) _
    refine XS.ifYes X0.here hx rfl (pc0 := 1) (pc' := 8) rfl (hb hby d_method_2_code_1) rfl (by decide) (by decide) (by decide) ?_
    show Steps p.tables e below (s₁.setTop (mkF m 8 #[.val (.int (7 : Int32))] [])) _
    refine XS.iloadN X0.here hx rfl (hb hby d_method_2_code_8) rfl ?_
    show Steps p.tables e below (s₁.setTop (mkF m 9 #[.val (.int (7 : Int32))] [(.int (7 : Int32))])) _
    refine XT.iconstV X0.here hx rfl (1 : Int32) (hb hby d_method_2_code_9) rfl ?_
    show Steps p.tables e below (s₁.setTop (mkF m 10 #[.val (.int (7 : Int32))] [(.int (1 : Int32)), (.int (7 : Int32))])) _
    refine XS.icmpYes X0.here hx rfl (pc0 := 10) (pc' := 17) rfl (hb hby d_method_2_code_10) rfl (by decide) (by decide) (by decide) ?_
    show Steps p.tables e below (s₁.setTop (mkF m 17 #[.val (.int (7 : Int32))] [])) _
    refine XS.iloadN X0.here hx rfl (hb hby d_method_2_code_17) rfl ?_
    show Steps p.tables e below (s₁.setTop (mkF m 18 #[.val (.int (7 : Int32))] [(.int (7 : Int32))])) _
    refine XT.iconstV X0.here hx rfl (2 : Int32) (hb hby d_method_2_code_18) rfl ?_
    show Steps p.tables e below (s₁.setTop (mkF m 19 #[.val (.int (7 : Int32))] [(.int (2 : Int32)), (.int (7 : Int32))])) _
    refine XS.icmpYes X0.here hx rfl (pc0 := 19) (pc' := 26) rfl (hb hby d_method_2_code_19) rfl (by decide) (by decide) (by decide) ?_
    show Steps p.tables e below (s₁.setTop (mkF m 26 #[.val (.int (7 : Int32))] [])) _
    refine XS.iloadN X0.here hx rfl (hb hby d_method_2_code_26) rfl ?_
    show Steps p.tables e below (s₁.setTop (mkF m 27 #[.val (.int (7 : Int32))] [(.int (7 : Int32))])) _
    refine XT.iconstV X0.here hx rfl (3 : Int32) (hb hby d_method_2_code_27) rfl ?_
    show Steps p.tables e below (s₁.setTop (mkF m 28 #[.val (.int (7 : Int32))] [(.int (3 : Int32)), (.int (7 : Int32))])) _
    refine XS.icmpYes X0.here hx rfl (pc0 := 28) (pc' := 35) rfl (hb hby d_method_2_code_28) rfl (by decide) (by decide) (by decide) ?_
    show Steps p.tables e below (s₁.setTop (mkF m 35 #[.val (.int (7 : Int32))] [])) _
    refine XS.iloadN X0.here hx rfl (hb hby d_method_2_code_35) rfl ?_
    show Steps p.tables e below (s₁.setTop (mkF m 36 #[.val (.int (7 : Int32))] [(.int (7 : Int32))])) _
    refine XT.iconstV X0.here hx rfl (4 : Int32) (hb hby d_method_2_code_36) rfl ?_
    show Steps p.tables e below (s₁.setTop (mkF m 37 #[.val (.int (7 : Int32))] [(.int (4 : Int32)), (.int (7 : Int32))])) _
    refine XS.icmpYes X0.here hx rfl (pc0 := 37) (pc' := 44) rfl (hb hby d_method_2_code_37) rfl (by decide) (by decide) (by decide) ?_
    show Steps p.tables e below (s₁.setTop (mkF m 44 #[.val (.int (7 : Int32))] [])) _
    refine XS.iloadN X0.here hx rfl (hb hby d_method_2_code_44) rfl ?_
    show Steps p.tables e below (s₁.setTop (mkF m 45 #[.val (.int (7 : Int32))] [(.int (7 : Int32))])) _
    refine XT.iconstV X0.here hx rfl (5 : Int32) (hb hby d_method_2_code_45) rfl ?_
    show Steps p.tables e below (s₁.setTop (mkF m 46 #[.val (.int (7 : Int32))] [(.int (5 : Int32)), (.int (7 : Int32))])) _
    refine XS.icmpYes X0.here hx rfl (pc0 := 46) (pc' := 53) rfl (hb hby d_method_2_code_46) rfl (by decide) (by decide) (by decide) ?_
    show Steps p.tables e below (s₁.setTop (mkF m 53 #[.val (.int (7 : Int32))] [])) _
    refine XS.iloadN X0.here hx rfl (hb hby d_method_2_code_53) rfl ?_
    show Steps p.tables e below (s₁.setTop (mkF m 54 #[.val (.int (7 : Int32))] [(.int (7 : Int32))])) _
    refine XT.bipushV X0.here hx rfl (6 : Int32) (hb hby d_method_2_code_54) (by decide) ?_
    show Steps p.tables e below (s₁.setTop (mkF m 56 #[.val (.int (7 : Int32))] [(.int (6 : Int32)), (.int (7 : Int32))])) _
    refine XS.icmpYes X0.here hx rfl (pc0 := 56) (pc' := 63) rfl (hb hby d_method_2_code_56) rfl (by decide) (by decide) (by decide) ?_
    show Steps p.tables e below (s₁.setTop (mkF m 63 #[.val (.int (7 : Int32))] [])) _
    refine XS.iloadN X0.here hx rfl (hb hby d_method_2_code_63) rfl ?_
    show Steps p.tables e below (s₁.setTop (mkF m 64 #[.val (.int (7 : Int32))] [(.int (7 : Int32))])) _
    refine XT.bipushV X0.here hx rfl (7 : Int32) (hb hby d_method_2_code_64) (by decide) ?_
    show Steps p.tables e below (s₁.setTop (mkF m 66 #[.val (.int (7 : Int32))] [(.int (7 : Int32)), (.int (7 : Int32))])) _
    refine XS.icmpNo X0.here hx rfl (hb hby d_method_2_code_66) rfl (by decide) ?_
    show Steps p.tables e below (s₁.setTop (mkF m 69 #[.val (.int (7 : Int32))] [])) _
    refine st8 _ ?_
    show Steps p.tables e below (T8.setTop (mkF m 72 #[.val (.int (7 : Int32))] [(.ref w6)])) _
    jvm_step X8.here [X8.here.top, hx, (hb hby d_method_2_code_72), X8.method', Bd.returns, Value.isRef, FieldType.isReference]
    first | (intro acts; rw [hr _ acts rfl rfl rfl]) | rw [hr _ _ rfl rfl rfl]
    exact Steps.refl _
  · show own_Q (some (.ref w6)) h0 n0 _ T8.heap _
    rw [e8]
    exact ⟨rfl, N0, rfl⟩
theorem d_method_2_code_73 : decode method_2_code 73 = .ok (.iload_n 0, 1) := by decide +kernel
theorem d_method_2_code_74 : decode method_2_code 74 = .ok (.bipush 8, 2) := by decide +kernel
theorem d_method_2_code_76 : decode method_2_code 76 = .ok (.if_icmp .ne 7, 3) := by decide +kernel
theorem d_method_2_code_79 : decode method_2_code 79 = .ok (.getstatic 34, 3) := by decide +kernel
theorem d_method_2_code_82 : decode method_2_code 82 = .ok (.areturn, 1) := by decide +kernel
set_option maxRecDepth 65536 in
set_option maxHeartbeats 40000000 in
theorem own_pick_8 (l : Launch) (Z : State) (a0 : Array Value) (hw : ∀ d ∈ tables_1, d.before a0 Z = true) (ws : List Jvm.Cond) (w0 w1 w2 w3 w4 w5 w6 w7 w8 w9 w10 w11 w12 w13 w14 w15 w16 w17 w18 w19 w20 w21 w22 w23 : Addr) (h0 : Heap) (n0 : Nat) (Z0 : n0 ≤ h0.size) (P : own_P Z h0 w0 w1 w2 w3 w4 w5 w6 w7 w8 w9 w10 w11 w12 w13 w14 w15 w16 w17 w18 w19 w20 w21 w22 w23) :
    MetFree l (⟨"apportion/io/DataTypeIsDecimalPinLaw", "pick", "(I)Lapportion/io/DataType;"⟩ : MethodName) (head1 (Jvm.Cond.code (⟨"apportion/io/DataTypeIsDecimalPinLaw", "pick", "(I)Lapportion/io/DataType;"⟩ : MethodName) method_2_code 1 (some (.object "apportion/io/DataType")) :: ws) ({ frames := 0, cells := 0, slots := 0, locals := 0 } : Room)) (fun a U => a = #[(.int (8 : Int32))] ∧ Z.Warmed39 U.vm ∧ U.heap = h0) (fun _ _ _ _ _ => True) (fun _ U o U' => ∃ v L, o = .returned v ∧ own_Q (some (.ref w9)) h0 n0 v U'.heap L ∧ FrameEnd U o U' L ({ frames := 0, cells := 0, slots := 0, locals := 0 } : Room).cells ({ frames := 0, cells := 0, slots := 0, locals := 0 } : Room).slots) := by
  refine MetFree.of_bodySF (plainFor_of_name pn_apportion_io_DataTypeIsDecimalPinLaw) hisR ?_
  intro p e s m args below meth c s₁ Bd hml0 hP hK
  obtain ⟨rfl, hZ, hh⟩ := hP
  have hx := Bd.exec
  have hby := Bd.bytes
  have hml : c.maxLocals = 1 := hml0
  have hown : s.vm.findClass "apportion/io/DataTypeIsDecimalPinLaw" = some m.cls := findClass_of_methodNamed Bd.named
  have hnm := (name_of_methodNamed Bd.named Bd.method).1
  have X0 : Stand p l e ({ frames := 0, cells := 0, slots := 0, locals := 0 } : Room) s m #[(.int (8 : Int32))] below meth c s₁ [] 0 0 := Stand.of_body Bd
  have e0 : s₁.heap = h0 := by rw [← hh, Bd.state]; rfl
  have N0 := Fr.nil n0
  have pre0 : ∀ t, Steps p.tables e below (s₁.setTop (mkF m 0 #[.val (.int (8 : Int32))] [])) t → Steps p.tables e below (s₁.setTop (entryFrame m #[(.int (8 : Int32))] 1)) t := fun t k => castTop (ef_method_2_code_I m (8 : Int32)) k
  have P0 := P; obtain ⟨S0, E0, F0_ordinal, S1, E1, F1_ordinal, S2, E2, F2_ordinal, S3, E3, F3_ordinal, S4, E4, F4_ordinal, S5, E5, F5_ordinal, S6, E6, F6_ordinal, S7, E7, F7_ordinal, S8, E8, F8_ordinal, S9, E9, F9_ordinal, S10, E10, F10_ordinal, S11, E11, F11_ordinal, S12, E12, F12_ordinal, S13, E13, F13_ordinal, S14, E14, F14_ordinal, S15, E15, F15_ordinal, S16, E16, F16_ordinal, S17, E17, F17_ordinal, S18, E18, F18_ordinal, S19, E19, F19_ordinal, S20, E20, F20_ordinal, S21, E21, F21_ordinal, S22, E22, F22_ordinal, S23, E23, F23_ordinal⟩ := P0
  obtain ⟨T9, X9, e9, st9⟩ := getS2 X0 hx hZ hown (host := "") (Or.inl (hw _ (List.mem_of_getElem? (i := 38) rfl))) Via.refl e0 S9 (g := (mkF m 79 #[.val (.int (8 : Int32))] [])) rfl (hb hby d_method_2_code_79)
  obtain ⟨fs, hr, hrun, hended, hW, hsame⟩ := X9.leave (v := some (.ref w9)) (fun h => by rw [Bd.returns] at h; cases h)
  refine ⟨_, _, pre0 _ ?_, hrun, hended, _, _, rfl, ?_, ⟨_, rfl⟩, hW, hsame.mono (by decide) (by decide)⟩
  · show Steps p.tables e below (s₁.setTop (mkF m 0 #[.val (.int (8 : Int32))] [])) _
    refine XS.iloadN X0.here hx rfl (hb hby d_method_2_code_0) rfl ?_
    show Steps p.tables e below (s₁.setTop (mkF m 1 #[.val (.int (8 : Int32))] [(.int (8 : Int32))])) _
    refine XS.ifYes X0.here hx rfl (pc0 := 1) (pc' := 8) rfl (hb hby d_method_2_code_1) rfl (by decide) (by decide) (by decide) ?_
    show Steps p.tables e below (s₁.setTop (mkF m 8 #[.val (.int (8 : Int32))] [])) _
    refine XS.iloadN X0.here hx rfl (hb hby d_method_2_code_8) rfl ?_
    show Steps p.tables e below (s₁.setTop (mkF m 9 #[.val (.int (8 : Int32))] [(.int (8 : Int32))])) _
    refine XT.iconstV X0.here hx rfl (1 : Int32) (hb hby d_method_2_code_9) rfl ?_
    show Steps p.tables e below (s₁.setTop (mkF m 10 #[.val (.int (8 : Int32))] [(.int (1 : Int32)), (.int (8 : Int32))])) _
    refine XS.icmpYes X0.here hx rfl (pc0 := 10) (pc' := 17) rfl (hb hby d_method_2_code_10) rfl (by decide) (by decide) (by decide) ?_
    show Steps p.tables e below (s₁.setTop (mkF m 17 #[.val (.int (8 : Int32))] [])) _
    refine XS.iloadN X0.here hx rfl (hb hby d_method_2_code_17) rfl ?_
    show Steps p.tables e below (s₁.setTop (mkF m 18 #[.val (.int (8 : Int32))] [(.int (8 : Int32))])) _
    refine XT.iconstV X0.here hx rfl (2 : Int32) (hb hby d_method_2_code_18) rfl ?_
    show Steps p.tables e below (s₁.setTop (mkF m 19 #[.val (.int (8 : Int32))] [(.int (2 : Int32)), (.int (8 : Int32))])) _
    refine XS.icmpYes X0.here hx rfl (pc0 := 19) (pc' := 26) rfl (hb hby d_method_2_code_19) rfl (by decide) (by decide) (by decide) ?_
    show Steps p.tables e below (s₁.setTop (mkF m 26 #[.val (.int (8 : Int32))] [])) _
    refine XS.iloadN X0.here hx rfl (hb hby d_method_2_code_26) rfl ?_
    show Steps p.tables e below (s₁.setTop (mkF m 27 #[.val (.int (8 : Int32))] [(.int (8 : Int32))])) _
    refine XT.iconstV X0.here hx rfl (3 : Int32) (hb hby d_method_2_code_27) rfl ?_
    show Steps p.tables e below (s₁.setTop (mkF m 28 #[.val (.int (8 : Int32))] [(.int (3 : Int32)), (.int (8 : Int32))])) _
    refine XS.icmpYes X0.here hx rfl (pc0 := 28) (pc' := 35) rfl (hb hby d_method_2_code_28) rfl (by decide) (by decide) (by decide) ?_
    show Steps p.tables e below (s₁.setTop (mkF m 35 #[.val (.int (8 : Int32))] [])) _
    refine XS.iloadN X0.here hx rfl (hb hby d_method_2_code_35) rfl ?_
    show Steps p.tables e below (s₁.setTop (mkF m 36 #[.val (.int (8 : Int32))] [(.int (8 : Int32))])) _
    refine XT.iconstV X0.here hx rfl (4 : Int32) (hb hby d_method_2_code_36) rfl ?_
    show Steps p.tables e below (s₁.setTop (mkF m 37 #[.val (.int (8 : Int32))] [(.int (4 : Int32)), (.int (8 : Int32))])) _
    refine XS.icmpYes X0.here hx rfl (pc0 := 37) (pc' := 44) rfl (hb hby d_method_2_code_37) rfl (by decide) (by decide) (by decide) ?_
    show Steps p.tables e below (s₁.setTop (mkF m 44 #[.val (.int (8 : Int32))] [])) _
    refine XS.iloadN X0.here hx rfl (hb hby d_method_2_code_44) rfl ?_
    show Steps p.tables e below (s₁.setTop (mkF m 45 #[.val (.int (8 : Int32))] [(.int (8 : Int32))])) _
    refine XT.iconstV X0.here hx rfl (5 : Int32) (hb hby d_method_2_code_45) rfl ?_
    show Steps p.tables e below (s₁.setTop (mkF m 46 #[.val (.int (8 : Int32))] [(.int (5 : Int32)), (.int (8 : Int32))])) _
    refine XS.icmpYes X0.here hx rfl (pc0 := 46) (pc' := 53) rfl (hb hby d_method_2_code_46) rfl (by decide) (by decide) (by decide) ?_
    show Steps p.tables e below (s₁.setTop (mkF m 53 #[.val (.int (8 : Int32))] [])) _
    refine XS.iloadN X0.here hx rfl (hb hby d_method_2_code_53) rfl ?_
    show Steps p.tables e below (s₁.setTop (mkF m 54 #[.val (.int (8 : Int32))] [(.int (8 : Int32))])) _
    refine XT.bipushV X0.here hx rfl (6 : Int32) (hb hby d_method_2_code_54) (by decide) ?_
    show Steps p.tables e below (s₁.setTop (mkF m 56 #[.val (.int (8 : Int32))] [(.int (6 : Int32)), (.int (8 : Int32))])) _
    refine XS.icmpYes X0.here hx rfl (pc0 := 56) (pc' := 63) rfl (hb hby d_method_2_code_56) rfl (by decide) (by decide) (by decide) ?_
    show Steps p.tables e below (s₁.setTop (mkF m 63 #[.val (.int (8 : Int32))] [])) _
    refine XS.iloadN X0.here hx rfl (hb hby d_method_2_code_63) rfl ?_
    show Steps p.tables e below (s₁.setTop (mkF m 64 #[.val (.int (8 : Int32))] [(.int (8 : Int32))])) _
    refine XT.bipushV X0.here hx rfl (7 : Int32) (hb hby d_method_2_code_64) (by decide) ?_
    show Steps p.tables e below (s₁.setTop (mkF m 66 #[.val (.int (8 : Int32))] [(.int (7 : Int32)), (.int (8 : Int32))])) _
    refine XS.icmpYes X0.here hx rfl (pc0 := 66) (pc' := 73) rfl (hb hby d_method_2_code_66) rfl (by decide) (by decide) (by decide) ?_
    show Steps p.tables e below (s₁.setTop (mkF m 73 #[.val (.int (8 : Int32))] [])) _
    refine XS.iloadN X0.here hx rfl (hb hby d_method_2_code_73) rfl ?_
    show Steps p.tables e below (s₁.setTop (mkF m 74 #[.val (.int (8 : Int32))] [(.int (8 : Int32))])) _
    refine XT.bipushV X0.here hx rfl (8 : Int32) (hb hby d_method_2_code_74) (by decide) ?_
    show Steps p.tables e below (s₁.setTop (mkF m 76 #[.val (.int (8 : Int32))] [(.int (8 : Int32)), (.int (8 : Int32))])) _
    refine XS.icmpNo X0.here hx rfl (hb hby d_method_2_code_76) rfl (by decide) ?_
    show Steps p.tables e below (s₁.setTop (mkF m 79 #[.val (.int (8 : Int32))] [])) _
    refine st9 _ ?_
    show Steps p.tables e below (T9.setTop (mkF m 82 #[.val (.int (8 : Int32))] [(.ref w9)])) _
    jvm_step X9.here [X9.here.top, hx, (hb hby d_method_2_code_82), X9.method', Bd.returns, Value.isRef, FieldType.isReference]
    first | (intro acts; rw [hr _ acts rfl rfl rfl]) | rw [hr _ _ rfl rfl rfl]
    exact Steps.refl _
  · show own_Q (some (.ref w9)) h0 n0 _ T9.heap _
    rw [e9]
    exact ⟨rfl, N0, rfl⟩
theorem d_method_2_code_83 : decode method_2_code 83 = .ok (.iload_n 0, 1) := by decide +kernel
theorem d_method_2_code_84 : decode method_2_code 84 = .ok (.bipush 9, 2) := by decide +kernel
theorem d_method_2_code_86 : decode method_2_code 86 = .ok (.if_icmp .ne 7, 3) := by decide +kernel
theorem d_method_2_code_89 : decode method_2_code 89 = .ok (.getstatic 37, 3) := by decide +kernel
theorem d_method_2_code_92 : decode method_2_code 92 = .ok (.areturn, 1) := by decide +kernel
set_option maxRecDepth 65536 in
set_option maxHeartbeats 40000000 in
theorem own_pick_9 (l : Launch) (Z : State) (a0 : Array Value) (hw : ∀ d ∈ tables_1, d.before a0 Z = true) (ws : List Jvm.Cond) (w0 w1 w2 w3 w4 w5 w6 w7 w8 w9 w10 w11 w12 w13 w14 w15 w16 w17 w18 w19 w20 w21 w22 w23 : Addr) (h0 : Heap) (n0 : Nat) (Z0 : n0 ≤ h0.size) (P : own_P Z h0 w0 w1 w2 w3 w4 w5 w6 w7 w8 w9 w10 w11 w12 w13 w14 w15 w16 w17 w18 w19 w20 w21 w22 w23) :
    MetFree l (⟨"apportion/io/DataTypeIsDecimalPinLaw", "pick", "(I)Lapportion/io/DataType;"⟩ : MethodName) (head1 (Jvm.Cond.code (⟨"apportion/io/DataTypeIsDecimalPinLaw", "pick", "(I)Lapportion/io/DataType;"⟩ : MethodName) method_2_code 1 (some (.object "apportion/io/DataType")) :: ws) ({ frames := 0, cells := 0, slots := 0, locals := 0 } : Room)) (fun a U => a = #[(.int (9 : Int32))] ∧ Z.Warmed39 U.vm ∧ U.heap = h0) (fun _ _ _ _ _ => True) (fun _ U o U' => ∃ v L, o = .returned v ∧ own_Q (some (.ref w13)) h0 n0 v U'.heap L ∧ FrameEnd U o U' L ({ frames := 0, cells := 0, slots := 0, locals := 0 } : Room).cells ({ frames := 0, cells := 0, slots := 0, locals := 0 } : Room).slots) := by
  refine MetFree.of_bodySF (plainFor_of_name pn_apportion_io_DataTypeIsDecimalPinLaw) hisR ?_
  intro p e s m args below meth c s₁ Bd hml0 hP hK
  obtain ⟨rfl, hZ, hh⟩ := hP
  have hx := Bd.exec
  have hby := Bd.bytes
  have hml : c.maxLocals = 1 := hml0
  have hown : s.vm.findClass "apportion/io/DataTypeIsDecimalPinLaw" = some m.cls := findClass_of_methodNamed Bd.named
  have hnm := (name_of_methodNamed Bd.named Bd.method).1
  have X0 : Stand p l e ({ frames := 0, cells := 0, slots := 0, locals := 0 } : Room) s m #[(.int (9 : Int32))] below meth c s₁ [] 0 0 := Stand.of_body Bd
  have e0 : s₁.heap = h0 := by rw [← hh, Bd.state]; rfl
  have N0 := Fr.nil n0
  have pre0 : ∀ t, Steps p.tables e below (s₁.setTop (mkF m 0 #[.val (.int (9 : Int32))] [])) t → Steps p.tables e below (s₁.setTop (entryFrame m #[(.int (9 : Int32))] 1)) t := fun t k => castTop (ef_method_2_code_I m (9 : Int32)) k
  have P0 := P; obtain ⟨S0, E0, F0_ordinal, S1, E1, F1_ordinal, S2, E2, F2_ordinal, S3, E3, F3_ordinal, S4, E4, F4_ordinal, S5, E5, F5_ordinal, S6, E6, F6_ordinal, S7, E7, F7_ordinal, S8, E8, F8_ordinal, S9, E9, F9_ordinal, S10, E10, F10_ordinal, S11, E11, F11_ordinal, S12, E12, F12_ordinal, S13, E13, F13_ordinal, S14, E14, F14_ordinal, S15, E15, F15_ordinal, S16, E16, F16_ordinal, S17, E17, F17_ordinal, S18, E18, F18_ordinal, S19, E19, F19_ordinal, S20, E20, F20_ordinal, S21, E21, F21_ordinal, S22, E22, F22_ordinal, S23, E23, F23_ordinal⟩ := P0
  obtain ⟨T10, X10, e10, st10⟩ := getS2 X0 hx hZ hown (host := "") (Or.inl (hw _ (List.mem_of_getElem? (i := 46) rfl))) Via.refl e0 S13 (g := (mkF m 89 #[.val (.int (9 : Int32))] [])) rfl (hb hby d_method_2_code_89)
  obtain ⟨fs, hr, hrun, hended, hW, hsame⟩ := X10.leave (v := some (.ref w13)) (fun h => by rw [Bd.returns] at h; cases h)
  refine ⟨_, _, pre0 _ ?_, hrun, hended, _, _, rfl, ?_, ⟨_, rfl⟩, hW, hsame.mono (by decide) (by decide)⟩
  · show Steps p.tables e below (s₁.setTop (mkF m 0 #[.val (.int (9 : Int32))] [])) _
    refine XS.iloadN X0.here hx rfl (hb hby d_method_2_code_0) rfl ?_
    show Steps p.tables e below (s₁.setTop (mkF m 1 #[.val (.int (9 : Int32))] [(.int (9 : Int32))])) _
    refine XS.ifYes X0.here hx rfl (pc0 := 1) (pc' := 8) rfl (hb hby d_method_2_code_1) rfl (by decide) (by decide) (by decide) ?_
    show Steps p.tables e below (s₁.setTop (mkF m 8 #[.val (.int (9 : Int32))] [])) _
    refine XS.iloadN X0.here hx rfl (hb hby d_method_2_code_8) rfl ?_
    show Steps p.tables e below (s₁.setTop (mkF m 9 #[.val (.int (9 : Int32))] [(.int (9 : Int32))])) _
    refine XT.iconstV X0.here hx rfl (1 : Int32) (hb hby d_method_2_code_9) rfl ?_
    show Steps p.tables e below (s₁.setTop (mkF m 10 #[.val (.int (9 : Int32))] [(.int (1 : Int32)), (.int (9 : Int32))])) _
    refine XS.icmpYes X0.here hx rfl (pc0 := 10) (pc' := 17) rfl (hb hby d_method_2_code_10) rfl (by decide) (by decide) (by decide) ?_
    show Steps p.tables e below (s₁.setTop (mkF m 17 #[.val (.int (9 : Int32))] [])) _
    refine XS.iloadN X0.here hx rfl (hb hby d_method_2_code_17) rfl ?_
    show Steps p.tables e below (s₁.setTop (mkF m 18 #[.val (.int (9 : Int32))] [(.int (9 : Int32))])) _
    refine XT.iconstV X0.here hx rfl (2 : Int32) (hb hby d_method_2_code_18) rfl ?_
    show Steps p.tables e below (s₁.setTop (mkF m 19 #[.val (.int (9 : Int32))] [(.int (2 : Int32)), (.int (9 : Int32))])) _
    refine XS.icmpYes X0.here hx rfl (pc0 := 19) (pc' := 26) rfl (hb hby d_method_2_code_19) rfl (by decide) (by decide) (by decide) ?_
    show Steps p.tables e below (s₁.setTop (mkF m 26 #[.val (.int (9 : Int32))] [])) _
    refine XS.iloadN X0.here hx rfl (hb hby d_method_2_code_26) rfl ?_
    show Steps p.tables e below (s₁.setTop (mkF m 27 #[.val (.int (9 : Int32))] [(.int (9 : Int32))])) _
    refine XT.iconstV X0.here hx rfl (3 : Int32) (hb hby d_method_2_code_27) rfl ?_
    show Steps p.tables e below (s₁.setTop (mkF m 28 #[.val (.int (9 : Int32))] [(.int (3 : Int32)), (.int (9 : Int32))])) _
    refine XS.icmpYes X0.here hx rfl (pc0 := 28) (pc' := 35) rfl (hb hby d_method_2_code_28) rfl (by decide) (by decide) (by decide) ?_
    show Steps p.tables e below (s₁.setTop (mkF m 35 #[.val (.int (9 : Int32))] [])) _
    refine XS.iloadN X0.here hx rfl (hb hby d_method_2_code_35) rfl ?_
    show Steps p.tables e below (s₁.setTop (mkF m 36 #[.val (.int (9 : Int32))] [(.int (9 : Int32))])) _
    refine XT.iconstV X0.here hx rfl (4 : Int32) (hb hby d_method_2_code_36) rfl ?_
    show Steps p.tables e below (s₁.setTop (mkF m 37 #[.val (.int (9 : Int32))] [(.int (4 : Int32)), (.int (9 : Int32))])) _
    refine XS.icmpYes X0.here hx rfl (pc0 := 37) (pc' := 44) rfl (hb hby d_method_2_code_37) rfl (by decide) (by decide) (by decide) ?_
    show Steps p.tables e below (s₁.setTop (mkF m 44 #[.val (.int (9 : Int32))] [])) _
    refine XS.iloadN X0.here hx rfl (hb hby d_method_2_code_44) rfl ?_
    show Steps p.tables e below (s₁.setTop (mkF m 45 #[.val (.int (9 : Int32))] [(.int (9 : Int32))])) _
    refine XT.iconstV X0.here hx rfl (5 : Int32) (hb hby d_method_2_code_45) rfl ?_
    show Steps p.tables e below (s₁.setTop (mkF m 46 #[.val (.int (9 : Int32))] [(.int (5 : Int32)), (.int (9 : Int32))])) _
    refine XS.icmpYes X0.here hx rfl (pc0 := 46) (pc' := 53) rfl (hb hby d_method_2_code_46) rfl (by decide) (by decide) (by decide) ?_
    show Steps p.tables e below (s₁.setTop (mkF m 53 #[.val (.int (9 : Int32))] [])) _
    refine XS.iloadN X0.here hx rfl (hb hby d_method_2_code_53) rfl ?_
    show Steps p.tables e below (s₁.setTop (mkF m 54 #[.val (.int (9 : Int32))] [(.int (9 : Int32))])) _
    refine XT.bipushV X0.here hx rfl (6 : Int32) (hb hby d_method_2_code_54) (by decide) ?_
    show Steps p.tables e below (s₁.setTop (mkF m 56 #[.val (.int (9 : Int32))] [(.int (6 : Int32)), (.int (9 : Int32))])) _
    refine XS.icmpYes X0.here hx rfl (pc0 := 56) (pc' := 63) rfl (hb hby d_method_2_code_56) rfl (by decide) (by decide) (by decide) ?_
    show Steps p.tables e below (s₁.setTop (mkF m 63 #[.val (.int (9 : Int32))] [])) _
    refine XS.iloadN X0.here hx rfl (hb hby d_method_2_code_63) rfl ?_
    show Steps p.tables e below (s₁.setTop (mkF m 64 #[.val (.int (9 : Int32))] [(.int (9 : Int32))])) _
    refine XT.bipushV X0.here hx rfl (7 : Int32) (hb hby d_method_2_code_64) (by decide) ?_
    show Steps p.tables e below (s₁.setTop (mkF m 66 #[.val (.int (9 : Int32))] [(.int (7 : Int32)), (.int (9 : Int32))])) _
    refine XS.icmpYes X0.here hx rfl (pc0 := 66) (pc' := 73) rfl (hb hby d_method_2_code_66) rfl (by decide) (by decide) (by decide) ?_
    show Steps p.tables e below (s₁.setTop (mkF m 73 #[.val (.int (9 : Int32))] [])) _
    refine XS.iloadN X0.here hx rfl (hb hby d_method_2_code_73) rfl ?_
    show Steps p.tables e below (s₁.setTop (mkF m 74 #[.val (.int (9 : Int32))] [(.int (9 : Int32))])) _
    refine XT.bipushV X0.here hx rfl (8 : Int32) (hb hby d_method_2_code_74) (by decide) ?_
    show Steps p.tables e below (s₁.setTop (mkF m 76 #[.val (.int (9 : Int32))] [(.int (8 : Int32)), (.int (9 : Int32))])) _
    refine XS.icmpYes X0.here hx rfl (pc0 := 76) (pc' := 83) rfl (hb hby d_method_2_code_76) rfl (by decide) (by decide) (by decide) ?_
    show Steps p.tables e below (s₁.setTop (mkF m 83 #[.val (.int (9 : Int32))] [])) _
    refine XS.iloadN X0.here hx rfl (hb hby d_method_2_code_83) rfl ?_
    show Steps p.tables e below (s₁.setTop (mkF m 84 #[.val (.int (9 : Int32))] [(.int (9 : Int32))])) _
    refine XT.bipushV X0.here hx rfl (9 : Int32) (hb hby d_method_2_code_84) (by decide) ?_
    show Steps p.tables e below (s₁.setTop (mkF m 86 #[.val (.int (9 : Int32))] [(.int (9 : Int32)), (.int (9 : Int32))])) _
    refine XS.icmpNo X0.here hx rfl (hb hby d_method_2_code_86) rfl (by decide) ?_
    show Steps p.tables e below (s₁.setTop (mkF m 89 #[.val (.int (9 : Int32))] [])) _
    refine st10 _ ?_
    show Steps p.tables e below (T10.setTop (mkF m 92 #[.val (.int (9 : Int32))] [(.ref w13)])) _
    jvm_step X10.here [X10.here.top, hx, (hb hby d_method_2_code_92), X10.method', Bd.returns, Value.isRef, FieldType.isReference]
    first | (intro acts; rw [hr _ acts rfl rfl rfl]) | rw [hr _ _ rfl rfl rfl]
    exact Steps.refl _
  · show own_Q (some (.ref w13)) h0 n0 _ T10.heap _
    rw [e10]
    exact ⟨rfl, N0, rfl⟩
theorem d_method_2_code_93 : decode method_2_code 93 = .ok (.iload_n 0, 1) := by decide +kernel
theorem d_method_2_code_94 : decode method_2_code 94 = .ok (.bipush 10, 2) := by decide +kernel
theorem d_method_2_code_96 : decode method_2_code 96 = .ok (.if_icmp .ne 7, 3) := by decide +kernel
theorem d_method_2_code_99 : decode method_2_code 99 = .ok (.getstatic 40, 3) := by decide +kernel
theorem d_method_2_code_102 : decode method_2_code 102 = .ok (.areturn, 1) := by decide +kernel
set_option maxRecDepth 65536 in
set_option maxHeartbeats 40000000 in
theorem own_pick_10 (l : Launch) (Z : State) (a0 : Array Value) (hw : ∀ d ∈ tables_1, d.before a0 Z = true) (ws : List Jvm.Cond) (w0 w1 w2 w3 w4 w5 w6 w7 w8 w9 w10 w11 w12 w13 w14 w15 w16 w17 w18 w19 w20 w21 w22 w23 : Addr) (h0 : Heap) (n0 : Nat) (Z0 : n0 ≤ h0.size) (P : own_P Z h0 w0 w1 w2 w3 w4 w5 w6 w7 w8 w9 w10 w11 w12 w13 w14 w15 w16 w17 w18 w19 w20 w21 w22 w23) :
    MetFree l (⟨"apportion/io/DataTypeIsDecimalPinLaw", "pick", "(I)Lapportion/io/DataType;"⟩ : MethodName) (head1 (Jvm.Cond.code (⟨"apportion/io/DataTypeIsDecimalPinLaw", "pick", "(I)Lapportion/io/DataType;"⟩ : MethodName) method_2_code 1 (some (.object "apportion/io/DataType")) :: ws) ({ frames := 0, cells := 0, slots := 0, locals := 0 } : Room)) (fun a U => a = #[(.int (10 : Int32))] ∧ Z.Warmed39 U.vm ∧ U.heap = h0) (fun _ _ _ _ _ => True) (fun _ U o U' => ∃ v L, o = .returned v ∧ own_Q (some (.ref w12)) h0 n0 v U'.heap L ∧ FrameEnd U o U' L ({ frames := 0, cells := 0, slots := 0, locals := 0 } : Room).cells ({ frames := 0, cells := 0, slots := 0, locals := 0 } : Room).slots) := by
  refine MetFree.of_bodySF (plainFor_of_name pn_apportion_io_DataTypeIsDecimalPinLaw) hisR ?_
  intro p e s m args below meth c s₁ Bd hml0 hP hK
  obtain ⟨rfl, hZ, hh⟩ := hP
  have hx := Bd.exec
  have hby := Bd.bytes
  have hml : c.maxLocals = 1 := hml0
  have hown : s.vm.findClass "apportion/io/DataTypeIsDecimalPinLaw" = some m.cls := findClass_of_methodNamed Bd.named
  have hnm := (name_of_methodNamed Bd.named Bd.method).1
  have X0 : Stand p l e ({ frames := 0, cells := 0, slots := 0, locals := 0 } : Room) s m #[(.int (10 : Int32))] below meth c s₁ [] 0 0 := Stand.of_body Bd
  have e0 : s₁.heap = h0 := by rw [← hh, Bd.state]; rfl
  have N0 := Fr.nil n0
  have pre0 : ∀ t, Steps p.tables e below (s₁.setTop (mkF m 0 #[.val (.int (10 : Int32))] [])) t → Steps p.tables e below (s₁.setTop (entryFrame m #[(.int (10 : Int32))] 1)) t := fun t k => castTop (ef_method_2_code_I m (10 : Int32)) k
  have P0 := P; obtain ⟨S0, E0, F0_ordinal, S1, E1, F1_ordinal, S2, E2, F2_ordinal, S3, E3, F3_ordinal, S4, E4, F4_ordinal, S5, E5, F5_ordinal, S6, E6, F6_ordinal, S7, E7, F7_ordinal, S8, E8, F8_ordinal, S9, E9, F9_ordinal, S10, E10, F10_ordinal, S11, E11, F11_ordinal, S12, E12, F12_ordinal, S13, E13, F13_ordinal, S14, E14, F14_ordinal, S15, E15, F15_ordinal, S16, E16, F16_ordinal, S17, E17, F17_ordinal, S18, E18, F18_ordinal, S19, E19, F19_ordinal, S20, E20, F20_ordinal, S21, E21, F21_ordinal, S22, E22, F22_ordinal, S23, E23, F23_ordinal⟩ := P0
  obtain ⟨T11, X11, e11, st11⟩ := getS2 X0 hx hZ hown (host := "") (Or.inl (hw _ (List.mem_of_getElem? (i := 44) rfl))) Via.refl e0 S12 (g := (mkF m 99 #[.val (.int (10 : Int32))] [])) rfl (hb hby d_method_2_code_99)
  obtain ⟨fs, hr, hrun, hended, hW, hsame⟩ := X11.leave (v := some (.ref w12)) (fun h => by rw [Bd.returns] at h; cases h)
  refine ⟨_, _, pre0 _ ?_, hrun, hended, _, _, rfl, ?_, ⟨_, rfl⟩, hW, hsame.mono (by decide) (by decide)⟩
  · show Steps p.tables e below (s₁.setTop (mkF m 0 #[.val (.int (10 : Int32))] [])) _
    refine XS.iloadN X0.here hx rfl (hb hby d_method_2_code_0) rfl ?_
    show Steps p.tables e below (s₁.setTop (mkF m 1 #[.val (.int (10 : Int32))] [(.int (10 : Int32))])) _
    refine XS.ifYes X0.here hx rfl (pc0 := 1) (pc' := 8) rfl (hb hby d_method_2_code_1) rfl (by decide) (by decide) (by decide) ?_
    show Steps p.tables e below (s₁.setTop (mkF m 8 #[.val (.int (10 : Int32))] [])) _
    refine XS.iloadN X0.here hx rfl (hb hby d_method_2_code_8) rfl ?_
    show Steps p.tables e below (s₁.setTop (mkF m 9 #[.val (.int (10 : Int32))] [(.int (10 : Int32))])) _
    refine XT.iconstV X0.here hx rfl (1 : Int32) (hb hby d_method_2_code_9) rfl ?_
    show Steps p.tables e below (s₁.setTop (mkF m 10 #[.val (.int (10 : Int32))] [(.int (1 : Int32)), (.int (10 : Int32))])) _
    refine XS.icmpYes X0.here hx rfl (pc0 := 10) (pc' := 17) rfl (hb hby d_method_2_code_10) rfl (by decide) (by decide) (by decide) ?_
    show Steps p.tables e below (s₁.setTop (mkF m 17 #[.val (.int (10 : Int32))] [])) _
    refine XS.iloadN X0.here hx rfl (hb hby d_method_2_code_17) rfl ?_
    show Steps p.tables e below (s₁.setTop (mkF m 18 #[.val (.int (10 : Int32))] [(.int (10 : Int32))])) _
    refine XT.iconstV X0.here hx rfl (2 : Int32) (hb hby d_method_2_code_18) rfl ?_
    show Steps p.tables e below (s₁.setTop (mkF m 19 #[.val (.int (10 : Int32))] [(.int (2 : Int32)), (.int (10 : Int32))])) _
    refine XS.icmpYes X0.here hx rfl (pc0 := 19) (pc' := 26) rfl (hb hby d_method_2_code_19) rfl (by decide) (by decide) (by decide) ?_
    show Steps p.tables e below (s₁.setTop (mkF m 26 #[.val (.int (10 : Int32))] [])) _
    refine XS.iloadN X0.here hx rfl (hb hby d_method_2_code_26) rfl ?_
    show Steps p.tables e below (s₁.setTop (mkF m 27 #[.val (.int (10 : Int32))] [(.int (10 : Int32))])) _
    refine XT.iconstV X0.here hx rfl (3 : Int32) (hb hby d_method_2_code_27) rfl ?_
    show Steps p.tables e below (s₁.setTop (mkF m 28 #[.val (.int (10 : Int32))] [(.int (3 : Int32)), (.int (10 : Int32))])) _
    refine XS.icmpYes X0.here hx rfl (pc0 := 28) (pc' := 35) rfl (hb hby d_method_2_code_28) rfl (by decide) (by decide) (by decide) ?_
    show Steps p.tables e below (s₁.setTop (mkF m 35 #[.val (.int (10 : Int32))] [])) _
    refine XS.iloadN X0.here hx rfl (hb hby d_method_2_code_35) rfl ?_
    show Steps p.tables e below (s₁.setTop (mkF m 36 #[.val (.int (10 : Int32))] [(.int (10 : Int32))])) _
    refine XT.iconstV X0.here hx rfl (4 : Int32) (hb hby d_method_2_code_36) rfl ?_
    show Steps p.tables e below (s₁.setTop (mkF m 37 #[.val (.int (10 : Int32))] [(.int (4 : Int32)), (.int (10 : Int32))])) _
    refine XS.icmpYes X0.here hx rfl (pc0 := 37) (pc' := 44) rfl (hb hby d_method_2_code_37) rfl (by decide) (by decide) (by decide) ?_
    show Steps p.tables e below (s₁.setTop (mkF m 44 #[.val (.int (10 : Int32))] [])) _
    refine XS.iloadN X0.here hx rfl (hb hby d_method_2_code_44) rfl ?_
    show Steps p.tables e below (s₁.setTop (mkF m 45 #[.val (.int (10 : Int32))] [(.int (10 : Int32))])) _
    refine XT.iconstV X0.here hx rfl (5 : Int32) (hb hby d_method_2_code_45) rfl ?_
    show Steps p.tables e below (s₁.setTop (mkF m 46 #[.val (.int (10 : Int32))] [(.int (5 : Int32)), (.int (10 : Int32))])) _
    refine XS.icmpYes X0.here hx rfl (pc0 := 46) (pc' := 53) rfl (hb hby d_method_2_code_46) rfl (by decide) (by decide) (by decide) ?_
    show Steps p.tables e below (s₁.setTop (mkF m 53 #[.val (.int (10 : Int32))] [])) _
    refine XS.iloadN X0.here hx rfl (hb hby d_method_2_code_53) rfl ?_
    show Steps p.tables e below (s₁.setTop (mkF m 54 #[.val (.int (10 : Int32))] [(.int (10 : Int32))])) _
    refine XT.bipushV X0.here hx rfl (6 : Int32) (hb hby d_method_2_code_54) (by decide) ?_
    show Steps p.tables e below (s₁.setTop (mkF m 56 #[.val (.int (10 : Int32))] [(.int (6 : Int32)), (.int (10 : Int32))])) _
    refine XS.icmpYes X0.here hx rfl (pc0 := 56) (pc' := 63) rfl (hb hby d_method_2_code_56) rfl (by decide) (by decide) (by decide) ?_
    show Steps p.tables e below (s₁.setTop (mkF m 63 #[.val (.int (10 : Int32))] [])) _
    refine XS.iloadN X0.here hx rfl (hb hby d_method_2_code_63) rfl ?_
    show Steps p.tables e below (s₁.setTop (mkF m 64 #[.val (.int (10 : Int32))] [(.int (10 : Int32))])) _
    refine XT.bipushV X0.here hx rfl (7 : Int32) (hb hby d_method_2_code_64) (by decide) ?_
    show Steps p.tables e below (s₁.setTop (mkF m 66 #[.val (.int (10 : Int32))] [(.int (7 : Int32)), (.int (10 : Int32))])) _
    refine XS.icmpYes X0.here hx rfl (pc0 := 66) (pc' := 73) rfl (hb hby d_method_2_code_66) rfl (by decide) (by decide) (by decide) ?_
    show Steps p.tables e below (s₁.setTop (mkF m 73 #[.val (.int (10 : Int32))] [])) _
    refine XS.iloadN X0.here hx rfl (hb hby d_method_2_code_73) rfl ?_
    show Steps p.tables e below (s₁.setTop (mkF m 74 #[.val (.int (10 : Int32))] [(.int (10 : Int32))])) _
    refine XT.bipushV X0.here hx rfl (8 : Int32) (hb hby d_method_2_code_74) (by decide) ?_
    show Steps p.tables e below (s₁.setTop (mkF m 76 #[.val (.int (10 : Int32))] [(.int (8 : Int32)), (.int (10 : Int32))])) _
    refine XS.icmpYes X0.here hx rfl (pc0 := 76) (pc' := 83) rfl (hb hby d_method_2_code_76) rfl (by decide) (by decide) (by decide) ?_
    show Steps p.tables e below (s₁.setTop (mkF m 83 #[.val (.int (10 : Int32))] [])) _
    refine XS.iloadN X0.here hx rfl (hb hby d_method_2_code_83) rfl ?_
    show Steps p.tables e below (s₁.setTop (mkF m 84 #[.val (.int (10 : Int32))] [(.int (10 : Int32))])) _
    refine XT.bipushV X0.here hx rfl (9 : Int32) (hb hby d_method_2_code_84) (by decide) ?_
    show Steps p.tables e below (s₁.setTop (mkF m 86 #[.val (.int (10 : Int32))] [(.int (9 : Int32)), (.int (10 : Int32))])) _
    refine XS.icmpYes X0.here hx rfl (pc0 := 86) (pc' := 93) rfl (hb hby d_method_2_code_86) rfl (by decide) (by decide) (by decide) ?_
    show Steps p.tables e below (s₁.setTop (mkF m 93 #[.val (.int (10 : Int32))] [])) _
    refine XS.iloadN X0.here hx rfl (hb hby d_method_2_code_93) rfl ?_
    show Steps p.tables e below (s₁.setTop (mkF m 94 #[.val (.int (10 : Int32))] [(.int (10 : Int32))])) _
    refine XT.bipushV X0.here hx rfl (10 : Int32) (hb hby d_method_2_code_94) (by decide) ?_
    show Steps p.tables e below (s₁.setTop (mkF m 96 #[.val (.int (10 : Int32))] [(.int (10 : Int32)), (.int (10 : Int32))])) _
    refine XS.icmpNo X0.here hx rfl (hb hby d_method_2_code_96) rfl (by decide) ?_
    show Steps p.tables e below (s₁.setTop (mkF m 99 #[.val (.int (10 : Int32))] [])) _
    refine st11 _ ?_
    show Steps p.tables e below (T11.setTop (mkF m 102 #[.val (.int (10 : Int32))] [(.ref w12)])) _
    jvm_step X11.here [X11.here.top, hx, (hb hby d_method_2_code_102), X11.method', Bd.returns, Value.isRef, FieldType.isReference]
    first | (intro acts; rw [hr _ acts rfl rfl rfl]) | rw [hr _ _ rfl rfl rfl]
    exact Steps.refl _
  · show own_Q (some (.ref w12)) h0 n0 _ T11.heap _
    rw [e11]
    exact ⟨rfl, N0, rfl⟩
theorem d_method_2_code_103 : decode method_2_code 103 = .ok (.iload_n 0, 1) := by decide +kernel
theorem d_method_2_code_104 : decode method_2_code 104 = .ok (.bipush 11, 2) := by decide +kernel
theorem d_method_2_code_106 : decode method_2_code 106 = .ok (.if_icmp .ne 7, 3) := by decide +kernel
theorem d_method_2_code_109 : decode method_2_code 109 = .ok (.getstatic 43, 3) := by decide +kernel
theorem d_method_2_code_112 : decode method_2_code 112 = .ok (.areturn, 1) := by decide +kernel
set_option maxRecDepth 65536 in
set_option maxHeartbeats 40000000 in
theorem own_pick_11 (l : Launch) (Z : State) (a0 : Array Value) (hw : ∀ d ∈ tables_1, d.before a0 Z = true) (ws : List Jvm.Cond) (w0 w1 w2 w3 w4 w5 w6 w7 w8 w9 w10 w11 w12 w13 w14 w15 w16 w17 w18 w19 w20 w21 w22 w23 : Addr) (h0 : Heap) (n0 : Nat) (Z0 : n0 ≤ h0.size) (P : own_P Z h0 w0 w1 w2 w3 w4 w5 w6 w7 w8 w9 w10 w11 w12 w13 w14 w15 w16 w17 w18 w19 w20 w21 w22 w23) :
    MetFree l (⟨"apportion/io/DataTypeIsDecimalPinLaw", "pick", "(I)Lapportion/io/DataType;"⟩ : MethodName) (head1 (Jvm.Cond.code (⟨"apportion/io/DataTypeIsDecimalPinLaw", "pick", "(I)Lapportion/io/DataType;"⟩ : MethodName) method_2_code 1 (some (.object "apportion/io/DataType")) :: ws) ({ frames := 0, cells := 0, slots := 0, locals := 0 } : Room)) (fun a U => a = #[(.int (11 : Int32))] ∧ Z.Warmed39 U.vm ∧ U.heap = h0) (fun _ _ _ _ _ => True) (fun _ U o U' => ∃ v L, o = .returned v ∧ own_Q (some (.ref w7)) h0 n0 v U'.heap L ∧ FrameEnd U o U' L ({ frames := 0, cells := 0, slots := 0, locals := 0 } : Room).cells ({ frames := 0, cells := 0, slots := 0, locals := 0 } : Room).slots) := by
  refine MetFree.of_bodySF (plainFor_of_name pn_apportion_io_DataTypeIsDecimalPinLaw) hisR ?_
  intro p e s m args below meth c s₁ Bd hml0 hP hK
  obtain ⟨rfl, hZ, hh⟩ := hP
  have hx := Bd.exec
  have hby := Bd.bytes
  have hml : c.maxLocals = 1 := hml0
  have hown : s.vm.findClass "apportion/io/DataTypeIsDecimalPinLaw" = some m.cls := findClass_of_methodNamed Bd.named
  have hnm := (name_of_methodNamed Bd.named Bd.method).1
  have X0 : Stand p l e ({ frames := 0, cells := 0, slots := 0, locals := 0 } : Room) s m #[(.int (11 : Int32))] below meth c s₁ [] 0 0 := Stand.of_body Bd
  have e0 : s₁.heap = h0 := by rw [← hh, Bd.state]; rfl
  have N0 := Fr.nil n0
  have pre0 : ∀ t, Steps p.tables e below (s₁.setTop (mkF m 0 #[.val (.int (11 : Int32))] [])) t → Steps p.tables e below (s₁.setTop (entryFrame m #[(.int (11 : Int32))] 1)) t := fun t k => castTop (ef_method_2_code_I m (11 : Int32)) k
  have P0 := P; obtain ⟨S0, E0, F0_ordinal, S1, E1, F1_ordinal, S2, E2, F2_ordinal, S3, E3, F3_ordinal, S4, E4, F4_ordinal, S5, E5, F5_ordinal, S6, E6, F6_ordinal, S7, E7, F7_ordinal, S8, E8, F8_ordinal, S9, E9, F9_ordinal, S10, E10, F10_ordinal, S11, E11, F11_ordinal, S12, E12, F12_ordinal, S13, E13, F13_ordinal, S14, E14, F14_ordinal, S15, E15, F15_ordinal, S16, E16, F16_ordinal, S17, E17, F17_ordinal, S18, E18, F18_ordinal, S19, E19, F19_ordinal, S20, E20, F20_ordinal, S21, E21, F21_ordinal, S22, E22, F22_ordinal, S23, E23, F23_ordinal⟩ := P0
  obtain ⟨T12, X12, e12, st12⟩ := getS2 X0 hx hZ hown (host := "") (Or.inl (hw _ (List.mem_of_getElem? (i := 34) rfl))) Via.refl e0 S7 (g := (mkF m 109 #[.val (.int (11 : Int32))] [])) rfl (hb hby d_method_2_code_109)
  obtain ⟨fs, hr, hrun, hended, hW, hsame⟩ := X12.leave (v := some (.ref w7)) (fun h => by rw [Bd.returns] at h; cases h)
  refine ⟨_, _, pre0 _ ?_, hrun, hended, _, _, rfl, ?_, ⟨_, rfl⟩, hW, hsame.mono (by decide) (by decide)⟩
  · show Steps p.tables e below (s₁.setTop (mkF m 0 #[.val (.int (11 : Int32))] [])) _
    refine XS.iloadN X0.here hx rfl (hb hby d_method_2_code_0) rfl ?_
    show Steps p.tables e below (s₁.setTop (mkF m 1 #[.val (.int (11 : Int32))] [(.int (11 : Int32))])) _
    refine XS.ifYes X0.here hx rfl (pc0 := 1) (pc' := 8) rfl (hb hby d_method_2_code_1) rfl (by decide) (by decide) (by decide) ?_
    show Steps p.tables e below (s₁.setTop (mkF m 8 #[.val (.int (11 : Int32))] [])) _
    refine XS.iloadN X0.here hx rfl (hb hby d_method_2_code_8) rfl ?_
    show Steps p.tables e below (s₁.setTop (mkF m 9 #[.val (.int (11 : Int32))] [(.int (11 : Int32))])) _
    refine XT.iconstV X0.here hx rfl (1 : Int32) (hb hby d_method_2_code_9) rfl ?_
    show Steps p.tables e below (s₁.setTop (mkF m 10 #[.val (.int (11 : Int32))] [(.int (1 : Int32)), (.int (11 : Int32))])) _
    refine XS.icmpYes X0.here hx rfl (pc0 := 10) (pc' := 17) rfl (hb hby d_method_2_code_10) rfl (by decide) (by decide) (by decide) ?_
    show Steps p.tables e below (s₁.setTop (mkF m 17 #[.val (.int (11 : Int32))] [])) _
    refine XS.iloadN X0.here hx rfl (hb hby d_method_2_code_17) rfl ?_
    show Steps p.tables e below (s₁.setTop (mkF m 18 #[.val (.int (11 : Int32))] [(.int (11 : Int32))])) _
    refine XT.iconstV X0.here hx rfl (2 : Int32) (hb hby d_method_2_code_18) rfl ?_
    show Steps p.tables e below (s₁.setTop (mkF m 19 #[.val (.int (11 : Int32))] [(.int (2 : Int32)), (.int (11 : Int32))])) _
    refine XS.icmpYes X0.here hx rfl (pc0 := 19) (pc' := 26) rfl (hb hby d_method_2_code_19) rfl (by decide) (by decide) (by decide) ?_
    show Steps p.tables e below (s₁.setTop (mkF m 26 #[.val (.int (11 : Int32))] [])) _
    refine XS.iloadN X0.here hx rfl (hb hby d_method_2_code_26) rfl ?_
    show Steps p.tables e below (s₁.setTop (mkF m 27 #[.val (.int (11 : Int32))] [(.int (11 : Int32))])) _
    refine XT.iconstV X0.here hx rfl (3 : Int32) (hb hby d_method_2_code_27) rfl ?_
    show Steps p.tables e below (s₁.setTop (mkF m 28 #[.val (.int (11 : Int32))] [(.int (3 : Int32)), (.int (11 : Int32))])) _
    refine XS.icmpYes X0.here hx rfl (pc0 := 28) (pc' := 35) rfl (hb hby d_method_2_code_28) rfl (by decide) (by decide) (by decide) ?_
    show Steps p.tables e below (s₁.setTop (mkF m 35 #[.val (.int (11 : Int32))] [])) _
    refine XS.iloadN X0.here hx rfl (hb hby d_method_2_code_35) rfl ?_
    show Steps p.tables e below (s₁.setTop (mkF m 36 #[.val (.int (11 : Int32))] [(.int (11 : Int32))])) _
    refine XT.iconstV X0.here hx rfl (4 : Int32) (hb hby d_method_2_code_36) rfl ?_
    show Steps p.tables e below (s₁.setTop (mkF m 37 #[.val (.int (11 : Int32))] [(.int (4 : Int32)), (.int (11 : Int32))])) _
    refine XS.icmpYes X0.here hx rfl (pc0 := 37) (pc' := 44) rfl (hb hby d_method_2_code_37) rfl (by decide) (by decide) (by decide) ?_
    show Steps p.tables e below (s₁.setTop (mkF m 44 #[.val (.int (11 : Int32))] [])) _
    refine XS.iloadN X0.here hx rfl (hb hby d_method_2_code_44) rfl ?_
    show Steps p.tables e below (s₁.setTop (mkF m 45 #[.val (.int (11 : Int32))] [(.int (11 : Int32))])) _
    refine XT.iconstV X0.here hx rfl (5 : Int32) (hb hby d_method_2_code_45) rfl ?_
    show Steps p.tables e below (s₁.setTop (mkF m 46 #[.val (.int (11 : Int32))] [(.int (5 : Int32)), (.int (11 : Int32))])) _
    refine XS.icmpYes X0.here hx rfl (pc0 := 46) (pc' := 53) rfl (hb hby d_method_2_code_46) rfl (by decide) (by decide) (by decide) ?_
    show Steps p.tables e below (s₁.setTop (mkF m 53 #[.val (.int (11 : Int32))] [])) _
    refine XS.iloadN X0.here hx rfl (hb hby d_method_2_code_53) rfl ?_
    show Steps p.tables e below (s₁.setTop (mkF m 54 #[.val (.int (11 : Int32))] [(.int (11 : Int32))])) _
    refine XT.bipushV X0.here hx rfl (6 : Int32) (hb hby d_method_2_code_54) (by decide) ?_
    show Steps p.tables e below (s₁.setTop (mkF m 56 #[.val (.int (11 : Int32))] [(.int (6 : Int32)), (.int (11 : Int32))])) _
    refine XS.icmpYes X0.here hx rfl (pc0 := 56) (pc' := 63) rfl (hb hby d_method_2_code_56) rfl (by decide) (by decide) (by decide) ?_
    show Steps p.tables e below (s₁.setTop (mkF m 63 #[.val (.int (11 : Int32))] [])) _
    refine XS.iloadN X0.here hx rfl (hb hby d_method_2_code_63) rfl ?_
    show Steps p.tables e below (s₁.setTop (mkF m 64 #[.val (.int (11 : Int32))] [(.int (11 : Int32))])) _
    refine XT.bipushV X0.here hx rfl (7 : Int32) (hb hby d_method_2_code_64) (by decide) ?_
    show Steps p.tables e below (s₁.setTop (mkF m 66 #[.val (.int (11 : Int32))] [(.int (7 : Int32)), (.int (11 : Int32))])) _
    refine XS.icmpYes X0.here hx rfl (pc0 := 66) (pc' := 73) rfl (hb hby d_method_2_code_66) rfl (by decide) (by decide) (by decide) ?_
    show Steps p.tables e below (s₁.setTop (mkF m 73 #[.val (.int (11 : Int32))] [])) _
    refine XS.iloadN X0.here hx rfl (hb hby d_method_2_code_73) rfl ?_
    show Steps p.tables e below (s₁.setTop (mkF m 74 #[.val (.int (11 : Int32))] [(.int (11 : Int32))])) _
    refine XT.bipushV X0.here hx rfl (8 : Int32) (hb hby d_method_2_code_74) (by decide) ?_
    show Steps p.tables e below (s₁.setTop (mkF m 76 #[.val (.int (11 : Int32))] [(.int (8 : Int32)), (.int (11 : Int32))])) _
    refine XS.icmpYes X0.here hx rfl (pc0 := 76) (pc' := 83) rfl (hb hby d_method_2_code_76) rfl (by decide) (by decide) (by decide) ?_
    show Steps p.tables e below (s₁.setTop (mkF m 83 #[.val (.int (11 : Int32))] [])) _
    refine XS.iloadN X0.here hx rfl (hb hby d_method_2_code_83) rfl ?_
    show Steps p.tables e below (s₁.setTop (mkF m 84 #[.val (.int (11 : Int32))] [(.int (11 : Int32))])) _
    refine XT.bipushV X0.here hx rfl (9 : Int32) (hb hby d_method_2_code_84) (by decide) ?_
    show Steps p.tables e below (s₁.setTop (mkF m 86 #[.val (.int (11 : Int32))] [(.int (9 : Int32)), (.int (11 : Int32))])) _
    refine XS.icmpYes X0.here hx rfl (pc0 := 86) (pc' := 93) rfl (hb hby d_method_2_code_86) rfl (by decide) (by decide) (by decide) ?_
    show Steps p.tables e below (s₁.setTop (mkF m 93 #[.val (.int (11 : Int32))] [])) _
    refine XS.iloadN X0.here hx rfl (hb hby d_method_2_code_93) rfl ?_
    show Steps p.tables e below (s₁.setTop (mkF m 94 #[.val (.int (11 : Int32))] [(.int (11 : Int32))])) _
    refine XT.bipushV X0.here hx rfl (10 : Int32) (hb hby d_method_2_code_94) (by decide) ?_
    show Steps p.tables e below (s₁.setTop (mkF m 96 #[.val (.int (11 : Int32))] [(.int (10 : Int32)), (.int (11 : Int32))])) _
    refine XS.icmpYes X0.here hx rfl (pc0 := 96) (pc' := 103) rfl (hb hby d_method_2_code_96) rfl (by decide) (by decide) (by decide) ?_
    show Steps p.tables e below (s₁.setTop (mkF m 103 #[.val (.int (11 : Int32))] [])) _
    refine XS.iloadN X0.here hx rfl (hb hby d_method_2_code_103) rfl ?_
    show Steps p.tables e below (s₁.setTop (mkF m 104 #[.val (.int (11 : Int32))] [(.int (11 : Int32))])) _
    refine XT.bipushV X0.here hx rfl (11 : Int32) (hb hby d_method_2_code_104) (by decide) ?_
    show Steps p.tables e below (s₁.setTop (mkF m 106 #[.val (.int (11 : Int32))] [(.int (11 : Int32)), (.int (11 : Int32))])) _
    refine XS.icmpNo X0.here hx rfl (hb hby d_method_2_code_106) rfl (by decide) ?_
    show Steps p.tables e below (s₁.setTop (mkF m 109 #[.val (.int (11 : Int32))] [])) _
    refine st12 _ ?_
    show Steps p.tables e below (T12.setTop (mkF m 112 #[.val (.int (11 : Int32))] [(.ref w7)])) _
    jvm_step X12.here [X12.here.top, hx, (hb hby d_method_2_code_112), X12.method', Bd.returns, Value.isRef, FieldType.isReference]
    first | (intro acts; rw [hr _ acts rfl rfl rfl]) | rw [hr _ _ rfl rfl rfl]
    exact Steps.refl _
  · show own_Q (some (.ref w7)) h0 n0 _ T12.heap _
    rw [e12]
    exact ⟨rfl, N0, rfl⟩
theorem d_method_2_code_113 : decode method_2_code 113 = .ok (.iload_n 0, 1) := by decide +kernel
theorem d_method_2_code_114 : decode method_2_code 114 = .ok (.bipush 12, 2) := by decide +kernel
theorem d_method_2_code_116 : decode method_2_code 116 = .ok (.if_icmp .ne 7, 3) := by decide +kernel
theorem d_method_2_code_119 : decode method_2_code 119 = .ok (.getstatic 46, 3) := by decide +kernel
theorem d_method_2_code_122 : decode method_2_code 122 = .ok (.areturn, 1) := by decide +kernel
set_option maxRecDepth 65536 in
set_option maxHeartbeats 40000000 in
theorem own_pick_12 (l : Launch) (Z : State) (a0 : Array Value) (hw : ∀ d ∈ tables_1, d.before a0 Z = true) (ws : List Jvm.Cond) (w0 w1 w2 w3 w4 w5 w6 w7 w8 w9 w10 w11 w12 w13 w14 w15 w16 w17 w18 w19 w20 w21 w22 w23 : Addr) (h0 : Heap) (n0 : Nat) (Z0 : n0 ≤ h0.size) (P : own_P Z h0 w0 w1 w2 w3 w4 w5 w6 w7 w8 w9 w10 w11 w12 w13 w14 w15 w16 w17 w18 w19 w20 w21 w22 w23) :
    MetFree l (⟨"apportion/io/DataTypeIsDecimalPinLaw", "pick", "(I)Lapportion/io/DataType;"⟩ : MethodName) (head1 (Jvm.Cond.code (⟨"apportion/io/DataTypeIsDecimalPinLaw", "pick", "(I)Lapportion/io/DataType;"⟩ : MethodName) method_2_code 1 (some (.object "apportion/io/DataType")) :: ws) ({ frames := 0, cells := 0, slots := 0, locals := 0 } : Room)) (fun a U => a = #[(.int (12 : Int32))] ∧ Z.Warmed39 U.vm ∧ U.heap = h0) (fun _ _ _ _ _ => True) (fun _ U o U' => ∃ v L, o = .returned v ∧ own_Q (some (.ref w19)) h0 n0 v U'.heap L ∧ FrameEnd U o U' L ({ frames := 0, cells := 0, slots := 0, locals := 0 } : Room).cells ({ frames := 0, cells := 0, slots := 0, locals := 0 } : Room).slots) := by
  refine MetFree.of_bodySF (plainFor_of_name pn_apportion_io_DataTypeIsDecimalPinLaw) hisR ?_
  intro p e s m args below meth c s₁ Bd hml0 hP hK
  obtain ⟨rfl, hZ, hh⟩ := hP
  have hx := Bd.exec
  have hby := Bd.bytes
  have hml : c.maxLocals = 1 := hml0
  have hown : s.vm.findClass "apportion/io/DataTypeIsDecimalPinLaw" = some m.cls := findClass_of_methodNamed Bd.named
  have hnm := (name_of_methodNamed Bd.named Bd.method).1
  have X0 : Stand p l e ({ frames := 0, cells := 0, slots := 0, locals := 0 } : Room) s m #[(.int (12 : Int32))] below meth c s₁ [] 0 0 := Stand.of_body Bd
  have e0 : s₁.heap = h0 := by rw [← hh, Bd.state]; rfl
  have N0 := Fr.nil n0
  have pre0 : ∀ t, Steps p.tables e below (s₁.setTop (mkF m 0 #[.val (.int (12 : Int32))] [])) t → Steps p.tables e below (s₁.setTop (entryFrame m #[(.int (12 : Int32))] 1)) t := fun t k => castTop (ef_method_2_code_I m (12 : Int32)) k
  have P0 := P; obtain ⟨S0, E0, F0_ordinal, S1, E1, F1_ordinal, S2, E2, F2_ordinal, S3, E3, F3_ordinal, S4, E4, F4_ordinal, S5, E5, F5_ordinal, S6, E6, F6_ordinal, S7, E7, F7_ordinal, S8, E8, F8_ordinal, S9, E9, F9_ordinal, S10, E10, F10_ordinal, S11, E11, F11_ordinal, S12, E12, F12_ordinal, S13, E13, F13_ordinal, S14, E14, F14_ordinal, S15, E15, F15_ordinal, S16, E16, F16_ordinal, S17, E17, F17_ordinal, S18, E18, F18_ordinal, S19, E19, F19_ordinal, S20, E20, F20_ordinal, S21, E21, F21_ordinal, S22, E22, F22_ordinal, S23, E23, F23_ordinal⟩ := P0
  obtain ⟨T13, X13, e13, st13⟩ := getS2 X0 hx hZ hown (host := "") (Or.inl (hw _ (List.mem_of_getElem? (i := 58) rfl))) Via.refl e0 S19 (g := (mkF m 119 #[.val (.int (12 : Int32))] [])) rfl (hb hby d_method_2_code_119)
  obtain ⟨fs, hr, hrun, hended, hW, hsame⟩ := X13.leave (v := some (.ref w19)) (fun h => by rw [Bd.returns] at h; cases h)
  refine ⟨_, _, pre0 _ ?_, hrun, hended, _, _, rfl, ?_, ⟨_, rfl⟩, hW, hsame.mono (by decide) (by decide)⟩
  · show Steps p.tables e below (s₁.setTop (mkF m 0 #[.val (.int (12 : Int32))] [])) _
    refine XS.iloadN X0.here hx rfl (hb hby d_method_2_code_0) rfl ?_
    show Steps p.tables e below (s₁.setTop (mkF m 1 #[.val (.int (12 : Int32))] [(.int (12 : Int32))])) _
    refine XS.ifYes X0.here hx rfl (pc0 := 1) (pc' := 8) rfl (hb hby d_method_2_code_1) rfl (by decide) (by decide) (by decide) ?_
    show Steps p.tables e below (s₁.setTop (mkF m 8 #[.val (.int (12 : Int32))] [])) _
    refine XS.iloadN X0.here hx rfl (hb hby d_method_2_code_8) rfl ?_
    show Steps p.tables e below (s₁.setTop (mkF m 9 #[.val (.int (12 : Int32))] [(.int (12 : Int32))])) _
    refine XT.iconstV X0.here hx rfl (1 : Int32) (hb hby d_method_2_code_9) rfl ?_
    show Steps p.tables e below (s₁.setTop (mkF m 10 #[.val (.int (12 : Int32))] [(.int (1 : Int32)), (.int (12 : Int32))])) _
    refine XS.icmpYes X0.here hx rfl (pc0 := 10) (pc' := 17) rfl (hb hby d_method_2_code_10) rfl (by decide) (by decide) (by decide) ?_
    show Steps p.tables e below (s₁.setTop (mkF m 17 #[.val (.int (12 : Int32))] [])) _
    refine XS.iloadN X0.here hx rfl (hb hby d_method_2_code_17) rfl ?_
    show Steps p.tables e below (s₁.setTop (mkF m 18 #[.val (.int (12 : Int32))] [(.int (12 : Int32))])) _
    refine XT.iconstV X0.here hx rfl (2 : Int32) (hb hby d_method_2_code_18) rfl ?_
    show Steps p.tables e below (s₁.setTop (mkF m 19 #[.val (.int (12 : Int32))] [(.int (2 : Int32)), (.int (12 : Int32))])) _
    refine XS.icmpYes X0.here hx rfl (pc0 := 19) (pc' := 26) rfl (hb hby d_method_2_code_19) rfl (by decide) (by decide) (by decide) ?_
    show Steps p.tables e below (s₁.setTop (mkF m 26 #[.val (.int (12 : Int32))] [])) _
    refine XS.iloadN X0.here hx rfl (hb hby d_method_2_code_26) rfl ?_
    show Steps p.tables e below (s₁.setTop (mkF m 27 #[.val (.int (12 : Int32))] [(.int (12 : Int32))])) _
    refine XT.iconstV X0.here hx rfl (3 : Int32) (hb hby d_method_2_code_27) rfl ?_
    show Steps p.tables e below (s₁.setTop (mkF m 28 #[.val (.int (12 : Int32))] [(.int (3 : Int32)), (.int (12 : Int32))])) _
    refine XS.icmpYes X0.here hx rfl (pc0 := 28) (pc' := 35) rfl (hb hby d_method_2_code_28) rfl (by decide) (by decide) (by decide) ?_
    show Steps p.tables e below (s₁.setTop (mkF m 35 #[.val (.int (12 : Int32))] [])) _
    refine XS.iloadN X0.here hx rfl (hb hby d_method_2_code_35) rfl ?_
    show Steps p.tables e below (s₁.setTop (mkF m 36 #[.val (.int (12 : Int32))] [(.int (12 : Int32))])) _
    refine XT.iconstV X0.here hx rfl (4 : Int32) (hb hby d_method_2_code_36) rfl ?_
    show Steps p.tables e below (s₁.setTop (mkF m 37 #[.val (.int (12 : Int32))] [(.int (4 : Int32)), (.int (12 : Int32))])) _
    refine XS.icmpYes X0.here hx rfl (pc0 := 37) (pc' := 44) rfl (hb hby d_method_2_code_37) rfl (by decide) (by decide) (by decide) ?_
    show Steps p.tables e below (s₁.setTop (mkF m 44 #[.val (.int (12 : Int32))] [])) _
    refine XS.iloadN X0.here hx rfl (hb hby d_method_2_code_44) rfl ?_
    show Steps p.tables e below (s₁.setTop (mkF m 45 #[.val (.int (12 : Int32))] [(.int (12 : Int32))])) _
    refine XT.iconstV X0.here hx rfl (5 : Int32) (hb hby d_method_2_code_45) rfl ?_
    show Steps p.tables e below (s₁.setTop (mkF m 46 #[.val (.int (12 : Int32))] [(.int (5 : Int32)), (.int (12 : Int32))])) _
    refine XS.icmpYes X0.here hx rfl (pc0 := 46) (pc' := 53) rfl (hb hby d_method_2_code_46) rfl (by decide) (by decide) (by decide) ?_
    show Steps p.tables e below (s₁.setTop (mkF m 53 #[.val (.int (12 : Int32))] [])) _
    refine XS.iloadN X0.here hx rfl (hb hby d_method_2_code_53) rfl ?_
    show Steps p.tables e below (s₁.setTop (mkF m 54 #[.val (.int (12 : Int32))] [(.int (12 : Int32))])) _
    refine XT.bipushV X0.here hx rfl (6 : Int32) (hb hby d_method_2_code_54) (by decide) ?_
    show Steps p.tables e below (s₁.setTop (mkF m 56 #[.val (.int (12 : Int32))] [(.int (6 : Int32)), (.int (12 : Int32))])) _
    refine XS.icmpYes X0.here hx rfl (pc0 := 56) (pc' := 63) rfl (hb hby d_method_2_code_56) rfl (by decide) (by decide) (by decide) ?_
    show Steps p.tables e below (s₁.setTop (mkF m 63 #[.val (.int (12 : Int32))] [])) _
    refine XS.iloadN X0.here hx rfl (hb hby d_method_2_code_63) rfl ?_
    show Steps p.tables e below (s₁.setTop (mkF m 64 #[.val (.int (12 : Int32))] [(.int (12 : Int32))])) _
    refine XT.bipushV X0.here hx rfl (7 : Int32) (hb hby d_method_2_code_64) (by decide) ?_
    show Steps p.tables e below (s₁.setTop (mkF m 66 #[.val (.int (12 : Int32))] [(.int (7 : Int32)), (.int (12 : Int32))])) _
    refine XS.icmpYes X0.here hx rfl (pc0 := 66) (pc' := 73) rfl (hb hby d_method_2_code_66) rfl (by decide) (by decide) (by decide) ?_
    show Steps p.tables e below (s₁.setTop (mkF m 73 #[.val (.int (12 : Int32))] [])) _
    refine XS.iloadN X0.here hx rfl (hb hby d_method_2_code_73) rfl ?_
    show Steps p.tables e below (s₁.setTop (mkF m 74 #[.val (.int (12 : Int32))] [(.int (12 : Int32))])) _
    refine XT.bipushV X0.here hx rfl (8 : Int32) (hb hby d_method_2_code_74) (by decide) ?_
    show Steps p.tables e below (s₁.setTop (mkF m 76 #[.val (.int (12 : Int32))] [(.int (8 : Int32)), (.int (12 : Int32))])) _
    refine XS.icmpYes X0.here hx rfl (pc0 := 76) (pc' := 83) rfl (hb hby d_method_2_code_76) rfl (by decide) (by decide) (by decide) ?_
    show Steps p.tables e below (s₁.setTop (mkF m 83 #[.val (.int (12 : Int32))] [])) _
    refine XS.iloadN X0.here hx rfl (hb hby d_method_2_code_83) rfl ?_
    show Steps p.tables e below (s₁.setTop (mkF m 84 #[.val (.int (12 : Int32))] [(.int (12 : Int32))])) _
    refine XT.bipushV X0.here hx rfl (9 : Int32) (hb hby d_method_2_code_84) (by decide) ?_
    show Steps p.tables e below (s₁.setTop (mkF m 86 #[.val (.int (12 : Int32))] [(.int (9 : Int32)), (.int (12 : Int32))])) _
    refine XS.icmpYes X0.here hx rfl (pc0 := 86) (pc' := 93) rfl (hb hby d_method_2_code_86) rfl (by decide) (by decide) (by decide) ?_
    show Steps p.tables e below (s₁.setTop (mkF m 93 #[.val (.int (12 : Int32))] [])) _
    refine XS.iloadN X0.here hx rfl (hb hby d_method_2_code_93) rfl ?_
    show Steps p.tables e below (s₁.setTop (mkF m 94 #[.val (.int (12 : Int32))] [(.int (12 : Int32))])) _
    refine XT.bipushV X0.here hx rfl (10 : Int32) (hb hby d_method_2_code_94) (by decide) ?_
    show Steps p.tables e below (s₁.setTop (mkF m 96 #[.val (.int (12 : Int32))] [(.int (10 : Int32)), (.int (12 : Int32))])) _
    refine XS.icmpYes X0.here hx rfl (pc0 := 96) (pc' := 103) rfl (hb hby d_method_2_code_96) rfl (by decide) (by decide) (by decide) ?_
    show Steps p.tables e below (s₁.setTop (mkF m 103 #[.val (.int (12 : Int32))] [])) _
    refine XS.iloadN X0.here hx rfl (hb hby d_method_2_code_103) rfl ?_
    show Steps p.tables e below (s₁.setTop (mkF m 104 #[.val (.int (12 : Int32))] [(.int (12 : Int32))])) _
    refine XT.bipushV X0.here hx rfl (11 : Int32) (hb hby d_method_2_code_104) (by decide) ?_
    show Steps p.tables e below (s₁.setTop (mkF m 106 #[.val (.int (12 : Int32))] [(.int (11 : Int32)), (.int (12 : Int32))])) _
    refine XS.icmpYes X0.here hx rfl (pc0 := 106) (pc' := 113) rfl (hb hby d_method_2_code_106) rfl (by decide) (by decide) (by decide) ?_
    show Steps p.tables e below (s₁.setTop (mkF m 113 #[.val (.int (12 : Int32))] [])) _
    refine XS.iloadN X0.here hx rfl (hb hby d_method_2_code_113) rfl ?_
    show Steps p.tables e below (s₁.setTop (mkF m 114 #[.val (.int (12 : Int32))] [(.int (12 : Int32))])) _
    refine XT.bipushV X0.here hx rfl (12 : Int32) (hb hby d_method_2_code_114) (by decide) ?_
    show Steps p.tables e below (s₁.setTop (mkF m 116 #[.val (.int (12 : Int32))] [(.int (12 : Int32)), (.int (12 : Int32))])) _
    refine XS.icmpNo X0.here hx rfl (hb hby d_method_2_code_116) rfl (by decide) ?_
    show Steps p.tables e below (s₁.setTop (mkF m 119 #[.val (.int (12 : Int32))] [])) _
    refine st13 _ ?_
    show Steps p.tables e below (T13.setTop (mkF m 122 #[.val (.int (12 : Int32))] [(.ref w19)])) _
    jvm_step X13.here [X13.here.top, hx, (hb hby d_method_2_code_122), X13.method', Bd.returns, Value.isRef, FieldType.isReference]
    first | (intro acts; rw [hr _ acts rfl rfl rfl]) | rw [hr _ _ rfl rfl rfl]
    exact Steps.refl _
  · show own_Q (some (.ref w19)) h0 n0 _ T13.heap _
    rw [e13]
    exact ⟨rfl, N0, rfl⟩
theorem d_method_2_code_123 : decode method_2_code 123 = .ok (.iload_n 0, 1) := by decide +kernel
theorem d_method_2_code_124 : decode method_2_code 124 = .ok (.bipush 13, 2) := by decide +kernel
theorem d_method_2_code_126 : decode method_2_code 126 = .ok (.if_icmp .ne 7, 3) := by decide +kernel
theorem d_method_2_code_129 : decode method_2_code 129 = .ok (.getstatic 49, 3) := by decide +kernel
theorem d_method_2_code_132 : decode method_2_code 132 = .ok (.areturn, 1) := by decide +kernel
set_option maxRecDepth 65536 in
set_option maxHeartbeats 40000000 in
theorem own_pick_13 (l : Launch) (Z : State) (a0 : Array Value) (hw : ∀ d ∈ tables_1, d.before a0 Z = true) (ws : List Jvm.Cond) (w0 w1 w2 w3 w4 w5 w6 w7 w8 w9 w10 w11 w12 w13 w14 w15 w16 w17 w18 w19 w20 w21 w22 w23 : Addr) (h0 : Heap) (n0 : Nat) (Z0 : n0 ≤ h0.size) (P : own_P Z h0 w0 w1 w2 w3 w4 w5 w6 w7 w8 w9 w10 w11 w12 w13 w14 w15 w16 w17 w18 w19 w20 w21 w22 w23) :
    MetFree l (⟨"apportion/io/DataTypeIsDecimalPinLaw", "pick", "(I)Lapportion/io/DataType;"⟩ : MethodName) (head1 (Jvm.Cond.code (⟨"apportion/io/DataTypeIsDecimalPinLaw", "pick", "(I)Lapportion/io/DataType;"⟩ : MethodName) method_2_code 1 (some (.object "apportion/io/DataType")) :: ws) ({ frames := 0, cells := 0, slots := 0, locals := 0 } : Room)) (fun a U => a = #[(.int (13 : Int32))] ∧ Z.Warmed39 U.vm ∧ U.heap = h0) (fun _ _ _ _ _ => True) (fun _ U o U' => ∃ v L, o = .returned v ∧ own_Q (some (.ref w22)) h0 n0 v U'.heap L ∧ FrameEnd U o U' L ({ frames := 0, cells := 0, slots := 0, locals := 0 } : Room).cells ({ frames := 0, cells := 0, slots := 0, locals := 0 } : Room).slots) := by
  refine MetFree.of_bodySF (plainFor_of_name pn_apportion_io_DataTypeIsDecimalPinLaw) hisR ?_
  intro p e s m args below meth c s₁ Bd hml0 hP hK
  obtain ⟨rfl, hZ, hh⟩ := hP
  have hx := Bd.exec
  have hby := Bd.bytes
  have hml : c.maxLocals = 1 := hml0
  have hown : s.vm.findClass "apportion/io/DataTypeIsDecimalPinLaw" = some m.cls := findClass_of_methodNamed Bd.named
  have hnm := (name_of_methodNamed Bd.named Bd.method).1
  have X0 : Stand p l e ({ frames := 0, cells := 0, slots := 0, locals := 0 } : Room) s m #[(.int (13 : Int32))] below meth c s₁ [] 0 0 := Stand.of_body Bd
  have e0 : s₁.heap = h0 := by rw [← hh, Bd.state]; rfl
  have N0 := Fr.nil n0
  have pre0 : ∀ t, Steps p.tables e below (s₁.setTop (mkF m 0 #[.val (.int (13 : Int32))] [])) t → Steps p.tables e below (s₁.setTop (entryFrame m #[(.int (13 : Int32))] 1)) t := fun t k => castTop (ef_method_2_code_I m (13 : Int32)) k
  have P0 := P; obtain ⟨S0, E0, F0_ordinal, S1, E1, F1_ordinal, S2, E2, F2_ordinal, S3, E3, F3_ordinal, S4, E4, F4_ordinal, S5, E5, F5_ordinal, S6, E6, F6_ordinal, S7, E7, F7_ordinal, S8, E8, F8_ordinal, S9, E9, F9_ordinal, S10, E10, F10_ordinal, S11, E11, F11_ordinal, S12, E12, F12_ordinal, S13, E13, F13_ordinal, S14, E14, F14_ordinal, S15, E15, F15_ordinal, S16, E16, F16_ordinal, S17, E17, F17_ordinal, S18, E18, F18_ordinal, S19, E19, F19_ordinal, S20, E20, F20_ordinal, S21, E21, F21_ordinal, S22, E22, F22_ordinal, S23, E23, F23_ordinal⟩ := P0
  obtain ⟨T14, X14, e14, st14⟩ := getS2 X0 hx hZ hown (host := "") (Or.inl (hw _ (List.mem_of_getElem? (i := 64) rfl))) Via.refl e0 S22 (g := (mkF m 129 #[.val (.int (13 : Int32))] [])) rfl (hb hby d_method_2_code_129)
  obtain ⟨fs, hr, hrun, hended, hW, hsame⟩ := X14.leave (v := some (.ref w22)) (fun h => by rw [Bd.returns] at h; cases h)
  refine ⟨_, _, pre0 _ ?_, hrun, hended, _, _, rfl, ?_, ⟨_, rfl⟩, hW, hsame.mono (by decide) (by decide)⟩
  · show Steps p.tables e below (s₁.setTop (mkF m 0 #[.val (.int (13 : Int32))] [])) _
    refine XS.iloadN X0.here hx rfl (hb hby d_method_2_code_0) rfl ?_
    show Steps p.tables e below (s₁.setTop (mkF m 1 #[.val (.int (13 : Int32))] [(.int (13 : Int32))])) _
    refine XS.ifYes X0.here hx rfl (pc0 := 1) (pc' := 8) rfl (hb hby d_method_2_code_1) rfl (by decide) (by decide) (by decide) ?_
    show Steps p.tables e below (s₁.setTop (mkF m 8 #[.val (.int (13 : Int32))] [])) _
    refine XS.iloadN X0.here hx rfl (hb hby d_method_2_code_8) rfl ?_
    show Steps p.tables e below (s₁.setTop (mkF m 9 #[.val (.int (13 : Int32))] [(.int (13 : Int32))])) _
    refine XT.iconstV X0.here hx rfl (1 : Int32) (hb hby d_method_2_code_9) rfl ?_
    show Steps p.tables e below (s₁.setTop (mkF m 10 #[.val (.int (13 : Int32))] [(.int (1 : Int32)), (.int (13 : Int32))])) _
    refine XS.icmpYes X0.here hx rfl (pc0 := 10) (pc' := 17) rfl (hb hby d_method_2_code_10) rfl (by decide) (by decide) (by decide) ?_
    show Steps p.tables e below (s₁.setTop (mkF m 17 #[.val (.int (13 : Int32))] [])) _
    refine XS.iloadN X0.here hx rfl (hb hby d_method_2_code_17) rfl ?_
    show Steps p.tables e below (s₁.setTop (mkF m 18 #[.val (.int (13 : Int32))] [(.int (13 : Int32))])) _
    refine XT.iconstV X0.here hx rfl (2 : Int32) (hb hby d_method_2_code_18) rfl ?_
    show Steps p.tables e below (s₁.setTop (mkF m 19 #[.val (.int (13 : Int32))] [(.int (2 : Int32)), (.int (13 : Int32))])) _
    refine XS.icmpYes X0.here hx rfl (pc0 := 19) (pc' := 26) rfl (hb hby d_method_2_code_19) rfl (by decide) (by decide) (by decide) ?_
    show Steps p.tables e below (s₁.setTop (mkF m 26 #[.val (.int (13 : Int32))] [])) _
    refine XS.iloadN X0.here hx rfl (hb hby d_method_2_code_26) rfl ?_
    show Steps p.tables e below (s₁.setTop (mkF m 27 #[.val (.int (13 : Int32))] [(.int (13 : Int32))])) _
    refine XT.iconstV X0.here hx rfl (3 : Int32) (hb hby d_method_2_code_27) rfl ?_
    show Steps p.tables e below (s₁.setTop (mkF m 28 #[.val (.int (13 : Int32))] [(.int (3 : Int32)), (.int (13 : Int32))])) _
    refine XS.icmpYes X0.here hx rfl (pc0 := 28) (pc' := 35) rfl (hb hby d_method_2_code_28) rfl (by decide) (by decide) (by decide) ?_
    show Steps p.tables e below (s₁.setTop (mkF m 35 #[.val (.int (13 : Int32))] [])) _
    refine XS.iloadN X0.here hx rfl (hb hby d_method_2_code_35) rfl ?_
    show Steps p.tables e below (s₁.setTop (mkF m 36 #[.val (.int (13 : Int32))] [(.int (13 : Int32))])) _
    refine XT.iconstV X0.here hx rfl (4 : Int32) (hb hby d_method_2_code_36) rfl ?_
    show Steps p.tables e below (s₁.setTop (mkF m 37 #[.val (.int (13 : Int32))] [(.int (4 : Int32)), (.int (13 : Int32))])) _
    refine XS.icmpYes X0.here hx rfl (pc0 := 37) (pc' := 44) rfl (hb hby d_method_2_code_37) rfl (by decide) (by decide) (by decide) ?_
    show Steps p.tables e below (s₁.setTop (mkF m 44 #[.val (.int (13 : Int32))] [])) _
    refine XS.iloadN X0.here hx rfl (hb hby d_method_2_code_44) rfl ?_
    show Steps p.tables e below (s₁.setTop (mkF m 45 #[.val (.int (13 : Int32))] [(.int (13 : Int32))])) _
    refine XT.iconstV X0.here hx rfl (5 : Int32) (hb hby d_method_2_code_45) rfl ?_
    show Steps p.tables e below (s₁.setTop (mkF m 46 #[.val (.int (13 : Int32))] [(.int (5 : Int32)), (.int (13 : Int32))])) _
    refine XS.icmpYes X0.here hx rfl (pc0 := 46) (pc' := 53) rfl (hb hby d_method_2_code_46) rfl (by decide) (by decide) (by decide) ?_
    show Steps p.tables e below (s₁.setTop (mkF m 53 #[.val (.int (13 : Int32))] [])) _
    refine XS.iloadN X0.here hx rfl (hb hby d_method_2_code_53) rfl ?_
    show Steps p.tables e below (s₁.setTop (mkF m 54 #[.val (.int (13 : Int32))] [(.int (13 : Int32))])) _
    refine XT.bipushV X0.here hx rfl (6 : Int32) (hb hby d_method_2_code_54) (by decide) ?_
    show Steps p.tables e below (s₁.setTop (mkF m 56 #[.val (.int (13 : Int32))] [(.int (6 : Int32)), (.int (13 : Int32))])) _
    refine XS.icmpYes X0.here hx rfl (pc0 := 56) (pc' := 63) rfl (hb hby d_method_2_code_56) rfl (by decide) (by decide) (by decide) ?_
    show Steps p.tables e below (s₁.setTop (mkF m 63 #[.val (.int (13 : Int32))] [])) _
    refine XS.iloadN X0.here hx rfl (hb hby d_method_2_code_63) rfl ?_
    show Steps p.tables e below (s₁.setTop (mkF m 64 #[.val (.int (13 : Int32))] [(.int (13 : Int32))])) _
    refine XT.bipushV X0.here hx rfl (7 : Int32) (hb hby d_method_2_code_64) (by decide) ?_
    show Steps p.tables e below (s₁.setTop (mkF m 66 #[.val (.int (13 : Int32))] [(.int (7 : Int32)), (.int (13 : Int32))])) _
    refine XS.icmpYes X0.here hx rfl (pc0 := 66) (pc' := 73) rfl (hb hby d_method_2_code_66) rfl (by decide) (by decide) (by decide) ?_
    show Steps p.tables e below (s₁.setTop (mkF m 73 #[.val (.int (13 : Int32))] [])) _
    refine XS.iloadN X0.here hx rfl (hb hby d_method_2_code_73) rfl ?_
    show Steps p.tables e below (s₁.setTop (mkF m 74 #[.val (.int (13 : Int32))] [(.int (13 : Int32))])) _
    refine XT.bipushV X0.here hx rfl (8 : Int32) (hb hby d_method_2_code_74) (by decide) ?_
    show Steps p.tables e below (s₁.setTop (mkF m 76 #[.val (.int (13 : Int32))] [(.int (8 : Int32)), (.int (13 : Int32))])) _
    refine XS.icmpYes X0.here hx rfl (pc0 := 76) (pc' := 83) rfl (hb hby d_method_2_code_76) rfl (by decide) (by decide) (by decide) ?_
    show Steps p.tables e below (s₁.setTop (mkF m 83 #[.val (.int (13 : Int32))] [])) _
    refine XS.iloadN X0.here hx rfl (hb hby d_method_2_code_83) rfl ?_
    show Steps p.tables e below (s₁.setTop (mkF m 84 #[.val (.int (13 : Int32))] [(.int (13 : Int32))])) _
    refine XT.bipushV X0.here hx rfl (9 : Int32) (hb hby d_method_2_code_84) (by decide) ?_
    show Steps p.tables e below (s₁.setTop (mkF m 86 #[.val (.int (13 : Int32))] [(.int (9 : Int32)), (.int (13 : Int32))])) _
    refine XS.icmpYes X0.here hx rfl (pc0 := 86) (pc' := 93) rfl (hb hby d_method_2_code_86) rfl (by decide) (by decide) (by decide) ?_
    show Steps p.tables e below (s₁.setTop (mkF m 93 #[.val (.int (13 : Int32))] [])) _
    refine XS.iloadN X0.here hx rfl (hb hby d_method_2_code_93) rfl ?_
    show Steps p.tables e below (s₁.setTop (mkF m 94 #[.val (.int (13 : Int32))] [(.int (13 : Int32))])) _
    refine XT.bipushV X0.here hx rfl (10 : Int32) (hb hby d_method_2_code_94) (by decide) ?_
    show Steps p.tables e below (s₁.setTop (mkF m 96 #[.val (.int (13 : Int32))] [(.int (10 : Int32)), (.int (13 : Int32))])) _
    refine XS.icmpYes X0.here hx rfl (pc0 := 96) (pc' := 103) rfl (hb hby d_method_2_code_96) rfl (by decide) (by decide) (by decide) ?_
    show Steps p.tables e below (s₁.setTop (mkF m 103 #[.val (.int (13 : Int32))] [])) _
    refine XS.iloadN X0.here hx rfl (hb hby d_method_2_code_103) rfl ?_
    show Steps p.tables e below (s₁.setTop (mkF m 104 #[.val (.int (13 : Int32))] [(.int (13 : Int32))])) _
    refine XT.bipushV X0.here hx rfl (11 : Int32) (hb hby d_method_2_code_104) (by decide) ?_
    show Steps p.tables e below (s₁.setTop (mkF m 106 #[.val (.int (13 : Int32))] [(.int (11 : Int32)), (.int (13 : Int32))])) _
    refine XS.icmpYes X0.here hx rfl (pc0 := 106) (pc' := 113) rfl (hb hby d_method_2_code_106) rfl (by decide) (by decide) (by decide) ?_
    show Steps p.tables e below (s₁.setTop (mkF m 113 #[.val (.int (13 : Int32))] [])) _
    refine XS.iloadN X0.here hx rfl (hb hby d_method_2_code_113) rfl ?_
    show Steps p.tables e below (s₁.setTop (mkF m 114 #[.val (.int (13 : Int32))] [(.int (13 : Int32))])) _
    refine XT.bipushV X0.here hx rfl (12 : Int32) (hb hby d_method_2_code_114) (by decide) ?_
    show Steps p.tables e below (s₁.setTop (mkF m 116 #[.val (.int (13 : Int32))] [(.int (12 : Int32)), (.int (13 : Int32))])) _
    refine XS.icmpYes X0.here hx rfl (pc0 := 116) (pc' := 123) rfl (hb hby d_method_2_code_116) rfl (by decide) (by decide) (by decide) ?_
    show Steps p.tables e below (s₁.setTop (mkF m 123 #[.val (.int (13 : Int32))] [])) _
    refine XS.iloadN X0.here hx rfl (hb hby d_method_2_code_123) rfl ?_
    show Steps p.tables e below (s₁.setTop (mkF m 124 #[.val (.int (13 : Int32))] [(.int (13 : Int32))])) _
    refine XT.bipushV X0.here hx rfl (13 : Int32) (hb hby d_method_2_code_124) (by decide) ?_
    show Steps p.tables e below (s₁.setTop (mkF m 126 #[.val (.int (13 : Int32))] [(.int (13 : Int32)), (.int (13 : Int32))])) _
    refine XS.icmpNo X0.here hx rfl (hb hby d_method_2_code_126) rfl (by decide) ?_
    show Steps p.tables e below (s₁.setTop (mkF m 129 #[.val (.int (13 : Int32))] [])) _
    refine st14 _ ?_
    show Steps p.tables e below (T14.setTop (mkF m 132 #[.val (.int (13 : Int32))] [(.ref w22)])) _
    jvm_step X14.here [X14.here.top, hx, (hb hby d_method_2_code_132), X14.method', Bd.returns, Value.isRef, FieldType.isReference]
    first | (intro acts; rw [hr _ acts rfl rfl rfl]) | rw [hr _ _ rfl rfl rfl]
    exact Steps.refl _
  · show own_Q (some (.ref w22)) h0 n0 _ T14.heap _
    rw [e14]
    exact ⟨rfl, N0, rfl⟩
theorem d_method_2_code_133 : decode method_2_code 133 = .ok (.iload_n 0, 1) := by decide +kernel
theorem d_method_2_code_134 : decode method_2_code 134 = .ok (.bipush 14, 2) := by decide +kernel
theorem d_method_2_code_136 : decode method_2_code 136 = .ok (.if_icmp .ne 7, 3) := by decide +kernel
theorem d_method_2_code_139 : decode method_2_code 139 = .ok (.getstatic 52, 3) := by decide +kernel
theorem d_method_2_code_142 : decode method_2_code 142 = .ok (.areturn, 1) := by decide +kernel
set_option maxRecDepth 65536 in
set_option maxHeartbeats 40000000 in
theorem own_pick_14 (l : Launch) (Z : State) (a0 : Array Value) (hw : ∀ d ∈ tables_1, d.before a0 Z = true) (ws : List Jvm.Cond) (w0 w1 w2 w3 w4 w5 w6 w7 w8 w9 w10 w11 w12 w13 w14 w15 w16 w17 w18 w19 w20 w21 w22 w23 : Addr) (h0 : Heap) (n0 : Nat) (Z0 : n0 ≤ h0.size) (P : own_P Z h0 w0 w1 w2 w3 w4 w5 w6 w7 w8 w9 w10 w11 w12 w13 w14 w15 w16 w17 w18 w19 w20 w21 w22 w23) :
    MetFree l (⟨"apportion/io/DataTypeIsDecimalPinLaw", "pick", "(I)Lapportion/io/DataType;"⟩ : MethodName) (head1 (Jvm.Cond.code (⟨"apportion/io/DataTypeIsDecimalPinLaw", "pick", "(I)Lapportion/io/DataType;"⟩ : MethodName) method_2_code 1 (some (.object "apportion/io/DataType")) :: ws) ({ frames := 0, cells := 0, slots := 0, locals := 0 } : Room)) (fun a U => a = #[(.int (14 : Int32))] ∧ Z.Warmed39 U.vm ∧ U.heap = h0) (fun _ _ _ _ _ => True) (fun _ U o U' => ∃ v L, o = .returned v ∧ own_Q (some (.ref w2)) h0 n0 v U'.heap L ∧ FrameEnd U o U' L ({ frames := 0, cells := 0, slots := 0, locals := 0 } : Room).cells ({ frames := 0, cells := 0, slots := 0, locals := 0 } : Room).slots) := by
  refine MetFree.of_bodySF (plainFor_of_name pn_apportion_io_DataTypeIsDecimalPinLaw) hisR ?_
  intro p e s m args below meth c s₁ Bd hml0 hP hK
  obtain ⟨rfl, hZ, hh⟩ := hP
  have hx := Bd.exec
  have hby := Bd.bytes
  have hml : c.maxLocals = 1 := hml0
  have hown : s.vm.findClass "apportion/io/DataTypeIsDecimalPinLaw" = some m.cls := findClass_of_methodNamed Bd.named
  have hnm := (name_of_methodNamed Bd.named Bd.method).1
  have X0 : Stand p l e ({ frames := 0, cells := 0, slots := 0, locals := 0 } : Room) s m #[(.int (14 : Int32))] below meth c s₁ [] 0 0 := Stand.of_body Bd
  have e0 : s₁.heap = h0 := by rw [← hh, Bd.state]; rfl
  have N0 := Fr.nil n0
  have pre0 : ∀ t, Steps p.tables e below (s₁.setTop (mkF m 0 #[.val (.int (14 : Int32))] [])) t → Steps p.tables e below (s₁.setTop (entryFrame m #[(.int (14 : Int32))] 1)) t := fun t k => castTop (ef_method_2_code_I m (14 : Int32)) k
  have P0 := P; obtain ⟨S0, E0, F0_ordinal, S1, E1, F1_ordinal, S2, E2, F2_ordinal, S3, E3, F3_ordinal, S4, E4, F4_ordinal, S5, E5, F5_ordinal, S6, E6, F6_ordinal, S7, E7, F7_ordinal, S8, E8, F8_ordinal, S9, E9, F9_ordinal, S10, E10, F10_ordinal, S11, E11, F11_ordinal, S12, E12, F12_ordinal, S13, E13, F13_ordinal, S14, E14, F14_ordinal, S15, E15, F15_ordinal, S16, E16, F16_ordinal, S17, E17, F17_ordinal, S18, E18, F18_ordinal, S19, E19, F19_ordinal, S20, E20, F20_ordinal, S21, E21, F21_ordinal, S22, E22, F22_ordinal, S23, E23, F23_ordinal⟩ := P0
  obtain ⟨T15, X15, e15, st15⟩ := getS2 X0 hx hZ hown (host := "") (Or.inl (hw _ (List.mem_of_getElem? (i := 24) rfl))) Via.refl e0 S2 (g := (mkF m 139 #[.val (.int (14 : Int32))] [])) rfl (hb hby d_method_2_code_139)
  obtain ⟨fs, hr, hrun, hended, hW, hsame⟩ := X15.leave (v := some (.ref w2)) (fun h => by rw [Bd.returns] at h; cases h)
  refine ⟨_, _, pre0 _ ?_, hrun, hended, _, _, rfl, ?_, ⟨_, rfl⟩, hW, hsame.mono (by decide) (by decide)⟩
  · show Steps p.tables e below (s₁.setTop (mkF m 0 #[.val (.int (14 : Int32))] [])) _
    refine XS.iloadN X0.here hx rfl (hb hby d_method_2_code_0) rfl ?_
    show Steps p.tables e below (s₁.setTop (mkF m 1 #[.val (.int (14 : Int32))] [(.int (14 : Int32))])) _
    refine XS.ifYes X0.here hx rfl (pc0 := 1) (pc' := 8) rfl (hb hby d_method_2_code_1) rfl (by decide) (by decide) (by decide) ?_
    show Steps p.tables e below (s₁.setTop (mkF m 8 #[.val (.int (14 : Int32))] [])) _
    refine XS.iloadN X0.here hx rfl (hb hby d_method_2_code_8) rfl ?_
    show Steps p.tables e below (s₁.setTop (mkF m 9 #[.val (.int (14 : Int32))] [(.int (14 : Int32))])) _
    refine XT.iconstV X0.here hx rfl (1 : Int32) (hb hby d_method_2_code_9) rfl ?_
    show Steps p.tables e below (s₁.setTop (mkF m 10 #[.val (.int (14 : Int32))] [(.int (1 : Int32)), (.int (14 : Int32))])) _
    refine XS.icmpYes X0.here hx rfl (pc0 := 10) (pc' := 17) rfl (hb hby d_method_2_code_10) rfl (by decide) (by decide) (by decide) ?_
    show Steps p.tables e below (s₁.setTop (mkF m 17 #[.val (.int (14 : Int32))] [])) _
    refine XS.iloadN X0.here hx rfl (hb hby d_method_2_code_17) rfl ?_
    show Steps p.tables e below (s₁.setTop (mkF m 18 #[.val (.int (14 : Int32))] [(.int (14 : Int32))])) _
    refine XT.iconstV X0.here hx rfl (2 : Int32) (hb hby d_method_2_code_18) rfl ?_
    show Steps p.tables e below (s₁.setTop (mkF m 19 #[.val (.int (14 : Int32))] [(.int (2 : Int32)), (.int (14 : Int32))])) _
    refine XS.icmpYes X0.here hx rfl (pc0 := 19) (pc' := 26) rfl (hb hby d_method_2_code_19) rfl (by decide) (by decide) (by decide) ?_
    show Steps p.tables e below (s₁.setTop (mkF m 26 #[.val (.int (14 : Int32))] [])) _
    refine XS.iloadN X0.here hx rfl (hb hby d_method_2_code_26) rfl ?_
    show Steps p.tables e below (s₁.setTop (mkF m 27 #[.val (.int (14 : Int32))] [(.int (14 : Int32))])) _
    refine XT.iconstV X0.here hx rfl (3 : Int32) (hb hby d_method_2_code_27) rfl ?_
    show Steps p.tables e below (s₁.setTop (mkF m 28 #[.val (.int (14 : Int32))] [(.int (3 : Int32)), (.int (14 : Int32))])) _
    refine XS.icmpYes X0.here hx rfl (pc0 := 28) (pc' := 35) rfl (hb hby d_method_2_code_28) rfl (by decide) (by decide) (by decide) ?_
    show Steps p.tables e below (s₁.setTop (mkF m 35 #[.val (.int (14 : Int32))] [])) _
    refine XS.iloadN X0.here hx rfl (hb hby d_method_2_code_35) rfl ?_
    show Steps p.tables e below (s₁.setTop (mkF m 36 #[.val (.int (14 : Int32))] [(.int (14 : Int32))])) _
    refine XT.iconstV X0.here hx rfl (4 : Int32) (hb hby d_method_2_code_36) rfl ?_
    show Steps p.tables e below (s₁.setTop (mkF m 37 #[.val (.int (14 : Int32))] [(.int (4 : Int32)), (.int (14 : Int32))])) _
    refine XS.icmpYes X0.here hx rfl (pc0 := 37) (pc' := 44) rfl (hb hby d_method_2_code_37) rfl (by decide) (by decide) (by decide) ?_
    show Steps p.tables e below (s₁.setTop (mkF m 44 #[.val (.int (14 : Int32))] [])) _
    refine XS.iloadN X0.here hx rfl (hb hby d_method_2_code_44) rfl ?_
    show Steps p.tables e below (s₁.setTop (mkF m 45 #[.val (.int (14 : Int32))] [(.int (14 : Int32))])) _
    refine XT.iconstV X0.here hx rfl (5 : Int32) (hb hby d_method_2_code_45) rfl ?_
    show Steps p.tables e below (s₁.setTop (mkF m 46 #[.val (.int (14 : Int32))] [(.int (5 : Int32)), (.int (14 : Int32))])) _
    refine XS.icmpYes X0.here hx rfl (pc0 := 46) (pc' := 53) rfl (hb hby d_method_2_code_46) rfl (by decide) (by decide) (by decide) ?_
    show Steps p.tables e below (s₁.setTop (mkF m 53 #[.val (.int (14 : Int32))] [])) _
    refine XS.iloadN X0.here hx rfl (hb hby d_method_2_code_53) rfl ?_
    show Steps p.tables e below (s₁.setTop (mkF m 54 #[.val (.int (14 : Int32))] [(.int (14 : Int32))])) _
    refine XT.bipushV X0.here hx rfl (6 : Int32) (hb hby d_method_2_code_54) (by decide) ?_
    show Steps p.tables e below (s₁.setTop (mkF m 56 #[.val (.int (14 : Int32))] [(.int (6 : Int32)), (.int (14 : Int32))])) _
    refine XS.icmpYes X0.here hx rfl (pc0 := 56) (pc' := 63) rfl (hb hby d_method_2_code_56) rfl (by decide) (by decide) (by decide) ?_
    show Steps p.tables e below (s₁.setTop (mkF m 63 #[.val (.int (14 : Int32))] [])) _
    refine XS.iloadN X0.here hx rfl (hb hby d_method_2_code_63) rfl ?_
    show Steps p.tables e below (s₁.setTop (mkF m 64 #[.val (.int (14 : Int32))] [(.int (14 : Int32))])) _
    refine XT.bipushV X0.here hx rfl (7 : Int32) (hb hby d_method_2_code_64) (by decide) ?_
    show Steps p.tables e below (s₁.setTop (mkF m 66 #[.val (.int (14 : Int32))] [(.int (7 : Int32)), (.int (14 : Int32))])) _
    refine XS.icmpYes X0.here hx rfl (pc0 := 66) (pc' := 73) rfl (hb hby d_method_2_code_66) rfl (by decide) (by decide) (by decide) ?_
    show Steps p.tables e below (s₁.setTop (mkF m 73 #[.val (.int (14 : Int32))] [])) _
    refine XS.iloadN X0.here hx rfl (hb hby d_method_2_code_73) rfl ?_
    show Steps p.tables e below (s₁.setTop (mkF m 74 #[.val (.int (14 : Int32))] [(.int (14 : Int32))])) _
    refine XT.bipushV X0.here hx rfl (8 : Int32) (hb hby d_method_2_code_74) (by decide) ?_
    show Steps p.tables e below (s₁.setTop (mkF m 76 #[.val (.int (14 : Int32))] [(.int (8 : Int32)), (.int (14 : Int32))])) _
    refine XS.icmpYes X0.here hx rfl (pc0 := 76) (pc' := 83) rfl (hb hby d_method_2_code_76) rfl (by decide) (by decide) (by decide) ?_
    show Steps p.tables e below (s₁.setTop (mkF m 83 #[.val (.int (14 : Int32))] [])) _
    refine XS.iloadN X0.here hx rfl (hb hby d_method_2_code_83) rfl ?_
    show Steps p.tables e below (s₁.setTop (mkF m 84 #[.val (.int (14 : Int32))] [(.int (14 : Int32))])) _
    refine XT.bipushV X0.here hx rfl (9 : Int32) (hb hby d_method_2_code_84) (by decide) ?_
    show Steps p.tables e below (s₁.setTop (mkF m 86 #[.val (.int (14 : Int32))] [(.int (9 : Int32)), (.int (14 : Int32))])) _
    refine XS.icmpYes X0.here hx rfl (pc0 := 86) (pc' := 93) rfl (hb hby d_method_2_code_86) rfl (by decide) (by decide) (by decide) ?_
    show Steps p.tables e below (s₁.setTop (mkF m 93 #[.val (.int (14 : Int32))] [])) _
    refine XS.iloadN X0.here hx rfl (hb hby d_method_2_code_93) rfl ?_
    show Steps p.tables e below (s₁.setTop (mkF m 94 #[.val (.int (14 : Int32))] [(.int (14 : Int32))])) _
    refine XT.bipushV X0.here hx rfl (10 : Int32) (hb hby d_method_2_code_94) (by decide) ?_
    show Steps p.tables e below (s₁.setTop (mkF m 96 #[.val (.int (14 : Int32))] [(.int (10 : Int32)), (.int (14 : Int32))])) _
    refine XS.icmpYes X0.here hx rfl (pc0 := 96) (pc' := 103) rfl (hb hby d_method_2_code_96) rfl (by decide) (by decide) (by decide) ?_
    show Steps p.tables e below (s₁.setTop (mkF m 103 #[.val (.int (14 : Int32))] [])) _
    refine XS.iloadN X0.here hx rfl (hb hby d_method_2_code_103) rfl ?_
    show Steps p.tables e below (s₁.setTop (mkF m 104 #[.val (.int (14 : Int32))] [(.int (14 : Int32))])) _
    refine XT.bipushV X0.here hx rfl (11 : Int32) (hb hby d_method_2_code_104) (by decide) ?_
    show Steps p.tables e below (s₁.setTop (mkF m 106 #[.val (.int (14 : Int32))] [(.int (11 : Int32)), (.int (14 : Int32))])) _
    refine XS.icmpYes X0.here hx rfl (pc0 := 106) (pc' := 113) rfl (hb hby d_method_2_code_106) rfl (by decide) (by decide) (by decide) ?_
    show Steps p.tables e below (s₁.setTop (mkF m 113 #[.val (.int (14 : Int32))] [])) _
    refine XS.iloadN X0.here hx rfl (hb hby d_method_2_code_113) rfl ?_
    show Steps p.tables e below (s₁.setTop (mkF m 114 #[.val (.int (14 : Int32))] [(.int (14 : Int32))])) _
    refine XT.bipushV X0.here hx rfl (12 : Int32) (hb hby d_method_2_code_114) (by decide) ?_
    show Steps p.tables e below (s₁.setTop (mkF m 116 #[.val (.int (14 : Int32))] [(.int (12 : Int32)), (.int (14 : Int32))])) _
    refine XS.icmpYes X0.here hx rfl (pc0 := 116) (pc' := 123) rfl (hb hby d_method_2_code_116) rfl (by decide) (by decide) (by decide) ?_
    show Steps p.tables e below (s₁.setTop (mkF m 123 #[.val (.int (14 : Int32))] [])) _
    refine XS.iloadN X0.here hx rfl (hb hby d_method_2_code_123) rfl ?_
    show Steps p.tables e below (s₁.setTop (mkF m 124 #[.val (.int (14 : Int32))] [(.int (14 : Int32))])) _
    refine XT.bipushV X0.here hx rfl (13 : Int32) (hb hby d_method_2_code_124) (by decide) ?_
    show Steps p.tables e below (s₁.setTop (mkF m 126 #[.val (.int (14 : Int32))] [(.int (13 : Int32)), (.int (14 : Int32))])) _
    refine XS.icmpYes X0.here hx rfl (pc0 := 126) (pc' := 133) rfl (hb hby d_method_2_code_126) rfl (by decide) (by decide) (by decide) ?_
    show Steps p.tables e below (s₁.setTop (mkF m 133 #[.val (.int (14 : Int32))] [])) _
    refine XS.iloadN X0.here hx rfl (hb hby d_method_2_code_133) rfl ?_
    show Steps p.tables e below (s₁.setTop (mkF m 134 #[.val (.int (14 : Int32))] [(.int (14 : Int32))])) _
    refine XT.bipushV X0.here hx rfl (14 : Int32) (hb hby d_method_2_code_134) (by decide) ?_
    show Steps p.tables e below (s₁.setTop (mkF m 136 #[.val (.int (14 : Int32))] [(.int (14 : Int32)), (.int (14 : Int32))])) _
    refine XS.icmpNo X0.here hx rfl (hb hby d_method_2_code_136) rfl (by decide) ?_
    show Steps p.tables e below (s₁.setTop (mkF m 139 #[.val (.int (14 : Int32))] [])) _
    refine st15 _ ?_
    show Steps p.tables e below (T15.setTop (mkF m 142 #[.val (.int (14 : Int32))] [(.ref w2)])) _
    jvm_step X15.here [X15.here.top, hx, (hb hby d_method_2_code_142), X15.method', Bd.returns, Value.isRef, FieldType.isReference]
    first | (intro acts; rw [hr _ acts rfl rfl rfl]) | rw [hr _ _ rfl rfl rfl]
    exact Steps.refl _
  · show own_Q (some (.ref w2)) h0 n0 _ T15.heap _
    rw [e15]
    exact ⟨rfl, N0, rfl⟩
theorem d_method_2_code_143 : decode method_2_code 143 = .ok (.iload_n 0, 1) := by decide +kernel
theorem d_method_2_code_144 : decode method_2_code 144 = .ok (.bipush 15, 2) := by decide +kernel
theorem d_method_2_code_146 : decode method_2_code 146 = .ok (.if_icmp .ne 7, 3) := by decide +kernel
theorem d_method_2_code_149 : decode method_2_code 149 = .ok (.getstatic 55, 3) := by decide +kernel
theorem d_method_2_code_152 : decode method_2_code 152 = .ok (.areturn, 1) := by decide +kernel
set_option maxRecDepth 65536 in
set_option maxHeartbeats 40000000 in
theorem own_pick_15 (l : Launch) (Z : State) (a0 : Array Value) (hw : ∀ d ∈ tables_1, d.before a0 Z = true) (ws : List Jvm.Cond) (w0 w1 w2 w3 w4 w5 w6 w7 w8 w9 w10 w11 w12 w13 w14 w15 w16 w17 w18 w19 w20 w21 w22 w23 : Addr) (h0 : Heap) (n0 : Nat) (Z0 : n0 ≤ h0.size) (P : own_P Z h0 w0 w1 w2 w3 w4 w5 w6 w7 w8 w9 w10 w11 w12 w13 w14 w15 w16 w17 w18 w19 w20 w21 w22 w23) :
    MetFree l (⟨"apportion/io/DataTypeIsDecimalPinLaw", "pick", "(I)Lapportion/io/DataType;"⟩ : MethodName) (head1 (Jvm.Cond.code (⟨"apportion/io/DataTypeIsDecimalPinLaw", "pick", "(I)Lapportion/io/DataType;"⟩ : MethodName) method_2_code 1 (some (.object "apportion/io/DataType")) :: ws) ({ frames := 0, cells := 0, slots := 0, locals := 0 } : Room)) (fun a U => a = #[(.int (15 : Int32))] ∧ Z.Warmed39 U.vm ∧ U.heap = h0) (fun _ _ _ _ _ => True) (fun _ U o U' => ∃ v L, o = .returned v ∧ own_Q (some (.ref w4)) h0 n0 v U'.heap L ∧ FrameEnd U o U' L ({ frames := 0, cells := 0, slots := 0, locals := 0 } : Room).cells ({ frames := 0, cells := 0, slots := 0, locals := 0 } : Room).slots) := by
  refine MetFree.of_bodySF (plainFor_of_name pn_apportion_io_DataTypeIsDecimalPinLaw) hisR ?_
  intro p e s m args below meth c s₁ Bd hml0 hP hK
  obtain ⟨rfl, hZ, hh⟩ := hP
  have hx := Bd.exec
  have hby := Bd.bytes
  have hml : c.maxLocals = 1 := hml0
  have hown : s.vm.findClass "apportion/io/DataTypeIsDecimalPinLaw" = some m.cls := findClass_of_methodNamed Bd.named
  have hnm := (name_of_methodNamed Bd.named Bd.method).1
  have X0 : Stand p l e ({ frames := 0, cells := 0, slots := 0, locals := 0 } : Room) s m #[(.int (15 : Int32))] below meth c s₁ [] 0 0 := Stand.of_body Bd
  have e0 : s₁.heap = h0 := by rw [← hh, Bd.state]; rfl
  have N0 := Fr.nil n0
  have pre0 : ∀ t, Steps p.tables e below (s₁.setTop (mkF m 0 #[.val (.int (15 : Int32))] [])) t → Steps p.tables e below (s₁.setTop (entryFrame m #[(.int (15 : Int32))] 1)) t := fun t k => castTop (ef_method_2_code_I m (15 : Int32)) k
  have P0 := P; obtain ⟨S0, E0, F0_ordinal, S1, E1, F1_ordinal, S2, E2, F2_ordinal, S3, E3, F3_ordinal, S4, E4, F4_ordinal, S5, E5, F5_ordinal, S6, E6, F6_ordinal, S7, E7, F7_ordinal, S8, E8, F8_ordinal, S9, E9, F9_ordinal, S10, E10, F10_ordinal, S11, E11, F11_ordinal, S12, E12, F12_ordinal, S13, E13, F13_ordinal, S14, E14, F14_ordinal, S15, E15, F15_ordinal, S16, E16, F16_ordinal, S17, E17, F17_ordinal, S18, E18, F18_ordinal, S19, E19, F19_ordinal, S20, E20, F20_ordinal, S21, E21, F21_ordinal, S22, E22, F22_ordinal, S23, E23, F23_ordinal⟩ := P0
  obtain ⟨T16, X16, e16, st16⟩ := getS2 X0 hx hZ hown (host := "") (Or.inl (hw _ (List.mem_of_getElem? (i := 28) rfl))) Via.refl e0 S4 (g := (mkF m 149 #[.val (.int (15 : Int32))] [])) rfl (hb hby d_method_2_code_149)
  obtain ⟨fs, hr, hrun, hended, hW, hsame⟩ := X16.leave (v := some (.ref w4)) (fun h => by rw [Bd.returns] at h; cases h)
  refine ⟨_, _, pre0 _ ?_, hrun, hended, _, _, rfl, ?_, ⟨_, rfl⟩, hW, hsame.mono (by decide) (by decide)⟩
  · show Steps p.tables e below (s₁.setTop (mkF m 0 #[.val (.int (15 : Int32))] [])) _
    refine XS.iloadN X0.here hx rfl (hb hby d_method_2_code_0) rfl ?_
    show Steps p.tables e below (s₁.setTop (mkF m 1 #[.val (.int (15 : Int32))] [(.int (15 : Int32))])) _
    refine XS.ifYes X0.here hx rfl (pc0 := 1) (pc' := 8) rfl (hb hby d_method_2_code_1) rfl (by decide) (by decide) (by decide) ?_
    show Steps p.tables e below (s₁.setTop (mkF m 8 #[.val (.int (15 : Int32))] [])) _
    refine XS.iloadN X0.here hx rfl (hb hby d_method_2_code_8) rfl ?_
    show Steps p.tables e below (s₁.setTop (mkF m 9 #[.val (.int (15 : Int32))] [(.int (15 : Int32))])) _
    refine XT.iconstV X0.here hx rfl (1 : Int32) (hb hby d_method_2_code_9) rfl ?_
    show Steps p.tables e below (s₁.setTop (mkF m 10 #[.val (.int (15 : Int32))] [(.int (1 : Int32)), (.int (15 : Int32))])) _
    refine XS.icmpYes X0.here hx rfl (pc0 := 10) (pc' := 17) rfl (hb hby d_method_2_code_10) rfl (by decide) (by decide) (by decide) ?_
    show Steps p.tables e below (s₁.setTop (mkF m 17 #[.val (.int (15 : Int32))] [])) _
    refine XS.iloadN X0.here hx rfl (hb hby d_method_2_code_17) rfl ?_
    show Steps p.tables e below (s₁.setTop (mkF m 18 #[.val (.int (15 : Int32))] [(.int (15 : Int32))])) _
    refine XT.iconstV X0.here hx rfl (2 : Int32) (hb hby d_method_2_code_18) rfl ?_
    show Steps p.tables e below (s₁.setTop (mkF m 19 #[.val (.int (15 : Int32))] [(.int (2 : Int32)), (.int (15 : Int32))])) _
    refine XS.icmpYes X0.here hx rfl (pc0 := 19) (pc' := 26) rfl (hb hby d_method_2_code_19) rfl (by decide) (by decide) (by decide) ?_
    show Steps p.tables e below (s₁.setTop (mkF m 26 #[.val (.int (15 : Int32))] [])) _
    refine XS.iloadN X0.here hx rfl (hb hby d_method_2_code_26) rfl ?_
    show Steps p.tables e below (s₁.setTop (mkF m 27 #[.val (.int (15 : Int32))] [(.int (15 : Int32))])) _
    refine XT.iconstV X0.here hx rfl (3 : Int32) (hb hby d_method_2_code_27) rfl ?_
    show Steps p.tables e below (s₁.setTop (mkF m 28 #[.val (.int (15 : Int32))] [(.int (3 : Int32)), (.int (15 : Int32))])) _
    refine XS.icmpYes X0.here hx rfl (pc0 := 28) (pc' := 35) rfl (hb hby d_method_2_code_28) rfl (by decide) (by decide) (by decide) ?_
    show Steps p.tables e below (s₁.setTop (mkF m 35 #[.val (.int (15 : Int32))] [])) _
    refine XS.iloadN X0.here hx rfl (hb hby d_method_2_code_35) rfl ?_
    show Steps p.tables e below (s₁.setTop (mkF m 36 #[.val (.int (15 : Int32))] [(.int (15 : Int32))])) _
    refine XT.iconstV X0.here hx rfl (4 : Int32) (hb hby d_method_2_code_36) rfl ?_
    show Steps p.tables e below (s₁.setTop (mkF m 37 #[.val (.int (15 : Int32))] [(.int (4 : Int32)), (.int (15 : Int32))])) _
    refine XS.icmpYes X0.here hx rfl (pc0 := 37) (pc' := 44) rfl (hb hby d_method_2_code_37) rfl (by decide) (by decide) (by decide) ?_
    show Steps p.tables e below (s₁.setTop (mkF m 44 #[.val (.int (15 : Int32))] [])) _
    refine XS.iloadN X0.here hx rfl (hb hby d_method_2_code_44) rfl ?_
    show Steps p.tables e below (s₁.setTop (mkF m 45 #[.val (.int (15 : Int32))] [(.int (15 : Int32))])) _
    refine XT.iconstV X0.here hx rfl (5 : Int32) (hb hby d_method_2_code_45) rfl ?_
    show Steps p.tables e below (s₁.setTop (mkF m 46 #[.val (.int (15 : Int32))] [(.int (5 : Int32)), (.int (15 : Int32))])) _
    refine XS.icmpYes X0.here hx rfl (pc0 := 46) (pc' := 53) rfl (hb hby d_method_2_code_46) rfl (by decide) (by decide) (by decide) ?_
    show Steps p.tables e below (s₁.setTop (mkF m 53 #[.val (.int (15 : Int32))] [])) _
    refine XS.iloadN X0.here hx rfl (hb hby d_method_2_code_53) rfl ?_
    show Steps p.tables e below (s₁.setTop (mkF m 54 #[.val (.int (15 : Int32))] [(.int (15 : Int32))])) _
    refine XT.bipushV X0.here hx rfl (6 : Int32) (hb hby d_method_2_code_54) (by decide) ?_
    show Steps p.tables e below (s₁.setTop (mkF m 56 #[.val (.int (15 : Int32))] [(.int (6 : Int32)), (.int (15 : Int32))])) _
    refine XS.icmpYes X0.here hx rfl (pc0 := 56) (pc' := 63) rfl (hb hby d_method_2_code_56) rfl (by decide) (by decide) (by decide) ?_
    show Steps p.tables e below (s₁.setTop (mkF m 63 #[.val (.int (15 : Int32))] [])) _
    refine XS.iloadN X0.here hx rfl (hb hby d_method_2_code_63) rfl ?_
    show Steps p.tables e below (s₁.setTop (mkF m 64 #[.val (.int (15 : Int32))] [(.int (15 : Int32))])) _
    refine XT.bipushV X0.here hx rfl (7 : Int32) (hb hby d_method_2_code_64) (by decide) ?_
    show Steps p.tables e below (s₁.setTop (mkF m 66 #[.val (.int (15 : Int32))] [(.int (7 : Int32)), (.int (15 : Int32))])) _
    refine XS.icmpYes X0.here hx rfl (pc0 := 66) (pc' := 73) rfl (hb hby d_method_2_code_66) rfl (by decide) (by decide) (by decide) ?_
    show Steps p.tables e below (s₁.setTop (mkF m 73 #[.val (.int (15 : Int32))] [])) _
    refine XS.iloadN X0.here hx rfl (hb hby d_method_2_code_73) rfl ?_
    show Steps p.tables e below (s₁.setTop (mkF m 74 #[.val (.int (15 : Int32))] [(.int (15 : Int32))])) _
    refine XT.bipushV X0.here hx rfl (8 : Int32) (hb hby d_method_2_code_74) (by decide) ?_
    show Steps p.tables e below (s₁.setTop (mkF m 76 #[.val (.int (15 : Int32))] [(.int (8 : Int32)), (.int (15 : Int32))])) _
    refine XS.icmpYes X0.here hx rfl (pc0 := 76) (pc' := 83) rfl (hb hby d_method_2_code_76) rfl (by decide) (by decide) (by decide) ?_
    show Steps p.tables e below (s₁.setTop (mkF m 83 #[.val (.int (15 : Int32))] [])) _
    refine XS.iloadN X0.here hx rfl (hb hby d_method_2_code_83) rfl ?_
    show Steps p.tables e below (s₁.setTop (mkF m 84 #[.val (.int (15 : Int32))] [(.int (15 : Int32))])) _
    refine XT.bipushV X0.here hx rfl (9 : Int32) (hb hby d_method_2_code_84) (by decide) ?_
    show Steps p.tables e below (s₁.setTop (mkF m 86 #[.val (.int (15 : Int32))] [(.int (9 : Int32)), (.int (15 : Int32))])) _
    refine XS.icmpYes X0.here hx rfl (pc0 := 86) (pc' := 93) rfl (hb hby d_method_2_code_86) rfl (by decide) (by decide) (by decide) ?_
    show Steps p.tables e below (s₁.setTop (mkF m 93 #[.val (.int (15 : Int32))] [])) _
    refine XS.iloadN X0.here hx rfl (hb hby d_method_2_code_93) rfl ?_
    show Steps p.tables e below (s₁.setTop (mkF m 94 #[.val (.int (15 : Int32))] [(.int (15 : Int32))])) _
    refine XT.bipushV X0.here hx rfl (10 : Int32) (hb hby d_method_2_code_94) (by decide) ?_
    show Steps p.tables e below (s₁.setTop (mkF m 96 #[.val (.int (15 : Int32))] [(.int (10 : Int32)), (.int (15 : Int32))])) _
    refine XS.icmpYes X0.here hx rfl (pc0 := 96) (pc' := 103) rfl (hb hby d_method_2_code_96) rfl (by decide) (by decide) (by decide) ?_
    show Steps p.tables e below (s₁.setTop (mkF m 103 #[.val (.int (15 : Int32))] [])) _
    refine XS.iloadN X0.here hx rfl (hb hby d_method_2_code_103) rfl ?_
    show Steps p.tables e below (s₁.setTop (mkF m 104 #[.val (.int (15 : Int32))] [(.int (15 : Int32))])) _
    refine XT.bipushV X0.here hx rfl (11 : Int32) (hb hby d_method_2_code_104) (by decide) ?_
    show Steps p.tables e below (s₁.setTop (mkF m 106 #[.val (.int (15 : Int32))] [(.int (11 : Int32)), (.int (15 : Int32))])) _
    refine XS.icmpYes X0.here hx rfl (pc0 := 106) (pc' := 113) rfl (hb hby d_method_2_code_106) rfl (by decide) (by decide) (by decide) ?_
    show Steps p.tables e below (s₁.setTop (mkF m 113 #[.val (.int (15 : Int32))] [])) _
    refine XS.iloadN X0.here hx rfl (hb hby d_method_2_code_113) rfl ?_
    show Steps p.tables e below (s₁.setTop (mkF m 114 #[.val (.int (15 : Int32))] [(.int (15 : Int32))])) _
    refine XT.bipushV X0.here hx rfl (12 : Int32) (hb hby d_method_2_code_114) (by decide) ?_
    show Steps p.tables e below (s₁.setTop (mkF m 116 #[.val (.int (15 : Int32))] [(.int (12 : Int32)), (.int (15 : Int32))])) _
    refine XS.icmpYes X0.here hx rfl (pc0 := 116) (pc' := 123) rfl (hb hby d_method_2_code_116) rfl (by decide) (by decide) (by decide) ?_
    show Steps p.tables e below (s₁.setTop (mkF m 123 #[.val (.int (15 : Int32))] [])) _
    refine XS.iloadN X0.here hx rfl (hb hby d_method_2_code_123) rfl ?_
    show Steps p.tables e below (s₁.setTop (mkF m 124 #[.val (.int (15 : Int32))] [(.int (15 : Int32))])) _
    refine XT.bipushV X0.here hx rfl (13 : Int32) (hb hby d_method_2_code_124) (by decide) ?_
    show Steps p.tables e below (s₁.setTop (mkF m 126 #[.val (.int (15 : Int32))] [(.int (13 : Int32)), (.int (15 : Int32))])) _
    refine XS.icmpYes X0.here hx rfl (pc0 := 126) (pc' := 133) rfl (hb hby d_method_2_code_126) rfl (by decide) (by decide) (by decide) ?_
    show Steps p.tables e below (s₁.setTop (mkF m 133 #[.val (.int (15 : Int32))] [])) _
    refine XS.iloadN X0.here hx rfl (hb hby d_method_2_code_133) rfl ?_
    show Steps p.tables e below (s₁.setTop (mkF m 134 #[.val (.int (15 : Int32))] [(.int (15 : Int32))])) _
    refine XT.bipushV X0.here hx rfl (14 : Int32) (hb hby d_method_2_code_134) (by decide) ?_
    show Steps p.tables e below (s₁.setTop (mkF m 136 #[.val (.int (15 : Int32))] [(.int (14 : Int32)), (.int (15 : Int32))])) _
    refine XS.icmpYes X0.here hx rfl (pc0 := 136) (pc' := 143) rfl (hb hby d_method_2_code_136) rfl (by decide) (by decide) (by decide) ?_
    show Steps p.tables e below (s₁.setTop (mkF m 143 #[.val (.int (15 : Int32))] [])) _
    refine XS.iloadN X0.here hx rfl (hb hby d_method_2_code_143) rfl ?_
    show Steps p.tables e below (s₁.setTop (mkF m 144 #[.val (.int (15 : Int32))] [(.int (15 : Int32))])) _
    refine XT.bipushV X0.here hx rfl (15 : Int32) (hb hby d_method_2_code_144) (by decide) ?_
    show Steps p.tables e below (s₁.setTop (mkF m 146 #[.val (.int (15 : Int32))] [(.int (15 : Int32)), (.int (15 : Int32))])) _
    refine XS.icmpNo X0.here hx rfl (hb hby d_method_2_code_146) rfl (by decide) ?_
    show Steps p.tables e below (s₁.setTop (mkF m 149 #[.val (.int (15 : Int32))] [])) _
    refine st16 _ ?_
    show Steps p.tables e below (T16.setTop (mkF m 152 #[.val (.int (15 : Int32))] [(.ref w4)])) _
    jvm_step X16.here [X16.here.top, hx, (hb hby d_method_2_code_152), X16.method', Bd.returns, Value.isRef, FieldType.isReference]
    first | (intro acts; rw [hr _ acts rfl rfl rfl]) | rw [hr _ _ rfl rfl rfl]
    exact Steps.refl _
  · show own_Q (some (.ref w4)) h0 n0 _ T16.heap _
    rw [e16]
    exact ⟨rfl, N0, rfl⟩
theorem d_method_2_code_153 : decode method_2_code 153 = .ok (.iload_n 0, 1) := by decide +kernel
theorem d_method_2_code_154 : decode method_2_code 154 = .ok (.bipush 16, 2) := by decide +kernel
theorem d_method_2_code_156 : decode method_2_code 156 = .ok (.if_icmp .ne 7, 3) := by decide +kernel
theorem d_method_2_code_159 : decode method_2_code 159 = .ok (.getstatic 58, 3) := by decide +kernel
theorem d_method_2_code_162 : decode method_2_code 162 = .ok (.areturn, 1) := by decide +kernel
set_option maxRecDepth 65536 in
set_option maxHeartbeats 40000000 in
theorem own_pick_16 (l : Launch) (Z : State) (a0 : Array Value) (hw : ∀ d ∈ tables_1, d.before a0 Z = true) (ws : List Jvm.Cond) (w0 w1 w2 w3 w4 w5 w6 w7 w8 w9 w10 w11 w12 w13 w14 w15 w16 w17 w18 w19 w20 w21 w22 w23 : Addr) (h0 : Heap) (n0 : Nat) (Z0 : n0 ≤ h0.size) (P : own_P Z h0 w0 w1 w2 w3 w4 w5 w6 w7 w8 w9 w10 w11 w12 w13 w14 w15 w16 w17 w18 w19 w20 w21 w22 w23) :
    MetFree l (⟨"apportion/io/DataTypeIsDecimalPinLaw", "pick", "(I)Lapportion/io/DataType;"⟩ : MethodName) (head1 (Jvm.Cond.code (⟨"apportion/io/DataTypeIsDecimalPinLaw", "pick", "(I)Lapportion/io/DataType;"⟩ : MethodName) method_2_code 1 (some (.object "apportion/io/DataType")) :: ws) ({ frames := 0, cells := 0, slots := 0, locals := 0 } : Room)) (fun a U => a = #[(.int (16 : Int32))] ∧ Z.Warmed39 U.vm ∧ U.heap = h0) (fun _ _ _ _ _ => True) (fun _ U o U' => ∃ v L, o = .returned v ∧ own_Q (some (.ref w8)) h0 n0 v U'.heap L ∧ FrameEnd U o U' L ({ frames := 0, cells := 0, slots := 0, locals := 0 } : Room).cells ({ frames := 0, cells := 0, slots := 0, locals := 0 } : Room).slots) := by
  refine MetFree.of_bodySF (plainFor_of_name pn_apportion_io_DataTypeIsDecimalPinLaw) hisR ?_
  intro p e s m args below meth c s₁ Bd hml0 hP hK
  obtain ⟨rfl, hZ, hh⟩ := hP
  have hx := Bd.exec
  have hby := Bd.bytes
  have hml : c.maxLocals = 1 := hml0
  have hown : s.vm.findClass "apportion/io/DataTypeIsDecimalPinLaw" = some m.cls := findClass_of_methodNamed Bd.named
  have hnm := (name_of_methodNamed Bd.named Bd.method).1
  have X0 : Stand p l e ({ frames := 0, cells := 0, slots := 0, locals := 0 } : Room) s m #[(.int (16 : Int32))] below meth c s₁ [] 0 0 := Stand.of_body Bd
  have e0 : s₁.heap = h0 := by rw [← hh, Bd.state]; rfl
  have N0 := Fr.nil n0
  have pre0 : ∀ t, Steps p.tables e below (s₁.setTop (mkF m 0 #[.val (.int (16 : Int32))] [])) t → Steps p.tables e below (s₁.setTop (entryFrame m #[(.int (16 : Int32))] 1)) t := fun t k => castTop (ef_method_2_code_I m (16 : Int32)) k
  have P0 := P; obtain ⟨S0, E0, F0_ordinal, S1, E1, F1_ordinal, S2, E2, F2_ordinal, S3, E3, F3_ordinal, S4, E4, F4_ordinal, S5, E5, F5_ordinal, S6, E6, F6_ordinal, S7, E7, F7_ordinal, S8, E8, F8_ordinal, S9, E9, F9_ordinal, S10, E10, F10_ordinal, S11, E11, F11_ordinal, S12, E12, F12_ordinal, S13, E13, F13_ordinal, S14, E14, F14_ordinal, S15, E15, F15_ordinal, S16, E16, F16_ordinal, S17, E17, F17_ordinal, S18, E18, F18_ordinal, S19, E19, F19_ordinal, S20, E20, F20_ordinal, S21, E21, F21_ordinal, S22, E22, F22_ordinal, S23, E23, F23_ordinal⟩ := P0
  obtain ⟨T17, X17, e17, st17⟩ := getS2 X0 hx hZ hown (host := "") (Or.inl (hw _ (List.mem_of_getElem? (i := 36) rfl))) Via.refl e0 S8 (g := (mkF m 159 #[.val (.int (16 : Int32))] [])) rfl (hb hby d_method_2_code_159)
  obtain ⟨fs, hr, hrun, hended, hW, hsame⟩ := X17.leave (v := some (.ref w8)) (fun h => by rw [Bd.returns] at h; cases h)
  refine ⟨_, _, pre0 _ ?_, hrun, hended, _, _, rfl, ?_, ⟨_, rfl⟩, hW, hsame.mono (by decide) (by decide)⟩
  · show Steps p.tables e below (s₁.setTop (mkF m 0 #[.val (.int (16 : Int32))] [])) _
    refine XS.iloadN X0.here hx rfl (hb hby d_method_2_code_0) rfl ?_
    show Steps p.tables e below (s₁.setTop (mkF m 1 #[.val (.int (16 : Int32))] [(.int (16 : Int32))])) _
    refine XS.ifYes X0.here hx rfl (pc0 := 1) (pc' := 8) rfl (hb hby d_method_2_code_1) rfl (by decide) (by decide) (by decide) ?_
    show Steps p.tables e below (s₁.setTop (mkF m 8 #[.val (.int (16 : Int32))] [])) _
    refine XS.iloadN X0.here hx rfl (hb hby d_method_2_code_8) rfl ?_
    show Steps p.tables e below (s₁.setTop (mkF m 9 #[.val (.int (16 : Int32))] [(.int (16 : Int32))])) _
    refine XT.iconstV X0.here hx rfl (1 : Int32) (hb hby d_method_2_code_9) rfl ?_
    show Steps p.tables e below (s₁.setTop (mkF m 10 #[.val (.int (16 : Int32))] [(.int (1 : Int32)), (.int (16 : Int32))])) _
    refine XS.icmpYes X0.here hx rfl (pc0 := 10) (pc' := 17) rfl (hb hby d_method_2_code_10) rfl (by decide) (by decide) (by decide) ?_
    show Steps p.tables e below (s₁.setTop (mkF m 17 #[.val (.int (16 : Int32))] [])) _
    refine XS.iloadN X0.here hx rfl (hb hby d_method_2_code_17) rfl ?_
    show Steps p.tables e below (s₁.setTop (mkF m 18 #[.val (.int (16 : Int32))] [(.int (16 : Int32))])) _
    refine XT.iconstV X0.here hx rfl (2 : Int32) (hb hby d_method_2_code_18) rfl ?_
    show Steps p.tables e below (s₁.setTop (mkF m 19 #[.val (.int (16 : Int32))] [(.int (2 : Int32)), (.int (16 : Int32))])) _
    refine XS.icmpYes X0.here hx rfl (pc0 := 19) (pc' := 26) rfl (hb hby d_method_2_code_19) rfl (by decide) (by decide) (by decide) ?_
    show Steps p.tables e below (s₁.setTop (mkF m 26 #[.val (.int (16 : Int32))] [])) _
    refine XS.iloadN X0.here hx rfl (hb hby d_method_2_code_26) rfl ?_
    show Steps p.tables e below (s₁.setTop (mkF m 27 #[.val (.int (16 : Int32))] [(.int (16 : Int32))])) _
    refine XT.iconstV X0.here hx rfl (3 : Int32) (hb hby d_method_2_code_27) rfl ?_
    show Steps p.tables e below (s₁.setTop (mkF m 28 #[.val (.int (16 : Int32))] [(.int (3 : Int32)), (.int (16 : Int32))])) _
    refine XS.icmpYes X0.here hx rfl (pc0 := 28) (pc' := 35) rfl (hb hby d_method_2_code_28) rfl (by decide) (by decide) (by decide) ?_
    show Steps p.tables e below (s₁.setTop (mkF m 35 #[.val (.int (16 : Int32))] [])) _
    refine XS.iloadN X0.here hx rfl (hb hby d_method_2_code_35) rfl ?_
    show Steps p.tables e below (s₁.setTop (mkF m 36 #[.val (.int (16 : Int32))] [(.int (16 : Int32))])) _
    refine XT.iconstV X0.here hx rfl (4 : Int32) (hb hby d_method_2_code_36) rfl ?_
    show Steps p.tables e below (s₁.setTop (mkF m 37 #[.val (.int (16 : Int32))] [(.int (4 : Int32)), (.int (16 : Int32))])) _
    refine XS.icmpYes X0.here hx rfl (pc0 := 37) (pc' := 44) rfl (hb hby d_method_2_code_37) rfl (by decide) (by decide) (by decide) ?_
    show Steps p.tables e below (s₁.setTop (mkF m 44 #[.val (.int (16 : Int32))] [])) _
    refine XS.iloadN X0.here hx rfl (hb hby d_method_2_code_44) rfl ?_
    show Steps p.tables e below (s₁.setTop (mkF m 45 #[.val (.int (16 : Int32))] [(.int (16 : Int32))])) _
    refine XT.iconstV X0.here hx rfl (5 : Int32) (hb hby d_method_2_code_45) rfl ?_
    show Steps p.tables e below (s₁.setTop (mkF m 46 #[.val (.int (16 : Int32))] [(.int (5 : Int32)), (.int (16 : Int32))])) _
    refine XS.icmpYes X0.here hx rfl (pc0 := 46) (pc' := 53) rfl (hb hby d_method_2_code_46) rfl (by decide) (by decide) (by decide) ?_
    show Steps p.tables e below (s₁.setTop (mkF m 53 #[.val (.int (16 : Int32))] [])) _
    refine XS.iloadN X0.here hx rfl (hb hby d_method_2_code_53) rfl ?_
    show Steps p.tables e below (s₁.setTop (mkF m 54 #[.val (.int (16 : Int32))] [(.int (16 : Int32))])) _
    refine XT.bipushV X0.here hx rfl (6 : Int32) (hb hby d_method_2_code_54) (by decide) ?_
    show Steps p.tables e below (s₁.setTop (mkF m 56 #[.val (.int (16 : Int32))] [(.int (6 : Int32)), (.int (16 : Int32))])) _
    refine XS.icmpYes X0.here hx rfl (pc0 := 56) (pc' := 63) rfl (hb hby d_method_2_code_56) rfl (by decide) (by decide) (by decide) ?_
    show Steps p.tables e below (s₁.setTop (mkF m 63 #[.val (.int (16 : Int32))] [])) _
    refine XS.iloadN X0.here hx rfl (hb hby d_method_2_code_63) rfl ?_
    show Steps p.tables e below (s₁.setTop (mkF m 64 #[.val (.int (16 : Int32))] [(.int (16 : Int32))])) _
    refine XT.bipushV X0.here hx rfl (7 : Int32) (hb hby d_method_2_code_64) (by decide) ?_
    show Steps p.tables e below (s₁.setTop (mkF m 66 #[.val (.int (16 : Int32))] [(.int (7 : Int32)), (.int (16 : Int32))])) _
    refine XS.icmpYes X0.here hx rfl (pc0 := 66) (pc' := 73) rfl (hb hby d_method_2_code_66) rfl (by decide) (by decide) (by decide) ?_
    show Steps p.tables e below (s₁.setTop (mkF m 73 #[.val (.int (16 : Int32))] [])) _
    refine XS.iloadN X0.here hx rfl (hb hby d_method_2_code_73) rfl ?_
    show Steps p.tables e below (s₁.setTop (mkF m 74 #[.val (.int (16 : Int32))] [(.int (16 : Int32))])) _
    refine XT.bipushV X0.here hx rfl (8 : Int32) (hb hby d_method_2_code_74) (by decide) ?_
    show Steps p.tables e below (s₁.setTop (mkF m 76 #[.val (.int (16 : Int32))] [(.int (8 : Int32)), (.int (16 : Int32))])) _
    refine XS.icmpYes X0.here hx rfl (pc0 := 76) (pc' := 83) rfl (hb hby d_method_2_code_76) rfl (by decide) (by decide) (by decide) ?_
    show Steps p.tables e below (s₁.setTop (mkF m 83 #[.val (.int (16 : Int32))] [])) _
    refine XS.iloadN X0.here hx rfl (hb hby d_method_2_code_83) rfl ?_
    show Steps p.tables e below (s₁.setTop (mkF m 84 #[.val (.int (16 : Int32))] [(.int (16 : Int32))])) _
    refine XT.bipushV X0.here hx rfl (9 : Int32) (hb hby d_method_2_code_84) (by decide) ?_
    show Steps p.tables e below (s₁.setTop (mkF m 86 #[.val (.int (16 : Int32))] [(.int (9 : Int32)), (.int (16 : Int32))])) _
    refine XS.icmpYes X0.here hx rfl (pc0 := 86) (pc' := 93) rfl (hb hby d_method_2_code_86) rfl (by decide) (by decide) (by decide) ?_
    show Steps p.tables e below (s₁.setTop (mkF m 93 #[.val (.int (16 : Int32))] [])) _
    refine XS.iloadN X0.here hx rfl (hb hby d_method_2_code_93) rfl ?_
    show Steps p.tables e below (s₁.setTop (mkF m 94 #[.val (.int (16 : Int32))] [(.int (16 : Int32))])) _
    refine XT.bipushV X0.here hx rfl (10 : Int32) (hb hby d_method_2_code_94) (by decide) ?_
    show Steps p.tables e below (s₁.setTop (mkF m 96 #[.val (.int (16 : Int32))] [(.int (10 : Int32)), (.int (16 : Int32))])) _
    refine XS.icmpYes X0.here hx rfl (pc0 := 96) (pc' := 103) rfl (hb hby d_method_2_code_96) rfl (by decide) (by decide) (by decide) ?_
    show Steps p.tables e below (s₁.setTop (mkF m 103 #[.val (.int (16 : Int32))] [])) _
    refine XS.iloadN X0.here hx rfl (hb hby d_method_2_code_103) rfl ?_
    show Steps p.tables e below (s₁.setTop (mkF m 104 #[.val (.int (16 : Int32))] [(.int (16 : Int32))])) _
    refine XT.bipushV X0.here hx rfl (11 : Int32) (hb hby d_method_2_code_104) (by decide) ?_
    show Steps p.tables e below (s₁.setTop (mkF m 106 #[.val (.int (16 : Int32))] [(.int (11 : Int32)), (.int (16 : Int32))])) _
    refine XS.icmpYes X0.here hx rfl (pc0 := 106) (pc' := 113) rfl (hb hby d_method_2_code_106) rfl (by decide) (by decide) (by decide) ?_
    show Steps p.tables e below (s₁.setTop (mkF m 113 #[.val (.int (16 : Int32))] [])) _
    refine XS.iloadN X0.here hx rfl (hb hby d_method_2_code_113) rfl ?_
    show Steps p.tables e below (s₁.setTop (mkF m 114 #[.val (.int (16 : Int32))] [(.int (16 : Int32))])) _
    refine XT.bipushV X0.here hx rfl (12 : Int32) (hb hby d_method_2_code_114) (by decide) ?_
    show Steps p.tables e below (s₁.setTop (mkF m 116 #[.val (.int (16 : Int32))] [(.int (12 : Int32)), (.int (16 : Int32))])) _
    refine XS.icmpYes X0.here hx rfl (pc0 := 116) (pc' := 123) rfl (hb hby d_method_2_code_116) rfl (by decide) (by decide) (by decide) ?_
    show Steps p.tables e below (s₁.setTop (mkF m 123 #[.val (.int (16 : Int32))] [])) _
    refine XS.iloadN X0.here hx rfl (hb hby d_method_2_code_123) rfl ?_
    show Steps p.tables e below (s₁.setTop (mkF m 124 #[.val (.int (16 : Int32))] [(.int (16 : Int32))])) _
    refine XT.bipushV X0.here hx rfl (13 : Int32) (hb hby d_method_2_code_124) (by decide) ?_
    show Steps p.tables e below (s₁.setTop (mkF m 126 #[.val (.int (16 : Int32))] [(.int (13 : Int32)), (.int (16 : Int32))])) _
    refine XS.icmpYes X0.here hx rfl (pc0 := 126) (pc' := 133) rfl (hb hby d_method_2_code_126) rfl (by decide) (by decide) (by decide) ?_
    show Steps p.tables e below (s₁.setTop (mkF m 133 #[.val (.int (16 : Int32))] [])) _
    refine XS.iloadN X0.here hx rfl (hb hby d_method_2_code_133) rfl ?_
    show Steps p.tables e below (s₁.setTop (mkF m 134 #[.val (.int (16 : Int32))] [(.int (16 : Int32))])) _
    refine XT.bipushV X0.here hx rfl (14 : Int32) (hb hby d_method_2_code_134) (by decide) ?_
    show Steps p.tables e below (s₁.setTop (mkF m 136 #[.val (.int (16 : Int32))] [(.int (14 : Int32)), (.int (16 : Int32))])) _
    refine XS.icmpYes X0.here hx rfl (pc0 := 136) (pc' := 143) rfl (hb hby d_method_2_code_136) rfl (by decide) (by decide) (by decide) ?_
    show Steps p.tables e below (s₁.setTop (mkF m 143 #[.val (.int (16 : Int32))] [])) _
    refine XS.iloadN X0.here hx rfl (hb hby d_method_2_code_143) rfl ?_
    show Steps p.tables e below (s₁.setTop (mkF m 144 #[.val (.int (16 : Int32))] [(.int (16 : Int32))])) _
    refine XT.bipushV X0.here hx rfl (15 : Int32) (hb hby d_method_2_code_144) (by decide) ?_
    show Steps p.tables e below (s₁.setTop (mkF m 146 #[.val (.int (16 : Int32))] [(.int (15 : Int32)), (.int (16 : Int32))])) _
    refine XS.icmpYes X0.here hx rfl (pc0 := 146) (pc' := 153) rfl (hb hby d_method_2_code_146) rfl (by decide) (by decide) (by decide) ?_
    show Steps p.tables e below (s₁.setTop (mkF m 153 #[.val (.int (16 : Int32))] [])) _
    refine XS.iloadN X0.here hx rfl (hb hby d_method_2_code_153) rfl ?_
    show Steps p.tables e below (s₁.setTop (mkF m 154 #[.val (.int (16 : Int32))] [(.int (16 : Int32))])) _
    refine XT.bipushV X0.here hx rfl (16 : Int32) (hb hby d_method_2_code_154) (by decide) ?_
    show Steps p.tables e below (s₁.setTop (mkF m 156 #[.val (.int (16 : Int32))] [(.int (16 : Int32)), (.int (16 : Int32))])) _
    refine XS.icmpNo X0.here hx rfl (hb hby d_method_2_code_156) rfl (by decide) ?_
    show Steps p.tables e below (s₁.setTop (mkF m 159 #[.val (.int (16 : Int32))] [])) _
    refine st17 _ ?_
    show Steps p.tables e below (T17.setTop (mkF m 162 #[.val (.int (16 : Int32))] [(.ref w8)])) _
    jvm_step X17.here [X17.here.top, hx, (hb hby d_method_2_code_162), X17.method', Bd.returns, Value.isRef, FieldType.isReference]
    first | (intro acts; rw [hr _ acts rfl rfl rfl]) | rw [hr _ _ rfl rfl rfl]
    exact Steps.refl _
  · show own_Q (some (.ref w8)) h0 n0 _ T17.heap _
    rw [e17]
    exact ⟨rfl, N0, rfl⟩
theorem d_method_2_code_163 : decode method_2_code 163 = .ok (.iload_n 0, 1) := by decide +kernel
theorem d_method_2_code_164 : decode method_2_code 164 = .ok (.bipush 17, 2) := by decide +kernel
theorem d_method_2_code_166 : decode method_2_code 166 = .ok (.if_icmp .ne 7, 3) := by decide +kernel
theorem d_method_2_code_169 : decode method_2_code 169 = .ok (.getstatic 61, 3) := by decide +kernel
theorem d_method_2_code_172 : decode method_2_code 172 = .ok (.areturn, 1) := by decide +kernel
set_option maxRecDepth 65536 in
set_option maxHeartbeats 40000000 in
theorem own_pick_17 (l : Launch) (Z : State) (a0 : Array Value) (hw : ∀ d ∈ tables_1, d.before a0 Z = true) (ws : List Jvm.Cond) (w0 w1 w2 w3 w4 w5 w6 w7 w8 w9 w10 w11 w12 w13 w14 w15 w16 w17 w18 w19 w20 w21 w22 w23 : Addr) (h0 : Heap) (n0 : Nat) (Z0 : n0 ≤ h0.size) (P : own_P Z h0 w0 w1 w2 w3 w4 w5 w6 w7 w8 w9 w10 w11 w12 w13 w14 w15 w16 w17 w18 w19 w20 w21 w22 w23) :
    MetFree l (⟨"apportion/io/DataTypeIsDecimalPinLaw", "pick", "(I)Lapportion/io/DataType;"⟩ : MethodName) (head1 (Jvm.Cond.code (⟨"apportion/io/DataTypeIsDecimalPinLaw", "pick", "(I)Lapportion/io/DataType;"⟩ : MethodName) method_2_code 1 (some (.object "apportion/io/DataType")) :: ws) ({ frames := 0, cells := 0, slots := 0, locals := 0 } : Room)) (fun a U => a = #[(.int (17 : Int32))] ∧ Z.Warmed39 U.vm ∧ U.heap = h0) (fun _ _ _ _ _ => True) (fun _ U o U' => ∃ v L, o = .returned v ∧ own_Q (some (.ref w20)) h0 n0 v U'.heap L ∧ FrameEnd U o U' L ({ frames := 0, cells := 0, slots := 0, locals := 0 } : Room).cells ({ frames := 0, cells := 0, slots := 0, locals := 0 } : Room).slots) := by
  refine MetFree.of_bodySF (plainFor_of_name pn_apportion_io_DataTypeIsDecimalPinLaw) hisR ?_
  intro p e s m args below meth c s₁ Bd hml0 hP hK
  obtain ⟨rfl, hZ, hh⟩ := hP
  have hx := Bd.exec
  have hby := Bd.bytes
  have hml : c.maxLocals = 1 := hml0
  have hown : s.vm.findClass "apportion/io/DataTypeIsDecimalPinLaw" = some m.cls := findClass_of_methodNamed Bd.named
  have hnm := (name_of_methodNamed Bd.named Bd.method).1
  have X0 : Stand p l e ({ frames := 0, cells := 0, slots := 0, locals := 0 } : Room) s m #[(.int (17 : Int32))] below meth c s₁ [] 0 0 := Stand.of_body Bd
  have e0 : s₁.heap = h0 := by rw [← hh, Bd.state]; rfl
  have N0 := Fr.nil n0
  have pre0 : ∀ t, Steps p.tables e below (s₁.setTop (mkF m 0 #[.val (.int (17 : Int32))] [])) t → Steps p.tables e below (s₁.setTop (entryFrame m #[(.int (17 : Int32))] 1)) t := fun t k => castTop (ef_method_2_code_I m (17 : Int32)) k
  have P0 := P; obtain ⟨S0, E0, F0_ordinal, S1, E1, F1_ordinal, S2, E2, F2_ordinal, S3, E3, F3_ordinal, S4, E4, F4_ordinal, S5, E5, F5_ordinal, S6, E6, F6_ordinal, S7, E7, F7_ordinal, S8, E8, F8_ordinal, S9, E9, F9_ordinal, S10, E10, F10_ordinal, S11, E11, F11_ordinal, S12, E12, F12_ordinal, S13, E13, F13_ordinal, S14, E14, F14_ordinal, S15, E15, F15_ordinal, S16, E16, F16_ordinal, S17, E17, F17_ordinal, S18, E18, F18_ordinal, S19, E19, F19_ordinal, S20, E20, F20_ordinal, S21, E21, F21_ordinal, S22, E22, F22_ordinal, S23, E23, F23_ordinal⟩ := P0
  obtain ⟨T18, X18, e18, st18⟩ := getS2 X0 hx hZ hown (host := "") (Or.inl (hw _ (List.mem_of_getElem? (i := 60) rfl))) Via.refl e0 S20 (g := (mkF m 169 #[.val (.int (17 : Int32))] [])) rfl (hb hby d_method_2_code_169)
  obtain ⟨fs, hr, hrun, hended, hW, hsame⟩ := X18.leave (v := some (.ref w20)) (fun h => by rw [Bd.returns] at h; cases h)
  refine ⟨_, _, pre0 _ ?_, hrun, hended, _, _, rfl, ?_, ⟨_, rfl⟩, hW, hsame.mono (by decide) (by decide)⟩
  · show Steps p.tables e below (s₁.setTop (mkF m 0 #[.val (.int (17 : Int32))] [])) _
    refine XS.iloadN X0.here hx rfl (hb hby d_method_2_code_0) rfl ?_
    show Steps p.tables e below (s₁.setTop (mkF m 1 #[.val (.int (17 : Int32))] [(.int (17 : Int32))])) _
    refine XS.ifYes X0.here hx rfl (pc0 := 1) (pc' := 8) rfl (hb hby d_method_2_code_1) rfl (by decide) (by decide) (by decide) ?_
    show Steps p.tables e below (s₁.setTop (mkF m 8 #[.val (.int (17 : Int32))] [])) _
    refine XS.iloadN X0.here hx rfl (hb hby d_method_2_code_8) rfl ?_
    show Steps p.tables e below (s₁.setTop (mkF m 9 #[.val (.int (17 : Int32))] [(.int (17 : Int32))])) _
    refine XT.iconstV X0.here hx rfl (1 : Int32) (hb hby d_method_2_code_9) rfl ?_
    show Steps p.tables e below (s₁.setTop (mkF m 10 #[.val (.int (17 : Int32))] [(.int (1 : Int32)), (.int (17 : Int32))])) _
    refine XS.icmpYes X0.here hx rfl (pc0 := 10) (pc' := 17) rfl (hb hby d_method_2_code_10) rfl (by decide) (by decide) (by decide) ?_
    show Steps p.tables e below (s₁.setTop (mkF m 17 #[.val (.int (17 : Int32))] [])) _
    refine XS.iloadN X0.here hx rfl (hb hby d_method_2_code_17) rfl ?_
    show Steps p.tables e below (s₁.setTop (mkF m 18 #[.val (.int (17 : Int32))] [(.int (17 : Int32))])) _
    refine XT.iconstV X0.here hx rfl (2 : Int32) (hb hby d_method_2_code_18) rfl ?_
    show Steps p.tables e below (s₁.setTop (mkF m 19 #[.val (.int (17 : Int32))] [(.int (2 : Int32)), (.int (17 : Int32))])) _
    refine XS.icmpYes X0.here hx rfl (pc0 := 19) (pc' := 26) rfl (hb hby d_method_2_code_19) rfl (by decide) (by decide) (by decide) ?_
    show Steps p.tables e below (s₁.setTop (mkF m 26 #[.val (.int (17 : Int32))] [])) _
    refine XS.iloadN X0.here hx rfl (hb hby d_method_2_code_26) rfl ?_
    show Steps p.tables e below (s₁.setTop (mkF m 27 #[.val (.int (17 : Int32))] [(.int (17 : Int32))])) _
    refine XT.iconstV X0.here hx rfl (3 : Int32) (hb hby d_method_2_code_27) rfl ?_
    show Steps p.tables e below (s₁.setTop (mkF m 28 #[.val (.int (17 : Int32))] [(.int (3 : Int32)), (.int (17 : Int32))])) _
    refine XS.icmpYes X0.here hx rfl (pc0 := 28) (pc' := 35) rfl (hb hby d_method_2_code_28) rfl (by decide) (by decide) (by decide) ?_
    show Steps p.tables e below (s₁.setTop (mkF m 35 #[.val (.int (17 : Int32))] [])) _
    refine XS.iloadN X0.here hx rfl (hb hby d_method_2_code_35) rfl ?_
    show Steps p.tables e below (s₁.setTop (mkF m 36 #[.val (.int (17 : Int32))] [(.int (17 : Int32))])) _
    refine XT.iconstV X0.here hx rfl (4 : Int32) (hb hby d_method_2_code_36) rfl ?_
    show Steps p.tables e below (s₁.setTop (mkF m 37 #[.val (.int (17 : Int32))] [(.int (4 : Int32)), (.int (17 : Int32))])) _
    refine XS.icmpYes X0.here hx rfl (pc0 := 37) (pc' := 44) rfl (hb hby d_method_2_code_37) rfl (by decide) (by decide) (by decide) ?_
    show Steps p.tables e below (s₁.setTop (mkF m 44 #[.val (.int (17 : Int32))] [])) _
    refine XS.iloadN X0.here hx rfl (hb hby d_method_2_code_44) rfl ?_
    show Steps p.tables e below (s₁.setTop (mkF m 45 #[.val (.int (17 : Int32))] [(.int (17 : Int32))])) _
    refine XT.iconstV X0.here hx rfl (5 : Int32) (hb hby d_method_2_code_45) rfl ?_
    show Steps p.tables e below (s₁.setTop (mkF m 46 #[.val (.int (17 : Int32))] [(.int (5 : Int32)), (.int (17 : Int32))])) _
    refine XS.icmpYes X0.here hx rfl (pc0 := 46) (pc' := 53) rfl (hb hby d_method_2_code_46) rfl (by decide) (by decide) (by decide) ?_
    show Steps p.tables e below (s₁.setTop (mkF m 53 #[.val (.int (17 : Int32))] [])) _
    refine XS.iloadN X0.here hx rfl (hb hby d_method_2_code_53) rfl ?_
    show Steps p.tables e below (s₁.setTop (mkF m 54 #[.val (.int (17 : Int32))] [(.int (17 : Int32))])) _
    refine XT.bipushV X0.here hx rfl (6 : Int32) (hb hby d_method_2_code_54) (by decide) ?_
    show Steps p.tables e below (s₁.setTop (mkF m 56 #[.val (.int (17 : Int32))] [(.int (6 : Int32)), (.int (17 : Int32))])) _
    refine XS.icmpYes X0.here hx rfl (pc0 := 56) (pc' := 63) rfl (hb hby d_method_2_code_56) rfl (by decide) (by decide) (by decide) ?_
    show Steps p.tables e below (s₁.setTop (mkF m 63 #[.val (.int (17 : Int32))] [])) _
    refine XS.iloadN X0.here hx rfl (hb hby d_method_2_code_63) rfl ?_
    show Steps p.tables e below (s₁.setTop (mkF m 64 #[.val (.int (17 : Int32))] [(.int (17 : Int32))])) _
    refine XT.bipushV X0.here hx rfl (7 : Int32) (hb hby d_method_2_code_64) (by decide) ?_
    show Steps p.tables e below (s₁.setTop (mkF m 66 #[.val (.int (17 : Int32))] [(.int (7 : Int32)), (.int (17 : Int32))])) _
    refine XS.icmpYes X0.here hx rfl (pc0 := 66) (pc' := 73) rfl (hb hby d_method_2_code_66) rfl (by decide) (by decide) (by decide) ?_
    show Steps p.tables e below (s₁.setTop (mkF m 73 #[.val (.int (17 : Int32))] [])) _
    refine XS.iloadN X0.here hx rfl (hb hby d_method_2_code_73) rfl ?_
    show Steps p.tables e below (s₁.setTop (mkF m 74 #[.val (.int (17 : Int32))] [(.int (17 : Int32))])) _
    refine XT.bipushV X0.here hx rfl (8 : Int32) (hb hby d_method_2_code_74) (by decide) ?_
    show Steps p.tables e below (s₁.setTop (mkF m 76 #[.val (.int (17 : Int32))] [(.int (8 : Int32)), (.int (17 : Int32))])) _
    refine XS.icmpYes X0.here hx rfl (pc0 := 76) (pc' := 83) rfl (hb hby d_method_2_code_76) rfl (by decide) (by decide) (by decide) ?_
    show Steps p.tables e below (s₁.setTop (mkF m 83 #[.val (.int (17 : Int32))] [])) _
    refine XS.iloadN X0.here hx rfl (hb hby d_method_2_code_83) rfl ?_
    show Steps p.tables e below (s₁.setTop (mkF m 84 #[.val (.int (17 : Int32))] [(.int (17 : Int32))])) _
    refine XT.bipushV X0.here hx rfl (9 : Int32) (hb hby d_method_2_code_84) (by decide) ?_
    show Steps p.tables e below (s₁.setTop (mkF m 86 #[.val (.int (17 : Int32))] [(.int (9 : Int32)), (.int (17 : Int32))])) _
    refine XS.icmpYes X0.here hx rfl (pc0 := 86) (pc' := 93) rfl (hb hby d_method_2_code_86) rfl (by decide) (by decide) (by decide) ?_
    show Steps p.tables e below (s₁.setTop (mkF m 93 #[.val (.int (17 : Int32))] [])) _
    refine XS.iloadN X0.here hx rfl (hb hby d_method_2_code_93) rfl ?_
    show Steps p.tables e below (s₁.setTop (mkF m 94 #[.val (.int (17 : Int32))] [(.int (17 : Int32))])) _
    refine XT.bipushV X0.here hx rfl (10 : Int32) (hb hby d_method_2_code_94) (by decide) ?_
    show Steps p.tables e below (s₁.setTop (mkF m 96 #[.val (.int (17 : Int32))] [(.int (10 : Int32)), (.int (17 : Int32))])) _
    refine XS.icmpYes X0.here hx rfl (pc0 := 96) (pc' := 103) rfl (hb hby d_method_2_code_96) rfl (by decide) (by decide) (by decide) ?_
    show Steps p.tables e below (s₁.setTop (mkF m 103 #[.val (.int (17 : Int32))] [])) _
    refine XS.iloadN X0.here hx rfl (hb hby d_method_2_code_103) rfl ?_
    show Steps p.tables e below (s₁.setTop (mkF m 104 #[.val (.int (17 : Int32))] [(.int (17 : Int32))])) _
    refine XT.bipushV X0.here hx rfl (11 : Int32) (hb hby d_method_2_code_104) (by decide) ?_
    show Steps p.tables e below (s₁.setTop (mkF m 106 #[.val (.int (17 : Int32))] [(.int (11 : Int32)), (.int (17 : Int32))])) _
    refine XS.icmpYes X0.here hx rfl (pc0 := 106) (pc' := 113) rfl (hb hby d_method_2_code_106) rfl (by decide) (by decide) (by decide) ?_
    show Steps p.tables e below (s₁.setTop (mkF m 113 #[.val (.int (17 : Int32))] [])) _
    refine XS.iloadN X0.here hx rfl (hb hby d_method_2_code_113) rfl ?_
    show Steps p.tables e below (s₁.setTop (mkF m 114 #[.val (.int (17 : Int32))] [(.int (17 : Int32))])) _
    refine XT.bipushV X0.here hx rfl (12 : Int32) (hb hby d_method_2_code_114) (by decide) ?_
    show Steps p.tables e below (s₁.setTop (mkF m 116 #[.val (.int (17 : Int32))] [(.int (12 : Int32)), (.int (17 : Int32))])) _
    refine XS.icmpYes X0.here hx rfl (pc0 := 116) (pc' := 123) rfl (hb hby d_method_2_code_116) rfl (by decide) (by decide) (by decide) ?_
    show Steps p.tables e below (s₁.setTop (mkF m 123 #[.val (.int (17 : Int32))] [])) _
    refine XS.iloadN X0.here hx rfl (hb hby d_method_2_code_123) rfl ?_
    show Steps p.tables e below (s₁.setTop (mkF m 124 #[.val (.int (17 : Int32))] [(.int (17 : Int32))])) _
    refine XT.bipushV X0.here hx rfl (13 : Int32) (hb hby d_method_2_code_124) (by decide) ?_
    show Steps p.tables e below (s₁.setTop (mkF m 126 #[.val (.int (17 : Int32))] [(.int (13 : Int32)), (.int (17 : Int32))])) _
    refine XS.icmpYes X0.here hx rfl (pc0 := 126) (pc' := 133) rfl (hb hby d_method_2_code_126) rfl (by decide) (by decide) (by decide) ?_
    show Steps p.tables e below (s₁.setTop (mkF m 133 #[.val (.int (17 : Int32))] [])) _
    refine XS.iloadN X0.here hx rfl (hb hby d_method_2_code_133) rfl ?_
    show Steps p.tables e below (s₁.setTop (mkF m 134 #[.val (.int (17 : Int32))] [(.int (17 : Int32))])) _
    refine XT.bipushV X0.here hx rfl (14 : Int32) (hb hby d_method_2_code_134) (by decide) ?_
    show Steps p.tables e below (s₁.setTop (mkF m 136 #[.val (.int (17 : Int32))] [(.int (14 : Int32)), (.int (17 : Int32))])) _
    refine XS.icmpYes X0.here hx rfl (pc0 := 136) (pc' := 143) rfl (hb hby d_method_2_code_136) rfl (by decide) (by decide) (by decide) ?_
    show Steps p.tables e below (s₁.setTop (mkF m 143 #[.val (.int (17 : Int32))] [])) _
    refine XS.iloadN X0.here hx rfl (hb hby d_method_2_code_143) rfl ?_
    show Steps p.tables e below (s₁.setTop (mkF m 144 #[.val (.int (17 : Int32))] [(.int (17 : Int32))])) _
    refine XT.bipushV X0.here hx rfl (15 : Int32) (hb hby d_method_2_code_144) (by decide) ?_
    show Steps p.tables e below (s₁.setTop (mkF m 146 #[.val (.int (17 : Int32))] [(.int (15 : Int32)), (.int (17 : Int32))])) _
    refine XS.icmpYes X0.here hx rfl (pc0 := 146) (pc' := 153) rfl (hb hby d_method_2_code_146) rfl (by decide) (by decide) (by decide) ?_
    show Steps p.tables e below (s₁.setTop (mkF m 153 #[.val (.int (17 : Int32))] [])) _
    refine XS.iloadN X0.here hx rfl (hb hby d_method_2_code_153) rfl ?_
    show Steps p.tables e below (s₁.setTop (mkF m 154 #[.val (.int (17 : Int32))] [(.int (17 : Int32))])) _
    refine XT.bipushV X0.here hx rfl (16 : Int32) (hb hby d_method_2_code_154) (by decide) ?_
    show Steps p.tables e below (s₁.setTop (mkF m 156 #[.val (.int (17 : Int32))] [(.int (16 : Int32)), (.int (17 : Int32))])) _
    refine XS.icmpYes X0.here hx rfl (pc0 := 156) (pc' := 163) rfl (hb hby d_method_2_code_156) rfl (by decide) (by decide) (by decide) ?_
    show Steps p.tables e below (s₁.setTop (mkF m 163 #[.val (.int (17 : Int32))] [])) _
    refine XS.iloadN X0.here hx rfl (hb hby d_method_2_code_163) rfl ?_
    show Steps p.tables e below (s₁.setTop (mkF m 164 #[.val (.int (17 : Int32))] [(.int (17 : Int32))])) _
    refine XT.bipushV X0.here hx rfl (17 : Int32) (hb hby d_method_2_code_164) (by decide) ?_
    show Steps p.tables e below (s₁.setTop (mkF m 166 #[.val (.int (17 : Int32))] [(.int (17 : Int32)), (.int (17 : Int32))])) _
    refine XS.icmpNo X0.here hx rfl (hb hby d_method_2_code_166) rfl (by decide) ?_
    show Steps p.tables e below (s₁.setTop (mkF m 169 #[.val (.int (17 : Int32))] [])) _
    refine st18 _ ?_
    show Steps p.tables e below (T18.setTop (mkF m 172 #[.val (.int (17 : Int32))] [(.ref w20)])) _
    jvm_step X18.here [X18.here.top, hx, (hb hby d_method_2_code_172), X18.method', Bd.returns, Value.isRef, FieldType.isReference]
    first | (intro acts; rw [hr _ acts rfl rfl rfl]) | rw [hr _ _ rfl rfl rfl]
    exact Steps.refl _
  · show own_Q (some (.ref w20)) h0 n0 _ T18.heap _
    rw [e18]
    exact ⟨rfl, N0, rfl⟩
theorem d_method_2_code_173 : decode method_2_code 173 = .ok (.iload_n 0, 1) := by decide +kernel
theorem d_method_2_code_174 : decode method_2_code 174 = .ok (.bipush 18, 2) := by decide +kernel
theorem d_method_2_code_176 : decode method_2_code 176 = .ok (.if_icmp .ne 7, 3) := by decide +kernel
theorem d_method_2_code_179 : decode method_2_code 179 = .ok (.getstatic 64, 3) := by decide +kernel
theorem d_method_2_code_182 : decode method_2_code 182 = .ok (.areturn, 1) := by decide +kernel
set_option maxRecDepth 65536 in
set_option maxHeartbeats 40000000 in
theorem own_pick_18 (l : Launch) (Z : State) (a0 : Array Value) (hw : ∀ d ∈ tables_1, d.before a0 Z = true) (ws : List Jvm.Cond) (w0 w1 w2 w3 w4 w5 w6 w7 w8 w9 w10 w11 w12 w13 w14 w15 w16 w17 w18 w19 w20 w21 w22 w23 : Addr) (h0 : Heap) (n0 : Nat) (Z0 : n0 ≤ h0.size) (P : own_P Z h0 w0 w1 w2 w3 w4 w5 w6 w7 w8 w9 w10 w11 w12 w13 w14 w15 w16 w17 w18 w19 w20 w21 w22 w23) :
    MetFree l (⟨"apportion/io/DataTypeIsDecimalPinLaw", "pick", "(I)Lapportion/io/DataType;"⟩ : MethodName) (head1 (Jvm.Cond.code (⟨"apportion/io/DataTypeIsDecimalPinLaw", "pick", "(I)Lapportion/io/DataType;"⟩ : MethodName) method_2_code 1 (some (.object "apportion/io/DataType")) :: ws) ({ frames := 0, cells := 0, slots := 0, locals := 0 } : Room)) (fun a U => a = #[(.int (18 : Int32))] ∧ Z.Warmed39 U.vm ∧ U.heap = h0) (fun _ _ _ _ _ => True) (fun _ U o U' => ∃ v L, o = .returned v ∧ own_Q (some (.ref w16)) h0 n0 v U'.heap L ∧ FrameEnd U o U' L ({ frames := 0, cells := 0, slots := 0, locals := 0 } : Room).cells ({ frames := 0, cells := 0, slots := 0, locals := 0 } : Room).slots) := by
  refine MetFree.of_bodySF (plainFor_of_name pn_apportion_io_DataTypeIsDecimalPinLaw) hisR ?_
  intro p e s m args below meth c s₁ Bd hml0 hP hK
  obtain ⟨rfl, hZ, hh⟩ := hP
  have hx := Bd.exec
  have hby := Bd.bytes
  have hml : c.maxLocals = 1 := hml0
  have hown : s.vm.findClass "apportion/io/DataTypeIsDecimalPinLaw" = some m.cls := findClass_of_methodNamed Bd.named
  have hnm := (name_of_methodNamed Bd.named Bd.method).1
  have X0 : Stand p l e ({ frames := 0, cells := 0, slots := 0, locals := 0 } : Room) s m #[(.int (18 : Int32))] below meth c s₁ [] 0 0 := Stand.of_body Bd
  have e0 : s₁.heap = h0 := by rw [← hh, Bd.state]; rfl
  have N0 := Fr.nil n0
  have pre0 : ∀ t, Steps p.tables e below (s₁.setTop (mkF m 0 #[.val (.int (18 : Int32))] [])) t → Steps p.tables e below (s₁.setTop (entryFrame m #[(.int (18 : Int32))] 1)) t := fun t k => castTop (ef_method_2_code_I m (18 : Int32)) k
  have P0 := P; obtain ⟨S0, E0, F0_ordinal, S1, E1, F1_ordinal, S2, E2, F2_ordinal, S3, E3, F3_ordinal, S4, E4, F4_ordinal, S5, E5, F5_ordinal, S6, E6, F6_ordinal, S7, E7, F7_ordinal, S8, E8, F8_ordinal, S9, E9, F9_ordinal, S10, E10, F10_ordinal, S11, E11, F11_ordinal, S12, E12, F12_ordinal, S13, E13, F13_ordinal, S14, E14, F14_ordinal, S15, E15, F15_ordinal, S16, E16, F16_ordinal, S17, E17, F17_ordinal, S18, E18, F18_ordinal, S19, E19, F19_ordinal, S20, E20, F20_ordinal, S21, E21, F21_ordinal, S22, E22, F22_ordinal, S23, E23, F23_ordinal⟩ := P0
  obtain ⟨T19, X19, e19, st19⟩ := getS2 X0 hx hZ hown (host := "") (Or.inl (hw _ (List.mem_of_getElem? (i := 52) rfl))) Via.refl e0 S16 (g := (mkF m 179 #[.val (.int (18 : Int32))] [])) rfl (hb hby d_method_2_code_179)
  obtain ⟨fs, hr, hrun, hended, hW, hsame⟩ := X19.leave (v := some (.ref w16)) (fun h => by rw [Bd.returns] at h; cases h)
  refine ⟨_, _, pre0 _ ?_, hrun, hended, _, _, rfl, ?_, ⟨_, rfl⟩, hW, hsame.mono (by decide) (by decide)⟩
  · show Steps p.tables e below (s₁.setTop (mkF m 0 #[.val (.int (18 : Int32))] [])) _
    refine XS.iloadN X0.here hx rfl (hb hby d_method_2_code_0) rfl ?_
    show Steps p.tables e below (s₁.setTop (mkF m 1 #[.val (.int (18 : Int32))] [(.int (18 : Int32))])) _
    refine XS.ifYes X0.here hx rfl (pc0 := 1) (pc' := 8) rfl (hb hby d_method_2_code_1) rfl (by decide) (by decide) (by decide) ?_
    show Steps p.tables e below (s₁.setTop (mkF m 8 #[.val (.int (18 : Int32))] [])) _
    refine XS.iloadN X0.here hx rfl (hb hby d_method_2_code_8) rfl ?_
    show Steps p.tables e below (s₁.setTop (mkF m 9 #[.val (.int (18 : Int32))] [(.int (18 : Int32))])) _
    refine XT.iconstV X0.here hx rfl (1 : Int32) (hb hby d_method_2_code_9) rfl ?_
    show Steps p.tables e below (s₁.setTop (mkF m 10 #[.val (.int (18 : Int32))] [(.int (1 : Int32)), (.int (18 : Int32))])) _
    refine XS.icmpYes X0.here hx rfl (pc0 := 10) (pc' := 17) rfl (hb hby d_method_2_code_10) rfl (by decide) (by decide) (by decide) ?_
    show Steps p.tables e below (s₁.setTop (mkF m 17 #[.val (.int (18 : Int32))] [])) _
    refine XS.iloadN X0.here hx rfl (hb hby d_method_2_code_17) rfl ?_
    show Steps p.tables e below (s₁.setTop (mkF m 18 #[.val (.int (18 : Int32))] [(.int (18 : Int32))])) _
    refine XT.iconstV X0.here hx rfl (2 : Int32) (hb hby d_method_2_code_18) rfl ?_
    show Steps p.tables e below (s₁.setTop (mkF m 19 #[.val (.int (18 : Int32))] [(.int (2 : Int32)), (.int (18 : Int32))])) _
    refine XS.icmpYes X0.here hx rfl (pc0 := 19) (pc' := 26) rfl (hb hby d_method_2_code_19) rfl (by decide) (by decide) (by decide) ?_
    show Steps p.tables e below (s₁.setTop (mkF m 26 #[.val (.int (18 : Int32))] [])) _
    refine XS.iloadN X0.here hx rfl (hb hby d_method_2_code_26) rfl ?_
    show Steps p.tables e below (s₁.setTop (mkF m 27 #[.val (.int (18 : Int32))] [(.int (18 : Int32))])) _
    refine XT.iconstV X0.here hx rfl (3 : Int32) (hb hby d_method_2_code_27) rfl ?_
    show Steps p.tables e below (s₁.setTop (mkF m 28 #[.val (.int (18 : Int32))] [(.int (3 : Int32)), (.int (18 : Int32))])) _
    refine XS.icmpYes X0.here hx rfl (pc0 := 28) (pc' := 35) rfl (hb hby d_method_2_code_28) rfl (by decide) (by decide) (by decide) ?_
    show Steps p.tables e below (s₁.setTop (mkF m 35 #[.val (.int (18 : Int32))] [])) _
    refine XS.iloadN X0.here hx rfl (hb hby d_method_2_code_35) rfl ?_
    show Steps p.tables e below (s₁.setTop (mkF m 36 #[.val (.int (18 : Int32))] [(.int (18 : Int32))])) _
    refine XT.iconstV X0.here hx rfl (4 : Int32) (hb hby d_method_2_code_36) rfl ?_
    show Steps p.tables e below (s₁.setTop (mkF m 37 #[.val (.int (18 : Int32))] [(.int (4 : Int32)), (.int (18 : Int32))])) _
    refine XS.icmpYes X0.here hx rfl (pc0 := 37) (pc' := 44) rfl (hb hby d_method_2_code_37) rfl (by decide) (by decide) (by decide) ?_
    show Steps p.tables e below (s₁.setTop (mkF m 44 #[.val (.int (18 : Int32))] [])) _
    refine XS.iloadN X0.here hx rfl (hb hby d_method_2_code_44) rfl ?_
    show Steps p.tables e below (s₁.setTop (mkF m 45 #[.val (.int (18 : Int32))] [(.int (18 : Int32))])) _
    refine XT.iconstV X0.here hx rfl (5 : Int32) (hb hby d_method_2_code_45) rfl ?_
    show Steps p.tables e below (s₁.setTop (mkF m 46 #[.val (.int (18 : Int32))] [(.int (5 : Int32)), (.int (18 : Int32))])) _
    refine XS.icmpYes X0.here hx rfl (pc0 := 46) (pc' := 53) rfl (hb hby d_method_2_code_46) rfl (by decide) (by decide) (by decide) ?_
    show Steps p.tables e below (s₁.setTop (mkF m 53 #[.val (.int (18 : Int32))] [])) _
    refine XS.iloadN X0.here hx rfl (hb hby d_method_2_code_53) rfl ?_
    show Steps p.tables e below (s₁.setTop (mkF m 54 #[.val (.int (18 : Int32))] [(.int (18 : Int32))])) _
    refine XT.bipushV X0.here hx rfl (6 : Int32) (hb hby d_method_2_code_54) (by decide) ?_
    show Steps p.tables e below (s₁.setTop (mkF m 56 #[.val (.int (18 : Int32))] [(.int (6 : Int32)), (.int (18 : Int32))])) _
    refine XS.icmpYes X0.here hx rfl (pc0 := 56) (pc' := 63) rfl (hb hby d_method_2_code_56) rfl (by decide) (by decide) (by decide) ?_
    show Steps p.tables e below (s₁.setTop (mkF m 63 #[.val (.int (18 : Int32))] [])) _
    refine XS.iloadN X0.here hx rfl (hb hby d_method_2_code_63) rfl ?_
    show Steps p.tables e below (s₁.setTop (mkF m 64 #[.val (.int (18 : Int32))] [(.int (18 : Int32))])) _
    refine XT.bipushV X0.here hx rfl (7 : Int32) (hb hby d_method_2_code_64) (by decide) ?_
    show Steps p.tables e below (s₁.setTop (mkF m 66 #[.val (.int (18 : Int32))] [(.int (7 : Int32)), (.int (18 : Int32))])) _
    refine XS.icmpYes X0.here hx rfl (pc0 := 66) (pc' := 73) rfl (hb hby d_method_2_code_66) rfl (by decide) (by decide) (by decide) ?_
    show Steps p.tables e below (s₁.setTop (mkF m 73 #[.val (.int (18 : Int32))] [])) _
    refine XS.iloadN X0.here hx rfl (hb hby d_method_2_code_73) rfl ?_
    show Steps p.tables e below (s₁.setTop (mkF m 74 #[.val (.int (18 : Int32))] [(.int (18 : Int32))])) _
    refine XT.bipushV X0.here hx rfl (8 : Int32) (hb hby d_method_2_code_74) (by decide) ?_
    show Steps p.tables e below (s₁.setTop (mkF m 76 #[.val (.int (18 : Int32))] [(.int (8 : Int32)), (.int (18 : Int32))])) _
    refine XS.icmpYes X0.here hx rfl (pc0 := 76) (pc' := 83) rfl (hb hby d_method_2_code_76) rfl (by decide) (by decide) (by decide) ?_
    show Steps p.tables e below (s₁.setTop (mkF m 83 #[.val (.int (18 : Int32))] [])) _
    refine XS.iloadN X0.here hx rfl (hb hby d_method_2_code_83) rfl ?_
    show Steps p.tables e below (s₁.setTop (mkF m 84 #[.val (.int (18 : Int32))] [(.int (18 : Int32))])) _
    refine XT.bipushV X0.here hx rfl (9 : Int32) (hb hby d_method_2_code_84) (by decide) ?_
    show Steps p.tables e below (s₁.setTop (mkF m 86 #[.val (.int (18 : Int32))] [(.int (9 : Int32)), (.int (18 : Int32))])) _
    refine XS.icmpYes X0.here hx rfl (pc0 := 86) (pc' := 93) rfl (hb hby d_method_2_code_86) rfl (by decide) (by decide) (by decide) ?_
    show Steps p.tables e below (s₁.setTop (mkF m 93 #[.val (.int (18 : Int32))] [])) _
    refine XS.iloadN X0.here hx rfl (hb hby d_method_2_code_93) rfl ?_
    show Steps p.tables e below (s₁.setTop (mkF m 94 #[.val (.int (18 : Int32))] [(.int (18 : Int32))])) _
    refine XT.bipushV X0.here hx rfl (10 : Int32) (hb hby d_method_2_code_94) (by decide) ?_
    show Steps p.tables e below (s₁.setTop (mkF m 96 #[.val (.int (18 : Int32))] [(.int (10 : Int32)), (.int (18 : Int32))])) _
    refine XS.icmpYes X0.here hx rfl (pc0 := 96) (pc' := 103) rfl (hb hby d_method_2_code_96) rfl (by decide) (by decide) (by decide) ?_
    show Steps p.tables e below (s₁.setTop (mkF m 103 #[.val (.int (18 : Int32))] [])) _
    refine XS.iloadN X0.here hx rfl (hb hby d_method_2_code_103) rfl ?_
    show Steps p.tables e below (s₁.setTop (mkF m 104 #[.val (.int (18 : Int32))] [(.int (18 : Int32))])) _
    refine XT.bipushV X0.here hx rfl (11 : Int32) (hb hby d_method_2_code_104) (by decide) ?_
    show Steps p.tables e below (s₁.setTop (mkF m 106 #[.val (.int (18 : Int32))] [(.int (11 : Int32)), (.int (18 : Int32))])) _
    refine XS.icmpYes X0.here hx rfl (pc0 := 106) (pc' := 113) rfl (hb hby d_method_2_code_106) rfl (by decide) (by decide) (by decide) ?_
    show Steps p.tables e below (s₁.setTop (mkF m 113 #[.val (.int (18 : Int32))] [])) _
    refine XS.iloadN X0.here hx rfl (hb hby d_method_2_code_113) rfl ?_
    show Steps p.tables e below (s₁.setTop (mkF m 114 #[.val (.int (18 : Int32))] [(.int (18 : Int32))])) _
    refine XT.bipushV X0.here hx rfl (12 : Int32) (hb hby d_method_2_code_114) (by decide) ?_
    show Steps p.tables e below (s₁.setTop (mkF m 116 #[.val (.int (18 : Int32))] [(.int (12 : Int32)), (.int (18 : Int32))])) _
    refine XS.icmpYes X0.here hx rfl (pc0 := 116) (pc' := 123) rfl (hb hby d_method_2_code_116) rfl (by decide) (by decide) (by decide) ?_
    show Steps p.tables e below (s₁.setTop (mkF m 123 #[.val (.int (18 : Int32))] [])) _
    refine XS.iloadN X0.here hx rfl (hb hby d_method_2_code_123) rfl ?_
    show Steps p.tables e below (s₁.setTop (mkF m 124 #[.val (.int (18 : Int32))] [(.int (18 : Int32))])) _
    refine XT.bipushV X0.here hx rfl (13 : Int32) (hb hby d_method_2_code_124) (by decide) ?_
    show Steps p.tables e below (s₁.setTop (mkF m 126 #[.val (.int (18 : Int32))] [(.int (13 : Int32)), (.int (18 : Int32))])) _
    refine XS.icmpYes X0.here hx rfl (pc0 := 126) (pc' := 133) rfl (hb hby d_method_2_code_126) rfl (by decide) (by decide) (by decide) ?_
    show Steps p.tables e below (s₁.setTop (mkF m 133 #[.val (.int (18 : Int32))] [])) _
    refine XS.iloadN X0.here hx rfl (hb hby d_method_2_code_133) rfl ?_
    show Steps p.tables e below (s₁.setTop (mkF m 134 #[.val (.int (18 : Int32))] [(.int (18 : Int32))])) _
    refine XT.bipushV X0.here hx rfl (14 : Int32) (hb hby d_method_2_code_134) (by decide) ?_
    show Steps p.tables e below (s₁.setTop (mkF m 136 #[.val (.int (18 : Int32))] [(.int (14 : Int32)), (.int (18 : Int32))])) _
    refine XS.icmpYes X0.here hx rfl (pc0 := 136) (pc' := 143) rfl (hb hby d_method_2_code_136) rfl (by decide) (by decide) (by decide) ?_
    show Steps p.tables e below (s₁.setTop (mkF m 143 #[.val (.int (18 : Int32))] [])) _
    refine XS.iloadN X0.here hx rfl (hb hby d_method_2_code_143) rfl ?_
    show Steps p.tables e below (s₁.setTop (mkF m 144 #[.val (.int (18 : Int32))] [(.int (18 : Int32))])) _
    refine XT.bipushV X0.here hx rfl (15 : Int32) (hb hby d_method_2_code_144) (by decide) ?_
    show Steps p.tables e below (s₁.setTop (mkF m 146 #[.val (.int (18 : Int32))] [(.int (15 : Int32)), (.int (18 : Int32))])) _
    refine XS.icmpYes X0.here hx rfl (pc0 := 146) (pc' := 153) rfl (hb hby d_method_2_code_146) rfl (by decide) (by decide) (by decide) ?_
    show Steps p.tables e below (s₁.setTop (mkF m 153 #[.val (.int (18 : Int32))] [])) _
    refine XS.iloadN X0.here hx rfl (hb hby d_method_2_code_153) rfl ?_
    show Steps p.tables e below (s₁.setTop (mkF m 154 #[.val (.int (18 : Int32))] [(.int (18 : Int32))])) _
    refine XT.bipushV X0.here hx rfl (16 : Int32) (hb hby d_method_2_code_154) (by decide) ?_
    show Steps p.tables e below (s₁.setTop (mkF m 156 #[.val (.int (18 : Int32))] [(.int (16 : Int32)), (.int (18 : Int32))])) _
    refine XS.icmpYes X0.here hx rfl (pc0 := 156) (pc' := 163) rfl (hb hby d_method_2_code_156) rfl (by decide) (by decide) (by decide) ?_
    show Steps p.tables e below (s₁.setTop (mkF m 163 #[.val (.int (18 : Int32))] [])) _
    refine XS.iloadN X0.here hx rfl (hb hby d_method_2_code_163) rfl ?_
    show Steps p.tables e below (s₁.setTop (mkF m 164 #[.val (.int (18 : Int32))] [(.int (18 : Int32))])) _
    refine XT.bipushV X0.here hx rfl (17 : Int32) (hb hby d_method_2_code_164) (by decide) ?_
    show Steps p.tables e below (s₁.setTop (mkF m 166 #[.val (.int (18 : Int32))] [(.int (17 : Int32)), (.int (18 : Int32))])) _
    refine XS.icmpYes X0.here hx rfl (pc0 := 166) (pc' := 173) rfl (hb hby d_method_2_code_166) rfl (by decide) (by decide) (by decide) ?_
    show Steps p.tables e below (s₁.setTop (mkF m 173 #[.val (.int (18 : Int32))] [])) _
    refine XS.iloadN X0.here hx rfl (hb hby d_method_2_code_173) rfl ?_
    show Steps p.tables e below (s₁.setTop (mkF m 174 #[.val (.int (18 : Int32))] [(.int (18 : Int32))])) _
    refine XT.bipushV X0.here hx rfl (18 : Int32) (hb hby d_method_2_code_174) (by decide) ?_
    show Steps p.tables e below (s₁.setTop (mkF m 176 #[.val (.int (18 : Int32))] [(.int (18 : Int32)), (.int (18 : Int32))])) _
    refine XS.icmpNo X0.here hx rfl (hb hby d_method_2_code_176) rfl (by decide) ?_
    show Steps p.tables e below (s₁.setTop (mkF m 179 #[.val (.int (18 : Int32))] [])) _
    refine st19 _ ?_
    show Steps p.tables e below (T19.setTop (mkF m 182 #[.val (.int (18 : Int32))] [(.ref w16)])) _
    jvm_step X19.here [X19.here.top, hx, (hb hby d_method_2_code_182), X19.method', Bd.returns, Value.isRef, FieldType.isReference]
    first | (intro acts; rw [hr _ acts rfl rfl rfl]) | rw [hr _ _ rfl rfl rfl]
    exact Steps.refl _
  · show own_Q (some (.ref w16)) h0 n0 _ T19.heap _
    rw [e19]
    exact ⟨rfl, N0, rfl⟩
theorem d_method_2_code_183 : decode method_2_code 183 = .ok (.iload_n 0, 1) := by decide +kernel
theorem d_method_2_code_184 : decode method_2_code 184 = .ok (.bipush 19, 2) := by decide +kernel
theorem d_method_2_code_186 : decode method_2_code 186 = .ok (.if_icmp .ne 7, 3) := by decide +kernel
theorem d_method_2_code_189 : decode method_2_code 189 = .ok (.getstatic 67, 3) := by decide +kernel
theorem d_method_2_code_192 : decode method_2_code 192 = .ok (.areturn, 1) := by decide +kernel
set_option maxRecDepth 65536 in
set_option maxHeartbeats 40000000 in
theorem own_pick_19 (l : Launch) (Z : State) (a0 : Array Value) (hw : ∀ d ∈ tables_1, d.before a0 Z = true) (ws : List Jvm.Cond) (w0 w1 w2 w3 w4 w5 w6 w7 w8 w9 w10 w11 w12 w13 w14 w15 w16 w17 w18 w19 w20 w21 w22 w23 : Addr) (h0 : Heap) (n0 : Nat) (Z0 : n0 ≤ h0.size) (P : own_P Z h0 w0 w1 w2 w3 w4 w5 w6 w7 w8 w9 w10 w11 w12 w13 w14 w15 w16 w17 w18 w19 w20 w21 w22 w23) :
    MetFree l (⟨"apportion/io/DataTypeIsDecimalPinLaw", "pick", "(I)Lapportion/io/DataType;"⟩ : MethodName) (head1 (Jvm.Cond.code (⟨"apportion/io/DataTypeIsDecimalPinLaw", "pick", "(I)Lapportion/io/DataType;"⟩ : MethodName) method_2_code 1 (some (.object "apportion/io/DataType")) :: ws) ({ frames := 0, cells := 0, slots := 0, locals := 0 } : Room)) (fun a U => a = #[(.int (19 : Int32))] ∧ Z.Warmed39 U.vm ∧ U.heap = h0) (fun _ _ _ _ _ => True) (fun _ U o U' => ∃ v L, o = .returned v ∧ own_Q (some (.ref w3)) h0 n0 v U'.heap L ∧ FrameEnd U o U' L ({ frames := 0, cells := 0, slots := 0, locals := 0 } : Room).cells ({ frames := 0, cells := 0, slots := 0, locals := 0 } : Room).slots) := by
  refine MetFree.of_bodySF (plainFor_of_name pn_apportion_io_DataTypeIsDecimalPinLaw) hisR ?_
  intro p e s m args below meth c s₁ Bd hml0 hP hK
  obtain ⟨rfl, hZ, hh⟩ := hP
  have hx := Bd.exec
  have hby := Bd.bytes
  have hml : c.maxLocals = 1 := hml0
  have hown : s.vm.findClass "apportion/io/DataTypeIsDecimalPinLaw" = some m.cls := findClass_of_methodNamed Bd.named
  have hnm := (name_of_methodNamed Bd.named Bd.method).1
  have X0 : Stand p l e ({ frames := 0, cells := 0, slots := 0, locals := 0 } : Room) s m #[(.int (19 : Int32))] below meth c s₁ [] 0 0 := Stand.of_body Bd
  have e0 : s₁.heap = h0 := by rw [← hh, Bd.state]; rfl
  have N0 := Fr.nil n0
  have pre0 : ∀ t, Steps p.tables e below (s₁.setTop (mkF m 0 #[.val (.int (19 : Int32))] [])) t → Steps p.tables e below (s₁.setTop (entryFrame m #[(.int (19 : Int32))] 1)) t := fun t k => castTop (ef_method_2_code_I m (19 : Int32)) k
  have P0 := P; obtain ⟨S0, E0, F0_ordinal, S1, E1, F1_ordinal, S2, E2, F2_ordinal, S3, E3, F3_ordinal, S4, E4, F4_ordinal, S5, E5, F5_ordinal, S6, E6, F6_ordinal, S7, E7, F7_ordinal, S8, E8, F8_ordinal, S9, E9, F9_ordinal, S10, E10, F10_ordinal, S11, E11, F11_ordinal, S12, E12, F12_ordinal, S13, E13, F13_ordinal, S14, E14, F14_ordinal, S15, E15, F15_ordinal, S16, E16, F16_ordinal, S17, E17, F17_ordinal, S18, E18, F18_ordinal, S19, E19, F19_ordinal, S20, E20, F20_ordinal, S21, E21, F21_ordinal, S22, E22, F22_ordinal, S23, E23, F23_ordinal⟩ := P0
  obtain ⟨T20, X20, e20, st20⟩ := getS2 X0 hx hZ hown (host := "") (Or.inl (hw _ (List.mem_of_getElem? (i := 26) rfl))) Via.refl e0 S3 (g := (mkF m 189 #[.val (.int (19 : Int32))] [])) rfl (hb hby d_method_2_code_189)
  obtain ⟨fs, hr, hrun, hended, hW, hsame⟩ := X20.leave (v := some (.ref w3)) (fun h => by rw [Bd.returns] at h; cases h)
  refine ⟨_, _, pre0 _ ?_, hrun, hended, _, _, rfl, ?_, ⟨_, rfl⟩, hW, hsame.mono (by decide) (by decide)⟩
  · show Steps p.tables e below (s₁.setTop (mkF m 0 #[.val (.int (19 : Int32))] [])) _
    refine XS.iloadN X0.here hx rfl (hb hby d_method_2_code_0) rfl ?_
    show Steps p.tables e below (s₁.setTop (mkF m 1 #[.val (.int (19 : Int32))] [(.int (19 : Int32))])) _
    refine XS.ifYes X0.here hx rfl (pc0 := 1) (pc' := 8) rfl (hb hby d_method_2_code_1) rfl (by decide) (by decide) (by decide) ?_
    show Steps p.tables e below (s₁.setTop (mkF m 8 #[.val (.int (19 : Int32))] [])) _
    refine XS.iloadN X0.here hx rfl (hb hby d_method_2_code_8) rfl ?_
    show Steps p.tables e below (s₁.setTop (mkF m 9 #[.val (.int (19 : Int32))] [(.int (19 : Int32))])) _
    refine XT.iconstV X0.here hx rfl (1 : Int32) (hb hby d_method_2_code_9) rfl ?_
    show Steps p.tables e below (s₁.setTop (mkF m 10 #[.val (.int (19 : Int32))] [(.int (1 : Int32)), (.int (19 : Int32))])) _
    refine XS.icmpYes X0.here hx rfl (pc0 := 10) (pc' := 17) rfl (hb hby d_method_2_code_10) rfl (by decide) (by decide) (by decide) ?_
    show Steps p.tables e below (s₁.setTop (mkF m 17 #[.val (.int (19 : Int32))] [])) _
    refine XS.iloadN X0.here hx rfl (hb hby d_method_2_code_17) rfl ?_
    show Steps p.tables e below (s₁.setTop (mkF m 18 #[.val (.int (19 : Int32))] [(.int (19 : Int32))])) _
    refine XT.iconstV X0.here hx rfl (2 : Int32) (hb hby d_method_2_code_18) rfl ?_
    show Steps p.tables e below (s₁.setTop (mkF m 19 #[.val (.int (19 : Int32))] [(.int (2 : Int32)), (.int (19 : Int32))])) _
    refine XS.icmpYes X0.here hx rfl (pc0 := 19) (pc' := 26) rfl (hb hby d_method_2_code_19) rfl (by decide) (by decide) (by decide) ?_
    show Steps p.tables e below (s₁.setTop (mkF m 26 #[.val (.int (19 : Int32))] [])) _
    refine XS.iloadN X0.here hx rfl (hb hby d_method_2_code_26) rfl ?_
    show Steps p.tables e below (s₁.setTop (mkF m 27 #[.val (.int (19 : Int32))] [(.int (19 : Int32))])) _
    refine XT.iconstV X0.here hx rfl (3 : Int32) (hb hby d_method_2_code_27) rfl ?_
    show Steps p.tables e below (s₁.setTop (mkF m 28 #[.val (.int (19 : Int32))] [(.int (3 : Int32)), (.int (19 : Int32))])) _
    refine XS.icmpYes X0.here hx rfl (pc0 := 28) (pc' := 35) rfl (hb hby d_method_2_code_28) rfl (by decide) (by decide) (by decide) ?_
    show Steps p.tables e below (s₁.setTop (mkF m 35 #[.val (.int (19 : Int32))] [])) _
    refine XS.iloadN X0.here hx rfl (hb hby d_method_2_code_35) rfl ?_
    show Steps p.tables e below (s₁.setTop (mkF m 36 #[.val (.int (19 : Int32))] [(.int (19 : Int32))])) _
    refine XT.iconstV X0.here hx rfl (4 : Int32) (hb hby d_method_2_code_36) rfl ?_
    show Steps p.tables e below (s₁.setTop (mkF m 37 #[.val (.int (19 : Int32))] [(.int (4 : Int32)), (.int (19 : Int32))])) _
    refine XS.icmpYes X0.here hx rfl (pc0 := 37) (pc' := 44) rfl (hb hby d_method_2_code_37) rfl (by decide) (by decide) (by decide) ?_
    show Steps p.tables e below (s₁.setTop (mkF m 44 #[.val (.int (19 : Int32))] [])) _
    refine XS.iloadN X0.here hx rfl (hb hby d_method_2_code_44) rfl ?_
    show Steps p.tables e below (s₁.setTop (mkF m 45 #[.val (.int (19 : Int32))] [(.int (19 : Int32))])) _
    refine XT.iconstV X0.here hx rfl (5 : Int32) (hb hby d_method_2_code_45) rfl ?_
    show Steps p.tables e below (s₁.setTop (mkF m 46 #[.val (.int (19 : Int32))] [(.int (5 : Int32)), (.int (19 : Int32))])) _
    refine XS.icmpYes X0.here hx rfl (pc0 := 46) (pc' := 53) rfl (hb hby d_method_2_code_46) rfl (by decide) (by decide) (by decide) ?_
    show Steps p.tables e below (s₁.setTop (mkF m 53 #[.val (.int (19 : Int32))] [])) _
    refine XS.iloadN X0.here hx rfl (hb hby d_method_2_code_53) rfl ?_
    show Steps p.tables e below (s₁.setTop (mkF m 54 #[.val (.int (19 : Int32))] [(.int (19 : Int32))])) _
    refine XT.bipushV X0.here hx rfl (6 : Int32) (hb hby d_method_2_code_54) (by decide) ?_
    show Steps p.tables e below (s₁.setTop (mkF m 56 #[.val (.int (19 : Int32))] [(.int (6 : Int32)), (.int (19 : Int32))])) _
    refine XS.icmpYes X0.here hx rfl (pc0 := 56) (pc' := 63) rfl (hb hby d_method_2_code_56) rfl (by decide) (by decide) (by decide) ?_
    show Steps p.tables e below (s₁.setTop (mkF m 63 #[.val (.int (19 : Int32))] [])) _
    refine XS.iloadN X0.here hx rfl (hb hby d_method_2_code_63) rfl ?_
    show Steps p.tables e below (s₁.setTop (mkF m 64 #[.val (.int (19 : Int32))] [(.int (19 : Int32))])) _
    refine XT.bipushV X0.here hx rfl (7 : Int32) (hb hby d_method_2_code_64) (by decide) ?_
    show Steps p.tables e below (s₁.setTop (mkF m 66 #[.val (.int (19 : Int32))] [(.int (7 : Int32)), (.int (19 : Int32))])) _
    refine XS.icmpYes X0.here hx rfl (pc0 := 66) (pc' := 73) rfl (hb hby d_method_2_code_66) rfl (by decide) (by decide) (by decide) ?_
    show Steps p.tables e below (s₁.setTop (mkF m 73 #[.val (.int (19 : Int32))] [])) _
    refine XS.iloadN X0.here hx rfl (hb hby d_method_2_code_73) rfl ?_
    show Steps p.tables e below (s₁.setTop (mkF m 74 #[.val (.int (19 : Int32))] [(.int (19 : Int32))])) _
    refine XT.bipushV X0.here hx rfl (8 : Int32) (hb hby d_method_2_code_74) (by decide) ?_
    show Steps p.tables e below (s₁.setTop (mkF m 76 #[.val (.int (19 : Int32))] [(.int (8 : Int32)), (.int (19 : Int32))])) _
    refine XS.icmpYes X0.here hx rfl (pc0 := 76) (pc' := 83) rfl (hb hby d_method_2_code_76) rfl (by decide) (by decide) (by decide) ?_
    show Steps p.tables e below (s₁.setTop (mkF m 83 #[.val (.int (19 : Int32))] [])) _
    refine XS.iloadN X0.here hx rfl (hb hby d_method_2_code_83) rfl ?_
    show Steps p.tables e below (s₁.setTop (mkF m 84 #[.val (.int (19 : Int32))] [(.int (19 : Int32))])) _
    refine XT.bipushV X0.here hx rfl (9 : Int32) (hb hby d_method_2_code_84) (by decide) ?_
    show Steps p.tables e below (s₁.setTop (mkF m 86 #[.val (.int (19 : Int32))] [(.int (9 : Int32)), (.int (19 : Int32))])) _
    refine XS.icmpYes X0.here hx rfl (pc0 := 86) (pc' := 93) rfl (hb hby d_method_2_code_86) rfl (by decide) (by decide) (by decide) ?_
    show Steps p.tables e below (s₁.setTop (mkF m 93 #[.val (.int (19 : Int32))] [])) _
    refine XS.iloadN X0.here hx rfl (hb hby d_method_2_code_93) rfl ?_
    show Steps p.tables e below (s₁.setTop (mkF m 94 #[.val (.int (19 : Int32))] [(.int (19 : Int32))])) _
    refine XT.bipushV X0.here hx rfl (10 : Int32) (hb hby d_method_2_code_94) (by decide) ?_
    show Steps p.tables e below (s₁.setTop (mkF m 96 #[.val (.int (19 : Int32))] [(.int (10 : Int32)), (.int (19 : Int32))])) _
    refine XS.icmpYes X0.here hx rfl (pc0 := 96) (pc' := 103) rfl (hb hby d_method_2_code_96) rfl (by decide) (by decide) (by decide) ?_
    show Steps p.tables e below (s₁.setTop (mkF m 103 #[.val (.int (19 : Int32))] [])) _
    refine XS.iloadN X0.here hx rfl (hb hby d_method_2_code_103) rfl ?_
    show Steps p.tables e below (s₁.setTop (mkF m 104 #[.val (.int (19 : Int32))] [(.int (19 : Int32))])) _
    refine XT.bipushV X0.here hx rfl (11 : Int32) (hb hby d_method_2_code_104) (by decide) ?_
    show Steps p.tables e below (s₁.setTop (mkF m 106 #[.val (.int (19 : Int32))] [(.int (11 : Int32)), (.int (19 : Int32))])) _
    refine XS.icmpYes X0.here hx rfl (pc0 := 106) (pc' := 113) rfl (hb hby d_method_2_code_106) rfl (by decide) (by decide) (by decide) ?_
    show Steps p.tables e below (s₁.setTop (mkF m 113 #[.val (.int (19 : Int32))] [])) _
    refine XS.iloadN X0.here hx rfl (hb hby d_method_2_code_113) rfl ?_
    show Steps p.tables e below (s₁.setTop (mkF m 114 #[.val (.int (19 : Int32))] [(.int (19 : Int32))])) _
    refine XT.bipushV X0.here hx rfl (12 : Int32) (hb hby d_method_2_code_114) (by decide) ?_
    show Steps p.tables e below (s₁.setTop (mkF m 116 #[.val (.int (19 : Int32))] [(.int (12 : Int32)), (.int (19 : Int32))])) _
    refine XS.icmpYes X0.here hx rfl (pc0 := 116) (pc' := 123) rfl (hb hby d_method_2_code_116) rfl (by decide) (by decide) (by decide) ?_
    show Steps p.tables e below (s₁.setTop (mkF m 123 #[.val (.int (19 : Int32))] [])) _
    refine XS.iloadN X0.here hx rfl (hb hby d_method_2_code_123) rfl ?_
    show Steps p.tables e below (s₁.setTop (mkF m 124 #[.val (.int (19 : Int32))] [(.int (19 : Int32))])) _
    refine XT.bipushV X0.here hx rfl (13 : Int32) (hb hby d_method_2_code_124) (by decide) ?_
    show Steps p.tables e below (s₁.setTop (mkF m 126 #[.val (.int (19 : Int32))] [(.int (13 : Int32)), (.int (19 : Int32))])) _
    refine XS.icmpYes X0.here hx rfl (pc0 := 126) (pc' := 133) rfl (hb hby d_method_2_code_126) rfl (by decide) (by decide) (by decide) ?_
    show Steps p.tables e below (s₁.setTop (mkF m 133 #[.val (.int (19 : Int32))] [])) _
    refine XS.iloadN X0.here hx rfl (hb hby d_method_2_code_133) rfl ?_
    show Steps p.tables e below (s₁.setTop (mkF m 134 #[.val (.int (19 : Int32))] [(.int (19 : Int32))])) _
    refine XT.bipushV X0.here hx rfl (14 : Int32) (hb hby d_method_2_code_134) (by decide) ?_
    show Steps p.tables e below (s₁.setTop (mkF m 136 #[.val (.int (19 : Int32))] [(.int (14 : Int32)), (.int (19 : Int32))])) _
    refine XS.icmpYes X0.here hx rfl (pc0 := 136) (pc' := 143) rfl (hb hby d_method_2_code_136) rfl (by decide) (by decide) (by decide) ?_
    show Steps p.tables e below (s₁.setTop (mkF m 143 #[.val (.int (19 : Int32))] [])) _
    refine XS.iloadN X0.here hx rfl (hb hby d_method_2_code_143) rfl ?_
    show Steps p.tables e below (s₁.setTop (mkF m 144 #[.val (.int (19 : Int32))] [(.int (19 : Int32))])) _
    refine XT.bipushV X0.here hx rfl (15 : Int32) (hb hby d_method_2_code_144) (by decide) ?_
    show Steps p.tables e below (s₁.setTop (mkF m 146 #[.val (.int (19 : Int32))] [(.int (15 : Int32)), (.int (19 : Int32))])) _
    refine XS.icmpYes X0.here hx rfl (pc0 := 146) (pc' := 153) rfl (hb hby d_method_2_code_146) rfl (by decide) (by decide) (by decide) ?_
    show Steps p.tables e below (s₁.setTop (mkF m 153 #[.val (.int (19 : Int32))] [])) _
    refine XS.iloadN X0.here hx rfl (hb hby d_method_2_code_153) rfl ?_
    show Steps p.tables e below (s₁.setTop (mkF m 154 #[.val (.int (19 : Int32))] [(.int (19 : Int32))])) _
    refine XT.bipushV X0.here hx rfl (16 : Int32) (hb hby d_method_2_code_154) (by decide) ?_
    show Steps p.tables e below (s₁.setTop (mkF m 156 #[.val (.int (19 : Int32))] [(.int (16 : Int32)), (.int (19 : Int32))])) _
    refine XS.icmpYes X0.here hx rfl (pc0 := 156) (pc' := 163) rfl (hb hby d_method_2_code_156) rfl (by decide) (by decide) (by decide) ?_
    show Steps p.tables e below (s₁.setTop (mkF m 163 #[.val (.int (19 : Int32))] [])) _
    refine XS.iloadN X0.here hx rfl (hb hby d_method_2_code_163) rfl ?_
    show Steps p.tables e below (s₁.setTop (mkF m 164 #[.val (.int (19 : Int32))] [(.int (19 : Int32))])) _
    refine XT.bipushV X0.here hx rfl (17 : Int32) (hb hby d_method_2_code_164) (by decide) ?_
    show Steps p.tables e below (s₁.setTop (mkF m 166 #[.val (.int (19 : Int32))] [(.int (17 : Int32)), (.int (19 : Int32))])) _
    refine XS.icmpYes X0.here hx rfl (pc0 := 166) (pc' := 173) rfl (hb hby d_method_2_code_166) rfl (by decide) (by decide) (by decide) ?_
    show Steps p.tables e below (s₁.setTop (mkF m 173 #[.val (.int (19 : Int32))] [])) _
    refine XS.iloadN X0.here hx rfl (hb hby d_method_2_code_173) rfl ?_
    show Steps p.tables e below (s₁.setTop (mkF m 174 #[.val (.int (19 : Int32))] [(.int (19 : Int32))])) _
    refine XT.bipushV X0.here hx rfl (18 : Int32) (hb hby d_method_2_code_174) (by decide) ?_
    show Steps p.tables e below (s₁.setTop (mkF m 176 #[.val (.int (19 : Int32))] [(.int (18 : Int32)), (.int (19 : Int32))])) _
    refine XS.icmpYes X0.here hx rfl (pc0 := 176) (pc' := 183) rfl (hb hby d_method_2_code_176) rfl (by decide) (by decide) (by decide) ?_
    show Steps p.tables e below (s₁.setTop (mkF m 183 #[.val (.int (19 : Int32))] [])) _
    refine XS.iloadN X0.here hx rfl (hb hby d_method_2_code_183) rfl ?_
    show Steps p.tables e below (s₁.setTop (mkF m 184 #[.val (.int (19 : Int32))] [(.int (19 : Int32))])) _
    refine XT.bipushV X0.here hx rfl (19 : Int32) (hb hby d_method_2_code_184) (by decide) ?_
    show Steps p.tables e below (s₁.setTop (mkF m 186 #[.val (.int (19 : Int32))] [(.int (19 : Int32)), (.int (19 : Int32))])) _
    refine XS.icmpNo X0.here hx rfl (hb hby d_method_2_code_186) rfl (by decide) ?_
    show Steps p.tables e below (s₁.setTop (mkF m 189 #[.val (.int (19 : Int32))] [])) _
    refine st20 _ ?_
    show Steps p.tables e below (T20.setTop (mkF m 192 #[.val (.int (19 : Int32))] [(.ref w3)])) _
    jvm_step X20.here [X20.here.top, hx, (hb hby d_method_2_code_192), X20.method', Bd.returns, Value.isRef, FieldType.isReference]
    first | (intro acts; rw [hr _ acts rfl rfl rfl]) | rw [hr _ _ rfl rfl rfl]
    exact Steps.refl _
  · show own_Q (some (.ref w3)) h0 n0 _ T20.heap _
    rw [e20]
    exact ⟨rfl, N0, rfl⟩
theorem d_method_2_code_193 : decode method_2_code 193 = .ok (.iload_n 0, 1) := by decide +kernel
theorem d_method_2_code_194 : decode method_2_code 194 = .ok (.bipush 20, 2) := by decide +kernel
theorem d_method_2_code_196 : decode method_2_code 196 = .ok (.if_icmp .ne 7, 3) := by decide +kernel
theorem d_method_2_code_199 : decode method_2_code 199 = .ok (.getstatic 70, 3) := by decide +kernel
theorem d_method_2_code_202 : decode method_2_code 202 = .ok (.areturn, 1) := by decide +kernel
set_option maxRecDepth 65536 in
set_option maxHeartbeats 40000000 in
theorem own_pick_20 (l : Launch) (Z : State) (a0 : Array Value) (hw : ∀ d ∈ tables_1, d.before a0 Z = true) (ws : List Jvm.Cond) (w0 w1 w2 w3 w4 w5 w6 w7 w8 w9 w10 w11 w12 w13 w14 w15 w16 w17 w18 w19 w20 w21 w22 w23 : Addr) (h0 : Heap) (n0 : Nat) (Z0 : n0 ≤ h0.size) (P : own_P Z h0 w0 w1 w2 w3 w4 w5 w6 w7 w8 w9 w10 w11 w12 w13 w14 w15 w16 w17 w18 w19 w20 w21 w22 w23) :
    MetFree l (⟨"apportion/io/DataTypeIsDecimalPinLaw", "pick", "(I)Lapportion/io/DataType;"⟩ : MethodName) (head1 (Jvm.Cond.code (⟨"apportion/io/DataTypeIsDecimalPinLaw", "pick", "(I)Lapportion/io/DataType;"⟩ : MethodName) method_2_code 1 (some (.object "apportion/io/DataType")) :: ws) ({ frames := 0, cells := 0, slots := 0, locals := 0 } : Room)) (fun a U => a = #[(.int (20 : Int32))] ∧ Z.Warmed39 U.vm ∧ U.heap = h0) (fun _ _ _ _ _ => True) (fun _ U o U' => ∃ v L, o = .returned v ∧ own_Q (some (.ref w14)) h0 n0 v U'.heap L ∧ FrameEnd U o U' L ({ frames := 0, cells := 0, slots := 0, locals := 0 } : Room).cells ({ frames := 0, cells := 0, slots := 0, locals := 0 } : Room).slots) := by
  refine MetFree.of_bodySF (plainFor_of_name pn_apportion_io_DataTypeIsDecimalPinLaw) hisR ?_
  intro p e s m args below meth c s₁ Bd hml0 hP hK
  obtain ⟨rfl, hZ, hh⟩ := hP
  have hx := Bd.exec
  have hby := Bd.bytes
  have hml : c.maxLocals = 1 := hml0
  have hown : s.vm.findClass "apportion/io/DataTypeIsDecimalPinLaw" = some m.cls := findClass_of_methodNamed Bd.named
  have hnm := (name_of_methodNamed Bd.named Bd.method).1
  have X0 : Stand p l e ({ frames := 0, cells := 0, slots := 0, locals := 0 } : Room) s m #[(.int (20 : Int32))] below meth c s₁ [] 0 0 := Stand.of_body Bd
  have e0 : s₁.heap = h0 := by rw [← hh, Bd.state]; rfl
  have N0 := Fr.nil n0
  have pre0 : ∀ t, Steps p.tables e below (s₁.setTop (mkF m 0 #[.val (.int (20 : Int32))] [])) t → Steps p.tables e below (s₁.setTop (entryFrame m #[(.int (20 : Int32))] 1)) t := fun t k => castTop (ef_method_2_code_I m (20 : Int32)) k
  have P0 := P; obtain ⟨S0, E0, F0_ordinal, S1, E1, F1_ordinal, S2, E2, F2_ordinal, S3, E3, F3_ordinal, S4, E4, F4_ordinal, S5, E5, F5_ordinal, S6, E6, F6_ordinal, S7, E7, F7_ordinal, S8, E8, F8_ordinal, S9, E9, F9_ordinal, S10, E10, F10_ordinal, S11, E11, F11_ordinal, S12, E12, F12_ordinal, S13, E13, F13_ordinal, S14, E14, F14_ordinal, S15, E15, F15_ordinal, S16, E16, F16_ordinal, S17, E17, F17_ordinal, S18, E18, F18_ordinal, S19, E19, F19_ordinal, S20, E20, F20_ordinal, S21, E21, F21_ordinal, S22, E22, F22_ordinal, S23, E23, F23_ordinal⟩ := P0
  obtain ⟨T21, X21, e21, st21⟩ := getS2 X0 hx hZ hown (host := "") (Or.inl (hw _ (List.mem_of_getElem? (i := 48) rfl))) Via.refl e0 S14 (g := (mkF m 199 #[.val (.int (20 : Int32))] [])) rfl (hb hby d_method_2_code_199)
  obtain ⟨fs, hr, hrun, hended, hW, hsame⟩ := X21.leave (v := some (.ref w14)) (fun h => by rw [Bd.returns] at h; cases h)
  refine ⟨_, _, pre0 _ ?_, hrun, hended, _, _, rfl, ?_, ⟨_, rfl⟩, hW, hsame.mono (by decide) (by decide)⟩
  · show Steps p.tables e below (s₁.setTop (mkF m 0 #[.val (.int (20 : Int32))] [])) _
    refine XS.iloadN X0.here hx rfl (hb hby d_method_2_code_0) rfl ?_
    show Steps p.tables e below (s₁.setTop (mkF m 1 #[.val (.int (20 : Int32))] [(.int (20 : Int32))])) _
    refine XS.ifYes X0.here hx rfl (pc0 := 1) (pc' := 8) rfl (hb hby d_method_2_code_1) rfl (by decide) (by decide) (by decide) ?_
    show Steps p.tables e below (s₁.setTop (mkF m 8 #[.val (.int (20 : Int32))] [])) _
    refine XS.iloadN X0.here hx rfl (hb hby d_method_2_code_8) rfl ?_
    show Steps p.tables e below (s₁.setTop (mkF m 9 #[.val (.int (20 : Int32))] [(.int (20 : Int32))])) _
    refine XT.iconstV X0.here hx rfl (1 : Int32) (hb hby d_method_2_code_9) rfl ?_
    show Steps p.tables e below (s₁.setTop (mkF m 10 #[.val (.int (20 : Int32))] [(.int (1 : Int32)), (.int (20 : Int32))])) _
    refine XS.icmpYes X0.here hx rfl (pc0 := 10) (pc' := 17) rfl (hb hby d_method_2_code_10) rfl (by decide) (by decide) (by decide) ?_
    show Steps p.tables e below (s₁.setTop (mkF m 17 #[.val (.int (20 : Int32))] [])) _
    refine XS.iloadN X0.here hx rfl (hb hby d_method_2_code_17) rfl ?_
    show Steps p.tables e below (s₁.setTop (mkF m 18 #[.val (.int (20 : Int32))] [(.int (20 : Int32))])) _
    refine XT.iconstV X0.here hx rfl (2 : Int32) (hb hby d_method_2_code_18) rfl ?_
    show Steps p.tables e below (s₁.setTop (mkF m 19 #[.val (.int (20 : Int32))] [(.int (2 : Int32)), (.int (20 : Int32))])) _
    refine XS.icmpYes X0.here hx rfl (pc0 := 19) (pc' := 26) rfl (hb hby d_method_2_code_19) rfl (by decide) (by decide) (by decide) ?_
    show Steps p.tables e below (s₁.setTop (mkF m 26 #[.val (.int (20 : Int32))] [])) _
    refine XS.iloadN X0.here hx rfl (hb hby d_method_2_code_26) rfl ?_
    show Steps p.tables e below (s₁.setTop (mkF m 27 #[.val (.int (20 : Int32))] [(.int (20 : Int32))])) _
    refine XT.iconstV X0.here hx rfl (3 : Int32) (hb hby d_method_2_code_27) rfl ?_
    show Steps p.tables e below (s₁.setTop (mkF m 28 #[.val (.int (20 : Int32))] [(.int (3 : Int32)), (.int (20 : Int32))])) _
    refine XS.icmpYes X0.here hx rfl (pc0 := 28) (pc' := 35) rfl (hb hby d_method_2_code_28) rfl (by decide) (by decide) (by decide) ?_
    show Steps p.tables e below (s₁.setTop (mkF m 35 #[.val (.int (20 : Int32))] [])) _
    refine XS.iloadN X0.here hx rfl (hb hby d_method_2_code_35) rfl ?_
    show Steps p.tables e below (s₁.setTop (mkF m 36 #[.val (.int (20 : Int32))] [(.int (20 : Int32))])) _
    refine XT.iconstV X0.here hx rfl (4 : Int32) (hb hby d_method_2_code_36) rfl ?_
    show Steps p.tables e below (s₁.setTop (mkF m 37 #[.val (.int (20 : Int32))] [(.int (4 : Int32)), (.int (20 : Int32))])) _
    refine XS.icmpYes X0.here hx rfl (pc0 := 37) (pc' := 44) rfl (hb hby d_method_2_code_37) rfl (by decide) (by decide) (by decide) ?_
    show Steps p.tables e below (s₁.setTop (mkF m 44 #[.val (.int (20 : Int32))] [])) _
    refine XS.iloadN X0.here hx rfl (hb hby d_method_2_code_44) rfl ?_
    show Steps p.tables e below (s₁.setTop (mkF m 45 #[.val (.int (20 : Int32))] [(.int (20 : Int32))])) _
    refine XT.iconstV X0.here hx rfl (5 : Int32) (hb hby d_method_2_code_45) rfl ?_
    show Steps p.tables e below (s₁.setTop (mkF m 46 #[.val (.int (20 : Int32))] [(.int (5 : Int32)), (.int (20 : Int32))])) _
    refine XS.icmpYes X0.here hx rfl (pc0 := 46) (pc' := 53) rfl (hb hby d_method_2_code_46) rfl (by decide) (by decide) (by decide) ?_
    show Steps p.tables e below (s₁.setTop (mkF m 53 #[.val (.int (20 : Int32))] [])) _
    refine XS.iloadN X0.here hx rfl (hb hby d_method_2_code_53) rfl ?_
    show Steps p.tables e below (s₁.setTop (mkF m 54 #[.val (.int (20 : Int32))] [(.int (20 : Int32))])) _
    refine XT.bipushV X0.here hx rfl (6 : Int32) (hb hby d_method_2_code_54) (by decide) ?_
    show Steps p.tables e below (s₁.setTop (mkF m 56 #[.val (.int (20 : Int32))] [(.int (6 : Int32)), (.int (20 : Int32))])) _
    refine XS.icmpYes X0.here hx rfl (pc0 := 56) (pc' := 63) rfl (hb hby d_method_2_code_56) rfl (by decide) (by decide) (by decide) ?_
    show Steps p.tables e below (s₁.setTop (mkF m 63 #[.val (.int (20 : Int32))] [])) _
    refine XS.iloadN X0.here hx rfl (hb hby d_method_2_code_63) rfl ?_
    show Steps p.tables e below (s₁.setTop (mkF m 64 #[.val (.int (20 : Int32))] [(.int (20 : Int32))])) _
    refine XT.bipushV X0.here hx rfl (7 : Int32) (hb hby d_method_2_code_64) (by decide) ?_
    show Steps p.tables e below (s₁.setTop (mkF m 66 #[.val (.int (20 : Int32))] [(.int (7 : Int32)), (.int (20 : Int32))])) _
    refine XS.icmpYes X0.here hx rfl (pc0 := 66) (pc' := 73) rfl (hb hby d_method_2_code_66) rfl (by decide) (by decide) (by decide) ?_
    show Steps p.tables e below (s₁.setTop (mkF m 73 #[.val (.int (20 : Int32))] [])) _
    refine XS.iloadN X0.here hx rfl (hb hby d_method_2_code_73) rfl ?_
    show Steps p.tables e below (s₁.setTop (mkF m 74 #[.val (.int (20 : Int32))] [(.int (20 : Int32))])) _
    refine XT.bipushV X0.here hx rfl (8 : Int32) (hb hby d_method_2_code_74) (by decide) ?_
    show Steps p.tables e below (s₁.setTop (mkF m 76 #[.val (.int (20 : Int32))] [(.int (8 : Int32)), (.int (20 : Int32))])) _
    refine XS.icmpYes X0.here hx rfl (pc0 := 76) (pc' := 83) rfl (hb hby d_method_2_code_76) rfl (by decide) (by decide) (by decide) ?_
    show Steps p.tables e below (s₁.setTop (mkF m 83 #[.val (.int (20 : Int32))] [])) _
    refine XS.iloadN X0.here hx rfl (hb hby d_method_2_code_83) rfl ?_
    show Steps p.tables e below (s₁.setTop (mkF m 84 #[.val (.int (20 : Int32))] [(.int (20 : Int32))])) _
    refine XT.bipushV X0.here hx rfl (9 : Int32) (hb hby d_method_2_code_84) (by decide) ?_
    show Steps p.tables e below (s₁.setTop (mkF m 86 #[.val (.int (20 : Int32))] [(.int (9 : Int32)), (.int (20 : Int32))])) _
    refine XS.icmpYes X0.here hx rfl (pc0 := 86) (pc' := 93) rfl (hb hby d_method_2_code_86) rfl (by decide) (by decide) (by decide) ?_
    show Steps p.tables e below (s₁.setTop (mkF m 93 #[.val (.int (20 : Int32))] [])) _
    refine XS.iloadN X0.here hx rfl (hb hby d_method_2_code_93) rfl ?_
    show Steps p.tables e below (s₁.setTop (mkF m 94 #[.val (.int (20 : Int32))] [(.int (20 : Int32))])) _
    refine XT.bipushV X0.here hx rfl (10 : Int32) (hb hby d_method_2_code_94) (by decide) ?_
    show Steps p.tables e below (s₁.setTop (mkF m 96 #[.val (.int (20 : Int32))] [(.int (10 : Int32)), (.int (20 : Int32))])) _
    refine XS.icmpYes X0.here hx rfl (pc0 := 96) (pc' := 103) rfl (hb hby d_method_2_code_96) rfl (by decide) (by decide) (by decide) ?_
    show Steps p.tables e below (s₁.setTop (mkF m 103 #[.val (.int (20 : Int32))] [])) _
    refine XS.iloadN X0.here hx rfl (hb hby d_method_2_code_103) rfl ?_
    show Steps p.tables e below (s₁.setTop (mkF m 104 #[.val (.int (20 : Int32))] [(.int (20 : Int32))])) _
    refine XT.bipushV X0.here hx rfl (11 : Int32) (hb hby d_method_2_code_104) (by decide) ?_
    show Steps p.tables e below (s₁.setTop (mkF m 106 #[.val (.int (20 : Int32))] [(.int (11 : Int32)), (.int (20 : Int32))])) _
    refine XS.icmpYes X0.here hx rfl (pc0 := 106) (pc' := 113) rfl (hb hby d_method_2_code_106) rfl (by decide) (by decide) (by decide) ?_
    show Steps p.tables e below (s₁.setTop (mkF m 113 #[.val (.int (20 : Int32))] [])) _
    refine XS.iloadN X0.here hx rfl (hb hby d_method_2_code_113) rfl ?_
    show Steps p.tables e below (s₁.setTop (mkF m 114 #[.val (.int (20 : Int32))] [(.int (20 : Int32))])) _
    refine XT.bipushV X0.here hx rfl (12 : Int32) (hb hby d_method_2_code_114) (by decide) ?_
    show Steps p.tables e below (s₁.setTop (mkF m 116 #[.val (.int (20 : Int32))] [(.int (12 : Int32)), (.int (20 : Int32))])) _
    refine XS.icmpYes X0.here hx rfl (pc0 := 116) (pc' := 123) rfl (hb hby d_method_2_code_116) rfl (by decide) (by decide) (by decide) ?_
    show Steps p.tables e below (s₁.setTop (mkF m 123 #[.val (.int (20 : Int32))] [])) _
    refine XS.iloadN X0.here hx rfl (hb hby d_method_2_code_123) rfl ?_
    show Steps p.tables e below (s₁.setTop (mkF m 124 #[.val (.int (20 : Int32))] [(.int (20 : Int32))])) _
    refine XT.bipushV X0.here hx rfl (13 : Int32) (hb hby d_method_2_code_124) (by decide) ?_
    show Steps p.tables e below (s₁.setTop (mkF m 126 #[.val (.int (20 : Int32))] [(.int (13 : Int32)), (.int (20 : Int32))])) _
    refine XS.icmpYes X0.here hx rfl (pc0 := 126) (pc' := 133) rfl (hb hby d_method_2_code_126) rfl (by decide) (by decide) (by decide) ?_
    show Steps p.tables e below (s₁.setTop (mkF m 133 #[.val (.int (20 : Int32))] [])) _
    refine XS.iloadN X0.here hx rfl (hb hby d_method_2_code_133) rfl ?_
    show Steps p.tables e below (s₁.setTop (mkF m 134 #[.val (.int (20 : Int32))] [(.int (20 : Int32))])) _
    refine XT.bipushV X0.here hx rfl (14 : Int32) (hb hby d_method_2_code_134) (by decide) ?_
    show Steps p.tables e below (s₁.setTop (mkF m 136 #[.val (.int (20 : Int32))] [(.int (14 : Int32)), (.int (20 : Int32))])) _
    refine XS.icmpYes X0.here hx rfl (pc0 := 136) (pc' := 143) rfl (hb hby d_method_2_code_136) rfl (by decide) (by decide) (by decide) ?_
    show Steps p.tables e below (s₁.setTop (mkF m 143 #[.val (.int (20 : Int32))] [])) _
    refine XS.iloadN X0.here hx rfl (hb hby d_method_2_code_143) rfl ?_
    show Steps p.tables e below (s₁.setTop (mkF m 144 #[.val (.int (20 : Int32))] [(.int (20 : Int32))])) _
    refine XT.bipushV X0.here hx rfl (15 : Int32) (hb hby d_method_2_code_144) (by decide) ?_
    show Steps p.tables e below (s₁.setTop (mkF m 146 #[.val (.int (20 : Int32))] [(.int (15 : Int32)), (.int (20 : Int32))])) _
    refine XS.icmpYes X0.here hx rfl (pc0 := 146) (pc' := 153) rfl (hb hby d_method_2_code_146) rfl (by decide) (by decide) (by decide) ?_
    show Steps p.tables e below (s₁.setTop (mkF m 153 #[.val (.int (20 : Int32))] [])) _
    refine XS.iloadN X0.here hx rfl (hb hby d_method_2_code_153) rfl ?_
    show Steps p.tables e below (s₁.setTop (mkF m 154 #[.val (.int (20 : Int32))] [(.int (20 : Int32))])) _
    refine XT.bipushV X0.here hx rfl (16 : Int32) (hb hby d_method_2_code_154) (by decide) ?_
    show Steps p.tables e below (s₁.setTop (mkF m 156 #[.val (.int (20 : Int32))] [(.int (16 : Int32)), (.int (20 : Int32))])) _
    refine XS.icmpYes X0.here hx rfl (pc0 := 156) (pc' := 163) rfl (hb hby d_method_2_code_156) rfl (by decide) (by decide) (by decide) ?_
    show Steps p.tables e below (s₁.setTop (mkF m 163 #[.val (.int (20 : Int32))] [])) _
    refine XS.iloadN X0.here hx rfl (hb hby d_method_2_code_163) rfl ?_
    show Steps p.tables e below (s₁.setTop (mkF m 164 #[.val (.int (20 : Int32))] [(.int (20 : Int32))])) _
    refine XT.bipushV X0.here hx rfl (17 : Int32) (hb hby d_method_2_code_164) (by decide) ?_
    show Steps p.tables e below (s₁.setTop (mkF m 166 #[.val (.int (20 : Int32))] [(.int (17 : Int32)), (.int (20 : Int32))])) _
    refine XS.icmpYes X0.here hx rfl (pc0 := 166) (pc' := 173) rfl (hb hby d_method_2_code_166) rfl (by decide) (by decide) (by decide) ?_
    show Steps p.tables e below (s₁.setTop (mkF m 173 #[.val (.int (20 : Int32))] [])) _
    refine XS.iloadN X0.here hx rfl (hb hby d_method_2_code_173) rfl ?_
    show Steps p.tables e below (s₁.setTop (mkF m 174 #[.val (.int (20 : Int32))] [(.int (20 : Int32))])) _
    refine XT.bipushV X0.here hx rfl (18 : Int32) (hb hby d_method_2_code_174) (by decide) ?_
    show Steps p.tables e below (s₁.setTop (mkF m 176 #[.val (.int (20 : Int32))] [(.int (18 : Int32)), (.int (20 : Int32))])) _
    refine XS.icmpYes X0.here hx rfl (pc0 := 176) (pc' := 183) rfl (hb hby d_method_2_code_176) rfl (by decide) (by decide) (by decide) ?_
    show Steps p.tables e below (s₁.setTop (mkF m 183 #[.val (.int (20 : Int32))] [])) _
    refine XS.iloadN X0.here hx rfl (hb hby d_method_2_code_183) rfl ?_
    show Steps p.tables e below (s₁.setTop (mkF m 184 #[.val (.int (20 : Int32))] [(.int (20 : Int32))])) _
    refine XT.bipushV X0.here hx rfl (19 : Int32) (hb hby d_method_2_code_184) (by decide) ?_
    show Steps p.tables e below (s₁.setTop (mkF m 186 #[.val (.int (20 : Int32))] [(.int (19 : Int32)), (.int (20 : Int32))])) _
    refine XS.icmpYes X0.here hx rfl (pc0 := 186) (pc' := 193) rfl (hb hby d_method_2_code_186) rfl (by decide) (by decide) (by decide) ?_
    show Steps p.tables e below (s₁.setTop (mkF m 193 #[.val (.int (20 : Int32))] [])) _
    refine XS.iloadN X0.here hx rfl (hb hby d_method_2_code_193) rfl ?_
    show Steps p.tables e below (s₁.setTop (mkF m 194 #[.val (.int (20 : Int32))] [(.int (20 : Int32))])) _
    refine XT.bipushV X0.here hx rfl (20 : Int32) (hb hby d_method_2_code_194) (by decide) ?_
    show Steps p.tables e below (s₁.setTop (mkF m 196 #[.val (.int (20 : Int32))] [(.int (20 : Int32)), (.int (20 : Int32))])) _
    refine XS.icmpNo X0.here hx rfl (hb hby d_method_2_code_196) rfl (by decide) ?_
    show Steps p.tables e below (s₁.setTop (mkF m 199 #[.val (.int (20 : Int32))] [])) _
    refine st21 _ ?_
    show Steps p.tables e below (T21.setTop (mkF m 202 #[.val (.int (20 : Int32))] [(.ref w14)])) _
    jvm_step X21.here [X21.here.top, hx, (hb hby d_method_2_code_202), X21.method', Bd.returns, Value.isRef, FieldType.isReference]
    first | (intro acts; rw [hr _ acts rfl rfl rfl]) | rw [hr _ _ rfl rfl rfl]
    exact Steps.refl _
  · show own_Q (some (.ref w14)) h0 n0 _ T21.heap _
    rw [e21]
    exact ⟨rfl, N0, rfl⟩
theorem d_method_2_code_203 : decode method_2_code 203 = .ok (.iload_n 0, 1) := by decide +kernel
theorem d_method_2_code_204 : decode method_2_code 204 = .ok (.bipush 21, 2) := by decide +kernel
theorem d_method_2_code_206 : decode method_2_code 206 = .ok (.if_icmp .ne 7, 3) := by decide +kernel
theorem d_method_2_code_209 : decode method_2_code 209 = .ok (.getstatic 73, 3) := by decide +kernel
theorem d_method_2_code_212 : decode method_2_code 212 = .ok (.areturn, 1) := by decide +kernel
set_option maxRecDepth 65536 in
set_option maxHeartbeats 40000000 in
theorem own_pick_21 (l : Launch) (Z : State) (a0 : Array Value) (hw : ∀ d ∈ tables_1, d.before a0 Z = true) (ws : List Jvm.Cond) (w0 w1 w2 w3 w4 w5 w6 w7 w8 w9 w10 w11 w12 w13 w14 w15 w16 w17 w18 w19 w20 w21 w22 w23 : Addr) (h0 : Heap) (n0 : Nat) (Z0 : n0 ≤ h0.size) (P : own_P Z h0 w0 w1 w2 w3 w4 w5 w6 w7 w8 w9 w10 w11 w12 w13 w14 w15 w16 w17 w18 w19 w20 w21 w22 w23) :
    MetFree l (⟨"apportion/io/DataTypeIsDecimalPinLaw", "pick", "(I)Lapportion/io/DataType;"⟩ : MethodName) (head1 (Jvm.Cond.code (⟨"apportion/io/DataTypeIsDecimalPinLaw", "pick", "(I)Lapportion/io/DataType;"⟩ : MethodName) method_2_code 1 (some (.object "apportion/io/DataType")) :: ws) ({ frames := 0, cells := 0, slots := 0, locals := 0 } : Room)) (fun a U => a = #[(.int (21 : Int32))] ∧ Z.Warmed39 U.vm ∧ U.heap = h0) (fun _ _ _ _ _ => True) (fun _ U o U' => ∃ v L, o = .returned v ∧ own_Q (some (.ref w21)) h0 n0 v U'.heap L ∧ FrameEnd U o U' L ({ frames := 0, cells := 0, slots := 0, locals := 0 } : Room).cells ({ frames := 0, cells := 0, slots := 0, locals := 0 } : Room).slots) := by
  refine MetFree.of_bodySF (plainFor_of_name pn_apportion_io_DataTypeIsDecimalPinLaw) hisR ?_
  intro p e s m args below meth c s₁ Bd hml0 hP hK
  obtain ⟨rfl, hZ, hh⟩ := hP
  have hx := Bd.exec
  have hby := Bd.bytes
  have hml : c.maxLocals = 1 := hml0
  have hown : s.vm.findClass "apportion/io/DataTypeIsDecimalPinLaw" = some m.cls := findClass_of_methodNamed Bd.named
  have hnm := (name_of_methodNamed Bd.named Bd.method).1
  have X0 : Stand p l e ({ frames := 0, cells := 0, slots := 0, locals := 0 } : Room) s m #[(.int (21 : Int32))] below meth c s₁ [] 0 0 := Stand.of_body Bd
  have e0 : s₁.heap = h0 := by rw [← hh, Bd.state]; rfl
  have N0 := Fr.nil n0
  have pre0 : ∀ t, Steps p.tables e below (s₁.setTop (mkF m 0 #[.val (.int (21 : Int32))] [])) t → Steps p.tables e below (s₁.setTop (entryFrame m #[(.int (21 : Int32))] 1)) t := fun t k => castTop (ef_method_2_code_I m (21 : Int32)) k
  have P0 := P; obtain ⟨S0, E0, F0_ordinal, S1, E1, F1_ordinal, S2, E2, F2_ordinal, S3, E3, F3_ordinal, S4, E4, F4_ordinal, S5, E5, F5_ordinal, S6, E6, F6_ordinal, S7, E7, F7_ordinal, S8, E8, F8_ordinal, S9, E9, F9_ordinal, S10, E10, F10_ordinal, S11, E11, F11_ordinal, S12, E12, F12_ordinal, S13, E13, F13_ordinal, S14, E14, F14_ordinal, S15, E15, F15_ordinal, S16, E16, F16_ordinal, S17, E17, F17_ordinal, S18, E18, F18_ordinal, S19, E19, F19_ordinal, S20, E20, F20_ordinal, S21, E21, F21_ordinal, S22, E22, F22_ordinal, S23, E23, F23_ordinal⟩ := P0
  obtain ⟨T22, X22, e22, st22⟩ := getS2 X0 hx hZ hown (host := "") (Or.inl (hw _ (List.mem_of_getElem? (i := 62) rfl))) Via.refl e0 S21 (g := (mkF m 209 #[.val (.int (21 : Int32))] [])) rfl (hb hby d_method_2_code_209)
  obtain ⟨fs, hr, hrun, hended, hW, hsame⟩ := X22.leave (v := some (.ref w21)) (fun h => by rw [Bd.returns] at h; cases h)
  refine ⟨_, _, pre0 _ ?_, hrun, hended, _, _, rfl, ?_, ⟨_, rfl⟩, hW, hsame.mono (by decide) (by decide)⟩
  · show Steps p.tables e below (s₁.setTop (mkF m 0 #[.val (.int (21 : Int32))] [])) _
    refine XS.iloadN X0.here hx rfl (hb hby d_method_2_code_0) rfl ?_
    show Steps p.tables e below (s₁.setTop (mkF m 1 #[.val (.int (21 : Int32))] [(.int (21 : Int32))])) _
    refine XS.ifYes X0.here hx rfl (pc0 := 1) (pc' := 8) rfl (hb hby d_method_2_code_1) rfl (by decide) (by decide) (by decide) ?_
    show Steps p.tables e below (s₁.setTop (mkF m 8 #[.val (.int (21 : Int32))] [])) _
    refine XS.iloadN X0.here hx rfl (hb hby d_method_2_code_8) rfl ?_
    show Steps p.tables e below (s₁.setTop (mkF m 9 #[.val (.int (21 : Int32))] [(.int (21 : Int32))])) _
    refine XT.iconstV X0.here hx rfl (1 : Int32) (hb hby d_method_2_code_9) rfl ?_
    show Steps p.tables e below (s₁.setTop (mkF m 10 #[.val (.int (21 : Int32))] [(.int (1 : Int32)), (.int (21 : Int32))])) _
    refine XS.icmpYes X0.here hx rfl (pc0 := 10) (pc' := 17) rfl (hb hby d_method_2_code_10) rfl (by decide) (by decide) (by decide) ?_
    show Steps p.tables e below (s₁.setTop (mkF m 17 #[.val (.int (21 : Int32))] [])) _
    refine XS.iloadN X0.here hx rfl (hb hby d_method_2_code_17) rfl ?_
    show Steps p.tables e below (s₁.setTop (mkF m 18 #[.val (.int (21 : Int32))] [(.int (21 : Int32))])) _
    refine XT.iconstV X0.here hx rfl (2 : Int32) (hb hby d_method_2_code_18) rfl ?_
    show Steps p.tables e below (s₁.setTop (mkF m 19 #[.val (.int (21 : Int32))] [(.int (2 : Int32)), (.int (21 : Int32))])) _
    refine XS.icmpYes X0.here hx rfl (pc0 := 19) (pc' := 26) rfl (hb hby d_method_2_code_19) rfl (by decide) (by decide) (by decide) ?_
    show Steps p.tables e below (s₁.setTop (mkF m 26 #[.val (.int (21 : Int32))] [])) _
    refine XS.iloadN X0.here hx rfl (hb hby d_method_2_code_26) rfl ?_
    show Steps p.tables e below (s₁.setTop (mkF m 27 #[.val (.int (21 : Int32))] [(.int (21 : Int32))])) _
    refine XT.iconstV X0.here hx rfl (3 : Int32) (hb hby d_method_2_code_27) rfl ?_
    show Steps p.tables e below (s₁.setTop (mkF m 28 #[.val (.int (21 : Int32))] [(.int (3 : Int32)), (.int (21 : Int32))])) _
    refine XS.icmpYes X0.here hx rfl (pc0 := 28) (pc' := 35) rfl (hb hby d_method_2_code_28) rfl (by decide) (by decide) (by decide) ?_
    show Steps p.tables e below (s₁.setTop (mkF m 35 #[.val (.int (21 : Int32))] [])) _
    refine XS.iloadN X0.here hx rfl (hb hby d_method_2_code_35) rfl ?_
    show Steps p.tables e below (s₁.setTop (mkF m 36 #[.val (.int (21 : Int32))] [(.int (21 : Int32))])) _
    refine XT.iconstV X0.here hx rfl (4 : Int32) (hb hby d_method_2_code_36) rfl ?_
    show Steps p.tables e below (s₁.setTop (mkF m 37 #[.val (.int (21 : Int32))] [(.int (4 : Int32)), (.int (21 : Int32))])) _
    refine XS.icmpYes X0.here hx rfl (pc0 := 37) (pc' := 44) rfl (hb hby d_method_2_code_37) rfl (by decide) (by decide) (by decide) ?_
    show Steps p.tables e below (s₁.setTop (mkF m 44 #[.val (.int (21 : Int32))] [])) _
    refine XS.iloadN X0.here hx rfl (hb hby d_method_2_code_44) rfl ?_
    show Steps p.tables e below (s₁.setTop (mkF m 45 #[.val (.int (21 : Int32))] [(.int (21 : Int32))])) _
    refine XT.iconstV X0.here hx rfl (5 : Int32) (hb hby d_method_2_code_45) rfl ?_
    show Steps p.tables e below (s₁.setTop (mkF m 46 #[.val (.int (21 : Int32))] [(.int (5 : Int32)), (.int (21 : Int32))])) _
    refine XS.icmpYes X0.here hx rfl (pc0 := 46) (pc' := 53) rfl (hb hby d_method_2_code_46) rfl (by decide) (by decide) (by decide) ?_
    show Steps p.tables e below (s₁.setTop (mkF m 53 #[.val (.int (21 : Int32))] [])) _
    refine XS.iloadN X0.here hx rfl (hb hby d_method_2_code_53) rfl ?_
    show Steps p.tables e below (s₁.setTop (mkF m 54 #[.val (.int (21 : Int32))] [(.int (21 : Int32))])) _
    refine XT.bipushV X0.here hx rfl (6 : Int32) (hb hby d_method_2_code_54) (by decide) ?_
    show Steps p.tables e below (s₁.setTop (mkF m 56 #[.val (.int (21 : Int32))] [(.int (6 : Int32)), (.int (21 : Int32))])) _
    refine XS.icmpYes X0.here hx rfl (pc0 := 56) (pc' := 63) rfl (hb hby d_method_2_code_56) rfl (by decide) (by decide) (by decide) ?_
    show Steps p.tables e below (s₁.setTop (mkF m 63 #[.val (.int (21 : Int32))] [])) _
    refine XS.iloadN X0.here hx rfl (hb hby d_method_2_code_63) rfl ?_
    show Steps p.tables e below (s₁.setTop (mkF m 64 #[.val (.int (21 : Int32))] [(.int (21 : Int32))])) _
    refine XT.bipushV X0.here hx rfl (7 : Int32) (hb hby d_method_2_code_64) (by decide) ?_
    show Steps p.tables e below (s₁.setTop (mkF m 66 #[.val (.int (21 : Int32))] [(.int (7 : Int32)), (.int (21 : Int32))])) _
    refine XS.icmpYes X0.here hx rfl (pc0 := 66) (pc' := 73) rfl (hb hby d_method_2_code_66) rfl (by decide) (by decide) (by decide) ?_
    show Steps p.tables e below (s₁.setTop (mkF m 73 #[.val (.int (21 : Int32))] [])) _
    refine XS.iloadN X0.here hx rfl (hb hby d_method_2_code_73) rfl ?_
    show Steps p.tables e below (s₁.setTop (mkF m 74 #[.val (.int (21 : Int32))] [(.int (21 : Int32))])) _
    refine XT.bipushV X0.here hx rfl (8 : Int32) (hb hby d_method_2_code_74) (by decide) ?_
    show Steps p.tables e below (s₁.setTop (mkF m 76 #[.val (.int (21 : Int32))] [(.int (8 : Int32)), (.int (21 : Int32))])) _
    refine XS.icmpYes X0.here hx rfl (pc0 := 76) (pc' := 83) rfl (hb hby d_method_2_code_76) rfl (by decide) (by decide) (by decide) ?_
    show Steps p.tables e below (s₁.setTop (mkF m 83 #[.val (.int (21 : Int32))] [])) _
    refine XS.iloadN X0.here hx rfl (hb hby d_method_2_code_83) rfl ?_
    show Steps p.tables e below (s₁.setTop (mkF m 84 #[.val (.int (21 : Int32))] [(.int (21 : Int32))])) _
    refine XT.bipushV X0.here hx rfl (9 : Int32) (hb hby d_method_2_code_84) (by decide) ?_
    show Steps p.tables e below (s₁.setTop (mkF m 86 #[.val (.int (21 : Int32))] [(.int (9 : Int32)), (.int (21 : Int32))])) _
    refine XS.icmpYes X0.here hx rfl (pc0 := 86) (pc' := 93) rfl (hb hby d_method_2_code_86) rfl (by decide) (by decide) (by decide) ?_
    show Steps p.tables e below (s₁.setTop (mkF m 93 #[.val (.int (21 : Int32))] [])) _
    refine XS.iloadN X0.here hx rfl (hb hby d_method_2_code_93) rfl ?_
    show Steps p.tables e below (s₁.setTop (mkF m 94 #[.val (.int (21 : Int32))] [(.int (21 : Int32))])) _
    refine XT.bipushV X0.here hx rfl (10 : Int32) (hb hby d_method_2_code_94) (by decide) ?_
    show Steps p.tables e below (s₁.setTop (mkF m 96 #[.val (.int (21 : Int32))] [(.int (10 : Int32)), (.int (21 : Int32))])) _
    refine XS.icmpYes X0.here hx rfl (pc0 := 96) (pc' := 103) rfl (hb hby d_method_2_code_96) rfl (by decide) (by decide) (by decide) ?_
    show Steps p.tables e below (s₁.setTop (mkF m 103 #[.val (.int (21 : Int32))] [])) _
    refine XS.iloadN X0.here hx rfl (hb hby d_method_2_code_103) rfl ?_
    show Steps p.tables e below (s₁.setTop (mkF m 104 #[.val (.int (21 : Int32))] [(.int (21 : Int32))])) _
    refine XT.bipushV X0.here hx rfl (11 : Int32) (hb hby d_method_2_code_104) (by decide) ?_
    show Steps p.tables e below (s₁.setTop (mkF m 106 #[.val (.int (21 : Int32))] [(.int (11 : Int32)), (.int (21 : Int32))])) _
    refine XS.icmpYes X0.here hx rfl (pc0 := 106) (pc' := 113) rfl (hb hby d_method_2_code_106) rfl (by decide) (by decide) (by decide) ?_
    show Steps p.tables e below (s₁.setTop (mkF m 113 #[.val (.int (21 : Int32))] [])) _
    refine XS.iloadN X0.here hx rfl (hb hby d_method_2_code_113) rfl ?_
    show Steps p.tables e below (s₁.setTop (mkF m 114 #[.val (.int (21 : Int32))] [(.int (21 : Int32))])) _
    refine XT.bipushV X0.here hx rfl (12 : Int32) (hb hby d_method_2_code_114) (by decide) ?_
    show Steps p.tables e below (s₁.setTop (mkF m 116 #[.val (.int (21 : Int32))] [(.int (12 : Int32)), (.int (21 : Int32))])) _
    refine XS.icmpYes X0.here hx rfl (pc0 := 116) (pc' := 123) rfl (hb hby d_method_2_code_116) rfl (by decide) (by decide) (by decide) ?_
    show Steps p.tables e below (s₁.setTop (mkF m 123 #[.val (.int (21 : Int32))] [])) _
    refine XS.iloadN X0.here hx rfl (hb hby d_method_2_code_123) rfl ?_
    show Steps p.tables e below (s₁.setTop (mkF m 124 #[.val (.int (21 : Int32))] [(.int (21 : Int32))])) _
    refine XT.bipushV X0.here hx rfl (13 : Int32) (hb hby d_method_2_code_124) (by decide) ?_
    show Steps p.tables e below (s₁.setTop (mkF m 126 #[.val (.int (21 : Int32))] [(.int (13 : Int32)), (.int (21 : Int32))])) _
    refine XS.icmpYes X0.here hx rfl (pc0 := 126) (pc' := 133) rfl (hb hby d_method_2_code_126) rfl (by decide) (by decide) (by decide) ?_
    show Steps p.tables e below (s₁.setTop (mkF m 133 #[.val (.int (21 : Int32))] [])) _
    refine XS.iloadN X0.here hx rfl (hb hby d_method_2_code_133) rfl ?_
    show Steps p.tables e below (s₁.setTop (mkF m 134 #[.val (.int (21 : Int32))] [(.int (21 : Int32))])) _
    refine XT.bipushV X0.here hx rfl (14 : Int32) (hb hby d_method_2_code_134) (by decide) ?_
    show Steps p.tables e below (s₁.setTop (mkF m 136 #[.val (.int (21 : Int32))] [(.int (14 : Int32)), (.int (21 : Int32))])) _
    refine XS.icmpYes X0.here hx rfl (pc0 := 136) (pc' := 143) rfl (hb hby d_method_2_code_136) rfl (by decide) (by decide) (by decide) ?_
    show Steps p.tables e below (s₁.setTop (mkF m 143 #[.val (.int (21 : Int32))] [])) _
    refine XS.iloadN X0.here hx rfl (hb hby d_method_2_code_143) rfl ?_
    show Steps p.tables e below (s₁.setTop (mkF m 144 #[.val (.int (21 : Int32))] [(.int (21 : Int32))])) _
    refine XT.bipushV X0.here hx rfl (15 : Int32) (hb hby d_method_2_code_144) (by decide) ?_
    show Steps p.tables e below (s₁.setTop (mkF m 146 #[.val (.int (21 : Int32))] [(.int (15 : Int32)), (.int (21 : Int32))])) _
    refine XS.icmpYes X0.here hx rfl (pc0 := 146) (pc' := 153) rfl (hb hby d_method_2_code_146) rfl (by decide) (by decide) (by decide) ?_
    show Steps p.tables e below (s₁.setTop (mkF m 153 #[.val (.int (21 : Int32))] [])) _
    refine XS.iloadN X0.here hx rfl (hb hby d_method_2_code_153) rfl ?_
    show Steps p.tables e below (s₁.setTop (mkF m 154 #[.val (.int (21 : Int32))] [(.int (21 : Int32))])) _
    refine XT.bipushV X0.here hx rfl (16 : Int32) (hb hby d_method_2_code_154) (by decide) ?_
    show Steps p.tables e below (s₁.setTop (mkF m 156 #[.val (.int (21 : Int32))] [(.int (16 : Int32)), (.int (21 : Int32))])) _
    refine XS.icmpYes X0.here hx rfl (pc0 := 156) (pc' := 163) rfl (hb hby d_method_2_code_156) rfl (by decide) (by decide) (by decide) ?_
    show Steps p.tables e below (s₁.setTop (mkF m 163 #[.val (.int (21 : Int32))] [])) _
    refine XS.iloadN X0.here hx rfl (hb hby d_method_2_code_163) rfl ?_
    show Steps p.tables e below (s₁.setTop (mkF m 164 #[.val (.int (21 : Int32))] [(.int (21 : Int32))])) _
    refine XT.bipushV X0.here hx rfl (17 : Int32) (hb hby d_method_2_code_164) (by decide) ?_
    show Steps p.tables e below (s₁.setTop (mkF m 166 #[.val (.int (21 : Int32))] [(.int (17 : Int32)), (.int (21 : Int32))])) _
    refine XS.icmpYes X0.here hx rfl (pc0 := 166) (pc' := 173) rfl (hb hby d_method_2_code_166) rfl (by decide) (by decide) (by decide) ?_
    show Steps p.tables e below (s₁.setTop (mkF m 173 #[.val (.int (21 : Int32))] [])) _
    refine XS.iloadN X0.here hx rfl (hb hby d_method_2_code_173) rfl ?_
    show Steps p.tables e below (s₁.setTop (mkF m 174 #[.val (.int (21 : Int32))] [(.int (21 : Int32))])) _
    refine XT.bipushV X0.here hx rfl (18 : Int32) (hb hby d_method_2_code_174) (by decide) ?_
    show Steps p.tables e below (s₁.setTop (mkF m 176 #[.val (.int (21 : Int32))] [(.int (18 : Int32)), (.int (21 : Int32))])) _
    refine XS.icmpYes X0.here hx rfl (pc0 := 176) (pc' := 183) rfl (hb hby d_method_2_code_176) rfl (by decide) (by decide) (by decide) ?_
    show Steps p.tables e below (s₁.setTop (mkF m 183 #[.val (.int (21 : Int32))] [])) _
    refine XS.iloadN X0.here hx rfl (hb hby d_method_2_code_183) rfl ?_
    show Steps p.tables e below (s₁.setTop (mkF m 184 #[.val (.int (21 : Int32))] [(.int (21 : Int32))])) _
    refine XT.bipushV X0.here hx rfl (19 : Int32) (hb hby d_method_2_code_184) (by decide) ?_
    show Steps p.tables e below (s₁.setTop (mkF m 186 #[.val (.int (21 : Int32))] [(.int (19 : Int32)), (.int (21 : Int32))])) _
    refine XS.icmpYes X0.here hx rfl (pc0 := 186) (pc' := 193) rfl (hb hby d_method_2_code_186) rfl (by decide) (by decide) (by decide) ?_
    show Steps p.tables e below (s₁.setTop (mkF m 193 #[.val (.int (21 : Int32))] [])) _
    refine XS.iloadN X0.here hx rfl (hb hby d_method_2_code_193) rfl ?_
    show Steps p.tables e below (s₁.setTop (mkF m 194 #[.val (.int (21 : Int32))] [(.int (21 : Int32))])) _
    refine XT.bipushV X0.here hx rfl (20 : Int32) (hb hby d_method_2_code_194) (by decide) ?_
    show Steps p.tables e below (s₁.setTop (mkF m 196 #[.val (.int (21 : Int32))] [(.int (20 : Int32)), (.int (21 : Int32))])) _
    refine XS.icmpYes X0.here hx rfl (pc0 := 196) (pc' := 203) rfl (hb hby d_method_2_code_196) rfl (by decide) (by decide) (by decide) ?_
    show Steps p.tables e below (s₁.setTop (mkF m 203 #[.val (.int (21 : Int32))] [])) _
    refine XS.iloadN X0.here hx rfl (hb hby d_method_2_code_203) rfl ?_
    show Steps p.tables e below (s₁.setTop (mkF m 204 #[.val (.int (21 : Int32))] [(.int (21 : Int32))])) _
    refine XT.bipushV X0.here hx rfl (21 : Int32) (hb hby d_method_2_code_204) (by decide) ?_
    show Steps p.tables e below (s₁.setTop (mkF m 206 #[.val (.int (21 : Int32))] [(.int (21 : Int32)), (.int (21 : Int32))])) _
    refine XS.icmpNo X0.here hx rfl (hb hby d_method_2_code_206) rfl (by decide) ?_
    show Steps p.tables e below (s₁.setTop (mkF m 209 #[.val (.int (21 : Int32))] [])) _
    refine st22 _ ?_
    show Steps p.tables e below (T22.setTop (mkF m 212 #[.val (.int (21 : Int32))] [(.ref w21)])) _
    jvm_step X22.here [X22.here.top, hx, (hb hby d_method_2_code_212), X22.method', Bd.returns, Value.isRef, FieldType.isReference]
    first | (intro acts; rw [hr _ acts rfl rfl rfl]) | rw [hr _ _ rfl rfl rfl]
    exact Steps.refl _
  · show own_Q (some (.ref w21)) h0 n0 _ T22.heap _
    rw [e22]
    exact ⟨rfl, N0, rfl⟩
theorem d_method_2_code_213 : decode method_2_code 213 = .ok (.iload_n 0, 1) := by decide +kernel
theorem d_method_2_code_214 : decode method_2_code 214 = .ok (.bipush 22, 2) := by decide +kernel
theorem d_method_2_code_216 : decode method_2_code 216 = .ok (.if_icmp .ne 7, 3) := by decide +kernel
theorem d_method_2_code_219 : decode method_2_code 219 = .ok (.getstatic 76, 3) := by decide +kernel
theorem d_method_2_code_222 : decode method_2_code 222 = .ok (.areturn, 1) := by decide +kernel
set_option maxRecDepth 65536 in
set_option maxHeartbeats 40000000 in
theorem own_pick_22 (l : Launch) (Z : State) (a0 : Array Value) (hw : ∀ d ∈ tables_1, d.before a0 Z = true) (ws : List Jvm.Cond) (w0 w1 w2 w3 w4 w5 w6 w7 w8 w9 w10 w11 w12 w13 w14 w15 w16 w17 w18 w19 w20 w21 w22 w23 : Addr) (h0 : Heap) (n0 : Nat) (Z0 : n0 ≤ h0.size) (P : own_P Z h0 w0 w1 w2 w3 w4 w5 w6 w7 w8 w9 w10 w11 w12 w13 w14 w15 w16 w17 w18 w19 w20 w21 w22 w23) :
    MetFree l (⟨"apportion/io/DataTypeIsDecimalPinLaw", "pick", "(I)Lapportion/io/DataType;"⟩ : MethodName) (head1 (Jvm.Cond.code (⟨"apportion/io/DataTypeIsDecimalPinLaw", "pick", "(I)Lapportion/io/DataType;"⟩ : MethodName) method_2_code 1 (some (.object "apportion/io/DataType")) :: ws) ({ frames := 0, cells := 0, slots := 0, locals := 0 } : Room)) (fun a U => a = #[(.int (22 : Int32))] ∧ Z.Warmed39 U.vm ∧ U.heap = h0) (fun _ _ _ _ _ => True) (fun _ U o U' => ∃ v L, o = .returned v ∧ own_Q (some (.ref w23)) h0 n0 v U'.heap L ∧ FrameEnd U o U' L ({ frames := 0, cells := 0, slots := 0, locals := 0 } : Room).cells ({ frames := 0, cells := 0, slots := 0, locals := 0 } : Room).slots) := by
  refine MetFree.of_bodySF (plainFor_of_name pn_apportion_io_DataTypeIsDecimalPinLaw) hisR ?_
  intro p e s m args below meth c s₁ Bd hml0 hP hK
  obtain ⟨rfl, hZ, hh⟩ := hP
  have hx := Bd.exec
  have hby := Bd.bytes
  have hml : c.maxLocals = 1 := hml0
  have hown : s.vm.findClass "apportion/io/DataTypeIsDecimalPinLaw" = some m.cls := findClass_of_methodNamed Bd.named
  have hnm := (name_of_methodNamed Bd.named Bd.method).1
  have X0 : Stand p l e ({ frames := 0, cells := 0, slots := 0, locals := 0 } : Room) s m #[(.int (22 : Int32))] below meth c s₁ [] 0 0 := Stand.of_body Bd
  have e0 : s₁.heap = h0 := by rw [← hh, Bd.state]; rfl
  have N0 := Fr.nil n0
  have pre0 : ∀ t, Steps p.tables e below (s₁.setTop (mkF m 0 #[.val (.int (22 : Int32))] [])) t → Steps p.tables e below (s₁.setTop (entryFrame m #[(.int (22 : Int32))] 1)) t := fun t k => castTop (ef_method_2_code_I m (22 : Int32)) k
  have P0 := P; obtain ⟨S0, E0, F0_ordinal, S1, E1, F1_ordinal, S2, E2, F2_ordinal, S3, E3, F3_ordinal, S4, E4, F4_ordinal, S5, E5, F5_ordinal, S6, E6, F6_ordinal, S7, E7, F7_ordinal, S8, E8, F8_ordinal, S9, E9, F9_ordinal, S10, E10, F10_ordinal, S11, E11, F11_ordinal, S12, E12, F12_ordinal, S13, E13, F13_ordinal, S14, E14, F14_ordinal, S15, E15, F15_ordinal, S16, E16, F16_ordinal, S17, E17, F17_ordinal, S18, E18, F18_ordinal, S19, E19, F19_ordinal, S20, E20, F20_ordinal, S21, E21, F21_ordinal, S22, E22, F22_ordinal, S23, E23, F23_ordinal⟩ := P0
  obtain ⟨T23, X23, e23, st23⟩ := getS2 X0 hx hZ hown (host := "") (Or.inl (hw _ (List.mem_of_getElem? (i := 66) rfl))) Via.refl e0 S23 (g := (mkF m 219 #[.val (.int (22 : Int32))] [])) rfl (hb hby d_method_2_code_219)
  obtain ⟨fs, hr, hrun, hended, hW, hsame⟩ := X23.leave (v := some (.ref w23)) (fun h => by rw [Bd.returns] at h; cases h)
  refine ⟨_, _, pre0 _ ?_, hrun, hended, _, _, rfl, ?_, ⟨_, rfl⟩, hW, hsame.mono (by decide) (by decide)⟩
  · show Steps p.tables e below (s₁.setTop (mkF m 0 #[.val (.int (22 : Int32))] [])) _
    refine XS.iloadN X0.here hx rfl (hb hby d_method_2_code_0) rfl ?_
    show Steps p.tables e below (s₁.setTop (mkF m 1 #[.val (.int (22 : Int32))] [(.int (22 : Int32))])) _
    refine XS.ifYes X0.here hx rfl (pc0 := 1) (pc' := 8) rfl (hb hby d_method_2_code_1) rfl (by decide) (by decide) (by decide) ?_
    show Steps p.tables e below (s₁.setTop (mkF m 8 #[.val (.int (22 : Int32))] [])) _
    refine XS.iloadN X0.here hx rfl (hb hby d_method_2_code_8) rfl ?_
    show Steps p.tables e below (s₁.setTop (mkF m 9 #[.val (.int (22 : Int32))] [(.int (22 : Int32))])) _
    refine XT.iconstV X0.here hx rfl (1 : Int32) (hb hby d_method_2_code_9) rfl ?_
    show Steps p.tables e below (s₁.setTop (mkF m 10 #[.val (.int (22 : Int32))] [(.int (1 : Int32)), (.int (22 : Int32))])) _
    refine XS.icmpYes X0.here hx rfl (pc0 := 10) (pc' := 17) rfl (hb hby d_method_2_code_10) rfl (by decide) (by decide) (by decide) ?_
    show Steps p.tables e below (s₁.setTop (mkF m 17 #[.val (.int (22 : Int32))] [])) _
    refine XS.iloadN X0.here hx rfl (hb hby d_method_2_code_17) rfl ?_
    show Steps p.tables e below (s₁.setTop (mkF m 18 #[.val (.int (22 : Int32))] [(.int (22 : Int32))])) _
    refine XT.iconstV X0.here hx rfl (2 : Int32) (hb hby d_method_2_code_18) rfl ?_
    show Steps p.tables e below (s₁.setTop (mkF m 19 #[.val (.int (22 : Int32))] [(.int (2 : Int32)), (.int (22 : Int32))])) _
    refine XS.icmpYes X0.here hx rfl (pc0 := 19) (pc' := 26) rfl (hb hby d_method_2_code_19) rfl (by decide) (by decide) (by decide) ?_
    show Steps p.tables e below (s₁.setTop (mkF m 26 #[.val (.int (22 : Int32))] [])) _
    refine XS.iloadN X0.here hx rfl (hb hby d_method_2_code_26) rfl ?_
    show Steps p.tables e below (s₁.setTop (mkF m 27 #[.val (.int (22 : Int32))] [(.int (22 : Int32))])) _
    refine XT.iconstV X0.here hx rfl (3 : Int32) (hb hby d_method_2_code_27) rfl ?_
    show Steps p.tables e below (s₁.setTop (mkF m 28 #[.val (.int (22 : Int32))] [(.int (3 : Int32)), (.int (22 : Int32))])) _
    refine XS.icmpYes X0.here hx rfl (pc0 := 28) (pc' := 35) rfl (hb hby d_method_2_code_28) rfl (by decide) (by decide) (by decide) ?_
    show Steps p.tables e below (s₁.setTop (mkF m 35 #[.val (.int (22 : Int32))] [])) _
    refine XS.iloadN X0.here hx rfl (hb hby d_method_2_code_35) rfl ?_
    show Steps p.tables e below (s₁.setTop (mkF m 36 #[.val (.int (22 : Int32))] [(.int (22 : Int32))])) _
    refine XT.iconstV X0.here hx rfl (4 : Int32) (hb hby d_method_2_code_36) rfl ?_
    show Steps p.tables e below (s₁.setTop (mkF m 37 #[.val (.int (22 : Int32))] [(.int (4 : Int32)), (.int (22 : Int32))])) _
    refine XS.icmpYes X0.here hx rfl (pc0 := 37) (pc' := 44) rfl (hb hby d_method_2_code_37) rfl (by decide) (by decide) (by decide) ?_
    show Steps p.tables e below (s₁.setTop (mkF m 44 #[.val (.int (22 : Int32))] [])) _
    refine XS.iloadN X0.here hx rfl (hb hby d_method_2_code_44) rfl ?_
    show Steps p.tables e below (s₁.setTop (mkF m 45 #[.val (.int (22 : Int32))] [(.int (22 : Int32))])) _
    refine XT.iconstV X0.here hx rfl (5 : Int32) (hb hby d_method_2_code_45) rfl ?_
    show Steps p.tables e below (s₁.setTop (mkF m 46 #[.val (.int (22 : Int32))] [(.int (5 : Int32)), (.int (22 : Int32))])) _
    refine XS.icmpYes X0.here hx rfl (pc0 := 46) (pc' := 53) rfl (hb hby d_method_2_code_46) rfl (by decide) (by decide) (by decide) ?_
    show Steps p.tables e below (s₁.setTop (mkF m 53 #[.val (.int (22 : Int32))] [])) _
    refine XS.iloadN X0.here hx rfl (hb hby d_method_2_code_53) rfl ?_
    show Steps p.tables e below (s₁.setTop (mkF m 54 #[.val (.int (22 : Int32))] [(.int (22 : Int32))])) _
    refine XT.bipushV X0.here hx rfl (6 : Int32) (hb hby d_method_2_code_54) (by decide) ?_
    show Steps p.tables e below (s₁.setTop (mkF m 56 #[.val (.int (22 : Int32))] [(.int (6 : Int32)), (.int (22 : Int32))])) _
    refine XS.icmpYes X0.here hx rfl (pc0 := 56) (pc' := 63) rfl (hb hby d_method_2_code_56) rfl (by decide) (by decide) (by decide) ?_
    show Steps p.tables e below (s₁.setTop (mkF m 63 #[.val (.int (22 : Int32))] [])) _
    refine XS.iloadN X0.here hx rfl (hb hby d_method_2_code_63) rfl ?_
    show Steps p.tables e below (s₁.setTop (mkF m 64 #[.val (.int (22 : Int32))] [(.int (22 : Int32))])) _
    refine XT.bipushV X0.here hx rfl (7 : Int32) (hb hby d_method_2_code_64) (by decide) ?_
    show Steps p.tables e below (s₁.setTop (mkF m 66 #[.val (.int (22 : Int32))] [(.int (7 : Int32)), (.int (22 : Int32))])) _
    refine XS.icmpYes X0.here hx rfl (pc0 := 66) (pc' := 73) rfl (hb hby d_method_2_code_66) rfl (by decide) (by decide) (by decide) ?_
    show Steps p.tables e below (s₁.setTop (mkF m 73 #[.val (.int (22 : Int32))] [])) _
    refine XS.iloadN X0.here hx rfl (hb hby d_method_2_code_73) rfl ?_
    show Steps p.tables e below (s₁.setTop (mkF m 74 #[.val (.int (22 : Int32))] [(.int (22 : Int32))])) _
    refine XT.bipushV X0.here hx rfl (8 : Int32) (hb hby d_method_2_code_74) (by decide) ?_
    show Steps p.tables e below (s₁.setTop (mkF m 76 #[.val (.int (22 : Int32))] [(.int (8 : Int32)), (.int (22 : Int32))])) _
    refine XS.icmpYes X0.here hx rfl (pc0 := 76) (pc' := 83) rfl (hb hby d_method_2_code_76) rfl (by decide) (by decide) (by decide) ?_
    show Steps p.tables e below (s₁.setTop (mkF m 83 #[.val (.int (22 : Int32))] [])) _
    refine XS.iloadN X0.here hx rfl (hb hby d_method_2_code_83) rfl ?_
    show Steps p.tables e below (s₁.setTop (mkF m 84 #[.val (.int (22 : Int32))] [(.int (22 : Int32))])) _
    refine XT.bipushV X0.here hx rfl (9 : Int32) (hb hby d_method_2_code_84) (by decide) ?_
    show Steps p.tables e below (s₁.setTop (mkF m 86 #[.val (.int (22 : Int32))] [(.int (9 : Int32)), (.int (22 : Int32))])) _
    refine XS.icmpYes X0.here hx rfl (pc0 := 86) (pc' := 93) rfl (hb hby d_method_2_code_86) rfl (by decide) (by decide) (by decide) ?_
    show Steps p.tables e below (s₁.setTop (mkF m 93 #[.val (.int (22 : Int32))] [])) _
    refine XS.iloadN X0.here hx rfl (hb hby d_method_2_code_93) rfl ?_
    show Steps p.tables e below (s₁.setTop (mkF m 94 #[.val (.int (22 : Int32))] [(.int (22 : Int32))])) _
    refine XT.bipushV X0.here hx rfl (10 : Int32) (hb hby d_method_2_code_94) (by decide) ?_
    show Steps p.tables e below (s₁.setTop (mkF m 96 #[.val (.int (22 : Int32))] [(.int (10 : Int32)), (.int (22 : Int32))])) _
    refine XS.icmpYes X0.here hx rfl (pc0 := 96) (pc' := 103) rfl (hb hby d_method_2_code_96) rfl (by decide) (by decide) (by decide) ?_
    show Steps p.tables e below (s₁.setTop (mkF m 103 #[.val (.int (22 : Int32))] [])) _
    refine XS.iloadN X0.here hx rfl (hb hby d_method_2_code_103) rfl ?_
    show Steps p.tables e below (s₁.setTop (mkF m 104 #[.val (.int (22 : Int32))] [(.int (22 : Int32))])) _
    refine XT.bipushV X0.here hx rfl (11 : Int32) (hb hby d_method_2_code_104) (by decide) ?_
    show Steps p.tables e below (s₁.setTop (mkF m 106 #[.val (.int (22 : Int32))] [(.int (11 : Int32)), (.int (22 : Int32))])) _
    refine XS.icmpYes X0.here hx rfl (pc0 := 106) (pc' := 113) rfl (hb hby d_method_2_code_106) rfl (by decide) (by decide) (by decide) ?_
    show Steps p.tables e below (s₁.setTop (mkF m 113 #[.val (.int (22 : Int32))] [])) _
    refine XS.iloadN X0.here hx rfl (hb hby d_method_2_code_113) rfl ?_
    show Steps p.tables e below (s₁.setTop (mkF m 114 #[.val (.int (22 : Int32))] [(.int (22 : Int32))])) _
    refine XT.bipushV X0.here hx rfl (12 : Int32) (hb hby d_method_2_code_114) (by decide) ?_
    show Steps p.tables e below (s₁.setTop (mkF m 116 #[.val (.int (22 : Int32))] [(.int (12 : Int32)), (.int (22 : Int32))])) _
    refine XS.icmpYes X0.here hx rfl (pc0 := 116) (pc' := 123) rfl (hb hby d_method_2_code_116) rfl (by decide) (by decide) (by decide) ?_
    show Steps p.tables e below (s₁.setTop (mkF m 123 #[.val (.int (22 : Int32))] [])) _
    refine XS.iloadN X0.here hx rfl (hb hby d_method_2_code_123) rfl ?_
    show Steps p.tables e below (s₁.setTop (mkF m 124 #[.val (.int (22 : Int32))] [(.int (22 : Int32))])) _
    refine XT.bipushV X0.here hx rfl (13 : Int32) (hb hby d_method_2_code_124) (by decide) ?_
    show Steps p.tables e below (s₁.setTop (mkF m 126 #[.val (.int (22 : Int32))] [(.int (13 : Int32)), (.int (22 : Int32))])) _
    refine XS.icmpYes X0.here hx rfl (pc0 := 126) (pc' := 133) rfl (hb hby d_method_2_code_126) rfl (by decide) (by decide) (by decide) ?_
    show Steps p.tables e below (s₁.setTop (mkF m 133 #[.val (.int (22 : Int32))] [])) _
    refine XS.iloadN X0.here hx rfl (hb hby d_method_2_code_133) rfl ?_
    show Steps p.tables e below (s₁.setTop (mkF m 134 #[.val (.int (22 : Int32))] [(.int (22 : Int32))])) _
    refine XT.bipushV X0.here hx rfl (14 : Int32) (hb hby d_method_2_code_134) (by decide) ?_
    show Steps p.tables e below (s₁.setTop (mkF m 136 #[.val (.int (22 : Int32))] [(.int (14 : Int32)), (.int (22 : Int32))])) _
    refine XS.icmpYes X0.here hx rfl (pc0 := 136) (pc' := 143) rfl (hb hby d_method_2_code_136) rfl (by decide) (by decide) (by decide) ?_
    show Steps p.tables e below (s₁.setTop (mkF m 143 #[.val (.int (22 : Int32))] [])) _
    refine XS.iloadN X0.here hx rfl (hb hby d_method_2_code_143) rfl ?_
    show Steps p.tables e below (s₁.setTop (mkF m 144 #[.val (.int (22 : Int32))] [(.int (22 : Int32))])) _
    refine XT.bipushV X0.here hx rfl (15 : Int32) (hb hby d_method_2_code_144) (by decide) ?_
    show Steps p.tables e below (s₁.setTop (mkF m 146 #[.val (.int (22 : Int32))] [(.int (15 : Int32)), (.int (22 : Int32))])) _
    refine XS.icmpYes X0.here hx rfl (pc0 := 146) (pc' := 153) rfl (hb hby d_method_2_code_146) rfl (by decide) (by decide) (by decide) ?_
    show Steps p.tables e below (s₁.setTop (mkF m 153 #[.val (.int (22 : Int32))] [])) _
    refine XS.iloadN X0.here hx rfl (hb hby d_method_2_code_153) rfl ?_
    show Steps p.tables e below (s₁.setTop (mkF m 154 #[.val (.int (22 : Int32))] [(.int (22 : Int32))])) _
    refine XT.bipushV X0.here hx rfl (16 : Int32) (hb hby d_method_2_code_154) (by decide) ?_
    show Steps p.tables e below (s₁.setTop (mkF m 156 #[.val (.int (22 : Int32))] [(.int (16 : Int32)), (.int (22 : Int32))])) _
    refine XS.icmpYes X0.here hx rfl (pc0 := 156) (pc' := 163) rfl (hb hby d_method_2_code_156) rfl (by decide) (by decide) (by decide) ?_
    show Steps p.tables e below (s₁.setTop (mkF m 163 #[.val (.int (22 : Int32))] [])) _
    refine XS.iloadN X0.here hx rfl (hb hby d_method_2_code_163) rfl ?_
    show Steps p.tables e below (s₁.setTop (mkF m 164 #[.val (.int (22 : Int32))] [(.int (22 : Int32))])) _
    refine XT.bipushV X0.here hx rfl (17 : Int32) (hb hby d_method_2_code_164) (by decide) ?_
    show Steps p.tables e below (s₁.setTop (mkF m 166 #[.val (.int (22 : Int32))] [(.int (17 : Int32)), (.int (22 : Int32))])) _
    refine XS.icmpYes X0.here hx rfl (pc0 := 166) (pc' := 173) rfl (hb hby d_method_2_code_166) rfl (by decide) (by decide) (by decide) ?_
    show Steps p.tables e below (s₁.setTop (mkF m 173 #[.val (.int (22 : Int32))] [])) _
    refine XS.iloadN X0.here hx rfl (hb hby d_method_2_code_173) rfl ?_
    show Steps p.tables e below (s₁.setTop (mkF m 174 #[.val (.int (22 : Int32))] [(.int (22 : Int32))])) _
    refine XT.bipushV X0.here hx rfl (18 : Int32) (hb hby d_method_2_code_174) (by decide) ?_
    show Steps p.tables e below (s₁.setTop (mkF m 176 #[.val (.int (22 : Int32))] [(.int (18 : Int32)), (.int (22 : Int32))])) _
    refine XS.icmpYes X0.here hx rfl (pc0 := 176) (pc' := 183) rfl (hb hby d_method_2_code_176) rfl (by decide) (by decide) (by decide) ?_
    show Steps p.tables e below (s₁.setTop (mkF m 183 #[.val (.int (22 : Int32))] [])) _
    refine XS.iloadN X0.here hx rfl (hb hby d_method_2_code_183) rfl ?_
    show Steps p.tables e below (s₁.setTop (mkF m 184 #[.val (.int (22 : Int32))] [(.int (22 : Int32))])) _
    refine XT.bipushV X0.here hx rfl (19 : Int32) (hb hby d_method_2_code_184) (by decide) ?_
    show Steps p.tables e below (s₁.setTop (mkF m 186 #[.val (.int (22 : Int32))] [(.int (19 : Int32)), (.int (22 : Int32))])) _
    refine XS.icmpYes X0.here hx rfl (pc0 := 186) (pc' := 193) rfl (hb hby d_method_2_code_186) rfl (by decide) (by decide) (by decide) ?_
    show Steps p.tables e below (s₁.setTop (mkF m 193 #[.val (.int (22 : Int32))] [])) _
    refine XS.iloadN X0.here hx rfl (hb hby d_method_2_code_193) rfl ?_
    show Steps p.tables e below (s₁.setTop (mkF m 194 #[.val (.int (22 : Int32))] [(.int (22 : Int32))])) _
    refine XT.bipushV X0.here hx rfl (20 : Int32) (hb hby d_method_2_code_194) (by decide) ?_
    show Steps p.tables e below (s₁.setTop (mkF m 196 #[.val (.int (22 : Int32))] [(.int (20 : Int32)), (.int (22 : Int32))])) _
    refine XS.icmpYes X0.here hx rfl (pc0 := 196) (pc' := 203) rfl (hb hby d_method_2_code_196) rfl (by decide) (by decide) (by decide) ?_
    show Steps p.tables e below (s₁.setTop (mkF m 203 #[.val (.int (22 : Int32))] [])) _
    refine XS.iloadN X0.here hx rfl (hb hby d_method_2_code_203) rfl ?_
    show Steps p.tables e below (s₁.setTop (mkF m 204 #[.val (.int (22 : Int32))] [(.int (22 : Int32))])) _
    refine XT.bipushV X0.here hx rfl (21 : Int32) (hb hby d_method_2_code_204) (by decide) ?_
    show Steps p.tables e below (s₁.setTop (mkF m 206 #[.val (.int (22 : Int32))] [(.int (21 : Int32)), (.int (22 : Int32))])) _
    refine XS.icmpYes X0.here hx rfl (pc0 := 206) (pc' := 213) rfl (hb hby d_method_2_code_206) rfl (by decide) (by decide) (by decide) ?_
    show Steps p.tables e below (s₁.setTop (mkF m 213 #[.val (.int (22 : Int32))] [])) _
    refine XS.iloadN X0.here hx rfl (hb hby d_method_2_code_213) rfl ?_
    show Steps p.tables e below (s₁.setTop (mkF m 214 #[.val (.int (22 : Int32))] [(.int (22 : Int32))])) _
    refine XT.bipushV X0.here hx rfl (22 : Int32) (hb hby d_method_2_code_214) (by decide) ?_
    show Steps p.tables e below (s₁.setTop (mkF m 216 #[.val (.int (22 : Int32))] [(.int (22 : Int32)), (.int (22 : Int32))])) _
    refine XS.icmpNo X0.here hx rfl (hb hby d_method_2_code_216) rfl (by decide) ?_
    show Steps p.tables e below (s₁.setTop (mkF m 219 #[.val (.int (22 : Int32))] [])) _
    refine st23 _ ?_
    show Steps p.tables e below (T23.setTop (mkF m 222 #[.val (.int (22 : Int32))] [(.ref w23)])) _
    jvm_step X23.here [X23.here.top, hx, (hb hby d_method_2_code_222), X23.method', Bd.returns, Value.isRef, FieldType.isReference]
    first | (intro acts; rw [hr _ acts rfl rfl rfl]) | rw [hr _ _ rfl rfl rfl]
    exact Steps.refl _
  · show own_Q (some (.ref w23)) h0 n0 _ T23.heap _
    rw [e23]
    exact ⟨rfl, N0, rfl⟩
theorem d_method_2_code_223 : decode method_2_code 223 = .ok (.getstatic 79, 3) := by decide +kernel
theorem d_method_2_code_226 : decode method_2_code 226 = .ok (.areturn, 1) := by decide +kernel
set_option maxRecDepth 65536 in
set_option maxHeartbeats 40000000 in
theorem own_pick_23 (l : Launch) (Z : State) (a0 : Array Value) (hw : ∀ d ∈ tables_1, d.before a0 Z = true) (ws : List Jvm.Cond) (w0 w1 w2 w3 w4 w5 w6 w7 w8 w9 w10 w11 w12 w13 w14 w15 w16 w17 w18 w19 w20 w21 w22 w23 : Addr) (h0 : Heap) (n0 : Nat) (Z0 : n0 ≤ h0.size) (P : own_P Z h0 w0 w1 w2 w3 w4 w5 w6 w7 w8 w9 w10 w11 w12 w13 w14 w15 w16 w17 w18 w19 w20 w21 w22 w23) :
    MetFree l (⟨"apportion/io/DataTypeIsDecimalPinLaw", "pick", "(I)Lapportion/io/DataType;"⟩ : MethodName) (head1 (Jvm.Cond.code (⟨"apportion/io/DataTypeIsDecimalPinLaw", "pick", "(I)Lapportion/io/DataType;"⟩ : MethodName) method_2_code 1 (some (.object "apportion/io/DataType")) :: ws) ({ frames := 0, cells := 0, slots := 0, locals := 0 } : Room)) (fun a U => a = #[(.int (23 : Int32))] ∧ Z.Warmed39 U.vm ∧ U.heap = h0) (fun _ _ _ _ _ => True) (fun _ U o U' => ∃ v L, o = .returned v ∧ own_Q (some (.ref w11)) h0 n0 v U'.heap L ∧ FrameEnd U o U' L ({ frames := 0, cells := 0, slots := 0, locals := 0 } : Room).cells ({ frames := 0, cells := 0, slots := 0, locals := 0 } : Room).slots) := by
  refine MetFree.of_bodySF (plainFor_of_name pn_apportion_io_DataTypeIsDecimalPinLaw) hisR ?_
  intro p e s m args below meth c s₁ Bd hml0 hP hK
  obtain ⟨rfl, hZ, hh⟩ := hP
  have hx := Bd.exec
  have hby := Bd.bytes
  have hml : c.maxLocals = 1 := hml0
  have hown : s.vm.findClass "apportion/io/DataTypeIsDecimalPinLaw" = some m.cls := findClass_of_methodNamed Bd.named
  have hnm := (name_of_methodNamed Bd.named Bd.method).1
  have X0 : Stand p l e ({ frames := 0, cells := 0, slots := 0, locals := 0 } : Room) s m #[(.int (23 : Int32))] below meth c s₁ [] 0 0 := Stand.of_body Bd
  have e0 : s₁.heap = h0 := by rw [← hh, Bd.state]; rfl
  have N0 := Fr.nil n0
  have pre0 : ∀ t, Steps p.tables e below (s₁.setTop (mkF m 0 #[.val (.int (23 : Int32))] [])) t → Steps p.tables e below (s₁.setTop (entryFrame m #[(.int (23 : Int32))] 1)) t := fun t k => castTop (ef_method_2_code_I m (23 : Int32)) k
  have P0 := P; obtain ⟨S0, E0, F0_ordinal, S1, E1, F1_ordinal, S2, E2, F2_ordinal, S3, E3, F3_ordinal, S4, E4, F4_ordinal, S5, E5, F5_ordinal, S6, E6, F6_ordinal, S7, E7, F7_ordinal, S8, E8, F8_ordinal, S9, E9, F9_ordinal, S10, E10, F10_ordinal, S11, E11, F11_ordinal, S12, E12, F12_ordinal, S13, E13, F13_ordinal, S14, E14, F14_ordinal, S15, E15, F15_ordinal, S16, E16, F16_ordinal, S17, E17, F17_ordinal, S18, E18, F18_ordinal, S19, E19, F19_ordinal, S20, E20, F20_ordinal, S21, E21, F21_ordinal, S22, E22, F22_ordinal, S23, E23, F23_ordinal⟩ := P0
  obtain ⟨T24, X24, e24, st24⟩ := getS2 X0 hx hZ hown (host := "") (Or.inl (hw _ (List.mem_of_getElem? (i := 42) rfl))) Via.refl e0 S11 (g := (mkF m 223 #[.val (.int (23 : Int32))] [])) rfl (hb hby d_method_2_code_223)
  obtain ⟨fs, hr, hrun, hended, hW, hsame⟩ := X24.leave (v := some (.ref w11)) (fun h => by rw [Bd.returns] at h; cases h)
  refine ⟨_, _, pre0 _ ?_, hrun, hended, _, _, rfl, ?_, ⟨_, rfl⟩, hW, hsame.mono (by decide) (by decide)⟩
  · show Steps p.tables e below (s₁.setTop (mkF m 0 #[.val (.int (23 : Int32))] [])) _
    refine XS.iloadN X0.here hx rfl (hb hby d_method_2_code_0) rfl ?_
    show Steps p.tables e below (s₁.setTop (mkF m 1 #[.val (.int (23 : Int32))] [(.int (23 : Int32))])) _
    refine XS.ifYes X0.here hx rfl (pc0 := 1) (pc' := 8) rfl (hb hby d_method_2_code_1) rfl (by decide) (by decide) (by decide) ?_
    show Steps p.tables e below (s₁.setTop (mkF m 8 #[.val (.int (23 : Int32))] [])) _
    refine XS.iloadN X0.here hx rfl (hb hby d_method_2_code_8) rfl ?_
    show Steps p.tables e below (s₁.setTop (mkF m 9 #[.val (.int (23 : Int32))] [(.int (23 : Int32))])) _
    refine XT.iconstV X0.here hx rfl (1 : Int32) (hb hby d_method_2_code_9) rfl ?_
    show Steps p.tables e below (s₁.setTop (mkF m 10 #[.val (.int (23 : Int32))] [(.int (1 : Int32)), (.int (23 : Int32))])) _
    refine XS.icmpYes X0.here hx rfl (pc0 := 10) (pc' := 17) rfl (hb hby d_method_2_code_10) rfl (by decide) (by decide) (by decide) ?_
    show Steps p.tables e below (s₁.setTop (mkF m 17 #[.val (.int (23 : Int32))] [])) _
    refine XS.iloadN X0.here hx rfl (hb hby d_method_2_code_17) rfl ?_
    show Steps p.tables e below (s₁.setTop (mkF m 18 #[.val (.int (23 : Int32))] [(.int (23 : Int32))])) _
    refine XT.iconstV X0.here hx rfl (2 : Int32) (hb hby d_method_2_code_18) rfl ?_
    show Steps p.tables e below (s₁.setTop (mkF m 19 #[.val (.int (23 : Int32))] [(.int (2 : Int32)), (.int (23 : Int32))])) _
    refine XS.icmpYes X0.here hx rfl (pc0 := 19) (pc' := 26) rfl (hb hby d_method_2_code_19) rfl (by decide) (by decide) (by decide) ?_
    show Steps p.tables e below (s₁.setTop (mkF m 26 #[.val (.int (23 : Int32))] [])) _
    refine XS.iloadN X0.here hx rfl (hb hby d_method_2_code_26) rfl ?_
    show Steps p.tables e below (s₁.setTop (mkF m 27 #[.val (.int (23 : Int32))] [(.int (23 : Int32))])) _
    refine XT.iconstV X0.here hx rfl (3 : Int32) (hb hby d_method_2_code_27) rfl ?_
    show Steps p.tables e below (s₁.setTop (mkF m 28 #[.val (.int (23 : Int32))] [(.int (3 : Int32)), (.int (23 : Int32))])) _
    refine XS.icmpYes X0.here hx rfl (pc0 := 28) (pc' := 35) rfl (hb hby d_method_2_code_28) rfl (by decide) (by decide) (by decide) ?_
    show Steps p.tables e below (s₁.setTop (mkF m 35 #[.val (.int (23 : Int32))] [])) _
    refine XS.iloadN X0.here hx rfl (hb hby d_method_2_code_35) rfl ?_
    show Steps p.tables e below (s₁.setTop (mkF m 36 #[.val (.int (23 : Int32))] [(.int (23 : Int32))])) _
    refine XT.iconstV X0.here hx rfl (4 : Int32) (hb hby d_method_2_code_36) rfl ?_
    show Steps p.tables e below (s₁.setTop (mkF m 37 #[.val (.int (23 : Int32))] [(.int (4 : Int32)), (.int (23 : Int32))])) _
    refine XS.icmpYes X0.here hx rfl (pc0 := 37) (pc' := 44) rfl (hb hby d_method_2_code_37) rfl (by decide) (by decide) (by decide) ?_
    show Steps p.tables e below (s₁.setTop (mkF m 44 #[.val (.int (23 : Int32))] [])) _
    refine XS.iloadN X0.here hx rfl (hb hby d_method_2_code_44) rfl ?_
    show Steps p.tables e below (s₁.setTop (mkF m 45 #[.val (.int (23 : Int32))] [(.int (23 : Int32))])) _
    refine XT.iconstV X0.here hx rfl (5 : Int32) (hb hby d_method_2_code_45) rfl ?_
    show Steps p.tables e below (s₁.setTop (mkF m 46 #[.val (.int (23 : Int32))] [(.int (5 : Int32)), (.int (23 : Int32))])) _
    refine XS.icmpYes X0.here hx rfl (pc0 := 46) (pc' := 53) rfl (hb hby d_method_2_code_46) rfl (by decide) (by decide) (by decide) ?_
    show Steps p.tables e below (s₁.setTop (mkF m 53 #[.val (.int (23 : Int32))] [])) _
    refine XS.iloadN X0.here hx rfl (hb hby d_method_2_code_53) rfl ?_
    show Steps p.tables e below (s₁.setTop (mkF m 54 #[.val (.int (23 : Int32))] [(.int (23 : Int32))])) _
    refine XT.bipushV X0.here hx rfl (6 : Int32) (hb hby d_method_2_code_54) (by decide) ?_
    show Steps p.tables e below (s₁.setTop (mkF m 56 #[.val (.int (23 : Int32))] [(.int (6 : Int32)), (.int (23 : Int32))])) _
    refine XS.icmpYes X0.here hx rfl (pc0 := 56) (pc' := 63) rfl (hb hby d_method_2_code_56) rfl (by decide) (by decide) (by decide) ?_
    show Steps p.tables e below (s₁.setTop (mkF m 63 #[.val (.int (23 : Int32))] [])) _
    refine XS.iloadN X0.here hx rfl (hb hby d_method_2_code_63) rfl ?_
    show Steps p.tables e below (s₁.setTop (mkF m 64 #[.val (.int (23 : Int32))] [(.int (23 : Int32))])) _
    refine XT.bipushV X0.here hx rfl (7 : Int32) (hb hby d_method_2_code_64) (by decide) ?_
    show Steps p.tables e below (s₁.setTop (mkF m 66 #[.val (.int (23 : Int32))] [(.int (7 : Int32)), (.int (23 : Int32))])) _
    refine XS.icmpYes X0.here hx rfl (pc0 := 66) (pc' := 73) rfl (hb hby d_method_2_code_66) rfl (by decide) (by decide) (by decide) ?_
    show Steps p.tables e below (s₁.setTop (mkF m 73 #[.val (.int (23 : Int32))] [])) _
    refine XS.iloadN X0.here hx rfl (hb hby d_method_2_code_73) rfl ?_
    show Steps p.tables e below (s₁.setTop (mkF m 74 #[.val (.int (23 : Int32))] [(.int (23 : Int32))])) _
    refine XT.bipushV X0.here hx rfl (8 : Int32) (hb hby d_method_2_code_74) (by decide) ?_
    show Steps p.tables e below (s₁.setTop (mkF m 76 #[.val (.int (23 : Int32))] [(.int (8 : Int32)), (.int (23 : Int32))])) _
    refine XS.icmpYes X0.here hx rfl (pc0 := 76) (pc' := 83) rfl (hb hby d_method_2_code_76) rfl (by decide) (by decide) (by decide) ?_
    show Steps p.tables e below (s₁.setTop (mkF m 83 #[.val (.int (23 : Int32))] [])) _
    refine XS.iloadN X0.here hx rfl (hb hby d_method_2_code_83) rfl ?_
    show Steps p.tables e below (s₁.setTop (mkF m 84 #[.val (.int (23 : Int32))] [(.int (23 : Int32))])) _
    refine XT.bipushV X0.here hx rfl (9 : Int32) (hb hby d_method_2_code_84) (by decide) ?_
    show Steps p.tables e below (s₁.setTop (mkF m 86 #[.val (.int (23 : Int32))] [(.int (9 : Int32)), (.int (23 : Int32))])) _
    refine XS.icmpYes X0.here hx rfl (pc0 := 86) (pc' := 93) rfl (hb hby d_method_2_code_86) rfl (by decide) (by decide) (by decide) ?_
    show Steps p.tables e below (s₁.setTop (mkF m 93 #[.val (.int (23 : Int32))] [])) _
    refine XS.iloadN X0.here hx rfl (hb hby d_method_2_code_93) rfl ?_
    show Steps p.tables e below (s₁.setTop (mkF m 94 #[.val (.int (23 : Int32))] [(.int (23 : Int32))])) _
    refine XT.bipushV X0.here hx rfl (10 : Int32) (hb hby d_method_2_code_94) (by decide) ?_
    show Steps p.tables e below (s₁.setTop (mkF m 96 #[.val (.int (23 : Int32))] [(.int (10 : Int32)), (.int (23 : Int32))])) _
    refine XS.icmpYes X0.here hx rfl (pc0 := 96) (pc' := 103) rfl (hb hby d_method_2_code_96) rfl (by decide) (by decide) (by decide) ?_
    show Steps p.tables e below (s₁.setTop (mkF m 103 #[.val (.int (23 : Int32))] [])) _
    refine XS.iloadN X0.here hx rfl (hb hby d_method_2_code_103) rfl ?_
    show Steps p.tables e below (s₁.setTop (mkF m 104 #[.val (.int (23 : Int32))] [(.int (23 : Int32))])) _
    refine XT.bipushV X0.here hx rfl (11 : Int32) (hb hby d_method_2_code_104) (by decide) ?_
    show Steps p.tables e below (s₁.setTop (mkF m 106 #[.val (.int (23 : Int32))] [(.int (11 : Int32)), (.int (23 : Int32))])) _
    refine XS.icmpYes X0.here hx rfl (pc0 := 106) (pc' := 113) rfl (hb hby d_method_2_code_106) rfl (by decide) (by decide) (by decide) ?_
    show Steps p.tables e below (s₁.setTop (mkF m 113 #[.val (.int (23 : Int32))] [])) _
    refine XS.iloadN X0.here hx rfl (hb hby d_method_2_code_113) rfl ?_
    show Steps p.tables e below (s₁.setTop (mkF m 114 #[.val (.int (23 : Int32))] [(.int (23 : Int32))])) _
    refine XT.bipushV X0.here hx rfl (12 : Int32) (hb hby d_method_2_code_114) (by decide) ?_
    show Steps p.tables e below (s₁.setTop (mkF m 116 #[.val (.int (23 : Int32))] [(.int (12 : Int32)), (.int (23 : Int32))])) _
    refine XS.icmpYes X0.here hx rfl (pc0 := 116) (pc' := 123) rfl (hb hby d_method_2_code_116) rfl (by decide) (by decide) (by decide) ?_
    show Steps p.tables e below (s₁.setTop (mkF m 123 #[.val (.int (23 : Int32))] [])) _
    refine XS.iloadN X0.here hx rfl (hb hby d_method_2_code_123) rfl ?_
    show Steps p.tables e below (s₁.setTop (mkF m 124 #[.val (.int (23 : Int32))] [(.int (23 : Int32))])) _
    refine XT.bipushV X0.here hx rfl (13 : Int32) (hb hby d_method_2_code_124) (by decide) ?_
    show Steps p.tables e below (s₁.setTop (mkF m 126 #[.val (.int (23 : Int32))] [(.int (13 : Int32)), (.int (23 : Int32))])) _
    refine XS.icmpYes X0.here hx rfl (pc0 := 126) (pc' := 133) rfl (hb hby d_method_2_code_126) rfl (by decide) (by decide) (by decide) ?_
    show Steps p.tables e below (s₁.setTop (mkF m 133 #[.val (.int (23 : Int32))] [])) _
    refine XS.iloadN X0.here hx rfl (hb hby d_method_2_code_133) rfl ?_
    show Steps p.tables e below (s₁.setTop (mkF m 134 #[.val (.int (23 : Int32))] [(.int (23 : Int32))])) _
    refine XT.bipushV X0.here hx rfl (14 : Int32) (hb hby d_method_2_code_134) (by decide) ?_
    show Steps p.tables e below (s₁.setTop (mkF m 136 #[.val (.int (23 : Int32))] [(.int (14 : Int32)), (.int (23 : Int32))])) _
    refine XS.icmpYes X0.here hx rfl (pc0 := 136) (pc' := 143) rfl (hb hby d_method_2_code_136) rfl (by decide) (by decide) (by decide) ?_
    show Steps p.tables e below (s₁.setTop (mkF m 143 #[.val (.int (23 : Int32))] [])) _
    refine XS.iloadN X0.here hx rfl (hb hby d_method_2_code_143) rfl ?_
    show Steps p.tables e below (s₁.setTop (mkF m 144 #[.val (.int (23 : Int32))] [(.int (23 : Int32))])) _
    refine XT.bipushV X0.here hx rfl (15 : Int32) (hb hby d_method_2_code_144) (by decide) ?_
    show Steps p.tables e below (s₁.setTop (mkF m 146 #[.val (.int (23 : Int32))] [(.int (15 : Int32)), (.int (23 : Int32))])) _
    refine XS.icmpYes X0.here hx rfl (pc0 := 146) (pc' := 153) rfl (hb hby d_method_2_code_146) rfl (by decide) (by decide) (by decide) ?_
    show Steps p.tables e below (s₁.setTop (mkF m 153 #[.val (.int (23 : Int32))] [])) _
    refine XS.iloadN X0.here hx rfl (hb hby d_method_2_code_153) rfl ?_
    show Steps p.tables e below (s₁.setTop (mkF m 154 #[.val (.int (23 : Int32))] [(.int (23 : Int32))])) _
    refine XT.bipushV X0.here hx rfl (16 : Int32) (hb hby d_method_2_code_154) (by decide) ?_
    show Steps p.tables e below (s₁.setTop (mkF m 156 #[.val (.int (23 : Int32))] [(.int (16 : Int32)), (.int (23 : Int32))])) _
    refine XS.icmpYes X0.here hx rfl (pc0 := 156) (pc' := 163) rfl (hb hby d_method_2_code_156) rfl (by decide) (by decide) (by decide) ?_
    show Steps p.tables e below (s₁.setTop (mkF m 163 #[.val (.int (23 : Int32))] [])) _
    refine XS.iloadN X0.here hx rfl (hb hby d_method_2_code_163) rfl ?_
    show Steps p.tables e below (s₁.setTop (mkF m 164 #[.val (.int (23 : Int32))] [(.int (23 : Int32))])) _
    refine XT.bipushV X0.here hx rfl (17 : Int32) (hb hby d_method_2_code_164) (by decide) ?_
    show Steps p.tables e below (s₁.setTop (mkF m 166 #[.val (.int (23 : Int32))] [(.int (17 : Int32)), (.int (23 : Int32))])) _
    refine XS.icmpYes X0.here hx rfl (pc0 := 166) (pc' := 173) rfl (hb hby d_method_2_code_166) rfl (by decide) (by decide) (by decide) ?_
    show Steps p.tables e below (s₁.setTop (mkF m 173 #[.val (.int (23 : Int32))] [])) _
    refine XS.iloadN X0.here hx rfl (hb hby d_method_2_code_173) rfl ?_
    show Steps p.tables e below (s₁.setTop (mkF m 174 #[.val (.int (23 : Int32))] [(.int (23 : Int32))])) _
    refine XT.bipushV X0.here hx rfl (18 : Int32) (hb hby d_method_2_code_174) (by decide) ?_
    show Steps p.tables e below (s₁.setTop (mkF m 176 #[.val (.int (23 : Int32))] [(.int (18 : Int32)), (.int (23 : Int32))])) _
    refine XS.icmpYes X0.here hx rfl (pc0 := 176) (pc' := 183) rfl (hb hby d_method_2_code_176) rfl (by decide) (by decide) (by decide) ?_
    show Steps p.tables e below (s₁.setTop (mkF m 183 #[.val (.int (23 : Int32))] [])) _
    refine XS.iloadN X0.here hx rfl (hb hby d_method_2_code_183) rfl ?_
    show Steps p.tables e below (s₁.setTop (mkF m 184 #[.val (.int (23 : Int32))] [(.int (23 : Int32))])) _
    refine XT.bipushV X0.here hx rfl (19 : Int32) (hb hby d_method_2_code_184) (by decide) ?_
    show Steps p.tables e below (s₁.setTop (mkF m 186 #[.val (.int (23 : Int32))] [(.int (19 : Int32)), (.int (23 : Int32))])) _
    refine XS.icmpYes X0.here hx rfl (pc0 := 186) (pc' := 193) rfl (hb hby d_method_2_code_186) rfl (by decide) (by decide) (by decide) ?_
    show Steps p.tables e below (s₁.setTop (mkF m 193 #[.val (.int (23 : Int32))] [])) _
    refine XS.iloadN X0.here hx rfl (hb hby d_method_2_code_193) rfl ?_
    show Steps p.tables e below (s₁.setTop (mkF m 194 #[.val (.int (23 : Int32))] [(.int (23 : Int32))])) _
    refine XT.bipushV X0.here hx rfl (20 : Int32) (hb hby d_method_2_code_194) (by decide) ?_
    show Steps p.tables e below (s₁.setTop (mkF m 196 #[.val (.int (23 : Int32))] [(.int (20 : Int32)), (.int (23 : Int32))])) _
    refine XS.icmpYes X0.here hx rfl (pc0 := 196) (pc' := 203) rfl (hb hby d_method_2_code_196) rfl (by decide) (by decide) (by decide) ?_
    show Steps p.tables e below (s₁.setTop (mkF m 203 #[.val (.int (23 : Int32))] [])) _
    refine XS.iloadN X0.here hx rfl (hb hby d_method_2_code_203) rfl ?_
    show Steps p.tables e below (s₁.setTop (mkF m 204 #[.val (.int (23 : Int32))] [(.int (23 : Int32))])) _
    refine XT.bipushV X0.here hx rfl (21 : Int32) (hb hby d_method_2_code_204) (by decide) ?_
    show Steps p.tables e below (s₁.setTop (mkF m 206 #[.val (.int (23 : Int32))] [(.int (21 : Int32)), (.int (23 : Int32))])) _
    refine XS.icmpYes X0.here hx rfl (pc0 := 206) (pc' := 213) rfl (hb hby d_method_2_code_206) rfl (by decide) (by decide) (by decide) ?_
    show Steps p.tables e below (s₁.setTop (mkF m 213 #[.val (.int (23 : Int32))] [])) _
    refine XS.iloadN X0.here hx rfl (hb hby d_method_2_code_213) rfl ?_
    show Steps p.tables e below (s₁.setTop (mkF m 214 #[.val (.int (23 : Int32))] [(.int (23 : Int32))])) _
    refine XT.bipushV X0.here hx rfl (22 : Int32) (hb hby d_method_2_code_214) (by decide) ?_
    show Steps p.tables e below (s₁.setTop (mkF m 216 #[.val (.int (23 : Int32))] [(.int (22 : Int32)), (.int (23 : Int32))])) _
    refine XS.icmpYes X0.here hx rfl (pc0 := 216) (pc' := 223) rfl (hb hby d_method_2_code_216) rfl (by decide) (by decide) (by decide) ?_
    show Steps p.tables e below (s₁.setTop (mkF m 223 #[.val (.int (23 : Int32))] [])) _
    refine st24 _ ?_
    show Steps p.tables e below (T24.setTop (mkF m 226 #[.val (.int (23 : Int32))] [(.ref w11)])) _
    jvm_step X24.here [X24.here.top, hx, (hb hby d_method_2_code_226), X24.method', Bd.returns, Value.isRef, FieldType.isReference]
    first | (intro acts; rw [hr _ acts rfl rfl rfl]) | rw [hr _ _ rfl rfl rfl]
    exact Steps.refl _
  · show own_Q (some (.ref w11)) h0 n0 _ T24.heap _
    rw [e24]
    exact ⟨rfl, N0, rfl⟩
theorem d_jdk_37_method_2_code_0 : decode jdk_37_method_2_code 0 = .ok (.aload_n 0, 1) := by decide +kernel
theorem d_jdk_37_method_2_code_1 : decode jdk_37_method_2_code 1 = .ok (.getfield 7, 3) := by decide +kernel
theorem d_jdk_37_method_2_code_4 : decode jdk_37_method_2_code 4 = .ok (.ireturn, 1) := by decide +kernel
theorem ef_jdk_37_method_2_code_A (m : MethodId) (x0 : Addr) : entryFrame m #[(.ref x0)] 1 = mkF m 0 #[.val (.ref x0)] [] := by first | (simp [entryFrame, mkF, argsToLocals, Value.category]; done) | rfl
theorem pn_java_lang_Enum : plainName "java/lang/Enum" = true := by first | (simp [plainName, overriddenIn]; done) | decide +kernel
set_option maxRecDepth 65536 in
set_option maxHeartbeats 40000000 in
theorem own_ordinal_0 (l : Launch) (Z : State) (a0 : Array Value) (hw : ∀ d ∈ tables_1, d.before a0 Z = true) (ws : List Jvm.Cond) (w0 w1 w2 w3 w4 w5 w6 w7 w8 w9 w10 w11 w12 w13 w14 w15 w16 w17 w18 w19 w20 w21 w22 w23 : Addr) (h0 : Heap) (n0 : Nat) (Z0 : n0 ≤ h0.size) (P : own_P Z h0 w0 w1 w2 w3 w4 w5 w6 w7 w8 w9 w10 w11 w12 w13 w14 w15 w16 w17 w18 w19 w20 w21 w22 w23) :
    MetFree l (⟨"java/lang/Enum", "ordinal", "()I"⟩ : MethodName) (head1 (Jvm.Cond.code (⟨"java/lang/Enum", "ordinal", "()I"⟩ : MethodName) jdk_37_method_2_code 1 (some .int) :: ws) ({ frames := 0, cells := 0, slots := 0, locals := 0 } : Room)) (fun a U => a = #[(.ref w0)] ∧ Z.Warmed39 U.vm ∧ U.heap = h0) (fun _ _ _ _ _ => True) (fun _ U o U' => ∃ v L, o = .returned v ∧ own_Q (some (.int (0 : Int32))) h0 n0 v U'.heap L ∧ FrameEnd U o U' L ({ frames := 0, cells := 0, slots := 0, locals := 0 } : Room).cells ({ frames := 0, cells := 0, slots := 0, locals := 0 } : Room).slots) := by
  refine MetFree.of_bodySF (plainFor_of_name pn_java_lang_Enum) hisR ?_
  intro p e s m args below meth c s₁ Bd hml0 hP hK
  obtain ⟨rfl, hZ, hh⟩ := hP
  have hx := Bd.exec
  have hby := Bd.bytes
  have hml : c.maxLocals = 1 := hml0
  have hown : s.vm.findClass "java/lang/Enum" = some m.cls := findClass_of_methodNamed Bd.named
  have hnm := (name_of_methodNamed Bd.named Bd.method).1
  have X0 : Stand p l e ({ frames := 0, cells := 0, slots := 0, locals := 0 } : Room) s m #[(.ref w0)] below meth c s₁ [] 0 0 := Stand.of_body Bd
  have e0 : s₁.heap = h0 := by rw [← hh, Bd.state]; rfl
  have N0 := Fr.nil n0
  have pre0 : ∀ t, Steps p.tables e below (s₁.setTop (mkF m 0 #[.val (.ref w0)] [])) t → Steps p.tables e below (s₁.setTop (entryFrame m #[(.ref w0)] 1)) t := fun t k => castTop (ef_jdk_37_method_2_code_A m w0) k
  have P0 := P; obtain ⟨S0, E0, F0_ordinal, S1, E1, F1_ordinal, S2, E2, F2_ordinal, S3, E3, F3_ordinal, S4, E4, F4_ordinal, S5, E5, F5_ordinal, S6, E6, F6_ordinal, S7, E7, F7_ordinal, S8, E8, F8_ordinal, S9, E9, F9_ordinal, S10, E10, F10_ordinal, S11, E11, F11_ordinal, S12, E12, F12_ordinal, S13, E13, F13_ordinal, S14, E14, F14_ordinal, S15, E15, F15_ordinal, S16, E16, F16_ordinal, S17, E17, F17_ordinal, S18, E18, F18_ordinal, S19, E19, F19_ordinal, S20, E20, F20_ordinal, S21, E21, F21_ordinal, S22, E22, F22_ordinal, S23, E23, F23_ordinal⟩ := P0
  obtain ⟨T25, X25, e25, st25⟩ := getF X0 hx hZ hown (host := "") (Or.inl (hw _ (List.mem_of_getElem? (i := 20) rfl))) Via.refl e0 F0_ordinal (g := (mkF m 1 #[.val (.ref w0)] [(.ref w0)])) rfl rfl (hb hby d_jdk_37_method_2_code_1)
  obtain ⟨fs, hr, hrun, hended, hW, hsame⟩ := X25.leave (v := some (.int (0 : Int32))) (fun h => by rw [Bd.returns] at h; cases h)
  refine ⟨_, _, pre0 _ ?_, hrun, hended, _, _, rfl, ?_, ⟨_, rfl⟩, hW, hsame.mono (by decide) (by decide)⟩
  · show Steps p.tables e below (s₁.setTop (mkF m 0 #[.val (.ref w0)] [])) _
    refine XS.aloadN X0.here hx rfl (hb hby d_jdk_37_method_2_code_0) rfl rfl ?_
    show Steps p.tables e below (s₁.setTop (mkF m 1 #[.val (.ref w0)] [(.ref w0)])) _
    refine st25 _ ?_
    show Steps p.tables e below (T25.setTop (mkF m 4 #[.val (.ref w0)] [(.int (0 : Int32))])) _
    exact retI X25 hx Bd.returns (hb hby d_jdk_37_method_2_code_4) hr
  · show own_Q (some (.int (0 : Int32))) h0 n0 _ T25.heap _
    rw [e25]
    exact ⟨rfl, N0, rfl⟩
theorem d_prog_15_method_5_code_0 : decode prog_15_method_5_code 0 = .ok (.aload_n 0, 1) := by decide +kernel
theorem pd___I : parseMethodDescriptor "()I" = some ⟨[], (some .int)⟩ := by decide +kernel
theorem d_prog_15_method_5_code_1 : decode prog_15_method_5_code 1 = .ok (.invokevirtual 101, 3) := by decide +kernel
theorem d_prog_15_method_5_code_4 : decode prog_15_method_5_code 4 = .ok (.tableswitch 44 8 13 #[40, 40, 40, 40, 40, 40], 40) := by decide +kernel
theorem d_prog_15_method_5_code_48 : decode prog_15_method_5_code 48 = .ok (.iconst 0, 1) := by decide +kernel
theorem d_prog_15_method_5_code_49 : decode prog_15_method_5_code 49 = .ok (.ireturn, 1) := by decide +kernel
theorem ef_prog_15_method_5_code_A (m : MethodId) (x0 : Addr) : entryFrame m #[(.ref x0)] 1 = mkF m 0 #[.val (.ref x0)] [] := by first | (simp [entryFrame, mkF, argsToLocals, Value.category]; done) | rfl
theorem pn_apportion_io_DataType : plainName "apportion/io/DataType" = true := by first | (simp [plainName, overriddenIn]; done) | decide +kernel
set_option maxRecDepth 65536 in
set_option maxHeartbeats 40000000 in
theorem own_isDecimal_0 (l : Launch) (Z : State) (a0 : Array Value) (hw : ∀ d ∈ tables_1, d.before a0 Z = true) (ws : List Jvm.Cond) (w0 w1 w2 w3 w4 w5 w6 w7 w8 w9 w10 w11 w12 w13 w14 w15 w16 w17 w18 w19 w20 w21 w22 w23 : Addr) (h0 : Heap) (n0 : Nat) (Z0 : n0 ≤ h0.size) (P : own_P Z h0 w0 w1 w2 w3 w4 w5 w6 w7 w8 w9 w10 w11 w12 w13 w14 w15 w16 w17 w18 w19 w20 w21 w22 w23) :
    MetFree l (⟨"apportion/io/DataType", "isDecimal", "()Z"⟩ : MethodName) (head1 (Jvm.Cond.code (⟨"apportion/io/DataType", "isDecimal", "()Z"⟩ : MethodName) prog_15_method_5_code 1 (some .boolean) :: ws) ({ frames := 1, cells := 0, slots := 0, locals := 12 } : Room)) (fun a U => a = #[(.ref w0)] ∧ Z.Warmed39 U.vm ∧ U.heap = h0) (fun _ _ _ _ _ => True) (fun _ U o U' => ∃ v L, o = .returned v ∧ own_Q (some (.int (0 : Int32))) h0 n0 v U'.heap L ∧ FrameEnd U o U' L ({ frames := 1, cells := 0, slots := 0, locals := 12 } : Room).cells ({ frames := 1, cells := 0, slots := 0, locals := 12 } : Room).slots) := by
  refine MetFree.of_bodySF (plainFor_of_name pn_apportion_io_DataType) hisR ?_
  intro p e s m args below meth c s₁ Bd hml0 hP hK
  obtain ⟨rfl, hZ, hh⟩ := hP
  have hx := Bd.exec
  have hby := Bd.bytes
  have hml : c.maxLocals = 1 := hml0
  have hown : s.vm.findClass "apportion/io/DataType" = some m.cls := findClass_of_methodNamed Bd.named
  have hnm := (name_of_methodNamed Bd.named Bd.method).1
  have X0 : Stand p l e ({ frames := 1, cells := 0, slots := 0, locals := 12 } : Room) s m #[(.ref w0)] below meth c s₁ [] 0 0 := Stand.of_body Bd
  have e0 : s₁.heap = h0 := by rw [← hh, Bd.state]; rfl
  have N0 := Fr.nil n0
  have pre0 : ∀ t, Steps p.tables e below (s₁.setTop (mkF m 0 #[.val (.ref w0)] [])) t → Steps p.tables e below (s₁.setTop (entryFrame m #[(.ref w0)] 1)) t := fun t k => castTop (ef_prog_15_method_5_code_A m w0) k
  have P0 := P; obtain ⟨S0, E0, F0_ordinal, S1, E1, F1_ordinal, S2, E2, F2_ordinal, S3, E3, F3_ordinal, S4, E4, F4_ordinal, S5, E5, F5_ordinal, S6, E6, F6_ordinal, S7, E7, F7_ordinal, S8, E8, F8_ordinal, S9, E9, F9_ordinal, S10, E10, F10_ordinal, S11, E11, F11_ordinal, S12, E12, F12_ordinal, S13, E13, F13_ordinal, S14, E14, F14_ordinal, S15, E15, F15_ordinal, S16, E16, F16_ordinal, S17, E17, F17_ordinal, S18, E18, F18_ordinal, S19, E19, F19_ordinal, S20, E20, F20_ordinal, S21, E21, F21_ordinal, S22, E22, F22_ordinal, S23, E23, F23_ordinal⟩ := P0
  obtain ⟨cq26, kq26, q26a, q26b, q26c⟩ := isOf hZ e0 E0
  obtain ⟨_, _, ⟨T26, L26, k26, n26⟩, -, X26, ⟨Lc26, hQ26, l26, y26, z26⟩, st26⟩ := X0.virtualBackUp hx (owner := "java/lang/Enum") (x := (⟨"apportion/io/DataType", "ordinal", "()I"⟩ : MethodName)) (y := (⟨"java/lang/Enum", "ordinal", "()I"⟩ : MethodName)) hown (mvT hZ (hw _ (List.mem_of_getElem? (i := 13) rfl))) (mvT hZ (hw _ (List.mem_of_getElem? (i := 14) rfl))) (mvT hZ (hw _ (List.mem_of_getElem? (i := 15) rfl))) (by decide) (mvT hZ (hw _ (List.mem_of_getElem? (i := 17) rfl))) (mvT hZ (hw _ (List.mem_of_getElem? (i := 16) rfl))) (backOf (W := 0) (own_ordinal_0 l Z a0 hw [] w0 w1 w2 w3 w4 w5 w6 w7 w8 w9 w10 w11 w12 w13 w14 w15 w16 w17 w18 w19 w20 w21 w22 w23 h0 n0 Z0 P) hZ (hw _ (List.mem_of_getElem? (i := 19) rfl)) (hw _ (List.mem_of_getElem? (i := 18) rfl)) (by decide) (by decide)) q26a q26c (g := (mkF m 1 #[.val (.ref w0)] [(.ref w0)])) rfl (by rw [hml]; rfl) (Steps.refl _) (argsL := []) (rest := []) (lenOf pd___I rfl) rfl (by show 2 * 0 + _ ≤ _; exact Nat.le_of_eq rfl) (hb hby d_prog_15_method_5_code_1) (fun _ _ => ⟨rfl, e0, (by decide : 0 + 0 ≤ _), (by decide : 0 + 0 ≤ _)⟩)
  dsimp only [Pt.U, Pt.locs, Pt.cells, Pt.slots] at X26 l26 y26 z26 st26 hQ26
  subst l26 y26 z26
  obtain ⟨rfl, N26q, e26⟩ := hQ26
  have N26 := Fr.app N0 N26q
  obtain ⟨fs, hr, hrun, hended, hW, hsame⟩ := X26.leave (v := some (.int (0 : Int32))) (fun h => by rw [Bd.returns] at h; cases h)
  refine ⟨_, _, pre0 _ ?_, hrun, hended, _, _, rfl, ?_, ⟨_, rfl⟩, hW, hsame.mono (by decide) (by decide)⟩
  · show Steps p.tables e below (s₁.setTop (mkF m 0 #[.val (.ref w0)] [])) _
    refine XS.aloadN X0.here hx rfl (hb hby d_prog_15_method_5_code_0) rfl rfl ?_
    show Steps p.tables e below (s₁.setTop (mkF m 1 #[.val (.ref w0)] [(.ref w0)])) _
    refine st26.trans ?_
    show Steps p.tables e below (T26.setTop (mkF m 4 #[.val (.ref w0)] [(.int (0 : Int32))])) _
    refine XS.tswOut X26.here hx rfl (pc0 := 4) (pc' := 48) rfl (hb hby d_prog_15_method_5_code_4) rfl (by decide) (by decide) (by decide) ?_
    show Steps p.tables e below (T26.setTop (mkF m 48 #[.val (.ref w0)] [])) _
    refine XT.iconstV X26.here hx rfl (0 : Int32) (hb hby d_prog_15_method_5_code_48) rfl ?_
    show Steps p.tables e below (T26.setTop (mkF m 49 #[.val (.ref w0)] [(.int (0 : Int32))])) _
    exact retN X26 hx (t := .boolean) Bd.returns (by simp) (hb hby d_prog_15_method_5_code_49) hr
  · show own_Q (some (.int (0 : Int32))) h0 n0 _ T26.heap _
    rw [e26]
    exact ⟨rfl, N26, rfl⟩
set_option maxRecDepth 65536 in
set_option maxHeartbeats 40000000 in
theorem own_ordinal_1 (l : Launch) (Z : State) (a0 : Array Value) (hw : ∀ d ∈ tables_1, d.before a0 Z = true) (ws : List Jvm.Cond) (w0 w1 w2 w3 w4 w5 w6 w7 w8 w9 w10 w11 w12 w13 w14 w15 w16 w17 w18 w19 w20 w21 w22 w23 : Addr) (h0 : Heap) (n0 : Nat) (Z0 : n0 ≤ h0.size) (P : own_P Z h0 w0 w1 w2 w3 w4 w5 w6 w7 w8 w9 w10 w11 w12 w13 w14 w15 w16 w17 w18 w19 w20 w21 w22 w23) :
    MetFree l (⟨"java/lang/Enum", "ordinal", "()I"⟩ : MethodName) (head1 (Jvm.Cond.code (⟨"java/lang/Enum", "ordinal", "()I"⟩ : MethodName) jdk_37_method_2_code 1 (some .int) :: ws) ({ frames := 0, cells := 0, slots := 0, locals := 0 } : Room)) (fun a U => a = #[(.ref w1)] ∧ Z.Warmed39 U.vm ∧ U.heap = h0) (fun _ _ _ _ _ => True) (fun _ U o U' => ∃ v L, o = .returned v ∧ own_Q (some (.int (3 : Int32))) h0 n0 v U'.heap L ∧ FrameEnd U o U' L ({ frames := 0, cells := 0, slots := 0, locals := 0 } : Room).cells ({ frames := 0, cells := 0, slots := 0, locals := 0 } : Room).slots) := by
  refine MetFree.of_bodySF (plainFor_of_name pn_java_lang_Enum) hisR ?_
  intro p e s m args below meth c s₁ Bd hml0 hP hK
  obtain ⟨rfl, hZ, hh⟩ := hP
  have hx := Bd.exec
  have hby := Bd.bytes
  have hml : c.maxLocals = 1 := hml0
  have hown : s.vm.findClass "java/lang/Enum" = some m.cls := findClass_of_methodNamed Bd.named
  have hnm := (name_of_methodNamed Bd.named Bd.method).1
  have X0 : Stand p l e ({ frames := 0, cells := 0, slots := 0, locals := 0 } : Room) s m #[(.ref w1)] below meth c s₁ [] 0 0 := Stand.of_body Bd
  have e0 : s₁.heap = h0 := by rw [← hh, Bd.state]; rfl
  have N0 := Fr.nil n0
  have pre0 : ∀ t, Steps p.tables e below (s₁.setTop (mkF m 0 #[.val (.ref w1)] [])) t → Steps p.tables e below (s₁.setTop (entryFrame m #[(.ref w1)] 1)) t := fun t k => castTop (ef_jdk_37_method_2_code_A m w1) k
  have P0 := P; obtain ⟨S0, E0, F0_ordinal, S1, E1, F1_ordinal, S2, E2, F2_ordinal, S3, E3, F3_ordinal, S4, E4, F4_ordinal, S5, E5, F5_ordinal, S6, E6, F6_ordinal, S7, E7, F7_ordinal, S8, E8, F8_ordinal, S9, E9, F9_ordinal, S10, E10, F10_ordinal, S11, E11, F11_ordinal, S12, E12, F12_ordinal, S13, E13, F13_ordinal, S14, E14, F14_ordinal, S15, E15, F15_ordinal, S16, E16, F16_ordinal, S17, E17, F17_ordinal, S18, E18, F18_ordinal, S19, E19, F19_ordinal, S20, E20, F20_ordinal, S21, E21, F21_ordinal, S22, E22, F22_ordinal, S23, E23, F23_ordinal⟩ := P0
  obtain ⟨T27, X27, e27, st27⟩ := getF X0 hx hZ hown (host := "") (Or.inl (hw _ (List.mem_of_getElem? (i := 20) rfl))) Via.refl e0 F1_ordinal (g := (mkF m 1 #[.val (.ref w1)] [(.ref w1)])) rfl rfl (hb hby d_jdk_37_method_2_code_1)
  obtain ⟨fs, hr, hrun, hended, hW, hsame⟩ := X27.leave (v := some (.int (3 : Int32))) (fun h => by rw [Bd.returns] at h; cases h)
  refine ⟨_, _, pre0 _ ?_, hrun, hended, _, _, rfl, ?_, ⟨_, rfl⟩, hW, hsame.mono (by decide) (by decide)⟩
  · show Steps p.tables e below (s₁.setTop (mkF m 0 #[.val (.ref w1)] [])) _
    refine XS.aloadN X0.here hx rfl (hb hby d_jdk_37_method_2_code_0) rfl rfl ?_
    show Steps p.tables e below (s₁.setTop (mkF m 1 #[.val (.ref w1)] [(.ref w1)])) _
    refine st27 _ ?_
    show Steps p.tables e below (T27.setTop (mkF m 4 #[.val (.ref w1)] [(.int (3 : Int32))])) _
    exact retI X27 hx Bd.returns (hb hby d_jdk_37_method_2_code_4) hr
  · show own_Q (some (.int (3 : Int32))) h0 n0 _ T27.heap _
    rw [e27]
    exact ⟨rfl, N0, rfl⟩
set_option maxRecDepth 65536 in
set_option maxHeartbeats 40000000 in
theorem own_isDecimal_1 (l : Launch) (Z : State) (a0 : Array Value) (hw : ∀ d ∈ tables_1, d.before a0 Z = true) (ws : List Jvm.Cond) (w0 w1 w2 w3 w4 w5 w6 w7 w8 w9 w10 w11 w12 w13 w14 w15 w16 w17 w18 w19 w20 w21 w22 w23 : Addr) (h0 : Heap) (n0 : Nat) (Z0 : n0 ≤ h0.size) (P : own_P Z h0 w0 w1 w2 w3 w4 w5 w6 w7 w8 w9 w10 w11 w12 w13 w14 w15 w16 w17 w18 w19 w20 w21 w22 w23) :
    MetFree l (⟨"apportion/io/DataType", "isDecimal", "()Z"⟩ : MethodName) (head1 (Jvm.Cond.code (⟨"apportion/io/DataType", "isDecimal", "()Z"⟩ : MethodName) prog_15_method_5_code 1 (some .boolean) :: ws) ({ frames := 1, cells := 0, slots := 0, locals := 12 } : Room)) (fun a U => a = #[(.ref w1)] ∧ Z.Warmed39 U.vm ∧ U.heap = h0) (fun _ _ _ _ _ => True) (fun _ U o U' => ∃ v L, o = .returned v ∧ own_Q (some (.int (0 : Int32))) h0 n0 v U'.heap L ∧ FrameEnd U o U' L ({ frames := 1, cells := 0, slots := 0, locals := 12 } : Room).cells ({ frames := 1, cells := 0, slots := 0, locals := 12 } : Room).slots) := by
  refine MetFree.of_bodySF (plainFor_of_name pn_apportion_io_DataType) hisR ?_
  intro p e s m args below meth c s₁ Bd hml0 hP hK
  obtain ⟨rfl, hZ, hh⟩ := hP
  have hx := Bd.exec
  have hby := Bd.bytes
  have hml : c.maxLocals = 1 := hml0
  have hown : s.vm.findClass "apportion/io/DataType" = some m.cls := findClass_of_methodNamed Bd.named
  have hnm := (name_of_methodNamed Bd.named Bd.method).1
  have X0 : Stand p l e ({ frames := 1, cells := 0, slots := 0, locals := 12 } : Room) s m #[(.ref w1)] below meth c s₁ [] 0 0 := Stand.of_body Bd
  have e0 : s₁.heap = h0 := by rw [← hh, Bd.state]; rfl
  have N0 := Fr.nil n0
  have pre0 : ∀ t, Steps p.tables e below (s₁.setTop (mkF m 0 #[.val (.ref w1)] [])) t → Steps p.tables e below (s₁.setTop (entryFrame m #[(.ref w1)] 1)) t := fun t k => castTop (ef_prog_15_method_5_code_A m w1) k
  have P0 := P; obtain ⟨S0, E0, F0_ordinal, S1, E1, F1_ordinal, S2, E2, F2_ordinal, S3, E3, F3_ordinal, S4, E4, F4_ordinal, S5, E5, F5_ordinal, S6, E6, F6_ordinal, S7, E7, F7_ordinal, S8, E8, F8_ordinal, S9, E9, F9_ordinal, S10, E10, F10_ordinal, S11, E11, F11_ordinal, S12, E12, F12_ordinal, S13, E13, F13_ordinal, S14, E14, F14_ordinal, S15, E15, F15_ordinal, S16, E16, F16_ordinal, S17, E17, F17_ordinal, S18, E18, F18_ordinal, S19, E19, F19_ordinal, S20, E20, F20_ordinal, S21, E21, F21_ordinal, S22, E22, F22_ordinal, S23, E23, F23_ordinal⟩ := P0
  obtain ⟨cq28, kq28, q28a, q28b, q28c⟩ := isOf hZ e0 E1
  obtain ⟨_, _, ⟨T28, L28, k28, n28⟩, -, X28, ⟨Lc28, hQ28, l28, y28, z28⟩, st28⟩ := X0.virtualBackUp hx (owner := "java/lang/Enum") (x := (⟨"apportion/io/DataType", "ordinal", "()I"⟩ : MethodName)) (y := (⟨"java/lang/Enum", "ordinal", "()I"⟩ : MethodName)) hown (mvT hZ (hw _ (List.mem_of_getElem? (i := 13) rfl))) (mvT hZ (hw _ (List.mem_of_getElem? (i := 14) rfl))) (mvT hZ (hw _ (List.mem_of_getElem? (i := 15) rfl))) (by decide) (mvT hZ (hw _ (List.mem_of_getElem? (i := 17) rfl))) (mvT hZ (hw _ (List.mem_of_getElem? (i := 16) rfl))) (backOf (W := 0) (own_ordinal_1 l Z a0 hw [] w0 w1 w2 w3 w4 w5 w6 w7 w8 w9 w10 w11 w12 w13 w14 w15 w16 w17 w18 w19 w20 w21 w22 w23 h0 n0 Z0 P) hZ (hw _ (List.mem_of_getElem? (i := 19) rfl)) (hw _ (List.mem_of_getElem? (i := 18) rfl)) (by decide) (by decide)) q28a q28c (g := (mkF m 1 #[.val (.ref w1)] [(.ref w1)])) rfl (by rw [hml]; rfl) (Steps.refl _) (argsL := []) (rest := []) (lenOf pd___I rfl) rfl (by show 2 * 0 + _ ≤ _; exact Nat.le_of_eq rfl) (hb hby d_prog_15_method_5_code_1) (fun _ _ => ⟨rfl, e0, (by decide : 0 + 0 ≤ _), (by decide : 0 + 0 ≤ _)⟩)
  dsimp only [Pt.U, Pt.locs, Pt.cells, Pt.slots] at X28 l28 y28 z28 st28 hQ28
  subst l28 y28 z28
  obtain ⟨rfl, N28q, e28⟩ := hQ28
  have N28 := Fr.app N0 N28q
  obtain ⟨fs, hr, hrun, hended, hW, hsame⟩ := X28.leave (v := some (.int (0 : Int32))) (fun h => by rw [Bd.returns] at h; cases h)
  refine ⟨_, _, pre0 _ ?_, hrun, hended, _, _, rfl, ?_, ⟨_, rfl⟩, hW, hsame.mono (by decide) (by decide)⟩
  · show Steps p.tables e below (s₁.setTop (mkF m 0 #[.val (.ref w1)] [])) _
    refine XS.aloadN X0.here hx rfl (hb hby d_prog_15_method_5_code_0) rfl rfl ?_
    show Steps p.tables e below (s₁.setTop (mkF m 1 #[.val (.ref w1)] [(.ref w1)])) _
    refine st28.trans ?_
    show Steps p.tables e below (T28.setTop (mkF m 4 #[.val (.ref w1)] [(.int (3 : Int32))])) _
    refine XS.tswOut X28.here hx rfl (pc0 := 4) (pc' := 48) rfl (hb hby d_prog_15_method_5_code_4) rfl (by decide) (by decide) (by decide) ?_
    show Steps p.tables e below (T28.setTop (mkF m 48 #[.val (.ref w1)] [])) _
    refine XT.iconstV X28.here hx rfl (0 : Int32) (hb hby d_prog_15_method_5_code_48) rfl ?_
    show Steps p.tables e below (T28.setTop (mkF m 49 #[.val (.ref w1)] [(.int (0 : Int32))])) _
    exact retN X28 hx (t := .boolean) Bd.returns (by simp) (hb hby d_prog_15_method_5_code_49) hr
  · show own_Q (some (.int (0 : Int32))) h0 n0 _ T28.heap _
    rw [e28]
    exact ⟨rfl, N28, rfl⟩
set_option maxRecDepth 65536 in
set_option maxHeartbeats 40000000 in
theorem own_ordinal_2 (l : Launch) (Z : State) (a0 : Array Value) (hw : ∀ d ∈ tables_1, d.before a0 Z = true) (ws : List Jvm.Cond) (w0 w1 w2 w3 w4 w5 w6 w7 w8 w9 w10 w11 w12 w13 w14 w15 w16 w17 w18 w19 w20 w21 w22 w23 : Addr) (h0 : Heap) (n0 : Nat) (Z0 : n0 ≤ h0.size) (P : own_P Z h0 w0 w1 w2 w3 w4 w5 w6 w7 w8 w9 w10 w11 w12 w13 w14 w15 w16 w17 w18 w19 w20 w21 w22 w23) :
    MetFree l (⟨"java/lang/Enum", "ordinal", "()I"⟩ : MethodName) (head1 (Jvm.Cond.code (⟨"java/lang/Enum", "ordinal", "()I"⟩ : MethodName) jdk_37_method_2_code 1 (some .int) :: ws) ({ frames := 0, cells := 0, slots := 0, locals := 0 } : Room)) (fun a U => a = #[(.ref w2)] ∧ Z.Warmed39 U.vm ∧ U.heap = h0) (fun _ _ _ _ _ => True) (fun _ U o U' => ∃ v L, o = .returned v ∧ own_Q (some (.int (14 : Int32))) h0 n0 v U'.heap L ∧ FrameEnd U o U' L ({ frames := 0, cells := 0, slots := 0, locals := 0 } : Room).cells ({ frames := 0, cells := 0, slots := 0, locals := 0 } : Room).slots) := by
  refine MetFree.of_bodySF (plainFor_of_name pn_java_lang_Enum) hisR ?_
  intro p e s m args below meth c s₁ Bd hml0 hP hK
  obtain ⟨rfl, hZ, hh⟩ := hP
  have hx := Bd.exec
  have hby := Bd.bytes
  have hml : c.maxLocals = 1 := hml0
  have hown : s.vm.findClass "java/lang/Enum" = some m.cls := findClass_of_methodNamed Bd.named
  have hnm := (name_of_methodNamed Bd.named Bd.method).1
  have X0 : Stand p l e ({ frames := 0, cells := 0, slots := 0, locals := 0 } : Room) s m #[(.ref w2)] below meth c s₁ [] 0 0 := Stand.of_body Bd
  have e0 : s₁.heap = h0 := by rw [← hh, Bd.state]; rfl
  have N0 := Fr.nil n0
  have pre0 : ∀ t, Steps p.tables e below (s₁.setTop (mkF m 0 #[.val (.ref w2)] [])) t → Steps p.tables e below (s₁.setTop (entryFrame m #[(.ref w2)] 1)) t := fun t k => castTop (ef_jdk_37_method_2_code_A m w2) k
  have P0 := P; obtain ⟨S0, E0, F0_ordinal, S1, E1, F1_ordinal, S2, E2, F2_ordinal, S3, E3, F3_ordinal, S4, E4, F4_ordinal, S5, E5, F5_ordinal, S6, E6, F6_ordinal, S7, E7, F7_ordinal, S8, E8, F8_ordinal, S9, E9, F9_ordinal, S10, E10, F10_ordinal, S11, E11, F11_ordinal, S12, E12, F12_ordinal, S13, E13, F13_ordinal, S14, E14, F14_ordinal, S15, E15, F15_ordinal, S16, E16, F16_ordinal, S17, E17, F17_ordinal, S18, E18, F18_ordinal, S19, E19, F19_ordinal, S20, E20, F20_ordinal, S21, E21, F21_ordinal, S22, E22, F22_ordinal, S23, E23, F23_ordinal⟩ := P0
  obtain ⟨T29, X29, e29, st29⟩ := getF X0 hx hZ hown (host := "") (Or.inl (hw _ (List.mem_of_getElem? (i := 20) rfl))) Via.refl e0 F2_ordinal (g := (mkF m 1 #[.val (.ref w2)] [(.ref w2)])) rfl rfl (hb hby d_jdk_37_method_2_code_1)
  obtain ⟨fs, hr, hrun, hended, hW, hsame⟩ := X29.leave (v := some (.int (14 : Int32))) (fun h => by rw [Bd.returns] at h; cases h)
  refine ⟨_, _, pre0 _ ?_, hrun, hended, _, _, rfl, ?_, ⟨_, rfl⟩, hW, hsame.mono (by decide) (by decide)⟩
  · show Steps p.tables e below (s₁.setTop (mkF m 0 #[.val (.ref w2)] [])) _
    refine XS.aloadN X0.here hx rfl (hb hby d_jdk_37_method_2_code_0) rfl rfl ?_
    show Steps p.tables e below (s₁.setTop (mkF m 1 #[.val (.ref w2)] [(.ref w2)])) _
    refine st29 _ ?_
    show Steps p.tables e below (T29.setTop (mkF m 4 #[.val (.ref w2)] [(.int (14 : Int32))])) _
    exact retI X29 hx Bd.returns (hb hby d_jdk_37_method_2_code_4) hr
  · show own_Q (some (.int (14 : Int32))) h0 n0 _ T29.heap _
    rw [e29]
    exact ⟨rfl, N0, rfl⟩
set_option maxRecDepth 65536 in
set_option maxHeartbeats 40000000 in
theorem own_isDecimal_2 (l : Launch) (Z : State) (a0 : Array Value) (hw : ∀ d ∈ tables_1, d.before a0 Z = true) (ws : List Jvm.Cond) (w0 w1 w2 w3 w4 w5 w6 w7 w8 w9 w10 w11 w12 w13 w14 w15 w16 w17 w18 w19 w20 w21 w22 w23 : Addr) (h0 : Heap) (n0 : Nat) (Z0 : n0 ≤ h0.size) (P : own_P Z h0 w0 w1 w2 w3 w4 w5 w6 w7 w8 w9 w10 w11 w12 w13 w14 w15 w16 w17 w18 w19 w20 w21 w22 w23) :
    MetFree l (⟨"apportion/io/DataType", "isDecimal", "()Z"⟩ : MethodName) (head1 (Jvm.Cond.code (⟨"apportion/io/DataType", "isDecimal", "()Z"⟩ : MethodName) prog_15_method_5_code 1 (some .boolean) :: ws) ({ frames := 1, cells := 0, slots := 0, locals := 12 } : Room)) (fun a U => a = #[(.ref w2)] ∧ Z.Warmed39 U.vm ∧ U.heap = h0) (fun _ _ _ _ _ => True) (fun _ U o U' => ∃ v L, o = .returned v ∧ own_Q (some (.int (0 : Int32))) h0 n0 v U'.heap L ∧ FrameEnd U o U' L ({ frames := 1, cells := 0, slots := 0, locals := 12 } : Room).cells ({ frames := 1, cells := 0, slots := 0, locals := 12 } : Room).slots) := by
  refine MetFree.of_bodySF (plainFor_of_name pn_apportion_io_DataType) hisR ?_
  intro p e s m args below meth c s₁ Bd hml0 hP hK
  obtain ⟨rfl, hZ, hh⟩ := hP
  have hx := Bd.exec
  have hby := Bd.bytes
  have hml : c.maxLocals = 1 := hml0
  have hown : s.vm.findClass "apportion/io/DataType" = some m.cls := findClass_of_methodNamed Bd.named
  have hnm := (name_of_methodNamed Bd.named Bd.method).1
  have X0 : Stand p l e ({ frames := 1, cells := 0, slots := 0, locals := 12 } : Room) s m #[(.ref w2)] below meth c s₁ [] 0 0 := Stand.of_body Bd
  have e0 : s₁.heap = h0 := by rw [← hh, Bd.state]; rfl
  have N0 := Fr.nil n0
  have pre0 : ∀ t, Steps p.tables e below (s₁.setTop (mkF m 0 #[.val (.ref w2)] [])) t → Steps p.tables e below (s₁.setTop (entryFrame m #[(.ref w2)] 1)) t := fun t k => castTop (ef_prog_15_method_5_code_A m w2) k
  have P0 := P; obtain ⟨S0, E0, F0_ordinal, S1, E1, F1_ordinal, S2, E2, F2_ordinal, S3, E3, F3_ordinal, S4, E4, F4_ordinal, S5, E5, F5_ordinal, S6, E6, F6_ordinal, S7, E7, F7_ordinal, S8, E8, F8_ordinal, S9, E9, F9_ordinal, S10, E10, F10_ordinal, S11, E11, F11_ordinal, S12, E12, F12_ordinal, S13, E13, F13_ordinal, S14, E14, F14_ordinal, S15, E15, F15_ordinal, S16, E16, F16_ordinal, S17, E17, F17_ordinal, S18, E18, F18_ordinal, S19, E19, F19_ordinal, S20, E20, F20_ordinal, S21, E21, F21_ordinal, S22, E22, F22_ordinal, S23, E23, F23_ordinal⟩ := P0
  obtain ⟨cq30, kq30, q30a, q30b, q30c⟩ := isOf hZ e0 E2
  obtain ⟨_, _, ⟨T30, L30, k30, n30⟩, -, X30, ⟨Lc30, hQ30, l30, y30, z30⟩, st30⟩ := X0.virtualBackUp hx (owner := "java/lang/Enum") (x := (⟨"apportion/io/DataType", "ordinal", "()I"⟩ : MethodName)) (y := (⟨"java/lang/Enum", "ordinal", "()I"⟩ : MethodName)) hown (mvT hZ (hw _ (List.mem_of_getElem? (i := 13) rfl))) (mvT hZ (hw _ (List.mem_of_getElem? (i := 14) rfl))) (mvT hZ (hw _ (List.mem_of_getElem? (i := 15) rfl))) (by decide) (mvT hZ (hw _ (List.mem_of_getElem? (i := 17) rfl))) (mvT hZ (hw _ (List.mem_of_getElem? (i := 16) rfl))) (backOf (W := 0) (own_ordinal_2 l Z a0 hw [] w0 w1 w2 w3 w4 w5 w6 w7 w8 w9 w10 w11 w12 w13 w14 w15 w16 w17 w18 w19 w20 w21 w22 w23 h0 n0 Z0 P) hZ (hw _ (List.mem_of_getElem? (i := 19) rfl)) (hw _ (List.mem_of_getElem? (i := 18) rfl)) (by decide) (by decide)) q30a q30c (g := (mkF m 1 #[.val (.ref w2)] [(.ref w2)])) rfl (by rw [hml]; rfl) (Steps.refl _) (argsL := []) (rest := []) (lenOf pd___I rfl) rfl (by show 2 * 0 + _ ≤ _; exact Nat.le_of_eq rfl) (hb hby d_prog_15_method_5_code_1) (fun _ _ => ⟨rfl, e0, (by decide : 0 + 0 ≤ _), (by decide : 0 + 0 ≤ _)⟩)
  dsimp only [Pt.U, Pt.locs, Pt.cells, Pt.slots] at X30 l30 y30 z30 st30 hQ30
  subst l30 y30 z30
  obtain ⟨rfl, N30q, e30⟩ := hQ30
  have N30 := Fr.app N0 N30q
  obtain ⟨fs, hr, hrun, hended, hW, hsame⟩ := X30.leave (v := some (.int (0 : Int32))) (fun h => by rw [Bd.returns] at h; cases h)
  refine ⟨_, _, pre0 _ ?_, hrun, hended, _, _, rfl, ?_, ⟨_, rfl⟩, hW, hsame.mono (by decide) (by decide)⟩
  · show Steps p.tables e below (s₁.setTop (mkF m 0 #[.val (.ref w2)] [])) _
    refine XS.aloadN X0.here hx rfl (hb hby d_prog_15_method_5_code_0) rfl rfl ?_
    show Steps p.tables e below (s₁.setTop (mkF m 1 #[.val (.ref w2)] [(.ref w2)])) _
    refine st30.trans ?_
    show Steps p.tables e below (T30.setTop (mkF m 4 #[.val (.ref w2)] [(.int (14 : Int32))])) _
    refine XS.tswOut X30.here hx rfl (pc0 := 4) (pc' := 48) rfl (hb hby d_prog_15_method_5_code_4) rfl (by decide) (by decide) (by decide) ?_
    show Steps p.tables e below (T30.setTop (mkF m 48 #[.val (.ref w2)] [])) _
    refine XT.iconstV X30.here hx rfl (0 : Int32) (hb hby d_prog_15_method_5_code_48) rfl ?_
    show Steps p.tables e below (T30.setTop (mkF m 49 #[.val (.ref w2)] [(.int (0 : Int32))])) _
    exact retN X30 hx (t := .boolean) Bd.returns (by simp) (hb hby d_prog_15_method_5_code_49) hr
  · show own_Q (some (.int (0 : Int32))) h0 n0 _ T30.heap _
    rw [e30]
    exact ⟨rfl, N30, rfl⟩
set_option maxRecDepth 65536 in
set_option maxHeartbeats 40000000 in
theorem own_ordinal_3 (l : Launch) (Z : State) (a0 : Array Value) (hw : ∀ d ∈ tables_1, d.before a0 Z = true) (ws : List Jvm.Cond) (w0 w1 w2 w3 w4 w5 w6 w7 w8 w9 w10 w11 w12 w13 w14 w15 w16 w17 w18 w19 w20 w21 w22 w23 : Addr) (h0 : Heap) (n0 : Nat) (Z0 : n0 ≤ h0.size) (P : own_P Z h0 w0 w1 w2 w3 w4 w5 w6 w7 w8 w9 w10 w11 w12 w13 w14 w15 w16 w17 w18 w19 w20 w21 w22 w23) :
    MetFree l (⟨"java/lang/Enum", "ordinal", "()I"⟩ : MethodName) (head1 (Jvm.Cond.code (⟨"java/lang/Enum", "ordinal", "()I"⟩ : MethodName) jdk_37_method_2_code 1 (some .int) :: ws) ({ frames := 0, cells := 0, slots := 0, locals := 0 } : Room)) (fun a U => a = #[(.ref w3)] ∧ Z.Warmed39 U.vm ∧ U.heap = h0) (fun _ _ _ _ _ => True) (fun _ U o U' => ∃ v L, o = .returned v ∧ own_Q (some (.int (19 : Int32))) h0 n0 v U'.heap L ∧ FrameEnd U o U' L ({ frames := 0, cells := 0, slots := 0, locals := 0 } : Room).cells ({ frames := 0, cells := 0, slots := 0, locals := 0 } : Room).slots) := by
  refine MetFree.of_bodySF (plainFor_of_name pn_java_lang_Enum) hisR ?_
  intro p e s m args below meth c s₁ Bd hml0 hP hK
  obtain ⟨rfl, hZ, hh⟩ := hP
  have hx := Bd.exec
  have hby := Bd.bytes
  have hml : c.maxLocals = 1 := hml0
  have hown : s.vm.findClass "java/lang/Enum" = some m.cls := findClass_of_methodNamed Bd.named
  have hnm := (name_of_methodNamed Bd.named Bd.method).1
  have X0 : Stand p l e ({ frames := 0, cells := 0, slots := 0, locals := 0 } : Room) s m #[(.ref w3)] below meth c s₁ [] 0 0 := Stand.of_body Bd
  have e0 : s₁.heap = h0 := by rw [← hh, Bd.state]; rfl
  have N0 := Fr.nil n0
  have pre0 : ∀ t, Steps p.tables e below (s₁.setTop (mkF m 0 #[.val (.ref w3)] [])) t → Steps p.tables e below (s₁.setTop (entryFrame m #[(.ref w3)] 1)) t := fun t k => castTop (ef_jdk_37_method_2_code_A m w3) k
  have P0 := P; obtain ⟨S0, E0, F0_ordinal, S1, E1, F1_ordinal, S2, E2, F2_ordinal, S3, E3, F3_ordinal, S4, E4, F4_ordinal, S5, E5, F5_ordinal, S6, E6, F6_ordinal, S7, E7, F7_ordinal, S8, E8, F8_ordinal, S9, E9, F9_ordinal, S10, E10, F10_ordinal, S11, E11, F11_ordinal, S12, E12, F12_ordinal, S13, E13, F13_ordinal, S14, E14, F14_ordinal, S15, E15, F15_ordinal, S16, E16, F16_ordinal, S17, E17, F17_ordinal, S18, E18, F18_ordinal, S19, E19, F19_ordinal, S20, E20, F20_ordinal, S21, E21, F21_ordinal, S22, E22, F22_ordinal, S23, E23, F23_ordinal⟩ := P0
  obtain ⟨T31, X31, e31, st31⟩ := getF X0 hx hZ hown (host := "") (Or.inl (hw _ (List.mem_of_getElem? (i := 20) rfl))) Via.refl e0 F3_ordinal (g := (mkF m 1 #[.val (.ref w3)] [(.ref w3)])) rfl rfl (hb hby d_jdk_37_method_2_code_1)
  obtain ⟨fs, hr, hrun, hended, hW, hsame⟩ := X31.leave (v := some (.int (19 : Int32))) (fun h => by rw [Bd.returns] at h; cases h)
  refine ⟨_, _, pre0 _ ?_, hrun, hended, _, _, rfl, ?_, ⟨_, rfl⟩, hW, hsame.mono (by decide) (by decide)⟩
  · show Steps p.tables e below (s₁.setTop (mkF m 0 #[.val (.ref w3)] [])) _
    refine XS.aloadN X0.here hx rfl (hb hby d_jdk_37_method_2_code_0) rfl rfl ?_
    show Steps p.tables e below (s₁.setTop (mkF m 1 #[.val (.ref w3)] [(.ref w3)])) _
    refine st31 _ ?_
    show Steps p.tables e below (T31.setTop (mkF m 4 #[.val (.ref w3)] [(.int (19 : Int32))])) _
    exact retI X31 hx Bd.returns (hb hby d_jdk_37_method_2_code_4) hr
  · show own_Q (some (.int (19 : Int32))) h0 n0 _ T31.heap _
    rw [e31]
    exact ⟨rfl, N0, rfl⟩
set_option maxRecDepth 65536 in
set_option maxHeartbeats 40000000 in
theorem own_isDecimal_3 (l : Launch) (Z : State) (a0 : Array Value) (hw : ∀ d ∈ tables_1, d.before a0 Z = true) (ws : List Jvm.Cond) (w0 w1 w2 w3 w4 w5 w6 w7 w8 w9 w10 w11 w12 w13 w14 w15 w16 w17 w18 w19 w20 w21 w22 w23 : Addr) (h0 : Heap) (n0 : Nat) (Z0 : n0 ≤ h0.size) (P : own_P Z h0 w0 w1 w2 w3 w4 w5 w6 w7 w8 w9 w10 w11 w12 w13 w14 w15 w16 w17 w18 w19 w20 w21 w22 w23) :
    MetFree l (⟨"apportion/io/DataType", "isDecimal", "()Z"⟩ : MethodName) (head1 (Jvm.Cond.code (⟨"apportion/io/DataType", "isDecimal", "()Z"⟩ : MethodName) prog_15_method_5_code 1 (some .boolean) :: ws) ({ frames := 1, cells := 0, slots := 0, locals := 12 } : Room)) (fun a U => a = #[(.ref w3)] ∧ Z.Warmed39 U.vm ∧ U.heap = h0) (fun _ _ _ _ _ => True) (fun _ U o U' => ∃ v L, o = .returned v ∧ own_Q (some (.int (0 : Int32))) h0 n0 v U'.heap L ∧ FrameEnd U o U' L ({ frames := 1, cells := 0, slots := 0, locals := 12 } : Room).cells ({ frames := 1, cells := 0, slots := 0, locals := 12 } : Room).slots) := by
  refine MetFree.of_bodySF (plainFor_of_name pn_apportion_io_DataType) hisR ?_
  intro p e s m args below meth c s₁ Bd hml0 hP hK
  obtain ⟨rfl, hZ, hh⟩ := hP
  have hx := Bd.exec
  have hby := Bd.bytes
  have hml : c.maxLocals = 1 := hml0
  have hown : s.vm.findClass "apportion/io/DataType" = some m.cls := findClass_of_methodNamed Bd.named
  have hnm := (name_of_methodNamed Bd.named Bd.method).1
  have X0 : Stand p l e ({ frames := 1, cells := 0, slots := 0, locals := 12 } : Room) s m #[(.ref w3)] below meth c s₁ [] 0 0 := Stand.of_body Bd
  have e0 : s₁.heap = h0 := by rw [← hh, Bd.state]; rfl
  have N0 := Fr.nil n0
  have pre0 : ∀ t, Steps p.tables e below (s₁.setTop (mkF m 0 #[.val (.ref w3)] [])) t → Steps p.tables e below (s₁.setTop (entryFrame m #[(.ref w3)] 1)) t := fun t k => castTop (ef_prog_15_method_5_code_A m w3) k
  have P0 := P; obtain ⟨S0, E0, F0_ordinal, S1, E1, F1_ordinal, S2, E2, F2_ordinal, S3, E3, F3_ordinal, S4, E4, F4_ordinal, S5, E5, F5_ordinal, S6, E6, F6_ordinal, S7, E7, F7_ordinal, S8, E8, F8_ordinal, S9, E9, F9_ordinal, S10, E10, F10_ordinal, S11, E11, F11_ordinal, S12, E12, F12_ordinal, S13, E13, F13_ordinal, S14, E14, F14_ordinal, S15, E15, F15_ordinal, S16, E16, F16_ordinal, S17, E17, F17_ordinal, S18, E18, F18_ordinal, S19, E19, F19_ordinal, S20, E20, F20_ordinal, S21, E21, F21_ordinal, S22, E22, F22_ordinal, S23, E23, F23_ordinal⟩ := P0
  obtain ⟨cq32, kq32, q32a, q32b, q32c⟩ := isOf hZ e0 E3
  obtain ⟨_, _, ⟨T32, L32, k32, n32⟩, -, X32, ⟨Lc32, hQ32, l32, y32, z32⟩, st32⟩ := X0.virtualBackUp hx (owner := "java/lang/Enum") (x := (⟨"apportion/io/DataType", "ordinal", "()I"⟩ : MethodName)) (y := (⟨"java/lang/Enum", "ordinal", "()I"⟩ : MethodName)) hown (mvT hZ (hw _ (List.mem_of_getElem? (i := 13) rfl))) (mvT hZ (hw _ (List.mem_of_getElem? (i := 14) rfl))) (mvT hZ (hw _ (List.mem_of_getElem? (i := 15) rfl))) (by decide) (mvT hZ (hw _ (List.mem_of_getElem? (i := 17) rfl))) (mvT hZ (hw _ (List.mem_of_getElem? (i := 16) rfl))) (backOf (W := 0) (own_ordinal_3 l Z a0 hw [] w0 w1 w2 w3 w4 w5 w6 w7 w8 w9 w10 w11 w12 w13 w14 w15 w16 w17 w18 w19 w20 w21 w22 w23 h0 n0 Z0 P) hZ (hw _ (List.mem_of_getElem? (i := 19) rfl)) (hw _ (List.mem_of_getElem? (i := 18) rfl)) (by decide) (by decide)) q32a q32c (g := (mkF m 1 #[.val (.ref w3)] [(.ref w3)])) rfl (by rw [hml]; rfl) (Steps.refl _) (argsL := []) (rest := []) (lenOf pd___I rfl) rfl (by show 2 * 0 + _ ≤ _; exact Nat.le_of_eq rfl) (hb hby d_prog_15_method_5_code_1) (fun _ _ => ⟨rfl, e0, (by decide : 0 + 0 ≤ _), (by decide : 0 + 0 ≤ _)⟩)
  dsimp only [Pt.U, Pt.locs, Pt.cells, Pt.slots] at X32 l32 y32 z32 st32 hQ32
  subst l32 y32 z32
  obtain ⟨rfl, N32q, e32⟩ := hQ32
  have N32 := Fr.app N0 N32q
  obtain ⟨fs, hr, hrun, hended, hW, hsame⟩ := X32.leave (v := some (.int (0 : Int32))) (fun h => by rw [Bd.returns] at h; cases h)
  refine ⟨_, _, pre0 _ ?_, hrun, hended, _, _, rfl, ?_, ⟨_, rfl⟩, hW, hsame.mono (by decide) (by decide)⟩
  · show Steps p.tables e below (s₁.setTop (mkF m 0 #[.val (.ref w3)] [])) _
    refine XS.aloadN X0.here hx rfl (hb hby d_prog_15_method_5_code_0) rfl rfl ?_
    show Steps p.tables e below (s₁.setTop (mkF m 1 #[.val (.ref w3)] [(.ref w3)])) _
    refine st32.trans ?_
    show Steps p.tables e below (T32.setTop (mkF m 4 #[.val (.ref w3)] [(.int (19 : Int32))])) _
    refine XS.tswOut X32.here hx rfl (pc0 := 4) (pc' := 48) rfl (hb hby d_prog_15_method_5_code_4) rfl (by decide) (by decide) (by decide) ?_
    show Steps p.tables e below (T32.setTop (mkF m 48 #[.val (.ref w3)] [])) _
    refine XT.iconstV X32.here hx rfl (0 : Int32) (hb hby d_prog_15_method_5_code_48) rfl ?_
    show Steps p.tables e below (T32.setTop (mkF m 49 #[.val (.ref w3)] [(.int (0 : Int32))])) _
    exact retN X32 hx (t := .boolean) Bd.returns (by simp) (hb hby d_prog_15_method_5_code_49) hr
  · show own_Q (some (.int (0 : Int32))) h0 n0 _ T32.heap _
    rw [e32]
    exact ⟨rfl, N32, rfl⟩
set_option maxRecDepth 65536 in
set_option maxHeartbeats 40000000 in
theorem own_ordinal_4 (l : Launch) (Z : State) (a0 : Array Value) (hw : ∀ d ∈ tables_1, d.before a0 Z = true) (ws : List Jvm.Cond) (w0 w1 w2 w3 w4 w5 w6 w7 w8 w9 w10 w11 w12 w13 w14 w15 w16 w17 w18 w19 w20 w21 w22 w23 : Addr) (h0 : Heap) (n0 : Nat) (Z0 : n0 ≤ h0.size) (P : own_P Z h0 w0 w1 w2 w3 w4 w5 w6 w7 w8 w9 w10 w11 w12 w13 w14 w15 w16 w17 w18 w19 w20 w21 w22 w23) :
    MetFree l (⟨"java/lang/Enum", "ordinal", "()I"⟩ : MethodName) (head1 (Jvm.Cond.code (⟨"java/lang/Enum", "ordinal", "()I"⟩ : MethodName) jdk_37_method_2_code 1 (some .int) :: ws) ({ frames := 0, cells := 0, slots := 0, locals := 0 } : Room)) (fun a U => a = #[(.ref w4)] ∧ Z.Warmed39 U.vm ∧ U.heap = h0) (fun _ _ _ _ _ => True) (fun _ U o U' => ∃ v L, o = .returned v ∧ own_Q (some (.int (15 : Int32))) h0 n0 v U'.heap L ∧ FrameEnd U o U' L ({ frames := 0, cells := 0, slots := 0, locals := 0 } : Room).cells ({ frames := 0, cells := 0, slots := 0, locals := 0 } : Room).slots) := by
  refine MetFree.of_bodySF (plainFor_of_name pn_java_lang_Enum) hisR ?_
  intro p e s m args below meth c s₁ Bd hml0 hP hK
  obtain ⟨rfl, hZ, hh⟩ := hP
  have hx := Bd.exec
  have hby := Bd.bytes
  have hml : c.maxLocals = 1 := hml0
  have hown : s.vm.findClass "java/lang/Enum" = some m.cls := findClass_of_methodNamed Bd.named
  have hnm := (name_of_methodNamed Bd.named Bd.method).1
  have X0 : Stand p l e ({ frames := 0, cells := 0, slots := 0, locals := 0 } : Room) s m #[(.ref w4)] below meth c s₁ [] 0 0 := Stand.of_body Bd
  have e0 : s₁.heap = h0 := by rw [← hh, Bd.state]; rfl
  have N0 := Fr.nil n0
  have pre0 : ∀ t, Steps p.tables e below (s₁.setTop (mkF m 0 #[.val (.ref w4)] [])) t → Steps p.tables e below (s₁.setTop (entryFrame m #[(.ref w4)] 1)) t := fun t k => castTop (ef_jdk_37_method_2_code_A m w4) k
  have P0 := P; obtain ⟨S0, E0, F0_ordinal, S1, E1, F1_ordinal, S2, E2, F2_ordinal, S3, E3, F3_ordinal, S4, E4, F4_ordinal, S5, E5, F5_ordinal, S6, E6, F6_ordinal, S7, E7, F7_ordinal, S8, E8, F8_ordinal, S9, E9, F9_ordinal, S10, E10, F10_ordinal, S11, E11, F11_ordinal, S12, E12, F12_ordinal, S13, E13, F13_ordinal, S14, E14, F14_ordinal, S15, E15, F15_ordinal, S16, E16, F16_ordinal, S17, E17, F17_ordinal, S18, E18, F18_ordinal, S19, E19, F19_ordinal, S20, E20, F20_ordinal, S21, E21, F21_ordinal, S22, E22, F22_ordinal, S23, E23, F23_ordinal⟩ := P0
  obtain ⟨T33, X33, e33, st33⟩ := getF X0 hx hZ hown (host := "") (Or.inl (hw _ (List.mem_of_getElem? (i := 20) rfl))) Via.refl e0 F4_ordinal (g := (mkF m 1 #[.val (.ref w4)] [(.ref w4)])) rfl rfl (hb hby d_jdk_37_method_2_code_1)
  obtain ⟨fs, hr, hrun, hended, hW, hsame⟩ := X33.leave (v := some (.int (15 : Int32))) (fun h => by rw [Bd.returns] at h; cases h)
  refine ⟨_, _, pre0 _ ?_, hrun, hended, _, _, rfl, ?_, ⟨_, rfl⟩, hW, hsame.mono (by decide) (by decide)⟩
  · show Steps p.tables e below (s₁.setTop (mkF m 0 #[.val (.ref w4)] [])) _
    refine XS.aloadN X0.here hx rfl (hb hby d_jdk_37_method_2_code_0) rfl rfl ?_
    show Steps p.tables e below (s₁.setTop (mkF m 1 #[.val (.ref w4)] [(.ref w4)])) _
    refine st33 _ ?_
    show Steps p.tables e below (T33.setTop (mkF m 4 #[.val (.ref w4)] [(.int (15 : Int32))])) _
    exact retI X33 hx Bd.returns (hb hby d_jdk_37_method_2_code_4) hr
  · show own_Q (some (.int (15 : Int32))) h0 n0 _ T33.heap _
    rw [e33]
    exact ⟨rfl, N0, rfl⟩
set_option maxRecDepth 65536 in
set_option maxHeartbeats 40000000 in
theorem own_isDecimal_4 (l : Launch) (Z : State) (a0 : Array Value) (hw : ∀ d ∈ tables_1, d.before a0 Z = true) (ws : List Jvm.Cond) (w0 w1 w2 w3 w4 w5 w6 w7 w8 w9 w10 w11 w12 w13 w14 w15 w16 w17 w18 w19 w20 w21 w22 w23 : Addr) (h0 : Heap) (n0 : Nat) (Z0 : n0 ≤ h0.size) (P : own_P Z h0 w0 w1 w2 w3 w4 w5 w6 w7 w8 w9 w10 w11 w12 w13 w14 w15 w16 w17 w18 w19 w20 w21 w22 w23) :
    MetFree l (⟨"apportion/io/DataType", "isDecimal", "()Z"⟩ : MethodName) (head1 (Jvm.Cond.code (⟨"apportion/io/DataType", "isDecimal", "()Z"⟩ : MethodName) prog_15_method_5_code 1 (some .boolean) :: ws) ({ frames := 1, cells := 0, slots := 0, locals := 12 } : Room)) (fun a U => a = #[(.ref w4)] ∧ Z.Warmed39 U.vm ∧ U.heap = h0) (fun _ _ _ _ _ => True) (fun _ U o U' => ∃ v L, o = .returned v ∧ own_Q (some (.int (0 : Int32))) h0 n0 v U'.heap L ∧ FrameEnd U o U' L ({ frames := 1, cells := 0, slots := 0, locals := 12 } : Room).cells ({ frames := 1, cells := 0, slots := 0, locals := 12 } : Room).slots) := by
  refine MetFree.of_bodySF (plainFor_of_name pn_apportion_io_DataType) hisR ?_
  intro p e s m args below meth c s₁ Bd hml0 hP hK
  obtain ⟨rfl, hZ, hh⟩ := hP
  have hx := Bd.exec
  have hby := Bd.bytes
  have hml : c.maxLocals = 1 := hml0
  have hown : s.vm.findClass "apportion/io/DataType" = some m.cls := findClass_of_methodNamed Bd.named
  have hnm := (name_of_methodNamed Bd.named Bd.method).1
  have X0 : Stand p l e ({ frames := 1, cells := 0, slots := 0, locals := 12 } : Room) s m #[(.ref w4)] below meth c s₁ [] 0 0 := Stand.of_body Bd
  have e0 : s₁.heap = h0 := by rw [← hh, Bd.state]; rfl
  have N0 := Fr.nil n0
  have pre0 : ∀ t, Steps p.tables e below (s₁.setTop (mkF m 0 #[.val (.ref w4)] [])) t → Steps p.tables e below (s₁.setTop (entryFrame m #[(.ref w4)] 1)) t := fun t k => castTop (ef_prog_15_method_5_code_A m w4) k
  have P0 := P; obtain ⟨S0, E0, F0_ordinal, S1, E1, F1_ordinal, S2, E2, F2_ordinal, S3, E3, F3_ordinal, S4, E4, F4_ordinal, S5, E5, F5_ordinal, S6, E6, F6_ordinal, S7, E7, F7_ordinal, S8, E8, F8_ordinal, S9, E9, F9_ordinal, S10, E10, F10_ordinal, S11, E11, F11_ordinal, S12, E12, F12_ordinal, S13, E13, F13_ordinal, S14, E14, F14_ordinal, S15, E15, F15_ordinal, S16, E16, F16_ordinal, S17, E17, F17_ordinal, S18, E18, F18_ordinal, S19, E19, F19_ordinal, S20, E20, F20_ordinal, S21, E21, F21_ordinal, S22, E22, F22_ordinal, S23, E23, F23_ordinal⟩ := P0
  obtain ⟨cq34, kq34, q34a, q34b, q34c⟩ := isOf hZ e0 E4
  obtain ⟨_, _, ⟨T34, L34, k34, n34⟩, -, X34, ⟨Lc34, hQ34, l34, y34, z34⟩, st34⟩ := X0.virtualBackUp hx (owner := "java/lang/Enum") (x := (⟨"apportion/io/DataType", "ordinal", "()I"⟩ : MethodName)) (y := (⟨"java/lang/Enum", "ordinal", "()I"⟩ : MethodName)) hown (mvT hZ (hw _ (List.mem_of_getElem? (i := 13) rfl))) (mvT hZ (hw _ (List.mem_of_getElem? (i := 14) rfl))) (mvT hZ (hw _ (List.mem_of_getElem? (i := 15) rfl))) (by decide) (mvT hZ (hw _ (List.mem_of_getElem? (i := 17) rfl))) (mvT hZ (hw _ (List.mem_of_getElem? (i := 16) rfl))) (backOf (W := 0) (own_ordinal_4 l Z a0 hw [] w0 w1 w2 w3 w4 w5 w6 w7 w8 w9 w10 w11 w12 w13 w14 w15 w16 w17 w18 w19 w20 w21 w22 w23 h0 n0 Z0 P) hZ (hw _ (List.mem_of_getElem? (i := 19) rfl)) (hw _ (List.mem_of_getElem? (i := 18) rfl)) (by decide) (by decide)) q34a q34c (g := (mkF m 1 #[.val (.ref w4)] [(.ref w4)])) rfl (by rw [hml]; rfl) (Steps.refl _) (argsL := []) (rest := []) (lenOf pd___I rfl) rfl (by show 2 * 0 + _ ≤ _; exact Nat.le_of_eq rfl) (hb hby d_prog_15_method_5_code_1) (fun _ _ => ⟨rfl, e0, (by decide : 0 + 0 ≤ _), (by decide : 0 + 0 ≤ _)⟩)
  dsimp only [Pt.U, Pt.locs, Pt.cells, Pt.slots] at X34 l34 y34 z34 st34 hQ34
  subst l34 y34 z34
  obtain ⟨rfl, N34q, e34⟩ := hQ34
  have N34 := Fr.app N0 N34q
  obtain ⟨fs, hr, hrun, hended, hW, hsame⟩ := X34.leave (v := some (.int (0 : Int32))) (fun h => by rw [Bd.returns] at h; cases h)
  refine ⟨_, _, pre0 _ ?_, hrun, hended, _, _, rfl, ?_, ⟨_, rfl⟩, hW, hsame.mono (by decide) (by decide)⟩
  · show Steps p.tables e below (s₁.setTop (mkF m 0 #[.val (.ref w4)] [])) _
    refine XS.aloadN X0.here hx rfl (hb hby d_prog_15_method_5_code_0) rfl rfl ?_
    show Steps p.tables e below (s₁.setTop (mkF m 1 #[.val (.ref w4)] [(.ref w4)])) _
    refine st34.trans ?_
    show Steps p.tables e below (T34.setTop (mkF m 4 #[.val (.ref w4)] [(.int (15 : Int32))])) _
    refine XS.tswOut X34.here hx rfl (pc0 := 4) (pc' := 48) rfl (hb hby d_prog_15_method_5_code_4) rfl (by decide) (by decide) (by decide) ?_
    show Steps p.tables e below (T34.setTop (mkF m 48 #[.val (.ref w4)] [])) _
    refine XT.iconstV X34.here hx rfl (0 : Int32) (hb hby d_prog_15_method_5_code_48) rfl ?_
    show Steps p.tables e below (T34.setTop (mkF m 49 #[.val (.ref w4)] [(.int (0 : Int32))])) _
    exact retN X34 hx (t := .boolean) Bd.returns (by simp) (hb hby d_prog_15_method_5_code_49) hr
  · show own_Q (some (.int (0 : Int32))) h0 n0 _ T34.heap _
    rw [e34]
    exact ⟨rfl, N34, rfl⟩
set_option maxRecDepth 65536 in
set_option maxHeartbeats 40000000 in
theorem own_ordinal_5 (l : Launch) (Z : State) (a0 : Array Value) (hw : ∀ d ∈ tables_1, d.before a0 Z = true) (ws : List Jvm.Cond) (w0 w1 w2 w3 w4 w5 w6 w7 w8 w9 w10 w11 w12 w13 w14 w15 w16 w17 w18 w19 w20 w21 w22 w23 : Addr) (h0 : Heap) (n0 : Nat) (Z0 : n0 ≤ h0.size) (P : own_P Z h0 w0 w1 w2 w3 w4 w5 w6 w7 w8 w9 w10 w11 w12 w13 w14 w15 w16 w17 w18 w19 w20 w21 w22 w23) :
    MetFree l (⟨"java/lang/Enum", "ordinal", "()I"⟩ : MethodName) (head1 (Jvm.Cond.code (⟨"java/lang/Enum", "ordinal", "()I"⟩ : MethodName) jdk_37_method_2_code 1 (some .int) :: ws) ({ frames := 0, cells := 0, slots := 0, locals := 0 } : Room)) (fun a U => a = #[(.ref w5)] ∧ Z.Warmed39 U.vm ∧ U.heap = h0) (fun _ _ _ _ _ => True) (fun _ U o U' => ∃ v L, o = .returned v ∧ own_Q (some (.int (2 : Int32))) h0 n0 v U'.heap L ∧ FrameEnd U o U' L ({ frames := 0, cells := 0, slots := 0, locals := 0 } : Room).cells ({ frames := 0, cells := 0, slots := 0, locals := 0 } : Room).slots) := by
  refine MetFree.of_bodySF (plainFor_of_name pn_java_lang_Enum) hisR ?_
  intro p e s m args below meth c s₁ Bd hml0 hP hK
  obtain ⟨rfl, hZ, hh⟩ := hP
  have hx := Bd.exec
  have hby := Bd.bytes
  have hml : c.maxLocals = 1 := hml0
  have hown : s.vm.findClass "java/lang/Enum" = some m.cls := findClass_of_methodNamed Bd.named
  have hnm := (name_of_methodNamed Bd.named Bd.method).1
  have X0 : Stand p l e ({ frames := 0, cells := 0, slots := 0, locals := 0 } : Room) s m #[(.ref w5)] below meth c s₁ [] 0 0 := Stand.of_body Bd
  have e0 : s₁.heap = h0 := by rw [← hh, Bd.state]; rfl
  have N0 := Fr.nil n0
  have pre0 : ∀ t, Steps p.tables e below (s₁.setTop (mkF m 0 #[.val (.ref w5)] [])) t → Steps p.tables e below (s₁.setTop (entryFrame m #[(.ref w5)] 1)) t := fun t k => castTop (ef_jdk_37_method_2_code_A m w5) k
  have P0 := P; obtain ⟨S0, E0, F0_ordinal, S1, E1, F1_ordinal, S2, E2, F2_ordinal, S3, E3, F3_ordinal, S4, E4, F4_ordinal, S5, E5, F5_ordinal, S6, E6, F6_ordinal, S7, E7, F7_ordinal, S8, E8, F8_ordinal, S9, E9, F9_ordinal, S10, E10, F10_ordinal, S11, E11, F11_ordinal, S12, E12, F12_ordinal, S13, E13, F13_ordinal, S14, E14, F14_ordinal, S15, E15, F15_ordinal, S16, E16, F16_ordinal, S17, E17, F17_ordinal, S18, E18, F18_ordinal, S19, E19, F19_ordinal, S20, E20, F20_ordinal, S21, E21, F21_ordinal, S22, E22, F22_ordinal, S23, E23, F23_ordinal⟩ := P0
  obtain ⟨T35, X35, e35, st35⟩ := getF X0 hx hZ hown (host := "") (Or.inl (hw _ (List.mem_of_getElem? (i := 20) rfl))) Via.refl e0 F5_ordinal (g := (mkF m 1 #[.val (.ref w5)] [(.ref w5)])) rfl rfl (hb hby d_jdk_37_method_2_code_1)
  obtain ⟨fs, hr, hrun, hended, hW, hsame⟩ := X35.leave (v := some (.int (2 : Int32))) (fun h => by rw [Bd.returns] at h; cases h)
  refine ⟨_, _, pre0 _ ?_, hrun, hended, _, _, rfl, ?_, ⟨_, rfl⟩, hW, hsame.mono (by decide) (by decide)⟩
  · show Steps p.tables e below (s₁.setTop (mkF m 0 #[.val (.ref w5)] [])) _
    refine XS.aloadN X0.here hx rfl (hb hby d_jdk_37_method_2_code_0) rfl rfl ?_
    show Steps p.tables e below (s₁.setTop (mkF m 1 #[.val (.ref w5)] [(.ref w5)])) _
    refine st35 _ ?_
    show Steps p.tables e below (T35.setTop (mkF m 4 #[.val (.ref w5)] [(.int (2 : Int32))])) _
    exact retI X35 hx Bd.returns (hb hby d_jdk_37_method_2_code_4) hr
  · show own_Q (some (.int (2 : Int32))) h0 n0 _ T35.heap _
    rw [e35]
    exact ⟨rfl, N0, rfl⟩
set_option maxRecDepth 65536 in
set_option maxHeartbeats 40000000 in
theorem own_isDecimal_5 (l : Launch) (Z : State) (a0 : Array Value) (hw : ∀ d ∈ tables_1, d.before a0 Z = true) (ws : List Jvm.Cond) (w0 w1 w2 w3 w4 w5 w6 w7 w8 w9 w10 w11 w12 w13 w14 w15 w16 w17 w18 w19 w20 w21 w22 w23 : Addr) (h0 : Heap) (n0 : Nat) (Z0 : n0 ≤ h0.size) (P : own_P Z h0 w0 w1 w2 w3 w4 w5 w6 w7 w8 w9 w10 w11 w12 w13 w14 w15 w16 w17 w18 w19 w20 w21 w22 w23) :
    MetFree l (⟨"apportion/io/DataType", "isDecimal", "()Z"⟩ : MethodName) (head1 (Jvm.Cond.code (⟨"apportion/io/DataType", "isDecimal", "()Z"⟩ : MethodName) prog_15_method_5_code 1 (some .boolean) :: ws) ({ frames := 1, cells := 0, slots := 0, locals := 12 } : Room)) (fun a U => a = #[(.ref w5)] ∧ Z.Warmed39 U.vm ∧ U.heap = h0) (fun _ _ _ _ _ => True) (fun _ U o U' => ∃ v L, o = .returned v ∧ own_Q (some (.int (0 : Int32))) h0 n0 v U'.heap L ∧ FrameEnd U o U' L ({ frames := 1, cells := 0, slots := 0, locals := 12 } : Room).cells ({ frames := 1, cells := 0, slots := 0, locals := 12 } : Room).slots) := by
  refine MetFree.of_bodySF (plainFor_of_name pn_apportion_io_DataType) hisR ?_
  intro p e s m args below meth c s₁ Bd hml0 hP hK
  obtain ⟨rfl, hZ, hh⟩ := hP
  have hx := Bd.exec
  have hby := Bd.bytes
  have hml : c.maxLocals = 1 := hml0
  have hown : s.vm.findClass "apportion/io/DataType" = some m.cls := findClass_of_methodNamed Bd.named
  have hnm := (name_of_methodNamed Bd.named Bd.method).1
  have X0 : Stand p l e ({ frames := 1, cells := 0, slots := 0, locals := 12 } : Room) s m #[(.ref w5)] below meth c s₁ [] 0 0 := Stand.of_body Bd
  have e0 : s₁.heap = h0 := by rw [← hh, Bd.state]; rfl
  have N0 := Fr.nil n0
  have pre0 : ∀ t, Steps p.tables e below (s₁.setTop (mkF m 0 #[.val (.ref w5)] [])) t → Steps p.tables e below (s₁.setTop (entryFrame m #[(.ref w5)] 1)) t := fun t k => castTop (ef_prog_15_method_5_code_A m w5) k
  have P0 := P; obtain ⟨S0, E0, F0_ordinal, S1, E1, F1_ordinal, S2, E2, F2_ordinal, S3, E3, F3_ordinal, S4, E4, F4_ordinal, S5, E5, F5_ordinal, S6, E6, F6_ordinal, S7, E7, F7_ordinal, S8, E8, F8_ordinal, S9, E9, F9_ordinal, S10, E10, F10_ordinal, S11, E11, F11_ordinal, S12, E12, F12_ordinal, S13, E13, F13_ordinal, S14, E14, F14_ordinal, S15, E15, F15_ordinal, S16, E16, F16_ordinal, S17, E17, F17_ordinal, S18, E18, F18_ordinal, S19, E19, F19_ordinal, S20, E20, F20_ordinal, S21, E21, F21_ordinal, S22, E22, F22_ordinal, S23, E23, F23_ordinal⟩ := P0
  obtain ⟨cq36, kq36, q36a, q36b, q36c⟩ := isOf hZ e0 E5
  obtain ⟨_, _, ⟨T36, L36, k36, n36⟩, -, X36, ⟨Lc36, hQ36, l36, y36, z36⟩, st36⟩ := X0.virtualBackUp hx (owner := "java/lang/Enum") (x := (⟨"apportion/io/DataType", "ordinal", "()I"⟩ : MethodName)) (y := (⟨"java/lang/Enum", "ordinal", "()I"⟩ : MethodName)) hown (mvT hZ (hw _ (List.mem_of_getElem? (i := 13) rfl))) (mvT hZ (hw _ (List.mem_of_getElem? (i := 14) rfl))) (mvT hZ (hw _ (List.mem_of_getElem? (i := 15) rfl))) (by decide) (mvT hZ (hw _ (List.mem_of_getElem? (i := 17) rfl))) (mvT hZ (hw _ (List.mem_of_getElem? (i := 16) rfl))) (backOf (W := 0) (own_ordinal_5 l Z a0 hw [] w0 w1 w2 w3 w4 w5 w6 w7 w8 w9 w10 w11 w12 w13 w14 w15 w16 w17 w18 w19 w20 w21 w22 w23 h0 n0 Z0 P) hZ (hw _ (List.mem_of_getElem? (i := 19) rfl)) (hw _ (List.mem_of_getElem? (i := 18) rfl)) (by decide) (by decide)) q36a q36c (g := (mkF m 1 #[.val (.ref w5)] [(.ref w5)])) rfl (by rw [hml]; rfl) (Steps.refl _) (argsL := []) (rest := []) (lenOf pd___I rfl) rfl (by show 2 * 0 + _ ≤ _; exact Nat.le_of_eq rfl) (hb hby d_prog_15_method_5_code_1) (fun _ _ => ⟨rfl, e0, (by decide : 0 + 0 ≤ _), (by decide : 0 + 0 ≤ _)⟩)
  dsimp only [Pt.U, Pt.locs, Pt.cells, Pt.slots] at X36 l36 y36 z36 st36 hQ36
  subst l36 y36 z36
  obtain ⟨rfl, N36q, e36⟩ := hQ36
  have N36 := Fr.app N0 N36q
  obtain ⟨fs, hr, hrun, hended, hW, hsame⟩ := X36.leave (v := some (.int (0 : Int32))) (fun h => by rw [Bd.returns] at h; cases h)
  refine ⟨_, _, pre0 _ ?_, hrun, hended, _, _, rfl, ?_, ⟨_, rfl⟩, hW, hsame.mono (by decide) (by decide)⟩
  · show Steps p.tables e below (s₁.setTop (mkF m 0 #[.val (.ref w5)] [])) _
    refine XS.aloadN X0.here hx rfl (hb hby d_prog_15_method_5_code_0) rfl rfl ?_
    show Steps p.tables e below (s₁.setTop (mkF m 1 #[.val (.ref w5)] [(.ref w5)])) _
    refine st36.trans ?_
    show Steps p.tables e below (T36.setTop (mkF m 4 #[.val (.ref w5)] [(.int (2 : Int32))])) _
    refine XS.tswOut X36.here hx rfl (pc0 := 4) (pc' := 48) rfl (hb hby d_prog_15_method_5_code_4) rfl (by decide) (by decide) (by decide) ?_
    show Steps p.tables e below (T36.setTop (mkF m 48 #[.val (.ref w5)] [])) _
    refine XT.iconstV X36.here hx rfl (0 : Int32) (hb hby d_prog_15_method_5_code_48) rfl ?_
    show Steps p.tables e below (T36.setTop (mkF m 49 #[.val (.ref w5)] [(.int (0 : Int32))])) _
    exact retN X36 hx (t := .boolean) Bd.returns (by simp) (hb hby d_prog_15_method_5_code_49) hr
  · show own_Q (some (.int (0 : Int32))) h0 n0 _ T36.heap _
    rw [e36]
    exact ⟨rfl, N36, rfl⟩
set_option maxRecDepth 65536 in
set_option maxHeartbeats 40000000 in
theorem own_ordinal_6 (l : Launch) (Z : State) (a0 : Array Value) (hw : ∀ d ∈ tables_1, d.before a0 Z = true) (ws : List Jvm.Cond) (w0 w1 w2 w3 w4 w5 w6 w7 w8 w9 w10 w11 w12 w13 w14 w15 w16 w17 w18 w19 w20 w21 w22 w23 : Addr) (h0 : Heap) (n0 : Nat) (Z0 : n0 ≤ h0.size) (P : own_P Z h0 w0 w1 w2 w3 w4 w5 w6 w7 w8 w9 w10 w11 w12 w13 w14 w15 w16 w17 w18 w19 w20 w21 w22 w23) :
    MetFree l (⟨"java/lang/Enum", "ordinal", "()I"⟩ : MethodName) (head1 (Jvm.Cond.code (⟨"java/lang/Enum", "ordinal", "()I"⟩ : MethodName) jdk_37_method_2_code 1 (some .int) :: ws) ({ frames := 0, cells := 0, slots := 0, locals := 0 } : Room)) (fun a U => a = #[(.ref w6)] ∧ Z.Warmed39 U.vm ∧ U.heap = h0) (fun _ _ _ _ _ => True) (fun _ U o U' => ∃ v L, o = .returned v ∧ own_Q (some (.int (7 : Int32))) h0 n0 v U'.heap L ∧ FrameEnd U o U' L ({ frames := 0, cells := 0, slots := 0, locals := 0 } : Room).cells ({ frames := 0, cells := 0, slots := 0, locals := 0 } : Room).slots) := by
  refine MetFree.of_bodySF (plainFor_of_name pn_java_lang_Enum) hisR ?_
  intro p e s m args below meth c s₁ Bd hml0 hP hK
  obtain ⟨rfl, hZ, hh⟩ := hP
  have hx := Bd.exec
  have hby := Bd.bytes
  have hml : c.maxLocals = 1 := hml0
  have hown : s.vm.findClass "java/lang/Enum" = some m.cls := findClass_of_methodNamed Bd.named
  have hnm := (name_of_methodNamed Bd.named Bd.method).1
  have X0 : Stand p l e ({ frames := 0, cells := 0, slots := 0, locals := 0 } : Room) s m #[(.ref w6)] below meth c s₁ [] 0 0 := Stand.of_body Bd
  have e0 : s₁.heap = h0 := by rw [← hh, Bd.state]; rfl
  have N0 := Fr.nil n0
  have pre0 : ∀ t, Steps p.tables e below (s₁.setTop (mkF m 0 #[.val (.ref w6)] [])) t → Steps p.tables e below (s₁.setTop (entryFrame m #[(.ref w6)] 1)) t := fun t k => castTop (ef_jdk_37_method_2_code_A m w6) k
  have P0 := P; obtain ⟨S0, E0, F0_ordinal, S1, E1, F1_ordinal, S2, E2, F2_ordinal, S3, E3, F3_ordinal, S4, E4, F4_ordinal, S5, E5, F5_ordinal, S6, E6, F6_ordinal, S7, E7, F7_ordinal, S8, E8, F8_ordinal, S9, E9, F9_ordinal, S10, E10, F10_ordinal, S11, E11, F11_ordinal, S12, E12, F12_ordinal, S13, E13, F13_ordinal, S14, E14, F14_ordinal, S15, E15, F15_ordinal, S16, E16, F16_ordinal, S17, E17, F17_ordinal, S18, E18, F18_ordinal, S19, E19, F19_ordinal, S20, E20, F20_ordinal, S21, E21, F21_ordinal, S22, E22, F22_ordinal, S23, E23, F23_ordinal⟩ := P0
  obtain ⟨T37, X37, e37, st37⟩ := getF X0 hx hZ hown (host := "") (Or.inl (hw _ (List.mem_of_getElem? (i := 20) rfl))) Via.refl e0 F6_ordinal (g := (mkF m 1 #[.val (.ref w6)] [(.ref w6)])) rfl rfl (hb hby d_jdk_37_method_2_code_1)
  obtain ⟨fs, hr, hrun, hended, hW, hsame⟩ := X37.leave (v := some (.int (7 : Int32))) (fun h => by rw [Bd.returns] at h; cases h)
  refine ⟨_, _, pre0 _ ?_, hrun, hended, _, _, rfl, ?_, ⟨_, rfl⟩, hW, hsame.mono (by decide) (by decide)⟩
  · show Steps p.tables e below (s₁.setTop (mkF m 0 #[.val (.ref w6)] [])) _
    refine XS.aloadN X0.here hx rfl (hb hby d_jdk_37_method_2_code_0) rfl rfl ?_
    show Steps p.tables e below (s₁.setTop (mkF m 1 #[.val (.ref w6)] [(.ref w6)])) _
    refine st37 _ ?_
    show Steps p.tables e below (T37.setTop (mkF m 4 #[.val (.ref w6)] [(.int (7 : Int32))])) _
    exact retI X37 hx Bd.returns (hb hby d_jdk_37_method_2_code_4) hr
  · show own_Q (some (.int (7 : Int32))) h0 n0 _ T37.heap _
    rw [e37]
    exact ⟨rfl, N0, rfl⟩
set_option maxRecDepth 65536 in
set_option maxHeartbeats 40000000 in
theorem own_isDecimal_6 (l : Launch) (Z : State) (a0 : Array Value) (hw : ∀ d ∈ tables_1, d.before a0 Z = true) (ws : List Jvm.Cond) (w0 w1 w2 w3 w4 w5 w6 w7 w8 w9 w10 w11 w12 w13 w14 w15 w16 w17 w18 w19 w20 w21 w22 w23 : Addr) (h0 : Heap) (n0 : Nat) (Z0 : n0 ≤ h0.size) (P : own_P Z h0 w0 w1 w2 w3 w4 w5 w6 w7 w8 w9 w10 w11 w12 w13 w14 w15 w16 w17 w18 w19 w20 w21 w22 w23) :
    MetFree l (⟨"apportion/io/DataType", "isDecimal", "()Z"⟩ : MethodName) (head1 (Jvm.Cond.code (⟨"apportion/io/DataType", "isDecimal", "()Z"⟩ : MethodName) prog_15_method_5_code 1 (some .boolean) :: ws) ({ frames := 1, cells := 0, slots := 0, locals := 12 } : Room)) (fun a U => a = #[(.ref w6)] ∧ Z.Warmed39 U.vm ∧ U.heap = h0) (fun _ _ _ _ _ => True) (fun _ U o U' => ∃ v L, o = .returned v ∧ own_Q (some (.int (0 : Int32))) h0 n0 v U'.heap L ∧ FrameEnd U o U' L ({ frames := 1, cells := 0, slots := 0, locals := 12 } : Room).cells ({ frames := 1, cells := 0, slots := 0, locals := 12 } : Room).slots) := by
  refine MetFree.of_bodySF (plainFor_of_name pn_apportion_io_DataType) hisR ?_
  intro p e s m args below meth c s₁ Bd hml0 hP hK
  obtain ⟨rfl, hZ, hh⟩ := hP
  have hx := Bd.exec
  have hby := Bd.bytes
  have hml : c.maxLocals = 1 := hml0
  have hown : s.vm.findClass "apportion/io/DataType" = some m.cls := findClass_of_methodNamed Bd.named
  have hnm := (name_of_methodNamed Bd.named Bd.method).1
  have X0 : Stand p l e ({ frames := 1, cells := 0, slots := 0, locals := 12 } : Room) s m #[(.ref w6)] below meth c s₁ [] 0 0 := Stand.of_body Bd
  have e0 : s₁.heap = h0 := by rw [← hh, Bd.state]; rfl
  have N0 := Fr.nil n0
  have pre0 : ∀ t, Steps p.tables e below (s₁.setTop (mkF m 0 #[.val (.ref w6)] [])) t → Steps p.tables e below (s₁.setTop (entryFrame m #[(.ref w6)] 1)) t := fun t k => castTop (ef_prog_15_method_5_code_A m w6) k
  have P0 := P; obtain ⟨S0, E0, F0_ordinal, S1, E1, F1_ordinal, S2, E2, F2_ordinal, S3, E3, F3_ordinal, S4, E4, F4_ordinal, S5, E5, F5_ordinal, S6, E6, F6_ordinal, S7, E7, F7_ordinal, S8, E8, F8_ordinal, S9, E9, F9_ordinal, S10, E10, F10_ordinal, S11, E11, F11_ordinal, S12, E12, F12_ordinal, S13, E13, F13_ordinal, S14, E14, F14_ordinal, S15, E15, F15_ordinal, S16, E16, F16_ordinal, S17, E17, F17_ordinal, S18, E18, F18_ordinal, S19, E19, F19_ordinal, S20, E20, F20_ordinal, S21, E21, F21_ordinal, S22, E22, F22_ordinal, S23, E23, F23_ordinal⟩ := P0
  obtain ⟨cq38, kq38, q38a, q38b, q38c⟩ := isOf hZ e0 E6
  obtain ⟨_, _, ⟨T38, L38, k38, n38⟩, -, X38, ⟨Lc38, hQ38, l38, y38, z38⟩, st38⟩ := X0.virtualBackUp hx (owner := "java/lang/Enum") (x := (⟨"apportion/io/DataType", "ordinal", "()I"⟩ : MethodName)) (y := (⟨"java/lang/Enum", "ordinal", "()I"⟩ : MethodName)) hown (mvT hZ (hw _ (List.mem_of_getElem? (i := 13) rfl))) (mvT hZ (hw _ (List.mem_of_getElem? (i := 14) rfl))) (mvT hZ (hw _ (List.mem_of_getElem? (i := 15) rfl))) (by decide) (mvT hZ (hw _ (List.mem_of_getElem? (i := 17) rfl))) (mvT hZ (hw _ (List.mem_of_getElem? (i := 16) rfl))) (backOf (W := 0) (own_ordinal_6 l Z a0 hw [] w0 w1 w2 w3 w4 w5 w6 w7 w8 w9 w10 w11 w12 w13 w14 w15 w16 w17 w18 w19 w20 w21 w22 w23 h0 n0 Z0 P) hZ (hw _ (List.mem_of_getElem? (i := 19) rfl)) (hw _ (List.mem_of_getElem? (i := 18) rfl)) (by decide) (by decide)) q38a q38c (g := (mkF m 1 #[.val (.ref w6)] [(.ref w6)])) rfl (by rw [hml]; rfl) (Steps.refl _) (argsL := []) (rest := []) (lenOf pd___I rfl) rfl (by show 2 * 0 + _ ≤ _; exact Nat.le_of_eq rfl) (hb hby d_prog_15_method_5_code_1) (fun _ _ => ⟨rfl, e0, (by decide : 0 + 0 ≤ _), (by decide : 0 + 0 ≤ _)⟩)
  dsimp only [Pt.U, Pt.locs, Pt.cells, Pt.slots] at X38 l38 y38 z38 st38 hQ38
  subst l38 y38 z38
  obtain ⟨rfl, N38q, e38⟩ := hQ38
  have N38 := Fr.app N0 N38q
  obtain ⟨fs, hr, hrun, hended, hW, hsame⟩ := X38.leave (v := some (.int (0 : Int32))) (fun h => by rw [Bd.returns] at h; cases h)
  refine ⟨_, _, pre0 _ ?_, hrun, hended, _, _, rfl, ?_, ⟨_, rfl⟩, hW, hsame.mono (by decide) (by decide)⟩
  · show Steps p.tables e below (s₁.setTop (mkF m 0 #[.val (.ref w6)] [])) _
    refine XS.aloadN X0.here hx rfl (hb hby d_prog_15_method_5_code_0) rfl rfl ?_
    show Steps p.tables e below (s₁.setTop (mkF m 1 #[.val (.ref w6)] [(.ref w6)])) _
    refine st38.trans ?_
    show Steps p.tables e below (T38.setTop (mkF m 4 #[.val (.ref w6)] [(.int (7 : Int32))])) _
    refine XS.tswOut X38.here hx rfl (pc0 := 4) (pc' := 48) rfl (hb hby d_prog_15_method_5_code_4) rfl (by decide) (by decide) (by decide) ?_
    show Steps p.tables e below (T38.setTop (mkF m 48 #[.val (.ref w6)] [])) _
    refine XT.iconstV X38.here hx rfl (0 : Int32) (hb hby d_prog_15_method_5_code_48) rfl ?_
    show Steps p.tables e below (T38.setTop (mkF m 49 #[.val (.ref w6)] [(.int (0 : Int32))])) _
    exact retN X38 hx (t := .boolean) Bd.returns (by simp) (hb hby d_prog_15_method_5_code_49) hr
  · show own_Q (some (.int (0 : Int32))) h0 n0 _ T38.heap _
    rw [e38]
    exact ⟨rfl, N38, rfl⟩
set_option maxRecDepth 65536 in
set_option maxHeartbeats 40000000 in
theorem own_ordinal_7 (l : Launch) (Z : State) (a0 : Array Value) (hw : ∀ d ∈ tables_1, d.before a0 Z = true) (ws : List Jvm.Cond) (w0 w1 w2 w3 w4 w5 w6 w7 w8 w9 w10 w11 w12 w13 w14 w15 w16 w17 w18 w19 w20 w21 w22 w23 : Addr) (h0 : Heap) (n0 : Nat) (Z0 : n0 ≤ h0.size) (P : own_P Z h0 w0 w1 w2 w3 w4 w5 w6 w7 w8 w9 w10 w11 w12 w13 w14 w15 w16 w17 w18 w19 w20 w21 w22 w23) :
    MetFree l (⟨"java/lang/Enum", "ordinal", "()I"⟩ : MethodName) (head1 (Jvm.Cond.code (⟨"java/lang/Enum", "ordinal", "()I"⟩ : MethodName) jdk_37_method_2_code 1 (some .int) :: ws) ({ frames := 0, cells := 0, slots := 0, locals := 0 } : Room)) (fun a U => a = #[(.ref w7)] ∧ Z.Warmed39 U.vm ∧ U.heap = h0) (fun _ _ _ _ _ => True) (fun _ U o U' => ∃ v L, o = .returned v ∧ own_Q (some (.int (11 : Int32))) h0 n0 v U'.heap L ∧ FrameEnd U o U' L ({ frames := 0, cells := 0, slots := 0, locals := 0 } : Room).cells ({ frames := 0, cells := 0, slots := 0, locals := 0 } : Room).slots) := by
  refine MetFree.of_bodySF (plainFor_of_name pn_java_lang_Enum) hisR ?_
  intro p e s m args below meth c s₁ Bd hml0 hP hK
  obtain ⟨rfl, hZ, hh⟩ := hP
  have hx := Bd.exec
  have hby := Bd.bytes
  have hml : c.maxLocals = 1 := hml0
  have hown : s.vm.findClass "java/lang/Enum" = some m.cls := findClass_of_methodNamed Bd.named
  have hnm := (name_of_methodNamed Bd.named Bd.method).1
  have X0 : Stand p l e ({ frames := 0, cells := 0, slots := 0, locals := 0 } : Room) s m #[(.ref w7)] below meth c s₁ [] 0 0 := Stand.of_body Bd
  have e0 : s₁.heap = h0 := by rw [← hh, Bd.state]; rfl
  have N0 := Fr.nil n0
  have pre0 : ∀ t, Steps p.tables e below (s₁.setTop (mkF m 0 #[.val (.ref w7)] [])) t → Steps p.tables e below (s₁.setTop (entryFrame m #[(.ref w7)] 1)) t := fun t k => castTop (ef_jdk_37_method_2_code_A m w7) k
  have P0 := P; obtain ⟨S0, E0, F0_ordinal, S1, E1, F1_ordinal, S2, E2, F2_ordinal, S3, E3, F3_ordinal, S4, E4, F4_ordinal, S5, E5, F5_ordinal, S6, E6, F6_ordinal, S7, E7, F7_ordinal, S8, E8, F8_ordinal, S9, E9, F9_ordinal, S10, E10, F10_ordinal, S11, E11, F11_ordinal, S12, E12, F12_ordinal, S13, E13, F13_ordinal, S14, E14, F14_ordinal, S15, E15, F15_ordinal, S16, E16, F16_ordinal, S17, E17, F17_ordinal, S18, E18, F18_ordinal, S19, E19, F19_ordinal, S20, E20, F20_ordinal, S21, E21, F21_ordinal, S22, E22, F22_ordinal, S23, E23, F23_ordinal⟩ := P0
  obtain ⟨T39, X39, e39, st39⟩ := getF X0 hx hZ hown (host := "") (Or.inl (hw _ (List.mem_of_getElem? (i := 20) rfl))) Via.refl e0 F7_ordinal (g := (mkF m 1 #[.val (.ref w7)] [(.ref w7)])) rfl rfl (hb hby d_jdk_37_method_2_code_1)
  obtain ⟨fs, hr, hrun, hended, hW, hsame⟩ := X39.leave (v := some (.int (11 : Int32))) (fun h => by rw [Bd.returns] at h; cases h)
  refine ⟨_, _, pre0 _ ?_, hrun, hended, _, _, rfl, ?_, ⟨_, rfl⟩, hW, hsame.mono (by decide) (by decide)⟩
  · show Steps p.tables e below (s₁.setTop (mkF m 0 #[.val (.ref w7)] [])) _
    refine XS.aloadN X0.here hx rfl (hb hby d_jdk_37_method_2_code_0) rfl rfl ?_
    show Steps p.tables e below (s₁.setTop (mkF m 1 #[.val (.ref w7)] [(.ref w7)])) _
    refine st39 _ ?_
    show Steps p.tables e below (T39.setTop (mkF m 4 #[.val (.ref w7)] [(.int (11 : Int32))])) _
    exact retI X39 hx Bd.returns (hb hby d_jdk_37_method_2_code_4) hr
  · show own_Q (some (.int (11 : Int32))) h0 n0 _ T39.heap _
    rw [e39]
    exact ⟨rfl, N0, rfl⟩
theorem d_prog_15_method_5_code_44 : decode prog_15_method_5_code 44 = .ok (.iconst 1, 1) := by decide +kernel
theorem d_prog_15_method_5_code_45 : decode prog_15_method_5_code 45 = .ok (.goto 4, 3) := by decide +kernel
set_option maxRecDepth 65536 in
set_option maxHeartbeats 40000000 in
theorem own_isDecimal_7 (l : Launch) (Z : State) (a0 : Array Value) (hw : ∀ d ∈ tables_1, d.before a0 Z = true) (ws : List Jvm.Cond) (w0 w1 w2 w3 w4 w5 w6 w7 w8 w9 w10 w11 w12 w13 w14 w15 w16 w17 w18 w19 w20 w21 w22 w23 : Addr) (h0 : Heap) (n0 : Nat) (Z0 : n0 ≤ h0.size) (P : own_P Z h0 w0 w1 w2 w3 w4 w5 w6 w7 w8 w9 w10 w11 w12 w13 w14 w15 w16 w17 w18 w19 w20 w21 w22 w23) :
    MetFree l (⟨"apportion/io/DataType", "isDecimal", "()Z"⟩ : MethodName) (head1 (Jvm.Cond.code (⟨"apportion/io/DataType", "isDecimal", "()Z"⟩ : MethodName) prog_15_method_5_code 1 (some .boolean) :: ws) ({ frames := 1, cells := 0, slots := 0, locals := 12 } : Room)) (fun a U => a = #[(.ref w7)] ∧ Z.Warmed39 U.vm ∧ U.heap = h0) (fun _ _ _ _ _ => True) (fun _ U o U' => ∃ v L, o = .returned v ∧ own_Q (some (.int (1 : Int32))) h0 n0 v U'.heap L ∧ FrameEnd U o U' L ({ frames := 1, cells := 0, slots := 0, locals := 12 } : Room).cells ({ frames := 1, cells := 0, slots := 0, locals := 12 } : Room).slots) := by
  refine MetFree.of_bodySF (plainFor_of_name pn_apportion_io_DataType) hisR ?_
  intro p e s m args below meth c s₁ Bd hml0 hP hK
  obtain ⟨rfl, hZ, hh⟩ := hP
  have hx := Bd.exec
  have hby := Bd.bytes
  have hml : c.maxLocals = 1 := hml0
  have hown : s.vm.findClass "apportion/io/DataType" = some m.cls := findClass_of_methodNamed Bd.named
  have hnm := (name_of_methodNamed Bd.named Bd.method).1
  have X0 : Stand p l e ({ frames := 1, cells := 0, slots := 0, locals := 12 } : Room) s m #[(.ref w7)] below meth c s₁ [] 0 0 := Stand.of_body Bd
  have e0 : s₁.heap = h0 := by rw [← hh, Bd.state]; rfl
  have N0 := Fr.nil n0
  have pre0 : ∀ t, Steps p.tables e below (s₁.setTop (mkF m 0 #[.val (.ref w7)] [])) t → Steps p.tables e below (s₁.setTop (entryFrame m #[(.ref w7)] 1)) t := fun t k => castTop (ef_prog_15_method_5_code_A m w7) k
  have P0 := P; obtain ⟨S0, E0, F0_ordinal, S1, E1, F1_ordinal, S2, E2, F2_ordinal, S3, E3, F3_ordinal, S4, E4, F4_ordinal, S5, E5, F5_ordinal, S6, E6, F6_ordinal, S7, E7, F7_ordinal, S8, E8, F8_ordinal, S9, E9, F9_ordinal, S10, E10, F10_ordinal, S11, E11, F11_ordinal, S12, E12, F12_ordinal, S13, E13, F13_ordinal, S14, E14, F14_ordinal, S15, E15, F15_ordinal, S16, E16, F16_ordinal, S17, E17, F17_ordinal, S18, E18, F18_ordinal, S19, E19, F19_ordinal, S20, E20, F20_ordinal, S21, E21, F21_ordinal, S22, E22, F22_ordinal, S23, E23, F23_ordinal⟩ := P0
  obtain ⟨cq40, kq40, q40a, q40b, q40c⟩ := isOf hZ e0 E7
  obtain ⟨_, _, ⟨T40, L40, k40, n40⟩, -, X40, ⟨Lc40, hQ40, l40, y40, z40⟩, st40⟩ := X0.virtualBackUp hx (owner := "java/lang/Enum") (x := (⟨"apportion/io/DataType", "ordinal", "()I"⟩ : MethodName)) (y := (⟨"java/lang/Enum", "ordinal", "()I"⟩ : MethodName)) hown (mvT hZ (hw _ (List.mem_of_getElem? (i := 13) rfl))) (mvT hZ (hw _ (List.mem_of_getElem? (i := 14) rfl))) (mvT hZ (hw _ (List.mem_of_getElem? (i := 15) rfl))) (by decide) (mvT hZ (hw _ (List.mem_of_getElem? (i := 17) rfl))) (mvT hZ (hw _ (List.mem_of_getElem? (i := 16) rfl))) (backOf (W := 0) (own_ordinal_7 l Z a0 hw [] w0 w1 w2 w3 w4 w5 w6 w7 w8 w9 w10 w11 w12 w13 w14 w15 w16 w17 w18 w19 w20 w21 w22 w23 h0 n0 Z0 P) hZ (hw _ (List.mem_of_getElem? (i := 19) rfl)) (hw _ (List.mem_of_getElem? (i := 18) rfl)) (by decide) (by decide)) q40a q40c (g := (mkF m 1 #[.val (.ref w7)] [(.ref w7)])) rfl (by rw [hml]; rfl) (Steps.refl _) (argsL := []) (rest := []) (lenOf pd___I rfl) rfl (by show 2 * 0 + _ ≤ _; exact Nat.le_of_eq rfl) (hb hby d_prog_15_method_5_code_1) (fun _ _ => ⟨rfl, e0, (by decide : 0 + 0 ≤ _), (by decide : 0 + 0 ≤ _)⟩)
  dsimp only [Pt.U, Pt.locs, Pt.cells, Pt.slots] at X40 l40 y40 z40 st40 hQ40
  subst l40 y40 z40
  obtain ⟨rfl, N40q, e40⟩ := hQ40
  have N40 := Fr.app N0 N40q
  obtain ⟨fs, hr, hrun, hended, hW, hsame⟩ := X40.leave (v := some (.int (1 : Int32))) (fun h => by rw [Bd.returns] at h; cases h)
  refine ⟨_, _, pre0 _ ?_, hrun, hended, _, _, rfl, ?_, ⟨_, rfl⟩, hW, hsame.mono (by decide) (by decide)⟩
  · show Steps p.tables e below (s₁.setTop (mkF m 0 #[.val (.ref w7)] [])) _
    refine XS.aloadN X0.here hx rfl (hb hby d_prog_15_method_5_code_0) rfl rfl ?_
    show Steps p.tables e below (s₁.setTop (mkF m 1 #[.val (.ref w7)] [(.ref w7)])) _
    refine st40.trans ?_
    show Steps p.tables e below (T40.setTop (mkF m 4 #[.val (.ref w7)] [(.int (11 : Int32))])) _
    refine XS.tswIn X40.here hx rfl (o := 40) (pc0 := 4) (pc' := 44) rfl (hb hby d_prog_15_method_5_code_4) rfl (by decide) (by decide) (by decide) (by decide) ?_
    show Steps p.tables e below (T40.setTop (mkF m 44 #[.val (.ref w7)] [])) _
    refine XT.iconstV X40.here hx rfl (1 : Int32) (hb hby d_prog_15_method_5_code_44) rfl ?_
    show Steps p.tables e below (T40.setTop (mkF m 45 #[.val (.ref w7)] [(.int (1 : Int32))])) _
    refine XS.goto X40.here hx rfl (pc0 := 45) (pc' := 49) rfl (hb hby d_prog_15_method_5_code_45) (by decide) (by decide) ?_
    show Steps p.tables e below (T40.setTop (mkF m 49 #[.val (.ref w7)] [(.int (1 : Int32))])) _
    exact retN X40 hx (t := .boolean) Bd.returns (by simp) (hb hby d_prog_15_method_5_code_49) hr
  · show own_Q (some (.int (1 : Int32))) h0 n0 _ T40.heap _
    rw [e40]
    exact ⟨rfl, N40, rfl⟩
set_option maxRecDepth 65536 in
set_option maxHeartbeats 40000000 in
theorem own_ordinal_8 (l : Launch) (Z : State) (a0 : Array Value) (hw : ∀ d ∈ tables_1, d.before a0 Z = true) (ws : List Jvm.Cond) (w0 w1 w2 w3 w4 w5 w6 w7 w8 w9 w10 w11 w12 w13 w14 w15 w16 w17 w18 w19 w20 w21 w22 w23 : Addr) (h0 : Heap) (n0 : Nat) (Z0 : n0 ≤ h0.size) (P : own_P Z h0 w0 w1 w2 w3 w4 w5 w6 w7 w8 w9 w10 w11 w12 w13 w14 w15 w16 w17 w18 w19 w20 w21 w22 w23) :
    MetFree l (⟨"java/lang/Enum", "ordinal", "()I"⟩ : MethodName) (head1 (Jvm.Cond.code (⟨"java/lang/Enum", "ordinal", "()I"⟩ : MethodName) jdk_37_method_2_code 1 (some .int) :: ws) ({ frames := 0, cells := 0, slots := 0, locals := 0 } : Room)) (fun a U => a = #[(.ref w8)] ∧ Z.Warmed39 U.vm ∧ U.heap = h0) (fun _ _ _ _ _ => True) (fun _ U o U' => ∃ v L, o = .returned v ∧ own_Q (some (.int (16 : Int32))) h0 n0 v U'.heap L ∧ FrameEnd U o U' L ({ frames := 0, cells := 0, slots := 0, locals := 0 } : Room).cells ({ frames := 0, cells := 0, slots := 0, locals := 0 } : Room).slots) := by
  refine MetFree.of_bodySF (plainFor_of_name pn_java_lang_Enum) hisR ?_
  intro p e s m args below meth c s₁ Bd hml0 hP hK
  obtain ⟨rfl, hZ, hh⟩ := hP
  have hx := Bd.exec
  have hby := Bd.bytes
  have hml : c.maxLocals = 1 := hml0
  have hown : s.vm.findClass "java/lang/Enum" = some m.cls := findClass_of_methodNamed Bd.named
  have hnm := (name_of_methodNamed Bd.named Bd.method).1
  have X0 : Stand p l e ({ frames := 0, cells := 0, slots := 0, locals := 0 } : Room) s m #[(.ref w8)] below meth c s₁ [] 0 0 := Stand.of_body Bd
  have e0 : s₁.heap = h0 := by rw [← hh, Bd.state]; rfl
  have N0 := Fr.nil n0
  have pre0 : ∀ t, Steps p.tables e below (s₁.setTop (mkF m 0 #[.val (.ref w8)] [])) t → Steps p.tables e below (s₁.setTop (entryFrame m #[(.ref w8)] 1)) t := fun t k => castTop (ef_jdk_37_method_2_code_A m w8) k
  have P0 := P; obtain ⟨S0, E0, F0_ordinal, S1, E1, F1_ordinal, S2, E2, F2_ordinal, S3, E3, F3_ordinal, S4, E4, F4_ordinal, S5, E5, F5_ordinal, S6, E6, F6_ordinal, S7, E7, F7_ordinal, S8, E8, F8_ordinal, S9, E9, F9_ordinal, S10, E10, F10_ordinal, S11, E11, F11_ordinal, S12, E12, F12_ordinal, S13, E13, F13_ordinal, S14, E14, F14_ordinal, S15, E15, F15_ordinal, S16, E16, F16_ordinal, S17, E17, F17_ordinal, S18, E18, F18_ordinal, S19, E19, F19_ordinal, S20, E20, F20_ordinal, S21, E21, F21_ordinal, S22, E22, F22_ordinal, S23, E23, F23_ordinal⟩ := P0
  obtain ⟨T41, X41, e41, st41⟩ := getF X0 hx hZ hown (host := "") (Or.inl (hw _ (List.mem_of_getElem? (i := 20) rfl))) Via.refl e0 F8_ordinal (g := (mkF m 1 #[.val (.ref w8)] [(.ref w8)])) rfl rfl (hb hby d_jdk_37_method_2_code_1)
  obtain ⟨fs, hr, hrun, hended, hW, hsame⟩ := X41.leave (v := some (.int (16 : Int32))) (fun h => by rw [Bd.returns] at h; cases h)
  refine ⟨_, _, pre0 _ ?_, hrun, hended, _, _, rfl, ?_, ⟨_, rfl⟩, hW, hsame.mono (by decide) (by decide)⟩
  · show Steps p.tables e below (s₁.setTop (mkF m 0 #[.val (.ref w8)] [])) _
    refine XS.aloadN X0.here hx rfl (hb hby d_jdk_37_method_2_code_0) rfl rfl ?_
    show Steps p.tables e below (s₁.setTop (mkF m 1 #[.val (.ref w8)] [(.ref w8)])) _
    refine st41 _ ?_
    show Steps p.tables e below (T41.setTop (mkF m 4 #[.val (.ref w8)] [(.int (16 : Int32))])) _
    exact retI X41 hx Bd.returns (hb hby d_jdk_37_method_2_code_4) hr
  · show own_Q (some (.int (16 : Int32))) h0 n0 _ T41.heap _
    rw [e41]
    exact ⟨rfl, N0, rfl⟩
set_option maxRecDepth 65536 in
set_option maxHeartbeats 40000000 in
theorem own_isDecimal_8 (l : Launch) (Z : State) (a0 : Array Value) (hw : ∀ d ∈ tables_1, d.before a0 Z = true) (ws : List Jvm.Cond) (w0 w1 w2 w3 w4 w5 w6 w7 w8 w9 w10 w11 w12 w13 w14 w15 w16 w17 w18 w19 w20 w21 w22 w23 : Addr) (h0 : Heap) (n0 : Nat) (Z0 : n0 ≤ h0.size) (P : own_P Z h0 w0 w1 w2 w3 w4 w5 w6 w7 w8 w9 w10 w11 w12 w13 w14 w15 w16 w17 w18 w19 w20 w21 w22 w23) :
    MetFree l (⟨"apportion/io/DataType", "isDecimal", "()Z"⟩ : MethodName) (head1 (Jvm.Cond.code (⟨"apportion/io/DataType", "isDecimal", "()Z"⟩ : MethodName) prog_15_method_5_code 1 (some .boolean) :: ws) ({ frames := 1, cells := 0, slots := 0, locals := 12 } : Room)) (fun a U => a = #[(.ref w8)] ∧ Z.Warmed39 U.vm ∧ U.heap = h0) (fun _ _ _ _ _ => True) (fun _ U o U' => ∃ v L, o = .returned v ∧ own_Q (some (.int (0 : Int32))) h0 n0 v U'.heap L ∧ FrameEnd U o U' L ({ frames := 1, cells := 0, slots := 0, locals := 12 } : Room).cells ({ frames := 1, cells := 0, slots := 0, locals := 12 } : Room).slots) := by
  refine MetFree.of_bodySF (plainFor_of_name pn_apportion_io_DataType) hisR ?_
  intro p e s m args below meth c s₁ Bd hml0 hP hK
  obtain ⟨rfl, hZ, hh⟩ := hP
  have hx := Bd.exec
  have hby := Bd.bytes
  have hml : c.maxLocals = 1 := hml0
  have hown : s.vm.findClass "apportion/io/DataType" = some m.cls := findClass_of_methodNamed Bd.named
  have hnm := (name_of_methodNamed Bd.named Bd.method).1
  have X0 : Stand p l e ({ frames := 1, cells := 0, slots := 0, locals := 12 } : Room) s m #[(.ref w8)] below meth c s₁ [] 0 0 := Stand.of_body Bd
  have e0 : s₁.heap = h0 := by rw [← hh, Bd.state]; rfl
  have N0 := Fr.nil n0
  have pre0 : ∀ t, Steps p.tables e below (s₁.setTop (mkF m 0 #[.val (.ref w8)] [])) t → Steps p.tables e below (s₁.setTop (entryFrame m #[(.ref w8)] 1)) t := fun t k => castTop (ef_prog_15_method_5_code_A m w8) k
  have P0 := P; obtain ⟨S0, E0, F0_ordinal, S1, E1, F1_ordinal, S2, E2, F2_ordinal, S3, E3, F3_ordinal, S4, E4, F4_ordinal, S5, E5, F5_ordinal, S6, E6, F6_ordinal, S7, E7, F7_ordinal, S8, E8, F8_ordinal, S9, E9, F9_ordinal, S10, E10, F10_ordinal, S11, E11, F11_ordinal, S12, E12, F12_ordinal, S13, E13, F13_ordinal, S14, E14, F14_ordinal, S15, E15, F15_ordinal, S16, E16, F16_ordinal, S17, E17, F17_ordinal, S18, E18, F18_ordinal, S19, E19, F19_ordinal, S20, E20, F20_ordinal, S21, E21, F21_ordinal, S22, E22, F22_ordinal, S23, E23, F23_ordinal⟩ := P0
  obtain ⟨cq42, kq42, q42a, q42b, q42c⟩ := isOf hZ e0 E8
  obtain ⟨_, _, ⟨T42, L42, k42, n42⟩, -, X42, ⟨Lc42, hQ42, l42, y42, z42⟩, st42⟩ := X0.virtualBackUp hx (owner := "java/lang/Enum") (x := (⟨"apportion/io/DataType", "ordinal", "()I"⟩ : MethodName)) (y := (⟨"java/lang/Enum", "ordinal", "()I"⟩ : MethodName)) hown (mvT hZ (hw _ (List.mem_of_getElem? (i := 13) rfl))) (mvT hZ (hw _ (List.mem_of_getElem? (i := 14) rfl))) (mvT hZ (hw _ (List.mem_of_getElem? (i := 15) rfl))) (by decide) (mvT hZ (hw _ (List.mem_of_getElem? (i := 17) rfl))) (mvT hZ (hw _ (List.mem_of_getElem? (i := 16) rfl))) (backOf (W := 0) (own_ordinal_8 l Z a0 hw [] w0 w1 w2 w3 w4 w5 w6 w7 w8 w9 w10 w11 w12 w13 w14 w15 w16 w17 w18 w19 w20 w21 w22 w23 h0 n0 Z0 P) hZ (hw _ (List.mem_of_getElem? (i := 19) rfl)) (hw _ (List.mem_of_getElem? (i := 18) rfl)) (by decide) (by decide)) q42a q42c (g := (mkF m 1 #[.val (.ref w8)] [(.ref w8)])) rfl (by rw [hml]; rfl) (Steps.refl _) (argsL := []) (rest := []) (lenOf pd___I rfl) rfl (by show 2 * 0 + _ ≤ _; exact Nat.le_of_eq rfl) (hb hby d_prog_15_method_5_code_1) (fun _ _ => ⟨rfl, e0, (by decide : 0 + 0 ≤ _), (by decide : 0 + 0 ≤ _)⟩)
  dsimp only [Pt.U, Pt.locs, Pt.cells, Pt.slots] at X42 l42 y42 z42 st42 hQ42
  subst l42 y42 z42
  obtain ⟨rfl, N42q, e42⟩ := hQ42
  have N42 := Fr.app N0 N42q
  obtain ⟨fs, hr, hrun, hended, hW, hsame⟩ := X42.leave (v := some (.int (0 : Int32))) (fun h => by rw [Bd.returns] at h; cases h)
  refine ⟨_, _, pre0 _ ?_, hrun, hended, _, _, rfl, ?_, ⟨_, rfl⟩, hW, hsame.mono (by decide) (by decide)⟩
  · show Steps p.tables e below (s₁.setTop (mkF m 0 #[.val (.ref w8)] [])) _
    refine XS.aloadN X0.here hx rfl (hb hby d_prog_15_method_5_code_0) rfl rfl ?_
    show Steps p.tables e below (s₁.setTop (mkF m 1 #[.val (.ref w8)] [(.ref w8)])) _
    refine st42.trans ?_
    show Steps p.tables e below (T42.setTop (mkF m 4 #[.val (.ref w8)] [(.int (16 : Int32))])) _
    refine XS.tswOut X42.here hx rfl (pc0 := 4) (pc' := 48) rfl (hb hby d_prog_15_method_5_code_4) rfl (by decide) (by decide) (by decide) ?_
    show Steps p.tables e below (T42.setTop (mkF m 48 #[.val (.ref w8)] [])) _
    refine XT.iconstV X42.here hx rfl (0 : Int32) (hb hby d_prog_15_method_5_code_48) rfl ?_
    show Steps p.tables e below (T42.setTop (mkF m 49 #[.val (.ref w8)] [(.int (0 : Int32))])) _
    exact retN X42 hx (t := .boolean) Bd.returns (by simp) (hb hby d_prog_15_method_5_code_49) hr
  · show own_Q (some (.int (0 : Int32))) h0 n0 _ T42.heap _
    rw [e42]
    exact ⟨rfl, N42, rfl⟩
set_option maxRecDepth 65536 in
set_option maxHeartbeats 40000000 in
theorem own_ordinal_9 (l : Launch) (Z : State) (a0 : Array Value) (hw : ∀ d ∈ tables_1, d.before a0 Z = true) (ws : List Jvm.Cond) (w0 w1 w2 w3 w4 w5 w6 w7 w8 w9 w10 w11 w12 w13 w14 w15 w16 w17 w18 w19 w20 w21 w22 w23 : Addr) (h0 : Heap) (n0 : Nat) (Z0 : n0 ≤ h0.size) (P : own_P Z h0 w0 w1 w2 w3 w4 w5 w6 w7 w8 w9 w10 w11 w12 w13 w14 w15 w16 w17 w18 w19 w20 w21 w22 w23) :
    MetFree l (⟨"java/lang/Enum", "ordinal", "()I"⟩ : MethodName) (head1 (Jvm.Cond.code (⟨"java/lang/Enum", "ordinal", "()I"⟩ : MethodName) jdk_37_method_2_code 1 (some .int) :: ws) ({ frames := 0, cells := 0, slots := 0, locals := 0 } : Room)) (fun a U => a = #[(.ref w9)] ∧ Z.Warmed39 U.vm ∧ U.heap = h0) (fun _ _ _ _ _ => True) (fun _ U o U' => ∃ v L, o = .returned v ∧ own_Q (some (.int (8 : Int32))) h0 n0 v U'.heap L ∧ FrameEnd U o U' L ({ frames := 0, cells := 0, slots := 0, locals := 0 } : Room).cells ({ frames := 0, cells := 0, slots := 0, locals := 0 } : Room).slots) := by
  refine MetFree.of_bodySF (plainFor_of_name pn_java_lang_Enum) hisR ?_
  intro p e s m args below meth c s₁ Bd hml0 hP hK
  obtain ⟨rfl, hZ, hh⟩ := hP
  have hx := Bd.exec
  have hby := Bd.bytes
  have hml : c.maxLocals = 1 := hml0
  have hown : s.vm.findClass "java/lang/Enum" = some m.cls := findClass_of_methodNamed Bd.named
  have hnm := (name_of_methodNamed Bd.named Bd.method).1
  have X0 : Stand p l e ({ frames := 0, cells := 0, slots := 0, locals := 0 } : Room) s m #[(.ref w9)] below meth c s₁ [] 0 0 := Stand.of_body Bd
  have e0 : s₁.heap = h0 := by rw [← hh, Bd.state]; rfl
  have N0 := Fr.nil n0
  have pre0 : ∀ t, Steps p.tables e below (s₁.setTop (mkF m 0 #[.val (.ref w9)] [])) t → Steps p.tables e below (s₁.setTop (entryFrame m #[(.ref w9)] 1)) t := fun t k => castTop (ef_jdk_37_method_2_code_A m w9) k
  have P0 := P; obtain ⟨S0, E0, F0_ordinal, S1, E1, F1_ordinal, S2, E2, F2_ordinal, S3, E3, F3_ordinal, S4, E4, F4_ordinal, S5, E5, F5_ordinal, S6, E6, F6_ordinal, S7, E7, F7_ordinal, S8, E8, F8_ordinal, S9, E9, F9_ordinal, S10, E10, F10_ordinal, S11, E11, F11_ordinal, S12, E12, F12_ordinal, S13, E13, F13_ordinal, S14, E14, F14_ordinal, S15, E15, F15_ordinal, S16, E16, F16_ordinal, S17, E17, F17_ordinal, S18, E18, F18_ordinal, S19, E19, F19_ordinal, S20, E20, F20_ordinal, S21, E21, F21_ordinal, S22, E22, F22_ordinal, S23, E23, F23_ordinal⟩ := P0
  obtain ⟨T43, X43, e43, st43⟩ := getF X0 hx hZ hown (host := "") (Or.inl (hw _ (List.mem_of_getElem? (i := 20) rfl))) Via.refl e0 F9_ordinal (g := (mkF m 1 #[.val (.ref w9)] [(.ref w9)])) rfl rfl (hb hby d_jdk_37_method_2_code_1)
  obtain ⟨fs, hr, hrun, hended, hW, hsame⟩ := X43.leave (v := some (.int (8 : Int32))) (fun h => by rw [Bd.returns] at h; cases h)
  refine ⟨_, _, pre0 _ ?_, hrun, hended, _, _, rfl, ?_, ⟨_, rfl⟩, hW, hsame.mono (by decide) (by decide)⟩
  · show Steps p.tables e below (s₁.setTop (mkF m 0 #[.val (.ref w9)] [])) _
    refine XS.aloadN X0.here hx rfl (hb hby d_jdk_37_method_2_code_0) rfl rfl ?_
    show Steps p.tables e below (s₁.setTop (mkF m 1 #[.val (.ref w9)] [(.ref w9)])) _
    refine st43 _ ?_
    show Steps p.tables e below (T43.setTop (mkF m 4 #[.val (.ref w9)] [(.int (8 : Int32))])) _
    exact retI X43 hx Bd.returns (hb hby d_jdk_37_method_2_code_4) hr
  · show own_Q (some (.int (8 : Int32))) h0 n0 _ T43.heap _
    rw [e43]
    exact ⟨rfl, N0, rfl⟩
set_option maxRecDepth 65536 in
set_option maxHeartbeats 40000000 in
theorem own_isDecimal_9 (l : Launch) (Z : State) (a0 : Array Value) (hw : ∀ d ∈ tables_1, d.before a0 Z = true) (ws : List Jvm.Cond) (w0 w1 w2 w3 w4 w5 w6 w7 w8 w9 w10 w11 w12 w13 w14 w15 w16 w17 w18 w19 w20 w21 w22 w23 : Addr) (h0 : Heap) (n0 : Nat) (Z0 : n0 ≤ h0.size) (P : own_P Z h0 w0 w1 w2 w3 w4 w5 w6 w7 w8 w9 w10 w11 w12 w13 w14 w15 w16 w17 w18 w19 w20 w21 w22 w23) :
    MetFree l (⟨"apportion/io/DataType", "isDecimal", "()Z"⟩ : MethodName) (head1 (Jvm.Cond.code (⟨"apportion/io/DataType", "isDecimal", "()Z"⟩ : MethodName) prog_15_method_5_code 1 (some .boolean) :: ws) ({ frames := 1, cells := 0, slots := 0, locals := 12 } : Room)) (fun a U => a = #[(.ref w9)] ∧ Z.Warmed39 U.vm ∧ U.heap = h0) (fun _ _ _ _ _ => True) (fun _ U o U' => ∃ v L, o = .returned v ∧ own_Q (some (.int (1 : Int32))) h0 n0 v U'.heap L ∧ FrameEnd U o U' L ({ frames := 1, cells := 0, slots := 0, locals := 12 } : Room).cells ({ frames := 1, cells := 0, slots := 0, locals := 12 } : Room).slots) := by
  refine MetFree.of_bodySF (plainFor_of_name pn_apportion_io_DataType) hisR ?_
  intro p e s m args below meth c s₁ Bd hml0 hP hK
  obtain ⟨rfl, hZ, hh⟩ := hP
  have hx := Bd.exec
  have hby := Bd.bytes
  have hml : c.maxLocals = 1 := hml0
  have hown : s.vm.findClass "apportion/io/DataType" = some m.cls := findClass_of_methodNamed Bd.named
  have hnm := (name_of_methodNamed Bd.named Bd.method).1
  have X0 : Stand p l e ({ frames := 1, cells := 0, slots := 0, locals := 12 } : Room) s m #[(.ref w9)] below meth c s₁ [] 0 0 := Stand.of_body Bd
  have e0 : s₁.heap = h0 := by rw [← hh, Bd.state]; rfl
  have N0 := Fr.nil n0
  have pre0 : ∀ t, Steps p.tables e below (s₁.setTop (mkF m 0 #[.val (.ref w9)] [])) t → Steps p.tables e below (s₁.setTop (entryFrame m #[(.ref w9)] 1)) t := fun t k => castTop (ef_prog_15_method_5_code_A m w9) k
  have P0 := P; obtain ⟨S0, E0, F0_ordinal, S1, E1, F1_ordinal, S2, E2, F2_ordinal, S3, E3, F3_ordinal, S4, E4, F4_ordinal, S5, E5, F5_ordinal, S6, E6, F6_ordinal, S7, E7, F7_ordinal, S8, E8, F8_ordinal, S9, E9, F9_ordinal, S10, E10, F10_ordinal, S11, E11, F11_ordinal, S12, E12, F12_ordinal, S13, E13, F13_ordinal, S14, E14, F14_ordinal, S15, E15, F15_ordinal, S16, E16, F16_ordinal, S17, E17, F17_ordinal, S18, E18, F18_ordinal, S19, E19, F19_ordinal, S20, E20, F20_ordinal, S21, E21, F21_ordinal, S22, E22, F22_ordinal, S23, E23, F23_ordinal⟩ := P0
  obtain ⟨cq44, kq44, q44a, q44b, q44c⟩ := isOf hZ e0 E9
  obtain ⟨_, _, ⟨T44, L44, k44, n44⟩, -, X44, ⟨Lc44, hQ44, l44, y44, z44⟩, st44⟩ := X0.virtualBackUp hx (owner := "java/lang/Enum") (x := (⟨"apportion/io/DataType", "ordinal", "()I"⟩ : MethodName)) (y := (⟨"java/lang/Enum", "ordinal", "()I"⟩ : MethodName)) hown (mvT hZ (hw _ (List.mem_of_getElem? (i := 13) rfl))) (mvT hZ (hw _ (List.mem_of_getElem? (i := 14) rfl))) (mvT hZ (hw _ (List.mem_of_getElem? (i := 15) rfl))) (by decide) (mvT hZ (hw _ (List.mem_of_getElem? (i := 17) rfl))) (mvT hZ (hw _ (List.mem_of_getElem? (i := 16) rfl))) (backOf (W := 0) (own_ordinal_9 l Z a0 hw [] w0 w1 w2 w3 w4 w5 w6 w7 w8 w9 w10 w11 w12 w13 w14 w15 w16 w17 w18 w19 w20 w21 w22 w23 h0 n0 Z0 P) hZ (hw _ (List.mem_of_getElem? (i := 19) rfl)) (hw _ (List.mem_of_getElem? (i := 18) rfl)) (by decide) (by decide)) q44a q44c (g := (mkF m 1 #[.val (.ref w9)] [(.ref w9)])) rfl (by rw [hml]; rfl) (Steps.refl _) (argsL := []) (rest := []) (lenOf pd___I rfl) rfl (by show 2 * 0 + _ ≤ _; exact Nat.le_of_eq rfl) (hb hby d_prog_15_method_5_code_1) (fun _ _ => ⟨rfl, e0, (by decide : 0 + 0 ≤ _), (by decide : 0 + 0 ≤ _)⟩)
  dsimp only [Pt.U, Pt.locs, Pt.cells, Pt.slots] at X44 l44 y44 z44 st44 hQ44
  subst l44 y44 z44
  obtain ⟨rfl, N44q, e44⟩ := hQ44
  have N44 := Fr.app N0 N44q
  obtain ⟨fs, hr, hrun, hended, hW, hsame⟩ := X44.leave (v := some (.int (1 : Int32))) (fun h => by rw [Bd.returns] at h; cases h)
  refine ⟨_, _, pre0 _ ?_, hrun, hended, _, _, rfl, ?_, ⟨_, rfl⟩, hW, hsame.mono (by decide) (by decide)⟩
  · show Steps p.tables e below (s₁.setTop (mkF m 0 #[.val (.ref w9)] [])) _
    refine XS.aloadN X0.here hx rfl (hb hby d_prog_15_method_5_code_0) rfl rfl ?_
    show Steps p.tables e below (s₁.setTop (mkF m 1 #[.val (.ref w9)] [(.ref w9)])) _
    refine st44.trans ?_
    show Steps p.tables e below (T44.setTop (mkF m 4 #[.val (.ref w9)] [(.int (8 : Int32))])) _
    refine XS.tswIn X44.here hx rfl (o := 40) (pc0 := 4) (pc' := 44) rfl (hb hby d_prog_15_method_5_code_4) rfl (by decide) (by decide) (by decide) (by decide) ?_
    show Steps p.tables e below (T44.setTop (mkF m 44 #[.val (.ref w9)] [])) _
    refine XT.iconstV X44.here hx rfl (1 : Int32) (hb hby d_prog_15_method_5_code_44) rfl ?_
    show Steps p.tables e below (T44.setTop (mkF m 45 #[.val (.ref w9)] [(.int (1 : Int32))])) _
    refine XS.goto X44.here hx rfl (pc0 := 45) (pc' := 49) rfl (hb hby d_prog_15_method_5_code_45) (by decide) (by decide) ?_
    show Steps p.tables e below (T44.setTop (mkF m 49 #[.val (.ref w9)] [(.int (1 : Int32))])) _
    exact retN X44 hx (t := .boolean) Bd.returns (by simp) (hb hby d_prog_15_method_5_code_49) hr
  · show own_Q (some (.int (1 : Int32))) h0 n0 _ T44.heap _
    rw [e44]
    exact ⟨rfl, N44, rfl⟩
set_option maxRecDepth 65536 in
set_option maxHeartbeats 40000000 in
theorem own_ordinal_10 (l : Launch) (Z : State) (a0 : Array Value) (hw : ∀ d ∈ tables_1, d.before a0 Z = true) (ws : List Jvm.Cond) (w0 w1 w2 w3 w4 w5 w6 w7 w8 w9 w10 w11 w12 w13 w14 w15 w16 w17 w18 w19 w20 w21 w22 w23 : Addr) (h0 : Heap) (n0 : Nat) (Z0 : n0 ≤ h0.size) (P : own_P Z h0 w0 w1 w2 w3 w4 w5 w6 w7 w8 w9 w10 w11 w12 w13 w14 w15 w16 w17 w18 w19 w20 w21 w22 w23) :
    MetFree l (⟨"java/lang/Enum", "ordinal", "()I"⟩ : MethodName) (head1 (Jvm.Cond.code (⟨"java/lang/Enum", "ordinal", "()I"⟩ : MethodName) jdk_37_method_2_code 1 (some .int) :: ws) ({ frames := 0, cells := 0, slots := 0, locals := 0 } : Room)) (fun a U => a = #[(.ref w10)] ∧ Z.Warmed39 U.vm ∧ U.heap = h0) (fun _ _ _ _ _ => True) (fun _ U o U' => ∃ v L, o = .returned v ∧ own_Q (some (.int (1 : Int32))) h0 n0 v U'.heap L ∧ FrameEnd U o U' L ({ frames := 0, cells := 0, slots := 0, locals := 0 } : Room).cells ({ frames := 0, cells := 0, slots := 0, locals := 0 } : Room).slots) := by
  refine MetFree.of_bodySF (plainFor_of_name pn_java_lang_Enum) hisR ?_
  intro p e s m args below meth c s₁ Bd hml0 hP hK
  obtain ⟨rfl, hZ, hh⟩ := hP
  have hx := Bd.exec
  have hby := Bd.bytes
  have hml : c.maxLocals = 1 := hml0
  have hown : s.vm.findClass "java/lang/Enum" = some m.cls := findClass_of_methodNamed Bd.named
  have hnm := (name_of_methodNamed Bd.named Bd.method).1
  have X0 : Stand p l e ({ frames := 0, cells := 0, slots := 0, locals := 0 } : Room) s m #[(.ref w10)] below meth c s₁ [] 0 0 := Stand.of_body Bd
  have e0 : s₁.heap = h0 := by rw [← hh, Bd.state]; rfl
  have N0 := Fr.nil n0
  have pre0 : ∀ t, Steps p.tables e below (s₁.setTop (mkF m 0 #[.val (.ref w10)] [])) t → Steps p.tables e below (s₁.setTop (entryFrame m #[(.ref w10)] 1)) t := fun t k => castTop (ef_jdk_37_method_2_code_A m w10) k
  have P0 := P; obtain ⟨S0, E0, F0_ordinal, S1, E1, F1_ordinal, S2, E2, F2_ordinal, S3, E3, F3_ordinal, S4, E4, F4_ordinal, S5, E5, F5_ordinal, S6, E6, F6_ordinal, S7, E7, F7_ordinal, S8, E8, F8_ordinal, S9, E9, F9_ordinal, S10, E10, F10_ordinal, S11, E11, F11_ordinal, S12, E12, F12_ordinal, S13, E13, F13_ordinal, S14, E14, F14_ordinal, S15, E15, F15_ordinal, S16, E16, F16_ordinal, S17, E17, F17_ordinal, S18, E18, F18_ordinal, S19, E19, F19_ordinal, S20, E20, F20_ordinal, S21, E21, F21_ordinal, S22, E22, F22_ordinal, S23, E23, F23_ordinal⟩ := P0
  obtain ⟨T45, X45, e45, st45⟩ := getF X0 hx hZ hown (host := "") (Or.inl (hw _ (List.mem_of_getElem? (i := 20) rfl))) Via.refl e0 F10_ordinal (g := (mkF m 1 #[.val (.ref w10)] [(.ref w10)])) rfl rfl (hb hby d_jdk_37_method_2_code_1)
  obtain ⟨fs, hr, hrun, hended, hW, hsame⟩ := X45.leave (v := some (.int (1 : Int32))) (fun h => by rw [Bd.returns] at h; cases h)
  refine ⟨_, _, pre0 _ ?_, hrun, hended, _, _, rfl, ?_, ⟨_, rfl⟩, hW, hsame.mono (by decide) (by decide)⟩
  · show Steps p.tables e below (s₁.setTop (mkF m 0 #[.val (.ref w10)] [])) _
    refine XS.aloadN X0.here hx rfl (hb hby d_jdk_37_method_2_code_0) rfl rfl ?_
    show Steps p.tables e below (s₁.setTop (mkF m 1 #[.val (.ref w10)] [(.ref w10)])) _
    refine st45 _ ?_
    show Steps p.tables e below (T45.setTop (mkF m 4 #[.val (.ref w10)] [(.int (1 : Int32))])) _
    exact retI X45 hx Bd.returns (hb hby d_jdk_37_method_2_code_4) hr
  · show own_Q (some (.int (1 : Int32))) h0 n0 _ T45.heap _
    rw [e45]
    exact ⟨rfl, N0, rfl⟩
set_option maxRecDepth 65536 in
set_option maxHeartbeats 40000000 in
theorem own_isDecimal_10 (l : Launch) (Z : State) (a0 : Array Value) (hw : ∀ d ∈ tables_1, d.before a0 Z = true) (ws : List Jvm.Cond) (w0 w1 w2 w3 w4 w5 w6 w7 w8 w9 w10 w11 w12 w13 w14 w15 w16 w17 w18 w19 w20 w21 w22 w23 : Addr) (h0 : Heap) (n0 : Nat) (Z0 : n0 ≤ h0.size) (P : own_P Z h0 w0 w1 w2 w3 w4 w5 w6 w7 w8 w9 w10 w11 w12 w13 w14 w15 w16 w17 w18 w19 w20 w21 w22 w23) :
    MetFree l (⟨"apportion/io/DataType", "isDecimal", "()Z"⟩ : MethodName) (head1 (Jvm.Cond.code (⟨"apportion/io/DataType", "isDecimal", "()Z"⟩ : MethodName) prog_15_method_5_code 1 (some .boolean) :: ws) ({ frames := 1, cells := 0, slots := 0, locals := 12 } : Room)) (fun a U => a = #[(.ref w10)] ∧ Z.Warmed39 U.vm ∧ U.heap = h0) (fun _ _ _ _ _ => True) (fun _ U o U' => ∃ v L, o = .returned v ∧ own_Q (some (.int (0 : Int32))) h0 n0 v U'.heap L ∧ FrameEnd U o U' L ({ frames := 1, cells := 0, slots := 0, locals := 12 } : Room).cells ({ frames := 1, cells := 0, slots := 0, locals := 12 } : Room).slots) := by
  refine MetFree.of_bodySF (plainFor_of_name pn_apportion_io_DataType) hisR ?_
  intro p e s m args below meth c s₁ Bd hml0 hP hK
  obtain ⟨rfl, hZ, hh⟩ := hP
  have hx := Bd.exec
  have hby := Bd.bytes
  have hml : c.maxLocals = 1 := hml0
  have hown : s.vm.findClass "apportion/io/DataType" = some m.cls := findClass_of_methodNamed Bd.named
  have hnm := (name_of_methodNamed Bd.named Bd.method).1
  have X0 : Stand p l e ({ frames := 1, cells := 0, slots := 0, locals := 12 } : Room) s m #[(.ref w10)] below meth c s₁ [] 0 0 := Stand.of_body Bd
  have e0 : s₁.heap = h0 := by rw [← hh, Bd.state]; rfl
  have N0 := Fr.nil n0
  have pre0 : ∀ t, Steps p.tables e below (s₁.setTop (mkF m 0 #[.val (.ref w10)] [])) t → Steps p.tables e below (s₁.setTop (entryFrame m #[(.ref w10)] 1)) t := fun t k => castTop (ef_prog_15_method_5_code_A m w10) k
  have P0 := P; obtain ⟨S0, E0, F0_ordinal, S1, E1, F1_ordinal, S2, E2, F2_ordinal, S3, E3, F3_ordinal, S4, E4, F4_ordinal, S5, E5, F5_ordinal, S6, E6, F6_ordinal, S7, E7, F7_ordinal, S8, E8, F8_ordinal, S9, E9, F9_ordinal, S10, E10, F10_ordinal, S11, E11, F11_ordinal, S12, E12, F12_ordinal, S13, E13, F13_ordinal, S14, E14, F14_ordinal, S15, E15, F15_ordinal, S16, E16, F16_ordinal, S17, E17, F17_ordinal, S18, E18, F18_ordinal, S19, E19, F19_ordinal, S20, E20, F20_ordinal, S21, E21, F21_ordinal, S22, E22, F22_ordinal, S23, E23, F23_ordinal⟩ := P0
  obtain ⟨cq46, kq46, q46a, q46b, q46c⟩ := isOf hZ e0 E10
  obtain ⟨_, _, ⟨T46, L46, k46, n46⟩, -, X46, ⟨Lc46, hQ46, l46, y46, z46⟩, st46⟩ := X0.virtualBackUp hx (owner := "java/lang/Enum") (x := (⟨"apportion/io/DataType", "ordinal", "()I"⟩ : MethodName)) (y := (⟨"java/lang/Enum", "ordinal", "()I"⟩ : MethodName)) hown (mvT hZ (hw _ (List.mem_of_getElem? (i := 13) rfl))) (mvT hZ (hw _ (List.mem_of_getElem? (i := 14) rfl))) (mvT hZ (hw _ (List.mem_of_getElem? (i := 15) rfl))) (by decide) (mvT hZ (hw _ (List.mem_of_getElem? (i := 17) rfl))) (mvT hZ (hw _ (List.mem_of_getElem? (i := 16) rfl))) (backOf (W := 0) (own_ordinal_10 l Z a0 hw [] w0 w1 w2 w3 w4 w5 w6 w7 w8 w9 w10 w11 w12 w13 w14 w15 w16 w17 w18 w19 w20 w21 w22 w23 h0 n0 Z0 P) hZ (hw _ (List.mem_of_getElem? (i := 19) rfl)) (hw _ (List.mem_of_getElem? (i := 18) rfl)) (by decide) (by decide)) q46a q46c (g := (mkF m 1 #[.val (.ref w10)] [(.ref w10)])) rfl (by rw [hml]; rfl) (Steps.refl _) (argsL := []) (rest := []) (lenOf pd___I rfl) rfl (by show 2 * 0 + _ ≤ _; exact Nat.le_of_eq rfl) (hb hby d_prog_15_method_5_code_1) (fun _ _ => ⟨rfl, e0, (by decide : 0 + 0 ≤ _), (by decide : 0 + 0 ≤ _)⟩)
  dsimp only [Pt.U, Pt.locs, Pt.cells, Pt.slots] at X46 l46 y46 z46 st46 hQ46
  subst l46 y46 z46
  obtain ⟨rfl, N46q, e46⟩ := hQ46
  have N46 := Fr.app N0 N46q
  obtain ⟨fs, hr, hrun, hended, hW, hsame⟩ := X46.leave (v := some (.int (0 : Int32))) (fun h => by rw [Bd.returns] at h; cases h)
  refine ⟨_, _, pre0 _ ?_, hrun, hended, _, _, rfl, ?_, ⟨_, rfl⟩, hW, hsame.mono (by decide) (by decide)⟩
  · show Steps p.tables e below (s₁.setTop (mkF m 0 #[.val (.ref w10)] [])) _
    refine XS.aloadN X0.here hx rfl (hb hby d_prog_15_method_5_code_0) rfl rfl ?_
    show Steps p.tables e below (s₁.setTop (mkF m 1 #[.val (.ref w10)] [(.ref w10)])) _
    refine st46.trans ?_
    show Steps p.tables e below (T46.setTop (mkF m 4 #[.val (.ref w10)] [(.int (1 : Int32))])) _
    refine XS.tswOut X46.here hx rfl (pc0 := 4) (pc' := 48) rfl (hb hby d_prog_15_method_5_code_4) rfl (by decide) (by decide) (by decide) ?_
    show Steps p.tables e below (T46.setTop (mkF m 48 #[.val (.ref w10)] [])) _
    refine XT.iconstV X46.here hx rfl (0 : Int32) (hb hby d_prog_15_method_5_code_48) rfl ?_
    show Steps p.tables e below (T46.setTop (mkF m 49 #[.val (.ref w10)] [(.int (0 : Int32))])) _
    exact retN X46 hx (t := .boolean) Bd.returns (by simp) (hb hby d_prog_15_method_5_code_49) hr
  · show own_Q (some (.int (0 : Int32))) h0 n0 _ T46.heap _
    rw [e46]
    exact ⟨rfl, N46, rfl⟩
set_option maxRecDepth 65536 in
set_option maxHeartbeats 40000000 in
theorem own_ordinal_11 (l : Launch) (Z : State) (a0 : Array Value) (hw : ∀ d ∈ tables_1, d.before a0 Z = true) (ws : List Jvm.Cond) (w0 w1 w2 w3 w4 w5 w6 w7 w8 w9 w10 w11 w12 w13 w14 w15 w16 w17 w18 w19 w20 w21 w22 w23 : Addr) (h0 : Heap) (n0 : Nat) (Z0 : n0 ≤ h0.size) (P : own_P Z h0 w0 w1 w2 w3 w4 w5 w6 w7 w8 w9 w10 w11 w12 w13 w14 w15 w16 w17 w18 w19 w20 w21 w22 w23) :
    MetFree l (⟨"java/lang/Enum", "ordinal", "()I"⟩ : MethodName) (head1 (Jvm.Cond.code (⟨"java/lang/Enum", "ordinal", "()I"⟩ : MethodName) jdk_37_method_2_code 1 (some .int) :: ws) ({ frames := 0, cells := 0, slots := 0, locals := 0 } : Room)) (fun a U => a = #[(.ref w11)] ∧ Z.Warmed39 U.vm ∧ U.heap = h0) (fun _ _ _ _ _ => True) (fun _ U o U' => ∃ v L, o = .returned v ∧ own_Q (some (.int (23 : Int32))) h0 n0 v U'.heap L ∧ FrameEnd U o U' L ({ frames := 0, cells := 0, slots := 0, locals := 0 } : Room).cells ({ frames := 0, cells := 0, slots := 0, locals := 0 } : Room).slots) := by
  refine MetFree.of_bodySF (plainFor_of_name pn_java_lang_Enum) hisR ?_
  intro p e s m args below meth c s₁ Bd hml0 hP hK
  obtain ⟨rfl, hZ, hh⟩ := hP
  have hx := Bd.exec
  have hby := Bd.bytes
  have hml : c.maxLocals = 1 := hml0
  have hown : s.vm.findClass "java/lang/Enum" = some m.cls := findClass_of_methodNamed Bd.named
  have hnm := (name_of_methodNamed Bd.named Bd.method).1
  have X0 : Stand p l e ({ frames := 0, cells := 0, slots := 0, locals := 0 } : Room) s m #[(.ref w11)] below meth c s₁ [] 0 0 := Stand.of_body Bd
  have e0 : s₁.heap = h0 := by rw [← hh, Bd.state]; rfl
  have N0 := Fr.nil n0
  have pre0 : ∀ t, Steps p.tables e below (s₁.setTop (mkF m 0 #[.val (.ref w11)] [])) t → Steps p.tables e below (s₁.setTop (entryFrame m #[(.ref w11)] 1)) t := fun t k => castTop (ef_jdk_37_method_2_code_A m w11) k
  have P0 := P; obtain ⟨S0, E0, F0_ordinal, S1, E1, F1_ordinal, S2, E2, F2_ordinal, S3, E3, F3_ordinal, S4, E4, F4_ordinal, S5, E5, F5_ordinal, S6, E6, F6_ordinal, S7, E7, F7_ordinal, S8, E8, F8_ordinal, S9, E9, F9_ordinal, S10, E10, F10_ordinal, S11, E11, F11_ordinal, S12, E12, F12_ordinal, S13, E13, F13_ordinal, S14, E14, F14_ordinal, S15, E15, F15_ordinal, S16, E16, F16_ordinal, S17, E17, F17_ordinal, S18, E18, F18_ordinal, S19, E19, F19_ordinal, S20, E20, F20_ordinal, S21, E21, F21_ordinal, S22, E22, F22_ordinal, S23, E23, F23_ordinal⟩ := P0
  obtain ⟨T47, X47, e47, st47⟩ := getF X0 hx hZ hown (host := "") (Or.inl (hw _ (List.mem_of_getElem? (i := 20) rfl))) Via.refl e0 F11_ordinal (g := (mkF m 1 #[.val (.ref w11)] [(.ref w11)])) rfl rfl (hb hby d_jdk_37_method_2_code_1)
  obtain ⟨fs, hr, hrun, hended, hW, hsame⟩ := X47.leave (v := some (.int (23 : Int32))) (fun h => by rw [Bd.returns] at h; cases h)
  refine ⟨_, _, pre0 _ ?_, hrun, hended, _, _, rfl, ?_, ⟨_, rfl⟩, hW, hsame.mono (by decide) (by decide)⟩
  · show Steps p.tables e below (s₁.setTop (mkF m 0 #[.val (.ref w11)] [])) _
    refine XS.aloadN X0.here hx rfl (hb hby d_jdk_37_method_2_code_0) rfl rfl ?_
    show Steps p.tables e below (s₁.setTop (mkF m 1 #[.val (.ref w11)] [(.ref w11)])) _
    refine st47 _ ?_
    show Steps p.tables e below (T47.setTop (mkF m 4 #[.val (.ref w11)] [(.int (23 : Int32))])) _
    exact retI X47 hx Bd.returns (hb hby d_jdk_37_method_2_code_4) hr
  · show own_Q (some (.int (23 : Int32))) h0 n0 _ T47.heap _
    rw [e47]
    exact ⟨rfl, N0, rfl⟩
set_option maxRecDepth 65536 in
set_option maxHeartbeats 40000000 in
theorem own_isDecimal_11 (l : Launch) (Z : State) (a0 : Array Value) (hw : ∀ d ∈ tables_1, d.before a0 Z = true) (ws : List Jvm.Cond) (w0 w1 w2 w3 w4 w5 w6 w7 w8 w9 w10 w11 w12 w13 w14 w15 w16 w17 w18 w19 w20 w21 w22 w23 : Addr) (h0 : Heap) (n0 : Nat) (Z0 : n0 ≤ h0.size) (P : own_P Z h0 w0 w1 w2 w3 w4 w5 w6 w7 w8 w9 w10 w11 w12 w13 w14 w15 w16 w17 w18 w19 w20 w21 w22 w23) :
    MetFree l (⟨"apportion/io/DataType", "isDecimal", "()Z"⟩ : MethodName) (head1 (Jvm.Cond.code (⟨"apportion/io/DataType", "isDecimal", "()Z"⟩ : MethodName) prog_15_method_5_code 1 (some .boolean) :: ws) ({ frames := 1, cells := 0, slots := 0, locals := 12 } : Room)) (fun a U => a = #[(.ref w11)] ∧ Z.Warmed39 U.vm ∧ U.heap = h0) (fun _ _ _ _ _ => True) (fun _ U o U' => ∃ v L, o = .returned v ∧ own_Q (some (.int (0 : Int32))) h0 n0 v U'.heap L ∧ FrameEnd U o U' L ({ frames := 1, cells := 0, slots := 0, locals := 12 } : Room).cells ({ frames := 1, cells := 0, slots := 0, locals := 12 } : Room).slots) := by
  refine MetFree.of_bodySF (plainFor_of_name pn_apportion_io_DataType) hisR ?_
  intro p e s m args below meth c s₁ Bd hml0 hP hK
  obtain ⟨rfl, hZ, hh⟩ := hP
  have hx := Bd.exec
  have hby := Bd.bytes
  have hml : c.maxLocals = 1 := hml0
  have hown : s.vm.findClass "apportion/io/DataType" = some m.cls := findClass_of_methodNamed Bd.named
  have hnm := (name_of_methodNamed Bd.named Bd.method).1
  have X0 : Stand p l e ({ frames := 1, cells := 0, slots := 0, locals := 12 } : Room) s m #[(.ref w11)] below meth c s₁ [] 0 0 := Stand.of_body Bd
  have e0 : s₁.heap = h0 := by rw [← hh, Bd.state]; rfl
  have N0 := Fr.nil n0
  have pre0 : ∀ t, Steps p.tables e below (s₁.setTop (mkF m 0 #[.val (.ref w11)] [])) t → Steps p.tables e below (s₁.setTop (entryFrame m #[(.ref w11)] 1)) t := fun t k => castTop (ef_prog_15_method_5_code_A m w11) k
  have P0 := P; obtain ⟨S0, E0, F0_ordinal, S1, E1, F1_ordinal, S2, E2, F2_ordinal, S3, E3, F3_ordinal, S4, E4, F4_ordinal, S5, E5, F5_ordinal, S6, E6, F6_ordinal, S7, E7, F7_ordinal, S8, E8, F8_ordinal, S9, E9, F9_ordinal, S10, E10, F10_ordinal, S11, E11, F11_ordinal, S12, E12, F12_ordinal, S13, E13, F13_ordinal, S14, E14, F14_ordinal, S15, E15, F15_ordinal, S16, E16, F16_ordinal, S17, E17, F17_ordinal, S18, E18, F18_ordinal, S19, E19, F19_ordinal, S20, E20, F20_ordinal, S21, E21, F21_ordinal, S22, E22, F22_ordinal, S23, E23, F23_ordinal⟩ := P0
  obtain ⟨cq48, kq48, q48a, q48b, q48c⟩ := isOf hZ e0 E11
  obtain ⟨_, _, ⟨T48, L48, k48, n48⟩, -, X48, ⟨Lc48, hQ48, l48, y48, z48⟩, st48⟩ := X0.virtualBackUp hx (owner := "java/lang/Enum") (x := (⟨"apportion/io/DataType", "ordinal", "()I"⟩ : MethodName)) (y := (⟨"java/lang/Enum", "ordinal", "()I"⟩ : MethodName)) hown (mvT hZ (hw _ (List.mem_of_getElem? (i := 13) rfl))) (mvT hZ (hw _ (List.mem_of_getElem? (i := 14) rfl))) (mvT hZ (hw _ (List.mem_of_getElem? (i := 15) rfl))) (by decide) (mvT hZ (hw _ (List.mem_of_getElem? (i := 17) rfl))) (mvT hZ (hw _ (List.mem_of_getElem? (i := 16) rfl))) (backOf (W := 0) (own_ordinal_11 l Z a0 hw [] w0 w1 w2 w3 w4 w5 w6 w7 w8 w9 w10 w11 w12 w13 w14 w15 w16 w17 w18 w19 w20 w21 w22 w23 h0 n0 Z0 P) hZ (hw _ (List.mem_of_getElem? (i := 19) rfl)) (hw _ (List.mem_of_getElem? (i := 18) rfl)) (by decide) (by decide)) q48a q48c (g := (mkF m 1 #[.val (.ref w11)] [(.ref w11)])) rfl (by rw [hml]; rfl) (Steps.refl _) (argsL := []) (rest := []) (lenOf pd___I rfl) rfl (by show 2 * 0 + _ ≤ _; exact Nat.le_of_eq rfl) (hb hby d_prog_15_method_5_code_1) (fun _ _ => ⟨rfl, e0, (by decide : 0 + 0 ≤ _), (by decide : 0 + 0 ≤ _)⟩)
  dsimp only [Pt.U, Pt.locs, Pt.cells, Pt.slots] at X48 l48 y48 z48 st48 hQ48
  subst l48 y48 z48
  obtain ⟨rfl, N48q, e48⟩ := hQ48
  have N48 := Fr.app N0 N48q
  obtain ⟨fs, hr, hrun, hended, hW, hsame⟩ := X48.leave (v := some (.int (0 : Int32))) (fun h => by rw [Bd.returns] at h; cases h)
  refine ⟨_, _, pre0 _ ?_, hrun, hended, _, _, rfl, ?_, ⟨_, rfl⟩, hW, hsame.mono (by decide) (by decide)⟩
  · show Steps p.tables e below (s₁.setTop (mkF m 0 #[.val (.ref w11)] [])) _
    refine XS.aloadN X0.here hx rfl (hb hby d_prog_15_method_5_code_0) rfl rfl ?_
    show Steps p.tables e below (s₁.setTop (mkF m 1 #[.val (.ref w11)] [(.ref w11)])) _
    refine st48.trans ?_
    show Steps p.tables e below (T48.setTop (mkF m 4 #[.val (.ref w11)] [(.int (23 : Int32))])) _
    refine XS.tswOut X48.here hx rfl (pc0 := 4) (pc' := 48) rfl (hb hby d_prog_15_method_5_code_4) rfl (by decide) (by decide) (by decide) ?_
    show Steps p.tables e below (T48.setTop (mkF m 48 #[.val (.ref w11)] [])) _
    refine XT.iconstV X48.here hx rfl (0 : Int32) (hb hby d_prog_15_method_5_code_48) rfl ?_
    show Steps p.tables e below (T48.setTop (mkF m 49 #[.val (.ref w11)] [(.int (0 : Int32))])) _
    exact retN X48 hx (t := .boolean) Bd.returns (by simp) (hb hby d_prog_15_method_5_code_49) hr
  · show own_Q (some (.int (0 : Int32))) h0 n0 _ T48.heap _
    rw [e48]
    exact ⟨rfl, N48, rfl⟩
set_option maxRecDepth 65536 in
set_option maxHeartbeats 40000000 in
theorem own_ordinal_12 (l : Launch) (Z : State) (a0 : Array Value) (hw : ∀ d ∈ tables_1, d.before a0 Z = true) (ws : List Jvm.Cond) (w0 w1 w2 w3 w4 w5 w6 w7 w8 w9 w10 w11 w12 w13 w14 w15 w16 w17 w18 w19 w20 w21 w22 w23 : Addr) (h0 : Heap) (n0 : Nat) (Z0 : n0 ≤ h0.size) (P : own_P Z h0 w0 w1 w2 w3 w4 w5 w6 w7 w8 w9 w10 w11 w12 w13 w14 w15 w16 w17 w18 w19 w20 w21 w22 w23) :
    MetFree l (⟨"java/lang/Enum", "ordinal", "()I"⟩ : MethodName) (head1 (Jvm.Cond.code (⟨"java/lang/Enum", "ordinal", "()I"⟩ : MethodName) jdk_37_method_2_code 1 (some .int) :: ws) ({ frames := 0, cells := 0, slots := 0, locals := 0 } : Room)) (fun a U => a = #[(.ref w12)] ∧ Z.Warmed39 U.vm ∧ U.heap = h0) (fun _ _ _ _ _ => True) (fun _ U o U' => ∃ v L, o = .returned v ∧ own_Q (some (.int (10 : Int32))) h0 n0 v U'.heap L ∧ FrameEnd U o U' L ({ frames := 0, cells := 0, slots := 0, locals := 0 } : Room).cells ({ frames := 0, cells := 0, slots := 0, locals := 0 } : Room).slots) := by
  refine MetFree.of_bodySF (plainFor_of_name pn_java_lang_Enum) hisR ?_
  intro p e s m args below meth c s₁ Bd hml0 hP hK
  obtain ⟨rfl, hZ, hh⟩ := hP
  have hx := Bd.exec
  have hby := Bd.bytes
  have hml : c.maxLocals = 1 := hml0
  have hown : s.vm.findClass "java/lang/Enum" = some m.cls := findClass_of_methodNamed Bd.named
  have hnm := (name_of_methodNamed Bd.named Bd.method).1
  have X0 : Stand p l e ({ frames := 0, cells := 0, slots := 0, locals := 0 } : Room) s m #[(.ref w12)] below meth c s₁ [] 0 0 := Stand.of_body Bd
  have e0 : s₁.heap = h0 := by rw [← hh, Bd.state]; rfl
  have N0 := Fr.nil n0
  have pre0 : ∀ t, Steps p.tables e below (s₁.setTop (mkF m 0 #[.val (.ref w12)] [])) t → Steps p.tables e below (s₁.setTop (entryFrame m #[(.ref w12)] 1)) t := fun t k => castTop (ef_jdk_37_method_2_code_A m w12) k
  have P0 := P; obtain ⟨S0, E0, F0_ordinal, S1, E1, F1_ordinal, S2, E2, F2_ordinal, S3, E3, F3_ordinal, S4, E4, F4_ordinal, S5, E5, F5_ordinal, S6, E6, F6_ordinal, S7, E7, F7_ordinal, S8, E8, F8_ordinal, S9, E9, F9_ordinal, S10, E10, F10_ordinal, S11, E11, F11_ordinal, S12, E12, F12_ordinal, S13, E13, F13_ordinal, S14, E14, F14_ordinal, S15, E15, F15_ordinal, S16, E16, F16_ordinal, S17, E17, F17_ordinal, S18, E18, F18_ordinal, S19, E19, F19_ordinal, S20, E20, F20_ordinal, S21, E21, F21_ordinal, S22, E22, F22_ordinal, S23, E23, F23_ordinal⟩ := P0
  obtain ⟨T49, X49, e49, st49⟩ := getF X0 hx hZ hown (host := "") (Or.inl (hw _ (List.mem_of_getElem? (i := 20) rfl))) Via.refl e0 F12_ordinal (g := (mkF m 1 #[.val (.ref w12)] [(.ref w12)])) rfl rfl (hb hby d_jdk_37_method_2_code_1)
  obtain ⟨fs, hr, hrun, hended, hW, hsame⟩ := X49.leave (v := some (.int (10 : Int32))) (fun h => by rw [Bd.returns] at h; cases h)
  refine ⟨_, _, pre0 _ ?_, hrun, hended, _, _, rfl, ?_, ⟨_, rfl⟩, hW, hsame.mono (by decide) (by decide)⟩
  · show Steps p.tables e below (s₁.setTop (mkF m 0 #[.val (.ref w12)] [])) _
    refine XS.aloadN X0.here hx rfl (hb hby d_jdk_37_method_2_code_0) rfl rfl ?_
    show Steps p.tables e below (s₁.setTop (mkF m 1 #[.val (.ref w12)] [(.ref w12)])) _
    refine st49 _ ?_
    show Steps p.tables e below (T49.setTop (mkF m 4 #[.val (.ref w12)] [(.int (10 : Int32))])) _
    exact retI X49 hx Bd.returns (hb hby d_jdk_37_method_2_code_4) hr
  · show own_Q (some (.int (10 : Int32))) h0 n0 _ T49.heap _
    rw [e49]
    exact ⟨rfl, N0, rfl⟩
set_option maxRecDepth 65536 in
set_option maxHeartbeats 40000000 in
theorem own_isDecimal_12 (l : Launch) (Z : State) (a0 : Array Value) (hw : ∀ d ∈ tables_1, d.before a0 Z = true) (ws : List Jvm.Cond) (w0 w1 w2 w3 w4 w5 w6 w7 w8 w9 w10 w11 w12 w13 w14 w15 w16 w17 w18 w19 w20 w21 w22 w23 : Addr) (h0 : Heap) (n0 : Nat) (Z0 : n0 ≤ h0.size) (P : own_P Z h0 w0 w1 w2 w3 w4 w5 w6 w7 w8 w9 w10 w11 w12 w13 w14 w15 w16 w17 w18 w19 w20 w21 w22 w23) :
    MetFree l (⟨"apportion/io/DataType", "isDecimal", "()Z"⟩ : MethodName) (head1 (Jvm.Cond.code (⟨"apportion/io/DataType", "isDecimal", "()Z"⟩ : MethodName) prog_15_method_5_code 1 (some .boolean) :: ws) ({ frames := 1, cells := 0, slots := 0, locals := 12 } : Room)) (fun a U => a = #[(.ref w12)] ∧ Z.Warmed39 U.vm ∧ U.heap = h0) (fun _ _ _ _ _ => True) (fun _ U o U' => ∃ v L, o = .returned v ∧ own_Q (some (.int (1 : Int32))) h0 n0 v U'.heap L ∧ FrameEnd U o U' L ({ frames := 1, cells := 0, slots := 0, locals := 12 } : Room).cells ({ frames := 1, cells := 0, slots := 0, locals := 12 } : Room).slots) := by
  refine MetFree.of_bodySF (plainFor_of_name pn_apportion_io_DataType) hisR ?_
  intro p e s m args below meth c s₁ Bd hml0 hP hK
  obtain ⟨rfl, hZ, hh⟩ := hP
  have hx := Bd.exec
  have hby := Bd.bytes
  have hml : c.maxLocals = 1 := hml0
  have hown : s.vm.findClass "apportion/io/DataType" = some m.cls := findClass_of_methodNamed Bd.named
  have hnm := (name_of_methodNamed Bd.named Bd.method).1
  have X0 : Stand p l e ({ frames := 1, cells := 0, slots := 0, locals := 12 } : Room) s m #[(.ref w12)] below meth c s₁ [] 0 0 := Stand.of_body Bd
  have e0 : s₁.heap = h0 := by rw [← hh, Bd.state]; rfl
  have N0 := Fr.nil n0
  have pre0 : ∀ t, Steps p.tables e below (s₁.setTop (mkF m 0 #[.val (.ref w12)] [])) t → Steps p.tables e below (s₁.setTop (entryFrame m #[(.ref w12)] 1)) t := fun t k => castTop (ef_prog_15_method_5_code_A m w12) k
  have P0 := P; obtain ⟨S0, E0, F0_ordinal, S1, E1, F1_ordinal, S2, E2, F2_ordinal, S3, E3, F3_ordinal, S4, E4, F4_ordinal, S5, E5, F5_ordinal, S6, E6, F6_ordinal, S7, E7, F7_ordinal, S8, E8, F8_ordinal, S9, E9, F9_ordinal, S10, E10, F10_ordinal, S11, E11, F11_ordinal, S12, E12, F12_ordinal, S13, E13, F13_ordinal, S14, E14, F14_ordinal, S15, E15, F15_ordinal, S16, E16, F16_ordinal, S17, E17, F17_ordinal, S18, E18, F18_ordinal, S19, E19, F19_ordinal, S20, E20, F20_ordinal, S21, E21, F21_ordinal, S22, E22, F22_ordinal, S23, E23, F23_ordinal⟩ := P0
  obtain ⟨cq50, kq50, q50a, q50b, q50c⟩ := isOf hZ e0 E12
  obtain ⟨_, _, ⟨T50, L50, k50, n50⟩, -, X50, ⟨Lc50, hQ50, l50, y50, z50⟩, st50⟩ := X0.virtualBackUp hx (owner := "java/lang/Enum") (x := (⟨"apportion/io/DataType", "ordinal", "()I"⟩ : MethodName)) (y := (⟨"java/lang/Enum", "ordinal", "()I"⟩ : MethodName)) hown (mvT hZ (hw _ (List.mem_of_getElem? (i := 13) rfl))) (mvT hZ (hw _ (List.mem_of_getElem? (i := 14) rfl))) (mvT hZ (hw _ (List.mem_of_getElem? (i := 15) rfl))) (by decide) (mvT hZ (hw _ (List.mem_of_getElem? (i := 17) rfl))) (mvT hZ (hw _ (List.mem_of_getElem? (i := 16) rfl))) (backOf (W := 0) (own_ordinal_12 l Z a0 hw [] w0 w1 w2 w3 w4 w5 w6 w7 w8 w9 w10 w11 w12 w13 w14 w15 w16 w17 w18 w19 w20 w21 w22 w23 h0 n0 Z0 P) hZ (hw _ (List.mem_of_getElem? (i := 19) rfl)) (hw _ (List.mem_of_getElem? (i := 18) rfl)) (by decide) (by decide)) q50a q50c (g := (mkF m 1 #[.val (.ref w12)] [(.ref w12)])) rfl (by rw [hml]; rfl) (Steps.refl _) (argsL := []) (rest := []) (lenOf pd___I rfl) rfl (by show 2 * 0 + _ ≤ _; exact Nat.le_of_eq rfl) (hb hby d_prog_15_method_5_code_1) (fun _ _ => ⟨rfl, e0, (by decide : 0 + 0 ≤ _), (by decide : 0 + 0 ≤ _)⟩)
  dsimp only [Pt.U, Pt.locs, Pt.cells, Pt.slots] at X50 l50 y50 z50 st50 hQ50
  subst l50 y50 z50
  obtain ⟨rfl, N50q, e50⟩ := hQ50
  have N50 := Fr.app N0 N50q
  obtain ⟨fs, hr, hrun, hended, hW, hsame⟩ := X50.leave (v := some (.int (1 : Int32))) (fun h => by rw [Bd.returns] at h; cases h)
  refine ⟨_, _, pre0 _ ?_, hrun, hended, _, _, rfl, ?_, ⟨_, rfl⟩, hW, hsame.mono (by decide) (by decide)⟩
  · show Steps p.tables e below (s₁.setTop (mkF m 0 #[.val (.ref w12)] [])) _
    refine XS.aloadN X0.here hx rfl (hb hby d_prog_15_method_5_code_0) rfl rfl ?_
    show Steps p.tables e below (s₁.setTop (mkF m 1 #[.val (.ref w12)] [(.ref w12)])) _
    refine st50.trans ?_
    show Steps p.tables e below (T50.setTop (mkF m 4 #[.val (.ref w12)] [(.int (10 : Int32))])) _
    refine XS.tswIn X50.here hx rfl (o := 40) (pc0 := 4) (pc' := 44) rfl (hb hby d_prog_15_method_5_code_4) rfl (by decide) (by decide) (by decide) (by decide) ?_
    show Steps p.tables e below (T50.setTop (mkF m 44 #[.val (.ref w12)] [])) _
    refine XT.iconstV X50.here hx rfl (1 : Int32) (hb hby d_prog_15_method_5_code_44) rfl ?_
    show Steps p.tables e below (T50.setTop (mkF m 45 #[.val (.ref w12)] [(.int (1 : Int32))])) _
    refine XS.goto X50.here hx rfl (pc0 := 45) (pc' := 49) rfl (hb hby d_prog_15_method_5_code_45) (by decide) (by decide) ?_
    show Steps p.tables e below (T50.setTop (mkF m 49 #[.val (.ref w12)] [(.int (1 : Int32))])) _
    exact retN X50 hx (t := .boolean) Bd.returns (by simp) (hb hby d_prog_15_method_5_code_49) hr
  · show own_Q (some (.int (1 : Int32))) h0 n0 _ T50.heap _
    rw [e50]
    exact ⟨rfl, N50, rfl⟩
set_option maxRecDepth 65536 in
set_option maxHeartbeats 40000000 in
theorem own_ordinal_13 (l : Launch) (Z : State) (a0 : Array Value) (hw : ∀ d ∈ tables_1, d.before a0 Z = true) (ws : List Jvm.Cond) (w0 w1 w2 w3 w4 w5 w6 w7 w8 w9 w10 w11 w12 w13 w14 w15 w16 w17 w18 w19 w20 w21 w22 w23 : Addr) (h0 : Heap) (n0 : Nat) (Z0 : n0 ≤ h0.size) (P : own_P Z h0 w0 w1 w2 w3 w4 w5 w6 w7 w8 w9 w10 w11 w12 w13 w14 w15 w16 w17 w18 w19 w20 w21 w22 w23) :
    MetFree l (⟨"java/lang/Enum", "ordinal", "()I"⟩ : MethodName) (head1 (Jvm.Cond.code (⟨"java/lang/Enum", "ordinal", "()I"⟩ : MethodName) jdk_37_method_2_code 1 (some .int) :: ws) ({ frames := 0, cells := 0, slots := 0, locals := 0 } : Room)) (fun a U => a = #[(.ref w13)] ∧ Z.Warmed39 U.vm ∧ U.heap = h0) (fun _ _ _ _ _ => True) (fun _ U o U' => ∃ v L, o = .returned v ∧ own_Q (some (.int (9 : Int32))) h0 n0 v U'.heap L ∧ FrameEnd U o U' L ({ frames := 0, cells := 0, slots := 0, locals := 0 } : Room).cells ({ frames := 0, cells := 0, slots := 0, locals := 0 } : Room).slots) := by
  refine MetFree.of_bodySF (plainFor_of_name pn_java_lang_Enum) hisR ?_
  intro p e s m args below meth c s₁ Bd hml0 hP hK
  obtain ⟨rfl, hZ, hh⟩ := hP
  have hx := Bd.exec
  have hby := Bd.bytes
  have hml : c.maxLocals = 1 := hml0
  have hown : s.vm.findClass "java/lang/Enum" = some m.cls := findClass_of_methodNamed Bd.named
  have hnm := (name_of_methodNamed Bd.named Bd.method).1
  have X0 : Stand p l e ({ frames := 0, cells := 0, slots := 0, locals := 0 } : Room) s m #[(.ref w13)] below meth c s₁ [] 0 0 := Stand.of_body Bd
  have e0 : s₁.heap = h0 := by rw [← hh, Bd.state]; rfl
  have N0 := Fr.nil n0
  have pre0 : ∀ t, Steps p.tables e below (s₁.setTop (mkF m 0 #[.val (.ref w13)] [])) t → Steps p.tables e below (s₁.setTop (entryFrame m #[(.ref w13)] 1)) t := fun t k => castTop (ef_jdk_37_method_2_code_A m w13) k
  have P0 := P; obtain ⟨S0, E0, F0_ordinal, S1, E1, F1_ordinal, S2, E2, F2_ordinal, S3, E3, F3_ordinal, S4, E4, F4_ordinal, S5, E5, F5_ordinal, S6, E6, F6_ordinal, S7, E7, F7_ordinal, S8, E8, F8_ordinal, S9, E9, F9_ordinal, S10, E10, F10_ordinal, S11, E11, F11_ordinal, S12, E12, F12_ordinal, S13, E13, F13_ordinal, S14, E14, F14_ordinal, S15, E15, F15_ordinal, S16, E16, F16_ordinal, S17, E17, F17_ordinal, S18, E18, F18_ordinal, S19, E19, F19_ordinal, S20, E20, F20_ordinal, S21, E21, F21_ordinal, S22, E22, F22_ordinal, S23, E23, F23_ordinal⟩ := P0
  obtain ⟨T51, X51, e51, st51⟩ := getF X0 hx hZ hown (host := "") (Or.inl (hw _ (List.mem_of_getElem? (i := 20) rfl))) Via.refl e0 F13_ordinal (g := (mkF m 1 #[.val (.ref w13)] [(.ref w13)])) rfl rfl (hb hby d_jdk_37_method_2_code_1)
  obtain ⟨fs, hr, hrun, hended, hW, hsame⟩ := X51.leave (v := some (.int (9 : Int32))) (fun h => by rw [Bd.returns] at h; cases h)
  refine ⟨_, _, pre0 _ ?_, hrun, hended, _, _, rfl, ?_, ⟨_, rfl⟩, hW, hsame.mono (by decide) (by decide)⟩
  · show Steps p.tables e below (s₁.setTop (mkF m 0 #[.val (.ref w13)] [])) _
    refine XS.aloadN X0.here hx rfl (hb hby d_jdk_37_method_2_code_0) rfl rfl ?_
    show Steps p.tables e below (s₁.setTop (mkF m 1 #[.val (.ref w13)] [(.ref w13)])) _
    refine st51 _ ?_
    show Steps p.tables e below (T51.setTop (mkF m 4 #[.val (.ref w13)] [(.int (9 : Int32))])) _
    exact retI X51 hx Bd.returns (hb hby d_jdk_37_method_2_code_4) hr
  · show own_Q (some (.int (9 : Int32))) h0 n0 _ T51.heap _
    rw [e51]
    exact ⟨rfl, N0, rfl⟩
set_option maxRecDepth 65536 in
set_option maxHeartbeats 40000000 in
theorem own_isDecimal_13 (l : Launch) (Z : State) (a0 : Array Value) (hw : ∀ d ∈ tables_1, d.before a0 Z = true) (ws : List Jvm.Cond) (w0 w1 w2 w3 w4 w5 w6 w7 w8 w9 w10 w11 w12 w13 w14 w15 w16 w17 w18 w19 w20 w21 w22 w23 : Addr) (h0 : Heap) (n0 : Nat) (Z0 : n0 ≤ h0.size) (P : own_P Z h0 w0 w1 w2 w3 w4 w5 w6 w7 w8 w9 w10 w11 w12 w13 w14 w15 w16 w17 w18 w19 w20 w21 w22 w23) :
    MetFree l (⟨"apportion/io/DataType", "isDecimal", "()Z"⟩ : MethodName) (head1 (Jvm.Cond.code (⟨"apportion/io/DataType", "isDecimal", "()Z"⟩ : MethodName) prog_15_method_5_code 1 (some .boolean) :: ws) ({ frames := 1, cells := 0, slots := 0, locals := 12 } : Room)) (fun a U => a = #[(.ref w13)] ∧ Z.Warmed39 U.vm ∧ U.heap = h0) (fun _ _ _ _ _ => True) (fun _ U o U' => ∃ v L, o = .returned v ∧ own_Q (some (.int (1 : Int32))) h0 n0 v U'.heap L ∧ FrameEnd U o U' L ({ frames := 1, cells := 0, slots := 0, locals := 12 } : Room).cells ({ frames := 1, cells := 0, slots := 0, locals := 12 } : Room).slots) := by
  refine MetFree.of_bodySF (plainFor_of_name pn_apportion_io_DataType) hisR ?_
  intro p e s m args below meth c s₁ Bd hml0 hP hK
  obtain ⟨rfl, hZ, hh⟩ := hP
  have hx := Bd.exec
  have hby := Bd.bytes
  have hml : c.maxLocals = 1 := hml0
  have hown : s.vm.findClass "apportion/io/DataType" = some m.cls := findClass_of_methodNamed Bd.named
  have hnm := (name_of_methodNamed Bd.named Bd.method).1
  have X0 : Stand p l e ({ frames := 1, cells := 0, slots := 0, locals := 12 } : Room) s m #[(.ref w13)] below meth c s₁ [] 0 0 := Stand.of_body Bd
  have e0 : s₁.heap = h0 := by rw [← hh, Bd.state]; rfl
  have N0 := Fr.nil n0
  have pre0 : ∀ t, Steps p.tables e below (s₁.setTop (mkF m 0 #[.val (.ref w13)] [])) t → Steps p.tables e below (s₁.setTop (entryFrame m #[(.ref w13)] 1)) t := fun t k => castTop (ef_prog_15_method_5_code_A m w13) k
  have P0 := P; obtain ⟨S0, E0, F0_ordinal, S1, E1, F1_ordinal, S2, E2, F2_ordinal, S3, E3, F3_ordinal, S4, E4, F4_ordinal, S5, E5, F5_ordinal, S6, E6, F6_ordinal, S7, E7, F7_ordinal, S8, E8, F8_ordinal, S9, E9, F9_ordinal, S10, E10, F10_ordinal, S11, E11, F11_ordinal, S12, E12, F12_ordinal, S13, E13, F13_ordinal, S14, E14, F14_ordinal, S15, E15, F15_ordinal, S16, E16, F16_ordinal, S17, E17, F17_ordinal, S18, E18, F18_ordinal, S19, E19, F19_ordinal, S20, E20, F20_ordinal, S21, E21, F21_ordinal, S22, E22, F22_ordinal, S23, E23, F23_ordinal⟩ := P0
  obtain ⟨cq52, kq52, q52a, q52b, q52c⟩ := isOf hZ e0 E13
  obtain ⟨_, _, ⟨T52, L52, k52, n52⟩, -, X52, ⟨Lc52, hQ52, l52, y52, z52⟩, st52⟩ := X0.virtualBackUp hx (owner := "java/lang/Enum") (x := (⟨"apportion/io/DataType", "ordinal", "()I"⟩ : MethodName)) (y := (⟨"java/lang/Enum", "ordinal", "()I"⟩ : MethodName)) hown (mvT hZ (hw _ (List.mem_of_getElem? (i := 13) rfl))) (mvT hZ (hw _ (List.mem_of_getElem? (i := 14) rfl))) (mvT hZ (hw _ (List.mem_of_getElem? (i := 15) rfl))) (by decide) (mvT hZ (hw _ (List.mem_of_getElem? (i := 17) rfl))) (mvT hZ (hw _ (List.mem_of_getElem? (i := 16) rfl))) (backOf (W := 0) (own_ordinal_13 l Z a0 hw [] w0 w1 w2 w3 w4 w5 w6 w7 w8 w9 w10 w11 w12 w13 w14 w15 w16 w17 w18 w19 w20 w21 w22 w23 h0 n0 Z0 P) hZ (hw _ (List.mem_of_getElem? (i := 19) rfl)) (hw _ (List.mem_of_getElem? (i := 18) rfl)) (by decide) (by decide)) q52a q52c (g := (mkF m 1 #[.val (.ref w13)] [(.ref w13)])) rfl (by rw [hml]; rfl) (Steps.refl _) (argsL := []) (rest := []) (lenOf pd___I rfl) rfl (by show 2 * 0 + _ ≤ _; exact Nat.le_of_eq rfl) (hb hby d_prog_15_method_5_code_1) (fun _ _ => ⟨rfl, e0, (by decide : 0 + 0 ≤ _), (by decide : 0 + 0 ≤ _)⟩)
  dsimp only [Pt.U, Pt.locs, Pt.cells, Pt.slots] at X52 l52 y52 z52 st52 hQ52
  subst l52 y52 z52
  obtain ⟨rfl, N52q, e52⟩ := hQ52
  have N52 := Fr.app N0 N52q
  obtain ⟨fs, hr, hrun, hended, hW, hsame⟩ := X52.leave (v := some (.int (1 : Int32))) (fun h => by rw [Bd.returns] at h; cases h)
  refine ⟨_, _, pre0 _ ?_, hrun, hended, _, _, rfl, ?_, ⟨_, rfl⟩, hW, hsame.mono (by decide) (by decide)⟩
  · show Steps p.tables e below (s₁.setTop (mkF m 0 #[.val (.ref w13)] [])) _
    refine XS.aloadN X0.here hx rfl (hb hby d_prog_15_method_5_code_0) rfl rfl ?_
    show Steps p.tables e below (s₁.setTop (mkF m 1 #[.val (.ref w13)] [(.ref w13)])) _
    refine st52.trans ?_
    show Steps p.tables e below (T52.setTop (mkF m 4 #[.val (.ref w13)] [(.int (9 : Int32))])) _
    refine XS.tswIn X52.here hx rfl (o := 40) (pc0 := 4) (pc' := 44) rfl (hb hby d_prog_15_method_5_code_4) rfl (by decide) (by decide) (by decide) (by decide) ?_
    show Steps p.tables e below (T52.setTop (mkF m 44 #[.val (.ref w13)] [])) _
    refine XT.iconstV X52.here hx rfl (1 : Int32) (hb hby d_prog_15_method_5_code_44) rfl ?_
    show Steps p.tables e below (T52.setTop (mkF m 45 #[.val (.ref w13)] [(.int (1 : Int32))])) _
    refine XS.goto X52.here hx rfl (pc0 := 45) (pc' := 49) rfl (hb hby d_prog_15_method_5_code_45) (by decide) (by decide) ?_
    show Steps p.tables e below (T52.setTop (mkF m 49 #[.val (.ref w13)] [(.int (1 : Int32))])) _
    exact retN X52 hx (t := .boolean) Bd.returns (by simp) (hb hby d_prog_15_method_5_code_49) hr
  · show own_Q (some (.int (1 : Int32))) h0 n0 _ T52.heap _
    rw [e52]
    exact ⟨rfl, N52, rfl⟩
set_option maxRecDepth 65536 in
set_option maxHeartbeats 40000000 in
theorem own_ordinal_14 (l : Launch) (Z : State) (a0 : Array Value) (hw : ∀ d ∈ tables_1, d.before a0 Z = true) (ws : List Jvm.Cond) (w0 w1 w2 w3 w4 w5 w6 w7 w8 w9 w10 w11 w12 w13 w14 w15 w16 w17 w18 w19 w20 w21 w22 w23 : Addr) (h0 : Heap) (n0 : Nat) (Z0 : n0 ≤ h0.size) (P : own_P Z h0 w0 w1 w2 w3 w4 w5 w6 w7 w8 w9 w10 w11 w12 w13 w14 w15 w16 w17 w18 w19 w20 w21 w22 w23) :
    MetFree l (⟨"java/lang/Enum", "ordinal", "()I"⟩ : MethodName) (head1 (Jvm.Cond.code (⟨"java/lang/Enum", "ordinal", "()I"⟩ : MethodName) jdk_37_method_2_code 1 (some .int) :: ws) ({ frames := 0, cells := 0, slots := 0, locals := 0 } : Room)) (fun a U => a = #[(.ref w14)] ∧ Z.Warmed39 U.vm ∧ U.heap = h0) (fun _ _ _ _ _ => True) (fun _ U o U' => ∃ v L, o = .returned v ∧ own_Q (some (.int (20 : Int32))) h0 n0 v U'.heap L ∧ FrameEnd U o U' L ({ frames := 0, cells := 0, slots := 0, locals := 0 } : Room).cells ({ frames := 0, cells := 0, slots := 0, locals := 0 } : Room).slots) := by
  refine MetFree.of_bodySF (plainFor_of_name pn_java_lang_Enum) hisR ?_
  intro p e s m args below meth c s₁ Bd hml0 hP hK
  obtain ⟨rfl, hZ, hh⟩ := hP
  have hx := Bd.exec
  have hby := Bd.bytes
  have hml : c.maxLocals = 1 := hml0
  have hown : s.vm.findClass "java/lang/Enum" = some m.cls := findClass_of_methodNamed Bd.named
  have hnm := (name_of_methodNamed Bd.named Bd.method).1
  have X0 : Stand p l e ({ frames := 0, cells := 0, slots := 0, locals := 0 } : Room) s m #[(.ref w14)] below meth c s₁ [] 0 0 := Stand.of_body Bd
  have e0 : s₁.heap = h0 := by rw [← hh, Bd.state]; rfl
  have N0 := Fr.nil n0
  have pre0 : ∀ t, Steps p.tables e below (s₁.setTop (mkF m 0 #[.val (.ref w14)] [])) t → Steps p.tables e below (s₁.setTop (entryFrame m #[(.ref w14)] 1)) t := fun t k => castTop (ef_jdk_37_method_2_code_A m w14) k
  have P0 := P; obtain ⟨S0, E0, F0_ordinal, S1, E1, F1_ordinal, S2, E2, F2_ordinal, S3, E3, F3_ordinal, S4, E4, F4_ordinal, S5, E5, F5_ordinal, S6, E6, F6_ordinal, S7, E7, F7_ordinal, S8, E8, F8_ordinal, S9, E9, F9_ordinal, S10, E10, F10_ordinal, S11, E11, F11_ordinal, S12, E12, F12_ordinal, S13, E13, F13_ordinal, S14, E14, F14_ordinal, S15, E15, F15_ordinal, S16, E16, F16_ordinal, S17, E17, F17_ordinal, S18, E18, F18_ordinal, S19, E19, F19_ordinal, S20, E20, F20_ordinal, S21, E21, F21_ordinal, S22, E22, F22_ordinal, S23, E23, F23_ordinal⟩ := P0
  obtain ⟨T53, X53, e53, st53⟩ := getF X0 hx hZ hown (host := "") (Or.inl (hw _ (List.mem_of_getElem? (i := 20) rfl))) Via.refl e0 F14_ordinal (g := (mkF m 1 #[.val (.ref w14)] [(.ref w14)])) rfl rfl (hb hby d_jdk_37_method_2_code_1)
  obtain ⟨fs, hr, hrun, hended, hW, hsame⟩ := X53.leave (v := some (.int (20 : Int32))) (fun h => by rw [Bd.returns] at h; cases h)
  refine ⟨_, _, pre0 _ ?_, hrun, hended, _, _, rfl, ?_, ⟨_, rfl⟩, hW, hsame.mono (by decide) (by decide)⟩
  · show Steps p.tables e below (s₁.setTop (mkF m 0 #[.val (.ref w14)] [])) _
    refine XS.aloadN X0.here hx rfl (hb hby d_jdk_37_method_2_code_0) rfl rfl ?_
    show Steps p.tables e below (s₁.setTop (mkF m 1 #[.val (.ref w14)] [(.ref w14)])) _
    refine st53 _ ?_
    show Steps p.tables e below (T53.setTop (mkF m 4 #[.val (.ref w14)] [(.int (20 : Int32))])) _
    exact retI X53 hx Bd.returns (hb hby d_jdk_37_method_2_code_4) hr
  · show own_Q (some (.int (20 : Int32))) h0 n0 _ T53.heap _
    rw [e53]
    exact ⟨rfl, N0, rfl⟩
set_option maxRecDepth 65536 in
set_option maxHeartbeats 40000000 in
theorem own_isDecimal_14 (l : Launch) (Z : State) (a0 : Array Value) (hw : ∀ d ∈ tables_1, d.before a0 Z = true) (ws : List Jvm.Cond) (w0 w1 w2 w3 w4 w5 w6 w7 w8 w9 w10 w11 w12 w13 w14 w15 w16 w17 w18 w19 w20 w21 w22 w23 : Addr) (h0 : Heap) (n0 : Nat) (Z0 : n0 ≤ h0.size) (P : own_P Z h0 w0 w1 w2 w3 w4 w5 w6 w7 w8 w9 w10 w11 w12 w13 w14 w15 w16 w17 w18 w19 w20 w21 w22 w23) :
    MetFree l (⟨"apportion/io/DataType", "isDecimal", "()Z"⟩ : MethodName) (head1 (Jvm.Cond.code (⟨"apportion/io/DataType", "isDecimal", "()Z"⟩ : MethodName) prog_15_method_5_code 1 (some .boolean) :: ws) ({ frames := 1, cells := 0, slots := 0, locals := 12 } : Room)) (fun a U => a = #[(.ref w14)] ∧ Z.Warmed39 U.vm ∧ U.heap = h0) (fun _ _ _ _ _ => True) (fun _ U o U' => ∃ v L, o = .returned v ∧ own_Q (some (.int (0 : Int32))) h0 n0 v U'.heap L ∧ FrameEnd U o U' L ({ frames := 1, cells := 0, slots := 0, locals := 12 } : Room).cells ({ frames := 1, cells := 0, slots := 0, locals := 12 } : Room).slots) := by
  refine MetFree.of_bodySF (plainFor_of_name pn_apportion_io_DataType) hisR ?_
  intro p e s m args below meth c s₁ Bd hml0 hP hK
  obtain ⟨rfl, hZ, hh⟩ := hP
  have hx := Bd.exec
  have hby := Bd.bytes
  have hml : c.maxLocals = 1 := hml0
  have hown : s.vm.findClass "apportion/io/DataType" = some m.cls := findClass_of_methodNamed Bd.named
  have hnm := (name_of_methodNamed Bd.named Bd.method).1
  have X0 : Stand p l e ({ frames := 1, cells := 0, slots := 0, locals := 12 } : Room) s m #[(.ref w14)] below meth c s₁ [] 0 0 := Stand.of_body Bd
  have e0 : s₁.heap = h0 := by rw [← hh, Bd.state]; rfl
  have N0 := Fr.nil n0
  have pre0 : ∀ t, Steps p.tables e below (s₁.setTop (mkF m 0 #[.val (.ref w14)] [])) t → Steps p.tables e below (s₁.setTop (entryFrame m #[(.ref w14)] 1)) t := fun t k => castTop (ef_prog_15_method_5_code_A m w14) k
  have P0 := P; obtain ⟨S0, E0, F0_ordinal, S1, E1, F1_ordinal, S2, E2, F2_ordinal, S3, E3, F3_ordinal, S4, E4, F4_ordinal, S5, E5, F5_ordinal, S6, E6, F6_ordinal, S7, E7, F7_ordinal, S8, E8, F8_ordinal, S9, E9, F9_ordinal, S10, E10, F10_ordinal, S11, E11, F11_ordinal, S12, E12, F12_ordinal, S13, E13, F13_ordinal, S14, E14, F14_ordinal, S15, E15, F15_ordinal, S16, E16, F16_ordinal, S17, E17, F17_ordinal, S18, E18, F18_ordinal, S19, E19, F19_ordinal, S20, E20, F20_ordinal, S21, E21, F21_ordinal, S22, E22, F22_ordinal, S23, E23, F23_ordinal⟩ := P0
  obtain ⟨cq54, kq54, q54a, q54b, q54c⟩ := isOf hZ e0 E14
  obtain ⟨_, _, ⟨T54, L54, k54, n54⟩, -, X54, ⟨Lc54, hQ54, l54, y54, z54⟩, st54⟩ := X0.virtualBackUp hx (owner := "java/lang/Enum") (x := (⟨"apportion/io/DataType", "ordinal", "()I"⟩ : MethodName)) (y := (⟨"java/lang/Enum", "ordinal", "()I"⟩ : MethodName)) hown (mvT hZ (hw _ (List.mem_of_getElem? (i := 13) rfl))) (mvT hZ (hw _ (List.mem_of_getElem? (i := 14) rfl))) (mvT hZ (hw _ (List.mem_of_getElem? (i := 15) rfl))) (by decide) (mvT hZ (hw _ (List.mem_of_getElem? (i := 17) rfl))) (mvT hZ (hw _ (List.mem_of_getElem? (i := 16) rfl))) (backOf (W := 0) (own_ordinal_14 l Z a0 hw [] w0 w1 w2 w3 w4 w5 w6 w7 w8 w9 w10 w11 w12 w13 w14 w15 w16 w17 w18 w19 w20 w21 w22 w23 h0 n0 Z0 P) hZ (hw _ (List.mem_of_getElem? (i := 19) rfl)) (hw _ (List.mem_of_getElem? (i := 18) rfl)) (by decide) (by decide)) q54a q54c (g := (mkF m 1 #[.val (.ref w14)] [(.ref w14)])) rfl (by rw [hml]; rfl) (Steps.refl _) (argsL := []) (rest := []) (lenOf pd___I rfl) rfl (by show 2 * 0 + _ ≤ _; exact Nat.le_of_eq rfl) (hb hby d_prog_15_method_5_code_1) (fun _ _ => ⟨rfl, e0, (by decide : 0 + 0 ≤ _), (by decide : 0 + 0 ≤ _)⟩)
  dsimp only [Pt.U, Pt.locs, Pt.cells, Pt.slots] at X54 l54 y54 z54 st54 hQ54
  subst l54 y54 z54
  obtain ⟨rfl, N54q, e54⟩ := hQ54
  have N54 := Fr.app N0 N54q
  obtain ⟨fs, hr, hrun, hended, hW, hsame⟩ := X54.leave (v := some (.int (0 : Int32))) (fun h => by rw [Bd.returns] at h; cases h)
  refine ⟨_, _, pre0 _ ?_, hrun, hended, _, _, rfl, ?_, ⟨_, rfl⟩, hW, hsame.mono (by decide) (by decide)⟩
  · show Steps p.tables e below (s₁.setTop (mkF m 0 #[.val (.ref w14)] [])) _
    refine XS.aloadN X0.here hx rfl (hb hby d_prog_15_method_5_code_0) rfl rfl ?_
    show Steps p.tables e below (s₁.setTop (mkF m 1 #[.val (.ref w14)] [(.ref w14)])) _
    refine st54.trans ?_
    show Steps p.tables e below (T54.setTop (mkF m 4 #[.val (.ref w14)] [(.int (20 : Int32))])) _
    refine XS.tswOut X54.here hx rfl (pc0 := 4) (pc' := 48) rfl (hb hby d_prog_15_method_5_code_4) rfl (by decide) (by decide) (by decide) ?_
    show Steps p.tables e below (T54.setTop (mkF m 48 #[.val (.ref w14)] [])) _
    refine XT.iconstV X54.here hx rfl (0 : Int32) (hb hby d_prog_15_method_5_code_48) rfl ?_
    show Steps p.tables e below (T54.setTop (mkF m 49 #[.val (.ref w14)] [(.int (0 : Int32))])) _
    exact retN X54 hx (t := .boolean) Bd.returns (by simp) (hb hby d_prog_15_method_5_code_49) hr
  · show own_Q (some (.int (0 : Int32))) h0 n0 _ T54.heap _
    rw [e54]
    exact ⟨rfl, N54, rfl⟩
set_option maxRecDepth 65536 in
set_option maxHeartbeats 40000000 in
theorem own_ordinal_15 (l : Launch) (Z : State) (a0 : Array Value) (hw : ∀ d ∈ tables_1, d.before a0 Z = true) (ws : List Jvm.Cond) (w0 w1 w2 w3 w4 w5 w6 w7 w8 w9 w10 w11 w12 w13 w14 w15 w16 w17 w18 w19 w20 w21 w22 w23 : Addr) (h0 : Heap) (n0 : Nat) (Z0 : n0 ≤ h0.size) (P : own_P Z h0 w0 w1 w2 w3 w4 w5 w6 w7 w8 w9 w10 w11 w12 w13 w14 w15 w16 w17 w18 w19 w20 w21 w22 w23) :
    MetFree l (⟨"java/lang/Enum", "ordinal", "()I"⟩ : MethodName) (head1 (Jvm.Cond.code (⟨"java/lang/Enum", "ordinal", "()I"⟩ : MethodName) jdk_37_method_2_code 1 (some .int) :: ws) ({ frames := 0, cells := 0, slots := 0, locals := 0 } : Room)) (fun a U => a = #[(.ref w15)] ∧ Z.Warmed39 U.vm ∧ U.heap = h0) (fun _ _ _ _ _ => True) (fun _ U o U' => ∃ v L, o = .returned v ∧ own_Q (some (.int (4 : Int32))) h0 n0 v U'.heap L ∧ FrameEnd U o U' L ({ frames := 0, cells := 0, slots := 0, locals := 0 } : Room).cells ({ frames := 0, cells := 0, slots := 0, locals := 0 } : Room).slots) := by
  refine MetFree.of_bodySF (plainFor_of_name pn_java_lang_Enum) hisR ?_
  intro p e s m args below meth c s₁ Bd hml0 hP hK
  obtain ⟨rfl, hZ, hh⟩ := hP
  have hx := Bd.exec
  have hby := Bd.bytes
  have hml : c.maxLocals = 1 := hml0
  have hown : s.vm.findClass "java/lang/Enum" = some m.cls := findClass_of_methodNamed Bd.named
  have hnm := (name_of_methodNamed Bd.named Bd.method).1
  have X0 : Stand p l e ({ frames := 0, cells := 0, slots := 0, locals := 0 } : Room) s m #[(.ref w15)] below meth c s₁ [] 0 0 := Stand.of_body Bd
  have e0 : s₁.heap = h0 := by rw [← hh, Bd.state]; rfl
  have N0 := Fr.nil n0
  have pre0 : ∀ t, Steps p.tables e below (s₁.setTop (mkF m 0 #[.val (.ref w15)] [])) t → Steps p.tables e below (s₁.setTop (entryFrame m #[(.ref w15)] 1)) t := fun t k => castTop (ef_jdk_37_method_2_code_A m w15) k
  have P0 := P; obtain ⟨S0, E0, F0_ordinal, S1, E1, F1_ordinal, S2, E2, F2_ordinal, S3, E3, F3_ordinal, S4, E4, F4_ordinal, S5, E5, F5_ordinal, S6, E6, F6_ordinal, S7, E7, F7_ordinal, S8, E8, F8_ordinal, S9, E9, F9_ordinal, S10, E10, F10_ordinal, S11, E11, F11_ordinal, S12, E12, F12_ordinal, S13, E13, F13_ordinal, S14, E14, F14_ordinal, S15, E15, F15_ordinal, S16, E16, F16_ordinal, S17, E17, F17_ordinal, S18, E18, F18_ordinal, S19, E19, F19_ordinal, S20, E20, F20_ordinal, S21, E21, F21_ordinal, S22, E22, F22_ordinal, S23, E23, F23_ordinal⟩ := P0
  obtain ⟨T55, X55, e55, st55⟩ := getF X0 hx hZ hown (host := "") (Or.inl (hw _ (List.mem_of_getElem? (i := 20) rfl))) Via.refl e0 F15_ordinal (g := (mkF m 1 #[.val (.ref w15)] [(.ref w15)])) rfl rfl (hb hby d_jdk_37_method_2_code_1)
  obtain ⟨fs, hr, hrun, hended, hW, hsame⟩ := X55.leave (v := some (.int (4 : Int32))) (fun h => by rw [Bd.returns] at h; cases h)
  refine ⟨_, _, pre0 _ ?_, hrun, hended, _, _, rfl, ?_, ⟨_, rfl⟩, hW, hsame.mono (by decide) (by decide)⟩
  · show Steps p.tables e below (s₁.setTop (mkF m 0 #[.val (.ref w15)] [])) _
    refine XS.aloadN X0.here hx rfl (hb hby d_jdk_37_method_2_code_0) rfl rfl ?_
    show Steps p.tables e below (s₁.setTop (mkF m 1 #[.val (.ref w15)] [(.ref w15)])) _
    refine st55 _ ?_
    show Steps p.tables e below (T55.setTop (mkF m 4 #[.val (.ref w15)] [(.int (4 : Int32))])) _
    exact retI X55 hx Bd.returns (hb hby d_jdk_37_method_2_code_4) hr
  · show own_Q (some (.int (4 : Int32))) h0 n0 _ T55.heap _
    rw [e55]
    exact ⟨rfl, N0, rfl⟩
set_option maxRecDepth 65536 in
set_option maxHeartbeats 40000000 in
theorem own_isDecimal_15 (l : Launch) (Z : State) (a0 : Array Value) (hw : ∀ d ∈ tables_1, d.before a0 Z = true) (ws : List Jvm.Cond) (w0 w1 w2 w3 w4 w5 w6 w7 w8 w9 w10 w11 w12 w13 w14 w15 w16 w17 w18 w19 w20 w21 w22 w23 : Addr) (h0 : Heap) (n0 : Nat) (Z0 : n0 ≤ h0.size) (P : own_P Z h0 w0 w1 w2 w3 w4 w5 w6 w7 w8 w9 w10 w11 w12 w13 w14 w15 w16 w17 w18 w19 w20 w21 w22 w23) :
    MetFree l (⟨"apportion/io/DataType", "isDecimal", "()Z"⟩ : MethodName) (head1 (Jvm.Cond.code (⟨"apportion/io/DataType", "isDecimal", "()Z"⟩ : MethodName) prog_15_method_5_code 1 (some .boolean) :: ws) ({ frames := 1, cells := 0, slots := 0, locals := 12 } : Room)) (fun a U => a = #[(.ref w15)] ∧ Z.Warmed39 U.vm ∧ U.heap = h0) (fun _ _ _ _ _ => True) (fun _ U o U' => ∃ v L, o = .returned v ∧ own_Q (some (.int (0 : Int32))) h0 n0 v U'.heap L ∧ FrameEnd U o U' L ({ frames := 1, cells := 0, slots := 0, locals := 12 } : Room).cells ({ frames := 1, cells := 0, slots := 0, locals := 12 } : Room).slots) := by
  refine MetFree.of_bodySF (plainFor_of_name pn_apportion_io_DataType) hisR ?_
  intro p e s m args below meth c s₁ Bd hml0 hP hK
  obtain ⟨rfl, hZ, hh⟩ := hP
  have hx := Bd.exec
  have hby := Bd.bytes
  have hml : c.maxLocals = 1 := hml0
  have hown : s.vm.findClass "apportion/io/DataType" = some m.cls := findClass_of_methodNamed Bd.named
  have hnm := (name_of_methodNamed Bd.named Bd.method).1
  have X0 : Stand p l e ({ frames := 1, cells := 0, slots := 0, locals := 12 } : Room) s m #[(.ref w15)] below meth c s₁ [] 0 0 := Stand.of_body Bd
  have e0 : s₁.heap = h0 := by rw [← hh, Bd.state]; rfl
  have N0 := Fr.nil n0
  have pre0 : ∀ t, Steps p.tables e below (s₁.setTop (mkF m 0 #[.val (.ref w15)] [])) t → Steps p.tables e below (s₁.setTop (entryFrame m #[(.ref w15)] 1)) t := fun t k => castTop (ef_prog_15_method_5_code_A m w15) k
  have P0 := P; obtain ⟨S0, E0, F0_ordinal, S1, E1, F1_ordinal, S2, E2, F2_ordinal, S3, E3, F3_ordinal, S4, E4, F4_ordinal, S5, E5, F5_ordinal, S6, E6, F6_ordinal, S7, E7, F7_ordinal, S8, E8, F8_ordinal, S9, E9, F9_ordinal, S10, E10, F10_ordinal, S11, E11, F11_ordinal, S12, E12, F12_ordinal, S13, E13, F13_ordinal, S14, E14, F14_ordinal, S15, E15, F15_ordinal, S16, E16, F16_ordinal, S17, E17, F17_ordinal, S18, E18, F18_ordinal, S19, E19, F19_ordinal, S20, E20, F20_ordinal, S21, E21, F21_ordinal, S22, E22, F22_ordinal, S23, E23, F23_ordinal⟩ := P0
  obtain ⟨cq56, kq56, q56a, q56b, q56c⟩ := isOf hZ e0 E15
  obtain ⟨_, _, ⟨T56, L56, k56, n56⟩, -, X56, ⟨Lc56, hQ56, l56, y56, z56⟩, st56⟩ := X0.virtualBackUp hx (owner := "java/lang/Enum") (x := (⟨"apportion/io/DataType", "ordinal", "()I"⟩ : MethodName)) (y := (⟨"java/lang/Enum", "ordinal", "()I"⟩ : MethodName)) hown (mvT hZ (hw _ (List.mem_of_getElem? (i := 13) rfl))) (mvT hZ (hw _ (List.mem_of_getElem? (i := 14) rfl))) (mvT hZ (hw _ (List.mem_of_getElem? (i := 15) rfl))) (by decide) (mvT hZ (hw _ (List.mem_of_getElem? (i := 17) rfl))) (mvT hZ (hw _ (List.mem_of_getElem? (i := 16) rfl))) (backOf (W := 0) (own_ordinal_15 l Z a0 hw [] w0 w1 w2 w3 w4 w5 w6 w7 w8 w9 w10 w11 w12 w13 w14 w15 w16 w17 w18 w19 w20 w21 w22 w23 h0 n0 Z0 P) hZ (hw _ (List.mem_of_getElem? (i := 19) rfl)) (hw _ (List.mem_of_getElem? (i := 18) rfl)) (by decide) (by decide)) q56a q56c (g := (mkF m 1 #[.val (.ref w15)] [(.ref w15)])) rfl (by rw [hml]; rfl) (Steps.refl _) (argsL := []) (rest := []) (lenOf pd___I rfl) rfl (by show 2 * 0 + _ ≤ _; exact Nat.le_of_eq rfl) (hb hby d_prog_15_method_5_code_1) (fun _ _ => ⟨rfl, e0, (by decide : 0 + 0 ≤ _), (by decide : 0 + 0 ≤ _)⟩)
  dsimp only [Pt.U, Pt.locs, Pt.cells, Pt.slots] at X56 l56 y56 z56 st56 hQ56
  subst l56 y56 z56
  obtain ⟨rfl, N56q, e56⟩ := hQ56
  have N56 := Fr.app N0 N56q
  obtain ⟨fs, hr, hrun, hended, hW, hsame⟩ := X56.leave (v := some (.int (0 : Int32))) (fun h => by rw [Bd.returns] at h; cases h)
  refine ⟨_, _, pre0 _ ?_, hrun, hended, _, _, rfl, ?_, ⟨_, rfl⟩, hW, hsame.mono (by decide) (by decide)⟩
  · show Steps p.tables e below (s₁.setTop (mkF m 0 #[.val (.ref w15)] [])) _
    refine XS.aloadN X0.here hx rfl (hb hby d_prog_15_method_5_code_0) rfl rfl ?_
    show Steps p.tables e below (s₁.setTop (mkF m 1 #[.val (.ref w15)] [(.ref w15)])) _
    refine st56.trans ?_
    show Steps p.tables e below (T56.setTop (mkF m 4 #[.val (.ref w15)] [(.int (4 : Int32))])) _
    refine XS.tswOut X56.here hx rfl (pc0 := 4) (pc' := 48) rfl (hb hby d_prog_15_method_5_code_4) rfl (by decide) (by decide) (by decide) ?_
    show Steps p.tables e below (T56.setTop (mkF m 48 #[.val (.ref w15)] [])) _
    refine XT.iconstV X56.here hx rfl (0 : Int32) (hb hby d_prog_15_method_5_code_48) rfl ?_
    show Steps p.tables e below (T56.setTop (mkF m 49 #[.val (.ref w15)] [(.int (0 : Int32))])) _
    exact retN X56 hx (t := .boolean) Bd.returns (by simp) (hb hby d_prog_15_method_5_code_49) hr
  · show own_Q (some (.int (0 : Int32))) h0 n0 _ T56.heap _
    rw [e56]
    exact ⟨rfl, N56, rfl⟩
set_option maxRecDepth 65536 in
set_option maxHeartbeats 40000000 in
theorem own_ordinal_16 (l : Launch) (Z : State) (a0 : Array Value) (hw : ∀ d ∈ tables_1, d.before a0 Z = true) (ws : List Jvm.Cond) (w0 w1 w2 w3 w4 w5 w6 w7 w8 w9 w10 w11 w12 w13 w14 w15 w16 w17 w18 w19 w20 w21 w22 w23 : Addr) (h0 : Heap) (n0 : Nat) (Z0 : n0 ≤ h0.size) (P : own_P Z h0 w0 w1 w2 w3 w4 w5 w6 w7 w8 w9 w10 w11 w12 w13 w14 w15 w16 w17 w18 w19 w20 w21 w22 w23) :
    MetFree l (⟨"java/lang/Enum", "ordinal", "()I"⟩ : MethodName) (head1 (Jvm.Cond.code (⟨"java/lang/Enum", "ordinal", "()I"⟩ : MethodName) jdk_37_method_2_code 1 (some .int) :: ws) ({ frames := 0, cells := 0, slots := 0, locals := 0 } : Room)) (fun a U => a = #[(.ref w16)] ∧ Z.Warmed39 U.vm ∧ U.heap = h0) (fun _ _ _ _ _ => True) (fun _ U o U' => ∃ v L, o = .returned v ∧ own_Q (some (.int (18 : Int32))) h0 n0 v U'.heap L ∧ FrameEnd U o U' L ({ frames := 0, cells := 0, slots := 0, locals := 0 } : Room).cells ({ frames := 0, cells := 0, slots := 0, locals := 0 } : Room).slots) := by
  refine MetFree.of_bodySF (plainFor_of_name pn_java_lang_Enum) hisR ?_
  intro p e s m args below meth c s₁ Bd hml0 hP hK
  obtain ⟨rfl, hZ, hh⟩ := hP
  have hx := Bd.exec
  have hby := Bd.bytes
  have hml : c.maxLocals = 1 := hml0
  have hown : s.vm.findClass "java/lang/Enum" = some m.cls := findClass_of_methodNamed Bd.named
  have hnm := (name_of_methodNamed Bd.named Bd.method).1
  have X0 : Stand p l e ({ frames := 0, cells := 0, slots := 0, locals := 0 } : Room) s m #[(.ref w16)] below meth c s₁ [] 0 0 := Stand.of_body Bd
  have e0 : s₁.heap = h0 := by rw [← hh, Bd.state]; rfl
  have N0 := Fr.nil n0
  have pre0 : ∀ t, Steps p.tables e below (s₁.setTop (mkF m 0 #[.val (.ref w16)] [])) t → Steps p.tables e below (s₁.setTop (entryFrame m #[(.ref w16)] 1)) t := fun t k => castTop (ef_jdk_37_method_2_code_A m w16) k
  have P0 := P; obtain ⟨S0, E0, F0_ordinal, S1, E1, F1_ordinal, S2, E2, F2_ordinal, S3, E3, F3_ordinal, S4, E4, F4_ordinal, S5, E5, F5_ordinal, S6, E6, F6_ordinal, S7, E7, F7_ordinal, S8, E8, F8_ordinal, S9, E9, F9_ordinal, S10, E10, F10_ordinal, S11, E11, F11_ordinal, S12, E12, F12_ordinal, S13, E13, F13_ordinal, S14, E14, F14_ordinal, S15, E15, F15_ordinal, S16, E16, F16_ordinal, S17, E17, F17_ordinal, S18, E18, F18_ordinal, S19, E19, F19_ordinal, S20, E20, F20_ordinal, S21, E21, F21_ordinal, S22, E22, F22_ordinal, S23, E23, F23_ordinal⟩ := P0
  obtain ⟨T57, X57, e57, st57⟩ := getF X0 hx hZ hown (host := "") (Or.inl (hw _ (List.mem_of_getElem? (i := 20) rfl))) Via.refl e0 F16_ordinal (g := (mkF m 1 #[.val (.ref w16)] [(.ref w16)])) rfl rfl (hb hby d_jdk_37_method_2_code_1)
  obtain ⟨fs, hr, hrun, hended, hW, hsame⟩ := X57.leave (v := some (.int (18 : Int32))) (fun h => by rw [Bd.returns] at h; cases h)
  refine ⟨_, _, pre0 _ ?_, hrun, hended, _, _, rfl, ?_, ⟨_, rfl⟩, hW, hsame.mono (by decide) (by decide)⟩
  · show Steps p.tables e below (s₁.setTop (mkF m 0 #[.val (.ref w16)] [])) _
    refine XS.aloadN X0.here hx rfl (hb hby d_jdk_37_method_2_code_0) rfl rfl ?_
    show Steps p.tables e below (s₁.setTop (mkF m 1 #[.val (.ref w16)] [(.ref w16)])) _
    refine st57 _ ?_
    show Steps p.tables e below (T57.setTop (mkF m 4 #[.val (.ref w16)] [(.int (18 : Int32))])) _
    exact retI X57 hx Bd.returns (hb hby d_jdk_37_method_2_code_4) hr
  · show own_Q (some (.int (18 : Int32))) h0 n0 _ T57.heap _
    rw [e57]
    exact ⟨rfl, N0, rfl⟩
set_option maxRecDepth 65536 in
set_option maxHeartbeats 40000000 in
theorem own_isDecimal_16 (l : Launch) (Z : State) (a0 : Array Value) (hw : ∀ d ∈ tables_1, d.before a0 Z = true) (ws : List Jvm.Cond) (w0 w1 w2 w3 w4 w5 w6 w7 w8 w9 w10 w11 w12 w13 w14 w15 w16 w17 w18 w19 w20 w21 w22 w23 : Addr) (h0 : Heap) (n0 : Nat) (Z0 : n0 ≤ h0.size) (P : own_P Z h0 w0 w1 w2 w3 w4 w5 w6 w7 w8 w9 w10 w11 w12 w13 w14 w15 w16 w17 w18 w19 w20 w21 w22 w23) :
    MetFree l (⟨"apportion/io/DataType", "isDecimal", "()Z"⟩ : MethodName) (head1 (Jvm.Cond.code (⟨"apportion/io/DataType", "isDecimal", "()Z"⟩ : MethodName) prog_15_method_5_code 1 (some .boolean) :: ws) ({ frames := 1, cells := 0, slots := 0, locals := 12 } : Room)) (fun a U => a = #[(.ref w16)] ∧ Z.Warmed39 U.vm ∧ U.heap = h0) (fun _ _ _ _ _ => True) (fun _ U o U' => ∃ v L, o = .returned v ∧ own_Q (some (.int (0 : Int32))) h0 n0 v U'.heap L ∧ FrameEnd U o U' L ({ frames := 1, cells := 0, slots := 0, locals := 12 } : Room).cells ({ frames := 1, cells := 0, slots := 0, locals := 12 } : Room).slots) := by
  refine MetFree.of_bodySF (plainFor_of_name pn_apportion_io_DataType) hisR ?_
  intro p e s m args below meth c s₁ Bd hml0 hP hK
  obtain ⟨rfl, hZ, hh⟩ := hP
  have hx := Bd.exec
  have hby := Bd.bytes
  have hml : c.maxLocals = 1 := hml0
  have hown : s.vm.findClass "apportion/io/DataType" = some m.cls := findClass_of_methodNamed Bd.named
  have hnm := (name_of_methodNamed Bd.named Bd.method).1
  have X0 : Stand p l e ({ frames := 1, cells := 0, slots := 0, locals := 12 } : Room) s m #[(.ref w16)] below meth c s₁ [] 0 0 := Stand.of_body Bd
  have e0 : s₁.heap = h0 := by rw [← hh, Bd.state]; rfl
  have N0 := Fr.nil n0
  have pre0 : ∀ t, Steps p.tables e below (s₁.setTop (mkF m 0 #[.val (.ref w16)] [])) t → Steps p.tables e below (s₁.setTop (entryFrame m #[(.ref w16)] 1)) t := fun t k => castTop (ef_prog_15_method_5_code_A m w16) k
  have P0 := P; obtain ⟨S0, E0, F0_ordinal, S1, E1, F1_ordinal, S2, E2, F2_ordinal, S3, E3, F3_ordinal, S4, E4, F4_ordinal, S5, E5, F5_ordinal, S6, E6, F6_ordinal, S7, E7, F7_ordinal, S8, E8, F8_ordinal, S9, E9, F9_ordinal, S10, E10, F10_ordinal, S11, E11, F11_ordinal, S12, E12, F12_ordinal, S13, E13, F13_ordinal, S14, E14, F14_ordinal, S15, E15, F15_ordinal, S16, E16, F16_ordinal, S17, E17, F17_ordinal, S18, E18, F18_ordinal, S19, E19, F19_ordinal, S20, E20, F20_ordinal, S21, E21, F21_ordinal, S22, E22, F22_ordinal, S23, E23, F23_ordinal⟩ := P0
  obtain ⟨cq58, kq58, q58a, q58b, q58c⟩ := isOf hZ e0 E16
  obtain ⟨_, _, ⟨T58, L58, k58, n58⟩, -, X58, ⟨Lc58, hQ58, l58, y58, z58⟩, st58⟩ := X0.virtualBackUp hx (owner := "java/lang/Enum") (x := (⟨"apportion/io/DataType", "ordinal", "()I"⟩ : MethodName)) (y := (⟨"java/lang/Enum", "ordinal", "()I"⟩ : MethodName)) hown (mvT hZ (hw _ (List.mem_of_getElem? (i := 13) rfl))) (mvT hZ (hw _ (List.mem_of_getElem? (i := 14) rfl))) (mvT hZ (hw _ (List.mem_of_getElem? (i := 15) rfl))) (by decide) (mvT hZ (hw _ (List.mem_of_getElem? (i := 17) rfl))) (mvT hZ (hw _ (List.mem_of_getElem? (i := 16) rfl))) (backOf (W := 0) (own_ordinal_16 l Z a0 hw [] w0 w1 w2 w3 w4 w5 w6 w7 w8 w9 w10 w11 w12 w13 w14 w15 w16 w17 w18 w19 w20 w21 w22 w23 h0 n0 Z0 P) hZ (hw _ (List.mem_of_getElem? (i := 19) rfl)) (hw _ (List.mem_of_getElem? (i := 18) rfl)) (by decide) (by decide)) q58a q58c (g := (mkF m 1 #[.val (.ref w16)] [(.ref w16)])) rfl (by rw [hml]; rfl) (Steps.refl _) (argsL := []) (rest := []) (lenOf pd___I rfl) rfl (by show 2 * 0 + _ ≤ _; exact Nat.le_of_eq rfl) (hb hby d_prog_15_method_5_code_1) (fun _ _ => ⟨rfl, e0, (by decide : 0 + 0 ≤ _), (by decide : 0 + 0 ≤ _)⟩)
  dsimp only [Pt.U, Pt.locs, Pt.cells, Pt.slots] at X58 l58 y58 z58 st58 hQ58
  subst l58 y58 z58
  obtain ⟨rfl, N58q, e58⟩ := hQ58
  have N58 := Fr.app N0 N58q
  obtain ⟨fs, hr, hrun, hended, hW, hsame⟩ := X58.leave (v := some (.int (0 : Int32))) (fun h => by rw [Bd.returns] at h; cases h)
  refine ⟨_, _, pre0 _ ?_, hrun, hended, _, _, rfl, ?_, ⟨_, rfl⟩, hW, hsame.mono (by decide) (by decide)⟩
  · show Steps p.tables e below (s₁.setTop (mkF m 0 #[.val (.ref w16)] [])) _
    refine XS.aloadN X0.here hx rfl (hb hby d_prog_15_method_5_code_0) rfl rfl ?_
    show Steps p.tables e below (s₁.setTop (mkF m 1 #[.val (.ref w16)] [(.ref w16)])) _
    refine st58.trans ?_
    show Steps p.tables e below (T58.setTop (mkF m 4 #[.val (.ref w16)] [(.int (18 : Int32))])) _
    refine XS.tswOut X58.here hx rfl (pc0 := 4) (pc' := 48) rfl (hb hby d_prog_15_method_5_code_4) rfl (by decide) (by decide) (by decide) ?_
    show Steps p.tables e below (T58.setTop (mkF m 48 #[.val (.ref w16)] [])) _
    refine XT.iconstV X58.here hx rfl (0 : Int32) (hb hby d_prog_15_method_5_code_48) rfl ?_
    show Steps p.tables e below (T58.setTop (mkF m 49 #[.val (.ref w16)] [(.int (0 : Int32))])) _
    exact retN X58 hx (t := .boolean) Bd.returns (by simp) (hb hby d_prog_15_method_5_code_49) hr
  · show own_Q (some (.int (0 : Int32))) h0 n0 _ T58.heap _
    rw [e58]
    exact ⟨rfl, N58, rfl⟩
set_option maxRecDepth 65536 in
set_option maxHeartbeats 40000000 in
theorem own_ordinal_17 (l : Launch) (Z : State) (a0 : Array Value) (hw : ∀ d ∈ tables_1, d.before a0 Z = true) (ws : List Jvm.Cond) (w0 w1 w2 w3 w4 w5 w6 w7 w8 w9 w10 w11 w12 w13 w14 w15 w16 w17 w18 w19 w20 w21 w22 w23 : Addr) (h0 : Heap) (n0 : Nat) (Z0 : n0 ≤ h0.size) (P : own_P Z h0 w0 w1 w2 w3 w4 w5 w6 w7 w8 w9 w10 w11 w12 w13 w14 w15 w16 w17 w18 w19 w20 w21 w22 w23) :
    MetFree l (⟨"java/lang/Enum", "ordinal", "()I"⟩ : MethodName) (head1 (Jvm.Cond.code (⟨"java/lang/Enum", "ordinal", "()I"⟩ : MethodName) jdk_37_method_2_code 1 (some .int) :: ws) ({ frames := 0, cells := 0, slots := 0, locals := 0 } : Room)) (fun a U => a = #[(.ref w17)] ∧ Z.Warmed39 U.vm ∧ U.heap = h0) (fun _ _ _ _ _ => True) (fun _ U o U' => ∃ v L, o = .returned v ∧ own_Q (some (.int (5 : Int32))) h0 n0 v U'.heap L ∧ FrameEnd U o U' L ({ frames := 0, cells := 0, slots := 0, locals := 0 } : Room).cells ({ frames := 0, cells := 0, slots := 0, locals := 0 } : Room).slots) := by
  refine MetFree.of_bodySF (plainFor_of_name pn_java_lang_Enum) hisR ?_
  intro p e s m args below meth c s₁ Bd hml0 hP hK
  obtain ⟨rfl, hZ, hh⟩ := hP
  have hx := Bd.exec
  have hby := Bd.bytes
  have hml : c.maxLocals = 1 := hml0
  have hown : s.vm.findClass "java/lang/Enum" = some m.cls := findClass_of_methodNamed Bd.named
  have hnm := (name_of_methodNamed Bd.named Bd.method).1
  have X0 : Stand p l e ({ frames := 0, cells := 0, slots := 0, locals := 0 } : Room) s m #[(.ref w17)] below meth c s₁ [] 0 0 := Stand.of_body Bd
  have e0 : s₁.heap = h0 := by rw [← hh, Bd.state]; rfl
  have N0 := Fr.nil n0
  have pre0 : ∀ t, Steps p.tables e below (s₁.setTop (mkF m 0 #[.val (.ref w17)] [])) t → Steps p.tables e below (s₁.setTop (entryFrame m #[(.ref w17)] 1)) t := fun t k => castTop (ef_jdk_37_method_2_code_A m w17) k
  have P0 := P; obtain ⟨S0, E0, F0_ordinal, S1, E1, F1_ordinal, S2, E2, F2_ordinal, S3, E3, F3_ordinal, S4, E4, F4_ordinal, S5, E5, F5_ordinal, S6, E6, F6_ordinal, S7, E7, F7_ordinal, S8, E8, F8_ordinal, S9, E9, F9_ordinal, S10, E10, F10_ordinal, S11, E11, F11_ordinal, S12, E12, F12_ordinal, S13, E13, F13_ordinal, S14, E14, F14_ordinal, S15, E15, F15_ordinal, S16, E16, F16_ordinal, S17, E17, F17_ordinal, S18, E18, F18_ordinal, S19, E19, F19_ordinal, S20, E20, F20_ordinal, S21, E21, F21_ordinal, S22, E22, F22_ordinal, S23, E23, F23_ordinal⟩ := P0
  obtain ⟨T59, X59, e59, st59⟩ := getF X0 hx hZ hown (host := "") (Or.inl (hw _ (List.mem_of_getElem? (i := 20) rfl))) Via.refl e0 F17_ordinal (g := (mkF m 1 #[.val (.ref w17)] [(.ref w17)])) rfl rfl (hb hby d_jdk_37_method_2_code_1)
  obtain ⟨fs, hr, hrun, hended, hW, hsame⟩ := X59.leave (v := some (.int (5 : Int32))) (fun h => by rw [Bd.returns] at h; cases h)
  refine ⟨_, _, pre0 _ ?_, hrun, hended, _, _, rfl, ?_, ⟨_, rfl⟩, hW, hsame.mono (by decide) (by decide)⟩
  · show Steps p.tables e below (s₁.setTop (mkF m 0 #[.val (.ref w17)] [])) _
    refine XS.aloadN X0.here hx rfl (hb hby d_jdk_37_method_2_code_0) rfl rfl ?_
    show Steps p.tables e below (s₁.setTop (mkF m 1 #[.val (.ref w17)] [(.ref w17)])) _
    refine st59 _ ?_
    show Steps p.tables e below (T59.setTop (mkF m 4 #[.val (.ref w17)] [(.int (5 : Int32))])) _
    exact retI X59 hx Bd.returns (hb hby d_jdk_37_method_2_code_4) hr
  · show own_Q (some (.int (5 : Int32))) h0 n0 _ T59.heap _
    rw [e59]
    exact ⟨rfl, N0, rfl⟩
set_option maxRecDepth 65536 in
set_option maxHeartbeats 40000000 in
theorem own_isDecimal_17 (l : Launch) (Z : State) (a0 : Array Value) (hw : ∀ d ∈ tables_1, d.before a0 Z = true) (ws : List Jvm.Cond) (w0 w1 w2 w3 w4 w5 w6 w7 w8 w9 w10 w11 w12 w13 w14 w15 w16 w17 w18 w19 w20 w21 w22 w23 : Addr) (h0 : Heap) (n0 : Nat) (Z0 : n0 ≤ h0.size) (P : own_P Z h0 w0 w1 w2 w3 w4 w5 w6 w7 w8 w9 w10 w11 w12 w13 w14 w15 w16 w17 w18 w19 w20 w21 w22 w23) :
    MetFree l (⟨"apportion/io/DataType", "isDecimal", "()Z"⟩ : MethodName) (head1 (Jvm.Cond.code (⟨"apportion/io/DataType", "isDecimal", "()Z"⟩ : MethodName) prog_15_method_5_code 1 (some .boolean) :: ws) ({ frames := 1, cells := 0, slots := 0, locals := 12 } : Room)) (fun a U => a = #[(.ref w17)] ∧ Z.Warmed39 U.vm ∧ U.heap = h0) (fun _ _ _ _ _ => True) (fun _ U o U' => ∃ v L, o = .returned v ∧ own_Q (some (.int (0 : Int32))) h0 n0 v U'.heap L ∧ FrameEnd U o U' L ({ frames := 1, cells := 0, slots := 0, locals := 12 } : Room).cells ({ frames := 1, cells := 0, slots := 0, locals := 12 } : Room).slots) := by
  refine MetFree.of_bodySF (plainFor_of_name pn_apportion_io_DataType) hisR ?_
  intro p e s m args below meth c s₁ Bd hml0 hP hK
  obtain ⟨rfl, hZ, hh⟩ := hP
  have hx := Bd.exec
  have hby := Bd.bytes
  have hml : c.maxLocals = 1 := hml0
  have hown : s.vm.findClass "apportion/io/DataType" = some m.cls := findClass_of_methodNamed Bd.named
  have hnm := (name_of_methodNamed Bd.named Bd.method).1
  have X0 : Stand p l e ({ frames := 1, cells := 0, slots := 0, locals := 12 } : Room) s m #[(.ref w17)] below meth c s₁ [] 0 0 := Stand.of_body Bd
  have e0 : s₁.heap = h0 := by rw [← hh, Bd.state]; rfl
  have N0 := Fr.nil n0
  have pre0 : ∀ t, Steps p.tables e below (s₁.setTop (mkF m 0 #[.val (.ref w17)] [])) t → Steps p.tables e below (s₁.setTop (entryFrame m #[(.ref w17)] 1)) t := fun t k => castTop (ef_prog_15_method_5_code_A m w17) k
  have P0 := P; obtain ⟨S0, E0, F0_ordinal, S1, E1, F1_ordinal, S2, E2, F2_ordinal, S3, E3, F3_ordinal, S4, E4, F4_ordinal, S5, E5, F5_ordinal, S6, E6, F6_ordinal, S7, E7, F7_ordinal, S8, E8, F8_ordinal, S9, E9, F9_ordinal, S10, E10, F10_ordinal, S11, E11, F11_ordinal, S12, E12, F12_ordinal, S13, E13, F13_ordinal, S14, E14, F14_ordinal, S15, E15, F15_ordinal, S16, E16, F16_ordinal, S17, E17, F17_ordinal, S18, E18, F18_ordinal, S19, E19, F19_ordinal, S20, E20, F20_ordinal, S21, E21, F21_ordinal, S22, E22, F22_ordinal, S23, E23, F23_ordinal⟩ := P0
  obtain ⟨cq60, kq60, q60a, q60b, q60c⟩ := isOf hZ e0 E17
  obtain ⟨_, _, ⟨T60, L60, k60, n60⟩, -, X60, ⟨Lc60, hQ60, l60, y60, z60⟩, st60⟩ := X0.virtualBackUp hx (owner := "java/lang/Enum") (x := (⟨"apportion/io/DataType", "ordinal", "()I"⟩ : MethodName)) (y := (⟨"java/lang/Enum", "ordinal", "()I"⟩ : MethodName)) hown (mvT hZ (hw _ (List.mem_of_getElem? (i := 13) rfl))) (mvT hZ (hw _ (List.mem_of_getElem? (i := 14) rfl))) (mvT hZ (hw _ (List.mem_of_getElem? (i := 15) rfl))) (by decide) (mvT hZ (hw _ (List.mem_of_getElem? (i := 17) rfl))) (mvT hZ (hw _ (List.mem_of_getElem? (i := 16) rfl))) (backOf (W := 0) (own_ordinal_17 l Z a0 hw [] w0 w1 w2 w3 w4 w5 w6 w7 w8 w9 w10 w11 w12 w13 w14 w15 w16 w17 w18 w19 w20 w21 w22 w23 h0 n0 Z0 P) hZ (hw _ (List.mem_of_getElem? (i := 19) rfl)) (hw _ (List.mem_of_getElem? (i := 18) rfl)) (by decide) (by decide)) q60a q60c (g := (mkF m 1 #[.val (.ref w17)] [(.ref w17)])) rfl (by rw [hml]; rfl) (Steps.refl _) (argsL := []) (rest := []) (lenOf pd___I rfl) rfl (by show 2 * 0 + _ ≤ _; exact Nat.le_of_eq rfl) (hb hby d_prog_15_method_5_code_1) (fun _ _ => ⟨rfl, e0, (by decide : 0 + 0 ≤ _), (by decide : 0 + 0 ≤ _)⟩)
  dsimp only [Pt.U, Pt.locs, Pt.cells, Pt.slots] at X60 l60 y60 z60 st60 hQ60
  subst l60 y60 z60
  obtain ⟨rfl, N60q, e60⟩ := hQ60
  have N60 := Fr.app N0 N60q
  obtain ⟨fs, hr, hrun, hended, hW, hsame⟩ := X60.leave (v := some (.int (0 : Int32))) (fun h => by rw [Bd.returns] at h; cases h)
  refine ⟨_, _, pre0 _ ?_, hrun, hended, _, _, rfl, ?_, ⟨_, rfl⟩, hW, hsame.mono (by decide) (by decide)⟩
  · show Steps p.tables e below (s₁.setTop (mkF m 0 #[.val (.ref w17)] [])) _
    refine XS.aloadN X0.here hx rfl (hb hby d_prog_15_method_5_code_0) rfl rfl ?_
    show Steps p.tables e below (s₁.setTop (mkF m 1 #[.val (.ref w17)] [(.ref w17)])) _
    refine st60.trans ?_
    show Steps p.tables e below (T60.setTop (mkF m 4 #[.val (.ref w17)] [(.int (5 : Int32))])) _
    refine XS.tswOut X60.here hx rfl (pc0 := 4) (pc' := 48) rfl (hb hby d_prog_15_method_5_code_4) rfl (by decide) (by decide) (by decide) ?_
    show Steps p.tables e below (T60.setTop (mkF m 48 #[.val (.ref w17)] [])) _
    refine XT.iconstV X60.here hx rfl (0 : Int32) (hb hby d_prog_15_method_5_code_48) rfl ?_
    show Steps p.tables e below (T60.setTop (mkF m 49 #[.val (.ref w17)] [(.int (0 : Int32))])) _
    exact retN X60 hx (t := .boolean) Bd.returns (by simp) (hb hby d_prog_15_method_5_code_49) hr
  · show own_Q (some (.int (0 : Int32))) h0 n0 _ T60.heap _
    rw [e60]
    exact ⟨rfl, N60, rfl⟩
set_option maxRecDepth 65536 in
set_option maxHeartbeats 40000000 in
theorem own_ordinal_18 (l : Launch) (Z : State) (a0 : Array Value) (hw : ∀ d ∈ tables_1, d.before a0 Z = true) (ws : List Jvm.Cond) (w0 w1 w2 w3 w4 w5 w6 w7 w8 w9 w10 w11 w12 w13 w14 w15 w16 w17 w18 w19 w20 w21 w22 w23 : Addr) (h0 : Heap) (n0 : Nat) (Z0 : n0 ≤ h0.size) (P : own_P Z h0 w0 w1 w2 w3 w4 w5 w6 w7 w8 w9 w10 w11 w12 w13 w14 w15 w16 w17 w18 w19 w20 w21 w22 w23) :
    MetFree l (⟨"java/lang/Enum", "ordinal", "()I"⟩ : MethodName) (head1 (Jvm.Cond.code (⟨"java/lang/Enum", "ordinal", "()I"⟩ : MethodName) jdk_37_method_2_code 1 (some .int) :: ws) ({ frames := 0, cells := 0, slots := 0, locals := 0 } : Room)) (fun a U => a = #[(.ref w18)] ∧ Z.Warmed39 U.vm ∧ U.heap = h0) (fun _ _ _ _ _ => True) (fun _ U o U' => ∃ v L, o = .returned v ∧ own_Q (some (.int (6 : Int32))) h0 n0 v U'.heap L ∧ FrameEnd U o U' L ({ frames := 0, cells := 0, slots := 0, locals := 0 } : Room).cells ({ frames := 0, cells := 0, slots := 0, locals := 0 } : Room).slots) := by
  refine MetFree.of_bodySF (plainFor_of_name pn_java_lang_Enum) hisR ?_
  intro p e s m args below meth c s₁ Bd hml0 hP hK
  obtain ⟨rfl, hZ, hh⟩ := hP
  have hx := Bd.exec
  have hby := Bd.bytes
  have hml : c.maxLocals = 1 := hml0
  have hown : s.vm.findClass "java/lang/Enum" = some m.cls := findClass_of_methodNamed Bd.named
  have hnm := (name_of_methodNamed Bd.named Bd.method).1
  have X0 : Stand p l e ({ frames := 0, cells := 0, slots := 0, locals := 0 } : Room) s m #[(.ref w18)] below meth c s₁ [] 0 0 := Stand.of_body Bd
  have e0 : s₁.heap = h0 := by rw [← hh, Bd.state]; rfl
  have N0 := Fr.nil n0
  have pre0 : ∀ t, Steps p.tables e below (s₁.setTop (mkF m 0 #[.val (.ref w18)] [])) t → Steps p.tables e below (s₁.setTop (entryFrame m #[(.ref w18)] 1)) t := fun t k => castTop (ef_jdk_37_method_2_code_A m w18) k
  have P0 := P; obtain ⟨S0, E0, F0_ordinal, S1, E1, F1_ordinal, S2, E2, F2_ordinal, S3, E3, F3_ordinal, S4, E4, F4_ordinal, S5, E5, F5_ordinal, S6, E6, F6_ordinal, S7, E7, F7_ordinal, S8, E8, F8_ordinal, S9, E9, F9_ordinal, S10, E10, F10_ordinal, S11, E11, F11_ordinal, S12, E12, F12_ordinal, S13, E13, F13_ordinal, S14, E14, F14_ordinal, S15, E15, F15_ordinal, S16, E16, F16_ordinal, S17, E17, F17_ordinal, S18, E18, F18_ordinal, S19, E19, F19_ordinal, S20, E20, F20_ordinal, S21, E21, F21_ordinal, S22, E22, F22_ordinal, S23, E23, F23_ordinal⟩ := P0
  obtain ⟨T61, X61, e61, st61⟩ := getF X0 hx hZ hown (host := "") (Or.inl (hw _ (List.mem_of_getElem? (i := 20) rfl))) Via.refl e0 F18_ordinal (g := (mkF m 1 #[.val (.ref w18)] [(.ref w18)])) rfl rfl (hb hby d_jdk_37_method_2_code_1)
  obtain ⟨fs, hr, hrun, hended, hW, hsame⟩ := X61.leave (v := some (.int (6 : Int32))) (fun h => by rw [Bd.returns] at h; cases h)
  refine ⟨_, _, pre0 _ ?_, hrun, hended, _, _, rfl, ?_, ⟨_, rfl⟩, hW, hsame.mono (by decide) (by decide)⟩
  · show Steps p.tables e below (s₁.setTop (mkF m 0 #[.val (.ref w18)] [])) _
    refine XS.aloadN X0.here hx rfl (hb hby d_jdk_37_method_2_code_0) rfl rfl ?_
    show Steps p.tables e below (s₁.setTop (mkF m 1 #[.val (.ref w18)] [(.ref w18)])) _
    refine st61 _ ?_
    show Steps p.tables e below (T61.setTop (mkF m 4 #[.val (.ref w18)] [(.int (6 : Int32))])) _
    exact retI X61 hx Bd.returns (hb hby d_jdk_37_method_2_code_4) hr
  · show own_Q (some (.int (6 : Int32))) h0 n0 _ T61.heap _
    rw [e61]
    exact ⟨rfl, N0, rfl⟩
set_option maxRecDepth 65536 in
set_option maxHeartbeats 40000000 in
theorem own_isDecimal_18 (l : Launch) (Z : State) (a0 : Array Value) (hw : ∀ d ∈ tables_1, d.before a0 Z = true) (ws : List Jvm.Cond) (w0 w1 w2 w3 w4 w5 w6 w7 w8 w9 w10 w11 w12 w13 w14 w15 w16 w17 w18 w19 w20 w21 w22 w23 : Addr) (h0 : Heap) (n0 : Nat) (Z0 : n0 ≤ h0.size) (P : own_P Z h0 w0 w1 w2 w3 w4 w5 w6 w7 w8 w9 w10 w11 w12 w13 w14 w15 w16 w17 w18 w19 w20 w21 w22 w23) :
    MetFree l (⟨"apportion/io/DataType", "isDecimal", "()Z"⟩ : MethodName) (head1 (Jvm.Cond.code (⟨"apportion/io/DataType", "isDecimal", "()Z"⟩ : MethodName) prog_15_method_5_code 1 (some .boolean) :: ws) ({ frames := 1, cells := 0, slots := 0, locals := 12 } : Room)) (fun a U => a = #[(.ref w18)] ∧ Z.Warmed39 U.vm ∧ U.heap = h0) (fun _ _ _ _ _ => True) (fun _ U o U' => ∃ v L, o = .returned v ∧ own_Q (some (.int (0 : Int32))) h0 n0 v U'.heap L ∧ FrameEnd U o U' L ({ frames := 1, cells := 0, slots := 0, locals := 12 } : Room).cells ({ frames := 1, cells := 0, slots := 0, locals := 12 } : Room).slots) := by
  refine MetFree.of_bodySF (plainFor_of_name pn_apportion_io_DataType) hisR ?_
  intro p e s m args below meth c s₁ Bd hml0 hP hK
  obtain ⟨rfl, hZ, hh⟩ := hP
  have hx := Bd.exec
  have hby := Bd.bytes
  have hml : c.maxLocals = 1 := hml0
  have hown : s.vm.findClass "apportion/io/DataType" = some m.cls := findClass_of_methodNamed Bd.named
  have hnm := (name_of_methodNamed Bd.named Bd.method).1
  have X0 : Stand p l e ({ frames := 1, cells := 0, slots := 0, locals := 12 } : Room) s m #[(.ref w18)] below meth c s₁ [] 0 0 := Stand.of_body Bd
  have e0 : s₁.heap = h0 := by rw [← hh, Bd.state]; rfl
  have N0 := Fr.nil n0
  have pre0 : ∀ t, Steps p.tables e below (s₁.setTop (mkF m 0 #[.val (.ref w18)] [])) t → Steps p.tables e below (s₁.setTop (entryFrame m #[(.ref w18)] 1)) t := fun t k => castTop (ef_prog_15_method_5_code_A m w18) k
  have P0 := P; obtain ⟨S0, E0, F0_ordinal, S1, E1, F1_ordinal, S2, E2, F2_ordinal, S3, E3, F3_ordinal, S4, E4, F4_ordinal, S5, E5, F5_ordinal, S6, E6, F6_ordinal, S7, E7, F7_ordinal, S8, E8, F8_ordinal, S9, E9, F9_ordinal, S10, E10, F10_ordinal, S11, E11, F11_ordinal, S12, E12, F12_ordinal, S13, E13, F13_ordinal, S14, E14, F14_ordinal, S15, E15, F15_ordinal, S16, E16, F16_ordinal, S17, E17, F17_ordinal, S18, E18, F18_ordinal, S19, E19, F19_ordinal, S20, E20, F20_ordinal, S21, E21, F21_ordinal, S22, E22, F22_ordinal, S23, E23, F23_ordinal⟩ := P0
  obtain ⟨cq62, kq62, q62a, q62b, q62c⟩ := isOf hZ e0 E18
  obtain ⟨_, _, ⟨T62, L62, k62, n62⟩, -, X62, ⟨Lc62, hQ62, l62, y62, z62⟩, st62⟩ := X0.virtualBackUp hx (owner := "java/lang/Enum") (x := (⟨"apportion/io/DataType", "ordinal", "()I"⟩ : MethodName)) (y := (⟨"java/lang/Enum", "ordinal", "()I"⟩ : MethodName)) hown (mvT hZ (hw _ (List.mem_of_getElem? (i := 13) rfl))) (mvT hZ (hw _ (List.mem_of_getElem? (i := 14) rfl))) (mvT hZ (hw _ (List.mem_of_getElem? (i := 15) rfl))) (by decide) (mvT hZ (hw _ (List.mem_of_getElem? (i := 17) rfl))) (mvT hZ (hw _ (List.mem_of_getElem? (i := 16) rfl))) (backOf (W := 0) (own_ordinal_18 l Z a0 hw [] w0 w1 w2 w3 w4 w5 w6 w7 w8 w9 w10 w11 w12 w13 w14 w15 w16 w17 w18 w19 w20 w21 w22 w23 h0 n0 Z0 P) hZ (hw _ (List.mem_of_getElem? (i := 19) rfl)) (hw _ (List.mem_of_getElem? (i := 18) rfl)) (by decide) (by decide)) q62a q62c (g := (mkF m 1 #[.val (.ref w18)] [(.ref w18)])) rfl (by rw [hml]; rfl) (Steps.refl _) (argsL := []) (rest := []) (lenOf pd___I rfl) rfl (by show 2 * 0 + _ ≤ _; exact Nat.le_of_eq rfl) (hb hby d_prog_15_method_5_code_1) (fun _ _ => ⟨rfl, e0, (by decide : 0 + 0 ≤ _), (by decide : 0 + 0 ≤ _)⟩)
  dsimp only [Pt.U, Pt.locs, Pt.cells, Pt.slots] at X62 l62 y62 z62 st62 hQ62
  subst l62 y62 z62
  obtain ⟨rfl, N62q, e62⟩ := hQ62
  have N62 := Fr.app N0 N62q
  obtain ⟨fs, hr, hrun, hended, hW, hsame⟩ := X62.leave (v := some (.int (0 : Int32))) (fun h => by rw [Bd.returns] at h; cases h)
  refine ⟨_, _, pre0 _ ?_, hrun, hended, _, _, rfl, ?_, ⟨_, rfl⟩, hW, hsame.mono (by decide) (by decide)⟩
  · show Steps p.tables e below (s₁.setTop (mkF m 0 #[.val (.ref w18)] [])) _
    refine XS.aloadN X0.here hx rfl (hb hby d_prog_15_method_5_code_0) rfl rfl ?_
    show Steps p.tables e below (s₁.setTop (mkF m 1 #[.val (.ref w18)] [(.ref w18)])) _
    refine st62.trans ?_
    show Steps p.tables e below (T62.setTop (mkF m 4 #[.val (.ref w18)] [(.int (6 : Int32))])) _
    refine XS.tswOut X62.here hx rfl (pc0 := 4) (pc' := 48) rfl (hb hby d_prog_15_method_5_code_4) rfl (by decide) (by decide) (by decide) ?_
    show Steps p.tables e below (T62.setTop (mkF m 48 #[.val (.ref w18)] [])) _
    refine XT.iconstV X62.here hx rfl (0 : Int32) (hb hby d_prog_15_method_5_code_48) rfl ?_
    show Steps p.tables e below (T62.setTop (mkF m 49 #[.val (.ref w18)] [(.int (0 : Int32))])) _
    exact retN X62 hx (t := .boolean) Bd.returns (by simp) (hb hby d_prog_15_method_5_code_49) hr
  · show own_Q (some (.int (0 : Int32))) h0 n0 _ T62.heap _
    rw [e62]
    exact ⟨rfl, N62, rfl⟩
set_option maxRecDepth 65536 in
set_option maxHeartbeats 40000000 in
theorem own_ordinal_19 (l : Launch) (Z : State) (a0 : Array Value) (hw : ∀ d ∈ tables_1, d.before a0 Z = true) (ws : List Jvm.Cond) (w0 w1 w2 w3 w4 w5 w6 w7 w8 w9 w10 w11 w12 w13 w14 w15 w16 w17 w18 w19 w20 w21 w22 w23 : Addr) (h0 : Heap) (n0 : Nat) (Z0 : n0 ≤ h0.size) (P : own_P Z h0 w0 w1 w2 w3 w4 w5 w6 w7 w8 w9 w10 w11 w12 w13 w14 w15 w16 w17 w18 w19 w20 w21 w22 w23) :
    MetFree l (⟨"java/lang/Enum", "ordinal", "()I"⟩ : MethodName) (head1 (Jvm.Cond.code (⟨"java/lang/Enum", "ordinal", "()I"⟩ : MethodName) jdk_37_method_2_code 1 (some .int) :: ws) ({ frames := 0, cells := 0, slots := 0, locals := 0 } : Room)) (fun a U => a = #[(.ref w19)] ∧ Z.Warmed39 U.vm ∧ U.heap = h0) (fun _ _ _ _ _ => True) (fun _ U o U' => ∃ v L, o = .returned v ∧ own_Q (some (.int (12 : Int32))) h0 n0 v U'.heap L ∧ FrameEnd U o U' L ({ frames := 0, cells := 0, slots := 0, locals := 0 } : Room).cells ({ frames := 0, cells := 0, slots := 0, locals := 0 } : Room).slots) := by
  refine MetFree.of_bodySF (plainFor_of_name pn_java_lang_Enum) hisR ?_
  intro p e s m args below meth c s₁ Bd hml0 hP hK
  obtain ⟨rfl, hZ, hh⟩ := hP
  have hx := Bd.exec
  have hby := Bd.bytes
  have hml : c.maxLocals = 1 := hml0
  have hown : s.vm.findClass "java/lang/Enum" = some m.cls := findClass_of_methodNamed Bd.named
  have hnm := (name_of_methodNamed Bd.named Bd.method).1
  have X0 : Stand p l e ({ frames := 0, cells := 0, slots := 0, locals := 0 } : Room) s m #[(.ref w19)] below meth c s₁ [] 0 0 := Stand.of_body Bd
  have e0 : s₁.heap = h0 := by rw [← hh, Bd.state]; rfl
  have N0 := Fr.nil n0
  have pre0 : ∀ t, Steps p.tables e below (s₁.setTop (mkF m 0 #[.val (.ref w19)] [])) t → Steps p.tables e below (s₁.setTop (entryFrame m #[(.ref w19)] 1)) t := fun t k => castTop (ef_jdk_37_method_2_code_A m w19) k
  have P0 := P; obtain ⟨S0, E0, F0_ordinal, S1, E1, F1_ordinal, S2, E2, F2_ordinal, S3, E3, F3_ordinal, S4, E4, F4_ordinal, S5, E5, F5_ordinal, S6, E6, F6_ordinal, S7, E7, F7_ordinal, S8, E8, F8_ordinal, S9, E9, F9_ordinal, S10, E10, F10_ordinal, S11, E11, F11_ordinal, S12, E12, F12_ordinal, S13, E13, F13_ordinal, S14, E14, F14_ordinal, S15, E15, F15_ordinal, S16, E16, F16_ordinal, S17, E17, F17_ordinal, S18, E18, F18_ordinal, S19, E19, F19_ordinal, S20, E20, F20_ordinal, S21, E21, F21_ordinal, S22, E22, F22_ordinal, S23, E23, F23_ordinal⟩ := P0
  obtain ⟨T63, X63, e63, st63⟩ := getF X0 hx hZ hown (host := "") (Or.inl (hw _ (List.mem_of_getElem? (i := 20) rfl))) Via.refl e0 F19_ordinal (g := (mkF m 1 #[.val (.ref w19)] [(.ref w19)])) rfl rfl (hb hby d_jdk_37_method_2_code_1)
  obtain ⟨fs, hr, hrun, hended, hW, hsame⟩ := X63.leave (v := some (.int (12 : Int32))) (fun h => by rw [Bd.returns] at h; cases h)
  refine ⟨_, _, pre0 _ ?_, hrun, hended, _, _, rfl, ?_, ⟨_, rfl⟩, hW, hsame.mono (by decide) (by decide)⟩
  · show Steps p.tables e below (s₁.setTop (mkF m 0 #[.val (.ref w19)] [])) _
    refine XS.aloadN X0.here hx rfl (hb hby d_jdk_37_method_2_code_0) rfl rfl ?_
    show Steps p.tables e below (s₁.setTop (mkF m 1 #[.val (.ref w19)] [(.ref w19)])) _
    refine st63 _ ?_
    show Steps p.tables e below (T63.setTop (mkF m 4 #[.val (.ref w19)] [(.int (12 : Int32))])) _
    exact retI X63 hx Bd.returns (hb hby d_jdk_37_method_2_code_4) hr
  · show own_Q (some (.int (12 : Int32))) h0 n0 _ T63.heap _
    rw [e63]
    exact ⟨rfl, N0, rfl⟩
set_option maxRecDepth 65536 in
set_option maxHeartbeats 40000000 in
theorem own_isDecimal_19 (l : Launch) (Z : State) (a0 : Array Value) (hw : ∀ d ∈ tables_1, d.before a0 Z = true) (ws : List Jvm.Cond) (w0 w1 w2 w3 w4 w5 w6 w7 w8 w9 w10 w11 w12 w13 w14 w15 w16 w17 w18 w19 w20 w21 w22 w23 : Addr) (h0 : Heap) (n0 : Nat) (Z0 : n0 ≤ h0.size) (P : own_P Z h0 w0 w1 w2 w3 w4 w5 w6 w7 w8 w9 w10 w11 w12 w13 w14 w15 w16 w17 w18 w19 w20 w21 w22 w23) :
    MetFree l (⟨"apportion/io/DataType", "isDecimal", "()Z"⟩ : MethodName) (head1 (Jvm.Cond.code (⟨"apportion/io/DataType", "isDecimal", "()Z"⟩ : MethodName) prog_15_method_5_code 1 (some .boolean) :: ws) ({ frames := 1, cells := 0, slots := 0, locals := 12 } : Room)) (fun a U => a = #[(.ref w19)] ∧ Z.Warmed39 U.vm ∧ U.heap = h0) (fun _ _ _ _ _ => True) (fun _ U o U' => ∃ v L, o = .returned v ∧ own_Q (some (.int (1 : Int32))) h0 n0 v U'.heap L ∧ FrameEnd U o U' L ({ frames := 1, cells := 0, slots := 0, locals := 12 } : Room).cells ({ frames := 1, cells := 0, slots := 0, locals := 12 } : Room).slots) := by
  refine MetFree.of_bodySF (plainFor_of_name pn_apportion_io_DataType) hisR ?_
  intro p e s m args below meth c s₁ Bd hml0 hP hK
  obtain ⟨rfl, hZ, hh⟩ := hP
  have hx := Bd.exec
  have hby := Bd.bytes
  have hml : c.maxLocals = 1 := hml0
  have hown : s.vm.findClass "apportion/io/DataType" = some m.cls := findClass_of_methodNamed Bd.named
  have hnm := (name_of_methodNamed Bd.named Bd.method).1
  have X0 : Stand p l e ({ frames := 1, cells := 0, slots := 0, locals := 12 } : Room) s m #[(.ref w19)] below meth c s₁ [] 0 0 := Stand.of_body Bd
  have e0 : s₁.heap = h0 := by rw [← hh, Bd.state]; rfl
  have N0 := Fr.nil n0
  have pre0 : ∀ t, Steps p.tables e below (s₁.setTop (mkF m 0 #[.val (.ref w19)] [])) t → Steps p.tables e below (s₁.setTop (entryFrame m #[(.ref w19)] 1)) t := fun t k => castTop (ef_prog_15_method_5_code_A m w19) k
  have P0 := P; obtain ⟨S0, E0, F0_ordinal, S1, E1, F1_ordinal, S2, E2, F2_ordinal, S3, E3, F3_ordinal, S4, E4, F4_ordinal, S5, E5, F5_ordinal, S6, E6, F6_ordinal, S7, E7, F7_ordinal, S8, E8, F8_ordinal, S9, E9, F9_ordinal, S10, E10, F10_ordinal, S11, E11, F11_ordinal, S12, E12, F12_ordinal, S13, E13, F13_ordinal, S14, E14, F14_ordinal, S15, E15, F15_ordinal, S16, E16, F16_ordinal, S17, E17, F17_ordinal, S18, E18, F18_ordinal, S19, E19, F19_ordinal, S20, E20, F20_ordinal, S21, E21, F21_ordinal, S22, E22, F22_ordinal, S23, E23, F23_ordinal⟩ := P0
  obtain ⟨cq64, kq64, q64a, q64b, q64c⟩ := isOf hZ e0 E19
  obtain ⟨_, _, ⟨T64, L64, k64, n64⟩, -, X64, ⟨Lc64, hQ64, l64, y64, z64⟩, st64⟩ := X0.virtualBackUp hx (owner := "java/lang/Enum") (x := (⟨"apportion/io/DataType", "ordinal", "()I"⟩ : MethodName)) (y := (⟨"java/lang/Enum", "ordinal", "()I"⟩ : MethodName)) hown (mvT hZ (hw _ (List.mem_of_getElem? (i := 13) rfl))) (mvT hZ (hw _ (List.mem_of_getElem? (i := 14) rfl))) (mvT hZ (hw _ (List.mem_of_getElem? (i := 15) rfl))) (by decide) (mvT hZ (hw _ (List.mem_of_getElem? (i := 17) rfl))) (mvT hZ (hw _ (List.mem_of_getElem? (i := 16) rfl))) (backOf (W := 0) (own_ordinal_19 l Z a0 hw [] w0 w1 w2 w3 w4 w5 w6 w7 w8 w9 w10 w11 w12 w13 w14 w15 w16 w17 w18 w19 w20 w21 w22 w23 h0 n0 Z0 P) hZ (hw _ (List.mem_of_getElem? (i := 19) rfl)) (hw _ (List.mem_of_getElem? (i := 18) rfl)) (by decide) (by decide)) q64a q64c (g := (mkF m 1 #[.val (.ref w19)] [(.ref w19)])) rfl (by rw [hml]; rfl) (Steps.refl _) (argsL := []) (rest := []) (lenOf pd___I rfl) rfl (by show 2 * 0 + _ ≤ _; exact Nat.le_of_eq rfl) (hb hby d_prog_15_method_5_code_1) (fun _ _ => ⟨rfl, e0, (by decide : 0 + 0 ≤ _), (by decide : 0 + 0 ≤ _)⟩)
  dsimp only [Pt.U, Pt.locs, Pt.cells, Pt.slots] at X64 l64 y64 z64 st64 hQ64
  subst l64 y64 z64
  obtain ⟨rfl, N64q, e64⟩ := hQ64
  have N64 := Fr.app N0 N64q
  obtain ⟨fs, hr, hrun, hended, hW, hsame⟩ := X64.leave (v := some (.int (1 : Int32))) (fun h => by rw [Bd.returns] at h; cases h)
  refine ⟨_, _, pre0 _ ?_, hrun, hended, _, _, rfl, ?_, ⟨_, rfl⟩, hW, hsame.mono (by decide) (by decide)⟩
  · show Steps p.tables e below (s₁.setTop (mkF m 0 #[.val (.ref w19)] [])) _
    refine XS.aloadN X0.here hx rfl (hb hby d_prog_15_method_5_code_0) rfl rfl ?_
    show Steps p.tables e below (s₁.setTop (mkF m 1 #[.val (.ref w19)] [(.ref w19)])) _
    refine st64.trans ?_
    show Steps p.tables e below (T64.setTop (mkF m 4 #[.val (.ref w19)] [(.int (12 : Int32))])) _
    refine XS.tswIn X64.here hx rfl (o := 40) (pc0 := 4) (pc' := 44) rfl (hb hby d_prog_15_method_5_code_4) rfl (by decide) (by decide) (by decide) (by decide) ?_
    show Steps p.tables e below (T64.setTop (mkF m 44 #[.val (.ref w19)] [])) _
    refine XT.iconstV X64.here hx rfl (1 : Int32) (hb hby d_prog_15_method_5_code_44) rfl ?_
    show Steps p.tables e below (T64.setTop (mkF m 45 #[.val (.ref w19)] [(.int (1 : Int32))])) _
    refine XS.goto X64.here hx rfl (pc0 := 45) (pc' := 49) rfl (hb hby d_prog_15_method_5_code_45) (by decide) (by decide) ?_
    show Steps p.tables e below (T64.setTop (mkF m 49 #[.val (.ref w19)] [(.int (1 : Int32))])) _
    exact retN X64 hx (t := .boolean) Bd.returns (by simp) (hb hby d_prog_15_method_5_code_49) hr
  · show own_Q (some (.int (1 : Int32))) h0 n0 _ T64.heap _
    rw [e64]
    exact ⟨rfl, N64, rfl⟩
set_option maxRecDepth 65536 in
set_option maxHeartbeats 40000000 in
theorem own_ordinal_20 (l : Launch) (Z : State) (a0 : Array Value) (hw : ∀ d ∈ tables_1, d.before a0 Z = true) (ws : List Jvm.Cond) (w0 w1 w2 w3 w4 w5 w6 w7 w8 w9 w10 w11 w12 w13 w14 w15 w16 w17 w18 w19 w20 w21 w22 w23 : Addr) (h0 : Heap) (n0 : Nat) (Z0 : n0 ≤ h0.size) (P : own_P Z h0 w0 w1 w2 w3 w4 w5 w6 w7 w8 w9 w10 w11 w12 w13 w14 w15 w16 w17 w18 w19 w20 w21 w22 w23) :
    MetFree l (⟨"java/lang/Enum", "ordinal", "()I"⟩ : MethodName) (head1 (Jvm.Cond.code (⟨"java/lang/Enum", "ordinal", "()I"⟩ : MethodName) jdk_37_method_2_code 1 (some .int) :: ws) ({ frames := 0, cells := 0, slots := 0, locals := 0 } : Room)) (fun a U => a = #[(.ref w20)] ∧ Z.Warmed39 U.vm ∧ U.heap = h0) (fun _ _ _ _ _ => True) (fun _ U o U' => ∃ v L, o = .returned v ∧ own_Q (some (.int (17 : Int32))) h0 n0 v U'.heap L ∧ FrameEnd U o U' L ({ frames := 0, cells := 0, slots := 0, locals := 0 } : Room).cells ({ frames := 0, cells := 0, slots := 0, locals := 0 } : Room).slots) := by
  refine MetFree.of_bodySF (plainFor_of_name pn_java_lang_Enum) hisR ?_
  intro p e s m args below meth c s₁ Bd hml0 hP hK
  obtain ⟨rfl, hZ, hh⟩ := hP
  have hx := Bd.exec
  have hby := Bd.bytes
  have hml : c.maxLocals = 1 := hml0
  have hown : s.vm.findClass "java/lang/Enum" = some m.cls := findClass_of_methodNamed Bd.named
  have hnm := (name_of_methodNamed Bd.named Bd.method).1
  have X0 : Stand p l e ({ frames := 0, cells := 0, slots := 0, locals := 0 } : Room) s m #[(.ref w20)] below meth c s₁ [] 0 0 := Stand.of_body Bd
  have e0 : s₁.heap = h0 := by rw [← hh, Bd.state]; rfl
  have N0 := Fr.nil n0
  have pre0 : ∀ t, Steps p.tables e below (s₁.setTop (mkF m 0 #[.val (.ref w20)] [])) t → Steps p.tables e below (s₁.setTop (entryFrame m #[(.ref w20)] 1)) t := fun t k => castTop (ef_jdk_37_method_2_code_A m w20) k
  have P0 := P; obtain ⟨S0, E0, F0_ordinal, S1, E1, F1_ordinal, S2, E2, F2_ordinal, S3, E3, F3_ordinal, S4, E4, F4_ordinal, S5, E5, F5_ordinal, S6, E6, F6_ordinal, S7, E7, F7_ordinal, S8, E8, F8_ordinal, S9, E9, F9_ordinal, S10, E10, F10_ordinal, S11, E11, F11_ordinal, S12, E12, F12_ordinal, S13, E13, F13_ordinal, S14, E14, F14_ordinal, S15, E15, F15_ordinal, S16, E16, F16_ordinal, S17, E17, F17_ordinal, S18, E18, F18_ordinal, S19, E19, F19_ordinal, S20, E20, F20_ordinal, S21, E21, F21_ordinal, S22, E22, F22_ordinal, S23, E23, F23_ordinal⟩ := P0
  obtain ⟨T65, X65, e65, st65⟩ := getF X0 hx hZ hown (host := "") (Or.inl (hw _ (List.mem_of_getElem? (i := 20) rfl))) Via.refl e0 F20_ordinal (g := (mkF m 1 #[.val (.ref w20)] [(.ref w20)])) rfl rfl (hb hby d_jdk_37_method_2_code_1)
  obtain ⟨fs, hr, hrun, hended, hW, hsame⟩ := X65.leave (v := some (.int (17 : Int32))) (fun h => by rw [Bd.returns] at h; cases h)
  refine ⟨_, _, pre0 _ ?_, hrun, hended, _, _, rfl, ?_, ⟨_, rfl⟩, hW, hsame.mono (by decide) (by decide)⟩
  · show Steps p.tables e below (s₁.setTop (mkF m 0 #[.val (.ref w20)] [])) _
    refine XS.aloadN X0.here hx rfl (hb hby d_jdk_37_method_2_code_0) rfl rfl ?_
    show Steps p.tables e below (s₁.setTop (mkF m 1 #[.val (.ref w20)] [(.ref w20)])) _
    refine st65 _ ?_
    show Steps p.tables e below (T65.setTop (mkF m 4 #[.val (.ref w20)] [(.int (17 : Int32))])) _
    exact retI X65 hx Bd.returns (hb hby d_jdk_37_method_2_code_4) hr
  · show own_Q (some (.int (17 : Int32))) h0 n0 _ T65.heap _
    rw [e65]
    exact ⟨rfl, N0, rfl⟩
set_option maxRecDepth 65536 in
set_option maxHeartbeats 40000000 in
theorem own_isDecimal_20 (l : Launch) (Z : State) (a0 : Array Value) (hw : ∀ d ∈ tables_1, d.before a0 Z = true) (ws : List Jvm.Cond) (w0 w1 w2 w3 w4 w5 w6 w7 w8 w9 w10 w11 w12 w13 w14 w15 w16 w17 w18 w19 w20 w21 w22 w23 : Addr) (h0 : Heap) (n0 : Nat) (Z0 : n0 ≤ h0.size) (P : own_P Z h0 w0 w1 w2 w3 w4 w5 w6 w7 w8 w9 w10 w11 w12 w13 w14 w15 w16 w17 w18 w19 w20 w21 w22 w23) :
    MetFree l (⟨"apportion/io/DataType", "isDecimal", "()Z"⟩ : MethodName) (head1 (Jvm.Cond.code (⟨"apportion/io/DataType", "isDecimal", "()Z"⟩ : MethodName) prog_15_method_5_code 1 (some .boolean) :: ws) ({ frames := 1, cells := 0, slots := 0, locals := 12 } : Room)) (fun a U => a = #[(.ref w20)] ∧ Z.Warmed39 U.vm ∧ U.heap = h0) (fun _ _ _ _ _ => True) (fun _ U o U' => ∃ v L, o = .returned v ∧ own_Q (some (.int (0 : Int32))) h0 n0 v U'.heap L ∧ FrameEnd U o U' L ({ frames := 1, cells := 0, slots := 0, locals := 12 } : Room).cells ({ frames := 1, cells := 0, slots := 0, locals := 12 } : Room).slots) := by
  refine MetFree.of_bodySF (plainFor_of_name pn_apportion_io_DataType) hisR ?_
  intro p e s m args below meth c s₁ Bd hml0 hP hK
  obtain ⟨rfl, hZ, hh⟩ := hP
  have hx := Bd.exec
  have hby := Bd.bytes
  have hml : c.maxLocals = 1 := hml0
  have hown : s.vm.findClass "apportion/io/DataType" = some m.cls := findClass_of_methodNamed Bd.named
  have hnm := (name_of_methodNamed Bd.named Bd.method).1
  have X0 : Stand p l e ({ frames := 1, cells := 0, slots := 0, locals := 12 } : Room) s m #[(.ref w20)] below meth c s₁ [] 0 0 := Stand.of_body Bd
  have e0 : s₁.heap = h0 := by rw [← hh, Bd.state]; rfl
  have N0 := Fr.nil n0
  have pre0 : ∀ t, Steps p.tables e below (s₁.setTop (mkF m 0 #[.val (.ref w20)] [])) t → Steps p.tables e below (s₁.setTop (entryFrame m #[(.ref w20)] 1)) t := fun t k => castTop (ef_prog_15_method_5_code_A m w20) k
  have P0 := P; obtain ⟨S0, E0, F0_ordinal, S1, E1, F1_ordinal, S2, E2, F2_ordinal, S3, E3, F3_ordinal, S4, E4, F4_ordinal, S5, E5, F5_ordinal, S6, E6, F6_ordinal, S7, E7, F7_ordinal, S8, E8, F8_ordinal, S9, E9, F9_ordinal, S10, E10, F10_ordinal, S11, E11, F11_ordinal, S12, E12, F12_ordinal, S13, E13, F13_ordinal, S14, E14, F14_ordinal, S15, E15, F15_ordinal, S16, E16, F16_ordinal, S17, E17, F17_ordinal, S18, E18, F18_ordinal, S19, E19, F19_ordinal, S20, E20, F20_ordinal, S21, E21, F21_ordinal, S22, E22, F22_ordinal, S23, E23, F23_ordinal⟩ := P0
  obtain ⟨cq66, kq66, q66a, q66b, q66c⟩ := isOf hZ e0 E20
  obtain ⟨_, _, ⟨T66, L66, k66, n66⟩, -, X66, ⟨Lc66, hQ66, l66, y66, z66⟩, st66⟩ := X0.virtualBackUp hx (owner := "java/lang/Enum") (x := (⟨"apportion/io/DataType", "ordinal", "()I"⟩ : MethodName)) (y := (⟨"java/lang/Enum", "ordinal", "()I"⟩ : MethodName)) hown (mvT hZ (hw _ (List.mem_of_getElem? (i := 13) rfl))) (mvT hZ (hw _ (List.mem_of_getElem? (i := 14) rfl))) (mvT hZ (hw _ (List.mem_of_getElem? (i := 15) rfl))) (by decide) (mvT hZ (hw _ (List.mem_of_getElem? (i := 17) rfl))) (mvT hZ (hw _ (List.mem_of_getElem? (i := 16) rfl))) (backOf (W := 0) (own_ordinal_20 l Z a0 hw [] w0 w1 w2 w3 w4 w5 w6 w7 w8 w9 w10 w11 w12 w13 w14 w15 w16 w17 w18 w19 w20 w21 w22 w23 h0 n0 Z0 P) hZ (hw _ (List.mem_of_getElem? (i := 19) rfl)) (hw _ (List.mem_of_getElem? (i := 18) rfl)) (by decide) (by decide)) q66a q66c (g := (mkF m 1 #[.val (.ref w20)] [(.ref w20)])) rfl (by rw [hml]; rfl) (Steps.refl _) (argsL := []) (rest := []) (lenOf pd___I rfl) rfl (by show 2 * 0 + _ ≤ _; exact Nat.le_of_eq rfl) (hb hby d_prog_15_method_5_code_1) (fun _ _ => ⟨rfl, e0, (by decide : 0 + 0 ≤ _), (by decide : 0 + 0 ≤ _)⟩)
  dsimp only [Pt.U, Pt.locs, Pt.cells, Pt.slots] at X66 l66 y66 z66 st66 hQ66
  subst l66 y66 z66
  obtain ⟨rfl, N66q, e66⟩ := hQ66
  have N66 := Fr.app N0 N66q
  obtain ⟨fs, hr, hrun, hended, hW, hsame⟩ := X66.leave (v := some (.int (0 : Int32))) (fun h => by rw [Bd.returns] at h; cases h)
  refine ⟨_, _, pre0 _ ?_, hrun, hended, _, _, rfl, ?_, ⟨_, rfl⟩, hW, hsame.mono (by decide) (by decide)⟩
  · show Steps p.tables e below (s₁.setTop (mkF m 0 #[.val (.ref w20)] [])) _
    refine XS.aloadN X0.here hx rfl (hb hby d_prog_15_method_5_code_0) rfl rfl ?_
    show Steps p.tables e below (s₁.setTop (mkF m 1 #[.val (.ref w20)] [(.ref w20)])) _
    refine st66.trans ?_
    show Steps p.tables e below (T66.setTop (mkF m 4 #[.val (.ref w20)] [(.int (17 : Int32))])) _
    refine XS.tswOut X66.here hx rfl (pc0 := 4) (pc' := 48) rfl (hb hby d_prog_15_method_5_code_4) rfl (by decide) (by decide) (by decide) ?_
    show Steps p.tables e below (T66.setTop (mkF m 48 #[.val (.ref w20)] [])) _
    refine XT.iconstV X66.here hx rfl (0 : Int32) (hb hby d_prog_15_method_5_code_48) rfl ?_
    show Steps p.tables e below (T66.setTop (mkF m 49 #[.val (.ref w20)] [(.int (0 : Int32))])) _
    exact retN X66 hx (t := .boolean) Bd.returns (by simp) (hb hby d_prog_15_method_5_code_49) hr
  · show own_Q (some (.int (0 : Int32))) h0 n0 _ T66.heap _
    rw [e66]
    exact ⟨rfl, N66, rfl⟩
set_option maxRecDepth 65536 in
set_option maxHeartbeats 40000000 in
theorem own_ordinal_21 (l : Launch) (Z : State) (a0 : Array Value) (hw : ∀ d ∈ tables_1, d.before a0 Z = true) (ws : List Jvm.Cond) (w0 w1 w2 w3 w4 w5 w6 w7 w8 w9 w10 w11 w12 w13 w14 w15 w16 w17 w18 w19 w20 w21 w22 w23 : Addr) (h0 : Heap) (n0 : Nat) (Z0 : n0 ≤ h0.size) (P : own_P Z h0 w0 w1 w2 w3 w4 w5 w6 w7 w8 w9 w10 w11 w12 w13 w14 w15 w16 w17 w18 w19 w20 w21 w22 w23) :
    MetFree l (⟨"java/lang/Enum", "ordinal", "()I"⟩ : MethodName) (head1 (Jvm.Cond.code (⟨"java/lang/Enum", "ordinal", "()I"⟩ : MethodName) jdk_37_method_2_code 1 (some .int) :: ws) ({ frames := 0, cells := 0, slots := 0, locals := 0 } : Room)) (fun a U => a = #[(.ref w21)] ∧ Z.Warmed39 U.vm ∧ U.heap = h0) (fun _ _ _ _ _ => True) (fun _ U o U' => ∃ v L, o = .returned v ∧ own_Q (some (.int (21 : Int32))) h0 n0 v U'.heap L ∧ FrameEnd U o U' L ({ frames := 0, cells := 0, slots := 0, locals := 0 } : Room).cells ({ frames := 0, cells := 0, slots := 0, locals := 0 } : Room).slots) := by
  refine MetFree.of_bodySF (plainFor_of_name pn_java_lang_Enum) hisR ?_
  intro p e s m args below meth c s₁ Bd hml0 hP hK
  obtain ⟨rfl, hZ, hh⟩ := hP
  have hx := Bd.exec
  have hby := Bd.bytes
  have hml : c.maxLocals = 1 := hml0
  have hown : s.vm.findClass "java/lang/Enum" = some m.cls := findClass_of_methodNamed Bd.named
  have hnm := (name_of_methodNamed Bd.named Bd.method).1
  have X0 : Stand p l e ({ frames := 0, cells := 0, slots := 0, locals := 0 } : Room) s m #[(.ref w21)] below meth c s₁ [] 0 0 := Stand.of_body Bd
  have e0 : s₁.heap = h0 := by rw [← hh, Bd.state]; rfl
  have N0 := Fr.nil n0
  have pre0 : ∀ t, Steps p.tables e below (s₁.setTop (mkF m 0 #[.val (.ref w21)] [])) t → Steps p.tables e below (s₁.setTop (entryFrame m #[(.ref w21)] 1)) t := fun t k => castTop (ef_jdk_37_method_2_code_A m w21) k
  have P0 := P; obtain ⟨S0, E0, F0_ordinal, S1, E1, F1_ordinal, S2, E2, F2_ordinal, S3, E3, F3_ordinal, S4, E4, F4_ordinal, S5, E5, F5_ordinal, S6, E6, F6_ordinal, S7, E7, F7_ordinal, S8, E8, F8_ordinal, S9, E9, F9_ordinal, S10, E10, F10_ordinal, S11, E11, F11_ordinal, S12, E12, F12_ordinal, S13, E13, F13_ordinal, S14, E14, F14_ordinal, S15, E15, F15_ordinal, S16, E16, F16_ordinal, S17, E17, F17_ordinal, S18, E18, F18_ordinal, S19, E19, F19_ordinal, S20, E20, F20_ordinal, S21, E21, F21_ordinal, S22, E22, F22_ordinal, S23, E23, F23_ordinal⟩ := P0
  obtain ⟨T67, X67, e67, st67⟩ := getF X0 hx hZ hown (host := "") (Or.inl (hw _ (List.mem_of_getElem? (i := 20) rfl))) Via.refl e0 F21_ordinal (g := (mkF m 1 #[.val (.ref w21)] [(.ref w21)])) rfl rfl (hb hby d_jdk_37_method_2_code_1)
  obtain ⟨fs, hr, hrun, hended, hW, hsame⟩ := X67.leave (v := some (.int (21 : Int32))) (fun h => by rw [Bd.returns] at h; cases h)
  refine ⟨_, _, pre0 _ ?_, hrun, hended, _, _, rfl, ?_, ⟨_, rfl⟩, hW, hsame.mono (by decide) (by decide)⟩
  · show Steps p.tables e below (s₁.setTop (mkF m 0 #[.val (.ref w21)] [])) _
    refine XS.aloadN X0.here hx rfl (hb hby d_jdk_37_method_2_code_0) rfl rfl ?_
    show Steps p.tables e below (s₁.setTop (mkF m 1 #[.val (.ref w21)] [(.ref w21)])) _
    refine st67 _ ?_
    show Steps p.tables e below (T67.setTop (mkF m 4 #[.val (.ref w21)] [(.int (21 : Int32))])) _
    exact retI X67 hx Bd.returns (hb hby d_jdk_37_method_2_code_4) hr
  · show own_Q (some (.int (21 : Int32))) h0 n0 _ T67.heap _
    rw [e67]
    exact ⟨rfl, N0, rfl⟩
set_option maxRecDepth 65536 in
set_option maxHeartbeats 40000000 in
theorem own_isDecimal_21 (l : Launch) (Z : State) (a0 : Array Value) (hw : ∀ d ∈ tables_1, d.before a0 Z = true) (ws : List Jvm.Cond) (w0 w1 w2 w3 w4 w5 w6 w7 w8 w9 w10 w11 w12 w13 w14 w15 w16 w17 w18 w19 w20 w21 w22 w23 : Addr) (h0 : Heap) (n0 : Nat) (Z0 : n0 ≤ h0.size) (P : own_P Z h0 w0 w1 w2 w3 w4 w5 w6 w7 w8 w9 w10 w11 w12 w13 w14 w15 w16 w17 w18 w19 w20 w21 w22 w23) :
    MetFree l (⟨"apportion/io/DataType", "isDecimal", "()Z"⟩ : MethodName) (head1 (Jvm.Cond.code (⟨"apportion/io/DataType", "isDecimal", "()Z"⟩ : MethodName) prog_15_method_5_code 1 (some .boolean) :: ws) ({ frames := 1, cells := 0, slots := 0, locals := 12 } : Room)) (fun a U => a = #[(.ref w21)] ∧ Z.Warmed39 U.vm ∧ U.heap = h0) (fun _ _ _ _ _ => True) (fun _ U o U' => ∃ v L, o = .returned v ∧ own_Q (some (.int (0 : Int32))) h0 n0 v U'.heap L ∧ FrameEnd U o U' L ({ frames := 1, cells := 0, slots := 0, locals := 12 } : Room).cells ({ frames := 1, cells := 0, slots := 0, locals := 12 } : Room).slots) := by
  refine MetFree.of_bodySF (plainFor_of_name pn_apportion_io_DataType) hisR ?_
  intro p e s m args below meth c s₁ Bd hml0 hP hK
  obtain ⟨rfl, hZ, hh⟩ := hP
  have hx := Bd.exec
  have hby := Bd.bytes
  have hml : c.maxLocals = 1 := hml0
  have hown : s.vm.findClass "apportion/io/DataType" = some m.cls := findClass_of_methodNamed Bd.named
  have hnm := (name_of_methodNamed Bd.named Bd.method).1
  have X0 : Stand p l e ({ frames := 1, cells := 0, slots := 0, locals := 12 } : Room) s m #[(.ref w21)] below meth c s₁ [] 0 0 := Stand.of_body Bd
  have e0 : s₁.heap = h0 := by rw [← hh, Bd.state]; rfl
  have N0 := Fr.nil n0
  have pre0 : ∀ t, Steps p.tables e below (s₁.setTop (mkF m 0 #[.val (.ref w21)] [])) t → Steps p.tables e below (s₁.setTop (entryFrame m #[(.ref w21)] 1)) t := fun t k => castTop (ef_prog_15_method_5_code_A m w21) k
  have P0 := P; obtain ⟨S0, E0, F0_ordinal, S1, E1, F1_ordinal, S2, E2, F2_ordinal, S3, E3, F3_ordinal, S4, E4, F4_ordinal, S5, E5, F5_ordinal, S6, E6, F6_ordinal, S7, E7, F7_ordinal, S8, E8, F8_ordinal, S9, E9, F9_ordinal, S10, E10, F10_ordinal, S11, E11, F11_ordinal, S12, E12, F12_ordinal, S13, E13, F13_ordinal, S14, E14, F14_ordinal, S15, E15, F15_ordinal, S16, E16, F16_ordinal, S17, E17, F17_ordinal, S18, E18, F18_ordinal, S19, E19, F19_ordinal, S20, E20, F20_ordinal, S21, E21, F21_ordinal, S22, E22, F22_ordinal, S23, E23, F23_ordinal⟩ := P0
  obtain ⟨cq68, kq68, q68a, q68b, q68c⟩ := isOf hZ e0 E21
  obtain ⟨_, _, ⟨T68, L68, k68, n68⟩, -, X68, ⟨Lc68, hQ68, l68, y68, z68⟩, st68⟩ := X0.virtualBackUp hx (owner := "java/lang/Enum") (x := (⟨"apportion/io/DataType", "ordinal", "()I"⟩ : MethodName)) (y := (⟨"java/lang/Enum", "ordinal", "()I"⟩ : MethodName)) hown (mvT hZ (hw _ (List.mem_of_getElem? (i := 13) rfl))) (mvT hZ (hw _ (List.mem_of_getElem? (i := 14) rfl))) (mvT hZ (hw _ (List.mem_of_getElem? (i := 15) rfl))) (by decide) (mvT hZ (hw _ (List.mem_of_getElem? (i := 17) rfl))) (mvT hZ (hw _ (List.mem_of_getElem? (i := 16) rfl))) (backOf (W := 0) (own_ordinal_21 l Z a0 hw [] w0 w1 w2 w3 w4 w5 w6 w7 w8 w9 w10 w11 w12 w13 w14 w15 w16 w17 w18 w19 w20 w21 w22 w23 h0 n0 Z0 P) hZ (hw _ (List.mem_of_getElem? (i := 19) rfl)) (hw _ (List.mem_of_getElem? (i := 18) rfl)) (by decide) (by decide)) q68a q68c (g := (mkF m 1 #[.val (.ref w21)] [(.ref w21)])) rfl (by rw [hml]; rfl) (Steps.refl _) (argsL := []) (rest := []) (lenOf pd___I rfl) rfl (by show 2 * 0 + _ ≤ _; exact Nat.le_of_eq rfl) (hb hby d_prog_15_method_5_code_1) (fun _ _ => ⟨rfl, e0, (by decide : 0 + 0 ≤ _), (by decide : 0 + 0 ≤ _)⟩)
  dsimp only [Pt.U, Pt.locs, Pt.cells, Pt.slots] at X68 l68 y68 z68 st68 hQ68
  subst l68 y68 z68
  obtain ⟨rfl, N68q, e68⟩ := hQ68
  have N68 := Fr.app N0 N68q
  obtain ⟨fs, hr, hrun, hended, hW, hsame⟩ := X68.leave (v := some (.int (0 : Int32))) (fun h => by rw [Bd.returns] at h; cases h)
  refine ⟨_, _, pre0 _ ?_, hrun, hended, _, _, rfl, ?_, ⟨_, rfl⟩, hW, hsame.mono (by decide) (by decide)⟩
  · show Steps p.tables e below (s₁.setTop (mkF m 0 #[.val (.ref w21)] [])) _
    refine XS.aloadN X0.here hx rfl (hb hby d_prog_15_method_5_code_0) rfl rfl ?_
    show Steps p.tables e below (s₁.setTop (mkF m 1 #[.val (.ref w21)] [(.ref w21)])) _
    refine st68.trans ?_
    show Steps p.tables e below (T68.setTop (mkF m 4 #[.val (.ref w21)] [(.int (21 : Int32))])) _
    refine XS.tswOut X68.here hx rfl (pc0 := 4) (pc' := 48) rfl (hb hby d_prog_15_method_5_code_4) rfl (by decide) (by decide) (by decide) ?_
    show Steps p.tables e below (T68.setTop (mkF m 48 #[.val (.ref w21)] [])) _
    refine XT.iconstV X68.here hx rfl (0 : Int32) (hb hby d_prog_15_method_5_code_48) rfl ?_
    show Steps p.tables e below (T68.setTop (mkF m 49 #[.val (.ref w21)] [(.int (0 : Int32))])) _
    exact retN X68 hx (t := .boolean) Bd.returns (by simp) (hb hby d_prog_15_method_5_code_49) hr
  · show own_Q (some (.int (0 : Int32))) h0 n0 _ T68.heap _
    rw [e68]
    exact ⟨rfl, N68, rfl⟩
set_option maxRecDepth 65536 in
set_option maxHeartbeats 40000000 in
theorem own_ordinal_22 (l : Launch) (Z : State) (a0 : Array Value) (hw : ∀ d ∈ tables_1, d.before a0 Z = true) (ws : List Jvm.Cond) (w0 w1 w2 w3 w4 w5 w6 w7 w8 w9 w10 w11 w12 w13 w14 w15 w16 w17 w18 w19 w20 w21 w22 w23 : Addr) (h0 : Heap) (n0 : Nat) (Z0 : n0 ≤ h0.size) (P : own_P Z h0 w0 w1 w2 w3 w4 w5 w6 w7 w8 w9 w10 w11 w12 w13 w14 w15 w16 w17 w18 w19 w20 w21 w22 w23) :
    MetFree l (⟨"java/lang/Enum", "ordinal", "()I"⟩ : MethodName) (head1 (Jvm.Cond.code (⟨"java/lang/Enum", "ordinal", "()I"⟩ : MethodName) jdk_37_method_2_code 1 (some .int) :: ws) ({ frames := 0, cells := 0, slots := 0, locals := 0 } : Room)) (fun a U => a = #[(.ref w22)] ∧ Z.Warmed39 U.vm ∧ U.heap = h0) (fun _ _ _ _ _ => True) (fun _ U o U' => ∃ v L, o = .returned v ∧ own_Q (some (.int (13 : Int32))) h0 n0 v U'.heap L ∧ FrameEnd U o U' L ({ frames := 0, cells := 0, slots := 0, locals := 0 } : Room).cells ({ frames := 0, cells := 0, slots := 0, locals := 0 } : Room).slots) := by
  refine MetFree.of_bodySF (plainFor_of_name pn_java_lang_Enum) hisR ?_
  intro p e s m args below meth c s₁ Bd hml0 hP hK
  obtain ⟨rfl, hZ, hh⟩ := hP
  have hx := Bd.exec
  have hby := Bd.bytes
  have hml : c.maxLocals = 1 := hml0
  have hown : s.vm.findClass "java/lang/Enum" = some m.cls := findClass_of_methodNamed Bd.named
  have hnm := (name_of_methodNamed Bd.named Bd.method).1
  have X0 : Stand p l e ({ frames := 0, cells := 0, slots := 0, locals := 0 } : Room) s m #[(.ref w22)] below meth c s₁ [] 0 0 := Stand.of_body Bd
  have e0 : s₁.heap = h0 := by rw [← hh, Bd.state]; rfl
  have N0 := Fr.nil n0
  have pre0 : ∀ t, Steps p.tables e below (s₁.setTop (mkF m 0 #[.val (.ref w22)] [])) t → Steps p.tables e below (s₁.setTop (entryFrame m #[(.ref w22)] 1)) t := fun t k => castTop (ef_jdk_37_method_2_code_A m w22) k
  have P0 := P; obtain ⟨S0, E0, F0_ordinal, S1, E1, F1_ordinal, S2, E2, F2_ordinal, S3, E3, F3_ordinal, S4, E4, F4_ordinal, S5, E5, F5_ordinal, S6, E6, F6_ordinal, S7, E7, F7_ordinal, S8, E8, F8_ordinal, S9, E9, F9_ordinal, S10, E10, F10_ordinal, S11, E11, F11_ordinal, S12, E12, F12_ordinal, S13, E13, F13_ordinal, S14, E14, F14_ordinal, S15, E15, F15_ordinal, S16, E16, F16_ordinal, S17, E17, F17_ordinal, S18, E18, F18_ordinal, S19, E19, F19_ordinal, S20, E20, F20_ordinal, S21, E21, F21_ordinal, S22, E22, F22_ordinal, S23, E23, F23_ordinal⟩ := P0
  obtain ⟨T69, X69, e69, st69⟩ := getF X0 hx hZ hown (host := "") (Or.inl (hw _ (List.mem_of_getElem? (i := 20) rfl))) Via.refl e0 F22_ordinal (g := (mkF m 1 #[.val (.ref w22)] [(.ref w22)])) rfl rfl (hb hby d_jdk_37_method_2_code_1)
  obtain ⟨fs, hr, hrun, hended, hW, hsame⟩ := X69.leave (v := some (.int (13 : Int32))) (fun h => by rw [Bd.returns] at h; cases h)
  refine ⟨_, _, pre0 _ ?_, hrun, hended, _, _, rfl, ?_, ⟨_, rfl⟩, hW, hsame.mono (by decide) (by decide)⟩
  · show Steps p.tables e below (s₁.setTop (mkF m 0 #[.val (.ref w22)] [])) _
    refine XS.aloadN X0.here hx rfl (hb hby d_jdk_37_method_2_code_0) rfl rfl ?_
    show Steps p.tables e below (s₁.setTop (mkF m 1 #[.val (.ref w22)] [(.ref w22)])) _
    refine st69 _ ?_
    show Steps p.tables e below (T69.setTop (mkF m 4 #[.val (.ref w22)] [(.int (13 : Int32))])) _
    exact retI X69 hx Bd.returns (hb hby d_jdk_37_method_2_code_4) hr
  · show own_Q (some (.int (13 : Int32))) h0 n0 _ T69.heap _
    rw [e69]
    exact ⟨rfl, N0, rfl⟩
set_option maxRecDepth 65536 in
set_option maxHeartbeats 40000000 in
theorem own_isDecimal_22 (l : Launch) (Z : State) (a0 : Array Value) (hw : ∀ d ∈ tables_1, d.before a0 Z = true) (ws : List Jvm.Cond) (w0 w1 w2 w3 w4 w5 w6 w7 w8 w9 w10 w11 w12 w13 w14 w15 w16 w17 w18 w19 w20 w21 w22 w23 : Addr) (h0 : Heap) (n0 : Nat) (Z0 : n0 ≤ h0.size) (P : own_P Z h0 w0 w1 w2 w3 w4 w5 w6 w7 w8 w9 w10 w11 w12 w13 w14 w15 w16 w17 w18 w19 w20 w21 w22 w23) :
    MetFree l (⟨"apportion/io/DataType", "isDecimal", "()Z"⟩ : MethodName) (head1 (Jvm.Cond.code (⟨"apportion/io/DataType", "isDecimal", "()Z"⟩ : MethodName) prog_15_method_5_code 1 (some .boolean) :: ws) ({ frames := 1, cells := 0, slots := 0, locals := 12 } : Room)) (fun a U => a = #[(.ref w22)] ∧ Z.Warmed39 U.vm ∧ U.heap = h0) (fun _ _ _ _ _ => True) (fun _ U o U' => ∃ v L, o = .returned v ∧ own_Q (some (.int (1 : Int32))) h0 n0 v U'.heap L ∧ FrameEnd U o U' L ({ frames := 1, cells := 0, slots := 0, locals := 12 } : Room).cells ({ frames := 1, cells := 0, slots := 0, locals := 12 } : Room).slots) := by
  refine MetFree.of_bodySF (plainFor_of_name pn_apportion_io_DataType) hisR ?_
  intro p e s m args below meth c s₁ Bd hml0 hP hK
  obtain ⟨rfl, hZ, hh⟩ := hP
  have hx := Bd.exec
  have hby := Bd.bytes
  have hml : c.maxLocals = 1 := hml0
  have hown : s.vm.findClass "apportion/io/DataType" = some m.cls := findClass_of_methodNamed Bd.named
  have hnm := (name_of_methodNamed Bd.named Bd.method).1
  have X0 : Stand p l e ({ frames := 1, cells := 0, slots := 0, locals := 12 } : Room) s m #[(.ref w22)] below meth c s₁ [] 0 0 := Stand.of_body Bd
  have e0 : s₁.heap = h0 := by rw [← hh, Bd.state]; rfl
  have N0 := Fr.nil n0
  have pre0 : ∀ t, Steps p.tables e below (s₁.setTop (mkF m 0 #[.val (.ref w22)] [])) t → Steps p.tables e below (s₁.setTop (entryFrame m #[(.ref w22)] 1)) t := fun t k => castTop (ef_prog_15_method_5_code_A m w22) k
  have P0 := P; obtain ⟨S0, E0, F0_ordinal, S1, E1, F1_ordinal, S2, E2, F2_ordinal, S3, E3, F3_ordinal, S4, E4, F4_ordinal, S5, E5, F5_ordinal, S6, E6, F6_ordinal, S7, E7, F7_ordinal, S8, E8, F8_ordinal, S9, E9, F9_ordinal, S10, E10, F10_ordinal, S11, E11, F11_ordinal, S12, E12, F12_ordinal, S13, E13, F13_ordinal, S14, E14, F14_ordinal, S15, E15, F15_ordinal, S16, E16, F16_ordinal, S17, E17, F17_ordinal, S18, E18, F18_ordinal, S19, E19, F19_ordinal, S20, E20, F20_ordinal, S21, E21, F21_ordinal, S22, E22, F22_ordinal, S23, E23, F23_ordinal⟩ := P0
  obtain ⟨cq70, kq70, q70a, q70b, q70c⟩ := isOf hZ e0 E22
  obtain ⟨_, _, ⟨T70, L70, k70, n70⟩, -, X70, ⟨Lc70, hQ70, l70, y70, z70⟩, st70⟩ := X0.virtualBackUp hx (owner := "java/lang/Enum") (x := (⟨"apportion/io/DataType", "ordinal", "()I"⟩ : MethodName)) (y := (⟨"java/lang/Enum", "ordinal", "()I"⟩ : MethodName)) hown (mvT hZ (hw _ (List.mem_of_getElem? (i := 13) rfl))) (mvT hZ (hw _ (List.mem_of_getElem? (i := 14) rfl))) (mvT hZ (hw _ (List.mem_of_getElem? (i := 15) rfl))) (by decide) (mvT hZ (hw _ (List.mem_of_getElem? (i := 17) rfl))) (mvT hZ (hw _ (List.mem_of_getElem? (i := 16) rfl))) (backOf (W := 0) (own_ordinal_22 l Z a0 hw [] w0 w1 w2 w3 w4 w5 w6 w7 w8 w9 w10 w11 w12 w13 w14 w15 w16 w17 w18 w19 w20 w21 w22 w23 h0 n0 Z0 P) hZ (hw _ (List.mem_of_getElem? (i := 19) rfl)) (hw _ (List.mem_of_getElem? (i := 18) rfl)) (by decide) (by decide)) q70a q70c (g := (mkF m 1 #[.val (.ref w22)] [(.ref w22)])) rfl (by rw [hml]; rfl) (Steps.refl _) (argsL := []) (rest := []) (lenOf pd___I rfl) rfl (by show 2 * 0 + _ ≤ _; exact Nat.le_of_eq rfl) (hb hby d_prog_15_method_5_code_1) (fun _ _ => ⟨rfl, e0, (by decide : 0 + 0 ≤ _), (by decide : 0 + 0 ≤ _)⟩)
  dsimp only [Pt.U, Pt.locs, Pt.cells, Pt.slots] at X70 l70 y70 z70 st70 hQ70
  subst l70 y70 z70
  obtain ⟨rfl, N70q, e70⟩ := hQ70
  have N70 := Fr.app N0 N70q
  obtain ⟨fs, hr, hrun, hended, hW, hsame⟩ := X70.leave (v := some (.int (1 : Int32))) (fun h => by rw [Bd.returns] at h; cases h)
  refine ⟨_, _, pre0 _ ?_, hrun, hended, _, _, rfl, ?_, ⟨_, rfl⟩, hW, hsame.mono (by decide) (by decide)⟩
  · show Steps p.tables e below (s₁.setTop (mkF m 0 #[.val (.ref w22)] [])) _
    refine XS.aloadN X0.here hx rfl (hb hby d_prog_15_method_5_code_0) rfl rfl ?_
    show Steps p.tables e below (s₁.setTop (mkF m 1 #[.val (.ref w22)] [(.ref w22)])) _
    refine st70.trans ?_
    show Steps p.tables e below (T70.setTop (mkF m 4 #[.val (.ref w22)] [(.int (13 : Int32))])) _
    refine XS.tswIn X70.here hx rfl (o := 40) (pc0 := 4) (pc' := 44) rfl (hb hby d_prog_15_method_5_code_4) rfl (by decide) (by decide) (by decide) (by decide) ?_
    show Steps p.tables e below (T70.setTop (mkF m 44 #[.val (.ref w22)] [])) _
    refine XT.iconstV X70.here hx rfl (1 : Int32) (hb hby d_prog_15_method_5_code_44) rfl ?_
    show Steps p.tables e below (T70.setTop (mkF m 45 #[.val (.ref w22)] [(.int (1 : Int32))])) _
    refine XS.goto X70.here hx rfl (pc0 := 45) (pc' := 49) rfl (hb hby d_prog_15_method_5_code_45) (by decide) (by decide) ?_
    show Steps p.tables e below (T70.setTop (mkF m 49 #[.val (.ref w22)] [(.int (1 : Int32))])) _
    exact retN X70 hx (t := .boolean) Bd.returns (by simp) (hb hby d_prog_15_method_5_code_49) hr
  · show own_Q (some (.int (1 : Int32))) h0 n0 _ T70.heap _
    rw [e70]
    exact ⟨rfl, N70, rfl⟩
set_option maxRecDepth 65536 in
set_option maxHeartbeats 40000000 in
theorem own_ordinal_23 (l : Launch) (Z : State) (a0 : Array Value) (hw : ∀ d ∈ tables_1, d.before a0 Z = true) (ws : List Jvm.Cond) (w0 w1 w2 w3 w4 w5 w6 w7 w8 w9 w10 w11 w12 w13 w14 w15 w16 w17 w18 w19 w20 w21 w22 w23 : Addr) (h0 : Heap) (n0 : Nat) (Z0 : n0 ≤ h0.size) (P : own_P Z h0 w0 w1 w2 w3 w4 w5 w6 w7 w8 w9 w10 w11 w12 w13 w14 w15 w16 w17 w18 w19 w20 w21 w22 w23) :
    MetFree l (⟨"java/lang/Enum", "ordinal", "()I"⟩ : MethodName) (head1 (Jvm.Cond.code (⟨"java/lang/Enum", "ordinal", "()I"⟩ : MethodName) jdk_37_method_2_code 1 (some .int) :: ws) ({ frames := 0, cells := 0, slots := 0, locals := 0 } : Room)) (fun a U => a = #[(.ref w23)] ∧ Z.Warmed39 U.vm ∧ U.heap = h0) (fun _ _ _ _ _ => True) (fun _ U o U' => ∃ v L, o = .returned v ∧ own_Q (some (.int (22 : Int32))) h0 n0 v U'.heap L ∧ FrameEnd U o U' L ({ frames := 0, cells := 0, slots := 0, locals := 0 } : Room).cells ({ frames := 0, cells := 0, slots := 0, locals := 0 } : Room).slots) := by
  refine MetFree.of_bodySF (plainFor_of_name pn_java_lang_Enum) hisR ?_
  intro p e s m args below meth c s₁ Bd hml0 hP hK
  obtain ⟨rfl, hZ, hh⟩ := hP
  have hx := Bd.exec
  have hby := Bd.bytes
  have hml : c.maxLocals = 1 := hml0
  have hown : s.vm.findClass "java/lang/Enum" = some m.cls := findClass_of_methodNamed Bd.named
  have hnm := (name_of_methodNamed Bd.named Bd.method).1
  have X0 : Stand p l e ({ frames := 0, cells := 0, slots := 0, locals := 0 } : Room) s m #[(.ref w23)] below meth c s₁ [] 0 0 := Stand.of_body Bd
  have e0 : s₁.heap = h0 := by rw [← hh, Bd.state]; rfl
  have N0 := Fr.nil n0
  have pre0 : ∀ t, Steps p.tables e below (s₁.setTop (mkF m 0 #[.val (.ref w23)] [])) t → Steps p.tables e below (s₁.setTop (entryFrame m #[(.ref w23)] 1)) t := fun t k => castTop (ef_jdk_37_method_2_code_A m w23) k
  have P0 := P; obtain ⟨S0, E0, F0_ordinal, S1, E1, F1_ordinal, S2, E2, F2_ordinal, S3, E3, F3_ordinal, S4, E4, F4_ordinal, S5, E5, F5_ordinal, S6, E6, F6_ordinal, S7, E7, F7_ordinal, S8, E8, F8_ordinal, S9, E9, F9_ordinal, S10, E10, F10_ordinal, S11, E11, F11_ordinal, S12, E12, F12_ordinal, S13, E13, F13_ordinal, S14, E14, F14_ordinal, S15, E15, F15_ordinal, S16, E16, F16_ordinal, S17, E17, F17_ordinal, S18, E18, F18_ordinal, S19, E19, F19_ordinal, S20, E20, F20_ordinal, S21, E21, F21_ordinal, S22, E22, F22_ordinal, S23, E23, F23_ordinal⟩ := P0
  obtain ⟨T71, X71, e71, st71⟩ := getF X0 hx hZ hown (host := "") (Or.inl (hw _ (List.mem_of_getElem? (i := 20) rfl))) Via.refl e0 F23_ordinal (g := (mkF m 1 #[.val (.ref w23)] [(.ref w23)])) rfl rfl (hb hby d_jdk_37_method_2_code_1)
  obtain ⟨fs, hr, hrun, hended, hW, hsame⟩ := X71.leave (v := some (.int (22 : Int32))) (fun h => by rw [Bd.returns] at h; cases h)
  refine ⟨_, _, pre0 _ ?_, hrun, hended, _, _, rfl, ?_, ⟨_, rfl⟩, hW, hsame.mono (by decide) (by decide)⟩
  · show Steps p.tables e below (s₁.setTop (mkF m 0 #[.val (.ref w23)] [])) _
    refine XS.aloadN X0.here hx rfl (hb hby d_jdk_37_method_2_code_0) rfl rfl ?_
    show Steps p.tables e below (s₁.setTop (mkF m 1 #[.val (.ref w23)] [(.ref w23)])) _
    refine st71 _ ?_
    show Steps p.tables e below (T71.setTop (mkF m 4 #[.val (.ref w23)] [(.int (22 : Int32))])) _
    exact retI X71 hx Bd.returns (hb hby d_jdk_37_method_2_code_4) hr
  · show own_Q (some (.int (22 : Int32))) h0 n0 _ T71.heap _
    rw [e71]
    exact ⟨rfl, N0, rfl⟩
set_option maxRecDepth 65536 in
set_option maxHeartbeats 40000000 in
theorem own_isDecimal_23 (l : Launch) (Z : State) (a0 : Array Value) (hw : ∀ d ∈ tables_1, d.before a0 Z = true) (ws : List Jvm.Cond) (w0 w1 w2 w3 w4 w5 w6 w7 w8 w9 w10 w11 w12 w13 w14 w15 w16 w17 w18 w19 w20 w21 w22 w23 : Addr) (h0 : Heap) (n0 : Nat) (Z0 : n0 ≤ h0.size) (P : own_P Z h0 w0 w1 w2 w3 w4 w5 w6 w7 w8 w9 w10 w11 w12 w13 w14 w15 w16 w17 w18 w19 w20 w21 w22 w23) :
    MetFree l (⟨"apportion/io/DataType", "isDecimal", "()Z"⟩ : MethodName) (head1 (Jvm.Cond.code (⟨"apportion/io/DataType", "isDecimal", "()Z"⟩ : MethodName) prog_15_method_5_code 1 (some .boolean) :: ws) ({ frames := 1, cells := 0, slots := 0, locals := 12 } : Room)) (fun a U => a = #[(.ref w23)] ∧ Z.Warmed39 U.vm ∧ U.heap = h0) (fun _ _ _ _ _ => True) (fun _ U o U' => ∃ v L, o = .returned v ∧ own_Q (some (.int (0 : Int32))) h0 n0 v U'.heap L ∧ FrameEnd U o U' L ({ frames := 1, cells := 0, slots := 0, locals := 12 } : Room).cells ({ frames := 1, cells := 0, slots := 0, locals := 12 } : Room).slots) := by
  refine MetFree.of_bodySF (plainFor_of_name pn_apportion_io_DataType) hisR ?_
  intro p e s m args below meth c s₁ Bd hml0 hP hK
  obtain ⟨rfl, hZ, hh⟩ := hP
  have hx := Bd.exec
  have hby := Bd.bytes
  have hml : c.maxLocals = 1 := hml0
  have hown : s.vm.findClass "apportion/io/DataType" = some m.cls := findClass_of_methodNamed Bd.named
  have hnm := (name_of_methodNamed Bd.named Bd.method).1
  have X0 : Stand p l e ({ frames := 1, cells := 0, slots := 0, locals := 12 } : Room) s m #[(.ref w23)] below meth c s₁ [] 0 0 := Stand.of_body Bd
  have e0 : s₁.heap = h0 := by rw [← hh, Bd.state]; rfl
  have N0 := Fr.nil n0
  have pre0 : ∀ t, Steps p.tables e below (s₁.setTop (mkF m 0 #[.val (.ref w23)] [])) t → Steps p.tables e below (s₁.setTop (entryFrame m #[(.ref w23)] 1)) t := fun t k => castTop (ef_prog_15_method_5_code_A m w23) k
  have P0 := P; obtain ⟨S0, E0, F0_ordinal, S1, E1, F1_ordinal, S2, E2, F2_ordinal, S3, E3, F3_ordinal, S4, E4, F4_ordinal, S5, E5, F5_ordinal, S6, E6, F6_ordinal, S7, E7, F7_ordinal, S8, E8, F8_ordinal, S9, E9, F9_ordinal, S10, E10, F10_ordinal, S11, E11, F11_ordinal, S12, E12, F12_ordinal, S13, E13, F13_ordinal, S14, E14, F14_ordinal, S15, E15, F15_ordinal, S16, E16, F16_ordinal, S17, E17, F17_ordinal, S18, E18, F18_ordinal, S19, E19, F19_ordinal, S20, E20, F20_ordinal, S21, E21, F21_ordinal, S22, E22, F22_ordinal, S23, E23, F23_ordinal⟩ := P0
  obtain ⟨cq72, kq72, q72a, q72b, q72c⟩ := isOf hZ e0 E23
  obtain ⟨_, _, ⟨T72, L72, k72, n72⟩, -, X72, ⟨Lc72, hQ72, l72, y72, z72⟩, st72⟩ := X0.virtualBackUp hx (owner := "java/lang/Enum") (x := (⟨"apportion/io/DataType", "ordinal", "()I"⟩ : MethodName)) (y := (⟨"java/lang/Enum", "ordinal", "()I"⟩ : MethodName)) hown (mvT hZ (hw _ (List.mem_of_getElem? (i := 13) rfl))) (mvT hZ (hw _ (List.mem_of_getElem? (i := 14) rfl))) (mvT hZ (hw _ (List.mem_of_getElem? (i := 15) rfl))) (by decide) (mvT hZ (hw _ (List.mem_of_getElem? (i := 17) rfl))) (mvT hZ (hw _ (List.mem_of_getElem? (i := 16) rfl))) (backOf (W := 0) (own_ordinal_23 l Z a0 hw [] w0 w1 w2 w3 w4 w5 w6 w7 w8 w9 w10 w11 w12 w13 w14 w15 w16 w17 w18 w19 w20 w21 w22 w23 h0 n0 Z0 P) hZ (hw _ (List.mem_of_getElem? (i := 19) rfl)) (hw _ (List.mem_of_getElem? (i := 18) rfl)) (by decide) (by decide)) q72a q72c (g := (mkF m 1 #[.val (.ref w23)] [(.ref w23)])) rfl (by rw [hml]; rfl) (Steps.refl _) (argsL := []) (rest := []) (lenOf pd___I rfl) rfl (by show 2 * 0 + _ ≤ _; exact Nat.le_of_eq rfl) (hb hby d_prog_15_method_5_code_1) (fun _ _ => ⟨rfl, e0, (by decide : 0 + 0 ≤ _), (by decide : 0 + 0 ≤ _)⟩)
  dsimp only [Pt.U, Pt.locs, Pt.cells, Pt.slots] at X72 l72 y72 z72 st72 hQ72
  subst l72 y72 z72
  obtain ⟨rfl, N72q, e72⟩ := hQ72
  have N72 := Fr.app N0 N72q
  obtain ⟨fs, hr, hrun, hended, hW, hsame⟩ := X72.leave (v := some (.int (0 : Int32))) (fun h => by rw [Bd.returns] at h; cases h)
  refine ⟨_, _, pre0 _ ?_, hrun, hended, _, _, rfl, ?_, ⟨_, rfl⟩, hW, hsame.mono (by decide) (by decide)⟩
  · show Steps p.tables e below (s₁.setTop (mkF m 0 #[.val (.ref w23)] [])) _
    refine XS.aloadN X0.here hx rfl (hb hby d_prog_15_method_5_code_0) rfl rfl ?_
    show Steps p.tables e below (s₁.setTop (mkF m 1 #[.val (.ref w23)] [(.ref w23)])) _
    refine st72.trans ?_
    show Steps p.tables e below (T72.setTop (mkF m 4 #[.val (.ref w23)] [(.int (22 : Int32))])) _
    refine XS.tswOut X72.here hx rfl (pc0 := 4) (pc' := 48) rfl (hb hby d_prog_15_method_5_code_4) rfl (by decide) (by decide) (by decide) ?_
    show Steps p.tables e below (T72.setTop (mkF m 48 #[.val (.ref w23)] [])) _
    refine XT.iconstV X72.here hx rfl (0 : Int32) (hb hby d_prog_15_method_5_code_48) rfl ?_
    show Steps p.tables e below (T72.setTop (mkF m 49 #[.val (.ref w23)] [(.int (0 : Int32))])) _
    exact retN X72 hx (t := .boolean) Bd.returns (by simp) (hb hby d_prog_15_method_5_code_49) hr
  · show own_Q (some (.int (0 : Int32))) h0 n0 _ T72.heap _
    rw [e72]
    exact ⟨rfl, N72, rfl⟩
theorem pd__I_Lapportion_io_DataType_ : parseMethodDescriptor "(I)Lapportion/io/DataType;" = some ⟨[.int], (some (.object "apportion/io/DataType"))⟩ := by decide +kernel
theorem pd___Z : parseMethodDescriptor "()Z" = some ⟨[], (some .boolean)⟩ := by decide +kernel
theorem ef_code_I (m : MethodId) (x0 : Int32) : entryFrame m #[(.int x0)] maxLocals = mkF m 0 #[.val (.int x0), .unset, .unset, .unset] [] := by first | (simp [entryFrame, mkF, argsToLocals, Value.category, maxLocals]; done) | rfl
set_option maxRecDepth 65536 in
set_option maxHeartbeats 40000000 in
theorem own_law_0 (l : Launch) (Z : State) (a0 : Array Value) (hw : ∀ d ∈ tables_1, d.before a0 Z = true) (ws : List Jvm.Cond) (p1 : Int32) (w0 w1 w2 w3 w4 w5 w6 w7 w8 w9 w10 w11 w12 w13 w14 w15 w16 w17 w18 w19 w20 w21 w22 w23 : Addr) (h0 : Heap) (n0 : Nat) (Z0 : n0 ≤ h0.size) (P : own_P Z h0 w0 w1 w2 w3 w4 w5 w6 w7 w8 w9 w10 w11 w12 w13 w14 w15 w16 w17 w18 w19 w20 w21 w22 w23) (hk : ((p1 &&& (2147483647 : Int32)) % (24 : Int32)) = (0 : Int32)) :
    MetFree l x (head1 (Jvm.Cond.code x code maxLocals ret :: ws) room_1) (fun a U => a = #[(.int p1)] ∧ Z.Warmed39 U.vm ∧ U.heap = h0) (fun _ _ _ _ _ => True) (fun _ U o U' => ∃ v L, o = .returned v ∧ own_Q0 n0 v U'.heap L ∧ FrameEnd U o U' L room_1.cells room_1.slots) := by
  refine MetFree.of_bodySF (plainFor_of_name pn_apportion_io_DataTypeIsDecimalPinLaw) hisR ?_
  intro p e s m args below meth c s₁ Bd hml0 hP hK
  obtain ⟨rfl, hZ, hh⟩ := hP
  have hx := Bd.exec
  have hby := Bd.bytes
  have hml : c.maxLocals = 4 := hml0
  have hown : s.vm.findClass "apportion/io/DataTypeIsDecimalPinLaw" = some m.cls := findClass_of_methodNamed Bd.named
  have hnm := (name_of_methodNamed Bd.named Bd.method).1
  have X0 : Stand p l e room_1 s m #[(.int p1)] below meth c s₁ [] 0 0 := Stand.of_body Bd
  have e0 : s₁.heap = h0 := by rw [← hh, Bd.state]; rfl
  have N0 := Fr.nil n0
  have pre0 : ∀ t, Steps p.tables e below (s₁.setTop (mkF m 0 #[.val (.int p1), .unset, .unset, .unset] [])) t → Steps p.tables e below (s₁.setTop (entryFrame m #[(.int p1)] maxLocals)) t := fun t k => castTop (ef_code_I m p1) k
  have P0 := P; obtain ⟨S0, E0, F0_ordinal, S1, E1, F1_ordinal, S2, E2, F2_ordinal, S3, E3, F3_ordinal, S4, E4, F4_ordinal, S5, E5, F5_ordinal, S6, E6, F6_ordinal, S7, E7, F7_ordinal, S8, E8, F8_ordinal, S9, E9, F9_ordinal, S10, E10, F10_ordinal, S11, E11, F11_ordinal, S12, E12, F12_ordinal, S13, E13, F13_ordinal, S14, E14, F14_ordinal, S15, E15, F15_ordinal, S16, E16, F16_ordinal, S17, E17, F17_ordinal, S18, E18, F18_ordinal, S19, E19, F19_ordinal, S20, E20, F20_ordinal, S21, E21, F21_ordinal, S22, E22, F22_ordinal, S23, E23, F23_ordinal⟩ := P0
  obtain ⟨_, _, ⟨T73, L73, k73, n73⟩, -, X73, ⟨Lc73, hQ73, l73, y73, z73⟩, st73⟩ := Jvm.LawKit.callS X0 hx (y := (⟨"apportion/io/DataTypeIsDecimalPinLaw", "pick", "(I)Lapportion/io/DataType;"⟩ : MethodName)) hown (mvT hZ (hw _ (List.mem_of_getElem? (i := 1) rfl))) (mvT hZ (hw _ (List.mem_of_getElem? (i := 2) rfl))) (mvT hZ (hw _ (List.mem_of_getElem? (i := 3) rfl))) (mvT hZ (hw _ (List.mem_of_getElem? (i := 4) rfl))) (by decide) (backOf (W := 0) (own_pick_0 l Z a0 hw [] w0 w1 w2 w3 w4 w5 w6 w7 w8 w9 w10 w11 w12 w13 w14 w15 w16 w17 w18 w19 w20 w21 w22 w23 h0 n0 Z0 P) hZ (hw _ (List.mem_of_getElem? (i := 4) rfl)) (hw _ (List.mem_of_getElem? (i := 3) rfl)) (by decide) (by decide)) (g := (mkF m 9 #[.val (.int p1), .val (.int (0 : Int32)), .unset, .unset] [(.int (0 : Int32))])) rfl (by rw [hml]; rfl) (argsL := [(.int (0 : Int32))]) (rest := []) (lenOf pd__I_Lapportion_io_DataType_ rfl) rfl (by show 2 * 0 + _ ≤ _; exact Nat.le_of_eq rfl) (hb hby at_9) (fun _ _ => ⟨rfl, e0, (by decide : 0 + 0 ≤ _), (by decide : 0 + 0 ≤ _)⟩)
  dsimp only [Pt.U, Pt.locs, Pt.cells, Pt.slots] at X73 l73 y73 z73 st73 hQ73
  subst l73 y73 z73
  obtain ⟨rfl, N73q, e73⟩ := hQ73
  have N73 := Fr.app N0 N73q
  obtain ⟨cq74, kq74, q74a, q74b, q74c⟩ := isOf hZ e73 E0
  obtain ⟨_, _, ⟨T74, L74, k74, n74⟩, -, X74, ⟨Lc74, hQ74, l74, y74, z74⟩, st74⟩ := X73.virtualBack hx (y := (⟨"apportion/io/DataType", "isDecimal", "()Z"⟩ : MethodName)) (z := (⟨"apportion/io/DataType", "isDecimal", "()Z"⟩ : MethodName)) hown (mvT hZ (hw _ (List.mem_of_getElem? (i := 8) rfl))) (mvT hZ (hw _ (List.mem_of_getElem? (i := 9) rfl))) (notFace_of_selects (args := #[]) (mvT hZ (hw _ (List.mem_of_getElem? (i := 11) rfl)))) (mvT hZ (hw _ (List.mem_of_getElem? (i := 11) rfl))) (mvT hZ (hw _ (List.mem_of_getElem? (i := 10) rfl))) (by decide) (backOf (W := 0) (own_isDecimal_0 l Z a0 hw [] w0 w1 w2 w3 w4 w5 w6 w7 w8 w9 w10 w11 w12 w13 w14 w15 w16 w17 w18 w19 w20 w21 w22 w23 h0 n0 Z0 P) hZ (hw _ (List.mem_of_getElem? (i := 12) rfl)) (hw _ (List.mem_of_getElem? (i := 6) rfl)) (by decide) (by decide)) q74a q74c (g := (mkF m 32 #[.val (.int p1), .val (.int (0 : Int32)), .val (.ref w0), .val (.int (0 : Int32))] [(.ref w0)])) rfl (by rw [hml]; rfl) (Steps.refl _) (argsL := []) (rest := []) (lenOf pd___Z rfl) rfl (by show 2 * 0 + _ ≤ _; exact Nat.le_of_eq rfl) (hb hby at_32) (fun _ _ => ⟨rfl, e73, (by decide : 0 + 0 ≤ _), (by decide : 0 + 0 ≤ _)⟩)
  dsimp only [Pt.U, Pt.locs, Pt.cells, Pt.slots] at X74 l74 y74 z74 st74 hQ74
  subst l74 y74 z74
  obtain ⟨rfl, N74q, e74⟩ := hQ74
  have N74 := Fr.app N73 N74q
  obtain ⟨fs, hr, hrun, hended, hW, hsame⟩ := X74.leave (v := some (.int (1 : Int32))) (fun h => by rw [Bd.returns] at h; cases h)
  refine ⟨_, _, pre0 _ ?_, hrun, hended, _, _, rfl, ?_, ⟨_, rfl⟩, hW, hsame.mono (by decide) (by decide)⟩
  · show Steps p.tables e below (s₁.setTop (mkF m 0 #[.val (.int p1), .unset, .unset, .unset] [])) _
    refine XS.iloadN X0.here hx rfl (hb hby at_0) rfl ?_
    show Steps p.tables e below (s₁.setTop (mkF m 1 #[.val (.int p1), .unset, .unset, .unset] [(.int p1)])) _
    refine Jvm.Stand.ldcI X0 hx hown (mvT hZ (hw _ (List.mem_of_getElem? (i := 0) rfl))) rfl (hb hby at_1) ?_
    show Steps p.tables e below (s₁.setTop (mkF m 3 #[.val (.int p1), .unset, .unset, .unset] [(.int (2147483647 : Int32)), (.int p1)])) _
    refine XS.iand X0.here hx rfl (hb hby at_3) rfl ?_
    show Steps p.tables e below (s₁.setTop (mkF m 4 #[.val (.int p1), .unset, .unset, .unset] [(.int (p1 &&& (2147483647 : Int32)))])) _
    refine XT.bipushV X0.here hx rfl (24 : Int32) (hb hby at_4) (by decide) ?_
    show Steps p.tables e below (s₁.setTop (mkF m 6 #[.val (.int p1), .unset, .unset, .unset] [(.int (24 : Int32)), (.int (p1 &&& (2147483647 : Int32)))])) _
    refine iremM X0 hx rfl (hb hby at_6) rfl (by decide) ?_
    show Steps p.tables e below (s₁.setTop (mkF m 7 #[.val (.int p1), .unset, .unset, .unset] [(.int ((p1 &&& (2147483647 : Int32)) % (24 : Int32)))])) _
    rw [hk]
    show Steps p.tables e below (s₁.setTop (mkF m 7 #[.val (.int p1), .unset, .unset, .unset] [(.int (0 : Int32))])) _
    refine XS.istoreN X0.here hx rfl (hb hby at_7) rfl (l' := #[.val (.int p1), .val (.int (0 : Int32)), .unset, .unset]) rfl ?_
    show Steps p.tables e below (s₁.setTop (mkF m 8 #[.val (.int p1), .val (.int (0 : Int32)), .unset, .unset] [])) _
    refine XS.iloadN X0.here hx rfl (hb hby at_8) rfl ?_
    show Steps p.tables e below (s₁.setTop (mkF m 9 #[.val (.int p1), .val (.int (0 : Int32)), .unset, .unset] [(.int (0 : Int32))])) _
    refine st73 _ ?_
    show Steps p.tables e below (T73.setTop (mkF m 12 #[.val (.int p1), .val (.int (0 : Int32)), .unset, .unset] [(.ref w0)])) _
    refine XS.astoreN X73.here hx rfl (hb hby at_12) rfl rfl (l' := #[.val (.int p1), .val (.int (0 : Int32)), .val (.ref w0), .unset]) rfl ?_
    show Steps p.tables e below (T73.setTop (mkF m 13 #[.val (.int p1), .val (.int (0 : Int32)), .val (.ref w0), .unset] [])) _
    refine XS.iloadN X73.here hx rfl (hb hby at_13) rfl ?_
    show Steps p.tables e below (T73.setTop (mkF m 14 #[.val (.int p1), .val (.int (0 : Int32)), .val (.ref w0), .unset] [(.int (0 : Int32))])) _
    refine XT.bipushV X73.here hx rfl (8 : Int32) (hb hby at_14) (by decide) ?_
    show Steps p.tables e below (T73.setTop (mkF m 16 #[.val (.int p1), .val (.int (0 : Int32)), .val (.ref w0), .unset] [(.int (8 : Int32)), (.int (0 : Int32))])) _
    refine XS.icmpYes X73.here hx rfl (pc0 := 16) (pc' := 29) rfl (hb hby at_16) rfl (by decide) (by decide) (by decide) ?_
    show Steps p.tables e below (T73.setTop (mkF m 29 #[.val (.int p1), .val (.int (0 : Int32)), .val (.ref w0), .unset] [])) _
    refine XT.iconstV X73.here hx rfl (0 : Int32) (hb hby at_29) rfl ?_
    show Steps p.tables e below (T73.setTop (mkF m 30 #[.val (.int p1), .val (.int (0 : Int32)), .val (.ref w0), .unset] [(.int (0 : Int32))])) _
    refine XS.istoreN X73.here hx rfl (hb hby at_30) rfl (l' := #[.val (.int p1), .val (.int (0 : Int32)), .val (.ref w0), .val (.int (0 : Int32))]) rfl ?_
    show Steps p.tables e below (T73.setTop (mkF m 31 #[.val (.int p1), .val (.int (0 : Int32)), .val (.ref w0), .val (.int (0 : Int32))] [])) _
    refine XS.aloadN X73.here hx rfl (hb hby at_31) rfl rfl ?_
    show Steps p.tables e below (T73.setTop (mkF m 32 #[.val (.int p1), .val (.int (0 : Int32)), .val (.ref w0), .val (.int (0 : Int32))] [(.ref w0)])) _
    refine st74.trans ?_
    show Steps p.tables e below (T74.setTop (mkF m 35 #[.val (.int p1), .val (.int (0 : Int32)), .val (.ref w0), .val (.int (0 : Int32))] [(.int (0 : Int32))])) _
    refine XS.iloadN X74.here hx rfl (hb hby at_35) rfl ?_
    show Steps p.tables e below (T74.setTop (mkF m 36 #[.val (.int p1), .val (.int (0 : Int32)), .val (.ref w0), .val (.int (0 : Int32))] [(.int (0 : Int32)), (.int (0 : Int32))])) _
    refine XS.icmpNo X74.here hx rfl (hb hby at_36) rfl (by decide) ?_
    show Steps p.tables e below (T74.setTop (mkF m 39 #[.val (.int p1), .val (.int (0 : Int32)), .val (.ref w0), .val (.int (0 : Int32))] [])) _
    refine XT.iconstV X74.here hx rfl (1 : Int32) (hb hby at_39) rfl ?_
    show Steps p.tables e below (T74.setTop (mkF m 40 #[.val (.int p1), .val (.int (0 : Int32)), .val (.ref w0), .val (.int (0 : Int32))] [(.int (1 : Int32))])) _
    refine XS.goto X74.here hx rfl (pc0 := 40) (pc' := 44) rfl (hb hby at_40) (by decide) (by decide) ?_
    show Steps p.tables e below (T74.setTop (mkF m 44 #[.val (.int p1), .val (.int (0 : Int32)), .val (.ref w0), .val (.int (0 : Int32))] [(.int (1 : Int32))])) _
    exact retN X74 hx (t := .boolean) Bd.returns (by simp) (hb hby at_44) hr
  · show own_Q0 n0 _ T74.heap _
    exact ⟨rfl, N74⟩
set_option maxRecDepth 65536 in
set_option maxHeartbeats 40000000 in
theorem own_law_1 (l : Launch) (Z : State) (a0 : Array Value) (hw : ∀ d ∈ tables_1, d.before a0 Z = true) (ws : List Jvm.Cond) (p1 : Int32) (w0 w1 w2 w3 w4 w5 w6 w7 w8 w9 w10 w11 w12 w13 w14 w15 w16 w17 w18 w19 w20 w21 w22 w23 : Addr) (h0 : Heap) (n0 : Nat) (Z0 : n0 ≤ h0.size) (P : own_P Z h0 w0 w1 w2 w3 w4 w5 w6 w7 w8 w9 w10 w11 w12 w13 w14 w15 w16 w17 w18 w19 w20 w21 w22 w23) (hk : ((p1 &&& (2147483647 : Int32)) % (24 : Int32)) = (1 : Int32)) :
    MetFree l x (head1 (Jvm.Cond.code x code maxLocals ret :: ws) room_1) (fun a U => a = #[(.int p1)] ∧ Z.Warmed39 U.vm ∧ U.heap = h0) (fun _ _ _ _ _ => True) (fun _ U o U' => ∃ v L, o = .returned v ∧ own_Q0 n0 v U'.heap L ∧ FrameEnd U o U' L room_1.cells room_1.slots) := by
  refine MetFree.of_bodySF (plainFor_of_name pn_apportion_io_DataTypeIsDecimalPinLaw) hisR ?_
  intro p e s m args below meth c s₁ Bd hml0 hP hK
  obtain ⟨rfl, hZ, hh⟩ := hP
  have hx := Bd.exec
  have hby := Bd.bytes
  have hml : c.maxLocals = 4 := hml0
  have hown : s.vm.findClass "apportion/io/DataTypeIsDecimalPinLaw" = some m.cls := findClass_of_methodNamed Bd.named
  have hnm := (name_of_methodNamed Bd.named Bd.method).1
  have X0 : Stand p l e room_1 s m #[(.int p1)] below meth c s₁ [] 0 0 := Stand.of_body Bd
  have e0 : s₁.heap = h0 := by rw [← hh, Bd.state]; rfl
  have N0 := Fr.nil n0
  have pre0 : ∀ t, Steps p.tables e below (s₁.setTop (mkF m 0 #[.val (.int p1), .unset, .unset, .unset] [])) t → Steps p.tables e below (s₁.setTop (entryFrame m #[(.int p1)] maxLocals)) t := fun t k => castTop (ef_code_I m p1) k
  have P0 := P; obtain ⟨S0, E0, F0_ordinal, S1, E1, F1_ordinal, S2, E2, F2_ordinal, S3, E3, F3_ordinal, S4, E4, F4_ordinal, S5, E5, F5_ordinal, S6, E6, F6_ordinal, S7, E7, F7_ordinal, S8, E8, F8_ordinal, S9, E9, F9_ordinal, S10, E10, F10_ordinal, S11, E11, F11_ordinal, S12, E12, F12_ordinal, S13, E13, F13_ordinal, S14, E14, F14_ordinal, S15, E15, F15_ordinal, S16, E16, F16_ordinal, S17, E17, F17_ordinal, S18, E18, F18_ordinal, S19, E19, F19_ordinal, S20, E20, F20_ordinal, S21, E21, F21_ordinal, S22, E22, F22_ordinal, S23, E23, F23_ordinal⟩ := P0
  obtain ⟨_, _, ⟨T75, L75, k75, n75⟩, -, X75, ⟨Lc75, hQ75, l75, y75, z75⟩, st75⟩ := Jvm.LawKit.callS X0 hx (y := (⟨"apportion/io/DataTypeIsDecimalPinLaw", "pick", "(I)Lapportion/io/DataType;"⟩ : MethodName)) hown (mvT hZ (hw _ (List.mem_of_getElem? (i := 1) rfl))) (mvT hZ (hw _ (List.mem_of_getElem? (i := 2) rfl))) (mvT hZ (hw _ (List.mem_of_getElem? (i := 3) rfl))) (mvT hZ (hw _ (List.mem_of_getElem? (i := 4) rfl))) (by decide) (backOf (W := 0) (own_pick_1 l Z a0 hw [] w0 w1 w2 w3 w4 w5 w6 w7 w8 w9 w10 w11 w12 w13 w14 w15 w16 w17 w18 w19 w20 w21 w22 w23 h0 n0 Z0 P) hZ (hw _ (List.mem_of_getElem? (i := 4) rfl)) (hw _ (List.mem_of_getElem? (i := 3) rfl)) (by decide) (by decide)) (g := (mkF m 9 #[.val (.int p1), .val (.int (1 : Int32)), .unset, .unset] [(.int (1 : Int32))])) rfl (by rw [hml]; rfl) (argsL := [(.int (1 : Int32))]) (rest := []) (lenOf pd__I_Lapportion_io_DataType_ rfl) rfl (by show 2 * 0 + _ ≤ _; exact Nat.le_of_eq rfl) (hb hby at_9) (fun _ _ => ⟨rfl, e0, (by decide : 0 + 0 ≤ _), (by decide : 0 + 0 ≤ _)⟩)
  dsimp only [Pt.U, Pt.locs, Pt.cells, Pt.slots] at X75 l75 y75 z75 st75 hQ75
  subst l75 y75 z75
  obtain ⟨rfl, N75q, e75⟩ := hQ75
  have N75 := Fr.app N0 N75q
  obtain ⟨cq76, kq76, q76a, q76b, q76c⟩ := isOf hZ e75 E10
  obtain ⟨_, _, ⟨T76, L76, k76, n76⟩, -, X76, ⟨Lc76, hQ76, l76, y76, z76⟩, st76⟩ := X75.virtualBack hx (y := (⟨"apportion/io/DataType", "isDecimal", "()Z"⟩ : MethodName)) (z := (⟨"apportion/io/DataType", "isDecimal", "()Z"⟩ : MethodName)) hown (mvT hZ (hw _ (List.mem_of_getElem? (i := 8) rfl))) (mvT hZ (hw _ (List.mem_of_getElem? (i := 9) rfl))) (notFace_of_selects (args := #[]) (mvT hZ (hw _ (List.mem_of_getElem? (i := 11) rfl)))) (mvT hZ (hw _ (List.mem_of_getElem? (i := 11) rfl))) (mvT hZ (hw _ (List.mem_of_getElem? (i := 10) rfl))) (by decide) (backOf (W := 0) (own_isDecimal_10 l Z a0 hw [] w0 w1 w2 w3 w4 w5 w6 w7 w8 w9 w10 w11 w12 w13 w14 w15 w16 w17 w18 w19 w20 w21 w22 w23 h0 n0 Z0 P) hZ (hw _ (List.mem_of_getElem? (i := 12) rfl)) (hw _ (List.mem_of_getElem? (i := 6) rfl)) (by decide) (by decide)) q76a q76c (g := (mkF m 32 #[.val (.int p1), .val (.int (1 : Int32)), .val (.ref w10), .val (.int (0 : Int32))] [(.ref w10)])) rfl (by rw [hml]; rfl) (Steps.refl _) (argsL := []) (rest := []) (lenOf pd___Z rfl) rfl (by show 2 * 0 + _ ≤ _; exact Nat.le_of_eq rfl) (hb hby at_32) (fun _ _ => ⟨rfl, e75, (by decide : 0 + 0 ≤ _), (by decide : 0 + 0 ≤ _)⟩)
  dsimp only [Pt.U, Pt.locs, Pt.cells, Pt.slots] at X76 l76 y76 z76 st76 hQ76
  subst l76 y76 z76
  obtain ⟨rfl, N76q, e76⟩ := hQ76
  have N76 := Fr.app N75 N76q
  obtain ⟨fs, hr, hrun, hended, hW, hsame⟩ := X76.leave (v := some (.int (1 : Int32))) (fun h => by rw [Bd.returns] at h; cases h)
  refine ⟨_, _, pre0 _ ?_, hrun, hended, _, _, rfl, ?_, ⟨_, rfl⟩, hW, hsame.mono (by decide) (by decide)⟩
  · show Steps p.tables e below (s₁.setTop (mkF m 0 #[.val (.int p1), .unset, .unset, .unset] [])) _
    refine XS.iloadN X0.here hx rfl (hb hby at_0) rfl ?_
    show Steps p.tables e below (s₁.setTop (mkF m 1 #[.val (.int p1), .unset, .unset, .unset] [(.int p1)])) _
    refine Jvm.Stand.ldcI X0 hx hown (mvT hZ (hw _ (List.mem_of_getElem? (i := 0) rfl))) rfl (hb hby at_1) ?_
    show Steps p.tables e below (s₁.setTop (mkF m 3 #[.val (.int p1), .unset, .unset, .unset] [(.int (2147483647 : Int32)), (.int p1)])) _
    refine XS.iand X0.here hx rfl (hb hby at_3) rfl ?_
    show Steps p.tables e below (s₁.setTop (mkF m 4 #[.val (.int p1), .unset, .unset, .unset] [(.int (p1 &&& (2147483647 : Int32)))])) _
    refine XT.bipushV X0.here hx rfl (24 : Int32) (hb hby at_4) (by decide) ?_
    show Steps p.tables e below (s₁.setTop (mkF m 6 #[.val (.int p1), .unset, .unset, .unset] [(.int (24 : Int32)), (.int (p1 &&& (2147483647 : Int32)))])) _
    refine iremM X0 hx rfl (hb hby at_6) rfl (by decide) ?_
    show Steps p.tables e below (s₁.setTop (mkF m 7 #[.val (.int p1), .unset, .unset, .unset] [(.int ((p1 &&& (2147483647 : Int32)) % (24 : Int32)))])) _
    rw [hk]
    show Steps p.tables e below (s₁.setTop (mkF m 7 #[.val (.int p1), .unset, .unset, .unset] [(.int (1 : Int32))])) _
    refine XS.istoreN X0.here hx rfl (hb hby at_7) rfl (l' := #[.val (.int p1), .val (.int (1 : Int32)), .unset, .unset]) rfl ?_
    show Steps p.tables e below (s₁.setTop (mkF m 8 #[.val (.int p1), .val (.int (1 : Int32)), .unset, .unset] [])) _
    refine XS.iloadN X0.here hx rfl (hb hby at_8) rfl ?_
    show Steps p.tables e below (s₁.setTop (mkF m 9 #[.val (.int p1), .val (.int (1 : Int32)), .unset, .unset] [(.int (1 : Int32))])) _
    refine st75 _ ?_
    show Steps p.tables e below (T75.setTop (mkF m 12 #[.val (.int p1), .val (.int (1 : Int32)), .unset, .unset] [(.ref w10)])) _
    refine XS.astoreN X75.here hx rfl (hb hby at_12) rfl rfl (l' := #[.val (.int p1), .val (.int (1 : Int32)), .val (.ref w10), .unset]) rfl ?_
    show Steps p.tables e below (T75.setTop (mkF m 13 #[.val (.int p1), .val (.int (1 : Int32)), .val (.ref w10), .unset] [])) _
    refine XS.iloadN X75.here hx rfl (hb hby at_13) rfl ?_
    show Steps p.tables e below (T75.setTop (mkF m 14 #[.val (.int p1), .val (.int (1 : Int32)), .val (.ref w10), .unset] [(.int (1 : Int32))])) _
    refine XT.bipushV X75.here hx rfl (8 : Int32) (hb hby at_14) (by decide) ?_
    show Steps p.tables e below (T75.setTop (mkF m 16 #[.val (.int p1), .val (.int (1 : Int32)), .val (.ref w10), .unset] [(.int (8 : Int32)), (.int (1 : Int32))])) _
    refine XS.icmpYes X75.here hx rfl (pc0 := 16) (pc' := 29) rfl (hb hby at_16) rfl (by decide) (by decide) (by decide) ?_
    show Steps p.tables e below (T75.setTop (mkF m 29 #[.val (.int p1), .val (.int (1 : Int32)), .val (.ref w10), .unset] [])) _
    refine XT.iconstV X75.here hx rfl (0 : Int32) (hb hby at_29) rfl ?_
    show Steps p.tables e below (T75.setTop (mkF m 30 #[.val (.int p1), .val (.int (1 : Int32)), .val (.ref w10), .unset] [(.int (0 : Int32))])) _
    refine XS.istoreN X75.here hx rfl (hb hby at_30) rfl (l' := #[.val (.int p1), .val (.int (1 : Int32)), .val (.ref w10), .val (.int (0 : Int32))]) rfl ?_
    show Steps p.tables e below (T75.setTop (mkF m 31 #[.val (.int p1), .val (.int (1 : Int32)), .val (.ref w10), .val (.int (0 : Int32))] [])) _
    refine XS.aloadN X75.here hx rfl (hb hby at_31) rfl rfl ?_
    show Steps p.tables e below (T75.setTop (mkF m 32 #[.val (.int p1), .val (.int (1 : Int32)), .val (.ref w10), .val (.int (0 : Int32))] [(.ref w10)])) _
    refine st76.trans ?_
    show Steps p.tables e below (T76.setTop (mkF m 35 #[.val (.int p1), .val (.int (1 : Int32)), .val (.ref w10), .val (.int (0 : Int32))] [(.int (0 : Int32))])) _
    refine XS.iloadN X76.here hx rfl (hb hby at_35) rfl ?_
    show Steps p.tables e below (T76.setTop (mkF m 36 #[.val (.int p1), .val (.int (1 : Int32)), .val (.ref w10), .val (.int (0 : Int32))] [(.int (0 : Int32)), (.int (0 : Int32))])) _
    refine XS.icmpNo X76.here hx rfl (hb hby at_36) rfl (by decide) ?_
    show Steps p.tables e below (T76.setTop (mkF m 39 #[.val (.int p1), .val (.int (1 : Int32)), .val (.ref w10), .val (.int (0 : Int32))] [])) _
    refine XT.iconstV X76.here hx rfl (1 : Int32) (hb hby at_39) rfl ?_
    show Steps p.tables e below (T76.setTop (mkF m 40 #[.val (.int p1), .val (.int (1 : Int32)), .val (.ref w10), .val (.int (0 : Int32))] [(.int (1 : Int32))])) _
    refine XS.goto X76.here hx rfl (pc0 := 40) (pc' := 44) rfl (hb hby at_40) (by decide) (by decide) ?_
    show Steps p.tables e below (T76.setTop (mkF m 44 #[.val (.int p1), .val (.int (1 : Int32)), .val (.ref w10), .val (.int (0 : Int32))] [(.int (1 : Int32))])) _
    exact retN X76 hx (t := .boolean) Bd.returns (by simp) (hb hby at_44) hr
  · show own_Q0 n0 _ T76.heap _
    exact ⟨rfl, N76⟩
set_option maxRecDepth 65536 in
set_option maxHeartbeats 40000000 in
theorem own_law_2 (l : Launch) (Z : State) (a0 : Array Value) (hw : ∀ d ∈ tables_1, d.before a0 Z = true) (ws : List Jvm.Cond) (p1 : Int32) (w0 w1 w2 w3 w4 w5 w6 w7 w8 w9 w10 w11 w12 w13 w14 w15 w16 w17 w18 w19 w20 w21 w22 w23 : Addr) (h0 : Heap) (n0 : Nat) (Z0 : n0 ≤ h0.size) (P : own_P Z h0 w0 w1 w2 w3 w4 w5 w6 w7 w8 w9 w10 w11 w12 w13 w14 w15 w16 w17 w18 w19 w20 w21 w22 w23) (hk : ((p1 &&& (2147483647 : Int32)) % (24 : Int32)) = (2 : Int32)) :
    MetFree l x (head1 (Jvm.Cond.code x code maxLocals ret :: ws) room_1) (fun a U => a = #[(.int p1)] ∧ Z.Warmed39 U.vm ∧ U.heap = h0) (fun _ _ _ _ _ => True) (fun _ U o U' => ∃ v L, o = .returned v ∧ own_Q0 n0 v U'.heap L ∧ FrameEnd U o U' L room_1.cells room_1.slots) := by
  refine MetFree.of_bodySF (plainFor_of_name pn_apportion_io_DataTypeIsDecimalPinLaw) hisR ?_
  intro p e s m args below meth c s₁ Bd hml0 hP hK
  obtain ⟨rfl, hZ, hh⟩ := hP
  have hx := Bd.exec
  have hby := Bd.bytes
  have hml : c.maxLocals = 4 := hml0
  have hown : s.vm.findClass "apportion/io/DataTypeIsDecimalPinLaw" = some m.cls := findClass_of_methodNamed Bd.named
  have hnm := (name_of_methodNamed Bd.named Bd.method).1
  have X0 : Stand p l e room_1 s m #[(.int p1)] below meth c s₁ [] 0 0 := Stand.of_body Bd
  have e0 : s₁.heap = h0 := by rw [← hh, Bd.state]; rfl
  have N0 := Fr.nil n0
  have pre0 : ∀ t, Steps p.tables e below (s₁.setTop (mkF m 0 #[.val (.int p1), .unset, .unset, .unset] [])) t → Steps p.tables e below (s₁.setTop (entryFrame m #[(.int p1)] maxLocals)) t := fun t k => castTop (ef_code_I m p1) k
  have P0 := P; obtain ⟨S0, E0, F0_ordinal, S1, E1, F1_ordinal, S2, E2, F2_ordinal, S3, E3, F3_ordinal, S4, E4, F4_ordinal, S5, E5, F5_ordinal, S6, E6, F6_ordinal, S7, E7, F7_ordinal, S8, E8, F8_ordinal, S9, E9, F9_ordinal, S10, E10, F10_ordinal, S11, E11, F11_ordinal, S12, E12, F12_ordinal, S13, E13, F13_ordinal, S14, E14, F14_ordinal, S15, E15, F15_ordinal, S16, E16, F16_ordinal, S17, E17, F17_ordinal, S18, E18, F18_ordinal, S19, E19, F19_ordinal, S20, E20, F20_ordinal, S21, E21, F21_ordinal, S22, E22, F22_ordinal, S23, E23, F23_ordinal⟩ := P0
  obtain ⟨_, _, ⟨T77, L77, k77, n77⟩, -, X77, ⟨Lc77, hQ77, l77, y77, z77⟩, st77⟩ := Jvm.LawKit.callS X0 hx (y := (⟨"apportion/io/DataTypeIsDecimalPinLaw", "pick", "(I)Lapportion/io/DataType;"⟩ : MethodName)) hown (mvT hZ (hw _ (List.mem_of_getElem? (i := 1) rfl))) (mvT hZ (hw _ (List.mem_of_getElem? (i := 2) rfl))) (mvT hZ (hw _ (List.mem_of_getElem? (i := 3) rfl))) (mvT hZ (hw _ (List.mem_of_getElem? (i := 4) rfl))) (by decide) (backOf (W := 0) (own_pick_2 l Z a0 hw [] w0 w1 w2 w3 w4 w5 w6 w7 w8 w9 w10 w11 w12 w13 w14 w15 w16 w17 w18 w19 w20 w21 w22 w23 h0 n0 Z0 P) hZ (hw _ (List.mem_of_getElem? (i := 4) rfl)) (hw _ (List.mem_of_getElem? (i := 3) rfl)) (by decide) (by decide)) (g := (mkF m 9 #[.val (.int p1), .val (.int (2 : Int32)), .unset, .unset] [(.int (2 : Int32))])) rfl (by rw [hml]; rfl) (argsL := [(.int (2 : Int32))]) (rest := []) (lenOf pd__I_Lapportion_io_DataType_ rfl) rfl (by show 2 * 0 + _ ≤ _; exact Nat.le_of_eq rfl) (hb hby at_9) (fun _ _ => ⟨rfl, e0, (by decide : 0 + 0 ≤ _), (by decide : 0 + 0 ≤ _)⟩)
  dsimp only [Pt.U, Pt.locs, Pt.cells, Pt.slots] at X77 l77 y77 z77 st77 hQ77
  subst l77 y77 z77
  obtain ⟨rfl, N77q, e77⟩ := hQ77
  have N77 := Fr.app N0 N77q
  obtain ⟨cq78, kq78, q78a, q78b, q78c⟩ := isOf hZ e77 E5
  obtain ⟨_, _, ⟨T78, L78, k78, n78⟩, -, X78, ⟨Lc78, hQ78, l78, y78, z78⟩, st78⟩ := X77.virtualBack hx (y := (⟨"apportion/io/DataType", "isDecimal", "()Z"⟩ : MethodName)) (z := (⟨"apportion/io/DataType", "isDecimal", "()Z"⟩ : MethodName)) hown (mvT hZ (hw _ (List.mem_of_getElem? (i := 8) rfl))) (mvT hZ (hw _ (List.mem_of_getElem? (i := 9) rfl))) (notFace_of_selects (args := #[]) (mvT hZ (hw _ (List.mem_of_getElem? (i := 11) rfl)))) (mvT hZ (hw _ (List.mem_of_getElem? (i := 11) rfl))) (mvT hZ (hw _ (List.mem_of_getElem? (i := 10) rfl))) (by decide) (backOf (W := 0) (own_isDecimal_5 l Z a0 hw [] w0 w1 w2 w3 w4 w5 w6 w7 w8 w9 w10 w11 w12 w13 w14 w15 w16 w17 w18 w19 w20 w21 w22 w23 h0 n0 Z0 P) hZ (hw _ (List.mem_of_getElem? (i := 12) rfl)) (hw _ (List.mem_of_getElem? (i := 6) rfl)) (by decide) (by decide)) q78a q78c (g := (mkF m 32 #[.val (.int p1), .val (.int (2 : Int32)), .val (.ref w5), .val (.int (0 : Int32))] [(.ref w5)])) rfl (by rw [hml]; rfl) (Steps.refl _) (argsL := []) (rest := []) (lenOf pd___Z rfl) rfl (by show 2 * 0 + _ ≤ _; exact Nat.le_of_eq rfl) (hb hby at_32) (fun _ _ => ⟨rfl, e77, (by decide : 0 + 0 ≤ _), (by decide : 0 + 0 ≤ _)⟩)
  dsimp only [Pt.U, Pt.locs, Pt.cells, Pt.slots] at X78 l78 y78 z78 st78 hQ78
  subst l78 y78 z78
  obtain ⟨rfl, N78q, e78⟩ := hQ78
  have N78 := Fr.app N77 N78q
  obtain ⟨fs, hr, hrun, hended, hW, hsame⟩ := X78.leave (v := some (.int (1 : Int32))) (fun h => by rw [Bd.returns] at h; cases h)
  refine ⟨_, _, pre0 _ ?_, hrun, hended, _, _, rfl, ?_, ⟨_, rfl⟩, hW, hsame.mono (by decide) (by decide)⟩
  · show Steps p.tables e below (s₁.setTop (mkF m 0 #[.val (.int p1), .unset, .unset, .unset] [])) _
    refine XS.iloadN X0.here hx rfl (hb hby at_0) rfl ?_
    show Steps p.tables e below (s₁.setTop (mkF m 1 #[.val (.int p1), .unset, .unset, .unset] [(.int p1)])) _
    refine Jvm.Stand.ldcI X0 hx hown (mvT hZ (hw _ (List.mem_of_getElem? (i := 0) rfl))) rfl (hb hby at_1) ?_
    show Steps p.tables e below (s₁.setTop (mkF m 3 #[.val (.int p1), .unset, .unset, .unset] [(.int (2147483647 : Int32)), (.int p1)])) _
    refine XS.iand X0.here hx rfl (hb hby at_3) rfl ?_
    show Steps p.tables e below (s₁.setTop (mkF m 4 #[.val (.int p1), .unset, .unset, .unset] [(.int (p1 &&& (2147483647 : Int32)))])) _
    refine XT.bipushV X0.here hx rfl (24 : Int32) (hb hby at_4) (by decide) ?_
    show Steps p.tables e below (s₁.setTop (mkF m 6 #[.val (.int p1), .unset, .unset, .unset] [(.int (24 : Int32)), (.int (p1 &&& (2147483647 : Int32)))])) _
    refine iremM X0 hx rfl (hb hby at_6) rfl (by decide) ?_
    show Steps p.tables e below (s₁.setTop (mkF m 7 #[.val (.int p1), .unset, .unset, .unset] [(.int ((p1 &&& (2147483647 : Int32)) % (24 : Int32)))])) _
    rw [hk]
    show Steps p.tables e below (s₁.setTop (mkF m 7 #[.val (.int p1), .unset, .unset, .unset] [(.int (2 : Int32))])) _
    refine XS.istoreN X0.here hx rfl (hb hby at_7) rfl (l' := #[.val (.int p1), .val (.int (2 : Int32)), .unset, .unset]) rfl ?_
    show Steps p.tables e below (s₁.setTop (mkF m 8 #[.val (.int p1), .val (.int (2 : Int32)), .unset, .unset] [])) _
    refine XS.iloadN X0.here hx rfl (hb hby at_8) rfl ?_
    show Steps p.tables e below (s₁.setTop (mkF m 9 #[.val (.int p1), .val (.int (2 : Int32)), .unset, .unset] [(.int (2 : Int32))])) _
    refine st77 _ ?_
    show Steps p.tables e below (T77.setTop (mkF m 12 #[.val (.int p1), .val (.int (2 : Int32)), .unset, .unset] [(.ref w5)])) _
    refine XS.astoreN X77.here hx rfl (hb hby at_12) rfl rfl (l' := #[.val (.int p1), .val (.int (2 : Int32)), .val (.ref w5), .unset]) rfl ?_
    show Steps p.tables e below (T77.setTop (mkF m 13 #[.val (.int p1), .val (.int (2 : Int32)), .val (.ref w5), .unset] [])) _
    refine XS.iloadN X77.here hx rfl (hb hby at_13) rfl ?_
    show Steps p.tables e below (T77.setTop (mkF m 14 #[.val (.int p1), .val (.int (2 : Int32)), .val (.ref w5), .unset] [(.int (2 : Int32))])) _
    refine XT.bipushV X77.here hx rfl (8 : Int32) (hb hby at_14) (by decide) ?_
    show Steps p.tables e below (T77.setTop (mkF m 16 #[.val (.int p1), .val (.int (2 : Int32)), .val (.ref w5), .unset] [(.int (8 : Int32)), (.int (2 : Int32))])) _
    refine XS.icmpYes X77.here hx rfl (pc0 := 16) (pc' := 29) rfl (hb hby at_16) rfl (by decide) (by decide) (by decide) ?_
    show Steps p.tables e below (T77.setTop (mkF m 29 #[.val (.int p1), .val (.int (2 : Int32)), .val (.ref w5), .unset] [])) _
    refine XT.iconstV X77.here hx rfl (0 : Int32) (hb hby at_29) rfl ?_
    show Steps p.tables e below (T77.setTop (mkF m 30 #[.val (.int p1), .val (.int (2 : Int32)), .val (.ref w5), .unset] [(.int (0 : Int32))])) _
    refine XS.istoreN X77.here hx rfl (hb hby at_30) rfl (l' := #[.val (.int p1), .val (.int (2 : Int32)), .val (.ref w5), .val (.int (0 : Int32))]) rfl ?_
    show Steps p.tables e below (T77.setTop (mkF m 31 #[.val (.int p1), .val (.int (2 : Int32)), .val (.ref w5), .val (.int (0 : Int32))] [])) _
    refine XS.aloadN X77.here hx rfl (hb hby at_31) rfl rfl ?_
    show Steps p.tables e below (T77.setTop (mkF m 32 #[.val (.int p1), .val (.int (2 : Int32)), .val (.ref w5), .val (.int (0 : Int32))] [(.ref w5)])) _
    refine st78.trans ?_
    show Steps p.tables e below (T78.setTop (mkF m 35 #[.val (.int p1), .val (.int (2 : Int32)), .val (.ref w5), .val (.int (0 : Int32))] [(.int (0 : Int32))])) _
    refine XS.iloadN X78.here hx rfl (hb hby at_35) rfl ?_
    show Steps p.tables e below (T78.setTop (mkF m 36 #[.val (.int p1), .val (.int (2 : Int32)), .val (.ref w5), .val (.int (0 : Int32))] [(.int (0 : Int32)), (.int (0 : Int32))])) _
    refine XS.icmpNo X78.here hx rfl (hb hby at_36) rfl (by decide) ?_
    show Steps p.tables e below (T78.setTop (mkF m 39 #[.val (.int p1), .val (.int (2 : Int32)), .val (.ref w5), .val (.int (0 : Int32))] [])) _
    refine XT.iconstV X78.here hx rfl (1 : Int32) (hb hby at_39) rfl ?_
    show Steps p.tables e below (T78.setTop (mkF m 40 #[.val (.int p1), .val (.int (2 : Int32)), .val (.ref w5), .val (.int (0 : Int32))] [(.int (1 : Int32))])) _
    refine XS.goto X78.here hx rfl (pc0 := 40) (pc' := 44) rfl (hb hby at_40) (by decide) (by decide) ?_
    show Steps p.tables e below (T78.setTop (mkF m 44 #[.val (.int p1), .val (.int (2 : Int32)), .val (.ref w5), .val (.int (0 : Int32))] [(.int (1 : Int32))])) _
    exact retN X78 hx (t := .boolean) Bd.returns (by simp) (hb hby at_44) hr
  · show own_Q0 n0 _ T78.heap _
    exact ⟨rfl, N78⟩
set_option maxRecDepth 65536 in
set_option maxHeartbeats 40000000 in
theorem own_law_3 (l : Launch) (Z : State) (a0 : Array Value) (hw : ∀ d ∈ tables_1, d.before a0 Z = true) (ws : List Jvm.Cond) (p1 : Int32) (w0 w1 w2 w3 w4 w5 w6 w7 w8 w9 w10 w11 w12 w13 w14 w15 w16 w17 w18 w19 w20 w21 w22 w23 : Addr) (h0 : Heap) (n0 : Nat) (Z0 : n0 ≤ h0.size) (P : own_P Z h0 w0 w1 w2 w3 w4 w5 w6 w7 w8 w9 w10 w11 w12 w13 w14 w15 w16 w17 w18 w19 w20 w21 w22 w23) (hk : ((p1 &&& (2147483647 : Int32)) % (24 : Int32)) = (3 : Int32)) :
    MetFree l x (head1 (Jvm.Cond.code x code maxLocals ret :: ws) room_1) (fun a U => a = #[(.int p1)] ∧ Z.Warmed39 U.vm ∧ U.heap = h0) (fun _ _ _ _ _ => True) (fun _ U o U' => ∃ v L, o = .returned v ∧ own_Q0 n0 v U'.heap L ∧ FrameEnd U o U' L room_1.cells room_1.slots) := by
  refine MetFree.of_bodySF (plainFor_of_name pn_apportion_io_DataTypeIsDecimalPinLaw) hisR ?_
  intro p e s m args below meth c s₁ Bd hml0 hP hK
  obtain ⟨rfl, hZ, hh⟩ := hP
  have hx := Bd.exec
  have hby := Bd.bytes
  have hml : c.maxLocals = 4 := hml0
  have hown : s.vm.findClass "apportion/io/DataTypeIsDecimalPinLaw" = some m.cls := findClass_of_methodNamed Bd.named
  have hnm := (name_of_methodNamed Bd.named Bd.method).1
  have X0 : Stand p l e room_1 s m #[(.int p1)] below meth c s₁ [] 0 0 := Stand.of_body Bd
  have e0 : s₁.heap = h0 := by rw [← hh, Bd.state]; rfl
  have N0 := Fr.nil n0
  have pre0 : ∀ t, Steps p.tables e below (s₁.setTop (mkF m 0 #[.val (.int p1), .unset, .unset, .unset] [])) t → Steps p.tables e below (s₁.setTop (entryFrame m #[(.int p1)] maxLocals)) t := fun t k => castTop (ef_code_I m p1) k
  have P0 := P; obtain ⟨S0, E0, F0_ordinal, S1, E1, F1_ordinal, S2, E2, F2_ordinal, S3, E3, F3_ordinal, S4, E4, F4_ordinal, S5, E5, F5_ordinal, S6, E6, F6_ordinal, S7, E7, F7_ordinal, S8, E8, F8_ordinal, S9, E9, F9_ordinal, S10, E10, F10_ordinal, S11, E11, F11_ordinal, S12, E12, F12_ordinal, S13, E13, F13_ordinal, S14, E14, F14_ordinal, S15, E15, F15_ordinal, S16, E16, F16_ordinal, S17, E17, F17_ordinal, S18, E18, F18_ordinal, S19, E19, F19_ordinal, S20, E20, F20_ordinal, S21, E21, F21_ordinal, S22, E22, F22_ordinal, S23, E23, F23_ordinal⟩ := P0
  obtain ⟨_, _, ⟨T79, L79, k79, n79⟩, -, X79, ⟨Lc79, hQ79, l79, y79, z79⟩, st79⟩ := Jvm.LawKit.callS X0 hx (y := (⟨"apportion/io/DataTypeIsDecimalPinLaw", "pick", "(I)Lapportion/io/DataType;"⟩ : MethodName)) hown (mvT hZ (hw _ (List.mem_of_getElem? (i := 1) rfl))) (mvT hZ (hw _ (List.mem_of_getElem? (i := 2) rfl))) (mvT hZ (hw _ (List.mem_of_getElem? (i := 3) rfl))) (mvT hZ (hw _ (List.mem_of_getElem? (i := 4) rfl))) (by decide) (backOf (W := 0) (own_pick_3 l Z a0 hw [] w0 w1 w2 w3 w4 w5 w6 w7 w8 w9 w10 w11 w12 w13 w14 w15 w16 w17 w18 w19 w20 w21 w22 w23 h0 n0 Z0 P) hZ (hw _ (List.mem_of_getElem? (i := 4) rfl)) (hw _ (List.mem_of_getElem? (i := 3) rfl)) (by decide) (by decide)) (g := (mkF m 9 #[.val (.int p1), .val (.int (3 : Int32)), .unset, .unset] [(.int (3 : Int32))])) rfl (by rw [hml]; rfl) (argsL := [(.int (3 : Int32))]) (rest := []) (lenOf pd__I_Lapportion_io_DataType_ rfl) rfl (by show 2 * 0 + _ ≤ _; exact Nat.le_of_eq rfl) (hb hby at_9) (fun _ _ => ⟨rfl, e0, (by decide : 0 + 0 ≤ _), (by decide : 0 + 0 ≤ _)⟩)
  dsimp only [Pt.U, Pt.locs, Pt.cells, Pt.slots] at X79 l79 y79 z79 st79 hQ79
  subst l79 y79 z79
  obtain ⟨rfl, N79q, e79⟩ := hQ79
  have N79 := Fr.app N0 N79q
  obtain ⟨cq80, kq80, q80a, q80b, q80c⟩ := isOf hZ e79 E1
  obtain ⟨_, _, ⟨T80, L80, k80, n80⟩, -, X80, ⟨Lc80, hQ80, l80, y80, z80⟩, st80⟩ := X79.virtualBack hx (y := (⟨"apportion/io/DataType", "isDecimal", "()Z"⟩ : MethodName)) (z := (⟨"apportion/io/DataType", "isDecimal", "()Z"⟩ : MethodName)) hown (mvT hZ (hw _ (List.mem_of_getElem? (i := 8) rfl))) (mvT hZ (hw _ (List.mem_of_getElem? (i := 9) rfl))) (notFace_of_selects (args := #[]) (mvT hZ (hw _ (List.mem_of_getElem? (i := 11) rfl)))) (mvT hZ (hw _ (List.mem_of_getElem? (i := 11) rfl))) (mvT hZ (hw _ (List.mem_of_getElem? (i := 10) rfl))) (by decide) (backOf (W := 0) (own_isDecimal_1 l Z a0 hw [] w0 w1 w2 w3 w4 w5 w6 w7 w8 w9 w10 w11 w12 w13 w14 w15 w16 w17 w18 w19 w20 w21 w22 w23 h0 n0 Z0 P) hZ (hw _ (List.mem_of_getElem? (i := 12) rfl)) (hw _ (List.mem_of_getElem? (i := 6) rfl)) (by decide) (by decide)) q80a q80c (g := (mkF m 32 #[.val (.int p1), .val (.int (3 : Int32)), .val (.ref w1), .val (.int (0 : Int32))] [(.ref w1)])) rfl (by rw [hml]; rfl) (Steps.refl _) (argsL := []) (rest := []) (lenOf pd___Z rfl) rfl (by show 2 * 0 + _ ≤ _; exact Nat.le_of_eq rfl) (hb hby at_32) (fun _ _ => ⟨rfl, e79, (by decide : 0 + 0 ≤ _), (by decide : 0 + 0 ≤ _)⟩)
  dsimp only [Pt.U, Pt.locs, Pt.cells, Pt.slots] at X80 l80 y80 z80 st80 hQ80
  subst l80 y80 z80
  obtain ⟨rfl, N80q, e80⟩ := hQ80
  have N80 := Fr.app N79 N80q
  obtain ⟨fs, hr, hrun, hended, hW, hsame⟩ := X80.leave (v := some (.int (1 : Int32))) (fun h => by rw [Bd.returns] at h; cases h)
  refine ⟨_, _, pre0 _ ?_, hrun, hended, _, _, rfl, ?_, ⟨_, rfl⟩, hW, hsame.mono (by decide) (by decide)⟩
  · show Steps p.tables e below (s₁.setTop (mkF m 0 #[.val (.int p1), .unset, .unset, .unset] [])) _
    refine XS.iloadN X0.here hx rfl (hb hby at_0) rfl ?_
    show Steps p.tables e below (s₁.setTop (mkF m 1 #[.val (.int p1), .unset, .unset, .unset] [(.int p1)])) _
    refine Jvm.Stand.ldcI X0 hx hown (mvT hZ (hw _ (List.mem_of_getElem? (i := 0) rfl))) rfl (hb hby at_1) ?_
    show Steps p.tables e below (s₁.setTop (mkF m 3 #[.val (.int p1), .unset, .unset, .unset] [(.int (2147483647 : Int32)), (.int p1)])) _
    refine XS.iand X0.here hx rfl (hb hby at_3) rfl ?_
    show Steps p.tables e below (s₁.setTop (mkF m 4 #[.val (.int p1), .unset, .unset, .unset] [(.int (p1 &&& (2147483647 : Int32)))])) _
    refine XT.bipushV X0.here hx rfl (24 : Int32) (hb hby at_4) (by decide) ?_
    show Steps p.tables e below (s₁.setTop (mkF m 6 #[.val (.int p1), .unset, .unset, .unset] [(.int (24 : Int32)), (.int (p1 &&& (2147483647 : Int32)))])) _
    refine iremM X0 hx rfl (hb hby at_6) rfl (by decide) ?_
    show Steps p.tables e below (s₁.setTop (mkF m 7 #[.val (.int p1), .unset, .unset, .unset] [(.int ((p1 &&& (2147483647 : Int32)) % (24 : Int32)))])) _
    rw [hk]
    show Steps p.tables e below (s₁.setTop (mkF m 7 #[.val (.int p1), .unset, .unset, .unset] [(.int (3 : Int32))])) _
    refine XS.istoreN X0.here hx rfl (hb hby at_7) rfl (l' := #[.val (.int p1), .val (.int (3 : Int32)), .unset, .unset]) rfl ?_
    show Steps p.tables e below (s₁.setTop (mkF m 8 #[.val (.int p1), .val (.int (3 : Int32)), .unset, .unset] [])) _
    refine XS.iloadN X0.here hx rfl (hb hby at_8) rfl ?_
    show Steps p.tables e below (s₁.setTop (mkF m 9 #[.val (.int p1), .val (.int (3 : Int32)), .unset, .unset] [(.int (3 : Int32))])) _
    refine st79 _ ?_
    show Steps p.tables e below (T79.setTop (mkF m 12 #[.val (.int p1), .val (.int (3 : Int32)), .unset, .unset] [(.ref w1)])) _
    refine XS.astoreN X79.here hx rfl (hb hby at_12) rfl rfl (l' := #[.val (.int p1), .val (.int (3 : Int32)), .val (.ref w1), .unset]) rfl ?_
    show Steps p.tables e below (T79.setTop (mkF m 13 #[.val (.int p1), .val (.int (3 : Int32)), .val (.ref w1), .unset] [])) _
    refine XS.iloadN X79.here hx rfl (hb hby at_13) rfl ?_
    show Steps p.tables e below (T79.setTop (mkF m 14 #[.val (.int p1), .val (.int (3 : Int32)), .val (.ref w1), .unset] [(.int (3 : Int32))])) _
    refine XT.bipushV X79.here hx rfl (8 : Int32) (hb hby at_14) (by decide) ?_
    show Steps p.tables e below (T79.setTop (mkF m 16 #[.val (.int p1), .val (.int (3 : Int32)), .val (.ref w1), .unset] [(.int (8 : Int32)), (.int (3 : Int32))])) _
    refine XS.icmpYes X79.here hx rfl (pc0 := 16) (pc' := 29) rfl (hb hby at_16) rfl (by decide) (by decide) (by decide) ?_
    show Steps p.tables e below (T79.setTop (mkF m 29 #[.val (.int p1), .val (.int (3 : Int32)), .val (.ref w1), .unset] [])) _
    refine XT.iconstV X79.here hx rfl (0 : Int32) (hb hby at_29) rfl ?_
    show Steps p.tables e below (T79.setTop (mkF m 30 #[.val (.int p1), .val (.int (3 : Int32)), .val (.ref w1), .unset] [(.int (0 : Int32))])) _
    refine XS.istoreN X79.here hx rfl (hb hby at_30) rfl (l' := #[.val (.int p1), .val (.int (3 : Int32)), .val (.ref w1), .val (.int (0 : Int32))]) rfl ?_
    show Steps p.tables e below (T79.setTop (mkF m 31 #[.val (.int p1), .val (.int (3 : Int32)), .val (.ref w1), .val (.int (0 : Int32))] [])) _
    refine XS.aloadN X79.here hx rfl (hb hby at_31) rfl rfl ?_
    show Steps p.tables e below (T79.setTop (mkF m 32 #[.val (.int p1), .val (.int (3 : Int32)), .val (.ref w1), .val (.int (0 : Int32))] [(.ref w1)])) _
    refine st80.trans ?_
    show Steps p.tables e below (T80.setTop (mkF m 35 #[.val (.int p1), .val (.int (3 : Int32)), .val (.ref w1), .val (.int (0 : Int32))] [(.int (0 : Int32))])) _
    refine XS.iloadN X80.here hx rfl (hb hby at_35) rfl ?_
    show Steps p.tables e below (T80.setTop (mkF m 36 #[.val (.int p1), .val (.int (3 : Int32)), .val (.ref w1), .val (.int (0 : Int32))] [(.int (0 : Int32)), (.int (0 : Int32))])) _
    refine XS.icmpNo X80.here hx rfl (hb hby at_36) rfl (by decide) ?_
    show Steps p.tables e below (T80.setTop (mkF m 39 #[.val (.int p1), .val (.int (3 : Int32)), .val (.ref w1), .val (.int (0 : Int32))] [])) _
    refine XT.iconstV X80.here hx rfl (1 : Int32) (hb hby at_39) rfl ?_
    show Steps p.tables e below (T80.setTop (mkF m 40 #[.val (.int p1), .val (.int (3 : Int32)), .val (.ref w1), .val (.int (0 : Int32))] [(.int (1 : Int32))])) _
    refine XS.goto X80.here hx rfl (pc0 := 40) (pc' := 44) rfl (hb hby at_40) (by decide) (by decide) ?_
    show Steps p.tables e below (T80.setTop (mkF m 44 #[.val (.int p1), .val (.int (3 : Int32)), .val (.ref w1), .val (.int (0 : Int32))] [(.int (1 : Int32))])) _
    exact retN X80 hx (t := .boolean) Bd.returns (by simp) (hb hby at_44) hr
  · show own_Q0 n0 _ T80.heap _
    exact ⟨rfl, N80⟩
set_option maxRecDepth 65536 in
set_option maxHeartbeats 40000000 in
theorem own_law_4 (l : Launch) (Z : State) (a0 : Array Value) (hw : ∀ d ∈ tables_1, d.before a0 Z = true) (ws : List Jvm.Cond) (p1 : Int32) (w0 w1 w2 w3 w4 w5 w6 w7 w8 w9 w10 w11 w12 w13 w14 w15 w16 w17 w18 w19 w20 w21 w22 w23 : Addr) (h0 : Heap) (n0 : Nat) (Z0 : n0 ≤ h0.size) (P : own_P Z h0 w0 w1 w2 w3 w4 w5 w6 w7 w8 w9 w10 w11 w12 w13 w14 w15 w16 w17 w18 w19 w20 w21 w22 w23) (hk : ((p1 &&& (2147483647 : Int32)) % (24 : Int32)) = (4 : Int32)) :
    MetFree l x (head1 (Jvm.Cond.code x code maxLocals ret :: ws) room_1) (fun a U => a = #[(.int p1)] ∧ Z.Warmed39 U.vm ∧ U.heap = h0) (fun _ _ _ _ _ => True) (fun _ U o U' => ∃ v L, o = .returned v ∧ own_Q0 n0 v U'.heap L ∧ FrameEnd U o U' L room_1.cells room_1.slots) := by
  refine MetFree.of_bodySF (plainFor_of_name pn_apportion_io_DataTypeIsDecimalPinLaw) hisR ?_
  intro p e s m args below meth c s₁ Bd hml0 hP hK
  obtain ⟨rfl, hZ, hh⟩ := hP
  have hx := Bd.exec
  have hby := Bd.bytes
  have hml : c.maxLocals = 4 := hml0
  have hown : s.vm.findClass "apportion/io/DataTypeIsDecimalPinLaw" = some m.cls := findClass_of_methodNamed Bd.named
  have hnm := (name_of_methodNamed Bd.named Bd.method).1
  have X0 : Stand p l e room_1 s m #[(.int p1)] below meth c s₁ [] 0 0 := Stand.of_body Bd
  have e0 : s₁.heap = h0 := by rw [← hh, Bd.state]; rfl
  have N0 := Fr.nil n0
  have pre0 : ∀ t, Steps p.tables e below (s₁.setTop (mkF m 0 #[.val (.int p1), .unset, .unset, .unset] [])) t → Steps p.tables e below (s₁.setTop (entryFrame m #[(.int p1)] maxLocals)) t := fun t k => castTop (ef_code_I m p1) k
  have P0 := P; obtain ⟨S0, E0, F0_ordinal, S1, E1, F1_ordinal, S2, E2, F2_ordinal, S3, E3, F3_ordinal, S4, E4, F4_ordinal, S5, E5, F5_ordinal, S6, E6, F6_ordinal, S7, E7, F7_ordinal, S8, E8, F8_ordinal, S9, E9, F9_ordinal, S10, E10, F10_ordinal, S11, E11, F11_ordinal, S12, E12, F12_ordinal, S13, E13, F13_ordinal, S14, E14, F14_ordinal, S15, E15, F15_ordinal, S16, E16, F16_ordinal, S17, E17, F17_ordinal, S18, E18, F18_ordinal, S19, E19, F19_ordinal, S20, E20, F20_ordinal, S21, E21, F21_ordinal, S22, E22, F22_ordinal, S23, E23, F23_ordinal⟩ := P0
  obtain ⟨_, _, ⟨T81, L81, k81, n81⟩, -, X81, ⟨Lc81, hQ81, l81, y81, z81⟩, st81⟩ := Jvm.LawKit.callS X0 hx (y := (⟨"apportion/io/DataTypeIsDecimalPinLaw", "pick", "(I)Lapportion/io/DataType;"⟩ : MethodName)) hown (mvT hZ (hw _ (List.mem_of_getElem? (i := 1) rfl))) (mvT hZ (hw _ (List.mem_of_getElem? (i := 2) rfl))) (mvT hZ (hw _ (List.mem_of_getElem? (i := 3) rfl))) (mvT hZ (hw _ (List.mem_of_getElem? (i := 4) rfl))) (by decide) (backOf (W := 0) (own_pick_4 l Z a0 hw [] w0 w1 w2 w3 w4 w5 w6 w7 w8 w9 w10 w11 w12 w13 w14 w15 w16 w17 w18 w19 w20 w21 w22 w23 h0 n0 Z0 P) hZ (hw _ (List.mem_of_getElem? (i := 4) rfl)) (hw _ (List.mem_of_getElem? (i := 3) rfl)) (by decide) (by decide)) (g := (mkF m 9 #[.val (.int p1), .val (.int (4 : Int32)), .unset, .unset] [(.int (4 : Int32))])) rfl (by rw [hml]; rfl) (argsL := [(.int (4 : Int32))]) (rest := []) (lenOf pd__I_Lapportion_io_DataType_ rfl) rfl (by show 2 * 0 + _ ≤ _; exact Nat.le_of_eq rfl) (hb hby at_9) (fun _ _ => ⟨rfl, e0, (by decide : 0 + 0 ≤ _), (by decide : 0 + 0 ≤ _)⟩)
  dsimp only [Pt.U, Pt.locs, Pt.cells, Pt.slots] at X81 l81 y81 z81 st81 hQ81
  subst l81 y81 z81
  obtain ⟨rfl, N81q, e81⟩ := hQ81
  have N81 := Fr.app N0 N81q
  obtain ⟨cq82, kq82, q82a, q82b, q82c⟩ := isOf hZ e81 E15
  obtain ⟨_, _, ⟨T82, L82, k82, n82⟩, -, X82, ⟨Lc82, hQ82, l82, y82, z82⟩, st82⟩ := X81.virtualBack hx (y := (⟨"apportion/io/DataType", "isDecimal", "()Z"⟩ : MethodName)) (z := (⟨"apportion/io/DataType", "isDecimal", "()Z"⟩ : MethodName)) hown (mvT hZ (hw _ (List.mem_of_getElem? (i := 8) rfl))) (mvT hZ (hw _ (List.mem_of_getElem? (i := 9) rfl))) (notFace_of_selects (args := #[]) (mvT hZ (hw _ (List.mem_of_getElem? (i := 11) rfl)))) (mvT hZ (hw _ (List.mem_of_getElem? (i := 11) rfl))) (mvT hZ (hw _ (List.mem_of_getElem? (i := 10) rfl))) (by decide) (backOf (W := 0) (own_isDecimal_15 l Z a0 hw [] w0 w1 w2 w3 w4 w5 w6 w7 w8 w9 w10 w11 w12 w13 w14 w15 w16 w17 w18 w19 w20 w21 w22 w23 h0 n0 Z0 P) hZ (hw _ (List.mem_of_getElem? (i := 12) rfl)) (hw _ (List.mem_of_getElem? (i := 6) rfl)) (by decide) (by decide)) q82a q82c (g := (mkF m 32 #[.val (.int p1), .val (.int (4 : Int32)), .val (.ref w15), .val (.int (0 : Int32))] [(.ref w15)])) rfl (by rw [hml]; rfl) (Steps.refl _) (argsL := []) (rest := []) (lenOf pd___Z rfl) rfl (by show 2 * 0 + _ ≤ _; exact Nat.le_of_eq rfl) (hb hby at_32) (fun _ _ => ⟨rfl, e81, (by decide : 0 + 0 ≤ _), (by decide : 0 + 0 ≤ _)⟩)
  dsimp only [Pt.U, Pt.locs, Pt.cells, Pt.slots] at X82 l82 y82 z82 st82 hQ82
  subst l82 y82 z82
  obtain ⟨rfl, N82q, e82⟩ := hQ82
  have N82 := Fr.app N81 N82q
  obtain ⟨fs, hr, hrun, hended, hW, hsame⟩ := X82.leave (v := some (.int (1 : Int32))) (fun h => by rw [Bd.returns] at h; cases h)
  refine ⟨_, _, pre0 _ ?_, hrun, hended, _, _, rfl, ?_, ⟨_, rfl⟩, hW, hsame.mono (by decide) (by decide)⟩
  · show Steps p.tables e below (s₁.setTop (mkF m 0 #[.val (.int p1), .unset, .unset, .unset] [])) _
    refine XS.iloadN X0.here hx rfl (hb hby at_0) rfl ?_
    show Steps p.tables e below (s₁.setTop (mkF m 1 #[.val (.int p1), .unset, .unset, .unset] [(.int p1)])) _
    refine Jvm.Stand.ldcI X0 hx hown (mvT hZ (hw _ (List.mem_of_getElem? (i := 0) rfl))) rfl (hb hby at_1) ?_
    show Steps p.tables e below (s₁.setTop (mkF m 3 #[.val (.int p1), .unset, .unset, .unset] [(.int (2147483647 : Int32)), (.int p1)])) _
    refine XS.iand X0.here hx rfl (hb hby at_3) rfl ?_
    show Steps p.tables e below (s₁.setTop (mkF m 4 #[.val (.int p1), .unset, .unset, .unset] [(.int (p1 &&& (2147483647 : Int32)))])) _
    refine XT.bipushV X0.here hx rfl (24 : Int32) (hb hby at_4) (by decide) ?_
    show Steps p.tables e below (s₁.setTop (mkF m 6 #[.val (.int p1), .unset, .unset, .unset] [(.int (24 : Int32)), (.int (p1 &&& (2147483647 : Int32)))])) _
    refine iremM X0 hx rfl (hb hby at_6) rfl (by decide) ?_
    show Steps p.tables e below (s₁.setTop (mkF m 7 #[.val (.int p1), .unset, .unset, .unset] [(.int ((p1 &&& (2147483647 : Int32)) % (24 : Int32)))])) _
    rw [hk]
    show Steps p.tables e below (s₁.setTop (mkF m 7 #[.val (.int p1), .unset, .unset, .unset] [(.int (4 : Int32))])) _
    refine XS.istoreN X0.here hx rfl (hb hby at_7) rfl (l' := #[.val (.int p1), .val (.int (4 : Int32)), .unset, .unset]) rfl ?_
    show Steps p.tables e below (s₁.setTop (mkF m 8 #[.val (.int p1), .val (.int (4 : Int32)), .unset, .unset] [])) _
    refine XS.iloadN X0.here hx rfl (hb hby at_8) rfl ?_
    show Steps p.tables e below (s₁.setTop (mkF m 9 #[.val (.int p1), .val (.int (4 : Int32)), .unset, .unset] [(.int (4 : Int32))])) _
    refine st81 _ ?_
    show Steps p.tables e below (T81.setTop (mkF m 12 #[.val (.int p1), .val (.int (4 : Int32)), .unset, .unset] [(.ref w15)])) _
    refine XS.astoreN X81.here hx rfl (hb hby at_12) rfl rfl (l' := #[.val (.int p1), .val (.int (4 : Int32)), .val (.ref w15), .unset]) rfl ?_
    show Steps p.tables e below (T81.setTop (mkF m 13 #[.val (.int p1), .val (.int (4 : Int32)), .val (.ref w15), .unset] [])) _
    refine XS.iloadN X81.here hx rfl (hb hby at_13) rfl ?_
    show Steps p.tables e below (T81.setTop (mkF m 14 #[.val (.int p1), .val (.int (4 : Int32)), .val (.ref w15), .unset] [(.int (4 : Int32))])) _
    refine XT.bipushV X81.here hx rfl (8 : Int32) (hb hby at_14) (by decide) ?_
    show Steps p.tables e below (T81.setTop (mkF m 16 #[.val (.int p1), .val (.int (4 : Int32)), .val (.ref w15), .unset] [(.int (8 : Int32)), (.int (4 : Int32))])) _
    refine XS.icmpYes X81.here hx rfl (pc0 := 16) (pc' := 29) rfl (hb hby at_16) rfl (by decide) (by decide) (by decide) ?_
    show Steps p.tables e below (T81.setTop (mkF m 29 #[.val (.int p1), .val (.int (4 : Int32)), .val (.ref w15), .unset] [])) _
    refine XT.iconstV X81.here hx rfl (0 : Int32) (hb hby at_29) rfl ?_
    show Steps p.tables e below (T81.setTop (mkF m 30 #[.val (.int p1), .val (.int (4 : Int32)), .val (.ref w15), .unset] [(.int (0 : Int32))])) _
    refine XS.istoreN X81.here hx rfl (hb hby at_30) rfl (l' := #[.val (.int p1), .val (.int (4 : Int32)), .val (.ref w15), .val (.int (0 : Int32))]) rfl ?_
    show Steps p.tables e below (T81.setTop (mkF m 31 #[.val (.int p1), .val (.int (4 : Int32)), .val (.ref w15), .val (.int (0 : Int32))] [])) _
    refine XS.aloadN X81.here hx rfl (hb hby at_31) rfl rfl ?_
    show Steps p.tables e below (T81.setTop (mkF m 32 #[.val (.int p1), .val (.int (4 : Int32)), .val (.ref w15), .val (.int (0 : Int32))] [(.ref w15)])) _
    refine st82.trans ?_
    show Steps p.tables e below (T82.setTop (mkF m 35 #[.val (.int p1), .val (.int (4 : Int32)), .val (.ref w15), .val (.int (0 : Int32))] [(.int (0 : Int32))])) _
    refine XS.iloadN X82.here hx rfl (hb hby at_35) rfl ?_
    show Steps p.tables e below (T82.setTop (mkF m 36 #[.val (.int p1), .val (.int (4 : Int32)), .val (.ref w15), .val (.int (0 : Int32))] [(.int (0 : Int32)), (.int (0 : Int32))])) _
    refine XS.icmpNo X82.here hx rfl (hb hby at_36) rfl (by decide) ?_
    show Steps p.tables e below (T82.setTop (mkF m 39 #[.val (.int p1), .val (.int (4 : Int32)), .val (.ref w15), .val (.int (0 : Int32))] [])) _
    refine XT.iconstV X82.here hx rfl (1 : Int32) (hb hby at_39) rfl ?_
    show Steps p.tables e below (T82.setTop (mkF m 40 #[.val (.int p1), .val (.int (4 : Int32)), .val (.ref w15), .val (.int (0 : Int32))] [(.int (1 : Int32))])) _
    refine XS.goto X82.here hx rfl (pc0 := 40) (pc' := 44) rfl (hb hby at_40) (by decide) (by decide) ?_
    show Steps p.tables e below (T82.setTop (mkF m 44 #[.val (.int p1), .val (.int (4 : Int32)), .val (.ref w15), .val (.int (0 : Int32))] [(.int (1 : Int32))])) _
    exact retN X82 hx (t := .boolean) Bd.returns (by simp) (hb hby at_44) hr
  · show own_Q0 n0 _ T82.heap _
    exact ⟨rfl, N82⟩
set_option maxRecDepth 65536 in
set_option maxHeartbeats 40000000 in
theorem own_law_5 (l : Launch) (Z : State) (a0 : Array Value) (hw : ∀ d ∈ tables_1, d.before a0 Z = true) (ws : List Jvm.Cond) (p1 : Int32) (w0 w1 w2 w3 w4 w5 w6 w7 w8 w9 w10 w11 w12 w13 w14 w15 w16 w17 w18 w19 w20 w21 w22 w23 : Addr) (h0 : Heap) (n0 : Nat) (Z0 : n0 ≤ h0.size) (P : own_P Z h0 w0 w1 w2 w3 w4 w5 w6 w7 w8 w9 w10 w11 w12 w13 w14 w15 w16 w17 w18 w19 w20 w21 w22 w23) (hk : ((p1 &&& (2147483647 : Int32)) % (24 : Int32)) = (5 : Int32)) :
    MetFree l x (head1 (Jvm.Cond.code x code maxLocals ret :: ws) room_1) (fun a U => a = #[(.int p1)] ∧ Z.Warmed39 U.vm ∧ U.heap = h0) (fun _ _ _ _ _ => True) (fun _ U o U' => ∃ v L, o = .returned v ∧ own_Q0 n0 v U'.heap L ∧ FrameEnd U o U' L room_1.cells room_1.slots) := by
  refine MetFree.of_bodySF (plainFor_of_name pn_apportion_io_DataTypeIsDecimalPinLaw) hisR ?_
  intro p e s m args below meth c s₁ Bd hml0 hP hK
  obtain ⟨rfl, hZ, hh⟩ := hP
  have hx := Bd.exec
  have hby := Bd.bytes
  have hml : c.maxLocals = 4 := hml0
  have hown : s.vm.findClass "apportion/io/DataTypeIsDecimalPinLaw" = some m.cls := findClass_of_methodNamed Bd.named
  have hnm := (name_of_methodNamed Bd.named Bd.method).1
  have X0 : Stand p l e room_1 s m #[(.int p1)] below meth c s₁ [] 0 0 := Stand.of_body Bd
  have e0 : s₁.heap = h0 := by rw [← hh, Bd.state]; rfl
  have N0 := Fr.nil n0
  have pre0 : ∀ t, Steps p.tables e below (s₁.setTop (mkF m 0 #[.val (.int p1), .unset, .unset, .unset] [])) t → Steps p.tables e below (s₁.setTop (entryFrame m #[(.int p1)] maxLocals)) t := fun t k => castTop (ef_code_I m p1) k
  have P0 := P; obtain ⟨S0, E0, F0_ordinal, S1, E1, F1_ordinal, S2, E2, F2_ordinal, S3, E3, F3_ordinal, S4, E4, F4_ordinal, S5, E5, F5_ordinal, S6, E6, F6_ordinal, S7, E7, F7_ordinal, S8, E8, F8_ordinal, S9, E9, F9_ordinal, S10, E10, F10_ordinal, S11, E11, F11_ordinal, S12, E12, F12_ordinal, S13, E13, F13_ordinal, S14, E14, F14_ordinal, S15, E15, F15_ordinal, S16, E16, F16_ordinal, S17, E17, F17_ordinal, S18, E18, F18_ordinal, S19, E19, F19_ordinal, S20, E20, F20_ordinal, S21, E21, F21_ordinal, S22, E22, F22_ordinal, S23, E23, F23_ordinal⟩ := P0
  obtain ⟨_, _, ⟨T83, L83, k83, n83⟩, -, X83, ⟨Lc83, hQ83, l83, y83, z83⟩, st83⟩ := Jvm.LawKit.callS X0 hx (y := (⟨"apportion/io/DataTypeIsDecimalPinLaw", "pick", "(I)Lapportion/io/DataType;"⟩ : MethodName)) hown (mvT hZ (hw _ (List.mem_of_getElem? (i := 1) rfl))) (mvT hZ (hw _ (List.mem_of_getElem? (i := 2) rfl))) (mvT hZ (hw _ (List.mem_of_getElem? (i := 3) rfl))) (mvT hZ (hw _ (List.mem_of_getElem? (i := 4) rfl))) (by decide) (backOf (W := 0) (own_pick_5 l Z a0 hw [] w0 w1 w2 w3 w4 w5 w6 w7 w8 w9 w10 w11 w12 w13 w14 w15 w16 w17 w18 w19 w20 w21 w22 w23 h0 n0 Z0 P) hZ (hw _ (List.mem_of_getElem? (i := 4) rfl)) (hw _ (List.mem_of_getElem? (i := 3) rfl)) (by decide) (by decide)) (g := (mkF m 9 #[.val (.int p1), .val (.int (5 : Int32)), .unset, .unset] [(.int (5 : Int32))])) rfl (by rw [hml]; rfl) (argsL := [(.int (5 : Int32))]) (rest := []) (lenOf pd__I_Lapportion_io_DataType_ rfl) rfl (by show 2 * 0 + _ ≤ _; exact Nat.le_of_eq rfl) (hb hby at_9) (fun _ _ => ⟨rfl, e0, (by decide : 0 + 0 ≤ _), (by decide : 0 + 0 ≤ _)⟩)
  dsimp only [Pt.U, Pt.locs, Pt.cells, Pt.slots] at X83 l83 y83 z83 st83 hQ83
  subst l83 y83 z83
  obtain ⟨rfl, N83q, e83⟩ := hQ83
  have N83 := Fr.app N0 N83q
  obtain ⟨cq84, kq84, q84a, q84b, q84c⟩ := isOf hZ e83 E17
  obtain ⟨_, _, ⟨T84, L84, k84, n84⟩, -, X84, ⟨Lc84, hQ84, l84, y84, z84⟩, st84⟩ := X83.virtualBack hx (y := (⟨"apportion/io/DataType", "isDecimal", "()Z"⟩ : MethodName)) (z := (⟨"apportion/io/DataType", "isDecimal", "()Z"⟩ : MethodName)) hown (mvT hZ (hw _ (List.mem_of_getElem? (i := 8) rfl))) (mvT hZ (hw _ (List.mem_of_getElem? (i := 9) rfl))) (notFace_of_selects (args := #[]) (mvT hZ (hw _ (List.mem_of_getElem? (i := 11) rfl)))) (mvT hZ (hw _ (List.mem_of_getElem? (i := 11) rfl))) (mvT hZ (hw _ (List.mem_of_getElem? (i := 10) rfl))) (by decide) (backOf (W := 0) (own_isDecimal_17 l Z a0 hw [] w0 w1 w2 w3 w4 w5 w6 w7 w8 w9 w10 w11 w12 w13 w14 w15 w16 w17 w18 w19 w20 w21 w22 w23 h0 n0 Z0 P) hZ (hw _ (List.mem_of_getElem? (i := 12) rfl)) (hw _ (List.mem_of_getElem? (i := 6) rfl)) (by decide) (by decide)) q84a q84c (g := (mkF m 32 #[.val (.int p1), .val (.int (5 : Int32)), .val (.ref w17), .val (.int (0 : Int32))] [(.ref w17)])) rfl (by rw [hml]; rfl) (Steps.refl _) (argsL := []) (rest := []) (lenOf pd___Z rfl) rfl (by show 2 * 0 + _ ≤ _; exact Nat.le_of_eq rfl) (hb hby at_32) (fun _ _ => ⟨rfl, e83, (by decide : 0 + 0 ≤ _), (by decide : 0 + 0 ≤ _)⟩)
  dsimp only [Pt.U, Pt.locs, Pt.cells, Pt.slots] at X84 l84 y84 z84 st84 hQ84
  subst l84 y84 z84
  obtain ⟨rfl, N84q, e84⟩ := hQ84
  have N84 := Fr.app N83 N84q
  obtain ⟨fs, hr, hrun, hended, hW, hsame⟩ := X84.leave (v := some (.int (1 : Int32))) (fun h => by rw [Bd.returns] at h; cases h)
  refine ⟨_, _, pre0 _ ?_, hrun, hended, _, _, rfl, ?_, ⟨_, rfl⟩, hW, hsame.mono (by decide) (by decide)⟩
  · show Steps p.tables e below (s₁.setTop (mkF m 0 #[.val (.int p1), .unset, .unset, .unset] [])) _
    refine XS.iloadN X0.here hx rfl (hb hby at_0) rfl ?_
    show Steps p.tables e below (s₁.setTop (mkF m 1 #[.val (.int p1), .unset, .unset, .unset] [(.int p1)])) _
    refine Jvm.Stand.ldcI X0 hx hown (mvT hZ (hw _ (List.mem_of_getElem? (i := 0) rfl))) rfl (hb hby at_1) ?_
    show Steps p.tables e below (s₁.setTop (mkF m 3 #[.val (.int p1), .unset, .unset, .unset] [(.int (2147483647 : Int32)), (.int p1)])) _
    refine XS.iand X0.here hx rfl (hb hby at_3) rfl ?_
    show Steps p.tables e below (s₁.setTop (mkF m 4 #[.val (.int p1), .unset, .unset, .unset] [(.int (p1 &&& (2147483647 : Int32)))])) _
    refine XT.bipushV X0.here hx rfl (24 : Int32) (hb hby at_4) (by decide) ?_
    show Steps p.tables e below (s₁.setTop (mkF m 6 #[.val (.int p1), .unset, .unset, .unset] [(.int (24 : Int32)), (.int (p1 &&& (2147483647 : Int32)))])) _
    refine iremM X0 hx rfl (hb hby at_6) rfl (by decide) ?_
    show Steps p.tables e below (s₁.setTop (mkF m 7 #[.val (.int p1), .unset, .unset, .unset] [(.int ((p1 &&& (2147483647 : Int32)) % (24 : Int32)))])) _
    rw [hk]
    show Steps p.tables e below (s₁.setTop (mkF m 7 #[.val (.int p1), .unset, .unset, .unset] [(.int (5 : Int32))])) _
    refine XS.istoreN X0.here hx rfl (hb hby at_7) rfl (l' := #[.val (.int p1), .val (.int (5 : Int32)), .unset, .unset]) rfl ?_
    show Steps p.tables e below (s₁.setTop (mkF m 8 #[.val (.int p1), .val (.int (5 : Int32)), .unset, .unset] [])) _
    refine XS.iloadN X0.here hx rfl (hb hby at_8) rfl ?_
    show Steps p.tables e below (s₁.setTop (mkF m 9 #[.val (.int p1), .val (.int (5 : Int32)), .unset, .unset] [(.int (5 : Int32))])) _
    refine st83 _ ?_
    show Steps p.tables e below (T83.setTop (mkF m 12 #[.val (.int p1), .val (.int (5 : Int32)), .unset, .unset] [(.ref w17)])) _
    refine XS.astoreN X83.here hx rfl (hb hby at_12) rfl rfl (l' := #[.val (.int p1), .val (.int (5 : Int32)), .val (.ref w17), .unset]) rfl ?_
    show Steps p.tables e below (T83.setTop (mkF m 13 #[.val (.int p1), .val (.int (5 : Int32)), .val (.ref w17), .unset] [])) _
    refine XS.iloadN X83.here hx rfl (hb hby at_13) rfl ?_
    show Steps p.tables e below (T83.setTop (mkF m 14 #[.val (.int p1), .val (.int (5 : Int32)), .val (.ref w17), .unset] [(.int (5 : Int32))])) _
    refine XT.bipushV X83.here hx rfl (8 : Int32) (hb hby at_14) (by decide) ?_
    show Steps p.tables e below (T83.setTop (mkF m 16 #[.val (.int p1), .val (.int (5 : Int32)), .val (.ref w17), .unset] [(.int (8 : Int32)), (.int (5 : Int32))])) _
    refine XS.icmpYes X83.here hx rfl (pc0 := 16) (pc' := 29) rfl (hb hby at_16) rfl (by decide) (by decide) (by decide) ?_
    show Steps p.tables e below (T83.setTop (mkF m 29 #[.val (.int p1), .val (.int (5 : Int32)), .val (.ref w17), .unset] [])) _
    refine XT.iconstV X83.here hx rfl (0 : Int32) (hb hby at_29) rfl ?_
    show Steps p.tables e below (T83.setTop (mkF m 30 #[.val (.int p1), .val (.int (5 : Int32)), .val (.ref w17), .unset] [(.int (0 : Int32))])) _
    refine XS.istoreN X83.here hx rfl (hb hby at_30) rfl (l' := #[.val (.int p1), .val (.int (5 : Int32)), .val (.ref w17), .val (.int (0 : Int32))]) rfl ?_
    show Steps p.tables e below (T83.setTop (mkF m 31 #[.val (.int p1), .val (.int (5 : Int32)), .val (.ref w17), .val (.int (0 : Int32))] [])) _
    refine XS.aloadN X83.here hx rfl (hb hby at_31) rfl rfl ?_
    show Steps p.tables e below (T83.setTop (mkF m 32 #[.val (.int p1), .val (.int (5 : Int32)), .val (.ref w17), .val (.int (0 : Int32))] [(.ref w17)])) _
    refine st84.trans ?_
    show Steps p.tables e below (T84.setTop (mkF m 35 #[.val (.int p1), .val (.int (5 : Int32)), .val (.ref w17), .val (.int (0 : Int32))] [(.int (0 : Int32))])) _
    refine XS.iloadN X84.here hx rfl (hb hby at_35) rfl ?_
    show Steps p.tables e below (T84.setTop (mkF m 36 #[.val (.int p1), .val (.int (5 : Int32)), .val (.ref w17), .val (.int (0 : Int32))] [(.int (0 : Int32)), (.int (0 : Int32))])) _
    refine XS.icmpNo X84.here hx rfl (hb hby at_36) rfl (by decide) ?_
    show Steps p.tables e below (T84.setTop (mkF m 39 #[.val (.int p1), .val (.int (5 : Int32)), .val (.ref w17), .val (.int (0 : Int32))] [])) _
    refine XT.iconstV X84.here hx rfl (1 : Int32) (hb hby at_39) rfl ?_
    show Steps p.tables e below (T84.setTop (mkF m 40 #[.val (.int p1), .val (.int (5 : Int32)), .val (.ref w17), .val (.int (0 : Int32))] [(.int (1 : Int32))])) _
    refine XS.goto X84.here hx rfl (pc0 := 40) (pc' := 44) rfl (hb hby at_40) (by decide) (by decide) ?_
    show Steps p.tables e below (T84.setTop (mkF m 44 #[.val (.int p1), .val (.int (5 : Int32)), .val (.ref w17), .val (.int (0 : Int32))] [(.int (1 : Int32))])) _
    exact retN X84 hx (t := .boolean) Bd.returns (by simp) (hb hby at_44) hr
  · show own_Q0 n0 _ T84.heap _
    exact ⟨rfl, N84⟩
set_option maxRecDepth 65536 in
set_option maxHeartbeats 40000000 in
theorem own_law_6 (l : Launch) (Z : State) (a0 : Array Value) (hw : ∀ d ∈ tables_1, d.before a0 Z = true) (ws : List Jvm.Cond) (p1 : Int32) (w0 w1 w2 w3 w4 w5 w6 w7 w8 w9 w10 w11 w12 w13 w14 w15 w16 w17 w18 w19 w20 w21 w22 w23 : Addr) (h0 : Heap) (n0 : Nat) (Z0 : n0 ≤ h0.size) (P : own_P Z h0 w0 w1 w2 w3 w4 w5 w6 w7 w8 w9 w10 w11 w12 w13 w14 w15 w16 w17 w18 w19 w20 w21 w22 w23) (hk : ((p1 &&& (2147483647 : Int32)) % (24 : Int32)) = (6 : Int32)) :
    MetFree l x (head1 (Jvm.Cond.code x code maxLocals ret :: ws) room_1) (fun a U => a = #[(.int p1)] ∧ Z.Warmed39 U.vm ∧ U.heap = h0) (fun _ _ _ _ _ => True) (fun _ U o U' => ∃ v L, o = .returned v ∧ own_Q0 n0 v U'.heap L ∧ FrameEnd U o U' L room_1.cells room_1.slots) := by
  refine MetFree.of_bodySF (plainFor_of_name pn_apportion_io_DataTypeIsDecimalPinLaw) hisR ?_
  intro p e s m args below meth c s₁ Bd hml0 hP hK
  obtain ⟨rfl, hZ, hh⟩ := hP
  have hx := Bd.exec
  have hby := Bd.bytes
  have hml : c.maxLocals = 4 := hml0
  have hown : s.vm.findClass "apportion/io/DataTypeIsDecimalPinLaw" = some m.cls := findClass_of_methodNamed Bd.named
  have hnm := (name_of_methodNamed Bd.named Bd.method).1
  have X0 : Stand p l e room_1 s m #[(.int p1)] below meth c s₁ [] 0 0 := Stand.of_body Bd
  have e0 : s₁.heap = h0 := by rw [← hh, Bd.state]; rfl
  have N0 := Fr.nil n0
  have pre0 : ∀ t, Steps p.tables e below (s₁.setTop (mkF m 0 #[.val (.int p1), .unset, .unset, .unset] [])) t → Steps p.tables e below (s₁.setTop (entryFrame m #[(.int p1)] maxLocals)) t := fun t k => castTop (ef_code_I m p1) k
  have P0 := P; obtain ⟨S0, E0, F0_ordinal, S1, E1, F1_ordinal, S2, E2, F2_ordinal, S3, E3, F3_ordinal, S4, E4, F4_ordinal, S5, E5, F5_ordinal, S6, E6, F6_ordinal, S7, E7, F7_ordinal, S8, E8, F8_ordinal, S9, E9, F9_ordinal, S10, E10, F10_ordinal, S11, E11, F11_ordinal, S12, E12, F12_ordinal, S13, E13, F13_ordinal, S14, E14, F14_ordinal, S15, E15, F15_ordinal, S16, E16, F16_ordinal, S17, E17, F17_ordinal, S18, E18, F18_ordinal, S19, E19, F19_ordinal, S20, E20, F20_ordinal, S21, E21, F21_ordinal, S22, E22, F22_ordinal, S23, E23, F23_ordinal⟩ := P0
  obtain ⟨_, _, ⟨T85, L85, k85, n85⟩, -, X85, ⟨Lc85, hQ85, l85, y85, z85⟩, st85⟩ := Jvm.LawKit.callS X0 hx (y := (⟨"apportion/io/DataTypeIsDecimalPinLaw", "pick", "(I)Lapportion/io/DataType;"⟩ : MethodName)) hown (mvT hZ (hw _ (List.mem_of_getElem? (i := 1) rfl))) (mvT hZ (hw _ (List.mem_of_getElem? (i := 2) rfl))) (mvT hZ (hw _ (List.mem_of_getElem? (i := 3) rfl))) (mvT hZ (hw _ (List.mem_of_getElem? (i := 4) rfl))) (by decide) (backOf (W := 0) (own_pick_6 l Z a0 hw [] w0 w1 w2 w3 w4 w5 w6 w7 w8 w9 w10 w11 w12 w13 w14 w15 w16 w17 w18 w19 w20 w21 w22 w23 h0 n0 Z0 P) hZ (hw _ (List.mem_of_getElem? (i := 4) rfl)) (hw _ (List.mem_of_getElem? (i := 3) rfl)) (by decide) (by decide)) (g := (mkF m 9 #[.val (.int p1), .val (.int (6 : Int32)), .unset, .unset] [(.int (6 : Int32))])) rfl (by rw [hml]; rfl) (argsL := [(.int (6 : Int32))]) (rest := []) (lenOf pd__I_Lapportion_io_DataType_ rfl) rfl (by show 2 * 0 + _ ≤ _; exact Nat.le_of_eq rfl) (hb hby at_9) (fun _ _ => ⟨rfl, e0, (by decide : 0 + 0 ≤ _), (by decide : 0 + 0 ≤ _)⟩)
  dsimp only [Pt.U, Pt.locs, Pt.cells, Pt.slots] at X85 l85 y85 z85 st85 hQ85
  subst l85 y85 z85
  obtain ⟨rfl, N85q, e85⟩ := hQ85
  have N85 := Fr.app N0 N85q
  obtain ⟨cq86, kq86, q86a, q86b, q86c⟩ := isOf hZ e85 E18
  obtain ⟨_, _, ⟨T86, L86, k86, n86⟩, -, X86, ⟨Lc86, hQ86, l86, y86, z86⟩, st86⟩ := X85.virtualBack hx (y := (⟨"apportion/io/DataType", "isDecimal", "()Z"⟩ : MethodName)) (z := (⟨"apportion/io/DataType", "isDecimal", "()Z"⟩ : MethodName)) hown (mvT hZ (hw _ (List.mem_of_getElem? (i := 8) rfl))) (mvT hZ (hw _ (List.mem_of_getElem? (i := 9) rfl))) (notFace_of_selects (args := #[]) (mvT hZ (hw _ (List.mem_of_getElem? (i := 11) rfl)))) (mvT hZ (hw _ (List.mem_of_getElem? (i := 11) rfl))) (mvT hZ (hw _ (List.mem_of_getElem? (i := 10) rfl))) (by decide) (backOf (W := 0) (own_isDecimal_18 l Z a0 hw [] w0 w1 w2 w3 w4 w5 w6 w7 w8 w9 w10 w11 w12 w13 w14 w15 w16 w17 w18 w19 w20 w21 w22 w23 h0 n0 Z0 P) hZ (hw _ (List.mem_of_getElem? (i := 12) rfl)) (hw _ (List.mem_of_getElem? (i := 6) rfl)) (by decide) (by decide)) q86a q86c (g := (mkF m 32 #[.val (.int p1), .val (.int (6 : Int32)), .val (.ref w18), .val (.int (0 : Int32))] [(.ref w18)])) rfl (by rw [hml]; rfl) (Steps.refl _) (argsL := []) (rest := []) (lenOf pd___Z rfl) rfl (by show 2 * 0 + _ ≤ _; exact Nat.le_of_eq rfl) (hb hby at_32) (fun _ _ => ⟨rfl, e85, (by decide : 0 + 0 ≤ _), (by decide : 0 + 0 ≤ _)⟩)
  dsimp only [Pt.U, Pt.locs, Pt.cells, Pt.slots] at X86 l86 y86 z86 st86 hQ86
  subst l86 y86 z86
  obtain ⟨rfl, N86q, e86⟩ := hQ86
  have N86 := Fr.app N85 N86q
  obtain ⟨fs, hr, hrun, hended, hW, hsame⟩ := X86.leave (v := some (.int (1 : Int32))) (fun h => by rw [Bd.returns] at h; cases h)
  refine ⟨_, _, pre0 _ ?_, hrun, hended, _, _, rfl, ?_, ⟨_, rfl⟩, hW, hsame.mono (by decide) (by decide)⟩
  · show Steps p.tables e below (s₁.setTop (mkF m 0 #[.val (.int p1), .unset, .unset, .unset] [])) _
    refine XS.iloadN X0.here hx rfl (hb hby at_0) rfl ?_
    show Steps p.tables e below (s₁.setTop (mkF m 1 #[.val (.int p1), .unset, .unset, .unset] [(.int p1)])) _
    refine Jvm.Stand.ldcI X0 hx hown (mvT hZ (hw _ (List.mem_of_getElem? (i := 0) rfl))) rfl (hb hby at_1) ?_
    show Steps p.tables e below (s₁.setTop (mkF m 3 #[.val (.int p1), .unset, .unset, .unset] [(.int (2147483647 : Int32)), (.int p1)])) _
    refine XS.iand X0.here hx rfl (hb hby at_3) rfl ?_
    show Steps p.tables e below (s₁.setTop (mkF m 4 #[.val (.int p1), .unset, .unset, .unset] [(.int (p1 &&& (2147483647 : Int32)))])) _
    refine XT.bipushV X0.here hx rfl (24 : Int32) (hb hby at_4) (by decide) ?_
    show Steps p.tables e below (s₁.setTop (mkF m 6 #[.val (.int p1), .unset, .unset, .unset] [(.int (24 : Int32)), (.int (p1 &&& (2147483647 : Int32)))])) _
    refine iremM X0 hx rfl (hb hby at_6) rfl (by decide) ?_
    show Steps p.tables e below (s₁.setTop (mkF m 7 #[.val (.int p1), .unset, .unset, .unset] [(.int ((p1 &&& (2147483647 : Int32)) % (24 : Int32)))])) _
    rw [hk]
    show Steps p.tables e below (s₁.setTop (mkF m 7 #[.val (.int p1), .unset, .unset, .unset] [(.int (6 : Int32))])) _
    refine XS.istoreN X0.here hx rfl (hb hby at_7) rfl (l' := #[.val (.int p1), .val (.int (6 : Int32)), .unset, .unset]) rfl ?_
    show Steps p.tables e below (s₁.setTop (mkF m 8 #[.val (.int p1), .val (.int (6 : Int32)), .unset, .unset] [])) _
    refine XS.iloadN X0.here hx rfl (hb hby at_8) rfl ?_
    show Steps p.tables e below (s₁.setTop (mkF m 9 #[.val (.int p1), .val (.int (6 : Int32)), .unset, .unset] [(.int (6 : Int32))])) _
    refine st85 _ ?_
    show Steps p.tables e below (T85.setTop (mkF m 12 #[.val (.int p1), .val (.int (6 : Int32)), .unset, .unset] [(.ref w18)])) _
    refine XS.astoreN X85.here hx rfl (hb hby at_12) rfl rfl (l' := #[.val (.int p1), .val (.int (6 : Int32)), .val (.ref w18), .unset]) rfl ?_
    show Steps p.tables e below (T85.setTop (mkF m 13 #[.val (.int p1), .val (.int (6 : Int32)), .val (.ref w18), .unset] [])) _
    refine XS.iloadN X85.here hx rfl (hb hby at_13) rfl ?_
    show Steps p.tables e below (T85.setTop (mkF m 14 #[.val (.int p1), .val (.int (6 : Int32)), .val (.ref w18), .unset] [(.int (6 : Int32))])) _
    refine XT.bipushV X85.here hx rfl (8 : Int32) (hb hby at_14) (by decide) ?_
    show Steps p.tables e below (T85.setTop (mkF m 16 #[.val (.int p1), .val (.int (6 : Int32)), .val (.ref w18), .unset] [(.int (8 : Int32)), (.int (6 : Int32))])) _
    refine XS.icmpYes X85.here hx rfl (pc0 := 16) (pc' := 29) rfl (hb hby at_16) rfl (by decide) (by decide) (by decide) ?_
    show Steps p.tables e below (T85.setTop (mkF m 29 #[.val (.int p1), .val (.int (6 : Int32)), .val (.ref w18), .unset] [])) _
    refine XT.iconstV X85.here hx rfl (0 : Int32) (hb hby at_29) rfl ?_
    show Steps p.tables e below (T85.setTop (mkF m 30 #[.val (.int p1), .val (.int (6 : Int32)), .val (.ref w18), .unset] [(.int (0 : Int32))])) _
    refine XS.istoreN X85.here hx rfl (hb hby at_30) rfl (l' := #[.val (.int p1), .val (.int (6 : Int32)), .val (.ref w18), .val (.int (0 : Int32))]) rfl ?_
    show Steps p.tables e below (T85.setTop (mkF m 31 #[.val (.int p1), .val (.int (6 : Int32)), .val (.ref w18), .val (.int (0 : Int32))] [])) _
    refine XS.aloadN X85.here hx rfl (hb hby at_31) rfl rfl ?_
    show Steps p.tables e below (T85.setTop (mkF m 32 #[.val (.int p1), .val (.int (6 : Int32)), .val (.ref w18), .val (.int (0 : Int32))] [(.ref w18)])) _
    refine st86.trans ?_
    show Steps p.tables e below (T86.setTop (mkF m 35 #[.val (.int p1), .val (.int (6 : Int32)), .val (.ref w18), .val (.int (0 : Int32))] [(.int (0 : Int32))])) _
    refine XS.iloadN X86.here hx rfl (hb hby at_35) rfl ?_
    show Steps p.tables e below (T86.setTop (mkF m 36 #[.val (.int p1), .val (.int (6 : Int32)), .val (.ref w18), .val (.int (0 : Int32))] [(.int (0 : Int32)), (.int (0 : Int32))])) _
    refine XS.icmpNo X86.here hx rfl (hb hby at_36) rfl (by decide) ?_
    show Steps p.tables e below (T86.setTop (mkF m 39 #[.val (.int p1), .val (.int (6 : Int32)), .val (.ref w18), .val (.int (0 : Int32))] [])) _
    refine XT.iconstV X86.here hx rfl (1 : Int32) (hb hby at_39) rfl ?_
    show Steps p.tables e below (T86.setTop (mkF m 40 #[.val (.int p1), .val (.int (6 : Int32)), .val (.ref w18), .val (.int (0 : Int32))] [(.int (1 : Int32))])) _
    refine XS.goto X86.here hx rfl (pc0 := 40) (pc' := 44) rfl (hb hby at_40) (by decide) (by decide) ?_
    show Steps p.tables e below (T86.setTop (mkF m 44 #[.val (.int p1), .val (.int (6 : Int32)), .val (.ref w18), .val (.int (0 : Int32))] [(.int (1 : Int32))])) _
    exact retN X86 hx (t := .boolean) Bd.returns (by simp) (hb hby at_44) hr
  · show own_Q0 n0 _ T86.heap _
    exact ⟨rfl, N86⟩
set_option maxRecDepth 65536 in
set_option maxHeartbeats 40000000 in
theorem own_law_7 (l : Launch) (Z : State) (a0 : Array Value) (hw : ∀ d ∈ tables_1, d.before a0 Z = true) (ws : List Jvm.Cond) (p1 : Int32) (w0 w1 w2 w3 w4 w5 w6 w7 w8 w9 w10 w11 w12 w13 w14 w15 w16 w17 w18 w19 w20 w21 w22 w23 : Addr) (h0 : Heap) (n0 : Nat) (Z0 : n0 ≤ h0.size) (P : own_P Z h0 w0 w1 w2 w3 w4 w5 w6 w7 w8 w9 w10 w11 w12 w13 w14 w15 w16 w17 w18 w19 w20 w21 w22 w23) (hk : ((p1 &&& (2147483647 : Int32)) % (24 : Int32)) = (7 : Int32)) :
    MetFree l x (head1 (Jvm.Cond.code x code maxLocals ret :: ws) room_1) (fun a U => a = #[(.int p1)] ∧ Z.Warmed39 U.vm ∧ U.heap = h0) (fun _ _ _ _ _ => True) (fun _ U o U' => ∃ v L, o = .returned v ∧ own_Q0 n0 v U'.heap L ∧ FrameEnd U o U' L room_1.cells room_1.slots) := by
  refine MetFree.of_bodySF (plainFor_of_name pn_apportion_io_DataTypeIsDecimalPinLaw) hisR ?_
  intro p e s m args below meth c s₁ Bd hml0 hP hK
  obtain ⟨rfl, hZ, hh⟩ := hP
  have hx := Bd.exec
  have hby := Bd.bytes
  have hml : c.maxLocals = 4 := hml0
  have hown : s.vm.findClass "apportion/io/DataTypeIsDecimalPinLaw" = some m.cls := findClass_of_methodNamed Bd.named
  have hnm := (name_of_methodNamed Bd.named Bd.method).1
  have X0 : Stand p l e room_1 s m #[(.int p1)] below meth c s₁ [] 0 0 := Stand.of_body Bd
  have e0 : s₁.heap = h0 := by rw [← hh, Bd.state]; rfl
  have N0 := Fr.nil n0
  have pre0 : ∀ t, Steps p.tables e below (s₁.setTop (mkF m 0 #[.val (.int p1), .unset, .unset, .unset] [])) t → Steps p.tables e below (s₁.setTop (entryFrame m #[(.int p1)] maxLocals)) t := fun t k => castTop (ef_code_I m p1) k
  have P0 := P; obtain ⟨S0, E0, F0_ordinal, S1, E1, F1_ordinal, S2, E2, F2_ordinal, S3, E3, F3_ordinal, S4, E4, F4_ordinal, S5, E5, F5_ordinal, S6, E6, F6_ordinal, S7, E7, F7_ordinal, S8, E8, F8_ordinal, S9, E9, F9_ordinal, S10, E10, F10_ordinal, S11, E11, F11_ordinal, S12, E12, F12_ordinal, S13, E13, F13_ordinal, S14, E14, F14_ordinal, S15, E15, F15_ordinal, S16, E16, F16_ordinal, S17, E17, F17_ordinal, S18, E18, F18_ordinal, S19, E19, F19_ordinal, S20, E20, F20_ordinal, S21, E21, F21_ordinal, S22, E22, F22_ordinal, S23, E23, F23_ordinal⟩ := P0
  obtain ⟨_, _, ⟨T87, L87, k87, n87⟩, -, X87, ⟨Lc87, hQ87, l87, y87, z87⟩, st87⟩ := Jvm.LawKit.callS X0 hx (y := (⟨"apportion/io/DataTypeIsDecimalPinLaw", "pick", "(I)Lapportion/io/DataType;"⟩ : MethodName)) hown (mvT hZ (hw _ (List.mem_of_getElem? (i := 1) rfl))) (mvT hZ (hw _ (List.mem_of_getElem? (i := 2) rfl))) (mvT hZ (hw _ (List.mem_of_getElem? (i := 3) rfl))) (mvT hZ (hw _ (List.mem_of_getElem? (i := 4) rfl))) (by decide) (backOf (W := 0) (own_pick_7 l Z a0 hw [] w0 w1 w2 w3 w4 w5 w6 w7 w8 w9 w10 w11 w12 w13 w14 w15 w16 w17 w18 w19 w20 w21 w22 w23 h0 n0 Z0 P) hZ (hw _ (List.mem_of_getElem? (i := 4) rfl)) (hw _ (List.mem_of_getElem? (i := 3) rfl)) (by decide) (by decide)) (g := (mkF m 9 #[.val (.int p1), .val (.int (7 : Int32)), .unset, .unset] [(.int (7 : Int32))])) rfl (by rw [hml]; rfl) (argsL := [(.int (7 : Int32))]) (rest := []) (lenOf pd__I_Lapportion_io_DataType_ rfl) rfl (by show 2 * 0 + _ ≤ _; exact Nat.le_of_eq rfl) (hb hby at_9) (fun _ _ => ⟨rfl, e0, (by decide : 0 + 0 ≤ _), (by decide : 0 + 0 ≤ _)⟩)
  dsimp only [Pt.U, Pt.locs, Pt.cells, Pt.slots] at X87 l87 y87 z87 st87 hQ87
  subst l87 y87 z87
  obtain ⟨rfl, N87q, e87⟩ := hQ87
  have N87 := Fr.app N0 N87q
  obtain ⟨cq88, kq88, q88a, q88b, q88c⟩ := isOf hZ e87 E6
  obtain ⟨_, _, ⟨T88, L88, k88, n88⟩, -, X88, ⟨Lc88, hQ88, l88, y88, z88⟩, st88⟩ := X87.virtualBack hx (y := (⟨"apportion/io/DataType", "isDecimal", "()Z"⟩ : MethodName)) (z := (⟨"apportion/io/DataType", "isDecimal", "()Z"⟩ : MethodName)) hown (mvT hZ (hw _ (List.mem_of_getElem? (i := 8) rfl))) (mvT hZ (hw _ (List.mem_of_getElem? (i := 9) rfl))) (notFace_of_selects (args := #[]) (mvT hZ (hw _ (List.mem_of_getElem? (i := 11) rfl)))) (mvT hZ (hw _ (List.mem_of_getElem? (i := 11) rfl))) (mvT hZ (hw _ (List.mem_of_getElem? (i := 10) rfl))) (by decide) (backOf (W := 0) (own_isDecimal_6 l Z a0 hw [] w0 w1 w2 w3 w4 w5 w6 w7 w8 w9 w10 w11 w12 w13 w14 w15 w16 w17 w18 w19 w20 w21 w22 w23 h0 n0 Z0 P) hZ (hw _ (List.mem_of_getElem? (i := 12) rfl)) (hw _ (List.mem_of_getElem? (i := 6) rfl)) (by decide) (by decide)) q88a q88c (g := (mkF m 32 #[.val (.int p1), .val (.int (7 : Int32)), .val (.ref w6), .val (.int (0 : Int32))] [(.ref w6)])) rfl (by rw [hml]; rfl) (Steps.refl _) (argsL := []) (rest := []) (lenOf pd___Z rfl) rfl (by show 2 * 0 + _ ≤ _; exact Nat.le_of_eq rfl) (hb hby at_32) (fun _ _ => ⟨rfl, e87, (by decide : 0 + 0 ≤ _), (by decide : 0 + 0 ≤ _)⟩)
  dsimp only [Pt.U, Pt.locs, Pt.cells, Pt.slots] at X88 l88 y88 z88 st88 hQ88
  subst l88 y88 z88
  obtain ⟨rfl, N88q, e88⟩ := hQ88
  have N88 := Fr.app N87 N88q
  obtain ⟨fs, hr, hrun, hended, hW, hsame⟩ := X88.leave (v := some (.int (1 : Int32))) (fun h => by rw [Bd.returns] at h; cases h)
  refine ⟨_, _, pre0 _ ?_, hrun, hended, _, _, rfl, ?_, ⟨_, rfl⟩, hW, hsame.mono (by decide) (by decide)⟩
  · show Steps p.tables e below (s₁.setTop (mkF m 0 #[.val (.int p1), .unset, .unset, .unset] [])) _
    refine XS.iloadN X0.here hx rfl (hb hby at_0) rfl ?_
    show Steps p.tables e below (s₁.setTop (mkF m 1 #[.val (.int p1), .unset, .unset, .unset] [(.int p1)])) _
    refine Jvm.Stand.ldcI X0 hx hown (mvT hZ (hw _ (List.mem_of_getElem? (i := 0) rfl))) rfl (hb hby at_1) ?_
    show Steps p.tables e below (s₁.setTop (mkF m 3 #[.val (.int p1), .unset, .unset, .unset] [(.int (2147483647 : Int32)), (.int p1)])) _
    refine XS.iand X0.here hx rfl (hb hby at_3) rfl ?_
    show Steps p.tables e below (s₁.setTop (mkF m 4 #[.val (.int p1), .unset, .unset, .unset] [(.int (p1 &&& (2147483647 : Int32)))])) _
    refine XT.bipushV X0.here hx rfl (24 : Int32) (hb hby at_4) (by decide) ?_
    show Steps p.tables e below (s₁.setTop (mkF m 6 #[.val (.int p1), .unset, .unset, .unset] [(.int (24 : Int32)), (.int (p1 &&& (2147483647 : Int32)))])) _
    refine iremM X0 hx rfl (hb hby at_6) rfl (by decide) ?_
    show Steps p.tables e below (s₁.setTop (mkF m 7 #[.val (.int p1), .unset, .unset, .unset] [(.int ((p1 &&& (2147483647 : Int32)) % (24 : Int32)))])) _
    rw [hk]
    show Steps p.tables e below (s₁.setTop (mkF m 7 #[.val (.int p1), .unset, .unset, .unset] [(.int (7 : Int32))])) _
    refine XS.istoreN X0.here hx rfl (hb hby at_7) rfl (l' := #[.val (.int p1), .val (.int (7 : Int32)), .unset, .unset]) rfl ?_
    show Steps p.tables e below (s₁.setTop (mkF m 8 #[.val (.int p1), .val (.int (7 : Int32)), .unset, .unset] [])) _
    refine XS.iloadN X0.here hx rfl (hb hby at_8) rfl ?_
    show Steps p.tables e below (s₁.setTop (mkF m 9 #[.val (.int p1), .val (.int (7 : Int32)), .unset, .unset] [(.int (7 : Int32))])) _
    refine st87 _ ?_
    show Steps p.tables e below (T87.setTop (mkF m 12 #[.val (.int p1), .val (.int (7 : Int32)), .unset, .unset] [(.ref w6)])) _
    refine XS.astoreN X87.here hx rfl (hb hby at_12) rfl rfl (l' := #[.val (.int p1), .val (.int (7 : Int32)), .val (.ref w6), .unset]) rfl ?_
    show Steps p.tables e below (T87.setTop (mkF m 13 #[.val (.int p1), .val (.int (7 : Int32)), .val (.ref w6), .unset] [])) _
    refine XS.iloadN X87.here hx rfl (hb hby at_13) rfl ?_
    show Steps p.tables e below (T87.setTop (mkF m 14 #[.val (.int p1), .val (.int (7 : Int32)), .val (.ref w6), .unset] [(.int (7 : Int32))])) _
    refine XT.bipushV X87.here hx rfl (8 : Int32) (hb hby at_14) (by decide) ?_
    show Steps p.tables e below (T87.setTop (mkF m 16 #[.val (.int p1), .val (.int (7 : Int32)), .val (.ref w6), .unset] [(.int (8 : Int32)), (.int (7 : Int32))])) _
    refine XS.icmpYes X87.here hx rfl (pc0 := 16) (pc' := 29) rfl (hb hby at_16) rfl (by decide) (by decide) (by decide) ?_
    show Steps p.tables e below (T87.setTop (mkF m 29 #[.val (.int p1), .val (.int (7 : Int32)), .val (.ref w6), .unset] [])) _
    refine XT.iconstV X87.here hx rfl (0 : Int32) (hb hby at_29) rfl ?_
    show Steps p.tables e below (T87.setTop (mkF m 30 #[.val (.int p1), .val (.int (7 : Int32)), .val (.ref w6), .unset] [(.int (0 : Int32))])) _
    refine XS.istoreN X87.here hx rfl (hb hby at_30) rfl (l' := #[.val (.int p1), .val (.int (7 : Int32)), .val (.ref w6), .val (.int (0 : Int32))]) rfl ?_
    show Steps p.tables e below (T87.setTop (mkF m 31 #[.val (.int p1), .val (.int (7 : Int32)), .val (.ref w6), .val (.int (0 : Int32))] [])) _
    refine XS.aloadN X87.here hx rfl (hb hby at_31) rfl rfl ?_
    show Steps p.tables e below (T87.setTop (mkF m 32 #[.val (.int p1), .val (.int (7 : Int32)), .val (.ref w6), .val (.int (0 : Int32))] [(.ref w6)])) _
    refine st88.trans ?_
    show Steps p.tables e below (T88.setTop (mkF m 35 #[.val (.int p1), .val (.int (7 : Int32)), .val (.ref w6), .val (.int (0 : Int32))] [(.int (0 : Int32))])) _
    refine XS.iloadN X88.here hx rfl (hb hby at_35) rfl ?_
    show Steps p.tables e below (T88.setTop (mkF m 36 #[.val (.int p1), .val (.int (7 : Int32)), .val (.ref w6), .val (.int (0 : Int32))] [(.int (0 : Int32)), (.int (0 : Int32))])) _
    refine XS.icmpNo X88.here hx rfl (hb hby at_36) rfl (by decide) ?_
    show Steps p.tables e below (T88.setTop (mkF m 39 #[.val (.int p1), .val (.int (7 : Int32)), .val (.ref w6), .val (.int (0 : Int32))] [])) _
    refine XT.iconstV X88.here hx rfl (1 : Int32) (hb hby at_39) rfl ?_
    show Steps p.tables e below (T88.setTop (mkF m 40 #[.val (.int p1), .val (.int (7 : Int32)), .val (.ref w6), .val (.int (0 : Int32))] [(.int (1 : Int32))])) _
    refine XS.goto X88.here hx rfl (pc0 := 40) (pc' := 44) rfl (hb hby at_40) (by decide) (by decide) ?_
    show Steps p.tables e below (T88.setTop (mkF m 44 #[.val (.int p1), .val (.int (7 : Int32)), .val (.ref w6), .val (.int (0 : Int32))] [(.int (1 : Int32))])) _
    exact retN X88 hx (t := .boolean) Bd.returns (by simp) (hb hby at_44) hr
  · show own_Q0 n0 _ T88.heap _
    exact ⟨rfl, N88⟩
set_option maxRecDepth 65536 in
set_option maxHeartbeats 40000000 in
theorem own_law_8 (l : Launch) (Z : State) (a0 : Array Value) (hw : ∀ d ∈ tables_1, d.before a0 Z = true) (ws : List Jvm.Cond) (p1 : Int32) (w0 w1 w2 w3 w4 w5 w6 w7 w8 w9 w10 w11 w12 w13 w14 w15 w16 w17 w18 w19 w20 w21 w22 w23 : Addr) (h0 : Heap) (n0 : Nat) (Z0 : n0 ≤ h0.size) (P : own_P Z h0 w0 w1 w2 w3 w4 w5 w6 w7 w8 w9 w10 w11 w12 w13 w14 w15 w16 w17 w18 w19 w20 w21 w22 w23) (hk : ((p1 &&& (2147483647 : Int32)) % (24 : Int32)) = (8 : Int32)) :
    MetFree l x (head1 (Jvm.Cond.code x code maxLocals ret :: ws) room_1) (fun a U => a = #[(.int p1)] ∧ Z.Warmed39 U.vm ∧ U.heap = h0) (fun _ _ _ _ _ => True) (fun _ U o U' => ∃ v L, o = .returned v ∧ own_Q0 n0 v U'.heap L ∧ FrameEnd U o U' L room_1.cells room_1.slots) := by
  refine MetFree.of_bodySF (plainFor_of_name pn_apportion_io_DataTypeIsDecimalPinLaw) hisR ?_
  intro p e s m args below meth c s₁ Bd hml0 hP hK
  obtain ⟨rfl, hZ, hh⟩ := hP
  have hx := Bd.exec
  have hby := Bd.bytes
  have hml : c.maxLocals = 4 := hml0
  have hown : s.vm.findClass "apportion/io/DataTypeIsDecimalPinLaw" = some m.cls := findClass_of_methodNamed Bd.named
  have hnm := (name_of_methodNamed Bd.named Bd.method).1
  have X0 : Stand p l e room_1 s m #[(.int p1)] below meth c s₁ [] 0 0 := Stand.of_body Bd
  have e0 : s₁.heap = h0 := by rw [← hh, Bd.state]; rfl
  have N0 := Fr.nil n0
  have pre0 : ∀ t, Steps p.tables e below (s₁.setTop (mkF m 0 #[.val (.int p1), .unset, .unset, .unset] [])) t → Steps p.tables e below (s₁.setTop (entryFrame m #[(.int p1)] maxLocals)) t := fun t k => castTop (ef_code_I m p1) k
  have P0 := P; obtain ⟨S0, E0, F0_ordinal, S1, E1, F1_ordinal, S2, E2, F2_ordinal, S3, E3, F3_ordinal, S4, E4, F4_ordinal, S5, E5, F5_ordinal, S6, E6, F6_ordinal, S7, E7, F7_ordinal, S8, E8, F8_ordinal, S9, E9, F9_ordinal, S10, E10, F10_ordinal, S11, E11, F11_ordinal, S12, E12, F12_ordinal, S13, E13, F13_ordinal, S14, E14, F14_ordinal, S15, E15, F15_ordinal, S16, E16, F16_ordinal, S17, E17, F17_ordinal, S18, E18, F18_ordinal, S19, E19, F19_ordinal, S20, E20, F20_ordinal, S21, E21, F21_ordinal, S22, E22, F22_ordinal, S23, E23, F23_ordinal⟩ := P0
  obtain ⟨_, _, ⟨T89, L89, k89, n89⟩, -, X89, ⟨Lc89, hQ89, l89, y89, z89⟩, st89⟩ := Jvm.LawKit.callS X0 hx (y := (⟨"apportion/io/DataTypeIsDecimalPinLaw", "pick", "(I)Lapportion/io/DataType;"⟩ : MethodName)) hown (mvT hZ (hw _ (List.mem_of_getElem? (i := 1) rfl))) (mvT hZ (hw _ (List.mem_of_getElem? (i := 2) rfl))) (mvT hZ (hw _ (List.mem_of_getElem? (i := 3) rfl))) (mvT hZ (hw _ (List.mem_of_getElem? (i := 4) rfl))) (by decide) (backOf (W := 0) (own_pick_8 l Z a0 hw [] w0 w1 w2 w3 w4 w5 w6 w7 w8 w9 w10 w11 w12 w13 w14 w15 w16 w17 w18 w19 w20 w21 w22 w23 h0 n0 Z0 P) hZ (hw _ (List.mem_of_getElem? (i := 4) rfl)) (hw _ (List.mem_of_getElem? (i := 3) rfl)) (by decide) (by decide)) (g := (mkF m 9 #[.val (.int p1), .val (.int (8 : Int32)), .unset, .unset] [(.int (8 : Int32))])) rfl (by rw [hml]; rfl) (argsL := [(.int (8 : Int32))]) (rest := []) (lenOf pd__I_Lapportion_io_DataType_ rfl) rfl (by show 2 * 0 + _ ≤ _; exact Nat.le_of_eq rfl) (hb hby at_9) (fun _ _ => ⟨rfl, e0, (by decide : 0 + 0 ≤ _), (by decide : 0 + 0 ≤ _)⟩)
  dsimp only [Pt.U, Pt.locs, Pt.cells, Pt.slots] at X89 l89 y89 z89 st89 hQ89
  subst l89 y89 z89
  obtain ⟨rfl, N89q, e89⟩ := hQ89
  have N89 := Fr.app N0 N89q
  obtain ⟨cq90, kq90, q90a, q90b, q90c⟩ := isOf hZ e89 E9
  obtain ⟨_, _, ⟨T90, L90, k90, n90⟩, -, X90, ⟨Lc90, hQ90, l90, y90, z90⟩, st90⟩ := X89.virtualBack hx (y := (⟨"apportion/io/DataType", "isDecimal", "()Z"⟩ : MethodName)) (z := (⟨"apportion/io/DataType", "isDecimal", "()Z"⟩ : MethodName)) hown (mvT hZ (hw _ (List.mem_of_getElem? (i := 8) rfl))) (mvT hZ (hw _ (List.mem_of_getElem? (i := 9) rfl))) (notFace_of_selects (args := #[]) (mvT hZ (hw _ (List.mem_of_getElem? (i := 11) rfl)))) (mvT hZ (hw _ (List.mem_of_getElem? (i := 11) rfl))) (mvT hZ (hw _ (List.mem_of_getElem? (i := 10) rfl))) (by decide) (backOf (W := 0) (own_isDecimal_9 l Z a0 hw [] w0 w1 w2 w3 w4 w5 w6 w7 w8 w9 w10 w11 w12 w13 w14 w15 w16 w17 w18 w19 w20 w21 w22 w23 h0 n0 Z0 P) hZ (hw _ (List.mem_of_getElem? (i := 12) rfl)) (hw _ (List.mem_of_getElem? (i := 6) rfl)) (by decide) (by decide)) q90a q90c (g := (mkF m 32 #[.val (.int p1), .val (.int (8 : Int32)), .val (.ref w9), .val (.int (1 : Int32))] [(.ref w9)])) rfl (by rw [hml]; rfl) (Steps.refl _) (argsL := []) (rest := []) (lenOf pd___Z rfl) rfl (by show 2 * 0 + _ ≤ _; exact Nat.le_of_eq rfl) (hb hby at_32) (fun _ _ => ⟨rfl, e89, (by decide : 0 + 0 ≤ _), (by decide : 0 + 0 ≤ _)⟩)
  dsimp only [Pt.U, Pt.locs, Pt.cells, Pt.slots] at X90 l90 y90 z90 st90 hQ90
  subst l90 y90 z90
  obtain ⟨rfl, N90q, e90⟩ := hQ90
  have N90 := Fr.app N89 N90q
  obtain ⟨fs, hr, hrun, hended, hW, hsame⟩ := X90.leave (v := some (.int (1 : Int32))) (fun h => by rw [Bd.returns] at h; cases h)
  refine ⟨_, _, pre0 _ ?_, hrun, hended, _, _, rfl, ?_, ⟨_, rfl⟩, hW, hsame.mono (by decide) (by decide)⟩
  · show Steps p.tables e below (s₁.setTop (mkF m 0 #[.val (.int p1), .unset, .unset, .unset] [])) _
    refine XS.iloadN X0.here hx rfl (hb hby at_0) rfl ?_
    show Steps p.tables e below (s₁.setTop (mkF m 1 #[.val (.int p1), .unset, .unset, .unset] [(.int p1)])) _
    refine Jvm.Stand.ldcI X0 hx hown (mvT hZ (hw _ (List.mem_of_getElem? (i := 0) rfl))) rfl (hb hby at_1) ?_
    show Steps p.tables e below (s₁.setTop (mkF m 3 #[.val (.int p1), .unset, .unset, .unset] [(.int (2147483647 : Int32)), (.int p1)])) _
    refine XS.iand X0.here hx rfl (hb hby at_3) rfl ?_
    show Steps p.tables e below (s₁.setTop (mkF m 4 #[.val (.int p1), .unset, .unset, .unset] [(.int (p1 &&& (2147483647 : Int32)))])) _
    refine XT.bipushV X0.here hx rfl (24 : Int32) (hb hby at_4) (by decide) ?_
    show Steps p.tables e below (s₁.setTop (mkF m 6 #[.val (.int p1), .unset, .unset, .unset] [(.int (24 : Int32)), (.int (p1 &&& (2147483647 : Int32)))])) _
    refine iremM X0 hx rfl (hb hby at_6) rfl (by decide) ?_
    show Steps p.tables e below (s₁.setTop (mkF m 7 #[.val (.int p1), .unset, .unset, .unset] [(.int ((p1 &&& (2147483647 : Int32)) % (24 : Int32)))])) _
    rw [hk]
    show Steps p.tables e below (s₁.setTop (mkF m 7 #[.val (.int p1), .unset, .unset, .unset] [(.int (8 : Int32))])) _
    refine XS.istoreN X0.here hx rfl (hb hby at_7) rfl (l' := #[.val (.int p1), .val (.int (8 : Int32)), .unset, .unset]) rfl ?_
    show Steps p.tables e below (s₁.setTop (mkF m 8 #[.val (.int p1), .val (.int (8 : Int32)), .unset, .unset] [])) _
    refine XS.iloadN X0.here hx rfl (hb hby at_8) rfl ?_
    show Steps p.tables e below (s₁.setTop (mkF m 9 #[.val (.int p1), .val (.int (8 : Int32)), .unset, .unset] [(.int (8 : Int32))])) _
    refine st89 _ ?_
    show Steps p.tables e below (T89.setTop (mkF m 12 #[.val (.int p1), .val (.int (8 : Int32)), .unset, .unset] [(.ref w9)])) _
    refine XS.astoreN X89.here hx rfl (hb hby at_12) rfl rfl (l' := #[.val (.int p1), .val (.int (8 : Int32)), .val (.ref w9), .unset]) rfl ?_
    show Steps p.tables e below (T89.setTop (mkF m 13 #[.val (.int p1), .val (.int (8 : Int32)), .val (.ref w9), .unset] [])) _
    refine XS.iloadN X89.here hx rfl (hb hby at_13) rfl ?_
    show Steps p.tables e below (T89.setTop (mkF m 14 #[.val (.int p1), .val (.int (8 : Int32)), .val (.ref w9), .unset] [(.int (8 : Int32))])) _
    refine XT.bipushV X89.here hx rfl (8 : Int32) (hb hby at_14) (by decide) ?_
    show Steps p.tables e below (T89.setTop (mkF m 16 #[.val (.int p1), .val (.int (8 : Int32)), .val (.ref w9), .unset] [(.int (8 : Int32)), (.int (8 : Int32))])) _
    refine XS.icmpNo X89.here hx rfl (hb hby at_16) rfl (by decide) ?_
    show Steps p.tables e below (T89.setTop (mkF m 19 #[.val (.int p1), .val (.int (8 : Int32)), .val (.ref w9), .unset] [])) _
    refine XS.iloadN X89.here hx rfl (hb hby at_19) rfl ?_
    show Steps p.tables e below (T89.setTop (mkF m 20 #[.val (.int p1), .val (.int (8 : Int32)), .val (.ref w9), .unset] [(.int (8 : Int32))])) _
    refine XT.bipushV X89.here hx rfl (13 : Int32) (hb hby at_20) (by decide) ?_
    show Steps p.tables e below (T89.setTop (mkF m 22 #[.val (.int p1), .val (.int (8 : Int32)), .val (.ref w9), .unset] [(.int (13 : Int32)), (.int (8 : Int32))])) _
    refine XS.icmpNo X89.here hx rfl (hb hby at_22) rfl (by decide) ?_
    show Steps p.tables e below (T89.setTop (mkF m 25 #[.val (.int p1), .val (.int (8 : Int32)), .val (.ref w9), .unset] [])) _
    refine XT.iconstV X89.here hx rfl (1 : Int32) (hb hby at_25) rfl ?_
    show Steps p.tables e below (T89.setTop (mkF m 26 #[.val (.int p1), .val (.int (8 : Int32)), .val (.ref w9), .unset] [(.int (1 : Int32))])) _
    refine XS.goto X89.here hx rfl (pc0 := 26) (pc' := 30) rfl (hb hby at_26) (by decide) (by decide) ?_
    show Steps p.tables e below (T89.setTop (mkF m 30 #[.val (.int p1), .val (.int (8 : Int32)), .val (.ref w9), .unset] [(.int (1 : Int32))])) _
    refine XS.istoreN X89.here hx rfl (hb hby at_30) rfl (l' := #[.val (.int p1), .val (.int (8 : Int32)), .val (.ref w9), .val (.int (1 : Int32))]) rfl ?_
    show Steps p.tables e below (T89.setTop (mkF m 31 #[.val (.int p1), .val (.int (8 : Int32)), .val (.ref w9), .val (.int (1 : Int32))] [])) _
    refine XS.aloadN X89.here hx rfl (hb hby at_31) rfl rfl ?_
    show Steps p.tables e below (T89.setTop (mkF m 32 #[.val (.int p1), .val (.int (8 : Int32)), .val (.ref w9), .val (.int (1 : Int32))] [(.ref w9)])) _
    refine st90.trans ?_
    show Steps p.tables e below (T90.setTop (mkF m 35 #[.val (.int p1), .val (.int (8 : Int32)), .val (.ref w9), .val (.int (1 : Int32))] [(.int (1 : Int32))])) _
    refine XS.iloadN X90.here hx rfl (hb hby at_35) rfl ?_
    show Steps p.tables e below (T90.setTop (mkF m 36 #[.val (.int p1), .val (.int (8 : Int32)), .val (.ref w9), .val (.int (1 : Int32))] [(.int (1 : Int32)), (.int (1 : Int32))])) _
    refine XS.icmpNo X90.here hx rfl (hb hby at_36) rfl (by decide) ?_
    show Steps p.tables e below (T90.setTop (mkF m 39 #[.val (.int p1), .val (.int (8 : Int32)), .val (.ref w9), .val (.int (1 : Int32))] [])) _
    refine XT.iconstV X90.here hx rfl (1 : Int32) (hb hby at_39) rfl ?_
    show Steps p.tables e below (T90.setTop (mkF m 40 #[.val (.int p1), .val (.int (8 : Int32)), .val (.ref w9), .val (.int (1 : Int32))] [(.int (1 : Int32))])) _
    refine XS.goto X90.here hx rfl (pc0 := 40) (pc' := 44) rfl (hb hby at_40) (by decide) (by decide) ?_
    show Steps p.tables e below (T90.setTop (mkF m 44 #[.val (.int p1), .val (.int (8 : Int32)), .val (.ref w9), .val (.int (1 : Int32))] [(.int (1 : Int32))])) _
    exact retN X90 hx (t := .boolean) Bd.returns (by simp) (hb hby at_44) hr
  · show own_Q0 n0 _ T90.heap _
    exact ⟨rfl, N90⟩
set_option maxRecDepth 65536 in
set_option maxHeartbeats 40000000 in
theorem own_law_9 (l : Launch) (Z : State) (a0 : Array Value) (hw : ∀ d ∈ tables_1, d.before a0 Z = true) (ws : List Jvm.Cond) (p1 : Int32) (w0 w1 w2 w3 w4 w5 w6 w7 w8 w9 w10 w11 w12 w13 w14 w15 w16 w17 w18 w19 w20 w21 w22 w23 : Addr) (h0 : Heap) (n0 : Nat) (Z0 : n0 ≤ h0.size) (P : own_P Z h0 w0 w1 w2 w3 w4 w5 w6 w7 w8 w9 w10 w11 w12 w13 w14 w15 w16 w17 w18 w19 w20 w21 w22 w23) (hk : ((p1 &&& (2147483647 : Int32)) % (24 : Int32)) = (9 : Int32)) :
    MetFree l x (head1 (Jvm.Cond.code x code maxLocals ret :: ws) room_1) (fun a U => a = #[(.int p1)] ∧ Z.Warmed39 U.vm ∧ U.heap = h0) (fun _ _ _ _ _ => True) (fun _ U o U' => ∃ v L, o = .returned v ∧ own_Q0 n0 v U'.heap L ∧ FrameEnd U o U' L room_1.cells room_1.slots) := by
  refine MetFree.of_bodySF (plainFor_of_name pn_apportion_io_DataTypeIsDecimalPinLaw) hisR ?_
  intro p e s m args below meth c s₁ Bd hml0 hP hK
  obtain ⟨rfl, hZ, hh⟩ := hP
  have hx := Bd.exec
  have hby := Bd.bytes
  have hml : c.maxLocals = 4 := hml0
  have hown : s.vm.findClass "apportion/io/DataTypeIsDecimalPinLaw" = some m.cls := findClass_of_methodNamed Bd.named
  have hnm := (name_of_methodNamed Bd.named Bd.method).1
  have X0 : Stand p l e room_1 s m #[(.int p1)] below meth c s₁ [] 0 0 := Stand.of_body Bd
  have e0 : s₁.heap = h0 := by rw [← hh, Bd.state]; rfl
  have N0 := Fr.nil n0
  have pre0 : ∀ t, Steps p.tables e below (s₁.setTop (mkF m 0 #[.val (.int p1), .unset, .unset, .unset] [])) t → Steps p.tables e below (s₁.setTop (entryFrame m #[(.int p1)] maxLocals)) t := fun t k => castTop (ef_code_I m p1) k
  have P0 := P; obtain ⟨S0, E0, F0_ordinal, S1, E1, F1_ordinal, S2, E2, F2_ordinal, S3, E3, F3_ordinal, S4, E4, F4_ordinal, S5, E5, F5_ordinal, S6, E6, F6_ordinal, S7, E7, F7_ordinal, S8, E8, F8_ordinal, S9, E9, F9_ordinal, S10, E10, F10_ordinal, S11, E11, F11_ordinal, S12, E12, F12_ordinal, S13, E13, F13_ordinal, S14, E14, F14_ordinal, S15, E15, F15_ordinal, S16, E16, F16_ordinal, S17, E17, F17_ordinal, S18, E18, F18_ordinal, S19, E19, F19_ordinal, S20, E20, F20_ordinal, S21, E21, F21_ordinal, S22, E22, F22_ordinal, S23, E23, F23_ordinal⟩ := P0
  obtain ⟨_, _, ⟨T91, L91, k91, n91⟩, -, X91, ⟨Lc91, hQ91, l91, y91, z91⟩, st91⟩ := Jvm.LawKit.callS X0 hx (y := (⟨"apportion/io/DataTypeIsDecimalPinLaw", "pick", "(I)Lapportion/io/DataType;"⟩ : MethodName)) hown (mvT hZ (hw _ (List.mem_of_getElem? (i := 1) rfl))) (mvT hZ (hw _ (List.mem_of_getElem? (i := 2) rfl))) (mvT hZ (hw _ (List.mem_of_getElem? (i := 3) rfl))) (mvT hZ (hw _ (List.mem_of_getElem? (i := 4) rfl))) (by decide) (backOf (W := 0) (own_pick_9 l Z a0 hw [] w0 w1 w2 w3 w4 w5 w6 w7 w8 w9 w10 w11 w12 w13 w14 w15 w16 w17 w18 w19 w20 w21 w22 w23 h0 n0 Z0 P) hZ (hw _ (List.mem_of_getElem? (i := 4) rfl)) (hw _ (List.mem_of_getElem? (i := 3) rfl)) (by decide) (by decide)) (g := (mkF m 9 #[.val (.int p1), .val (.int (9 : Int32)), .unset, .unset] [(.int (9 : Int32))])) rfl (by rw [hml]; rfl) (argsL := [(.int (9 : Int32))]) (rest := []) (lenOf pd__I_Lapportion_io_DataType_ rfl) rfl (by show 2 * 0 + _ ≤ _; exact Nat.le_of_eq rfl) (hb hby at_9) (fun _ _ => ⟨rfl, e0, (by decide : 0 + 0 ≤ _), (by decide : 0 + 0 ≤ _)⟩)
  dsimp only [Pt.U, Pt.locs, Pt.cells, Pt.slots] at X91 l91 y91 z91 st91 hQ91
  subst l91 y91 z91
  obtain ⟨rfl, N91q, e91⟩ := hQ91
  have N91 := Fr.app N0 N91q
  obtain ⟨cq92, kq92, q92a, q92b, q92c⟩ := isOf hZ e91 E13
  obtain ⟨_, _, ⟨T92, L92, k92, n92⟩, -, X92, ⟨Lc92, hQ92, l92, y92, z92⟩, st92⟩ := X91.virtualBack hx (y := (⟨"apportion/io/DataType", "isDecimal", "()Z"⟩ : MethodName)) (z := (⟨"apportion/io/DataType", "isDecimal", "()Z"⟩ : MethodName)) hown (mvT hZ (hw _ (List.mem_of_getElem? (i := 8) rfl))) (mvT hZ (hw _ (List.mem_of_getElem? (i := 9) rfl))) (notFace_of_selects (args := #[]) (mvT hZ (hw _ (List.mem_of_getElem? (i := 11) rfl)))) (mvT hZ (hw _ (List.mem_of_getElem? (i := 11) rfl))) (mvT hZ (hw _ (List.mem_of_getElem? (i := 10) rfl))) (by decide) (backOf (W := 0) (own_isDecimal_13 l Z a0 hw [] w0 w1 w2 w3 w4 w5 w6 w7 w8 w9 w10 w11 w12 w13 w14 w15 w16 w17 w18 w19 w20 w21 w22 w23 h0 n0 Z0 P) hZ (hw _ (List.mem_of_getElem? (i := 12) rfl)) (hw _ (List.mem_of_getElem? (i := 6) rfl)) (by decide) (by decide)) q92a q92c (g := (mkF m 32 #[.val (.int p1), .val (.int (9 : Int32)), .val (.ref w13), .val (.int (1 : Int32))] [(.ref w13)])) rfl (by rw [hml]; rfl) (Steps.refl _) (argsL := []) (rest := []) (lenOf pd___Z rfl) rfl (by show 2 * 0 + _ ≤ _; exact Nat.le_of_eq rfl) (hb hby at_32) (fun _ _ => ⟨rfl, e91, (by decide : 0 + 0 ≤ _), (by decide : 0 + 0 ≤ _)⟩)
  dsimp only [Pt.U, Pt.locs, Pt.cells, Pt.slots] at X92 l92 y92 z92 st92 hQ92
  subst l92 y92 z92
  obtain ⟨rfl, N92q, e92⟩ := hQ92
  have N92 := Fr.app N91 N92q
  obtain ⟨fs, hr, hrun, hended, hW, hsame⟩ := X92.leave (v := some (.int (1 : Int32))) (fun h => by rw [Bd.returns] at h; cases h)
  refine ⟨_, _, pre0 _ ?_, hrun, hended, _, _, rfl, ?_, ⟨_, rfl⟩, hW, hsame.mono (by decide) (by decide)⟩
  · show Steps p.tables e below (s₁.setTop (mkF m 0 #[.val (.int p1), .unset, .unset, .unset] [])) _
    refine XS.iloadN X0.here hx rfl (hb hby at_0) rfl ?_
    show Steps p.tables e below (s₁.setTop (mkF m 1 #[.val (.int p1), .unset, .unset, .unset] [(.int p1)])) _
    refine Jvm.Stand.ldcI X0 hx hown (mvT hZ (hw _ (List.mem_of_getElem? (i := 0) rfl))) rfl (hb hby at_1) ?_
    show Steps p.tables e below (s₁.setTop (mkF m 3 #[.val (.int p1), .unset, .unset, .unset] [(.int (2147483647 : Int32)), (.int p1)])) _
    refine XS.iand X0.here hx rfl (hb hby at_3) rfl ?_
    show Steps p.tables e below (s₁.setTop (mkF m 4 #[.val (.int p1), .unset, .unset, .unset] [(.int (p1 &&& (2147483647 : Int32)))])) _
    refine XT.bipushV X0.here hx rfl (24 : Int32) (hb hby at_4) (by decide) ?_
    show Steps p.tables e below (s₁.setTop (mkF m 6 #[.val (.int p1), .unset, .unset, .unset] [(.int (24 : Int32)), (.int (p1 &&& (2147483647 : Int32)))])) _
    refine iremM X0 hx rfl (hb hby at_6) rfl (by decide) ?_
    show Steps p.tables e below (s₁.setTop (mkF m 7 #[.val (.int p1), .unset, .unset, .unset] [(.int ((p1 &&& (2147483647 : Int32)) % (24 : Int32)))])) _
    rw [hk]
    show Steps p.tables e below (s₁.setTop (mkF m 7 #[.val (.int p1), .unset, .unset, .unset] [(.int (9 : Int32))])) _
    refine XS.istoreN X0.here hx rfl (hb hby at_7) rfl (l' := #[.val (.int p1), .val (.int (9 : Int32)), .unset, .unset]) rfl ?_
    show Steps p.tables e below (s₁.setTop (mkF m 8 #[.val (.int p1), .val (.int (9 : Int32)), .unset, .unset] [])) _
    refine XS.iloadN X0.here hx rfl (hb hby at_8) rfl ?_
    show Steps p.tables e below (s₁.setTop (mkF m 9 #[.val (.int p1), .val (.int (9 : Int32)), .unset, .unset] [(.int (9 : Int32))])) _
    refine st91 _ ?_
    show Steps p.tables e below (T91.setTop (mkF m 12 #[.val (.int p1), .val (.int (9 : Int32)), .unset, .unset] [(.ref w13)])) _
    refine XS.astoreN X91.here hx rfl (hb hby at_12) rfl rfl (l' := #[.val (.int p1), .val (.int (9 : Int32)), .val (.ref w13), .unset]) rfl ?_
    show Steps p.tables e below (T91.setTop (mkF m 13 #[.val (.int p1), .val (.int (9 : Int32)), .val (.ref w13), .unset] [])) _
    refine XS.iloadN X91.here hx rfl (hb hby at_13) rfl ?_
    show Steps p.tables e below (T91.setTop (mkF m 14 #[.val (.int p1), .val (.int (9 : Int32)), .val (.ref w13), .unset] [(.int (9 : Int32))])) _
    refine XT.bipushV X91.here hx rfl (8 : Int32) (hb hby at_14) (by decide) ?_
    show Steps p.tables e below (T91.setTop (mkF m 16 #[.val (.int p1), .val (.int (9 : Int32)), .val (.ref w13), .unset] [(.int (8 : Int32)), (.int (9 : Int32))])) _
    refine XS.icmpNo X91.here hx rfl (hb hby at_16) rfl (by decide) ?_
    show Steps p.tables e below (T91.setTop (mkF m 19 #[.val (.int p1), .val (.int (9 : Int32)), .val (.ref w13), .unset] [])) _
    refine XS.iloadN X91.here hx rfl (hb hby at_19) rfl ?_
    show Steps p.tables e below (T91.setTop (mkF m 20 #[.val (.int p1), .val (.int (9 : Int32)), .val (.ref w13), .unset] [(.int (9 : Int32))])) _
    refine XT.bipushV X91.here hx rfl (13 : Int32) (hb hby at_20) (by decide) ?_
    show Steps p.tables e below (T91.setTop (mkF m 22 #[.val (.int p1), .val (.int (9 : Int32)), .val (.ref w13), .unset] [(.int (13 : Int32)), (.int (9 : Int32))])) _
    refine XS.icmpNo X91.here hx rfl (hb hby at_22) rfl (by decide) ?_
    show Steps p.tables e below (T91.setTop (mkF m 25 #[.val (.int p1), .val (.int (9 : Int32)), .val (.ref w13), .unset] [])) _
    refine XT.iconstV X91.here hx rfl (1 : Int32) (hb hby at_25) rfl ?_
    show Steps p.tables e below (T91.setTop (mkF m 26 #[.val (.int p1), .val (.int (9 : Int32)), .val (.ref w13), .unset] [(.int (1 : Int32))])) _
    refine XS.goto X91.here hx rfl (pc0 := 26) (pc' := 30) rfl (hb hby at_26) (by decide) (by decide) ?_
    show Steps p.tables e below (T91.setTop (mkF m 30 #[.val (.int p1), .val (.int (9 : Int32)), .val (.ref w13), .unset] [(.int (1 : Int32))])) _
    refine XS.istoreN X91.here hx rfl (hb hby at_30) rfl (l' := #[.val (.int p1), .val (.int (9 : Int32)), .val (.ref w13), .val (.int (1 : Int32))]) rfl ?_
    show Steps p.tables e below (T91.setTop (mkF m 31 #[.val (.int p1), .val (.int (9 : Int32)), .val (.ref w13), .val (.int (1 : Int32))] [])) _
    refine XS.aloadN X91.here hx rfl (hb hby at_31) rfl rfl ?_
    show Steps p.tables e below (T91.setTop (mkF m 32 #[.val (.int p1), .val (.int (9 : Int32)), .val (.ref w13), .val (.int (1 : Int32))] [(.ref w13)])) _
    refine st92.trans ?_
    show Steps p.tables e below (T92.setTop (mkF m 35 #[.val (.int p1), .val (.int (9 : Int32)), .val (.ref w13), .val (.int (1 : Int32))] [(.int (1 : Int32))])) _
    refine XS.iloadN X92.here hx rfl (hb hby at_35) rfl ?_
    show Steps p.tables e below (T92.setTop (mkF m 36 #[.val (.int p1), .val (.int (9 : Int32)), .val (.ref w13), .val (.int (1 : Int32))] [(.int (1 : Int32)), (.int (1 : Int32))])) _
    refine XS.icmpNo X92.here hx rfl (hb hby at_36) rfl (by decide) ?_
    show Steps p.tables e below (T92.setTop (mkF m 39 #[.val (.int p1), .val (.int (9 : Int32)), .val (.ref w13), .val (.int (1 : Int32))] [])) _
    refine XT.iconstV X92.here hx rfl (1 : Int32) (hb hby at_39) rfl ?_
    show Steps p.tables e below (T92.setTop (mkF m 40 #[.val (.int p1), .val (.int (9 : Int32)), .val (.ref w13), .val (.int (1 : Int32))] [(.int (1 : Int32))])) _
    refine XS.goto X92.here hx rfl (pc0 := 40) (pc' := 44) rfl (hb hby at_40) (by decide) (by decide) ?_
    show Steps p.tables e below (T92.setTop (mkF m 44 #[.val (.int p1), .val (.int (9 : Int32)), .val (.ref w13), .val (.int (1 : Int32))] [(.int (1 : Int32))])) _
    exact retN X92 hx (t := .boolean) Bd.returns (by simp) (hb hby at_44) hr
  · show own_Q0 n0 _ T92.heap _
    exact ⟨rfl, N92⟩
set_option maxRecDepth 65536 in
set_option maxHeartbeats 40000000 in
theorem own_law_10 (l : Launch) (Z : State) (a0 : Array Value) (hw : ∀ d ∈ tables_1, d.before a0 Z = true) (ws : List Jvm.Cond) (p1 : Int32) (w0 w1 w2 w3 w4 w5 w6 w7 w8 w9 w10 w11 w12 w13 w14 w15 w16 w17 w18 w19 w20 w21 w22 w23 : Addr) (h0 : Heap) (n0 : Nat) (Z0 : n0 ≤ h0.size) (P : own_P Z h0 w0 w1 w2 w3 w4 w5 w6 w7 w8 w9 w10 w11 w12 w13 w14 w15 w16 w17 w18 w19 w20 w21 w22 w23) (hk : ((p1 &&& (2147483647 : Int32)) % (24 : Int32)) = (10 : Int32)) :
    MetFree l x (head1 (Jvm.Cond.code x code maxLocals ret :: ws) room_1) (fun a U => a = #[(.int p1)] ∧ Z.Warmed39 U.vm ∧ U.heap = h0) (fun _ _ _ _ _ => True) (fun _ U o U' => ∃ v L, o = .returned v ∧ own_Q0 n0 v U'.heap L ∧ FrameEnd U o U' L room_1.cells room_1.slots) := by
  refine MetFree.of_bodySF (plainFor_of_name pn_apportion_io_DataTypeIsDecimalPinLaw) hisR ?_
  intro p e s m args below meth c s₁ Bd hml0 hP hK
  obtain ⟨rfl, hZ, hh⟩ := hP
  have hx := Bd.exec
  have hby := Bd.bytes
  have hml : c.maxLocals = 4 := hml0
  have hown : s.vm.findClass "apportion/io/DataTypeIsDecimalPinLaw" = some m.cls := findClass_of_methodNamed Bd.named
  have hnm := (name_of_methodNamed Bd.named Bd.method).1
  have X0 : Stand p l e room_1 s m #[(.int p1)] below meth c s₁ [] 0 0 := Stand.of_body Bd
  have e0 : s₁.heap = h0 := by rw [← hh, Bd.state]; rfl
  have N0 := Fr.nil n0
  have pre0 : ∀ t, Steps p.tables e below (s₁.setTop (mkF m 0 #[.val (.int p1), .unset, .unset, .unset] [])) t → Steps p.tables e below (s₁.setTop (entryFrame m #[(.int p1)] maxLocals)) t := fun t k => castTop (ef_code_I m p1) k
  have P0 := P; obtain ⟨S0, E0, F0_ordinal, S1, E1, F1_ordinal, S2, E2, F2_ordinal, S3, E3, F3_ordinal, S4, E4, F4_ordinal, S5, E5, F5_ordinal, S6, E6, F6_ordinal, S7, E7, F7_ordinal, S8, E8, F8_ordinal, S9, E9, F9_ordinal, S10, E10, F10_ordinal, S11, E11, F11_ordinal, S12, E12, F12_ordinal, S13, E13, F13_ordinal, S14, E14, F14_ordinal, S15, E15, F15_ordinal, S16, E16, F16_ordinal, S17, E17, F17_ordinal, S18, E18, F18_ordinal, S19, E19, F19_ordinal, S20, E20, F20_ordinal, S21, E21, F21_ordinal, S22, E22, F22_ordinal, S23, E23, F23_ordinal⟩ := P0
  obtain ⟨_, _, ⟨T93, L93, k93, n93⟩, -, X93, ⟨Lc93, hQ93, l93, y93, z93⟩, st93⟩ := Jvm.LawKit.callS X0 hx (y := (⟨"apportion/io/DataTypeIsDecimalPinLaw", "pick", "(I)Lapportion/io/DataType;"⟩ : MethodName)) hown (mvT hZ (hw _ (List.mem_of_getElem? (i := 1) rfl))) (mvT hZ (hw _ (List.mem_of_getElem? (i := 2) rfl))) (mvT hZ (hw _ (List.mem_of_getElem? (i := 3) rfl))) (mvT hZ (hw _ (List.mem_of_getElem? (i := 4) rfl))) (by decide) (backOf (W := 0) (own_pick_10 l Z a0 hw [] w0 w1 w2 w3 w4 w5 w6 w7 w8 w9 w10 w11 w12 w13 w14 w15 w16 w17 w18 w19 w20 w21 w22 w23 h0 n0 Z0 P) hZ (hw _ (List.mem_of_getElem? (i := 4) rfl)) (hw _ (List.mem_of_getElem? (i := 3) rfl)) (by decide) (by decide)) (g := (mkF m 9 #[.val (.int p1), .val (.int (10 : Int32)), .unset, .unset] [(.int (10 : Int32))])) rfl (by rw [hml]; rfl) (argsL := [(.int (10 : Int32))]) (rest := []) (lenOf pd__I_Lapportion_io_DataType_ rfl) rfl (by show 2 * 0 + _ ≤ _; exact Nat.le_of_eq rfl) (hb hby at_9) (fun _ _ => ⟨rfl, e0, (by decide : 0 + 0 ≤ _), (by decide : 0 + 0 ≤ _)⟩)
  dsimp only [Pt.U, Pt.locs, Pt.cells, Pt.slots] at X93 l93 y93 z93 st93 hQ93
  subst l93 y93 z93
  obtain ⟨rfl, N93q, e93⟩ := hQ93
  have N93 := Fr.app N0 N93q
  obtain ⟨cq94, kq94, q94a, q94b, q94c⟩ := isOf hZ e93 E12
  obtain ⟨_, _, ⟨T94, L94, k94, n94⟩, -, X94, ⟨Lc94, hQ94, l94, y94, z94⟩, st94⟩ := X93.virtualBack hx (y := (⟨"apportion/io/DataType", "isDecimal", "()Z"⟩ : MethodName)) (z := (⟨"apportion/io/DataType", "isDecimal", "()Z"⟩ : MethodName)) hown (mvT hZ (hw _ (List.mem_of_getElem? (i := 8) rfl))) (mvT hZ (hw _ (List.mem_of_getElem? (i := 9) rfl))) (notFace_of_selects (args := #[]) (mvT hZ (hw _ (List.mem_of_getElem? (i := 11) rfl)))) (mvT hZ (hw _ (List.mem_of_getElem? (i := 11) rfl))) (mvT hZ (hw _ (List.mem_of_getElem? (i := 10) rfl))) (by decide) (backOf (W := 0) (own_isDecimal_12 l Z a0 hw [] w0 w1 w2 w3 w4 w5 w6 w7 w8 w9 w10 w11 w12 w13 w14 w15 w16 w17 w18 w19 w20 w21 w22 w23 h0 n0 Z0 P) hZ (hw _ (List.mem_of_getElem? (i := 12) rfl)) (hw _ (List.mem_of_getElem? (i := 6) rfl)) (by decide) (by decide)) q94a q94c (g := (mkF m 32 #[.val (.int p1), .val (.int (10 : Int32)), .val (.ref w12), .val (.int (1 : Int32))] [(.ref w12)])) rfl (by rw [hml]; rfl) (Steps.refl _) (argsL := []) (rest := []) (lenOf pd___Z rfl) rfl (by show 2 * 0 + _ ≤ _; exact Nat.le_of_eq rfl) (hb hby at_32) (fun _ _ => ⟨rfl, e93, (by decide : 0 + 0 ≤ _), (by decide : 0 + 0 ≤ _)⟩)
  dsimp only [Pt.U, Pt.locs, Pt.cells, Pt.slots] at X94 l94 y94 z94 st94 hQ94
  subst l94 y94 z94
  obtain ⟨rfl, N94q, e94⟩ := hQ94
  have N94 := Fr.app N93 N94q
  obtain ⟨fs, hr, hrun, hended, hW, hsame⟩ := X94.leave (v := some (.int (1 : Int32))) (fun h => by rw [Bd.returns] at h; cases h)
  refine ⟨_, _, pre0 _ ?_, hrun, hended, _, _, rfl, ?_, ⟨_, rfl⟩, hW, hsame.mono (by decide) (by decide)⟩
  · show Steps p.tables e below (s₁.setTop (mkF m 0 #[.val (.int p1), .unset, .unset, .unset] [])) _
    refine XS.iloadN X0.here hx rfl (hb hby at_0) rfl ?_
    show Steps p.tables e below (s₁.setTop (mkF m 1 #[.val (.int p1), .unset, .unset, .unset] [(.int p1)])) _
    refine Jvm.Stand.ldcI X0 hx hown (mvT hZ (hw _ (List.mem_of_getElem? (i := 0) rfl))) rfl (hb hby at_1) ?_
    show Steps p.tables e below (s₁.setTop (mkF m 3 #[.val (.int p1), .unset, .unset, .unset] [(.int (2147483647 : Int32)), (.int p1)])) _
    refine XS.iand X0.here hx rfl (hb hby at_3) rfl ?_
    show Steps p.tables e below (s₁.setTop (mkF m 4 #[.val (.int p1), .unset, .unset, .unset] [(.int (p1 &&& (2147483647 : Int32)))])) _
    refine XT.bipushV X0.here hx rfl (24 : Int32) (hb hby at_4) (by decide) ?_
    show Steps p.tables e below (s₁.setTop (mkF m 6 #[.val (.int p1), .unset, .unset, .unset] [(.int (24 : Int32)), (.int (p1 &&& (2147483647 : Int32)))])) _
    refine iremM X0 hx rfl (hb hby at_6) rfl (by decide) ?_
    show Steps p.tables e below (s₁.setTop (mkF m 7 #[.val (.int p1), .unset, .unset, .unset] [(.int ((p1 &&& (2147483647 : Int32)) % (24 : Int32)))])) _
    rw [hk]
    show Steps p.tables e below (s₁.setTop (mkF m 7 #[.val (.int p1), .unset, .unset, .unset] [(.int (10 : Int32))])) _
    refine XS.istoreN X0.here hx rfl (hb hby at_7) rfl (l' := #[.val (.int p1), .val (.int (10 : Int32)), .unset, .unset]) rfl ?_
    show Steps p.tables e below (s₁.setTop (mkF m 8 #[.val (.int p1), .val (.int (10 : Int32)), .unset, .unset] [])) _
    refine XS.iloadN X0.here hx rfl (hb hby at_8) rfl ?_
    show Steps p.tables e below (s₁.setTop (mkF m 9 #[.val (.int p1), .val (.int (10 : Int32)), .unset, .unset] [(.int (10 : Int32))])) _
    refine st93 _ ?_
    show Steps p.tables e below (T93.setTop (mkF m 12 #[.val (.int p1), .val (.int (10 : Int32)), .unset, .unset] [(.ref w12)])) _
    refine XS.astoreN X93.here hx rfl (hb hby at_12) rfl rfl (l' := #[.val (.int p1), .val (.int (10 : Int32)), .val (.ref w12), .unset]) rfl ?_
    show Steps p.tables e below (T93.setTop (mkF m 13 #[.val (.int p1), .val (.int (10 : Int32)), .val (.ref w12), .unset] [])) _
    refine XS.iloadN X93.here hx rfl (hb hby at_13) rfl ?_
    show Steps p.tables e below (T93.setTop (mkF m 14 #[.val (.int p1), .val (.int (10 : Int32)), .val (.ref w12), .unset] [(.int (10 : Int32))])) _
    refine XT.bipushV X93.here hx rfl (8 : Int32) (hb hby at_14) (by decide) ?_
    show Steps p.tables e below (T93.setTop (mkF m 16 #[.val (.int p1), .val (.int (10 : Int32)), .val (.ref w12), .unset] [(.int (8 : Int32)), (.int (10 : Int32))])) _
    refine XS.icmpNo X93.here hx rfl (hb hby at_16) rfl (by decide) ?_
    show Steps p.tables e below (T93.setTop (mkF m 19 #[.val (.int p1), .val (.int (10 : Int32)), .val (.ref w12), .unset] [])) _
    refine XS.iloadN X93.here hx rfl (hb hby at_19) rfl ?_
    show Steps p.tables e below (T93.setTop (mkF m 20 #[.val (.int p1), .val (.int (10 : Int32)), .val (.ref w12), .unset] [(.int (10 : Int32))])) _
    refine XT.bipushV X93.here hx rfl (13 : Int32) (hb hby at_20) (by decide) ?_
    show Steps p.tables e below (T93.setTop (mkF m 22 #[.val (.int p1), .val (.int (10 : Int32)), .val (.ref w12), .unset] [(.int (13 : Int32)), (.int (10 : Int32))])) _
    refine XS.icmpNo X93.here hx rfl (hb hby at_22) rfl (by decide) ?_
    show Steps p.tables e below (T93.setTop (mkF m 25 #[.val (.int p1), .val (.int (10 : Int32)), .val (.ref w12), .unset] [])) _
    refine XT.iconstV X93.here hx rfl (1 : Int32) (hb hby at_25) rfl ?_
    show Steps p.tables e below (T93.setTop (mkF m 26 #[.val (.int p1), .val (.int (10 : Int32)), .val (.ref w12), .unset] [(.int (1 : Int32))])) _
    refine XS.goto X93.here hx rfl (pc0 := 26) (pc' := 30) rfl (hb hby at_26) (by decide) (by decide) ?_
    show Steps p.tables e below (T93.setTop (mkF m 30 #[.val (.int p1), .val (.int (10 : Int32)), .val (.ref w12), .unset] [(.int (1 : Int32))])) _
    refine XS.istoreN X93.here hx rfl (hb hby at_30) rfl (l' := #[.val (.int p1), .val (.int (10 : Int32)), .val (.ref w12), .val (.int (1 : Int32))]) rfl ?_
    show Steps p.tables e below (T93.setTop (mkF m 31 #[.val (.int p1), .val (.int (10 : Int32)), .val (.ref w12), .val (.int (1 : Int32))] [])) _
    refine XS.aloadN X93.here hx rfl (hb hby at_31) rfl rfl ?_
    show Steps p.tables e below (T93.setTop (mkF m 32 #[.val (.int p1), .val (.int (10 : Int32)), .val (.ref w12), .val (.int (1 : Int32))] [(.ref w12)])) _
    refine st94.trans ?_
    show Steps p.tables e below (T94.setTop (mkF m 35 #[.val (.int p1), .val (.int (10 : Int32)), .val (.ref w12), .val (.int (1 : Int32))] [(.int (1 : Int32))])) _
    refine XS.iloadN X94.here hx rfl (hb hby at_35) rfl ?_
    show Steps p.tables e below (T94.setTop (mkF m 36 #[.val (.int p1), .val (.int (10 : Int32)), .val (.ref w12), .val (.int (1 : Int32))] [(.int (1 : Int32)), (.int (1 : Int32))])) _
    refine XS.icmpNo X94.here hx rfl (hb hby at_36) rfl (by decide) ?_
    show Steps p.tables e below (T94.setTop (mkF m 39 #[.val (.int p1), .val (.int (10 : Int32)), .val (.ref w12), .val (.int (1 : Int32))] [])) _
    refine XT.iconstV X94.here hx rfl (1 : Int32) (hb hby at_39) rfl ?_
    show Steps p.tables e below (T94.setTop (mkF m 40 #[.val (.int p1), .val (.int (10 : Int32)), .val (.ref w12), .val (.int (1 : Int32))] [(.int (1 : Int32))])) _
    refine XS.goto X94.here hx rfl (pc0 := 40) (pc' := 44) rfl (hb hby at_40) (by decide) (by decide) ?_
    show Steps p.tables e below (T94.setTop (mkF m 44 #[.val (.int p1), .val (.int (10 : Int32)), .val (.ref w12), .val (.int (1 : Int32))] [(.int (1 : Int32))])) _
    exact retN X94 hx (t := .boolean) Bd.returns (by simp) (hb hby at_44) hr
  · show own_Q0 n0 _ T94.heap _
    exact ⟨rfl, N94⟩
set_option maxRecDepth 65536 in
set_option maxHeartbeats 40000000 in
theorem own_law_11 (l : Launch) (Z : State) (a0 : Array Value) (hw : ∀ d ∈ tables_1, d.before a0 Z = true) (ws : List Jvm.Cond) (p1 : Int32) (w0 w1 w2 w3 w4 w5 w6 w7 w8 w9 w10 w11 w12 w13 w14 w15 w16 w17 w18 w19 w20 w21 w22 w23 : Addr) (h0 : Heap) (n0 : Nat) (Z0 : n0 ≤ h0.size) (P : own_P Z h0 w0 w1 w2 w3 w4 w5 w6 w7 w8 w9 w10 w11 w12 w13 w14 w15 w16 w17 w18 w19 w20 w21 w22 w23) (hk : ((p1 &&& (2147483647 : Int32)) % (24 : Int32)) = (11 : Int32)) :
    MetFree l x (head1 (Jvm.Cond.code x code maxLocals ret :: ws) room_1) (fun a U => a = #[(.int p1)] ∧ Z.Warmed39 U.vm ∧ U.heap = h0) (fun _ _ _ _ _ => True) (fun _ U o U' => ∃ v L, o = .returned v ∧ own_Q0 n0 v U'.heap L ∧ FrameEnd U o U' L room_1.cells room_1.slots) := by
  refine MetFree.of_bodySF (plainFor_of_name pn_apportion_io_DataTypeIsDecimalPinLaw) hisR ?_
  intro p e s m args below meth c s₁ Bd hml0 hP hK
  obtain ⟨rfl, hZ, hh⟩ := hP
  have hx := Bd.exec
  have hby := Bd.bytes
  have hml : c.maxLocals = 4 := hml0
  have hown : s.vm.findClass "apportion/io/DataTypeIsDecimalPinLaw" = some m.cls := findClass_of_methodNamed Bd.named
  have hnm := (name_of_methodNamed Bd.named Bd.method).1
  have X0 : Stand p l e room_1 s m #[(.int p1)] below meth c s₁ [] 0 0 := Stand.of_body Bd
  have e0 : s₁.heap = h0 := by rw [← hh, Bd.state]; rfl
  have N0 := Fr.nil n0
  have pre0 : ∀ t, Steps p.tables e below (s₁.setTop (mkF m 0 #[.val (.int p1), .unset, .unset, .unset] [])) t → Steps p.tables e below (s₁.setTop (entryFrame m #[(.int p1)] maxLocals)) t := fun t k => castTop (ef_code_I m p1) k
  have P0 := P; obtain ⟨S0, E0, F0_ordinal, S1, E1, F1_ordinal, S2, E2, F2_ordinal, S3, E3, F3_ordinal, S4, E4, F4_ordinal, S5, E5, F5_ordinal, S6, E6, F6_ordinal, S7, E7, F7_ordinal, S8, E8, F8_ordinal, S9, E9, F9_ordinal, S10, E10, F10_ordinal, S11, E11, F11_ordinal, S12, E12, F12_ordinal, S13, E13, F13_ordinal, S14, E14, F14_ordinal, S15, E15, F15_ordinal, S16, E16, F16_ordinal, S17, E17, F17_ordinal, S18, E18, F18_ordinal, S19, E19, F19_ordinal, S20, E20, F20_ordinal, S21, E21, F21_ordinal, S22, E22, F22_ordinal, S23, E23, F23_ordinal⟩ := P0
  obtain ⟨_, _, ⟨T95, L95, k95, n95⟩, -, X95, ⟨Lc95, hQ95, l95, y95, z95⟩, st95⟩ := Jvm.LawKit.callS X0 hx (y := (⟨"apportion/io/DataTypeIsDecimalPinLaw", "pick", "(I)Lapportion/io/DataType;"⟩ : MethodName)) hown (mvT hZ (hw _ (List.mem_of_getElem? (i := 1) rfl))) (mvT hZ (hw _ (List.mem_of_getElem? (i := 2) rfl))) (mvT hZ (hw _ (List.mem_of_getElem? (i := 3) rfl))) (mvT hZ (hw _ (List.mem_of_getElem? (i := 4) rfl))) (by decide) (backOf (W := 0) (own_pick_11 l Z a0 hw [] w0 w1 w2 w3 w4 w5 w6 w7 w8 w9 w10 w11 w12 w13 w14 w15 w16 w17 w18 w19 w20 w21 w22 w23 h0 n0 Z0 P) hZ (hw _ (List.mem_of_getElem? (i := 4) rfl)) (hw _ (List.mem_of_getElem? (i := 3) rfl)) (by decide) (by decide)) (g := (mkF m 9 #[.val (.int p1), .val (.int (11 : Int32)), .unset, .unset] [(.int (11 : Int32))])) rfl (by rw [hml]; rfl) (argsL := [(.int (11 : Int32))]) (rest := []) (lenOf pd__I_Lapportion_io_DataType_ rfl) rfl (by show 2 * 0 + _ ≤ _; exact Nat.le_of_eq rfl) (hb hby at_9) (fun _ _ => ⟨rfl, e0, (by decide : 0 + 0 ≤ _), (by decide : 0 + 0 ≤ _)⟩)
  dsimp only [Pt.U, Pt.locs, Pt.cells, Pt.slots] at X95 l95 y95 z95 st95 hQ95
  subst l95 y95 z95
  obtain ⟨rfl, N95q, e95⟩ := hQ95
  have N95 := Fr.app N0 N95q
  obtain ⟨cq96, kq96, q96a, q96b, q96c⟩ := isOf hZ e95 E7
  obtain ⟨_, _, ⟨T96, L96, k96, n96⟩, -, X96, ⟨Lc96, hQ96, l96, y96, z96⟩, st96⟩ := X95.virtualBack hx (y := (⟨"apportion/io/DataType", "isDecimal", "()Z"⟩ : MethodName)) (z := (⟨"apportion/io/DataType", "isDecimal", "()Z"⟩ : MethodName)) hown (mvT hZ (hw _ (List.mem_of_getElem? (i := 8) rfl))) (mvT hZ (hw _ (List.mem_of_getElem? (i := 9) rfl))) (notFace_of_selects (args := #[]) (mvT hZ (hw _ (List.mem_of_getElem? (i := 11) rfl)))) (mvT hZ (hw _ (List.mem_of_getElem? (i := 11) rfl))) (mvT hZ (hw _ (List.mem_of_getElem? (i := 10) rfl))) (by decide) (backOf (W := 0) (own_isDecimal_7 l Z a0 hw [] w0 w1 w2 w3 w4 w5 w6 w7 w8 w9 w10 w11 w12 w13 w14 w15 w16 w17 w18 w19 w20 w21 w22 w23 h0 n0 Z0 P) hZ (hw _ (List.mem_of_getElem? (i := 12) rfl)) (hw _ (List.mem_of_getElem? (i := 6) rfl)) (by decide) (by decide)) q96a q96c (g := (mkF m 32 #[.val (.int p1), .val (.int (11 : Int32)), .val (.ref w7), .val (.int (1 : Int32))] [(.ref w7)])) rfl (by rw [hml]; rfl) (Steps.refl _) (argsL := []) (rest := []) (lenOf pd___Z rfl) rfl (by show 2 * 0 + _ ≤ _; exact Nat.le_of_eq rfl) (hb hby at_32) (fun _ _ => ⟨rfl, e95, (by decide : 0 + 0 ≤ _), (by decide : 0 + 0 ≤ _)⟩)
  dsimp only [Pt.U, Pt.locs, Pt.cells, Pt.slots] at X96 l96 y96 z96 st96 hQ96
  subst l96 y96 z96
  obtain ⟨rfl, N96q, e96⟩ := hQ96
  have N96 := Fr.app N95 N96q
  obtain ⟨fs, hr, hrun, hended, hW, hsame⟩ := X96.leave (v := some (.int (1 : Int32))) (fun h => by rw [Bd.returns] at h; cases h)
  refine ⟨_, _, pre0 _ ?_, hrun, hended, _, _, rfl, ?_, ⟨_, rfl⟩, hW, hsame.mono (by decide) (by decide)⟩
  · show Steps p.tables e below (s₁.setTop (mkF m 0 #[.val (.int p1), .unset, .unset, .unset] [])) _
    refine XS.iloadN X0.here hx rfl (hb hby at_0) rfl ?_
    show Steps p.tables e below (s₁.setTop (mkF m 1 #[.val (.int p1), .unset, .unset, .unset] [(.int p1)])) _
    refine Jvm.Stand.ldcI X0 hx hown (mvT hZ (hw _ (List.mem_of_getElem? (i := 0) rfl))) rfl (hb hby at_1) ?_
    show Steps p.tables e below (s₁.setTop (mkF m 3 #[.val (.int p1), .unset, .unset, .unset] [(.int (2147483647 : Int32)), (.int p1)])) _
    refine XS.iand X0.here hx rfl (hb hby at_3) rfl ?_
    show Steps p.tables e below (s₁.setTop (mkF m 4 #[.val (.int p1), .unset, .unset, .unset] [(.int (p1 &&& (2147483647 : Int32)))])) _
    refine XT.bipushV X0.here hx rfl (24 : Int32) (hb hby at_4) (by decide) ?_
    show Steps p.tables e below (s₁.setTop (mkF m 6 #[.val (.int p1), .unset, .unset, .unset] [(.int (24 : Int32)), (.int (p1 &&& (2147483647 : Int32)))])) _
    refine iremM X0 hx rfl (hb hby at_6) rfl (by decide) ?_
    show Steps p.tables e below (s₁.setTop (mkF m 7 #[.val (.int p1), .unset, .unset, .unset] [(.int ((p1 &&& (2147483647 : Int32)) % (24 : Int32)))])) _
    rw [hk]
    show Steps p.tables e below (s₁.setTop (mkF m 7 #[.val (.int p1), .unset, .unset, .unset] [(.int (11 : Int32))])) _
    refine XS.istoreN X0.here hx rfl (hb hby at_7) rfl (l' := #[.val (.int p1), .val (.int (11 : Int32)), .unset, .unset]) rfl ?_
    show Steps p.tables e below (s₁.setTop (mkF m 8 #[.val (.int p1), .val (.int (11 : Int32)), .unset, .unset] [])) _
    refine XS.iloadN X0.here hx rfl (hb hby at_8) rfl ?_
    show Steps p.tables e below (s₁.setTop (mkF m 9 #[.val (.int p1), .val (.int (11 : Int32)), .unset, .unset] [(.int (11 : Int32))])) _
    refine st95 _ ?_
    show Steps p.tables e below (T95.setTop (mkF m 12 #[.val (.int p1), .val (.int (11 : Int32)), .unset, .unset] [(.ref w7)])) _
    refine XS.astoreN X95.here hx rfl (hb hby at_12) rfl rfl (l' := #[.val (.int p1), .val (.int (11 : Int32)), .val (.ref w7), .unset]) rfl ?_
    show Steps p.tables e below (T95.setTop (mkF m 13 #[.val (.int p1), .val (.int (11 : Int32)), .val (.ref w7), .unset] [])) _
    refine XS.iloadN X95.here hx rfl (hb hby at_13) rfl ?_
    show Steps p.tables e below (T95.setTop (mkF m 14 #[.val (.int p1), .val (.int (11 : Int32)), .val (.ref w7), .unset] [(.int (11 : Int32))])) _
    refine XT.bipushV X95.here hx rfl (8 : Int32) (hb hby at_14) (by decide) ?_
    show Steps p.tables e below (T95.setTop (mkF m 16 #[.val (.int p1), .val (.int (11 : Int32)), .val (.ref w7), .unset] [(.int (8 : Int32)), (.int (11 : Int32))])) _
    refine XS.icmpNo X95.here hx rfl (hb hby at_16) rfl (by decide) ?_
    show Steps p.tables e below (T95.setTop (mkF m 19 #[.val (.int p1), .val (.int (11 : Int32)), .val (.ref w7), .unset] [])) _
    refine XS.iloadN X95.here hx rfl (hb hby at_19) rfl ?_
    show Steps p.tables e below (T95.setTop (mkF m 20 #[.val (.int p1), .val (.int (11 : Int32)), .val (.ref w7), .unset] [(.int (11 : Int32))])) _
    refine XT.bipushV X95.here hx rfl (13 : Int32) (hb hby at_20) (by decide) ?_
    show Steps p.tables e below (T95.setTop (mkF m 22 #[.val (.int p1), .val (.int (11 : Int32)), .val (.ref w7), .unset] [(.int (13 : Int32)), (.int (11 : Int32))])) _
    refine XS.icmpNo X95.here hx rfl (hb hby at_22) rfl (by decide) ?_
    show Steps p.tables e below (T95.setTop (mkF m 25 #[.val (.int p1), .val (.int (11 : Int32)), .val (.ref w7), .unset] [])) _
    refine XT.iconstV X95.here hx rfl (1 : Int32) (hb hby at_25) rfl ?_
    show Steps p.tables e below (T95.setTop (mkF m 26 #[.val (.int p1), .val (.int (11 : Int32)), .val (.ref w7), .unset] [(.int (1 : Int32))])) _
    refine XS.goto X95.here hx rfl (pc0 := 26) (pc' := 30) rfl (hb hby at_26) (by decide) (by decide) ?_
    show Steps p.tables e below (T95.setTop (mkF m 30 #[.val (.int p1), .val (.int (11 : Int32)), .val (.ref w7), .unset] [(.int (1 : Int32))])) _
    refine XS.istoreN X95.here hx rfl (hb hby at_30) rfl (l' := #[.val (.int p1), .val (.int (11 : Int32)), .val (.ref w7), .val (.int (1 : Int32))]) rfl ?_
    show Steps p.tables e below (T95.setTop (mkF m 31 #[.val (.int p1), .val (.int (11 : Int32)), .val (.ref w7), .val (.int (1 : Int32))] [])) _
    refine XS.aloadN X95.here hx rfl (hb hby at_31) rfl rfl ?_
    show Steps p.tables e below (T95.setTop (mkF m 32 #[.val (.int p1), .val (.int (11 : Int32)), .val (.ref w7), .val (.int (1 : Int32))] [(.ref w7)])) _
    refine st96.trans ?_
    show Steps p.tables e below (T96.setTop (mkF m 35 #[.val (.int p1), .val (.int (11 : Int32)), .val (.ref w7), .val (.int (1 : Int32))] [(.int (1 : Int32))])) _
    refine XS.iloadN X96.here hx rfl (hb hby at_35) rfl ?_
    show Steps p.tables e below (T96.setTop (mkF m 36 #[.val (.int p1), .val (.int (11 : Int32)), .val (.ref w7), .val (.int (1 : Int32))] [(.int (1 : Int32)), (.int (1 : Int32))])) _
    refine XS.icmpNo X96.here hx rfl (hb hby at_36) rfl (by decide) ?_
    show Steps p.tables e below (T96.setTop (mkF m 39 #[.val (.int p1), .val (.int (11 : Int32)), .val (.ref w7), .val (.int (1 : Int32))] [])) _
    refine XT.iconstV X96.here hx rfl (1 : Int32) (hb hby at_39) rfl ?_
    show Steps p.tables e below (T96.setTop (mkF m 40 #[.val (.int p1), .val (.int (11 : Int32)), .val (.ref w7), .val (.int (1 : Int32))] [(.int (1 : Int32))])) _
    refine XS.goto X96.here hx rfl (pc0 := 40) (pc' := 44) rfl (hb hby at_40) (by decide) (by decide) ?_
    show Steps p.tables e below (T96.setTop (mkF m 44 #[.val (.int p1), .val (.int (11 : Int32)), .val (.ref w7), .val (.int (1 : Int32))] [(.int (1 : Int32))])) _
    exact retN X96 hx (t := .boolean) Bd.returns (by simp) (hb hby at_44) hr
  · show own_Q0 n0 _ T96.heap _
    exact ⟨rfl, N96⟩
set_option maxRecDepth 65536 in
set_option maxHeartbeats 40000000 in
theorem own_law_12 (l : Launch) (Z : State) (a0 : Array Value) (hw : ∀ d ∈ tables_1, d.before a0 Z = true) (ws : List Jvm.Cond) (p1 : Int32) (w0 w1 w2 w3 w4 w5 w6 w7 w8 w9 w10 w11 w12 w13 w14 w15 w16 w17 w18 w19 w20 w21 w22 w23 : Addr) (h0 : Heap) (n0 : Nat) (Z0 : n0 ≤ h0.size) (P : own_P Z h0 w0 w1 w2 w3 w4 w5 w6 w7 w8 w9 w10 w11 w12 w13 w14 w15 w16 w17 w18 w19 w20 w21 w22 w23) (hk : ((p1 &&& (2147483647 : Int32)) % (24 : Int32)) = (12 : Int32)) :
    MetFree l x (head1 (Jvm.Cond.code x code maxLocals ret :: ws) room_1) (fun a U => a = #[(.int p1)] ∧ Z.Warmed39 U.vm ∧ U.heap = h0) (fun _ _ _ _ _ => True) (fun _ U o U' => ∃ v L, o = .returned v ∧ own_Q0 n0 v U'.heap L ∧ FrameEnd U o U' L room_1.cells room_1.slots) := by
  refine MetFree.of_bodySF (plainFor_of_name pn_apportion_io_DataTypeIsDecimalPinLaw) hisR ?_
  intro p e s m args below meth c s₁ Bd hml0 hP hK
  obtain ⟨rfl, hZ, hh⟩ := hP
  have hx := Bd.exec
  have hby := Bd.bytes
  have hml : c.maxLocals = 4 := hml0
  have hown : s.vm.findClass "apportion/io/DataTypeIsDecimalPinLaw" = some m.cls := findClass_of_methodNamed Bd.named
  have hnm := (name_of_methodNamed Bd.named Bd.method).1
  have X0 : Stand p l e room_1 s m #[(.int p1)] below meth c s₁ [] 0 0 := Stand.of_body Bd
  have e0 : s₁.heap = h0 := by rw [← hh, Bd.state]; rfl
  have N0 := Fr.nil n0
  have pre0 : ∀ t, Steps p.tables e below (s₁.setTop (mkF m 0 #[.val (.int p1), .unset, .unset, .unset] [])) t → Steps p.tables e below (s₁.setTop (entryFrame m #[(.int p1)] maxLocals)) t := fun t k => castTop (ef_code_I m p1) k
  have P0 := P; obtain ⟨S0, E0, F0_ordinal, S1, E1, F1_ordinal, S2, E2, F2_ordinal, S3, E3, F3_ordinal, S4, E4, F4_ordinal, S5, E5, F5_ordinal, S6, E6, F6_ordinal, S7, E7, F7_ordinal, S8, E8, F8_ordinal, S9, E9, F9_ordinal, S10, E10, F10_ordinal, S11, E11, F11_ordinal, S12, E12, F12_ordinal, S13, E13, F13_ordinal, S14, E14, F14_ordinal, S15, E15, F15_ordinal, S16, E16, F16_ordinal, S17, E17, F17_ordinal, S18, E18, F18_ordinal, S19, E19, F19_ordinal, S20, E20, F20_ordinal, S21, E21, F21_ordinal, S22, E22, F22_ordinal, S23, E23, F23_ordinal⟩ := P0
  obtain ⟨_, _, ⟨T97, L97, k97, n97⟩, -, X97, ⟨Lc97, hQ97, l97, y97, z97⟩, st97⟩ := Jvm.LawKit.callS X0 hx (y := (⟨"apportion/io/DataTypeIsDecimalPinLaw", "pick", "(I)Lapportion/io/DataType;"⟩ : MethodName)) hown (mvT hZ (hw _ (List.mem_of_getElem? (i := 1) rfl))) (mvT hZ (hw _ (List.mem_of_getElem? (i := 2) rfl))) (mvT hZ (hw _ (List.mem_of_getElem? (i := 3) rfl))) (mvT hZ (hw _ (List.mem_of_getElem? (i := 4) rfl))) (by decide) (backOf (W := 0) (own_pick_12 l Z a0 hw [] w0 w1 w2 w3 w4 w5 w6 w7 w8 w9 w10 w11 w12 w13 w14 w15 w16 w17 w18 w19 w20 w21 w22 w23 h0 n0 Z0 P) hZ (hw _ (List.mem_of_getElem? (i := 4) rfl)) (hw _ (List.mem_of_getElem? (i := 3) rfl)) (by decide) (by decide)) (g := (mkF m 9 #[.val (.int p1), .val (.int (12 : Int32)), .unset, .unset] [(.int (12 : Int32))])) rfl (by rw [hml]; rfl) (argsL := [(.int (12 : Int32))]) (rest := []) (lenOf pd__I_Lapportion_io_DataType_ rfl) rfl (by show 2 * 0 + _ ≤ _; exact Nat.le_of_eq rfl) (hb hby at_9) (fun _ _ => ⟨rfl, e0, (by decide : 0 + 0 ≤ _), (by decide : 0 + 0 ≤ _)⟩)
  dsimp only [Pt.U, Pt.locs, Pt.cells, Pt.slots] at X97 l97 y97 z97 st97 hQ97
  subst l97 y97 z97
  obtain ⟨rfl, N97q, e97⟩ := hQ97
  have N97 := Fr.app N0 N97q
  obtain ⟨cq98, kq98, q98a, q98b, q98c⟩ := isOf hZ e97 E19
  obtain ⟨_, _, ⟨T98, L98, k98, n98⟩, -, X98, ⟨Lc98, hQ98, l98, y98, z98⟩, st98⟩ := X97.virtualBack hx (y := (⟨"apportion/io/DataType", "isDecimal", "()Z"⟩ : MethodName)) (z := (⟨"apportion/io/DataType", "isDecimal", "()Z"⟩ : MethodName)) hown (mvT hZ (hw _ (List.mem_of_getElem? (i := 8) rfl))) (mvT hZ (hw _ (List.mem_of_getElem? (i := 9) rfl))) (notFace_of_selects (args := #[]) (mvT hZ (hw _ (List.mem_of_getElem? (i := 11) rfl)))) (mvT hZ (hw _ (List.mem_of_getElem? (i := 11) rfl))) (mvT hZ (hw _ (List.mem_of_getElem? (i := 10) rfl))) (by decide) (backOf (W := 0) (own_isDecimal_19 l Z a0 hw [] w0 w1 w2 w3 w4 w5 w6 w7 w8 w9 w10 w11 w12 w13 w14 w15 w16 w17 w18 w19 w20 w21 w22 w23 h0 n0 Z0 P) hZ (hw _ (List.mem_of_getElem? (i := 12) rfl)) (hw _ (List.mem_of_getElem? (i := 6) rfl)) (by decide) (by decide)) q98a q98c (g := (mkF m 32 #[.val (.int p1), .val (.int (12 : Int32)), .val (.ref w19), .val (.int (1 : Int32))] [(.ref w19)])) rfl (by rw [hml]; rfl) (Steps.refl _) (argsL := []) (rest := []) (lenOf pd___Z rfl) rfl (by show 2 * 0 + _ ≤ _; exact Nat.le_of_eq rfl) (hb hby at_32) (fun _ _ => ⟨rfl, e97, (by decide : 0 + 0 ≤ _), (by decide : 0 + 0 ≤ _)⟩)
  dsimp only [Pt.U, Pt.locs, Pt.cells, Pt.slots] at X98 l98 y98 z98 st98 hQ98
  subst l98 y98 z98
  obtain ⟨rfl, N98q, e98⟩ := hQ98
  have N98 := Fr.app N97 N98q
  obtain ⟨fs, hr, hrun, hended, hW, hsame⟩ := X98.leave (v := some (.int (1 : Int32))) (fun h => by rw [Bd.returns] at h; cases h)
  refine ⟨_, _, pre0 _ ?_, hrun, hended, _, _, rfl, ?_, ⟨_, rfl⟩, hW, hsame.mono (by decide) (by decide)⟩
  · show Steps p.tables e below (s₁.setTop (mkF m 0 #[.val (.int p1), .unset, .unset, .unset] [])) _
    refine XS.iloadN X0.here hx rfl (hb hby at_0) rfl ?_
    show Steps p.tables e below (s₁.setTop (mkF m 1 #[.val (.int p1), .unset, .unset, .unset] [(.int p1)])) _
    refine Jvm.Stand.ldcI X0 hx hown (mvT hZ (hw _ (List.mem_of_getElem? (i := 0) rfl))) rfl (hb hby at_1) ?_
    show Steps p.tables e below (s₁.setTop (mkF m 3 #[.val (.int p1), .unset, .unset, .unset] [(.int (2147483647 : Int32)), (.int p1)])) _
    refine XS.iand X0.here hx rfl (hb hby at_3) rfl ?_
    show Steps p.tables e below (s₁.setTop (mkF m 4 #[.val (.int p1), .unset, .unset, .unset] [(.int (p1 &&& (2147483647 : Int32)))])) _
    refine XT.bipushV X0.here hx rfl (24 : Int32) (hb hby at_4) (by decide) ?_
    show Steps p.tables e below (s₁.setTop (mkF m 6 #[.val (.int p1), .unset, .unset, .unset] [(.int (24 : Int32)), (.int (p1 &&& (2147483647 : Int32)))])) _
    refine iremM X0 hx rfl (hb hby at_6) rfl (by decide) ?_
    show Steps p.tables e below (s₁.setTop (mkF m 7 #[.val (.int p1), .unset, .unset, .unset] [(.int ((p1 &&& (2147483647 : Int32)) % (24 : Int32)))])) _
    rw [hk]
    show Steps p.tables e below (s₁.setTop (mkF m 7 #[.val (.int p1), .unset, .unset, .unset] [(.int (12 : Int32))])) _
    refine XS.istoreN X0.here hx rfl (hb hby at_7) rfl (l' := #[.val (.int p1), .val (.int (12 : Int32)), .unset, .unset]) rfl ?_
    show Steps p.tables e below (s₁.setTop (mkF m 8 #[.val (.int p1), .val (.int (12 : Int32)), .unset, .unset] [])) _
    refine XS.iloadN X0.here hx rfl (hb hby at_8) rfl ?_
    show Steps p.tables e below (s₁.setTop (mkF m 9 #[.val (.int p1), .val (.int (12 : Int32)), .unset, .unset] [(.int (12 : Int32))])) _
    refine st97 _ ?_
    show Steps p.tables e below (T97.setTop (mkF m 12 #[.val (.int p1), .val (.int (12 : Int32)), .unset, .unset] [(.ref w19)])) _
    refine XS.astoreN X97.here hx rfl (hb hby at_12) rfl rfl (l' := #[.val (.int p1), .val (.int (12 : Int32)), .val (.ref w19), .unset]) rfl ?_
    show Steps p.tables e below (T97.setTop (mkF m 13 #[.val (.int p1), .val (.int (12 : Int32)), .val (.ref w19), .unset] [])) _
    refine XS.iloadN X97.here hx rfl (hb hby at_13) rfl ?_
    show Steps p.tables e below (T97.setTop (mkF m 14 #[.val (.int p1), .val (.int (12 : Int32)), .val (.ref w19), .unset] [(.int (12 : Int32))])) _
    refine XT.bipushV X97.here hx rfl (8 : Int32) (hb hby at_14) (by decide) ?_
    show Steps p.tables e below (T97.setTop (mkF m 16 #[.val (.int p1), .val (.int (12 : Int32)), .val (.ref w19), .unset] [(.int (8 : Int32)), (.int (12 : Int32))])) _
    refine XS.icmpNo X97.here hx rfl (hb hby at_16) rfl (by decide) ?_
    show Steps p.tables e below (T97.setTop (mkF m 19 #[.val (.int p1), .val (.int (12 : Int32)), .val (.ref w19), .unset] [])) _
    refine XS.iloadN X97.here hx rfl (hb hby at_19) rfl ?_
    show Steps p.tables e below (T97.setTop (mkF m 20 #[.val (.int p1), .val (.int (12 : Int32)), .val (.ref w19), .unset] [(.int (12 : Int32))])) _
    refine XT.bipushV X97.here hx rfl (13 : Int32) (hb hby at_20) (by decide) ?_
    show Steps p.tables e below (T97.setTop (mkF m 22 #[.val (.int p1), .val (.int (12 : Int32)), .val (.ref w19), .unset] [(.int (13 : Int32)), (.int (12 : Int32))])) _
    refine XS.icmpNo X97.here hx rfl (hb hby at_22) rfl (by decide) ?_
    show Steps p.tables e below (T97.setTop (mkF m 25 #[.val (.int p1), .val (.int (12 : Int32)), .val (.ref w19), .unset] [])) _
    refine XT.iconstV X97.here hx rfl (1 : Int32) (hb hby at_25) rfl ?_
    show Steps p.tables e below (T97.setTop (mkF m 26 #[.val (.int p1), .val (.int (12 : Int32)), .val (.ref w19), .unset] [(.int (1 : Int32))])) _
    refine XS.goto X97.here hx rfl (pc0 := 26) (pc' := 30) rfl (hb hby at_26) (by decide) (by decide) ?_
    show Steps p.tables e below (T97.setTop (mkF m 30 #[.val (.int p1), .val (.int (12 : Int32)), .val (.ref w19), .unset] [(.int (1 : Int32))])) _
    refine XS.istoreN X97.here hx rfl (hb hby at_30) rfl (l' := #[.val (.int p1), .val (.int (12 : Int32)), .val (.ref w19), .val (.int (1 : Int32))]) rfl ?_
    show Steps p.tables e below (T97.setTop (mkF m 31 #[.val (.int p1), .val (.int (12 : Int32)), .val (.ref w19), .val (.int (1 : Int32))] [])) _
    refine XS.aloadN X97.here hx rfl (hb hby at_31) rfl rfl ?_
    show Steps p.tables e below (T97.setTop (mkF m 32 #[.val (.int p1), .val (.int (12 : Int32)), .val (.ref w19), .val (.int (1 : Int32))] [(.ref w19)])) _
    refine st98.trans ?_
    show Steps p.tables e below (T98.setTop (mkF m 35 #[.val (.int p1), .val (.int (12 : Int32)), .val (.ref w19), .val (.int (1 : Int32))] [(.int (1 : Int32))])) _
    refine XS.iloadN X98.here hx rfl (hb hby at_35) rfl ?_
    show Steps p.tables e below (T98.setTop (mkF m 36 #[.val (.int p1), .val (.int (12 : Int32)), .val (.ref w19), .val (.int (1 : Int32))] [(.int (1 : Int32)), (.int (1 : Int32))])) _
    refine XS.icmpNo X98.here hx rfl (hb hby at_36) rfl (by decide) ?_
    show Steps p.tables e below (T98.setTop (mkF m 39 #[.val (.int p1), .val (.int (12 : Int32)), .val (.ref w19), .val (.int (1 : Int32))] [])) _
    refine XT.iconstV X98.here hx rfl (1 : Int32) (hb hby at_39) rfl ?_
    show Steps p.tables e below (T98.setTop (mkF m 40 #[.val (.int p1), .val (.int (12 : Int32)), .val (.ref w19), .val (.int (1 : Int32))] [(.int (1 : Int32))])) _
    refine XS.goto X98.here hx rfl (pc0 := 40) (pc' := 44) rfl (hb hby at_40) (by decide) (by decide) ?_
    show Steps p.tables e below (T98.setTop (mkF m 44 #[.val (.int p1), .val (.int (12 : Int32)), .val (.ref w19), .val (.int (1 : Int32))] [(.int (1 : Int32))])) _
    exact retN X98 hx (t := .boolean) Bd.returns (by simp) (hb hby at_44) hr
  · show own_Q0 n0 _ T98.heap _
    exact ⟨rfl, N98⟩
set_option maxRecDepth 65536 in
set_option maxHeartbeats 40000000 in
theorem own_law_13 (l : Launch) (Z : State) (a0 : Array Value) (hw : ∀ d ∈ tables_1, d.before a0 Z = true) (ws : List Jvm.Cond) (p1 : Int32) (w0 w1 w2 w3 w4 w5 w6 w7 w8 w9 w10 w11 w12 w13 w14 w15 w16 w17 w18 w19 w20 w21 w22 w23 : Addr) (h0 : Heap) (n0 : Nat) (Z0 : n0 ≤ h0.size) (P : own_P Z h0 w0 w1 w2 w3 w4 w5 w6 w7 w8 w9 w10 w11 w12 w13 w14 w15 w16 w17 w18 w19 w20 w21 w22 w23) (hk : ((p1 &&& (2147483647 : Int32)) % (24 : Int32)) = (13 : Int32)) :
    MetFree l x (head1 (Jvm.Cond.code x code maxLocals ret :: ws) room_1) (fun a U => a = #[(.int p1)] ∧ Z.Warmed39 U.vm ∧ U.heap = h0) (fun _ _ _ _ _ => True) (fun _ U o U' => ∃ v L, o = .returned v ∧ own_Q0 n0 v U'.heap L ∧ FrameEnd U o U' L room_1.cells room_1.slots) := by
  refine MetFree.of_bodySF (plainFor_of_name pn_apportion_io_DataTypeIsDecimalPinLaw) hisR ?_
  intro p e s m args below meth c s₁ Bd hml0 hP hK
  obtain ⟨rfl, hZ, hh⟩ := hP
  have hx := Bd.exec
  have hby := Bd.bytes
  have hml : c.maxLocals = 4 := hml0
  have hown : s.vm.findClass "apportion/io/DataTypeIsDecimalPinLaw" = some m.cls := findClass_of_methodNamed Bd.named
  have hnm := (name_of_methodNamed Bd.named Bd.method).1
  have X0 : Stand p l e room_1 s m #[(.int p1)] below meth c s₁ [] 0 0 := Stand.of_body Bd
  have e0 : s₁.heap = h0 := by rw [← hh, Bd.state]; rfl
  have N0 := Fr.nil n0
  have pre0 : ∀ t, Steps p.tables e below (s₁.setTop (mkF m 0 #[.val (.int p1), .unset, .unset, .unset] [])) t → Steps p.tables e below (s₁.setTop (entryFrame m #[(.int p1)] maxLocals)) t := fun t k => castTop (ef_code_I m p1) k
  have P0 := P; obtain ⟨S0, E0, F0_ordinal, S1, E1, F1_ordinal, S2, E2, F2_ordinal, S3, E3, F3_ordinal, S4, E4, F4_ordinal, S5, E5, F5_ordinal, S6, E6, F6_ordinal, S7, E7, F7_ordinal, S8, E8, F8_ordinal, S9, E9, F9_ordinal, S10, E10, F10_ordinal, S11, E11, F11_ordinal, S12, E12, F12_ordinal, S13, E13, F13_ordinal, S14, E14, F14_ordinal, S15, E15, F15_ordinal, S16, E16, F16_ordinal, S17, E17, F17_ordinal, S18, E18, F18_ordinal, S19, E19, F19_ordinal, S20, E20, F20_ordinal, S21, E21, F21_ordinal, S22, E22, F22_ordinal, S23, E23, F23_ordinal⟩ := P0
  obtain ⟨_, _, ⟨T99, L99, k99, n99⟩, -, X99, ⟨Lc99, hQ99, l99, y99, z99⟩, st99⟩ := Jvm.LawKit.callS X0 hx (y := (⟨"apportion/io/DataTypeIsDecimalPinLaw", "pick", "(I)Lapportion/io/DataType;"⟩ : MethodName)) hown (mvT hZ (hw _ (List.mem_of_getElem? (i := 1) rfl))) (mvT hZ (hw _ (List.mem_of_getElem? (i := 2) rfl))) (mvT hZ (hw _ (List.mem_of_getElem? (i := 3) rfl))) (mvT hZ (hw _ (List.mem_of_getElem? (i := 4) rfl))) (by decide) (backOf (W := 0) (own_pick_13 l Z a0 hw [] w0 w1 w2 w3 w4 w5 w6 w7 w8 w9 w10 w11 w12 w13 w14 w15 w16 w17 w18 w19 w20 w21 w22 w23 h0 n0 Z0 P) hZ (hw _ (List.mem_of_getElem? (i := 4) rfl)) (hw _ (List.mem_of_getElem? (i := 3) rfl)) (by decide) (by decide)) (g := (mkF m 9 #[.val (.int p1), .val (.int (13 : Int32)), .unset, .unset] [(.int (13 : Int32))])) rfl (by rw [hml]; rfl) (argsL := [(.int (13 : Int32))]) (rest := []) (lenOf pd__I_Lapportion_io_DataType_ rfl) rfl (by show 2 * 0 + _ ≤ _; exact Nat.le_of_eq rfl) (hb hby at_9) (fun _ _ => ⟨rfl, e0, (by decide : 0 + 0 ≤ _), (by decide : 0 + 0 ≤ _)⟩)
  dsimp only [Pt.U, Pt.locs, Pt.cells, Pt.slots] at X99 l99 y99 z99 st99 hQ99
  subst l99 y99 z99
  obtain ⟨rfl, N99q, e99⟩ := hQ99
  have N99 := Fr.app N0 N99q
  obtain ⟨cq100, kq100, q100a, q100b, q100c⟩ := isOf hZ e99 E22
  obtain ⟨_, _, ⟨T100, L100, k100, n100⟩, -, X100, ⟨Lc100, hQ100, l100, y100, z100⟩, st100⟩ := X99.virtualBack hx (y := (⟨"apportion/io/DataType", "isDecimal", "()Z"⟩ : MethodName)) (z := (⟨"apportion/io/DataType", "isDecimal", "()Z"⟩ : MethodName)) hown (mvT hZ (hw _ (List.mem_of_getElem? (i := 8) rfl))) (mvT hZ (hw _ (List.mem_of_getElem? (i := 9) rfl))) (notFace_of_selects (args := #[]) (mvT hZ (hw _ (List.mem_of_getElem? (i := 11) rfl)))) (mvT hZ (hw _ (List.mem_of_getElem? (i := 11) rfl))) (mvT hZ (hw _ (List.mem_of_getElem? (i := 10) rfl))) (by decide) (backOf (W := 0) (own_isDecimal_22 l Z a0 hw [] w0 w1 w2 w3 w4 w5 w6 w7 w8 w9 w10 w11 w12 w13 w14 w15 w16 w17 w18 w19 w20 w21 w22 w23 h0 n0 Z0 P) hZ (hw _ (List.mem_of_getElem? (i := 12) rfl)) (hw _ (List.mem_of_getElem? (i := 6) rfl)) (by decide) (by decide)) q100a q100c (g := (mkF m 32 #[.val (.int p1), .val (.int (13 : Int32)), .val (.ref w22), .val (.int (1 : Int32))] [(.ref w22)])) rfl (by rw [hml]; rfl) (Steps.refl _) (argsL := []) (rest := []) (lenOf pd___Z rfl) rfl (by show 2 * 0 + _ ≤ _; exact Nat.le_of_eq rfl) (hb hby at_32) (fun _ _ => ⟨rfl, e99, (by decide : 0 + 0 ≤ _), (by decide : 0 + 0 ≤ _)⟩)
  dsimp only [Pt.U, Pt.locs, Pt.cells, Pt.slots] at X100 l100 y100 z100 st100 hQ100
  subst l100 y100 z100
  obtain ⟨rfl, N100q, e100⟩ := hQ100
  have N100 := Fr.app N99 N100q
  obtain ⟨fs, hr, hrun, hended, hW, hsame⟩ := X100.leave (v := some (.int (1 : Int32))) (fun h => by rw [Bd.returns] at h; cases h)
  refine ⟨_, _, pre0 _ ?_, hrun, hended, _, _, rfl, ?_, ⟨_, rfl⟩, hW, hsame.mono (by decide) (by decide)⟩
  · show Steps p.tables e below (s₁.setTop (mkF m 0 #[.val (.int p1), .unset, .unset, .unset] [])) _
    refine XS.iloadN X0.here hx rfl (hb hby at_0) rfl ?_
    show Steps p.tables e below (s₁.setTop (mkF m 1 #[.val (.int p1), .unset, .unset, .unset] [(.int p1)])) _
    refine Jvm.Stand.ldcI X0 hx hown (mvT hZ (hw _ (List.mem_of_getElem? (i := 0) rfl))) rfl (hb hby at_1) ?_
    show Steps p.tables e below (s₁.setTop (mkF m 3 #[.val (.int p1), .unset, .unset, .unset] [(.int (2147483647 : Int32)), (.int p1)])) _
    refine XS.iand X0.here hx rfl (hb hby at_3) rfl ?_
    show Steps p.tables e below (s₁.setTop (mkF m 4 #[.val (.int p1), .unset, .unset, .unset] [(.int (p1 &&& (2147483647 : Int32)))])) _
    refine XT.bipushV X0.here hx rfl (24 : Int32) (hb hby at_4) (by decide) ?_
    show Steps p.tables e below (s₁.setTop (mkF m 6 #[.val (.int p1), .unset, .unset, .unset] [(.int (24 : Int32)), (.int (p1 &&& (2147483647 : Int32)))])) _
    refine iremM X0 hx rfl (hb hby at_6) rfl (by decide) ?_
    show Steps p.tables e below (s₁.setTop (mkF m 7 #[.val (.int p1), .unset, .unset, .unset] [(.int ((p1 &&& (2147483647 : Int32)) % (24 : Int32)))])) _
    rw [hk]
    show Steps p.tables e below (s₁.setTop (mkF m 7 #[.val (.int p1), .unset, .unset, .unset] [(.int (13 : Int32))])) _
    refine XS.istoreN X0.here hx rfl (hb hby at_7) rfl (l' := #[.val (.int p1), .val (.int (13 : Int32)), .unset, .unset]) rfl ?_
    show Steps p.tables e below (s₁.setTop (mkF m 8 #[.val (.int p1), .val (.int (13 : Int32)), .unset, .unset] [])) _
    refine XS.iloadN X0.here hx rfl (hb hby at_8) rfl ?_
    show Steps p.tables e below (s₁.setTop (mkF m 9 #[.val (.int p1), .val (.int (13 : Int32)), .unset, .unset] [(.int (13 : Int32))])) _
    refine st99 _ ?_
    show Steps p.tables e below (T99.setTop (mkF m 12 #[.val (.int p1), .val (.int (13 : Int32)), .unset, .unset] [(.ref w22)])) _
    refine XS.astoreN X99.here hx rfl (hb hby at_12) rfl rfl (l' := #[.val (.int p1), .val (.int (13 : Int32)), .val (.ref w22), .unset]) rfl ?_
    show Steps p.tables e below (T99.setTop (mkF m 13 #[.val (.int p1), .val (.int (13 : Int32)), .val (.ref w22), .unset] [])) _
    refine XS.iloadN X99.here hx rfl (hb hby at_13) rfl ?_
    show Steps p.tables e below (T99.setTop (mkF m 14 #[.val (.int p1), .val (.int (13 : Int32)), .val (.ref w22), .unset] [(.int (13 : Int32))])) _
    refine XT.bipushV X99.here hx rfl (8 : Int32) (hb hby at_14) (by decide) ?_
    show Steps p.tables e below (T99.setTop (mkF m 16 #[.val (.int p1), .val (.int (13 : Int32)), .val (.ref w22), .unset] [(.int (8 : Int32)), (.int (13 : Int32))])) _
    refine XS.icmpNo X99.here hx rfl (hb hby at_16) rfl (by decide) ?_
    show Steps p.tables e below (T99.setTop (mkF m 19 #[.val (.int p1), .val (.int (13 : Int32)), .val (.ref w22), .unset] [])) _
    refine XS.iloadN X99.here hx rfl (hb hby at_19) rfl ?_
    show Steps p.tables e below (T99.setTop (mkF m 20 #[.val (.int p1), .val (.int (13 : Int32)), .val (.ref w22), .unset] [(.int (13 : Int32))])) _
    refine XT.bipushV X99.here hx rfl (13 : Int32) (hb hby at_20) (by decide) ?_
    show Steps p.tables e below (T99.setTop (mkF m 22 #[.val (.int p1), .val (.int (13 : Int32)), .val (.ref w22), .unset] [(.int (13 : Int32)), (.int (13 : Int32))])) _
    refine XS.icmpNo X99.here hx rfl (hb hby at_22) rfl (by decide) ?_
    show Steps p.tables e below (T99.setTop (mkF m 25 #[.val (.int p1), .val (.int (13 : Int32)), .val (.ref w22), .unset] [])) _
    refine XT.iconstV X99.here hx rfl (1 : Int32) (hb hby at_25) rfl ?_
    show Steps p.tables e below (T99.setTop (mkF m 26 #[.val (.int p1), .val (.int (13 : Int32)), .val (.ref w22), .unset] [(.int (1 : Int32))])) _
    refine XS.goto X99.here hx rfl (pc0 := 26) (pc' := 30) rfl (hb hby at_26) (by decide) (by decide) ?_
    show Steps p.tables e below (T99.setTop (mkF m 30 #[.val (.int p1), .val (.int (13 : Int32)), .val (.ref w22), .unset] [(.int (1 : Int32))])) _
    refine XS.istoreN X99.here hx rfl (hb hby at_30) rfl (l' := #[.val (.int p1), .val (.int (13 : Int32)), .val (.ref w22), .val (.int (1 : Int32))]) rfl ?_
    show Steps p.tables e below (T99.setTop (mkF m 31 #[.val (.int p1), .val (.int (13 : Int32)), .val (.ref w22), .val (.int (1 : Int32))] [])) _
    refine XS.aloadN X99.here hx rfl (hb hby at_31) rfl rfl ?_
    show Steps p.tables e below (T99.setTop (mkF m 32 #[.val (.int p1), .val (.int (13 : Int32)), .val (.ref w22), .val (.int (1 : Int32))] [(.ref w22)])) _
    refine st100.trans ?_
    show Steps p.tables e below (T100.setTop (mkF m 35 #[.val (.int p1), .val (.int (13 : Int32)), .val (.ref w22), .val (.int (1 : Int32))] [(.int (1 : Int32))])) _
    refine XS.iloadN X100.here hx rfl (hb hby at_35) rfl ?_
    show Steps p.tables e below (T100.setTop (mkF m 36 #[.val (.int p1), .val (.int (13 : Int32)), .val (.ref w22), .val (.int (1 : Int32))] [(.int (1 : Int32)), (.int (1 : Int32))])) _
    refine XS.icmpNo X100.here hx rfl (hb hby at_36) rfl (by decide) ?_
    show Steps p.tables e below (T100.setTop (mkF m 39 #[.val (.int p1), .val (.int (13 : Int32)), .val (.ref w22), .val (.int (1 : Int32))] [])) _
    refine XT.iconstV X100.here hx rfl (1 : Int32) (hb hby at_39) rfl ?_
    show Steps p.tables e below (T100.setTop (mkF m 40 #[.val (.int p1), .val (.int (13 : Int32)), .val (.ref w22), .val (.int (1 : Int32))] [(.int (1 : Int32))])) _
    refine XS.goto X100.here hx rfl (pc0 := 40) (pc' := 44) rfl (hb hby at_40) (by decide) (by decide) ?_
    show Steps p.tables e below (T100.setTop (mkF m 44 #[.val (.int p1), .val (.int (13 : Int32)), .val (.ref w22), .val (.int (1 : Int32))] [(.int (1 : Int32))])) _
    exact retN X100 hx (t := .boolean) Bd.returns (by simp) (hb hby at_44) hr
  · show own_Q0 n0 _ T100.heap _
    exact ⟨rfl, N100⟩
set_option maxRecDepth 65536 in
set_option maxHeartbeats 40000000 in
theorem own_law_14 (l : Launch) (Z : State) (a0 : Array Value) (hw : ∀ d ∈ tables_1, d.before a0 Z = true) (ws : List Jvm.Cond) (p1 : Int32) (w0 w1 w2 w3 w4 w5 w6 w7 w8 w9 w10 w11 w12 w13 w14 w15 w16 w17 w18 w19 w20 w21 w22 w23 : Addr) (h0 : Heap) (n0 : Nat) (Z0 : n0 ≤ h0.size) (P : own_P Z h0 w0 w1 w2 w3 w4 w5 w6 w7 w8 w9 w10 w11 w12 w13 w14 w15 w16 w17 w18 w19 w20 w21 w22 w23) (hk : ((p1 &&& (2147483647 : Int32)) % (24 : Int32)) = (14 : Int32)) :
    MetFree l x (head1 (Jvm.Cond.code x code maxLocals ret :: ws) room_1) (fun a U => a = #[(.int p1)] ∧ Z.Warmed39 U.vm ∧ U.heap = h0) (fun _ _ _ _ _ => True) (fun _ U o U' => ∃ v L, o = .returned v ∧ own_Q0 n0 v U'.heap L ∧ FrameEnd U o U' L room_1.cells room_1.slots) := by
  refine MetFree.of_bodySF (plainFor_of_name pn_apportion_io_DataTypeIsDecimalPinLaw) hisR ?_
  intro p e s m args below meth c s₁ Bd hml0 hP hK
  obtain ⟨rfl, hZ, hh⟩ := hP
  have hx := Bd.exec
  have hby := Bd.bytes
  have hml : c.maxLocals = 4 := hml0
  have hown : s.vm.findClass "apportion/io/DataTypeIsDecimalPinLaw" = some m.cls := findClass_of_methodNamed Bd.named
  have hnm := (name_of_methodNamed Bd.named Bd.method).1
  have X0 : Stand p l e room_1 s m #[(.int p1)] below meth c s₁ [] 0 0 := Stand.of_body Bd
  have e0 : s₁.heap = h0 := by rw [← hh, Bd.state]; rfl
  have N0 := Fr.nil n0
  have pre0 : ∀ t, Steps p.tables e below (s₁.setTop (mkF m 0 #[.val (.int p1), .unset, .unset, .unset] [])) t → Steps p.tables e below (s₁.setTop (entryFrame m #[(.int p1)] maxLocals)) t := fun t k => castTop (ef_code_I m p1) k
  have P0 := P; obtain ⟨S0, E0, F0_ordinal, S1, E1, F1_ordinal, S2, E2, F2_ordinal, S3, E3, F3_ordinal, S4, E4, F4_ordinal, S5, E5, F5_ordinal, S6, E6, F6_ordinal, S7, E7, F7_ordinal, S8, E8, F8_ordinal, S9, E9, F9_ordinal, S10, E10, F10_ordinal, S11, E11, F11_ordinal, S12, E12, F12_ordinal, S13, E13, F13_ordinal, S14, E14, F14_ordinal, S15, E15, F15_ordinal, S16, E16, F16_ordinal, S17, E17, F17_ordinal, S18, E18, F18_ordinal, S19, E19, F19_ordinal, S20, E20, F20_ordinal, S21, E21, F21_ordinal, S22, E22, F22_ordinal, S23, E23, F23_ordinal⟩ := P0
  obtain ⟨_, _, ⟨T101, L101, k101, n101⟩, -, X101, ⟨Lc101, hQ101, l101, y101, z101⟩, st101⟩ := Jvm.LawKit.callS X0 hx (y := (⟨"apportion/io/DataTypeIsDecimalPinLaw", "pick", "(I)Lapportion/io/DataType;"⟩ : MethodName)) hown (mvT hZ (hw _ (List.mem_of_getElem? (i := 1) rfl))) (mvT hZ (hw _ (List.mem_of_getElem? (i := 2) rfl))) (mvT hZ (hw _ (List.mem_of_getElem? (i := 3) rfl))) (mvT hZ (hw _ (List.mem_of_getElem? (i := 4) rfl))) (by decide) (backOf (W := 0) (own_pick_14 l Z a0 hw [] w0 w1 w2 w3 w4 w5 w6 w7 w8 w9 w10 w11 w12 w13 w14 w15 w16 w17 w18 w19 w20 w21 w22 w23 h0 n0 Z0 P) hZ (hw _ (List.mem_of_getElem? (i := 4) rfl)) (hw _ (List.mem_of_getElem? (i := 3) rfl)) (by decide) (by decide)) (g := (mkF m 9 #[.val (.int p1), .val (.int (14 : Int32)), .unset, .unset] [(.int (14 : Int32))])) rfl (by rw [hml]; rfl) (argsL := [(.int (14 : Int32))]) (rest := []) (lenOf pd__I_Lapportion_io_DataType_ rfl) rfl (by show 2 * 0 + _ ≤ _; exact Nat.le_of_eq rfl) (hb hby at_9) (fun _ _ => ⟨rfl, e0, (by decide : 0 + 0 ≤ _), (by decide : 0 + 0 ≤ _)⟩)
  dsimp only [Pt.U, Pt.locs, Pt.cells, Pt.slots] at X101 l101 y101 z101 st101 hQ101
  subst l101 y101 z101
  obtain ⟨rfl, N101q, e101⟩ := hQ101
  have N101 := Fr.app N0 N101q
  obtain ⟨cq102, kq102, q102a, q102b, q102c⟩ := isOf hZ e101 E2
  obtain ⟨_, _, ⟨T102, L102, k102, n102⟩, -, X102, ⟨Lc102, hQ102, l102, y102, z102⟩, st102⟩ := X101.virtualBack hx (y := (⟨"apportion/io/DataType", "isDecimal", "()Z"⟩ : MethodName)) (z := (⟨"apportion/io/DataType", "isDecimal", "()Z"⟩ : MethodName)) hown (mvT hZ (hw _ (List.mem_of_getElem? (i := 8) rfl))) (mvT hZ (hw _ (List.mem_of_getElem? (i := 9) rfl))) (notFace_of_selects (args := #[]) (mvT hZ (hw _ (List.mem_of_getElem? (i := 11) rfl)))) (mvT hZ (hw _ (List.mem_of_getElem? (i := 11) rfl))) (mvT hZ (hw _ (List.mem_of_getElem? (i := 10) rfl))) (by decide) (backOf (W := 0) (own_isDecimal_2 l Z a0 hw [] w0 w1 w2 w3 w4 w5 w6 w7 w8 w9 w10 w11 w12 w13 w14 w15 w16 w17 w18 w19 w20 w21 w22 w23 h0 n0 Z0 P) hZ (hw _ (List.mem_of_getElem? (i := 12) rfl)) (hw _ (List.mem_of_getElem? (i := 6) rfl)) (by decide) (by decide)) q102a q102c (g := (mkF m 32 #[.val (.int p1), .val (.int (14 : Int32)), .val (.ref w2), .val (.int (0 : Int32))] [(.ref w2)])) rfl (by rw [hml]; rfl) (Steps.refl _) (argsL := []) (rest := []) (lenOf pd___Z rfl) rfl (by show 2 * 0 + _ ≤ _; exact Nat.le_of_eq rfl) (hb hby at_32) (fun _ _ => ⟨rfl, e101, (by decide : 0 + 0 ≤ _), (by decide : 0 + 0 ≤ _)⟩)
  dsimp only [Pt.U, Pt.locs, Pt.cells, Pt.slots] at X102 l102 y102 z102 st102 hQ102
  subst l102 y102 z102
  obtain ⟨rfl, N102q, e102⟩ := hQ102
  have N102 := Fr.app N101 N102q
  obtain ⟨fs, hr, hrun, hended, hW, hsame⟩ := X102.leave (v := some (.int (1 : Int32))) (fun h => by rw [Bd.returns] at h; cases h)
  refine ⟨_, _, pre0 _ ?_, hrun, hended, _, _, rfl, ?_, ⟨_, rfl⟩, hW, hsame.mono (by decide) (by decide)⟩
  · show Steps p.tables e below (s₁.setTop (mkF m 0 #[.val (.int p1), .unset, .unset, .unset] [])) _
    refine XS.iloadN X0.here hx rfl (hb hby at_0) rfl ?_
    show Steps p.tables e below (s₁.setTop (mkF m 1 #[.val (.int p1), .unset, .unset, .unset] [(.int p1)])) _
    refine Jvm.Stand.ldcI X0 hx hown (mvT hZ (hw _ (List.mem_of_getElem? (i := 0) rfl))) rfl (hb hby at_1) ?_
    show Steps p.tables e below (s₁.setTop (mkF m 3 #[.val (.int p1), .unset, .unset, .unset] [(.int (2147483647 : Int32)), (.int p1)])) _
    refine XS.iand X0.here hx rfl (hb hby at_3) rfl ?_
    show Steps p.tables e below (s₁.setTop (mkF m 4 #[.val (.int p1), .unset, .unset, .unset] [(.int (p1 &&& (2147483647 : Int32)))])) _
    refine XT.bipushV X0.here hx rfl (24 : Int32) (hb hby at_4) (by decide) ?_
    show Steps p.tables e below (s₁.setTop (mkF m 6 #[.val (.int p1), .unset, .unset, .unset] [(.int (24 : Int32)), (.int (p1 &&& (2147483647 : Int32)))])) _
    refine iremM X0 hx rfl (hb hby at_6) rfl (by decide) ?_
    show Steps p.tables e below (s₁.setTop (mkF m 7 #[.val (.int p1), .unset, .unset, .unset] [(.int ((p1 &&& (2147483647 : Int32)) % (24 : Int32)))])) _
    rw [hk]
    show Steps p.tables e below (s₁.setTop (mkF m 7 #[.val (.int p1), .unset, .unset, .unset] [(.int (14 : Int32))])) _
    refine XS.istoreN X0.here hx rfl (hb hby at_7) rfl (l' := #[.val (.int p1), .val (.int (14 : Int32)), .unset, .unset]) rfl ?_
    show Steps p.tables e below (s₁.setTop (mkF m 8 #[.val (.int p1), .val (.int (14 : Int32)), .unset, .unset] [])) _
    refine XS.iloadN X0.here hx rfl (hb hby at_8) rfl ?_
    show Steps p.tables e below (s₁.setTop (mkF m 9 #[.val (.int p1), .val (.int (14 : Int32)), .unset, .unset] [(.int (14 : Int32))])) _
    refine st101 _ ?_
    show Steps p.tables e below (T101.setTop (mkF m 12 #[.val (.int p1), .val (.int (14 : Int32)), .unset, .unset] [(.ref w2)])) _
    refine XS.astoreN X101.here hx rfl (hb hby at_12) rfl rfl (l' := #[.val (.int p1), .val (.int (14 : Int32)), .val (.ref w2), .unset]) rfl ?_
    show Steps p.tables e below (T101.setTop (mkF m 13 #[.val (.int p1), .val (.int (14 : Int32)), .val (.ref w2), .unset] [])) _
    refine XS.iloadN X101.here hx rfl (hb hby at_13) rfl ?_
    show Steps p.tables e below (T101.setTop (mkF m 14 #[.val (.int p1), .val (.int (14 : Int32)), .val (.ref w2), .unset] [(.int (14 : Int32))])) _
    refine XT.bipushV X101.here hx rfl (8 : Int32) (hb hby at_14) (by decide) ?_
    show Steps p.tables e below (T101.setTop (mkF m 16 #[.val (.int p1), .val (.int (14 : Int32)), .val (.ref w2), .unset] [(.int (8 : Int32)), (.int (14 : Int32))])) _
    refine XS.icmpNo X101.here hx rfl (hb hby at_16) rfl (by decide) ?_
    show Steps p.tables e below (T101.setTop (mkF m 19 #[.val (.int p1), .val (.int (14 : Int32)), .val (.ref w2), .unset] [])) _
    refine XS.iloadN X101.here hx rfl (hb hby at_19) rfl ?_
    show Steps p.tables e below (T101.setTop (mkF m 20 #[.val (.int p1), .val (.int (14 : Int32)), .val (.ref w2), .unset] [(.int (14 : Int32))])) _
    refine XT.bipushV X101.here hx rfl (13 : Int32) (hb hby at_20) (by decide) ?_
    show Steps p.tables e below (T101.setTop (mkF m 22 #[.val (.int p1), .val (.int (14 : Int32)), .val (.ref w2), .unset] [(.int (13 : Int32)), (.int (14 : Int32))])) _
    refine XS.icmpYes X101.here hx rfl (pc0 := 22) (pc' := 29) rfl (hb hby at_22) rfl (by decide) (by decide) (by decide) ?_
    show Steps p.tables e below (T101.setTop (mkF m 29 #[.val (.int p1), .val (.int (14 : Int32)), .val (.ref w2), .unset] [])) _
    refine XT.iconstV X101.here hx rfl (0 : Int32) (hb hby at_29) rfl ?_
    show Steps p.tables e below (T101.setTop (mkF m 30 #[.val (.int p1), .val (.int (14 : Int32)), .val (.ref w2), .unset] [(.int (0 : Int32))])) _
    refine XS.istoreN X101.here hx rfl (hb hby at_30) rfl (l' := #[.val (.int p1), .val (.int (14 : Int32)), .val (.ref w2), .val (.int (0 : Int32))]) rfl ?_
    show Steps p.tables e below (T101.setTop (mkF m 31 #[.val (.int p1), .val (.int (14 : Int32)), .val (.ref w2), .val (.int (0 : Int32))] [])) _
    refine XS.aloadN X101.here hx rfl (hb hby at_31) rfl rfl ?_
    show Steps p.tables e below (T101.setTop (mkF m 32 #[.val (.int p1), .val (.int (14 : Int32)), .val (.ref w2), .val (.int (0 : Int32))] [(.ref w2)])) _
    refine st102.trans ?_
    show Steps p.tables e below (T102.setTop (mkF m 35 #[.val (.int p1), .val (.int (14 : Int32)), .val (.ref w2), .val (.int (0 : Int32))] [(.int (0 : Int32))])) _
    refine XS.iloadN X102.here hx rfl (hb hby at_35) rfl ?_
    show Steps p.tables e below (T102.setTop (mkF m 36 #[.val (.int p1), .val (.int (14 : Int32)), .val (.ref w2), .val (.int (0 : Int32))] [(.int (0 : Int32)), (.int (0 : Int32))])) _
    refine XS.icmpNo X102.here hx rfl (hb hby at_36) rfl (by decide) ?_
    show Steps p.tables e below (T102.setTop (mkF m 39 #[.val (.int p1), .val (.int (14 : Int32)), .val (.ref w2), .val (.int (0 : Int32))] [])) _
    refine XT.iconstV X102.here hx rfl (1 : Int32) (hb hby at_39) rfl ?_
    show Steps p.tables e below (T102.setTop (mkF m 40 #[.val (.int p1), .val (.int (14 : Int32)), .val (.ref w2), .val (.int (0 : Int32))] [(.int (1 : Int32))])) _
    refine XS.goto X102.here hx rfl (pc0 := 40) (pc' := 44) rfl (hb hby at_40) (by decide) (by decide) ?_
    show Steps p.tables e below (T102.setTop (mkF m 44 #[.val (.int p1), .val (.int (14 : Int32)), .val (.ref w2), .val (.int (0 : Int32))] [(.int (1 : Int32))])) _
    exact retN X102 hx (t := .boolean) Bd.returns (by simp) (hb hby at_44) hr
  · show own_Q0 n0 _ T102.heap _
    exact ⟨rfl, N102⟩
set_option maxRecDepth 65536 in
set_option maxHeartbeats 40000000 in
theorem own_law_15 (l : Launch) (Z : State) (a0 : Array Value) (hw : ∀ d ∈ tables_1, d.before a0 Z = true) (ws : List Jvm.Cond) (p1 : Int32) (w0 w1 w2 w3 w4 w5 w6 w7 w8 w9 w10 w11 w12 w13 w14 w15 w16 w17 w18 w19 w20 w21 w22 w23 : Addr) (h0 : Heap) (n0 : Nat) (Z0 : n0 ≤ h0.size) (P : own_P Z h0 w0 w1 w2 w3 w4 w5 w6 w7 w8 w9 w10 w11 w12 w13 w14 w15 w16 w17 w18 w19 w20 w21 w22 w23) (hk : ((p1 &&& (2147483647 : Int32)) % (24 : Int32)) = (15 : Int32)) :
    MetFree l x (head1 (Jvm.Cond.code x code maxLocals ret :: ws) room_1) (fun a U => a = #[(.int p1)] ∧ Z.Warmed39 U.vm ∧ U.heap = h0) (fun _ _ _ _ _ => True) (fun _ U o U' => ∃ v L, o = .returned v ∧ own_Q0 n0 v U'.heap L ∧ FrameEnd U o U' L room_1.cells room_1.slots) := by
  refine MetFree.of_bodySF (plainFor_of_name pn_apportion_io_DataTypeIsDecimalPinLaw) hisR ?_
  intro p e s m args below meth c s₁ Bd hml0 hP hK
  obtain ⟨rfl, hZ, hh⟩ := hP
  have hx := Bd.exec
  have hby := Bd.bytes
  have hml : c.maxLocals = 4 := hml0
  have hown : s.vm.findClass "apportion/io/DataTypeIsDecimalPinLaw" = some m.cls := findClass_of_methodNamed Bd.named
  have hnm := (name_of_methodNamed Bd.named Bd.method).1
  have X0 : Stand p l e room_1 s m #[(.int p1)] below meth c s₁ [] 0 0 := Stand.of_body Bd
  have e0 : s₁.heap = h0 := by rw [← hh, Bd.state]; rfl
  have N0 := Fr.nil n0
  have pre0 : ∀ t, Steps p.tables e below (s₁.setTop (mkF m 0 #[.val (.int p1), .unset, .unset, .unset] [])) t → Steps p.tables e below (s₁.setTop (entryFrame m #[(.int p1)] maxLocals)) t := fun t k => castTop (ef_code_I m p1) k
  have P0 := P; obtain ⟨S0, E0, F0_ordinal, S1, E1, F1_ordinal, S2, E2, F2_ordinal, S3, E3, F3_ordinal, S4, E4, F4_ordinal, S5, E5, F5_ordinal, S6, E6, F6_ordinal, S7, E7, F7_ordinal, S8, E8, F8_ordinal, S9, E9, F9_ordinal, S10, E10, F10_ordinal, S11, E11, F11_ordinal, S12, E12, F12_ordinal, S13, E13, F13_ordinal, S14, E14, F14_ordinal, S15, E15, F15_ordinal, S16, E16, F16_ordinal, S17, E17, F17_ordinal, S18, E18, F18_ordinal, S19, E19, F19_ordinal, S20, E20, F20_ordinal, S21, E21, F21_ordinal, S22, E22, F22_ordinal, S23, E23, F23_ordinal⟩ := P0
  obtain ⟨_, _, ⟨T103, L103, k103, n103⟩, -, X103, ⟨Lc103, hQ103, l103, y103, z103⟩, st103⟩ := Jvm.LawKit.callS X0 hx (y := (⟨"apportion/io/DataTypeIsDecimalPinLaw", "pick", "(I)Lapportion/io/DataType;"⟩ : MethodName)) hown (mvT hZ (hw _ (List.mem_of_getElem? (i := 1) rfl))) (mvT hZ (hw _ (List.mem_of_getElem? (i := 2) rfl))) (mvT hZ (hw _ (List.mem_of_getElem? (i := 3) rfl))) (mvT hZ (hw _ (List.mem_of_getElem? (i := 4) rfl))) (by decide) (backOf (W := 0) (own_pick_15 l Z a0 hw [] w0 w1 w2 w3 w4 w5 w6 w7 w8 w9 w10 w11 w12 w13 w14 w15 w16 w17 w18 w19 w20 w21 w22 w23 h0 n0 Z0 P) hZ (hw _ (List.mem_of_getElem? (i := 4) rfl)) (hw _ (List.mem_of_getElem? (i := 3) rfl)) (by decide) (by decide)) (g := (mkF m 9 #[.val (.int p1), .val (.int (15 : Int32)), .unset, .unset] [(.int (15 : Int32))])) rfl (by rw [hml]; rfl) (argsL := [(.int (15 : Int32))]) (rest := []) (lenOf pd__I_Lapportion_io_DataType_ rfl) rfl (by show 2 * 0 + _ ≤ _; exact Nat.le_of_eq rfl) (hb hby at_9) (fun _ _ => ⟨rfl, e0, (by decide : 0 + 0 ≤ _), (by decide : 0 + 0 ≤ _)⟩)
  dsimp only [Pt.U, Pt.locs, Pt.cells, Pt.slots] at X103 l103 y103 z103 st103 hQ103
  subst l103 y103 z103
  obtain ⟨rfl, N103q, e103⟩ := hQ103
  have N103 := Fr.app N0 N103q
  obtain ⟨cq104, kq104, q104a, q104b, q104c⟩ := isOf hZ e103 E4
  obtain ⟨_, _, ⟨T104, L104, k104, n104⟩, -, X104, ⟨Lc104, hQ104, l104, y104, z104⟩, st104⟩ := X103.virtualBack hx (y := (⟨"apportion/io/DataType", "isDecimal", "()Z"⟩ : MethodName)) (z := (⟨"apportion/io/DataType", "isDecimal", "()Z"⟩ : MethodName)) hown (mvT hZ (hw _ (List.mem_of_getElem? (i := 8) rfl))) (mvT hZ (hw _ (List.mem_of_getElem? (i := 9) rfl))) (notFace_of_selects (args := #[]) (mvT hZ (hw _ (List.mem_of_getElem? (i := 11) rfl)))) (mvT hZ (hw _ (List.mem_of_getElem? (i := 11) rfl))) (mvT hZ (hw _ (List.mem_of_getElem? (i := 10) rfl))) (by decide) (backOf (W := 0) (own_isDecimal_4 l Z a0 hw [] w0 w1 w2 w3 w4 w5 w6 w7 w8 w9 w10 w11 w12 w13 w14 w15 w16 w17 w18 w19 w20 w21 w22 w23 h0 n0 Z0 P) hZ (hw _ (List.mem_of_getElem? (i := 12) rfl)) (hw _ (List.mem_of_getElem? (i := 6) rfl)) (by decide) (by decide)) q104a q104c (g := (mkF m 32 #[.val (.int p1), .val (.int (15 : Int32)), .val (.ref w4), .val (.int (0 : Int32))] [(.ref w4)])) rfl (by rw [hml]; rfl) (Steps.refl _) (argsL := []) (rest := []) (lenOf pd___Z rfl) rfl (by show 2 * 0 + _ ≤ _; exact Nat.le_of_eq rfl) (hb hby at_32) (fun _ _ => ⟨rfl, e103, (by decide : 0 + 0 ≤ _), (by decide : 0 + 0 ≤ _)⟩)
  dsimp only [Pt.U, Pt.locs, Pt.cells, Pt.slots] at X104 l104 y104 z104 st104 hQ104
  subst l104 y104 z104
  obtain ⟨rfl, N104q, e104⟩ := hQ104
  have N104 := Fr.app N103 N104q
  obtain ⟨fs, hr, hrun, hended, hW, hsame⟩ := X104.leave (v := some (.int (1 : Int32))) (fun h => by rw [Bd.returns] at h; cases h)
  refine ⟨_, _, pre0 _ ?_, hrun, hended, _, _, rfl, ?_, ⟨_, rfl⟩, hW, hsame.mono (by decide) (by decide)⟩
  · show Steps p.tables e below (s₁.setTop (mkF m 0 #[.val (.int p1), .unset, .unset, .unset] [])) _
    refine XS.iloadN X0.here hx rfl (hb hby at_0) rfl ?_
    show Steps p.tables e below (s₁.setTop (mkF m 1 #[.val (.int p1), .unset, .unset, .unset] [(.int p1)])) _
    refine Jvm.Stand.ldcI X0 hx hown (mvT hZ (hw _ (List.mem_of_getElem? (i := 0) rfl))) rfl (hb hby at_1) ?_
    show Steps p.tables e below (s₁.setTop (mkF m 3 #[.val (.int p1), .unset, .unset, .unset] [(.int (2147483647 : Int32)), (.int p1)])) _
    refine XS.iand X0.here hx rfl (hb hby at_3) rfl ?_
    show Steps p.tables e below (s₁.setTop (mkF m 4 #[.val (.int p1), .unset, .unset, .unset] [(.int (p1 &&& (2147483647 : Int32)))])) _
    refine XT.bipushV X0.here hx rfl (24 : Int32) (hb hby at_4) (by decide) ?_
    show Steps p.tables e below (s₁.setTop (mkF m 6 #[.val (.int p1), .unset, .unset, .unset] [(.int (24 : Int32)), (.int (p1 &&& (2147483647 : Int32)))])) _
    refine iremM X0 hx rfl (hb hby at_6) rfl (by decide) ?_
    show Steps p.tables e below (s₁.setTop (mkF m 7 #[.val (.int p1), .unset, .unset, .unset] [(.int ((p1 &&& (2147483647 : Int32)) % (24 : Int32)))])) _
    rw [hk]
    show Steps p.tables e below (s₁.setTop (mkF m 7 #[.val (.int p1), .unset, .unset, .unset] [(.int (15 : Int32))])) _
    refine XS.istoreN X0.here hx rfl (hb hby at_7) rfl (l' := #[.val (.int p1), .val (.int (15 : Int32)), .unset, .unset]) rfl ?_
    show Steps p.tables e below (s₁.setTop (mkF m 8 #[.val (.int p1), .val (.int (15 : Int32)), .unset, .unset] [])) _
    refine XS.iloadN X0.here hx rfl (hb hby at_8) rfl ?_
    show Steps p.tables e below (s₁.setTop (mkF m 9 #[.val (.int p1), .val (.int (15 : Int32)), .unset, .unset] [(.int (15 : Int32))])) _
    refine st103 _ ?_
    show Steps p.tables e below (T103.setTop (mkF m 12 #[.val (.int p1), .val (.int (15 : Int32)), .unset, .unset] [(.ref w4)])) _
    refine XS.astoreN X103.here hx rfl (hb hby at_12) rfl rfl (l' := #[.val (.int p1), .val (.int (15 : Int32)), .val (.ref w4), .unset]) rfl ?_
    show Steps p.tables e below (T103.setTop (mkF m 13 #[.val (.int p1), .val (.int (15 : Int32)), .val (.ref w4), .unset] [])) _
    refine XS.iloadN X103.here hx rfl (hb hby at_13) rfl ?_
    show Steps p.tables e below (T103.setTop (mkF m 14 #[.val (.int p1), .val (.int (15 : Int32)), .val (.ref w4), .unset] [(.int (15 : Int32))])) _
    refine XT.bipushV X103.here hx rfl (8 : Int32) (hb hby at_14) (by decide) ?_
    show Steps p.tables e below (T103.setTop (mkF m 16 #[.val (.int p1), .val (.int (15 : Int32)), .val (.ref w4), .unset] [(.int (8 : Int32)), (.int (15 : Int32))])) _
    refine XS.icmpNo X103.here hx rfl (hb hby at_16) rfl (by decide) ?_
    show Steps p.tables e below (T103.setTop (mkF m 19 #[.val (.int p1), .val (.int (15 : Int32)), .val (.ref w4), .unset] [])) _
    refine XS.iloadN X103.here hx rfl (hb hby at_19) rfl ?_
    show Steps p.tables e below (T103.setTop (mkF m 20 #[.val (.int p1), .val (.int (15 : Int32)), .val (.ref w4), .unset] [(.int (15 : Int32))])) _
    refine XT.bipushV X103.here hx rfl (13 : Int32) (hb hby at_20) (by decide) ?_
    show Steps p.tables e below (T103.setTop (mkF m 22 #[.val (.int p1), .val (.int (15 : Int32)), .val (.ref w4), .unset] [(.int (13 : Int32)), (.int (15 : Int32))])) _
    refine XS.icmpYes X103.here hx rfl (pc0 := 22) (pc' := 29) rfl (hb hby at_22) rfl (by decide) (by decide) (by decide) ?_
    show Steps p.tables e below (T103.setTop (mkF m 29 #[.val (.int p1), .val (.int (15 : Int32)), .val (.ref w4), .unset] [])) _
    refine XT.iconstV X103.here hx rfl (0 : Int32) (hb hby at_29) rfl ?_
    show Steps p.tables e below (T103.setTop (mkF m 30 #[.val (.int p1), .val (.int (15 : Int32)), .val (.ref w4), .unset] [(.int (0 : Int32))])) _
    refine XS.istoreN X103.here hx rfl (hb hby at_30) rfl (l' := #[.val (.int p1), .val (.int (15 : Int32)), .val (.ref w4), .val (.int (0 : Int32))]) rfl ?_
    show Steps p.tables e below (T103.setTop (mkF m 31 #[.val (.int p1), .val (.int (15 : Int32)), .val (.ref w4), .val (.int (0 : Int32))] [])) _
    refine XS.aloadN X103.here hx rfl (hb hby at_31) rfl rfl ?_
    show Steps p.tables e below (T103.setTop (mkF m 32 #[.val (.int p1), .val (.int (15 : Int32)), .val (.ref w4), .val (.int (0 : Int32))] [(.ref w4)])) _
    refine st104.trans ?_
    show Steps p.tables e below (T104.setTop (mkF m 35 #[.val (.int p1), .val (.int (15 : Int32)), .val (.ref w4), .val (.int (0 : Int32))] [(.int (0 : Int32))])) _
    refine XS.iloadN X104.here hx rfl (hb hby at_35) rfl ?_
    show Steps p.tables e below (T104.setTop (mkF m 36 #[.val (.int p1), .val (.int (15 : Int32)), .val (.ref w4), .val (.int (0 : Int32))] [(.int (0 : Int32)), (.int (0 : Int32))])) _
    refine XS.icmpNo X104.here hx rfl (hb hby at_36) rfl (by decide) ?_
    show Steps p.tables e below (T104.setTop (mkF m 39 #[.val (.int p1), .val (.int (15 : Int32)), .val (.ref w4), .val (.int (0 : Int32))] [])) _
    refine XT.iconstV X104.here hx rfl (1 : Int32) (hb hby at_39) rfl ?_
    show Steps p.tables e below (T104.setTop (mkF m 40 #[.val (.int p1), .val (.int (15 : Int32)), .val (.ref w4), .val (.int (0 : Int32))] [(.int (1 : Int32))])) _
    refine XS.goto X104.here hx rfl (pc0 := 40) (pc' := 44) rfl (hb hby at_40) (by decide) (by decide) ?_
    show Steps p.tables e below (T104.setTop (mkF m 44 #[.val (.int p1), .val (.int (15 : Int32)), .val (.ref w4), .val (.int (0 : Int32))] [(.int (1 : Int32))])) _
    exact retN X104 hx (t := .boolean) Bd.returns (by simp) (hb hby at_44) hr
  · show own_Q0 n0 _ T104.heap _
    exact ⟨rfl, N104⟩
set_option maxRecDepth 65536 in
set_option maxHeartbeats 40000000 in
theorem own_law_16 (l : Launch) (Z : State) (a0 : Array Value) (hw : ∀ d ∈ tables_1, d.before a0 Z = true) (ws : List Jvm.Cond) (p1 : Int32) (w0 w1 w2 w3 w4 w5 w6 w7 w8 w9 w10 w11 w12 w13 w14 w15 w16 w17 w18 w19 w20 w21 w22 w23 : Addr) (h0 : Heap) (n0 : Nat) (Z0 : n0 ≤ h0.size) (P : own_P Z h0 w0 w1 w2 w3 w4 w5 w6 w7 w8 w9 w10 w11 w12 w13 w14 w15 w16 w17 w18 w19 w20 w21 w22 w23) (hk : ((p1 &&& (2147483647 : Int32)) % (24 : Int32)) = (16 : Int32)) :
    MetFree l x (head1 (Jvm.Cond.code x code maxLocals ret :: ws) room_1) (fun a U => a = #[(.int p1)] ∧ Z.Warmed39 U.vm ∧ U.heap = h0) (fun _ _ _ _ _ => True) (fun _ U o U' => ∃ v L, o = .returned v ∧ own_Q0 n0 v U'.heap L ∧ FrameEnd U o U' L room_1.cells room_1.slots) := by
  refine MetFree.of_bodySF (plainFor_of_name pn_apportion_io_DataTypeIsDecimalPinLaw) hisR ?_
  intro p e s m args below meth c s₁ Bd hml0 hP hK
  obtain ⟨rfl, hZ, hh⟩ := hP
  have hx := Bd.exec
  have hby := Bd.bytes
  have hml : c.maxLocals = 4 := hml0
  have hown : s.vm.findClass "apportion/io/DataTypeIsDecimalPinLaw" = some m.cls := findClass_of_methodNamed Bd.named
  have hnm := (name_of_methodNamed Bd.named Bd.method).1
  have X0 : Stand p l e room_1 s m #[(.int p1)] below meth c s₁ [] 0 0 := Stand.of_body Bd
  have e0 : s₁.heap = h0 := by rw [← hh, Bd.state]; rfl
  have N0 := Fr.nil n0
  have pre0 : ∀ t, Steps p.tables e below (s₁.setTop (mkF m 0 #[.val (.int p1), .unset, .unset, .unset] [])) t → Steps p.tables e below (s₁.setTop (entryFrame m #[(.int p1)] maxLocals)) t := fun t k => castTop (ef_code_I m p1) k
  have P0 := P; obtain ⟨S0, E0, F0_ordinal, S1, E1, F1_ordinal, S2, E2, F2_ordinal, S3, E3, F3_ordinal, S4, E4, F4_ordinal, S5, E5, F5_ordinal, S6, E6, F6_ordinal, S7, E7, F7_ordinal, S8, E8, F8_ordinal, S9, E9, F9_ordinal, S10, E10, F10_ordinal, S11, E11, F11_ordinal, S12, E12, F12_ordinal, S13, E13, F13_ordinal, S14, E14, F14_ordinal, S15, E15, F15_ordinal, S16, E16, F16_ordinal, S17, E17, F17_ordinal, S18, E18, F18_ordinal, S19, E19, F19_ordinal, S20, E20, F20_ordinal, S21, E21, F21_ordinal, S22, E22, F22_ordinal, S23, E23, F23_ordinal⟩ := P0
  obtain ⟨_, _, ⟨T105, L105, k105, n105⟩, -, X105, ⟨Lc105, hQ105, l105, y105, z105⟩, st105⟩ := Jvm.LawKit.callS X0 hx (y := (⟨"apportion/io/DataTypeIsDecimalPinLaw", "pick", "(I)Lapportion/io/DataType;"⟩ : MethodName)) hown (mvT hZ (hw _ (List.mem_of_getElem? (i := 1) rfl))) (mvT hZ (hw _ (List.mem_of_getElem? (i := 2) rfl))) (mvT hZ (hw _ (List.mem_of_getElem? (i := 3) rfl))) (mvT hZ (hw _ (List.mem_of_getElem? (i := 4) rfl))) (by decide) (backOf (W := 0) (own_pick_16 l Z a0 hw [] w0 w1 w2 w3 w4 w5 w6 w7 w8 w9 w10 w11 w12 w13 w14 w15 w16 w17 w18 w19 w20 w21 w22 w23 h0 n0 Z0 P) hZ (hw _ (List.mem_of_getElem? (i := 4) rfl)) (hw _ (List.mem_of_getElem? (i := 3) rfl)) (by decide) (by decide)) (g := (mkF m 9 #[.val (.int p1), .val (.int (16 : Int32)), .unset, .unset] [(.int (16 : Int32))])) rfl (by rw [hml]; rfl) (argsL := [(.int (16 : Int32))]) (rest := []) (lenOf pd__I_Lapportion_io_DataType_ rfl) rfl (by show 2 * 0 + _ ≤ _; exact Nat.le_of_eq rfl) (hb hby at_9) (fun _ _ => ⟨rfl, e0, (by decide : 0 + 0 ≤ _), (by decide : 0 + 0 ≤ _)⟩)
  dsimp only [Pt.U, Pt.locs, Pt.cells, Pt.slots] at X105 l105 y105 z105 st105 hQ105
  subst l105 y105 z105
  obtain ⟨rfl, N105q, e105⟩ := hQ105
  have N105 := Fr.app N0 N105q
  obtain ⟨cq106, kq106, q106a, q106b, q106c⟩ := isOf hZ e105 E8
  obtain ⟨_, _, ⟨T106, L106, k106, n106⟩, -, X106, ⟨Lc106, hQ106, l106, y106, z106⟩, st106⟩ := X105.virtualBack hx (y := (⟨"apportion/io/DataType", "isDecimal", "()Z"⟩ : MethodName)) (z := (⟨"apportion/io/DataType", "isDecimal", "()Z"⟩ : MethodName)) hown (mvT hZ (hw _ (List.mem_of_getElem? (i := 8) rfl))) (mvT hZ (hw _ (List.mem_of_getElem? (i := 9) rfl))) (notFace_of_selects (args := #[]) (mvT hZ (hw _ (List.mem_of_getElem? (i := 11) rfl)))) (mvT hZ (hw _ (List.mem_of_getElem? (i := 11) rfl))) (mvT hZ (hw _ (List.mem_of_getElem? (i := 10) rfl))) (by decide) (backOf (W := 0) (own_isDecimal_8 l Z a0 hw [] w0 w1 w2 w3 w4 w5 w6 w7 w8 w9 w10 w11 w12 w13 w14 w15 w16 w17 w18 w19 w20 w21 w22 w23 h0 n0 Z0 P) hZ (hw _ (List.mem_of_getElem? (i := 12) rfl)) (hw _ (List.mem_of_getElem? (i := 6) rfl)) (by decide) (by decide)) q106a q106c (g := (mkF m 32 #[.val (.int p1), .val (.int (16 : Int32)), .val (.ref w8), .val (.int (0 : Int32))] [(.ref w8)])) rfl (by rw [hml]; rfl) (Steps.refl _) (argsL := []) (rest := []) (lenOf pd___Z rfl) rfl (by show 2 * 0 + _ ≤ _; exact Nat.le_of_eq rfl) (hb hby at_32) (fun _ _ => ⟨rfl, e105, (by decide : 0 + 0 ≤ _), (by decide : 0 + 0 ≤ _)⟩)
  dsimp only [Pt.U, Pt.locs, Pt.cells, Pt.slots] at X106 l106 y106 z106 st106 hQ106
  subst l106 y106 z106
  obtain ⟨rfl, N106q, e106⟩ := hQ106
  have N106 := Fr.app N105 N106q
  obtain ⟨fs, hr, hrun, hended, hW, hsame⟩ := X106.leave (v := some (.int (1 : Int32))) (fun h => by rw [Bd.returns] at h; cases h)
  refine ⟨_, _, pre0 _ ?_, hrun, hended, _, _, rfl, ?_, ⟨_, rfl⟩, hW, hsame.mono (by decide) (by decide)⟩
  · show Steps p.tables e below (s₁.setTop (mkF m 0 #[.val (.int p1), .unset, .unset, .unset] [])) _
    refine XS.iloadN X0.here hx rfl (hb hby at_0) rfl ?_
    show Steps p.tables e below (s₁.setTop (mkF m 1 #[.val (.int p1), .unset, .unset, .unset] [(.int p1)])) _
    refine Jvm.Stand.ldcI X0 hx hown (mvT hZ (hw _ (List.mem_of_getElem? (i := 0) rfl))) rfl (hb hby at_1) ?_
    show Steps p.tables e below (s₁.setTop (mkF m 3 #[.val (.int p1), .unset, .unset, .unset] [(.int (2147483647 : Int32)), (.int p1)])) _
    refine XS.iand X0.here hx rfl (hb hby at_3) rfl ?_
    show Steps p.tables e below (s₁.setTop (mkF m 4 #[.val (.int p1), .unset, .unset, .unset] [(.int (p1 &&& (2147483647 : Int32)))])) _
    refine XT.bipushV X0.here hx rfl (24 : Int32) (hb hby at_4) (by decide) ?_
    show Steps p.tables e below (s₁.setTop (mkF m 6 #[.val (.int p1), .unset, .unset, .unset] [(.int (24 : Int32)), (.int (p1 &&& (2147483647 : Int32)))])) _
    refine iremM X0 hx rfl (hb hby at_6) rfl (by decide) ?_
    show Steps p.tables e below (s₁.setTop (mkF m 7 #[.val (.int p1), .unset, .unset, .unset] [(.int ((p1 &&& (2147483647 : Int32)) % (24 : Int32)))])) _
    rw [hk]
    show Steps p.tables e below (s₁.setTop (mkF m 7 #[.val (.int p1), .unset, .unset, .unset] [(.int (16 : Int32))])) _
    refine XS.istoreN X0.here hx rfl (hb hby at_7) rfl (l' := #[.val (.int p1), .val (.int (16 : Int32)), .unset, .unset]) rfl ?_
    show Steps p.tables e below (s₁.setTop (mkF m 8 #[.val (.int p1), .val (.int (16 : Int32)), .unset, .unset] [])) _
    refine XS.iloadN X0.here hx rfl (hb hby at_8) rfl ?_
    show Steps p.tables e below (s₁.setTop (mkF m 9 #[.val (.int p1), .val (.int (16 : Int32)), .unset, .unset] [(.int (16 : Int32))])) _
    refine st105 _ ?_
    show Steps p.tables e below (T105.setTop (mkF m 12 #[.val (.int p1), .val (.int (16 : Int32)), .unset, .unset] [(.ref w8)])) _
    refine XS.astoreN X105.here hx rfl (hb hby at_12) rfl rfl (l' := #[.val (.int p1), .val (.int (16 : Int32)), .val (.ref w8), .unset]) rfl ?_
    show Steps p.tables e below (T105.setTop (mkF m 13 #[.val (.int p1), .val (.int (16 : Int32)), .val (.ref w8), .unset] [])) _
    refine XS.iloadN X105.here hx rfl (hb hby at_13) rfl ?_
    show Steps p.tables e below (T105.setTop (mkF m 14 #[.val (.int p1), .val (.int (16 : Int32)), .val (.ref w8), .unset] [(.int (16 : Int32))])) _
    refine XT.bipushV X105.here hx rfl (8 : Int32) (hb hby at_14) (by decide) ?_
    show Steps p.tables e below (T105.setTop (mkF m 16 #[.val (.int p1), .val (.int (16 : Int32)), .val (.ref w8), .unset] [(.int (8 : Int32)), (.int (16 : Int32))])) _
    refine XS.icmpNo X105.here hx rfl (hb hby at_16) rfl (by decide) ?_
    show Steps p.tables e below (T105.setTop (mkF m 19 #[.val (.int p1), .val (.int (16 : Int32)), .val (.ref w8), .unset] [])) _
    refine XS.iloadN X105.here hx rfl (hb hby at_19) rfl ?_
    show Steps p.tables e below (T105.setTop (mkF m 20 #[.val (.int p1), .val (.int (16 : Int32)), .val (.ref w8), .unset] [(.int (16 : Int32))])) _
    refine XT.bipushV X105.here hx rfl (13 : Int32) (hb hby at_20) (by decide) ?_
    show Steps p.tables e below (T105.setTop (mkF m 22 #[.val (.int p1), .val (.int (16 : Int32)), .val (.ref w8), .unset] [(.int (13 : Int32)), (.int (16 : Int32))])) _
    refine XS.icmpYes X105.here hx rfl (pc0 := 22) (pc' := 29) rfl (hb hby at_22) rfl (by decide) (by decide) (by decide) ?_
    show Steps p.tables e below (T105.setTop (mkF m 29 #[.val (.int p1), .val (.int (16 : Int32)), .val (.ref w8), .unset] [])) _
    refine XT.iconstV X105.here hx rfl (0 : Int32) (hb hby at_29) rfl ?_
    show Steps p.tables e below (T105.setTop (mkF m 30 #[.val (.int p1), .val (.int (16 : Int32)), .val (.ref w8), .unset] [(.int (0 : Int32))])) _
    refine XS.istoreN X105.here hx rfl (hb hby at_30) rfl (l' := #[.val (.int p1), .val (.int (16 : Int32)), .val (.ref w8), .val (.int (0 : Int32))]) rfl ?_
    show Steps p.tables e below (T105.setTop (mkF m 31 #[.val (.int p1), .val (.int (16 : Int32)), .val (.ref w8), .val (.int (0 : Int32))] [])) _
    refine XS.aloadN X105.here hx rfl (hb hby at_31) rfl rfl ?_
    show Steps p.tables e below (T105.setTop (mkF m 32 #[.val (.int p1), .val (.int (16 : Int32)), .val (.ref w8), .val (.int (0 : Int32))] [(.ref w8)])) _
    refine st106.trans ?_
    show Steps p.tables e below (T106.setTop (mkF m 35 #[.val (.int p1), .val (.int (16 : Int32)), .val (.ref w8), .val (.int (0 : Int32))] [(.int (0 : Int32))])) _
    refine XS.iloadN X106.here hx rfl (hb hby at_35) rfl ?_
    show Steps p.tables e below (T106.setTop (mkF m 36 #[.val (.int p1), .val (.int (16 : Int32)), .val (.ref w8), .val (.int (0 : Int32))] [(.int (0 : Int32)), (.int (0 : Int32))])) _
    refine XS.icmpNo X106.here hx rfl (hb hby at_36) rfl (by decide) ?_
    show Steps p.tables e below (T106.setTop (mkF m 39 #[.val (.int p1), .val (.int (16 : Int32)), .val (.ref w8), .val (.int (0 : Int32))] [])) _
    refine XT.iconstV X106.here hx rfl (1 : Int32) (hb hby at_39) rfl ?_
    show Steps p.tables e below (T106.setTop (mkF m 40 #[.val (.int p1), .val (.int (16 : Int32)), .val (.ref w8), .val (.int (0 : Int32))] [(.int (1 : Int32))])) _
    refine XS.goto X106.here hx rfl (pc0 := 40) (pc' := 44) rfl (hb hby at_40) (by decide) (by decide) ?_
    show Steps p.tables e below (T106.setTop (mkF m 44 #[.val (.int p1), .val (.int (16 : Int32)), .val (.ref w8), .val (.int (0 : Int32))] [(.int (1 : Int32))])) _
    exact retN X106 hx (t := .boolean) Bd.returns (by simp) (hb hby at_44) hr
  · show own_Q0 n0 _ T106.heap _
    exact ⟨rfl, N106⟩
set_option maxRecDepth 65536 in
set_option maxHeartbeats 40000000 in
theorem own_law_17 (l : Launch) (Z : State) (a0 : Array Value) (hw : ∀ d ∈ tables_1, d.before a0 Z = true) (ws : List Jvm.Cond) (p1 : Int32) (w0 w1 w2 w3 w4 w5 w6 w7 w8 w9 w10 w11 w12 w13 w14 w15 w16 w17 w18 w19 w20 w21 w22 w23 : Addr) (h0 : Heap) (n0 : Nat) (Z0 : n0 ≤ h0.size) (P : own_P Z h0 w0 w1 w2 w3 w4 w5 w6 w7 w8 w9 w10 w11 w12 w13 w14 w15 w16 w17 w18 w19 w20 w21 w22 w23) (hk : ((p1 &&& (2147483647 : Int32)) % (24 : Int32)) = (17 : Int32)) :
    MetFree l x (head1 (Jvm.Cond.code x code maxLocals ret :: ws) room_1) (fun a U => a = #[(.int p1)] ∧ Z.Warmed39 U.vm ∧ U.heap = h0) (fun _ _ _ _ _ => True) (fun _ U o U' => ∃ v L, o = .returned v ∧ own_Q0 n0 v U'.heap L ∧ FrameEnd U o U' L room_1.cells room_1.slots) := by
  refine MetFree.of_bodySF (plainFor_of_name pn_apportion_io_DataTypeIsDecimalPinLaw) hisR ?_
  intro p e s m args below meth c s₁ Bd hml0 hP hK
  obtain ⟨rfl, hZ, hh⟩ := hP
  have hx := Bd.exec
  have hby := Bd.bytes
  have hml : c.maxLocals = 4 := hml0
  have hown : s.vm.findClass "apportion/io/DataTypeIsDecimalPinLaw" = some m.cls := findClass_of_methodNamed Bd.named
  have hnm := (name_of_methodNamed Bd.named Bd.method).1
  have X0 : Stand p l e room_1 s m #[(.int p1)] below meth c s₁ [] 0 0 := Stand.of_body Bd
  have e0 : s₁.heap = h0 := by rw [← hh, Bd.state]; rfl
  have N0 := Fr.nil n0
  have pre0 : ∀ t, Steps p.tables e below (s₁.setTop (mkF m 0 #[.val (.int p1), .unset, .unset, .unset] [])) t → Steps p.tables e below (s₁.setTop (entryFrame m #[(.int p1)] maxLocals)) t := fun t k => castTop (ef_code_I m p1) k
  have P0 := P; obtain ⟨S0, E0, F0_ordinal, S1, E1, F1_ordinal, S2, E2, F2_ordinal, S3, E3, F3_ordinal, S4, E4, F4_ordinal, S5, E5, F5_ordinal, S6, E6, F6_ordinal, S7, E7, F7_ordinal, S8, E8, F8_ordinal, S9, E9, F9_ordinal, S10, E10, F10_ordinal, S11, E11, F11_ordinal, S12, E12, F12_ordinal, S13, E13, F13_ordinal, S14, E14, F14_ordinal, S15, E15, F15_ordinal, S16, E16, F16_ordinal, S17, E17, F17_ordinal, S18, E18, F18_ordinal, S19, E19, F19_ordinal, S20, E20, F20_ordinal, S21, E21, F21_ordinal, S22, E22, F22_ordinal, S23, E23, F23_ordinal⟩ := P0
  obtain ⟨_, _, ⟨T107, L107, k107, n107⟩, -, X107, ⟨Lc107, hQ107, l107, y107, z107⟩, st107⟩ := Jvm.LawKit.callS X0 hx (y := (⟨"apportion/io/DataTypeIsDecimalPinLaw", "pick", "(I)Lapportion/io/DataType;"⟩ : MethodName)) hown (mvT hZ (hw _ (List.mem_of_getElem? (i := 1) rfl))) (mvT hZ (hw _ (List.mem_of_getElem? (i := 2) rfl))) (mvT hZ (hw _ (List.mem_of_getElem? (i := 3) rfl))) (mvT hZ (hw _ (List.mem_of_getElem? (i := 4) rfl))) (by decide) (backOf (W := 0) (own_pick_17 l Z a0 hw [] w0 w1 w2 w3 w4 w5 w6 w7 w8 w9 w10 w11 w12 w13 w14 w15 w16 w17 w18 w19 w20 w21 w22 w23 h0 n0 Z0 P) hZ (hw _ (List.mem_of_getElem? (i := 4) rfl)) (hw _ (List.mem_of_getElem? (i := 3) rfl)) (by decide) (by decide)) (g := (mkF m 9 #[.val (.int p1), .val (.int (17 : Int32)), .unset, .unset] [(.int (17 : Int32))])) rfl (by rw [hml]; rfl) (argsL := [(.int (17 : Int32))]) (rest := []) (lenOf pd__I_Lapportion_io_DataType_ rfl) rfl (by show 2 * 0 + _ ≤ _; exact Nat.le_of_eq rfl) (hb hby at_9) (fun _ _ => ⟨rfl, e0, (by decide : 0 + 0 ≤ _), (by decide : 0 + 0 ≤ _)⟩)
  dsimp only [Pt.U, Pt.locs, Pt.cells, Pt.slots] at X107 l107 y107 z107 st107 hQ107
  subst l107 y107 z107
  obtain ⟨rfl, N107q, e107⟩ := hQ107
  have N107 := Fr.app N0 N107q
  obtain ⟨cq108, kq108, q108a, q108b, q108c⟩ := isOf hZ e107 E20
  obtain ⟨_, _, ⟨T108, L108, k108, n108⟩, -, X108, ⟨Lc108, hQ108, l108, y108, z108⟩, st108⟩ := X107.virtualBack hx (y := (⟨"apportion/io/DataType", "isDecimal", "()Z"⟩ : MethodName)) (z := (⟨"apportion/io/DataType", "isDecimal", "()Z"⟩ : MethodName)) hown (mvT hZ (hw _ (List.mem_of_getElem? (i := 8) rfl))) (mvT hZ (hw _ (List.mem_of_getElem? (i := 9) rfl))) (notFace_of_selects (args := #[]) (mvT hZ (hw _ (List.mem_of_getElem? (i := 11) rfl)))) (mvT hZ (hw _ (List.mem_of_getElem? (i := 11) rfl))) (mvT hZ (hw _ (List.mem_of_getElem? (i := 10) rfl))) (by decide) (backOf (W := 0) (own_isDecimal_20 l Z a0 hw [] w0 w1 w2 w3 w4 w5 w6 w7 w8 w9 w10 w11 w12 w13 w14 w15 w16 w17 w18 w19 w20 w21 w22 w23 h0 n0 Z0 P) hZ (hw _ (List.mem_of_getElem? (i := 12) rfl)) (hw _ (List.mem_of_getElem? (i := 6) rfl)) (by decide) (by decide)) q108a q108c (g := (mkF m 32 #[.val (.int p1), .val (.int (17 : Int32)), .val (.ref w20), .val (.int (0 : Int32))] [(.ref w20)])) rfl (by rw [hml]; rfl) (Steps.refl _) (argsL := []) (rest := []) (lenOf pd___Z rfl) rfl (by show 2 * 0 + _ ≤ _; exact Nat.le_of_eq rfl) (hb hby at_32) (fun _ _ => ⟨rfl, e107, (by decide : 0 + 0 ≤ _), (by decide : 0 + 0 ≤ _)⟩)
  dsimp only [Pt.U, Pt.locs, Pt.cells, Pt.slots] at X108 l108 y108 z108 st108 hQ108
  subst l108 y108 z108
  obtain ⟨rfl, N108q, e108⟩ := hQ108
  have N108 := Fr.app N107 N108q
  obtain ⟨fs, hr, hrun, hended, hW, hsame⟩ := X108.leave (v := some (.int (1 : Int32))) (fun h => by rw [Bd.returns] at h; cases h)
  refine ⟨_, _, pre0 _ ?_, hrun, hended, _, _, rfl, ?_, ⟨_, rfl⟩, hW, hsame.mono (by decide) (by decide)⟩
  · show Steps p.tables e below (s₁.setTop (mkF m 0 #[.val (.int p1), .unset, .unset, .unset] [])) _
    refine XS.iloadN X0.here hx rfl (hb hby at_0) rfl ?_
    show Steps p.tables e below (s₁.setTop (mkF m 1 #[.val (.int p1), .unset, .unset, .unset] [(.int p1)])) _
    refine Jvm.Stand.ldcI X0 hx hown (mvT hZ (hw _ (List.mem_of_getElem? (i := 0) rfl))) rfl (hb hby at_1) ?_
    show Steps p.tables e below (s₁.setTop (mkF m 3 #[.val (.int p1), .unset, .unset, .unset] [(.int (2147483647 : Int32)), (.int p1)])) _
    refine XS.iand X0.here hx rfl (hb hby at_3) rfl ?_
    show Steps p.tables e below (s₁.setTop (mkF m 4 #[.val (.int p1), .unset, .unset, .unset] [(.int (p1 &&& (2147483647 : Int32)))])) _
    refine XT.bipushV X0.here hx rfl (24 : Int32) (hb hby at_4) (by decide) ?_
    show Steps p.tables e below (s₁.setTop (mkF m 6 #[.val (.int p1), .unset, .unset, .unset] [(.int (24 : Int32)), (.int (p1 &&& (2147483647 : Int32)))])) _
    refine iremM X0 hx rfl (hb hby at_6) rfl (by decide) ?_
    show Steps p.tables e below (s₁.setTop (mkF m 7 #[.val (.int p1), .unset, .unset, .unset] [(.int ((p1 &&& (2147483647 : Int32)) % (24 : Int32)))])) _
    rw [hk]
    show Steps p.tables e below (s₁.setTop (mkF m 7 #[.val (.int p1), .unset, .unset, .unset] [(.int (17 : Int32))])) _
    refine XS.istoreN X0.here hx rfl (hb hby at_7) rfl (l' := #[.val (.int p1), .val (.int (17 : Int32)), .unset, .unset]) rfl ?_
    show Steps p.tables e below (s₁.setTop (mkF m 8 #[.val (.int p1), .val (.int (17 : Int32)), .unset, .unset] [])) _
    refine XS.iloadN X0.here hx rfl (hb hby at_8) rfl ?_
    show Steps p.tables e below (s₁.setTop (mkF m 9 #[.val (.int p1), .val (.int (17 : Int32)), .unset, .unset] [(.int (17 : Int32))])) _
    refine st107 _ ?_
    show Steps p.tables e below (T107.setTop (mkF m 12 #[.val (.int p1), .val (.int (17 : Int32)), .unset, .unset] [(.ref w20)])) _
    refine XS.astoreN X107.here hx rfl (hb hby at_12) rfl rfl (l' := #[.val (.int p1), .val (.int (17 : Int32)), .val (.ref w20), .unset]) rfl ?_
    show Steps p.tables e below (T107.setTop (mkF m 13 #[.val (.int p1), .val (.int (17 : Int32)), .val (.ref w20), .unset] [])) _
    refine XS.iloadN X107.here hx rfl (hb hby at_13) rfl ?_
    show Steps p.tables e below (T107.setTop (mkF m 14 #[.val (.int p1), .val (.int (17 : Int32)), .val (.ref w20), .unset] [(.int (17 : Int32))])) _
    refine XT.bipushV X107.here hx rfl (8 : Int32) (hb hby at_14) (by decide) ?_
    show Steps p.tables e below (T107.setTop (mkF m 16 #[.val (.int p1), .val (.int (17 : Int32)), .val (.ref w20), .unset] [(.int (8 : Int32)), (.int (17 : Int32))])) _
    refine XS.icmpNo X107.here hx rfl (hb hby at_16) rfl (by decide) ?_
    show Steps p.tables e below (T107.setTop (mkF m 19 #[.val (.int p1), .val (.int (17 : Int32)), .val (.ref w20), .unset] [])) _
    refine XS.iloadN X107.here hx rfl (hb hby at_19) rfl ?_
    show Steps p.tables e below (T107.setTop (mkF m 20 #[.val (.int p1), .val (.int (17 : Int32)), .val (.ref w20), .unset] [(.int (17 : Int32))])) _
    refine XT.bipushV X107.here hx rfl (13 : Int32) (hb hby at_20) (by decide) ?_
    show Steps p.tables e below (T107.setTop (mkF m 22 #[.val (.int p1), .val (.int (17 : Int32)), .val (.ref w20), .unset] [(.int (13 : Int32)), (.int (17 : Int32))])) _
    refine XS.icmpYes X107.here hx rfl (pc0 := 22) (pc' := 29) rfl (hb hby at_22) rfl (by decide) (by decide) (by decide) ?_
    show Steps p.tables e below (T107.setTop (mkF m 29 #[.val (.int p1), .val (.int (17 : Int32)), .val (.ref w20), .unset] [])) _
    refine XT.iconstV X107.here hx rfl (0 : Int32) (hb hby at_29) rfl ?_
    show Steps p.tables e below (T107.setTop (mkF m 30 #[.val (.int p1), .val (.int (17 : Int32)), .val (.ref w20), .unset] [(.int (0 : Int32))])) _
    refine XS.istoreN X107.here hx rfl (hb hby at_30) rfl (l' := #[.val (.int p1), .val (.int (17 : Int32)), .val (.ref w20), .val (.int (0 : Int32))]) rfl ?_
    show Steps p.tables e below (T107.setTop (mkF m 31 #[.val (.int p1), .val (.int (17 : Int32)), .val (.ref w20), .val (.int (0 : Int32))] [])) _
    refine XS.aloadN X107.here hx rfl (hb hby at_31) rfl rfl ?_
    show Steps p.tables e below (T107.setTop (mkF m 32 #[.val (.int p1), .val (.int (17 : Int32)), .val (.ref w20), .val (.int (0 : Int32))] [(.ref w20)])) _
    refine st108.trans ?_
    show Steps p.tables e below (T108.setTop (mkF m 35 #[.val (.int p1), .val (.int (17 : Int32)), .val (.ref w20), .val (.int (0 : Int32))] [(.int (0 : Int32))])) _
    refine XS.iloadN X108.here hx rfl (hb hby at_35) rfl ?_
    show Steps p.tables e below (T108.setTop (mkF m 36 #[.val (.int p1), .val (.int (17 : Int32)), .val (.ref w20), .val (.int (0 : Int32))] [(.int (0 : Int32)), (.int (0 : Int32))])) _
    refine XS.icmpNo X108.here hx rfl (hb hby at_36) rfl (by decide) ?_
    show Steps p.tables e below (T108.setTop (mkF m 39 #[.val (.int p1), .val (.int (17 : Int32)), .val (.ref w20), .val (.int (0 : Int32))] [])) _
    refine XT.iconstV X108.here hx rfl (1 : Int32) (hb hby at_39) rfl ?_
    show Steps p.tables e below (T108.setTop (mkF m 40 #[.val (.int p1), .val (.int (17 : Int32)), .val (.ref w20), .val (.int (0 : Int32))] [(.int (1 : Int32))])) _
    refine XS.goto X108.here hx rfl (pc0 := 40) (pc' := 44) rfl (hb hby at_40) (by decide) (by decide) ?_
    show Steps p.tables e below (T108.setTop (mkF m 44 #[.val (.int p1), .val (.int (17 : Int32)), .val (.ref w20), .val (.int (0 : Int32))] [(.int (1 : Int32))])) _
    exact retN X108 hx (t := .boolean) Bd.returns (by simp) (hb hby at_44) hr
  · show own_Q0 n0 _ T108.heap _
    exact ⟨rfl, N108⟩
set_option maxRecDepth 65536 in
set_option maxHeartbeats 40000000 in
theorem own_law_18 (l : Launch) (Z : State) (a0 : Array Value) (hw : ∀ d ∈ tables_1, d.before a0 Z = true) (ws : List Jvm.Cond) (p1 : Int32) (w0 w1 w2 w3 w4 w5 w6 w7 w8 w9 w10 w11 w12 w13 w14 w15 w16 w17 w18 w19 w20 w21 w22 w23 : Addr) (h0 : Heap) (n0 : Nat) (Z0 : n0 ≤ h0.size) (P : own_P Z h0 w0 w1 w2 w3 w4 w5 w6 w7 w8 w9 w10 w11 w12 w13 w14 w15 w16 w17 w18 w19 w20 w21 w22 w23) (hk : ((p1 &&& (2147483647 : Int32)) % (24 : Int32)) = (18 : Int32)) :
    MetFree l x (head1 (Jvm.Cond.code x code maxLocals ret :: ws) room_1) (fun a U => a = #[(.int p1)] ∧ Z.Warmed39 U.vm ∧ U.heap = h0) (fun _ _ _ _ _ => True) (fun _ U o U' => ∃ v L, o = .returned v ∧ own_Q0 n0 v U'.heap L ∧ FrameEnd U o U' L room_1.cells room_1.slots) := by
  refine MetFree.of_bodySF (plainFor_of_name pn_apportion_io_DataTypeIsDecimalPinLaw) hisR ?_
  intro p e s m args below meth c s₁ Bd hml0 hP hK
  obtain ⟨rfl, hZ, hh⟩ := hP
  have hx := Bd.exec
  have hby := Bd.bytes
  have hml : c.maxLocals = 4 := hml0
  have hown : s.vm.findClass "apportion/io/DataTypeIsDecimalPinLaw" = some m.cls := findClass_of_methodNamed Bd.named
  have hnm := (name_of_methodNamed Bd.named Bd.method).1
  have X0 : Stand p l e room_1 s m #[(.int p1)] below meth c s₁ [] 0 0 := Stand.of_body Bd
  have e0 : s₁.heap = h0 := by rw [← hh, Bd.state]; rfl
  have N0 := Fr.nil n0
  have pre0 : ∀ t, Steps p.tables e below (s₁.setTop (mkF m 0 #[.val (.int p1), .unset, .unset, .unset] [])) t → Steps p.tables e below (s₁.setTop (entryFrame m #[(.int p1)] maxLocals)) t := fun t k => castTop (ef_code_I m p1) k
  have P0 := P; obtain ⟨S0, E0, F0_ordinal, S1, E1, F1_ordinal, S2, E2, F2_ordinal, S3, E3, F3_ordinal, S4, E4, F4_ordinal, S5, E5, F5_ordinal, S6, E6, F6_ordinal, S7, E7, F7_ordinal, S8, E8, F8_ordinal, S9, E9, F9_ordinal, S10, E10, F10_ordinal, S11, E11, F11_ordinal, S12, E12, F12_ordinal, S13, E13, F13_ordinal, S14, E14, F14_ordinal, S15, E15, F15_ordinal, S16, E16, F16_ordinal, S17, E17, F17_ordinal, S18, E18, F18_ordinal, S19, E19, F19_ordinal, S20, E20, F20_ordinal, S21, E21, F21_ordinal, S22, E22, F22_ordinal, S23, E23, F23_ordinal⟩ := P0
  obtain ⟨_, _, ⟨T109, L109, k109, n109⟩, -, X109, ⟨Lc109, hQ109, l109, y109, z109⟩, st109⟩ := Jvm.LawKit.callS X0 hx (y := (⟨"apportion/io/DataTypeIsDecimalPinLaw", "pick", "(I)Lapportion/io/DataType;"⟩ : MethodName)) hown (mvT hZ (hw _ (List.mem_of_getElem? (i := 1) rfl))) (mvT hZ (hw _ (List.mem_of_getElem? (i := 2) rfl))) (mvT hZ (hw _ (List.mem_of_getElem? (i := 3) rfl))) (mvT hZ (hw _ (List.mem_of_getElem? (i := 4) rfl))) (by decide) (backOf (W := 0) (own_pick_18 l Z a0 hw [] w0 w1 w2 w3 w4 w5 w6 w7 w8 w9 w10 w11 w12 w13 w14 w15 w16 w17 w18 w19 w20 w21 w22 w23 h0 n0 Z0 P) hZ (hw _ (List.mem_of_getElem? (i := 4) rfl)) (hw _ (List.mem_of_getElem? (i := 3) rfl)) (by decide) (by decide)) (g := (mkF m 9 #[.val (.int p1), .val (.int (18 : Int32)), .unset, .unset] [(.int (18 : Int32))])) rfl (by rw [hml]; rfl) (argsL := [(.int (18 : Int32))]) (rest := []) (lenOf pd__I_Lapportion_io_DataType_ rfl) rfl (by show 2 * 0 + _ ≤ _; exact Nat.le_of_eq rfl) (hb hby at_9) (fun _ _ => ⟨rfl, e0, (by decide : 0 + 0 ≤ _), (by decide : 0 + 0 ≤ _)⟩)
  dsimp only [Pt.U, Pt.locs, Pt.cells, Pt.slots] at X109 l109 y109 z109 st109 hQ109
  subst l109 y109 z109
  obtain ⟨rfl, N109q, e109⟩ := hQ109
  have N109 := Fr.app N0 N109q
  obtain ⟨cq110, kq110, q110a, q110b, q110c⟩ := isOf hZ e109 E16
  obtain ⟨_, _, ⟨T110, L110, k110, n110⟩, -, X110, ⟨Lc110, hQ110, l110, y110, z110⟩, st110⟩ := X109.virtualBack hx (y := (⟨"apportion/io/DataType", "isDecimal", "()Z"⟩ : MethodName)) (z := (⟨"apportion/io/DataType", "isDecimal", "()Z"⟩ : MethodName)) hown (mvT hZ (hw _ (List.mem_of_getElem? (i := 8) rfl))) (mvT hZ (hw _ (List.mem_of_getElem? (i := 9) rfl))) (notFace_of_selects (args := #[]) (mvT hZ (hw _ (List.mem_of_getElem? (i := 11) rfl)))) (mvT hZ (hw _ (List.mem_of_getElem? (i := 11) rfl))) (mvT hZ (hw _ (List.mem_of_getElem? (i := 10) rfl))) (by decide) (backOf (W := 0) (own_isDecimal_16 l Z a0 hw [] w0 w1 w2 w3 w4 w5 w6 w7 w8 w9 w10 w11 w12 w13 w14 w15 w16 w17 w18 w19 w20 w21 w22 w23 h0 n0 Z0 P) hZ (hw _ (List.mem_of_getElem? (i := 12) rfl)) (hw _ (List.mem_of_getElem? (i := 6) rfl)) (by decide) (by decide)) q110a q110c (g := (mkF m 32 #[.val (.int p1), .val (.int (18 : Int32)), .val (.ref w16), .val (.int (0 : Int32))] [(.ref w16)])) rfl (by rw [hml]; rfl) (Steps.refl _) (argsL := []) (rest := []) (lenOf pd___Z rfl) rfl (by show 2 * 0 + _ ≤ _; exact Nat.le_of_eq rfl) (hb hby at_32) (fun _ _ => ⟨rfl, e109, (by decide : 0 + 0 ≤ _), (by decide : 0 + 0 ≤ _)⟩)
  dsimp only [Pt.U, Pt.locs, Pt.cells, Pt.slots] at X110 l110 y110 z110 st110 hQ110
  subst l110 y110 z110
  obtain ⟨rfl, N110q, e110⟩ := hQ110
  have N110 := Fr.app N109 N110q
  obtain ⟨fs, hr, hrun, hended, hW, hsame⟩ := X110.leave (v := some (.int (1 : Int32))) (fun h => by rw [Bd.returns] at h; cases h)
  refine ⟨_, _, pre0 _ ?_, hrun, hended, _, _, rfl, ?_, ⟨_, rfl⟩, hW, hsame.mono (by decide) (by decide)⟩
  · show Steps p.tables e below (s₁.setTop (mkF m 0 #[.val (.int p1), .unset, .unset, .unset] [])) _
    refine XS.iloadN X0.here hx rfl (hb hby at_0) rfl ?_
    show Steps p.tables e below (s₁.setTop (mkF m 1 #[.val (.int p1), .unset, .unset, .unset] [(.int p1)])) _
    refine Jvm.Stand.ldcI X0 hx hown (mvT hZ (hw _ (List.mem_of_getElem? (i := 0) rfl))) rfl (hb hby at_1) ?_
    show Steps p.tables e below (s₁.setTop (mkF m 3 #[.val (.int p1), .unset, .unset, .unset] [(.int (2147483647 : Int32)), (.int p1)])) _
    refine XS.iand X0.here hx rfl (hb hby at_3) rfl ?_
    show Steps p.tables e below (s₁.setTop (mkF m 4 #[.val (.int p1), .unset, .unset, .unset] [(.int (p1 &&& (2147483647 : Int32)))])) _
    refine XT.bipushV X0.here hx rfl (24 : Int32) (hb hby at_4) (by decide) ?_
    show Steps p.tables e below (s₁.setTop (mkF m 6 #[.val (.int p1), .unset, .unset, .unset] [(.int (24 : Int32)), (.int (p1 &&& (2147483647 : Int32)))])) _
    refine iremM X0 hx rfl (hb hby at_6) rfl (by decide) ?_
    show Steps p.tables e below (s₁.setTop (mkF m 7 #[.val (.int p1), .unset, .unset, .unset] [(.int ((p1 &&& (2147483647 : Int32)) % (24 : Int32)))])) _
    rw [hk]
    show Steps p.tables e below (s₁.setTop (mkF m 7 #[.val (.int p1), .unset, .unset, .unset] [(.int (18 : Int32))])) _
    refine XS.istoreN X0.here hx rfl (hb hby at_7) rfl (l' := #[.val (.int p1), .val (.int (18 : Int32)), .unset, .unset]) rfl ?_
    show Steps p.tables e below (s₁.setTop (mkF m 8 #[.val (.int p1), .val (.int (18 : Int32)), .unset, .unset] [])) _
    refine XS.iloadN X0.here hx rfl (hb hby at_8) rfl ?_
    show Steps p.tables e below (s₁.setTop (mkF m 9 #[.val (.int p1), .val (.int (18 : Int32)), .unset, .unset] [(.int (18 : Int32))])) _
    refine st109 _ ?_
    show Steps p.tables e below (T109.setTop (mkF m 12 #[.val (.int p1), .val (.int (18 : Int32)), .unset, .unset] [(.ref w16)])) _
    refine XS.astoreN X109.here hx rfl (hb hby at_12) rfl rfl (l' := #[.val (.int p1), .val (.int (18 : Int32)), .val (.ref w16), .unset]) rfl ?_
    show Steps p.tables e below (T109.setTop (mkF m 13 #[.val (.int p1), .val (.int (18 : Int32)), .val (.ref w16), .unset] [])) _
    refine XS.iloadN X109.here hx rfl (hb hby at_13) rfl ?_
    show Steps p.tables e below (T109.setTop (mkF m 14 #[.val (.int p1), .val (.int (18 : Int32)), .val (.ref w16), .unset] [(.int (18 : Int32))])) _
    refine XT.bipushV X109.here hx rfl (8 : Int32) (hb hby at_14) (by decide) ?_
    show Steps p.tables e below (T109.setTop (mkF m 16 #[.val (.int p1), .val (.int (18 : Int32)), .val (.ref w16), .unset] [(.int (8 : Int32)), (.int (18 : Int32))])) _
    refine XS.icmpNo X109.here hx rfl (hb hby at_16) rfl (by decide) ?_
    show Steps p.tables e below (T109.setTop (mkF m 19 #[.val (.int p1), .val (.int (18 : Int32)), .val (.ref w16), .unset] [])) _
    refine XS.iloadN X109.here hx rfl (hb hby at_19) rfl ?_
    show Steps p.tables e below (T109.setTop (mkF m 20 #[.val (.int p1), .val (.int (18 : Int32)), .val (.ref w16), .unset] [(.int (18 : Int32))])) _
    refine XT.bipushV X109.here hx rfl (13 : Int32) (hb hby at_20) (by decide) ?_
    show Steps p.tables e below (T109.setTop (mkF m 22 #[.val (.int p1), .val (.int (18 : Int32)), .val (.ref w16), .unset] [(.int (13 : Int32)), (.int (18 : Int32))])) _
    refine XS.icmpYes X109.here hx rfl (pc0 := 22) (pc' := 29) rfl (hb hby at_22) rfl (by decide) (by decide) (by decide) ?_
    show Steps p.tables e below (T109.setTop (mkF m 29 #[.val (.int p1), .val (.int (18 : Int32)), .val (.ref w16), .unset] [])) _
    refine XT.iconstV X109.here hx rfl (0 : Int32) (hb hby at_29) rfl ?_
    show Steps p.tables e below (T109.setTop (mkF m 30 #[.val (.int p1), .val (.int (18 : Int32)), .val (.ref w16), .unset] [(.int (0 : Int32))])) _
    refine XS.istoreN X109.here hx rfl (hb hby at_30) rfl (l' := #[.val (.int p1), .val (.int (18 : Int32)), .val (.ref w16), .val (.int (0 : Int32))]) rfl ?_
    show Steps p.tables e below (T109.setTop (mkF m 31 #[.val (.int p1), .val (.int (18 : Int32)), .val (.ref w16), .val (.int (0 : Int32))] [])) _
    refine XS.aloadN X109.here hx rfl (hb hby at_31) rfl rfl ?_
    show Steps p.tables e below (T109.setTop (mkF m 32 #[.val (.int p1), .val (.int (18 : Int32)), .val (.ref w16), .val (.int (0 : Int32))] [(.ref w16)])) _
    refine st110.trans ?_
    show Steps p.tables e below (T110.setTop (mkF m 35 #[.val (.int p1), .val (.int (18 : Int32)), .val (.ref w16), .val (.int (0 : Int32))] [(.int (0 : Int32))])) _
    refine XS.iloadN X110.here hx rfl (hb hby at_35) rfl ?_
    show Steps p.tables e below (T110.setTop (mkF m 36 #[.val (.int p1), .val (.int (18 : Int32)), .val (.ref w16), .val (.int (0 : Int32))] [(.int (0 : Int32)), (.int (0 : Int32))])) _
    refine XS.icmpNo X110.here hx rfl (hb hby at_36) rfl (by decide) ?_
    show Steps p.tables e below (T110.setTop (mkF m 39 #[.val (.int p1), .val (.int (18 : Int32)), .val (.ref w16), .val (.int (0 : Int32))] [])) _
    refine XT.iconstV X110.here hx rfl (1 : Int32) (hb hby at_39) rfl ?_
    show Steps p.tables e below (T110.setTop (mkF m 40 #[.val (.int p1), .val (.int (18 : Int32)), .val (.ref w16), .val (.int (0 : Int32))] [(.int (1 : Int32))])) _
    refine XS.goto X110.here hx rfl (pc0 := 40) (pc' := 44) rfl (hb hby at_40) (by decide) (by decide) ?_
    show Steps p.tables e below (T110.setTop (mkF m 44 #[.val (.int p1), .val (.int (18 : Int32)), .val (.ref w16), .val (.int (0 : Int32))] [(.int (1 : Int32))])) _
    exact retN X110 hx (t := .boolean) Bd.returns (by simp) (hb hby at_44) hr
  · show own_Q0 n0 _ T110.heap _
    exact ⟨rfl, N110⟩
set_option maxRecDepth 65536 in
set_option maxHeartbeats 40000000 in
theorem own_law_19 (l : Launch) (Z : State) (a0 : Array Value) (hw : ∀ d ∈ tables_1, d.before a0 Z = true) (ws : List Jvm.Cond) (p1 : Int32) (w0 w1 w2 w3 w4 w5 w6 w7 w8 w9 w10 w11 w12 w13 w14 w15 w16 w17 w18 w19 w20 w21 w22 w23 : Addr) (h0 : Heap) (n0 : Nat) (Z0 : n0 ≤ h0.size) (P : own_P Z h0 w0 w1 w2 w3 w4 w5 w6 w7 w8 w9 w10 w11 w12 w13 w14 w15 w16 w17 w18 w19 w20 w21 w22 w23) (hk : ((p1 &&& (2147483647 : Int32)) % (24 : Int32)) = (19 : Int32)) :
    MetFree l x (head1 (Jvm.Cond.code x code maxLocals ret :: ws) room_1) (fun a U => a = #[(.int p1)] ∧ Z.Warmed39 U.vm ∧ U.heap = h0) (fun _ _ _ _ _ => True) (fun _ U o U' => ∃ v L, o = .returned v ∧ own_Q0 n0 v U'.heap L ∧ FrameEnd U o U' L room_1.cells room_1.slots) := by
  refine MetFree.of_bodySF (plainFor_of_name pn_apportion_io_DataTypeIsDecimalPinLaw) hisR ?_
  intro p e s m args below meth c s₁ Bd hml0 hP hK
  obtain ⟨rfl, hZ, hh⟩ := hP
  have hx := Bd.exec
  have hby := Bd.bytes
  have hml : c.maxLocals = 4 := hml0
  have hown : s.vm.findClass "apportion/io/DataTypeIsDecimalPinLaw" = some m.cls := findClass_of_methodNamed Bd.named
  have hnm := (name_of_methodNamed Bd.named Bd.method).1
  have X0 : Stand p l e room_1 s m #[(.int p1)] below meth c s₁ [] 0 0 := Stand.of_body Bd
  have e0 : s₁.heap = h0 := by rw [← hh, Bd.state]; rfl
  have N0 := Fr.nil n0
  have pre0 : ∀ t, Steps p.tables e below (s₁.setTop (mkF m 0 #[.val (.int p1), .unset, .unset, .unset] [])) t → Steps p.tables e below (s₁.setTop (entryFrame m #[(.int p1)] maxLocals)) t := fun t k => castTop (ef_code_I m p1) k
  have P0 := P; obtain ⟨S0, E0, F0_ordinal, S1, E1, F1_ordinal, S2, E2, F2_ordinal, S3, E3, F3_ordinal, S4, E4, F4_ordinal, S5, E5, F5_ordinal, S6, E6, F6_ordinal, S7, E7, F7_ordinal, S8, E8, F8_ordinal, S9, E9, F9_ordinal, S10, E10, F10_ordinal, S11, E11, F11_ordinal, S12, E12, F12_ordinal, S13, E13, F13_ordinal, S14, E14, F14_ordinal, S15, E15, F15_ordinal, S16, E16, F16_ordinal, S17, E17, F17_ordinal, S18, E18, F18_ordinal, S19, E19, F19_ordinal, S20, E20, F20_ordinal, S21, E21, F21_ordinal, S22, E22, F22_ordinal, S23, E23, F23_ordinal⟩ := P0
  obtain ⟨_, _, ⟨T111, L111, k111, n111⟩, -, X111, ⟨Lc111, hQ111, l111, y111, z111⟩, st111⟩ := Jvm.LawKit.callS X0 hx (y := (⟨"apportion/io/DataTypeIsDecimalPinLaw", "pick", "(I)Lapportion/io/DataType;"⟩ : MethodName)) hown (mvT hZ (hw _ (List.mem_of_getElem? (i := 1) rfl))) (mvT hZ (hw _ (List.mem_of_getElem? (i := 2) rfl))) (mvT hZ (hw _ (List.mem_of_getElem? (i := 3) rfl))) (mvT hZ (hw _ (List.mem_of_getElem? (i := 4) rfl))) (by decide) (backOf (W := 0) (own_pick_19 l Z a0 hw [] w0 w1 w2 w3 w4 w5 w6 w7 w8 w9 w10 w11 w12 w13 w14 w15 w16 w17 w18 w19 w20 w21 w22 w23 h0 n0 Z0 P) hZ (hw _ (List.mem_of_getElem? (i := 4) rfl)) (hw _ (List.mem_of_getElem? (i := 3) rfl)) (by decide) (by decide)) (g := (mkF m 9 #[.val (.int p1), .val (.int (19 : Int32)), .unset, .unset] [(.int (19 : Int32))])) rfl (by rw [hml]; rfl) (argsL := [(.int (19 : Int32))]) (rest := []) (lenOf pd__I_Lapportion_io_DataType_ rfl) rfl (by show 2 * 0 + _ ≤ _; exact Nat.le_of_eq rfl) (hb hby at_9) (fun _ _ => ⟨rfl, e0, (by decide : 0 + 0 ≤ _), (by decide : 0 + 0 ≤ _)⟩)
  dsimp only [Pt.U, Pt.locs, Pt.cells, Pt.slots] at X111 l111 y111 z111 st111 hQ111
  subst l111 y111 z111
  obtain ⟨rfl, N111q, e111⟩ := hQ111
  have N111 := Fr.app N0 N111q
  obtain ⟨cq112, kq112, q112a, q112b, q112c⟩ := isOf hZ e111 E3
  obtain ⟨_, _, ⟨T112, L112, k112, n112⟩, -, X112, ⟨Lc112, hQ112, l112, y112, z112⟩, st112⟩ := X111.virtualBack hx (y := (⟨"apportion/io/DataType", "isDecimal", "()Z"⟩ : MethodName)) (z := (⟨"apportion/io/DataType", "isDecimal", "()Z"⟩ : MethodName)) hown (mvT hZ (hw _ (List.mem_of_getElem? (i := 8) rfl))) (mvT hZ (hw _ (List.mem_of_getElem? (i := 9) rfl))) (notFace_of_selects (args := #[]) (mvT hZ (hw _ (List.mem_of_getElem? (i := 11) rfl)))) (mvT hZ (hw _ (List.mem_of_getElem? (i := 11) rfl))) (mvT hZ (hw _ (List.mem_of_getElem? (i := 10) rfl))) (by decide) (backOf (W := 0) (own_isDecimal_3 l Z a0 hw [] w0 w1 w2 w3 w4 w5 w6 w7 w8 w9 w10 w11 w12 w13 w14 w15 w16 w17 w18 w19 w20 w21 w22 w23 h0 n0 Z0 P) hZ (hw _ (List.mem_of_getElem? (i := 12) rfl)) (hw _ (List.mem_of_getElem? (i := 6) rfl)) (by decide) (by decide)) q112a q112c (g := (mkF m 32 #[.val (.int p1), .val (.int (19 : Int32)), .val (.ref w3), .val (.int (0 : Int32))] [(.ref w3)])) rfl (by rw [hml]; rfl) (Steps.refl _) (argsL := []) (rest := []) (lenOf pd___Z rfl) rfl (by show 2 * 0 + _ ≤ _; exact Nat.le_of_eq rfl) (hb hby at_32) (fun _ _ => ⟨rfl, e111, (by decide : 0 + 0 ≤ _), (by decide : 0 + 0 ≤ _)⟩)
  dsimp only [Pt.U, Pt.locs, Pt.cells, Pt.slots] at X112 l112 y112 z112 st112 hQ112
  subst l112 y112 z112
  obtain ⟨rfl, N112q, e112⟩ := hQ112
  have N112 := Fr.app N111 N112q
  obtain ⟨fs, hr, hrun, hended, hW, hsame⟩ := X112.leave (v := some (.int (1 : Int32))) (fun h => by rw [Bd.returns] at h; cases h)
  refine ⟨_, _, pre0 _ ?_, hrun, hended, _, _, rfl, ?_, ⟨_, rfl⟩, hW, hsame.mono (by decide) (by decide)⟩
  · show Steps p.tables e below (s₁.setTop (mkF m 0 #[.val (.int p1), .unset, .unset, .unset] [])) _
    refine XS.iloadN X0.here hx rfl (hb hby at_0) rfl ?_
    show Steps p.tables e below (s₁.setTop (mkF m 1 #[.val (.int p1), .unset, .unset, .unset] [(.int p1)])) _
    refine Jvm.Stand.ldcI X0 hx hown (mvT hZ (hw _ (List.mem_of_getElem? (i := 0) rfl))) rfl (hb hby at_1) ?_
    show Steps p.tables e below (s₁.setTop (mkF m 3 #[.val (.int p1), .unset, .unset, .unset] [(.int (2147483647 : Int32)), (.int p1)])) _
    refine XS.iand X0.here hx rfl (hb hby at_3) rfl ?_
    show Steps p.tables e below (s₁.setTop (mkF m 4 #[.val (.int p1), .unset, .unset, .unset] [(.int (p1 &&& (2147483647 : Int32)))])) _
    refine XT.bipushV X0.here hx rfl (24 : Int32) (hb hby at_4) (by decide) ?_
    show Steps p.tables e below (s₁.setTop (mkF m 6 #[.val (.int p1), .unset, .unset, .unset] [(.int (24 : Int32)), (.int (p1 &&& (2147483647 : Int32)))])) _
    refine iremM X0 hx rfl (hb hby at_6) rfl (by decide) ?_
    show Steps p.tables e below (s₁.setTop (mkF m 7 #[.val (.int p1), .unset, .unset, .unset] [(.int ((p1 &&& (2147483647 : Int32)) % (24 : Int32)))])) _
    rw [hk]
    show Steps p.tables e below (s₁.setTop (mkF m 7 #[.val (.int p1), .unset, .unset, .unset] [(.int (19 : Int32))])) _
    refine XS.istoreN X0.here hx rfl (hb hby at_7) rfl (l' := #[.val (.int p1), .val (.int (19 : Int32)), .unset, .unset]) rfl ?_
    show Steps p.tables e below (s₁.setTop (mkF m 8 #[.val (.int p1), .val (.int (19 : Int32)), .unset, .unset] [])) _
    refine XS.iloadN X0.here hx rfl (hb hby at_8) rfl ?_
    show Steps p.tables e below (s₁.setTop (mkF m 9 #[.val (.int p1), .val (.int (19 : Int32)), .unset, .unset] [(.int (19 : Int32))])) _
    refine st111 _ ?_
    show Steps p.tables e below (T111.setTop (mkF m 12 #[.val (.int p1), .val (.int (19 : Int32)), .unset, .unset] [(.ref w3)])) _
    refine XS.astoreN X111.here hx rfl (hb hby at_12) rfl rfl (l' := #[.val (.int p1), .val (.int (19 : Int32)), .val (.ref w3), .unset]) rfl ?_
    show Steps p.tables e below (T111.setTop (mkF m 13 #[.val (.int p1), .val (.int (19 : Int32)), .val (.ref w3), .unset] [])) _
    refine XS.iloadN X111.here hx rfl (hb hby at_13) rfl ?_
    show Steps p.tables e below (T111.setTop (mkF m 14 #[.val (.int p1), .val (.int (19 : Int32)), .val (.ref w3), .unset] [(.int (19 : Int32))])) _
    refine XT.bipushV X111.here hx rfl (8 : Int32) (hb hby at_14) (by decide) ?_
    show Steps p.tables e below (T111.setTop (mkF m 16 #[.val (.int p1), .val (.int (19 : Int32)), .val (.ref w3), .unset] [(.int (8 : Int32)), (.int (19 : Int32))])) _
    refine XS.icmpNo X111.here hx rfl (hb hby at_16) rfl (by decide) ?_
    show Steps p.tables e below (T111.setTop (mkF m 19 #[.val (.int p1), .val (.int (19 : Int32)), .val (.ref w3), .unset] [])) _
    refine XS.iloadN X111.here hx rfl (hb hby at_19) rfl ?_
    show Steps p.tables e below (T111.setTop (mkF m 20 #[.val (.int p1), .val (.int (19 : Int32)), .val (.ref w3), .unset] [(.int (19 : Int32))])) _
    refine XT.bipushV X111.here hx rfl (13 : Int32) (hb hby at_20) (by decide) ?_
    show Steps p.tables e below (T111.setTop (mkF m 22 #[.val (.int p1), .val (.int (19 : Int32)), .val (.ref w3), .unset] [(.int (13 : Int32)), (.int (19 : Int32))])) _
    refine XS.icmpYes X111.here hx rfl (pc0 := 22) (pc' := 29) rfl (hb hby at_22) rfl (by decide) (by decide) (by decide) ?_
    show Steps p.tables e below (T111.setTop (mkF m 29 #[.val (.int p1), .val (.int (19 : Int32)), .val (.ref w3), .unset] [])) _
    refine XT.iconstV X111.here hx rfl (0 : Int32) (hb hby at_29) rfl ?_
    show Steps p.tables e below (T111.setTop (mkF m 30 #[.val (.int p1), .val (.int (19 : Int32)), .val (.ref w3), .unset] [(.int (0 : Int32))])) _
    refine XS.istoreN X111.here hx rfl (hb hby at_30) rfl (l' := #[.val (.int p1), .val (.int (19 : Int32)), .val (.ref w3), .val (.int (0 : Int32))]) rfl ?_
    show Steps p.tables e below (T111.setTop (mkF m 31 #[.val (.int p1), .val (.int (19 : Int32)), .val (.ref w3), .val (.int (0 : Int32))] [])) _
    refine XS.aloadN X111.here hx rfl (hb hby at_31) rfl rfl ?_
    show Steps p.tables e below (T111.setTop (mkF m 32 #[.val (.int p1), .val (.int (19 : Int32)), .val (.ref w3), .val (.int (0 : Int32))] [(.ref w3)])) _
    refine st112.trans ?_
    show Steps p.tables e below (T112.setTop (mkF m 35 #[.val (.int p1), .val (.int (19 : Int32)), .val (.ref w3), .val (.int (0 : Int32))] [(.int (0 : Int32))])) _
    refine XS.iloadN X112.here hx rfl (hb hby at_35) rfl ?_
    show Steps p.tables e below (T112.setTop (mkF m 36 #[.val (.int p1), .val (.int (19 : Int32)), .val (.ref w3), .val (.int (0 : Int32))] [(.int (0 : Int32)), (.int (0 : Int32))])) _
    refine XS.icmpNo X112.here hx rfl (hb hby at_36) rfl (by decide) ?_
    show Steps p.tables e below (T112.setTop (mkF m 39 #[.val (.int p1), .val (.int (19 : Int32)), .val (.ref w3), .val (.int (0 : Int32))] [])) _
    refine XT.iconstV X112.here hx rfl (1 : Int32) (hb hby at_39) rfl ?_
    show Steps p.tables e below (T112.setTop (mkF m 40 #[.val (.int p1), .val (.int (19 : Int32)), .val (.ref w3), .val (.int (0 : Int32))] [(.int (1 : Int32))])) _
    refine XS.goto X112.here hx rfl (pc0 := 40) (pc' := 44) rfl (hb hby at_40) (by decide) (by decide) ?_
    show Steps p.tables e below (T112.setTop (mkF m 44 #[.val (.int p1), .val (.int (19 : Int32)), .val (.ref w3), .val (.int (0 : Int32))] [(.int (1 : Int32))])) _
    exact retN X112 hx (t := .boolean) Bd.returns (by simp) (hb hby at_44) hr
  · show own_Q0 n0 _ T112.heap _
    exact ⟨rfl, N112⟩
set_option maxRecDepth 65536 in
set_option maxHeartbeats 40000000 in
theorem own_law_20 (l : Launch) (Z : State) (a0 : Array Value) (hw : ∀ d ∈ tables_1, d.before a0 Z = true) (ws : List Jvm.Cond) (p1 : Int32) (w0 w1 w2 w3 w4 w5 w6 w7 w8 w9 w10 w11 w12 w13 w14 w15 w16 w17 w18 w19 w20 w21 w22 w23 : Addr) (h0 : Heap) (n0 : Nat) (Z0 : n0 ≤ h0.size) (P : own_P Z h0 w0 w1 w2 w3 w4 w5 w6 w7 w8 w9 w10 w11 w12 w13 w14 w15 w16 w17 w18 w19 w20 w21 w22 w23) (hk : ((p1 &&& (2147483647 : Int32)) % (24 : Int32)) = (20 : Int32)) :
    MetFree l x (head1 (Jvm.Cond.code x code maxLocals ret :: ws) room_1) (fun a U => a = #[(.int p1)] ∧ Z.Warmed39 U.vm ∧ U.heap = h0) (fun _ _ _ _ _ => True) (fun _ U o U' => ∃ v L, o = .returned v ∧ own_Q0 n0 v U'.heap L ∧ FrameEnd U o U' L room_1.cells room_1.slots) := by
  refine MetFree.of_bodySF (plainFor_of_name pn_apportion_io_DataTypeIsDecimalPinLaw) hisR ?_
  intro p e s m args below meth c s₁ Bd hml0 hP hK
  obtain ⟨rfl, hZ, hh⟩ := hP
  have hx := Bd.exec
  have hby := Bd.bytes
  have hml : c.maxLocals = 4 := hml0
  have hown : s.vm.findClass "apportion/io/DataTypeIsDecimalPinLaw" = some m.cls := findClass_of_methodNamed Bd.named
  have hnm := (name_of_methodNamed Bd.named Bd.method).1
  have X0 : Stand p l e room_1 s m #[(.int p1)] below meth c s₁ [] 0 0 := Stand.of_body Bd
  have e0 : s₁.heap = h0 := by rw [← hh, Bd.state]; rfl
  have N0 := Fr.nil n0
  have pre0 : ∀ t, Steps p.tables e below (s₁.setTop (mkF m 0 #[.val (.int p1), .unset, .unset, .unset] [])) t → Steps p.tables e below (s₁.setTop (entryFrame m #[(.int p1)] maxLocals)) t := fun t k => castTop (ef_code_I m p1) k
  have P0 := P; obtain ⟨S0, E0, F0_ordinal, S1, E1, F1_ordinal, S2, E2, F2_ordinal, S3, E3, F3_ordinal, S4, E4, F4_ordinal, S5, E5, F5_ordinal, S6, E6, F6_ordinal, S7, E7, F7_ordinal, S8, E8, F8_ordinal, S9, E9, F9_ordinal, S10, E10, F10_ordinal, S11, E11, F11_ordinal, S12, E12, F12_ordinal, S13, E13, F13_ordinal, S14, E14, F14_ordinal, S15, E15, F15_ordinal, S16, E16, F16_ordinal, S17, E17, F17_ordinal, S18, E18, F18_ordinal, S19, E19, F19_ordinal, S20, E20, F20_ordinal, S21, E21, F21_ordinal, S22, E22, F22_ordinal, S23, E23, F23_ordinal⟩ := P0
  obtain ⟨_, _, ⟨T113, L113, k113, n113⟩, -, X113, ⟨Lc113, hQ113, l113, y113, z113⟩, st113⟩ := Jvm.LawKit.callS X0 hx (y := (⟨"apportion/io/DataTypeIsDecimalPinLaw", "pick", "(I)Lapportion/io/DataType;"⟩ : MethodName)) hown (mvT hZ (hw _ (List.mem_of_getElem? (i := 1) rfl))) (mvT hZ (hw _ (List.mem_of_getElem? (i := 2) rfl))) (mvT hZ (hw _ (List.mem_of_getElem? (i := 3) rfl))) (mvT hZ (hw _ (List.mem_of_getElem? (i := 4) rfl))) (by decide) (backOf (W := 0) (own_pick_20 l Z a0 hw [] w0 w1 w2 w3 w4 w5 w6 w7 w8 w9 w10 w11 w12 w13 w14 w15 w16 w17 w18 w19 w20 w21 w22 w23 h0 n0 Z0 P) hZ (hw _ (List.mem_of_getElem? (i := 4) rfl)) (hw _ (List.mem_of_getElem? (i := 3) rfl)) (by decide) (by decide)) (g := (mkF m 9 #[.val (.int p1), .val (.int (20 : Int32)), .unset, .unset] [(.int (20 : Int32))])) rfl (by rw [hml]; rfl) (argsL := [(.int (20 : Int32))]) (rest := []) (lenOf pd__I_Lapportion_io_DataType_ rfl) rfl (by show 2 * 0 + _ ≤ _; exact Nat.le_of_eq rfl) (hb hby at_9) (fun _ _ => ⟨rfl, e0, (by decide : 0 + 0 ≤ _), (by decide : 0 + 0 ≤ _)⟩)
  dsimp only [Pt.U, Pt.locs, Pt.cells, Pt.slots] at X113 l113 y113 z113 st113 hQ113
  subst l113 y113 z113
  obtain ⟨rfl, N113q, e113⟩ := hQ113
  have N113 := Fr.app N0 N113q
  obtain ⟨cq114, kq114, q114a, q114b, q114c⟩ := isOf hZ e113 E14
  obtain ⟨_, _, ⟨T114, L114, k114, n114⟩, -, X114, ⟨Lc114, hQ114, l114, y114, z114⟩, st114⟩ := X113.virtualBack hx (y := (⟨"apportion/io/DataType", "isDecimal", "()Z"⟩ : MethodName)) (z := (⟨"apportion/io/DataType", "isDecimal", "()Z"⟩ : MethodName)) hown (mvT hZ (hw _ (List.mem_of_getElem? (i := 8) rfl))) (mvT hZ (hw _ (List.mem_of_getElem? (i := 9) rfl))) (notFace_of_selects (args := #[]) (mvT hZ (hw _ (List.mem_of_getElem? (i := 11) rfl)))) (mvT hZ (hw _ (List.mem_of_getElem? (i := 11) rfl))) (mvT hZ (hw _ (List.mem_of_getElem? (i := 10) rfl))) (by decide) (backOf (W := 0) (own_isDecimal_14 l Z a0 hw [] w0 w1 w2 w3 w4 w5 w6 w7 w8 w9 w10 w11 w12 w13 w14 w15 w16 w17 w18 w19 w20 w21 w22 w23 h0 n0 Z0 P) hZ (hw _ (List.mem_of_getElem? (i := 12) rfl)) (hw _ (List.mem_of_getElem? (i := 6) rfl)) (by decide) (by decide)) q114a q114c (g := (mkF m 32 #[.val (.int p1), .val (.int (20 : Int32)), .val (.ref w14), .val (.int (0 : Int32))] [(.ref w14)])) rfl (by rw [hml]; rfl) (Steps.refl _) (argsL := []) (rest := []) (lenOf pd___Z rfl) rfl (by show 2 * 0 + _ ≤ _; exact Nat.le_of_eq rfl) (hb hby at_32) (fun _ _ => ⟨rfl, e113, (by decide : 0 + 0 ≤ _), (by decide : 0 + 0 ≤ _)⟩)
  dsimp only [Pt.U, Pt.locs, Pt.cells, Pt.slots] at X114 l114 y114 z114 st114 hQ114
  subst l114 y114 z114
  obtain ⟨rfl, N114q, e114⟩ := hQ114
  have N114 := Fr.app N113 N114q
  obtain ⟨fs, hr, hrun, hended, hW, hsame⟩ := X114.leave (v := some (.int (1 : Int32))) (fun h => by rw [Bd.returns] at h; cases h)
  refine ⟨_, _, pre0 _ ?_, hrun, hended, _, _, rfl, ?_, ⟨_, rfl⟩, hW, hsame.mono (by decide) (by decide)⟩
  · show Steps p.tables e below (s₁.setTop (mkF m 0 #[.val (.int p1), .unset, .unset, .unset] [])) _
    refine XS.iloadN X0.here hx rfl (hb hby at_0) rfl ?_
    show Steps p.tables e below (s₁.setTop (mkF m 1 #[.val (.int p1), .unset, .unset, .unset] [(.int p1)])) _
    refine Jvm.Stand.ldcI X0 hx hown (mvT hZ (hw _ (List.mem_of_getElem? (i := 0) rfl))) rfl (hb hby at_1) ?_
    show Steps p.tables e below (s₁.setTop (mkF m 3 #[.val (.int p1), .unset, .unset, .unset] [(.int (2147483647 : Int32)), (.int p1)])) _
    refine XS.iand X0.here hx rfl (hb hby at_3) rfl ?_
    show Steps p.tables e below (s₁.setTop (mkF m 4 #[.val (.int p1), .unset, .unset, .unset] [(.int (p1 &&& (2147483647 : Int32)))])) _
    refine XT.bipushV X0.here hx rfl (24 : Int32) (hb hby at_4) (by decide) ?_
    show Steps p.tables e below (s₁.setTop (mkF m 6 #[.val (.int p1), .unset, .unset, .unset] [(.int (24 : Int32)), (.int (p1 &&& (2147483647 : Int32)))])) _
    refine iremM X0 hx rfl (hb hby at_6) rfl (by decide) ?_
    show Steps p.tables e below (s₁.setTop (mkF m 7 #[.val (.int p1), .unset, .unset, .unset] [(.int ((p1 &&& (2147483647 : Int32)) % (24 : Int32)))])) _
    rw [hk]
    show Steps p.tables e below (s₁.setTop (mkF m 7 #[.val (.int p1), .unset, .unset, .unset] [(.int (20 : Int32))])) _
    refine XS.istoreN X0.here hx rfl (hb hby at_7) rfl (l' := #[.val (.int p1), .val (.int (20 : Int32)), .unset, .unset]) rfl ?_
    show Steps p.tables e below (s₁.setTop (mkF m 8 #[.val (.int p1), .val (.int (20 : Int32)), .unset, .unset] [])) _
    refine XS.iloadN X0.here hx rfl (hb hby at_8) rfl ?_
    show Steps p.tables e below (s₁.setTop (mkF m 9 #[.val (.int p1), .val (.int (20 : Int32)), .unset, .unset] [(.int (20 : Int32))])) _
    refine st113 _ ?_
    show Steps p.tables e below (T113.setTop (mkF m 12 #[.val (.int p1), .val (.int (20 : Int32)), .unset, .unset] [(.ref w14)])) _
    refine XS.astoreN X113.here hx rfl (hb hby at_12) rfl rfl (l' := #[.val (.int p1), .val (.int (20 : Int32)), .val (.ref w14), .unset]) rfl ?_
    show Steps p.tables e below (T113.setTop (mkF m 13 #[.val (.int p1), .val (.int (20 : Int32)), .val (.ref w14), .unset] [])) _
    refine XS.iloadN X113.here hx rfl (hb hby at_13) rfl ?_
    show Steps p.tables e below (T113.setTop (mkF m 14 #[.val (.int p1), .val (.int (20 : Int32)), .val (.ref w14), .unset] [(.int (20 : Int32))])) _
    refine XT.bipushV X113.here hx rfl (8 : Int32) (hb hby at_14) (by decide) ?_
    show Steps p.tables e below (T113.setTop (mkF m 16 #[.val (.int p1), .val (.int (20 : Int32)), .val (.ref w14), .unset] [(.int (8 : Int32)), (.int (20 : Int32))])) _
    refine XS.icmpNo X113.here hx rfl (hb hby at_16) rfl (by decide) ?_
    show Steps p.tables e below (T113.setTop (mkF m 19 #[.val (.int p1), .val (.int (20 : Int32)), .val (.ref w14), .unset] [])) _
    refine XS.iloadN X113.here hx rfl (hb hby at_19) rfl ?_
    show Steps p.tables e below (T113.setTop (mkF m 20 #[.val (.int p1), .val (.int (20 : Int32)), .val (.ref w14), .unset] [(.int (20 : Int32))])) _
    refine XT.bipushV X113.here hx rfl (13 : Int32) (hb hby at_20) (by decide) ?_
    show Steps p.tables e below (T113.setTop (mkF m 22 #[.val (.int p1), .val (.int (20 : Int32)), .val (.ref w14), .unset] [(.int (13 : Int32)), (.int (20 : Int32))])) _
    refine XS.icmpYes X113.here hx rfl (pc0 := 22) (pc' := 29) rfl (hb hby at_22) rfl (by decide) (by decide) (by decide) ?_
    show Steps p.tables e below (T113.setTop (mkF m 29 #[.val (.int p1), .val (.int (20 : Int32)), .val (.ref w14), .unset] [])) _
    refine XT.iconstV X113.here hx rfl (0 : Int32) (hb hby at_29) rfl ?_
    show Steps p.tables e below (T113.setTop (mkF m 30 #[.val (.int p1), .val (.int (20 : Int32)), .val (.ref w14), .unset] [(.int (0 : Int32))])) _
    refine XS.istoreN X113.here hx rfl (hb hby at_30) rfl (l' := #[.val (.int p1), .val (.int (20 : Int32)), .val (.ref w14), .val (.int (0 : Int32))]) rfl ?_
    show Steps p.tables e below (T113.setTop (mkF m 31 #[.val (.int p1), .val (.int (20 : Int32)), .val (.ref w14), .val (.int (0 : Int32))] [])) _
    refine XS.aloadN X113.here hx rfl (hb hby at_31) rfl rfl ?_
    show Steps p.tables e below (T113.setTop (mkF m 32 #[.val (.int p1), .val (.int (20 : Int32)), .val (.ref w14), .val (.int (0 : Int32))] [(.ref w14)])) _
    refine st114.trans ?_
    show Steps p.tables e below (T114.setTop (mkF m 35 #[.val (.int p1), .val (.int (20 : Int32)), .val (.ref w14), .val (.int (0 : Int32))] [(.int (0 : Int32))])) _
    refine XS.iloadN X114.here hx rfl (hb hby at_35) rfl ?_
    show Steps p.tables e below (T114.setTop (mkF m 36 #[.val (.int p1), .val (.int (20 : Int32)), .val (.ref w14), .val (.int (0 : Int32))] [(.int (0 : Int32)), (.int (0 : Int32))])) _
    refine XS.icmpNo X114.here hx rfl (hb hby at_36) rfl (by decide) ?_
    show Steps p.tables e below (T114.setTop (mkF m 39 #[.val (.int p1), .val (.int (20 : Int32)), .val (.ref w14), .val (.int (0 : Int32))] [])) _
    refine XT.iconstV X114.here hx rfl (1 : Int32) (hb hby at_39) rfl ?_
    show Steps p.tables e below (T114.setTop (mkF m 40 #[.val (.int p1), .val (.int (20 : Int32)), .val (.ref w14), .val (.int (0 : Int32))] [(.int (1 : Int32))])) _
    refine XS.goto X114.here hx rfl (pc0 := 40) (pc' := 44) rfl (hb hby at_40) (by decide) (by decide) ?_
    show Steps p.tables e below (T114.setTop (mkF m 44 #[.val (.int p1), .val (.int (20 : Int32)), .val (.ref w14), .val (.int (0 : Int32))] [(.int (1 : Int32))])) _
    exact retN X114 hx (t := .boolean) Bd.returns (by simp) (hb hby at_44) hr
  · show own_Q0 n0 _ T114.heap _
    exact ⟨rfl, N114⟩
set_option maxRecDepth 65536 in
set_option maxHeartbeats 40000000 in
theorem own_law_21 (l : Launch) (Z : State) (a0 : Array Value) (hw : ∀ d ∈ tables_1, d.before a0 Z = true) (ws : List Jvm.Cond) (p1 : Int32) (w0 w1 w2 w3 w4 w5 w6 w7 w8 w9 w10 w11 w12 w13 w14 w15 w16 w17 w18 w19 w20 w21 w22 w23 : Addr) (h0 : Heap) (n0 : Nat) (Z0 : n0 ≤ h0.size) (P : own_P Z h0 w0 w1 w2 w3 w4 w5 w6 w7 w8 w9 w10 w11 w12 w13 w14 w15 w16 w17 w18 w19 w20 w21 w22 w23) (hk : ((p1 &&& (2147483647 : Int32)) % (24 : Int32)) = (21 : Int32)) :
    MetFree l x (head1 (Jvm.Cond.code x code maxLocals ret :: ws) room_1) (fun a U => a = #[(.int p1)] ∧ Z.Warmed39 U.vm ∧ U.heap = h0) (fun _ _ _ _ _ => True) (fun _ U o U' => ∃ v L, o = .returned v ∧ own_Q0 n0 v U'.heap L ∧ FrameEnd U o U' L room_1.cells room_1.slots) := by
  refine MetFree.of_bodySF (plainFor_of_name pn_apportion_io_DataTypeIsDecimalPinLaw) hisR ?_
  intro p e s m args below meth c s₁ Bd hml0 hP hK
  obtain ⟨rfl, hZ, hh⟩ := hP
  have hx := Bd.exec
  have hby := Bd.bytes
  have hml : c.maxLocals = 4 := hml0
  have hown : s.vm.findClass "apportion/io/DataTypeIsDecimalPinLaw" = some m.cls := findClass_of_methodNamed Bd.named
  have hnm := (name_of_methodNamed Bd.named Bd.method).1
  have X0 : Stand p l e room_1 s m #[(.int p1)] below meth c s₁ [] 0 0 := Stand.of_body Bd
  have e0 : s₁.heap = h0 := by rw [← hh, Bd.state]; rfl
  have N0 := Fr.nil n0
  have pre0 : ∀ t, Steps p.tables e below (s₁.setTop (mkF m 0 #[.val (.int p1), .unset, .unset, .unset] [])) t → Steps p.tables e below (s₁.setTop (entryFrame m #[(.int p1)] maxLocals)) t := fun t k => castTop (ef_code_I m p1) k
  have P0 := P; obtain ⟨S0, E0, F0_ordinal, S1, E1, F1_ordinal, S2, E2, F2_ordinal, S3, E3, F3_ordinal, S4, E4, F4_ordinal, S5, E5, F5_ordinal, S6, E6, F6_ordinal, S7, E7, F7_ordinal, S8, E8, F8_ordinal, S9, E9, F9_ordinal, S10, E10, F10_ordinal, S11, E11, F11_ordinal, S12, E12, F12_ordinal, S13, E13, F13_ordinal, S14, E14, F14_ordinal, S15, E15, F15_ordinal, S16, E16, F16_ordinal, S17, E17, F17_ordinal, S18, E18, F18_ordinal, S19, E19, F19_ordinal, S20, E20, F20_ordinal, S21, E21, F21_ordinal, S22, E22, F22_ordinal, S23, E23, F23_ordinal⟩ := P0
  obtain ⟨_, _, ⟨T115, L115, k115, n115⟩, -, X115, ⟨Lc115, hQ115, l115, y115, z115⟩, st115⟩ := Jvm.LawKit.callS X0 hx (y := (⟨"apportion/io/DataTypeIsDecimalPinLaw", "pick", "(I)Lapportion/io/DataType;"⟩ : MethodName)) hown (mvT hZ (hw _ (List.mem_of_getElem? (i := 1) rfl))) (mvT hZ (hw _ (List.mem_of_getElem? (i := 2) rfl))) (mvT hZ (hw _ (List.mem_of_getElem? (i := 3) rfl))) (mvT hZ (hw _ (List.mem_of_getElem? (i := 4) rfl))) (by decide) (backOf (W := 0) (own_pick_21 l Z a0 hw [] w0 w1 w2 w3 w4 w5 w6 w7 w8 w9 w10 w11 w12 w13 w14 w15 w16 w17 w18 w19 w20 w21 w22 w23 h0 n0 Z0 P) hZ (hw _ (List.mem_of_getElem? (i := 4) rfl)) (hw _ (List.mem_of_getElem? (i := 3) rfl)) (by decide) (by decide)) (g := (mkF m 9 #[.val (.int p1), .val (.int (21 : Int32)), .unset, .unset] [(.int (21 : Int32))])) rfl (by rw [hml]; rfl) (argsL := [(.int (21 : Int32))]) (rest := []) (lenOf pd__I_Lapportion_io_DataType_ rfl) rfl (by show 2 * 0 + _ ≤ _; exact Nat.le_of_eq rfl) (hb hby at_9) (fun _ _ => ⟨rfl, e0, (by decide : 0 + 0 ≤ _), (by decide : 0 + 0 ≤ _)⟩)
  dsimp only [Pt.U, Pt.locs, Pt.cells, Pt.slots] at X115 l115 y115 z115 st115 hQ115
  subst l115 y115 z115
  obtain ⟨rfl, N115q, e115⟩ := hQ115
  have N115 := Fr.app N0 N115q
  obtain ⟨cq116, kq116, q116a, q116b, q116c⟩ := isOf hZ e115 E21
  obtain ⟨_, _, ⟨T116, L116, k116, n116⟩, -, X116, ⟨Lc116, hQ116, l116, y116, z116⟩, st116⟩ := X115.virtualBack hx (y := (⟨"apportion/io/DataType", "isDecimal", "()Z"⟩ : MethodName)) (z := (⟨"apportion/io/DataType", "isDecimal", "()Z"⟩ : MethodName)) hown (mvT hZ (hw _ (List.mem_of_getElem? (i := 8) rfl))) (mvT hZ (hw _ (List.mem_of_getElem? (i := 9) rfl))) (notFace_of_selects (args := #[]) (mvT hZ (hw _ (List.mem_of_getElem? (i := 11) rfl)))) (mvT hZ (hw _ (List.mem_of_getElem? (i := 11) rfl))) (mvT hZ (hw _ (List.mem_of_getElem? (i := 10) rfl))) (by decide) (backOf (W := 0) (own_isDecimal_21 l Z a0 hw [] w0 w1 w2 w3 w4 w5 w6 w7 w8 w9 w10 w11 w12 w13 w14 w15 w16 w17 w18 w19 w20 w21 w22 w23 h0 n0 Z0 P) hZ (hw _ (List.mem_of_getElem? (i := 12) rfl)) (hw _ (List.mem_of_getElem? (i := 6) rfl)) (by decide) (by decide)) q116a q116c (g := (mkF m 32 #[.val (.int p1), .val (.int (21 : Int32)), .val (.ref w21), .val (.int (0 : Int32))] [(.ref w21)])) rfl (by rw [hml]; rfl) (Steps.refl _) (argsL := []) (rest := []) (lenOf pd___Z rfl) rfl (by show 2 * 0 + _ ≤ _; exact Nat.le_of_eq rfl) (hb hby at_32) (fun _ _ => ⟨rfl, e115, (by decide : 0 + 0 ≤ _), (by decide : 0 + 0 ≤ _)⟩)
  dsimp only [Pt.U, Pt.locs, Pt.cells, Pt.slots] at X116 l116 y116 z116 st116 hQ116
  subst l116 y116 z116
  obtain ⟨rfl, N116q, e116⟩ := hQ116
  have N116 := Fr.app N115 N116q
  obtain ⟨fs, hr, hrun, hended, hW, hsame⟩ := X116.leave (v := some (.int (1 : Int32))) (fun h => by rw [Bd.returns] at h; cases h)
  refine ⟨_, _, pre0 _ ?_, hrun, hended, _, _, rfl, ?_, ⟨_, rfl⟩, hW, hsame.mono (by decide) (by decide)⟩
  · show Steps p.tables e below (s₁.setTop (mkF m 0 #[.val (.int p1), .unset, .unset, .unset] [])) _
    refine XS.iloadN X0.here hx rfl (hb hby at_0) rfl ?_
    show Steps p.tables e below (s₁.setTop (mkF m 1 #[.val (.int p1), .unset, .unset, .unset] [(.int p1)])) _
    refine Jvm.Stand.ldcI X0 hx hown (mvT hZ (hw _ (List.mem_of_getElem? (i := 0) rfl))) rfl (hb hby at_1) ?_
    show Steps p.tables e below (s₁.setTop (mkF m 3 #[.val (.int p1), .unset, .unset, .unset] [(.int (2147483647 : Int32)), (.int p1)])) _
    refine XS.iand X0.here hx rfl (hb hby at_3) rfl ?_
    show Steps p.tables e below (s₁.setTop (mkF m 4 #[.val (.int p1), .unset, .unset, .unset] [(.int (p1 &&& (2147483647 : Int32)))])) _
    refine XT.bipushV X0.here hx rfl (24 : Int32) (hb hby at_4) (by decide) ?_
    show Steps p.tables e below (s₁.setTop (mkF m 6 #[.val (.int p1), .unset, .unset, .unset] [(.int (24 : Int32)), (.int (p1 &&& (2147483647 : Int32)))])) _
    refine iremM X0 hx rfl (hb hby at_6) rfl (by decide) ?_
    show Steps p.tables e below (s₁.setTop (mkF m 7 #[.val (.int p1), .unset, .unset, .unset] [(.int ((p1 &&& (2147483647 : Int32)) % (24 : Int32)))])) _
    rw [hk]
    show Steps p.tables e below (s₁.setTop (mkF m 7 #[.val (.int p1), .unset, .unset, .unset] [(.int (21 : Int32))])) _
    refine XS.istoreN X0.here hx rfl (hb hby at_7) rfl (l' := #[.val (.int p1), .val (.int (21 : Int32)), .unset, .unset]) rfl ?_
    show Steps p.tables e below (s₁.setTop (mkF m 8 #[.val (.int p1), .val (.int (21 : Int32)), .unset, .unset] [])) _
    refine XS.iloadN X0.here hx rfl (hb hby at_8) rfl ?_
    show Steps p.tables e below (s₁.setTop (mkF m 9 #[.val (.int p1), .val (.int (21 : Int32)), .unset, .unset] [(.int (21 : Int32))])) _
    refine st115 _ ?_
    show Steps p.tables e below (T115.setTop (mkF m 12 #[.val (.int p1), .val (.int (21 : Int32)), .unset, .unset] [(.ref w21)])) _
    refine XS.astoreN X115.here hx rfl (hb hby at_12) rfl rfl (l' := #[.val (.int p1), .val (.int (21 : Int32)), .val (.ref w21), .unset]) rfl ?_
    show Steps p.tables e below (T115.setTop (mkF m 13 #[.val (.int p1), .val (.int (21 : Int32)), .val (.ref w21), .unset] [])) _
    refine XS.iloadN X115.here hx rfl (hb hby at_13) rfl ?_
    show Steps p.tables e below (T115.setTop (mkF m 14 #[.val (.int p1), .val (.int (21 : Int32)), .val (.ref w21), .unset] [(.int (21 : Int32))])) _
    refine XT.bipushV X115.here hx rfl (8 : Int32) (hb hby at_14) (by decide) ?_
    show Steps p.tables e below (T115.setTop (mkF m 16 #[.val (.int p1), .val (.int (21 : Int32)), .val (.ref w21), .unset] [(.int (8 : Int32)), (.int (21 : Int32))])) _
    refine XS.icmpNo X115.here hx rfl (hb hby at_16) rfl (by decide) ?_
    show Steps p.tables e below (T115.setTop (mkF m 19 #[.val (.int p1), .val (.int (21 : Int32)), .val (.ref w21), .unset] [])) _
    refine XS.iloadN X115.here hx rfl (hb hby at_19) rfl ?_
    show Steps p.tables e below (T115.setTop (mkF m 20 #[.val (.int p1), .val (.int (21 : Int32)), .val (.ref w21), .unset] [(.int (21 : Int32))])) _
    refine XT.bipushV X115.here hx rfl (13 : Int32) (hb hby at_20) (by decide) ?_
    show Steps p.tables e below (T115.setTop (mkF m 22 #[.val (.int p1), .val (.int (21 : Int32)), .val (.ref w21), .unset] [(.int (13 : Int32)), (.int (21 : Int32))])) _
    refine XS.icmpYes X115.here hx rfl (pc0 := 22) (pc' := 29) rfl (hb hby at_22) rfl (by decide) (by decide) (by decide) ?_
    show Steps p.tables e below (T115.setTop (mkF m 29 #[.val (.int p1), .val (.int (21 : Int32)), .val (.ref w21), .unset] [])) _
    refine XT.iconstV X115.here hx rfl (0 : Int32) (hb hby at_29) rfl ?_
    show Steps p.tables e below (T115.setTop (mkF m 30 #[.val (.int p1), .val (.int (21 : Int32)), .val (.ref w21), .unset] [(.int (0 : Int32))])) _
    refine XS.istoreN X115.here hx rfl (hb hby at_30) rfl (l' := #[.val (.int p1), .val (.int (21 : Int32)), .val (.ref w21), .val (.int (0 : Int32))]) rfl ?_
    show Steps p.tables e below (T115.setTop (mkF m 31 #[.val (.int p1), .val (.int (21 : Int32)), .val (.ref w21), .val (.int (0 : Int32))] [])) _
    refine XS.aloadN X115.here hx rfl (hb hby at_31) rfl rfl ?_
    show Steps p.tables e below (T115.setTop (mkF m 32 #[.val (.int p1), .val (.int (21 : Int32)), .val (.ref w21), .val (.int (0 : Int32))] [(.ref w21)])) _
    refine st116.trans ?_
    show Steps p.tables e below (T116.setTop (mkF m 35 #[.val (.int p1), .val (.int (21 : Int32)), .val (.ref w21), .val (.int (0 : Int32))] [(.int (0 : Int32))])) _
    refine XS.iloadN X116.here hx rfl (hb hby at_35) rfl ?_
    show Steps p.tables e below (T116.setTop (mkF m 36 #[.val (.int p1), .val (.int (21 : Int32)), .val (.ref w21), .val (.int (0 : Int32))] [(.int (0 : Int32)), (.int (0 : Int32))])) _
    refine XS.icmpNo X116.here hx rfl (hb hby at_36) rfl (by decide) ?_
    show Steps p.tables e below (T116.setTop (mkF m 39 #[.val (.int p1), .val (.int (21 : Int32)), .val (.ref w21), .val (.int (0 : Int32))] [])) _
    refine XT.iconstV X116.here hx rfl (1 : Int32) (hb hby at_39) rfl ?_
    show Steps p.tables e below (T116.setTop (mkF m 40 #[.val (.int p1), .val (.int (21 : Int32)), .val (.ref w21), .val (.int (0 : Int32))] [(.int (1 : Int32))])) _
    refine XS.goto X116.here hx rfl (pc0 := 40) (pc' := 44) rfl (hb hby at_40) (by decide) (by decide) ?_
    show Steps p.tables e below (T116.setTop (mkF m 44 #[.val (.int p1), .val (.int (21 : Int32)), .val (.ref w21), .val (.int (0 : Int32))] [(.int (1 : Int32))])) _
    exact retN X116 hx (t := .boolean) Bd.returns (by simp) (hb hby at_44) hr
  · show own_Q0 n0 _ T116.heap _
    exact ⟨rfl, N116⟩
set_option maxRecDepth 65536 in
set_option maxHeartbeats 40000000 in
theorem own_law_22 (l : Launch) (Z : State) (a0 : Array Value) (hw : ∀ d ∈ tables_1, d.before a0 Z = true) (ws : List Jvm.Cond) (p1 : Int32) (w0 w1 w2 w3 w4 w5 w6 w7 w8 w9 w10 w11 w12 w13 w14 w15 w16 w17 w18 w19 w20 w21 w22 w23 : Addr) (h0 : Heap) (n0 : Nat) (Z0 : n0 ≤ h0.size) (P : own_P Z h0 w0 w1 w2 w3 w4 w5 w6 w7 w8 w9 w10 w11 w12 w13 w14 w15 w16 w17 w18 w19 w20 w21 w22 w23) (hk : ((p1 &&& (2147483647 : Int32)) % (24 : Int32)) = (22 : Int32)) :
    MetFree l x (head1 (Jvm.Cond.code x code maxLocals ret :: ws) room_1) (fun a U => a = #[(.int p1)] ∧ Z.Warmed39 U.vm ∧ U.heap = h0) (fun _ _ _ _ _ => True) (fun _ U o U' => ∃ v L, o = .returned v ∧ own_Q0 n0 v U'.heap L ∧ FrameEnd U o U' L room_1.cells room_1.slots) := by
  refine MetFree.of_bodySF (plainFor_of_name pn_apportion_io_DataTypeIsDecimalPinLaw) hisR ?_
  intro p e s m args below meth c s₁ Bd hml0 hP hK
  obtain ⟨rfl, hZ, hh⟩ := hP
  have hx := Bd.exec
  have hby := Bd.bytes
  have hml : c.maxLocals = 4 := hml0
  have hown : s.vm.findClass "apportion/io/DataTypeIsDecimalPinLaw" = some m.cls := findClass_of_methodNamed Bd.named
  have hnm := (name_of_methodNamed Bd.named Bd.method).1
  have X0 : Stand p l e room_1 s m #[(.int p1)] below meth c s₁ [] 0 0 := Stand.of_body Bd
  have e0 : s₁.heap = h0 := by rw [← hh, Bd.state]; rfl
  have N0 := Fr.nil n0
  have pre0 : ∀ t, Steps p.tables e below (s₁.setTop (mkF m 0 #[.val (.int p1), .unset, .unset, .unset] [])) t → Steps p.tables e below (s₁.setTop (entryFrame m #[(.int p1)] maxLocals)) t := fun t k => castTop (ef_code_I m p1) k
  have P0 := P; obtain ⟨S0, E0, F0_ordinal, S1, E1, F1_ordinal, S2, E2, F2_ordinal, S3, E3, F3_ordinal, S4, E4, F4_ordinal, S5, E5, F5_ordinal, S6, E6, F6_ordinal, S7, E7, F7_ordinal, S8, E8, F8_ordinal, S9, E9, F9_ordinal, S10, E10, F10_ordinal, S11, E11, F11_ordinal, S12, E12, F12_ordinal, S13, E13, F13_ordinal, S14, E14, F14_ordinal, S15, E15, F15_ordinal, S16, E16, F16_ordinal, S17, E17, F17_ordinal, S18, E18, F18_ordinal, S19, E19, F19_ordinal, S20, E20, F20_ordinal, S21, E21, F21_ordinal, S22, E22, F22_ordinal, S23, E23, F23_ordinal⟩ := P0
  obtain ⟨_, _, ⟨T117, L117, k117, n117⟩, -, X117, ⟨Lc117, hQ117, l117, y117, z117⟩, st117⟩ := Jvm.LawKit.callS X0 hx (y := (⟨"apportion/io/DataTypeIsDecimalPinLaw", "pick", "(I)Lapportion/io/DataType;"⟩ : MethodName)) hown (mvT hZ (hw _ (List.mem_of_getElem? (i := 1) rfl))) (mvT hZ (hw _ (List.mem_of_getElem? (i := 2) rfl))) (mvT hZ (hw _ (List.mem_of_getElem? (i := 3) rfl))) (mvT hZ (hw _ (List.mem_of_getElem? (i := 4) rfl))) (by decide) (backOf (W := 0) (own_pick_22 l Z a0 hw [] w0 w1 w2 w3 w4 w5 w6 w7 w8 w9 w10 w11 w12 w13 w14 w15 w16 w17 w18 w19 w20 w21 w22 w23 h0 n0 Z0 P) hZ (hw _ (List.mem_of_getElem? (i := 4) rfl)) (hw _ (List.mem_of_getElem? (i := 3) rfl)) (by decide) (by decide)) (g := (mkF m 9 #[.val (.int p1), .val (.int (22 : Int32)), .unset, .unset] [(.int (22 : Int32))])) rfl (by rw [hml]; rfl) (argsL := [(.int (22 : Int32))]) (rest := []) (lenOf pd__I_Lapportion_io_DataType_ rfl) rfl (by show 2 * 0 + _ ≤ _; exact Nat.le_of_eq rfl) (hb hby at_9) (fun _ _ => ⟨rfl, e0, (by decide : 0 + 0 ≤ _), (by decide : 0 + 0 ≤ _)⟩)
  dsimp only [Pt.U, Pt.locs, Pt.cells, Pt.slots] at X117 l117 y117 z117 st117 hQ117
  subst l117 y117 z117
  obtain ⟨rfl, N117q, e117⟩ := hQ117
  have N117 := Fr.app N0 N117q
  obtain ⟨cq118, kq118, q118a, q118b, q118c⟩ := isOf hZ e117 E23
  obtain ⟨_, _, ⟨T118, L118, k118, n118⟩, -, X118, ⟨Lc118, hQ118, l118, y118, z118⟩, st118⟩ := X117.virtualBack hx (y := (⟨"apportion/io/DataType", "isDecimal", "()Z"⟩ : MethodName)) (z := (⟨"apportion/io/DataType", "isDecimal", "()Z"⟩ : MethodName)) hown (mvT hZ (hw _ (List.mem_of_getElem? (i := 8) rfl))) (mvT hZ (hw _ (List.mem_of_getElem? (i := 9) rfl))) (notFace_of_selects (args := #[]) (mvT hZ (hw _ (List.mem_of_getElem? (i := 11) rfl)))) (mvT hZ (hw _ (List.mem_of_getElem? (i := 11) rfl))) (mvT hZ (hw _ (List.mem_of_getElem? (i := 10) rfl))) (by decide) (backOf (W := 0) (own_isDecimal_23 l Z a0 hw [] w0 w1 w2 w3 w4 w5 w6 w7 w8 w9 w10 w11 w12 w13 w14 w15 w16 w17 w18 w19 w20 w21 w22 w23 h0 n0 Z0 P) hZ (hw _ (List.mem_of_getElem? (i := 12) rfl)) (hw _ (List.mem_of_getElem? (i := 6) rfl)) (by decide) (by decide)) q118a q118c (g := (mkF m 32 #[.val (.int p1), .val (.int (22 : Int32)), .val (.ref w23), .val (.int (0 : Int32))] [(.ref w23)])) rfl (by rw [hml]; rfl) (Steps.refl _) (argsL := []) (rest := []) (lenOf pd___Z rfl) rfl (by show 2 * 0 + _ ≤ _; exact Nat.le_of_eq rfl) (hb hby at_32) (fun _ _ => ⟨rfl, e117, (by decide : 0 + 0 ≤ _), (by decide : 0 + 0 ≤ _)⟩)
  dsimp only [Pt.U, Pt.locs, Pt.cells, Pt.slots] at X118 l118 y118 z118 st118 hQ118
  subst l118 y118 z118
  obtain ⟨rfl, N118q, e118⟩ := hQ118
  have N118 := Fr.app N117 N118q
  obtain ⟨fs, hr, hrun, hended, hW, hsame⟩ := X118.leave (v := some (.int (1 : Int32))) (fun h => by rw [Bd.returns] at h; cases h)
  refine ⟨_, _, pre0 _ ?_, hrun, hended, _, _, rfl, ?_, ⟨_, rfl⟩, hW, hsame.mono (by decide) (by decide)⟩
  · show Steps p.tables e below (s₁.setTop (mkF m 0 #[.val (.int p1), .unset, .unset, .unset] [])) _
    refine XS.iloadN X0.here hx rfl (hb hby at_0) rfl ?_
    show Steps p.tables e below (s₁.setTop (mkF m 1 #[.val (.int p1), .unset, .unset, .unset] [(.int p1)])) _
    refine Jvm.Stand.ldcI X0 hx hown (mvT hZ (hw _ (List.mem_of_getElem? (i := 0) rfl))) rfl (hb hby at_1) ?_
    show Steps p.tables e below (s₁.setTop (mkF m 3 #[.val (.int p1), .unset, .unset, .unset] [(.int (2147483647 : Int32)), (.int p1)])) _
    refine XS.iand X0.here hx rfl (hb hby at_3) rfl ?_
    show Steps p.tables e below (s₁.setTop (mkF m 4 #[.val (.int p1), .unset, .unset, .unset] [(.int (p1 &&& (2147483647 : Int32)))])) _
    refine XT.bipushV X0.here hx rfl (24 : Int32) (hb hby at_4) (by decide) ?_
    show Steps p.tables e below (s₁.setTop (mkF m 6 #[.val (.int p1), .unset, .unset, .unset] [(.int (24 : Int32)), (.int (p1 &&& (2147483647 : Int32)))])) _
    refine iremM X0 hx rfl (hb hby at_6) rfl (by decide) ?_
    show Steps p.tables e below (s₁.setTop (mkF m 7 #[.val (.int p1), .unset, .unset, .unset] [(.int ((p1 &&& (2147483647 : Int32)) % (24 : Int32)))])) _
    rw [hk]
    show Steps p.tables e below (s₁.setTop (mkF m 7 #[.val (.int p1), .unset, .unset, .unset] [(.int (22 : Int32))])) _
    refine XS.istoreN X0.here hx rfl (hb hby at_7) rfl (l' := #[.val (.int p1), .val (.int (22 : Int32)), .unset, .unset]) rfl ?_
    show Steps p.tables e below (s₁.setTop (mkF m 8 #[.val (.int p1), .val (.int (22 : Int32)), .unset, .unset] [])) _
    refine XS.iloadN X0.here hx rfl (hb hby at_8) rfl ?_
    show Steps p.tables e below (s₁.setTop (mkF m 9 #[.val (.int p1), .val (.int (22 : Int32)), .unset, .unset] [(.int (22 : Int32))])) _
    refine st117 _ ?_
    show Steps p.tables e below (T117.setTop (mkF m 12 #[.val (.int p1), .val (.int (22 : Int32)), .unset, .unset] [(.ref w23)])) _
    refine XS.astoreN X117.here hx rfl (hb hby at_12) rfl rfl (l' := #[.val (.int p1), .val (.int (22 : Int32)), .val (.ref w23), .unset]) rfl ?_
    show Steps p.tables e below (T117.setTop (mkF m 13 #[.val (.int p1), .val (.int (22 : Int32)), .val (.ref w23), .unset] [])) _
    refine XS.iloadN X117.here hx rfl (hb hby at_13) rfl ?_
    show Steps p.tables e below (T117.setTop (mkF m 14 #[.val (.int p1), .val (.int (22 : Int32)), .val (.ref w23), .unset] [(.int (22 : Int32))])) _
    refine XT.bipushV X117.here hx rfl (8 : Int32) (hb hby at_14) (by decide) ?_
    show Steps p.tables e below (T117.setTop (mkF m 16 #[.val (.int p1), .val (.int (22 : Int32)), .val (.ref w23), .unset] [(.int (8 : Int32)), (.int (22 : Int32))])) _
    refine XS.icmpNo X117.here hx rfl (hb hby at_16) rfl (by decide) ?_
    show Steps p.tables e below (T117.setTop (mkF m 19 #[.val (.int p1), .val (.int (22 : Int32)), .val (.ref w23), .unset] [])) _
    refine XS.iloadN X117.here hx rfl (hb hby at_19) rfl ?_
    show Steps p.tables e below (T117.setTop (mkF m 20 #[.val (.int p1), .val (.int (22 : Int32)), .val (.ref w23), .unset] [(.int (22 : Int32))])) _
    refine XT.bipushV X117.here hx rfl (13 : Int32) (hb hby at_20) (by decide) ?_
    show Steps p.tables e below (T117.setTop (mkF m 22 #[.val (.int p1), .val (.int (22 : Int32)), .val (.ref w23), .unset] [(.int (13 : Int32)), (.int (22 : Int32))])) _
    refine XS.icmpYes X117.here hx rfl (pc0 := 22) (pc' := 29) rfl (hb hby at_22) rfl (by decide) (by decide) (by decide) ?_
    show Steps p.tables e below (T117.setTop (mkF m 29 #[.val (.int p1), .val (.int (22 : Int32)), .val (.ref w23), .unset] [])) _
    refine XT.iconstV X117.here hx rfl (0 : Int32) (hb hby at_29) rfl ?_
    show Steps p.tables e below (T117.setTop (mkF m 30 #[.val (.int p1), .val (.int (22 : Int32)), .val (.ref w23), .unset] [(.int (0 : Int32))])) _
    refine XS.istoreN X117.here hx rfl (hb hby at_30) rfl (l' := #[.val (.int p1), .val (.int (22 : Int32)), .val (.ref w23), .val (.int (0 : Int32))]) rfl ?_
    show Steps p.tables e below (T117.setTop (mkF m 31 #[.val (.int p1), .val (.int (22 : Int32)), .val (.ref w23), .val (.int (0 : Int32))] [])) _
    refine XS.aloadN X117.here hx rfl (hb hby at_31) rfl rfl ?_
    show Steps p.tables e below (T117.setTop (mkF m 32 #[.val (.int p1), .val (.int (22 : Int32)), .val (.ref w23), .val (.int (0 : Int32))] [(.ref w23)])) _
    refine st118.trans ?_
    show Steps p.tables e below (T118.setTop (mkF m 35 #[.val (.int p1), .val (.int (22 : Int32)), .val (.ref w23), .val (.int (0 : Int32))] [(.int (0 : Int32))])) _
    refine XS.iloadN X118.here hx rfl (hb hby at_35) rfl ?_
    show Steps p.tables e below (T118.setTop (mkF m 36 #[.val (.int p1), .val (.int (22 : Int32)), .val (.ref w23), .val (.int (0 : Int32))] [(.int (0 : Int32)), (.int (0 : Int32))])) _
    refine XS.icmpNo X118.here hx rfl (hb hby at_36) rfl (by decide) ?_
    show Steps p.tables e below (T118.setTop (mkF m 39 #[.val (.int p1), .val (.int (22 : Int32)), .val (.ref w23), .val (.int (0 : Int32))] [])) _
    refine XT.iconstV X118.here hx rfl (1 : Int32) (hb hby at_39) rfl ?_
    show Steps p.tables e below (T118.setTop (mkF m 40 #[.val (.int p1), .val (.int (22 : Int32)), .val (.ref w23), .val (.int (0 : Int32))] [(.int (1 : Int32))])) _
    refine XS.goto X118.here hx rfl (pc0 := 40) (pc' := 44) rfl (hb hby at_40) (by decide) (by decide) ?_
    show Steps p.tables e below (T118.setTop (mkF m 44 #[.val (.int p1), .val (.int (22 : Int32)), .val (.ref w23), .val (.int (0 : Int32))] [(.int (1 : Int32))])) _
    exact retN X118 hx (t := .boolean) Bd.returns (by simp) (hb hby at_44) hr
  · show own_Q0 n0 _ T118.heap _
    exact ⟨rfl, N118⟩
set_option maxRecDepth 65536 in
set_option maxHeartbeats 40000000 in
theorem own_law_23 (l : Launch) (Z : State) (a0 : Array Value) (hw : ∀ d ∈ tables_1, d.before a0 Z = true) (ws : List Jvm.Cond) (p1 : Int32) (w0 w1 w2 w3 w4 w5 w6 w7 w8 w9 w10 w11 w12 w13 w14 w15 w16 w17 w18 w19 w20 w21 w22 w23 : Addr) (h0 : Heap) (n0 : Nat) (Z0 : n0 ≤ h0.size) (P : own_P Z h0 w0 w1 w2 w3 w4 w5 w6 w7 w8 w9 w10 w11 w12 w13 w14 w15 w16 w17 w18 w19 w20 w21 w22 w23) (hk : ((p1 &&& (2147483647 : Int32)) % (24 : Int32)) = (23 : Int32)) :
    MetFree l x (head1 (Jvm.Cond.code x code maxLocals ret :: ws) room_1) (fun a U => a = #[(.int p1)] ∧ Z.Warmed39 U.vm ∧ U.heap = h0) (fun _ _ _ _ _ => True) (fun _ U o U' => ∃ v L, o = .returned v ∧ own_Q0 n0 v U'.heap L ∧ FrameEnd U o U' L room_1.cells room_1.slots) := by
  refine MetFree.of_bodySF (plainFor_of_name pn_apportion_io_DataTypeIsDecimalPinLaw) hisR ?_
  intro p e s m args below meth c s₁ Bd hml0 hP hK
  obtain ⟨rfl, hZ, hh⟩ := hP
  have hx := Bd.exec
  have hby := Bd.bytes
  have hml : c.maxLocals = 4 := hml0
  have hown : s.vm.findClass "apportion/io/DataTypeIsDecimalPinLaw" = some m.cls := findClass_of_methodNamed Bd.named
  have hnm := (name_of_methodNamed Bd.named Bd.method).1
  have X0 : Stand p l e room_1 s m #[(.int p1)] below meth c s₁ [] 0 0 := Stand.of_body Bd
  have e0 : s₁.heap = h0 := by rw [← hh, Bd.state]; rfl
  have N0 := Fr.nil n0
  have pre0 : ∀ t, Steps p.tables e below (s₁.setTop (mkF m 0 #[.val (.int p1), .unset, .unset, .unset] [])) t → Steps p.tables e below (s₁.setTop (entryFrame m #[(.int p1)] maxLocals)) t := fun t k => castTop (ef_code_I m p1) k
  have P0 := P; obtain ⟨S0, E0, F0_ordinal, S1, E1, F1_ordinal, S2, E2, F2_ordinal, S3, E3, F3_ordinal, S4, E4, F4_ordinal, S5, E5, F5_ordinal, S6, E6, F6_ordinal, S7, E7, F7_ordinal, S8, E8, F8_ordinal, S9, E9, F9_ordinal, S10, E10, F10_ordinal, S11, E11, F11_ordinal, S12, E12, F12_ordinal, S13, E13, F13_ordinal, S14, E14, F14_ordinal, S15, E15, F15_ordinal, S16, E16, F16_ordinal, S17, E17, F17_ordinal, S18, E18, F18_ordinal, S19, E19, F19_ordinal, S20, E20, F20_ordinal, S21, E21, F21_ordinal, S22, E22, F22_ordinal, S23, E23, F23_ordinal⟩ := P0
  obtain ⟨_, _, ⟨T119, L119, k119, n119⟩, -, X119, ⟨Lc119, hQ119, l119, y119, z119⟩, st119⟩ := Jvm.LawKit.callS X0 hx (y := (⟨"apportion/io/DataTypeIsDecimalPinLaw", "pick", "(I)Lapportion/io/DataType;"⟩ : MethodName)) hown (mvT hZ (hw _ (List.mem_of_getElem? (i := 1) rfl))) (mvT hZ (hw _ (List.mem_of_getElem? (i := 2) rfl))) (mvT hZ (hw _ (List.mem_of_getElem? (i := 3) rfl))) (mvT hZ (hw _ (List.mem_of_getElem? (i := 4) rfl))) (by decide) (backOf (W := 0) (own_pick_23 l Z a0 hw [] w0 w1 w2 w3 w4 w5 w6 w7 w8 w9 w10 w11 w12 w13 w14 w15 w16 w17 w18 w19 w20 w21 w22 w23 h0 n0 Z0 P) hZ (hw _ (List.mem_of_getElem? (i := 4) rfl)) (hw _ (List.mem_of_getElem? (i := 3) rfl)) (by decide) (by decide)) (g := (mkF m 9 #[.val (.int p1), .val (.int (23 : Int32)), .unset, .unset] [(.int (23 : Int32))])) rfl (by rw [hml]; rfl) (argsL := [(.int (23 : Int32))]) (rest := []) (lenOf pd__I_Lapportion_io_DataType_ rfl) rfl (by show 2 * 0 + _ ≤ _; exact Nat.le_of_eq rfl) (hb hby at_9) (fun _ _ => ⟨rfl, e0, (by decide : 0 + 0 ≤ _), (by decide : 0 + 0 ≤ _)⟩)
  dsimp only [Pt.U, Pt.locs, Pt.cells, Pt.slots] at X119 l119 y119 z119 st119 hQ119
  subst l119 y119 z119
  obtain ⟨rfl, N119q, e119⟩ := hQ119
  have N119 := Fr.app N0 N119q
  obtain ⟨cq120, kq120, q120a, q120b, q120c⟩ := isOf hZ e119 E11
  obtain ⟨_, _, ⟨T120, L120, k120, n120⟩, -, X120, ⟨Lc120, hQ120, l120, y120, z120⟩, st120⟩ := X119.virtualBack hx (y := (⟨"apportion/io/DataType", "isDecimal", "()Z"⟩ : MethodName)) (z := (⟨"apportion/io/DataType", "isDecimal", "()Z"⟩ : MethodName)) hown (mvT hZ (hw _ (List.mem_of_getElem? (i := 8) rfl))) (mvT hZ (hw _ (List.mem_of_getElem? (i := 9) rfl))) (notFace_of_selects (args := #[]) (mvT hZ (hw _ (List.mem_of_getElem? (i := 11) rfl)))) (mvT hZ (hw _ (List.mem_of_getElem? (i := 11) rfl))) (mvT hZ (hw _ (List.mem_of_getElem? (i := 10) rfl))) (by decide) (backOf (W := 0) (own_isDecimal_11 l Z a0 hw [] w0 w1 w2 w3 w4 w5 w6 w7 w8 w9 w10 w11 w12 w13 w14 w15 w16 w17 w18 w19 w20 w21 w22 w23 h0 n0 Z0 P) hZ (hw _ (List.mem_of_getElem? (i := 12) rfl)) (hw _ (List.mem_of_getElem? (i := 6) rfl)) (by decide) (by decide)) q120a q120c (g := (mkF m 32 #[.val (.int p1), .val (.int (23 : Int32)), .val (.ref w11), .val (.int (0 : Int32))] [(.ref w11)])) rfl (by rw [hml]; rfl) (Steps.refl _) (argsL := []) (rest := []) (lenOf pd___Z rfl) rfl (by show 2 * 0 + _ ≤ _; exact Nat.le_of_eq rfl) (hb hby at_32) (fun _ _ => ⟨rfl, e119, (by decide : 0 + 0 ≤ _), (by decide : 0 + 0 ≤ _)⟩)
  dsimp only [Pt.U, Pt.locs, Pt.cells, Pt.slots] at X120 l120 y120 z120 st120 hQ120
  subst l120 y120 z120
  obtain ⟨rfl, N120q, e120⟩ := hQ120
  have N120 := Fr.app N119 N120q
  obtain ⟨fs, hr, hrun, hended, hW, hsame⟩ := X120.leave (v := some (.int (1 : Int32))) (fun h => by rw [Bd.returns] at h; cases h)
  refine ⟨_, _, pre0 _ ?_, hrun, hended, _, _, rfl, ?_, ⟨_, rfl⟩, hW, hsame.mono (by decide) (by decide)⟩
  · show Steps p.tables e below (s₁.setTop (mkF m 0 #[.val (.int p1), .unset, .unset, .unset] [])) _
    refine XS.iloadN X0.here hx rfl (hb hby at_0) rfl ?_
    show Steps p.tables e below (s₁.setTop (mkF m 1 #[.val (.int p1), .unset, .unset, .unset] [(.int p1)])) _
    refine Jvm.Stand.ldcI X0 hx hown (mvT hZ (hw _ (List.mem_of_getElem? (i := 0) rfl))) rfl (hb hby at_1) ?_
    show Steps p.tables e below (s₁.setTop (mkF m 3 #[.val (.int p1), .unset, .unset, .unset] [(.int (2147483647 : Int32)), (.int p1)])) _
    refine XS.iand X0.here hx rfl (hb hby at_3) rfl ?_
    show Steps p.tables e below (s₁.setTop (mkF m 4 #[.val (.int p1), .unset, .unset, .unset] [(.int (p1 &&& (2147483647 : Int32)))])) _
    refine XT.bipushV X0.here hx rfl (24 : Int32) (hb hby at_4) (by decide) ?_
    show Steps p.tables e below (s₁.setTop (mkF m 6 #[.val (.int p1), .unset, .unset, .unset] [(.int (24 : Int32)), (.int (p1 &&& (2147483647 : Int32)))])) _
    refine iremM X0 hx rfl (hb hby at_6) rfl (by decide) ?_
    show Steps p.tables e below (s₁.setTop (mkF m 7 #[.val (.int p1), .unset, .unset, .unset] [(.int ((p1 &&& (2147483647 : Int32)) % (24 : Int32)))])) _
    rw [hk]
    show Steps p.tables e below (s₁.setTop (mkF m 7 #[.val (.int p1), .unset, .unset, .unset] [(.int (23 : Int32))])) _
    refine XS.istoreN X0.here hx rfl (hb hby at_7) rfl (l' := #[.val (.int p1), .val (.int (23 : Int32)), .unset, .unset]) rfl ?_
    show Steps p.tables e below (s₁.setTop (mkF m 8 #[.val (.int p1), .val (.int (23 : Int32)), .unset, .unset] [])) _
    refine XS.iloadN X0.here hx rfl (hb hby at_8) rfl ?_
    show Steps p.tables e below (s₁.setTop (mkF m 9 #[.val (.int p1), .val (.int (23 : Int32)), .unset, .unset] [(.int (23 : Int32))])) _
    refine st119 _ ?_
    show Steps p.tables e below (T119.setTop (mkF m 12 #[.val (.int p1), .val (.int (23 : Int32)), .unset, .unset] [(.ref w11)])) _
    refine XS.astoreN X119.here hx rfl (hb hby at_12) rfl rfl (l' := #[.val (.int p1), .val (.int (23 : Int32)), .val (.ref w11), .unset]) rfl ?_
    show Steps p.tables e below (T119.setTop (mkF m 13 #[.val (.int p1), .val (.int (23 : Int32)), .val (.ref w11), .unset] [])) _
    refine XS.iloadN X119.here hx rfl (hb hby at_13) rfl ?_
    show Steps p.tables e below (T119.setTop (mkF m 14 #[.val (.int p1), .val (.int (23 : Int32)), .val (.ref w11), .unset] [(.int (23 : Int32))])) _
    refine XT.bipushV X119.here hx rfl (8 : Int32) (hb hby at_14) (by decide) ?_
    show Steps p.tables e below (T119.setTop (mkF m 16 #[.val (.int p1), .val (.int (23 : Int32)), .val (.ref w11), .unset] [(.int (8 : Int32)), (.int (23 : Int32))])) _
    refine XS.icmpNo X119.here hx rfl (hb hby at_16) rfl (by decide) ?_
    show Steps p.tables e below (T119.setTop (mkF m 19 #[.val (.int p1), .val (.int (23 : Int32)), .val (.ref w11), .unset] [])) _
    refine XS.iloadN X119.here hx rfl (hb hby at_19) rfl ?_
    show Steps p.tables e below (T119.setTop (mkF m 20 #[.val (.int p1), .val (.int (23 : Int32)), .val (.ref w11), .unset] [(.int (23 : Int32))])) _
    refine XT.bipushV X119.here hx rfl (13 : Int32) (hb hby at_20) (by decide) ?_
    show Steps p.tables e below (T119.setTop (mkF m 22 #[.val (.int p1), .val (.int (23 : Int32)), .val (.ref w11), .unset] [(.int (13 : Int32)), (.int (23 : Int32))])) _
    refine XS.icmpYes X119.here hx rfl (pc0 := 22) (pc' := 29) rfl (hb hby at_22) rfl (by decide) (by decide) (by decide) ?_
    show Steps p.tables e below (T119.setTop (mkF m 29 #[.val (.int p1), .val (.int (23 : Int32)), .val (.ref w11), .unset] [])) _
    refine XT.iconstV X119.here hx rfl (0 : Int32) (hb hby at_29) rfl ?_
    show Steps p.tables e below (T119.setTop (mkF m 30 #[.val (.int p1), .val (.int (23 : Int32)), .val (.ref w11), .unset] [(.int (0 : Int32))])) _
    refine XS.istoreN X119.here hx rfl (hb hby at_30) rfl (l' := #[.val (.int p1), .val (.int (23 : Int32)), .val (.ref w11), .val (.int (0 : Int32))]) rfl ?_
    show Steps p.tables e below (T119.setTop (mkF m 31 #[.val (.int p1), .val (.int (23 : Int32)), .val (.ref w11), .val (.int (0 : Int32))] [])) _
    refine XS.aloadN X119.here hx rfl (hb hby at_31) rfl rfl ?_
    show Steps p.tables e below (T119.setTop (mkF m 32 #[.val (.int p1), .val (.int (23 : Int32)), .val (.ref w11), .val (.int (0 : Int32))] [(.ref w11)])) _
    refine st120.trans ?_
    show Steps p.tables e below (T120.setTop (mkF m 35 #[.val (.int p1), .val (.int (23 : Int32)), .val (.ref w11), .val (.int (0 : Int32))] [(.int (0 : Int32))])) _
    refine XS.iloadN X120.here hx rfl (hb hby at_35) rfl ?_
    show Steps p.tables e below (T120.setTop (mkF m 36 #[.val (.int p1), .val (.int (23 : Int32)), .val (.ref w11), .val (.int (0 : Int32))] [(.int (0 : Int32)), (.int (0 : Int32))])) _
    refine XS.icmpNo X120.here hx rfl (hb hby at_36) rfl (by decide) ?_
    show Steps p.tables e below (T120.setTop (mkF m 39 #[.val (.int p1), .val (.int (23 : Int32)), .val (.ref w11), .val (.int (0 : Int32))] [])) _
    refine XT.iconstV X120.here hx rfl (1 : Int32) (hb hby at_39) rfl ?_
    show Steps p.tables e below (T120.setTop (mkF m 40 #[.val (.int p1), .val (.int (23 : Int32)), .val (.ref w11), .val (.int (0 : Int32))] [(.int (1 : Int32))])) _
    refine XS.goto X120.here hx rfl (pc0 := 40) (pc' := 44) rfl (hb hby at_40) (by decide) (by decide) ?_
    show Steps p.tables e below (T120.setTop (mkF m 44 #[.val (.int p1), .val (.int (23 : Int32)), .val (.ref w11), .val (.int (0 : Int32))] [(.int (1 : Int32))])) _
    exact retN X120 hx (t := .boolean) Bd.returns (by simp) (hb hby at_44) hr
  · show own_Q0 n0 _ T120.heap _
    exact ⟨rfl, N120⟩
set_option maxRecDepth 65536 in
set_option maxHeartbeats 40000000 in
theorem own_law (l : Launch) (Z : State) (a0 : Array Value) (hw : ∀ d ∈ tables_1, d.before a0 Z = true) (ws : List Jvm.Cond) (p1 : Int32) (w0 w1 w2 w3 w4 w5 w6 w7 w8 w9 w10 w11 w12 w13 w14 w15 w16 w17 w18 w19 w20 w21 w22 w23 : Addr) (h0 : Heap) (n0 : Nat) (Z0 : n0 ≤ h0.size) (P : own_P Z h0 w0 w1 w2 w3 w4 w5 w6 w7 w8 w9 w10 w11 w12 w13 w14 w15 w16 w17 w18 w19 w20 w21 w22 w23) :
    MetFree l x (head1 (Jvm.Cond.code x code maxLocals ret :: ws) room_1) (fun a U => a = #[(.int p1)] ∧ Z.Warmed39 U.vm ∧ U.heap = h0) (fun _ _ _ _ _ => True) (fun _ U o U' => ∃ v L, o = .returned v ∧ own_Q0 n0 v U'.heap L ∧ FrameEnd U o U' L room_1.cells room_1.slots) := by
  rcases own_cases p1 with hk | hk | hk | hk | hk | hk | hk | hk | hk | hk | hk | hk | hk | hk | hk | hk | hk | hk | hk | hk | hk | hk | hk | hk
  · exact own_law_0 l Z a0 hw ws p1 w0 w1 w2 w3 w4 w5 w6 w7 w8 w9 w10 w11 w12 w13 w14 w15 w16 w17 w18 w19 w20 w21 w22 w23 h0 n0 Z0 P hk
  · exact own_law_1 l Z a0 hw ws p1 w0 w1 w2 w3 w4 w5 w6 w7 w8 w9 w10 w11 w12 w13 w14 w15 w16 w17 w18 w19 w20 w21 w22 w23 h0 n0 Z0 P hk
  · exact own_law_2 l Z a0 hw ws p1 w0 w1 w2 w3 w4 w5 w6 w7 w8 w9 w10 w11 w12 w13 w14 w15 w16 w17 w18 w19 w20 w21 w22 w23 h0 n0 Z0 P hk
  · exact own_law_3 l Z a0 hw ws p1 w0 w1 w2 w3 w4 w5 w6 w7 w8 w9 w10 w11 w12 w13 w14 w15 w16 w17 w18 w19 w20 w21 w22 w23 h0 n0 Z0 P hk
  · exact own_law_4 l Z a0 hw ws p1 w0 w1 w2 w3 w4 w5 w6 w7 w8 w9 w10 w11 w12 w13 w14 w15 w16 w17 w18 w19 w20 w21 w22 w23 h0 n0 Z0 P hk
  · exact own_law_5 l Z a0 hw ws p1 w0 w1 w2 w3 w4 w5 w6 w7 w8 w9 w10 w11 w12 w13 w14 w15 w16 w17 w18 w19 w20 w21 w22 w23 h0 n0 Z0 P hk
  · exact own_law_6 l Z a0 hw ws p1 w0 w1 w2 w3 w4 w5 w6 w7 w8 w9 w10 w11 w12 w13 w14 w15 w16 w17 w18 w19 w20 w21 w22 w23 h0 n0 Z0 P hk
  · exact own_law_7 l Z a0 hw ws p1 w0 w1 w2 w3 w4 w5 w6 w7 w8 w9 w10 w11 w12 w13 w14 w15 w16 w17 w18 w19 w20 w21 w22 w23 h0 n0 Z0 P hk
  · exact own_law_8 l Z a0 hw ws p1 w0 w1 w2 w3 w4 w5 w6 w7 w8 w9 w10 w11 w12 w13 w14 w15 w16 w17 w18 w19 w20 w21 w22 w23 h0 n0 Z0 P hk
  · exact own_law_9 l Z a0 hw ws p1 w0 w1 w2 w3 w4 w5 w6 w7 w8 w9 w10 w11 w12 w13 w14 w15 w16 w17 w18 w19 w20 w21 w22 w23 h0 n0 Z0 P hk
  · exact own_law_10 l Z a0 hw ws p1 w0 w1 w2 w3 w4 w5 w6 w7 w8 w9 w10 w11 w12 w13 w14 w15 w16 w17 w18 w19 w20 w21 w22 w23 h0 n0 Z0 P hk
  · exact own_law_11 l Z a0 hw ws p1 w0 w1 w2 w3 w4 w5 w6 w7 w8 w9 w10 w11 w12 w13 w14 w15 w16 w17 w18 w19 w20 w21 w22 w23 h0 n0 Z0 P hk
  · exact own_law_12 l Z a0 hw ws p1 w0 w1 w2 w3 w4 w5 w6 w7 w8 w9 w10 w11 w12 w13 w14 w15 w16 w17 w18 w19 w20 w21 w22 w23 h0 n0 Z0 P hk
  · exact own_law_13 l Z a0 hw ws p1 w0 w1 w2 w3 w4 w5 w6 w7 w8 w9 w10 w11 w12 w13 w14 w15 w16 w17 w18 w19 w20 w21 w22 w23 h0 n0 Z0 P hk
  · exact own_law_14 l Z a0 hw ws p1 w0 w1 w2 w3 w4 w5 w6 w7 w8 w9 w10 w11 w12 w13 w14 w15 w16 w17 w18 w19 w20 w21 w22 w23 h0 n0 Z0 P hk
  · exact own_law_15 l Z a0 hw ws p1 w0 w1 w2 w3 w4 w5 w6 w7 w8 w9 w10 w11 w12 w13 w14 w15 w16 w17 w18 w19 w20 w21 w22 w23 h0 n0 Z0 P hk
  · exact own_law_16 l Z a0 hw ws p1 w0 w1 w2 w3 w4 w5 w6 w7 w8 w9 w10 w11 w12 w13 w14 w15 w16 w17 w18 w19 w20 w21 w22 w23 h0 n0 Z0 P hk
  · exact own_law_17 l Z a0 hw ws p1 w0 w1 w2 w3 w4 w5 w6 w7 w8 w9 w10 w11 w12 w13 w14 w15 w16 w17 w18 w19 w20 w21 w22 w23 h0 n0 Z0 P hk
  · exact own_law_18 l Z a0 hw ws p1 w0 w1 w2 w3 w4 w5 w6 w7 w8 w9 w10 w11 w12 w13 w14 w15 w16 w17 w18 w19 w20 w21 w22 w23 h0 n0 Z0 P hk
  · exact own_law_19 l Z a0 hw ws p1 w0 w1 w2 w3 w4 w5 w6 w7 w8 w9 w10 w11 w12 w13 w14 w15 w16 w17 w18 w19 w20 w21 w22 w23 h0 n0 Z0 P hk
  · exact own_law_20 l Z a0 hw ws p1 w0 w1 w2 w3 w4 w5 w6 w7 w8 w9 w10 w11 w12 w13 w14 w15 w16 w17 w18 w19 w20 w21 w22 w23 h0 n0 Z0 P hk
  · exact own_law_21 l Z a0 hw ws p1 w0 w1 w2 w3 w4 w5 w6 w7 w8 w9 w10 w11 w12 w13 w14 w15 w16 w17 w18 w19 w20 w21 w22 w23 h0 n0 Z0 P hk
  · exact own_law_22 l Z a0 hw ws p1 w0 w1 w2 w3 w4 w5 w6 w7 w8 w9 w10 w11 w12 w13 w14 w15 w16 w17 w18 w19 w20 w21 w22 w23 h0 n0 Z0 P hk
  · exact own_law_23 l Z a0 hw ws p1 w0 w1 w2 w3 w4 w5 w6 w7 w8 w9 w10 w11 w12 w13 w14 w15 w16 w17 w18 w19 w20 w21 w22 w23 h0 n0 Z0 P hk
set_option maxRecDepth 65536 in
set_option maxHeartbeats 40000000 in
theorem comes_1 {Post : Tables → Env → Array Value → State → Outcome → State → Prop} (hpost : ∀ tb e args s v u, (limb_1_1.after args s (.returned v) u = true ∧ limb_1_2.after args s (.returned v) u = true ∧ True) → FrameEnd s (.returned v) u (Jvm.fieldLocs frame_1_writes args s ++ Jvm.arrayLocs frame_1_arrays args s ++ Jvm.staticLocs frame_1_statics s) 0 0 → Post tb e args s (.returned v) u) :
    ArmFor flags0 classFile x code maxLocals ret World_1 tables_1 room_1 Calls_1 rest_1 Pre_1 Post := by
  intro l hfl _ _ p e ha hc hk s m args below hf hA hF happ hP
  obtain ⟨hcalls, hrest, hpre⟩ := hP
  obtain ⟨-, -, -, hnamed, -, -, -, hat⟩ := (Spec.applies_iff hf).mp happ
  obtain ⟨hg, hn⟩ := and_e (Cond.before_iff.mp (show (Jvm.Cond.and given_1 narrow_1).before args s = true from hpre))
  obtain ⟨gg, gr⟩ := and_e hg
  obtain ⟨a0, rfl⟩ : ∃ a0 : Value, args = #[a0] := by
    have hs : args.size = 1 := by simpa [Cond.value, given_1] using gg
    obtain ⟨L⟩ := args
    match L, hs with
    | [a0], _ => exact ⟨a0, rfl⟩
  have hw := fun d (hd : d ∈ tables_1) => atoms_spec (ws := Jvm.Cond.code x code maxLocals ret :: tables_1) hat d (List.mem_cons_of_mem _ hd)
  have hfit : Fit s := fun {y c} hc i hi => by
    obtain ⟨ha, rfl⟩ := Array.getElem?_eq_some_iff.mp hc
    have q := List.all_eq_true.mp ((Array.all_eq_true_iff_forall_mem.mp hF) _ (Array.getElem_mem ha)) i (List.mem_range.mpr hi)
    simpa [Array.getElem?_eq_getElem hi] using q
  obtain ⟨i0, ei0⟩ := is_v gr
  obtain rfl : a0 = (.int i0) := Option.some.inj ei0
  obtain ⟨c0, r0⟩ := and_e hn
  obtain ⟨c1, r1⟩ := and_e r0
  obtain ⟨c2, r2⟩ := and_e r1
  obtain ⟨c3, r3⟩ := and_e r2
  obtain ⟨c4, r4⟩ := and_e r3
  obtain ⟨c5, r5⟩ := and_e r4
  obtain ⟨c6, r6⟩ := and_e r5
  obtain ⟨c7, r7⟩ := and_e r6
  obtain ⟨c8, r8⟩ := and_e r7
  obtain ⟨c9, r9⟩ := and_e r8
  obtain ⟨c10, r10⟩ := and_e r9
  obtain ⟨c11, r11⟩ := and_e r10
  obtain ⟨c12, r12⟩ := and_e r11
  obtain ⟨c13, r13⟩ := and_e r12
  obtain ⟨c14, r14⟩ := and_e r13
  obtain ⟨c15, r15⟩ := and_e r14
  obtain ⟨c16, r16⟩ := and_e r15
  obtain ⟨c17, r17⟩ := and_e r16
  obtain ⟨c18, r18⟩ := and_e r17
  obtain ⟨c19, r19⟩ := and_e r18
  obtain ⟨c20, r20⟩ := and_e r19
  obtain ⟨c21, r21⟩ := and_e r20
  obtain ⟨c22, r22⟩ := and_e r21
  obtain ⟨c23, r23⟩ := and_e r22
  obtain ⟨c24, r24⟩ := and_e r23
  obtain ⟨c25, r25⟩ := and_e r24
  obtain ⟨c26, r26⟩ := and_e r25
  obtain ⟨c27, r27⟩ := and_e r26
  obtain ⟨c28, r28⟩ := and_e r27
  obtain ⟨c29, r29⟩ := and_e r28
  obtain ⟨c30, r30⟩ := and_e r29
  obtain ⟨c31, r31⟩ := and_e r30
  obtain ⟨c32, r32⟩ := and_e r31
  obtain ⟨c33, r33⟩ := and_e r32
  obtain ⟨c34, r34⟩ := and_e r33
  obtain ⟨c35, r35⟩ := and_e r34
  obtain ⟨c36, r36⟩ := and_e r35
  obtain ⟨c37, r37⟩ := and_e r36
  obtain ⟨c38, r38⟩ := and_e r37
  obtain ⟨c39, r39⟩ := and_e r38
  obtain ⟨c40, r40⟩ := and_e r39
  obtain ⟨c41, r41⟩ := and_e r40
  obtain ⟨c42, r42⟩ := and_e r41
  obtain ⟨c43, r43⟩ := and_e r42
  obtain ⟨c44, r44⟩ := and_e r43
  obtain ⟨c45, r45⟩ := and_e r44
  obtain ⟨c46, r46⟩ := and_e r45
  obtain ⟨w0, v0⟩ := exa_v c0
  have E0 := Exa.start v0 c0
  have S0 := Sta.start v0 (Or.inr ⟨(hw _ (List.mem_of_getElem? (i := 6) rfl)), (hw _ (List.mem_of_getElem? (i := 7) rfl))⟩)
  obtain ⟨w1, v1⟩ := exa_v c2
  have E1 := Exa.start v1 c2
  have S1 := Sta.start v1 (Or.inr ⟨(hw _ (List.mem_of_getElem? (i := 6) rfl)), (hw _ (List.mem_of_getElem? (i := 23) rfl))⟩)
  obtain ⟨w2, v2⟩ := exa_v c4
  have E2 := Exa.start v2 c4
  have S2 := Sta.start v2 (Or.inr ⟨(hw _ (List.mem_of_getElem? (i := 6) rfl)), (hw _ (List.mem_of_getElem? (i := 25) rfl))⟩)
  obtain ⟨w3, v3⟩ := exa_v c6
  have E3 := Exa.start v3 c6
  have S3 := Sta.start v3 (Or.inr ⟨(hw _ (List.mem_of_getElem? (i := 6) rfl)), (hw _ (List.mem_of_getElem? (i := 27) rfl))⟩)
  obtain ⟨w4, v4⟩ := exa_v c8
  have E4 := Exa.start v4 c8
  have S4 := Sta.start v4 (Or.inr ⟨(hw _ (List.mem_of_getElem? (i := 6) rfl)), (hw _ (List.mem_of_getElem? (i := 29) rfl))⟩)
  obtain ⟨w5, v5⟩ := exa_v c10
  have E5 := Exa.start v5 c10
  have S5 := Sta.start v5 (Or.inr ⟨(hw _ (List.mem_of_getElem? (i := 6) rfl)), (hw _ (List.mem_of_getElem? (i := 31) rfl))⟩)
  obtain ⟨w6, v6⟩ := exa_v c12
  have E6 := Exa.start v6 c12
  have S6 := Sta.start v6 (Or.inr ⟨(hw _ (List.mem_of_getElem? (i := 6) rfl)), (hw _ (List.mem_of_getElem? (i := 33) rfl))⟩)
  obtain ⟨w7, v7⟩ := exa_v c14
  have E7 := Exa.start v7 c14
  have S7 := Sta.start v7 (Or.inr ⟨(hw _ (List.mem_of_getElem? (i := 6) rfl)), (hw _ (List.mem_of_getElem? (i := 35) rfl))⟩)
  obtain ⟨w8, v8⟩ := exa_v c16
  have E8 := Exa.start v8 c16
  have S8 := Sta.start v8 (Or.inr ⟨(hw _ (List.mem_of_getElem? (i := 6) rfl)), (hw _ (List.mem_of_getElem? (i := 37) rfl))⟩)
  obtain ⟨w9, v9⟩ := exa_v c18
  have E9 := Exa.start v9 c18
  have S9 := Sta.start v9 (Or.inr ⟨(hw _ (List.mem_of_getElem? (i := 6) rfl)), (hw _ (List.mem_of_getElem? (i := 39) rfl))⟩)
  obtain ⟨w10, v10⟩ := exa_v c20
  have E10 := Exa.start v10 c20
  have S10 := Sta.start v10 (Or.inr ⟨(hw _ (List.mem_of_getElem? (i := 6) rfl)), (hw _ (List.mem_of_getElem? (i := 41) rfl))⟩)
  obtain ⟨w11, v11⟩ := exa_v c22
  have E11 := Exa.start v11 c22
  have S11 := Sta.start v11 (Or.inr ⟨(hw _ (List.mem_of_getElem? (i := 6) rfl)), (hw _ (List.mem_of_getElem? (i := 43) rfl))⟩)
  obtain ⟨w12, v12⟩ := exa_v c24
  have E12 := Exa.start v12 c24
  have S12 := Sta.start v12 (Or.inr ⟨(hw _ (List.mem_of_getElem? (i := 6) rfl)), (hw _ (List.mem_of_getElem? (i := 45) rfl))⟩)
  obtain ⟨w13, v13⟩ := exa_v c26
  have E13 := Exa.start v13 c26
  have S13 := Sta.start v13 (Or.inr ⟨(hw _ (List.mem_of_getElem? (i := 6) rfl)), (hw _ (List.mem_of_getElem? (i := 47) rfl))⟩)
  obtain ⟨w14, v14⟩ := exa_v c28
  have E14 := Exa.start v14 c28
  have S14 := Sta.start v14 (Or.inr ⟨(hw _ (List.mem_of_getElem? (i := 6) rfl)), (hw _ (List.mem_of_getElem? (i := 49) rfl))⟩)
  obtain ⟨w15, v15⟩ := exa_v c30
  have E15 := Exa.start v15 c30
  have S15 := Sta.start v15 (Or.inr ⟨(hw _ (List.mem_of_getElem? (i := 6) rfl)), (hw _ (List.mem_of_getElem? (i := 51) rfl))⟩)
  obtain ⟨w16, v16⟩ := exa_v c32
  have E16 := Exa.start v16 c32
  have S16 := Sta.start v16 (Or.inr ⟨(hw _ (List.mem_of_getElem? (i := 6) rfl)), (hw _ (List.mem_of_getElem? (i := 53) rfl))⟩)
  obtain ⟨w17, v17⟩ := exa_v c34
  have E17 := Exa.start v17 c34
  have S17 := Sta.start v17 (Or.inr ⟨(hw _ (List.mem_of_getElem? (i := 6) rfl)), (hw _ (List.mem_of_getElem? (i := 55) rfl))⟩)
  obtain ⟨w18, v18⟩ := exa_v c36
  have E18 := Exa.start v18 c36
  have S18 := Sta.start v18 (Or.inr ⟨(hw _ (List.mem_of_getElem? (i := 6) rfl)), (hw _ (List.mem_of_getElem? (i := 57) rfl))⟩)
  obtain ⟨w19, v19⟩ := exa_v c38
  have E19 := Exa.start v19 c38
  have S19 := Sta.start v19 (Or.inr ⟨(hw _ (List.mem_of_getElem? (i := 6) rfl)), (hw _ (List.mem_of_getElem? (i := 59) rfl))⟩)
  obtain ⟨w20, v20⟩ := exa_v c40
  have E20 := Exa.start v20 c40
  have S20 := Sta.start v20 (Or.inr ⟨(hw _ (List.mem_of_getElem? (i := 6) rfl)), (hw _ (List.mem_of_getElem? (i := 61) rfl))⟩)
  obtain ⟨w21, v21⟩ := exa_v c42
  have E21 := Exa.start v21 c42
  have S21 := Sta.start v21 (Or.inr ⟨(hw _ (List.mem_of_getElem? (i := 6) rfl)), (hw _ (List.mem_of_getElem? (i := 63) rfl))⟩)
  obtain ⟨w22, v22⟩ := exa_v c44
  have E22 := Exa.start v22 c44
  have S22 := Sta.start v22 (Or.inr ⟨(hw _ (List.mem_of_getElem? (i := 6) rfl)), (hw _ (List.mem_of_getElem? (i := 65) rfl))⟩)
  obtain ⟨w23, v23⟩ := exa_v c46
  have E23 := Exa.start v23 c46
  have S23 := Sta.start v23 (Or.inr ⟨(hw _ (List.mem_of_getElem? (i := 6) rfl)), (hw _ (List.mem_of_getElem? (i := 67) rfl))⟩)
  have F0_ordinal := own_fldI v0 c1
  have F1_ordinal := own_fldI v1 c3
  have F2_ordinal := own_fldI v2 c5
  have F3_ordinal := own_fldI v3 c7
  have F4_ordinal := own_fldI v4 c9
  have F5_ordinal := own_fldI v5 c11
  have F6_ordinal := own_fldI v6 c13
  have F7_ordinal := own_fldI v7 c15
  have F8_ordinal := own_fldI v8 c17
  have F9_ordinal := own_fldI v9 c19
  have F10_ordinal := own_fldI v10 c21
  have F11_ordinal := own_fldI v11 c23
  have F12_ordinal := own_fldI v12 c25
  have F13_ordinal := own_fldI v13 c27
  have F14_ordinal := own_fldI v14 c29
  have F15_ordinal := own_fldI v15 c31
  have F16_ordinal := own_fldI v16 c33
  have F17_ordinal := own_fldI v17 c35
  have F18_ordinal := own_fldI v18 c37
  have F19_ordinal := own_fldI v19 c39
  have F20_ordinal := own_fldI v20 c41
  have F21_ordinal := own_fldI v21 c43
  have F22_ordinal := own_fldI v22 c45
  have F23_ordinal := own_fldI v23 r46
  have P : own_P s s.heap w0 w1 w2 w3 w4 w5 w6 w7 w8 w9 w10 w11 w12 w13 w14 w15 w16 w17 w18 w19 w20 w21 w22 w23 := ⟨S0, E0, F0_ordinal, S1, E1, F1_ordinal, S2, E2, F2_ordinal, S3, E3, F3_ordinal, S4, E4, F4_ordinal, S5, E5, F5_ordinal, S6, E6, F6_ordinal, S7, E7, F7_ordinal, S8, E8, F8_ordinal, S9, E9, F9_ordinal, S10, E10, F10_ordinal, S11, E11, F11_ordinal, S12, E12, F12_ordinal, S13, E13, F13_ordinal, S14, E14, F14_ordinal, S15, E15, F15_ordinal, S16, E16, F16_ordinal, S17, E17, F17_ordinal, S18, E18, F18_ordinal, S19, E19, F19_ordinal, S20, E20, F20_ordinal, S21, E21, F21_ordinal, S22, E22, F22_ordinal, S23, E23, F23_ordinal⟩
  obtain ⟨n, o, h1, h2, h3, _, L, rfl, ⟨rfl, N⟩, hq⟩ := own_law l s _ hw tables_1 i0 w0 w1 w2 w3 w4 w5 w6 w7 w8 w9 w10 w11 w12 w13 w14 w15 w16 w17 w18 w19 w20 w21 w22 w23 s.heap s.heap.size (Nat.le_refl _) P p e ha hc hk s m _ below hf ((Spec.applies_iff_loose hf).mp happ).1 ⟨rfl, State.Warmed39.refl s, rfl⟩ trivial
  refine ⟨n, _, h1, h2, h3, hpost _ _ _ _ _ _ ⟨Cond.after_iff.mpr rfl, Cond.after_iff.mpr (eq_i res_at (Term.int_eval (1)) rfl), trivial⟩ ⟨hq.1, hq.2.1, (hq.2.2.sift fun y hy => Or.inr (N y hy)).mono (by decide) (by decide)⟩⟩
theorem main_1_1 : Claimed_1_1 := comes_1 fun _ _ _ _ _ _ h hF => ⟨h.1, hF⟩
theorem main_1_2 : Claimed_1_2 := comes_1 fun _ _ _ _ _ _ h hF => ⟨h.2.1, hF⟩
end Jvm.Pilot.@@N@@
namespace Jvm.Pilot.@@N@@
open Jvm Jvm.ClassFile Sem Op Lib Jvm.Free Jvm.Stand Jvm.Pilot.@@N@@.Jvm.D
/-! MADE BY PROGRAM (witnessworld.py) out of the Statement's table words and the real class files: 12 classes; the members and pool entries that the words name. The judged class is class 1, her method 2. -/
namespace start1
open Jvm.ClassFile
def u (s : String) : CpInfo := .utf8 (stringToUtf16 s)
/-- a pool by its gaps: so many unusable entries, then the entry; so many at the end -/
def gap : Nat → List CpInfo → List CpInfo
  | 0, r => r
  | n + 1, r => .unusable :: gap n r
def poolList (es : List (Nat × CpInfo)) (last : Nat) : List CpInfo := es.foldr (fun e r => gap e.1 (e.2 :: r)) (gap last [])
def pool (es : List (Nat × CpInfo)) (last : Nat) : Array CpInfo := ⟨poolList es last⟩
def fileOf (pool : Array CpInfo) (this : Nat) (attrs : Array Attribute := #[]) (ms : Array MethodInfo := #[]) (fl : Nat := 33) (sup : Nat := 0) (ifs : Array Nat := #[]) (fds : Array FieldInfo := #[]) : ClassFile where
  minorVersion := 0
  majorVersion := 65
  constantPool := pool
  accessFlags := fl
  thisClass := this
  superClass := sup
  interfaces := ifs
  fields := fds
  methods := ms
  attributes := attrs
def plain (name : String) (sup : Option ClassId) : Class where
  name := name
  kind := .ordinary
  loader := none
  accessFlags := 33
  super := sup
  interfaces := #[]
  cf := none
  fields := #[]
  methods := #[]
  instanceTypes := #[]
  staticTypes := #[]
  resolved := #[]
  callSites := []
  init := .initialized
  statics := none
  mirror := none

def pool0 : Array CpInfo := pool [(5, u "<init>"), (0, u "()V"), (1, .class_ 10), (1, u "java/lang/Object")] 113

def k0m0 : Method := { name := "<init>", desc := "()V", sig := { parameters := [], returnType := none }, accessFlags := 1, code := none }
/-- java/lang/Object -/
def k0 : Class := { plain "java/lang/Object" none with
  accessFlags := 33
  interfaces := #[]
  cf := some (fileOf pool0 8 #[] #[{ accessFlags := 1, nameIndex := 5, descriptorIndex := 6, attributes := #[] }] 33 0 #[] #[])
  fields := #[]
  methods := #[k0m0]
  instanceTypes := #[]
  staticTypes := #[]
  resolved := Array.replicate 124 none
  statics := none }

def pool1 : Array CpInfo := pool [(2, .class_ 4), (1, u "java/lang/Object"), (0, u "<init>"), (0, u "()V"), (0, .fieldref 8 9), (0, .class_ 10), (0, .nameAndType 11 12), (0, u "apportion/io/DataType"), (0, u "STRING"), (0, u "Lapportion/io/DataType;"), (0, .fieldref 8 14), (0, .nameAndType 15 12), (0, u "CHAR"), (0, .fieldref 8 17), (0, .nameAndType 18 12), (0, u "BOOLEAN"), (0, .fieldref 8 20), (0, .nameAndType 21 12), (0, u "INT"), (0, .fieldref 8 23), (0, .nameAndType 24 12), (0, u "SEQ_NUM"), (0, .fieldref 8 26), (0, .nameAndType 27 12), (0, u "LENGTH"), (0, .fieldref 8 29), (0, .nameAndType 30 12), (0, u "NUM_IN_GROUP"), (0, .fieldref 8 32), (0, .nameAndType 33 12), (0, u "DAY_OF_MONTH"), (0, .fieldref 8 35), (0, .nameAndType 36 12), (0, u "FLOAT"), (0, .fieldref 8 38), (0, .nameAndType 39 12), (0, u "QTY"), (0, .fieldref 8 41), (0, .nameAndType 42 12), (0, u "PRICE"), (0, .fieldref 8 44), (0, .nameAndType 45 12), (0, u "PRICE_OFFSET"), (0, .fieldref 8 47), (0, .nameAndType 48 12), (0, u "AMT"), (0, .fieldref 8 50), (0, .nameAndType 51 12), (0, u "PERCENTAGE"), (0, .fieldref 8 53), (0, .nameAndType 54 12), (0, u "CURRENCY"), (0, .fieldref 8 56), (0, .nameAndType 57 12), (0, u "EXCHANGE"), (0, .fieldref 8 59), (0, .nameAndType 60 12), (0, u "COUNTRY"), (0, .fieldref 8 62), (0, .nameAndType 63 12), (0, u "UTC_TIMESTAMP"), (0, .fieldref 8 65), (0, .nameAndType 66 12), (0, u "LOCAL_MKT_DATE"), (0, .fieldref 8 68), (0, .nameAndType 69 12), (0, u "MONTH_YEAR"), (0, .fieldref 8 71), (0, .nameAndType 72 12), (0, u "MONTH_YEAR_4_2"), (0, .fieldref 8 74), (0, .nameAndType 75 12), (0, u "TZ_TIME_ONLY"), (0, .fieldref 8 77), (0, .nameAndType 78 12), (0, u "DATA"), (0, .fieldref 8 80), (0, .nameAndType 81 12), (0, u "XML_DATA"), (0, .integer 2147483647), (0, .methodref 84 85), (0, .class_ 86), (0, .nameAndType 87 88), (0, u "apportion/io/DataTypeIsDecimalPinLaw"), (0, u "pick"), (0, u "(I)Lapportion/io/DataType;"), (0, .methodref 8 90), (0, .nameAndType 91 92), (0, u "isDecimal"), (0, u "()Z"), (3, u "law"), (0, u "(I)Z")] 2

def k1m0 : Method := { name := "<init>", desc := "()V", sig := { parameters := [], returnType := none }, accessFlags := 2, code := none }
def k1c1 : Code := { maxStack := 2, maxLocals := 1, code := method_2_code, exceptionTable := #[], attributes := #[] }
def k1m1 : Method := { name := "pick", desc := "(I)Lapportion/io/DataType;", sig := { parameters := [.int], returnType := some (.object "apportion/io/DataType") }, accessFlags := 10, code := some k1c1 }
def k1c2 : Code := { maxStack := 2, maxLocals := 4, code := code, exceptionTable := #[], attributes := #[] }
def k1m2 : Method := { name := "law", desc := "(I)Z", sig := { parameters := [.int], returnType := some .boolean }, accessFlags := 9, code := some k1c2 }
/-- apportion/io/DataTypeIsDecimalPinLaw -/
def k1 : Class := { plain "apportion/io/DataTypeIsDecimalPinLaw" (some 0) with
  accessFlags := 49
  interfaces := #[]
  cf := some (fileOf pool1 84 #[] #[{ accessFlags := 2, nameIndex := 5, descriptorIndex := 6, attributes := #[] }, { accessFlags := 10, nameIndex := 87, descriptorIndex := 88, attributes := #[] }, { accessFlags := 9, nameIndex := 96, descriptorIndex := 97, attributes := #[] }] 49 2 #[] #[])
  fields := #[]
  methods := #[k1m0, k1m1, k1m2]
  instanceTypes := #[]
  staticTypes := #[]
  resolved := Array.replicate 100 none
  statics := none }

def pool2 : Array CpInfo := pool [(1, .class_ 2), (0, u "java/lang/constant/Constable"), (0, .class_ 4), (0, u "java/lang/Object")] 6

/-- java/lang/constant/Constable -/
def k2 : Class := { plain "java/lang/constant/Constable" (some 0) with
  accessFlags := 1537
  interfaces := #[]
  cf := some (fileOf pool2 1 #[] #[] 1537 3 #[] #[])
  fields := #[]
  methods := #[]
  instanceTypes := #[]
  staticTypes := #[]
  resolved := Array.replicate 11 none
  statics := none }

def pool3 : Array CpInfo := pool [(1, .class_ 2), (0, u "java/lang/Comparable"), (0, .class_ 4), (0, u "java/lang/Object")] 7

/-- java/lang/Comparable -/
def k3 : Class := { plain "java/lang/Comparable" (some 0) with
  accessFlags := 1537
  interfaces := #[]
  cf := some (fileOf pool3 1 #[] #[] 1537 3 #[] #[])
  fields := #[]
  methods := #[]
  instanceTypes := #[]
  staticTypes := #[]
  resolved := Array.replicate 12 none
  statics := none }

def pool4 : Array CpInfo := pool [(1, .class_ 2), (0, u "java/io/Serializable"), (0, .class_ 4), (0, u "java/lang/Object")] 2

/-- java/io/Serializable -/
def k4 : Class := { plain "java/io/Serializable" (some 0) with
  accessFlags := 1537
  interfaces := #[]
  cf := some (fileOf pool4 1 #[] #[] 1537 3 #[] #[])
  fields := #[]
  methods := #[]
  instanceTypes := #[]
  staticTypes := #[]
  resolved := Array.replicate 7 none
  statics := none }

def pool5 : Array CpInfo := pool [(2, .class_ 4), (1, u "java/lang/Enum"), (0, u "name"), (0, u "Ljava/lang/String;"), (0, .fieldref 2 8), (0, .nameAndType 9 10), (0, u "ordinal"), (0, u "I"), (1, .class_ 14), (1, u "java/lang/Object"), (4, u "hash"), (86, .class_ 108), (1, u "java/lang/Enum$EnumDesc"), (2, .class_ 112), (0, u "java/lang/constant/Constable"), (0, .class_ 114), (0, u "java/lang/Comparable"), (0, .class_ 116), (0, u "java/io/Serializable"), (9, u "()I")] 77

def k5c0 : Code := { maxStack := 1, maxLocals := 1, code := jdk_37_method_2_code, exceptionTable := #[], attributes := #[] }
def k5m0 : Method := { name := "ordinal", desc := "()I", sig := { parameters := [], returnType := some .int }, accessFlags := 17, code := some k5c0 }
/-- java/lang/Enum -/
def k5 : Class := { plain "java/lang/Enum" (some 0) with
  accessFlags := 1057
  interfaces := #[2, 3, 4]
  cf := some (fileOf pool5 2 #[.nestMembers #[106]] #[{ accessFlags := 17, nameIndex := 9, descriptorIndex := 126, attributes := #[] }] 1057 12 #[111, 113, 115] #[{ accessFlags := 18, nameIndex := 5, descriptorIndex := 6, attributes := #[] }, { accessFlags := 18, nameIndex := 9, descriptorIndex := 10, attributes := #[] }, { accessFlags := 2, nameIndex := 19, descriptorIndex := 10, attributes := #[] }])
  fields := #[{ name := "name", type := (.object "java/lang/String"), accessFlags := 18, slot := 0, constantValue := 0 }, { name := "ordinal", type := .int, accessFlags := 18, slot := 1, constantValue := 0 }, { name := "hash", type := .int, accessFlags := 2, slot := 2, constantValue := 0 }]
  methods := #[k5m0]
  instanceTypes := #[(.object "java/lang/String"), .int, .int]
  staticTypes := #[]
  resolved := Array.replicate 204 none
  statics := none }

def pool6 : Array CpInfo := pool [(3, .class_ 4), (0, u "apportion/io/DataType"), (2, u "STRING"), (0, u "Lapportion/io/DataType;"), (2, u "CHAR"), (2, u "BOOLEAN"), (2, u "INT"), (2, u "SEQ_NUM"), (2, u "LENGTH"), (2, u "NUM_IN_GROUP"), (2, u "DAY_OF_MONTH"), (2, u "FLOAT"), (2, u "QTY"), (2, u "PRICE"), (2, u "PRICE_OFFSET"), (2, u "AMT"), (2, u "PERCENTAGE"), (2, u "CURRENCY"), (2, u "EXCHANGE"), (2, u "COUNTRY"), (2, u "UTC_TIMESTAMP"), (2, u "LOCAL_MKT_DATE"), (2, u "MONTH_YEAR"), (2, u "MONTH_YEAR_4_2"), (2, u "TZ_TIME_ONLY"), (2, u "DATA"), (2, u "XML_DATA"), (2, u "$VALUES"), (0, u "[Lapportion/io/DataType;"), (6, .class_ 90), (1, u "java/lang/Enum"), (8, u "form"), (0, u "Ljava/lang/String;"), (0, .methodref 3 102), (0, .nameAndType 103 104), (0, u "ordinal"), (0, u "()I"), (10, u "()Z"), (41, u "isDecimal"), (125, u "INT_MAGNITUDE"), (0, u "J")] 16

def k6c0 : Code := { maxStack := 1, maxLocals := 1, code := prog_15_method_5_code, exceptionTable := #[], attributes := #[] }
def k6m0 : Method := { name := "isDecimal", desc := "()Z", sig := { parameters := [], returnType := some .boolean }, accessFlags := 1, code := some k6c0 }
/-- apportion/io/DataType -/
def k6 : Class := { plain "apportion/io/DataType" (some 5) with
  accessFlags := 16433
  interfaces := #[]
  cf := some (fileOf pool6 3 #[] #[{ accessFlags := 1, nameIndex := 157, descriptorIndex := 115, attributes := #[] }] 16433 88 #[] #[{ accessFlags := 16409, nameIndex := 7, descriptorIndex := 8, attributes := #[] }, { accessFlags := 16409, nameIndex := 11, descriptorIndex := 8, attributes := #[] }, { accessFlags := 16409, nameIndex := 14, descriptorIndex := 8, attributes := #[] }, { accessFlags := 16409, nameIndex := 17, descriptorIndex := 8, attributes := #[] }, { accessFlags := 16409, nameIndex := 20, descriptorIndex := 8, attributes := #[] }, { accessFlags := 16409, nameIndex := 23, descriptorIndex := 8, attributes := #[] }, { accessFlags := 16409, nameIndex := 26, descriptorIndex := 8, attributes := #[] }, { accessFlags := 16409, nameIndex := 29, descriptorIndex := 8, attributes := #[] }, { accessFlags := 16409, nameIndex := 32, descriptorIndex := 8, attributes := #[] }, { accessFlags := 16409, nameIndex := 35, descriptorIndex := 8, attributes := #[] }, { accessFlags := 16409, nameIndex := 38, descriptorIndex := 8, attributes := #[] }, { accessFlags := 16409, nameIndex := 41, descriptorIndex := 8, attributes := #[] }, { accessFlags := 16409, nameIndex := 44, descriptorIndex := 8, attributes := #[] }, { accessFlags := 16409, nameIndex := 47, descriptorIndex := 8, attributes := #[] }, { accessFlags := 16409, nameIndex := 50, descriptorIndex := 8, attributes := #[] }, { accessFlags := 16409, nameIndex := 53, descriptorIndex := 8, attributes := #[] }, { accessFlags := 16409, nameIndex := 56, descriptorIndex := 8, attributes := #[] }, { accessFlags := 16409, nameIndex := 59, descriptorIndex := 8, attributes := #[] }, { accessFlags := 16409, nameIndex := 62, descriptorIndex := 8, attributes := #[] }, { accessFlags := 16409, nameIndex := 65, descriptorIndex := 8, attributes := #[] }, { accessFlags := 16409, nameIndex := 68, descriptorIndex := 8, attributes := #[] }, { accessFlags := 16409, nameIndex := 71, descriptorIndex := 8, attributes := #[] }, { accessFlags := 16409, nameIndex := 74, descriptorIndex := 8, attributes := #[] }, { accessFlags := 16409, nameIndex := 77, descriptorIndex := 8, attributes := #[] }, { accessFlags := 26, nameIndex := 283, descriptorIndex := 284, attributes := #[] }, { accessFlags := 18, nameIndex := 99, descriptorIndex := 100, attributes := #[] }, { accessFlags := 4122, nameIndex := 80, descriptorIndex := 81, attributes := #[] }])
  fields := #[{ name := "STRING", type := (.object "apportion/io/DataType"), accessFlags := 16409, slot := 0, constantValue := 0 }, { name := "CHAR", type := (.object "apportion/io/DataType"), accessFlags := 16409, slot := 1, constantValue := 0 }, { name := "BOOLEAN", type := (.object "apportion/io/DataType"), accessFlags := 16409, slot := 2, constantValue := 0 }, { name := "INT", type := (.object "apportion/io/DataType"), accessFlags := 16409, slot := 3, constantValue := 0 }, { name := "SEQ_NUM", type := (.object "apportion/io/DataType"), accessFlags := 16409, slot := 4, constantValue := 0 }, { name := "LENGTH", type := (.object "apportion/io/DataType"), accessFlags := 16409, slot := 5, constantValue := 0 }, { name := "NUM_IN_GROUP", type := (.object "apportion/io/DataType"), accessFlags := 16409, slot := 6, constantValue := 0 }, { name := "DAY_OF_MONTH", type := (.object "apportion/io/DataType"), accessFlags := 16409, slot := 7, constantValue := 0 }, { name := "FLOAT", type := (.object "apportion/io/DataType"), accessFlags := 16409, slot := 8, constantValue := 0 }, { name := "QTY", type := (.object "apportion/io/DataType"), accessFlags := 16409, slot := 9, constantValue := 0 }, { name := "PRICE", type := (.object "apportion/io/DataType"), accessFlags := 16409, slot := 10, constantValue := 0 }, { name := "PRICE_OFFSET", type := (.object "apportion/io/DataType"), accessFlags := 16409, slot := 11, constantValue := 0 }, { name := "AMT", type := (.object "apportion/io/DataType"), accessFlags := 16409, slot := 12, constantValue := 0 }, { name := "PERCENTAGE", type := (.object "apportion/io/DataType"), accessFlags := 16409, slot := 13, constantValue := 0 }, { name := "CURRENCY", type := (.object "apportion/io/DataType"), accessFlags := 16409, slot := 14, constantValue := 0 }, { name := "EXCHANGE", type := (.object "apportion/io/DataType"), accessFlags := 16409, slot := 15, constantValue := 0 }, { name := "COUNTRY", type := (.object "apportion/io/DataType"), accessFlags := 16409, slot := 16, constantValue := 0 }, { name := "UTC_TIMESTAMP", type := (.object "apportion/io/DataType"), accessFlags := 16409, slot := 17, constantValue := 0 }, { name := "LOCAL_MKT_DATE", type := (.object "apportion/io/DataType"), accessFlags := 16409, slot := 18, constantValue := 0 }, { name := "MONTH_YEAR", type := (.object "apportion/io/DataType"), accessFlags := 16409, slot := 19, constantValue := 0 }, { name := "MONTH_YEAR_4_2", type := (.object "apportion/io/DataType"), accessFlags := 16409, slot := 20, constantValue := 0 }, { name := "TZ_TIME_ONLY", type := (.object "apportion/io/DataType"), accessFlags := 16409, slot := 21, constantValue := 0 }, { name := "DATA", type := (.object "apportion/io/DataType"), accessFlags := 16409, slot := 22, constantValue := 0 }, { name := "XML_DATA", type := (.object "apportion/io/DataType"), accessFlags := 16409, slot := 23, constantValue := 0 }, { name := "INT_MAGNITUDE", type := .long, accessFlags := 26, slot := 24, constantValue := 0 }, { name := "form", type := (.object "java/lang/String"), accessFlags := 18, slot := 3, constantValue := 0 }, { name := "$VALUES", type := (.array (.object "apportion/io/DataType")), accessFlags := 4122, slot := 25, constantValue := 0 }]
  methods := #[k6m0]
  instanceTypes := #[(.object "java/lang/String"), .int, .int, (.object "java/lang/String")]
  staticTypes := #[(.object "apportion/io/DataType"), (.object "apportion/io/DataType"), (.object "apportion/io/DataType"), (.object "apportion/io/DataType"), (.object "apportion/io/DataType"), (.object "apportion/io/DataType"), (.object "apportion/io/DataType"), (.object "apportion/io/DataType"), (.object "apportion/io/DataType"), (.object "apportion/io/DataType"), (.object "apportion/io/DataType"), (.object "apportion/io/DataType"), (.object "apportion/io/DataType"), (.object "apportion/io/DataType"), (.object "apportion/io/DataType"), (.object "apportion/io/DataType"), (.object "apportion/io/DataType"), (.object "apportion/io/DataType"), (.object "apportion/io/DataType"), (.object "apportion/io/DataType"), (.object "apportion/io/DataType"), (.object "apportion/io/DataType"), (.object "apportion/io/DataType"), (.object "apportion/io/DataType"), .long, (.array (.object "apportion/io/DataType"))]
  resolved := Array.replicate 301 none
  statics := some 0 }

def pool7 : Array CpInfo := pool [(1, u "java/lang/Cloneable"), (0, .class_ 1), (0, u "java/lang/Object"), (0, .class_ 3)] 3

/-- java/lang/Cloneable -/
def k7 : Class := { plain "java/lang/Cloneable" (some 0) with
  accessFlags := 1537
  interfaces := #[]
  cf := some (fileOf pool7 2 #[] #[] 1537 4 #[] #[])
  fields := #[]
  methods := #[]
  instanceTypes := #[]
  staticTypes := #[]
  resolved := Array.replicate 8 none
  statics := none }

/-- the primitive byte -/
def k8 : Class := { plain "byte" none with kind := .primitive 'B', accessFlags := 0x411 }
/-- [B -/
def k9 : Class := { plain "[B" (some 0) with kind := .array 8 .byte, interfaces := #[7, 4], accessFlags := 1041 }

/-- the primitive int -/
def k10 : Class := { plain "int" none with kind := .primitive 'I', accessFlags := 0x411 }
/-- [I -/
def k11 : Class := { plain "[I" (some 0) with kind := .array 10 .int, interfaces := #[7, 4], accessFlags := 1041 }

def heap : Heap := #[{ cls := 6, slots := #[.ref 1, .ref 11, .ref 6, .ref 2, .ref 16, .ref 18, .ref 19, .ref 7, .ref 10, .ref 14, .ref 13, .ref 8, .ref 20, .ref 23, .ref 3, .ref 5, .ref 9, .ref 21, .ref 17, .ref 4, .ref 15, .ref 22, .ref 24, .ref 12, .long 0, .null], vm := .statics 6 },
  { cls := 6, slots := #[.null, .int 0, .int 0, .null], vm := .none },
  { cls := 6, slots := #[.null, .int 3, .int 0, .null], vm := .none },
  { cls := 6, slots := #[.null, .int 14, .int 0, .null], vm := .none },
  { cls := 6, slots := #[.null, .int 19, .int 0, .null], vm := .none },
  { cls := 6, slots := #[.null, .int 15, .int 0, .null], vm := .none },
  { cls := 6, slots := #[.null, .int 2, .int 0, .null], vm := .none },
  { cls := 6, slots := #[.null, .int 7, .int 0, .null], vm := .none },
  { cls := 6, slots := #[.null, .int 11, .int 0, .null], vm := .none },
  { cls := 6, slots := #[.null, .int 16, .int 0, .null], vm := .none },
  { cls := 6, slots := #[.null, .int 8, .int 0, .null], vm := .none },
  { cls := 6, slots := #[.null, .int 1, .int 0, .null], vm := .none },
  { cls := 6, slots := #[.null, .int 23, .int 0, .null], vm := .none },
  { cls := 6, slots := #[.null, .int 10, .int 0, .null], vm := .none },
  { cls := 6, slots := #[.null, .int 9, .int 0, .null], vm := .none },
  { cls := 6, slots := #[.null, .int 20, .int 0, .null], vm := .none },
  { cls := 6, slots := #[.null, .int 4, .int 0, .null], vm := .none },
  { cls := 6, slots := #[.null, .int 18, .int 0, .null], vm := .none },
  { cls := 6, slots := #[.null, .int 5, .int 0, .null], vm := .none },
  { cls := 6, slots := #[.null, .int 6, .int 0, .null], vm := .none },
  { cls := 6, slots := #[.null, .int 12, .int 0, .null], vm := .none },
  { cls := 6, slots := #[.null, .int 17, .int 0, .null], vm := .none },
  { cls := 6, slots := #[.null, .int 21, .int 0, .null], vm := .none },
  { cls := 6, slots := #[.null, .int 13, .int 0, .null], vm := .none },
  { cls := 6, slots := #[.null, .int 22, .int 0, .null], vm := .none }]
def classes : Array Class := #[k0, k1, k2, k3, k4, k5, k6, k7, k8, k9, k10, k11]
def interned : List (Array UInt16 × Addr) := []
def slotsUsed : Nat := 122
def theMethod : MethodId := ⟨1, 2⟩
def args0 : Array Value := #[.int 5]
def aboutOver (below : List Frame) : State where
  vm := { classes := classes, interned := interned.toArray }
  heap := heap
  slotsUsed := slotsUsed
  threads := #[{ frames := .invoking theMethod args0 :: below }]
def below0 : List Frame := [.native { method := ⟨0, 0⟩, args := #[] }]
def about1 : State := aboutOver below0
def p0 : Program := .bare "" "" ""
def e0 : Env := launch0.env 0 0 0
theorem w_frames : about1.frames = Frame.invoking theMethod args0 :: below0 := rfl
set_option maxRecDepth 65536 in
theorem w_args : argsFit about1.vm theMethod args0 = true := by decide +kernel
set_option maxRecDepth 65536 in
theorem w_heap : heapFits about1 = true := by decide +kernel
set_option maxRecDepth 65536 in
theorem w_runnable : about1.curStatus? = some .runnable := by decide +kernel
set_option maxRecDepth 65536 in
theorem w_alone : about1.alone = true := by decide +kernel
set_option maxRecDepth 65536 in
theorem w_named : about1.methodNamed? x = some theMethod := by decide +kernel
set_option maxRecDepth 65536 in
theorem w_hears : about1.hears theMethod below0 = true := by decide +kernel
set_option maxRecDepth 65536 in
theorem w_ripe : about1.ripe theMethod args0 below0 = true := by decide +kernel
theorem w_running : about1.status = .running := rfl
set_option maxRecDepth 65536 in
theorem w_room : about1.hasRoom e0.platform room_1 = true :=
  launch0.hasRoom_least _ room_1 (by decide +kernel) (by decide +kernel) (by decide +kernel) (by decide +kernel) (by decide +kernel) (by decide +kernel)
theorem allAtoms_all (ts : List Jvm.Cond) (a : Array Jvm.Value) (st : Jvm.State) : (allAtoms ts).before a st = ts.all (fun c => c.before a st) := by
  induction ts with
  | nil => rfl
  | cons c t ih =>
    show (Jvm.Cond.and c (allAtoms t)).before a st = _
    rw [Jvm.Cond.before_and, ih, List.all_cons]
def words1 : List Jvm.Cond := Jvm.Cond.code x code maxLocals ret :: tables_1
/-- a 'code' word, met by the world's own term for the bytes: nothing is compared byte by byte -/
theorem code_word {y : MethodName} {bytes : ByteArray} {mx : Nat} {rt : Option FieldType} {a : Array Value} {s : State} {m : MethodId} {meth : Method} {c : Code} (h1 : s.methodNamed? y = some m) (h2 : s.vm.method? m = some meth) (h3 : meth.code = some c) (h4 : c.code = bytes)
    (h5 : (c.maxLocals == mx && c.exceptionTable.isEmpty && decide (c.maxStack ≤ mostOperands) && decide (meth.sig.returnType = rt) && !meth.locks && decide (parseMethodDescriptor y.desc = some meth.sig)) = true) : (Jvm.Cond.code y bytes mx rt).before a s = true := by
  simp only [Bool.and_eq_true, beq_iff_eq, Bool.not_eq_true', decide_eq_true_eq] at h5
  obtain ⟨⟨⟨⟨⟨g1, g2⟩, g3⟩, g4⟩, g5⟩, g6⟩ := h5
  simp [Cond.before, Cond.holds, Cond.value, h1, h2, h3, h4, g1, g2, g3, g4, g5, g6]
def isCode : Jvm.Cond → Bool
  | .code _ _ _ _ => true
  | _ => false
theorem all_split {L : List Jvm.Cond} {P : Jvm.Cond → Bool} (h1 : L.all (fun c => isCode c || P c) = true) (h2 : ∀ c ∈ L.filter isCode, P c = true) : L.all P = true := by
  refine List.all_eq_true.mpr fun c hc => ?_
  have h := List.all_eq_true.mp h1 c hc
  rcases Bool.eq_false_or_eq_true (isCode c) with hi | hi
  · exact h2 c (List.mem_filter.mpr ⟨hc, hi⟩)
  · simpa [hi] using h
set_option maxRecDepth 65536 in
theorem w_c0 : (Jvm.Cond.code x code maxLocals ret).before args0 about1 = true := code_word (m := ⟨1, 2⟩) (meth := k1m2) (c := k1c2) (by decide +kernel) rfl rfl rfl (by decide +kernel)
set_option maxRecDepth 65536 in
theorem w_c1 : (Jvm.Cond.code ({ cls := "apportion/io/DataTypeIsDecimalPinLaw", name := "pick", desc := "(I)Lapportion/io/DataType;" } : Jvm.MethodName) method_2_code (1 : Nat) (Option.some (Jvm.ClassFile.FieldType.object "apportion/io/DataType"))).before args0 about1 = true := code_word (m := ⟨1, 1⟩) (meth := k1m1) (c := k1c1) (by decide +kernel) rfl rfl rfl (by decide +kernel)
set_option maxRecDepth 65536 in
theorem w_c2 : (Jvm.Cond.code ({ cls := "apportion/io/DataType", name := "isDecimal", desc := "()Z" } : Jvm.MethodName) prog_15_method_5_code (1 : Nat) (Option.some Jvm.ClassFile.FieldType.boolean)).before args0 about1 = true := code_word (m := ⟨6, 0⟩) (meth := k6m0) (c := k6c0) (by decide +kernel) rfl rfl rfl (by decide +kernel)
set_option maxRecDepth 65536 in
theorem w_c3 : (Jvm.Cond.code ({ cls := "java/lang/Enum", name := "ordinal", desc := "()I" } : Jvm.MethodName) jdk_37_method_2_code (1 : Nat) (Option.some Jvm.ClassFile.FieldType.int)).before args0 about1 = true := code_word (m := ⟨5, 0⟩) (meth := k5m0) (c := k5c0) (by decide +kernel) rfl rfl rfl (by decide +kernel)
def codes1 : List Jvm.Cond := [Jvm.Cond.code x code maxLocals ret, Jvm.Cond.code ({ cls := "apportion/io/DataTypeIsDecimalPinLaw", name := "pick", desc := "(I)Lapportion/io/DataType;" } : Jvm.MethodName) method_2_code (1 : Nat) (Option.some (Jvm.ClassFile.FieldType.object "apportion/io/DataType")), Jvm.Cond.code ({ cls := "apportion/io/DataType", name := "isDecimal", desc := "()Z" } : Jvm.MethodName) prog_15_method_5_code (1 : Nat) (Option.some Jvm.ClassFile.FieldType.boolean), Jvm.Cond.code ({ cls := "java/lang/Enum", name := "ordinal", desc := "()I" } : Jvm.MethodName) jdk_37_method_2_code (1 : Nat) (Option.some Jvm.ClassFile.FieldType.int)]
set_option maxRecDepth 65536 in
theorem codes_eq : words1.filter isCode = codes1 := rfl
theorem w_codes : ∀ c ∈ words1.filter isCode, c.before args0 about1 = true := by
  rw [codes_eq]
  intro c hc
  simp only [codes1, List.mem_cons, List.not_mem_nil, or_false] at hc
  rcases hc with rfl | rfl | rfl | rfl
  · exact w_c0
  · exact w_c1
  · exact w_c2
  · exact w_c3
set_option maxRecDepth 65536 in
theorem w_t1 : (words1.take 24).all (fun c => isCode c || c.before args0 about1) = true := by decide +kernel
set_option maxRecDepth 65536 in
theorem w_t2 : ((words1.drop 24).take 24).all (fun c => isCode c || c.before args0 about1) = true := by decide +kernel
set_option maxRecDepth 65536 in
theorem w_t3 : ((words1.drop 24).drop 24).all (fun c => isCode c || c.before args0 about1) = true := by decide +kernel
theorem w_tables : (allAtoms (Jvm.Cond.code x code maxLocals ret :: tables_1)).before args0 about1 = true := by
  rw [allAtoms_all]
  show words1.all (fun c => c.before args0 about1) = true
  refine all_split ?_ w_codes
  rw [← List.take_append_drop 24 words1, List.all_append, w_t1, ← List.take_append_drop 24 (words1.drop 24), List.all_append, w_t2, w_t3]
  rfl
set_option maxRecDepth 65536 in
theorem w_case : (Jvm.Cond.and given_1 narrow_1).before args0 about1 = true := by decide +kernel
theorem w_applies : (headSpec (Jvm.Cond.code x code maxLocals ret :: tables_1) room_1).applies x e0.platform about1 = true :=
  (Spec.applies_iff w_frames).mpr ⟨w_running, w_runnable, w_alone, w_named, w_hears, w_ripe, w_room, w_tables⟩
theorem atStart : AtStart classFile x code maxLocals ret World_1 tables_1 room_1 Calls_1 rest_1 Pre_1 launch0 p0 e0 about1 theMethod args0 below0 :=
  ⟨lists_1, trivial, launch0.admits_env _ _ _, launch0.least_env, fairChoices_fair.cas, fairChoices_fair.clock, w_frames, w_args, w_heap, w_applies, trivial, trivial, w_case⟩
end start1
theorem witness_1 : WitnessClaimed_1 := ⟨start1.p0, start1.e0, start1.about1, start1.theMethod, start1.args0, start1.below0, start1.atStart⟩
end Jvm.Pilot.@@N@@
