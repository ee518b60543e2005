import JvmDerived
import JvmDerived.Pilot.@@N@@Statement
import JvmDerived.Pilot.@@N@@Code
set_option linter.unusedVariables false
set_option linter.unusedSimpArgs false
namespace Jvm.RoadKit
open Sem ClassFile Op Lib Jvm.Stand Jvm.Free Jvm.LawKit
section New
variable {p : Program} {l : Launch} {e : Env} {R : Room} {s : State} {m : MethodId} {args : Array Value} {below : List Frame} {meth : Method} {c : Code} {T : State} {locs : List Loc} {cells slots : Nat}
theorem retI (X : Stand p l e R s m args below meth c T locs cells slots) (hx : p.tables.exec = Jvm.exec) {pc : Nat} {Ls : Array Slot} {z : Int32} {rest : List Value} (hret : meth.sig.returnType = some .int) (hd : decode c.code pc = .ok (.ireturn, 1)) {fs : List Frame}
    (hl : ∀ (f : JFrame) (acts : List Action), f.method = m → f.locked = none → f.entered = [] → (doReturn e (T.setTop f) acts (some (.int z))).1 = T.setFrames fs) : Steps p.tables e below (T.setTop (mkF m pc Ls (.int z :: rest))) (T.setFrames fs) := by
  have hm' : T.vm.method? m = some meth := X.method'
  have hn : narrow .int (.int z) = .int z := rfl
  show Steps p.tables e below (T.setTop { method := m, pc := pc, locals := Ls, stack := _ :: rest, locked := none }) _
  jvm_step X.here [X.here.top, hx, hd, hm', hret, hn]
  first | (intro acts; rw [hl _ acts rfl rfl rfl]) | rw [hl _ _ rfl rfl rfl]
  exact Steps.refl _
end New
end Jvm.RoadKit
namespace Jvm.Pilot.@@N@@
open Jvm Jvm.ClassFile Sem Op Lib Jvm.Free Jvm.Stand Jvm.LawKit Jvm.RoadKit Bundle Jvm.Pilot.@@N@@.Jvm.D

def own_Q (r : Option Value) (h0 : Heap) (n0 : Nat) (v : Option Value) (h : Heap) (L : List Loc) : Prop := v = r ∧ Fr n0 L ∧ h = h0
def own_Q0 (n0 : Nat) (v : Option Value) (h : Heap) (L : List Loc) : Prop := v = some (.int 1) ∧ Fr n0 L
theorem own_ext_trans {h h' h'' : Heap} (E : Ext h h') (E' : Ext h' h'') : Ext h h'' := ⟨Nat.le_trans E.1 E'.1, fun a c q => E'.2 a c (E.2 a c q)⟩
theorem own_ext_wr {h0 h h' : Heap} {a : Addr} {sl : Nat} {v : Value} (E : Ext h0 h) (W : Wr h h' a sl v) (q : h0.size ≤ a) : Ext h0 h' := by
  refine ⟨by rw [W.size]; exact E.1, fun b c hb => ?_⟩
  have hne : b ≠ a := Nat.ne_of_lt (Nat.lt_of_lt_of_le (Array.getElem?_eq_some_iff.mp hb).1 q)
  obtain ⟨c', e1, -, -, -, e5, -⟩ := wr_at W (E.2 b c hb)
  rw [e1, e5 hne]
theorem own_stR {p : Program} {l : Launch} {e : Env} {R : Room} {s : State} {m : MethodId} {args : Array Value} {below : List Frame} {meth : Method} {c : Code} {T : State} {locs : List Loc} {cells slots : Nat} {Z : State} {h : Heap}
    (X : Stand p l e R s m args below meth c T locs cells slots) (hx : p.tables.exec = Jvm.exec) (hZ : Z.Warmed39 s.vm) (eT : T.heap = h) {a y : Addr} {k : ClassId} {ty : FieldType} {z : Int32} {vs : List Value} {dv : Value} {C : String} (F : Arv Z h a k ty z vs dv) (O : Ovr Z k C) (I : Ins Z h y C true) {j : Int32} (hj : ¬ j < 0 ∧ j < z) {i : Nat} (hi : j.toNatClampNeg = i) (hl : i < vs.length) (hty : ty.isReference = true)
    {g : JFrame} (hg : g.method = m) {rest : List Value} (hs : g.stack = .ref y :: .int j :: .ref a :: rest) (hd : decode c.code g.pc = .ok (.aastore, 1)) :
    ∃ T' h', Stand p l e R s m args below meth c T' (locs ++ [⟨a, j.toNatClampNeg⟩]) cells slots ∧ T'.heap = h' ∧ Wr h h' a j.toNatClampNeg (.ref y) ∧ Arv Z h' a k ty z (vs.set i (.ref y)) dv ∧ ∀ target, Steps p.tables e below (T'.setTop { g with pc := g.pc + 1, stack := rest }) target → Steps p.tables e below (T.setTop g) target := by
  obtain ⟨cl, A, q1, S, q3, H, G⟩ := F
  obtain ⟨T', h', X', e', W, st⟩ := stR X hx hZ eT A (inb_of S hj) hty (Sto.ofV A q1 O I) hg hs hd
  exact ⟨T', h', X', e', W, Arv.set A q1 S q3 H G (by cases ty <;> first | rfl | cases hty) W i hi hl, st⟩
theorem own_at {Z : State} {h : Heap} {a : Addr} {k : ClassId} {ty : FieldType} {z : Int32} {vs : List Value} {dv : Value} (F : Arv Z h a k ty z vs dv) {j : Int32} {v : Value} (hj : ¬ j < 0 ∧ j < z) (u : vs.getD j.toNatClampNeg dv = v) :
    ∃ c : Cell, Arr Z h a c ty ∧ ¬ (j < 0 ∨ c.slots.size ≤ j.toNatClampNeg) ∧ c.slots[j.toNatClampNeg]? = some v := by
  obtain ⟨c, A, -, S, -, H, -⟩ := F
  exact ⟨c, A, inb_of S hj, H.at (inb_of S hj) u⟩
theorem own_ext_refl (h : Heap) : Ext h h := ⟨Nat.le_refl _, fun _ _ q => q⟩
theorem own_ext_keep {h0 h h' : Heap} {ws : List Addr} (E : Ext h0 h) (K : Keep h h' ws) (q : ∀ x ∈ ws, h0.size ≤ x) : Ext h0 h' :=
  ⟨Nat.le_trans E.1 K.1, fun a c r => K.2.1 a c (E.2 a c r) fun z => absurd (Array.getElem?_eq_some_iff.mp r).1 (Nat.not_lt.mpr (q a z))⟩
theorem own_stI {p : Program} {l : Launch} {e : Env} {R : Room} {s : State} {m : MethodId} {args : Array Value} {below : List Frame} {meth : Method} {c : Code} {T : State} {locs : List Loc} {cells slots : Nat} {Z : State} {h : Heap}
    (X : Stand p l e R s m args below meth c T locs cells slots) (hx : p.tables.exec = Jvm.exec) (hZ : Z.Warmed39 s.vm) (eT : T.heap = h) {a : Addr} {k : ClassId} {z : Int32} {vs : List Value} {dv : Value} (F : Arv Z h a k .int z vs dv) {j x : Int32} (hj : ¬ j < 0 ∧ j < z) {i : Nat} (hi : j.toNatClampNeg = i) (hl : i < vs.length)
    {g : JFrame} (hg : g.method = m) {rest : List Value} (hs : g.stack = .int x :: .int j :: .ref a :: rest) (hd : decode c.code g.pc = .ok (.iastore, 1)) :
    ∃ T' h', Stand p l e R s m args below meth c T' (locs ++ [⟨a, j.toNatClampNeg⟩]) cells slots ∧ T'.heap = h' ∧ Wr h h' a j.toNatClampNeg (.int x) ∧ Arv Z h' a k .int z (vs.set i (.int x)) dv ∧ ∀ target, Steps p.tables e below (T'.setTop { g with pc := g.pc + 1, stack := rest }) target → Steps p.tables e below (T.setTop g) target := by
  obtain ⟨cl, A, q1, S, q3, H, G⟩ := F
  obtain ⟨T', h', X', e', W, st⟩ := stI X hx hZ eT A (inb_of S hj) hg hs hd
  exact ⟨T', h', X', e', W, Arv.set A q1 S q3 H G rfl W i hi hl, st⟩
theorem own_stC {p : Program} {l : Launch} {e : Env} {R : Room} {s : State} {m : MethodId} {args : Array Value} {below : List Frame} {meth : Method} {c : Code} {T : State} {locs : List Loc} {cells slots : Nat} {Z : State} {h : Heap}
    (X : Stand p l e R s m args below meth c T locs cells slots) (hx : p.tables.exec = Jvm.exec) (hZ : Z.Warmed39 s.vm) (eT : T.heap = h) {a : Addr} {k : ClassId} {z : Int32} {vs : List Value} {dv : Value} (F : Arv Z h a k .char z vs dv) {j x : Int32} (hj : ¬ j < 0 ∧ j < z) {i : Nat} (hi : j.toNatClampNeg = i) (hl : i < vs.length)
    {g : JFrame} (hg : g.method = m) {rest : List Value} (hs : g.stack = .int x :: .int j :: .ref a :: rest) (hd : decode c.code g.pc = .ok (.castore, 1)) :
    ∃ T' h', Stand p l e R s m args below meth c T' (locs ++ [⟨a, j.toNatClampNeg⟩]) cells slots ∧ T'.heap = h' ∧ Wr h h' a j.toNatClampNeg (.int (nar .char x)) ∧ Arv Z h' a k .char z (vs.set i (.int (nar .char x))) dv ∧ ∀ target, Steps p.tables e below (T'.setTop { g with pc := g.pc + 1, stack := rest }) target → Steps p.tables e below (T.setTop g) target := by
  obtain ⟨cl, A, q1, S, q3, H, G⟩ := F
  obtain ⟨T', h', X', e', W, st⟩ := stC X hx hZ eT A (inb_of S hj) hg hs hd
  exact ⟨T', h', X', e', W, Arv.set A q1 S q3 H G (fits_nar_char x) W i hi hl, st⟩
theorem own_selP {s : State} {args : Array Value} {y z : MethodName} {C : String} (hs : (Jvm.Cond.selects C z z).before args s = true) (hcls : z.cls = y.cls) (hp : s.PrivateAt y) (hi : (Jvm.Cond.instanceMethod y).before args s = true) (hy : y.cls ≠ "java/lang/invoke/MethodHandle" ∧ y.cls ≠ "java/lang/invoke/VarHandle") : (Jvm.Cond.selects y.cls y y).before args s = true := by
  obtain ⟨c2, r2, m2, q1, q2, q3, q4, kP, hkP, hkPi⟩ := Cond.selects_spec hs
  exact selects_self_of_private (hcls ▸ findClass_of_methodNamed q3) hkP hkPi hp hi hy
theorem own_setapp {α : Type} (xs : List α) (d v : α) : (xs ++ [d]).set xs.length v = xs ++ [v] := by
  induction xs with
  | nil => rfl
  | cons a t ih => show a :: (t ++ [d]).set t.length v = _; rw [ih]; rfl
theorem own_mapapp (xs : List Int32) (y : Int32) : (xs ++ [y]).map Value.int = xs.map Value.int ++ [Value.int y] := by rw [List.map_append]; rfl
theorem own_stBx {p : Program} {l : Launch} {e : Env} {R : Room} {s : State} {m : MethodId} {args : Array Value} {below : List Frame} {meth : Method} {c : Code} {T : State} {locs : List Loc} {cells slots : Nat} {Z : State} {h : Heap}
    (X : Stand p l e R s m args below meth c T locs cells slots) (hx : p.tables.exec = Jvm.exec) (hZ : Z.Warmed39 s.vm) (eT : T.heap = h) {a : Addr} {k : ClassId} {z : Int32} {xs : List Int32} (F : Arv Z h a k .byte z (xs.map Value.int) (.int 0)) {j x : Int32} (hj : ¬ j < 0 ∧ j < z) (hl : j.toNatClampNeg = xs.length)
    {g : JFrame} (hg : g.method = m) {rest : List Value} (hs : g.stack = .int x :: .int j :: .ref a :: rest) (hd : decode c.code g.pc = .ok (.bastore, 1)) :
    ∃ T' h', Stand p l e R s m args below meth c T' (locs ++ [⟨a, j.toNatClampNeg⟩]) cells slots ∧ T'.heap = h' ∧ Wr h h' a j.toNatClampNeg (.int (nar .byte x)) ∧ Arv Z h' a k .byte z ((xs ++ [nar .byte x]).map Value.int) (.int 0) ∧ ∀ target, Steps p.tables e below (T'.setTop { g with pc := g.pc + 1, stack := rest }) target → Steps p.tables e below (T.setTop g) target := by
  have F1 : Arv Z h a k .byte z (xs.map Value.int ++ [.int 0]) (.int 0) := F.pad (pad_rep (xs.map Value.int) (.int 0) 1)
  obtain ⟨cl, A, q1, S, q3, H, G⟩ := F1
  obtain ⟨T', h', X', e', W, st⟩ := stB X hx hZ eT A (inb_of S hj) hg hs hd
  have V := Arv.set A q1 S q3 H G (fits_nar_byte x) W xs.length hl (by simp)
  have q : (xs.map Value.int ++ [Value.int 0]).set xs.length (.int (nar .byte x)) = (xs ++ [nar .byte x]).map Value.int := by
    rw [own_mapapp, ← own_setapp (xs.map Value.int) (Value.int 0) (.int (nar .byte x)), List.length_map]
  exact ⟨T', h', X', e', W, q ▸ V, st⟩
theorem own_stIx {p : Program} {l : Launch} {e : Env} {R : Room} {s : State} {m : MethodId} {args : Array Value} {below : List Frame} {meth : Method} {c : Code} {T : State} {locs : List Loc} {cells slots : Nat} {Z : State} {h : Heap}
    (X : Stand p l e R s m args below meth c T locs cells slots) (hx : p.tables.exec = Jvm.exec) (hZ : Z.Warmed39 s.vm) (eT : T.heap = h) {a : Addr} {k : ClassId} {z : Int32} {xs : List Int32} (F : Arv Z h a k .int z (xs.map Value.int) (.int 0)) {j x : Int32} (hj : ¬ j < 0 ∧ j < z) (hl : j.toNatClampNeg = xs.length)
    {g : JFrame} (hg : g.method = m) {rest : List Value} (hs : g.stack = .int x :: .int j :: .ref a :: rest) (hd : decode c.code g.pc = .ok (.iastore, 1)) :
    ∃ T' h', Stand p l e R s m args below meth c T' (locs ++ [⟨a, j.toNatClampNeg⟩]) cells slots ∧ T'.heap = h' ∧ Wr h h' a j.toNatClampNeg (.int x) ∧ Arv Z h' a k .int z ((xs ++ [x]).map Value.int) (.int 0) ∧ ∀ target, Steps p.tables e below (T'.setTop { g with pc := g.pc + 1, stack := rest }) target → Steps p.tables e below (T.setTop g) target := by
  have F1 : Arv Z h a k .int z (xs.map Value.int ++ [.int 0]) (.int 0) := F.pad (pad_rep (xs.map Value.int) (.int 0) 1)
  obtain ⟨cl, A, q1, S, q3, H, G⟩ := F1
  obtain ⟨T', h', X', e', W, st⟩ := stI X hx hZ eT A (inb_of S hj) hg hs hd
  have V := Arv.set A q1 S q3 H G rfl W xs.length hl (by simp)
  have q : (xs.map Value.int ++ [Value.int 0]).set xs.length (.int x) = (xs ++ [x]).map Value.int := by
    rw [own_mapapp, ← own_setapp (xs.map Value.int) (Value.int 0) (.int x), List.length_map]
  exact ⟨T', h', X', e', W, q ▸ V, st⟩
theorem own_atL {Z : State} {h : Heap} {a : Addr} {k : ClassId} {ty : FieldType} {z : Int32} {xs : List Int32} (F : Arv Z h a k ty z (xs.map Value.int) (.int 0)) {j : Int32} (hj : ¬ j < 0 ∧ j < z) :
    ∃ c : Cell, Arr Z h a c ty ∧ ¬ (j < 0 ∨ c.slots.size ≤ j.toNatClampNeg) ∧ c.slots[j.toNatClampNeg]? = some (.int (xs.getD j.toNatClampNeg 0)) := by
  obtain ⟨c, A, -, S, -, H, -⟩ := F
  refine ⟨c, A, inb_of S hj, H.at (inb_of S hj) ?_⟩
  rw [List.getD_eq_getElem?_getD, List.getD_eq_getElem?_getD, List.getElem?_map]
  cases xs[j.toNatClampNeg]? <;> rfl
theorem own_of32 {n : Nat} (h : n < 2147483648) : ¬ Int32.ofNat n < 0 ∧ (Int32.ofNat n).toNatClampNeg = n ∧ (Int32.ofNat n).toInt = n := by
  have h1 : (Int32.ofNat n).toInt = n := len_toInt h
  have h2 : ¬ Int32.ofNat n < 0 := by rw [Int32.lt_iff_toInt_lt, h1]; show ¬ (n : Int) < 0; omega
  have h3 := nat_of h2
  exact ⟨h2, by omega, h1⟩
theorem own_range_map (xs : List Int32) (d : Value) : ((List.range xs.length).map fun i => (xs.map Value.int).getD (0 + i) d) = xs.map Value.int := by
  apply List.ext_getElem?
  intro i
  rw [List.getElem?_map, List.getElem?_map]
  by_cases hi : i < xs.length
  · rw [List.getElem?_range hi]
    simp [hi]
  · rw [List.getElem?_eq_none (by simpa using hi), List.getElem?_eq_none (by simpa using hi)]; rfl
theorem own_cpNew {p : Program} {l : Launch} {e : Env} {R : Room} {s : State} {m : MethodId} {args : Array Value} {below : List Frame} {meth : Method} {c : Code} {T : State} {locs : List Loc} {cells slots : Nat} {Z : State} {h : Heap} {a0 : Array Value} {a b : Addr} {k k' : ClassId} {z : Int32} {xs : List Int32}
    (X : Stand p l e R s m args below meth c T locs cells slots) (hx : p.tables.exec = Jvm.exec) (hZ : Z.Warmed39 s.vm) {own : String} {index : Nat} (hown : s.vm.findClass own = some m.cls)
    (w1 : (Jvm.Cond.methodLink own index Jvm.Stand.acN).before a0 Z = true) (w2 : (Jvm.Cond.native Jvm.Stand.acN).before a0 Z = true) (w3 : (Jvm.Cond.static Jvm.Stand.acN).before a0 Z = true) (w4 : (Jvm.Cond.initialized "java/lang/System").before a0 Z = true) (eT : T.heap = h)
    (A : Arv Z h a k .byte z (xs.map Value.int) (.int 0)) (B : Arv Z h b k' .byte (Int32.ofNat xs.length) (([] : List Int32).map Value.int) (.int 0)) (hz : xs.length < 2147483648 ∧ xs.length ≤ z.toNatClampNeg) {n0 : Nat} (N : Fr n0 locs) (ge : n0 ≤ b)
    {g : JFrame} (hg : g.method = m) (hsize : g.locals.size = c.maxLocals) {rest : List Value} (hs : g.stack = .int (Int32.ofNat xs.length) :: .int 0 :: .ref b :: .int 0 :: .ref a :: rest) (hd : decode c.code g.pc = .ok (.invokestatic index, 3))
    (hf : 1 ≤ R.frames) {W : Nat} (hW : 2 * g.monitorRoom + (rest.map fun v => v.category).sum ≤ W) (hlo : W + (nativeFrameWords "java/lang/System" "arraycopy" 5 + 11) ≤ R.locals) :
    ∃ T' h' L, Stand p l e R s m args below meth c T' L cells slots ∧ T'.heap = h' ∧ Fr n0 L ∧ Keep h h' [b] ∧ Arv Z h' b k' .byte (Int32.ofNat xs.length) (xs.map Value.int) (.int 0) ∧
      ∀ target, Steps p.tables e below (T'.setTop { g with pc := g.pc + 3, stack := rest }) target → Steps p.tables e below (T.setTop g) target := by
  have hn := own_of32 hz.1
  have B2 : Arv Z h b k' .byte (Int32.ofNat xs.length) (List.replicate xs.length (.int 0)) (.int 0) := B.pad (fun i => pad_rep [] (.int 0) xs.length i)
  have z0 : (0 : Int32).toNatClampNeg = 0 := by decide
  obtain ⟨T', h', L, X', e', N', K, V, st⟩ := cpA (us := xs.map Value.int) X hx hZ hown w1 w2 w3 w4 eT A B2 (Or.inl ⟨rfl, rfl⟩) (by decide) (by decide) hn.1 (by rw [z0, hn.2.1]; omega) (by rw [z0, hn.2.1]; omega) (by rw [z0, hn.2.1]; exact (own_range_map xs (.int 0)).symm) (by rw [z0, hn.2.1, List.length_replicate]; omega) N ge hg hsize hs hd hf hW hlo
  refine ⟨T', h', L, X', e', N', K, ?_, st⟩
  rw [z0, hn.2.1] at V
  simpa using V
theorem own_cpApp {p : Program} {l : Launch} {e : Env} {R : Room} {s : State} {m : MethodId} {args : Array Value} {below : List Frame} {meth : Method} {c : Code} {T : State} {locs : List Loc} {cells slots : Nat} {Z : State} {h : Heap} {a0 : Array Value} {a b : Addr} {k k' : ClassId} {z : Int32} {xs ys : List Int32}
    (X : Stand p l e R s m args below meth c T locs cells slots) (hx : p.tables.exec = Jvm.exec) (hZ : Z.Warmed39 s.vm) {own : String} {index : Nat} (hown : s.vm.findClass own = some m.cls)
    (w1 : (Jvm.Cond.methodLink own index Jvm.Stand.acN).before a0 Z = true) (w2 : (Jvm.Cond.native Jvm.Stand.acN).before a0 Z = true) (w3 : (Jvm.Cond.static Jvm.Stand.acN).before a0 Z = true) (w4 : (Jvm.Cond.initialized "java/lang/System").before a0 Z = true) (eT : T.heap = h)
    (A : Arv Z h a k .byte (Int32.ofNat ys.length) (ys.map Value.int) (.int 0)) (B : Arv Z h b k' .byte z (xs.map Value.int) (.int 0)) (hz : xs.length + ys.length < 2147483648 ∧ xs.length + ys.length ≤ z.toNatClampNeg) {n0 : Nat} (N : Fr n0 locs) (ge : n0 ≤ b)
    {g : JFrame} (hg : g.method = m) (hsize : g.locals.size = c.maxLocals) {rest : List Value} (hs : g.stack = .int (Int32.ofNat ys.length) :: .int (Int32.ofNat xs.length) :: .ref b :: .int 0 :: .ref a :: rest) (hd : decode c.code g.pc = .ok (.invokestatic index, 3))
    (hf : 1 ≤ R.frames) {W : Nat} (hW : 2 * g.monitorRoom + (rest.map fun v => v.category).sum ≤ W) (hlo : W + (nativeFrameWords "java/lang/System" "arraycopy" 5 + 11) ≤ R.locals) :
    ∃ T' h' L, Stand p l e R s m args below meth c T' L cells slots ∧ T'.heap = h' ∧ Fr n0 L ∧ Keep h h' [b] ∧ Arv Z h' b k' .byte z ((xs ++ ys).map Value.int) (.int 0) ∧
      ∀ target, Steps p.tables e below (T'.setTop { g with pc := g.pc + 3, stack := rest }) target → Steps p.tables e below (T.setTop g) target := by
  have hx1 := own_of32 (n := xs.length) (by omega)
  have hy1 := own_of32 (n := ys.length) (by omega)
  have z0 : (0 : Int32).toNatClampNeg = 0 := by decide
  have B2 : Arv Z h b k' .byte z (xs.map Value.int ++ List.replicate ys.length (.int 0)) (.int 0) := B.pad (fun i => pad_rep (xs.map Value.int) (.int 0) ys.length i)
  obtain ⟨T', h', L, X', e', N', K, V, st⟩ := cpA (us := ys.map Value.int) X hx hZ hown w1 w2 w3 w4 eT A B2 (Or.inl ⟨rfl, rfl⟩) (by decide) hx1.1 hy1.1 (by rw [z0, hy1.2.1]; omega) (by rw [hx1.2.1, hy1.2.1]; omega) (by rw [z0, hy1.2.1]; exact (own_range_map ys (.int 0)).symm) (by rw [hx1.2.1, hy1.2.1, List.length_append, List.length_map, List.length_replicate]; omega) N ge hg hsize hs hd hf hW hlo
  refine ⟨T', h', L, X', e', N', K, ?_, st⟩
  rw [hx1.2.1, hy1.2.1] at V
  have q : (xs.map Value.int ++ List.replicate ys.length (Value.int 0)).take xs.length ++ ys.map Value.int ++ (xs.map Value.int ++ List.replicate ys.length (Value.int 0)).drop (xs.length + ys.length) = (xs ++ ys).map Value.int := by
    rw [List.take_left' (by simp), List.drop_eq_nil_of_le (by simp), List.append_nil, List.map_append]
  rw [q] at V
  exact V
def own_i2b (x : Int32) : Int32 := x.toInt8.toInt32
theorem own_getmap (es : List Int32) (i : Nat) : (es.map own_i2b).getD i 0 = (es.getD i 0).toInt8.toInt32 := by
  rw [List.getD_eq_getElem?_getD, List.getD_eq_getElem?_getD, List.getElem?_map]
  cases es[i]? <;> rfl
theorem own_lim2 {nn : Int32} {L : Nat} (hnn : nn = Int32.ofNat L) (c : Nat) {N : Nat} {z : Int32} (hz : z.toInt = N) (h : L + c < N) (hN : N < 2147483648) : (¬ (nn + Int32.ofNat c) < 0 ∧ (nn + Int32.ofNat c) < z) ∧ (nn + Int32.ofNat c).toNatClampNeg = L + c := by
  subst hnn
  have hn := own_of32 (n := L + c) (by omega)
  rw [← Int32.ofNat_add]
  exact ⟨⟨hn.1, by rw [Int32.lt_iff_toInt_lt, hn.2.2, hz]; omega⟩, hn.2.1⟩
theorem own_lim0 {nn : Int32} {L : Nat} (hnn : nn = Int32.ofNat L) {N : Nat} {z : Int32} (hz : z.toInt = N) (h : L < N) (hN : N < 2147483648) : (¬ nn < 0 ∧ nn < z) ∧ nn.toNatClampNeg = L := by
  subst hnn
  have hn := own_of32 (n := L) (by omega)
  exact ⟨⟨hn.1, by rw [Int32.lt_iff_toInt_lt, hn.2.2, hz]; omega⟩, hn.2.1⟩
theorem own_stBl {p : Program} {l : Launch} {e : Env} {R : Room} {s : State} {m : MethodId} {args : Array Value} {below : List Frame} {meth : Method} {c : Code} {T : State} {locs : List Loc} {cells slots : Nat} {Z : State} {h : Heap}
    (X : Stand p l e R s m args below meth c T locs cells slots) (hx : p.tables.exec = Jvm.exec) (hZ : Z.Warmed39 s.vm) (eT : T.heap = h) {a : Addr} {k : ClassId} {z : Int32} {vs : List Value} {dv : Value} (F : Arv Z h a k .byte z vs dv) {j x : Int32} (hj : ¬ j < 0 ∧ j < z) {i : Nat} (hi : j.toNatClampNeg = i) (hl : i < vs.length)
    {g : JFrame} (hg : g.method = m) {rest : List Value} (hs : g.stack = .int x :: .int j :: .ref a :: rest) (hd : decode c.code g.pc = .ok (.bastore, 1)) :
    ∃ T' h', Stand p l e R s m args below meth c T' (locs ++ [⟨a, j.toNatClampNeg⟩]) cells slots ∧ T'.heap = h' ∧ Wr h h' a j.toNatClampNeg (.int (nar .byte x)) ∧ Arv Z h' a k .byte z (vs.set i (.int (nar .byte x))) dv ∧ ∀ target, Steps p.tables e below (T'.setTop { g with pc := g.pc + 1, stack := rest }) target → Steps p.tables e below (T.setTop g) target := by
  obtain ⟨cl, A, q1, S, q3, H, G⟩ := F
  obtain ⟨T', h', X', e', W, st⟩ := stB X hx hZ eT A (inb_of S hj) hg hs hd
  exact ⟨T', h', X', e', W, Arv.set A q1 S q3 H G (fits_nar_byte x) W i hi hl, st⟩
theorem own_stBo {p : Program} {l : Launch} {e : Env} {R : Room} {s : State} {m : MethodId} {args : Array Value} {below : List Frame} {meth : Method} {c : Code} {T : State} {locs : List Loc} {cells slots : Nat} {Z : State} {h : Heap}
    (X : Stand p l e R s m args below meth c T locs cells slots) (hx : p.tables.exec = Jvm.exec) (hZ : Z.Warmed39 s.vm) (eT : T.heap = h) {a : Addr} {k : ClassId} {z : Int32} {vs : List Value} {dv : Value} (F : Arv Z h a k .byte z vs dv) {j x : Int32} (hj : ¬ j < 0 ∧ j < z)
    {g : JFrame} (hg : g.method = m) {rest : List Value} (hs : g.stack = .int x :: .int j :: .ref a :: rest) (hd : decode c.code g.pc = .ok (.bastore, 1)) :
    ∃ T' h', Stand p l e R s m args below meth c T' (locs ++ [⟨a, j.toNatClampNeg⟩]) cells slots ∧ T'.heap = h' ∧ Wr h h' a j.toNatClampNeg (.int (nar .byte x)) ∧ ∀ target, Steps p.tables e below (T'.setTop { g with pc := g.pc + 1, stack := rest }) target → Steps p.tables e below (T.setTop g) target := by
  obtain ⟨cl, A, q1, S, q3, H, G⟩ := F
  exact stB X hx hZ eT A (inb_of S hj) hg hs hd

def own_KB (Z : State) (h : Heap) (b : Addr) (r : Addr) (k : ClassId) (xs : List Int32) : Prop := (Exa Z h b "com/example/chitragupta/chitragupta/ledger/KeyBuilder") ∧ (Fld Z h b "com/example/chitragupta/chitragupta/ledger/KeyBuilder" "bytes" "[B" (.ref r)) ∧ (Fld Z h b "com/example/chitragupta/chitragupta/ledger/KeyBuilder" "length" "I" (.int (Int32.ofNat xs.length))) ∧ (Arv Z h r k .byte (64 : Int32) (xs.map Value.int) (.int (0 : Int32)))
theorem own_KB_ext {Z : State} {h h' : Heap} {b : Addr} {r : Addr} {k : ClassId} {xs : List Int32} (P : own_KB Z h b r k xs) (E : Ext h h') : own_KB Z h' b r k xs := by
  obtain ⟨f0, f1, f2, f3⟩ := P
  exact ⟨f0.ext E, f1.ext E, f2.ext E, f3.ext E⟩
def own_QA (Z : State) (xs : List Int32) (h0 : Heap) (n0 : Nat) (v : Option Value) (h : Heap) (L : List Loc) : Prop := ∃ t k, v = some (.ref t) ∧ Fr n0 L ∧ Ext h0 h ∧ h0.size ≤ t ∧ Arv Z h t k .byte (Int32.ofNat xs.length) (xs.map Value.int) (.int 0)
def own_QI (Z : State) (a : Addr) (h0 : Heap) (n0 : Nat) (v : Option Value) (h : Heap) (L : List Loc) : Prop := v = none ∧ Fr n0 L ∧ Keep h0 h [a] ∧ ∃ r k, h0.size ≤ r ∧ own_KB Z h a r k []
def own_QK (Z : State) (rv : Option Value) (b r : Addr) (k : ClassId) (xs : List Int32) (h0 : Heap) (n0 : Nat) (v : Option Value) (h : Heap) (L : List Loc) : Prop := v = rv ∧ Fr n0 L ∧ Keep h0 h [b, r] ∧ own_KB Z h b r k xs
def own_QE (Z : State) (rv : Option Value) (e : Addr) (k : ClassId) (es : List Int32) (h0 : Heap) (n0 : Nat) (v : Option Value) (h : Heap) (L : List Loc) : Prop := v = rv ∧ Fr n0 L ∧ Keep h0 h [e] ∧ Arv Z h e k .int (10 : Int32) (es.map Value.int) (.int 0)
theorem d_prog_10_method_1_code_0 : decode prog_10_method_1_code 0 = .ok (.aload_n 0, 1) := by decide +kernel
theorem d_prog_10_method_1_code_1 : decode prog_10_method_1_code 1 = .ok (.invokespecial 1, 3) := by decide +kernel
theorem d_prog_10_method_1_code_4 : decode prog_10_method_1_code 4 = .ok (.aload_n 0, 1) := by decide +kernel
theorem d_prog_10_method_1_code_5 : decode prog_10_method_1_code 5 = .ok (.bipush 64, 2) := by decide +kernel
theorem d_prog_10_method_1_code_7 : decode prog_10_method_1_code 7 = .ok (.newarray .byte, 2) := by decide +kernel
theorem d_prog_10_method_1_code_9 : decode prog_10_method_1_code 9 = .ok (.putfield 7, 3) := by decide +kernel
theorem d_prog_10_method_1_code_12 : decode prog_10_method_1_code 12 = .ok (.return_, 1) := by decide +kernel
theorem ef_prog_10_method_1_code_A (m : MethodId) (x0 : Addr) : entryFrame m #[(.ref x0)] 1 = mkF m 0 #[.val (.ref x0)] [] := by first | (simp [entryFrame, mkF, argsToLocals, Value.category]; done) | rfl
theorem pn_com_example_chitragupta_chitragupta_ledger_KeyBuilder : plainName "com/example/chitragupta/chitragupta/ledger/KeyBuilder" = true := by first | (simp [plainName, overriddenIn]; done) | decide +kernel
set_option maxRecDepth 65536 in
set_option maxHeartbeats 40000000 in
theorem own_init (l : Launch) (Z : State) (a0 : Array Value) (hw : ∀ d ∈ tables_1, d.before a0 Z = true) (ws : List Jvm.Cond) (a1 : Addr) (h0 : Heap) (n0 : Nat) (Z0 : n0 ≤ h0.size) (E1 : Exa Z h0 a1 "com/example/chitragupta/chitragupta/ledger/KeyBuilder") (G1 : Fld Z h0 a1 "com/example/chitragupta/chitragupta/ledger/KeyBuilder" "bytes" "[B" .null) (G2 : Fld Z h0 a1 "com/example/chitragupta/chitragupta/ledger/KeyBuilder" "length" "I" (.int (0 : Int32))) (g1 : n0 ≤ a1) :
    MetFree l (⟨"com/example/chitragupta/chitragupta/ledger/KeyBuilder", "<init>", "()V"⟩ : MethodName) (head1 (Jvm.Cond.code (⟨"com/example/chitragupta/chitragupta/ledger/KeyBuilder", "<init>", "()V"⟩ : MethodName) prog_10_method_1_code 1 none :: ws) ({ frames := 1, cells := 1, slots := 64, locals := 12 } : Room)) (fun a U => a = #[(.ref a1)] ∧ Z.Warmed39 U.vm ∧ U.heap = h0) (fun _ _ _ _ _ => True) (fun _ U o U' => ∃ v L, o = .returned v ∧ own_QI Z a1 h0 n0 v U'.heap L ∧ FrameEnd U o U' L ({ frames := 1, cells := 1, slots := 64, locals := 12 } : Room).cells ({ frames := 1, cells := 1, slots := 64, locals := 12 } : Room).slots) := by
  refine MetFree.of_bodySF (plainFor_of_name pn_com_example_chitragupta_chitragupta_ledger_KeyBuilder) hisR ?_
  intro p e s m args below meth c s₁ Bd hml0 hP hK
  obtain ⟨rfl, hZ, hh⟩ := hP
  have hx := Bd.exec
  have hby := Bd.bytes
  have hml : c.maxLocals = 1 := hml0
  have hown : s.vm.findClass "com/example/chitragupta/chitragupta/ledger/KeyBuilder" = some m.cls := findClass_of_methodNamed Bd.named
  have hnm := (name_of_methodNamed Bd.named Bd.method).1
  have X0 : Stand p l e ({ frames := 1, cells := 1, slots := 64, locals := 12 } : Room) s m #[(.ref a1)] below meth c s₁ [] 0 0 := Stand.of_body Bd
  have e0 : s₁.heap = h0 := by rw [← hh, Bd.state]; rfl
  have N0 := Fr.nil n0
  have pre0 : ∀ t, Steps p.tables e below (s₁.setTop (mkF m 0 #[.val (.ref a1)] [])) t → Steps p.tables e below (s₁.setTop (entryFrame m #[(.ref a1)] 1)) t := fun t k => castTop (ef_prog_10_method_1_code_A m a1) k
  obtain ⟨T1, X1, e1, st1⟩ := initO X0 hx hZ hown (hw _ (List.mem_of_getElem? (i := 6) rfl)) (hw _ (List.mem_of_getElem? (i := 7) rfl)) (hw _ (List.mem_of_getElem? (i := 8) rfl)) e0 (g := (mkF m 1 #[.val (.ref a1)] [(.ref a1)])) rfl (by rw [hml]; rfl) rfl (hb hby d_prog_10_method_1_code_1) (by decide) (W := 0) (by show 2 * 0 + _ ≤ _; exact Nat.le_of_eq rfl) (by decide)
  obtain ⟨T2, h2, k2, X2, e2, E2, A2, AE2, st2⟩ := newPE X1 hx hZ (hw _ (List.mem_of_getElem? (i := 9) rfl)) e1 (g := (mkF m 7 #[.val (.ref a1)] [(.int (64 : Int32)), (.ref a1)])) rfl (hb hby d_prog_10_method_1_code_7) rfl (by decide) (cap := 64) (by decide) (by decide) (by decide) (by decide) (ad := "[B") (by decide)
  obtain ⟨b2, g2⟩ : ∃ z, z = h0.size := ⟨_, rfl⟩
  rw [← g2] at A2 AE2 st2
  have V2 : Arv Z h2 b2 k2 .byte (64 : Int32) (([] : List Int32).map Value.int) (.int 0) := Arv.new A2 (by decide)
  have q2 : h0.size ≤ b2 := by rw [g2]; exact Nat.le_refl _
  have ne_a1_b2 : a1 ≠ b2 := by rw [g2]; exact Nat.ne_of_lt E1.lt
  have E1_3 := E1.ext E2
  have G1_4 := G1.ext E2
  have G2_5 := G2.ext E2
  have K2 : Keep h0 h2 [a1] := (Keep.refl _ _).ext E2
  have Z2 : n0 ≤ h2.size := Nat.le_trans Z0 K2.1
  obtain ⟨T6, h6, X6, e6, W6, st6⟩ := putF X2 hx hZ hown (host := "") (Or.inl (hw _ (List.mem_of_getElem? (i := 10) rfl))) Via.refl e2 G1_4 E1_3 (Or.inl (hw _ (List.mem_of_getElem? (i := 11) rfl))) (hw _ (List.mem_of_getElem? (i := 1) rfl)) (ty := (.array .byte)) (by decide) rfl rfl (g := (mkF m 9 #[.val (.ref a1)] [(.ref b2), (.ref a1)])) rfl rfl (hb hby d_prog_10_method_1_code_9)
  have E1_7 := E1_3.wr W6
  have G2_8 := G2_5.other W6 (Or.inr (slot_ne (Or.inl (hw _ (List.mem_of_getElem? (i := 18) rfl))) (Or.inl (hw _ (List.mem_of_getElem? (i := 11) rfl))) (by decide) (t := .int) (t' := (.array .byte)) (by decide) (by decide)))
  have V2_9 := V2.other W6 (Ne.symm ne_a1_b2)
  have K6 : Keep h0 h6 [a1] := K2.wr W6 (Or.inl (List.mem_of_getElem? (i := 0) rfl))
  have Z6 : n0 ≤ h6.size := Nat.le_trans Z0 K6.1
  have N6 := Fr.snoc X6 N0 g1
  have Fbytes_10 : Fld Z h6 a1 "com/example/chitragupta/chitragupta/ledger/KeyBuilder" "bytes" "[B" (.ref b2) := G1_4.same W6
  obtain ⟨fs, hr, hrun, hended, hW, hsame⟩ := X6.leave (v := none) (fun _ => rfl)
  refine ⟨_, _, pre0 _ ?_, hrun, hended, _, _, rfl, ?_, ⟨_, rfl⟩, hW, hsame.mono (by decide) (by decide)⟩
  · show Steps p.tables e below (s₁.setTop (mkF m 0 #[.val (.ref a1)] [])) _
    refine XS.aloadN X0.here hx rfl (hb hby d_prog_10_method_1_code_0) rfl rfl ?_
    show Steps p.tables e below (s₁.setTop (mkF m 1 #[.val (.ref a1)] [(.ref a1)])) _
    refine st1 _ ?_
    show Steps p.tables e below (T1.setTop (mkF m 4 #[.val (.ref a1)] [])) _
    refine XS.aloadN X1.here hx rfl (hb hby d_prog_10_method_1_code_4) rfl rfl ?_
    show Steps p.tables e below (T1.setTop (mkF m 5 #[.val (.ref a1)] [(.ref a1)])) _
    refine XT.bipushV X1.here hx rfl (64 : Int32) (hb hby d_prog_10_method_1_code_5) (by decide) ?_
    show Steps p.tables e below (T1.setTop (mkF m 7 #[.val (.ref a1)] [(.int (64 : Int32)), (.ref a1)])) _
    refine st2 _ ?_
    show Steps p.tables e below (T2.setTop (mkF m 9 #[.val (.ref a1)] [(.ref b2), (.ref a1)])) _
    refine st6 _ ?_
    show Steps p.tables e below (T6.setTop (mkF m 12 #[.val (.ref a1)] [])) _
    exact X6.returnOut hx Bd.returns (hb hby d_prog_10_method_1_code_12) hr
  · show own_QI Z a1 h0 n0 _ T6.heap _
    rw [e6]
    exact ⟨rfl, N6, K6, b2, k2, q2, ⟨E1_7, Fbytes_10, G2_8, V2_9⟩⟩
theorem d_jdk_29_method_69_code_0 : decode jdk_29_method_69_code 0 = .ok (.iload_n 0, 1) := by decide +kernel
theorem d_jdk_29_method_69_code_1 : decode jdk_29_method_69_code 1 = .ok (.iload_n 1, 1) := by decide +kernel
theorem d_jdk_29_method_69_code_2 : decode jdk_29_method_69_code 2 = .ok (.if_icmp .gt 7, 3) := by decide +kernel
theorem d_jdk_29_method_69_code_9 : decode jdk_29_method_69_code 9 = .ok (.iload_n 1, 1) := by decide +kernel
theorem d_jdk_29_method_69_code_10 : decode jdk_29_method_69_code 10 = .ok (.ireturn, 1) := by decide +kernel
theorem ef_jdk_29_method_69_code_II (m : MethodId) (x0 : Int32) (x1 : Int32) : entryFrame m #[(.int x0), (.int x1)] 2 = mkF m 0 #[.val (.int x0), .val (.int x1)] [] := by first | (simp [entryFrame, mkF, argsToLocals, Value.category]; done) | rfl
theorem pf_jdk_29_method_69_code : plainFor (⟨"java/lang/Math", "min", "(II)I"⟩ : MethodName) = true := by decide +kernel
set_option maxRecDepth 65536 in
set_option maxHeartbeats 40000000 in
theorem own_min (l : Launch) (Z : State) (a0 : Array Value) (hw : ∀ d ∈ tables_1, d.before a0 Z = true) (ws : List Jvm.Cond) (xx yy : Int32) (h0 : Heap) (n0 : Nat) (Z0 : n0 ≤ h0.size) (hyx : yy < xx) :
    MetFree l (⟨"java/lang/Math", "min", "(II)I"⟩ : MethodName) (head1 (Jvm.Cond.code (⟨"java/lang/Math", "min", "(II)I"⟩ : MethodName) jdk_29_method_69_code 2 (some .int) :: ws) ({ frames := 0, cells := 0, slots := 0, locals := 0 } : Room)) (fun a U => a = #[(.int xx), (.int yy)] ∧ Z.Warmed39 U.vm ∧ U.heap = h0) (fun _ _ _ _ _ => True) (fun _ U o U' => ∃ v L, o = .returned v ∧ own_Q (some (.int yy)) h0 n0 v U'.heap L ∧ FrameEnd U o U' L ({ frames := 0, cells := 0, slots := 0, locals := 0 } : Room).cells ({ frames := 0, cells := 0, slots := 0, locals := 0 } : Room).slots) := by
  refine MetFree.of_bodySF pf_jdk_29_method_69_code hisR ?_
  intro p e s m args below meth c s₁ Bd hml0 hP hK
  obtain ⟨rfl, hZ, hh⟩ := hP
  have hx := Bd.exec
  have hby := Bd.bytes
  have hml : c.maxLocals = 2 := hml0
  have hown : s.vm.findClass "java/lang/Math" = some m.cls := findClass_of_methodNamed Bd.named
  have hnm := (name_of_methodNamed Bd.named Bd.method).1
  have X0 : Stand p l e ({ frames := 0, cells := 0, slots := 0, locals := 0 } : Room) s m #[(.int xx), (.int yy)] below meth c s₁ [] 0 0 := Stand.of_body Bd
  have e0 : s₁.heap = h0 := by rw [← hh, Bd.state]; rfl
  have N0 := Fr.nil n0
  have pre0 : ∀ t, Steps p.tables e below (s₁.setTop (mkF m 0 #[.val (.int xx), .val (.int yy)] [])) t → Steps p.tables e below (s₁.setTop (entryFrame m #[(.int xx), (.int yy)] 2)) t := fun t k => castTop (ef_jdk_29_method_69_code_II m xx yy) k
  obtain ⟨fs, hr, hrun, hended, hW, hsame⟩ := X0.leave (v := some (.int yy)) (fun h => by rw [Bd.returns] at h; cases h)
  refine ⟨_, _, pre0 _ ?_, hrun, hended, _, _, rfl, ?_, ⟨_, rfl⟩, hW, hsame.mono (by decide) (by decide)⟩
  · show Steps p.tables e below (s₁.setTop (mkF m 0 #[.val (.int xx), .val (.int yy)] [])) _
    refine XS.iloadN X0.here hx rfl (hb hby d_jdk_29_method_69_code_0) rfl ?_
    show Steps p.tables e below (s₁.setTop (mkF m 1 #[.val (.int xx), .val (.int yy)] [(.int xx)])) _
    refine XS.iloadN X0.here hx rfl (hb hby d_jdk_29_method_69_code_1) rfl ?_
    show Steps p.tables e below (s₁.setTop (mkF m 2 #[.val (.int xx), .val (.int yy)] [(.int yy), (.int xx)])) _
    refine XS.icmpYes X0.here hx rfl (pc0 := 2) (pc' := 9) rfl (hb hby d_jdk_29_method_69_code_2) rfl (XT.ii_gt_t hyx) (by decide) (by decide) ?_
    show Steps p.tables e below (s₁.setTop (mkF m 9 #[.val (.int xx), .val (.int yy)] [])) _
    refine XS.iloadN X0.here hx rfl (hb hby d_jdk_29_method_69_code_9) rfl ?_
    show Steps p.tables e below (s₁.setTop (mkF m 10 #[.val (.int xx), .val (.int yy)] [(.int yy)])) _
    exact retI X0 hx Bd.returns (hb hby d_jdk_29_method_69_code_10) hr
  · show own_Q (some (.int yy)) h0 n0 _ s₁.heap _
    rw [e0]
    exact ⟨rfl, N0, rfl⟩
theorem own_lt64 {n : Nat} (h : n ≤ 10) : Int32.ofNat n < (64 : Int32) ∧ ¬ Int32.ofNat n = (64 : Int32) := by
  have hn := own_of32 (n := n) (by omega)
  have e : (64 : Int32).toInt = 64 := by decide
  refine ⟨by rw [Int32.lt_iff_toInt_lt, hn.2.2, e]; omega, fun q => ?_⟩
  have := congrArg Int32.toInt q
  rw [hn.2.2, e] at this
  omega
theorem d_jdk_65_method_121_code_0 : decode jdk_65_method_121_code 0 = .ok (.iload_n 1, 1) := by decide +kernel
theorem d_jdk_65_method_121_code_1 : decode jdk_65_method_121_code 1 = .ok (.aload_n 0, 1) := by decide +kernel
theorem d_jdk_65_method_121_code_2 : decode jdk_65_method_121_code 2 = .ok (.arraylength, 1) := by decide +kernel
theorem d_jdk_65_method_121_code_3 : decode jdk_65_method_121_code 3 = .ok (.if_icmp .ne 11, 3) := by decide +kernel
theorem d_jdk_65_method_121_code_14 : decode jdk_65_method_121_code 14 = .ok (.iload_n 1, 1) := by decide +kernel
theorem d_jdk_65_method_121_code_15 : decode jdk_65_method_121_code 15 = .ok (.newarray .byte, 2) := by decide +kernel
theorem d_jdk_65_method_121_code_17 : decode jdk_65_method_121_code 17 = .ok (.astore_n 2, 1) := by decide +kernel
theorem d_jdk_65_method_121_code_18 : decode jdk_65_method_121_code 18 = .ok (.aload_n 0, 1) := by decide +kernel
theorem d_jdk_65_method_121_code_19 : decode jdk_65_method_121_code 19 = .ok (.iconst 0, 1) := by decide +kernel
theorem d_jdk_65_method_121_code_20 : decode jdk_65_method_121_code 20 = .ok (.aload_n 2, 1) := by decide +kernel
theorem d_jdk_65_method_121_code_21 : decode jdk_65_method_121_code 21 = .ok (.iconst 0, 1) := by decide +kernel
theorem d_jdk_65_method_121_code_22 : decode jdk_65_method_121_code 22 = .ok (.aload_n 0, 1) := by decide +kernel
theorem d_jdk_65_method_121_code_23 : decode jdk_65_method_121_code 23 = .ok (.arraylength, 1) := by decide +kernel
theorem d_jdk_65_method_121_code_24 : decode jdk_65_method_121_code 24 = .ok (.iload_n 1, 1) := by decide +kernel
theorem pd__II_I : parseMethodDescriptor "(II)I" = some ⟨[.int, .int], (some .int)⟩ := by decide +kernel
theorem d_jdk_65_method_121_code_25 : decode jdk_65_method_121_code 25 = .ok (.invokestatic 304, 3) := by decide +kernel
theorem d_jdk_65_method_121_code_28 : decode jdk_65_method_121_code 28 = .ok (.invokestatic 150, 3) := by decide +kernel
theorem d_jdk_65_method_121_code_31 : decode jdk_65_method_121_code 31 = .ok (.aload_n 2, 1) := by decide +kernel
theorem d_jdk_65_method_121_code_32 : decode jdk_65_method_121_code 32 = .ok (.areturn, 1) := by decide +kernel
theorem ef_jdk_65_method_121_code_AI (m : MethodId) (x0 : Addr) (x1 : Int32) : entryFrame m #[(.ref x0), (.int x1)] 3 = mkF m 0 #[.val (.ref x0), .val (.int x1), .unset] [] := by first | (simp [entryFrame, mkF, argsToLocals, Value.category]; done) | rfl
theorem pf_jdk_65_method_121_code : plainFor (⟨"java/util/Arrays", "copyOf", "([BI)[B"⟩ : MethodName) = true := by decide +kernel
set_option maxRecDepth 65536 in
set_option maxHeartbeats 40000000 in
theorem own_copyOf (l : Launch) (Z : State) (a0 : Array Value) (hw : ∀ d ∈ tables_1, d.before a0 Z = true) (ws : List Jvm.Cond) (r1 : Addr) (k1 : ClassId) (xs : List Int32) (h0 : Heap) (n0 : Nat) (Z0 : n0 ≤ h0.size) (V1 : Arv Z h0 r1 k1 .byte (64 : Int32) (xs.map Value.int) (.int 0)) (hl : xs.length ≤ 10) :
    MetFree l (⟨"java/util/Arrays", "copyOf", "([BI)[B"⟩ : MethodName) (head1 (Jvm.Cond.code (⟨"java/util/Arrays", "copyOf", "([BI)[B"⟩ : MethodName) jdk_65_method_121_code 3 (some (.array .byte)) :: ws) ({ frames := 1, cells := 1, slots := 10, locals := 18 } : Room)) (fun a U => a = #[(.ref r1), (.int (Int32.ofNat xs.length))] ∧ Z.Warmed39 U.vm ∧ U.heap = h0) (fun _ _ _ _ _ => True) (fun _ U o U' => ∃ v L, o = .returned v ∧ own_QA Z xs h0 n0 v U'.heap L ∧ FrameEnd U o U' L ({ frames := 1, cells := 1, slots := 10, locals := 18 } : Room).cells ({ frames := 1, cells := 1, slots := 10, locals := 18 } : Room).slots) := by
  refine MetFree.of_bodySF pf_jdk_65_method_121_code hisR ?_
  intro p e s m args below meth c s₁ Bd hml0 hP hK
  obtain ⟨rfl, hZ, hh⟩ := hP
  have hx := Bd.exec
  have hby := Bd.bytes
  have hml : c.maxLocals = 3 := hml0
  have hown : s.vm.findClass "java/util/Arrays" = some m.cls := findClass_of_methodNamed Bd.named
  have hnm := (name_of_methodNamed Bd.named Bd.method).1
  have X0 : Stand p l e ({ frames := 1, cells := 1, slots := 10, locals := 18 } : Room) s m #[(.ref r1), (.int (Int32.ofNat xs.length))] below meth c s₁ [] 0 0 := Stand.of_body Bd
  have e0 : s₁.heap = h0 := by rw [← hh, Bd.state]; rfl
  have N0 := Fr.nil n0
  have pre0 : ∀ t, Steps p.tables e below (s₁.setTop (mkF m 0 #[.val (.ref r1), .val (.int (Int32.ofNat xs.length)), .unset] [])) t → Steps p.tables e below (s₁.setTop (entryFrame m #[(.ref r1), (.int (Int32.ofNat xs.length))] 3)) t := fun t k => castTop (ef_jdk_65_method_121_code_AI m r1 (Int32.ofNat xs.length)) k
  have hn := own_of32 (n := xs.length) (by omega)
  have hlt := (own_lt64 hl).1
  have hne := (own_lt64 hl).2
  obtain ⟨cl11, Ar11, -, Sz11, Nz11, -⟩ := id V1
  obtain ⟨T12, h12, k12, X12, e12, E12, A12, AE12, st12⟩ := newPE X0 hx hZ (hw _ (List.mem_of_getElem? (i := 9) rfl)) e0 (g := (mkF m 15 #[.val (.ref r1), .val (.int (Int32.ofNat xs.length)), .unset] [(.int (Int32.ofNat xs.length))])) rfl (hb hby d_jdk_65_method_121_code_15) rfl hn.1 (cap := 10) (by rw [hn.2.1]; exact hl) (by decide) (by decide) (by decide) (ad := "[B") (by decide)
  obtain ⟨b12, g12⟩ : ∃ z, z = h0.size := ⟨_, rfl⟩
  rw [← g12] at A12 AE12 st12
  have V12 : Arv Z h12 b12 k12 .byte (Int32.ofNat xs.length) (([] : List Int32).map Value.int) (.int 0) := Arv.new A12 hn.1
  have q12 : h0.size ≤ b12 := by rw [g12]; exact Nat.le_refl _
  have ne_r1_b12 : r1 ≠ b12 := by rw [g12]; exact Nat.ne_of_lt V1.lt
  have V1_13 := V1.ext E12
  have EX12 : Ext h0 h12 := E12
  have Z12 : n0 ≤ h12.size := Nat.le_trans Z0 EX12.1
  obtain ⟨cl14, Ar14, -, Sz14, Nz14, -⟩ := id V1_13
  obtain ⟨_, _, ⟨T15, L15, k15, n15⟩, -, X15, ⟨Lc15, hQ15, l15, y15, z15⟩, st15⟩ := Jvm.LawKit.callS X12 hx (y := (⟨"java/lang/Math", "min", "(II)I"⟩ : MethodName)) hown (mvT hZ (hw _ (List.mem_of_getElem? (i := 23) rfl))) (mvT hZ (hw _ (List.mem_of_getElem? (i := 24) rfl))) (mvT hZ (hw _ (List.mem_of_getElem? (i := 25) rfl))) (mvT hZ (hw _ (List.mem_of_getElem? (i := 26) rfl))) (by decide) (backOf (W := 4) (own_min l Z a0 hw [] (64 : Int32) (Int32.ofNat xs.length) h12 n0 Z12 hlt) hZ (hw _ (List.mem_of_getElem? (i := 26) rfl)) (hw _ (List.mem_of_getElem? (i := 25) rfl)) (by decide) (by decide)) (g := (mkF m 25 #[.val (.ref r1), .val (.int (Int32.ofNat xs.length)), .val (.ref b12)] [(.int (Int32.ofNat xs.length)), (.int (64 : Int32)), (.int (0 : Int32)), (.ref b12), (.int (0 : Int32)), (.ref r1)])) rfl (by rw [hml]; rfl) (argsL := [(.int (64 : Int32)), (.int (Int32.ofNat xs.length))]) (rest := [(.int (0 : Int32)), (.ref b12), (.int (0 : Int32)), (.ref r1)]) (lenOf pd__II_I rfl) rfl (by show 2 * 0 + _ ≤ _; exact Nat.le_of_eq rfl) (hb hby d_jdk_65_method_121_code_25) (fun _ _ => ⟨rfl, e12, (by decide : 1 + 0 ≤ _), (by decide : 10 + 0 ≤ _)⟩)
  dsimp only [Pt.U, Pt.locs, Pt.cells, Pt.slots] at X15 l15 y15 z15 st15 hQ15
  subst l15 y15 z15
  obtain ⟨rfl, N15q, e15⟩ := hQ15
  have N15 := Fr.app N0 N15q
  obtain ⟨T16, h16, L16, X16, e16, N16, K16q, V16, st16⟩ := own_cpNew (a0 := a0) X15 hx hZ hown (hw _ (List.mem_of_getElem? (i := 27) rfl)) (hw _ (List.mem_of_getElem? (i := 30) rfl)) (hw _ (List.mem_of_getElem? (i := 28) rfl)) (hw _ (List.mem_of_getElem? (i := 29) rfl)) e15 V1_13 V12 ⟨by omega, by rw [show (64 : Int32).toNatClampNeg = 64 from by decide]; omega⟩ N15 (Nat.le_trans Z0 q12) (g := (mkF m 28 #[.val (.ref r1), .val (.int (Int32.ofNat xs.length)), .val (.ref b12)] [(.int (Int32.ofNat xs.length)), (.int (0 : Int32)), (.ref b12), (.int (0 : Int32)), (.ref r1)])) rfl (by rw [hml]; rfl) rfl (hb hby d_jdk_65_method_121_code_28) (by decide) (W := 0) (by show 2 * 0 + _ ≤ _; exact Nat.le_of_eq rfl) (by decide)
  have V1_17 := V1_13.keep K16q (ninS ne_r1_b12 nin0)
  have EX16 : Ext h0 h16 := own_ext_keep EX12 K16q (allS q12 all0)
  have Z16 : n0 ≤ h16.size := Nat.le_trans Z0 EX16.1
  obtain ⟨fs, hr, hrun, hended, hW, hsame⟩ := X16.leave (v := some (.ref b12)) (fun h => by rw [Bd.returns] at h; cases h)
  refine ⟨_, _, pre0 _ ?_, hrun, hended, _, _, rfl, ?_, ⟨_, rfl⟩, hW, hsame.mono (by decide) (by decide)⟩
  · show Steps p.tables e below (s₁.setTop (mkF m 0 #[.val (.ref r1), .val (.int (Int32.ofNat xs.length)), .unset] [])) _
    refine XS.iloadN X0.here hx rfl (hb hby d_jdk_65_method_121_code_0) rfl ?_
    show Steps p.tables e below (s₁.setTop (mkF m 1 #[.val (.ref r1), .val (.int (Int32.ofNat xs.length)), .unset] [(.int (Int32.ofNat xs.length))])) _
    refine XS.aloadN X0.here hx rfl (hb hby d_jdk_65_method_121_code_1) rfl rfl ?_
    show Steps p.tables e below (s₁.setTop (mkF m 2 #[.val (.ref r1), .val (.int (Int32.ofNat xs.length)), .unset] [(.ref r1), (.int (Int32.ofNat xs.length))])) _
    refine X0.arraylength hx (by rw [e0]; exact Ar11.1) (State.isArrayOf_alike hZ.alike Ar11.2.1) (g := (mkF m 2 #[.val (.ref r1), .val (.int (Int32.ofNat xs.length)), .unset] [(.ref r1), (.int (Int32.ofNat xs.length))])) rfl rfl (hb hby d_jdk_65_method_121_code_2) _ ?_
    rw [len_of Sz11 Nz11]
    show Steps p.tables e below (s₁.setTop (mkF m 3 #[.val (.ref r1), .val (.int (Int32.ofNat xs.length)), .unset] [(.int (64 : Int32)), (.int (Int32.ofNat xs.length))])) _
    refine XS.icmpYes X0.here hx rfl (pc0 := 3) (pc' := 14) rfl (hb hby d_jdk_65_method_121_code_3) rfl (XT.ii_ne_t hne) (by decide) (by decide) ?_
    show Steps p.tables e below (s₁.setTop (mkF m 14 #[.val (.ref r1), .val (.int (Int32.ofNat xs.length)), .unset] [])) _
    refine XS.iloadN X0.here hx rfl (hb hby d_jdk_65_method_121_code_14) rfl ?_
    show Steps p.tables e below (s₁.setTop (mkF m 15 #[.val (.ref r1), .val (.int (Int32.ofNat xs.length)), .unset] [(.int (Int32.ofNat xs.length))])) _
    refine st12 _ ?_
    show Steps p.tables e below (T12.setTop (mkF m 17 #[.val (.ref r1), .val (.int (Int32.ofNat xs.length)), .unset] [(.ref b12)])) _
    refine XS.astoreN X12.here hx rfl (hb hby d_jdk_65_method_121_code_17) rfl rfl (l' := #[.val (.ref r1), .val (.int (Int32.ofNat xs.length)), .val (.ref b12)]) rfl ?_
    show Steps p.tables e below (T12.setTop (mkF m 18 #[.val (.ref r1), .val (.int (Int32.ofNat xs.length)), .val (.ref b12)] [])) _
    refine XS.aloadN X12.here hx rfl (hb hby d_jdk_65_method_121_code_18) rfl rfl ?_
    show Steps p.tables e below (T12.setTop (mkF m 19 #[.val (.ref r1), .val (.int (Int32.ofNat xs.length)), .val (.ref b12)] [(.ref r1)])) _
    refine XT.iconstV X12.here hx rfl (0 : Int32) (hb hby d_jdk_65_method_121_code_19) rfl ?_
    show Steps p.tables e below (T12.setTop (mkF m 20 #[.val (.ref r1), .val (.int (Int32.ofNat xs.length)), .val (.ref b12)] [(.int (0 : Int32)), (.ref r1)])) _
    refine XS.aloadN X12.here hx rfl (hb hby d_jdk_65_method_121_code_20) rfl rfl ?_
    show Steps p.tables e below (T12.setTop (mkF m 21 #[.val (.ref r1), .val (.int (Int32.ofNat xs.length)), .val (.ref b12)] [(.ref b12), (.int (0 : Int32)), (.ref r1)])) _
    refine XT.iconstV X12.here hx rfl (0 : Int32) (hb hby d_jdk_65_method_121_code_21) rfl ?_
    show Steps p.tables e below (T12.setTop (mkF m 22 #[.val (.ref r1), .val (.int (Int32.ofNat xs.length)), .val (.ref b12)] [(.int (0 : Int32)), (.ref b12), (.int (0 : Int32)), (.ref r1)])) _
    refine XS.aloadN X12.here hx rfl (hb hby d_jdk_65_method_121_code_22) rfl rfl ?_
    show Steps p.tables e below (T12.setTop (mkF m 23 #[.val (.ref r1), .val (.int (Int32.ofNat xs.length)), .val (.ref b12)] [(.ref r1), (.int (0 : Int32)), (.ref b12), (.int (0 : Int32)), (.ref r1)])) _
    refine X12.arraylength hx (by rw [e12]; exact Ar14.1) (State.isArrayOf_alike hZ.alike Ar14.2.1) (g := (mkF m 23 #[.val (.ref r1), .val (.int (Int32.ofNat xs.length)), .val (.ref b12)] [(.ref r1), (.int (0 : Int32)), (.ref b12), (.int (0 : Int32)), (.ref r1)])) rfl rfl (hb hby d_jdk_65_method_121_code_23) _ ?_
    rw [len_of Sz14 Nz14]
    show Steps p.tables e below (T12.setTop (mkF m 24 #[.val (.ref r1), .val (.int (Int32.ofNat xs.length)), .val (.ref b12)] [(.int (64 : Int32)), (.int (0 : Int32)), (.ref b12), (.int (0 : Int32)), (.ref r1)])) _
    refine XS.iloadN X12.here hx rfl (hb hby d_jdk_65_method_121_code_24) rfl ?_
    show Steps p.tables e below (T12.setTop (mkF m 25 #[.val (.ref r1), .val (.int (Int32.ofNat xs.length)), .val (.ref b12)] [(.int (Int32.ofNat xs.length)), (.int (64 : Int32)), (.int (0 : Int32)), (.ref b12), (.int (0 : Int32)), (.ref r1)])) _
    refine st15 _ ?_
    show Steps p.tables e below (T15.setTop (mkF m 28 #[.val (.ref r1), .val (.int (Int32.ofNat xs.length)), .val (.ref b12)] [(.int (Int32.ofNat xs.length)), (.int (0 : Int32)), (.ref b12), (.int (0 : Int32)), (.ref r1)])) _
    refine st16 _ ?_
    show Steps p.tables e below (T16.setTop (mkF m 31 #[.val (.ref r1), .val (.int (Int32.ofNat xs.length)), .val (.ref b12)] [])) _
    refine XS.aloadN X16.here hx rfl (hb hby d_jdk_65_method_121_code_31) rfl rfl ?_
    show Steps p.tables e below (T16.setTop (mkF m 32 #[.val (.ref r1), .val (.int (Int32.ofNat xs.length)), .val (.ref b12)] [(.ref b12)])) _
    jvm_step X16.here [X16.here.top, hx, (hb hby d_jdk_65_method_121_code_32), X16.method', Bd.returns, Value.isRef, FieldType.isReference]
    first | (intro acts; rw [hr _ acts rfl rfl rfl]) | rw [hr _ _ rfl rfl rfl]
    exact Steps.refl _
  · show own_QA Z xs h0 n0 _ T16.heap _
    rw [e16]
    exact ⟨b12, k12, rfl, N16, EX16, q12, V16⟩
theorem d_prog_10_method_6_code_0 : decode prog_10_method_6_code 0 = .ok (.aload_n 0, 1) := by decide +kernel
theorem d_prog_10_method_6_code_1 : decode prog_10_method_6_code 1 = .ok (.getfield 7, 3) := by decide +kernel
theorem d_prog_10_method_6_code_4 : decode prog_10_method_6_code 4 = .ok (.aload_n 0, 1) := by decide +kernel
theorem d_prog_10_method_6_code_5 : decode prog_10_method_6_code 5 = .ok (.getfield 52, 3) := by decide +kernel
theorem pd__ArBI_ArB : parseMethodDescriptor "([BI)[B" = some ⟨[(.array .byte), .int], (some (.array .byte))⟩ := by decide +kernel
theorem d_prog_10_method_6_code_8 : decode prog_10_method_6_code 8 = .ok (.invokestatic 56, 3) := by decide +kernel
theorem d_prog_10_method_6_code_11 : decode prog_10_method_6_code 11 = .ok (.areturn, 1) := by decide +kernel
theorem ef_prog_10_method_6_code_A (m : MethodId) (x0 : Addr) : entryFrame m #[(.ref x0)] 1 = mkF m 0 #[.val (.ref x0)] [] := by first | (simp [entryFrame, mkF, argsToLocals, Value.category]; done) | rfl
set_option maxRecDepth 65536 in
set_option maxHeartbeats 40000000 in
theorem own_build (l : Launch) (Z : State) (a0 : Array Value) (hw : ∀ d ∈ tables_1, d.before a0 Z = true) (ws : List Jvm.Cond) (b1 r1 : Addr) (k1 : ClassId) (xs : List Int32) (h0 : Heap) (n0 : Nat) (Z0 : n0 ≤ h0.size) (P : own_KB Z h0 b1 r1 k1 xs) (hl : xs.length ≤ 10) :
    MetFree l (⟨"com/example/chitragupta/chitragupta/ledger/KeyBuilder", "build", "()[B"⟩ : MethodName) (head1 (Jvm.Cond.code (⟨"com/example/chitragupta/chitragupta/ledger/KeyBuilder", "build", "()[B"⟩ : MethodName) prog_10_method_6_code 1 (some (.array .byte)) :: ws) ({ frames := 2, cells := 1, slots := 10, locals := 32 } : Room)) (fun a U => a = #[(.ref b1)] ∧ Z.Warmed39 U.vm ∧ U.heap = h0) (fun _ _ _ _ _ => True) (fun _ U o U' => ∃ v L, o = .returned v ∧ own_QA Z xs h0 n0 v U'.heap L ∧ FrameEnd U o U' L ({ frames := 2, cells := 1, slots := 10, locals := 32 } : Room).cells ({ frames := 2, cells := 1, slots := 10, locals := 32 } : Room).slots) := by
  refine MetFree.of_bodySF (plainFor_of_name pn_com_example_chitragupta_chitragupta_ledger_KeyBuilder) hisR ?_
  intro p e s m args below meth c s₁ Bd hml0 hP hK
  obtain ⟨rfl, hZ, hh⟩ := hP
  have hx := Bd.exec
  have hby := Bd.bytes
  have hml : c.maxLocals = 1 := hml0
  have hown : s.vm.findClass "com/example/chitragupta/chitragupta/ledger/KeyBuilder" = some m.cls := findClass_of_methodNamed Bd.named
  have hnm := (name_of_methodNamed Bd.named Bd.method).1
  have X0 : Stand p l e ({ frames := 2, cells := 1, slots := 10, locals := 32 } : Room) s m #[(.ref b1)] below meth c s₁ [] 0 0 := Stand.of_body Bd
  have e0 : s₁.heap = h0 := by rw [← hh, Bd.state]; rfl
  have N0 := Fr.nil n0
  have pre0 : ∀ t, Steps p.tables e below (s₁.setTop (mkF m 0 #[.val (.ref b1)] [])) t → Steps p.tables e below (s₁.setTop (entryFrame m #[(.ref b1)] 1)) t := fun t k => castTop (ef_prog_10_method_6_code_A m b1) k
  obtain ⟨E_18, Fbytes_19, Flength_20, V_21⟩ := id P
  have ne_b1_r1 : b1 ≠ r1 := E_18.neArv V_21 (hw _ (List.mem_of_getElem? (i := 1) rfl))
  obtain ⟨T22, X22, e22, st22⟩ := getF X0 hx hZ hown (host := "") (Or.inl (hw _ (List.mem_of_getElem? (i := 10) rfl))) Via.refl e0 Fbytes_19 (g := (mkF m 1 #[.val (.ref b1)] [(.ref b1)])) rfl rfl (hb hby d_prog_10_method_6_code_1)
  obtain ⟨T23, X23, e23, st23⟩ := getF X22 hx hZ hown (host := "") (Or.inl (hw _ (List.mem_of_getElem? (i := 17) rfl))) Via.refl e22 Flength_20 (g := (mkF m 5 #[.val (.ref b1)] [(.ref b1), (.ref r1)])) rfl rfl (hb hby d_prog_10_method_6_code_5)
  obtain ⟨_, _, ⟨T24, L24, k24, n24⟩, -, X24, ⟨Lc24, hQ24, l24, y24, z24⟩, st24⟩ := Jvm.LawKit.callS X23 hx (y := (⟨"java/util/Arrays", "copyOf", "([BI)[B"⟩ : MethodName)) hown (mvT hZ (hw _ (List.mem_of_getElem? (i := 19) rfl))) (mvT hZ (hw _ (List.mem_of_getElem? (i := 20) rfl))) (mvT hZ (hw _ (List.mem_of_getElem? (i := 21) rfl))) (mvT hZ (hw _ (List.mem_of_getElem? (i := 22) rfl))) (by decide) (backOf (W := 0) (own_copyOf l Z a0 hw [] r1 k1 xs h0 n0 Z0 V_21 hl) hZ (hw _ (List.mem_of_getElem? (i := 22) rfl)) (hw _ (List.mem_of_getElem? (i := 21) rfl)) (by decide) (by decide)) (g := (mkF m 8 #[.val (.ref b1)] [(.int (Int32.ofNat xs.length)), (.ref r1)])) rfl (by rw [hml]; rfl) (argsL := [(.ref r1), (.int (Int32.ofNat xs.length))]) (rest := []) (lenOf pd__ArBI_ArB rfl) rfl (by show 2 * 0 + _ ≤ _; exact Nat.le_of_eq rfl) (hb hby d_prog_10_method_6_code_8) (fun _ _ => ⟨rfl, e23, (by decide : 0 + 1 ≤ _), (by decide : 0 + 10 ≤ _)⟩)
  dsimp only [Pt.U, Pt.locs, Pt.cells, Pt.slots] at X24 l24 y24 z24 st24 hQ24
  subst l24 y24 z24
  obtain ⟨t24, kt24, rfl, N24q, EE24, qq24, V24t⟩ := hQ24
  have N24 := Fr.app N0 N24q
  have q_t24 : h0.size ≤ t24 := qq24
  have ne_b1_t24 : b1 ≠ t24 := Nat.ne_of_lt (Nat.lt_of_lt_of_le E_18.lt qq24)
  have ne_r1_t24 : r1 ≠ t24 := Nat.ne_of_lt (Nat.lt_of_lt_of_le V_21.lt qq24)
  have E_25 := E_18.ext EE24
  have Fbytes_26 := Fbytes_19.ext EE24
  have Flength_27 := Flength_20.ext EE24
  have V_28 := V_21.ext EE24
  have EX24 : Ext h0 T24.heap := EE24
  have Z24 : n0 ≤ T24.heap.size := Nat.le_trans Z0 EX24.1
  obtain ⟨fs, hr, hrun, hended, hW, hsame⟩ := X24.leave (v := some (.ref t24)) (fun h => by rw [Bd.returns] at h; cases h)
  refine ⟨_, _, pre0 _ ?_, hrun, hended, _, _, rfl, ?_, ⟨_, rfl⟩, hW, hsame.mono (by decide) (by decide)⟩
  · show Steps p.tables e below (s₁.setTop (mkF m 0 #[.val (.ref b1)] [])) _
    refine XS.aloadN X0.here hx rfl (hb hby d_prog_10_method_6_code_0) rfl rfl ?_
    show Steps p.tables e below (s₁.setTop (mkF m 1 #[.val (.ref b1)] [(.ref b1)])) _
    refine st22 _ ?_
    show Steps p.tables e below (T22.setTop (mkF m 4 #[.val (.ref b1)] [(.ref r1)])) _
    refine XS.aloadN X22.here hx rfl (hb hby d_prog_10_method_6_code_4) rfl rfl ?_
    show Steps p.tables e below (T22.setTop (mkF m 5 #[.val (.ref b1)] [(.ref b1), (.ref r1)])) _
    refine st23 _ ?_
    show Steps p.tables e below (T23.setTop (mkF m 8 #[.val (.ref b1)] [(.int (Int32.ofNat xs.length)), (.ref r1)])) _
    refine st24 _ ?_
    show Steps p.tables e below (T24.setTop (mkF m 11 #[.val (.ref b1)] [(.ref t24)])) _
    jvm_step X24.here [X24.here.top, hx, (hb hby d_prog_10_method_6_code_11), X24.method', Bd.returns, Value.isRef, FieldType.isReference]
    first | (intro acts; rw [hr _ acts rfl rfl rfl]) | rw [hr _ _ rfl rfl rfl]
    exact Steps.refl _
  · show own_QA Z xs h0 n0 _ T24.heap _
    exact ⟨t24, kt24, rfl, N24, EX24, q_t24, V24t⟩
theorem d_prog_10_method_12_code_0 : decode prog_10_method_12_code 0 = .ok (.aload_n 0, 1) := by decide +kernel
theorem d_prog_10_method_12_code_1 : decode prog_10_method_12_code 1 = .ok (.getfield 52, 3) := by decide +kernel
theorem d_prog_10_method_12_code_4 : decode prog_10_method_12_code 4 = .ok (.iload_n 1, 1) := by decide +kernel
theorem d_prog_10_method_12_code_5 : decode prog_10_method_12_code 5 = .ok (.iadd, 1) := by decide +kernel
theorem d_prog_10_method_12_code_6 : decode prog_10_method_12_code 6 = .ok (.aload_n 0, 1) := by decide +kernel
theorem d_prog_10_method_12_code_7 : decode prog_10_method_12_code 7 = .ok (.getfield 7, 3) := by decide +kernel
theorem d_prog_10_method_12_code_10 : decode prog_10_method_12_code 10 = .ok (.arraylength, 1) := by decide +kernel
theorem d_prog_10_method_12_code_11 : decode prog_10_method_12_code 11 = .ok (.if_icmp .le 30, 3) := by decide +kernel
theorem d_prog_10_method_12_code_41 : decode prog_10_method_12_code 41 = .ok (.return_, 1) := by decide +kernel
theorem ef_prog_10_method_12_code_AI (m : MethodId) (x0 : Addr) (x1 : Int32) : entryFrame m #[(.ref x0), (.int x1)] 2 = mkF m 0 #[.val (.ref x0), .val (.int x1)] [] := by first | (simp [entryFrame, mkF, argsToLocals, Value.category]; done) | rfl
set_option maxRecDepth 65536 in
set_option maxHeartbeats 40000000 in
theorem own_room (l : Launch) (Z : State) (a0 : Array Value) (hw : ∀ d ∈ tables_1, d.before a0 Z = true) (ws : List Jvm.Cond) (b1 r1 : Addr) (k1 : ClassId) (xs : List Int32) (mm : Int32) (h0 : Heap) (n0 : Nat) (Z0 : n0 ≤ h0.size) (P : own_KB Z h0 b1 r1 k1 xs) (hm : ¬ (64 : Int32) < (Int32.ofNat xs.length + mm)) :
    MetFree l (⟨"com/example/chitragupta/chitragupta/ledger/KeyBuilder", "room", "(I)V"⟩ : MethodName) (head1 (Jvm.Cond.code (⟨"com/example/chitragupta/chitragupta/ledger/KeyBuilder", "room", "(I)V"⟩ : MethodName) prog_10_method_12_code 2 none :: ws) ({ frames := 0, cells := 0, slots := 0, locals := 0 } : Room)) (fun a U => a = #[(.ref b1), (.int mm)] ∧ Z.Warmed39 U.vm ∧ U.heap = h0) (fun _ _ _ _ _ => True) (fun _ U o U' => ∃ v L, o = .returned v ∧ own_Q (none) h0 n0 v U'.heap L ∧ FrameEnd U o U' L ({ frames := 0, cells := 0, slots := 0, locals := 0 } : Room).cells ({ frames := 0, cells := 0, slots := 0, locals := 0 } : Room).slots) := by
  refine MetFree.of_bodySF (plainFor_of_name pn_com_example_chitragupta_chitragupta_ledger_KeyBuilder) hisR ?_
  intro p e s m args below meth c s₁ Bd hml0 hP hK
  obtain ⟨rfl, hZ, hh⟩ := hP
  have hx := Bd.exec
  have hby := Bd.bytes
  have hml : c.maxLocals = 2 := hml0
  have hown : s.vm.findClass "com/example/chitragupta/chitragupta/ledger/KeyBuilder" = some m.cls := findClass_of_methodNamed Bd.named
  have hnm := (name_of_methodNamed Bd.named Bd.method).1
  have X0 : Stand p l e ({ frames := 0, cells := 0, slots := 0, locals := 0 } : Room) s m #[(.ref b1), (.int mm)] below meth c s₁ [] 0 0 := Stand.of_body Bd
  have e0 : s₁.heap = h0 := by rw [← hh, Bd.state]; rfl
  have N0 := Fr.nil n0
  have pre0 : ∀ t, Steps p.tables e below (s₁.setTop (mkF m 0 #[.val (.ref b1), .val (.int mm)] [])) t → Steps p.tables e below (s₁.setTop (entryFrame m #[(.ref b1), (.int mm)] 2)) t := fun t k => castTop (ef_prog_10_method_12_code_AI m b1 mm) k
  obtain ⟨E_29, Fbytes_30, Flength_31, V_32⟩ := id P
  have ne_b1_r1 : b1 ≠ r1 := E_29.neArv V_32 (hw _ (List.mem_of_getElem? (i := 1) rfl))
  obtain ⟨T33, X33, e33, st33⟩ := getF X0 hx hZ hown (host := "") (Or.inl (hw _ (List.mem_of_getElem? (i := 17) rfl))) Via.refl e0 Flength_31 (g := (mkF m 1 #[.val (.ref b1), .val (.int mm)] [(.ref b1)])) rfl rfl (hb hby d_prog_10_method_12_code_1)
  obtain ⟨T34, X34, e34, st34⟩ := getF X33 hx hZ hown (host := "") (Or.inl (hw _ (List.mem_of_getElem? (i := 10) rfl))) Via.refl e33 Fbytes_30 (g := (mkF m 7 #[.val (.ref b1), .val (.int mm)] [(.ref b1), (.int ((Int32.ofNat xs.length) + mm))])) rfl rfl (hb hby d_prog_10_method_12_code_7)
  obtain ⟨cl35, Ar35, -, Sz35, Nz35, -⟩ := id V_32
  obtain ⟨fs, hr, hrun, hended, hW, hsame⟩ := X34.leave (v := none) (fun _ => rfl)
  refine ⟨_, _, pre0 _ ?_, hrun, hended, _, _, rfl, ?_, ⟨_, rfl⟩, hW, hsame.mono (by decide) (by decide)⟩
  · show Steps p.tables e below (s₁.setTop (mkF m 0 #[.val (.ref b1), .val (.int mm)] [])) _
    refine XS.aloadN X0.here hx rfl (hb hby d_prog_10_method_12_code_0) rfl rfl ?_
    show Steps p.tables e below (s₁.setTop (mkF m 1 #[.val (.ref b1), .val (.int mm)] [(.ref b1)])) _
    refine st33 _ ?_
    show Steps p.tables e below (T33.setTop (mkF m 4 #[.val (.ref b1), .val (.int mm)] [(.int (Int32.ofNat xs.length))])) _
    refine XS.iloadN X33.here hx rfl (hb hby d_prog_10_method_12_code_4) rfl ?_
    show Steps p.tables e below (T33.setTop (mkF m 5 #[.val (.ref b1), .val (.int mm)] [(.int mm), (.int (Int32.ofNat xs.length))])) _
    refine XS.iadd X33.here hx rfl (hb hby d_prog_10_method_12_code_5) rfl ?_
    show Steps p.tables e below (T33.setTop (mkF m 6 #[.val (.ref b1), .val (.int mm)] [(.int ((Int32.ofNat xs.length) + mm))])) _
    refine XS.aloadN X33.here hx rfl (hb hby d_prog_10_method_12_code_6) rfl rfl ?_
    show Steps p.tables e below (T33.setTop (mkF m 7 #[.val (.ref b1), .val (.int mm)] [(.ref b1), (.int ((Int32.ofNat xs.length) + mm))])) _
    refine st34 _ ?_
    show Steps p.tables e below (T34.setTop (mkF m 10 #[.val (.ref b1), .val (.int mm)] [(.ref r1), (.int ((Int32.ofNat xs.length) + mm))])) _
    refine X34.arraylength hx (by rw [e34]; exact Ar35.1) (State.isArrayOf_alike hZ.alike Ar35.2.1) (g := (mkF m 10 #[.val (.ref b1), .val (.int mm)] [(.ref r1), (.int ((Int32.ofNat xs.length) + mm))])) rfl rfl (hb hby d_prog_10_method_12_code_10) _ ?_
    rw [len_of Sz35 Nz35]
    show Steps p.tables e below (T34.setTop (mkF m 11 #[.val (.ref b1), .val (.int mm)] [(.int (64 : Int32)), (.int ((Int32.ofNat xs.length) + mm))])) _
    refine XS.icmpYes X34.here hx rfl (pc0 := 11) (pc' := 41) rfl (hb hby d_prog_10_method_12_code_11) rfl (XT.ii_le_t hm) (by decide) (by decide) ?_
    show Steps p.tables e below (T34.setTop (mkF m 41 #[.val (.ref b1), .val (.int mm)] [])) _
    exact X34.returnOut hx Bd.returns (hb hby d_prog_10_method_12_code_41) hr
  · show own_Q (none) h0 n0 _ T34.heap _
    rw [e34]
    exact ⟨rfl, N0, rfl⟩
def own_b4 (v : Int64) : List Int32 := [nar .byte ((XT.ushrL v (24 : Int32)).toInt32.toInt8.toInt32), nar .byte ((XT.ushrL v (16 : Int32)).toInt32.toInt8.toInt32), nar .byte ((XT.ushrL v (8 : Int32)).toInt32.toInt8.toInt32), nar .byte ((XT.ushrL v (0 : Int32)).toInt32.toInt8.toInt32)]
theorem own_inc (xs ys : List Int32) (y : Int32) (h : ys = xs ++ [y]) : Int32.ofNat xs.length + (1 : Int32) = Int32.ofNat ys.length := by
  subst h
  rw [List.length_append]
  show Int32.ofNat xs.length + Int32.ofNat 1 = _
  exact (Int32.ofNat_add xs.length 1).symm
theorem own_leninc (xs ys : List Int32) (y : Int32) (h : ys = xs ++ [y]) : ys.length = xs.length + 1 := by subst h; simp
theorem own_lim {xs : List Int32} {N : Nat} {z : Int32} (hz : z.toInt = N) (h : xs.length < N) (hN : N < 2147483648) : (¬ Int32.ofNat xs.length < 0 ∧ Int32.ofNat xs.length < z) ∧ (Int32.ofNat xs.length).toNatClampNeg = xs.length := by
  have hn := own_of32 (n := xs.length) (by omega)
  exact ⟨⟨hn.1, by rw [Int32.lt_iff_toInt_lt, hn.2.2, hz]; omega⟩, hn.2.1⟩
theorem own_room4 {xs : List Int32} {m : Nat} (h : xs.length + m ≤ 64) (hm : m < 64) : ¬ (64 : Int32) < (Int32.ofNat xs.length + Int32.ofNat m) := by
  have hn := own_of32 (n := xs.length + m) (by omega)
  rw [← Int32.ofNat_add, Int32.lt_iff_toInt_lt, hn.2.2, show (64 : Int32).toInt = 64 from by decide]
  omega
theorem d_prog_10_method_11_code_0 : decode prog_10_method_11_code 0 = .ok (.aload_n 0, 1) := by decide +kernel
theorem d_prog_10_method_11_code_1 : decode prog_10_method_11_code 1 = .ok (.iload_n 3, 1) := by decide +kernel
theorem pd__I_V : parseMethodDescriptor "(I)V" = some ⟨[.int], none⟩ := by decide +kernel
theorem d_prog_10_method_11_code_2 : decode prog_10_method_11_code 2 = .ok (.invokevirtual 122, 3) := by decide +kernel
theorem d_prog_10_method_11_code_5 : decode prog_10_method_11_code 5 = .ok (.iload_n 3, 1) := by decide +kernel
theorem d_prog_10_method_11_code_6 : decode prog_10_method_11_code 6 = .ok (.iconst 1, 1) := by decide +kernel
theorem d_prog_10_method_11_code_7 : decode prog_10_method_11_code 7 = .ok (.isub, 1) := by decide +kernel
theorem d_prog_10_method_11_code_8 : decode prog_10_method_11_code 8 = .ok (.bipush 8, 2) := by decide +kernel
theorem d_prog_10_method_11_code_10 : decode prog_10_method_11_code 10 = .ok (.imul, 1) := by decide +kernel
theorem d_prog_10_method_11_code_11 : decode prog_10_method_11_code 11 = .ok (.istore 4, 2) := by decide +kernel
theorem d_prog_10_method_11_code_13 : decode prog_10_method_11_code 13 = .ok (.iload 4, 2) := by decide +kernel
theorem d_prog_10_method_11_code_15 : decode prog_10_method_11_code 15 = .ok (.ifCond .lt 31, 3) := by decide +kernel
theorem d_prog_10_method_11_code_18 : decode prog_10_method_11_code 18 = .ok (.aload_n 0, 1) := by decide +kernel
theorem d_prog_10_method_11_code_19 : decode prog_10_method_11_code 19 = .ok (.getfield 7, 3) := by decide +kernel
theorem d_prog_10_method_11_code_22 : decode prog_10_method_11_code 22 = .ok (.aload_n 0, 1) := by decide +kernel
theorem d_prog_10_method_11_code_23 : decode prog_10_method_11_code 23 = .ok (.dup, 1) := by decide +kernel
theorem d_prog_10_method_11_code_24 : decode prog_10_method_11_code 24 = .ok (.getfield 52, 3) := by decide +kernel
theorem d_prog_10_method_11_code_27 : decode prog_10_method_11_code 27 = .ok (.dup_x1, 1) := by decide +kernel
theorem d_prog_10_method_11_code_28 : decode prog_10_method_11_code 28 = .ok (.iconst 1, 1) := by decide +kernel
theorem d_prog_10_method_11_code_29 : decode prog_10_method_11_code 29 = .ok (.iadd, 1) := by decide +kernel
theorem d_prog_10_method_11_code_30 : decode prog_10_method_11_code 30 = .ok (.putfield 52, 3) := by decide +kernel
theorem d_prog_10_method_11_code_33 : decode prog_10_method_11_code 33 = .ok (.lload_n 1, 1) := by decide +kernel
theorem d_prog_10_method_11_code_34 : decode prog_10_method_11_code 34 = .ok (.iload 4, 2) := by decide +kernel
theorem d_prog_10_method_11_code_36 : decode prog_10_method_11_code 36 = .ok (.lushr, 1) := by decide +kernel
theorem d_prog_10_method_11_code_37 : decode prog_10_method_11_code 37 = .ok (.l2i, 1) := by decide +kernel
theorem d_prog_10_method_11_code_38 : decode prog_10_method_11_code 38 = .ok (.i2b, 1) := by decide +kernel
theorem d_prog_10_method_11_code_39 : decode prog_10_method_11_code 39 = .ok (.bastore, 1) := by decide +kernel
theorem d_prog_10_method_11_code_40 : decode prog_10_method_11_code 40 = .ok (.iinc 4 (-8), 3) := by decide +kernel
theorem d_prog_10_method_11_code_43 : decode prog_10_method_11_code 43 = .ok (.goto (-30), 3) := by decide +kernel
theorem d_prog_10_method_11_code_46 : decode prog_10_method_11_code 46 = .ok (.return_, 1) := by decide +kernel
theorem ef_prog_10_method_11_code_AJI (m : MethodId) (x0 : Addr) (x1 : Int64) (x2 : Int32) : entryFrame m #[(.ref x0), (.long x1), (.int x2)] 5 = mkF m 0 #[.val (.ref x0), .val (.long x1), .second, .val (.int x2), .unset] [] := by first | (simp [entryFrame, mkF, argsToLocals, Value.category]; done) | rfl
set_option maxRecDepth 65536 in
set_option maxHeartbeats 40000000 in
theorem own_appJ (l : Launch) (Z : State) (a0 : Array Value) (hw : ∀ d ∈ tables_1, d.before a0 Z = true) (ws : List Jvm.Cond) (b1 r1 : Addr) (k1 : ClassId) (xs : List Int32) (vv : Int64) (h0 : Heap) (n0 : Nat) (Z0 : n0 ≤ h0.size) (P : own_KB Z h0 b1 r1 k1 xs) (hl : xs.length ≤ 8) (gb : n0 ≤ b1) (gr : n0 ≤ r1) :
    MetFree l (⟨"com/example/chitragupta/chitragupta/ledger/KeyBuilder", "append", "(JI)V"⟩ : MethodName) (head1 (Jvm.Cond.code (⟨"com/example/chitragupta/chitragupta/ledger/KeyBuilder", "append", "(JI)V"⟩ : MethodName) prog_10_method_11_code 5 none :: ws) ({ frames := 1, cells := 0, slots := 0, locals := 13 } : Room)) (fun a U => a = #[(.ref b1), (.long vv), (.int (4 : Int32))] ∧ Z.Warmed39 U.vm ∧ U.heap = h0) (fun _ _ _ _ _ => True) (fun _ U o U' => ∃ v L, o = .returned v ∧ own_QK Z none b1 r1 k1 (xs ++ own_b4 vv) h0 n0 v U'.heap L ∧ FrameEnd U o U' L ({ frames := 1, cells := 0, slots := 0, locals := 13 } : Room).cells ({ frames := 1, cells := 0, slots := 0, locals := 13 } : Room).slots) := by
  refine MetFree.of_bodySF (plainFor_of_name pn_com_example_chitragupta_chitragupta_ledger_KeyBuilder) hisR ?_
  intro p e s m args below meth c s₁ Bd hml0 hP hK
  obtain ⟨rfl, hZ, hh⟩ := hP
  have hx := Bd.exec
  have hby := Bd.bytes
  have hml : c.maxLocals = 5 := hml0
  have hown : s.vm.findClass "com/example/chitragupta/chitragupta/ledger/KeyBuilder" = some m.cls := findClass_of_methodNamed Bd.named
  have hnm := (name_of_methodNamed Bd.named Bd.method).1
  have X0 : Stand p l e ({ frames := 1, cells := 0, slots := 0, locals := 13 } : Room) s m #[(.ref b1), (.long vv), (.int (4 : Int32))] below meth c s₁ [] 0 0 := Stand.of_body Bd
  have e0 : s₁.heap = h0 := by rw [← hh, Bd.state]; rfl
  have N0 := Fr.nil n0
  have pre0 : ∀ t, Steps p.tables e below (s₁.setTop (mkF m 0 #[.val (.ref b1), .val (.long vv), .second, .val (.int (4 : Int32)), .unset] [])) t → Steps p.tables e below (s₁.setTop (entryFrame m #[(.ref b1), (.long vv), (.int (4 : Int32))] 5)) t := fun t k => castTop (ef_prog_10_method_11_code_AJI m b1 vv (4 : Int32)) k
  have hl0 : xs.length < 64 := by omega
  have hm : ¬ (64 : Int32) < (Int32.ofNat xs.length + (4 : Int32)) := own_room4 (m := 4) (by omega) (by decide)
  obtain ⟨E_36, Fbytes_37, Flength_38, V_39⟩ := id P
  have ne_b1_r1 : b1 ≠ r1 := E_36.neArv V_39 (hw _ (List.mem_of_getElem? (i := 1) rfl))
  obtain ⟨cq40, qa40, qb40⟩ := E_36.cell
  obtain ⟨_, _, ⟨T40, L40, k40, n40⟩, -, X40, ⟨Lc40, hQ40, l40, y40, z40⟩, st40⟩ := X0.privateBack hx (y := (⟨"com/example/chitragupta/chitragupta/ledger/KeyBuilder", "room", "(I)V"⟩ : MethodName)) hown (mvT hZ (hw _ (List.mem_of_getElem? (i := 41) rfl))) (mvT hZ (hw _ (List.mem_of_getElem? (i := 42) rfl))) (own_selP (mvT hZ (hw _ (List.mem_of_getElem? (i := 15) rfl))) rfl (Cond.privateMethod_at (mvP hZ (hw _ (List.mem_of_getElem? (i := 43) rfl)) (args := #[]))) (mvT hZ (hw _ (List.mem_of_getElem? (i := 42) rfl))) (by decide)) (Cond.privateMethod_at (mvP hZ (hw _ (List.mem_of_getElem? (i := 43) rfl)) (args := #[]))) (mvT hZ (hw _ (List.mem_of_getElem? (i := 44) rfl))) (by decide) (backOf (W := 0) (own_room l Z a0 hw [] b1 r1 k1 xs (4 : Int32) h0 n0 Z0 ⟨E_36, Fbytes_37, Flength_38, V_39⟩ hm) hZ (hw _ (List.mem_of_getElem? (i := 44) rfl)) (hw _ (List.mem_of_getElem? (i := 2) rfl)) (by decide) (by decide)) (g := (mkF m 2 #[.val (.ref b1), .val (.long vv), .second, .val (.int (4 : Int32)), .unset] [(.int (4 : Int32)), (.ref b1)])) rfl (by rw [hml]; rfl) (Steps.refl _) (a := b1) (by rw [e0]; exact qa40) qb40 (argsL := [(.int (4 : Int32))]) (rest := []) (lenOf pd__I_V rfl) rfl (by show 2 * 0 + _ ≤ _; exact Nat.le_of_eq rfl) (hb hby d_prog_10_method_11_code_2) (fun _ _ => ⟨rfl, e0, (by decide : 0 + 0 ≤ _), (by decide : 0 + 0 ≤ _)⟩)
  dsimp only [Pt.U, Pt.locs, Pt.cells, Pt.slots] at X40 l40 y40 z40 st40 hQ40
  subst l40 y40 z40
  obtain ⟨rfl, N40q, e40⟩ := hQ40
  have N40 := Fr.app N0 N40q
  obtain ⟨T41, X41, e41, st41⟩ := getF X40 hx hZ hown (host := "") (Or.inl (hw _ (List.mem_of_getElem? (i := 10) rfl))) Via.refl e40 Fbytes_37 (g := (mkF m 19 #[.val (.ref b1), .val (.long vv), .second, .val (.int (4 : Int32)), .val (.int (24 : Int32))] [(.ref b1)])) rfl rfl (hb hby d_prog_10_method_11_code_19)
  obtain ⟨T42, X42, e42, st42⟩ := getF X41 hx hZ hown (host := "") (Or.inl (hw _ (List.mem_of_getElem? (i := 17) rfl))) Via.refl e41 Flength_38 (g := (mkF m 24 #[.val (.ref b1), .val (.long vv), .second, .val (.int (4 : Int32)), .val (.int (24 : Int32))] [(.ref b1), (.ref b1), (.ref r1)])) rfl rfl (hb hby d_prog_10_method_11_code_24)
  obtain ⟨T43, h43, X43, e43, W43, st43⟩ := putF X42 hx hZ hown (host := "") (Or.inl (hw _ (List.mem_of_getElem? (i := 17) rfl))) Via.refl e42 Flength_38 E_36 (Or.inl (hw _ (List.mem_of_getElem? (i := 18) rfl))) (hw _ (List.mem_of_getElem? (i := 1) rfl)) (ty := .int) (by decide) rfl rfl (g := (mkF m 30 #[.val (.ref b1), .val (.long vv), .second, .val (.int (4 : Int32)), .val (.int (24 : Int32))] [(.int ((Int32.ofNat xs.length) + (1 : Int32))), (.ref b1), (.int (Int32.ofNat xs.length)), (.ref r1)])) rfl rfl (hb hby d_prog_10_method_11_code_30)
  have E_44 := E_36.wr W43
  have Fbytes_45 := Fbytes_37.other W43 (Or.inr (slot_ne (Or.inl (hw _ (List.mem_of_getElem? (i := 11) rfl))) (Or.inl (hw _ (List.mem_of_getElem? (i := 18) rfl))) (by decide) (t := (.array .byte)) (t' := .int) (by decide) (by decide)))
  have V_46 := V_39.other W43 (Ne.symm ne_b1_r1)
  have K43 : Keep h0 h43 [b1, r1] := (Keep.refl _ _).wr W43 (Or.inl (List.mem_of_getElem? (i := 0) rfl))
  have Z43 : n0 ≤ h43.size := Nat.le_trans Z0 K43.1
  have N43 := Fr.snoc X43 N40 gb
  have Flength_47 : Fld Z h43 b1 "com/example/chitragupta/chitragupta/ledger/KeyBuilder" "length" "I" (.int ((Int32.ofNat xs.length) + (1 : Int32))) := Flength_38.same W43
  obtain ⟨T48, h48, X48, e48, W48, V48, st48⟩ := own_stBx X43 hx hZ e43 V_46 (j := (Int32.ofNat xs.length)) (own_lim (N := 64) (z := (64 : Int32)) (by decide) hl0 (by decide)).1 (own_lim (N := 64) (z := (64 : Int32)) (by decide) hl0 (by decide)).2 (g := (mkF m 39 #[.val (.ref b1), .val (.long vv), .second, .val (.int (4 : Int32)), .val (.int (24 : Int32))] [(.int (XT.ushrL vv (24 : Int32)).toInt32.toInt8.toInt32), (.int (Int32.ofNat xs.length)), (.ref r1)])) rfl rfl (hb hby d_prog_10_method_11_code_39)
  have E_49 := E_44.wr W48
  have Fbytes_50 := Fbytes_45.other W48 (Or.inl ne_b1_r1)
  have Flength_51 := Flength_47.other W48 (Or.inl ne_b1_r1)
  have K48 : Keep h0 h48 [b1, r1] := K43.wr W48 (Or.inl (List.mem_of_getElem? (i := 1) rfl))
  have Z48 : n0 ≤ h48.size := Nat.le_trans Z0 K48.1
  have N48 := Fr.snoc X48 N43 gr
  obtain ⟨xs48, hxs48⟩ : ∃ y, y = xs ++ [nar .byte (XT.ushrL vv (24 : Int32)).toInt32.toInt8.toInt32] := ⟨_, rfl⟩
  rw [← hxs48] at V48
  have hln48 := own_leninc _ _ _ hxs48
  have hlm48 : xs48.length < 64 := by omega
  have FL48 : Fld Z h48 b1 "com/example/chitragupta/chitragupta/ledger/KeyBuilder" "length" "I" (.int (Int32.ofNat xs48.length)) := by rw [← own_inc _ _ _ hxs48]; exact Flength_51
  obtain ⟨T52, X52, e52, st52⟩ := getF X48 hx hZ hown (host := "") (Or.inl (hw _ (List.mem_of_getElem? (i := 10) rfl))) Via.refl e48 Fbytes_50 (g := (mkF m 19 #[.val (.ref b1), .val (.long vv), .second, .val (.int (4 : Int32)), .val (.int (16 : Int32))] [(.ref b1)])) rfl rfl (hb hby d_prog_10_method_11_code_19)
  obtain ⟨T53, X53, e53, st53⟩ := getF X52 hx hZ hown (host := "") (Or.inl (hw _ (List.mem_of_getElem? (i := 17) rfl))) Via.refl e52 FL48 (g := (mkF m 24 #[.val (.ref b1), .val (.long vv), .second, .val (.int (4 : Int32)), .val (.int (16 : Int32))] [(.ref b1), (.ref b1), (.ref r1)])) rfl rfl (hb hby d_prog_10_method_11_code_24)
  obtain ⟨T54, h54, X54, e54, W54, st54⟩ := putF X53 hx hZ hown (host := "") (Or.inl (hw _ (List.mem_of_getElem? (i := 17) rfl))) Via.refl e53 FL48 E_49 (Or.inl (hw _ (List.mem_of_getElem? (i := 18) rfl))) (hw _ (List.mem_of_getElem? (i := 1) rfl)) (ty := .int) (by decide) rfl rfl (g := (mkF m 30 #[.val (.ref b1), .val (.long vv), .second, .val (.int (4 : Int32)), .val (.int (16 : Int32))] [(.int ((Int32.ofNat xs48.length) + (1 : Int32))), (.ref b1), (.int (Int32.ofNat xs48.length)), (.ref r1)])) rfl rfl (hb hby d_prog_10_method_11_code_30)
  have E_55 := E_49.wr W54
  have Fbytes_56 := Fbytes_50.other W54 (Or.inr (slot_ne (Or.inl (hw _ (List.mem_of_getElem? (i := 11) rfl))) (Or.inl (hw _ (List.mem_of_getElem? (i := 18) rfl))) (by decide) (t := (.array .byte)) (t' := .int) (by decide) (by decide)))
  have V48_57 := V48.other W54 (Ne.symm ne_b1_r1)
  have K54 : Keep h0 h54 [b1, r1] := K48.wr W54 (Or.inl (List.mem_of_getElem? (i := 0) rfl))
  have Z54 : n0 ≤ h54.size := Nat.le_trans Z0 K54.1
  have N54 := Fr.snoc X54 N48 gb
  have Flength_58 : Fld Z h54 b1 "com/example/chitragupta/chitragupta/ledger/KeyBuilder" "length" "I" (.int ((Int32.ofNat xs48.length) + (1 : Int32))) := FL48.same W54
  obtain ⟨T59, h59, X59, e59, W59, V59, st59⟩ := own_stBx X54 hx hZ e54 V48_57 (j := (Int32.ofNat xs48.length)) (own_lim (N := 64) (z := (64 : Int32)) (by decide) hlm48 (by decide)).1 (own_lim (N := 64) (z := (64 : Int32)) (by decide) hlm48 (by decide)).2 (g := (mkF m 39 #[.val (.ref b1), .val (.long vv), .second, .val (.int (4 : Int32)), .val (.int (16 : Int32))] [(.int (XT.ushrL vv (16 : Int32)).toInt32.toInt8.toInt32), (.int (Int32.ofNat xs48.length)), (.ref r1)])) rfl rfl (hb hby d_prog_10_method_11_code_39)
  have E_60 := E_55.wr W59
  have Fbytes_61 := Fbytes_56.other W59 (Or.inl ne_b1_r1)
  have Flength_62 := Flength_58.other W59 (Or.inl ne_b1_r1)
  have K59 : Keep h0 h59 [b1, r1] := K54.wr W59 (Or.inl (List.mem_of_getElem? (i := 1) rfl))
  have Z59 : n0 ≤ h59.size := Nat.le_trans Z0 K59.1
  have N59 := Fr.snoc X59 N54 gr
  obtain ⟨xs59, hxs59⟩ : ∃ y, y = xs48 ++ [nar .byte (XT.ushrL vv (16 : Int32)).toInt32.toInt8.toInt32] := ⟨_, rfl⟩
  rw [← hxs59] at V59
  have hln59 := own_leninc _ _ _ hxs59
  have hlm59 : xs59.length < 64 := by omega
  have FL59 : Fld Z h59 b1 "com/example/chitragupta/chitragupta/ledger/KeyBuilder" "length" "I" (.int (Int32.ofNat xs59.length)) := by rw [← own_inc _ _ _ hxs59]; exact Flength_62
  obtain ⟨T63, X63, e63, st63⟩ := getF X59 hx hZ hown (host := "") (Or.inl (hw _ (List.mem_of_getElem? (i := 10) rfl))) Via.refl e59 Fbytes_61 (g := (mkF m 19 #[.val (.ref b1), .val (.long vv), .second, .val (.int (4 : Int32)), .val (.int (8 : Int32))] [(.ref b1)])) rfl rfl (hb hby d_prog_10_method_11_code_19)
  obtain ⟨T64, X64, e64, st64⟩ := getF X63 hx hZ hown (host := "") (Or.inl (hw _ (List.mem_of_getElem? (i := 17) rfl))) Via.refl e63 FL59 (g := (mkF m 24 #[.val (.ref b1), .val (.long vv), .second, .val (.int (4 : Int32)), .val (.int (8 : Int32))] [(.ref b1), (.ref b1), (.ref r1)])) rfl rfl (hb hby d_prog_10_method_11_code_24)
  obtain ⟨T65, h65, X65, e65, W65, st65⟩ := putF X64 hx hZ hown (host := "") (Or.inl (hw _ (List.mem_of_getElem? (i := 17) rfl))) Via.refl e64 FL59 E_60 (Or.inl (hw _ (List.mem_of_getElem? (i := 18) rfl))) (hw _ (List.mem_of_getElem? (i := 1) rfl)) (ty := .int) (by decide) rfl rfl (g := (mkF m 30 #[.val (.ref b1), .val (.long vv), .second, .val (.int (4 : Int32)), .val (.int (8 : Int32))] [(.int ((Int32.ofNat xs59.length) + (1 : Int32))), (.ref b1), (.int (Int32.ofNat xs59.length)), (.ref r1)])) rfl rfl (hb hby d_prog_10_method_11_code_30)
  have E_66 := E_60.wr W65
  have Fbytes_67 := Fbytes_61.other W65 (Or.inr (slot_ne (Or.inl (hw _ (List.mem_of_getElem? (i := 11) rfl))) (Or.inl (hw _ (List.mem_of_getElem? (i := 18) rfl))) (by decide) (t := (.array .byte)) (t' := .int) (by decide) (by decide)))
  have V59_68 := V59.other W65 (Ne.symm ne_b1_r1)
  have K65 : Keep h0 h65 [b1, r1] := K59.wr W65 (Or.inl (List.mem_of_getElem? (i := 0) rfl))
  have Z65 : n0 ≤ h65.size := Nat.le_trans Z0 K65.1
  have N65 := Fr.snoc X65 N59 gb
  have Flength_69 : Fld Z h65 b1 "com/example/chitragupta/chitragupta/ledger/KeyBuilder" "length" "I" (.int ((Int32.ofNat xs59.length) + (1 : Int32))) := FL59.same W65
  obtain ⟨T70, h70, X70, e70, W70, V70, st70⟩ := own_stBx X65 hx hZ e65 V59_68 (j := (Int32.ofNat xs59.length)) (own_lim (N := 64) (z := (64 : Int32)) (by decide) hlm59 (by decide)).1 (own_lim (N := 64) (z := (64 : Int32)) (by decide) hlm59 (by decide)).2 (g := (mkF m 39 #[.val (.ref b1), .val (.long vv), .second, .val (.int (4 : Int32)), .val (.int (8 : Int32))] [(.int (XT.ushrL vv (8 : Int32)).toInt32.toInt8.toInt32), (.int (Int32.ofNat xs59.length)), (.ref r1)])) rfl rfl (hb hby d_prog_10_method_11_code_39)
  have E_71 := E_66.wr W70
  have Fbytes_72 := Fbytes_67.other W70 (Or.inl ne_b1_r1)
  have Flength_73 := Flength_69.other W70 (Or.inl ne_b1_r1)
  have K70 : Keep h0 h70 [b1, r1] := K65.wr W70 (Or.inl (List.mem_of_getElem? (i := 1) rfl))
  have Z70 : n0 ≤ h70.size := Nat.le_trans Z0 K70.1
  have N70 := Fr.snoc X70 N65 gr
  obtain ⟨xs70, hxs70⟩ : ∃ y, y = xs59 ++ [nar .byte (XT.ushrL vv (8 : Int32)).toInt32.toInt8.toInt32] := ⟨_, rfl⟩
  rw [← hxs70] at V70
  have hln70 := own_leninc _ _ _ hxs70
  have hlm70 : xs70.length < 64 := by omega
  have FL70 : Fld Z h70 b1 "com/example/chitragupta/chitragupta/ledger/KeyBuilder" "length" "I" (.int (Int32.ofNat xs70.length)) := by rw [← own_inc _ _ _ hxs70]; exact Flength_73
  obtain ⟨T74, X74, e74, st74⟩ := getF X70 hx hZ hown (host := "") (Or.inl (hw _ (List.mem_of_getElem? (i := 10) rfl))) Via.refl e70 Fbytes_72 (g := (mkF m 19 #[.val (.ref b1), .val (.long vv), .second, .val (.int (4 : Int32)), .val (.int (0 : Int32))] [(.ref b1)])) rfl rfl (hb hby d_prog_10_method_11_code_19)
  obtain ⟨T75, X75, e75, st75⟩ := getF X74 hx hZ hown (host := "") (Or.inl (hw _ (List.mem_of_getElem? (i := 17) rfl))) Via.refl e74 FL70 (g := (mkF m 24 #[.val (.ref b1), .val (.long vv), .second, .val (.int (4 : Int32)), .val (.int (0 : Int32))] [(.ref b1), (.ref b1), (.ref r1)])) rfl rfl (hb hby d_prog_10_method_11_code_24)
  obtain ⟨T76, h76, X76, e76, W76, st76⟩ := putF X75 hx hZ hown (host := "") (Or.inl (hw _ (List.mem_of_getElem? (i := 17) rfl))) Via.refl e75 FL70 E_71 (Or.inl (hw _ (List.mem_of_getElem? (i := 18) rfl))) (hw _ (List.mem_of_getElem? (i := 1) rfl)) (ty := .int) (by decide) rfl rfl (g := (mkF m 30 #[.val (.ref b1), .val (.long vv), .second, .val (.int (4 : Int32)), .val (.int (0 : Int32))] [(.int ((Int32.ofNat xs70.length) + (1 : Int32))), (.ref b1), (.int (Int32.ofNat xs70.length)), (.ref r1)])) rfl rfl (hb hby d_prog_10_method_11_code_30)
  have E_77 := E_71.wr W76
  have Fbytes_78 := Fbytes_72.other W76 (Or.inr (slot_ne (Or.inl (hw _ (List.mem_of_getElem? (i := 11) rfl))) (Or.inl (hw _ (List.mem_of_getElem? (i := 18) rfl))) (by decide) (t := (.array .byte)) (t' := .int) (by decide) (by decide)))
  have V70_79 := V70.other W76 (Ne.symm ne_b1_r1)
  have K76 : Keep h0 h76 [b1, r1] := K70.wr W76 (Or.inl (List.mem_of_getElem? (i := 0) rfl))
  have Z76 : n0 ≤ h76.size := Nat.le_trans Z0 K76.1
  have N76 := Fr.snoc X76 N70 gb
  have Flength_80 : Fld Z h76 b1 "com/example/chitragupta/chitragupta/ledger/KeyBuilder" "length" "I" (.int ((Int32.ofNat xs70.length) + (1 : Int32))) := FL70.same W76
  obtain ⟨T81, h81, X81, e81, W81, V81, st81⟩ := own_stBx X76 hx hZ e76 V70_79 (j := (Int32.ofNat xs70.length)) (own_lim (N := 64) (z := (64 : Int32)) (by decide) hlm70 (by decide)).1 (own_lim (N := 64) (z := (64 : Int32)) (by decide) hlm70 (by decide)).2 (g := (mkF m 39 #[.val (.ref b1), .val (.long vv), .second, .val (.int (4 : Int32)), .val (.int (0 : Int32))] [(.int (XT.ushrL vv (0 : Int32)).toInt32.toInt8.toInt32), (.int (Int32.ofNat xs70.length)), (.ref r1)])) rfl rfl (hb hby d_prog_10_method_11_code_39)
  have E_82 := E_77.wr W81
  have Fbytes_83 := Fbytes_78.other W81 (Or.inl ne_b1_r1)
  have Flength_84 := Flength_80.other W81 (Or.inl ne_b1_r1)
  have K81 : Keep h0 h81 [b1, r1] := K76.wr W81 (Or.inl (List.mem_of_getElem? (i := 1) rfl))
  have Z81 : n0 ≤ h81.size := Nat.le_trans Z0 K81.1
  have N81 := Fr.snoc X81 N76 gr
  obtain ⟨xs81, hxs81⟩ : ∃ y, y = xs70 ++ [nar .byte (XT.ushrL vv (0 : Int32)).toInt32.toInt8.toInt32] := ⟨_, rfl⟩
  rw [← hxs81] at V81
  have hln81 := own_leninc _ _ _ hxs81
  have hlm81 : xs81.length < 64 := by omega
  have FL81 : Fld Z h81 b1 "com/example/chitragupta/chitragupta/ledger/KeyBuilder" "length" "I" (.int (Int32.ofNat xs81.length)) := by rw [← own_inc _ _ _ hxs81]; exact Flength_84
  obtain ⟨fs, hr, hrun, hended, hW, hsame⟩ := X81.leave (v := none) (fun _ => rfl)
  refine ⟨_, _, pre0 _ ?_, hrun, hended, _, _, rfl, ?_, ⟨_, rfl⟩, hW, hsame.mono (by decide) (by decide)⟩
  · show Steps p.tables e below (s₁.setTop (mkF m 0 #[.val (.ref b1), .val (.long vv), .second, .val (.int (4 : Int32)), .unset] [])) _
    refine XS.aloadN X0.here hx rfl (hb hby d_prog_10_method_11_code_0) rfl rfl ?_
    show Steps p.tables e below (s₁.setTop (mkF m 1 #[.val (.ref b1), .val (.long vv), .second, .val (.int (4 : Int32)), .unset] [(.ref b1)])) _
    refine XS.iloadN X0.here hx rfl (hb hby d_prog_10_method_11_code_1) rfl ?_
    show Steps p.tables e below (s₁.setTop (mkF m 2 #[.val (.ref b1), .val (.long vv), .second, .val (.int (4 : Int32)), .unset] [(.int (4 : Int32)), (.ref b1)])) _
    refine st40.trans ?_
    show Steps p.tables e below (T40.setTop (mkF m 5 #[.val (.ref b1), .val (.long vv), .second, .val (.int (4 : Int32)), .unset] [])) _
    refine XS.iloadN X40.here hx rfl (hb hby d_prog_10_method_11_code_5) rfl ?_
    show Steps p.tables e below (T40.setTop (mkF m 6 #[.val (.ref b1), .val (.long vv), .second, .val (.int (4 : Int32)), .unset] [(.int (4 : Int32))])) _
    refine XT.iconstV X40.here hx rfl (1 : Int32) (hb hby d_prog_10_method_11_code_6) rfl ?_
    show Steps p.tables e below (T40.setTop (mkF m 7 #[.val (.ref b1), .val (.long vv), .second, .val (.int (4 : Int32)), .unset] [(.int (1 : Int32)), (.int (4 : Int32))])) _
    refine XS.isub X40.here hx rfl (hb hby d_prog_10_method_11_code_7) rfl ?_
    rw [show ((4 : Int32) - (1 : Int32)) = (3 : Int32) from by decide]
    show Steps p.tables e below (T40.setTop (mkF m 8 #[.val (.ref b1), .val (.long vv), .second, .val (.int (4 : Int32)), .unset] [(.int (3 : Int32))])) _
    refine XT.bipushV X40.here hx rfl (8 : Int32) (hb hby d_prog_10_method_11_code_8) (by decide) ?_
    show Steps p.tables e below (T40.setTop (mkF m 10 #[.val (.ref b1), .val (.long vv), .second, .val (.int (4 : Int32)), .unset] [(.int (8 : Int32)), (.int (3 : Int32))])) _
    refine XS.imul X40.here hx rfl (hb hby d_prog_10_method_11_code_10) rfl ?_
    rw [show ((3 : Int32) * (8 : Int32)) = (24 : Int32) from by decide]
    show Steps p.tables e below (T40.setTop (mkF m 11 #[.val (.ref b1), .val (.long vv), .second, .val (.int (4 : Int32)), .unset] [(.int (24 : Int32))])) _
    refine XS.istore X40.here hx rfl (hb hby d_prog_10_method_11_code_11) rfl (l' := #[.val (.ref b1), .val (.long vv), .second, .val (.int (4 : Int32)), .val (.int (24 : Int32))]) rfl ?_
    show Steps p.tables e below (T40.setTop (mkF m 13 #[.val (.ref b1), .val (.long vv), .second, .val (.int (4 : Int32)), .val (.int (24 : Int32))] [])) _
    refine XS.iload X40.here hx rfl (hb hby d_prog_10_method_11_code_13) rfl ?_
    show Steps p.tables e below (T40.setTop (mkF m 15 #[.val (.ref b1), .val (.long vv), .second, .val (.int (4 : Int32)), .val (.int (24 : Int32))] [(.int (24 : Int32))])) _
    refine XS.ifNo X40.here hx rfl (hb hby d_prog_10_method_11_code_15) rfl (by decide) ?_
    show Steps p.tables e below (T40.setTop (mkF m 18 #[.val (.ref b1), .val (.long vv), .second, .val (.int (4 : Int32)), .val (.int (24 : Int32))] [])) _
    refine XS.aloadN X40.here hx rfl (hb hby d_prog_10_method_11_code_18) rfl rfl ?_
    show Steps p.tables e below (T40.setTop (mkF m 19 #[.val (.ref b1), .val (.long vv), .second, .val (.int (4 : Int32)), .val (.int (24 : Int32))] [(.ref b1)])) _
    refine st41 _ ?_
    show Steps p.tables e below (T41.setTop (mkF m 22 #[.val (.ref b1), .val (.long vv), .second, .val (.int (4 : Int32)), .val (.int (24 : Int32))] [(.ref r1)])) _
    refine XS.aloadN X41.here hx rfl (hb hby d_prog_10_method_11_code_22) rfl rfl ?_
    show Steps p.tables e below (T41.setTop (mkF m 23 #[.val (.ref b1), .val (.long vv), .second, .val (.int (4 : Int32)), .val (.int (24 : Int32))] [(.ref b1), (.ref r1)])) _
    refine XS.dup X41.here hx rfl (hb hby d_prog_10_method_11_code_23) rfl rfl ?_
    show Steps p.tables e below (T41.setTop (mkF m 24 #[.val (.ref b1), .val (.long vv), .second, .val (.int (4 : Int32)), .val (.int (24 : Int32))] [(.ref b1), (.ref b1), (.ref r1)])) _
    refine st42 _ ?_
    show Steps p.tables e below (T42.setTop (mkF m 27 #[.val (.ref b1), .val (.long vv), .second, .val (.int (4 : Int32)), .val (.int (24 : Int32))] [(.int (Int32.ofNat xs.length)), (.ref b1), (.ref r1)])) _
    refine XT.dupX1 X42.here hx rfl (hb hby d_prog_10_method_11_code_27) rfl rfl rfl ?_
    show Steps p.tables e below (T42.setTop (mkF m 28 #[.val (.ref b1), .val (.long vv), .second, .val (.int (4 : Int32)), .val (.int (24 : Int32))] [(.int (Int32.ofNat xs.length)), (.ref b1), (.int (Int32.ofNat xs.length)), (.ref r1)])) _
    refine XT.iconstV X42.here hx rfl (1 : Int32) (hb hby d_prog_10_method_11_code_28) rfl ?_
    show Steps p.tables e below (T42.setTop (mkF m 29 #[.val (.ref b1), .val (.long vv), .second, .val (.int (4 : Int32)), .val (.int (24 : Int32))] [(.int (1 : Int32)), (.int (Int32.ofNat xs.length)), (.ref b1), (.int (Int32.ofNat xs.length)), (.ref r1)])) _
    refine XS.iadd X42.here hx rfl (hb hby d_prog_10_method_11_code_29) rfl ?_
    show Steps p.tables e below (T42.setTop (mkF m 30 #[.val (.ref b1), .val (.long vv), .second, .val (.int (4 : Int32)), .val (.int (24 : Int32))] [(.int ((Int32.ofNat xs.length) + (1 : Int32))), (.ref b1), (.int (Int32.ofNat xs.length)), (.ref r1)])) _
    refine st43 _ ?_
    show Steps p.tables e below (T43.setTop (mkF m 33 #[.val (.ref b1), .val (.long vv), .second, .val (.int (4 : Int32)), .val (.int (24 : Int32))] [(.int (Int32.ofNat xs.length)), (.ref r1)])) _
    refine XT.lloadN X43.here hx rfl (hb hby d_prog_10_method_11_code_33) rfl ?_
    show Steps p.tables e below (T43.setTop (mkF m 34 #[.val (.ref b1), .val (.long vv), .second, .val (.int (4 : Int32)), .val (.int (24 : Int32))] [(.long vv), (.int (Int32.ofNat xs.length)), (.ref r1)])) _
    refine XS.iload X43.here hx rfl (hb hby d_prog_10_method_11_code_34) rfl ?_
    show Steps p.tables e below (T43.setTop (mkF m 36 #[.val (.ref b1), .val (.long vv), .second, .val (.int (4 : Int32)), .val (.int (24 : Int32))] [(.int (24 : Int32)), (.long vv), (.int (Int32.ofNat xs.length)), (.ref r1)])) _
    refine XT.lushr X43.here hx rfl (hb hby d_prog_10_method_11_code_36) rfl ?_
    show Steps p.tables e below (T43.setTop (mkF m 37 #[.val (.ref b1), .val (.long vv), .second, .val (.int (4 : Int32)), .val (.int (24 : Int32))] [(.long (XT.ushrL vv (24 : Int32))), (.int (Int32.ofNat xs.length)), (.ref r1)])) _
    refine XT.l2i X43.here hx rfl (hb hby d_prog_10_method_11_code_37) rfl ?_
    show Steps p.tables e below (T43.setTop (mkF m 38 #[.val (.ref b1), .val (.long vv), .second, .val (.int (4 : Int32)), .val (.int (24 : Int32))] [(.int (XT.ushrL vv (24 : Int32)).toInt32), (.int (Int32.ofNat xs.length)), (.ref r1)])) _
    refine XT.i2b X43.here hx rfl (hb hby d_prog_10_method_11_code_38) rfl ?_
    show Steps p.tables e below (T43.setTop (mkF m 39 #[.val (.ref b1), .val (.long vv), .second, .val (.int (4 : Int32)), .val (.int (24 : Int32))] [(.int (XT.ushrL vv (24 : Int32)).toInt32.toInt8.toInt32), (.int (Int32.ofNat xs.length)), (.ref r1)])) _
    refine st48 _ ?_
    show Steps p.tables e below (T48.setTop (mkF m 40 #[.val (.ref b1), .val (.long vv), .second, .val (.int (4 : Int32)), .val (.int (24 : Int32))] [])) _
    refine XT.iincV X48.here hx rfl (-8 : Int32) (hb hby d_prog_10_method_11_code_40) rfl rfl (l' := #[.val (.ref b1), .val (.long vv), .second, .val (.int (4 : Int32)), .val (.int ((24 : Int32) + (-8 : Int32)))]) rfl ?_
    rw [show ((24 : Int32) + (-8 : Int32)) = (16 : Int32) from by decide]
    show Steps p.tables e below (T48.setTop (mkF m 43 #[.val (.ref b1), .val (.long vv), .second, .val (.int (4 : Int32)), .val (.int (16 : Int32))] [])) _
    refine XS.goto X48.here hx rfl (pc0 := 43) (pc' := 13) rfl (hb hby d_prog_10_method_11_code_43) (by decide) (by decide) ?_
    show Steps p.tables e below (T48.setTop (mkF m 13 #[.val (.ref b1), .val (.long vv), .second, .val (.int (4 : Int32)), .val (.int (16 : Int32))] [])) _
    refine XS.iload X48.here hx rfl (hb hby d_prog_10_method_11_code_13) rfl ?_
    show Steps p.tables e below (T48.setTop (mkF m 15 #[.val (.ref b1), .val (.long vv), .second, .val (.int (4 : Int32)), .val (.int (16 : Int32))] [(.int (16 : Int32))])) _
    refine XS.ifNo X48.here hx rfl (hb hby d_prog_10_method_11_code_15) rfl (by decide) ?_
    show Steps p.tables e below (T48.setTop (mkF m 18 #[.val (.ref b1), .val (.long vv), .second, .val (.int (4 : Int32)), .val (.int (16 : Int32))] [])) _
    refine XS.aloadN X48.here hx rfl (hb hby d_prog_10_method_11_code_18) rfl rfl ?_
    show Steps p.tables e below (T48.setTop (mkF m 19 #[.val (.ref b1), .val (.long vv), .second, .val (.int (4 : Int32)), .val (.int (16 : Int32))] [(.ref b1)])) _
    refine st52 _ ?_
    show Steps p.tables e below (T52.setTop (mkF m 22 #[.val (.ref b1), .val (.long vv), .second, .val (.int (4 : Int32)), .val (.int (16 : Int32))] [(.ref r1)])) _
    refine XS.aloadN X52.here hx rfl (hb hby d_prog_10_method_11_code_22) rfl rfl ?_
    show Steps p.tables e below (T52.setTop (mkF m 23 #[.val (.ref b1), .val (.long vv), .second, .val (.int (4 : Int32)), .val (.int (16 : Int32))] [(.ref b1), (.ref r1)])) _
    refine XS.dup X52.here hx rfl (hb hby d_prog_10_method_11_code_23) rfl rfl ?_
    show Steps p.tables e below (T52.setTop (mkF m 24 #[.val (.ref b1), .val (.long vv), .second, .val (.int (4 : Int32)), .val (.int (16 : Int32))] [(.ref b1), (.ref b1), (.ref r1)])) _
    refine st53 _ ?_
    show Steps p.tables e below (T53.setTop (mkF m 27 #[.val (.ref b1), .val (.long vv), .second, .val (.int (4 : Int32)), .val (.int (16 : Int32))] [(.int (Int32.ofNat xs48.length)), (.ref b1), (.ref r1)])) _
    refine XT.dupX1 X53.here hx rfl (hb hby d_prog_10_method_11_code_27) rfl rfl rfl ?_
    show Steps p.tables e below (T53.setTop (mkF m 28 #[.val (.ref b1), .val (.long vv), .second, .val (.int (4 : Int32)), .val (.int (16 : Int32))] [(.int (Int32.ofNat xs48.length)), (.ref b1), (.int (Int32.ofNat xs48.length)), (.ref r1)])) _
    refine XT.iconstV X53.here hx rfl (1 : Int32) (hb hby d_prog_10_method_11_code_28) rfl ?_
    show Steps p.tables e below (T53.setTop (mkF m 29 #[.val (.ref b1), .val (.long vv), .second, .val (.int (4 : Int32)), .val (.int (16 : Int32))] [(.int (1 : Int32)), (.int (Int32.ofNat xs48.length)), (.ref b1), (.int (Int32.ofNat xs48.length)), (.ref r1)])) _
    refine XS.iadd X53.here hx rfl (hb hby d_prog_10_method_11_code_29) rfl ?_
    show Steps p.tables e below (T53.setTop (mkF m 30 #[.val (.ref b1), .val (.long vv), .second, .val (.int (4 : Int32)), .val (.int (16 : Int32))] [(.int ((Int32.ofNat xs48.length) + (1 : Int32))), (.ref b1), (.int (Int32.ofNat xs48.length)), (.ref r1)])) _
    refine st54 _ ?_
    show Steps p.tables e below (T54.setTop (mkF m 33 #[.val (.ref b1), .val (.long vv), .second, .val (.int (4 : Int32)), .val (.int (16 : Int32))] [(.int (Int32.ofNat xs48.length)), (.ref r1)])) _
    refine XT.lloadN X54.here hx rfl (hb hby d_prog_10_method_11_code_33) rfl ?_
    show Steps p.tables e below (T54.setTop (mkF m 34 #[.val (.ref b1), .val (.long vv), .second, .val (.int (4 : Int32)), .val (.int (16 : Int32))] [(.long vv), (.int (Int32.ofNat xs48.length)), (.ref r1)])) _
    refine XS.iload X54.here hx rfl (hb hby d_prog_10_method_11_code_34) rfl ?_
    show Steps p.tables e below (T54.setTop (mkF m 36 #[.val (.ref b1), .val (.long vv), .second, .val (.int (4 : Int32)), .val (.int (16 : Int32))] [(.int (16 : Int32)), (.long vv), (.int (Int32.ofNat xs48.length)), (.ref r1)])) _
    refine XT.lushr X54.here hx rfl (hb hby d_prog_10_method_11_code_36) rfl ?_
    show Steps p.tables e below (T54.setTop (mkF m 37 #[.val (.ref b1), .val (.long vv), .second, .val (.int (4 : Int32)), .val (.int (16 : Int32))] [(.long (XT.ushrL vv (16 : Int32))), (.int (Int32.ofNat xs48.length)), (.ref r1)])) _
    refine XT.l2i X54.here hx rfl (hb hby d_prog_10_method_11_code_37) rfl ?_
    show Steps p.tables e below (T54.setTop (mkF m 38 #[.val (.ref b1), .val (.long vv), .second, .val (.int (4 : Int32)), .val (.int (16 : Int32))] [(.int (XT.ushrL vv (16 : Int32)).toInt32), (.int (Int32.ofNat xs48.length)), (.ref r1)])) _
    refine XT.i2b X54.here hx rfl (hb hby d_prog_10_method_11_code_38) rfl ?_
    show Steps p.tables e below (T54.setTop (mkF m 39 #[.val (.ref b1), .val (.long vv), .second, .val (.int (4 : Int32)), .val (.int (16 : Int32))] [(.int (XT.ushrL vv (16 : Int32)).toInt32.toInt8.toInt32), (.int (Int32.ofNat xs48.length)), (.ref r1)])) _
    refine st59 _ ?_
    show Steps p.tables e below (T59.setTop (mkF m 40 #[.val (.ref b1), .val (.long vv), .second, .val (.int (4 : Int32)), .val (.int (16 : Int32))] [])) _
    refine XT.iincV X59.here hx rfl (-8 : Int32) (hb hby d_prog_10_method_11_code_40) rfl rfl (l' := #[.val (.ref b1), .val (.long vv), .second, .val (.int (4 : Int32)), .val (.int ((16 : Int32) + (-8 : Int32)))]) rfl ?_
    rw [show ((16 : Int32) + (-8 : Int32)) = (8 : Int32) from by decide]
    show Steps p.tables e below (T59.setTop (mkF m 43 #[.val (.ref b1), .val (.long vv), .second, .val (.int (4 : Int32)), .val (.int (8 : Int32))] [])) _
    refine XS.goto X59.here hx rfl (pc0 := 43) (pc' := 13) rfl (hb hby d_prog_10_method_11_code_43) (by decide) (by decide) ?_
    show Steps p.tables e below (T59.setTop (mkF m 13 #[.val (.ref b1), .val (.long vv), .second, .val (.int (4 : Int32)), .val (.int (8 : Int32))] [])) _
    refine XS.iload X59.here hx rfl (hb hby d_prog_10_method_11_code_13) rfl ?_
    show Steps p.tables e below (T59.setTop (mkF m 15 #[.val (.ref b1), .val (.long vv), .second, .val (.int (4 : Int32)), .val (.int (8 : Int32))] [(.int (8 : Int32))])) _
    refine XS.ifNo X59.here hx rfl (hb hby d_prog_10_method_11_code_15) rfl (by decide) ?_
    show Steps p.tables e below (T59.setTop (mkF m 18 #[.val (.ref b1), .val (.long vv), .second, .val (.int (4 : Int32)), .val (.int (8 : Int32))] [])) _
    refine XS.aloadN X59.here hx rfl (hb hby d_prog_10_method_11_code_18) rfl rfl ?_
    show Steps p.tables e below (T59.setTop (mkF m 19 #[.val (.ref b1), .val (.long vv), .second, .val (.int (4 : Int32)), .val (.int (8 : Int32))] [(.ref b1)])) _
    refine st63 _ ?_
    show Steps p.tables e below (T63.setTop (mkF m 22 #[.val (.ref b1), .val (.long vv), .second, .val (.int (4 : Int32)), .val (.int (8 : Int32))] [(.ref r1)])) _
    refine XS.aloadN X63.here hx rfl (hb hby d_prog_10_method_11_code_22) rfl rfl ?_
    show Steps p.tables e below (T63.setTop (mkF m 23 #[.val (.ref b1), .val (.long vv), .second, .val (.int (4 : Int32)), .val (.int (8 : Int32))] [(.ref b1), (.ref r1)])) _
    refine XS.dup X63.here hx rfl (hb hby d_prog_10_method_11_code_23) rfl rfl ?_
    show Steps p.tables e below (T63.setTop (mkF m 24 #[.val (.ref b1), .val (.long vv), .second, .val (.int (4 : Int32)), .val (.int (8 : Int32))] [(.ref b1), (.ref b1), (.ref r1)])) _
    refine st64 _ ?_
    show Steps p.tables e below (T64.setTop (mkF m 27 #[.val (.ref b1), .val (.long vv), .second, .val (.int (4 : Int32)), .val (.int (8 : Int32))] [(.int (Int32.ofNat xs59.length)), (.ref b1), (.ref r1)])) _
    refine XT.dupX1 X64.here hx rfl (hb hby d_prog_10_method_11_code_27) rfl rfl rfl ?_
    show Steps p.tables e below (T64.setTop (mkF m 28 #[.val (.ref b1), .val (.long vv), .second, .val (.int (4 : Int32)), .val (.int (8 : Int32))] [(.int (Int32.ofNat xs59.length)), (.ref b1), (.int (Int32.ofNat xs59.length)), (.ref r1)])) _
    refine XT.iconstV X64.here hx rfl (1 : Int32) (hb hby d_prog_10_method_11_code_28) rfl ?_
    show Steps p.tables e below (T64.setTop (mkF m 29 #[.val (.ref b1), .val (.long vv), .second, .val (.int (4 : Int32)), .val (.int (8 : Int32))] [(.int (1 : Int32)), (.int (Int32.ofNat xs59.length)), (.ref b1), (.int (Int32.ofNat xs59.length)), (.ref r1)])) _
    refine XS.iadd X64.here hx rfl (hb hby d_prog_10_method_11_code_29) rfl ?_
    show Steps p.tables e below (T64.setTop (mkF m 30 #[.val (.ref b1), .val (.long vv), .second, .val (.int (4 : Int32)), .val (.int (8 : Int32))] [(.int ((Int32.ofNat xs59.length) + (1 : Int32))), (.ref b1), (.int (Int32.ofNat xs59.length)), (.ref r1)])) _
    refine st65 _ ?_
    show Steps p.tables e below (T65.setTop (mkF m 33 #[.val (.ref b1), .val (.long vv), .second, .val (.int (4 : Int32)), .val (.int (8 : Int32))] [(.int (Int32.ofNat xs59.length)), (.ref r1)])) _
    refine XT.lloadN X65.here hx rfl (hb hby d_prog_10_method_11_code_33) rfl ?_
    show Steps p.tables e below (T65.setTop (mkF m 34 #[.val (.ref b1), .val (.long vv), .second, .val (.int (4 : Int32)), .val (.int (8 : Int32))] [(.long vv), (.int (Int32.ofNat xs59.length)), (.ref r1)])) _
    refine XS.iload X65.here hx rfl (hb hby d_prog_10_method_11_code_34) rfl ?_
    show Steps p.tables e below (T65.setTop (mkF m 36 #[.val (.ref b1), .val (.long vv), .second, .val (.int (4 : Int32)), .val (.int (8 : Int32))] [(.int (8 : Int32)), (.long vv), (.int (Int32.ofNat xs59.length)), (.ref r1)])) _
    refine XT.lushr X65.here hx rfl (hb hby d_prog_10_method_11_code_36) rfl ?_
    show Steps p.tables e below (T65.setTop (mkF m 37 #[.val (.ref b1), .val (.long vv), .second, .val (.int (4 : Int32)), .val (.int (8 : Int32))] [(.long (XT.ushrL vv (8 : Int32))), (.int (Int32.ofNat xs59.length)), (.ref r1)])) _
    refine XT.l2i X65.here hx rfl (hb hby d_prog_10_method_11_code_37) rfl ?_
    show Steps p.tables e below (T65.setTop (mkF m 38 #[.val (.ref b1), .val (.long vv), .second, .val (.int (4 : Int32)), .val (.int (8 : Int32))] [(.int (XT.ushrL vv (8 : Int32)).toInt32), (.int (Int32.ofNat xs59.length)), (.ref r1)])) _
    refine XT.i2b X65.here hx rfl (hb hby d_prog_10_method_11_code_38) rfl ?_
    show Steps p.tables e below (T65.setTop (mkF m 39 #[.val (.ref b1), .val (.long vv), .second, .val (.int (4 : Int32)), .val (.int (8 : Int32))] [(.int (XT.ushrL vv (8 : Int32)).toInt32.toInt8.toInt32), (.int (Int32.ofNat xs59.length)), (.ref r1)])) _
    refine st70 _ ?_
    show Steps p.tables e below (T70.setTop (mkF m 40 #[.val (.ref b1), .val (.long vv), .second, .val (.int (4 : Int32)), .val (.int (8 : Int32))] [])) _
    refine XT.iincV X70.here hx rfl (-8 : Int32) (hb hby d_prog_10_method_11_code_40) rfl rfl (l' := #[.val (.ref b1), .val (.long vv), .second, .val (.int (4 : Int32)), .val (.int ((8 : Int32) + (-8 : Int32)))]) rfl ?_
    rw [show ((8 : Int32) + (-8 : Int32)) = (0 : Int32) from by decide]
    show Steps p.tables e below (T70.setTop (mkF m 43 #[.val (.ref b1), .val (.long vv), .second, .val (.int (4 : Int32)), .val (.int (0 : Int32))] [])) _
    refine XS.goto X70.here hx rfl (pc0 := 43) (pc' := 13) rfl (hb hby d_prog_10_method_11_code_43) (by decide) (by decide) ?_
    show Steps p.tables e below (T70.setTop (mkF m 13 #[.val (.ref b1), .val (.long vv), .second, .val (.int (4 : Int32)), .val (.int (0 : Int32))] [])) _
    refine XS.iload X70.here hx rfl (hb hby d_prog_10_method_11_code_13) rfl ?_
    show Steps p.tables e below (T70.setTop (mkF m 15 #[.val (.ref b1), .val (.long vv), .second, .val (.int (4 : Int32)), .val (.int (0 : Int32))] [(.int (0 : Int32))])) _
    refine XS.ifNo X70.here hx rfl (hb hby d_prog_10_method_11_code_15) rfl (by decide) ?_
    show Steps p.tables e below (T70.setTop (mkF m 18 #[.val (.ref b1), .val (.long vv), .second, .val (.int (4 : Int32)), .val (.int (0 : Int32))] [])) _
    refine XS.aloadN X70.here hx rfl (hb hby d_prog_10_method_11_code_18) rfl rfl ?_
    show Steps p.tables e below (T70.setTop (mkF m 19 #[.val (.ref b1), .val (.long vv), .second, .val (.int (4 : Int32)), .val (.int (0 : Int32))] [(.ref b1)])) _
    refine st74 _ ?_
    show Steps p.tables e below (T74.setTop (mkF m 22 #[.val (.ref b1), .val (.long vv), .second, .val (.int (4 : Int32)), .val (.int (0 : Int32))] [(.ref r1)])) _
    refine XS.aloadN X74.here hx rfl (hb hby d_prog_10_method_11_code_22) rfl rfl ?_
    show Steps p.tables e below (T74.setTop (mkF m 23 #[.val (.ref b1), .val (.long vv), .second, .val (.int (4 : Int32)), .val (.int (0 : Int32))] [(.ref b1), (.ref r1)])) _
    refine XS.dup X74.here hx rfl (hb hby d_prog_10_method_11_code_23) rfl rfl ?_
    show Steps p.tables e below (T74.setTop (mkF m 24 #[.val (.ref b1), .val (.long vv), .second, .val (.int (4 : Int32)), .val (.int (0 : Int32))] [(.ref b1), (.ref b1), (.ref r1)])) _
    refine st75 _ ?_
    show Steps p.tables e below (T75.setTop (mkF m 27 #[.val (.ref b1), .val (.long vv), .second, .val (.int (4 : Int32)), .val (.int (0 : Int32))] [(.int (Int32.ofNat xs70.length)), (.ref b1), (.ref r1)])) _
    refine XT.dupX1 X75.here hx rfl (hb hby d_prog_10_method_11_code_27) rfl rfl rfl ?_
    show Steps p.tables e below (T75.setTop (mkF m 28 #[.val (.ref b1), .val (.long vv), .second, .val (.int (4 : Int32)), .val (.int (0 : Int32))] [(.int (Int32.ofNat xs70.length)), (.ref b1), (.int (Int32.ofNat xs70.length)), (.ref r1)])) _
    refine XT.iconstV X75.here hx rfl (1 : Int32) (hb hby d_prog_10_method_11_code_28) rfl ?_
    show Steps p.tables e below (T75.setTop (mkF m 29 #[.val (.ref b1), .val (.long vv), .second, .val (.int (4 : Int32)), .val (.int (0 : Int32))] [(.int (1 : Int32)), (.int (Int32.ofNat xs70.length)), (.ref b1), (.int (Int32.ofNat xs70.length)), (.ref r1)])) _
    refine XS.iadd X75.here hx rfl (hb hby d_prog_10_method_11_code_29) rfl ?_
    show Steps p.tables e below (T75.setTop (mkF m 30 #[.val (.ref b1), .val (.long vv), .second, .val (.int (4 : Int32)), .val (.int (0 : Int32))] [(.int ((Int32.ofNat xs70.length) + (1 : Int32))), (.ref b1), (.int (Int32.ofNat xs70.length)), (.ref r1)])) _
    refine st76 _ ?_
    show Steps p.tables e below (T76.setTop (mkF m 33 #[.val (.ref b1), .val (.long vv), .second, .val (.int (4 : Int32)), .val (.int (0 : Int32))] [(.int (Int32.ofNat xs70.length)), (.ref r1)])) _
    refine XT.lloadN X76.here hx rfl (hb hby d_prog_10_method_11_code_33) rfl ?_
    show Steps p.tables e below (T76.setTop (mkF m 34 #[.val (.ref b1), .val (.long vv), .second, .val (.int (4 : Int32)), .val (.int (0 : Int32))] [(.long vv), (.int (Int32.ofNat xs70.length)), (.ref r1)])) _
    refine XS.iload X76.here hx rfl (hb hby d_prog_10_method_11_code_34) rfl ?_
    show Steps p.tables e below (T76.setTop (mkF m 36 #[.val (.ref b1), .val (.long vv), .second, .val (.int (4 : Int32)), .val (.int (0 : Int32))] [(.int (0 : Int32)), (.long vv), (.int (Int32.ofNat xs70.length)), (.ref r1)])) _
    refine XT.lushr X76.here hx rfl (hb hby d_prog_10_method_11_code_36) rfl ?_
    show Steps p.tables e below (T76.setTop (mkF m 37 #[.val (.ref b1), .val (.long vv), .second, .val (.int (4 : Int32)), .val (.int (0 : Int32))] [(.long (XT.ushrL vv (0 : Int32))), (.int (Int32.ofNat xs70.length)), (.ref r1)])) _
    refine XT.l2i X76.here hx rfl (hb hby d_prog_10_method_11_code_37) rfl ?_
    show Steps p.tables e below (T76.setTop (mkF m 38 #[.val (.ref b1), .val (.long vv), .second, .val (.int (4 : Int32)), .val (.int (0 : Int32))] [(.int (XT.ushrL vv (0 : Int32)).toInt32), (.int (Int32.ofNat xs70.length)), (.ref r1)])) _
    refine XT.i2b X76.here hx rfl (hb hby d_prog_10_method_11_code_38) rfl ?_
    show Steps p.tables e below (T76.setTop (mkF m 39 #[.val (.ref b1), .val (.long vv), .second, .val (.int (4 : Int32)), .val (.int (0 : Int32))] [(.int (XT.ushrL vv (0 : Int32)).toInt32.toInt8.toInt32), (.int (Int32.ofNat xs70.length)), (.ref r1)])) _
    refine st81 _ ?_
    show Steps p.tables e below (T81.setTop (mkF m 40 #[.val (.ref b1), .val (.long vv), .second, .val (.int (4 : Int32)), .val (.int (0 : Int32))] [])) _
    refine XT.iincV X81.here hx rfl (-8 : Int32) (hb hby d_prog_10_method_11_code_40) rfl rfl (l' := #[.val (.ref b1), .val (.long vv), .second, .val (.int (4 : Int32)), .val (.int ((0 : Int32) + (-8 : Int32)))]) rfl ?_
    rw [show ((0 : Int32) + (-8 : Int32)) = (-8 : Int32) from by decide]
    show Steps p.tables e below (T81.setTop (mkF m 43 #[.val (.ref b1), .val (.long vv), .second, .val (.int (4 : Int32)), .val (.int (-8 : Int32))] [])) _
    refine XS.goto X81.here hx rfl (pc0 := 43) (pc' := 13) rfl (hb hby d_prog_10_method_11_code_43) (by decide) (by decide) ?_
    show Steps p.tables e below (T81.setTop (mkF m 13 #[.val (.ref b1), .val (.long vv), .second, .val (.int (4 : Int32)), .val (.int (-8 : Int32))] [])) _
    refine XS.iload X81.here hx rfl (hb hby d_prog_10_method_11_code_13) rfl ?_
    show Steps p.tables e below (T81.setTop (mkF m 15 #[.val (.ref b1), .val (.long vv), .second, .val (.int (4 : Int32)), .val (.int (-8 : Int32))] [(.int (-8 : Int32))])) _
    refine XS.ifYes X81.here hx rfl (pc0 := 15) (pc' := 46) rfl (hb hby d_prog_10_method_11_code_15) rfl (by decide) (by decide) (by decide) ?_
    show Steps p.tables e below (T81.setTop (mkF m 46 #[.val (.ref b1), .val (.long vv), .second, .val (.int (4 : Int32)), .val (.int (-8 : Int32))] [])) _
    exact X81.returnOut hx Bd.returns (hb hby d_prog_10_method_11_code_46) hr
  · show own_QK Z none b1 r1 k1 (xs ++ own_b4 vv) h0 n0 _ T81.heap _
    have hq : xs ++ own_b4 vv = xs81 := by rw [hxs81, hxs70, hxs59, hxs48]; simp [own_b4]
    rw [hq, e81]
    exact ⟨rfl, N81, K81, ⟨E_82, Fbytes_83, FL81, V81⟩⟩
theorem d_prog_10_method_3_code_0 : decode prog_10_method_3_code 0 = .ok (.aload_n 0, 1) := by decide +kernel
theorem d_prog_10_method_3_code_1 : decode prog_10_method_3_code 1 = .ok (.iload_n 1, 1) := by decide +kernel
theorem d_prog_10_method_3_code_2 : decode prog_10_method_3_code 2 = .ok (.i2l, 1) := by decide +kernel
theorem d_prog_10_method_3_code_3 : decode prog_10_method_3_code 3 = .ok (.iconst 4, 1) := by decide +kernel
theorem pd__JI_V : parseMethodDescriptor "(JI)V" = some ⟨[.long, .int], none⟩ := by decide +kernel
theorem d_prog_10_method_3_code_4 : decode prog_10_method_3_code 4 = .ok (.invokevirtual 35, 3) := by decide +kernel
theorem d_prog_10_method_3_code_7 : decode prog_10_method_3_code 7 = .ok (.aload_n 0, 1) := by decide +kernel
theorem d_prog_10_method_3_code_8 : decode prog_10_method_3_code 8 = .ok (.areturn, 1) := by decide +kernel
theorem ef_prog_10_method_3_code_AI (m : MethodId) (x0 : Addr) (x1 : Int32) : entryFrame m #[(.ref x0), (.int x1)] 2 = mkF m 0 #[.val (.ref x0), .val (.int x1)] [] := by first | (simp [entryFrame, mkF, argsToLocals, Value.category]; done) | rfl
set_option maxRecDepth 65536 in
set_option maxHeartbeats 40000000 in
theorem own_number (l : Launch) (Z : State) (a0 : Array Value) (hw : ∀ d ∈ tables_1, d.before a0 Z = true) (ws : List Jvm.Cond) (b1 r1 : Addr) (k1 : ClassId) (xs : List Int32) (vv : Int32) (h0 : Heap) (n0 : Nat) (Z0 : n0 ≤ h0.size) (P : own_KB Z h0 b1 r1 k1 xs) (hl : xs.length ≤ 8) (gb : n0 ≤ b1) (gr : n0 ≤ r1) :
    MetFree l (⟨"com/example/chitragupta/chitragupta/ledger/KeyBuilder", "number", "(I)Lcom/example/chitragupta/chitragupta/ledger/KeyBuilder;"⟩ : MethodName) (head1 (Jvm.Cond.code (⟨"com/example/chitragupta/chitragupta/ledger/KeyBuilder", "number", "(I)Lcom/example/chitragupta/chitragupta/ledger/KeyBuilder;"⟩ : MethodName) prog_10_method_3_code 2 (some (.object "com/example/chitragupta/chitragupta/ledger/KeyBuilder")) :: ws) ({ frames := 2, cells := 0, slots := 0, locals := 29 } : Room)) (fun a U => a = #[(.ref b1), (.int vv)] ∧ Z.Warmed39 U.vm ∧ U.heap = h0) (fun _ _ _ _ _ => True) (fun _ U o U' => ∃ v L, o = .returned v ∧ own_QK Z (some (.ref b1)) b1 r1 k1 (xs ++ own_b4 vv.toInt64) h0 n0 v U'.heap L ∧ FrameEnd U o U' L ({ frames := 2, cells := 0, slots := 0, locals := 29 } : Room).cells ({ frames := 2, cells := 0, slots := 0, locals := 29 } : Room).slots) := by
  refine MetFree.of_bodySF (plainFor_of_name pn_com_example_chitragupta_chitragupta_ledger_KeyBuilder) hisR ?_
  intro p e s m args below meth c s₁ Bd hml0 hP hK
  obtain ⟨rfl, hZ, hh⟩ := hP
  have hx := Bd.exec
  have hby := Bd.bytes
  have hml : c.maxLocals = 2 := hml0
  have hown : s.vm.findClass "com/example/chitragupta/chitragupta/ledger/KeyBuilder" = some m.cls := findClass_of_methodNamed Bd.named
  have hnm := (name_of_methodNamed Bd.named Bd.method).1
  have X0 : Stand p l e ({ frames := 2, cells := 0, slots := 0, locals := 29 } : Room) s m #[(.ref b1), (.int vv)] below meth c s₁ [] 0 0 := Stand.of_body Bd
  have e0 : s₁.heap = h0 := by rw [← hh, Bd.state]; rfl
  have N0 := Fr.nil n0
  have pre0 : ∀ t, Steps p.tables e below (s₁.setTop (mkF m 0 #[.val (.ref b1), .val (.int vv)] [])) t → Steps p.tables e below (s₁.setTop (entryFrame m #[(.ref b1), (.int vv)] 2)) t := fun t k => castTop (ef_prog_10_method_3_code_AI m b1 vv) k
  obtain ⟨E_85, Fbytes_86, Flength_87, V_88⟩ := id P
  have ne_b1_r1 : b1 ≠ r1 := E_85.neArv V_88 (hw _ (List.mem_of_getElem? (i := 1) rfl))
  obtain ⟨cq89, qa89, qb89⟩ := E_85.cell
  obtain ⟨_, _, ⟨T89, L89, k89, n89⟩, -, X89, ⟨Lc89, hQ89, l89, y89, z89⟩, st89⟩ := X0.privateBack hx (y := (⟨"com/example/chitragupta/chitragupta/ledger/KeyBuilder", "append", "(JI)V"⟩ : MethodName)) hown (mvT hZ (hw _ (List.mem_of_getElem? (i := 37) rfl))) (mvT hZ (hw _ (List.mem_of_getElem? (i := 38) rfl))) (own_selP (mvT hZ (hw _ (List.mem_of_getElem? (i := 15) rfl))) rfl (Cond.privateMethod_at (mvP hZ (hw _ (List.mem_of_getElem? (i := 39) rfl)) (args := #[]))) (mvT hZ (hw _ (List.mem_of_getElem? (i := 38) rfl))) (by decide)) (Cond.privateMethod_at (mvP hZ (hw _ (List.mem_of_getElem? (i := 39) rfl)) (args := #[]))) (mvT hZ (hw _ (List.mem_of_getElem? (i := 40) rfl))) (by decide) (backOf (W := 0) (own_appJ l Z a0 hw [] b1 r1 k1 xs vv.toInt64 h0 n0 Z0 ⟨E_85, Fbytes_86, Flength_87, V_88⟩ hl gb gr) hZ (hw _ (List.mem_of_getElem? (i := 40) rfl)) (hw _ (List.mem_of_getElem? (i := 2) rfl)) (by decide) (by decide)) (g := (mkF m 4 #[.val (.ref b1), .val (.int vv)] [(.int (4 : Int32)), (.long vv.toInt64), (.ref b1)])) rfl (by rw [hml]; rfl) (Steps.refl _) (a := b1) (by rw [e0]; exact qa89) qb89 (argsL := [(.long vv.toInt64), (.int (4 : Int32))]) (rest := []) (lenOf pd__JI_V rfl) rfl (by show 2 * 0 + _ ≤ _; exact Nat.le_of_eq rfl) (hb hby d_prog_10_method_3_code_4) (fun _ _ => ⟨rfl, e0, (by decide : 0 + 0 ≤ _), (by decide : 0 + 0 ≤ _)⟩)
  dsimp only [Pt.U, Pt.locs, Pt.cells, Pt.slots] at X89 l89 y89 z89 st89 hQ89
  subst l89 y89 z89
  obtain ⟨rfl, N89q, K89q, B89q⟩ := hQ89
  have N89 := Fr.app N0 N89q
  have E_90 := E_85.keep K89q
  have K89 : Keep h0 T89.heap [b1, r1] := (Keep.refl h0 [b1, r1]).trans K89q (allS (Or.inl (List.mem_of_getElem? (i := 0) rfl)) (allS (Or.inl (List.mem_of_getElem? (i := 1) rfl)) all0))
  have Z89 : n0 ≤ T89.heap.size := Nat.le_trans Z0 K89.1
  obtain ⟨E_91, Fbytes_92, Flength_93, V_94⟩ := id B89q
  obtain ⟨fs, hr, hrun, hended, hW, hsame⟩ := X89.leave (v := some (.ref b1)) (fun h => by rw [Bd.returns] at h; cases h)
  refine ⟨_, _, pre0 _ ?_, hrun, hended, _, _, rfl, ?_, ⟨_, rfl⟩, hW, hsame.mono (by decide) (by decide)⟩
  · show Steps p.tables e below (s₁.setTop (mkF m 0 #[.val (.ref b1), .val (.int vv)] [])) _
    refine XS.aloadN X0.here hx rfl (hb hby d_prog_10_method_3_code_0) rfl rfl ?_
    show Steps p.tables e below (s₁.setTop (mkF m 1 #[.val (.ref b1), .val (.int vv)] [(.ref b1)])) _
    refine XS.iloadN X0.here hx rfl (hb hby d_prog_10_method_3_code_1) rfl ?_
    show Steps p.tables e below (s₁.setTop (mkF m 2 #[.val (.ref b1), .val (.int vv)] [(.int vv), (.ref b1)])) _
    refine XT.i2l X0.here hx rfl (hb hby d_prog_10_method_3_code_2) rfl ?_
    show Steps p.tables e below (s₁.setTop (mkF m 3 #[.val (.ref b1), .val (.int vv)] [(.long vv.toInt64), (.ref b1)])) _
    refine XT.iconstV X0.here hx rfl (4 : Int32) (hb hby d_prog_10_method_3_code_3) rfl ?_
    show Steps p.tables e below (s₁.setTop (mkF m 4 #[.val (.ref b1), .val (.int vv)] [(.int (4 : Int32)), (.long vv.toInt64), (.ref b1)])) _
    refine st89.trans ?_
    show Steps p.tables e below (T89.setTop (mkF m 7 #[.val (.ref b1), .val (.int vv)] [])) _
    refine XS.aloadN X89.here hx rfl (hb hby d_prog_10_method_3_code_7) rfl rfl ?_
    show Steps p.tables e below (T89.setTop (mkF m 8 #[.val (.ref b1), .val (.int vv)] [(.ref b1)])) _
    jvm_step X89.here [X89.here.top, hx, (hb hby d_prog_10_method_3_code_8), X89.method', Bd.returns, Value.isRef, FieldType.isReference]
    first | (intro acts; rw [hr _ acts rfl rfl rfl]) | rw [hr _ _ rfl rfl rfl]
    exact Steps.refl _
  · show own_QK Z (some (.ref b1)) b1 r1 k1 (xs ++ own_b4 vv.toInt64) h0 n0 _ T89.heap _
    exact ⟨rfl, N89, K89, ⟨E_91, Fbytes_92, Flength_93, V_94⟩⟩
def own_St (Z : State) (h : Heap) (t : Addr) (u : Addr) (k : ClassId) (n : Int32) (ys : List Int32) : Prop := (Exa Z h t "java/lang/String") ∧ (Fld Z h t "java/lang/String" "value" "[B" (.ref u)) ∧ (Fld Z h t "java/lang/String" "coder" "B" (.int (0 : Int32))) ∧ (Exa Z h u "[B") ∧ (Arv Z h u k .byte n (ys.map Value.int) (.int (0 : Int32)))
theorem own_St_ext {Z : State} {h h' : Heap} {t : Addr} {u : Addr} {k : ClassId} {n : Int32} {ys : List Int32} (P : own_St Z h t u k n ys) (E : Ext h h') : own_St Z h' t u k n ys := by
  obtain ⟨f0, f1, f2, f3, f4⟩ := P
  exact ⟨f0.ext E, f1.ext E, f2.ext E, f3.ext E, f4.ext E⟩
theorem d_jdk_43_method_3_code_0 : decode jdk_43_method_3_code 0 = .ok (.iload_n 0, 1) := by decide +kernel
theorem d_jdk_43_method_3_code_1 : decode jdk_43_method_3_code 1 = .ok (.sipush 255, 3) := by decide +kernel
theorem d_jdk_43_method_3_code_4 : decode jdk_43_method_3_code 4 = .ok (.if_icmp .gt 7, 3) := by decide +kernel
theorem d_jdk_43_method_3_code_7 : decode jdk_43_method_3_code 7 = .ok (.iconst 1, 1) := by decide +kernel
theorem d_jdk_43_method_3_code_8 : decode jdk_43_method_3_code 8 = .ok (.goto 4, 3) := by decide +kernel
theorem d_jdk_43_method_3_code_12 : decode jdk_43_method_3_code 12 = .ok (.ireturn, 1) := by decide +kernel
theorem ef_jdk_43_method_3_code_I (m : MethodId) (x0 : Int32) : entryFrame m #[(.int x0)] 1 = mkF m 0 #[.val (.int x0)] [] := by first | (simp [entryFrame, mkF, argsToLocals, Value.category]; done) | rfl
theorem pf_jdk_43_method_3_code : plainFor (⟨"java/lang/StringLatin1", "canEncode", "(C)Z"⟩ : MethodName) = true := by decide +kernel
set_option maxRecDepth 65536 in
set_option maxHeartbeats 40000000 in
theorem own_canEnc (l : Launch) (Z : State) (a0 : Array Value) (hw : ∀ d ∈ tables_1, d.before a0 Z = true) (ws : List Jvm.Cond) (cc : Int32) (h0 : Heap) (n0 : Nat) (Z0 : n0 ≤ h0.size) (hc : ¬ (255 : Int32) < cc) :
    MetFree l (⟨"java/lang/StringLatin1", "canEncode", "(C)Z"⟩ : MethodName) (head1 (Jvm.Cond.code (⟨"java/lang/StringLatin1", "canEncode", "(C)Z"⟩ : MethodName) jdk_43_method_3_code 1 (some .boolean) :: ws) ({ frames := 0, cells := 0, slots := 0, locals := 0 } : Room)) (fun a U => a = #[(.int cc)] ∧ Z.Warmed39 U.vm ∧ U.heap = h0) (fun _ _ _ _ _ => True) (fun _ U o U' => ∃ v L, o = .returned v ∧ own_Q (some (.int (1 : Int32))) h0 n0 v U'.heap L ∧ FrameEnd U o U' L ({ frames := 0, cells := 0, slots := 0, locals := 0 } : Room).cells ({ frames := 0, cells := 0, slots := 0, locals := 0 } : Room).slots) := by
  refine MetFree.of_bodySF pf_jdk_43_method_3_code hisR ?_
  intro p e s m args below meth c s₁ Bd hml0 hP hK
  obtain ⟨rfl, hZ, hh⟩ := hP
  have hx := Bd.exec
  have hby := Bd.bytes
  have hml : c.maxLocals = 1 := hml0
  have hown : s.vm.findClass "java/lang/StringLatin1" = some m.cls := findClass_of_methodNamed Bd.named
  have hnm := (name_of_methodNamed Bd.named Bd.method).1
  have X0 : Stand p l e ({ frames := 0, cells := 0, slots := 0, locals := 0 } : Room) s m #[(.int cc)] below meth c s₁ [] 0 0 := Stand.of_body Bd
  have e0 : s₁.heap = h0 := by rw [← hh, Bd.state]; rfl
  have N0 := Fr.nil n0
  have pre0 : ∀ t, Steps p.tables e below (s₁.setTop (mkF m 0 #[.val (.int cc)] [])) t → Steps p.tables e below (s₁.setTop (entryFrame m #[(.int cc)] 1)) t := fun t k => castTop (ef_jdk_43_method_3_code_I m cc) k
  obtain ⟨fs, hr, hrun, hended, hW, hsame⟩ := X0.leave (v := some (.int (1 : Int32))) (fun h => by rw [Bd.returns] at h; cases h)
  refine ⟨_, _, pre0 _ ?_, hrun, hended, _, _, rfl, ?_, ⟨_, rfl⟩, hW, hsame.mono (by decide) (by decide)⟩
  · show Steps p.tables e below (s₁.setTop (mkF m 0 #[.val (.int cc)] [])) _
    refine XS.iloadN X0.here hx rfl (hb hby d_jdk_43_method_3_code_0) rfl ?_
    show Steps p.tables e below (s₁.setTop (mkF m 1 #[.val (.int cc)] [(.int cc)])) _
    refine XT.sipushV X0.here hx rfl (255 : Int32) (hb hby d_jdk_43_method_3_code_1) (by decide) ?_
    show Steps p.tables e below (s₁.setTop (mkF m 4 #[.val (.int cc)] [(.int (255 : Int32)), (.int cc)])) _
    refine XS.icmpNo X0.here hx rfl (hb hby d_jdk_43_method_3_code_4) rfl (XT.ii_gt_f hc) ?_
    show Steps p.tables e below (s₁.setTop (mkF m 7 #[.val (.int cc)] [])) _
    refine XT.iconstV X0.here hx rfl (1 : Int32) (hb hby d_jdk_43_method_3_code_7) rfl ?_
    show Steps p.tables e below (s₁.setTop (mkF m 8 #[.val (.int cc)] [(.int (1 : Int32))])) _
    refine XS.goto X0.here hx rfl (pc0 := 8) (pc' := 12) rfl (hb hby d_jdk_43_method_3_code_8) (by decide) (by decide) ?_
    show Steps p.tables e below (s₁.setTop (mkF m 12 #[.val (.int cc)] [(.int (1 : Int32))])) _
    exact retN X0 hx (t := .boolean) Bd.returns (by simp) (hb hby d_jdk_43_method_3_code_12) hr
  · show own_Q (some (.int (1 : Int32))) h0 n0 _ s₁.heap _
    rw [e0]
    exact ⟨rfl, N0, rfl⟩
def own_QB (Z : State) (n : Int32) (ys : List Int32) (h0 : Heap) (n0 : Nat) (v : Option Value) (h : Heap) (L : List Loc) : Prop := ∃ t k, v = some (.ref t) ∧ Fr n0 L ∧ Ext h0 h ∧ h0.size ≤ t ∧ Exa Z h t "[B" ∧ Arv Z h t k .byte n (ys.map Value.int) (.int 0)
theorem d_jdk_43_method_46_code_0 : decode jdk_43_method_46_code 0 = .ok (.iconst 1, 1) := by decide +kernel
theorem d_jdk_43_method_46_code_1 : decode jdk_43_method_46_code 1 = .ok (.newarray .byte, 2) := by decide +kernel
theorem d_jdk_43_method_46_code_3 : decode jdk_43_method_46_code 3 = .ok (.dup, 1) := by decide +kernel
theorem d_jdk_43_method_46_code_4 : decode jdk_43_method_46_code 4 = .ok (.iconst 0, 1) := by decide +kernel
theorem d_jdk_43_method_46_code_5 : decode jdk_43_method_46_code 5 = .ok (.iload_n 0, 1) := by decide +kernel
theorem d_jdk_43_method_46_code_6 : decode jdk_43_method_46_code 6 = .ok (.i2b, 1) := by decide +kernel
theorem d_jdk_43_method_46_code_7 : decode jdk_43_method_46_code 7 = .ok (.bastore, 1) := by decide +kernel
theorem d_jdk_43_method_46_code_8 : decode jdk_43_method_46_code 8 = .ok (.areturn, 1) := by decide +kernel
theorem ef_jdk_43_method_46_code_I (m : MethodId) (x0 : Int32) : entryFrame m #[(.int x0)] 1 = mkF m 0 #[.val (.int x0)] [] := by first | (simp [entryFrame, mkF, argsToLocals, Value.category]; done) | rfl
theorem pf_jdk_43_method_46_code : plainFor (⟨"java/lang/StringLatin1", "toBytes", "(C)[B"⟩ : MethodName) = true := by decide +kernel
set_option maxRecDepth 65536 in
set_option maxHeartbeats 40000000 in
theorem own_toBytes (l : Launch) (Z : State) (a0 : Array Value) (hw : ∀ d ∈ tables_1, d.before a0 Z = true) (ws : List Jvm.Cond) (cc : Int32) (h0 : Heap) (n0 : Nat) (Z0 : n0 ≤ h0.size)  :
    MetFree l (⟨"java/lang/StringLatin1", "toBytes", "(C)[B"⟩ : MethodName) (head1 (Jvm.Cond.code (⟨"java/lang/StringLatin1", "toBytes", "(C)[B"⟩ : MethodName) jdk_43_method_46_code 1 (some (.array .byte)) :: ws) ({ frames := 0, cells := 1, slots := 1, locals := 0 } : Room)) (fun a U => a = #[(.int cc)] ∧ Z.Warmed39 U.vm ∧ U.heap = h0) (fun _ _ _ _ _ => True) (fun _ U o U' => ∃ v L, o = .returned v ∧ own_QB Z (1 : Int32) [(nar .byte cc.toInt8.toInt32)] h0 n0 v U'.heap L ∧ FrameEnd U o U' L ({ frames := 0, cells := 1, slots := 1, locals := 0 } : Room).cells ({ frames := 0, cells := 1, slots := 1, locals := 0 } : Room).slots) := by
  refine MetFree.of_bodySF pf_jdk_43_method_46_code hisR ?_
  intro p e s m args below meth c s₁ Bd hml0 hP hK
  obtain ⟨rfl, hZ, hh⟩ := hP
  have hx := Bd.exec
  have hby := Bd.bytes
  have hml : c.maxLocals = 1 := hml0
  have hown : s.vm.findClass "java/lang/StringLatin1" = some m.cls := findClass_of_methodNamed Bd.named
  have hnm := (name_of_methodNamed Bd.named Bd.method).1
  have X0 : Stand p l e ({ frames := 0, cells := 1, slots := 1, locals := 0 } : Room) s m #[(.int cc)] below meth c s₁ [] 0 0 := Stand.of_body Bd
  have e0 : s₁.heap = h0 := by rw [← hh, Bd.state]; rfl
  have N0 := Fr.nil n0
  have pre0 : ∀ t, Steps p.tables e below (s₁.setTop (mkF m 0 #[.val (.int cc)] [])) t → Steps p.tables e below (s₁.setTop (entryFrame m #[(.int cc)] 1)) t := fun t k => castTop (ef_jdk_43_method_46_code_I m cc) k
  obtain ⟨T95, h95, k95, X95, e95, E95, A95, AE95, st95⟩ := newPE X0 hx hZ (hw _ (List.mem_of_getElem? (i := 9) rfl)) e0 (g := (mkF m 1 #[.val (.int cc)] [(.int (1 : Int32))])) rfl (hb hby d_jdk_43_method_46_code_1) rfl (by decide) (cap := 1) (by decide) (by decide) (by decide) (by decide) (ad := "[B") (by decide)
  obtain ⟨b95, g95⟩ : ∃ z, z = h0.size := ⟨_, rfl⟩
  rw [← g95] at A95 AE95 st95
  have V95 : Arv Z h95 b95 k95 .byte (1 : Int32) (List.replicate 1 (.int 0)) (.int 0) := (Arv.new A95 (by decide)).pad (fun i => pad_rep [] (.int 0) 1 i)
  have q95 : h0.size ≤ b95 := by rw [g95]; exact Nat.le_refl _
  have EX95 : Ext h0 h95 := E95
  have Z95 : n0 ≤ h95.size := Nat.le_trans Z0 EX95.1
  obtain ⟨T96, h96, X96, e96, W96, V96, st96⟩ := own_stBl X95 hx hZ e95 V95 (j := (0 : Int32)) (by decide) (i := 0) (by decide) (by simp) (g := (mkF m 7 #[.val (.int cc)] [(.int cc.toInt8.toInt32), (.int (0 : Int32)), (.ref b95), (.ref b95)])) rfl rfl (hb hby d_jdk_43_method_46_code_7)
  have AE95_97 := AE95.wr W96
  have EX96 : Ext h0 h96 := own_ext_wr EX95 W96 q95
  have Z96 : n0 ≤ h96.size := Nat.le_trans Z0 EX96.1
  have N96 := Fr.snoc X96 N0 (Nat.le_trans Z0 q95)
  obtain ⟨fs, hr, hrun, hended, hW, hsame⟩ := X96.leave (v := some (.ref b95)) (fun h => by rw [Bd.returns] at h; cases h)
  refine ⟨_, _, pre0 _ ?_, hrun, hended, _, _, rfl, ?_, ⟨_, rfl⟩, hW, hsame.mono (by decide) (by decide)⟩
  · show Steps p.tables e below (s₁.setTop (mkF m 0 #[.val (.int cc)] [])) _
    refine XT.iconstV X0.here hx rfl (1 : Int32) (hb hby d_jdk_43_method_46_code_0) rfl ?_
    show Steps p.tables e below (s₁.setTop (mkF m 1 #[.val (.int cc)] [(.int (1 : Int32))])) _
    refine st95 _ ?_
    show Steps p.tables e below (T95.setTop (mkF m 3 #[.val (.int cc)] [(.ref b95)])) _
    refine XS.dup X95.here hx rfl (hb hby d_jdk_43_method_46_code_3) rfl rfl ?_
    show Steps p.tables e below (T95.setTop (mkF m 4 #[.val (.int cc)] [(.ref b95), (.ref b95)])) _
    refine XT.iconstV X95.here hx rfl (0 : Int32) (hb hby d_jdk_43_method_46_code_4) rfl ?_
    show Steps p.tables e below (T95.setTop (mkF m 5 #[.val (.int cc)] [(.int (0 : Int32)), (.ref b95), (.ref b95)])) _
    refine XS.iloadN X95.here hx rfl (hb hby d_jdk_43_method_46_code_5) rfl ?_
    show Steps p.tables e below (T95.setTop (mkF m 6 #[.val (.int cc)] [(.int cc), (.int (0 : Int32)), (.ref b95), (.ref b95)])) _
    refine XT.i2b X95.here hx rfl (hb hby d_jdk_43_method_46_code_6) rfl ?_
    show Steps p.tables e below (T95.setTop (mkF m 7 #[.val (.int cc)] [(.int cc.toInt8.toInt32), (.int (0 : Int32)), (.ref b95), (.ref b95)])) _
    refine st96 _ ?_
    show Steps p.tables e below (T96.setTop (mkF m 8 #[.val (.int cc)] [(.ref b95)])) _
    jvm_step X96.here [X96.here.top, hx, (hb hby d_jdk_43_method_46_code_8), X96.method', Bd.returns, Value.isRef, FieldType.isReference]
    first | (intro acts; rw [hr _ acts rfl rfl rfl]) | rw [hr _ _ rfl rfl rfl]
    exact Steps.refl _
  · show own_QB Z (1 : Int32) [(nar .byte cc.toInt8.toInt32)] h0 n0 _ T96.heap _
    rw [e96]
    exact ⟨b95, k95, rfl, N96, EX96, q95, AE95_97, V96⟩
def own_QS0 (Z : State) (a u : Addr) (h0 : Heap) (n0 : Nat) (v : Option Value) (h : Heap) (L : List Loc) : Prop := v = none ∧ Fr n0 L ∧ Keep h0 h [a] ∧ Fld Z h a "java/lang/String" "value" "[B" (.ref u) ∧ Fld Z h a "java/lang/String" "coder" "B" (.int 0)
theorem d_jdk_42_method_151_code_0 : decode jdk_42_method_151_code 0 = .ok (.aload_n 0, 1) := by decide +kernel
theorem d_jdk_42_method_151_code_1 : decode jdk_42_method_151_code 1 = .ok (.invokespecial 1, 3) := by decide +kernel
theorem d_jdk_42_method_151_code_4 : decode jdk_42_method_151_code 4 = .ok (.aload_n 0, 1) := by decide +kernel
theorem d_jdk_42_method_151_code_5 : decode jdk_42_method_151_code 5 = .ok (.aload_n 1, 1) := by decide +kernel
theorem d_jdk_42_method_151_code_6 : decode jdk_42_method_151_code 6 = .ok (.putfield 9, 3) := by decide +kernel
theorem d_jdk_42_method_151_code_9 : decode jdk_42_method_151_code 9 = .ok (.aload_n 0, 1) := by decide +kernel
theorem d_jdk_42_method_151_code_10 : decode jdk_42_method_151_code 10 = .ok (.iload_n 2, 1) := by decide +kernel
theorem d_jdk_42_method_151_code_11 : decode jdk_42_method_151_code 11 = .ok (.putfield 15, 3) := by decide +kernel
theorem d_jdk_42_method_151_code_14 : decode jdk_42_method_151_code 14 = .ok (.return_, 1) := by decide +kernel
theorem ef_jdk_42_method_151_code_AAI (m : MethodId) (x0 : Addr) (x1 : Addr) (x2 : Int32) : entryFrame m #[(.ref x0), (.ref x1), (.int x2)] 3 = mkF m 0 #[.val (.ref x0), .val (.ref x1), .val (.int x2)] [] := by first | (simp [entryFrame, mkF, argsToLocals, Value.category]; done) | rfl
theorem pf_jdk_42_method_151_code : plainFor (⟨"java/lang/String", "<init>", "([BB)V"⟩ : MethodName) = true := by decide +kernel
set_option maxRecDepth 65536 in
set_option maxHeartbeats 40000000 in
theorem own_initS (l : Launch) (Z : State) (a0 : Array Value) (hw : ∀ d ∈ tables_1, d.before a0 Z = true) (ws : List Jvm.Cond) (a1 u1 : Addr) (h0 : Heap) (n0 : Nat) (Z0 : n0 ≤ h0.size) (E1 : Exa Z h0 a1 "java/lang/String") (G1 : Fld Z h0 a1 "java/lang/String" "value" "[B" .null) (G2 : Fld Z h0 a1 "java/lang/String" "coder" "B" (.int (0 : Int32))) (g1 : n0 ≤ a1) :
    MetFree l (⟨"java/lang/String", "<init>", "([BB)V"⟩ : MethodName) (head1 (Jvm.Cond.code (⟨"java/lang/String", "<init>", "([BB)V"⟩ : MethodName) jdk_42_method_151_code 3 none :: ws) ({ frames := 1, cells := 0, slots := 0, locals := 12 } : Room)) (fun a U => a = #[(.ref a1), (.ref u1), (.int (0 : Int32))] ∧ Z.Warmed39 U.vm ∧ U.heap = h0) (fun _ _ _ _ _ => True) (fun _ U o U' => ∃ v L, o = .returned v ∧ own_QS0 Z a1 u1 h0 n0 v U'.heap L ∧ FrameEnd U o U' L ({ frames := 1, cells := 0, slots := 0, locals := 12 } : Room).cells ({ frames := 1, cells := 0, slots := 0, locals := 12 } : Room).slots) := by
  refine MetFree.of_bodySF pf_jdk_42_method_151_code hisR ?_
  intro p e s m args below meth c s₁ Bd hml0 hP hK
  obtain ⟨rfl, hZ, hh⟩ := hP
  have hx := Bd.exec
  have hby := Bd.bytes
  have hml : c.maxLocals = 3 := hml0
  have hown : s.vm.findClass "java/lang/String" = some m.cls := findClass_of_methodNamed Bd.named
  have hnm := (name_of_methodNamed Bd.named Bd.method).1
  have X0 : Stand p l e ({ frames := 1, cells := 0, slots := 0, locals := 12 } : Room) s m #[(.ref a1), (.ref u1), (.int (0 : Int32))] below meth c s₁ [] 0 0 := Stand.of_body Bd
  have e0 : s₁.heap = h0 := by rw [← hh, Bd.state]; rfl
  have N0 := Fr.nil n0
  have pre0 : ∀ t, Steps p.tables e below (s₁.setTop (mkF m 0 #[.val (.ref a1), .val (.ref u1), .val (.int (0 : Int32))] [])) t → Steps p.tables e below (s₁.setTop (entryFrame m #[(.ref a1), (.ref u1), (.int (0 : Int32))] 3)) t := fun t k => castTop (ef_jdk_42_method_151_code_AAI m a1 u1 (0 : Int32)) k
  obtain ⟨T98, X98, e98, st98⟩ := initO X0 hx hZ hown (hw _ (List.mem_of_getElem? (i := 70) rfl)) (hw _ (List.mem_of_getElem? (i := 7) rfl)) (hw _ (List.mem_of_getElem? (i := 8) rfl)) e0 (g := (mkF m 1 #[.val (.ref a1), .val (.ref u1), .val (.int (0 : Int32))] [(.ref a1)])) rfl (by rw [hml]; rfl) rfl (hb hby d_jdk_42_method_151_code_1) (by decide) (W := 0) (by show 2 * 0 + _ ≤ _; exact Nat.le_of_eq rfl) (by decide)
  obtain ⟨T99, h99, X99, e99, W99, st99⟩ := putF X98 hx hZ hown (host := "") (Or.inl (hw _ (List.mem_of_getElem? (i := 71) rfl))) Via.refl e98 G1 E1 (Or.inr ⟨(hw _ (List.mem_of_getElem? (i := 72) rfl)), rfl, hnm⟩) (hw _ (List.mem_of_getElem? (i := 62) rfl)) (ty := (.array .byte)) (by decide) rfl rfl (g := (mkF m 6 #[.val (.ref a1), .val (.ref u1), .val (.int (0 : Int32))] [(.ref u1), (.ref a1)])) rfl rfl (hb hby d_jdk_42_method_151_code_6)
  have E1_100 := E1.wr W99
  have G2_101 := G2.other W99 (Or.inr (slot_ne (Or.inr (hw _ (List.mem_of_getElem? (i := 74) rfl))) (Or.inr (hw _ (List.mem_of_getElem? (i := 72) rfl))) (by decide) (t := .byte) (t' := (.array .byte)) (by decide) (by decide)))
  have K99 : Keep h0 h99 [a1] := (Keep.refl _ _).wr W99 (Or.inl (List.mem_of_getElem? (i := 0) rfl))
  have Z99 : n0 ≤ h99.size := Nat.le_trans Z0 K99.1
  have N99 := Fr.snoc X99 N0 g1
  have Fvalue_102 : Fld Z h99 a1 "java/lang/String" "value" "[B" (.ref u1) := G1.same W99
  obtain ⟨T103, h103, X103, e103, W103, st103⟩ := putF X99 hx hZ hown (host := "") (Or.inl (hw _ (List.mem_of_getElem? (i := 73) rfl))) Via.refl e99 G2_101 E1_100 (Or.inr ⟨(hw _ (List.mem_of_getElem? (i := 74) rfl)), rfl, hnm⟩) (hw _ (List.mem_of_getElem? (i := 62) rfl)) (ty := .byte) (by decide) (by decide) (by decide) (g := (mkF m 11 #[.val (.ref a1), .val (.ref u1), .val (.int (0 : Int32))] [(.int (0 : Int32)), (.ref a1)])) rfl rfl (hb hby d_jdk_42_method_151_code_11)
  have E1_104 := E1_100.wr W103
  have Fvalue_105 := Fvalue_102.other W103 (Or.inr (slot_ne (Or.inr (hw _ (List.mem_of_getElem? (i := 72) rfl))) (Or.inr (hw _ (List.mem_of_getElem? (i := 74) rfl))) (by decide) (t := (.array .byte)) (t' := .byte) (by decide) (by decide)))
  have K103 : Keep h0 h103 [a1] := K99.wr W103 (Or.inl (List.mem_of_getElem? (i := 0) rfl))
  have Z103 : n0 ≤ h103.size := Nat.le_trans Z0 K103.1
  have N103 := Fr.snoc X103 N99 g1
  have Fcoder_106 : Fld Z h103 a1 "java/lang/String" "coder" "B" (.int (0 : Int32)) := G2_101.same W103
  obtain ⟨fs, hr, hrun, hended, hW, hsame⟩ := X103.leave (v := none) (fun _ => rfl)
  refine ⟨_, _, pre0 _ ?_, hrun, hended, _, _, rfl, ?_, ⟨_, rfl⟩, hW, hsame.mono (by decide) (by decide)⟩
  · show Steps p.tables e below (s₁.setTop (mkF m 0 #[.val (.ref a1), .val (.ref u1), .val (.int (0 : Int32))] [])) _
    refine XS.aloadN X0.here hx rfl (hb hby d_jdk_42_method_151_code_0) rfl rfl ?_
    show Steps p.tables e below (s₁.setTop (mkF m 1 #[.val (.ref a1), .val (.ref u1), .val (.int (0 : Int32))] [(.ref a1)])) _
    refine st98 _ ?_
    show Steps p.tables e below (T98.setTop (mkF m 4 #[.val (.ref a1), .val (.ref u1), .val (.int (0 : Int32))] [])) _
    refine XS.aloadN X98.here hx rfl (hb hby d_jdk_42_method_151_code_4) rfl rfl ?_
    show Steps p.tables e below (T98.setTop (mkF m 5 #[.val (.ref a1), .val (.ref u1), .val (.int (0 : Int32))] [(.ref a1)])) _
    refine XS.aloadN X98.here hx rfl (hb hby d_jdk_42_method_151_code_5) rfl rfl ?_
    show Steps p.tables e below (T98.setTop (mkF m 6 #[.val (.ref a1), .val (.ref u1), .val (.int (0 : Int32))] [(.ref u1), (.ref a1)])) _
    refine st99 _ ?_
    show Steps p.tables e below (T99.setTop (mkF m 9 #[.val (.ref a1), .val (.ref u1), .val (.int (0 : Int32))] [])) _
    refine XS.aloadN X99.here hx rfl (hb hby d_jdk_42_method_151_code_9) rfl rfl ?_
    show Steps p.tables e below (T99.setTop (mkF m 10 #[.val (.ref a1), .val (.ref u1), .val (.int (0 : Int32))] [(.ref a1)])) _
    refine XS.iloadN X99.here hx rfl (hb hby d_jdk_42_method_151_code_10) rfl ?_
    show Steps p.tables e below (T99.setTop (mkF m 11 #[.val (.ref a1), .val (.ref u1), .val (.int (0 : Int32))] [(.int (0 : Int32)), (.ref a1)])) _
    refine st103 _ ?_
    show Steps p.tables e below (T103.setTop (mkF m 14 #[.val (.ref a1), .val (.ref u1), .val (.int (0 : Int32))] [])) _
    exact X103.returnOut hx Bd.returns (hb hby d_jdk_42_method_151_code_14) hr
  · show own_QS0 Z a1 u1 h0 n0 _ T103.heap _
    rw [e103]
    exact ⟨rfl, N103, K103, Fvalue_105, Fcoder_106⟩
def own_QV (Z : State) (n : Int32) (ys : List Int32) (h0 : Heap) (n0 : Nat) (v : Option Value) (h : Heap) (L : List Loc) : Prop := ∃ t u k, v = some (.ref t) ∧ Fr n0 L ∧ Ext h0 h ∧ h0.size ≤ t ∧ h0.size ≤ u ∧ t ≠ u ∧ own_St Z h t u k n ys
theorem d_jdk_42_method_139_code_0 : decode jdk_42_method_139_code 0 = .ok (.getstatic 38, 3) := by decide +kernel
theorem d_jdk_42_method_139_code_3 : decode jdk_42_method_139_code 3 = .ok (.ifCond .eq 23, 3) := by decide +kernel
theorem d_jdk_42_method_139_code_6 : decode jdk_42_method_139_code 6 = .ok (.iload_n 0, 1) := by decide +kernel
theorem pd__C_Z : parseMethodDescriptor "(C)Z" = some ⟨[.char], (some .boolean)⟩ := by decide +kernel
theorem d_jdk_42_method_139_code_7 : decode jdk_42_method_139_code 7 = .ok (.invokestatic 1015, 3) := by decide +kernel
theorem d_jdk_42_method_139_code_10 : decode jdk_42_method_139_code 10 = .ok (.ifCond .eq 16, 3) := by decide +kernel
theorem d_jdk_42_method_139_code_13 : decode jdk_42_method_139_code 13 = .ok (.new 10, 3) := by decide +kernel
theorem d_jdk_42_method_139_code_16 : decode jdk_42_method_139_code 16 = .ok (.dup, 1) := by decide +kernel
theorem d_jdk_42_method_139_code_17 : decode jdk_42_method_139_code 17 = .ok (.iload_n 0, 1) := by decide +kernel
theorem pd__C_ArB : parseMethodDescriptor "(C)[B" = some ⟨[.char], (some (.array .byte))⟩ := by decide +kernel
theorem d_jdk_42_method_139_code_18 : decode jdk_42_method_139_code 18 = .ok (.invokestatic 1018, 3) := by decide +kernel
theorem d_jdk_42_method_139_code_21 : decode jdk_42_method_139_code 21 = .ok (.iconst 0, 1) := by decide +kernel
theorem pd__ArBB_V : parseMethodDescriptor "([BB)V" = some ⟨[(.array .byte), .byte], none⟩ := by decide +kernel
theorem d_jdk_42_method_139_code_22 : decode jdk_42_method_139_code 22 = .ok (.invokespecial 209, 3) := by decide +kernel
theorem d_jdk_42_method_139_code_25 : decode jdk_42_method_139_code 25 = .ok (.areturn, 1) := by decide +kernel
theorem ef_jdk_42_method_139_code_I (m : MethodId) (x0 : Int32) : entryFrame m #[(.int x0)] 1 = mkF m 0 #[.val (.int x0)] [] := by first | (simp [entryFrame, mkF, argsToLocals, Value.category]; done) | rfl
theorem pf_jdk_42_method_139_code : plainFor (⟨"java/lang/String", "valueOf", "(C)Ljava/lang/String;"⟩ : MethodName) = true := by decide +kernel
set_option maxRecDepth 65536 in
set_option maxHeartbeats 40000000 in
theorem own_valueOf (l : Launch) (Z : State) (a0 : Array Value) (hw : ∀ d ∈ tables_1, d.before a0 Z = true) (ws : List Jvm.Cond) (i7 cc : Int32) (h0 : Heap) (n0 : Nat) (Z0 : n0 ≤ h0.size) (S8 : Sta Z h0 "java/lang/String" "COMPACT_STRINGS" "Z" (.int i7)) (c9 : ¬ (i7 = (0 : Int32))) (hc : ¬ (255 : Int32) < cc) :
    MetFree l (⟨"java/lang/String", "valueOf", "(C)Ljava/lang/String;"⟩ : MethodName) (head1 (Jvm.Cond.code (⟨"java/lang/String", "valueOf", "(C)Ljava/lang/String;"⟩ : MethodName) jdk_42_method_139_code 1 (some (.object "java/lang/String")) :: ws) ({ frames := 2, cells := 2, slots := 5, locals := 27 } : Room)) (fun a U => a = #[(.int cc)] ∧ Z.Warmed39 U.vm ∧ U.heap = h0) (fun _ _ _ _ _ => True) (fun _ U o U' => ∃ v L, o = .returned v ∧ own_QV Z (1 : Int32) [(nar .byte cc.toInt8.toInt32)] h0 n0 v U'.heap L ∧ FrameEnd U o U' L ({ frames := 2, cells := 2, slots := 5, locals := 27 } : Room).cells ({ frames := 2, cells := 2, slots := 5, locals := 27 } : Room).slots) := by
  refine MetFree.of_bodySF pf_jdk_42_method_139_code hisR ?_
  intro p e s m args below meth c s₁ Bd hml0 hP hK
  obtain ⟨rfl, hZ, hh⟩ := hP
  have hx := Bd.exec
  have hby := Bd.bytes
  have hml : c.maxLocals = 1 := hml0
  have hown : s.vm.findClass "java/lang/String" = some m.cls := findClass_of_methodNamed Bd.named
  have hnm := (name_of_methodNamed Bd.named Bd.method).1
  have X0 : Stand p l e ({ frames := 2, cells := 2, slots := 5, locals := 27 } : Room) s m #[(.int cc)] below meth c s₁ [] 0 0 := Stand.of_body Bd
  have e0 : s₁.heap = h0 := by rw [← hh, Bd.state]; rfl
  have N0 := Fr.nil n0
  have pre0 : ∀ t, Steps p.tables e below (s₁.setTop (mkF m 0 #[.val (.int cc)] [])) t → Steps p.tables e below (s₁.setTop (entryFrame m #[(.int cc)] 1)) t := fun t k => castTop (ef_jdk_42_method_139_code_I m cc) k
  obtain ⟨T107, X107, e107, st107⟩ := getS2 X0 hx hZ hown (host := "") (Or.inl (hw _ (List.mem_of_getElem? (i := 56) rfl))) Via.refl e0 S8 (g := (mkF m 0 #[.val (.int cc)] [])) rfl (hb hby d_jdk_42_method_139_code_0)
  obtain ⟨_, _, ⟨T108, L108, k108, n108⟩, -, X108, ⟨Lc108, hQ108, l108, y108, z108⟩, st108⟩ := Jvm.LawKit.callS X107 hx (y := (⟨"java/lang/StringLatin1", "canEncode", "(C)Z"⟩ : MethodName)) hown (mvT hZ (hw _ (List.mem_of_getElem? (i := 57) rfl))) (mvT hZ (hw _ (List.mem_of_getElem? (i := 58) rfl))) (mvT hZ (hw _ (List.mem_of_getElem? (i := 59) rfl))) (mvT hZ (hw _ (List.mem_of_getElem? (i := 60) rfl))) (by decide) (backOf (W := 0) (own_canEnc l Z a0 hw [] cc h0 n0 Z0 hc) hZ (hw _ (List.mem_of_getElem? (i := 60) rfl)) (hw _ (List.mem_of_getElem? (i := 59) rfl)) (by decide) (by decide)) (g := (mkF m 7 #[.val (.int cc)] [(.int cc)])) rfl (by rw [hml]; rfl) (argsL := [(.int cc)]) (rest := []) (lenOf pd__C_Z rfl) rfl (by show 2 * 0 + _ ≤ _; exact Nat.le_of_eq rfl) (hb hby d_jdk_42_method_139_code_7) (fun _ _ => ⟨rfl, e107, (by decide : 0 + 0 ≤ _), (by decide : 0 + 0 ≤ _)⟩)
  dsimp only [Pt.U, Pt.locs, Pt.cells, Pt.slots] at X108 l108 y108 z108 st108 hQ108
  subst l108 y108 z108
  obtain ⟨rfl, N108q, e108⟩ := hQ108
  have N108 := Fr.app N0 N108q
  obtain ⟨T109, h109, X109, e109, E109, A109, D109, -, st109⟩ := newO X108 hx hZ hown (hw _ (List.mem_of_getElem? (i := 61) rfl)) (hw _ (List.mem_of_getElem? (i := 62) rfl)) (hw _ (List.mem_of_getElem? (i := 54) rfl)) e108 (g := (mkF m 13 #[.val (.int cc)] [])) rfl (hb hby d_jdk_42_method_139_code_13) (by decide) (by decide)
  obtain ⟨b109, g109⟩ : ∃ z, z = h0.size := ⟨_, rfl⟩
  rw [← g109] at A109 D109 st109
  have q109 : h0.size ≤ b109 := by rw [g109]; exact Nat.le_refl _
  have EX109 : Ext h0 h109 := E109
  have Z109 : n0 ≤ h109.size := Nat.le_trans Z0 EX109.1
  have Fvalue_110 : Fld Z h109 b109 "java/lang/String" "value" "[B" .null := D109 (Or.inr (hw _ (List.mem_of_getElem? (i := 72) rfl))) (ty := (.array .byte)) (by decide)
  have Fcoder_111 : Fld Z h109 b109 "java/lang/String" "coder" "B" (.int (0 : Int32)) := D109 (Or.inr (hw _ (List.mem_of_getElem? (i := 74) rfl))) (ty := .byte) (by decide)
  obtain ⟨_, _, ⟨T112, L112, k112, n112⟩, -, X112, ⟨Lc112, hQ112, l112, y112, z112⟩, st112⟩ := Jvm.LawKit.callS X109 hx (y := (⟨"java/lang/StringLatin1", "toBytes", "(C)[B"⟩ : MethodName)) hown (mvT hZ (hw _ (List.mem_of_getElem? (i := 63) rfl))) (mvT hZ (hw _ (List.mem_of_getElem? (i := 64) rfl))) (mvT hZ (hw _ (List.mem_of_getElem? (i := 59) rfl))) (mvT hZ (hw _ (List.mem_of_getElem? (i := 65) rfl))) (by decide) (backOf (W := 2) (own_toBytes l Z a0 hw [] cc h109 n0 Z109) hZ (hw _ (List.mem_of_getElem? (i := 65) rfl)) (hw _ (List.mem_of_getElem? (i := 59) rfl)) (by decide) (by decide)) (g := (mkF m 18 #[.val (.int cc)] [(.int cc), (.ref b109), (.ref b109)])) rfl (by rw [hml]; rfl) (argsL := [(.int cc)]) (rest := [(.ref b109), (.ref b109)]) (lenOf pd__C_ArB rfl) rfl (by show 2 * 0 + _ ≤ _; exact Nat.le_of_eq rfl) (hb hby d_jdk_42_method_139_code_18) (fun _ _ => ⟨rfl, e109, (by decide : 1 + 1 ≤ _), (by decide : 4 + 1 ≤ _)⟩)
  dsimp only [Pt.U, Pt.locs, Pt.cells, Pt.slots] at X112 l112 y112 z112 st112 hQ112
  subst l112 y112 z112
  obtain ⟨t112, kt112, rfl, N112q, EE112, qq112, AE112t, V112t⟩ := hQ112
  have N112 := Fr.app N108 N112q
  have q_t112 : h0.size ≤ t112 := Nat.le_trans EX109.1 qq112
  have ne_b109_t112 : b109 ≠ t112 := Nat.ne_of_lt (Nat.lt_of_lt_of_le A109.lt qq112)
  have A109_113 := A109.ext EE112
  have Fvalue_114 := Fvalue_110.ext EE112
  have Fcoder_115 := Fcoder_111.ext EE112
  have EX112 : Ext h0 T112.heap := own_ext_trans EX109 EE112
  have Z112 : n0 ≤ T112.heap.size := Nat.le_trans Z0 EX112.1
  obtain ⟨_, _, ⟨T116, L116, k116, n116⟩, -, X116, ⟨Lc116, hQ116, l116, y116, z116⟩, st116⟩ := X112.specialBack hx (y := (⟨"java/lang/String", "<init>", "([BB)V"⟩ : MethodName)) rfl hown (mvT hZ (hw _ (List.mem_of_getElem? (i := 66) rfl))) (mvT hZ (hw _ (List.mem_of_getElem? (i := 67) rfl))) (mvT hZ (hw _ (List.mem_of_getElem? (i := 69) rfl))) (by decide) (backOf (W := 1) (own_initS l Z a0 hw [] b109 t112 T112.heap n0 Z112 A109_113 Fvalue_114 Fcoder_115 (Nat.le_trans Z0 q109)) hZ (hw _ (List.mem_of_getElem? (i := 69) rfl)) (hw _ (List.mem_of_getElem? (i := 54) rfl)) (by decide) (by decide)) (g := (mkF m 22 #[.val (.int cc)] [(.int (0 : Int32)), (.ref t112), (.ref b109), (.ref b109)])) rfl (by rw [hml]; rfl) (Steps.refl _) (a := b109) (argsL := [(.ref t112), (.int (0 : Int32))]) (rest := [(.ref b109)]) (lenOf pd__ArBB_V rfl) rfl (by show 2 * 0 + _ ≤ _; exact Nat.le_of_eq rfl) (hb hby d_jdk_42_method_139_code_22) (fun _ _ => ⟨rfl, rfl, (by decide : 2 + 0 ≤ _), (by decide : 5 + 0 ≤ _)⟩)
  dsimp only [Pt.U, Pt.locs, Pt.cells, Pt.slots] at X116 l116 y116 z116 st116 hQ116
  subst l116 y116 z116
  obtain ⟨rfl, N116q, K116q, Fa116, Fb116⟩ := hQ116
  have N116 := Fr.app N112 N116q
  have A109_117 := A109_113.keep K116q
  have AE112t_118 := AE112t.keep K116q
  have V112t_119 := V112t.keep K116q (ninS (Ne.symm ne_b109_t112) nin0)
  have EX116 : Ext h0 T116.heap := own_ext_keep EX112 K116q (allS q109 all0)
  have Z116 : n0 ≤ T116.heap.size := Nat.le_trans Z0 EX116.1
  obtain ⟨fs, hr, hrun, hended, hW, hsame⟩ := X116.leave (v := some (.ref b109)) (fun h => by rw [Bd.returns] at h; cases h)
  refine ⟨_, _, pre0 _ ?_, hrun, hended, _, _, rfl, ?_, ⟨_, rfl⟩, hW, hsame.mono (by decide) (by decide)⟩
  · show Steps p.tables e below (s₁.setTop (mkF m 0 #[.val (.int cc)] [])) _
    refine st107 _ ?_
    show Steps p.tables e below (T107.setTop (mkF m 3 #[.val (.int cc)] [(.int i7)])) _
    refine XS.ifNo X107.here hx rfl (hb hby d_jdk_42_method_139_code_3) rfl (XT.i0_eq_f c9) ?_
    show Steps p.tables e below (T107.setTop (mkF m 6 #[.val (.int cc)] [])) _
    refine XS.iloadN X107.here hx rfl (hb hby d_jdk_42_method_139_code_6) rfl ?_
    show Steps p.tables e below (T107.setTop (mkF m 7 #[.val (.int cc)] [(.int cc)])) _
    refine st108 _ ?_
    show Steps p.tables e below (T108.setTop (mkF m 10 #[.val (.int cc)] [(.int (1 : Int32))])) _
    refine XS.ifNo X108.here hx rfl (hb hby d_jdk_42_method_139_code_10) rfl (by decide) ?_
    show Steps p.tables e below (T108.setTop (mkF m 13 #[.val (.int cc)] [])) _
    refine st109 _ ?_
    show Steps p.tables e below (T109.setTop (mkF m 16 #[.val (.int cc)] [(.ref b109)])) _
    refine XS.dup X109.here hx rfl (hb hby d_jdk_42_method_139_code_16) rfl rfl ?_
    show Steps p.tables e below (T109.setTop (mkF m 17 #[.val (.int cc)] [(.ref b109), (.ref b109)])) _
    refine XS.iloadN X109.here hx rfl (hb hby d_jdk_42_method_139_code_17) rfl ?_
    show Steps p.tables e below (T109.setTop (mkF m 18 #[.val (.int cc)] [(.int cc), (.ref b109), (.ref b109)])) _
    refine st112 _ ?_
    show Steps p.tables e below (T112.setTop (mkF m 21 #[.val (.int cc)] [(.ref t112), (.ref b109), (.ref b109)])) _
    refine XT.iconstV X112.here hx rfl (0 : Int32) (hb hby d_jdk_42_method_139_code_21) rfl ?_
    show Steps p.tables e below (T112.setTop (mkF m 22 #[.val (.int cc)] [(.int (0 : Int32)), (.ref t112), (.ref b109), (.ref b109)])) _
    refine st116.trans ?_
    show Steps p.tables e below (T116.setTop (mkF m 25 #[.val (.int cc)] [(.ref b109)])) _
    jvm_step X116.here [X116.here.top, hx, (hb hby d_jdk_42_method_139_code_25), X116.method', Bd.returns, Value.isRef, FieldType.isReference]
    first | (intro acts; rw [hr _ acts rfl rfl rfl]) | rw [hr _ _ rfl rfl rfl]
    exact Steps.refl _
  · show own_QV Z (1 : Int32) [(nar .byte cc.toInt8.toInt32)] h0 n0 _ T116.heap _
    exact ⟨b109, t112, kt112, rfl, N116, EX116, q109, q_t112, ne_b109_t112, ⟨A109_117, Fa116, Fb116, AE112t_118, V112t_119⟩⟩
theorem d_jdk_42_method_152_code_0 : decode jdk_42_method_152_code 0 = .ok (.getstatic 38, 3) := by decide +kernel
theorem d_jdk_42_method_152_code_3 : decode jdk_42_method_152_code 3 = .ok (.ifCond .eq 10, 3) := by decide +kernel
theorem d_jdk_42_method_152_code_6 : decode jdk_42_method_152_code 6 = .ok (.aload_n 0, 1) := by decide +kernel
theorem d_jdk_42_method_152_code_7 : decode jdk_42_method_152_code 7 = .ok (.getfield 15, 3) := by decide +kernel
theorem d_jdk_42_method_152_code_10 : decode jdk_42_method_152_code 10 = .ok (.goto 4, 3) := by decide +kernel
theorem d_jdk_42_method_152_code_14 : decode jdk_42_method_152_code 14 = .ok (.ireturn, 1) := by decide +kernel
theorem ef_jdk_42_method_152_code_A (m : MethodId) (x0 : Addr) : entryFrame m #[(.ref x0)] 1 = mkF m 0 #[.val (.ref x0)] [] := by first | (simp [entryFrame, mkF, argsToLocals, Value.category]; done) | rfl
theorem pf_jdk_42_method_152_code : plainFor (⟨"java/lang/String", "coder", "()B"⟩ : MethodName) = true := by decide +kernel
set_option maxRecDepth 65536 in
set_option maxHeartbeats 40000000 in
theorem own_coder (l : Launch) (Z : State) (a0 : Array Value) (hw : ∀ d ∈ tables_1, d.before a0 Z = true) (ws : List Jvm.Cond) (i7 : Int32) (t1 u1 : Addr) (k1 : ClassId) (yy : Int32) (h0 : Heap) (n0 : Nat) (Z0 : n0 ≤ h0.size) (S8 : Sta Z h0 "java/lang/String" "COMPACT_STRINGS" "Z" (.int i7)) (c9 : ¬ (i7 = (0 : Int32))) (P : own_St Z h0 t1 u1 k1 (1 : Int32) [yy]) :
    MetFree l (⟨"java/lang/String", "coder", "()B"⟩ : MethodName) (head1 (Jvm.Cond.code (⟨"java/lang/String", "coder", "()B"⟩ : MethodName) jdk_42_method_152_code 1 (some .byte) :: ws) ({ frames := 0, cells := 0, slots := 0, locals := 0 } : Room)) (fun a U => a = #[(.ref t1)] ∧ Z.Warmed39 U.vm ∧ U.heap = h0) (fun _ _ _ _ _ => True) (fun _ U o U' => ∃ v L, o = .returned v ∧ own_Q (some (.int (0 : Int32))) h0 n0 v U'.heap L ∧ FrameEnd U o U' L ({ frames := 0, cells := 0, slots := 0, locals := 0 } : Room).cells ({ frames := 0, cells := 0, slots := 0, locals := 0 } : Room).slots) := by
  refine MetFree.of_bodySF pf_jdk_42_method_152_code hisR ?_
  intro p e s m args below meth c s₁ Bd hml0 hP hK
  obtain ⟨rfl, hZ, hh⟩ := hP
  have hx := Bd.exec
  have hby := Bd.bytes
  have hml : c.maxLocals = 1 := hml0
  have hown : s.vm.findClass "java/lang/String" = some m.cls := findClass_of_methodNamed Bd.named
  have hnm := (name_of_methodNamed Bd.named Bd.method).1
  have X0 : Stand p l e ({ frames := 0, cells := 0, slots := 0, locals := 0 } : Room) s m #[(.ref t1)] below meth c s₁ [] 0 0 := Stand.of_body Bd
  have e0 : s₁.heap = h0 := by rw [← hh, Bd.state]; rfl
  have N0 := Fr.nil n0
  have pre0 : ∀ t, Steps p.tables e below (s₁.setTop (mkF m 0 #[.val (.ref t1)] [])) t → Steps p.tables e below (s₁.setTop (entryFrame m #[(.ref t1)] 1)) t := fun t k => castTop (ef_jdk_42_method_152_code_A m t1) k
  obtain ⟨E_120, Fvalue_121, Fcoder_122, E_123, V_124⟩ := id P
  obtain ⟨T125, X125, e125, st125⟩ := getS2 X0 hx hZ hown (host := "") (Or.inl (hw _ (List.mem_of_getElem? (i := 56) rfl))) Via.refl e0 S8 (g := (mkF m 0 #[.val (.ref t1)] [])) rfl (hb hby d_jdk_42_method_152_code_0)
  obtain ⟨T126, X126, e126, st126⟩ := getF X125 hx hZ hown (host := "") (Or.inl (hw _ (List.mem_of_getElem? (i := 73) rfl))) Via.refl e125 Fcoder_122 (g := (mkF m 7 #[.val (.ref t1)] [(.ref t1)])) rfl rfl (hb hby d_jdk_42_method_152_code_7)
  obtain ⟨fs, hr, hrun, hended, hW, hsame⟩ := X126.leave (v := some (.int (0 : Int32))) (fun h => by rw [Bd.returns] at h; cases h)
  refine ⟨_, _, pre0 _ ?_, hrun, hended, _, _, rfl, ?_, ⟨_, rfl⟩, hW, hsame.mono (by decide) (by decide)⟩
  · show Steps p.tables e below (s₁.setTop (mkF m 0 #[.val (.ref t1)] [])) _
    refine st125 _ ?_
    show Steps p.tables e below (T125.setTop (mkF m 3 #[.val (.ref t1)] [(.int i7)])) _
    refine XS.ifNo X125.here hx rfl (hb hby d_jdk_42_method_152_code_3) rfl (XT.i0_eq_f c9) ?_
    show Steps p.tables e below (T125.setTop (mkF m 6 #[.val (.ref t1)] [])) _
    refine XS.aloadN X125.here hx rfl (hb hby d_jdk_42_method_152_code_6) rfl rfl ?_
    show Steps p.tables e below (T125.setTop (mkF m 7 #[.val (.ref t1)] [(.ref t1)])) _
    refine st126 _ ?_
    show Steps p.tables e below (T126.setTop (mkF m 10 #[.val (.ref t1)] [(.int (0 : Int32))])) _
    refine XS.goto X126.here hx rfl (pc0 := 10) (pc' := 14) rfl (hb hby d_jdk_42_method_152_code_10) (by decide) (by decide) ?_
    show Steps p.tables e below (T126.setTop (mkF m 14 #[.val (.ref t1)] [(.int (0 : Int32))])) _
    exact retN X126 hx (t := .byte) Bd.returns (by simp) (hb hby d_jdk_42_method_152_code_14) hr
  · show own_Q (some (.int (0 : Int32))) h0 n0 _ T126.heap _
    rw [e126]
    exact ⟨rfl, N0, rfl⟩
theorem d_jdk_123_method_3_code_0 : decode jdk_123_method_3_code 0 = .ok (.iload_n 1, 1) := by decide +kernel
theorem d_jdk_123_method_3_code_1 : decode jdk_123_method_3_code 1 = .ok (.iload_n 2, 1) := by decide +kernel
theorem d_jdk_123_method_3_code_2 : decode jdk_123_method_3_code 2 = .ok (.iadd, 1) := by decide +kernel
theorem d_jdk_123_method_3_code_3 : decode jdk_123_method_3_code 3 = .ok (.istore_n 3, 1) := by decide +kernel
theorem d_jdk_123_method_3_code_4 : decode jdk_123_method_3_code 4 = .ok (.iload_n 1, 1) := by decide +kernel
theorem d_jdk_123_method_3_code_5 : decode jdk_123_method_3_code 5 = .ok (.istore 4, 2) := by decide +kernel
theorem d_jdk_123_method_3_code_7 : decode jdk_123_method_3_code 7 = .ok (.iload 4, 2) := by decide +kernel
theorem d_jdk_123_method_3_code_9 : decode jdk_123_method_3_code 9 = .ok (.iload_n 3, 1) := by decide +kernel
theorem d_jdk_123_method_3_code_10 : decode jdk_123_method_3_code 10 = .ok (.if_icmp .ge 21, 3) := by decide +kernel
theorem d_jdk_123_method_3_code_13 : decode jdk_123_method_3_code 13 = .ok (.aload_n 0, 1) := by decide +kernel
theorem d_jdk_123_method_3_code_14 : decode jdk_123_method_3_code 14 = .ok (.iload 4, 2) := by decide +kernel
theorem d_jdk_123_method_3_code_16 : decode jdk_123_method_3_code 16 = .ok (.baload, 1) := by decide +kernel
theorem d_jdk_123_method_3_code_17 : decode jdk_123_method_3_code 17 = .ok (.ifCond .ge 8, 3) := by decide +kernel
theorem d_jdk_123_method_3_code_25 : decode jdk_123_method_3_code 25 = .ok (.iinc 4 1, 3) := by decide +kernel
theorem d_jdk_123_method_3_code_28 : decode jdk_123_method_3_code 28 = .ok (.goto (-21), 3) := by decide +kernel
theorem d_jdk_123_method_3_code_31 : decode jdk_123_method_3_code 31 = .ok (.iload_n 2, 1) := by decide +kernel
theorem d_jdk_123_method_3_code_32 : decode jdk_123_method_3_code 32 = .ok (.ireturn, 1) := by decide +kernel
theorem ef_jdk_123_method_3_code_AII (m : MethodId) (x0 : Addr) (x1 : Int32) (x2 : Int32) : entryFrame m #[(.ref x0), (.int x1), (.int x2)] 5 = mkF m 0 #[.val (.ref x0), .val (.int x1), .val (.int x2), .unset, .unset] [] := by first | (simp [entryFrame, mkF, argsToLocals, Value.category]; done) | rfl
theorem pf_jdk_123_method_3_code : plainFor (⟨"java/lang/StringCoding", "countPositives", "([BII)I"⟩ : MethodName) = true := by decide +kernel
set_option maxRecDepth 65536 in
set_option maxHeartbeats 40000000 in
theorem own_cp_p (l : Launch) (Z : State) (a0 : Array Value) (hw : ∀ d ∈ tables_1, d.before a0 Z = true) (ws : List Jvm.Cond) (u1 : Addr) (k1 : ClassId) (yy : Int32) (h0 : Heap) (n0 : Nat) (Z0 : n0 ≤ h0.size) (V1 : Arv Z h0 u1 k1 .byte (1 : Int32) ([yy].map Value.int) (.int 0)) (E1 : Exa Z h0 u1 "[B") (hy : ¬ yy < 0) :
    MetFree l (⟨"java/lang/StringCoding", "countPositives", "([BII)I"⟩ : MethodName) (head1 (Jvm.Cond.code (⟨"java/lang/StringCoding", "countPositives", "([BII)I"⟩ : MethodName) jdk_123_method_3_code 5 (some .int) :: ws) ({ frames := 0, cells := 0, slots := 0, locals := 0 } : Room)) (fun a U => a = #[(.ref u1), (.int (0 : Int32)), (.int (1 : Int32))] ∧ Z.Warmed39 U.vm ∧ U.heap = h0) (fun _ _ _ _ _ => True) (fun _ U o U' => ∃ v L, o = .returned v ∧ own_Q (some (.int (1 : Int32))) h0 n0 v U'.heap L ∧ FrameEnd U o U' L ({ frames := 0, cells := 0, slots := 0, locals := 0 } : Room).cells ({ frames := 0, cells := 0, slots := 0, locals := 0 } : Room).slots) := by
  refine MetFree.of_bodySF pf_jdk_123_method_3_code hisR ?_
  intro p e s m args below meth c s₁ Bd hml0 hP hK
  obtain ⟨rfl, hZ, hh⟩ := hP
  have hx := Bd.exec
  have hby := Bd.bytes
  have hml : c.maxLocals = 5 := hml0
  have hown : s.vm.findClass "java/lang/StringCoding" = some m.cls := findClass_of_methodNamed Bd.named
  have hnm := (name_of_methodNamed Bd.named Bd.method).1
  have X0 : Stand p l e ({ frames := 0, cells := 0, slots := 0, locals := 0 } : Room) s m #[(.ref u1), (.int (0 : Int32)), (.int (1 : Int32))] below meth c s₁ [] 0 0 := Stand.of_body Bd
  have e0 : s₁.heap = h0 := by rw [← hh, Bd.state]; rfl
  have N0 := Fr.nil n0
  have pre0 : ∀ t, Steps p.tables e below (s₁.setTop (mkF m 0 #[.val (.ref u1), .val (.int (0 : Int32)), .val (.int (1 : Int32)), .unset, .unset] [])) t → Steps p.tables e below (s₁.setTop (entryFrame m #[(.ref u1), (.int (0 : Int32)), (.int (1 : Int32))] 5)) t := fun t k => castTop (ef_jdk_123_method_3_code_AII m u1 (0 : Int32) (1 : Int32)) k
  obtain ⟨cl127, Ar127, Q127, H127⟩ := own_at V1 (j := (0 : Int32)) (v := (.int yy)) (by decide) rfl
  obtain ⟨fs, hr, hrun, hended, hW, hsame⟩ := X0.leave (v := some (.int (1 : Int32))) (fun h => by rw [Bd.returns] at h; cases h)
  refine ⟨_, _, pre0 _ ?_, hrun, hended, _, _, rfl, ?_, ⟨_, rfl⟩, hW, hsame.mono (by decide) (by decide)⟩
  · show Steps p.tables e below (s₁.setTop (mkF m 0 #[.val (.ref u1), .val (.int (0 : Int32)), .val (.int (1 : Int32)), .unset, .unset] [])) _
    refine XS.iloadN X0.here hx rfl (hb hby d_jdk_123_method_3_code_0) rfl ?_
    show Steps p.tables e below (s₁.setTop (mkF m 1 #[.val (.ref u1), .val (.int (0 : Int32)), .val (.int (1 : Int32)), .unset, .unset] [(.int (0 : Int32))])) _
    refine XS.iloadN X0.here hx rfl (hb hby d_jdk_123_method_3_code_1) rfl ?_
    show Steps p.tables e below (s₁.setTop (mkF m 2 #[.val (.ref u1), .val (.int (0 : Int32)), .val (.int (1 : Int32)), .unset, .unset] [(.int (1 : Int32)), (.int (0 : Int32))])) _
    refine XS.iadd X0.here hx rfl (hb hby d_jdk_123_method_3_code_2) rfl ?_
    rw [show ((0 : Int32) + (1 : Int32)) = (1 : Int32) from by decide]
    show Steps p.tables e below (s₁.setTop (mkF m 3 #[.val (.ref u1), .val (.int (0 : Int32)), .val (.int (1 : Int32)), .unset, .unset] [(.int (1 : Int32))])) _
    refine XS.istoreN X0.here hx rfl (hb hby d_jdk_123_method_3_code_3) rfl (l' := #[.val (.ref u1), .val (.int (0 : Int32)), .val (.int (1 : Int32)), .val (.int (1 : Int32)), .unset]) rfl ?_
    show Steps p.tables e below (s₁.setTop (mkF m 4 #[.val (.ref u1), .val (.int (0 : Int32)), .val (.int (1 : Int32)), .val (.int (1 : Int32)), .unset] [])) _
    refine XS.iloadN X0.here hx rfl (hb hby d_jdk_123_method_3_code_4) rfl ?_
    show Steps p.tables e below (s₁.setTop (mkF m 5 #[.val (.ref u1), .val (.int (0 : Int32)), .val (.int (1 : Int32)), .val (.int (1 : Int32)), .unset] [(.int (0 : Int32))])) _
    refine XS.istore X0.here hx rfl (hb hby d_jdk_123_method_3_code_5) rfl (l' := #[.val (.ref u1), .val (.int (0 : Int32)), .val (.int (1 : Int32)), .val (.int (1 : Int32)), .val (.int (0 : Int32))]) rfl ?_
    show Steps p.tables e below (s₁.setTop (mkF m 7 #[.val (.ref u1), .val (.int (0 : Int32)), .val (.int (1 : Int32)), .val (.int (1 : Int32)), .val (.int (0 : Int32))] [])) _
    refine XS.iload X0.here hx rfl (hb hby d_jdk_123_method_3_code_7) rfl ?_
    show Steps p.tables e below (s₁.setTop (mkF m 9 #[.val (.ref u1), .val (.int (0 : Int32)), .val (.int (1 : Int32)), .val (.int (1 : Int32)), .val (.int (0 : Int32))] [(.int (0 : Int32))])) _
    refine XS.iloadN X0.here hx rfl (hb hby d_jdk_123_method_3_code_9) rfl ?_
    show Steps p.tables e below (s₁.setTop (mkF m 10 #[.val (.ref u1), .val (.int (0 : Int32)), .val (.int (1 : Int32)), .val (.int (1 : Int32)), .val (.int (0 : Int32))] [(.int (1 : Int32)), (.int (0 : Int32))])) _
    refine XS.icmpNo X0.here hx rfl (hb hby d_jdk_123_method_3_code_10) rfl (by decide) ?_
    show Steps p.tables e below (s₁.setTop (mkF m 13 #[.val (.ref u1), .val (.int (0 : Int32)), .val (.int (1 : Int32)), .val (.int (1 : Int32)), .val (.int (0 : Int32))] [])) _
    refine XS.aloadN X0.here hx rfl (hb hby d_jdk_123_method_3_code_13) rfl rfl ?_
    show Steps p.tables e below (s₁.setTop (mkF m 14 #[.val (.ref u1), .val (.int (0 : Int32)), .val (.int (1 : Int32)), .val (.int (1 : Int32)), .val (.int (0 : Int32))] [(.ref u1)])) _
    refine XS.iload X0.here hx rfl (hb hby d_jdk_123_method_3_code_14) rfl ?_
    show Steps p.tables e below (s₁.setTop (mkF m 16 #[.val (.ref u1), .val (.int (0 : Int32)), .val (.int (1 : Int32)), .val (.int (1 : Int32)), .val (.int (0 : Int32))] [(.int (0 : Int32)), (.ref u1)])) _
    refine X0.baloadBytes hx (j := (0 : Int32)) (v := (.int yy)) (by rw [e0]; exact Ar127.1) (State.isArrayOf_alike hZ.alike Ar127.2.1) Ar127.2.2 Q127 H127 (g := (mkF m 16 #[.val (.ref u1), .val (.int (0 : Int32)), .val (.int (1 : Int32)), .val (.int (1 : Int32)), .val (.int (0 : Int32))] [(.int (0 : Int32)), (.ref u1)])) rfl rfl (hb hby d_jdk_123_method_3_code_16) _ ?_
    show Steps p.tables e below (s₁.setTop (mkF m 17 #[.val (.ref u1), .val (.int (0 : Int32)), .val (.int (1 : Int32)), .val (.int (1 : Int32)), .val (.int (0 : Int32))] [(.int yy)])) _
    refine XS.ifYes X0.here hx rfl (pc0 := 17) (pc' := 25) rfl (hb hby d_jdk_123_method_3_code_17) rfl (XT.i0_ge_t hy) (by decide) (by decide) ?_
    show Steps p.tables e below (s₁.setTop (mkF m 25 #[.val (.ref u1), .val (.int (0 : Int32)), .val (.int (1 : Int32)), .val (.int (1 : Int32)), .val (.int (0 : Int32))] [])) _
    refine XT.iincV X0.here hx rfl (1 : Int32) (hb hby d_jdk_123_method_3_code_25) rfl rfl (l' := #[.val (.ref u1), .val (.int (0 : Int32)), .val (.int (1 : Int32)), .val (.int (1 : Int32)), .val (.int ((0 : Int32) + (1 : Int32)))]) rfl ?_
    rw [show ((0 : Int32) + (1 : Int32)) = (1 : Int32) from by decide]
    show Steps p.tables e below (s₁.setTop (mkF m 28 #[.val (.ref u1), .val (.int (0 : Int32)), .val (.int (1 : Int32)), .val (.int (1 : Int32)), .val (.int (1 : Int32))] [])) _
    refine XS.goto X0.here hx rfl (pc0 := 28) (pc' := 7) rfl (hb hby d_jdk_123_method_3_code_28) (by decide) (by decide) ?_
    show Steps p.tables e below (s₁.setTop (mkF m 7 #[.val (.ref u1), .val (.int (0 : Int32)), .val (.int (1 : Int32)), .val (.int (1 : Int32)), .val (.int (1 : Int32))] [])) _
    refine XS.iload X0.here hx rfl (hb hby d_jdk_123_method_3_code_7) rfl ?_
    show Steps p.tables e below (s₁.setTop (mkF m 9 #[.val (.ref u1), .val (.int (0 : Int32)), .val (.int (1 : Int32)), .val (.int (1 : Int32)), .val (.int (1 : Int32))] [(.int (1 : Int32))])) _
    refine XS.iloadN X0.here hx rfl (hb hby d_jdk_123_method_3_code_9) rfl ?_
    show Steps p.tables e below (s₁.setTop (mkF m 10 #[.val (.ref u1), .val (.int (0 : Int32)), .val (.int (1 : Int32)), .val (.int (1 : Int32)), .val (.int (1 : Int32))] [(.int (1 : Int32)), (.int (1 : Int32))])) _
    refine XS.icmpYes X0.here hx rfl (pc0 := 10) (pc' := 31) rfl (hb hby d_jdk_123_method_3_code_10) rfl (by decide) (by decide) (by decide) ?_
    show Steps p.tables e below (s₁.setTop (mkF m 31 #[.val (.ref u1), .val (.int (0 : Int32)), .val (.int (1 : Int32)), .val (.int (1 : Int32)), .val (.int (1 : Int32))] [])) _
    refine XS.iloadN X0.here hx rfl (hb hby d_jdk_123_method_3_code_31) rfl ?_
    show Steps p.tables e below (s₁.setTop (mkF m 32 #[.val (.ref u1), .val (.int (0 : Int32)), .val (.int (1 : Int32)), .val (.int (1 : Int32)), .val (.int (1 : Int32))] [(.int (1 : Int32))])) _
    exact retI X0 hx Bd.returns (hb hby d_jdk_123_method_3_code_32) hr
  · show own_Q (some (.int (1 : Int32))) h0 n0 _ s₁.heap _
    rw [e0]
    exact ⟨rfl, N0, rfl⟩
theorem d_jdk_123_method_2_code_0 : decode jdk_123_method_2_code 0 = .ok (.aload_n 0, 1) := by decide +kernel
theorem d_jdk_123_method_2_code_1 : decode jdk_123_method_2_code 1 = .ok (.iload_n 1, 1) := by decide +kernel
theorem d_jdk_123_method_2_code_2 : decode jdk_123_method_2_code 2 = .ok (.iload_n 2, 1) := by decide +kernel
theorem pd__ArBII_I : parseMethodDescriptor "([BII)I" = some ⟨[(.array .byte), .int, .int], (some .int)⟩ := by decide +kernel
theorem d_jdk_123_method_2_code_3 : decode jdk_123_method_2_code 3 = .ok (.invokestatic 7, 3) := by decide +kernel
theorem d_jdk_123_method_2_code_6 : decode jdk_123_method_2_code 6 = .ok (.iload_n 2, 1) := by decide +kernel
theorem d_jdk_123_method_2_code_7 : decode jdk_123_method_2_code 7 = .ok (.if_icmp .eq 7, 3) := by decide +kernel
theorem d_jdk_123_method_2_code_14 : decode jdk_123_method_2_code 14 = .ok (.iconst 0, 1) := by decide +kernel
theorem d_jdk_123_method_2_code_15 : decode jdk_123_method_2_code 15 = .ok (.ireturn, 1) := by decide +kernel
theorem ef_jdk_123_method_2_code_AII (m : MethodId) (x0 : Addr) (x1 : Int32) (x2 : Int32) : entryFrame m #[(.ref x0), (.int x1), (.int x2)] 3 = mkF m 0 #[.val (.ref x0), .val (.int x1), .val (.int x2)] [] := by first | (simp [entryFrame, mkF, argsToLocals, Value.category]; done) | rfl
theorem pf_jdk_123_method_2_code : plainFor (⟨"java/lang/StringCoding", "hasNegatives", "([BII)Z"⟩ : MethodName) = true := by decide +kernel
set_option maxRecDepth 65536 in
set_option maxHeartbeats 40000000 in
theorem own_hn_p (l : Launch) (Z : State) (a0 : Array Value) (hw : ∀ d ∈ tables_1, d.before a0 Z = true) (ws : List Jvm.Cond) (u1 : Addr) (k1 : ClassId) (yy : Int32) (h0 : Heap) (n0 : Nat) (Z0 : n0 ≤ h0.size) (V1 : Arv Z h0 u1 k1 .byte (1 : Int32) ([yy].map Value.int) (.int 0)) (E1 : Exa Z h0 u1 "[B") (hy : ¬ yy < 0) :
    MetFree l (⟨"java/lang/StringCoding", "hasNegatives", "([BII)Z"⟩ : MethodName) (head1 (Jvm.Cond.code (⟨"java/lang/StringCoding", "hasNegatives", "([BII)Z"⟩ : MethodName) jdk_123_method_2_code 3 (some .boolean) :: ws) ({ frames := 1, cells := 0, slots := 0, locals := 16 } : Room)) (fun a U => a = #[(.ref u1), (.int (0 : Int32)), (.int (1 : Int32))] ∧ Z.Warmed39 U.vm ∧ U.heap = h0) (fun _ _ _ _ _ => True) (fun _ U o U' => ∃ v L, o = .returned v ∧ own_Q (some (.int (0 : Int32))) h0 n0 v U'.heap L ∧ FrameEnd U o U' L ({ frames := 1, cells := 0, slots := 0, locals := 16 } : Room).cells ({ frames := 1, cells := 0, slots := 0, locals := 16 } : Room).slots) := by
  refine MetFree.of_bodySF pf_jdk_123_method_2_code hisR ?_
  intro p e s m args below meth c s₁ Bd hml0 hP hK
  obtain ⟨rfl, hZ, hh⟩ := hP
  have hx := Bd.exec
  have hby := Bd.bytes
  have hml : c.maxLocals = 3 := hml0
  have hown : s.vm.findClass "java/lang/StringCoding" = some m.cls := findClass_of_methodNamed Bd.named
  have hnm := (name_of_methodNamed Bd.named Bd.method).1
  have X0 : Stand p l e ({ frames := 1, cells := 0, slots := 0, locals := 16 } : Room) s m #[(.ref u1), (.int (0 : Int32)), (.int (1 : Int32))] below meth c s₁ [] 0 0 := Stand.of_body Bd
  have e0 : s₁.heap = h0 := by rw [← hh, Bd.state]; rfl
  have N0 := Fr.nil n0
  have pre0 : ∀ t, Steps p.tables e below (s₁.setTop (mkF m 0 #[.val (.ref u1), .val (.int (0 : Int32)), .val (.int (1 : Int32))] [])) t → Steps p.tables e below (s₁.setTop (entryFrame m #[(.ref u1), (.int (0 : Int32)), (.int (1 : Int32))] 3)) t := fun t k => castTop (ef_jdk_123_method_2_code_AII m u1 (0 : Int32) (1 : Int32)) k
  obtain ⟨_, _, ⟨T128, L128, k128, n128⟩, -, X128, ⟨Lc128, hQ128, l128, y128, z128⟩, st128⟩ := Jvm.LawKit.callS X0 hx (y := (⟨"java/lang/StringCoding", "countPositives", "([BII)I"⟩ : MethodName)) hown (mvT hZ (hw _ (List.mem_of_getElem? (i := 104) rfl))) (mvT hZ (hw _ (List.mem_of_getElem? (i := 105) rfl))) (mvT hZ (hw _ (List.mem_of_getElem? (i := 102) rfl))) (mvT hZ (hw _ (List.mem_of_getElem? (i := 106) rfl))) (by decide) (backOf (W := 0) (own_cp_p l Z a0 hw [] u1 k1 yy h0 n0 Z0 V1 E1 hy) hZ (hw _ (List.mem_of_getElem? (i := 106) rfl)) (hw _ (List.mem_of_getElem? (i := 102) rfl)) (by decide) (by decide)) (g := (mkF m 3 #[.val (.ref u1), .val (.int (0 : Int32)), .val (.int (1 : Int32))] [(.int (1 : Int32)), (.int (0 : Int32)), (.ref u1)])) rfl (by rw [hml]; rfl) (argsL := [(.ref u1), (.int (0 : Int32)), (.int (1 : Int32))]) (rest := []) (lenOf pd__ArBII_I rfl) rfl (by show 2 * 0 + _ ≤ _; exact Nat.le_of_eq rfl) (hb hby d_jdk_123_method_2_code_3) (fun _ _ => ⟨rfl, e0, (by decide : 0 + 0 ≤ _), (by decide : 0 + 0 ≤ _)⟩)
  dsimp only [Pt.U, Pt.locs, Pt.cells, Pt.slots] at X128 l128 y128 z128 st128 hQ128
  subst l128 y128 z128
  obtain ⟨rfl, N128q, e128⟩ := hQ128
  have N128 := Fr.app N0 N128q
  obtain ⟨fs, hr, hrun, hended, hW, hsame⟩ := X128.leave (v := some (.int (0 : Int32))) (fun h => by rw [Bd.returns] at h; cases h)
  refine ⟨_, _, pre0 _ ?_, hrun, hended, _, _, rfl, ?_, ⟨_, rfl⟩, hW, hsame.mono (by decide) (by decide)⟩
  · show Steps p.tables e below (s₁.setTop (mkF m 0 #[.val (.ref u1), .val (.int (0 : Int32)), .val (.int (1 : Int32))] [])) _
    refine XS.aloadN X0.here hx rfl (hb hby d_jdk_123_method_2_code_0) rfl rfl ?_
    show Steps p.tables e below (s₁.setTop (mkF m 1 #[.val (.ref u1), .val (.int (0 : Int32)), .val (.int (1 : Int32))] [(.ref u1)])) _
    refine XS.iloadN X0.here hx rfl (hb hby d_jdk_123_method_2_code_1) rfl ?_
    show Steps p.tables e below (s₁.setTop (mkF m 2 #[.val (.ref u1), .val (.int (0 : Int32)), .val (.int (1 : Int32))] [(.int (0 : Int32)), (.ref u1)])) _
    refine XS.iloadN X0.here hx rfl (hb hby d_jdk_123_method_2_code_2) rfl ?_
    show Steps p.tables e below (s₁.setTop (mkF m 3 #[.val (.ref u1), .val (.int (0 : Int32)), .val (.int (1 : Int32))] [(.int (1 : Int32)), (.int (0 : Int32)), (.ref u1)])) _
    refine st128 _ ?_
    show Steps p.tables e below (T128.setTop (mkF m 6 #[.val (.ref u1), .val (.int (0 : Int32)), .val (.int (1 : Int32))] [(.int (1 : Int32))])) _
    refine XS.iloadN X128.here hx rfl (hb hby d_jdk_123_method_2_code_6) rfl ?_
    show Steps p.tables e below (T128.setTop (mkF m 7 #[.val (.ref u1), .val (.int (0 : Int32)), .val (.int (1 : Int32))] [(.int (1 : Int32)), (.int (1 : Int32))])) _
    refine XS.icmpYes X128.here hx rfl (pc0 := 7) (pc' := 14) rfl (hb hby d_jdk_123_method_2_code_7) rfl (by decide) (by decide) (by decide) ?_
    show Steps p.tables e below (T128.setTop (mkF m 14 #[.val (.ref u1), .val (.int (0 : Int32)), .val (.int (1 : Int32))] [])) _
    refine XT.iconstV X128.here hx rfl (0 : Int32) (hb hby d_jdk_123_method_2_code_14) rfl ?_
    show Steps p.tables e below (T128.setTop (mkF m 15 #[.val (.ref u1), .val (.int (0 : Int32)), .val (.int (1 : Int32))] [(.int (0 : Int32))])) _
    exact retN X128 hx (t := .boolean) Bd.returns (by simp) (hb hby d_jdk_123_method_2_code_15) hr
  · show own_Q (some (.int (0 : Int32))) h0 n0 _ T128.heap _
    rw [e128]
    exact ⟨rfl, N128, rfl⟩
theorem d_jdk_42_method_46_code_0 : decode jdk_42_method_46_code 0 = .ok (.iload_n 0, 1) := by decide +kernel
theorem d_jdk_42_method_46_code_1 : decode jdk_42_method_46_code 1 = .ok (.iconst 1, 1) := by decide +kernel
theorem d_jdk_42_method_46_code_2 : decode jdk_42_method_46_code 2 = .ok (.if_icmp .ne 9, 3) := by decide +kernel
theorem d_jdk_42_method_46_code_11 : decode jdk_42_method_46_code 11 = .ok (.aload_n 1, 1) := by decide +kernel
theorem d_jdk_42_method_46_code_12 : decode jdk_42_method_46_code 12 = .ok (.iconst 0, 1) := by decide +kernel
theorem d_jdk_42_method_46_code_13 : decode jdk_42_method_46_code 13 = .ok (.aload_n 1, 1) := by decide +kernel
theorem d_jdk_42_method_46_code_14 : decode jdk_42_method_46_code 14 = .ok (.arraylength, 1) := by decide +kernel
theorem pd__ArBII_Z : parseMethodDescriptor "([BII)Z" = some ⟨[(.array .byte), .int, .int], (some .boolean)⟩ := by decide +kernel
theorem d_jdk_42_method_46_code_15 : decode jdk_42_method_46_code 15 = .ok (.invokestatic 128, 3) := by decide +kernel
theorem d_jdk_42_method_46_code_18 : decode jdk_42_method_46_code 18 = .ok (.ifCond .ne 11, 3) := by decide +kernel
theorem d_jdk_42_method_46_code_21 : decode jdk_42_method_46_code 21 = .ok (.aload_n 1, 1) := by decide +kernel
theorem d_jdk_42_method_46_code_22 : decode jdk_42_method_46_code 22 = .ok (.invokevirtual 279, 3) := by decide +kernel
theorem d_jdk_42_method_46_code_25 : decode jdk_42_method_46_code 25 = .ok (.checkcast 280, 3) := by decide +kernel
theorem d_jdk_42_method_46_code_28 : decode jdk_42_method_46_code 28 = .ok (.areturn, 1) := by decide +kernel
theorem ef_jdk_42_method_46_code_IAI (m : MethodId) (x0 : Int32) (x1 : Addr) (x2 : Int32) : entryFrame m #[(.int x0), (.ref x1), (.int x2)] 9 = mkF m 0 #[.val (.int x0), .val (.ref x1), .val (.int x2), .unset, .unset, .unset, .unset, .unset, .unset] [] := by first | (simp [entryFrame, mkF, argsToLocals, Value.category]; done) | rfl
theorem pf_jdk_42_method_46_code : plainFor (⟨"java/lang/String", "encodeUTF8", "(B[BZ)[B"⟩ : MethodName) = true := by decide +kernel
set_option maxRecDepth 65536 in
set_option maxHeartbeats 40000000 in
theorem own_enc8_p (l : Launch) (Z : State) (a0 : Array Value) (hw : ∀ d ∈ tables_1, d.before a0 Z = true) (ws : List Jvm.Cond) (u1 : Addr) (k1 : ClassId) (yy : Int32) (h0 : Heap) (n0 : Nat) (Z0 : n0 ≤ h0.size) (V1 : Arv Z h0 u1 k1 .byte (1 : Int32) ([yy].map Value.int) (.int 0)) (E1 : Exa Z h0 u1 "[B") (hy : ¬ yy < 0) :
    MetFree l (⟨"java/lang/String", "encodeUTF8", "(B[BZ)[B"⟩ : MethodName) (head1 (Jvm.Cond.code (⟨"java/lang/String", "encodeUTF8", "(B[BZ)[B"⟩ : MethodName) jdk_42_method_46_code 9 (some (.array .byte)) :: ws) ({ frames := 2, cells := 1, slots := 1, locals := 30 } : Room)) (fun a U => a = #[(.int (0 : Int32)), (.ref u1), (.int (1 : Int32))] ∧ Z.Warmed39 U.vm ∧ U.heap = h0) (fun _ _ _ _ _ => True) (fun _ U o U' => ∃ v L, o = .returned v ∧ own_QB Z (1 : Int32) [yy] h0 n0 v U'.heap L ∧ FrameEnd U o U' L ({ frames := 2, cells := 1, slots := 1, locals := 30 } : Room).cells ({ frames := 2, cells := 1, slots := 1, locals := 30 } : Room).slots) := by
  refine MetFree.of_bodySF pf_jdk_42_method_46_code hisR ?_
  intro p e s m args below meth c s₁ Bd hml0 hP hK
  obtain ⟨rfl, hZ, hh⟩ := hP
  have hx := Bd.exec
  have hby := Bd.bytes
  have hml : c.maxLocals = 9 := hml0
  have hown : s.vm.findClass "java/lang/String" = some m.cls := findClass_of_methodNamed Bd.named
  have hnm := (name_of_methodNamed Bd.named Bd.method).1
  have X0 : Stand p l e ({ frames := 2, cells := 1, slots := 1, locals := 30 } : Room) s m #[(.int (0 : Int32)), (.ref u1), (.int (1 : Int32))] below meth c s₁ [] 0 0 := Stand.of_body Bd
  have e0 : s₁.heap = h0 := by rw [← hh, Bd.state]; rfl
  have N0 := Fr.nil n0
  have pre0 : ∀ t, Steps p.tables e below (s₁.setTop (mkF m 0 #[.val (.int (0 : Int32)), .val (.ref u1), .val (.int (1 : Int32)), .unset, .unset, .unset, .unset, .unset, .unset] [])) t → Steps p.tables e below (s₁.setTop (entryFrame m #[(.int (0 : Int32)), (.ref u1), (.int (1 : Int32))] 9)) t := fun t k => castTop (ef_jdk_42_method_46_code_IAI m (0 : Int32) u1 (1 : Int32)) k
  obtain ⟨cl129, Ar129, -, Sz129, Nz129, -⟩ := id V1
  obtain ⟨_, _, ⟨T130, L130, k130, n130⟩, -, X130, ⟨Lc130, hQ130, l130, y130, z130⟩, st130⟩ := Jvm.LawKit.callS X0 hx (y := (⟨"java/lang/StringCoding", "hasNegatives", "([BII)Z"⟩ : MethodName)) hown (mvT hZ (hw _ (List.mem_of_getElem? (i := 100) rfl))) (mvT hZ (hw _ (List.mem_of_getElem? (i := 101) rfl))) (mvT hZ (hw _ (List.mem_of_getElem? (i := 102) rfl))) (mvT hZ (hw _ (List.mem_of_getElem? (i := 103) rfl))) (by decide) (backOf (W := 0) (own_hn_p l Z a0 hw [] u1 k1 yy h0 n0 Z0 V1 E1 hy) hZ (hw _ (List.mem_of_getElem? (i := 103) rfl)) (hw _ (List.mem_of_getElem? (i := 102) rfl)) (by decide) (by decide)) (g := (mkF m 15 #[.val (.int (0 : Int32)), .val (.ref u1), .val (.int (1 : Int32)), .unset, .unset, .unset, .unset, .unset, .unset] [(.int (1 : Int32)), (.int (0 : Int32)), (.ref u1)])) rfl (by rw [hml]; rfl) (argsL := [(.ref u1), (.int (0 : Int32)), (.int (1 : Int32))]) (rest := []) (lenOf pd__ArBII_Z rfl) rfl (by show 2 * 0 + _ ≤ _; exact Nat.le_of_eq rfl) (hb hby d_jdk_42_method_46_code_15) (fun _ _ => ⟨rfl, e0, (by decide : 0 + 0 ≤ _), (by decide : 0 + 0 ≤ _)⟩)
  dsimp only [Pt.U, Pt.locs, Pt.cells, Pt.slots] at X130 l130 y130 z130 st130 hQ130
  subst l130 y130 z130
  obtain ⟨rfl, N130q, e130⟩ := hQ130
  have N130 := Fr.app N0 N130q
  obtain ⟨T131, h131, X131, e131, E131, V131, AE131, st131⟩ := cloneH (a0 := a0) X130 hx hZ hown (hw _ (List.mem_of_getElem? (i := 120) rfl)) (hw _ (List.mem_of_getElem? (i := 121) rfl)) (hw _ (List.mem_of_getElem? (i := 125) rfl)) (hw _ (List.mem_of_getElem? (i := 123) rfl)) (hw _ (List.mem_of_getElem? (i := 124) rfl)) (hw _ (List.mem_of_getElem? (i := 126) rfl)) e130 V1.arh E1 (g := (mkF m 22 #[.val (.int (0 : Int32)), .val (.ref u1), .val (.int (1 : Int32)), .unset, .unset, .unset, .unset, .unset, .unset] [(.ref u1)])) rfl (by rw [hml]; rfl) rfl (hb hby d_jdk_42_method_46_code_22) (by decide) (W := 0) (by show 2 * 0 + _ ≤ _; exact Nat.le_of_eq rfl) (by decide) (cap := 1) (by decide) (by decide) (by decide)
  obtain ⟨b131, g131⟩ : ∃ z, z = h0.size := ⟨_, rfl⟩
  rw [← g131] at V131 AE131 st131
  have q131 : h0.size ≤ b131 := by rw [g131]; exact Nat.le_refl _
  have ne_u1_b131 : u1 ≠ b131 := by rw [g131]; exact Nat.ne_of_lt E1.lt
  have E1_132 := E1.ext E131
  have V1_133 := V1.ext E131
  have EX131 : Ext h0 h131 := E131
  have Z131 : n0 ≤ h131.size := Nat.le_trans Z0 EX131.1
  have V131v : Arv Z h131 b131 k1 .byte (1 : Int32) [(.int yy)] (.int 0) := V131
  obtain ⟨T134, X134, e134, st134⟩ := castY X131 hx hZ hown (hw _ (List.mem_of_getElem? (i := 127) rfl)) e131 (Ins.self AE131) (g := (mkF m 25 #[.val (.int (0 : Int32)), .val (.ref u1), .val (.int (1 : Int32)), .unset, .unset, .unset, .unset, .unset, .unset] [(.ref b131)])) rfl rfl (hb hby d_jdk_42_method_46_code_25)
  obtain ⟨fs, hr, hrun, hended, hW, hsame⟩ := X134.leave (v := some (.ref b131)) (fun h => by rw [Bd.returns] at h; cases h)
  refine ⟨_, _, pre0 _ ?_, hrun, hended, _, _, rfl, ?_, ⟨_, rfl⟩, hW, hsame.mono (by decide) (by decide)⟩
  · show Steps p.tables e below (s₁.setTop (mkF m 0 #[.val (.int (0 : Int32)), .val (.ref u1), .val (.int (1 : Int32)), .unset, .unset, .unset, .unset, .unset, .unset] [])) _
    refine XS.iloadN X0.here hx rfl (hb hby d_jdk_42_method_46_code_0) rfl ?_
    show Steps p.tables e below (s₁.setTop (mkF m 1 #[.val (.int (0 : Int32)), .val (.ref u1), .val (.int (1 : Int32)), .unset, .unset, .unset, .unset, .unset, .unset] [(.int (0 : Int32))])) _
    refine XT.iconstV X0.here hx rfl (1 : Int32) (hb hby d_jdk_42_method_46_code_1) rfl ?_
    show Steps p.tables e below (s₁.setTop (mkF m 2 #[.val (.int (0 : Int32)), .val (.ref u1), .val (.int (1 : Int32)), .unset, .unset, .unset, .unset, .unset, .unset] [(.int (1 : Int32)), (.int (0 : Int32))])) _
    refine XS.icmpYes X0.here hx rfl (pc0 := 2) (pc' := 11) rfl (hb hby d_jdk_42_method_46_code_2) rfl (by decide) (by decide) (by decide) ?_
    show Steps p.tables e below (s₁.setTop (mkF m 11 #[.val (.int (0 : Int32)), .val (.ref u1), .val (.int (1 : Int32)), .unset, .unset, .unset, .unset, .unset, .unset] [])) _
    refine XS.aloadN X0.here hx rfl (hb hby d_jdk_42_method_46_code_11) rfl rfl ?_
    show Steps p.tables e below (s₁.setTop (mkF m 12 #[.val (.int (0 : Int32)), .val (.ref u1), .val (.int (1 : Int32)), .unset, .unset, .unset, .unset, .unset, .unset] [(.ref u1)])) _
    refine XT.iconstV X0.here hx rfl (0 : Int32) (hb hby d_jdk_42_method_46_code_12) rfl ?_
    show Steps p.tables e below (s₁.setTop (mkF m 13 #[.val (.int (0 : Int32)), .val (.ref u1), .val (.int (1 : Int32)), .unset, .unset, .unset, .unset, .unset, .unset] [(.int (0 : Int32)), (.ref u1)])) _
    refine XS.aloadN X0.here hx rfl (hb hby d_jdk_42_method_46_code_13) rfl rfl ?_
    show Steps p.tables e below (s₁.setTop (mkF m 14 #[.val (.int (0 : Int32)), .val (.ref u1), .val (.int (1 : Int32)), .unset, .unset, .unset, .unset, .unset, .unset] [(.ref u1), (.int (0 : Int32)), (.ref u1)])) _
    refine X0.arraylength hx (by rw [e0]; exact Ar129.1) (State.isArrayOf_alike hZ.alike Ar129.2.1) (g := (mkF m 14 #[.val (.int (0 : Int32)), .val (.ref u1), .val (.int (1 : Int32)), .unset, .unset, .unset, .unset, .unset, .unset] [(.ref u1), (.int (0 : Int32)), (.ref u1)])) rfl rfl (hb hby d_jdk_42_method_46_code_14) _ ?_
    rw [len_of Sz129 Nz129]
    show Steps p.tables e below (s₁.setTop (mkF m 15 #[.val (.int (0 : Int32)), .val (.ref u1), .val (.int (1 : Int32)), .unset, .unset, .unset, .unset, .unset, .unset] [(.int (1 : Int32)), (.int (0 : Int32)), (.ref u1)])) _
    refine st130 _ ?_
    show Steps p.tables e below (T130.setTop (mkF m 18 #[.val (.int (0 : Int32)), .val (.ref u1), .val (.int (1 : Int32)), .unset, .unset, .unset, .unset, .unset, .unset] [(.int (0 : Int32))])) _
    refine XS.ifNo X130.here hx rfl (hb hby d_jdk_42_method_46_code_18) rfl (by decide) ?_
    show Steps p.tables e below (T130.setTop (mkF m 21 #[.val (.int (0 : Int32)), .val (.ref u1), .val (.int (1 : Int32)), .unset, .unset, .unset, .unset, .unset, .unset] [])) _
    refine XS.aloadN X130.here hx rfl (hb hby d_jdk_42_method_46_code_21) rfl rfl ?_
    show Steps p.tables e below (T130.setTop (mkF m 22 #[.val (.int (0 : Int32)), .val (.ref u1), .val (.int (1 : Int32)), .unset, .unset, .unset, .unset, .unset, .unset] [(.ref u1)])) _
    refine st131 _ ?_
    show Steps p.tables e below (T131.setTop (mkF m 25 #[.val (.int (0 : Int32)), .val (.ref u1), .val (.int (1 : Int32)), .unset, .unset, .unset, .unset, .unset, .unset] [(.ref b131)])) _
    refine st134 _ ?_
    show Steps p.tables e below (T134.setTop (mkF m 28 #[.val (.int (0 : Int32)), .val (.ref u1), .val (.int (1 : Int32)), .unset, .unset, .unset, .unset, .unset, .unset] [(.ref b131)])) _
    jvm_step X134.here [X134.here.top, hx, (hb hby d_jdk_42_method_46_code_28), X134.method', Bd.returns, Value.isRef, FieldType.isReference]
    first | (intro acts; rw [hr _ acts rfl rfl rfl]) | rw [hr _ _ rfl rfl rfl]
    exact Steps.refl _
  · show own_QB Z (1 : Int32) [yy] h0 n0 _ T134.heap _
    rw [e134]
    exact ⟨b131, k1, rfl, N130, EX131, q131, AE131, V131v⟩
theorem d_jdk_42_method_18_code_0 : decode jdk_42_method_18_code 0 = .ok (.aload_n 0, 1) := by decide +kernel
theorem d_jdk_42_method_18_code_1 : decode jdk_42_method_18_code 1 = .ok (.getstatic 86, 3) := by decide +kernel
theorem d_jdk_42_method_18_code_4 : decode jdk_42_method_18_code 4 = .ok (.if_acmp .ne 10, 3) := by decide +kernel
theorem d_jdk_42_method_18_code_7 : decode jdk_42_method_18_code 7 = .ok (.iload_n 1, 1) := by decide +kernel
theorem d_jdk_42_method_18_code_8 : decode jdk_42_method_18_code 8 = .ok (.aload_n 2, 1) := by decide +kernel
theorem d_jdk_42_method_18_code_9 : decode jdk_42_method_18_code 9 = .ok (.iconst 1, 1) := by decide +kernel
theorem pd__BArBZ_ArB : parseMethodDescriptor "(B[BZ)[B" = some ⟨[.byte, (.array .byte), .boolean], (some (.array .byte))⟩ := by decide +kernel
theorem d_jdk_42_method_18_code_10 : decode jdk_42_method_18_code 10 = .ok (.invokestatic 252, 3) := by decide +kernel
theorem d_jdk_42_method_18_code_13 : decode jdk_42_method_18_code 13 = .ok (.areturn, 1) := by decide +kernel
theorem ef_jdk_42_method_18_code_AIA (m : MethodId) (x0 : Addr) (x1 : Int32) (x2 : Addr) : entryFrame m #[(.ref x0), (.int x1), (.ref x2)] 3 = mkF m 0 #[.val (.ref x0), .val (.int x1), .val (.ref x2)] [] := by first | (simp [entryFrame, mkF, argsToLocals, Value.category]; done) | rfl
theorem pf_jdk_42_method_18_code : plainFor (⟨"java/lang/String", "encode", "(Ljava/nio/charset/Charset;B[B)[B"⟩ : MethodName) = true := by decide +kernel
set_option maxRecDepth 65536 in
set_option maxHeartbeats 40000000 in
theorem own_encode_p (l : Launch) (Z : State) (a0 : Array Value) (hw : ∀ d ∈ tables_1, d.before a0 Z = true) (ws : List Jvm.Cond) (wu : Addr) (u1 : Addr) (k1 : ClassId) (yy : Int32) (h0 : Heap) (n0 : Nat) (Z0 : n0 ≤ h0.size) (V1 : Arv Z h0 u1 k1 .byte (1 : Int32) ([yy].map Value.int) (.int 0)) (E1 : Exa Z h0 u1 "[B") (hy : ¬ yy < 0) (SI : Sta Z h0 "sun/nio/cs/UTF_8" "INSTANCE" "Lsun/nio/cs/UTF_8;" (.ref wu)) :
    MetFree l (⟨"java/lang/String", "encode", "(Ljava/nio/charset/Charset;B[B)[B"⟩ : MethodName) (head1 (Jvm.Cond.code (⟨"java/lang/String", "encode", "(Ljava/nio/charset/Charset;B[B)[B"⟩ : MethodName) jdk_42_method_18_code 3 (some (.array .byte)) :: ws) ({ frames := 3, cells := 1, slots := 1, locals := 50 } : Room)) (fun a U => a = #[(.ref wu), (.int (0 : Int32)), (.ref u1)] ∧ Z.Warmed39 U.vm ∧ U.heap = h0) (fun _ _ _ _ _ => True) (fun _ U o U' => ∃ v L, o = .returned v ∧ own_QB Z (1 : Int32) [yy] h0 n0 v U'.heap L ∧ FrameEnd U o U' L ({ frames := 3, cells := 1, slots := 1, locals := 50 } : Room).cells ({ frames := 3, cells := 1, slots := 1, locals := 50 } : Room).slots) := by
  refine MetFree.of_bodySF pf_jdk_42_method_18_code hisR ?_
  intro p e s m args below meth c s₁ Bd hml0 hP hK
  obtain ⟨rfl, hZ, hh⟩ := hP
  have hx := Bd.exec
  have hby := Bd.bytes
  have hml : c.maxLocals = 3 := hml0
  have hown : s.vm.findClass "java/lang/String" = some m.cls := findClass_of_methodNamed Bd.named
  have hnm := (name_of_methodNamed Bd.named Bd.method).1
  have X0 : Stand p l e ({ frames := 3, cells := 1, slots := 1, locals := 50 } : Room) s m #[(.ref wu), (.int (0 : Int32)), (.ref u1)] below meth c s₁ [] 0 0 := Stand.of_body Bd
  have e0 : s₁.heap = h0 := by rw [← hh, Bd.state]; rfl
  have N0 := Fr.nil n0
  have pre0 : ∀ t, Steps p.tables e below (s₁.setTop (mkF m 0 #[.val (.ref wu), .val (.int (0 : Int32)), .val (.ref u1)] [])) t → Steps p.tables e below (s₁.setTop (entryFrame m #[(.ref wu), (.int (0 : Int32)), (.ref u1)] 3)) t := fun t k => castTop (ef_jdk_42_method_18_code_AIA m wu (0 : Int32) u1) k
  obtain ⟨T135, X135, e135, st135⟩ := getS2 X0 hx hZ hown (host := "") (Or.inl (hw _ (List.mem_of_getElem? (i := 95) rfl))) Via.refl e0 SI (g := (mkF m 1 #[.val (.ref wu), .val (.int (0 : Int32)), .val (.ref u1)] [(.ref wu)])) rfl (hb hby d_jdk_42_method_18_code_1)
  obtain ⟨_, _, ⟨T136, L136, k136, n136⟩, -, X136, ⟨Lc136, hQ136, l136, y136, z136⟩, st136⟩ := Jvm.LawKit.callS X135 hx (y := (⟨"java/lang/String", "encodeUTF8", "(B[BZ)[B"⟩ : MethodName)) hown (mvT hZ (hw _ (List.mem_of_getElem? (i := 97) rfl))) (mvT hZ (hw _ (List.mem_of_getElem? (i := 98) rfl))) (mvT hZ (hw _ (List.mem_of_getElem? (i := 54) rfl))) (mvT hZ (hw _ (List.mem_of_getElem? (i := 99) rfl))) (by decide) (backOf (W := 0) (own_enc8_p l Z a0 hw [] u1 k1 yy h0 n0 Z0 V1 E1 hy) hZ (hw _ (List.mem_of_getElem? (i := 99) rfl)) (hw _ (List.mem_of_getElem? (i := 54) rfl)) (by decide) (by decide)) (g := (mkF m 10 #[.val (.ref wu), .val (.int (0 : Int32)), .val (.ref u1)] [(.int (1 : Int32)), (.ref u1), (.int (0 : Int32))])) rfl (by rw [hml]; rfl) (argsL := [(.int (0 : Int32)), (.ref u1), (.int (1 : Int32))]) (rest := []) (lenOf pd__BArBZ_ArB rfl) rfl (by show 2 * 0 + _ ≤ _; exact Nat.le_of_eq rfl) (hb hby d_jdk_42_method_18_code_10) (fun _ _ => ⟨rfl, e135, (by decide : 0 + 1 ≤ _), (by decide : 0 + 1 ≤ _)⟩)
  dsimp only [Pt.U, Pt.locs, Pt.cells, Pt.slots] at X136 l136 y136 z136 st136 hQ136
  subst l136 y136 z136
  obtain ⟨t136, kt136, rfl, N136q, EE136, qq136, AE136t, V136t⟩ := hQ136
  have N136 := Fr.app N0 N136q
  have q_t136 : h0.size ≤ t136 := qq136
  have ne_u1_t136 : u1 ≠ t136 := Nat.ne_of_lt (Nat.lt_of_lt_of_le E1.lt qq136)
  have E1_137 := E1.ext EE136
  have V1_138 := V1.ext EE136
  have EX136 : Ext h0 T136.heap := EE136
  have Z136 : n0 ≤ T136.heap.size := Nat.le_trans Z0 EX136.1
  obtain ⟨fs, hr, hrun, hended, hW, hsame⟩ := X136.leave (v := some (.ref t136)) (fun h => by rw [Bd.returns] at h; cases h)
  refine ⟨_, _, pre0 _ ?_, hrun, hended, _, _, rfl, ?_, ⟨_, rfl⟩, hW, hsame.mono (by decide) (by decide)⟩
  · show Steps p.tables e below (s₁.setTop (mkF m 0 #[.val (.ref wu), .val (.int (0 : Int32)), .val (.ref u1)] [])) _
    refine XS.aloadN X0.here hx rfl (hb hby d_jdk_42_method_18_code_0) rfl rfl ?_
    show Steps p.tables e below (s₁.setTop (mkF m 1 #[.val (.ref wu), .val (.int (0 : Int32)), .val (.ref u1)] [(.ref wu)])) _
    refine st135 _ ?_
    show Steps p.tables e below (T135.setTop (mkF m 4 #[.val (.ref wu), .val (.int (0 : Int32)), .val (.ref u1)] [(.ref wu), (.ref wu)])) _
    refine Jvm.RoadKit.acmp (g := (mkF m 4 #[.val (.ref wu), .val (.int (0 : Int32)), .val (.ref u1)] [(.ref wu), (.ref wu)])) X135 hx rfl rfl rfl (pc0 := 4) (pc' := 7) (same := true) rfl (hb hby d_jdk_42_method_18_code_4) rfl (decide_eq_true rfl) (by decide) (by decide) ?_
    show Steps p.tables e below (T135.setTop (mkF m 7 #[.val (.ref wu), .val (.int (0 : Int32)), .val (.ref u1)] [])) _
    refine XS.iloadN X135.here hx rfl (hb hby d_jdk_42_method_18_code_7) rfl ?_
    show Steps p.tables e below (T135.setTop (mkF m 8 #[.val (.ref wu), .val (.int (0 : Int32)), .val (.ref u1)] [(.int (0 : Int32))])) _
    refine XS.aloadN X135.here hx rfl (hb hby d_jdk_42_method_18_code_8) rfl rfl ?_
    show Steps p.tables e below (T135.setTop (mkF m 9 #[.val (.ref wu), .val (.int (0 : Int32)), .val (.ref u1)] [(.ref u1), (.int (0 : Int32))])) _
    refine XT.iconstV X135.here hx rfl (1 : Int32) (hb hby d_jdk_42_method_18_code_9) rfl ?_
    show Steps p.tables e below (T135.setTop (mkF m 10 #[.val (.ref wu), .val (.int (0 : Int32)), .val (.ref u1)] [(.int (1 : Int32)), (.ref u1), (.int (0 : Int32))])) _
    refine st136 _ ?_
    show Steps p.tables e below (T136.setTop (mkF m 13 #[.val (.ref wu), .val (.int (0 : Int32)), .val (.ref u1)] [(.ref t136)])) _
    jvm_step X136.here [X136.here.top, hx, (hb hby d_jdk_42_method_18_code_13), X136.method', Bd.returns, Value.isRef, FieldType.isReference]
    first | (intro acts; rw [hr _ acts rfl rfl rfl]) | rw [hr _ _ rfl rfl rfl]
    exact Steps.refl _
  · show own_QB Z (1 : Int32) [yy] h0 n0 _ T136.heap _
    exact ⟨t136, kt136, rfl, N136, EX136, q_t136, AE136t, V136t⟩
theorem d_jdk_42_method_64_code_0 : decode jdk_42_method_64_code 0 = .ok (.aload_n 1, 1) := by decide +kernel
theorem d_jdk_42_method_64_code_1 : decode jdk_42_method_64_code 1 = .ok (.ifnonnull 11, 3) := by decide +kernel
theorem d_jdk_42_method_64_code_12 : decode jdk_42_method_64_code 12 = .ok (.aload_n 1, 1) := by decide +kernel
theorem d_jdk_42_method_64_code_13 : decode jdk_42_method_64_code 13 = .ok (.aload_n 0, 1) := by decide +kernel
theorem pd___B : parseMethodDescriptor "()B" = some ⟨[], (some .byte)⟩ := by decide +kernel
theorem d_jdk_42_method_64_code_14 : decode jdk_42_method_64_code 14 = .ok (.invokevirtual 335, 3) := by decide +kernel
theorem d_jdk_42_method_64_code_17 : decode jdk_42_method_64_code 17 = .ok (.aload_n 0, 1) := by decide +kernel
theorem d_jdk_42_method_64_code_18 : decode jdk_42_method_64_code 18 = .ok (.getfield 9, 3) := by decide +kernel
theorem pd__Ljava_nio_charset_Charset_BArB_ArB : parseMethodDescriptor "(Ljava/nio/charset/Charset;B[B)[B" = some ⟨[(.object "java/nio/charset/Charset"), .byte, (.array .byte)], (some (.array .byte))⟩ := by decide +kernel
theorem d_jdk_42_method_64_code_21 : decode jdk_42_method_64_code 21 = .ok (.invokestatic 535, 3) := by decide +kernel
theorem d_jdk_42_method_64_code_24 : decode jdk_42_method_64_code 24 = .ok (.areturn, 1) := by decide +kernel
theorem ef_jdk_42_method_64_code_AA (m : MethodId) (x0 : Addr) (x1 : Addr) : entryFrame m #[(.ref x0), (.ref x1)] 2 = mkF m 0 #[.val (.ref x0), .val (.ref x1)] [] := by first | (simp [entryFrame, mkF, argsToLocals, Value.category]; done) | rfl
theorem pf_jdk_42_method_64_code : plainFor (⟨"java/lang/String", "getBytes", "(Ljava/nio/charset/Charset;)[B"⟩ : MethodName) = true := by decide +kernel
set_option maxRecDepth 65536 in
set_option maxHeartbeats 40000000 in
theorem own_getB_p (l : Launch) (Z : State) (a0 : Array Value) (hw : ∀ d ∈ tables_1, d.before a0 Z = true) (ws : List Jvm.Cond) (wu : Addr) (i7 : Int32) (t1 u1 : Addr) (k1 : ClassId) (yy : Int32) (h0 : Heap) (n0 : Nat) (Z0 : n0 ≤ h0.size) (S8 : Sta Z h0 "java/lang/String" "COMPACT_STRINGS" "Z" (.int i7)) (c9 : ¬ (i7 = (0 : Int32))) (P : own_St Z h0 t1 u1 k1 (1 : Int32) [yy]) (hy : ¬ yy < 0) (SI : Sta Z h0 "sun/nio/cs/UTF_8" "INSTANCE" "Lsun/nio/cs/UTF_8;" (.ref wu)) :
    MetFree l (⟨"java/lang/String", "getBytes", "(Ljava/nio/charset/Charset;)[B"⟩ : MethodName) (head1 (Jvm.Cond.code (⟨"java/lang/String", "getBytes", "(Ljava/nio/charset/Charset;)[B"⟩ : MethodName) jdk_42_method_64_code 2 (some (.array .byte)) :: ws) ({ frames := 4, cells := 1, slots := 1, locals := 64 } : Room)) (fun a U => a = #[(.ref t1), (.ref wu)] ∧ Z.Warmed39 U.vm ∧ U.heap = h0) (fun _ _ _ _ _ => True) (fun _ U o U' => ∃ v L, o = .returned v ∧ own_QB Z (1 : Int32) [yy] h0 n0 v U'.heap L ∧ FrameEnd U o U' L ({ frames := 4, cells := 1, slots := 1, locals := 64 } : Room).cells ({ frames := 4, cells := 1, slots := 1, locals := 64 } : Room).slots) := by
  refine MetFree.of_bodySF pf_jdk_42_method_64_code hisR ?_
  intro p e s m args below meth c s₁ Bd hml0 hP hK
  obtain ⟨rfl, hZ, hh⟩ := hP
  have hx := Bd.exec
  have hby := Bd.bytes
  have hml : c.maxLocals = 2 := hml0
  have hown : s.vm.findClass "java/lang/String" = some m.cls := findClass_of_methodNamed Bd.named
  have hnm := (name_of_methodNamed Bd.named Bd.method).1
  have X0 : Stand p l e ({ frames := 4, cells := 1, slots := 1, locals := 64 } : Room) s m #[(.ref t1), (.ref wu)] below meth c s₁ [] 0 0 := Stand.of_body Bd
  have e0 : s₁.heap = h0 := by rw [← hh, Bd.state]; rfl
  have N0 := Fr.nil n0
  have pre0 : ∀ t, Steps p.tables e below (s₁.setTop (mkF m 0 #[.val (.ref t1), .val (.ref wu)] [])) t → Steps p.tables e below (s₁.setTop (entryFrame m #[(.ref t1), (.ref wu)] 2)) t := fun t k => castTop (ef_jdk_42_method_64_code_AA m t1 wu) k
  obtain ⟨E_139, Fvalue_140, Fcoder_141, E_142, V_143⟩ := id P
  obtain ⟨cq144, kq144, q144a, q144b, q144c⟩ := isOf hZ e0 E_139
  obtain ⟨_, _, ⟨T144, L144, k144, n144⟩, -, X144, ⟨Lc144, hQ144, l144, y144, z144⟩, st144⟩ := X0.virtualBack hx (y := (⟨"java/lang/String", "coder", "()B"⟩ : MethodName)) (z := (⟨"java/lang/String", "coder", "()B"⟩ : MethodName)) hown (mvT hZ (hw _ (List.mem_of_getElem? (i := 87) rfl))) (mvT hZ (hw _ (List.mem_of_getElem? (i := 88) rfl))) (notFace_of_selects (args := #[]) (mvT hZ (hw _ (List.mem_of_getElem? (i := 90) rfl)))) (mvT hZ (hw _ (List.mem_of_getElem? (i := 90) rfl))) (mvT hZ (hw _ (List.mem_of_getElem? (i := 89) rfl))) (by decide) (backOf (W := 1) (own_coder l Z a0 hw [] i7 t1 u1 k1 yy h0 n0 Z0 S8 c9 P) hZ (hw _ (List.mem_of_getElem? (i := 91) rfl)) (hw _ (List.mem_of_getElem? (i := 54) rfl)) (by decide) (by decide)) q144a q144c (g := (mkF m 14 #[.val (.ref t1), .val (.ref wu)] [(.ref t1), (.ref wu)])) rfl (by rw [hml]; rfl) (Steps.refl _) (argsL := []) (rest := [(.ref wu)]) (lenOf pd___B rfl) rfl (by show 2 * 0 + _ ≤ _; exact Nat.le_of_eq rfl) (hb hby d_jdk_42_method_64_code_14) (fun _ _ => ⟨rfl, e0, (by decide : 0 + 0 ≤ _), (by decide : 0 + 0 ≤ _)⟩)
  dsimp only [Pt.U, Pt.locs, Pt.cells, Pt.slots] at X144 l144 y144 z144 st144 hQ144
  subst l144 y144 z144
  obtain ⟨rfl, N144q, e144⟩ := hQ144
  have N144 := Fr.app N0 N144q
  obtain ⟨T145, X145, e145, st145⟩ := getF X144 hx hZ hown (host := "") (Or.inl (hw _ (List.mem_of_getElem? (i := 71) rfl))) Via.refl e144 Fvalue_140 (g := (mkF m 18 #[.val (.ref t1), .val (.ref wu)] [(.ref t1), (.int (0 : Int32)), (.ref wu)])) rfl rfl (hb hby d_jdk_42_method_64_code_18)
  obtain ⟨_, _, ⟨T146, L146, k146, n146⟩, -, X146, ⟨Lc146, hQ146, l146, y146, z146⟩, st146⟩ := Jvm.LawKit.callS X145 hx (y := (⟨"java/lang/String", "encode", "(Ljava/nio/charset/Charset;B[B)[B"⟩ : MethodName)) hown (mvT hZ (hw _ (List.mem_of_getElem? (i := 92) rfl))) (mvT hZ (hw _ (List.mem_of_getElem? (i := 93) rfl))) (mvT hZ (hw _ (List.mem_of_getElem? (i := 54) rfl))) (mvT hZ (hw _ (List.mem_of_getElem? (i := 94) rfl))) (by decide) (backOf (W := 0) (own_encode_p l Z a0 hw [] wu u1 k1 yy h0 n0 Z0 V_143 E_142 hy SI) hZ (hw _ (List.mem_of_getElem? (i := 94) rfl)) (hw _ (List.mem_of_getElem? (i := 54) rfl)) (by decide) (by decide)) (g := (mkF m 21 #[.val (.ref t1), .val (.ref wu)] [(.ref u1), (.int (0 : Int32)), (.ref wu)])) rfl (by rw [hml]; rfl) (argsL := [(.ref wu), (.int (0 : Int32)), (.ref u1)]) (rest := []) (lenOf pd__Ljava_nio_charset_Charset_BArB_ArB rfl) rfl (by show 2 * 0 + _ ≤ _; exact Nat.le_of_eq rfl) (hb hby d_jdk_42_method_64_code_21) (fun _ _ => ⟨rfl, e145, (by decide : 0 + 1 ≤ _), (by decide : 0 + 1 ≤ _)⟩)
  dsimp only [Pt.U, Pt.locs, Pt.cells, Pt.slots] at X146 l146 y146 z146 st146 hQ146
  subst l146 y146 z146
  obtain ⟨t146, kt146, rfl, N146q, EE146, qq146, AE146t, V146t⟩ := hQ146
  have N146 := Fr.app N144 N146q
  have q_t146 : h0.size ≤ t146 := qq146
  have ne_t1_t146 : t1 ≠ t146 := Nat.ne_of_lt (Nat.lt_of_lt_of_le E_139.lt qq146)
  have ne_u1_t146 : u1 ≠ t146 := Nat.ne_of_lt (Nat.lt_of_lt_of_le E_142.lt qq146)
  have E_147 := E_139.ext EE146
  have Fvalue_148 := Fvalue_140.ext EE146
  have Fcoder_149 := Fcoder_141.ext EE146
  have E_150 := E_142.ext EE146
  have V_151 := V_143.ext EE146
  have EX146 : Ext h0 T146.heap := EE146
  have Z146 : n0 ≤ T146.heap.size := Nat.le_trans Z0 EX146.1
  obtain ⟨fs, hr, hrun, hended, hW, hsame⟩ := X146.leave (v := some (.ref t146)) (fun h => by rw [Bd.returns] at h; cases h)
  refine ⟨_, _, pre0 _ ?_, hrun, hended, _, _, rfl, ?_, ⟨_, rfl⟩, hW, hsame.mono (by decide) (by decide)⟩
  · show Steps p.tables e below (s₁.setTop (mkF m 0 #[.val (.ref t1), .val (.ref wu)] [])) _
    refine XS.aloadN X0.here hx rfl (hb hby d_jdk_42_method_64_code_0) rfl rfl ?_
    show Steps p.tables e below (s₁.setTop (mkF m 1 #[.val (.ref t1), .val (.ref wu)] [(.ref wu)])) _
    refine XT.ifnonnullYes X0.here hx rfl (pc0 := 1) (pc' := 12) rfl (hb hby d_jdk_42_method_64_code_1) rfl (by decide) (by decide) ?_
    show Steps p.tables e below (s₁.setTop (mkF m 12 #[.val (.ref t1), .val (.ref wu)] [])) _
    refine XS.aloadN X0.here hx rfl (hb hby d_jdk_42_method_64_code_12) rfl rfl ?_
    show Steps p.tables e below (s₁.setTop (mkF m 13 #[.val (.ref t1), .val (.ref wu)] [(.ref wu)])) _
    refine XS.aloadN X0.here hx rfl (hb hby d_jdk_42_method_64_code_13) rfl rfl ?_
    show Steps p.tables e below (s₁.setTop (mkF m 14 #[.val (.ref t1), .val (.ref wu)] [(.ref t1), (.ref wu)])) _
    refine st144.trans ?_
    show Steps p.tables e below (T144.setTop (mkF m 17 #[.val (.ref t1), .val (.ref wu)] [(.int (0 : Int32)), (.ref wu)])) _
    refine XS.aloadN X144.here hx rfl (hb hby d_jdk_42_method_64_code_17) rfl rfl ?_
    show Steps p.tables e below (T144.setTop (mkF m 18 #[.val (.ref t1), .val (.ref wu)] [(.ref t1), (.int (0 : Int32)), (.ref wu)])) _
    refine st145 _ ?_
    show Steps p.tables e below (T145.setTop (mkF m 21 #[.val (.ref t1), .val (.ref wu)] [(.ref u1), (.int (0 : Int32)), (.ref wu)])) _
    refine st146 _ ?_
    show Steps p.tables e below (T146.setTop (mkF m 24 #[.val (.ref t1), .val (.ref wu)] [(.ref t146)])) _
    jvm_step X146.here [X146.here.top, hx, (hb hby d_jdk_42_method_64_code_24), X146.method', Bd.returns, Value.isRef, FieldType.isReference]
    first | (intro acts; rw [hr _ acts rfl rfl rfl]) | rw [hr _ _ rfl rfl rfl]
    exact Steps.refl _
  · show own_QB Z (1 : Int32) [yy] h0 n0 _ T146.heap _
    exact ⟨t146, kt146, rfl, N146, EX146, q_t146, AE146t, V146t⟩
theorem d_jdk_123_method_3_code_20 : decode jdk_123_method_3_code 20 = .ok (.iload 4, 2) := by decide +kernel
theorem d_jdk_123_method_3_code_22 : decode jdk_123_method_3_code 22 = .ok (.iload_n 1, 1) := by decide +kernel
theorem d_jdk_123_method_3_code_23 : decode jdk_123_method_3_code 23 = .ok (.isub, 1) := by decide +kernel
theorem d_jdk_123_method_3_code_24 : decode jdk_123_method_3_code 24 = .ok (.ireturn, 1) := by decide +kernel
set_option maxRecDepth 65536 in
set_option maxHeartbeats 40000000 in
theorem own_cp_n (l : Launch) (Z : State) (a0 : Array Value) (hw : ∀ d ∈ tables_1, d.before a0 Z = true) (ws : List Jvm.Cond) (u1 : Addr) (k1 : ClassId) (yy : Int32) (h0 : Heap) (n0 : Nat) (Z0 : n0 ≤ h0.size) (V1 : Arv Z h0 u1 k1 .byte (1 : Int32) ([yy].map Value.int) (.int 0)) (E1 : Exa Z h0 u1 "[B") (hy : yy < 0) :
    MetFree l (⟨"java/lang/StringCoding", "countPositives", "([BII)I"⟩ : MethodName) (head1 (Jvm.Cond.code (⟨"java/lang/StringCoding", "countPositives", "([BII)I"⟩ : MethodName) jdk_123_method_3_code 5 (some .int) :: ws) ({ frames := 0, cells := 0, slots := 0, locals := 0 } : Room)) (fun a U => a = #[(.ref u1), (.int (0 : Int32)), (.int (1 : Int32))] ∧ Z.Warmed39 U.vm ∧ U.heap = h0) (fun _ _ _ _ _ => True) (fun _ U o U' => ∃ v L, o = .returned v ∧ own_Q (some (.int (0 : Int32))) h0 n0 v U'.heap L ∧ FrameEnd U o U' L ({ frames := 0, cells := 0, slots := 0, locals := 0 } : Room).cells ({ frames := 0, cells := 0, slots := 0, locals := 0 } : Room).slots) := by
  refine MetFree.of_bodySF pf_jdk_123_method_3_code hisR ?_
  intro p e s m args below meth c s₁ Bd hml0 hP hK
  obtain ⟨rfl, hZ, hh⟩ := hP
  have hx := Bd.exec
  have hby := Bd.bytes
  have hml : c.maxLocals = 5 := hml0
  have hown : s.vm.findClass "java/lang/StringCoding" = some m.cls := findClass_of_methodNamed Bd.named
  have hnm := (name_of_methodNamed Bd.named Bd.method).1
  have X0 : Stand p l e ({ frames := 0, cells := 0, slots := 0, locals := 0 } : Room) s m #[(.ref u1), (.int (0 : Int32)), (.int (1 : Int32))] below meth c s₁ [] 0 0 := Stand.of_body Bd
  have e0 : s₁.heap = h0 := by rw [← hh, Bd.state]; rfl
  have N0 := Fr.nil n0
  have pre0 : ∀ t, Steps p.tables e below (s₁.setTop (mkF m 0 #[.val (.ref u1), .val (.int (0 : Int32)), .val (.int (1 : Int32)), .unset, .unset] [])) t → Steps p.tables e below (s₁.setTop (entryFrame m #[(.ref u1), (.int (0 : Int32)), (.int (1 : Int32))] 5)) t := fun t k => castTop (ef_jdk_123_method_3_code_AII m u1 (0 : Int32) (1 : Int32)) k
  obtain ⟨cl152, Ar152, Q152, H152⟩ := own_at V1 (j := (0 : Int32)) (v := (.int yy)) (by decide) rfl
  obtain ⟨fs, hr, hrun, hended, hW, hsame⟩ := X0.leave (v := some (.int (0 : Int32))) (fun h => by rw [Bd.returns] at h; cases h)
  refine ⟨_, _, pre0 _ ?_, hrun, hended, _, _, rfl, ?_, ⟨_, rfl⟩, hW, hsame.mono (by decide) (by decide)⟩
  · show Steps p.tables e below (s₁.setTop (mkF m 0 #[.val (.ref u1), .val (.int (0 : Int32)), .val (.int (1 : Int32)), .unset, .unset] [])) _
    refine XS.iloadN X0.here hx rfl (hb hby d_jdk_123_method_3_code_0) rfl ?_
    show Steps p.tables e below (s₁.setTop (mkF m 1 #[.val (.ref u1), .val (.int (0 : Int32)), .val (.int (1 : Int32)), .unset, .unset] [(.int (0 : Int32))])) _
    refine XS.iloadN X0.here hx rfl (hb hby d_jdk_123_method_3_code_1) rfl ?_
    show Steps p.tables e below (s₁.setTop (mkF m 2 #[.val (.ref u1), .val (.int (0 : Int32)), .val (.int (1 : Int32)), .unset, .unset] [(.int (1 : Int32)), (.int (0 : Int32))])) _
    refine XS.iadd X0.here hx rfl (hb hby d_jdk_123_method_3_code_2) rfl ?_
    rw [show ((0 : Int32) + (1 : Int32)) = (1 : Int32) from by decide]
    show Steps p.tables e below (s₁.setTop (mkF m 3 #[.val (.ref u1), .val (.int (0 : Int32)), .val (.int (1 : Int32)), .unset, .unset] [(.int (1 : Int32))])) _
    refine XS.istoreN X0.here hx rfl (hb hby d_jdk_123_method_3_code_3) rfl (l' := #[.val (.ref u1), .val (.int (0 : Int32)), .val (.int (1 : Int32)), .val (.int (1 : Int32)), .unset]) rfl ?_
    show Steps p.tables e below (s₁.setTop (mkF m 4 #[.val (.ref u1), .val (.int (0 : Int32)), .val (.int (1 : Int32)), .val (.int (1 : Int32)), .unset] [])) _
    refine XS.iloadN X0.here hx rfl (hb hby d_jdk_123_method_3_code_4) rfl ?_
    show Steps p.tables e below (s₁.setTop (mkF m 5 #[.val (.ref u1), .val (.int (0 : Int32)), .val (.int (1 : Int32)), .val (.int (1 : Int32)), .unset] [(.int (0 : Int32))])) _
    refine XS.istore X0.here hx rfl (hb hby d_jdk_123_method_3_code_5) rfl (l' := #[.val (.ref u1), .val (.int (0 : Int32)), .val (.int (1 : Int32)), .val (.int (1 : Int32)), .val (.int (0 : Int32))]) rfl ?_
    show Steps p.tables e below (s₁.setTop (mkF m 7 #[.val (.ref u1), .val (.int (0 : Int32)), .val (.int (1 : Int32)), .val (.int (1 : Int32)), .val (.int (0 : Int32))] [])) _
    refine XS.iload X0.here hx rfl (hb hby d_jdk_123_method_3_code_7) rfl ?_
    show Steps p.tables e below (s₁.setTop (mkF m 9 #[.val (.ref u1), .val (.int (0 : Int32)), .val (.int (1 : Int32)), .val (.int (1 : Int32)), .val (.int (0 : Int32))] [(.int (0 : Int32))])) _
    refine XS.iloadN X0.here hx rfl (hb hby d_jdk_123_method_3_code_9) rfl ?_
    show Steps p.tables e below (s₁.setTop (mkF m 10 #[.val (.ref u1), .val (.int (0 : Int32)), .val (.int (1 : Int32)), .val (.int (1 : Int32)), .val (.int (0 : Int32))] [(.int (1 : Int32)), (.int (0 : Int32))])) _
    refine XS.icmpNo X0.here hx rfl (hb hby d_jdk_123_method_3_code_10) rfl (by decide) ?_
    show Steps p.tables e below (s₁.setTop (mkF m 13 #[.val (.ref u1), .val (.int (0 : Int32)), .val (.int (1 : Int32)), .val (.int (1 : Int32)), .val (.int (0 : Int32))] [])) _
    refine XS.aloadN X0.here hx rfl (hb hby d_jdk_123_method_3_code_13) rfl rfl ?_
    show Steps p.tables e below (s₁.setTop (mkF m 14 #[.val (.ref u1), .val (.int (0 : Int32)), .val (.int (1 : Int32)), .val (.int (1 : Int32)), .val (.int (0 : Int32))] [(.ref u1)])) _
    refine XS.iload X0.here hx rfl (hb hby d_jdk_123_method_3_code_14) rfl ?_
    show Steps p.tables e below (s₁.setTop (mkF m 16 #[.val (.ref u1), .val (.int (0 : Int32)), .val (.int (1 : Int32)), .val (.int (1 : Int32)), .val (.int (0 : Int32))] [(.int (0 : Int32)), (.ref u1)])) _
    refine X0.baloadBytes hx (j := (0 : Int32)) (v := (.int yy)) (by rw [e0]; exact Ar152.1) (State.isArrayOf_alike hZ.alike Ar152.2.1) Ar152.2.2 Q152 H152 (g := (mkF m 16 #[.val (.ref u1), .val (.int (0 : Int32)), .val (.int (1 : Int32)), .val (.int (1 : Int32)), .val (.int (0 : Int32))] [(.int (0 : Int32)), (.ref u1)])) rfl rfl (hb hby d_jdk_123_method_3_code_16) _ ?_
    show Steps p.tables e below (s₁.setTop (mkF m 17 #[.val (.ref u1), .val (.int (0 : Int32)), .val (.int (1 : Int32)), .val (.int (1 : Int32)), .val (.int (0 : Int32))] [(.int yy)])) _
    refine XS.ifNo X0.here hx rfl (hb hby d_jdk_123_method_3_code_17) rfl (XT.i0_ge_f hy) ?_
    show Steps p.tables e below (s₁.setTop (mkF m 20 #[.val (.ref u1), .val (.int (0 : Int32)), .val (.int (1 : Int32)), .val (.int (1 : Int32)), .val (.int (0 : Int32))] [])) _
    refine XS.iload X0.here hx rfl (hb hby d_jdk_123_method_3_code_20) rfl ?_
    show Steps p.tables e below (s₁.setTop (mkF m 22 #[.val (.ref u1), .val (.int (0 : Int32)), .val (.int (1 : Int32)), .val (.int (1 : Int32)), .val (.int (0 : Int32))] [(.int (0 : Int32))])) _
    refine XS.iloadN X0.here hx rfl (hb hby d_jdk_123_method_3_code_22) rfl ?_
    show Steps p.tables e below (s₁.setTop (mkF m 23 #[.val (.ref u1), .val (.int (0 : Int32)), .val (.int (1 : Int32)), .val (.int (1 : Int32)), .val (.int (0 : Int32))] [(.int (0 : Int32)), (.int (0 : Int32))])) _
    refine XS.isub X0.here hx rfl (hb hby d_jdk_123_method_3_code_23) rfl ?_
    rw [show ((0 : Int32) - (0 : Int32)) = (0 : Int32) from by decide]
    show Steps p.tables e below (s₁.setTop (mkF m 24 #[.val (.ref u1), .val (.int (0 : Int32)), .val (.int (1 : Int32)), .val (.int (1 : Int32)), .val (.int (0 : Int32))] [(.int (0 : Int32))])) _
    exact retI X0 hx Bd.returns (hb hby d_jdk_123_method_3_code_24) hr
  · show own_Q (some (.int (0 : Int32))) h0 n0 _ s₁.heap _
    rw [e0]
    exact ⟨rfl, N0, rfl⟩
theorem d_jdk_123_method_2_code_10 : decode jdk_123_method_2_code 10 = .ok (.iconst 1, 1) := by decide +kernel
theorem d_jdk_123_method_2_code_11 : decode jdk_123_method_2_code 11 = .ok (.goto 4, 3) := by decide +kernel
set_option maxRecDepth 65536 in
set_option maxHeartbeats 40000000 in
theorem own_hn_n (l : Launch) (Z : State) (a0 : Array Value) (hw : ∀ d ∈ tables_1, d.before a0 Z = true) (ws : List Jvm.Cond) (u1 : Addr) (k1 : ClassId) (yy : Int32) (h0 : Heap) (n0 : Nat) (Z0 : n0 ≤ h0.size) (V1 : Arv Z h0 u1 k1 .byte (1 : Int32) ([yy].map Value.int) (.int 0)) (E1 : Exa Z h0 u1 "[B") (hy : yy < 0) :
    MetFree l (⟨"java/lang/StringCoding", "hasNegatives", "([BII)Z"⟩ : MethodName) (head1 (Jvm.Cond.code (⟨"java/lang/StringCoding", "hasNegatives", "([BII)Z"⟩ : MethodName) jdk_123_method_2_code 3 (some .boolean) :: ws) ({ frames := 1, cells := 0, slots := 0, locals := 16 } : Room)) (fun a U => a = #[(.ref u1), (.int (0 : Int32)), (.int (1 : Int32))] ∧ Z.Warmed39 U.vm ∧ U.heap = h0) (fun _ _ _ _ _ => True) (fun _ U o U' => ∃ v L, o = .returned v ∧ own_Q (some (.int (1 : Int32))) h0 n0 v U'.heap L ∧ FrameEnd U o U' L ({ frames := 1, cells := 0, slots := 0, locals := 16 } : Room).cells ({ frames := 1, cells := 0, slots := 0, locals := 16 } : Room).slots) := by
  refine MetFree.of_bodySF pf_jdk_123_method_2_code hisR ?_
  intro p e s m args below meth c s₁ Bd hml0 hP hK
  obtain ⟨rfl, hZ, hh⟩ := hP
  have hx := Bd.exec
  have hby := Bd.bytes
  have hml : c.maxLocals = 3 := hml0
  have hown : s.vm.findClass "java/lang/StringCoding" = some m.cls := findClass_of_methodNamed Bd.named
  have hnm := (name_of_methodNamed Bd.named Bd.method).1
  have X0 : Stand p l e ({ frames := 1, cells := 0, slots := 0, locals := 16 } : Room) s m #[(.ref u1), (.int (0 : Int32)), (.int (1 : Int32))] below meth c s₁ [] 0 0 := Stand.of_body Bd
  have e0 : s₁.heap = h0 := by rw [← hh, Bd.state]; rfl
  have N0 := Fr.nil n0
  have pre0 : ∀ t, Steps p.tables e below (s₁.setTop (mkF m 0 #[.val (.ref u1), .val (.int (0 : Int32)), .val (.int (1 : Int32))] [])) t → Steps p.tables e below (s₁.setTop (entryFrame m #[(.ref u1), (.int (0 : Int32)), (.int (1 : Int32))] 3)) t := fun t k => castTop (ef_jdk_123_method_2_code_AII m u1 (0 : Int32) (1 : Int32)) k
  obtain ⟨_, _, ⟨T153, L153, k153, n153⟩, -, X153, ⟨Lc153, hQ153, l153, y153, z153⟩, st153⟩ := Jvm.LawKit.callS X0 hx (y := (⟨"java/lang/StringCoding", "countPositives", "([BII)I"⟩ : MethodName)) hown (mvT hZ (hw _ (List.mem_of_getElem? (i := 104) rfl))) (mvT hZ (hw _ (List.mem_of_getElem? (i := 105) rfl))) (mvT hZ (hw _ (List.mem_of_getElem? (i := 102) rfl))) (mvT hZ (hw _ (List.mem_of_getElem? (i := 106) rfl))) (by decide) (backOf (W := 0) (own_cp_n l Z a0 hw [] u1 k1 yy h0 n0 Z0 V1 E1 hy) hZ (hw _ (List.mem_of_getElem? (i := 106) rfl)) (hw _ (List.mem_of_getElem? (i := 102) rfl)) (by decide) (by decide)) (g := (mkF m 3 #[.val (.ref u1), .val (.int (0 : Int32)), .val (.int (1 : Int32))] [(.int (1 : Int32)), (.int (0 : Int32)), (.ref u1)])) rfl (by rw [hml]; rfl) (argsL := [(.ref u1), (.int (0 : Int32)), (.int (1 : Int32))]) (rest := []) (lenOf pd__ArBII_I rfl) rfl (by show 2 * 0 + _ ≤ _; exact Nat.le_of_eq rfl) (hb hby d_jdk_123_method_2_code_3) (fun _ _ => ⟨rfl, e0, (by decide : 0 + 0 ≤ _), (by decide : 0 + 0 ≤ _)⟩)
  dsimp only [Pt.U, Pt.locs, Pt.cells, Pt.slots] at X153 l153 y153 z153 st153 hQ153
  subst l153 y153 z153
  obtain ⟨rfl, N153q, e153⟩ := hQ153
  have N153 := Fr.app N0 N153q
  obtain ⟨fs, hr, hrun, hended, hW, hsame⟩ := X153.leave (v := some (.int (1 : Int32))) (fun h => by rw [Bd.returns] at h; cases h)
  refine ⟨_, _, pre0 _ ?_, hrun, hended, _, _, rfl, ?_, ⟨_, rfl⟩, hW, hsame.mono (by decide) (by decide)⟩
  · show Steps p.tables e below (s₁.setTop (mkF m 0 #[.val (.ref u1), .val (.int (0 : Int32)), .val (.int (1 : Int32))] [])) _
    refine XS.aloadN X0.here hx rfl (hb hby d_jdk_123_method_2_code_0) rfl rfl ?_
    show Steps p.tables e below (s₁.setTop (mkF m 1 #[.val (.ref u1), .val (.int (0 : Int32)), .val (.int (1 : Int32))] [(.ref u1)])) _
    refine XS.iloadN X0.here hx rfl (hb hby d_jdk_123_method_2_code_1) rfl ?_
    show Steps p.tables e below (s₁.setTop (mkF m 2 #[.val (.ref u1), .val (.int (0 : Int32)), .val (.int (1 : Int32))] [(.int (0 : Int32)), (.ref u1)])) _
    refine XS.iloadN X0.here hx rfl (hb hby d_jdk_123_method_2_code_2) rfl ?_
    show Steps p.tables e below (s₁.setTop (mkF m 3 #[.val (.ref u1), .val (.int (0 : Int32)), .val (.int (1 : Int32))] [(.int (1 : Int32)), (.int (0 : Int32)), (.ref u1)])) _
    refine st153 _ ?_
    show Steps p.tables e below (T153.setTop (mkF m 6 #[.val (.ref u1), .val (.int (0 : Int32)), .val (.int (1 : Int32))] [(.int (0 : Int32))])) _
    refine XS.iloadN X153.here hx rfl (hb hby d_jdk_123_method_2_code_6) rfl ?_
    show Steps p.tables e below (T153.setTop (mkF m 7 #[.val (.ref u1), .val (.int (0 : Int32)), .val (.int (1 : Int32))] [(.int (1 : Int32)), (.int (0 : Int32))])) _
    refine XS.icmpNo X153.here hx rfl (hb hby d_jdk_123_method_2_code_7) rfl (by decide) ?_
    show Steps p.tables e below (T153.setTop (mkF m 10 #[.val (.ref u1), .val (.int (0 : Int32)), .val (.int (1 : Int32))] [])) _
    refine XT.iconstV X153.here hx rfl (1 : Int32) (hb hby d_jdk_123_method_2_code_10) rfl ?_
    show Steps p.tables e below (T153.setTop (mkF m 11 #[.val (.ref u1), .val (.int (0 : Int32)), .val (.int (1 : Int32))] [(.int (1 : Int32))])) _
    refine XS.goto X153.here hx rfl (pc0 := 11) (pc' := 15) rfl (hb hby d_jdk_123_method_2_code_11) (by decide) (by decide) ?_
    show Steps p.tables e below (T153.setTop (mkF m 15 #[.val (.ref u1), .val (.int (0 : Int32)), .val (.int (1 : Int32))] [(.int (1 : Int32))])) _
    exact retN X153 hx (t := .boolean) Bd.returns (by simp) (hb hby d_jdk_123_method_2_code_15) hr
  · show own_Q (some (.int (1 : Int32))) h0 n0 _ T153.heap _
    rw [e153]
    exact ⟨rfl, N153, rfl⟩
theorem d_jdk_52_method_3_code_0 : decode jdk_52_method_3_code 0 = .ok (.iload_n 0, 1) := by decide +kernel
theorem d_jdk_52_method_3_code_1 : decode jdk_52_method_3_code 1 = .ok (.ifCond .ge 11, 3) := by decide +kernel
theorem d_jdk_52_method_3_code_12 : decode jdk_52_method_3_code 12 = .ok (.iload_n 0, 1) := by decide +kernel
theorem d_jdk_52_method_3_code_13 : decode jdk_52_method_3_code 13 = .ok (.ldc 20, 2) := by decide +kernel
theorem d_jdk_52_method_3_code_15 : decode jdk_52_method_3_code 15 = .ok (.if_icmp .lt 40, 3) := by decide +kernel
theorem d_jdk_52_method_3_code_55 : decode jdk_52_method_3_code 55 = .ok (.iload_n 0, 1) := by decide +kernel
theorem d_jdk_52_method_3_code_56 : decode jdk_52_method_3_code 56 = .ok (.iconst 1, 1) := by decide +kernel
theorem d_jdk_52_method_3_code_57 : decode jdk_52_method_3_code 57 = .ok (.ishl, 1) := by decide +kernel
theorem d_jdk_52_method_3_code_58 : decode jdk_52_method_3_code 58 = .ok (.ireturn, 1) := by decide +kernel
theorem ef_jdk_52_method_3_code_I (m : MethodId) (x0 : Int32) : entryFrame m #[(.int x0)] 1 = mkF m 0 #[.val (.int x0)] [] := by first | (simp [entryFrame, mkF, argsToLocals, Value.category]; done) | rfl
theorem pf_jdk_52_method_3_code : plainFor (⟨"java/lang/StringUTF16", "newBytesLength", "(I)I"⟩ : MethodName) = true := by decide +kernel
set_option maxRecDepth 65536 in
set_option maxHeartbeats 40000000 in
theorem own_nbl (l : Launch) (Z : State) (a0 : Array Value) (hw : ∀ d ∈ tables_1, d.before a0 Z = true) (ws : List Jvm.Cond)  (h0 : Heap) (n0 : Nat) (Z0 : n0 ≤ h0.size)  :
    MetFree l (⟨"java/lang/StringUTF16", "newBytesLength", "(I)I"⟩ : MethodName) (head1 (Jvm.Cond.code (⟨"java/lang/StringUTF16", "newBytesLength", "(I)I"⟩ : MethodName) jdk_52_method_3_code 1 (some .int) :: ws) ({ frames := 0, cells := 0, slots := 0, locals := 0 } : Room)) (fun a U => a = #[(.int (1 : Int32))] ∧ Z.Warmed39 U.vm ∧ U.heap = h0) (fun _ _ _ _ _ => True) (fun _ U o U' => ∃ v L, o = .returned v ∧ own_Q (some (.int (2 : Int32))) h0 n0 v U'.heap L ∧ FrameEnd U o U' L ({ frames := 0, cells := 0, slots := 0, locals := 0 } : Room).cells ({ frames := 0, cells := 0, slots := 0, locals := 0 } : Room).slots) := by
  refine MetFree.of_bodySF pf_jdk_52_method_3_code hisR ?_
  intro p e s m args below meth c s₁ Bd hml0 hP hK
  obtain ⟨rfl, hZ, hh⟩ := hP
  have hx := Bd.exec
  have hby := Bd.bytes
  have hml : c.maxLocals = 1 := hml0
  have hown : s.vm.findClass "java/lang/StringUTF16" = some m.cls := findClass_of_methodNamed Bd.named
  have hnm := (name_of_methodNamed Bd.named Bd.method).1
  have X0 : Stand p l e ({ frames := 0, cells := 0, slots := 0, locals := 0 } : Room) s m #[(.int (1 : Int32))] below meth c s₁ [] 0 0 := Stand.of_body Bd
  have e0 : s₁.heap = h0 := by rw [← hh, Bd.state]; rfl
  have N0 := Fr.nil n0
  have pre0 : ∀ t, Steps p.tables e below (s₁.setTop (mkF m 0 #[.val (.int (1 : Int32))] [])) t → Steps p.tables e below (s₁.setTop (entryFrame m #[(.int (1 : Int32))] 1)) t := fun t k => castTop (ef_jdk_52_method_3_code_I m (1 : Int32)) k
  obtain ⟨fs, hr, hrun, hended, hW, hsame⟩ := X0.leave (v := some (.int (2 : Int32))) (fun h => by rw [Bd.returns] at h; cases h)
  refine ⟨_, _, pre0 _ ?_, hrun, hended, _, _, rfl, ?_, ⟨_, rfl⟩, hW, hsame.mono (by decide) (by decide)⟩
  · show Steps p.tables e below (s₁.setTop (mkF m 0 #[.val (.int (1 : Int32))] [])) _
    refine XS.iloadN X0.here hx rfl (hb hby d_jdk_52_method_3_code_0) rfl ?_
    show Steps p.tables e below (s₁.setTop (mkF m 1 #[.val (.int (1 : Int32))] [(.int (1 : Int32))])) _
    refine XS.ifYes X0.here hx rfl (pc0 := 1) (pc' := 12) rfl (hb hby d_jdk_52_method_3_code_1) rfl (by decide) (by decide) (by decide) ?_
    show Steps p.tables e below (s₁.setTop (mkF m 12 #[.val (.int (1 : Int32))] [])) _
    refine XS.iloadN X0.here hx rfl (hb hby d_jdk_52_method_3_code_12) rfl ?_
    show Steps p.tables e below (s₁.setTop (mkF m 13 #[.val (.int (1 : Int32))] [(.int (1 : Int32))])) _
    refine Jvm.Stand.ldcI X0 hx hown (mvT hZ (hw _ (List.mem_of_getElem? (i := 114) rfl))) rfl (hb hby d_jdk_52_method_3_code_13) ?_
    show Steps p.tables e below (s₁.setTop (mkF m 15 #[.val (.int (1 : Int32))] [(.int (1073741823 : Int32)), (.int (1 : Int32))])) _
    refine XS.icmpYes X0.here hx rfl (pc0 := 15) (pc' := 55) rfl (hb hby d_jdk_52_method_3_code_15) rfl (by decide) (by decide) (by decide) ?_
    show Steps p.tables e below (s₁.setTop (mkF m 55 #[.val (.int (1 : Int32))] [])) _
    refine XS.iloadN X0.here hx rfl (hb hby d_jdk_52_method_3_code_55) rfl ?_
    show Steps p.tables e below (s₁.setTop (mkF m 56 #[.val (.int (1 : Int32))] [(.int (1 : Int32))])) _
    refine XT.iconstV X0.here hx rfl (1 : Int32) (hb hby d_jdk_52_method_3_code_56) rfl ?_
    show Steps p.tables e below (s₁.setTop (mkF m 57 #[.val (.int (1 : Int32))] [(.int (1 : Int32)), (.int (1 : Int32))])) _
    refine XT.ishl X0.here hx rfl (hb hby d_jdk_52_method_3_code_57) rfl ?_
    rw [show ((1 : Int32) <<< ((1 : Int32) &&& 31)) = (2 : Int32) from by decide]
    show Steps p.tables e below (s₁.setTop (mkF m 58 #[.val (.int (1 : Int32))] [(.int (2 : Int32))])) _
    exact retI X0 hx Bd.returns (hb hby d_jdk_52_method_3_code_58) hr
  · show own_Q (some (.int (2 : Int32))) h0 n0 _ s₁.heap _
    rw [e0]
    exact ⟨rfl, N0, rfl⟩
theorem d_jdk_52_method_2_code_0 : decode jdk_52_method_2_code 0 = .ok (.iload_n 0, 1) := by decide +kernel
theorem pd__I_I : parseMethodDescriptor "(I)I" = some ⟨[.int], (some .int)⟩ := by decide +kernel
theorem d_jdk_52_method_2_code_1 : decode jdk_52_method_2_code 1 = .ok (.invokestatic 11, 3) := by decide +kernel
theorem d_jdk_52_method_2_code_4 : decode jdk_52_method_2_code 4 = .ok (.newarray .byte, 2) := by decide +kernel
theorem d_jdk_52_method_2_code_6 : decode jdk_52_method_2_code 6 = .ok (.areturn, 1) := by decide +kernel
theorem ef_jdk_52_method_2_code_I (m : MethodId) (x0 : Int32) : entryFrame m #[(.int x0)] 1 = mkF m 0 #[.val (.int x0)] [] := by first | (simp [entryFrame, mkF, argsToLocals, Value.category]; done) | rfl
theorem pf_jdk_52_method_2_code : plainFor (⟨"java/lang/StringUTF16", "newBytesFor", "(I)[B"⟩ : MethodName) = true := by decide +kernel
set_option maxRecDepth 65536 in
set_option maxHeartbeats 40000000 in
theorem own_nbf (l : Launch) (Z : State) (a0 : Array Value) (hw : ∀ d ∈ tables_1, d.before a0 Z = true) (ws : List Jvm.Cond)  (h0 : Heap) (n0 : Nat) (Z0 : n0 ≤ h0.size)  :
    MetFree l (⟨"java/lang/StringUTF16", "newBytesFor", "(I)[B"⟩ : MethodName) (head1 (Jvm.Cond.code (⟨"java/lang/StringUTF16", "newBytesFor", "(I)[B"⟩ : MethodName) jdk_52_method_2_code 1 (some (.array .byte)) :: ws) ({ frames := 1, cells := 1, slots := 2, locals := 12 } : Room)) (fun a U => a = #[(.int (1 : Int32))] ∧ Z.Warmed39 U.vm ∧ U.heap = h0) (fun _ _ _ _ _ => True) (fun _ U o U' => ∃ v L, o = .returned v ∧ own_QB Z (2 : Int32) [0, 0] h0 n0 v U'.heap L ∧ FrameEnd U o U' L ({ frames := 1, cells := 1, slots := 2, locals := 12 } : Room).cells ({ frames := 1, cells := 1, slots := 2, locals := 12 } : Room).slots) := by
  refine MetFree.of_bodySF pf_jdk_52_method_2_code hisR ?_
  intro p e s m args below meth c s₁ Bd hml0 hP hK
  obtain ⟨rfl, hZ, hh⟩ := hP
  have hx := Bd.exec
  have hby := Bd.bytes
  have hml : c.maxLocals = 1 := hml0
  have hown : s.vm.findClass "java/lang/StringUTF16" = some m.cls := findClass_of_methodNamed Bd.named
  have hnm := (name_of_methodNamed Bd.named Bd.method).1
  have X0 : Stand p l e ({ frames := 1, cells := 1, slots := 2, locals := 12 } : Room) s m #[(.int (1 : Int32))] below meth c s₁ [] 0 0 := Stand.of_body Bd
  have e0 : s₁.heap = h0 := by rw [← hh, Bd.state]; rfl
  have N0 := Fr.nil n0
  have pre0 : ∀ t, Steps p.tables e below (s₁.setTop (mkF m 0 #[.val (.int (1 : Int32))] [])) t → Steps p.tables e below (s₁.setTop (entryFrame m #[(.int (1 : Int32))] 1)) t := fun t k => castTop (ef_jdk_52_method_2_code_I m (1 : Int32)) k
  obtain ⟨_, _, ⟨T154, L154, k154, n154⟩, -, X154, ⟨Lc154, hQ154, l154, y154, z154⟩, st154⟩ := Jvm.LawKit.callS X0 hx (y := (⟨"java/lang/StringUTF16", "newBytesLength", "(I)I"⟩ : MethodName)) hown (mvT hZ (hw _ (List.mem_of_getElem? (i := 111) rfl))) (mvT hZ (hw _ (List.mem_of_getElem? (i := 112) rfl))) (mvT hZ (hw _ (List.mem_of_getElem? (i := 109) rfl))) (mvT hZ (hw _ (List.mem_of_getElem? (i := 113) rfl))) (by decide) (backOf (W := 0) (own_nbl l Z a0 hw [] h0 n0 Z0) hZ (hw _ (List.mem_of_getElem? (i := 113) rfl)) (hw _ (List.mem_of_getElem? (i := 109) rfl)) (by decide) (by decide)) (g := (mkF m 1 #[.val (.int (1 : Int32))] [(.int (1 : Int32))])) rfl (by rw [hml]; rfl) (argsL := [(.int (1 : Int32))]) (rest := []) (lenOf pd__I_I rfl) rfl (by show 2 * 0 + _ ≤ _; exact Nat.le_of_eq rfl) (hb hby d_jdk_52_method_2_code_1) (fun _ _ => ⟨rfl, e0, (by decide : 0 + 0 ≤ _), (by decide : 0 + 0 ≤ _)⟩)
  dsimp only [Pt.U, Pt.locs, Pt.cells, Pt.slots] at X154 l154 y154 z154 st154 hQ154
  subst l154 y154 z154
  obtain ⟨rfl, N154q, e154⟩ := hQ154
  have N154 := Fr.app N0 N154q
  obtain ⟨T155, h155, k155, X155, e155, E155, A155, AE155, st155⟩ := newPE X154 hx hZ (hw _ (List.mem_of_getElem? (i := 9) rfl)) e154 (g := (mkF m 4 #[.val (.int (1 : Int32))] [(.int (2 : Int32))])) rfl (hb hby d_jdk_52_method_2_code_4) rfl (by decide) (cap := 2) (by decide) (by decide) (by decide) (by decide) (ad := "[B") (by decide)
  obtain ⟨b155, g155⟩ : ∃ z, z = h0.size := ⟨_, rfl⟩
  rw [← g155] at A155 AE155 st155
  have V155 : Arv Z h155 b155 k155 .byte (2 : Int32) (List.replicate 2 (.int 0)) (.int 0) := (Arv.new A155 (by decide)).pad (fun i => pad_rep [] (.int 0) 2 i)
  have q155 : h0.size ≤ b155 := by rw [g155]; exact Nat.le_refl _
  have EX155 : Ext h0 h155 := E155
  have Z155 : n0 ≤ h155.size := Nat.le_trans Z0 EX155.1
  obtain ⟨fs, hr, hrun, hended, hW, hsame⟩ := X155.leave (v := some (.ref b155)) (fun h => by rw [Bd.returns] at h; cases h)
  refine ⟨_, _, pre0 _ ?_, hrun, hended, _, _, rfl, ?_, ⟨_, rfl⟩, hW, hsame.mono (by decide) (by decide)⟩
  · show Steps p.tables e below (s₁.setTop (mkF m 0 #[.val (.int (1 : Int32))] [])) _
    refine XS.iloadN X0.here hx rfl (hb hby d_jdk_52_method_2_code_0) rfl ?_
    show Steps p.tables e below (s₁.setTop (mkF m 1 #[.val (.int (1 : Int32))] [(.int (1 : Int32))])) _
    refine st154 _ ?_
    show Steps p.tables e below (T154.setTop (mkF m 4 #[.val (.int (1 : Int32))] [(.int (2 : Int32))])) _
    refine st155 _ ?_
    show Steps p.tables e below (T155.setTop (mkF m 6 #[.val (.int (1 : Int32))] [(.ref b155)])) _
    jvm_step X155.here [X155.here.top, hx, (hb hby d_jdk_52_method_2_code_6), X155.method', Bd.returns, Value.isRef, FieldType.isReference]
    first | (intro acts; rw [hr _ acts rfl rfl rfl]) | rw [hr _ _ rfl rfl rfl]
    exact Steps.refl _
  · show own_QB Z (2 : Int32) [0, 0] h0 n0 _ T155.heap _
    rw [e155]
    exact ⟨b155, k155, rfl, N154, EX155, q155, AE155, V155⟩
theorem d_jdk_42_method_46_code_29 : decode jdk_42_method_46_code 29 = .ok (.iconst 0, 1) := by decide +kernel
theorem d_jdk_42_method_46_code_30 : decode jdk_42_method_46_code 30 = .ok (.istore_n 3, 1) := by decide +kernel
theorem d_jdk_42_method_46_code_31 : decode jdk_42_method_46_code 31 = .ok (.aload_n 1, 1) := by decide +kernel
theorem d_jdk_42_method_46_code_32 : decode jdk_42_method_46_code 32 = .ok (.arraylength, 1) := by decide +kernel
theorem pd__I_ArB : parseMethodDescriptor "(I)[B" = some ⟨[.int], (some (.array .byte))⟩ := by decide +kernel
theorem d_jdk_42_method_46_code_33 : decode jdk_42_method_46_code 33 = .ok (.invokestatic 60, 3) := by decide +kernel
theorem d_jdk_42_method_46_code_36 : decode jdk_42_method_46_code 36 = .ok (.astore 4, 2) := by decide +kernel
theorem d_jdk_42_method_46_code_38 : decode jdk_42_method_46_code 38 = .ok (.aload_n 1, 1) := by decide +kernel
theorem d_jdk_42_method_46_code_39 : decode jdk_42_method_46_code 39 = .ok (.astore 5, 2) := by decide +kernel
theorem d_jdk_42_method_46_code_41 : decode jdk_42_method_46_code 41 = .ok (.aload 5, 2) := by decide +kernel
theorem d_jdk_42_method_46_code_43 : decode jdk_42_method_46_code 43 = .ok (.arraylength, 1) := by decide +kernel
theorem d_jdk_42_method_46_code_44 : decode jdk_42_method_46_code 44 = .ok (.istore 6, 2) := by decide +kernel
theorem d_jdk_42_method_46_code_46 : decode jdk_42_method_46_code 46 = .ok (.iconst 0, 1) := by decide +kernel
theorem d_jdk_42_method_46_code_47 : decode jdk_42_method_46_code 47 = .ok (.istore 7, 2) := by decide +kernel
theorem d_jdk_42_method_46_code_49 : decode jdk_42_method_46_code 49 = .ok (.iload 7, 2) := by decide +kernel
theorem d_jdk_42_method_46_code_51 : decode jdk_42_method_46_code 51 = .ok (.iload 6, 2) := by decide +kernel
theorem d_jdk_42_method_46_code_53 : decode jdk_42_method_46_code 53 = .ok (.if_icmp .ge 71, 3) := by decide +kernel
theorem d_jdk_42_method_46_code_56 : decode jdk_42_method_46_code 56 = .ok (.aload 5, 2) := by decide +kernel
theorem d_jdk_42_method_46_code_58 : decode jdk_42_method_46_code 58 = .ok (.iload 7, 2) := by decide +kernel
theorem d_jdk_42_method_46_code_60 : decode jdk_42_method_46_code 60 = .ok (.baload, 1) := by decide +kernel
theorem d_jdk_42_method_46_code_61 : decode jdk_42_method_46_code 61 = .ok (.istore 8, 2) := by decide +kernel
theorem d_jdk_42_method_46_code_63 : decode jdk_42_method_46_code 63 = .ok (.iload 8, 2) := by decide +kernel
theorem d_jdk_42_method_46_code_65 : decode jdk_42_method_46_code 65 = .ok (.ifCond .ge 44, 3) := by decide +kernel
theorem d_jdk_42_method_46_code_68 : decode jdk_42_method_46_code 68 = .ok (.aload 4, 2) := by decide +kernel
theorem d_jdk_42_method_46_code_70 : decode jdk_42_method_46_code 70 = .ok (.iload_n 3, 1) := by decide +kernel
theorem d_jdk_42_method_46_code_71 : decode jdk_42_method_46_code 71 = .ok (.iinc 3 1, 3) := by decide +kernel
theorem d_jdk_42_method_46_code_74 : decode jdk_42_method_46_code 74 = .ok (.sipush 192, 3) := by decide +kernel
theorem d_jdk_42_method_46_code_77 : decode jdk_42_method_46_code 77 = .ok (.iload 8, 2) := by decide +kernel
theorem d_jdk_42_method_46_code_79 : decode jdk_42_method_46_code 79 = .ok (.sipush 255, 3) := by decide +kernel
theorem d_jdk_42_method_46_code_82 : decode jdk_42_method_46_code 82 = .ok (.iand, 1) := by decide +kernel
theorem d_jdk_42_method_46_code_83 : decode jdk_42_method_46_code 83 = .ok (.bipush 6, 2) := by decide +kernel
theorem d_jdk_42_method_46_code_85 : decode jdk_42_method_46_code 85 = .ok (.ishr, 1) := by decide +kernel
theorem d_jdk_42_method_46_code_86 : decode jdk_42_method_46_code 86 = .ok (.ior, 1) := by decide +kernel
theorem d_jdk_42_method_46_code_87 : decode jdk_42_method_46_code 87 = .ok (.i2b, 1) := by decide +kernel
theorem d_jdk_42_method_46_code_88 : decode jdk_42_method_46_code 88 = .ok (.bastore, 1) := by decide +kernel
theorem d_jdk_42_method_46_code_89 : decode jdk_42_method_46_code 89 = .ok (.aload 4, 2) := by decide +kernel
theorem d_jdk_42_method_46_code_91 : decode jdk_42_method_46_code 91 = .ok (.iload_n 3, 1) := by decide +kernel
theorem d_jdk_42_method_46_code_92 : decode jdk_42_method_46_code 92 = .ok (.iinc 3 1, 3) := by decide +kernel
theorem d_jdk_42_method_46_code_95 : decode jdk_42_method_46_code 95 = .ok (.sipush 128, 3) := by decide +kernel
theorem d_jdk_42_method_46_code_98 : decode jdk_42_method_46_code 98 = .ok (.iload 8, 2) := by decide +kernel
theorem d_jdk_42_method_46_code_100 : decode jdk_42_method_46_code 100 = .ok (.bipush 63, 2) := by decide +kernel
theorem d_jdk_42_method_46_code_102 : decode jdk_42_method_46_code 102 = .ok (.iand, 1) := by decide +kernel
theorem d_jdk_42_method_46_code_103 : decode jdk_42_method_46_code 103 = .ok (.ior, 1) := by decide +kernel
theorem d_jdk_42_method_46_code_104 : decode jdk_42_method_46_code 104 = .ok (.i2b, 1) := by decide +kernel
theorem d_jdk_42_method_46_code_105 : decode jdk_42_method_46_code 105 = .ok (.bastore, 1) := by decide +kernel
theorem d_jdk_42_method_46_code_106 : decode jdk_42_method_46_code 106 = .ok (.goto 12, 3) := by decide +kernel
theorem d_jdk_42_method_46_code_118 : decode jdk_42_method_46_code 118 = .ok (.iinc 7 1, 3) := by decide +kernel
theorem d_jdk_42_method_46_code_121 : decode jdk_42_method_46_code 121 = .ok (.goto (-72), 3) := by decide +kernel
theorem d_jdk_42_method_46_code_124 : decode jdk_42_method_46_code 124 = .ok (.iload_n 3, 1) := by decide +kernel
theorem d_jdk_42_method_46_code_125 : decode jdk_42_method_46_code 125 = .ok (.aload 4, 2) := by decide +kernel
theorem d_jdk_42_method_46_code_127 : decode jdk_42_method_46_code 127 = .ok (.arraylength, 1) := by decide +kernel
theorem d_jdk_42_method_46_code_128 : decode jdk_42_method_46_code 128 = .ok (.if_icmp .ne 6, 3) := by decide +kernel
theorem d_jdk_42_method_46_code_131 : decode jdk_42_method_46_code 131 = .ok (.aload 4, 2) := by decide +kernel
theorem d_jdk_42_method_46_code_133 : decode jdk_42_method_46_code 133 = .ok (.areturn, 1) := by decide +kernel
set_option maxRecDepth 65536 in
set_option maxHeartbeats 40000000 in
theorem own_enc8_n (l : Launch) (Z : State) (a0 : Array Value) (hw : ∀ d ∈ tables_1, d.before a0 Z = true) (ws : List Jvm.Cond) (u1 : Addr) (k1 : ClassId) (yy : Int32) (h0 : Heap) (n0 : Nat) (Z0 : n0 ≤ h0.size) (V1 : Arv Z h0 u1 k1 .byte (1 : Int32) ([yy].map Value.int) (.int 0)) (E1 : Exa Z h0 u1 "[B") (hy : yy < 0) :
    MetFree l (⟨"java/lang/String", "encodeUTF8", "(B[BZ)[B"⟩ : MethodName) (head1 (Jvm.Cond.code (⟨"java/lang/String", "encodeUTF8", "(B[BZ)[B"⟩ : MethodName) jdk_42_method_46_code 9 (some (.array .byte)) :: ws) ({ frames := 2, cells := 1, slots := 2, locals := 30 } : Room)) (fun a U => a = #[(.int (0 : Int32)), (.ref u1), (.int (1 : Int32))] ∧ Z.Warmed39 U.vm ∧ U.heap = h0) (fun _ _ _ _ _ => True) (fun _ U o U' => ∃ v L, o = .returned v ∧ own_QB Z (2 : Int32) [(nar .byte ((192 : Int32) ||| ((yy &&& (255 : Int32)) >>> ((6 : Int32) &&& 31))).toInt8.toInt32), (nar .byte ((128 : Int32) ||| (yy &&& (63 : Int32))).toInt8.toInt32)] h0 n0 v U'.heap L ∧ FrameEnd U o U' L ({ frames := 2, cells := 1, slots := 2, locals := 30 } : Room).cells ({ frames := 2, cells := 1, slots := 2, locals := 30 } : Room).slots) := by
  refine MetFree.of_bodySF pf_jdk_42_method_46_code hisR ?_
  intro p e s m args below meth c s₁ Bd hml0 hP hK
  obtain ⟨rfl, hZ, hh⟩ := hP
  have hx := Bd.exec
  have hby := Bd.bytes
  have hml : c.maxLocals = 9 := hml0
  have hown : s.vm.findClass "java/lang/String" = some m.cls := findClass_of_methodNamed Bd.named
  have hnm := (name_of_methodNamed Bd.named Bd.method).1
  have X0 : Stand p l e ({ frames := 2, cells := 1, slots := 2, locals := 30 } : Room) s m #[(.int (0 : Int32)), (.ref u1), (.int (1 : Int32))] below meth c s₁ [] 0 0 := Stand.of_body Bd
  have e0 : s₁.heap = h0 := by rw [← hh, Bd.state]; rfl
  have N0 := Fr.nil n0
  have pre0 : ∀ t, Steps p.tables e below (s₁.setTop (mkF m 0 #[.val (.int (0 : Int32)), .val (.ref u1), .val (.int (1 : Int32)), .unset, .unset, .unset, .unset, .unset, .unset] [])) t → Steps p.tables e below (s₁.setTop (entryFrame m #[(.int (0 : Int32)), (.ref u1), (.int (1 : Int32))] 9)) t := fun t k => castTop (ef_jdk_42_method_46_code_IAI m (0 : Int32) u1 (1 : Int32)) k
  obtain ⟨cl156, Ar156, -, Sz156, Nz156, -⟩ := id V1
  obtain ⟨_, _, ⟨T157, L157, k157, n157⟩, -, X157, ⟨Lc157, hQ157, l157, y157, z157⟩, st157⟩ := Jvm.LawKit.callS X0 hx (y := (⟨"java/lang/StringCoding", "hasNegatives", "([BII)Z"⟩ : MethodName)) hown (mvT hZ (hw _ (List.mem_of_getElem? (i := 100) rfl))) (mvT hZ (hw _ (List.mem_of_getElem? (i := 101) rfl))) (mvT hZ (hw _ (List.mem_of_getElem? (i := 102) rfl))) (mvT hZ (hw _ (List.mem_of_getElem? (i := 103) rfl))) (by decide) (backOf (W := 0) (own_hn_n l Z a0 hw [] u1 k1 yy h0 n0 Z0 V1 E1 hy) hZ (hw _ (List.mem_of_getElem? (i := 103) rfl)) (hw _ (List.mem_of_getElem? (i := 102) rfl)) (by decide) (by decide)) (g := (mkF m 15 #[.val (.int (0 : Int32)), .val (.ref u1), .val (.int (1 : Int32)), .unset, .unset, .unset, .unset, .unset, .unset] [(.int (1 : Int32)), (.int (0 : Int32)), (.ref u1)])) rfl (by rw [hml]; rfl) (argsL := [(.ref u1), (.int (0 : Int32)), (.int (1 : Int32))]) (rest := []) (lenOf pd__ArBII_Z rfl) rfl (by show 2 * 0 + _ ≤ _; exact Nat.le_of_eq rfl) (hb hby d_jdk_42_method_46_code_15) (fun _ _ => ⟨rfl, e0, (by decide : 0 + 0 ≤ _), (by decide : 0 + 0 ≤ _)⟩)
  dsimp only [Pt.U, Pt.locs, Pt.cells, Pt.slots] at X157 l157 y157 z157 st157 hQ157
  subst l157 y157 z157
  obtain ⟨rfl, N157q, e157⟩ := hQ157
  have N157 := Fr.app N0 N157q
  obtain ⟨cl158, Ar158, -, Sz158, Nz158, -⟩ := id V1
  obtain ⟨_, _, ⟨T159, L159, k159, n159⟩, -, X159, ⟨Lc159, hQ159, l159, y159, z159⟩, st159⟩ := Jvm.LawKit.callS X157 hx (y := (⟨"java/lang/StringUTF16", "newBytesFor", "(I)[B"⟩ : MethodName)) hown (mvT hZ (hw _ (List.mem_of_getElem? (i := 107) rfl))) (mvT hZ (hw _ (List.mem_of_getElem? (i := 108) rfl))) (mvT hZ (hw _ (List.mem_of_getElem? (i := 109) rfl))) (mvT hZ (hw _ (List.mem_of_getElem? (i := 110) rfl))) (by decide) (backOf (W := 0) (own_nbf l Z a0 hw [] h0 n0 Z0) hZ (hw _ (List.mem_of_getElem? (i := 110) rfl)) (hw _ (List.mem_of_getElem? (i := 109) rfl)) (by decide) (by decide)) (g := (mkF m 33 #[.val (.int (0 : Int32)), .val (.ref u1), .val (.int (1 : Int32)), .val (.int (0 : Int32)), .unset, .unset, .unset, .unset, .unset] [(.int (1 : Int32))])) rfl (by rw [hml]; rfl) (argsL := [(.int (1 : Int32))]) (rest := []) (lenOf pd__I_ArB rfl) rfl (by show 2 * 0 + _ ≤ _; exact Nat.le_of_eq rfl) (hb hby d_jdk_42_method_46_code_33) (fun _ _ => ⟨rfl, e157, (by decide : 0 + 1 ≤ _), (by decide : 0 + 2 ≤ _)⟩)
  dsimp only [Pt.U, Pt.locs, Pt.cells, Pt.slots] at X159 l159 y159 z159 st159 hQ159
  subst l159 y159 z159
  obtain ⟨t159, kt159, rfl, N159q, EE159, qq159, AE159t, V159t⟩ := hQ159
  have N159 := Fr.app N157 N159q
  have q_t159 : h0.size ≤ t159 := qq159
  have ne_u1_t159 : u1 ≠ t159 := Nat.ne_of_lt (Nat.lt_of_lt_of_le E1.lt qq159)
  have E1_160 := E1.ext EE159
  have V1_161 := V1.ext EE159
  have EX159 : Ext h0 T159.heap := EE159
  have Z159 : n0 ≤ T159.heap.size := Nat.le_trans Z0 EX159.1
  obtain ⟨cl162, Ar162, -, Sz162, Nz162, -⟩ := id V1_161
  obtain ⟨cl163, Ar163, Q163, H163⟩ := own_at V1_161 (j := (0 : Int32)) (v := (.int yy)) (by decide) rfl
  obtain ⟨T164, h164, X164, e164, W164, V164, st164⟩ := own_stBl X159 hx hZ rfl V159t (j := (0 : Int32)) (by decide) (i := 0) (by decide) (by simp) (g := (mkF m 88 #[.val (.int (0 : Int32)), .val (.ref u1), .val (.int (1 : Int32)), .val (.int (1 : Int32)), .val (.ref t159), .val (.ref u1), .val (.int (1 : Int32)), .val (.int (0 : Int32)), .val (.int yy)] [(.int ((192 : Int32) ||| ((yy &&& (255 : Int32)) >>> ((6 : Int32) &&& 31))).toInt8.toInt32), (.int (0 : Int32)), (.ref t159)])) rfl rfl (hb hby d_jdk_42_method_46_code_88)
  have E1_165 := E1_160.wr W164
  have V1_166 := V1_161.other W164 ne_u1_t159
  have AE159t_167 := AE159t.wr W164
  have EX164 : Ext h0 h164 := own_ext_wr EX159 W164 q_t159
  have Z164 : n0 ≤ h164.size := Nat.le_trans Z0 EX164.1
  have N164 := Fr.snoc X164 N159 (Nat.le_trans Z0 q_t159)
  obtain ⟨T168, h168, X168, e168, W168, V168, st168⟩ := own_stBl X164 hx hZ e164 V164 (j := (1 : Int32)) (by decide) (i := 1) (by decide) (by simp) (g := (mkF m 105 #[.val (.int (0 : Int32)), .val (.ref u1), .val (.int (1 : Int32)), .val (.int (2 : Int32)), .val (.ref t159), .val (.ref u1), .val (.int (1 : Int32)), .val (.int (0 : Int32)), .val (.int yy)] [(.int ((128 : Int32) ||| (yy &&& (63 : Int32))).toInt8.toInt32), (.int (1 : Int32)), (.ref t159)])) rfl rfl (hb hby d_jdk_42_method_46_code_105)
  have E1_169 := E1_165.wr W168
  have V1_170 := V1_166.other W168 ne_u1_t159
  have AE159t_171 := AE159t_167.wr W168
  have EX168 : Ext h0 h168 := own_ext_wr EX164 W168 q_t159
  have Z168 : n0 ≤ h168.size := Nat.le_trans Z0 EX168.1
  have N168 := Fr.snoc X168 N164 (Nat.le_trans Z0 q_t159)
  obtain ⟨cl172, Ar172, -, Sz172, Nz172, -⟩ := id V168
  obtain ⟨fs, hr, hrun, hended, hW, hsame⟩ := X168.leave (v := some (.ref t159)) (fun h => by rw [Bd.returns] at h; cases h)
  refine ⟨_, _, pre0 _ ?_, hrun, hended, _, _, rfl, ?_, ⟨_, rfl⟩, hW, hsame.mono (by decide) (by decide)⟩
  · show Steps p.tables e below (s₁.setTop (mkF m 0 #[.val (.int (0 : Int32)), .val (.ref u1), .val (.int (1 : Int32)), .unset, .unset, .unset, .unset, .unset, .unset] [])) _
    refine XS.iloadN X0.here hx rfl (hb hby d_jdk_42_method_46_code_0) rfl ?_
    show Steps p.tables e below (s₁.setTop (mkF m 1 #[.val (.int (0 : Int32)), .val (.ref u1), .val (.int (1 : Int32)), .unset, .unset, .unset, .unset, .unset, .unset] [(.int (0 : Int32))])) _
    refine XT.iconstV X0.here hx rfl (1 : Int32) (hb hby d_jdk_42_method_46_code_1) rfl ?_
    show Steps p.tables e below (s₁.setTop (mkF m 2 #[.val (.int (0 : Int32)), .val (.ref u1), .val (.int (1 : Int32)), .unset, .unset, .unset, .unset, .unset, .unset] [(.int (1 : Int32)), (.int (0 : Int32))])) _
    refine XS.icmpYes X0.here hx rfl (pc0 := 2) (pc' := 11) rfl (hb hby d_jdk_42_method_46_code_2) rfl (by decide) (by decide) (by decide) ?_
    show Steps p.tables e below (s₁.setTop (mkF m 11 #[.val (.int (0 : Int32)), .val (.ref u1), .val (.int (1 : Int32)), .unset, .unset, .unset, .unset, .unset, .unset] [])) _
    refine XS.aloadN X0.here hx rfl (hb hby d_jdk_42_method_46_code_11) rfl rfl ?_
    show Steps p.tables e below (s₁.setTop (mkF m 12 #[.val (.int (0 : Int32)), .val (.ref u1), .val (.int (1 : Int32)), .unset, .unset, .unset, .unset, .unset, .unset] [(.ref u1)])) _
    refine XT.iconstV X0.here hx rfl (0 : Int32) (hb hby d_jdk_42_method_46_code_12) rfl ?_
    show Steps p.tables e below (s₁.setTop (mkF m 13 #[.val (.int (0 : Int32)), .val (.ref u1), .val (.int (1 : Int32)), .unset, .unset, .unset, .unset, .unset, .unset] [(.int (0 : Int32)), (.ref u1)])) _
    refine XS.aloadN X0.here hx rfl (hb hby d_jdk_42_method_46_code_13) rfl rfl ?_
    show Steps p.tables e below (s₁.setTop (mkF m 14 #[.val (.int (0 : Int32)), .val (.ref u1), .val (.int (1 : Int32)), .unset, .unset, .unset, .unset, .unset, .unset] [(.ref u1), (.int (0 : Int32)), (.ref u1)])) _
    refine X0.arraylength hx (by rw [e0]; exact Ar156.1) (State.isArrayOf_alike hZ.alike Ar156.2.1) (g := (mkF m 14 #[.val (.int (0 : Int32)), .val (.ref u1), .val (.int (1 : Int32)), .unset, .unset, .unset, .unset, .unset, .unset] [(.ref u1), (.int (0 : Int32)), (.ref u1)])) rfl rfl (hb hby d_jdk_42_method_46_code_14) _ ?_
    rw [len_of Sz156 Nz156]
    show Steps p.tables e below (s₁.setTop (mkF m 15 #[.val (.int (0 : Int32)), .val (.ref u1), .val (.int (1 : Int32)), .unset, .unset, .unset, .unset, .unset, .unset] [(.int (1 : Int32)), (.int (0 : Int32)), (.ref u1)])) _
    refine st157 _ ?_
    show Steps p.tables e below (T157.setTop (mkF m 18 #[.val (.int (0 : Int32)), .val (.ref u1), .val (.int (1 : Int32)), .unset, .unset, .unset, .unset, .unset, .unset] [(.int (1 : Int32))])) _
    refine XS.ifYes X157.here hx rfl (pc0 := 18) (pc' := 29) rfl (hb hby d_jdk_42_method_46_code_18) rfl (by decide) (by decide) (by decide) ?_
    show Steps p.tables e below (T157.setTop (mkF m 29 #[.val (.int (0 : Int32)), .val (.ref u1), .val (.int (1 : Int32)), .unset, .unset, .unset, .unset, .unset, .unset] [])) _
    refine XT.iconstV X157.here hx rfl (0 : Int32) (hb hby d_jdk_42_method_46_code_29) rfl ?_
    show Steps p.tables e below (T157.setTop (mkF m 30 #[.val (.int (0 : Int32)), .val (.ref u1), .val (.int (1 : Int32)), .unset, .unset, .unset, .unset, .unset, .unset] [(.int (0 : Int32))])) _
    refine XS.istoreN X157.here hx rfl (hb hby d_jdk_42_method_46_code_30) rfl (l' := #[.val (.int (0 : Int32)), .val (.ref u1), .val (.int (1 : Int32)), .val (.int (0 : Int32)), .unset, .unset, .unset, .unset, .unset]) rfl ?_
    show Steps p.tables e below (T157.setTop (mkF m 31 #[.val (.int (0 : Int32)), .val (.ref u1), .val (.int (1 : Int32)), .val (.int (0 : Int32)), .unset, .unset, .unset, .unset, .unset] [])) _
    refine XS.aloadN X157.here hx rfl (hb hby d_jdk_42_method_46_code_31) rfl rfl ?_
    show Steps p.tables e below (T157.setTop (mkF m 32 #[.val (.int (0 : Int32)), .val (.ref u1), .val (.int (1 : Int32)), .val (.int (0 : Int32)), .unset, .unset, .unset, .unset, .unset] [(.ref u1)])) _
    refine X157.arraylength hx (by rw [e157]; exact Ar158.1) (State.isArrayOf_alike hZ.alike Ar158.2.1) (g := (mkF m 32 #[.val (.int (0 : Int32)), .val (.ref u1), .val (.int (1 : Int32)), .val (.int (0 : Int32)), .unset, .unset, .unset, .unset, .unset] [(.ref u1)])) rfl rfl (hb hby d_jdk_42_method_46_code_32) _ ?_
    rw [len_of Sz158 Nz158]
    show Steps p.tables e below (T157.setTop (mkF m 33 #[.val (.int (0 : Int32)), .val (.ref u1), .val (.int (1 : Int32)), .val (.int (0 : Int32)), .unset, .unset, .unset, .unset, .unset] [(.int (1 : Int32))])) _
    refine st159 _ ?_
    show Steps p.tables e below (T159.setTop (mkF m 36 #[.val (.int (0 : Int32)), .val (.ref u1), .val (.int (1 : Int32)), .val (.int (0 : Int32)), .unset, .unset, .unset, .unset, .unset] [(.ref t159)])) _
    refine XS.astore X159.here hx rfl (hb hby d_jdk_42_method_46_code_36) rfl rfl (l' := #[.val (.int (0 : Int32)), .val (.ref u1), .val (.int (1 : Int32)), .val (.int (0 : Int32)), .val (.ref t159), .unset, .unset, .unset, .unset]) rfl ?_
    show Steps p.tables e below (T159.setTop (mkF m 38 #[.val (.int (0 : Int32)), .val (.ref u1), .val (.int (1 : Int32)), .val (.int (0 : Int32)), .val (.ref t159), .unset, .unset, .unset, .unset] [])) _
    refine XS.aloadN X159.here hx rfl (hb hby d_jdk_42_method_46_code_38) rfl rfl ?_
    show Steps p.tables e below (T159.setTop (mkF m 39 #[.val (.int (0 : Int32)), .val (.ref u1), .val (.int (1 : Int32)), .val (.int (0 : Int32)), .val (.ref t159), .unset, .unset, .unset, .unset] [(.ref u1)])) _
    refine XS.astore X159.here hx rfl (hb hby d_jdk_42_method_46_code_39) rfl rfl (l' := #[.val (.int (0 : Int32)), .val (.ref u1), .val (.int (1 : Int32)), .val (.int (0 : Int32)), .val (.ref t159), .val (.ref u1), .unset, .unset, .unset]) rfl ?_
    show Steps p.tables e below (T159.setTop (mkF m 41 #[.val (.int (0 : Int32)), .val (.ref u1), .val (.int (1 : Int32)), .val (.int (0 : Int32)), .val (.ref t159), .val (.ref u1), .unset, .unset, .unset] [])) _
    refine XS.aload X159.here hx rfl (hb hby d_jdk_42_method_46_code_41) rfl rfl ?_
    show Steps p.tables e below (T159.setTop (mkF m 43 #[.val (.int (0 : Int32)), .val (.ref u1), .val (.int (1 : Int32)), .val (.int (0 : Int32)), .val (.ref t159), .val (.ref u1), .unset, .unset, .unset] [(.ref u1)])) _
    refine X159.arraylength hx (by exact Ar162.1) (State.isArrayOf_alike hZ.alike Ar162.2.1) (g := (mkF m 43 #[.val (.int (0 : Int32)), .val (.ref u1), .val (.int (1 : Int32)), .val (.int (0 : Int32)), .val (.ref t159), .val (.ref u1), .unset, .unset, .unset] [(.ref u1)])) rfl rfl (hb hby d_jdk_42_method_46_code_43) _ ?_
    rw [len_of Sz162 Nz162]
    show Steps p.tables e below (T159.setTop (mkF m 44 #[.val (.int (0 : Int32)), .val (.ref u1), .val (.int (1 : Int32)), .val (.int (0 : Int32)), .val (.ref t159), .val (.ref u1), .unset, .unset, .unset] [(.int (1 : Int32))])) _
    refine XS.istore X159.here hx rfl (hb hby d_jdk_42_method_46_code_44) rfl (l' := #[.val (.int (0 : Int32)), .val (.ref u1), .val (.int (1 : Int32)), .val (.int (0 : Int32)), .val (.ref t159), .val (.ref u1), .val (.int (1 : Int32)), .unset, .unset]) rfl ?_
    show Steps p.tables e below (T159.setTop (mkF m 46 #[.val (.int (0 : Int32)), .val (.ref u1), .val (.int (1 : Int32)), .val (.int (0 : Int32)), .val (.ref t159), .val (.ref u1), .val (.int (1 : Int32)), .unset, .unset] [])) _
    refine XT.iconstV X159.here hx rfl (0 : Int32) (hb hby d_jdk_42_method_46_code_46) rfl ?_
    show Steps p.tables e below (T159.setTop (mkF m 47 #[.val (.int (0 : Int32)), .val (.ref u1), .val (.int (1 : Int32)), .val (.int (0 : Int32)), .val (.ref t159), .val (.ref u1), .val (.int (1 : Int32)), .unset, .unset] [(.int (0 : Int32))])) _
    refine XS.istore X159.here hx rfl (hb hby d_jdk_42_method_46_code_47) rfl (l' := #[.val (.int (0 : Int32)), .val (.ref u1), .val (.int (1 : Int32)), .val (.int (0 : Int32)), .val (.ref t159), .val (.ref u1), .val (.int (1 : Int32)), .val (.int (0 : Int32)), .unset]) rfl ?_
    show Steps p.tables e below (T159.setTop (mkF m 49 #[.val (.int (0 : Int32)), .val (.ref u1), .val (.int (1 : Int32)), .val (.int (0 : Int32)), .val (.ref t159), .val (.ref u1), .val (.int (1 : Int32)), .val (.int (0 : Int32)), .unset] [])) _
    refine XS.iload X159.here hx rfl (hb hby d_jdk_42_method_46_code_49) rfl ?_
    show Steps p.tables e below (T159.setTop (mkF m 51 #[.val (.int (0 : Int32)), .val (.ref u1), .val (.int (1 : Int32)), .val (.int (0 : Int32)), .val (.ref t159), .val (.ref u1), .val (.int (1 : Int32)), .val (.int (0 : Int32)), .unset] [(.int (0 : Int32))])) _
    refine XS.iload X159.here hx rfl (hb hby d_jdk_42_method_46_code_51) rfl ?_
    show Steps p.tables e below (T159.setTop (mkF m 53 #[.val (.int (0 : Int32)), .val (.ref u1), .val (.int (1 : Int32)), .val (.int (0 : Int32)), .val (.ref t159), .val (.ref u1), .val (.int (1 : Int32)), .val (.int (0 : Int32)), .unset] [(.int (1 : Int32)), (.int (0 : Int32))])) _
    refine XS.icmpNo X159.here hx rfl (hb hby d_jdk_42_method_46_code_53) rfl (by decide) ?_
    show Steps p.tables e below (T159.setTop (mkF m 56 #[.val (.int (0 : Int32)), .val (.ref u1), .val (.int (1 : Int32)), .val (.int (0 : Int32)), .val (.ref t159), .val (.ref u1), .val (.int (1 : Int32)), .val (.int (0 : Int32)), .unset] [])) _
    refine XS.aload X159.here hx rfl (hb hby d_jdk_42_method_46_code_56) rfl rfl ?_
    show Steps p.tables e below (T159.setTop (mkF m 58 #[.val (.int (0 : Int32)), .val (.ref u1), .val (.int (1 : Int32)), .val (.int (0 : Int32)), .val (.ref t159), .val (.ref u1), .val (.int (1 : Int32)), .val (.int (0 : Int32)), .unset] [(.ref u1)])) _
    refine XS.iload X159.here hx rfl (hb hby d_jdk_42_method_46_code_58) rfl ?_
    show Steps p.tables e below (T159.setTop (mkF m 60 #[.val (.int (0 : Int32)), .val (.ref u1), .val (.int (1 : Int32)), .val (.int (0 : Int32)), .val (.ref t159), .val (.ref u1), .val (.int (1 : Int32)), .val (.int (0 : Int32)), .unset] [(.int (0 : Int32)), (.ref u1)])) _
    refine X159.baloadBytes hx (j := (0 : Int32)) (v := (.int yy)) (by exact Ar163.1) (State.isArrayOf_alike hZ.alike Ar163.2.1) Ar163.2.2 Q163 H163 (g := (mkF m 60 #[.val (.int (0 : Int32)), .val (.ref u1), .val (.int (1 : Int32)), .val (.int (0 : Int32)), .val (.ref t159), .val (.ref u1), .val (.int (1 : Int32)), .val (.int (0 : Int32)), .unset] [(.int (0 : Int32)), (.ref u1)])) rfl rfl (hb hby d_jdk_42_method_46_code_60) _ ?_
    show Steps p.tables e below (T159.setTop (mkF m 61 #[.val (.int (0 : Int32)), .val (.ref u1), .val (.int (1 : Int32)), .val (.int (0 : Int32)), .val (.ref t159), .val (.ref u1), .val (.int (1 : Int32)), .val (.int (0 : Int32)), .unset] [(.int yy)])) _
    refine XS.istore X159.here hx rfl (hb hby d_jdk_42_method_46_code_61) rfl (l' := #[.val (.int (0 : Int32)), .val (.ref u1), .val (.int (1 : Int32)), .val (.int (0 : Int32)), .val (.ref t159), .val (.ref u1), .val (.int (1 : Int32)), .val (.int (0 : Int32)), .val (.int yy)]) rfl ?_
    show Steps p.tables e below (T159.setTop (mkF m 63 #[.val (.int (0 : Int32)), .val (.ref u1), .val (.int (1 : Int32)), .val (.int (0 : Int32)), .val (.ref t159), .val (.ref u1), .val (.int (1 : Int32)), .val (.int (0 : Int32)), .val (.int yy)] [])) _
    refine XS.iload X159.here hx rfl (hb hby d_jdk_42_method_46_code_63) rfl ?_
    show Steps p.tables e below (T159.setTop (mkF m 65 #[.val (.int (0 : Int32)), .val (.ref u1), .val (.int (1 : Int32)), .val (.int (0 : Int32)), .val (.ref t159), .val (.ref u1), .val (.int (1 : Int32)), .val (.int (0 : Int32)), .val (.int yy)] [(.int yy)])) _
    refine XS.ifNo X159.here hx rfl (hb hby d_jdk_42_method_46_code_65) rfl (XT.i0_ge_f hy) ?_
    show Steps p.tables e below (T159.setTop (mkF m 68 #[.val (.int (0 : Int32)), .val (.ref u1), .val (.int (1 : Int32)), .val (.int (0 : Int32)), .val (.ref t159), .val (.ref u1), .val (.int (1 : Int32)), .val (.int (0 : Int32)), .val (.int yy)] [])) _
    refine XS.aload X159.here hx rfl (hb hby d_jdk_42_method_46_code_68) rfl rfl ?_
    show Steps p.tables e below (T159.setTop (mkF m 70 #[.val (.int (0 : Int32)), .val (.ref u1), .val (.int (1 : Int32)), .val (.int (0 : Int32)), .val (.ref t159), .val (.ref u1), .val (.int (1 : Int32)), .val (.int (0 : Int32)), .val (.int yy)] [(.ref t159)])) _
    refine XS.iloadN X159.here hx rfl (hb hby d_jdk_42_method_46_code_70) rfl ?_
    show Steps p.tables e below (T159.setTop (mkF m 71 #[.val (.int (0 : Int32)), .val (.ref u1), .val (.int (1 : Int32)), .val (.int (0 : Int32)), .val (.ref t159), .val (.ref u1), .val (.int (1 : Int32)), .val (.int (0 : Int32)), .val (.int yy)] [(.int (0 : Int32)), (.ref t159)])) _
    refine XT.iincV X159.here hx rfl (1 : Int32) (hb hby d_jdk_42_method_46_code_71) rfl rfl (l' := #[.val (.int (0 : Int32)), .val (.ref u1), .val (.int (1 : Int32)), .val (.int ((0 : Int32) + (1 : Int32))), .val (.ref t159), .val (.ref u1), .val (.int (1 : Int32)), .val (.int (0 : Int32)), .val (.int yy)]) rfl ?_
    rw [show ((0 : Int32) + (1 : Int32)) = (1 : Int32) from by decide]
    show Steps p.tables e below (T159.setTop (mkF m 74 #[.val (.int (0 : Int32)), .val (.ref u1), .val (.int (1 : Int32)), .val (.int (1 : Int32)), .val (.ref t159), .val (.ref u1), .val (.int (1 : Int32)), .val (.int (0 : Int32)), .val (.int yy)] [(.int (0 : Int32)), (.ref t159)])) _
    refine XT.sipushV X159.here hx rfl (192 : Int32) (hb hby d_jdk_42_method_46_code_74) (by decide) ?_
    show Steps p.tables e below (T159.setTop (mkF m 77 #[.val (.int (0 : Int32)), .val (.ref u1), .val (.int (1 : Int32)), .val (.int (1 : Int32)), .val (.ref t159), .val (.ref u1), .val (.int (1 : Int32)), .val (.int (0 : Int32)), .val (.int yy)] [(.int (192 : Int32)), (.int (0 : Int32)), (.ref t159)])) _
    refine XS.iload X159.here hx rfl (hb hby d_jdk_42_method_46_code_77) rfl ?_
    show Steps p.tables e below (T159.setTop (mkF m 79 #[.val (.int (0 : Int32)), .val (.ref u1), .val (.int (1 : Int32)), .val (.int (1 : Int32)), .val (.ref t159), .val (.ref u1), .val (.int (1 : Int32)), .val (.int (0 : Int32)), .val (.int yy)] [(.int yy), (.int (192 : Int32)), (.int (0 : Int32)), (.ref t159)])) _
    refine XT.sipushV X159.here hx rfl (255 : Int32) (hb hby d_jdk_42_method_46_code_79) (by decide) ?_
    show Steps p.tables e below (T159.setTop (mkF m 82 #[.val (.int (0 : Int32)), .val (.ref u1), .val (.int (1 : Int32)), .val (.int (1 : Int32)), .val (.ref t159), .val (.ref u1), .val (.int (1 : Int32)), .val (.int (0 : Int32)), .val (.int yy)] [(.int (255 : Int32)), (.int yy), (.int (192 : Int32)), (.int (0 : Int32)), (.ref t159)])) _
    refine XS.iand X159.here hx rfl (hb hby d_jdk_42_method_46_code_82) rfl ?_
    show Steps p.tables e below (T159.setTop (mkF m 83 #[.val (.int (0 : Int32)), .val (.ref u1), .val (.int (1 : Int32)), .val (.int (1 : Int32)), .val (.ref t159), .val (.ref u1), .val (.int (1 : Int32)), .val (.int (0 : Int32)), .val (.int yy)] [(.int (yy &&& (255 : Int32))), (.int (192 : Int32)), (.int (0 : Int32)), (.ref t159)])) _
    refine XT.bipushV X159.here hx rfl (6 : Int32) (hb hby d_jdk_42_method_46_code_83) (by decide) ?_
    show Steps p.tables e below (T159.setTop (mkF m 85 #[.val (.int (0 : Int32)), .val (.ref u1), .val (.int (1 : Int32)), .val (.int (1 : Int32)), .val (.ref t159), .val (.ref u1), .val (.int (1 : Int32)), .val (.int (0 : Int32)), .val (.int yy)] [(.int (6 : Int32)), (.int (yy &&& (255 : Int32))), (.int (192 : Int32)), (.int (0 : Int32)), (.ref t159)])) _
    refine XT.ishr X159.here hx rfl (hb hby d_jdk_42_method_46_code_85) rfl ?_
    show Steps p.tables e below (T159.setTop (mkF m 86 #[.val (.int (0 : Int32)), .val (.ref u1), .val (.int (1 : Int32)), .val (.int (1 : Int32)), .val (.ref t159), .val (.ref u1), .val (.int (1 : Int32)), .val (.int (0 : Int32)), .val (.int yy)] [(.int ((yy &&& (255 : Int32)) >>> ((6 : Int32) &&& 31))), (.int (192 : Int32)), (.int (0 : Int32)), (.ref t159)])) _
    refine XT.ior X159.here hx rfl (hb hby d_jdk_42_method_46_code_86) rfl ?_
    show Steps p.tables e below (T159.setTop (mkF m 87 #[.val (.int (0 : Int32)), .val (.ref u1), .val (.int (1 : Int32)), .val (.int (1 : Int32)), .val (.ref t159), .val (.ref u1), .val (.int (1 : Int32)), .val (.int (0 : Int32)), .val (.int yy)] [(.int ((192 : Int32) ||| ((yy &&& (255 : Int32)) >>> ((6 : Int32) &&& 31)))), (.int (0 : Int32)), (.ref t159)])) _
    refine XT.i2b X159.here hx rfl (hb hby d_jdk_42_method_46_code_87) rfl ?_
    show Steps p.tables e below (T159.setTop (mkF m 88 #[.val (.int (0 : Int32)), .val (.ref u1), .val (.int (1 : Int32)), .val (.int (1 : Int32)), .val (.ref t159), .val (.ref u1), .val (.int (1 : Int32)), .val (.int (0 : Int32)), .val (.int yy)] [(.int ((192 : Int32) ||| ((yy &&& (255 : Int32)) >>> ((6 : Int32) &&& 31))).toInt8.toInt32), (.int (0 : Int32)), (.ref t159)])) _
    refine st164 _ ?_
    show Steps p.tables e below (T164.setTop (mkF m 89 #[.val (.int (0 : Int32)), .val (.ref u1), .val (.int (1 : Int32)), .val (.int (1 : Int32)), .val (.ref t159), .val (.ref u1), .val (.int (1 : Int32)), .val (.int (0 : Int32)), .val (.int yy)] [])) _
    refine XS.aload X164.here hx rfl (hb hby d_jdk_42_method_46_code_89) rfl rfl ?_
    show Steps p.tables e below (T164.setTop (mkF m 91 #[.val (.int (0 : Int32)), .val (.ref u1), .val (.int (1 : Int32)), .val (.int (1 : Int32)), .val (.ref t159), .val (.ref u1), .val (.int (1 : Int32)), .val (.int (0 : Int32)), .val (.int yy)] [(.ref t159)])) _
    refine XS.iloadN X164.here hx rfl (hb hby d_jdk_42_method_46_code_91) rfl ?_
    show Steps p.tables e below (T164.setTop (mkF m 92 #[.val (.int (0 : Int32)), .val (.ref u1), .val (.int (1 : Int32)), .val (.int (1 : Int32)), .val (.ref t159), .val (.ref u1), .val (.int (1 : Int32)), .val (.int (0 : Int32)), .val (.int yy)] [(.int (1 : Int32)), (.ref t159)])) _
    refine XT.iincV X164.here hx rfl (1 : Int32) (hb hby d_jdk_42_method_46_code_92) rfl rfl (l' := #[.val (.int (0 : Int32)), .val (.ref u1), .val (.int (1 : Int32)), .val (.int ((1 : Int32) + (1 : Int32))), .val (.ref t159), .val (.ref u1), .val (.int (1 : Int32)), .val (.int (0 : Int32)), .val (.int yy)]) rfl ?_
    rw [show ((1 : Int32) + (1 : Int32)) = (2 : Int32) from by decide]
    show Steps p.tables e below (T164.setTop (mkF m 95 #[.val (.int (0 : Int32)), .val (.ref u1), .val (.int (1 : Int32)), .val (.int (2 : Int32)), .val (.ref t159), .val (.ref u1), .val (.int (1 : Int32)), .val (.int (0 : Int32)), .val (.int yy)] [(.int (1 : Int32)), (.ref t159)])) _
    refine XT.sipushV X164.here hx rfl (128 : Int32) (hb hby d_jdk_42_method_46_code_95) (by decide) ?_
    show Steps p.tables e below (T164.setTop (mkF m 98 #[.val (.int (0 : Int32)), .val (.ref u1), .val (.int (1 : Int32)), .val (.int (2 : Int32)), .val (.ref t159), .val (.ref u1), .val (.int (1 : Int32)), .val (.int (0 : Int32)), .val (.int yy)] [(.int (128 : Int32)), (.int (1 : Int32)), (.ref t159)])) _
    refine XS.iload X164.here hx rfl (hb hby d_jdk_42_method_46_code_98) rfl ?_
    show Steps p.tables e below (T164.setTop (mkF m 100 #[.val (.int (0 : Int32)), .val (.ref u1), .val (.int (1 : Int32)), .val (.int (2 : Int32)), .val (.ref t159), .val (.ref u1), .val (.int (1 : Int32)), .val (.int (0 : Int32)), .val (.int yy)] [(.int yy), (.int (128 : Int32)), (.int (1 : Int32)), (.ref t159)])) _
    refine XT.bipushV X164.here hx rfl (63 : Int32) (hb hby d_jdk_42_method_46_code_100) (by decide) ?_
    show Steps p.tables e below (T164.setTop (mkF m 102 #[.val (.int (0 : Int32)), .val (.ref u1), .val (.int (1 : Int32)), .val (.int (2 : Int32)), .val (.ref t159), .val (.ref u1), .val (.int (1 : Int32)), .val (.int (0 : Int32)), .val (.int yy)] [(.int (63 : Int32)), (.int yy), (.int (128 : Int32)), (.int (1 : Int32)), (.ref t159)])) _
    refine XS.iand X164.here hx rfl (hb hby d_jdk_42_method_46_code_102) rfl ?_
    show Steps p.tables e below (T164.setTop (mkF m 103 #[.val (.int (0 : Int32)), .val (.ref u1), .val (.int (1 : Int32)), .val (.int (2 : Int32)), .val (.ref t159), .val (.ref u1), .val (.int (1 : Int32)), .val (.int (0 : Int32)), .val (.int yy)] [(.int (yy &&& (63 : Int32))), (.int (128 : Int32)), (.int (1 : Int32)), (.ref t159)])) _
    refine XT.ior X164.here hx rfl (hb hby d_jdk_42_method_46_code_103) rfl ?_
    show Steps p.tables e below (T164.setTop (mkF m 104 #[.val (.int (0 : Int32)), .val (.ref u1), .val (.int (1 : Int32)), .val (.int (2 : Int32)), .val (.ref t159), .val (.ref u1), .val (.int (1 : Int32)), .val (.int (0 : Int32)), .val (.int yy)] [(.int ((128 : Int32) ||| (yy &&& (63 : Int32)))), (.int (1 : Int32)), (.ref t159)])) _
    refine XT.i2b X164.here hx rfl (hb hby d_jdk_42_method_46_code_104) rfl ?_
    show Steps p.tables e below (T164.setTop (mkF m 105 #[.val (.int (0 : Int32)), .val (.ref u1), .val (.int (1 : Int32)), .val (.int (2 : Int32)), .val (.ref t159), .val (.ref u1), .val (.int (1 : Int32)), .val (.int (0 : Int32)), .val (.int yy)] [(.int ((128 : Int32) ||| (yy &&& (63 : Int32))).toInt8.toInt32), (.int (1 : Int32)), (.ref t159)])) _
    refine st168 _ ?_
    show Steps p.tables e below (T168.setTop (mkF m 106 #[.val (.int (0 : Int32)), .val (.ref u1), .val (.int (1 : Int32)), .val (.int (2 : Int32)), .val (.ref t159), .val (.ref u1), .val (.int (1 : Int32)), .val (.int (0 : Int32)), .val (.int yy)] [])) _
    refine XS.goto X168.here hx rfl (pc0 := 106) (pc' := 118) rfl (hb hby d_jdk_42_method_46_code_106) (by decide) (by decide) ?_
    show Steps p.tables e below (T168.setTop (mkF m 118 #[.val (.int (0 : Int32)), .val (.ref u1), .val (.int (1 : Int32)), .val (.int (2 : Int32)), .val (.ref t159), .val (.ref u1), .val (.int (1 : Int32)), .val (.int (0 : Int32)), .val (.int yy)] [])) _
    refine XT.iincV X168.here hx rfl (1 : Int32) (hb hby d_jdk_42_method_46_code_118) rfl rfl (l' := #[.val (.int (0 : Int32)), .val (.ref u1), .val (.int (1 : Int32)), .val (.int (2 : Int32)), .val (.ref t159), .val (.ref u1), .val (.int (1 : Int32)), .val (.int ((0 : Int32) + (1 : Int32))), .val (.int yy)]) rfl ?_
    rw [show ((0 : Int32) + (1 : Int32)) = (1 : Int32) from by decide]
    show Steps p.tables e below (T168.setTop (mkF m 121 #[.val (.int (0 : Int32)), .val (.ref u1), .val (.int (1 : Int32)), .val (.int (2 : Int32)), .val (.ref t159), .val (.ref u1), .val (.int (1 : Int32)), .val (.int (1 : Int32)), .val (.int yy)] [])) _
    refine XS.goto X168.here hx rfl (pc0 := 121) (pc' := 49) rfl (hb hby d_jdk_42_method_46_code_121) (by decide) (by decide) ?_
    show Steps p.tables e below (T168.setTop (mkF m 49 #[.val (.int (0 : Int32)), .val (.ref u1), .val (.int (1 : Int32)), .val (.int (2 : Int32)), .val (.ref t159), .val (.ref u1), .val (.int (1 : Int32)), .val (.int (1 : Int32)), .val (.int yy)] [])) _
    refine XS.iload X168.here hx rfl (hb hby d_jdk_42_method_46_code_49) rfl ?_
    show Steps p.tables e below (T168.setTop (mkF m 51 #[.val (.int (0 : Int32)), .val (.ref u1), .val (.int (1 : Int32)), .val (.int (2 : Int32)), .val (.ref t159), .val (.ref u1), .val (.int (1 : Int32)), .val (.int (1 : Int32)), .val (.int yy)] [(.int (1 : Int32))])) _
    refine XS.iload X168.here hx rfl (hb hby d_jdk_42_method_46_code_51) rfl ?_
    show Steps p.tables e below (T168.setTop (mkF m 53 #[.val (.int (0 : Int32)), .val (.ref u1), .val (.int (1 : Int32)), .val (.int (2 : Int32)), .val (.ref t159), .val (.ref u1), .val (.int (1 : Int32)), .val (.int (1 : Int32)), .val (.int yy)] [(.int (1 : Int32)), (.int (1 : Int32))])) _
    refine XS.icmpYes X168.here hx rfl (pc0 := 53) (pc' := 124) rfl (hb hby d_jdk_42_method_46_code_53) rfl (by decide) (by decide) (by decide) ?_
    show Steps p.tables e below (T168.setTop (mkF m 124 #[.val (.int (0 : Int32)), .val (.ref u1), .val (.int (1 : Int32)), .val (.int (2 : Int32)), .val (.ref t159), .val (.ref u1), .val (.int (1 : Int32)), .val (.int (1 : Int32)), .val (.int yy)] [])) _
    refine XS.iloadN X168.here hx rfl (hb hby d_jdk_42_method_46_code_124) rfl ?_
    show Steps p.tables e below (T168.setTop (mkF m 125 #[.val (.int (0 : Int32)), .val (.ref u1), .val (.int (1 : Int32)), .val (.int (2 : Int32)), .val (.ref t159), .val (.ref u1), .val (.int (1 : Int32)), .val (.int (1 : Int32)), .val (.int yy)] [(.int (2 : Int32))])) _
    refine XS.aload X168.here hx rfl (hb hby d_jdk_42_method_46_code_125) rfl rfl ?_
    show Steps p.tables e below (T168.setTop (mkF m 127 #[.val (.int (0 : Int32)), .val (.ref u1), .val (.int (1 : Int32)), .val (.int (2 : Int32)), .val (.ref t159), .val (.ref u1), .val (.int (1 : Int32)), .val (.int (1 : Int32)), .val (.int yy)] [(.ref t159), (.int (2 : Int32))])) _
    refine X168.arraylength hx (by rw [e168]; exact Ar172.1) (State.isArrayOf_alike hZ.alike Ar172.2.1) (g := (mkF m 127 #[.val (.int (0 : Int32)), .val (.ref u1), .val (.int (1 : Int32)), .val (.int (2 : Int32)), .val (.ref t159), .val (.ref u1), .val (.int (1 : Int32)), .val (.int (1 : Int32)), .val (.int yy)] [(.ref t159), (.int (2 : Int32))])) rfl rfl (hb hby d_jdk_42_method_46_code_127) _ ?_
    rw [len_of Sz172 Nz172]
    show Steps p.tables e below (T168.setTop (mkF m 128 #[.val (.int (0 : Int32)), .val (.ref u1), .val (.int (1 : Int32)), .val (.int (2 : Int32)), .val (.ref t159), .val (.ref u1), .val (.int (1 : Int32)), .val (.int (1 : Int32)), .val (.int yy)] [(.int (2 : Int32)), (.int (2 : Int32))])) _
    refine XS.icmpNo X168.here hx rfl (hb hby d_jdk_42_method_46_code_128) rfl (by decide) ?_
    show Steps p.tables e below (T168.setTop (mkF m 131 #[.val (.int (0 : Int32)), .val (.ref u1), .val (.int (1 : Int32)), .val (.int (2 : Int32)), .val (.ref t159), .val (.ref u1), .val (.int (1 : Int32)), .val (.int (1 : Int32)), .val (.int yy)] [])) _
    refine XS.aload X168.here hx rfl (hb hby d_jdk_42_method_46_code_131) rfl rfl ?_
    show Steps p.tables e below (T168.setTop (mkF m 133 #[.val (.int (0 : Int32)), .val (.ref u1), .val (.int (1 : Int32)), .val (.int (2 : Int32)), .val (.ref t159), .val (.ref u1), .val (.int (1 : Int32)), .val (.int (1 : Int32)), .val (.int yy)] [(.ref t159)])) _
    jvm_step X168.here [X168.here.top, hx, (hb hby d_jdk_42_method_46_code_133), X168.method', Bd.returns, Value.isRef, FieldType.isReference]
    first | (intro acts; rw [hr _ acts rfl rfl rfl]) | rw [hr _ _ rfl rfl rfl]
    exact Steps.refl _
  · show own_QB Z (2 : Int32) [(nar .byte ((192 : Int32) ||| ((yy &&& (255 : Int32)) >>> ((6 : Int32) &&& 31))).toInt8.toInt32), (nar .byte ((128 : Int32) ||| (yy &&& (63 : Int32))).toInt8.toInt32)] h0 n0 _ T168.heap _
    rw [e168]
    exact ⟨t159, kt159, rfl, N168, EX168, q_t159, AE159t_171, V168⟩
set_option maxRecDepth 65536 in
set_option maxHeartbeats 40000000 in
theorem own_encode_n (l : Launch) (Z : State) (a0 : Array Value) (hw : ∀ d ∈ tables_1, d.before a0 Z = true) (ws : List Jvm.Cond) (wu : Addr) (u1 : Addr) (k1 : ClassId) (yy : Int32) (h0 : Heap) (n0 : Nat) (Z0 : n0 ≤ h0.size) (V1 : Arv Z h0 u1 k1 .byte (1 : Int32) ([yy].map Value.int) (.int 0)) (E1 : Exa Z h0 u1 "[B") (hy : yy < 0) (SI : Sta Z h0 "sun/nio/cs/UTF_8" "INSTANCE" "Lsun/nio/cs/UTF_8;" (.ref wu)) :
    MetFree l (⟨"java/lang/String", "encode", "(Ljava/nio/charset/Charset;B[B)[B"⟩ : MethodName) (head1 (Jvm.Cond.code (⟨"java/lang/String", "encode", "(Ljava/nio/charset/Charset;B[B)[B"⟩ : MethodName) jdk_42_method_18_code 3 (some (.array .byte)) :: ws) ({ frames := 3, cells := 1, slots := 2, locals := 50 } : Room)) (fun a U => a = #[(.ref wu), (.int (0 : Int32)), (.ref u1)] ∧ Z.Warmed39 U.vm ∧ U.heap = h0) (fun _ _ _ _ _ => True) (fun _ U o U' => ∃ v L, o = .returned v ∧ own_QB Z (2 : Int32) [(nar .byte ((192 : Int32) ||| ((yy &&& (255 : Int32)) >>> ((6 : Int32) &&& 31))).toInt8.toInt32), (nar .byte ((128 : Int32) ||| (yy &&& (63 : Int32))).toInt8.toInt32)] h0 n0 v U'.heap L ∧ FrameEnd U o U' L ({ frames := 3, cells := 1, slots := 2, locals := 50 } : Room).cells ({ frames := 3, cells := 1, slots := 2, locals := 50 } : Room).slots) := by
  refine MetFree.of_bodySF pf_jdk_42_method_18_code hisR ?_
  intro p e s m args below meth c s₁ Bd hml0 hP hK
  obtain ⟨rfl, hZ, hh⟩ := hP
  have hx := Bd.exec
  have hby := Bd.bytes
  have hml : c.maxLocals = 3 := hml0
  have hown : s.vm.findClass "java/lang/String" = some m.cls := findClass_of_methodNamed Bd.named
  have hnm := (name_of_methodNamed Bd.named Bd.method).1
  have X0 : Stand p l e ({ frames := 3, cells := 1, slots := 2, locals := 50 } : Room) s m #[(.ref wu), (.int (0 : Int32)), (.ref u1)] below meth c s₁ [] 0 0 := Stand.of_body Bd
  have e0 : s₁.heap = h0 := by rw [← hh, Bd.state]; rfl
  have N0 := Fr.nil n0
  have pre0 : ∀ t, Steps p.tables e below (s₁.setTop (mkF m 0 #[.val (.ref wu), .val (.int (0 : Int32)), .val (.ref u1)] [])) t → Steps p.tables e below (s₁.setTop (entryFrame m #[(.ref wu), (.int (0 : Int32)), (.ref u1)] 3)) t := fun t k => castTop (ef_jdk_42_method_18_code_AIA m wu (0 : Int32) u1) k
  obtain ⟨T173, X173, e173, st173⟩ := getS2 X0 hx hZ hown (host := "") (Or.inl (hw _ (List.mem_of_getElem? (i := 95) rfl))) Via.refl e0 SI (g := (mkF m 1 #[.val (.ref wu), .val (.int (0 : Int32)), .val (.ref u1)] [(.ref wu)])) rfl (hb hby d_jdk_42_method_18_code_1)
  obtain ⟨_, _, ⟨T174, L174, k174, n174⟩, -, X174, ⟨Lc174, hQ174, l174, y174, z174⟩, st174⟩ := Jvm.LawKit.callS X173 hx (y := (⟨"java/lang/String", "encodeUTF8", "(B[BZ)[B"⟩ : MethodName)) hown (mvT hZ (hw _ (List.mem_of_getElem? (i := 97) rfl))) (mvT hZ (hw _ (List.mem_of_getElem? (i := 98) rfl))) (mvT hZ (hw _ (List.mem_of_getElem? (i := 54) rfl))) (mvT hZ (hw _ (List.mem_of_getElem? (i := 99) rfl))) (by decide) (backOf (W := 0) (own_enc8_n l Z a0 hw [] u1 k1 yy h0 n0 Z0 V1 E1 hy) hZ (hw _ (List.mem_of_getElem? (i := 99) rfl)) (hw _ (List.mem_of_getElem? (i := 54) rfl)) (by decide) (by decide)) (g := (mkF m 10 #[.val (.ref wu), .val (.int (0 : Int32)), .val (.ref u1)] [(.int (1 : Int32)), (.ref u1), (.int (0 : Int32))])) rfl (by rw [hml]; rfl) (argsL := [(.int (0 : Int32)), (.ref u1), (.int (1 : Int32))]) (rest := []) (lenOf pd__BArBZ_ArB rfl) rfl (by show 2 * 0 + _ ≤ _; exact Nat.le_of_eq rfl) (hb hby d_jdk_42_method_18_code_10) (fun _ _ => ⟨rfl, e173, (by decide : 0 + 1 ≤ _), (by decide : 0 + 2 ≤ _)⟩)
  dsimp only [Pt.U, Pt.locs, Pt.cells, Pt.slots] at X174 l174 y174 z174 st174 hQ174
  subst l174 y174 z174
  obtain ⟨t174, kt174, rfl, N174q, EE174, qq174, AE174t, V174t⟩ := hQ174
  have N174 := Fr.app N0 N174q
  have q_t174 : h0.size ≤ t174 := qq174
  have ne_u1_t174 : u1 ≠ t174 := Nat.ne_of_lt (Nat.lt_of_lt_of_le E1.lt qq174)
  have E1_175 := E1.ext EE174
  have V1_176 := V1.ext EE174
  have EX174 : Ext h0 T174.heap := EE174
  have Z174 : n0 ≤ T174.heap.size := Nat.le_trans Z0 EX174.1
  obtain ⟨fs, hr, hrun, hended, hW, hsame⟩ := X174.leave (v := some (.ref t174)) (fun h => by rw [Bd.returns] at h; cases h)
  refine ⟨_, _, pre0 _ ?_, hrun, hended, _, _, rfl, ?_, ⟨_, rfl⟩, hW, hsame.mono (by decide) (by decide)⟩
  · show Steps p.tables e below (s₁.setTop (mkF m 0 #[.val (.ref wu), .val (.int (0 : Int32)), .val (.ref u1)] [])) _
    refine XS.aloadN X0.here hx rfl (hb hby d_jdk_42_method_18_code_0) rfl rfl ?_
    show Steps p.tables e below (s₁.setTop (mkF m 1 #[.val (.ref wu), .val (.int (0 : Int32)), .val (.ref u1)] [(.ref wu)])) _
    refine st173 _ ?_
    show Steps p.tables e below (T173.setTop (mkF m 4 #[.val (.ref wu), .val (.int (0 : Int32)), .val (.ref u1)] [(.ref wu), (.ref wu)])) _
    refine Jvm.RoadKit.acmp (g := (mkF m 4 #[.val (.ref wu), .val (.int (0 : Int32)), .val (.ref u1)] [(.ref wu), (.ref wu)])) X173 hx rfl rfl rfl (pc0 := 4) (pc' := 7) (same := true) rfl (hb hby d_jdk_42_method_18_code_4) rfl (decide_eq_true rfl) (by decide) (by decide) ?_
    show Steps p.tables e below (T173.setTop (mkF m 7 #[.val (.ref wu), .val (.int (0 : Int32)), .val (.ref u1)] [])) _
    refine XS.iloadN X173.here hx rfl (hb hby d_jdk_42_method_18_code_7) rfl ?_
    show Steps p.tables e below (T173.setTop (mkF m 8 #[.val (.ref wu), .val (.int (0 : Int32)), .val (.ref u1)] [(.int (0 : Int32))])) _
    refine XS.aloadN X173.here hx rfl (hb hby d_jdk_42_method_18_code_8) rfl rfl ?_
    show Steps p.tables e below (T173.setTop (mkF m 9 #[.val (.ref wu), .val (.int (0 : Int32)), .val (.ref u1)] [(.ref u1), (.int (0 : Int32))])) _
    refine XT.iconstV X173.here hx rfl (1 : Int32) (hb hby d_jdk_42_method_18_code_9) rfl ?_
    show Steps p.tables e below (T173.setTop (mkF m 10 #[.val (.ref wu), .val (.int (0 : Int32)), .val (.ref u1)] [(.int (1 : Int32)), (.ref u1), (.int (0 : Int32))])) _
    refine st174 _ ?_
    show Steps p.tables e below (T174.setTop (mkF m 13 #[.val (.ref wu), .val (.int (0 : Int32)), .val (.ref u1)] [(.ref t174)])) _
    jvm_step X174.here [X174.here.top, hx, (hb hby d_jdk_42_method_18_code_13), X174.method', Bd.returns, Value.isRef, FieldType.isReference]
    first | (intro acts; rw [hr _ acts rfl rfl rfl]) | rw [hr _ _ rfl rfl rfl]
    exact Steps.refl _
  · show own_QB Z (2 : Int32) [(nar .byte ((192 : Int32) ||| ((yy &&& (255 : Int32)) >>> ((6 : Int32) &&& 31))).toInt8.toInt32), (nar .byte ((128 : Int32) ||| (yy &&& (63 : Int32))).toInt8.toInt32)] h0 n0 _ T174.heap _
    exact ⟨t174, kt174, rfl, N174, EX174, q_t174, AE174t, V174t⟩
set_option maxRecDepth 65536 in
set_option maxHeartbeats 40000000 in
theorem own_getB_n (l : Launch) (Z : State) (a0 : Array Value) (hw : ∀ d ∈ tables_1, d.before a0 Z = true) (ws : List Jvm.Cond) (wu : Addr) (i7 : Int32) (t1 u1 : Addr) (k1 : ClassId) (yy : Int32) (h0 : Heap) (n0 : Nat) (Z0 : n0 ≤ h0.size) (S8 : Sta Z h0 "java/lang/String" "COMPACT_STRINGS" "Z" (.int i7)) (c9 : ¬ (i7 = (0 : Int32))) (P : own_St Z h0 t1 u1 k1 (1 : Int32) [yy]) (hy : yy < 0) (SI : Sta Z h0 "sun/nio/cs/UTF_8" "INSTANCE" "Lsun/nio/cs/UTF_8;" (.ref wu)) :
    MetFree l (⟨"java/lang/String", "getBytes", "(Ljava/nio/charset/Charset;)[B"⟩ : MethodName) (head1 (Jvm.Cond.code (⟨"java/lang/String", "getBytes", "(Ljava/nio/charset/Charset;)[B"⟩ : MethodName) jdk_42_method_64_code 2 (some (.array .byte)) :: ws) ({ frames := 4, cells := 1, slots := 2, locals := 64 } : Room)) (fun a U => a = #[(.ref t1), (.ref wu)] ∧ Z.Warmed39 U.vm ∧ U.heap = h0) (fun _ _ _ _ _ => True) (fun _ U o U' => ∃ v L, o = .returned v ∧ own_QB Z (2 : Int32) [(nar .byte ((192 : Int32) ||| ((yy &&& (255 : Int32)) >>> ((6 : Int32) &&& 31))).toInt8.toInt32), (nar .byte ((128 : Int32) ||| (yy &&& (63 : Int32))).toInt8.toInt32)] h0 n0 v U'.heap L ∧ FrameEnd U o U' L ({ frames := 4, cells := 1, slots := 2, locals := 64 } : Room).cells ({ frames := 4, cells := 1, slots := 2, locals := 64 } : Room).slots) := by
  refine MetFree.of_bodySF pf_jdk_42_method_64_code hisR ?_
  intro p e s m args below meth c s₁ Bd hml0 hP hK
  obtain ⟨rfl, hZ, hh⟩ := hP
  have hx := Bd.exec
  have hby := Bd.bytes
  have hml : c.maxLocals = 2 := hml0
  have hown : s.vm.findClass "java/lang/String" = some m.cls := findClass_of_methodNamed Bd.named
  have hnm := (name_of_methodNamed Bd.named Bd.method).1
  have X0 : Stand p l e ({ frames := 4, cells := 1, slots := 2, locals := 64 } : Room) s m #[(.ref t1), (.ref wu)] below meth c s₁ [] 0 0 := Stand.of_body Bd
  have e0 : s₁.heap = h0 := by rw [← hh, Bd.state]; rfl
  have N0 := Fr.nil n0
  have pre0 : ∀ t, Steps p.tables e below (s₁.setTop (mkF m 0 #[.val (.ref t1), .val (.ref wu)] [])) t → Steps p.tables e below (s₁.setTop (entryFrame m #[(.ref t1), (.ref wu)] 2)) t := fun t k => castTop (ef_jdk_42_method_64_code_AA m t1 wu) k
  obtain ⟨E_177, Fvalue_178, Fcoder_179, E_180, V_181⟩ := id P
  obtain ⟨cq182, kq182, q182a, q182b, q182c⟩ := isOf hZ e0 E_177
  obtain ⟨_, _, ⟨T182, L182, k182, n182⟩, -, X182, ⟨Lc182, hQ182, l182, y182, z182⟩, st182⟩ := X0.virtualBack hx (y := (⟨"java/lang/String", "coder", "()B"⟩ : MethodName)) (z := (⟨"java/lang/String", "coder", "()B"⟩ : MethodName)) hown (mvT hZ (hw _ (List.mem_of_getElem? (i := 87) rfl))) (mvT hZ (hw _ (List.mem_of_getElem? (i := 88) rfl))) (notFace_of_selects (args := #[]) (mvT hZ (hw _ (List.mem_of_getElem? (i := 90) rfl)))) (mvT hZ (hw _ (List.mem_of_getElem? (i := 90) rfl))) (mvT hZ (hw _ (List.mem_of_getElem? (i := 89) rfl))) (by decide) (backOf (W := 1) (own_coder l Z a0 hw [] i7 t1 u1 k1 yy h0 n0 Z0 S8 c9 P) hZ (hw _ (List.mem_of_getElem? (i := 91) rfl)) (hw _ (List.mem_of_getElem? (i := 54) rfl)) (by decide) (by decide)) q182a q182c (g := (mkF m 14 #[.val (.ref t1), .val (.ref wu)] [(.ref t1), (.ref wu)])) rfl (by rw [hml]; rfl) (Steps.refl _) (argsL := []) (rest := [(.ref wu)]) (lenOf pd___B rfl) rfl (by show 2 * 0 + _ ≤ _; exact Nat.le_of_eq rfl) (hb hby d_jdk_42_method_64_code_14) (fun _ _ => ⟨rfl, e0, (by decide : 0 + 0 ≤ _), (by decide : 0 + 0 ≤ _)⟩)
  dsimp only [Pt.U, Pt.locs, Pt.cells, Pt.slots] at X182 l182 y182 z182 st182 hQ182
  subst l182 y182 z182
  obtain ⟨rfl, N182q, e182⟩ := hQ182
  have N182 := Fr.app N0 N182q
  obtain ⟨T183, X183, e183, st183⟩ := getF X182 hx hZ hown (host := "") (Or.inl (hw _ (List.mem_of_getElem? (i := 71) rfl))) Via.refl e182 Fvalue_178 (g := (mkF m 18 #[.val (.ref t1), .val (.ref wu)] [(.ref t1), (.int (0 : Int32)), (.ref wu)])) rfl rfl (hb hby d_jdk_42_method_64_code_18)
  obtain ⟨_, _, ⟨T184, L184, k184, n184⟩, -, X184, ⟨Lc184, hQ184, l184, y184, z184⟩, st184⟩ := Jvm.LawKit.callS X183 hx (y := (⟨"java/lang/String", "encode", "(Ljava/nio/charset/Charset;B[B)[B"⟩ : MethodName)) hown (mvT hZ (hw _ (List.mem_of_getElem? (i := 92) rfl))) (mvT hZ (hw _ (List.mem_of_getElem? (i := 93) rfl))) (mvT hZ (hw _ (List.mem_of_getElem? (i := 54) rfl))) (mvT hZ (hw _ (List.mem_of_getElem? (i := 94) rfl))) (by decide) (backOf (W := 0) (own_encode_n l Z a0 hw [] wu u1 k1 yy h0 n0 Z0 V_181 E_180 hy SI) hZ (hw _ (List.mem_of_getElem? (i := 94) rfl)) (hw _ (List.mem_of_getElem? (i := 54) rfl)) (by decide) (by decide)) (g := (mkF m 21 #[.val (.ref t1), .val (.ref wu)] [(.ref u1), (.int (0 : Int32)), (.ref wu)])) rfl (by rw [hml]; rfl) (argsL := [(.ref wu), (.int (0 : Int32)), (.ref u1)]) (rest := []) (lenOf pd__Ljava_nio_charset_Charset_BArB_ArB rfl) rfl (by show 2 * 0 + _ ≤ _; exact Nat.le_of_eq rfl) (hb hby d_jdk_42_method_64_code_21) (fun _ _ => ⟨rfl, e183, (by decide : 0 + 1 ≤ _), (by decide : 0 + 2 ≤ _)⟩)
  dsimp only [Pt.U, Pt.locs, Pt.cells, Pt.slots] at X184 l184 y184 z184 st184 hQ184
  subst l184 y184 z184
  obtain ⟨t184, kt184, rfl, N184q, EE184, qq184, AE184t, V184t⟩ := hQ184
  have N184 := Fr.app N182 N184q
  have q_t184 : h0.size ≤ t184 := qq184
  have ne_t1_t184 : t1 ≠ t184 := Nat.ne_of_lt (Nat.lt_of_lt_of_le E_177.lt qq184)
  have ne_u1_t184 : u1 ≠ t184 := Nat.ne_of_lt (Nat.lt_of_lt_of_le E_180.lt qq184)
  have E_185 := E_177.ext EE184
  have Fvalue_186 := Fvalue_178.ext EE184
  have Fcoder_187 := Fcoder_179.ext EE184
  have E_188 := E_180.ext EE184
  have V_189 := V_181.ext EE184
  have EX184 : Ext h0 T184.heap := EE184
  have Z184 : n0 ≤ T184.heap.size := Nat.le_trans Z0 EX184.1
  obtain ⟨fs, hr, hrun, hended, hW, hsame⟩ := X184.leave (v := some (.ref t184)) (fun h => by rw [Bd.returns] at h; cases h)
  refine ⟨_, _, pre0 _ ?_, hrun, hended, _, _, rfl, ?_, ⟨_, rfl⟩, hW, hsame.mono (by decide) (by decide)⟩
  · show Steps p.tables e below (s₁.setTop (mkF m 0 #[.val (.ref t1), .val (.ref wu)] [])) _
    refine XS.aloadN X0.here hx rfl (hb hby d_jdk_42_method_64_code_0) rfl rfl ?_
    show Steps p.tables e below (s₁.setTop (mkF m 1 #[.val (.ref t1), .val (.ref wu)] [(.ref wu)])) _
    refine XT.ifnonnullYes X0.here hx rfl (pc0 := 1) (pc' := 12) rfl (hb hby d_jdk_42_method_64_code_1) rfl (by decide) (by decide) ?_
    show Steps p.tables e below (s₁.setTop (mkF m 12 #[.val (.ref t1), .val (.ref wu)] [])) _
    refine XS.aloadN X0.here hx rfl (hb hby d_jdk_42_method_64_code_12) rfl rfl ?_
    show Steps p.tables e below (s₁.setTop (mkF m 13 #[.val (.ref t1), .val (.ref wu)] [(.ref wu)])) _
    refine XS.aloadN X0.here hx rfl (hb hby d_jdk_42_method_64_code_13) rfl rfl ?_
    show Steps p.tables e below (s₁.setTop (mkF m 14 #[.val (.ref t1), .val (.ref wu)] [(.ref t1), (.ref wu)])) _
    refine st182.trans ?_
    show Steps p.tables e below (T182.setTop (mkF m 17 #[.val (.ref t1), .val (.ref wu)] [(.int (0 : Int32)), (.ref wu)])) _
    refine XS.aloadN X182.here hx rfl (hb hby d_jdk_42_method_64_code_17) rfl rfl ?_
    show Steps p.tables e below (T182.setTop (mkF m 18 #[.val (.ref t1), .val (.ref wu)] [(.ref t1), (.int (0 : Int32)), (.ref wu)])) _
    refine st183 _ ?_
    show Steps p.tables e below (T183.setTop (mkF m 21 #[.val (.ref t1), .val (.ref wu)] [(.ref u1), (.int (0 : Int32)), (.ref wu)])) _
    refine st184 _ ?_
    show Steps p.tables e below (T184.setTop (mkF m 24 #[.val (.ref t1), .val (.ref wu)] [(.ref t184)])) _
    jvm_step X184.here [X184.here.top, hx, (hb hby d_jdk_42_method_64_code_24), X184.method', Bd.returns, Value.isRef, FieldType.isReference]
    first | (intro acts; rw [hr _ acts rfl rfl rfl]) | rw [hr _ _ rfl rfl rfl]
    exact Steps.refl _
  · show own_QB Z (2 : Int32) [(nar .byte ((192 : Int32) ||| ((yy &&& (255 : Int32)) >>> ((6 : Int32) &&& 31))).toInt8.toInt32), (nar .byte ((128 : Int32) ||| (yy &&& (63 : Int32))).toInt8.toInt32)] h0 n0 _ T184.heap _
    exact ⟨t184, kt184, rfl, N184, EX184, q_t184, AE184t, V184t⟩
theorem d_prog_10_method_10_code_0 : decode prog_10_method_10_code 0 = .ok (.aload_n 0, 1) := by decide +kernel
theorem d_prog_10_method_10_code_1 : decode prog_10_method_10_code 1 = .ok (.aload_n 1, 1) := by decide +kernel
theorem d_prog_10_method_10_code_2 : decode prog_10_method_10_code 2 = .ok (.arraylength, 1) := by decide +kernel
theorem d_prog_10_method_10_code_3 : decode prog_10_method_10_code 3 = .ok (.invokevirtual 122, 3) := by decide +kernel
theorem d_prog_10_method_10_code_6 : decode prog_10_method_10_code 6 = .ok (.aload_n 1, 1) := by decide +kernel
theorem d_prog_10_method_10_code_7 : decode prog_10_method_10_code 7 = .ok (.iconst 0, 1) := by decide +kernel
theorem d_prog_10_method_10_code_8 : decode prog_10_method_10_code 8 = .ok (.aload_n 0, 1) := by decide +kernel
theorem d_prog_10_method_10_code_9 : decode prog_10_method_10_code 9 = .ok (.getfield 7, 3) := by decide +kernel
theorem d_prog_10_method_10_code_12 : decode prog_10_method_10_code 12 = .ok (.aload_n 0, 1) := by decide +kernel
theorem d_prog_10_method_10_code_13 : decode prog_10_method_10_code 13 = .ok (.getfield 52, 3) := by decide +kernel
theorem d_prog_10_method_10_code_16 : decode prog_10_method_10_code 16 = .ok (.aload_n 1, 1) := by decide +kernel
theorem d_prog_10_method_10_code_17 : decode prog_10_method_10_code 17 = .ok (.arraylength, 1) := by decide +kernel
theorem d_prog_10_method_10_code_18 : decode prog_10_method_10_code 18 = .ok (.invokestatic 126, 3) := by decide +kernel
theorem d_prog_10_method_10_code_21 : decode prog_10_method_10_code 21 = .ok (.aload_n 0, 1) := by decide +kernel
theorem d_prog_10_method_10_code_22 : decode prog_10_method_10_code 22 = .ok (.dup, 1) := by decide +kernel
theorem d_prog_10_method_10_code_23 : decode prog_10_method_10_code 23 = .ok (.getfield 52, 3) := by decide +kernel
theorem d_prog_10_method_10_code_26 : decode prog_10_method_10_code 26 = .ok (.aload_n 1, 1) := by decide +kernel
theorem d_prog_10_method_10_code_27 : decode prog_10_method_10_code 27 = .ok (.arraylength, 1) := by decide +kernel
theorem d_prog_10_method_10_code_28 : decode prog_10_method_10_code 28 = .ok (.iadd, 1) := by decide +kernel
theorem d_prog_10_method_10_code_29 : decode prog_10_method_10_code 29 = .ok (.putfield 52, 3) := by decide +kernel
theorem d_prog_10_method_10_code_32 : decode prog_10_method_10_code 32 = .ok (.return_, 1) := by decide +kernel
theorem ef_prog_10_method_10_code_AA (m : MethodId) (x0 : Addr) (x1 : Addr) : entryFrame m #[(.ref x0), (.ref x1)] 2 = mkF m 0 #[.val (.ref x0), .val (.ref x1)] [] := by first | (simp [entryFrame, mkF, argsToLocals, Value.category]; done) | rfl
set_option maxRecDepth 65536 in
set_option maxHeartbeats 40000000 in
theorem own_appB (l : Launch) (Z : State) (a0 : Array Value) (hw : ∀ d ∈ tables_1, d.before a0 Z = true) (ws : List Jvm.Cond) (b1 r1 : Addr) (k1 : ClassId) (xs : List Int32) (t1 : Addr) (kt : ClassId) (ys : List Int32) (h0 : Heap) (n0 : Nat) (Z0 : n0 ≤ h0.size) (P : own_KB Z h0 b1 r1 k1 xs) (V1 : Arv Z h0 t1 kt .byte (Int32.ofNat ys.length) (ys.map Value.int) (.int 0)) (htr : t1 ≠ r1) (hl : xs.length + ys.length ≤ 64) (hys : ys.length < 64) (gb : n0 ≤ b1) (gr : n0 ≤ r1) :
    MetFree l (⟨"com/example/chitragupta/chitragupta/ledger/KeyBuilder", "append", "([B)V"⟩ : MethodName) (head1 (Jvm.Cond.code (⟨"com/example/chitragupta/chitragupta/ledger/KeyBuilder", "append", "([B)V"⟩ : MethodName) prog_10_method_10_code 2 none :: ws) ({ frames := 1, cells := 0, slots := 0, locals := 18 } : Room)) (fun a U => a = #[(.ref b1), (.ref t1)] ∧ Z.Warmed39 U.vm ∧ U.heap = h0) (fun _ _ _ _ _ => True) (fun _ U o U' => ∃ v L, o = .returned v ∧ own_QK Z none b1 r1 k1 (xs ++ ys) h0 n0 v U'.heap L ∧ FrameEnd U o U' L ({ frames := 1, cells := 0, slots := 0, locals := 18 } : Room).cells ({ frames := 1, cells := 0, slots := 0, locals := 18 } : Room).slots) := by
  refine MetFree.of_bodySF (plainFor_of_name pn_com_example_chitragupta_chitragupta_ledger_KeyBuilder) hisR ?_
  intro p e s m args below meth c s₁ Bd hml0 hP hK
  obtain ⟨rfl, hZ, hh⟩ := hP
  have hx := Bd.exec
  have hby := Bd.bytes
  have hml : c.maxLocals = 2 := hml0
  have hown : s.vm.findClass "com/example/chitragupta/chitragupta/ledger/KeyBuilder" = some m.cls := findClass_of_methodNamed Bd.named
  have hnm := (name_of_methodNamed Bd.named Bd.method).1
  have X0 : Stand p l e ({ frames := 1, cells := 0, slots := 0, locals := 18 } : Room) s m #[(.ref b1), (.ref t1)] below meth c s₁ [] 0 0 := Stand.of_body Bd
  have e0 : s₁.heap = h0 := by rw [← hh, Bd.state]; rfl
  have N0 := Fr.nil n0
  have pre0 : ∀ t, Steps p.tables e below (s₁.setTop (mkF m 0 #[.val (.ref b1), .val (.ref t1)] [])) t → Steps p.tables e below (s₁.setTop (entryFrame m #[(.ref b1), (.ref t1)] 2)) t := fun t k => castTop (ef_prog_10_method_10_code_AA m b1 t1) k
  have hm : ¬ (64 : Int32) < (Int32.ofNat xs.length + Int32.ofNat ys.length) := own_room4 hl hys
  obtain ⟨E_190, Fbytes_191, Flength_192, V_193⟩ := id P
  have ne_b1_r1 : b1 ≠ r1 := E_190.neArv V_193 (hw _ (List.mem_of_getElem? (i := 1) rfl))
  have htb : b1 ≠ t1 := E_190.neArv V1 (hw _ (List.mem_of_getElem? (i := 1) rfl))
  obtain ⟨cl194, Ar194, -, Sz194, Nz194, -⟩ := id V1
  obtain ⟨cq195, qa195, qb195⟩ := E_190.cell
  obtain ⟨_, _, ⟨T195, L195, k195, n195⟩, -, X195, ⟨Lc195, hQ195, l195, y195, z195⟩, st195⟩ := X0.privateBack hx (y := (⟨"com/example/chitragupta/chitragupta/ledger/KeyBuilder", "room", "(I)V"⟩ : MethodName)) hown (mvT hZ (hw _ (List.mem_of_getElem? (i := 41) rfl))) (mvT hZ (hw _ (List.mem_of_getElem? (i := 42) rfl))) (own_selP (mvT hZ (hw _ (List.mem_of_getElem? (i := 15) rfl))) rfl (Cond.privateMethod_at (mvP hZ (hw _ (List.mem_of_getElem? (i := 43) rfl)) (args := #[]))) (mvT hZ (hw _ (List.mem_of_getElem? (i := 42) rfl))) (by decide)) (Cond.privateMethod_at (mvP hZ (hw _ (List.mem_of_getElem? (i := 43) rfl)) (args := #[]))) (mvT hZ (hw _ (List.mem_of_getElem? (i := 44) rfl))) (by decide) (backOf (W := 0) (own_room l Z a0 hw [] b1 r1 k1 xs (Int32.ofNat ys.length) h0 n0 Z0 ⟨E_190, Fbytes_191, Flength_192, V_193⟩ hm) hZ (hw _ (List.mem_of_getElem? (i := 44) rfl)) (hw _ (List.mem_of_getElem? (i := 2) rfl)) (by decide) (by decide)) (g := (mkF m 3 #[.val (.ref b1), .val (.ref t1)] [(.int (Int32.ofNat ys.length)), (.ref b1)])) rfl (by rw [hml]; rfl) (Steps.refl _) (a := b1) (by rw [e0]; exact qa195) qb195 (argsL := [(.int (Int32.ofNat ys.length))]) (rest := []) (lenOf pd__I_V rfl) rfl (by show 2 * 0 + _ ≤ _; exact Nat.le_of_eq rfl) (hb hby d_prog_10_method_10_code_3) (fun _ _ => ⟨rfl, e0, (by decide : 0 + 0 ≤ _), (by decide : 0 + 0 ≤ _)⟩)
  dsimp only [Pt.U, Pt.locs, Pt.cells, Pt.slots] at X195 l195 y195 z195 st195 hQ195
  subst l195 y195 z195
  obtain ⟨rfl, N195q, e195⟩ := hQ195
  have N195 := Fr.app N0 N195q
  obtain ⟨T196, X196, e196, st196⟩ := getF X195 hx hZ hown (host := "") (Or.inl (hw _ (List.mem_of_getElem? (i := 10) rfl))) Via.refl e195 Fbytes_191 (g := (mkF m 9 #[.val (.ref b1), .val (.ref t1)] [(.ref b1), (.int (0 : Int32)), (.ref t1)])) rfl rfl (hb hby d_prog_10_method_10_code_9)
  obtain ⟨T197, X197, e197, st197⟩ := getF X196 hx hZ hown (host := "") (Or.inl (hw _ (List.mem_of_getElem? (i := 17) rfl))) Via.refl e196 Flength_192 (g := (mkF m 13 #[.val (.ref b1), .val (.ref t1)] [(.ref b1), (.ref r1), (.int (0 : Int32)), (.ref t1)])) rfl rfl (hb hby d_prog_10_method_10_code_13)
  obtain ⟨cl198, Ar198, -, Sz198, Nz198, -⟩ := id V1
  obtain ⟨T199, h199, L199, X199, e199, N199, K199q, V199, st199⟩ := own_cpApp (a0 := a0) X197 hx hZ hown (hw _ (List.mem_of_getElem? (i := 119) rfl)) (hw _ (List.mem_of_getElem? (i := 30) rfl)) (hw _ (List.mem_of_getElem? (i := 28) rfl)) (hw _ (List.mem_of_getElem? (i := 29) rfl)) e197 V1 V_193 ⟨by omega, by rw [show (64 : Int32).toNatClampNeg = 64 from by decide]; omega⟩ N195 gr (g := (mkF m 18 #[.val (.ref b1), .val (.ref t1)] [(.int (Int32.ofNat ys.length)), (.int (Int32.ofNat xs.length)), (.ref r1), (.int (0 : Int32)), (.ref t1)])) rfl (by rw [hml]; rfl) rfl (hb hby d_prog_10_method_10_code_18) (by decide) (W := 0) (by show 2 * 0 + _ ≤ _; exact Nat.le_of_eq rfl) (by decide)
  have E_200 := E_190.keep K199q
  have Fbytes_201 := Fbytes_191.keep K199q (ninS ne_b1_r1 nin0)
  have Flength_202 := Flength_192.keep K199q (ninS ne_b1_r1 nin0)
  have V1_203 := V1.keep K199q (ninS htr nin0)
  have K199 : Keep h0 h199 [b1, r1] := (Keep.refl h0 [b1, r1]).trans K199q (allS (Or.inl (List.mem_of_getElem? (i := 1) rfl)) all0)
  have Z199 : n0 ≤ h199.size := Nat.le_trans Z0 K199.1
  obtain ⟨T204, X204, e204, st204⟩ := getF X199 hx hZ hown (host := "") (Or.inl (hw _ (List.mem_of_getElem? (i := 17) rfl))) Via.refl e199 Flength_202 (g := (mkF m 23 #[.val (.ref b1), .val (.ref t1)] [(.ref b1), (.ref b1)])) rfl rfl (hb hby d_prog_10_method_10_code_23)
  obtain ⟨cl205, Ar205, -, Sz205, Nz205, -⟩ := id V1_203
  obtain ⟨T206, h206, X206, e206, W206, st206⟩ := putF X204 hx hZ hown (host := "") (Or.inl (hw _ (List.mem_of_getElem? (i := 17) rfl))) Via.refl e204 Flength_202 E_200 (Or.inl (hw _ (List.mem_of_getElem? (i := 18) rfl))) (hw _ (List.mem_of_getElem? (i := 1) rfl)) (ty := .int) (by decide) rfl rfl (g := (mkF m 29 #[.val (.ref b1), .val (.ref t1)] [(.int ((Int32.ofNat xs.length) + (Int32.ofNat ys.length))), (.ref b1)])) rfl rfl (hb hby d_prog_10_method_10_code_29)
  have E_207 := E_200.wr W206
  have Fbytes_208 := Fbytes_201.other W206 (Or.inr (slot_ne (Or.inl (hw _ (List.mem_of_getElem? (i := 11) rfl))) (Or.inl (hw _ (List.mem_of_getElem? (i := 18) rfl))) (by decide) (t := (.array .byte)) (t' := .int) (by decide) (by decide)))
  have V1_209 := V1_203.other W206 (Ne.symm htb)
  have V199_210 := V199.other W206 (Ne.symm ne_b1_r1)
  have K206 : Keep h0 h206 [b1, r1] := K199.wr W206 (Or.inl (List.mem_of_getElem? (i := 0) rfl))
  have Z206 : n0 ≤ h206.size := Nat.le_trans Z0 K206.1
  have N206 := Fr.snoc X206 N199 gb
  have Flength_211 : Fld Z h206 b1 "com/example/chitragupta/chitragupta/ledger/KeyBuilder" "length" "I" (.int ((Int32.ofNat xs.length) + (Int32.ofNat ys.length))) := Flength_202.same W206
  obtain ⟨fs, hr, hrun, hended, hW, hsame⟩ := X206.leave (v := none) (fun _ => rfl)
  refine ⟨_, _, pre0 _ ?_, hrun, hended, _, _, rfl, ?_, ⟨_, rfl⟩, hW, hsame.mono (by decide) (by decide)⟩
  · show Steps p.tables e below (s₁.setTop (mkF m 0 #[.val (.ref b1), .val (.ref t1)] [])) _
    refine XS.aloadN X0.here hx rfl (hb hby d_prog_10_method_10_code_0) rfl rfl ?_
    show Steps p.tables e below (s₁.setTop (mkF m 1 #[.val (.ref b1), .val (.ref t1)] [(.ref b1)])) _
    refine XS.aloadN X0.here hx rfl (hb hby d_prog_10_method_10_code_1) rfl rfl ?_
    show Steps p.tables e below (s₁.setTop (mkF m 2 #[.val (.ref b1), .val (.ref t1)] [(.ref t1), (.ref b1)])) _
    refine X0.arraylength hx (by rw [e0]; exact Ar194.1) (State.isArrayOf_alike hZ.alike Ar194.2.1) (g := (mkF m 2 #[.val (.ref b1), .val (.ref t1)] [(.ref t1), (.ref b1)])) rfl rfl (hb hby d_prog_10_method_10_code_2) _ ?_
    rw [len_of Sz194 Nz194]
    show Steps p.tables e below (s₁.setTop (mkF m 3 #[.val (.ref b1), .val (.ref t1)] [(.int (Int32.ofNat ys.length)), (.ref b1)])) _
    refine st195.trans ?_
    show Steps p.tables e below (T195.setTop (mkF m 6 #[.val (.ref b1), .val (.ref t1)] [])) _
    refine XS.aloadN X195.here hx rfl (hb hby d_prog_10_method_10_code_6) rfl rfl ?_
    show Steps p.tables e below (T195.setTop (mkF m 7 #[.val (.ref b1), .val (.ref t1)] [(.ref t1)])) _
    refine XT.iconstV X195.here hx rfl (0 : Int32) (hb hby d_prog_10_method_10_code_7) rfl ?_
    show Steps p.tables e below (T195.setTop (mkF m 8 #[.val (.ref b1), .val (.ref t1)] [(.int (0 : Int32)), (.ref t1)])) _
    refine XS.aloadN X195.here hx rfl (hb hby d_prog_10_method_10_code_8) rfl rfl ?_
    show Steps p.tables e below (T195.setTop (mkF m 9 #[.val (.ref b1), .val (.ref t1)] [(.ref b1), (.int (0 : Int32)), (.ref t1)])) _
    refine st196 _ ?_
    show Steps p.tables e below (T196.setTop (mkF m 12 #[.val (.ref b1), .val (.ref t1)] [(.ref r1), (.int (0 : Int32)), (.ref t1)])) _
    refine XS.aloadN X196.here hx rfl (hb hby d_prog_10_method_10_code_12) rfl rfl ?_
    show Steps p.tables e below (T196.setTop (mkF m 13 #[.val (.ref b1), .val (.ref t1)] [(.ref b1), (.ref r1), (.int (0 : Int32)), (.ref t1)])) _
    refine st197 _ ?_
    show Steps p.tables e below (T197.setTop (mkF m 16 #[.val (.ref b1), .val (.ref t1)] [(.int (Int32.ofNat xs.length)), (.ref r1), (.int (0 : Int32)), (.ref t1)])) _
    refine XS.aloadN X197.here hx rfl (hb hby d_prog_10_method_10_code_16) rfl rfl ?_
    show Steps p.tables e below (T197.setTop (mkF m 17 #[.val (.ref b1), .val (.ref t1)] [(.ref t1), (.int (Int32.ofNat xs.length)), (.ref r1), (.int (0 : Int32)), (.ref t1)])) _
    refine X197.arraylength hx (by rw [e197]; exact Ar198.1) (State.isArrayOf_alike hZ.alike Ar198.2.1) (g := (mkF m 17 #[.val (.ref b1), .val (.ref t1)] [(.ref t1), (.int (Int32.ofNat xs.length)), (.ref r1), (.int (0 : Int32)), (.ref t1)])) rfl rfl (hb hby d_prog_10_method_10_code_17) _ ?_
    rw [len_of Sz198 Nz198]
    show Steps p.tables e below (T197.setTop (mkF m 18 #[.val (.ref b1), .val (.ref t1)] [(.int (Int32.ofNat ys.length)), (.int (Int32.ofNat xs.length)), (.ref r1), (.int (0 : Int32)), (.ref t1)])) _
    refine st199 _ ?_
    show Steps p.tables e below (T199.setTop (mkF m 21 #[.val (.ref b1), .val (.ref t1)] [])) _
    refine XS.aloadN X199.here hx rfl (hb hby d_prog_10_method_10_code_21) rfl rfl ?_
    show Steps p.tables e below (T199.setTop (mkF m 22 #[.val (.ref b1), .val (.ref t1)] [(.ref b1)])) _
    refine XS.dup X199.here hx rfl (hb hby d_prog_10_method_10_code_22) rfl rfl ?_
    show Steps p.tables e below (T199.setTop (mkF m 23 #[.val (.ref b1), .val (.ref t1)] [(.ref b1), (.ref b1)])) _
    refine st204 _ ?_
    show Steps p.tables e below (T204.setTop (mkF m 26 #[.val (.ref b1), .val (.ref t1)] [(.int (Int32.ofNat xs.length)), (.ref b1)])) _
    refine XS.aloadN X204.here hx rfl (hb hby d_prog_10_method_10_code_26) rfl rfl ?_
    show Steps p.tables e below (T204.setTop (mkF m 27 #[.val (.ref b1), .val (.ref t1)] [(.ref t1), (.int (Int32.ofNat xs.length)), (.ref b1)])) _
    refine X204.arraylength hx (by rw [e204]; exact Ar205.1) (State.isArrayOf_alike hZ.alike Ar205.2.1) (g := (mkF m 27 #[.val (.ref b1), .val (.ref t1)] [(.ref t1), (.int (Int32.ofNat xs.length)), (.ref b1)])) rfl rfl (hb hby d_prog_10_method_10_code_27) _ ?_
    rw [len_of Sz205 Nz205]
    show Steps p.tables e below (T204.setTop (mkF m 28 #[.val (.ref b1), .val (.ref t1)] [(.int (Int32.ofNat ys.length)), (.int (Int32.ofNat xs.length)), (.ref b1)])) _
    refine XS.iadd X204.here hx rfl (hb hby d_prog_10_method_10_code_28) rfl ?_
    show Steps p.tables e below (T204.setTop (mkF m 29 #[.val (.ref b1), .val (.ref t1)] [(.int ((Int32.ofNat xs.length) + (Int32.ofNat ys.length))), (.ref b1)])) _
    refine st206 _ ?_
    show Steps p.tables e below (T206.setTop (mkF m 32 #[.val (.ref b1), .val (.ref t1)] [])) _
    exact X206.returnOut hx Bd.returns (hb hby d_prog_10_method_10_code_32) hr
  · show own_QK Z none b1 r1 k1 (xs ++ ys) h0 n0 _ T206.heap _
    rw [e206]
    refine ⟨rfl, N206, K206, E_207, Fbytes_208, ?_, V199_210⟩
    rw [List.length_append, Int32.ofNat_add]
    exact Flength_211
theorem d_prog_10_method_5_code_0 : decode prog_10_method_5_code 0 = .ok (.aload_n 0, 1) := by decide +kernel
theorem d_prog_10_method_5_code_1 : decode prog_10_method_5_code 1 = .ok (.aload_n 1, 1) := by decide +kernel
theorem d_prog_10_method_5_code_2 : decode prog_10_method_5_code 2 = .ok (.getstatic 13, 3) := by decide +kernel
theorem pd__Ljava_nio_charset_Charset__ArB : parseMethodDescriptor "(Ljava/nio/charset/Charset;)[B" = some ⟨[(.object "java/nio/charset/Charset")], (some (.array .byte))⟩ := by decide +kernel
theorem d_prog_10_method_5_code_5 : decode prog_10_method_5_code 5 = .ok (.invokevirtual 19, 3) := by decide +kernel
theorem pd__ArB_V : parseMethodDescriptor "([B)V" = some ⟨[(.array .byte)], none⟩ := by decide +kernel
theorem d_prog_10_method_5_code_8 : decode prog_10_method_5_code 8 = .ok (.invokevirtual 29, 3) := by decide +kernel
theorem d_prog_10_method_5_code_11 : decode prog_10_method_5_code 11 = .ok (.aload_n 0, 1) := by decide +kernel
theorem d_prog_10_method_5_code_12 : decode prog_10_method_5_code 12 = .ok (.areturn, 1) := by decide +kernel
theorem ef_prog_10_method_5_code_AA (m : MethodId) (x0 : Addr) (x1 : Addr) : entryFrame m #[(.ref x0), (.ref x1)] 2 = mkF m 0 #[.val (.ref x0), .val (.ref x1)] [] := by first | (simp [entryFrame, mkF, argsToLocals, Value.category]; done) | rfl
set_option maxRecDepth 65536 in
set_option maxHeartbeats 40000000 in
theorem own_last_p (l : Launch) (Z : State) (a0 : Array Value) (hw : ∀ d ∈ tables_1, d.before a0 Z = true) (ws : List Jvm.Cond) (b1 r1 : Addr) (k1 : ClassId) (xs : List Int32) (wu t1 u1 : Addr) (k2 : ClassId) (i7 yy : Int32) (h0 : Heap) (n0 : Nat) (Z0 : n0 ≤ h0.size) (P : own_KB Z h0 b1 r1 k1 xs) (S8 : Sta Z h0 "java/lang/String" "COMPACT_STRINGS" "Z" (.int i7)) (c9 : ¬ (i7 = (0 : Int32))) (PS : own_St Z h0 t1 u1 k2 (1 : Int32) [yy]) (hy : ¬ yy < 0) (SI : Sta Z h0 "sun/nio/cs/UTF_8" "INSTANCE" "Lsun/nio/cs/UTF_8;" (.ref wu)) (SU : Sta Z h0 "java/nio/charset/StandardCharsets" "UTF_8" "Ljava/nio/charset/Charset;" (.ref wu)) (n_b1_t1 : b1 ≠ t1) (n_b1_u1 : b1 ≠ u1) (n_r1_t1 : r1 ≠ t1) (n_r1_u1 : r1 ≠ u1) (hl : xs.length ≤ 8) (gb : n0 ≤ b1) (gr : n0 ≤ r1) :
    MetFree l (⟨"com/example/chitragupta/chitragupta/ledger/KeyBuilder", "last", "(Ljava/lang/String;)Lcom/example/chitragupta/chitragupta/ledger/KeyBuilder;"⟩ : MethodName) (head1 (Jvm.Cond.code (⟨"com/example/chitragupta/chitragupta/ledger/KeyBuilder", "last", "(Ljava/lang/String;)Lcom/example/chitragupta/chitragupta/ledger/KeyBuilder;"⟩ : MethodName) prog_10_method_5_code 2 (some (.object "com/example/chitragupta/chitragupta/ledger/KeyBuilder")) :: ws) ({ frames := 5, cells := 1, slots := 1, locals := 78 } : Room)) (fun a U => a = #[(.ref b1), (.ref t1)] ∧ Z.Warmed39 U.vm ∧ U.heap = h0) (fun _ _ _ _ _ => True) (fun _ U o U' => ∃ v L, o = .returned v ∧ own_QK Z (some (.ref b1)) b1 r1 k1 (xs ++ [yy]) h0 n0 v U'.heap L ∧ FrameEnd U o U' L ({ frames := 5, cells := 1, slots := 1, locals := 78 } : Room).cells ({ frames := 5, cells := 1, slots := 1, locals := 78 } : Room).slots) := by
  refine MetFree.of_bodySF (plainFor_of_name pn_com_example_chitragupta_chitragupta_ledger_KeyBuilder) hisR ?_
  intro p e s m args below meth c s₁ Bd hml0 hP hK
  obtain ⟨rfl, hZ, hh⟩ := hP
  have hx := Bd.exec
  have hby := Bd.bytes
  have hml : c.maxLocals = 2 := hml0
  have hown : s.vm.findClass "com/example/chitragupta/chitragupta/ledger/KeyBuilder" = some m.cls := findClass_of_methodNamed Bd.named
  have hnm := (name_of_methodNamed Bd.named Bd.method).1
  have X0 : Stand p l e ({ frames := 5, cells := 1, slots := 1, locals := 78 } : Room) s m #[(.ref b1), (.ref t1)] below meth c s₁ [] 0 0 := Stand.of_body Bd
  have e0 : s₁.heap = h0 := by rw [← hh, Bd.state]; rfl
  have N0 := Fr.nil n0
  have pre0 : ∀ t, Steps p.tables e below (s₁.setTop (mkF m 0 #[.val (.ref b1), .val (.ref t1)] [])) t → Steps p.tables e below (s₁.setTop (entryFrame m #[(.ref b1), (.ref t1)] 2)) t := fun t k => castTop (ef_prog_10_method_5_code_AA m b1 t1) k
  obtain ⟨E_212, Fbytes_213, Flength_214, V_215⟩ := id P
  have ne_b1_r1 : b1 ≠ r1 := E_212.neArv V_215 (hw _ (List.mem_of_getElem? (i := 1) rfl))
  obtain ⟨E_216, Fvalue_217, Fcoder_218, E_219, V_220⟩ := id PS
  obtain ⟨T221, X221, e221, st221⟩ := getS2 X0 hx hZ hown (host := "") (Or.inl (hw _ (List.mem_of_getElem? (i := 80) rfl))) Via.refl e0 SU (g := (mkF m 2 #[.val (.ref b1), .val (.ref t1)] [(.ref t1), (.ref b1)])) rfl (hb hby d_prog_10_method_5_code_2)
  obtain ⟨cq222, kq222, q222a, q222b, q222c⟩ := isOf hZ e221 E_216
  obtain ⟨_, _, ⟨T222, L222, k222, n222⟩, -, X222, ⟨Lc222, hQ222, l222, y222, z222⟩, st222⟩ := X221.virtualBack hx (y := (⟨"java/lang/String", "getBytes", "(Ljava/nio/charset/Charset;)[B"⟩ : MethodName)) (z := (⟨"java/lang/String", "getBytes", "(Ljava/nio/charset/Charset;)[B"⟩ : MethodName)) hown (mvT hZ (hw _ (List.mem_of_getElem? (i := 82) rfl))) (mvT hZ (hw _ (List.mem_of_getElem? (i := 83) rfl))) (notFace_of_selects (args := #[]) (mvT hZ (hw _ (List.mem_of_getElem? (i := 85) rfl)))) (mvT hZ (hw _ (List.mem_of_getElem? (i := 85) rfl))) (mvT hZ (hw _ (List.mem_of_getElem? (i := 84) rfl))) (by decide) (backOf (W := 1) (own_getB_p l Z a0 hw [] wu i7 t1 u1 k2 yy h0 n0 Z0 S8 c9 PS hy SI) hZ (hw _ (List.mem_of_getElem? (i := 86) rfl)) (hw _ (List.mem_of_getElem? (i := 54) rfl)) (by decide) (by decide)) q222a q222c (g := (mkF m 5 #[.val (.ref b1), .val (.ref t1)] [(.ref wu), (.ref t1), (.ref b1)])) rfl (by rw [hml]; rfl) (Steps.refl _) (argsL := [(.ref wu)]) (rest := [(.ref b1)]) (lenOf pd__Ljava_nio_charset_Charset__ArB rfl) rfl (by show 2 * 0 + _ ≤ _; exact Nat.le_of_eq rfl) (hb hby d_prog_10_method_5_code_5) (fun _ _ => ⟨rfl, e221, (by decide : 0 + 1 ≤ _), (by decide : 0 + 1 ≤ _)⟩)
  dsimp only [Pt.U, Pt.locs, Pt.cells, Pt.slots] at X222 l222 y222 z222 st222 hQ222
  subst l222 y222 z222
  obtain ⟨t222, kt222, rfl, N222q, EE222, qq222, AE222t, V222t⟩ := hQ222
  have N222 := Fr.app N0 N222q
  have q_t222 : h0.size ≤ t222 := qq222
  have ne_b1_t222 : b1 ≠ t222 := Nat.ne_of_lt (Nat.lt_of_lt_of_le E_212.lt qq222)
  have ne_r1_t222 : r1 ≠ t222 := Nat.ne_of_lt (Nat.lt_of_lt_of_le V_215.lt qq222)
  have ne_t1_t222 : t1 ≠ t222 := Nat.ne_of_lt (Nat.lt_of_lt_of_le E_216.lt qq222)
  have ne_u1_t222 : u1 ≠ t222 := Nat.ne_of_lt (Nat.lt_of_lt_of_le E_219.lt qq222)
  have E_223 := E_212.ext EE222
  have Fbytes_224 := Fbytes_213.ext EE222
  have Flength_225 := Flength_214.ext EE222
  have V_226 := V_215.ext EE222
  have E_227 := E_216.ext EE222
  have Fvalue_228 := Fvalue_217.ext EE222
  have Fcoder_229 := Fcoder_218.ext EE222
  have E_230 := E_219.ext EE222
  have V_231 := V_220.ext EE222
  have K222 : Keep h0 T222.heap [b1, r1] := (Keep.refl _ _).ext EE222
  have Z222 : n0 ≤ T222.heap.size := Nat.le_trans Z0 K222.1
  obtain ⟨cq232, qa232, qb232⟩ := E_223.cell
  obtain ⟨_, _, ⟨T232, L232, k232, n232⟩, -, X232, ⟨Lc232, hQ232, l232, y232, z232⟩, st232⟩ := X222.privateBack hx (y := (⟨"com/example/chitragupta/chitragupta/ledger/KeyBuilder", "append", "([B)V"⟩ : MethodName)) hown (mvT hZ (hw _ (List.mem_of_getElem? (i := 115) rfl))) (mvT hZ (hw _ (List.mem_of_getElem? (i := 116) rfl))) (own_selP (mvT hZ (hw _ (List.mem_of_getElem? (i := 15) rfl))) rfl (Cond.privateMethod_at (mvP hZ (hw _ (List.mem_of_getElem? (i := 117) rfl)) (args := #[]))) (mvT hZ (hw _ (List.mem_of_getElem? (i := 116) rfl))) (by decide)) (Cond.privateMethod_at (mvP hZ (hw _ (List.mem_of_getElem? (i := 117) rfl)) (args := #[]))) (mvT hZ (hw _ (List.mem_of_getElem? (i := 118) rfl))) (by decide) (backOf (W := 0) (own_appB l Z a0 hw [] b1 r1 k1 xs t222 kt222 [yy] T222.heap n0 Z222 ⟨E_223, Fbytes_224, Flength_225, V_226⟩ V222t (Ne.symm ne_r1_t222) (by show xs.length + 1 ≤ 64; omega) (by show 1 < 64; decide) gb gr) hZ (hw _ (List.mem_of_getElem? (i := 118) rfl)) (hw _ (List.mem_of_getElem? (i := 2) rfl)) (by decide) (by decide)) (g := (mkF m 8 #[.val (.ref b1), .val (.ref t1)] [(.ref t222), (.ref b1)])) rfl (by rw [hml]; rfl) (Steps.refl _) (a := b1) (by exact qa232) qb232 (argsL := [(.ref t222)]) (rest := []) (lenOf pd__ArB_V rfl) rfl (by show 2 * 0 + _ ≤ _; exact Nat.le_of_eq rfl) (hb hby d_prog_10_method_5_code_8) (fun _ _ => ⟨rfl, rfl, (by decide : 1 + 0 ≤ _), (by decide : 1 + 0 ≤ _)⟩)
  dsimp only [Pt.U, Pt.locs, Pt.cells, Pt.slots] at X232 l232 y232 z232 st232 hQ232
  subst l232 y232 z232
  obtain ⟨rfl, N232q, K232q, B232q⟩ := hQ232
  have N232 := Fr.app N222 N232q
  have E_233 := E_223.keep K232q
  have E_234 := E_227.keep K232q
  have Fvalue_235 := Fvalue_228.keep K232q (ninS (Ne.symm n_b1_t1) (ninS (Ne.symm n_r1_t1) nin0))
  have Fcoder_236 := Fcoder_229.keep K232q (ninS (Ne.symm n_b1_t1) (ninS (Ne.symm n_r1_t1) nin0))
  have E_237 := E_230.keep K232q
  have V_238 := V_231.keep K232q (ninS (Ne.symm n_b1_u1) (ninS (Ne.symm n_r1_u1) nin0))
  have AE222t_239 := AE222t.keep K232q
  have V222t_240 := V222t.keep K232q (ninS (Ne.symm ne_b1_t222) (ninS (Ne.symm ne_r1_t222) nin0))
  have K232 : Keep h0 T232.heap [b1, r1] := K222.trans K232q (allS (Or.inl (List.mem_of_getElem? (i := 0) rfl)) (allS (Or.inl (List.mem_of_getElem? (i := 1) rfl)) all0))
  have Z232 : n0 ≤ T232.heap.size := Nat.le_trans Z0 K232.1
  obtain ⟨E_241, Fbytes_242, Flength_243, V_244⟩ := id B232q
  obtain ⟨fs, hr, hrun, hended, hW, hsame⟩ := X232.leave (v := some (.ref b1)) (fun h => by rw [Bd.returns] at h; cases h)
  refine ⟨_, _, pre0 _ ?_, hrun, hended, _, _, rfl, ?_, ⟨_, rfl⟩, hW, hsame.mono (by decide) (by decide)⟩
  · show Steps p.tables e below (s₁.setTop (mkF m 0 #[.val (.ref b1), .val (.ref t1)] [])) _
    refine XS.aloadN X0.here hx rfl (hb hby d_prog_10_method_5_code_0) rfl rfl ?_
    show Steps p.tables e below (s₁.setTop (mkF m 1 #[.val (.ref b1), .val (.ref t1)] [(.ref b1)])) _
    refine XS.aloadN X0.here hx rfl (hb hby d_prog_10_method_5_code_1) rfl rfl ?_
    show Steps p.tables e below (s₁.setTop (mkF m 2 #[.val (.ref b1), .val (.ref t1)] [(.ref t1), (.ref b1)])) _
    refine st221 _ ?_
    show Steps p.tables e below (T221.setTop (mkF m 5 #[.val (.ref b1), .val (.ref t1)] [(.ref wu), (.ref t1), (.ref b1)])) _
    refine st222.trans ?_
    show Steps p.tables e below (T222.setTop (mkF m 8 #[.val (.ref b1), .val (.ref t1)] [(.ref t222), (.ref b1)])) _
    refine st232.trans ?_
    show Steps p.tables e below (T232.setTop (mkF m 11 #[.val (.ref b1), .val (.ref t1)] [])) _
    refine XS.aloadN X232.here hx rfl (hb hby d_prog_10_method_5_code_11) rfl rfl ?_
    show Steps p.tables e below (T232.setTop (mkF m 12 #[.val (.ref b1), .val (.ref t1)] [(.ref b1)])) _
    jvm_step X232.here [X232.here.top, hx, (hb hby d_prog_10_method_5_code_12), X232.method', Bd.returns, Value.isRef, FieldType.isReference]
    first | (intro acts; rw [hr _ acts rfl rfl rfl]) | rw [hr _ _ rfl rfl rfl]
    exact Steps.refl _
  · show own_QK Z (some (.ref b1)) b1 r1 k1 (xs ++ [yy]) h0 n0 _ T232.heap _
    exact ⟨rfl, N232, K232, ⟨E_241, Fbytes_242, Flength_243, V_244⟩⟩
set_option maxRecDepth 65536 in
set_option maxHeartbeats 40000000 in
theorem own_last_n (l : Launch) (Z : State) (a0 : Array Value) (hw : ∀ d ∈ tables_1, d.before a0 Z = true) (ws : List Jvm.Cond) (b1 r1 : Addr) (k1 : ClassId) (xs : List Int32) (wu t1 u1 : Addr) (k2 : ClassId) (i7 yy : Int32) (h0 : Heap) (n0 : Nat) (Z0 : n0 ≤ h0.size) (P : own_KB Z h0 b1 r1 k1 xs) (S8 : Sta Z h0 "java/lang/String" "COMPACT_STRINGS" "Z" (.int i7)) (c9 : ¬ (i7 = (0 : Int32))) (PS : own_St Z h0 t1 u1 k2 (1 : Int32) [yy]) (hy : yy < 0) (SI : Sta Z h0 "sun/nio/cs/UTF_8" "INSTANCE" "Lsun/nio/cs/UTF_8;" (.ref wu)) (SU : Sta Z h0 "java/nio/charset/StandardCharsets" "UTF_8" "Ljava/nio/charset/Charset;" (.ref wu)) (n_b1_t1 : b1 ≠ t1) (n_b1_u1 : b1 ≠ u1) (n_r1_t1 : r1 ≠ t1) (n_r1_u1 : r1 ≠ u1) (hl : xs.length ≤ 8) (gb : n0 ≤ b1) (gr : n0 ≤ r1) :
    MetFree l (⟨"com/example/chitragupta/chitragupta/ledger/KeyBuilder", "last", "(Ljava/lang/String;)Lcom/example/chitragupta/chitragupta/ledger/KeyBuilder;"⟩ : MethodName) (head1 (Jvm.Cond.code (⟨"com/example/chitragupta/chitragupta/ledger/KeyBuilder", "last", "(Ljava/lang/String;)Lcom/example/chitragupta/chitragupta/ledger/KeyBuilder;"⟩ : MethodName) prog_10_method_5_code 2 (some (.object "com/example/chitragupta/chitragupta/ledger/KeyBuilder")) :: ws) ({ frames := 5, cells := 1, slots := 2, locals := 78 } : Room)) (fun a U => a = #[(.ref b1), (.ref t1)] ∧ Z.Warmed39 U.vm ∧ U.heap = h0) (fun _ _ _ _ _ => True) (fun _ U o U' => ∃ v L, o = .returned v ∧ own_QK Z (some (.ref b1)) b1 r1 k1 (xs ++ [(nar .byte ((192 : Int32) ||| ((yy &&& (255 : Int32)) >>> ((6 : Int32) &&& 31))).toInt8.toInt32), (nar .byte ((128 : Int32) ||| (yy &&& (63 : Int32))).toInt8.toInt32)]) h0 n0 v U'.heap L ∧ FrameEnd U o U' L ({ frames := 5, cells := 1, slots := 2, locals := 78 } : Room).cells ({ frames := 5, cells := 1, slots := 2, locals := 78 } : Room).slots) := by
  refine MetFree.of_bodySF (plainFor_of_name pn_com_example_chitragupta_chitragupta_ledger_KeyBuilder) hisR ?_
  intro p e s m args below meth c s₁ Bd hml0 hP hK
  obtain ⟨rfl, hZ, hh⟩ := hP
  have hx := Bd.exec
  have hby := Bd.bytes
  have hml : c.maxLocals = 2 := hml0
  have hown : s.vm.findClass "com/example/chitragupta/chitragupta/ledger/KeyBuilder" = some m.cls := findClass_of_methodNamed Bd.named
  have hnm := (name_of_methodNamed Bd.named Bd.method).1
  have X0 : Stand p l e ({ frames := 5, cells := 1, slots := 2, locals := 78 } : Room) s m #[(.ref b1), (.ref t1)] below meth c s₁ [] 0 0 := Stand.of_body Bd
  have e0 : s₁.heap = h0 := by rw [← hh, Bd.state]; rfl
  have N0 := Fr.nil n0
  have pre0 : ∀ t, Steps p.tables e below (s₁.setTop (mkF m 0 #[.val (.ref b1), .val (.ref t1)] [])) t → Steps p.tables e below (s₁.setTop (entryFrame m #[(.ref b1), (.ref t1)] 2)) t := fun t k => castTop (ef_prog_10_method_5_code_AA m b1 t1) k
  obtain ⟨E_245, Fbytes_246, Flength_247, V_248⟩ := id P
  have ne_b1_r1 : b1 ≠ r1 := E_245.neArv V_248 (hw _ (List.mem_of_getElem? (i := 1) rfl))
  obtain ⟨E_249, Fvalue_250, Fcoder_251, E_252, V_253⟩ := id PS
  obtain ⟨T254, X254, e254, st254⟩ := getS2 X0 hx hZ hown (host := "") (Or.inl (hw _ (List.mem_of_getElem? (i := 80) rfl))) Via.refl e0 SU (g := (mkF m 2 #[.val (.ref b1), .val (.ref t1)] [(.ref t1), (.ref b1)])) rfl (hb hby d_prog_10_method_5_code_2)
  obtain ⟨cq255, kq255, q255a, q255b, q255c⟩ := isOf hZ e254 E_249
  obtain ⟨_, _, ⟨T255, L255, k255, n255⟩, -, X255, ⟨Lc255, hQ255, l255, y255, z255⟩, st255⟩ := X254.virtualBack hx (y := (⟨"java/lang/String", "getBytes", "(Ljava/nio/charset/Charset;)[B"⟩ : MethodName)) (z := (⟨"java/lang/String", "getBytes", "(Ljava/nio/charset/Charset;)[B"⟩ : MethodName)) hown (mvT hZ (hw _ (List.mem_of_getElem? (i := 82) rfl))) (mvT hZ (hw _ (List.mem_of_getElem? (i := 83) rfl))) (notFace_of_selects (args := #[]) (mvT hZ (hw _ (List.mem_of_getElem? (i := 85) rfl)))) (mvT hZ (hw _ (List.mem_of_getElem? (i := 85) rfl))) (mvT hZ (hw _ (List.mem_of_getElem? (i := 84) rfl))) (by decide) (backOf (W := 1) (own_getB_n l Z a0 hw [] wu i7 t1 u1 k2 yy h0 n0 Z0 S8 c9 PS hy SI) hZ (hw _ (List.mem_of_getElem? (i := 86) rfl)) (hw _ (List.mem_of_getElem? (i := 54) rfl)) (by decide) (by decide)) q255a q255c (g := (mkF m 5 #[.val (.ref b1), .val (.ref t1)] [(.ref wu), (.ref t1), (.ref b1)])) rfl (by rw [hml]; rfl) (Steps.refl _) (argsL := [(.ref wu)]) (rest := [(.ref b1)]) (lenOf pd__Ljava_nio_charset_Charset__ArB rfl) rfl (by show 2 * 0 + _ ≤ _; exact Nat.le_of_eq rfl) (hb hby d_prog_10_method_5_code_5) (fun _ _ => ⟨rfl, e254, (by decide : 0 + 1 ≤ _), (by decide : 0 + 2 ≤ _)⟩)
  dsimp only [Pt.U, Pt.locs, Pt.cells, Pt.slots] at X255 l255 y255 z255 st255 hQ255
  subst l255 y255 z255
  obtain ⟨t255, kt255, rfl, N255q, EE255, qq255, AE255t, V255t⟩ := hQ255
  have N255 := Fr.app N0 N255q
  have q_t255 : h0.size ≤ t255 := qq255
  have ne_b1_t255 : b1 ≠ t255 := Nat.ne_of_lt (Nat.lt_of_lt_of_le E_245.lt qq255)
  have ne_r1_t255 : r1 ≠ t255 := Nat.ne_of_lt (Nat.lt_of_lt_of_le V_248.lt qq255)
  have ne_t1_t255 : t1 ≠ t255 := Nat.ne_of_lt (Nat.lt_of_lt_of_le E_249.lt qq255)
  have ne_u1_t255 : u1 ≠ t255 := Nat.ne_of_lt (Nat.lt_of_lt_of_le E_252.lt qq255)
  have E_256 := E_245.ext EE255
  have Fbytes_257 := Fbytes_246.ext EE255
  have Flength_258 := Flength_247.ext EE255
  have V_259 := V_248.ext EE255
  have E_260 := E_249.ext EE255
  have Fvalue_261 := Fvalue_250.ext EE255
  have Fcoder_262 := Fcoder_251.ext EE255
  have E_263 := E_252.ext EE255
  have V_264 := V_253.ext EE255
  have K255 : Keep h0 T255.heap [b1, r1] := (Keep.refl _ _).ext EE255
  have Z255 : n0 ≤ T255.heap.size := Nat.le_trans Z0 K255.1
  obtain ⟨cq265, qa265, qb265⟩ := E_256.cell
  obtain ⟨_, _, ⟨T265, L265, k265, n265⟩, -, X265, ⟨Lc265, hQ265, l265, y265, z265⟩, st265⟩ := X255.privateBack hx (y := (⟨"com/example/chitragupta/chitragupta/ledger/KeyBuilder", "append", "([B)V"⟩ : MethodName)) hown (mvT hZ (hw _ (List.mem_of_getElem? (i := 115) rfl))) (mvT hZ (hw _ (List.mem_of_getElem? (i := 116) rfl))) (own_selP (mvT hZ (hw _ (List.mem_of_getElem? (i := 15) rfl))) rfl (Cond.privateMethod_at (mvP hZ (hw _ (List.mem_of_getElem? (i := 117) rfl)) (args := #[]))) (mvT hZ (hw _ (List.mem_of_getElem? (i := 116) rfl))) (by decide)) (Cond.privateMethod_at (mvP hZ (hw _ (List.mem_of_getElem? (i := 117) rfl)) (args := #[]))) (mvT hZ (hw _ (List.mem_of_getElem? (i := 118) rfl))) (by decide) (backOf (W := 0) (own_appB l Z a0 hw [] b1 r1 k1 xs t255 kt255 [(nar .byte ((192 : Int32) ||| ((yy &&& (255 : Int32)) >>> ((6 : Int32) &&& 31))).toInt8.toInt32), (nar .byte ((128 : Int32) ||| (yy &&& (63 : Int32))).toInt8.toInt32)] T255.heap n0 Z255 ⟨E_256, Fbytes_257, Flength_258, V_259⟩ V255t (Ne.symm ne_r1_t255) (by show xs.length + 2 ≤ 64; omega) (by show 2 < 64; decide) gb gr) hZ (hw _ (List.mem_of_getElem? (i := 118) rfl)) (hw _ (List.mem_of_getElem? (i := 2) rfl)) (by decide) (by decide)) (g := (mkF m 8 #[.val (.ref b1), .val (.ref t1)] [(.ref t255), (.ref b1)])) rfl (by rw [hml]; rfl) (Steps.refl _) (a := b1) (by exact qa265) qb265 (argsL := [(.ref t255)]) (rest := []) (lenOf pd__ArB_V rfl) rfl (by show 2 * 0 + _ ≤ _; exact Nat.le_of_eq rfl) (hb hby d_prog_10_method_5_code_8) (fun _ _ => ⟨rfl, rfl, (by decide : 1 + 0 ≤ _), (by decide : 2 + 0 ≤ _)⟩)
  dsimp only [Pt.U, Pt.locs, Pt.cells, Pt.slots] at X265 l265 y265 z265 st265 hQ265
  subst l265 y265 z265
  obtain ⟨rfl, N265q, K265q, B265q⟩ := hQ265
  have N265 := Fr.app N255 N265q
  have E_266 := E_256.keep K265q
  have E_267 := E_260.keep K265q
  have Fvalue_268 := Fvalue_261.keep K265q (ninS (Ne.symm n_b1_t1) (ninS (Ne.symm n_r1_t1) nin0))
  have Fcoder_269 := Fcoder_262.keep K265q (ninS (Ne.symm n_b1_t1) (ninS (Ne.symm n_r1_t1) nin0))
  have E_270 := E_263.keep K265q
  have V_271 := V_264.keep K265q (ninS (Ne.symm n_b1_u1) (ninS (Ne.symm n_r1_u1) nin0))
  have AE255t_272 := AE255t.keep K265q
  have V255t_273 := V255t.keep K265q (ninS (Ne.symm ne_b1_t255) (ninS (Ne.symm ne_r1_t255) nin0))
  have K265 : Keep h0 T265.heap [b1, r1] := K255.trans K265q (allS (Or.inl (List.mem_of_getElem? (i := 0) rfl)) (allS (Or.inl (List.mem_of_getElem? (i := 1) rfl)) all0))
  have Z265 : n0 ≤ T265.heap.size := Nat.le_trans Z0 K265.1
  obtain ⟨E_274, Fbytes_275, Flength_276, V_277⟩ := id B265q
  obtain ⟨fs, hr, hrun, hended, hW, hsame⟩ := X265.leave (v := some (.ref b1)) (fun h => by rw [Bd.returns] at h; cases h)
  refine ⟨_, _, pre0 _ ?_, hrun, hended, _, _, rfl, ?_, ⟨_, rfl⟩, hW, hsame.mono (by decide) (by decide)⟩
  · show Steps p.tables e below (s₁.setTop (mkF m 0 #[.val (.ref b1), .val (.ref t1)] [])) _
    refine XS.aloadN X0.here hx rfl (hb hby d_prog_10_method_5_code_0) rfl rfl ?_
    show Steps p.tables e below (s₁.setTop (mkF m 1 #[.val (.ref b1), .val (.ref t1)] [(.ref b1)])) _
    refine XS.aloadN X0.here hx rfl (hb hby d_prog_10_method_5_code_1) rfl rfl ?_
    show Steps p.tables e below (s₁.setTop (mkF m 2 #[.val (.ref b1), .val (.ref t1)] [(.ref t1), (.ref b1)])) _
    refine st254 _ ?_
    show Steps p.tables e below (T254.setTop (mkF m 5 #[.val (.ref b1), .val (.ref t1)] [(.ref wu), (.ref t1), (.ref b1)])) _
    refine st255.trans ?_
    show Steps p.tables e below (T255.setTop (mkF m 8 #[.val (.ref b1), .val (.ref t1)] [(.ref t255), (.ref b1)])) _
    refine st265.trans ?_
    show Steps p.tables e below (T265.setTop (mkF m 11 #[.val (.ref b1), .val (.ref t1)] [])) _
    refine XS.aloadN X265.here hx rfl (hb hby d_prog_10_method_5_code_11) rfl rfl ?_
    show Steps p.tables e below (T265.setTop (mkF m 12 #[.val (.ref b1), .val (.ref t1)] [(.ref b1)])) _
    jvm_step X265.here [X265.here.top, hx, (hb hby d_prog_10_method_5_code_12), X265.method', Bd.returns, Value.isRef, FieldType.isReference]
    first | (intro acts; rw [hr _ acts rfl rfl rfl]) | rw [hr _ _ rfl rfl rfl]
    exact Steps.refl _
  · show own_QK Z (some (.ref b1)) b1 r1 k1 (xs ++ [(nar .byte ((192 : Int32) ||| ((yy &&& (255 : Int32)) >>> ((6 : Int32) &&& 31))).toInt8.toInt32), (nar .byte ((128 : Int32) ||| (yy &&& (63 : Int32))).toInt8.toInt32)]) h0 n0 _ T265.heap _
    exact ⟨rfl, N265, K265, ⟨E_274, Fbytes_275, Flength_276, V_277⟩⟩
def own_e4 (v : Int32) : List Int32 := [(XT.ushr v (24 : Int32)) &&& (255 : Int32), (XT.ushr v (16 : Int32)) &&& (255 : Int32), (XT.ushr v (8 : Int32)) &&& (255 : Int32), v &&& (255 : Int32)]
theorem d_method_3_code_0 : decode method_3_code 0 = .ok (.aload_n 0, 1) := by decide +kernel
theorem d_method_3_code_1 : decode method_3_code 1 = .ok (.iload_n 1, 1) := by decide +kernel
theorem d_method_3_code_2 : decode method_3_code 2 = .ok (.iload_n 2, 1) := by decide +kernel
theorem d_method_3_code_3 : decode method_3_code 3 = .ok (.bipush 24, 2) := by decide +kernel
theorem d_method_3_code_5 : decode method_3_code 5 = .ok (.iushr, 1) := by decide +kernel
theorem d_method_3_code_6 : decode method_3_code 6 = .ok (.sipush 255, 3) := by decide +kernel
theorem d_method_3_code_9 : decode method_3_code 9 = .ok (.iand, 1) := by decide +kernel
theorem d_method_3_code_10 : decode method_3_code 10 = .ok (.iastore, 1) := by decide +kernel
theorem d_method_3_code_11 : decode method_3_code 11 = .ok (.aload_n 0, 1) := by decide +kernel
theorem d_method_3_code_12 : decode method_3_code 12 = .ok (.iload_n 1, 1) := by decide +kernel
theorem d_method_3_code_13 : decode method_3_code 13 = .ok (.iconst 1, 1) := by decide +kernel
theorem d_method_3_code_14 : decode method_3_code 14 = .ok (.iadd, 1) := by decide +kernel
theorem d_method_3_code_15 : decode method_3_code 15 = .ok (.iload_n 2, 1) := by decide +kernel
theorem d_method_3_code_16 : decode method_3_code 16 = .ok (.bipush 16, 2) := by decide +kernel
theorem d_method_3_code_18 : decode method_3_code 18 = .ok (.iushr, 1) := by decide +kernel
theorem d_method_3_code_19 : decode method_3_code 19 = .ok (.sipush 255, 3) := by decide +kernel
theorem d_method_3_code_22 : decode method_3_code 22 = .ok (.iand, 1) := by decide +kernel
theorem d_method_3_code_23 : decode method_3_code 23 = .ok (.iastore, 1) := by decide +kernel
theorem d_method_3_code_24 : decode method_3_code 24 = .ok (.aload_n 0, 1) := by decide +kernel
theorem d_method_3_code_25 : decode method_3_code 25 = .ok (.iload_n 1, 1) := by decide +kernel
theorem d_method_3_code_26 : decode method_3_code 26 = .ok (.iconst 2, 1) := by decide +kernel
theorem d_method_3_code_27 : decode method_3_code 27 = .ok (.iadd, 1) := by decide +kernel
theorem d_method_3_code_28 : decode method_3_code 28 = .ok (.iload_n 2, 1) := by decide +kernel
theorem d_method_3_code_29 : decode method_3_code 29 = .ok (.bipush 8, 2) := by decide +kernel
theorem d_method_3_code_31 : decode method_3_code 31 = .ok (.iushr, 1) := by decide +kernel
theorem d_method_3_code_32 : decode method_3_code 32 = .ok (.sipush 255, 3) := by decide +kernel
theorem d_method_3_code_35 : decode method_3_code 35 = .ok (.iand, 1) := by decide +kernel
theorem d_method_3_code_36 : decode method_3_code 36 = .ok (.iastore, 1) := by decide +kernel
theorem d_method_3_code_37 : decode method_3_code 37 = .ok (.aload_n 0, 1) := by decide +kernel
theorem d_method_3_code_38 : decode method_3_code 38 = .ok (.iload_n 1, 1) := by decide +kernel
theorem d_method_3_code_39 : decode method_3_code 39 = .ok (.iconst 3, 1) := by decide +kernel
theorem d_method_3_code_40 : decode method_3_code 40 = .ok (.iadd, 1) := by decide +kernel
theorem d_method_3_code_41 : decode method_3_code 41 = .ok (.iload_n 2, 1) := by decide +kernel
theorem d_method_3_code_42 : decode method_3_code 42 = .ok (.sipush 255, 3) := by decide +kernel
theorem d_method_3_code_45 : decode method_3_code 45 = .ok (.iand, 1) := by decide +kernel
theorem d_method_3_code_46 : decode method_3_code 46 = .ok (.iastore, 1) := by decide +kernel
theorem d_method_3_code_47 : decode method_3_code 47 = .ok (.iload_n 1, 1) := by decide +kernel
theorem d_method_3_code_48 : decode method_3_code 48 = .ok (.iconst 4, 1) := by decide +kernel
theorem d_method_3_code_49 : decode method_3_code 49 = .ok (.iadd, 1) := by decide +kernel
theorem d_method_3_code_50 : decode method_3_code 50 = .ok (.ireturn, 1) := by decide +kernel
theorem ef_method_3_code_AII (m : MethodId) (x0 : Addr) (x1 : Int32) (x2 : Int32) : entryFrame m #[(.ref x0), (.int x1), (.int x2)] 3 = mkF m 0 #[.val (.ref x0), .val (.int x1), .val (.int x2)] [] := by first | (simp [entryFrame, mkF, argsToLocals, Value.category]; done) | rfl
theorem pn_com_example_chitragupta_chitragupta_ledger_KeyBuilderBuildPinLaw : plainName "com/example/chitragupta/chitragupta/ledger/KeyBuilderBuildPinLaw" = true := by first | (simp [plainName, overriddenIn]; done) | decide +kernel
set_option maxRecDepth 65536 in
set_option maxHeartbeats 40000000 in
theorem own_put4 (l : Launch) (Z : State) (a0 : Array Value) (hw : ∀ d ∈ tables_1, d.before a0 Z = true) (ws : List Jvm.Cond) (e1 : Addr) (k1 : ClassId) (es : List Int32) (nn vv : Int32) (h0 : Heap) (n0 : Nat) (Z0 : n0 ≤ h0.size) (V1 : Arv Z h0 e1 k1 .int (10 : Int32) (es.map Value.int) (.int 0)) (hnn : nn = Int32.ofNat es.length) (hl : es.length ≤ 6) (ge1 : n0 ≤ e1) :
    MetFree l (⟨"com/example/chitragupta/chitragupta/ledger/KeyBuilderBuildPinLaw", "put4", "([III)I"⟩ : MethodName) (head1 (Jvm.Cond.code (⟨"com/example/chitragupta/chitragupta/ledger/KeyBuilderBuildPinLaw", "put4", "([III)I"⟩ : MethodName) method_3_code 3 (some .int) :: ws) ({ frames := 0, cells := 0, slots := 0, locals := 0 } : Room)) (fun a U => a = #[(.ref e1), (.int nn), (.int vv)] ∧ Z.Warmed39 U.vm ∧ U.heap = h0) (fun _ _ _ _ _ => True) (fun _ U o U' => ∃ v L, o = .returned v ∧ own_QE Z (some (.int (nn + (4 : Int32)))) e1 k1 (es ++ own_e4 vv) h0 n0 v U'.heap L ∧ FrameEnd U o U' L ({ frames := 0, cells := 0, slots := 0, locals := 0 } : Room).cells ({ frames := 0, cells := 0, slots := 0, locals := 0 } : Room).slots) := by
  refine MetFree.of_bodySF (plainFor_of_name pn_com_example_chitragupta_chitragupta_ledger_KeyBuilderBuildPinLaw) hisR ?_
  intro p e s m args below meth c s₁ Bd hml0 hP hK
  obtain ⟨rfl, hZ, hh⟩ := hP
  have hx := Bd.exec
  have hby := Bd.bytes
  have hml : c.maxLocals = 3 := hml0
  have hown : s.vm.findClass "com/example/chitragupta/chitragupta/ledger/KeyBuilderBuildPinLaw" = some m.cls := findClass_of_methodNamed Bd.named
  have hnm := (name_of_methodNamed Bd.named Bd.method).1
  have X0 : Stand p l e ({ frames := 0, cells := 0, slots := 0, locals := 0 } : Room) s m #[(.ref e1), (.int nn), (.int vv)] below meth c s₁ [] 0 0 := Stand.of_body Bd
  have e0 : s₁.heap = h0 := by rw [← hh, Bd.state]; rfl
  have N0 := Fr.nil n0
  have pre0 : ∀ t, Steps p.tables e below (s₁.setTop (mkF m 0 #[.val (.ref e1), .val (.int nn), .val (.int vv)] [])) t → Steps p.tables e below (s₁.setTop (entryFrame m #[(.ref e1), (.int nn), (.int vv)] 3)) t := fun t k => castTop (ef_method_3_code_AII m e1 nn vv) k
  obtain ⟨T278, h278, X278, e278, W278, V278, st278⟩ := own_stIx X0 hx hZ e0 V1 (j := nn) (own_lim0 hnn (N := 10) (z := (10 : Int32)) (by decide) (by omega) (by decide)).1 (own_lim0 hnn (N := 10) (z := (10 : Int32)) (by decide) (by omega) (by decide)).2 (g := (mkF m 10 #[.val (.ref e1), .val (.int nn), .val (.int vv)] [(.int ((XT.ushr vv (24 : Int32)) &&& (255 : Int32))), (.int nn), (.ref e1)])) rfl rfl (hb hby d_method_3_code_10)
  have K278 : Keep h0 h278 [e1] := (Keep.refl _ _).wr W278 (Or.inl (List.mem_of_getElem? (i := 0) rfl))
  have Z278 : n0 ≤ h278.size := Nat.le_trans Z0 K278.1
  have N278 := Fr.snoc X278 N0 ge1
  obtain ⟨xs278, hxs278⟩ : ∃ y, y = es ++ [((XT.ushr vv (24 : Int32)) &&& (255 : Int32))] := ⟨_, rfl⟩
  rw [← hxs278] at V278
  have hln278 : xs278.length = es.length + 1 := by rw [hxs278, List.length_append]; rfl
  obtain ⟨T279, h279, X279, e279, W279, V279, st279⟩ := own_stIx X278 hx hZ e278 V278 (j := (nn + (1 : Int32))) (own_lim2 hnn 1 (N := 10) (z := (10 : Int32)) (by decide) (by omega) (by decide)).1 ((own_lim2 hnn 1 (N := 10) (z := (10 : Int32)) (by decide) (by omega) (by decide)).2.trans hln278.symm) (g := (mkF m 23 #[.val (.ref e1), .val (.int nn), .val (.int vv)] [(.int ((XT.ushr vv (16 : Int32)) &&& (255 : Int32))), (.int (nn + (1 : Int32))), (.ref e1)])) rfl rfl (hb hby d_method_3_code_23)
  have K279 : Keep h0 h279 [e1] := K278.wr W279 (Or.inl (List.mem_of_getElem? (i := 0) rfl))
  have Z279 : n0 ≤ h279.size := Nat.le_trans Z0 K279.1
  have N279 := Fr.snoc X279 N278 ge1
  obtain ⟨xs279, hxs279⟩ : ∃ y, y = xs278 ++ [((XT.ushr vv (16 : Int32)) &&& (255 : Int32))] := ⟨_, rfl⟩
  rw [← hxs279] at V279
  have hln279 : xs279.length = es.length + 2 := by rw [hxs279, List.length_append, hln278]; rfl
  obtain ⟨T280, h280, X280, e280, W280, V280, st280⟩ := own_stIx X279 hx hZ e279 V279 (j := (nn + (2 : Int32))) (own_lim2 hnn 2 (N := 10) (z := (10 : Int32)) (by decide) (by omega) (by decide)).1 ((own_lim2 hnn 2 (N := 10) (z := (10 : Int32)) (by decide) (by omega) (by decide)).2.trans hln279.symm) (g := (mkF m 36 #[.val (.ref e1), .val (.int nn), .val (.int vv)] [(.int ((XT.ushr vv (8 : Int32)) &&& (255 : Int32))), (.int (nn + (2 : Int32))), (.ref e1)])) rfl rfl (hb hby d_method_3_code_36)
  have K280 : Keep h0 h280 [e1] := K279.wr W280 (Or.inl (List.mem_of_getElem? (i := 0) rfl))
  have Z280 : n0 ≤ h280.size := Nat.le_trans Z0 K280.1
  have N280 := Fr.snoc X280 N279 ge1
  obtain ⟨xs280, hxs280⟩ : ∃ y, y = xs279 ++ [((XT.ushr vv (8 : Int32)) &&& (255 : Int32))] := ⟨_, rfl⟩
  rw [← hxs280] at V280
  have hln280 : xs280.length = es.length + 3 := by rw [hxs280, List.length_append, hln279]; rfl
  obtain ⟨T281, h281, X281, e281, W281, V281, st281⟩ := own_stIx X280 hx hZ e280 V280 (j := (nn + (3 : Int32))) (own_lim2 hnn 3 (N := 10) (z := (10 : Int32)) (by decide) (by omega) (by decide)).1 ((own_lim2 hnn 3 (N := 10) (z := (10 : Int32)) (by decide) (by omega) (by decide)).2.trans hln280.symm) (g := (mkF m 46 #[.val (.ref e1), .val (.int nn), .val (.int vv)] [(.int (vv &&& (255 : Int32))), (.int (nn + (3 : Int32))), (.ref e1)])) rfl rfl (hb hby d_method_3_code_46)
  have K281 : Keep h0 h281 [e1] := K280.wr W281 (Or.inl (List.mem_of_getElem? (i := 0) rfl))
  have Z281 : n0 ≤ h281.size := Nat.le_trans Z0 K281.1
  have N281 := Fr.snoc X281 N280 ge1
  obtain ⟨xs281, hxs281⟩ : ∃ y, y = xs280 ++ [(vv &&& (255 : Int32))] := ⟨_, rfl⟩
  rw [← hxs281] at V281
  have hln281 : xs281.length = es.length + 4 := by rw [hxs281, List.length_append, hln280]; rfl
  obtain ⟨fs, hr, hrun, hended, hW, hsame⟩ := X281.leave (v := some (.int (nn + (4 : Int32)))) (fun h => by rw [Bd.returns] at h; cases h)
  refine ⟨_, _, pre0 _ ?_, hrun, hended, _, _, rfl, ?_, ⟨_, rfl⟩, hW, hsame.mono (by decide) (by decide)⟩
  · show Steps p.tables e below (s₁.setTop (mkF m 0 #[.val (.ref e1), .val (.int nn), .val (.int vv)] [])) _
    refine XS.aloadN X0.here hx rfl (hb hby d_method_3_code_0) rfl rfl ?_
    show Steps p.tables e below (s₁.setTop (mkF m 1 #[.val (.ref e1), .val (.int nn), .val (.int vv)] [(.ref e1)])) _
    refine XS.iloadN X0.here hx rfl (hb hby d_method_3_code_1) rfl ?_
    show Steps p.tables e below (s₁.setTop (mkF m 2 #[.val (.ref e1), .val (.int nn), .val (.int vv)] [(.int nn), (.ref e1)])) _
    refine XS.iloadN X0.here hx rfl (hb hby d_method_3_code_2) rfl ?_
    show Steps p.tables e below (s₁.setTop (mkF m 3 #[.val (.ref e1), .val (.int nn), .val (.int vv)] [(.int vv), (.int nn), (.ref e1)])) _
    refine XT.bipushV X0.here hx rfl (24 : Int32) (hb hby d_method_3_code_3) (by decide) ?_
    show Steps p.tables e below (s₁.setTop (mkF m 5 #[.val (.ref e1), .val (.int nn), .val (.int vv)] [(.int (24 : Int32)), (.int vv), (.int nn), (.ref e1)])) _
    refine XT.iushr X0.here hx rfl (hb hby d_method_3_code_5) rfl ?_
    show Steps p.tables e below (s₁.setTop (mkF m 6 #[.val (.ref e1), .val (.int nn), .val (.int vv)] [(.int (XT.ushr vv (24 : Int32))), (.int nn), (.ref e1)])) _
    refine XT.sipushV X0.here hx rfl (255 : Int32) (hb hby d_method_3_code_6) (by decide) ?_
    show Steps p.tables e below (s₁.setTop (mkF m 9 #[.val (.ref e1), .val (.int nn), .val (.int vv)] [(.int (255 : Int32)), (.int (XT.ushr vv (24 : Int32))), (.int nn), (.ref e1)])) _
    refine XS.iand X0.here hx rfl (hb hby d_method_3_code_9) rfl ?_
    show Steps p.tables e below (s₁.setTop (mkF m 10 #[.val (.ref e1), .val (.int nn), .val (.int vv)] [(.int ((XT.ushr vv (24 : Int32)) &&& (255 : Int32))), (.int nn), (.ref e1)])) _
    refine st278 _ ?_
    show Steps p.tables e below (T278.setTop (mkF m 11 #[.val (.ref e1), .val (.int nn), .val (.int vv)] [])) _
    refine XS.aloadN X278.here hx rfl (hb hby d_method_3_code_11) rfl rfl ?_
    show Steps p.tables e below (T278.setTop (mkF m 12 #[.val (.ref e1), .val (.int nn), .val (.int vv)] [(.ref e1)])) _
    refine XS.iloadN X278.here hx rfl (hb hby d_method_3_code_12) rfl ?_
    show Steps p.tables e below (T278.setTop (mkF m 13 #[.val (.ref e1), .val (.int nn), .val (.int vv)] [(.int nn), (.ref e1)])) _
    refine XT.iconstV X278.here hx rfl (1 : Int32) (hb hby d_method_3_code_13) rfl ?_
    show Steps p.tables e below (T278.setTop (mkF m 14 #[.val (.ref e1), .val (.int nn), .val (.int vv)] [(.int (1 : Int32)), (.int nn), (.ref e1)])) _
    refine XS.iadd X278.here hx rfl (hb hby d_method_3_code_14) rfl ?_
    show Steps p.tables e below (T278.setTop (mkF m 15 #[.val (.ref e1), .val (.int nn), .val (.int vv)] [(.int (nn + (1 : Int32))), (.ref e1)])) _
    refine XS.iloadN X278.here hx rfl (hb hby d_method_3_code_15) rfl ?_
    show Steps p.tables e below (T278.setTop (mkF m 16 #[.val (.ref e1), .val (.int nn), .val (.int vv)] [(.int vv), (.int (nn + (1 : Int32))), (.ref e1)])) _
    refine XT.bipushV X278.here hx rfl (16 : Int32) (hb hby d_method_3_code_16) (by decide) ?_
    show Steps p.tables e below (T278.setTop (mkF m 18 #[.val (.ref e1), .val (.int nn), .val (.int vv)] [(.int (16 : Int32)), (.int vv), (.int (nn + (1 : Int32))), (.ref e1)])) _
    refine XT.iushr X278.here hx rfl (hb hby d_method_3_code_18) rfl ?_
    show Steps p.tables e below (T278.setTop (mkF m 19 #[.val (.ref e1), .val (.int nn), .val (.int vv)] [(.int (XT.ushr vv (16 : Int32))), (.int (nn + (1 : Int32))), (.ref e1)])) _
    refine XT.sipushV X278.here hx rfl (255 : Int32) (hb hby d_method_3_code_19) (by decide) ?_
    show Steps p.tables e below (T278.setTop (mkF m 22 #[.val (.ref e1), .val (.int nn), .val (.int vv)] [(.int (255 : Int32)), (.int (XT.ushr vv (16 : Int32))), (.int (nn + (1 : Int32))), (.ref e1)])) _
    refine XS.iand X278.here hx rfl (hb hby d_method_3_code_22) rfl ?_
    show Steps p.tables e below (T278.setTop (mkF m 23 #[.val (.ref e1), .val (.int nn), .val (.int vv)] [(.int ((XT.ushr vv (16 : Int32)) &&& (255 : Int32))), (.int (nn + (1 : Int32))), (.ref e1)])) _
    refine st279 _ ?_
    show Steps p.tables e below (T279.setTop (mkF m 24 #[.val (.ref e1), .val (.int nn), .val (.int vv)] [])) _
    refine XS.aloadN X279.here hx rfl (hb hby d_method_3_code_24) rfl rfl ?_
    show Steps p.tables e below (T279.setTop (mkF m 25 #[.val (.ref e1), .val (.int nn), .val (.int vv)] [(.ref e1)])) _
    refine XS.iloadN X279.here hx rfl (hb hby d_method_3_code_25) rfl ?_
    show Steps p.tables e below (T279.setTop (mkF m 26 #[.val (.ref e1), .val (.int nn), .val (.int vv)] [(.int nn), (.ref e1)])) _
    refine XT.iconstV X279.here hx rfl (2 : Int32) (hb hby d_method_3_code_26) rfl ?_
    show Steps p.tables e below (T279.setTop (mkF m 27 #[.val (.ref e1), .val (.int nn), .val (.int vv)] [(.int (2 : Int32)), (.int nn), (.ref e1)])) _
    refine XS.iadd X279.here hx rfl (hb hby d_method_3_code_27) rfl ?_
    show Steps p.tables e below (T279.setTop (mkF m 28 #[.val (.ref e1), .val (.int nn), .val (.int vv)] [(.int (nn + (2 : Int32))), (.ref e1)])) _
    refine XS.iloadN X279.here hx rfl (hb hby d_method_3_code_28) rfl ?_
    show Steps p.tables e below (T279.setTop (mkF m 29 #[.val (.ref e1), .val (.int nn), .val (.int vv)] [(.int vv), (.int (nn + (2 : Int32))), (.ref e1)])) _
    refine XT.bipushV X279.here hx rfl (8 : Int32) (hb hby d_method_3_code_29) (by decide) ?_
    show Steps p.tables e below (T279.setTop (mkF m 31 #[.val (.ref e1), .val (.int nn), .val (.int vv)] [(.int (8 : Int32)), (.int vv), (.int (nn + (2 : Int32))), (.ref e1)])) _
    refine XT.iushr X279.here hx rfl (hb hby d_method_3_code_31) rfl ?_
    show Steps p.tables e below (T279.setTop (mkF m 32 #[.val (.ref e1), .val (.int nn), .val (.int vv)] [(.int (XT.ushr vv (8 : Int32))), (.int (nn + (2 : Int32))), (.ref e1)])) _
    refine XT.sipushV X279.here hx rfl (255 : Int32) (hb hby d_method_3_code_32) (by decide) ?_
    show Steps p.tables e below (T279.setTop (mkF m 35 #[.val (.ref e1), .val (.int nn), .val (.int vv)] [(.int (255 : Int32)), (.int (XT.ushr vv (8 : Int32))), (.int (nn + (2 : Int32))), (.ref e1)])) _
    refine XS.iand X279.here hx rfl (hb hby d_method_3_code_35) rfl ?_
    show Steps p.tables e below (T279.setTop (mkF m 36 #[.val (.ref e1), .val (.int nn), .val (.int vv)] [(.int ((XT.ushr vv (8 : Int32)) &&& (255 : Int32))), (.int (nn + (2 : Int32))), (.ref e1)])) _
    refine st280 _ ?_
    show Steps p.tables e below (T280.setTop (mkF m 37 #[.val (.ref e1), .val (.int nn), .val (.int vv)] [])) _
    refine XS.aloadN X280.here hx rfl (hb hby d_method_3_code_37) rfl rfl ?_
    show Steps p.tables e below (T280.setTop (mkF m 38 #[.val (.ref e1), .val (.int nn), .val (.int vv)] [(.ref e1)])) _
    refine XS.iloadN X280.here hx rfl (hb hby d_method_3_code_38) rfl ?_
    show Steps p.tables e below (T280.setTop (mkF m 39 #[.val (.ref e1), .val (.int nn), .val (.int vv)] [(.int nn), (.ref e1)])) _
    refine XT.iconstV X280.here hx rfl (3 : Int32) (hb hby d_method_3_code_39) rfl ?_
    show Steps p.tables e below (T280.setTop (mkF m 40 #[.val (.ref e1), .val (.int nn), .val (.int vv)] [(.int (3 : Int32)), (.int nn), (.ref e1)])) _
    refine XS.iadd X280.here hx rfl (hb hby d_method_3_code_40) rfl ?_
    show Steps p.tables e below (T280.setTop (mkF m 41 #[.val (.ref e1), .val (.int nn), .val (.int vv)] [(.int (nn + (3 : Int32))), (.ref e1)])) _
    refine XS.iloadN X280.here hx rfl (hb hby d_method_3_code_41) rfl ?_
    show Steps p.tables e below (T280.setTop (mkF m 42 #[.val (.ref e1), .val (.int nn), .val (.int vv)] [(.int vv), (.int (nn + (3 : Int32))), (.ref e1)])) _
    refine XT.sipushV X280.here hx rfl (255 : Int32) (hb hby d_method_3_code_42) (by decide) ?_
    show Steps p.tables e below (T280.setTop (mkF m 45 #[.val (.ref e1), .val (.int nn), .val (.int vv)] [(.int (255 : Int32)), (.int vv), (.int (nn + (3 : Int32))), (.ref e1)])) _
    refine XS.iand X280.here hx rfl (hb hby d_method_3_code_45) rfl ?_
    show Steps p.tables e below (T280.setTop (mkF m 46 #[.val (.ref e1), .val (.int nn), .val (.int vv)] [(.int (vv &&& (255 : Int32))), (.int (nn + (3 : Int32))), (.ref e1)])) _
    refine st281 _ ?_
    show Steps p.tables e below (T281.setTop (mkF m 47 #[.val (.ref e1), .val (.int nn), .val (.int vv)] [])) _
    refine XS.iloadN X281.here hx rfl (hb hby d_method_3_code_47) rfl ?_
    show Steps p.tables e below (T281.setTop (mkF m 48 #[.val (.ref e1), .val (.int nn), .val (.int vv)] [(.int nn)])) _
    refine XT.iconstV X281.here hx rfl (4 : Int32) (hb hby d_method_3_code_48) rfl ?_
    show Steps p.tables e below (T281.setTop (mkF m 49 #[.val (.ref e1), .val (.int nn), .val (.int vv)] [(.int (4 : Int32)), (.int nn)])) _
    refine XS.iadd X281.here hx rfl (hb hby d_method_3_code_49) rfl ?_
    show Steps p.tables e below (T281.setTop (mkF m 50 #[.val (.ref e1), .val (.int nn), .val (.int vv)] [(.int (nn + (4 : Int32)))])) _
    exact retI X281 hx Bd.returns (hb hby d_method_3_code_50) hr
  · show own_QE Z (some (.int (nn + (4 : Int32)))) e1 k1 (es ++ own_e4 vv) h0 n0 _ T281.heap _
    have hq : es ++ own_e4 vv = xs281 := by rw [hxs281, hxs280, hxs279, hxs278]; simp [own_e4]
    rw [hq, e281]
    exact ⟨rfl, N281, K281, V281⟩
theorem d_method_4_code_0 : decode method_4_code 0 = .ok (.iload 4, 2) := by decide +kernel
theorem d_method_4_code_2 : decode method_4_code 2 = .ok (.iload_n 3, 1) := by decide +kernel
theorem d_method_4_code_3 : decode method_4_code 3 = .ok (.if_icmp .lt 5, 3) := by decide +kernel
theorem d_method_4_code_6 : decode method_4_code 6 = .ok (.iconst 1, 1) := by decide +kernel
theorem d_method_4_code_7 : decode method_4_code 7 = .ok (.ireturn, 1) := by decide +kernel
theorem ef_method_4_code_AAAII (m : MethodId) (x0 : Addr) (x1 : Addr) (x2 : Addr) (x3 : Int32) (x4 : Int32) : entryFrame m #[(.ref x0), (.ref x1), (.ref x2), (.int x3), (.int x4)] 5 = mkF m 0 #[.val (.ref x0), .val (.ref x1), .val (.ref x2), .val (.int x3), .val (.int x4)] [] := by first | (simp [entryFrame, mkF, argsToLocals, Value.category]; done) | rfl
set_option maxRecDepth 65536 in
set_option maxHeartbeats 40000000 in
theorem own_same_y (l : Launch) (Z : State) (a0 : Array Value) (hw : ∀ d ∈ tables_1, d.before a0 Z = true) (ws : List Jvm.Cond) (r1 r2 e1 : Addr) (k1 k2 k3 : ClassId) (xs es : List Int32) (nn ii : Int32) (h0 : Heap) (n0 : Nat) (Z0 : n0 ≤ h0.size) (V1 : Arv Z h0 r1 k1 .byte nn (xs.map Value.int) (.int 0)) (V2 : Arv Z h0 r2 k2 .byte nn (xs.map Value.int) (.int 0)) (V3 : Arv Z h0 e1 k3 .int (10 : Int32) (es.map Value.int) (.int 0)) (hxe : xs = es.map own_i2b) (hn10 : nn ≤ (10 : Int32)) (hi0 : ¬ ii < 0) (hin : ¬ ii < nn) :
    MetFree l (⟨"com/example/chitragupta/chitragupta/ledger/KeyBuilderBuildPinLaw", "same", "([B[B[III)Z"⟩ : MethodName) (head1 (Jvm.Cond.code (⟨"com/example/chitragupta/chitragupta/ledger/KeyBuilderBuildPinLaw", "same", "([B[B[III)Z"⟩ : MethodName) method_4_code 5 (some .boolean) :: ws) ({ frames := 0, cells := 0, slots := 0, locals := 0 } : Room)) (fun a U => a = #[(.ref r1), (.ref r2), (.ref e1), (.int nn), (.int ii)] ∧ Z.Warmed39 U.vm ∧ U.heap = h0) (fun _ _ _ _ _ => True) (fun _ U o U' => ∃ v L, o = .returned v ∧ own_Q (some (.int (1 : Int32))) h0 n0 v U'.heap L ∧ FrameEnd U o U' L ({ frames := 0, cells := 0, slots := 0, locals := 0 } : Room).cells ({ frames := 0, cells := 0, slots := 0, locals := 0 } : Room).slots) := by
  refine MetFree.of_bodySF (plainFor_of_name pn_com_example_chitragupta_chitragupta_ledger_KeyBuilderBuildPinLaw) hisR ?_
  intro p e s m args below meth c s₁ Bd hml0 hP hK
  obtain ⟨rfl, hZ, hh⟩ := hP
  have hx := Bd.exec
  have hby := Bd.bytes
  have hml : c.maxLocals = 5 := hml0
  have hown : s.vm.findClass "com/example/chitragupta/chitragupta/ledger/KeyBuilderBuildPinLaw" = some m.cls := findClass_of_methodNamed Bd.named
  have hnm := (name_of_methodNamed Bd.named Bd.method).1
  have X0 : Stand p l e ({ frames := 0, cells := 0, slots := 0, locals := 0 } : Room) s m #[(.ref r1), (.ref r2), (.ref e1), (.int nn), (.int ii)] below meth c s₁ [] 0 0 := Stand.of_body Bd
  have e0 : s₁.heap = h0 := by rw [← hh, Bd.state]; rfl
  have N0 := Fr.nil n0
  have pre0 : ∀ t, Steps p.tables e below (s₁.setTop (mkF m 0 #[.val (.ref r1), .val (.ref r2), .val (.ref e1), .val (.int nn), .val (.int ii)] [])) t → Steps p.tables e below (s₁.setTop (entryFrame m #[(.ref r1), (.ref r2), (.ref e1), (.int nn), (.int ii)] 5)) t := fun t k => castTop (ef_method_4_code_AAAII m r1 r2 e1 nn ii) k
  have hq : ∀ i : Nat, xs.getD i 0 = (es.getD i 0).toInt8.toInt32 := fun i => by rw [hxe]; exact own_getmap es i
  obtain ⟨fs, hr, hrun, hended, hW, hsame⟩ := X0.leave (v := some (.int (1 : Int32))) (fun h => by rw [Bd.returns] at h; cases h)
  refine ⟨_, _, pre0 _ ?_, hrun, hended, _, _, rfl, ?_, ⟨_, rfl⟩, hW, hsame.mono (by decide) (by decide)⟩
  · show Steps p.tables e below (s₁.setTop (mkF m 0 #[.val (.ref r1), .val (.ref r2), .val (.ref e1), .val (.int nn), .val (.int ii)] [])) _
    refine XS.iload X0.here hx rfl (hb hby d_method_4_code_0) rfl ?_
    show Steps p.tables e below (s₁.setTop (mkF m 2 #[.val (.ref r1), .val (.ref r2), .val (.ref e1), .val (.int nn), .val (.int ii)] [(.int ii)])) _
    refine XS.iloadN X0.here hx rfl (hb hby d_method_4_code_2) rfl ?_
    show Steps p.tables e below (s₁.setTop (mkF m 3 #[.val (.ref r1), .val (.ref r2), .val (.ref e1), .val (.int nn), .val (.int ii)] [(.int nn), (.int ii)])) _
    refine XS.icmpNo X0.here hx rfl (hb hby d_method_4_code_3) rfl (XT.ii_lt_f hin) ?_
    show Steps p.tables e below (s₁.setTop (mkF m 6 #[.val (.ref r1), .val (.ref r2), .val (.ref e1), .val (.int nn), .val (.int ii)] [])) _
    refine XT.iconstV X0.here hx rfl (1 : Int32) (hb hby d_method_4_code_6) rfl ?_
    show Steps p.tables e below (s₁.setTop (mkF m 7 #[.val (.ref r1), .val (.ref r2), .val (.ref e1), .val (.int nn), .val (.int ii)] [(.int (1 : Int32))])) _
    exact retN X0 hx (t := .boolean) Bd.returns (by simp) (hb hby d_method_4_code_7) hr
  · show own_Q (some (.int (1 : Int32))) h0 n0 _ s₁.heap _
    rw [e0]
    exact ⟨rfl, N0, rfl⟩
theorem d_method_4_code_8 : decode method_4_code 8 = .ok (.aload_n 0, 1) := by decide +kernel
theorem d_method_4_code_9 : decode method_4_code 9 = .ok (.iload 4, 2) := by decide +kernel
theorem d_method_4_code_11 : decode method_4_code 11 = .ok (.baload, 1) := by decide +kernel
theorem d_method_4_code_12 : decode method_4_code 12 = .ok (.aload_n 2, 1) := by decide +kernel
theorem d_method_4_code_13 : decode method_4_code 13 = .ok (.iload 4, 2) := by decide +kernel
theorem d_method_4_code_15 : decode method_4_code 15 = .ok (.iaload, 1) := by decide +kernel
theorem d_method_4_code_16 : decode method_4_code 16 = .ok (.i2b, 1) := by decide +kernel
theorem d_method_4_code_17 : decode method_4_code 17 = .ok (.if_icmp .ne 19, 3) := by decide +kernel
theorem d_method_4_code_20 : decode method_4_code 20 = .ok (.aload_n 1, 1) := by decide +kernel
theorem d_method_4_code_21 : decode method_4_code 21 = .ok (.iload 4, 2) := by decide +kernel
theorem d_method_4_code_23 : decode method_4_code 23 = .ok (.baload, 1) := by decide +kernel
theorem d_method_4_code_24 : decode method_4_code 24 = .ok (.aload_n 2, 1) := by decide +kernel
theorem d_method_4_code_25 : decode method_4_code 25 = .ok (.iload 4, 2) := by decide +kernel
theorem d_method_4_code_27 : decode method_4_code 27 = .ok (.iaload, 1) := by decide +kernel
theorem d_method_4_code_28 : decode method_4_code 28 = .ok (.i2b, 1) := by decide +kernel
theorem d_method_4_code_29 : decode method_4_code 29 = .ok (.if_icmp .ne 7, 3) := by decide +kernel
theorem d_method_4_code_32 : decode method_4_code 32 = .ok (.iconst 1, 1) := by decide +kernel
theorem d_method_4_code_33 : decode method_4_code 33 = .ok (.goto 4, 3) := by decide +kernel
theorem d_method_4_code_37 : decode method_4_code 37 = .ok (.ireturn, 1) := by decide +kernel
set_option maxRecDepth 65536 in
set_option maxHeartbeats 40000000 in
theorem own_same_n (l : Launch) (Z : State) (a0 : Array Value) (hw : ∀ d ∈ tables_1, d.before a0 Z = true) (ws : List Jvm.Cond) (r1 r2 e1 : Addr) (k1 k2 k3 : ClassId) (xs es : List Int32) (nn ii : Int32) (h0 : Heap) (n0 : Nat) (Z0 : n0 ≤ h0.size) (V1 : Arv Z h0 r1 k1 .byte nn (xs.map Value.int) (.int 0)) (V2 : Arv Z h0 r2 k2 .byte nn (xs.map Value.int) (.int 0)) (V3 : Arv Z h0 e1 k3 .int (10 : Int32) (es.map Value.int) (.int 0)) (hxe : xs = es.map own_i2b) (hn10 : nn ≤ (10 : Int32)) (hi0 : ¬ ii < 0) (hin : ii < nn) :
    MetFree l (⟨"com/example/chitragupta/chitragupta/ledger/KeyBuilderBuildPinLaw", "same", "([B[B[III)Z"⟩ : MethodName) (head1 (Jvm.Cond.code (⟨"com/example/chitragupta/chitragupta/ledger/KeyBuilderBuildPinLaw", "same", "([B[B[III)Z"⟩ : MethodName) method_4_code 5 (some .boolean) :: ws) ({ frames := 0, cells := 0, slots := 0, locals := 0 } : Room)) (fun a U => a = #[(.ref r1), (.ref r2), (.ref e1), (.int nn), (.int ii)] ∧ Z.Warmed39 U.vm ∧ U.heap = h0) (fun _ _ _ _ _ => True) (fun _ U o U' => ∃ v L, o = .returned v ∧ own_Q (some (.int (1 : Int32))) h0 n0 v U'.heap L ∧ FrameEnd U o U' L ({ frames := 0, cells := 0, slots := 0, locals := 0 } : Room).cells ({ frames := 0, cells := 0, slots := 0, locals := 0 } : Room).slots) := by
  refine MetFree.of_bodySF (plainFor_of_name pn_com_example_chitragupta_chitragupta_ledger_KeyBuilderBuildPinLaw) hisR ?_
  intro p e s m args below meth c s₁ Bd hml0 hP hK
  obtain ⟨rfl, hZ, hh⟩ := hP
  have hx := Bd.exec
  have hby := Bd.bytes
  have hml : c.maxLocals = 5 := hml0
  have hown : s.vm.findClass "com/example/chitragupta/chitragupta/ledger/KeyBuilderBuildPinLaw" = some m.cls := findClass_of_methodNamed Bd.named
  have hnm := (name_of_methodNamed Bd.named Bd.method).1
  have X0 : Stand p l e ({ frames := 0, cells := 0, slots := 0, locals := 0 } : Room) s m #[(.ref r1), (.ref r2), (.ref e1), (.int nn), (.int ii)] below meth c s₁ [] 0 0 := Stand.of_body Bd
  have e0 : s₁.heap = h0 := by rw [← hh, Bd.state]; rfl
  have N0 := Fr.nil n0
  have pre0 : ∀ t, Steps p.tables e below (s₁.setTop (mkF m 0 #[.val (.ref r1), .val (.ref r2), .val (.ref e1), .val (.int nn), .val (.int ii)] [])) t → Steps p.tables e below (s₁.setTop (entryFrame m #[(.ref r1), (.ref r2), (.ref e1), (.int nn), (.int ii)] 5)) t := fun t k => castTop (ef_method_4_code_AAAII m r1 r2 e1 nn ii) k
  have hq : ∀ i : Nat, xs.getD i 0 = (es.getD i 0).toInt8.toInt32 := fun i => by rw [hxe]; exact own_getmap es i
  obtain ⟨cl282, Ar282, Q282, H282⟩ := own_atL V1 (j := ii) ⟨hi0, hin⟩
  obtain ⟨cl283, Ar283, Q283, H283⟩ := own_atL V3 (j := ii) ⟨hi0, Int32.lt_of_lt_of_le hin hn10⟩
  obtain ⟨cl284, Ar284, Q284, H284⟩ := own_atL V2 (j := ii) ⟨hi0, hin⟩
  obtain ⟨cl285, Ar285, Q285, H285⟩ := own_atL V3 (j := ii) ⟨hi0, Int32.lt_of_lt_of_le hin hn10⟩
  obtain ⟨fs, hr, hrun, hended, hW, hsame⟩ := X0.leave (v := some (.int (1 : Int32))) (fun h => by rw [Bd.returns] at h; cases h)
  refine ⟨_, _, pre0 _ ?_, hrun, hended, _, _, rfl, ?_, ⟨_, rfl⟩, hW, hsame.mono (by decide) (by decide)⟩
  · show Steps p.tables e below (s₁.setTop (mkF m 0 #[.val (.ref r1), .val (.ref r2), .val (.ref e1), .val (.int nn), .val (.int ii)] [])) _
    refine XS.iload X0.here hx rfl (hb hby d_method_4_code_0) rfl ?_
    show Steps p.tables e below (s₁.setTop (mkF m 2 #[.val (.ref r1), .val (.ref r2), .val (.ref e1), .val (.int nn), .val (.int ii)] [(.int ii)])) _
    refine XS.iloadN X0.here hx rfl (hb hby d_method_4_code_2) rfl ?_
    show Steps p.tables e below (s₁.setTop (mkF m 3 #[.val (.ref r1), .val (.ref r2), .val (.ref e1), .val (.int nn), .val (.int ii)] [(.int nn), (.int ii)])) _
    refine XS.icmpYes X0.here hx rfl (pc0 := 3) (pc' := 8) rfl (hb hby d_method_4_code_3) rfl (XT.ii_lt_t hin) (by decide) (by decide) ?_
    show Steps p.tables e below (s₁.setTop (mkF m 8 #[.val (.ref r1), .val (.ref r2), .val (.ref e1), .val (.int nn), .val (.int ii)] [])) _
    refine XS.aloadN X0.here hx rfl (hb hby d_method_4_code_8) rfl rfl ?_
    show Steps p.tables e below (s₁.setTop (mkF m 9 #[.val (.ref r1), .val (.ref r2), .val (.ref e1), .val (.int nn), .val (.int ii)] [(.ref r1)])) _
    refine XS.iload X0.here hx rfl (hb hby d_method_4_code_9) rfl ?_
    show Steps p.tables e below (s₁.setTop (mkF m 11 #[.val (.ref r1), .val (.ref r2), .val (.ref e1), .val (.int nn), .val (.int ii)] [(.int ii), (.ref r1)])) _
    refine X0.baloadBytes hx (j := ii) (v := (.int (xs.getD ii.toNatClampNeg 0))) (by rw [e0]; exact Ar282.1) (State.isArrayOf_alike hZ.alike Ar282.2.1) Ar282.2.2 Q282 H282 (g := (mkF m 11 #[.val (.ref r1), .val (.ref r2), .val (.ref e1), .val (.int nn), .val (.int ii)] [(.int ii), (.ref r1)])) rfl rfl (hb hby d_method_4_code_11) _ ?_
    show Steps p.tables e below (s₁.setTop (mkF m 12 #[.val (.ref r1), .val (.ref r2), .val (.ref e1), .val (.int nn), .val (.int ii)] [(.int (xs.getD ii.toNatClampNeg 0))])) _
    refine XS.aloadN X0.here hx rfl (hb hby d_method_4_code_12) rfl rfl ?_
    show Steps p.tables e below (s₁.setTop (mkF m 13 #[.val (.ref r1), .val (.ref r2), .val (.ref e1), .val (.int nn), .val (.int ii)] [(.ref e1), (.int (xs.getD ii.toNatClampNeg 0))])) _
    refine XS.iload X0.here hx rfl (hb hby d_method_4_code_13) rfl ?_
    show Steps p.tables e below (s₁.setTop (mkF m 15 #[.val (.ref r1), .val (.ref r2), .val (.ref e1), .val (.int nn), .val (.int ii)] [(.int ii), (.ref e1), (.int (xs.getD ii.toNatClampNeg 0))])) _
    refine X0.iaload hx (j := ii) (v := (.int (es.getD ii.toNatClampNeg 0))) (by rw [e0]; exact Ar283.1) (State.isArrayOf_alike hZ.alike Ar283.2.1) Ar283.2.2 Q283 H283 (g := (mkF m 15 #[.val (.ref r1), .val (.ref r2), .val (.ref e1), .val (.int nn), .val (.int ii)] [(.int ii), (.ref e1), (.int (xs.getD ii.toNatClampNeg 0))])) rfl rfl (hb hby d_method_4_code_15) _ ?_
    show Steps p.tables e below (s₁.setTop (mkF m 16 #[.val (.ref r1), .val (.ref r2), .val (.ref e1), .val (.int nn), .val (.int ii)] [(.int (es.getD ii.toNatClampNeg 0)), (.int (xs.getD ii.toNatClampNeg 0))])) _
    refine XT.i2b X0.here hx rfl (hb hby d_method_4_code_16) rfl ?_
    show Steps p.tables e below (s₁.setTop (mkF m 17 #[.val (.ref r1), .val (.ref r2), .val (.ref e1), .val (.int nn), .val (.int ii)] [(.int (es.getD ii.toNatClampNeg 0).toInt8.toInt32), (.int (xs.getD ii.toNatClampNeg 0))])) _
    refine XS.icmpNo X0.here hx rfl (hb hby d_method_4_code_17) rfl (XT.ii_ne_f (hq _)) ?_
    show Steps p.tables e below (s₁.setTop (mkF m 20 #[.val (.ref r1), .val (.ref r2), .val (.ref e1), .val (.int nn), .val (.int ii)] [])) _
    refine XS.aloadN X0.here hx rfl (hb hby d_method_4_code_20) rfl rfl ?_
    show Steps p.tables e below (s₁.setTop (mkF m 21 #[.val (.ref r1), .val (.ref r2), .val (.ref e1), .val (.int nn), .val (.int ii)] [(.ref r2)])) _
    refine XS.iload X0.here hx rfl (hb hby d_method_4_code_21) rfl ?_
    show Steps p.tables e below (s₁.setTop (mkF m 23 #[.val (.ref r1), .val (.ref r2), .val (.ref e1), .val (.int nn), .val (.int ii)] [(.int ii), (.ref r2)])) _
    refine X0.baloadBytes hx (j := ii) (v := (.int (xs.getD ii.toNatClampNeg 0))) (by rw [e0]; exact Ar284.1) (State.isArrayOf_alike hZ.alike Ar284.2.1) Ar284.2.2 Q284 H284 (g := (mkF m 23 #[.val (.ref r1), .val (.ref r2), .val (.ref e1), .val (.int nn), .val (.int ii)] [(.int ii), (.ref r2)])) rfl rfl (hb hby d_method_4_code_23) _ ?_
    show Steps p.tables e below (s₁.setTop (mkF m 24 #[.val (.ref r1), .val (.ref r2), .val (.ref e1), .val (.int nn), .val (.int ii)] [(.int (xs.getD ii.toNatClampNeg 0))])) _
    refine XS.aloadN X0.here hx rfl (hb hby d_method_4_code_24) rfl rfl ?_
    show Steps p.tables e below (s₁.setTop (mkF m 25 #[.val (.ref r1), .val (.ref r2), .val (.ref e1), .val (.int nn), .val (.int ii)] [(.ref e1), (.int (xs.getD ii.toNatClampNeg 0))])) _
    refine XS.iload X0.here hx rfl (hb hby d_method_4_code_25) rfl ?_
    show Steps p.tables e below (s₁.setTop (mkF m 27 #[.val (.ref r1), .val (.ref r2), .val (.ref e1), .val (.int nn), .val (.int ii)] [(.int ii), (.ref e1), (.int (xs.getD ii.toNatClampNeg 0))])) _
    refine X0.iaload hx (j := ii) (v := (.int (es.getD ii.toNatClampNeg 0))) (by rw [e0]; exact Ar285.1) (State.isArrayOf_alike hZ.alike Ar285.2.1) Ar285.2.2 Q285 H285 (g := (mkF m 27 #[.val (.ref r1), .val (.ref r2), .val (.ref e1), .val (.int nn), .val (.int ii)] [(.int ii), (.ref e1), (.int (xs.getD ii.toNatClampNeg 0))])) rfl rfl (hb hby d_method_4_code_27) _ ?_
    show Steps p.tables e below (s₁.setTop (mkF m 28 #[.val (.ref r1), .val (.ref r2), .val (.ref e1), .val (.int nn), .val (.int ii)] [(.int (es.getD ii.toNatClampNeg 0)), (.int (xs.getD ii.toNatClampNeg 0))])) _
    refine XT.i2b X0.here hx rfl (hb hby d_method_4_code_28) rfl ?_
    show Steps p.tables e below (s₁.setTop (mkF m 29 #[.val (.ref r1), .val (.ref r2), .val (.ref e1), .val (.int nn), .val (.int ii)] [(.int (es.getD ii.toNatClampNeg 0).toInt8.toInt32), (.int (xs.getD ii.toNatClampNeg 0))])) _
    refine XS.icmpNo X0.here hx rfl (hb hby d_method_4_code_29) rfl (XT.ii_ne_f (hq _)) ?_
    show Steps p.tables e below (s₁.setTop (mkF m 32 #[.val (.ref r1), .val (.ref r2), .val (.ref e1), .val (.int nn), .val (.int ii)] [])) _
    refine XT.iconstV X0.here hx rfl (1 : Int32) (hb hby d_method_4_code_32) rfl ?_
    show Steps p.tables e below (s₁.setTop (mkF m 33 #[.val (.ref r1), .val (.ref r2), .val (.ref e1), .val (.int nn), .val (.int ii)] [(.int (1 : Int32))])) _
    refine XS.goto X0.here hx rfl (pc0 := 33) (pc' := 37) rfl (hb hby d_method_4_code_33) (by decide) (by decide) ?_
    show Steps p.tables e below (s₁.setTop (mkF m 37 #[.val (.ref r1), .val (.ref r2), .val (.ref e1), .val (.int nn), .val (.int ii)] [(.int (1 : Int32))])) _
    exact retN X0 hx (t := .boolean) Bd.returns (by simp) (hb hby d_method_4_code_37) hr
  · show own_Q (some (.int (1 : Int32))) h0 n0 _ s₁.heap _
    rw [e0]
    exact ⟨rfl, N0, rfl⟩
theorem own_same (l : Launch) (Z : State) (a0 : Array Value) (hw : ∀ d ∈ tables_1, d.before a0 Z = true) (ws : List Jvm.Cond) (r1 r2 e1 : Addr) (k1 k2 k3 : ClassId) (xs es : List Int32) (nn ii : Int32) (h0 : Heap) (n0 : Nat) (Z0 : n0 ≤ h0.size) (V1 : Arv Z h0 r1 k1 .byte nn (xs.map Value.int) (.int 0)) (V2 : Arv Z h0 r2 k2 .byte nn (xs.map Value.int) (.int 0)) (V3 : Arv Z h0 e1 k3 .int (10 : Int32) (es.map Value.int) (.int 0)) (hxe : xs = es.map own_i2b) (hn10 : nn ≤ (10 : Int32)) (hi0 : ¬ ii < 0) :
    MetFree l (⟨"com/example/chitragupta/chitragupta/ledger/KeyBuilderBuildPinLaw", "same", "([B[B[III)Z"⟩ : MethodName) (head1 (Jvm.Cond.code (⟨"com/example/chitragupta/chitragupta/ledger/KeyBuilderBuildPinLaw", "same", "([B[B[III)Z"⟩ : MethodName) method_4_code 5 (some .boolean) :: ws) ({ frames := 0, cells := 0, slots := 0, locals := 0 } : Room)) (fun a U => a = #[(.ref r1), (.ref r2), (.ref e1), (.int nn), (.int ii)] ∧ Z.Warmed39 U.vm ∧ U.heap = h0) (fun _ _ _ _ _ => True) (fun _ U o U' => ∃ v L, o = .returned v ∧ own_Q (some (.int (1 : Int32))) h0 n0 v U'.heap L ∧ FrameEnd U o U' L ({ frames := 0, cells := 0, slots := 0, locals := 0 } : Room).cells ({ frames := 0, cells := 0, slots := 0, locals := 0 } : Room).slots) := by
  by_cases hin : ii < nn
  · exact own_same_n l Z a0 hw ws r1 r2 e1 k1 k2 k3 xs es nn ii h0 n0 Z0 V1 V2 V3 hxe hn10 hi0 hin
  · exact own_same_y l Z a0 hw ws r1 r2 e1 k1 k2 k3 xs es nn ii h0 n0 Z0 V1 V2 V3 hxe hn10 hi0 hin
theorem own_b4e4 (v : Int32) : own_b4 v.toInt64 = (own_e4 v).map own_i2b := by
  have key : ∀ (x y : Int32), (x.toInt - y.toInt) % 256 = 0 → nar .byte x.toInt8.toInt32 = own_i2b y := by
    intro x y h
    apply Int32.toInt_inj.mp
    show (x.toInt8.toInt32).toInt8.toInt32.toInt = y.toInt8.toInt32.toInt
    have a := c_i2b x
    have b := c_i2b x.toInt8.toInt32
    have c := c_i2b y
    omega
  have wid : v.toInt64.toInt = v.toInt := c_i2l v
  have rv := rng32 v
  have sh : ∀ (q : Int32) (k : Nat), q.toBitVec.toNat % 64 = k → 0 < k → XT.ushrL v.toInt64 q = ((v.toInt64.toUInt64 >>> (q &&& 0x3f).toInt64.toUInt64).toInt64) → ((XT.ushrL v.toInt64 q).toInt32.toInt - (v.toInt % 18446744073709551616) / (2 ^ k : Nat)) % 4294967296 = 0 := by
    intro q k hk h0 he
    have h1 := c_lushr v.toInt64 q k hk h0
    rw [← he, wid] at h1
    have h2 := c_l2i (XT.ushrL v.toInt64 q)
    rw [h1] at h2
    exact h2
  have m24 := c_mask (XT.ushr v (24 : Int32)) (255 : Int32) 8 (by decide) (by decide)
  have m16 := c_mask (XT.ushr v (16 : Int32)) (255 : Int32) 8 (by decide) (by decide)
  have m8 := c_mask (XT.ushr v (8 : Int32)) (255 : Int32) 8 (by decide) (by decide)
  have m0 := c_mask v (255 : Int32) 8 (by decide) (by decide)
  have u24 : (XT.ushr v (24 : Int32)).toInt = (v.toInt % 4294967296) / (2 ^ 24 : Nat) := c_iushr v (24 : Int32) 24 (by decide) (by decide)
  have u16 : (XT.ushr v (16 : Int32)).toInt = (v.toInt % 4294967296) / (2 ^ 16 : Nat) := c_iushr v (16 : Int32) 16 (by decide) (by decide)
  have u8 : (XT.ushr v (8 : Int32)).toInt = (v.toInt % 4294967296) / (2 ^ 8 : Nat) := c_iushr v (8 : Int32) 8 (by decide) (by decide)
  have l24 := sh (24 : Int32) 24 (by decide) (by decide) rfl
  have l16 := sh (16 : Int32) 16 (by decide) (by decide) rfl
  have l8 := sh (8 : Int32) 8 (by decide) (by decide) rfl
  have l0 : (XT.ushrL v.toInt64 (0 : Int32)) = v.toInt64 := by
    apply Int64.toBitVec_inj.mp
    show v.toInt64.toBitVec >>> (0 : Nat) = _
    simp
  have z0 := c_l2i v.toInt64
  rw [wid] at z0
  have p8 : ((2 ^ 8 : Nat) : Int) = 256 := by decide
  have p16 : ((2 ^ 16 : Nat) : Int) = 65536 := by decide
  have p24 : ((2 ^ 24 : Nat) : Int) = 16777216 := by decide
  rw [p8] at m24 m16 m8 m0 u8 l8
  rw [p16] at u16 l16
  rw [p24] at u24 l24
  show [_, _, _, _] = [_, _, _, _]
  rw [key _ ((XT.ushr v (24 : Int32)) &&& (255 : Int32)) (by omega), key _ ((XT.ushr v (16 : Int32)) &&& (255 : Int32)) (by omega), key _ ((XT.ushr v (8 : Int32)) &&& (255 : Int32)) (by omega), l0, key _ (v &&& (255 : Int32)) (by omega)]
theorem own_ch (i : Fin 256) : ((Int32.ofNat i.1 < (128 : Int32) → ¬ nar .byte (Int32.ofNat i.1).toInt8.toInt32 < 0 ∧ nar .byte (Int32.ofNat i.1).toInt8.toInt32 = own_i2b (Int32.ofNat i.1)) ∧ (¬ Int32.ofNat i.1 < (128 : Int32) → nar .byte (Int32.ofNat i.1).toInt8.toInt32 < 0 ∧ nar .byte ((192 : Int32) ||| ((nar .byte (Int32.ofNat i.1).toInt8.toInt32 &&& (255 : Int32)) >>> ((6 : Int32) &&& 31))).toInt8.toInt32 = own_i2b ((192 : Int32) ||| (XT.ushr (Int32.ofNat i.1) (6 : Int32))) ∧ nar .byte ((128 : Int32) ||| (nar .byte (Int32.ofNat i.1).toInt8.toInt32 &&& (63 : Int32))).toInt8.toInt32 = own_i2b ((128 : Int32) ||| (Int32.ofNat i.1 &&& (63 : Int32))))) := by
  revert i
  decide +kernel
theorem own_chx (p : Int32) : ∃ i : Fin 256, p &&& (255 : Int32) = Int32.ofNat i.1 := by
  have h := c_and p (255 : Int32) (by decide)
  have e : (255 : Int32).toInt = 255 := by decide
  rw [e] at h
  refine ⟨⟨(p &&& (255 : Int32)).toInt.toNat, by omega⟩, ?_⟩
  apply Int32.toInt_inj.mp
  have := (own_of32 (n := (p &&& (255 : Int32)).toInt.toNat) (by omega)).2.2
  show _ = (Int32.ofNat (p &&& (255 : Int32)).toInt.toNat).toInt
  rw [this]
  omega
theorem own_255 (p : Int32) : ¬ (255 : Int32) < (p &&& (255 : Int32)) := by
  have h := c_and p (255 : Int32) (by decide)
  rw [Int32.lt_iff_toInt_lt]; omega
theorem own_nk (xs ys : List Int32) (k : Nat) (h : ys.length = k) : Int32.ofNat xs.length + Int32.ofNat k = Int32.ofNat (xs ++ ys).length := by rw [List.length_append, h, Int32.ofNat_add]
theorem own_le10 {n : Nat} (h : n ≤ 10) : Int32.ofNat n ≤ (10 : Int32) := by
  have hn := own_of32 (n := n) (by omega)
  rw [Int32.le_iff_toInt_le, hn.2.2, show (10 : Int32).toInt = 10 from by decide]; omega
theorem own_nz {n : Nat} (h : n ≤ 10) (hz : ¬ Int32.ofNat n = (0 : Int32)) : (¬ (0 : Int32) < 0 ∧ (0 : Int32) < Int32.ofNat n) ∧ (¬ (Int32.ofNat n - (1 : Int32)) < 0 ∧ (Int32.ofNat n - (1 : Int32)) < Int32.ofNat n) ∧ (¬ (0 : Int32) < 0 ∧ (0 : Int32) < (10 : Int32)) ∧ (¬ (Int32.ofNat n - (1 : Int32)) < 0 ∧ (Int32.ofNat n - (1 : Int32)) < (10 : Int32)) := by
  have hn := own_of32 (n := n) (by omega)
  have h1 : n ≠ 0 := fun q => hz (by subst q; rfl)
  have sb := c_isub (Int32.ofNat n) (1 : Int32)
  have sr := rng32 (Int32.ofNat n - (1 : Int32))
  have e0 : (0 : Int32).toInt = 0 := by decide
  have e1 : (1 : Int32).toInt = 1 := by decide
  have e10 : (10 : Int32).toInt = 10 := by decide
  rw [hn.2.2, e1] at sb
  refine ⟨⟨by decide, ?_⟩, ⟨?_, ?_⟩, ⟨by decide, by decide⟩, ⟨?_, ?_⟩⟩
  · rw [Int32.lt_iff_toInt_lt, hn.2.2, e0]; omega
  · rw [Int32.lt_iff_toInt_lt, e0]; omega
  · rw [Int32.lt_iff_toInt_lt, hn.2.2]; omega
  · rw [Int32.lt_iff_toInt_lt, e0]; omega
  · rw [Int32.lt_iff_toInt_lt, e10]; omega
theorem pd___V : parseMethodDescriptor "()V" = some ⟨[], none⟩ := by decide +kernel
theorem pd___ArB : parseMethodDescriptor "()[B" = some ⟨[], (some (.array .byte))⟩ := by decide +kernel
theorem pd__I_Lcom_example_chitragupta_chitragupta_ledger_KeyBuilder_ : parseMethodDescriptor "(I)Lcom/example/chitragupta/chitragupta/ledger/KeyBuilder;" = some ⟨[.int], (some (.object "com/example/chitragupta/chitragupta/ledger/KeyBuilder"))⟩ := by decide +kernel
theorem pd__ArIII_I : parseMethodDescriptor "([III)I" = some ⟨[(.array .int), .int, .int], (some .int)⟩ := by decide +kernel
theorem pd__C_Ljava_lang_String_ : parseMethodDescriptor "(C)Ljava/lang/String;" = some ⟨[.char], (some (.object "java/lang/String"))⟩ := by decide +kernel
theorem pd__Ljava_lang_String__Lcom_example_chitragupta_chitragupta_ledger_KeyBuilder_ : parseMethodDescriptor "(Ljava/lang/String;)Lcom/example/chitragupta/chitragupta/ledger/KeyBuilder;" = some ⟨[(.object "java/lang/String")], (some (.object "com/example/chitragupta/chitragupta/ledger/KeyBuilder"))⟩ := by decide +kernel
theorem pd__ArBArBArIII_Z : parseMethodDescriptor "([B[B[III)Z" = some ⟨[(.array .byte), (.array .byte), (.array .int), .int, .int], (some .boolean)⟩ := by decide +kernel
theorem ef_code_IIII (m : MethodId) (x0 : Int32) (x1 : Int32) (x2 : Int32) (x3 : Int32) : entryFrame m #[(.int x0), (.int x1), (.int x2), (.int x3)] maxLocals = mkF m 0 #[.val (.int x0), .val (.int x1), .val (.int x2), .val (.int x3), .unset, .unset, .unset, .unset, .unset, .unset, .unset, .unset] [] := by first | (simp [entryFrame, mkF, argsToLocals, Value.category, maxLocals]; done) | rfl
set_option maxRecDepth 65536 in
set_option maxHeartbeats 40000000 in
theorem own_law (l : Launch) (Z : State) (a0 : Array Value) (hw : ∀ d ∈ tables_1, d.before a0 Z = true) (ws : List Jvm.Cond) (p1 p2 p3 p4 : Int32) (i7 : Int32) (wu : Addr) (h0 : Heap) (n0 : Nat) (Z0 : n0 ≤ h0.size) (S8 : Sta Z h0 "java/lang/String" "COMPACT_STRINGS" "Z" (.int i7)) (c9 : ¬ (i7 = (0 : Int32))) (SI : Sta Z h0 "sun/nio/cs/UTF_8" "INSTANCE" "Lsun/nio/cs/UTF_8;" (.ref wu)) (SU : Sta Z h0 "java/nio/charset/StandardCharsets" "UTF_8" "Ljava/nio/charset/Charset;" (.ref wu)) :
    MetFree l x (head1 (Jvm.Cond.code x code maxLocals ret :: ws) room_1) (fun a U => a = #[(.int p1), (.int p2), (.int p3), (.int p4)] ∧ Z.Warmed39 U.vm ∧ U.heap = h0) (fun _ _ _ _ _ => True) (fun _ U o U' => ∃ v L, o = .returned v ∧ own_Q0 n0 v U'.heap L ∧ FrameEnd U o U' L room_1.cells room_1.slots) := by
  refine MetFree.of_bodySF (plainFor_of_name pn_com_example_chitragupta_chitragupta_ledger_KeyBuilderBuildPinLaw) hisR ?_
  intro p e s m args below meth c s₁ Bd hml0 hP hK
  obtain ⟨rfl, hZ, hh⟩ := hP
  have hx := Bd.exec
  have hby := Bd.bytes
  have hml : c.maxLocals = 12 := hml0
  have hown : s.vm.findClass "com/example/chitragupta/chitragupta/ledger/KeyBuilderBuildPinLaw" = some m.cls := findClass_of_methodNamed Bd.named
  have hnm := (name_of_methodNamed Bd.named Bd.method).1
  have X0 : Stand p l e room_1 s m #[(.int p1), (.int p2), (.int p3), (.int p4)] below meth c s₁ [] 0 0 := Stand.of_body Bd
  have e0 : s₁.heap = h0 := by rw [← hh, Bd.state]; rfl
  have N0 := Fr.nil n0
  have pre0 : ∀ t, Steps p.tables e below (s₁.setTop (mkF m 0 #[.val (.int p1), .val (.int p2), .val (.int p3), .val (.int p4), .unset, .unset, .unset, .unset, .unset, .unset, .unset, .unset] [])) t → Steps p.tables e below (s₁.setTop (entryFrame m #[(.int p1), (.int p2), (.int p3), (.int p4)] maxLocals)) t := fun t k => castTop (ef_code_IIII m p1 p2 p3 p4) k
  obtain ⟨T286, h286, X286, e286, E286, A286, D286, -, st286⟩ := newO X0 hx hZ hown (hw _ (List.mem_of_getElem? (i := 0) rfl)) (hw _ (List.mem_of_getElem? (i := 1) rfl)) (hw _ (List.mem_of_getElem? (i := 2) rfl)) e0 (g := (mkF m 0 #[.val (.int p1), .val (.int p2), .val (.int p3), .val (.int p4), .unset, .unset, .unset, .unset, .unset, .unset, .unset, .unset] [])) rfl (hb hby at_0) (by decide) (by decide)
  obtain ⟨b286, g286⟩ : ∃ z, z = h0.size := ⟨_, rfl⟩
  rw [← g286] at A286 D286 st286
  have q286 : h0.size ≤ b286 := by rw [g286]; exact Nat.le_refl _
  have EX286 : Ext h0 h286 := E286
  have Z286 : n0 ≤ h286.size := Nat.le_trans Z0 EX286.1
  have Fbytes_287 : Fld Z h286 b286 "com/example/chitragupta/chitragupta/ledger/KeyBuilder" "bytes" "[B" .null := D286 (Or.inl (hw _ (List.mem_of_getElem? (i := 11) rfl))) (ty := (.array .byte)) (by decide)
  have Flength_288 : Fld Z h286 b286 "com/example/chitragupta/chitragupta/ledger/KeyBuilder" "length" "I" (.int (0 : Int32)) := D286 (Or.inl (hw _ (List.mem_of_getElem? (i := 18) rfl))) (ty := .int) (by decide)
  obtain ⟨_, _, ⟨T289, L289, k289, n289⟩, -, X289, ⟨Lc289, hQ289, l289, y289, z289⟩, st289⟩ := X286.specialBack hx (y := (⟨"com/example/chitragupta/chitragupta/ledger/KeyBuilder", "<init>", "()V"⟩ : MethodName)) rfl hown (mvT hZ (hw _ (List.mem_of_getElem? (i := 3) rfl))) (mvT hZ (hw _ (List.mem_of_getElem? (i := 4) rfl))) (mvT hZ (hw _ (List.mem_of_getElem? (i := 5) rfl))) (by decide) (backOf (W := 1) (own_init l Z a0 hw [] b286 h286 n0 Z286 A286 Fbytes_287 Flength_288 (Nat.le_trans Z0 q286)) hZ (hw _ (List.mem_of_getElem? (i := 5) rfl)) (hw _ (List.mem_of_getElem? (i := 2) rfl)) (by decide) (by decide)) (g := (mkF m 4 #[.val (.int p1), .val (.int p2), .val (.int p3), .val (.int p4), .unset, .unset, .unset, .unset, .unset, .unset, .unset, .unset] [(.ref b286), (.ref b286)])) rfl (by rw [hml]; rfl) (Steps.refl _) (a := b286) (argsL := []) (rest := [(.ref b286)]) (lenOf pd___V rfl) rfl (by show 2 * 0 + _ ≤ _; exact Nat.le_of_eq rfl) (hb hby at_4) (fun _ _ => ⟨rfl, e286, (by decide : 1 + 1 ≤ _), (by decide : 2 + 64 ≤ _)⟩)
  dsimp only [Pt.U, Pt.locs, Pt.cells, Pt.slots] at X289 l289 y289 z289 st289 hQ289
  subst l289 y289 z289
  obtain ⟨rfl, N289q, K289q, r289, k289r, qr289, B289q⟩ := hQ289
  have N289 := Fr.app N0 N289q
  have q289r : h0.size ≤ r289 := Nat.le_trans EX286.1 qr289
  have A286_290 := A286.keep K289q
  have EX289 : Ext h0 T289.heap := own_ext_keep EX286 K289q (allS q286 all0)
  have Z289 : n0 ≤ T289.heap.size := Nat.le_trans Z0 EX289.1
  obtain ⟨E_291, Fbytes_292, Flength_293, V_294⟩ := id B289q
  have ne_b286_r289 : b286 ≠ r289 := E_291.neArv V_294 (hw _ (List.mem_of_getElem? (i := 1) rfl))
  obtain ⟨cq295, kq295, q295a, q295b, q295c⟩ := isOf hZ rfl E_291
  obtain ⟨_, _, ⟨T295, L295, k295, n295⟩, -, X295, ⟨Lc295, hQ295, l295, y295, z295⟩, st295⟩ := X289.virtualBack hx (y := (⟨"com/example/chitragupta/chitragupta/ledger/KeyBuilder", "build", "()[B"⟩ : MethodName)) (z := (⟨"com/example/chitragupta/chitragupta/ledger/KeyBuilder", "build", "()[B"⟩ : MethodName)) hown (mvT hZ (hw _ (List.mem_of_getElem? (i := 12) rfl))) (mvT hZ (hw _ (List.mem_of_getElem? (i := 13) rfl))) (notFace_of_selects (args := #[]) (mvT hZ (hw _ (List.mem_of_getElem? (i := 15) rfl)))) (mvT hZ (hw _ (List.mem_of_getElem? (i := 15) rfl))) (mvT hZ (hw _ (List.mem_of_getElem? (i := 14) rfl))) (by decide) (backOf (W := 0) (own_build l Z a0 hw [] b286 r289 k289r ([] : List Int32) T289.heap n0 Z289 ⟨E_291, Fbytes_292, Flength_293, V_294⟩ (by decide)) hZ (hw _ (List.mem_of_getElem? (i := 16) rfl)) (hw _ (List.mem_of_getElem? (i := 2) rfl)) (by decide) (by decide)) q295a q295c (g := (mkF m 11 #[.val (.int p1), .val (.int p2), .val (.int p3), .val (.int p4), .val (.ref b286), .unset, .unset, .unset, .unset, .unset, .unset, .unset] [(.ref b286)])) rfl (by rw [hml]; rfl) (Steps.refl _) (argsL := []) (rest := []) (lenOf pd___ArB rfl) rfl (by show 2 * 0 + _ ≤ _; exact Nat.le_of_eq rfl) (hb hby at_11) (fun _ _ => ⟨rfl, rfl, (by decide : 2 + 1 ≤ _), (by decide : 66 + 10 ≤ _)⟩)
  dsimp only [Pt.U, Pt.locs, Pt.cells, Pt.slots] at X295 l295 y295 z295 st295 hQ295
  subst l295 y295 z295
  obtain ⟨t295, kt295, rfl, N295q, EE295, qq295, V295t⟩ := hQ295
  have N295 := Fr.app N289 N295q
  have q_t295 : h0.size ≤ t295 := Nat.le_trans EX289.1 qq295
  have ne_b286_t295 : b286 ≠ t295 := Nat.ne_of_lt (Nat.lt_of_lt_of_le E_291.lt qq295)
  have ne_r289_t295 : r289 ≠ t295 := Nat.ne_of_lt (Nat.lt_of_lt_of_le V_294.lt qq295)
  have E_296 := E_291.ext EE295
  have Fbytes_297 := Fbytes_292.ext EE295
  have Flength_298 := Flength_293.ext EE295
  have V_299 := V_294.ext EE295
  have EX295 : Ext h0 T295.heap := own_ext_trans EX289 EE295
  have Z295 : n0 ≤ T295.heap.size := Nat.le_trans Z0 EX295.1
  obtain ⟨T300, h300, k300, X300, e300, E300, A300, AE300, st300⟩ := newPE X295 hx hZ (hw _ (List.mem_of_getElem? (i := 31) rfl)) rfl (g := (mkF m 18 #[.val (.int p1), .val (.int p2), .val (.int p3), .val (.int p4), .val (.ref b286), .val (.ref t295), .unset, .unset, .unset, .unset, .unset, .unset] [(.int (10 : Int32))])) rfl (hb hby at_18) rfl (by decide) (cap := 10) (by decide) (by decide) (by decide) (by decide) (ad := "[I") (by decide)
  obtain ⟨b300, g300⟩ : ∃ z, z = T295.heap.size := ⟨_, rfl⟩
  rw [← g300] at A300 AE300 st300
  have V300 : Arv Z h300 b300 k300 .int (10 : Int32) (([] : List Int32).map Value.int) (.int 0) := Arv.new A300 (by decide)
  have q300 : h0.size ≤ b300 := by rw [g300]; exact EX295.1
  have ne_b286_b300 : b286 ≠ b300 := by rw [g300]; exact Nat.ne_of_lt E_296.lt
  have ne_r289_b300 : r289 ≠ b300 := by rw [g300]; exact Nat.ne_of_lt V_299.lt
  have ne_t295_b300 : t295 ≠ b300 := by rw [g300]; exact Nat.ne_of_lt V295t.lt
  have E_301 := E_296.ext E300
  have Fbytes_302 := Fbytes_297.ext E300
  have Flength_303 := Flength_298.ext E300
  have V_304 := V_299.ext E300
  have V295t_305 := V295t.ext E300
  have EX300 : Ext h0 h300 := own_ext_trans EX295 E300
  have Z300 : n0 ≤ h300.size := Nat.le_trans Z0 EX300.1
  have pre1 : ∀ t, Steps p.tables e below (T300.setTop (mkF m 25 #[.val (.int p1), .val (.int p2), .val (.int p3), .val (.int p4), .val (.ref b286), .val (.ref t295), .val (.ref b300), .val (.int (0 : Int32)), .unset, .unset, .unset, .unset] [])) t → Steps p.tables e below (s₁.setTop (mkF m 0 #[.val (.int p1), .val (.int p2), .val (.int p3), .val (.int p4), .unset, .unset, .unset, .unset, .unset, .unset, .unset, .unset] [])) t := by
    intro t kk
    show Steps p.tables e below (s₁.setTop (mkF m 0 #[.val (.int p1), .val (.int p2), .val (.int p3), .val (.int p4), .unset, .unset, .unset, .unset, .unset, .unset, .unset, .unset] [])) _
    refine st286 _ ?_
    show Steps p.tables e below (T286.setTop (mkF m 3 #[.val (.int p1), .val (.int p2), .val (.int p3), .val (.int p4), .unset, .unset, .unset, .unset, .unset, .unset, .unset, .unset] [(.ref b286)])) _
    refine XS.dup X286.here hx rfl (hb hby at_3) rfl rfl ?_
    show Steps p.tables e below (T286.setTop (mkF m 4 #[.val (.int p1), .val (.int p2), .val (.int p3), .val (.int p4), .unset, .unset, .unset, .unset, .unset, .unset, .unset, .unset] [(.ref b286), (.ref b286)])) _
    refine st289.trans ?_
    show Steps p.tables e below (T289.setTop (mkF m 7 #[.val (.int p1), .val (.int p2), .val (.int p3), .val (.int p4), .unset, .unset, .unset, .unset, .unset, .unset, .unset, .unset] [(.ref b286)])) _
    refine XS.astore X289.here hx rfl (hb hby at_7) rfl rfl (l' := #[.val (.int p1), .val (.int p2), .val (.int p3), .val (.int p4), .val (.ref b286), .unset, .unset, .unset, .unset, .unset, .unset, .unset]) rfl ?_
    show Steps p.tables e below (T289.setTop (mkF m 9 #[.val (.int p1), .val (.int p2), .val (.int p3), .val (.int p4), .val (.ref b286), .unset, .unset, .unset, .unset, .unset, .unset, .unset] [])) _
    refine XS.aload X289.here hx rfl (hb hby at_9) rfl rfl ?_
    show Steps p.tables e below (T289.setTop (mkF m 11 #[.val (.int p1), .val (.int p2), .val (.int p3), .val (.int p4), .val (.ref b286), .unset, .unset, .unset, .unset, .unset, .unset, .unset] [(.ref b286)])) _
    refine st295.trans ?_
    show Steps p.tables e below (T295.setTop (mkF m 14 #[.val (.int p1), .val (.int p2), .val (.int p3), .val (.int p4), .val (.ref b286), .unset, .unset, .unset, .unset, .unset, .unset, .unset] [(.ref t295)])) _
    refine XS.astore X295.here hx rfl (hb hby at_14) rfl rfl (l' := #[.val (.int p1), .val (.int p2), .val (.int p3), .val (.int p4), .val (.ref b286), .val (.ref t295), .unset, .unset, .unset, .unset, .unset, .unset]) rfl ?_
    show Steps p.tables e below (T295.setTop (mkF m 16 #[.val (.int p1), .val (.int p2), .val (.int p3), .val (.int p4), .val (.ref b286), .val (.ref t295), .unset, .unset, .unset, .unset, .unset, .unset] [])) _
    refine XT.bipushV X295.here hx rfl (10 : Int32) (hb hby at_16) (by decide) ?_
    show Steps p.tables e below (T295.setTop (mkF m 18 #[.val (.int p1), .val (.int p2), .val (.int p3), .val (.int p4), .val (.ref b286), .val (.ref t295), .unset, .unset, .unset, .unset, .unset, .unset] [(.int (10 : Int32))])) _
    refine st300 _ ?_
    show Steps p.tables e below (T300.setTop (mkF m 20 #[.val (.int p1), .val (.int p2), .val (.int p3), .val (.int p4), .val (.ref b286), .val (.ref t295), .unset, .unset, .unset, .unset, .unset, .unset] [(.ref b300)])) _
    refine XS.astore X300.here hx rfl (hb hby at_20) rfl rfl (l' := #[.val (.int p1), .val (.int p2), .val (.int p3), .val (.int p4), .val (.ref b286), .val (.ref t295), .val (.ref b300), .unset, .unset, .unset, .unset, .unset]) rfl ?_
    show Steps p.tables e below (T300.setTop (mkF m 22 #[.val (.int p1), .val (.int p2), .val (.int p3), .val (.int p4), .val (.ref b286), .val (.ref t295), .val (.ref b300), .unset, .unset, .unset, .unset, .unset] [])) _
    refine XT.iconstV X300.here hx rfl (0 : Int32) (hb hby at_22) rfl ?_
    show Steps p.tables e below (T300.setTop (mkF m 23 #[.val (.int p1), .val (.int p2), .val (.int p3), .val (.int p4), .val (.ref b286), .val (.ref t295), .val (.ref b300), .unset, .unset, .unset, .unset, .unset] [(.int (0 : Int32))])) _
    refine XS.istore X300.here hx rfl (hb hby at_23) rfl (l' := #[.val (.int p1), .val (.int p2), .val (.int p3), .val (.int p4), .val (.ref b286), .val (.ref t295), .val (.ref b300), .val (.int (0 : Int32)), .unset, .unset, .unset, .unset]) rfl ?_
    show Steps p.tables e below (T300.setTop (mkF m 25 #[.val (.int p1), .val (.int p2), .val (.int p3), .val (.int p4), .val (.ref b286), .val (.ref t295), .val (.ref b300), .val (.int (0 : Int32)), .unset, .unset, .unset, .unset] [])) _
    exact kk
  have thr0 : ∃ (U : State) (lo : List Loc) (nn : Int32) (xs es : List Int32), Stand p l e room_1 s m #[(.int p1), (.int p2), (.int p3), (.int p4)] below meth c U lo 4 86 ∧ Fr n0 lo ∧ Ext h0 U.heap ∧ own_KB Z U.heap b286 r289 k289r xs ∧ Arv Z U.heap t295 kt295 .byte (Int32.ofNat ([] : List Int32).length) (([] : List Int32).map Value.int) (.int 0) ∧ Arv Z U.heap b300 k300 .int (10 : Int32) (es.map Value.int) (.int 0) ∧ xs = es.map own_i2b ∧ xs.length ≤ 0 ∧ nn = Int32.ofNat xs.length ∧ (∀ t, Steps p.tables e below (U.setTop (mkF m 25 #[.val (.int p1), .val (.int p2), .val (.int p3), .val (.int p4), .val (.ref b286), .val (.ref t295), .val (.ref b300), .val (.int nn), .unset, .unset, .unset, .unset] [])) t → Steps p.tables e below (T300.setTop (mkF m 25 #[.val (.int p1), .val (.int p2), .val (.int p3), .val (.int p4), .val (.ref b286), .val (.ref t295), .val (.ref b300), .val (.int (0 : Int32)), .unset, .unset, .unset, .unset] [])) t) := by
    rw [← e300] at E_301 Fbytes_302 Flength_303 V_304 V295t_305 V300
    exact ⟨T300, _, (0 : Int32), ([] : List Int32), ([] : List Int32), X300.more (by decide) (by decide), N295, (by rw [e300]; exact EX300), ⟨E_301, Fbytes_302, Flength_303, V_304⟩, V295t_305, V300, rfl, by decide, rfl, fun _ kk => kk⟩
  obtain ⟨U0, lo0, nn0, xs0, es0, Y0, NU0, EU0, BU0, VE0, VI0, hxe0, hlx0, rfl, thru0⟩ := thr0
  have ZU0 : n0 ≤ U0.heap.size := Nat.le_trans Z0 EU0.1
  have hle0 : xs0.length = es0.length := by rw [hxe0, List.length_map]
  have hnn : Int32.ofNat xs0.length = Int32.ofNat es0.length := by rw [hle0]
  have thr1 : ∃ (U : State) (lo : List Loc) (nn : Int32) (xs es : List Int32), Stand p l e room_1 s m #[(.int p1), (.int p2), (.int p3), (.int p4)] below meth c U lo 4 86 ∧ Fr n0 lo ∧ Ext h0 U.heap ∧ own_KB Z U.heap b286 r289 k289r xs ∧ Arv Z U.heap t295 kt295 .byte (Int32.ofNat ([] : List Int32).length) (([] : List Int32).map Value.int) (.int 0) ∧ Arv Z U.heap b300 k300 .int (10 : Int32) (es.map Value.int) (.int 0) ∧ xs = es.map own_i2b ∧ xs.length ≤ 4 ∧ nn = Int32.ofNat xs.length ∧ (∀ t, Steps p.tables e below (U.setTop (mkF m 48 #[.val (.int p1), .val (.int p2), .val (.int p3), .val (.int p4), .val (.ref b286), .val (.ref t295), .val (.ref b300), .val (.int nn), .unset, .unset, .unset, .unset] [])) t → Steps p.tables e below (U0.setTop (mkF m 25 #[.val (.int p1), .val (.int p2), .val (.int p3), .val (.int p4), .val (.ref b286), .val (.ref t295), .val (.ref b300), .val (.int (Int32.ofNat xs0.length)), .unset, .unset, .unset, .unset] [])) t) := by
    by_cases hm : (p4 &&& (1 : Int32)) = (0 : Int32)
    · obtain ⟨E_306, Fbytes_307, Flength_308, V_309⟩ := id BU0
      have ne_b286_r289 : b286 ≠ r289 := E_306.neArv V_309 (hw _ (List.mem_of_getElem? (i := 1) rfl))
      refine ⟨U0, _, _, xs0, es0, Y0.more (by decide) (by decide), NU0, EU0, ⟨E_306, Fbytes_307, Flength_308, V_309⟩, VE0, VI0, hxe0, (by omega), rfl, ?_⟩
      intro t kk
      show Steps p.tables e below (U0.setTop (mkF m 25 #[.val (.int p1), .val (.int p2), .val (.int p3), .val (.int p4), .val (.ref b286), .val (.ref t295), .val (.ref b300), .val (.int (Int32.ofNat xs0.length)), .unset, .unset, .unset, .unset] [])) _
      refine XS.iloadN Y0.here hx rfl (hb hby at_25) rfl ?_
      show Steps p.tables e below (U0.setTop (mkF m 26 #[.val (.int p1), .val (.int p2), .val (.int p3), .val (.int p4), .val (.ref b286), .val (.ref t295), .val (.ref b300), .val (.int (Int32.ofNat xs0.length)), .unset, .unset, .unset, .unset] [(.int p4)])) _
      refine XT.iconstV Y0.here hx rfl (1 : Int32) (hb hby at_26) rfl ?_
      show Steps p.tables e below (U0.setTop (mkF m 27 #[.val (.int p1), .val (.int p2), .val (.int p3), .val (.int p4), .val (.ref b286), .val (.ref t295), .val (.ref b300), .val (.int (Int32.ofNat xs0.length)), .unset, .unset, .unset, .unset] [(.int (1 : Int32)), (.int p4)])) _
      refine XS.iand Y0.here hx rfl (hb hby at_27) rfl ?_
      show Steps p.tables e below (U0.setTop (mkF m 28 #[.val (.int p1), .val (.int p2), .val (.int p3), .val (.int p4), .val (.ref b286), .val (.ref t295), .val (.ref b300), .val (.int (Int32.ofNat xs0.length)), .unset, .unset, .unset, .unset] [(.int (p4 &&& (1 : Int32)))])) _
      refine XS.ifYes Y0.here hx rfl (pc0 := 28) (pc' := 48) rfl (hb hby at_28) rfl (XT.i0_eq_t hm) (by decide) (by decide) ?_
      show Steps p.tables e below (U0.setTop (mkF m 48 #[.val (.int p1), .val (.int p2), .val (.int p3), .val (.int p4), .val (.ref b286), .val (.ref t295), .val (.ref b300), .val (.int (Int32.ofNat xs0.length)), .unset, .unset, .unset, .unset] [])) _
      exact kk
    · obtain ⟨E_306, Fbytes_307, Flength_308, V_309⟩ := id BU0
      have ne_b286_r289 : b286 ≠ r289 := E_306.neArv V_309 (hw _ (List.mem_of_getElem? (i := 1) rfl))
      obtain ⟨cq310, kq310, q310a, q310b, q310c⟩ := isOf hZ rfl E_306
      obtain ⟨_, _, ⟨T310, L310, k310, n310⟩, -, X310, ⟨Lc310, hQ310, l310, y310, z310⟩, st310⟩ := Y0.virtualBack hx (y := (⟨"com/example/chitragupta/chitragupta/ledger/KeyBuilder", "number", "(I)Lcom/example/chitragupta/chitragupta/ledger/KeyBuilder;"⟩ : MethodName)) (z := (⟨"com/example/chitragupta/chitragupta/ledger/KeyBuilder", "number", "(I)Lcom/example/chitragupta/chitragupta/ledger/KeyBuilder;"⟩ : MethodName)) hown (mvT hZ (hw _ (List.mem_of_getElem? (i := 32) rfl))) (mvT hZ (hw _ (List.mem_of_getElem? (i := 33) rfl))) (notFace_of_selects (args := #[]) (mvT hZ (hw _ (List.mem_of_getElem? (i := 35) rfl)))) (mvT hZ (hw _ (List.mem_of_getElem? (i := 35) rfl))) (mvT hZ (hw _ (List.mem_of_getElem? (i := 34) rfl))) (by decide) (backOf (W := 0) (own_number l Z a0 hw [] b286 r289 k289r xs0 p1 U0.heap n0 ZU0 ⟨E_306, Fbytes_307, Flength_308, V_309⟩ (by omega) (Nat.le_trans Z0 q286) (Nat.le_trans Z0 q289r)) hZ (hw _ (List.mem_of_getElem? (i := 36) rfl)) (hw _ (List.mem_of_getElem? (i := 2) rfl)) (by decide) (by decide)) q310a q310c (g := (mkF m 34 #[.val (.int p1), .val (.int p2), .val (.int p3), .val (.int p4), .val (.ref b286), .val (.ref t295), .val (.ref b300), .val (.int (Int32.ofNat xs0.length)), .unset, .unset, .unset, .unset] [(.int p1), (.ref b286)])) rfl (by rw [hml]; rfl) (Steps.refl _) (argsL := [(.int p1)]) (rest := []) (lenOf pd__I_Lcom_example_chitragupta_chitragupta_ledger_KeyBuilder_ rfl) rfl (by show 2 * 0 + _ ≤ _; exact Nat.le_of_eq rfl) (hb hby at_34) (fun _ _ => ⟨rfl, rfl, (by decide : 4 + 0 ≤ _), (by decide : 86 + 0 ≤ _)⟩)
      dsimp only [Pt.U, Pt.locs, Pt.cells, Pt.slots] at X310 l310 y310 z310 st310 hQ310
      subst l310 y310 z310
      obtain ⟨rfl, N310q, K310q, B310q⟩ := hQ310
      have N310 := Fr.app NU0 N310q
      have E_311 := E_306.keep K310q
      have VE0_312 := VE0.keep K310q (ninS (Ne.symm ne_b286_t295) (ninS (Ne.symm ne_r289_t295) nin0))
      have VI0_313 := VI0.keep K310q (ninS (Ne.symm ne_b286_b300) (ninS (Ne.symm ne_r289_b300) nin0))
      have EX310 : Ext h0 T310.heap := own_ext_keep EU0 K310q (allS q286 (allS q289r all0))
      have Z310 : n0 ≤ T310.heap.size := Nat.le_trans Z0 EX310.1
      obtain ⟨E_314, Fbytes_315, Flength_316, V_317⟩ := id B310q
      obtain ⟨_, _, ⟨T318, L318, k318, n318⟩, -, X318, ⟨Lc318, hQ318, l318, y318, z318⟩, st318⟩ := Jvm.LawKit.callS X310 hx (y := (⟨"com/example/chitragupta/chitragupta/ledger/KeyBuilderBuildPinLaw", "put4", "([III)I"⟩ : MethodName)) hown (mvT hZ (hw _ (List.mem_of_getElem? (i := 45) rfl))) (mvT hZ (hw _ (List.mem_of_getElem? (i := 46) rfl))) (mvT hZ (hw _ (List.mem_of_getElem? (i := 47) rfl))) (mvT hZ (hw _ (List.mem_of_getElem? (i := 48) rfl))) (by decide) (backOf (W := 0) (own_put4 l Z a0 hw [] b300 k300 es0 (Int32.ofNat xs0.length) p1 T310.heap n0 Z310 VI0_313 hnn (by omega) (Nat.le_trans Z0 q300)) hZ (hw _ (List.mem_of_getElem? (i := 48) rfl)) (hw _ (List.mem_of_getElem? (i := 47) rfl)) (by decide) (by decide)) (g := (mkF m 43 #[.val (.int p1), .val (.int p2), .val (.int p3), .val (.int p4), .val (.ref b286), .val (.ref t295), .val (.ref b300), .val (.int (Int32.ofNat xs0.length)), .unset, .unset, .unset, .unset] [(.int p1), (.int (Int32.ofNat xs0.length)), (.ref b300)])) rfl (by rw [hml]; rfl) (argsL := [(.ref b300), (.int (Int32.ofNat xs0.length)), (.int p1)]) (rest := []) (lenOf pd__ArIII_I rfl) rfl (by show 2 * 0 + _ ≤ _; exact Nat.le_of_eq rfl) (hb hby at_43) (fun _ _ => ⟨rfl, rfl, (by decide : 4 + 0 ≤ _), (by decide : 86 + 0 ≤ _)⟩)
      dsimp only [Pt.U, Pt.locs, Pt.cells, Pt.slots] at X318 l318 y318 z318 st318 hQ318
      subst l318 y318 z318
      obtain ⟨rfl, N318q, K318q, V318q⟩ := hQ318
      have N318 := Fr.app N310 N318q
      have VE0_319 := VE0_312.keep K318q (ninS ne_t295_b300 nin0)
      have E_320 := E_314.keep K318q
      have Fbytes_321 := Fbytes_315.keep K318q (ninS ne_b286_b300 nin0)
      have Flength_322 := Flength_316.keep K318q (ninS ne_b286_b300 nin0)
      have V_323 := V_317.keep K318q (ninS ne_r289_b300 nin0)
      have EX318 : Ext h0 T318.heap := own_ext_keep EX310 K318q (allS q300 all0)
      have Z318 : n0 ≤ T318.heap.size := Nat.le_trans Z0 EX318.1
      refine ⟨T318, _, ((Int32.ofNat xs0.length) + (4 : Int32)), (xs0 ++ own_b4 p1.toInt64), (es0 ++ own_e4 p1), X318.more (by decide) (by decide), N318, EX318, ⟨E_320, Fbytes_321, Flength_322, V_323⟩, VE0_319, V318q, (by rw [List.map_append, ← hxe0, own_b4e4]), (by rw [List.length_append]; show _ + 4 ≤ _; omega), (own_nk _ _ 4 rfl), ?_⟩
      intro t kk
      show Steps p.tables e below (U0.setTop (mkF m 25 #[.val (.int p1), .val (.int p2), .val (.int p3), .val (.int p4), .val (.ref b286), .val (.ref t295), .val (.ref b300), .val (.int (Int32.ofNat xs0.length)), .unset, .unset, .unset, .unset] [])) _
      refine XS.iloadN Y0.here hx rfl (hb hby at_25) rfl ?_
      show Steps p.tables e below (U0.setTop (mkF m 26 #[.val (.int p1), .val (.int p2), .val (.int p3), .val (.int p4), .val (.ref b286), .val (.ref t295), .val (.ref b300), .val (.int (Int32.ofNat xs0.length)), .unset, .unset, .unset, .unset] [(.int p4)])) _
      refine XT.iconstV Y0.here hx rfl (1 : Int32) (hb hby at_26) rfl ?_
      show Steps p.tables e below (U0.setTop (mkF m 27 #[.val (.int p1), .val (.int p2), .val (.int p3), .val (.int p4), .val (.ref b286), .val (.ref t295), .val (.ref b300), .val (.int (Int32.ofNat xs0.length)), .unset, .unset, .unset, .unset] [(.int (1 : Int32)), (.int p4)])) _
      refine XS.iand Y0.here hx rfl (hb hby at_27) rfl ?_
      show Steps p.tables e below (U0.setTop (mkF m 28 #[.val (.int p1), .val (.int p2), .val (.int p3), .val (.int p4), .val (.ref b286), .val (.ref t295), .val (.ref b300), .val (.int (Int32.ofNat xs0.length)), .unset, .unset, .unset, .unset] [(.int (p4 &&& (1 : Int32)))])) _
      refine XS.ifNo Y0.here hx rfl (hb hby at_28) rfl (XT.i0_eq_f hm) ?_
      show Steps p.tables e below (U0.setTop (mkF m 31 #[.val (.int p1), .val (.int p2), .val (.int p3), .val (.int p4), .val (.ref b286), .val (.ref t295), .val (.ref b300), .val (.int (Int32.ofNat xs0.length)), .unset, .unset, .unset, .unset] [])) _
      refine XS.aload Y0.here hx rfl (hb hby at_31) rfl rfl ?_
      show Steps p.tables e below (U0.setTop (mkF m 33 #[.val (.int p1), .val (.int p2), .val (.int p3), .val (.int p4), .val (.ref b286), .val (.ref t295), .val (.ref b300), .val (.int (Int32.ofNat xs0.length)), .unset, .unset, .unset, .unset] [(.ref b286)])) _
      refine XS.iloadN Y0.here hx rfl (hb hby at_33) rfl ?_
      show Steps p.tables e below (U0.setTop (mkF m 34 #[.val (.int p1), .val (.int p2), .val (.int p3), .val (.int p4), .val (.ref b286), .val (.ref t295), .val (.ref b300), .val (.int (Int32.ofNat xs0.length)), .unset, .unset, .unset, .unset] [(.int p1), (.ref b286)])) _
      refine st310.trans ?_
      show Steps p.tables e below (T310.setTop (mkF m 37 #[.val (.int p1), .val (.int p2), .val (.int p3), .val (.int p4), .val (.ref b286), .val (.ref t295), .val (.ref b300), .val (.int (Int32.ofNat xs0.length)), .unset, .unset, .unset, .unset] [(.ref b286)])) _
      refine XT.pop X310.here hx rfl (hb hby at_37) rfl rfl ?_
      show Steps p.tables e below (T310.setTop (mkF m 38 #[.val (.int p1), .val (.int p2), .val (.int p3), .val (.int p4), .val (.ref b286), .val (.ref t295), .val (.ref b300), .val (.int (Int32.ofNat xs0.length)), .unset, .unset, .unset, .unset] [])) _
      refine XS.aload X310.here hx rfl (hb hby at_38) rfl rfl ?_
      show Steps p.tables e below (T310.setTop (mkF m 40 #[.val (.int p1), .val (.int p2), .val (.int p3), .val (.int p4), .val (.ref b286), .val (.ref t295), .val (.ref b300), .val (.int (Int32.ofNat xs0.length)), .unset, .unset, .unset, .unset] [(.ref b300)])) _
      refine XS.iload X310.here hx rfl (hb hby at_40) rfl ?_
      show Steps p.tables e below (T310.setTop (mkF m 42 #[.val (.int p1), .val (.int p2), .val (.int p3), .val (.int p4), .val (.ref b286), .val (.ref t295), .val (.ref b300), .val (.int (Int32.ofNat xs0.length)), .unset, .unset, .unset, .unset] [(.int (Int32.ofNat xs0.length)), (.ref b300)])) _
      refine XS.iloadN X310.here hx rfl (hb hby at_42) rfl ?_
      show Steps p.tables e below (T310.setTop (mkF m 43 #[.val (.int p1), .val (.int p2), .val (.int p3), .val (.int p4), .val (.ref b286), .val (.ref t295), .val (.ref b300), .val (.int (Int32.ofNat xs0.length)), .unset, .unset, .unset, .unset] [(.int p1), (.int (Int32.ofNat xs0.length)), (.ref b300)])) _
      refine st318 _ ?_
      show Steps p.tables e below (T318.setTop (mkF m 46 #[.val (.int p1), .val (.int p2), .val (.int p3), .val (.int p4), .val (.ref b286), .val (.ref t295), .val (.ref b300), .val (.int (Int32.ofNat xs0.length)), .unset, .unset, .unset, .unset] [(.int ((Int32.ofNat xs0.length) + (4 : Int32)))])) _
      refine XS.istore X318.here hx rfl (hb hby at_46) rfl (l' := #[.val (.int p1), .val (.int p2), .val (.int p3), .val (.int p4), .val (.ref b286), .val (.ref t295), .val (.ref b300), .val (.int ((Int32.ofNat xs0.length) + (4 : Int32))), .unset, .unset, .unset, .unset]) rfl ?_
      show Steps p.tables e below (T318.setTop (mkF m 48 #[.val (.int p1), .val (.int p2), .val (.int p3), .val (.int p4), .val (.ref b286), .val (.ref t295), .val (.ref b300), .val (.int ((Int32.ofNat xs0.length) + (4 : Int32))), .unset, .unset, .unset, .unset] [])) _
      exact kk
  obtain ⟨U1, lo1, nn1, xs1, es1, Y1, NU1, EU1, BU1, VE1, VI1, hxe1, hlx1, rfl, thru1⟩ := thr1
  have ZU1 : n0 ≤ U1.heap.size := Nat.le_trans Z0 EU1.1
  have hle1 : xs1.length = es1.length := by rw [hxe1, List.length_map]
  have hnn : Int32.ofNat xs1.length = Int32.ofNat es1.length := by rw [hle1]
  have thr2 : ∃ (U : State) (lo : List Loc) (nn : Int32) (xs es : List Int32), Stand p l e room_1 s m #[(.int p1), (.int p2), (.int p3), (.int p4)] below meth c U lo 4 86 ∧ Fr n0 lo ∧ Ext h0 U.heap ∧ own_KB Z U.heap b286 r289 k289r xs ∧ Arv Z U.heap t295 kt295 .byte (Int32.ofNat ([] : List Int32).length) (([] : List Int32).map Value.int) (.int 0) ∧ Arv Z U.heap b300 k300 .int (10 : Int32) (es.map Value.int) (.int 0) ∧ xs = es.map own_i2b ∧ xs.length ≤ 8 ∧ nn = Int32.ofNat xs.length ∧ (∀ t, Steps p.tables e below (U.setTop (mkF m 71 #[.val (.int p1), .val (.int p2), .val (.int p3), .val (.int p4), .val (.ref b286), .val (.ref t295), .val (.ref b300), .val (.int nn), .unset, .unset, .unset, .unset] [])) t → Steps p.tables e below (U1.setTop (mkF m 48 #[.val (.int p1), .val (.int p2), .val (.int p3), .val (.int p4), .val (.ref b286), .val (.ref t295), .val (.ref b300), .val (.int (Int32.ofNat xs1.length)), .unset, .unset, .unset, .unset] [])) t) := by
    by_cases hm : (p4 &&& (2 : Int32)) = (0 : Int32)
    · obtain ⟨E_324, Fbytes_325, Flength_326, V_327⟩ := id BU1
      have ne_b286_r289 : b286 ≠ r289 := E_324.neArv V_327 (hw _ (List.mem_of_getElem? (i := 1) rfl))
      refine ⟨U1, _, _, xs1, es1, Y1.more (by decide) (by decide), NU1, EU1, ⟨E_324, Fbytes_325, Flength_326, V_327⟩, VE1, VI1, hxe1, (by omega), rfl, ?_⟩
      intro t kk
      show Steps p.tables e below (U1.setTop (mkF m 48 #[.val (.int p1), .val (.int p2), .val (.int p3), .val (.int p4), .val (.ref b286), .val (.ref t295), .val (.ref b300), .val (.int (Int32.ofNat xs1.length)), .unset, .unset, .unset, .unset] [])) _
      refine XS.iloadN Y1.here hx rfl (hb hby at_48) rfl ?_
      show Steps p.tables e below (U1.setTop (mkF m 49 #[.val (.int p1), .val (.int p2), .val (.int p3), .val (.int p4), .val (.ref b286), .val (.ref t295), .val (.ref b300), .val (.int (Int32.ofNat xs1.length)), .unset, .unset, .unset, .unset] [(.int p4)])) _
      refine XT.iconstV Y1.here hx rfl (2 : Int32) (hb hby at_49) rfl ?_
      show Steps p.tables e below (U1.setTop (mkF m 50 #[.val (.int p1), .val (.int p2), .val (.int p3), .val (.int p4), .val (.ref b286), .val (.ref t295), .val (.ref b300), .val (.int (Int32.ofNat xs1.length)), .unset, .unset, .unset, .unset] [(.int (2 : Int32)), (.int p4)])) _
      refine XS.iand Y1.here hx rfl (hb hby at_50) rfl ?_
      show Steps p.tables e below (U1.setTop (mkF m 51 #[.val (.int p1), .val (.int p2), .val (.int p3), .val (.int p4), .val (.ref b286), .val (.ref t295), .val (.ref b300), .val (.int (Int32.ofNat xs1.length)), .unset, .unset, .unset, .unset] [(.int (p4 &&& (2 : Int32)))])) _
      refine XS.ifYes Y1.here hx rfl (pc0 := 51) (pc' := 71) rfl (hb hby at_51) rfl (XT.i0_eq_t hm) (by decide) (by decide) ?_
      show Steps p.tables e below (U1.setTop (mkF m 71 #[.val (.int p1), .val (.int p2), .val (.int p3), .val (.int p4), .val (.ref b286), .val (.ref t295), .val (.ref b300), .val (.int (Int32.ofNat xs1.length)), .unset, .unset, .unset, .unset] [])) _
      exact kk
    · obtain ⟨E_324, Fbytes_325, Flength_326, V_327⟩ := id BU1
      have ne_b286_r289 : b286 ≠ r289 := E_324.neArv V_327 (hw _ (List.mem_of_getElem? (i := 1) rfl))
      obtain ⟨cq328, kq328, q328a, q328b, q328c⟩ := isOf hZ rfl E_324
      obtain ⟨_, _, ⟨T328, L328, k328, n328⟩, -, X328, ⟨Lc328, hQ328, l328, y328, z328⟩, st328⟩ := Y1.virtualBack hx (y := (⟨"com/example/chitragupta/chitragupta/ledger/KeyBuilder", "number", "(I)Lcom/example/chitragupta/chitragupta/ledger/KeyBuilder;"⟩ : MethodName)) (z := (⟨"com/example/chitragupta/chitragupta/ledger/KeyBuilder", "number", "(I)Lcom/example/chitragupta/chitragupta/ledger/KeyBuilder;"⟩ : MethodName)) hown (mvT hZ (hw _ (List.mem_of_getElem? (i := 32) rfl))) (mvT hZ (hw _ (List.mem_of_getElem? (i := 33) rfl))) (notFace_of_selects (args := #[]) (mvT hZ (hw _ (List.mem_of_getElem? (i := 35) rfl)))) (mvT hZ (hw _ (List.mem_of_getElem? (i := 35) rfl))) (mvT hZ (hw _ (List.mem_of_getElem? (i := 34) rfl))) (by decide) (backOf (W := 0) (own_number l Z a0 hw [] b286 r289 k289r xs1 p2 U1.heap n0 ZU1 ⟨E_324, Fbytes_325, Flength_326, V_327⟩ (by omega) (Nat.le_trans Z0 q286) (Nat.le_trans Z0 q289r)) hZ (hw _ (List.mem_of_getElem? (i := 36) rfl)) (hw _ (List.mem_of_getElem? (i := 2) rfl)) (by decide) (by decide)) q328a q328c (g := (mkF m 57 #[.val (.int p1), .val (.int p2), .val (.int p3), .val (.int p4), .val (.ref b286), .val (.ref t295), .val (.ref b300), .val (.int (Int32.ofNat xs1.length)), .unset, .unset, .unset, .unset] [(.int p2), (.ref b286)])) rfl (by rw [hml]; rfl) (Steps.refl _) (argsL := [(.int p2)]) (rest := []) (lenOf pd__I_Lcom_example_chitragupta_chitragupta_ledger_KeyBuilder_ rfl) rfl (by show 2 * 0 + _ ≤ _; exact Nat.le_of_eq rfl) (hb hby at_57) (fun _ _ => ⟨rfl, rfl, (by decide : 4 + 0 ≤ _), (by decide : 86 + 0 ≤ _)⟩)
      dsimp only [Pt.U, Pt.locs, Pt.cells, Pt.slots] at X328 l328 y328 z328 st328 hQ328
      subst l328 y328 z328
      obtain ⟨rfl, N328q, K328q, B328q⟩ := hQ328
      have N328 := Fr.app NU1 N328q
      have E_329 := E_324.keep K328q
      have VE1_330 := VE1.keep K328q (ninS (Ne.symm ne_b286_t295) (ninS (Ne.symm ne_r289_t295) nin0))
      have VI1_331 := VI1.keep K328q (ninS (Ne.symm ne_b286_b300) (ninS (Ne.symm ne_r289_b300) nin0))
      have EX328 : Ext h0 T328.heap := own_ext_keep EU1 K328q (allS q286 (allS q289r all0))
      have Z328 : n0 ≤ T328.heap.size := Nat.le_trans Z0 EX328.1
      obtain ⟨E_332, Fbytes_333, Flength_334, V_335⟩ := id B328q
      obtain ⟨_, _, ⟨T336, L336, k336, n336⟩, -, X336, ⟨Lc336, hQ336, l336, y336, z336⟩, st336⟩ := Jvm.LawKit.callS X328 hx (y := (⟨"com/example/chitragupta/chitragupta/ledger/KeyBuilderBuildPinLaw", "put4", "([III)I"⟩ : MethodName)) hown (mvT hZ (hw _ (List.mem_of_getElem? (i := 45) rfl))) (mvT hZ (hw _ (List.mem_of_getElem? (i := 46) rfl))) (mvT hZ (hw _ (List.mem_of_getElem? (i := 47) rfl))) (mvT hZ (hw _ (List.mem_of_getElem? (i := 48) rfl))) (by decide) (backOf (W := 0) (own_put4 l Z a0 hw [] b300 k300 es1 (Int32.ofNat xs1.length) p2 T328.heap n0 Z328 VI1_331 hnn (by omega) (Nat.le_trans Z0 q300)) hZ (hw _ (List.mem_of_getElem? (i := 48) rfl)) (hw _ (List.mem_of_getElem? (i := 47) rfl)) (by decide) (by decide)) (g := (mkF m 66 #[.val (.int p1), .val (.int p2), .val (.int p3), .val (.int p4), .val (.ref b286), .val (.ref t295), .val (.ref b300), .val (.int (Int32.ofNat xs1.length)), .unset, .unset, .unset, .unset] [(.int p2), (.int (Int32.ofNat xs1.length)), (.ref b300)])) rfl (by rw [hml]; rfl) (argsL := [(.ref b300), (.int (Int32.ofNat xs1.length)), (.int p2)]) (rest := []) (lenOf pd__ArIII_I rfl) rfl (by show 2 * 0 + _ ≤ _; exact Nat.le_of_eq rfl) (hb hby at_66) (fun _ _ => ⟨rfl, rfl, (by decide : 4 + 0 ≤ _), (by decide : 86 + 0 ≤ _)⟩)
      dsimp only [Pt.U, Pt.locs, Pt.cells, Pt.slots] at X336 l336 y336 z336 st336 hQ336
      subst l336 y336 z336
      obtain ⟨rfl, N336q, K336q, V336q⟩ := hQ336
      have N336 := Fr.app N328 N336q
      have VE1_337 := VE1_330.keep K336q (ninS ne_t295_b300 nin0)
      have E_338 := E_332.keep K336q
      have Fbytes_339 := Fbytes_333.keep K336q (ninS ne_b286_b300 nin0)
      have Flength_340 := Flength_334.keep K336q (ninS ne_b286_b300 nin0)
      have V_341 := V_335.keep K336q (ninS ne_r289_b300 nin0)
      have EX336 : Ext h0 T336.heap := own_ext_keep EX328 K336q (allS q300 all0)
      have Z336 : n0 ≤ T336.heap.size := Nat.le_trans Z0 EX336.1
      refine ⟨T336, _, ((Int32.ofNat xs1.length) + (4 : Int32)), (xs1 ++ own_b4 p2.toInt64), (es1 ++ own_e4 p2), X336.more (by decide) (by decide), N336, EX336, ⟨E_338, Fbytes_339, Flength_340, V_341⟩, VE1_337, V336q, (by rw [List.map_append, ← hxe1, own_b4e4]), (by rw [List.length_append]; show _ + 4 ≤ _; omega), (own_nk _ _ 4 rfl), ?_⟩
      intro t kk
      show Steps p.tables e below (U1.setTop (mkF m 48 #[.val (.int p1), .val (.int p2), .val (.int p3), .val (.int p4), .val (.ref b286), .val (.ref t295), .val (.ref b300), .val (.int (Int32.ofNat xs1.length)), .unset, .unset, .unset, .unset] [])) _
      refine XS.iloadN Y1.here hx rfl (hb hby at_48) rfl ?_
      show Steps p.tables e below (U1.setTop (mkF m 49 #[.val (.int p1), .val (.int p2), .val (.int p3), .val (.int p4), .val (.ref b286), .val (.ref t295), .val (.ref b300), .val (.int (Int32.ofNat xs1.length)), .unset, .unset, .unset, .unset] [(.int p4)])) _
      refine XT.iconstV Y1.here hx rfl (2 : Int32) (hb hby at_49) rfl ?_
      show Steps p.tables e below (U1.setTop (mkF m 50 #[.val (.int p1), .val (.int p2), .val (.int p3), .val (.int p4), .val (.ref b286), .val (.ref t295), .val (.ref b300), .val (.int (Int32.ofNat xs1.length)), .unset, .unset, .unset, .unset] [(.int (2 : Int32)), (.int p4)])) _
      refine XS.iand Y1.here hx rfl (hb hby at_50) rfl ?_
      show Steps p.tables e below (U1.setTop (mkF m 51 #[.val (.int p1), .val (.int p2), .val (.int p3), .val (.int p4), .val (.ref b286), .val (.ref t295), .val (.ref b300), .val (.int (Int32.ofNat xs1.length)), .unset, .unset, .unset, .unset] [(.int (p4 &&& (2 : Int32)))])) _
      refine XS.ifNo Y1.here hx rfl (hb hby at_51) rfl (XT.i0_eq_f hm) ?_
      show Steps p.tables e below (U1.setTop (mkF m 54 #[.val (.int p1), .val (.int p2), .val (.int p3), .val (.int p4), .val (.ref b286), .val (.ref t295), .val (.ref b300), .val (.int (Int32.ofNat xs1.length)), .unset, .unset, .unset, .unset] [])) _
      refine XS.aload Y1.here hx rfl (hb hby at_54) rfl rfl ?_
      show Steps p.tables e below (U1.setTop (mkF m 56 #[.val (.int p1), .val (.int p2), .val (.int p3), .val (.int p4), .val (.ref b286), .val (.ref t295), .val (.ref b300), .val (.int (Int32.ofNat xs1.length)), .unset, .unset, .unset, .unset] [(.ref b286)])) _
      refine XS.iloadN Y1.here hx rfl (hb hby at_56) rfl ?_
      show Steps p.tables e below (U1.setTop (mkF m 57 #[.val (.int p1), .val (.int p2), .val (.int p3), .val (.int p4), .val (.ref b286), .val (.ref t295), .val (.ref b300), .val (.int (Int32.ofNat xs1.length)), .unset, .unset, .unset, .unset] [(.int p2), (.ref b286)])) _
      refine st328.trans ?_
      show Steps p.tables e below (T328.setTop (mkF m 60 #[.val (.int p1), .val (.int p2), .val (.int p3), .val (.int p4), .val (.ref b286), .val (.ref t295), .val (.ref b300), .val (.int (Int32.ofNat xs1.length)), .unset, .unset, .unset, .unset] [(.ref b286)])) _
      refine XT.pop X328.here hx rfl (hb hby at_60) rfl rfl ?_
      show Steps p.tables e below (T328.setTop (mkF m 61 #[.val (.int p1), .val (.int p2), .val (.int p3), .val (.int p4), .val (.ref b286), .val (.ref t295), .val (.ref b300), .val (.int (Int32.ofNat xs1.length)), .unset, .unset, .unset, .unset] [])) _
      refine XS.aload X328.here hx rfl (hb hby at_61) rfl rfl ?_
      show Steps p.tables e below (T328.setTop (mkF m 63 #[.val (.int p1), .val (.int p2), .val (.int p3), .val (.int p4), .val (.ref b286), .val (.ref t295), .val (.ref b300), .val (.int (Int32.ofNat xs1.length)), .unset, .unset, .unset, .unset] [(.ref b300)])) _
      refine XS.iload X328.here hx rfl (hb hby at_63) rfl ?_
      show Steps p.tables e below (T328.setTop (mkF m 65 #[.val (.int p1), .val (.int p2), .val (.int p3), .val (.int p4), .val (.ref b286), .val (.ref t295), .val (.ref b300), .val (.int (Int32.ofNat xs1.length)), .unset, .unset, .unset, .unset] [(.int (Int32.ofNat xs1.length)), (.ref b300)])) _
      refine XS.iloadN X328.here hx rfl (hb hby at_65) rfl ?_
      show Steps p.tables e below (T328.setTop (mkF m 66 #[.val (.int p1), .val (.int p2), .val (.int p3), .val (.int p4), .val (.ref b286), .val (.ref t295), .val (.ref b300), .val (.int (Int32.ofNat xs1.length)), .unset, .unset, .unset, .unset] [(.int p2), (.int (Int32.ofNat xs1.length)), (.ref b300)])) _
      refine st336 _ ?_
      show Steps p.tables e below (T336.setTop (mkF m 69 #[.val (.int p1), .val (.int p2), .val (.int p3), .val (.int p4), .val (.ref b286), .val (.ref t295), .val (.ref b300), .val (.int (Int32.ofNat xs1.length)), .unset, .unset, .unset, .unset] [(.int ((Int32.ofNat xs1.length) + (4 : Int32)))])) _
      refine XS.istore X336.here hx rfl (hb hby at_69) rfl (l' := #[.val (.int p1), .val (.int p2), .val (.int p3), .val (.int p4), .val (.ref b286), .val (.ref t295), .val (.ref b300), .val (.int ((Int32.ofNat xs1.length) + (4 : Int32))), .unset, .unset, .unset, .unset]) rfl ?_
      show Steps p.tables e below (T336.setTop (mkF m 71 #[.val (.int p1), .val (.int p2), .val (.int p3), .val (.int p4), .val (.ref b286), .val (.ref t295), .val (.ref b300), .val (.int ((Int32.ofNat xs1.length) + (4 : Int32))), .unset, .unset, .unset, .unset] [])) _
      exact kk
  obtain ⟨U2, lo2, nn2, xs2, es2, Y2, NU2, EU2, BU2, VE2, VI2, hxe2, hlx2, rfl, thru2⟩ := thr2
  have ZU2 : n0 ≤ U2.heap.size := Nat.le_trans Z0 EU2.1
  have hle2 : xs2.length = es2.length := by rw [hxe2, List.length_map]
  have hnn : Int32.ofNat xs2.length = Int32.ofNat es2.length := by rw [hle2]
  have thr3 : ∃ (U : State) (lo : List Loc) (nn : Int32) (xs es : List Int32) (l8 : Slot), Stand p l e room_1 s m #[(.int p1), (.int p2), (.int p3), (.int p4)] below meth c U lo 7 93 ∧ Fr n0 lo ∧ Ext h0 U.heap ∧ own_KB Z U.heap b286 r289 k289r xs ∧ Arv Z U.heap t295 kt295 .byte (Int32.ofNat ([] : List Int32).length) (([] : List Int32).map Value.int) (.int 0) ∧ Arv Z U.heap b300 k300 .int (10 : Int32) (es.map Value.int) (.int 0) ∧ xs = es.map own_i2b ∧ xs.length ≤ 10 ∧ nn = Int32.ofNat xs.length ∧ (l8 = .unset ∨ ∃ w, l8 = .val w ∧ w.category = 1) ∧ (∀ t, Steps p.tables e below (U.setTop (mkF m 156 #[.val (.int p1), .val (.int p2), .val (.int p3), .val (.int p4), .val (.ref b286), .val (.ref t295), .val (.ref b300), .val (.int nn), l8, .unset, .unset, .unset] [])) t → Steps p.tables e below (U2.setTop (mkF m 71 #[.val (.int p1), .val (.int p2), .val (.int p3), .val (.int p4), .val (.ref b286), .val (.ref t295), .val (.ref b300), .val (.int (Int32.ofNat xs2.length)), .unset, .unset, .unset, .unset] [])) t) := by
    by_cases hm : (p4 &&& (4 : Int32)) = (0 : Int32)
    · obtain ⟨E_342, Fbytes_343, Flength_344, V_345⟩ := id BU2
      have ne_b286_r289 : b286 ≠ r289 := E_342.neArv V_345 (hw _ (List.mem_of_getElem? (i := 1) rfl))
      refine ⟨U2, _, _, xs2, es2, .unset, Y2.more (by decide) (by decide), NU2, EU2, ⟨E_342, Fbytes_343, Flength_344, V_345⟩, VE2, VI2, hxe2, (by omega), rfl, Or.inl rfl, ?_⟩
      intro t kk
      show Steps p.tables e below (U2.setTop (mkF m 71 #[.val (.int p1), .val (.int p2), .val (.int p3), .val (.int p4), .val (.ref b286), .val (.ref t295), .val (.ref b300), .val (.int (Int32.ofNat xs2.length)), .unset, .unset, .unset, .unset] [])) _
      refine XS.iloadN Y2.here hx rfl (hb hby at_71) rfl ?_
      show Steps p.tables e below (U2.setTop (mkF m 72 #[.val (.int p1), .val (.int p2), .val (.int p3), .val (.int p4), .val (.ref b286), .val (.ref t295), .val (.ref b300), .val (.int (Int32.ofNat xs2.length)), .unset, .unset, .unset, .unset] [(.int p4)])) _
      refine XT.iconstV Y2.here hx rfl (4 : Int32) (hb hby at_72) rfl ?_
      show Steps p.tables e below (U2.setTop (mkF m 73 #[.val (.int p1), .val (.int p2), .val (.int p3), .val (.int p4), .val (.ref b286), .val (.ref t295), .val (.ref b300), .val (.int (Int32.ofNat xs2.length)), .unset, .unset, .unset, .unset] [(.int (4 : Int32)), (.int p4)])) _
      refine XS.iand Y2.here hx rfl (hb hby at_73) rfl ?_
      show Steps p.tables e below (U2.setTop (mkF m 74 #[.val (.int p1), .val (.int p2), .val (.int p3), .val (.int p4), .val (.ref b286), .val (.ref t295), .val (.ref b300), .val (.int (Int32.ofNat xs2.length)), .unset, .unset, .unset, .unset] [(.int (p4 &&& (4 : Int32)))])) _
      refine XS.ifYes Y2.here hx rfl (pc0 := 74) (pc' := 156) rfl (hb hby at_74) rfl (XT.i0_eq_t hm) (by decide) (by decide) ?_
      show Steps p.tables e below (U2.setTop (mkF m 156 #[.val (.int p1), .val (.int p2), .val (.int p3), .val (.int p4), .val (.ref b286), .val (.ref t295), .val (.ref b300), .val (.int (Int32.ofNat xs2.length)), .unset, .unset, .unset, .unset] [])) _
      exact kk
    · obtain ⟨ich, hich⟩ := own_chx p3
      have hc := own_ch ich
      rw [← hich] at hc
      by_cases hch : (p3 &&& (255 : Int32)) < (128 : Int32)
      · obtain ⟨E_342, Fbytes_343, Flength_344, V_345⟩ := id BU2
        have ne_b286_r289 : b286 ≠ r289 := E_342.neArv V_345 (hw _ (List.mem_of_getElem? (i := 1) rfl))
        obtain ⟨_, _, ⟨T346, L346, k346, n346⟩, -, X346, ⟨Lc346, hQ346, l346, y346, z346⟩, st346⟩ := Jvm.LawKit.callS Y2 hx (y := (⟨"java/lang/String", "valueOf", "(C)Ljava/lang/String;"⟩ : MethodName)) hown (mvT hZ (hw _ (List.mem_of_getElem? (i := 52) rfl))) (mvT hZ (hw _ (List.mem_of_getElem? (i := 53) rfl))) (mvT hZ (hw _ (List.mem_of_getElem? (i := 54) rfl))) (mvT hZ (hw _ (List.mem_of_getElem? (i := 55) rfl))) (by decide) (backOf (W := 1) (own_valueOf l Z a0 hw [] i7 (p3 &&& (255 : Int32)) U2.heap n0 ZU2 (S8.ext EU2) c9 (own_255 p3)) hZ (hw _ (List.mem_of_getElem? (i := 55) rfl)) (hw _ (List.mem_of_getElem? (i := 54) rfl)) (by decide) (by decide)) (g := (mkF m 89 #[.val (.int p1), .val (.int p2), .val (.int p3), .val (.int p4), .val (.ref b286), .val (.ref t295), .val (.ref b300), .val (.int (Int32.ofNat xs2.length)), .val (.int (p3 &&& (255 : Int32))), .unset, .unset, .unset] [(.int (p3 &&& (255 : Int32))), (.ref b286)])) rfl (by rw [hml]; rfl) (argsL := [(.int (p3 &&& (255 : Int32)))]) (rest := [(.ref b286)]) (lenOf pd__C_Ljava_lang_String_ rfl) rfl (by show 2 * 0 + _ ≤ _; exact Nat.le_of_eq rfl) (hb hby at_89) (fun _ _ => ⟨rfl, rfl, (by decide : 4 + 2 ≤ _), (by decide : 86 + 5 ≤ _)⟩)
        dsimp only [Pt.U, Pt.locs, Pt.cells, Pt.slots] at X346 l346 y346 z346 st346 hQ346
        subst l346 y346 z346
        obtain ⟨t346, u346, ku346, rfl, N346q, EE346, qq346, qu346, ntu346, B346q⟩ := hQ346
        have N346 := Fr.app NU2 N346q
        have q_t346 : h0.size ≤ t346 := Nat.le_trans EU2.1 qq346
        have ne_b286_t346 : b286 ≠ t346 := Nat.ne_of_lt (Nat.lt_of_lt_of_le E_342.lt qq346)
        have ne_r289_t346 : r289 ≠ t346 := Nat.ne_of_lt (Nat.lt_of_lt_of_le V_345.lt qq346)
        have ne_t295_t346 : t295 ≠ t346 := Nat.ne_of_lt (Nat.lt_of_lt_of_le VE2.lt qq346)
        have ne_b300_t346 : b300 ≠ t346 := Nat.ne_of_lt (Nat.lt_of_lt_of_le VI2.lt qq346)
        have q_u346 : h0.size ≤ u346 := Nat.le_trans EU2.1 qu346
        have ne_b286_u346 : b286 ≠ u346 := Nat.ne_of_lt (Nat.lt_of_lt_of_le E_342.lt qu346)
        have ne_r289_u346 : r289 ≠ u346 := Nat.ne_of_lt (Nat.lt_of_lt_of_le V_345.lt qu346)
        have ne_t295_u346 : t295 ≠ u346 := Nat.ne_of_lt (Nat.lt_of_lt_of_le VE2.lt qu346)
        have ne_b300_u346 : b300 ≠ u346 := Nat.ne_of_lt (Nat.lt_of_lt_of_le VI2.lt qu346)
        have E_347 := E_342.ext EE346
        have Fbytes_348 := Fbytes_343.ext EE346
        have Flength_349 := Flength_344.ext EE346
        have V_350 := V_345.ext EE346
        have VE2_351 := VE2.ext EE346
        have VI2_352 := VI2.ext EE346
        have EX346 : Ext h0 T346.heap := own_ext_trans EU2 EE346
        have Z346 : n0 ≤ T346.heap.size := Nat.le_trans Z0 EX346.1
        obtain ⟨E_353, Fvalue_354, Fcoder_355, E_356, V_357⟩ := id B346q
        obtain ⟨cq358, kq358, q358a, q358b, q358c⟩ := isOf hZ rfl E_347
        obtain ⟨_, _, ⟨T358, L358, k358, n358⟩, -, X358, ⟨Lc358, hQ358, l358, y358, z358⟩, st358⟩ := X346.virtualBack hx (y := (⟨"com/example/chitragupta/chitragupta/ledger/KeyBuilder", "last", "(Ljava/lang/String;)Lcom/example/chitragupta/chitragupta/ledger/KeyBuilder;"⟩ : MethodName)) (z := (⟨"com/example/chitragupta/chitragupta/ledger/KeyBuilder", "last", "(Ljava/lang/String;)Lcom/example/chitragupta/chitragupta/ledger/KeyBuilder;"⟩ : MethodName)) hown (mvT hZ (hw _ (List.mem_of_getElem? (i := 75) rfl))) (mvT hZ (hw _ (List.mem_of_getElem? (i := 76) rfl))) (notFace_of_selects (args := #[]) (mvT hZ (hw _ (List.mem_of_getElem? (i := 78) rfl)))) (mvT hZ (hw _ (List.mem_of_getElem? (i := 78) rfl))) (mvT hZ (hw _ (List.mem_of_getElem? (i := 77) rfl))) (by decide) (backOf (W := 0) (own_last_p l Z a0 hw [] b286 r289 k289r xs2 wu t346 u346 ku346 i7 (nar .byte (p3 &&& (255 : Int32)).toInt8.toInt32) T346.heap n0 Z346 ⟨E_347, Fbytes_348, Flength_349, V_350⟩ (S8.ext EX346) c9 ⟨E_353, Fvalue_354, Fcoder_355, E_356, V_357⟩ (hc.1 hch).1 (SI.ext EX346) (SU.ext EX346) ne_b286_t346 ne_b286_u346 ne_r289_t346 ne_r289_u346 (by omega) (Nat.le_trans Z0 q286) (Nat.le_trans Z0 q289r)) hZ (hw _ (List.mem_of_getElem? (i := 79) rfl)) (hw _ (List.mem_of_getElem? (i := 2) rfl)) (by decide) (by decide)) q358a q358c (g := (mkF m 92 #[.val (.int p1), .val (.int p2), .val (.int p3), .val (.int p4), .val (.ref b286), .val (.ref t295), .val (.ref b300), .val (.int (Int32.ofNat xs2.length)), .val (.int (p3 &&& (255 : Int32))), .unset, .unset, .unset] [(.ref t346), (.ref b286)])) rfl (by rw [hml]; rfl) (Steps.refl _) (argsL := [(.ref t346)]) (rest := []) (lenOf pd__Ljava_lang_String__Lcom_example_chitragupta_chitragupta_ledger_KeyBuilder_ rfl) rfl (by show 2 * 0 + _ ≤ _; exact Nat.le_of_eq rfl) (hb hby at_92) (fun _ _ => ⟨rfl, rfl, (by decide : 6 + 1 ≤ _), (by decide : 91 + 1 ≤ _)⟩)
        dsimp only [Pt.U, Pt.locs, Pt.cells, Pt.slots] at X358 l358 y358 z358 st358 hQ358
        subst l358 y358 z358
        obtain ⟨rfl, N358q, K358q, B358q⟩ := hQ358
        have N358 := Fr.app N346 N358q
        have E_359 := E_347.keep K358q
        have VE2_360 := VE2_351.keep K358q (ninS (Ne.symm ne_b286_t295) (ninS (Ne.symm ne_r289_t295) nin0))
        have VI2_361 := VI2_352.keep K358q (ninS (Ne.symm ne_b286_b300) (ninS (Ne.symm ne_r289_b300) nin0))
        have E_362 := E_353.keep K358q
        have Fvalue_363 := Fvalue_354.keep K358q (ninS (Ne.symm ne_b286_t346) (ninS (Ne.symm ne_r289_t346) nin0))
        have Fcoder_364 := Fcoder_355.keep K358q (ninS (Ne.symm ne_b286_t346) (ninS (Ne.symm ne_r289_t346) nin0))
        have E_365 := E_356.keep K358q
        have V_366 := V_357.keep K358q (ninS (Ne.symm ne_b286_u346) (ninS (Ne.symm ne_r289_u346) nin0))
        have EX358 : Ext h0 T358.heap := own_ext_keep EX346 K358q (allS q286 (allS q289r all0))
        have Z358 : n0 ≤ T358.heap.size := Nat.le_trans Z0 EX358.1
        obtain ⟨E_367, Fbytes_368, Flength_369, V_370⟩ := id B358q
        obtain ⟨T371, h371, X371, e371, W371, V371, st371⟩ := own_stIx X358 hx hZ rfl VI2_361 (j := (Int32.ofNat xs2.length)) (own_lim0 hnn (N := 10) (z := (10 : Int32)) (by decide) (by omega) (by decide)).1 (own_lim0 hnn (N := 10) (z := (10 : Int32)) (by decide) (by omega) (by decide)).2 (g := (mkF m 110 #[.val (.int p1), .val (.int p2), .val (.int p3), .val (.int p4), .val (.ref b286), .val (.ref t295), .val (.ref b300), .val (.int (Int32.ofNat xs2.length)), .val (.int (p3 &&& (255 : Int32))), .unset, .unset, .unset] [(.int (p3 &&& (255 : Int32))), (.int (Int32.ofNat xs2.length)), (.ref b300)])) rfl rfl (hb hby at_110)
        have VE2_372 := VE2_360.other W371 ne_t295_b300
        have E_373 := E_362.wr W371
        have Fvalue_374 := Fvalue_363.other W371 (Or.inl (Ne.symm ne_b300_t346))
        have Fcoder_375 := Fcoder_364.other W371 (Or.inl (Ne.symm ne_b300_t346))
        have E_376 := E_365.wr W371
        have V_377 := V_366.other W371 (Ne.symm ne_b300_u346)
        have E_378 := E_367.wr W371
        have Fbytes_379 := Fbytes_368.other W371 (Or.inl ne_b286_b300)
        have Flength_380 := Flength_369.other W371 (Or.inl ne_b286_b300)
        have V_381 := V_370.other W371 ne_r289_b300
        have EX371 : Ext h0 h371 := own_ext_wr EX358 W371 q300
        have Z371 : n0 ≤ h371.size := Nat.le_trans Z0 EX371.1
        have N371 := Fr.snoc X371 N358 (Nat.le_trans Z0 q300)
        obtain ⟨xs371, hxs371⟩ : ∃ y, y = es2 ++ [(p3 &&& (255 : Int32))] := ⟨_, rfl⟩
        rw [← hxs371] at V371
        have hln371 : xs371.length = es2.length + 1 := by rw [hxs371, List.length_append]; rfl
        refine ⟨T371, _, ((Int32.ofNat xs2.length) + (1 : Int32)), (xs2 ++ [(nar .byte (p3 &&& (255 : Int32)).toInt8.toInt32)]), xs371, (.val (.int (p3 &&& (255 : Int32)))), X371.more (by decide) (by decide), N371, (by rw [e371]; exact EX371), (by rw [e371]; exact ⟨E_378, Fbytes_379, Flength_380, V_381⟩), (by rw [e371]; exact VE2_372), (by rw [e371]; exact V371), (by rw [hxs371, List.map_append, ← hxe2, (hc.1 hch).2]; rfl), (by rw [List.length_append]; show _ + 1 ≤ _; omega), (own_nk _ _ 1 rfl), Or.inr ⟨_, rfl, rfl⟩, ?_⟩
        intro t kk
        show Steps p.tables e below (U2.setTop (mkF m 71 #[.val (.int p1), .val (.int p2), .val (.int p3), .val (.int p4), .val (.ref b286), .val (.ref t295), .val (.ref b300), .val (.int (Int32.ofNat xs2.length)), .unset, .unset, .unset, .unset] [])) _
        refine XS.iloadN Y2.here hx rfl (hb hby at_71) rfl ?_
        show Steps p.tables e below (U2.setTop (mkF m 72 #[.val (.int p1), .val (.int p2), .val (.int p3), .val (.int p4), .val (.ref b286), .val (.ref t295), .val (.ref b300), .val (.int (Int32.ofNat xs2.length)), .unset, .unset, .unset, .unset] [(.int p4)])) _
        refine XT.iconstV Y2.here hx rfl (4 : Int32) (hb hby at_72) rfl ?_
        show Steps p.tables e below (U2.setTop (mkF m 73 #[.val (.int p1), .val (.int p2), .val (.int p3), .val (.int p4), .val (.ref b286), .val (.ref t295), .val (.ref b300), .val (.int (Int32.ofNat xs2.length)), .unset, .unset, .unset, .unset] [(.int (4 : Int32)), (.int p4)])) _
        refine XS.iand Y2.here hx rfl (hb hby at_73) rfl ?_
        show Steps p.tables e below (U2.setTop (mkF m 74 #[.val (.int p1), .val (.int p2), .val (.int p3), .val (.int p4), .val (.ref b286), .val (.ref t295), .val (.ref b300), .val (.int (Int32.ofNat xs2.length)), .unset, .unset, .unset, .unset] [(.int (p4 &&& (4 : Int32)))])) _
        refine XS.ifNo Y2.here hx rfl (hb hby at_74) rfl (XT.i0_eq_f hm) ?_
        show Steps p.tables e below (U2.setTop (mkF m 77 #[.val (.int p1), .val (.int p2), .val (.int p3), .val (.int p4), .val (.ref b286), .val (.ref t295), .val (.ref b300), .val (.int (Int32.ofNat xs2.length)), .unset, .unset, .unset, .unset] [])) _
        refine XS.iloadN Y2.here hx rfl (hb hby at_77) rfl ?_
        show Steps p.tables e below (U2.setTop (mkF m 78 #[.val (.int p1), .val (.int p2), .val (.int p3), .val (.int p4), .val (.ref b286), .val (.ref t295), .val (.ref b300), .val (.int (Int32.ofNat xs2.length)), .unset, .unset, .unset, .unset] [(.int p3)])) _
        refine XT.sipushV Y2.here hx rfl (255 : Int32) (hb hby at_78) (by decide) ?_
        show Steps p.tables e below (U2.setTop (mkF m 81 #[.val (.int p1), .val (.int p2), .val (.int p3), .val (.int p4), .val (.ref b286), .val (.ref t295), .val (.ref b300), .val (.int (Int32.ofNat xs2.length)), .unset, .unset, .unset, .unset] [(.int (255 : Int32)), (.int p3)])) _
        refine XS.iand Y2.here hx rfl (hb hby at_81) rfl ?_
        show Steps p.tables e below (U2.setTop (mkF m 82 #[.val (.int p1), .val (.int p2), .val (.int p3), .val (.int p4), .val (.ref b286), .val (.ref t295), .val (.ref b300), .val (.int (Int32.ofNat xs2.length)), .unset, .unset, .unset, .unset] [(.int (p3 &&& (255 : Int32)))])) _
        refine XS.istore Y2.here hx rfl (hb hby at_82) rfl (l' := #[.val (.int p1), .val (.int p2), .val (.int p3), .val (.int p4), .val (.ref b286), .val (.ref t295), .val (.ref b300), .val (.int (Int32.ofNat xs2.length)), .val (.int (p3 &&& (255 : Int32))), .unset, .unset, .unset]) rfl ?_
        show Steps p.tables e below (U2.setTop (mkF m 84 #[.val (.int p1), .val (.int p2), .val (.int p3), .val (.int p4), .val (.ref b286), .val (.ref t295), .val (.ref b300), .val (.int (Int32.ofNat xs2.length)), .val (.int (p3 &&& (255 : Int32))), .unset, .unset, .unset] [])) _
        refine XS.aload Y2.here hx rfl (hb hby at_84) rfl rfl ?_
        show Steps p.tables e below (U2.setTop (mkF m 86 #[.val (.int p1), .val (.int p2), .val (.int p3), .val (.int p4), .val (.ref b286), .val (.ref t295), .val (.ref b300), .val (.int (Int32.ofNat xs2.length)), .val (.int (p3 &&& (255 : Int32))), .unset, .unset, .unset] [(.ref b286)])) _
        refine XS.iload Y2.here hx rfl (hb hby at_86) rfl ?_
        show Steps p.tables e below (U2.setTop (mkF m 88 #[.val (.int p1), .val (.int p2), .val (.int p3), .val (.int p4), .val (.ref b286), .val (.ref t295), .val (.ref b300), .val (.int (Int32.ofNat xs2.length)), .val (.int (p3 &&& (255 : Int32))), .unset, .unset, .unset] [(.int (p3 &&& (255 : Int32))), (.ref b286)])) _
        refine XT.i2c Y2.here hx rfl (hb hby at_88) rfl ?_
        show Steps p.tables e below (U2.setTop (mkF m 89 #[.val (.int p1), .val (.int p2), .val (.int p3), .val (.int p4), .val (.ref b286), .val (.ref t295), .val (.ref b300), .val (.int (Int32.ofNat xs2.length)), .val (.int (p3 &&& (255 : Int32))), .unset, .unset, .unset] [(.int (p3 &&& (255 : Int32)).toUInt32.toUInt16.toUInt32.toInt32), (.ref b286)])) _
        rw [i2c_mask p3]
        show Steps p.tables e below (U2.setTop (mkF m 89 #[.val (.int p1), .val (.int p2), .val (.int p3), .val (.int p4), .val (.ref b286), .val (.ref t295), .val (.ref b300), .val (.int (Int32.ofNat xs2.length)), .val (.int (p3 &&& (255 : Int32))), .unset, .unset, .unset] [(.int (p3 &&& (255 : Int32))), (.ref b286)])) _
        refine st346 _ ?_
        show Steps p.tables e below (T346.setTop (mkF m 92 #[.val (.int p1), .val (.int p2), .val (.int p3), .val (.int p4), .val (.ref b286), .val (.ref t295), .val (.ref b300), .val (.int (Int32.ofNat xs2.length)), .val (.int (p3 &&& (255 : Int32))), .unset, .unset, .unset] [(.ref t346), (.ref b286)])) _
        refine st358.trans ?_
        show Steps p.tables e below (T358.setTop (mkF m 95 #[.val (.int p1), .val (.int p2), .val (.int p3), .val (.int p4), .val (.ref b286), .val (.ref t295), .val (.ref b300), .val (.int (Int32.ofNat xs2.length)), .val (.int (p3 &&& (255 : Int32))), .unset, .unset, .unset] [(.ref b286)])) _
        refine XT.pop X358.here hx rfl (hb hby at_95) rfl rfl ?_
        show Steps p.tables e below (T358.setTop (mkF m 96 #[.val (.int p1), .val (.int p2), .val (.int p3), .val (.int p4), .val (.ref b286), .val (.ref t295), .val (.ref b300), .val (.int (Int32.ofNat xs2.length)), .val (.int (p3 &&& (255 : Int32))), .unset, .unset, .unset] [])) _
        refine XS.iload X358.here hx rfl (hb hby at_96) rfl ?_
        show Steps p.tables e below (T358.setTop (mkF m 98 #[.val (.int p1), .val (.int p2), .val (.int p3), .val (.int p4), .val (.ref b286), .val (.ref t295), .val (.ref b300), .val (.int (Int32.ofNat xs2.length)), .val (.int (p3 &&& (255 : Int32))), .unset, .unset, .unset] [(.int (p3 &&& (255 : Int32)))])) _
        refine XT.sipushV X358.here hx rfl (128 : Int32) (hb hby at_98) (by decide) ?_
        show Steps p.tables e below (T358.setTop (mkF m 101 #[.val (.int p1), .val (.int p2), .val (.int p3), .val (.int p4), .val (.ref b286), .val (.ref t295), .val (.ref b300), .val (.int (Int32.ofNat xs2.length)), .val (.int (p3 &&& (255 : Int32))), .unset, .unset, .unset] [(.int (128 : Int32)), (.int (p3 &&& (255 : Int32)))])) _
        refine XS.icmpNo X358.here hx rfl (hb hby at_101) rfl (XT.ii_ge_f hch) ?_
        show Steps p.tables e below (T358.setTop (mkF m 104 #[.val (.int p1), .val (.int p2), .val (.int p3), .val (.int p4), .val (.ref b286), .val (.ref t295), .val (.ref b300), .val (.int (Int32.ofNat xs2.length)), .val (.int (p3 &&& (255 : Int32))), .unset, .unset, .unset] [])) _
        refine XS.aload X358.here hx rfl (hb hby at_104) rfl rfl ?_
        show Steps p.tables e below (T358.setTop (mkF m 106 #[.val (.int p1), .val (.int p2), .val (.int p3), .val (.int p4), .val (.ref b286), .val (.ref t295), .val (.ref b300), .val (.int (Int32.ofNat xs2.length)), .val (.int (p3 &&& (255 : Int32))), .unset, .unset, .unset] [(.ref b300)])) _
        refine XS.iload X358.here hx rfl (hb hby at_106) rfl ?_
        show Steps p.tables e below (T358.setTop (mkF m 108 #[.val (.int p1), .val (.int p2), .val (.int p3), .val (.int p4), .val (.ref b286), .val (.ref t295), .val (.ref b300), .val (.int (Int32.ofNat xs2.length)), .val (.int (p3 &&& (255 : Int32))), .unset, .unset, .unset] [(.int (Int32.ofNat xs2.length)), (.ref b300)])) _
        refine XS.iload X358.here hx rfl (hb hby at_108) rfl ?_
        show Steps p.tables e below (T358.setTop (mkF m 110 #[.val (.int p1), .val (.int p2), .val (.int p3), .val (.int p4), .val (.ref b286), .val (.ref t295), .val (.ref b300), .val (.int (Int32.ofNat xs2.length)), .val (.int (p3 &&& (255 : Int32))), .unset, .unset, .unset] [(.int (p3 &&& (255 : Int32))), (.int (Int32.ofNat xs2.length)), (.ref b300)])) _
        refine st371 _ ?_
        show Steps p.tables e below (T371.setTop (mkF m 111 #[.val (.int p1), .val (.int p2), .val (.int p3), .val (.int p4), .val (.ref b286), .val (.ref t295), .val (.ref b300), .val (.int (Int32.ofNat xs2.length)), .val (.int (p3 &&& (255 : Int32))), .unset, .unset, .unset] [])) _
        refine XS.iload X371.here hx rfl (hb hby at_111) rfl ?_
        show Steps p.tables e below (T371.setTop (mkF m 113 #[.val (.int p1), .val (.int p2), .val (.int p3), .val (.int p4), .val (.ref b286), .val (.ref t295), .val (.ref b300), .val (.int (Int32.ofNat xs2.length)), .val (.int (p3 &&& (255 : Int32))), .unset, .unset, .unset] [(.int (Int32.ofNat xs2.length))])) _
        refine XT.iconstV X371.here hx rfl (1 : Int32) (hb hby at_113) rfl ?_
        show Steps p.tables e below (T371.setTop (mkF m 114 #[.val (.int p1), .val (.int p2), .val (.int p3), .val (.int p4), .val (.ref b286), .val (.ref t295), .val (.ref b300), .val (.int (Int32.ofNat xs2.length)), .val (.int (p3 &&& (255 : Int32))), .unset, .unset, .unset] [(.int (1 : Int32)), (.int (Int32.ofNat xs2.length))])) _
        refine XS.iadd X371.here hx rfl (hb hby at_114) rfl ?_
        show Steps p.tables e below (T371.setTop (mkF m 115 #[.val (.int p1), .val (.int p2), .val (.int p3), .val (.int p4), .val (.ref b286), .val (.ref t295), .val (.ref b300), .val (.int (Int32.ofNat xs2.length)), .val (.int (p3 &&& (255 : Int32))), .unset, .unset, .unset] [(.int ((Int32.ofNat xs2.length) + (1 : Int32)))])) _
        refine XS.istore X371.here hx rfl (hb hby at_115) rfl (l' := #[.val (.int p1), .val (.int p2), .val (.int p3), .val (.int p4), .val (.ref b286), .val (.ref t295), .val (.ref b300), .val (.int ((Int32.ofNat xs2.length) + (1 : Int32))), .val (.int (p3 &&& (255 : Int32))), .unset, .unset, .unset]) rfl ?_
        show Steps p.tables e below (T371.setTop (mkF m 117 #[.val (.int p1), .val (.int p2), .val (.int p3), .val (.int p4), .val (.ref b286), .val (.ref t295), .val (.ref b300), .val (.int ((Int32.ofNat xs2.length) + (1 : Int32))), .val (.int (p3 &&& (255 : Int32))), .unset, .unset, .unset] [])) _
        refine XS.goto X371.here hx rfl (pc0 := 117) (pc' := 156) rfl (hb hby at_117) (by decide) (by decide) ?_
        show Steps p.tables e below (T371.setTop (mkF m 156 #[.val (.int p1), .val (.int p2), .val (.int p3), .val (.int p4), .val (.ref b286), .val (.ref t295), .val (.ref b300), .val (.int ((Int32.ofNat xs2.length) + (1 : Int32))), .val (.int (p3 &&& (255 : Int32))), .unset, .unset, .unset] [])) _
        exact kk
      · obtain ⟨E_342, Fbytes_343, Flength_344, V_345⟩ := id BU2
        have ne_b286_r289 : b286 ≠ r289 := E_342.neArv V_345 (hw _ (List.mem_of_getElem? (i := 1) rfl))
        obtain ⟨_, _, ⟨T382, L382, k382, n382⟩, -, X382, ⟨Lc382, hQ382, l382, y382, z382⟩, st382⟩ := Jvm.LawKit.callS Y2 hx (y := (⟨"java/lang/String", "valueOf", "(C)Ljava/lang/String;"⟩ : MethodName)) hown (mvT hZ (hw _ (List.mem_of_getElem? (i := 52) rfl))) (mvT hZ (hw _ (List.mem_of_getElem? (i := 53) rfl))) (mvT hZ (hw _ (List.mem_of_getElem? (i := 54) rfl))) (mvT hZ (hw _ (List.mem_of_getElem? (i := 55) rfl))) (by decide) (backOf (W := 1) (own_valueOf l Z a0 hw [] i7 (p3 &&& (255 : Int32)) U2.heap n0 ZU2 (S8.ext EU2) c9 (own_255 p3)) hZ (hw _ (List.mem_of_getElem? (i := 55) rfl)) (hw _ (List.mem_of_getElem? (i := 54) rfl)) (by decide) (by decide)) (g := (mkF m 89 #[.val (.int p1), .val (.int p2), .val (.int p3), .val (.int p4), .val (.ref b286), .val (.ref t295), .val (.ref b300), .val (.int (Int32.ofNat xs2.length)), .val (.int (p3 &&& (255 : Int32))), .unset, .unset, .unset] [(.int (p3 &&& (255 : Int32))), (.ref b286)])) rfl (by rw [hml]; rfl) (argsL := [(.int (p3 &&& (255 : Int32)))]) (rest := [(.ref b286)]) (lenOf pd__C_Ljava_lang_String_ rfl) rfl (by show 2 * 0 + _ ≤ _; exact Nat.le_of_eq rfl) (hb hby at_89) (fun _ _ => ⟨rfl, rfl, (by decide : 4 + 2 ≤ _), (by decide : 86 + 5 ≤ _)⟩)
        dsimp only [Pt.U, Pt.locs, Pt.cells, Pt.slots] at X382 l382 y382 z382 st382 hQ382
        subst l382 y382 z382
        obtain ⟨t382, u382, ku382, rfl, N382q, EE382, qq382, qu382, ntu382, B382q⟩ := hQ382
        have N382 := Fr.app NU2 N382q
        have q_t382 : h0.size ≤ t382 := Nat.le_trans EU2.1 qq382
        have ne_b286_t382 : b286 ≠ t382 := Nat.ne_of_lt (Nat.lt_of_lt_of_le E_342.lt qq382)
        have ne_r289_t382 : r289 ≠ t382 := Nat.ne_of_lt (Nat.lt_of_lt_of_le V_345.lt qq382)
        have ne_t295_t382 : t295 ≠ t382 := Nat.ne_of_lt (Nat.lt_of_lt_of_le VE2.lt qq382)
        have ne_b300_t382 : b300 ≠ t382 := Nat.ne_of_lt (Nat.lt_of_lt_of_le VI2.lt qq382)
        have q_u382 : h0.size ≤ u382 := Nat.le_trans EU2.1 qu382
        have ne_b286_u382 : b286 ≠ u382 := Nat.ne_of_lt (Nat.lt_of_lt_of_le E_342.lt qu382)
        have ne_r289_u382 : r289 ≠ u382 := Nat.ne_of_lt (Nat.lt_of_lt_of_le V_345.lt qu382)
        have ne_t295_u382 : t295 ≠ u382 := Nat.ne_of_lt (Nat.lt_of_lt_of_le VE2.lt qu382)
        have ne_b300_u382 : b300 ≠ u382 := Nat.ne_of_lt (Nat.lt_of_lt_of_le VI2.lt qu382)
        have E_383 := E_342.ext EE382
        have Fbytes_384 := Fbytes_343.ext EE382
        have Flength_385 := Flength_344.ext EE382
        have V_386 := V_345.ext EE382
        have VE2_387 := VE2.ext EE382
        have VI2_388 := VI2.ext EE382
        have EX382 : Ext h0 T382.heap := own_ext_trans EU2 EE382
        have Z382 : n0 ≤ T382.heap.size := Nat.le_trans Z0 EX382.1
        obtain ⟨E_389, Fvalue_390, Fcoder_391, E_392, V_393⟩ := id B382q
        obtain ⟨cq394, kq394, q394a, q394b, q394c⟩ := isOf hZ rfl E_383
        obtain ⟨_, _, ⟨T394, L394, k394, n394⟩, -, X394, ⟨Lc394, hQ394, l394, y394, z394⟩, st394⟩ := X382.virtualBack hx (y := (⟨"com/example/chitragupta/chitragupta/ledger/KeyBuilder", "last", "(Ljava/lang/String;)Lcom/example/chitragupta/chitragupta/ledger/KeyBuilder;"⟩ : MethodName)) (z := (⟨"com/example/chitragupta/chitragupta/ledger/KeyBuilder", "last", "(Ljava/lang/String;)Lcom/example/chitragupta/chitragupta/ledger/KeyBuilder;"⟩ : MethodName)) hown (mvT hZ (hw _ (List.mem_of_getElem? (i := 75) rfl))) (mvT hZ (hw _ (List.mem_of_getElem? (i := 76) rfl))) (notFace_of_selects (args := #[]) (mvT hZ (hw _ (List.mem_of_getElem? (i := 78) rfl)))) (mvT hZ (hw _ (List.mem_of_getElem? (i := 78) rfl))) (mvT hZ (hw _ (List.mem_of_getElem? (i := 77) rfl))) (by decide) (backOf (W := 0) (own_last_n l Z a0 hw [] b286 r289 k289r xs2 wu t382 u382 ku382 i7 (nar .byte (p3 &&& (255 : Int32)).toInt8.toInt32) T382.heap n0 Z382 ⟨E_383, Fbytes_384, Flength_385, V_386⟩ (S8.ext EX382) c9 ⟨E_389, Fvalue_390, Fcoder_391, E_392, V_393⟩ (hc.2 hch).1 (SI.ext EX382) (SU.ext EX382) ne_b286_t382 ne_b286_u382 ne_r289_t382 ne_r289_u382 (by omega) (Nat.le_trans Z0 q286) (Nat.le_trans Z0 q289r)) hZ (hw _ (List.mem_of_getElem? (i := 79) rfl)) (hw _ (List.mem_of_getElem? (i := 2) rfl)) (by decide) (by decide)) q394a q394c (g := (mkF m 92 #[.val (.int p1), .val (.int p2), .val (.int p3), .val (.int p4), .val (.ref b286), .val (.ref t295), .val (.ref b300), .val (.int (Int32.ofNat xs2.length)), .val (.int (p3 &&& (255 : Int32))), .unset, .unset, .unset] [(.ref t382), (.ref b286)])) rfl (by rw [hml]; rfl) (Steps.refl _) (argsL := [(.ref t382)]) (rest := []) (lenOf pd__Ljava_lang_String__Lcom_example_chitragupta_chitragupta_ledger_KeyBuilder_ rfl) rfl (by show 2 * 0 + _ ≤ _; exact Nat.le_of_eq rfl) (hb hby at_92) (fun _ _ => ⟨rfl, rfl, (by decide : 6 + 1 ≤ _), (by decide : 91 + 2 ≤ _)⟩)
        dsimp only [Pt.U, Pt.locs, Pt.cells, Pt.slots] at X394 l394 y394 z394 st394 hQ394
        subst l394 y394 z394
        obtain ⟨rfl, N394q, K394q, B394q⟩ := hQ394
        have N394 := Fr.app N382 N394q
        have E_395 := E_383.keep K394q
        have VE2_396 := VE2_387.keep K394q (ninS (Ne.symm ne_b286_t295) (ninS (Ne.symm ne_r289_t295) nin0))
        have VI2_397 := VI2_388.keep K394q (ninS (Ne.symm ne_b286_b300) (ninS (Ne.symm ne_r289_b300) nin0))
        have E_398 := E_389.keep K394q
        have Fvalue_399 := Fvalue_390.keep K394q (ninS (Ne.symm ne_b286_t382) (ninS (Ne.symm ne_r289_t382) nin0))
        have Fcoder_400 := Fcoder_391.keep K394q (ninS (Ne.symm ne_b286_t382) (ninS (Ne.symm ne_r289_t382) nin0))
        have E_401 := E_392.keep K394q
        have V_402 := V_393.keep K394q (ninS (Ne.symm ne_b286_u382) (ninS (Ne.symm ne_r289_u382) nin0))
        have EX394 : Ext h0 T394.heap := own_ext_keep EX382 K394q (allS q286 (allS q289r all0))
        have Z394 : n0 ≤ T394.heap.size := Nat.le_trans Z0 EX394.1
        obtain ⟨E_403, Fbytes_404, Flength_405, V_406⟩ := id B394q
        obtain ⟨T407, h407, X407, e407, W407, V407, st407⟩ := own_stIx X394 hx hZ rfl VI2_397 (j := (Int32.ofNat xs2.length)) (own_lim0 hnn (N := 10) (z := (10 : Int32)) (by decide) (by omega) (by decide)).1 (own_lim0 hnn (N := 10) (z := (10 : Int32)) (by decide) (by omega) (by decide)).2 (g := (mkF m 133 #[.val (.int p1), .val (.int p2), .val (.int p3), .val (.int p4), .val (.ref b286), .val (.ref t295), .val (.ref b300), .val (.int (Int32.ofNat xs2.length)), .val (.int (p3 &&& (255 : Int32))), .unset, .unset, .unset] [(.int ((192 : Int32) ||| (XT.ushr (p3 &&& (255 : Int32)) (6 : Int32)))), (.int (Int32.ofNat xs2.length)), (.ref b300)])) rfl rfl (hb hby at_133)
        have VE2_408 := VE2_396.other W407 ne_t295_b300
        have E_409 := E_398.wr W407
        have Fvalue_410 := Fvalue_399.other W407 (Or.inl (Ne.symm ne_b300_t382))
        have Fcoder_411 := Fcoder_400.other W407 (Or.inl (Ne.symm ne_b300_t382))
        have E_412 := E_401.wr W407
        have V_413 := V_402.other W407 (Ne.symm ne_b300_u382)
        have E_414 := E_403.wr W407
        have Fbytes_415 := Fbytes_404.other W407 (Or.inl ne_b286_b300)
        have Flength_416 := Flength_405.other W407 (Or.inl ne_b286_b300)
        have V_417 := V_406.other W407 ne_r289_b300
        have EX407 : Ext h0 h407 := own_ext_wr EX394 W407 q300
        have Z407 : n0 ≤ h407.size := Nat.le_trans Z0 EX407.1
        have N407 := Fr.snoc X407 N394 (Nat.le_trans Z0 q300)
        obtain ⟨xs407, hxs407⟩ : ∃ y, y = es2 ++ [((192 : Int32) ||| (XT.ushr (p3 &&& (255 : Int32)) (6 : Int32)))] := ⟨_, rfl⟩
        rw [← hxs407] at V407
        have hln407 : xs407.length = es2.length + 1 := by rw [hxs407, List.length_append]; rfl
        obtain ⟨T418, h418, X418, e418, W418, V418, st418⟩ := own_stIx X407 hx hZ e407 V407 (j := ((Int32.ofNat xs2.length) + (1 : Int32))) (own_lim2 hnn 1 (N := 10) (z := (10 : Int32)) (by decide) (by omega) (by decide)).1 ((own_lim2 hnn 1 (N := 10) (z := (10 : Int32)) (by decide) (by omega) (by decide)).2.trans hln407.symm) (g := (mkF m 149 #[.val (.int p1), .val (.int p2), .val (.int p3), .val (.int p4), .val (.ref b286), .val (.ref t295), .val (.ref b300), .val (.int (Int32.ofNat xs2.length)), .val (.int (p3 &&& (255 : Int32))), .unset, .unset, .unset] [(.int ((128 : Int32) ||| ((p3 &&& (255 : Int32)) &&& (63 : Int32)))), (.int ((Int32.ofNat xs2.length) + (1 : Int32))), (.ref b300)])) rfl rfl (hb hby at_149)
        have VE2_419 := VE2_408.other W418 ne_t295_b300
        have E_420 := E_409.wr W418
        have Fvalue_421 := Fvalue_410.other W418 (Or.inl (Ne.symm ne_b300_t382))
        have Fcoder_422 := Fcoder_411.other W418 (Or.inl (Ne.symm ne_b300_t382))
        have E_423 := E_412.wr W418
        have V_424 := V_413.other W418 (Ne.symm ne_b300_u382)
        have E_425 := E_414.wr W418
        have Fbytes_426 := Fbytes_415.other W418 (Or.inl ne_b286_b300)
        have Flength_427 := Flength_416.other W418 (Or.inl ne_b286_b300)
        have V_428 := V_417.other W418 ne_r289_b300
        have EX418 : Ext h0 h418 := own_ext_wr EX407 W418 q300
        have Z418 : n0 ≤ h418.size := Nat.le_trans Z0 EX418.1
        have N418 := Fr.snoc X418 N407 (Nat.le_trans Z0 q300)
        obtain ⟨xs418, hxs418⟩ : ∃ y, y = xs407 ++ [((128 : Int32) ||| ((p3 &&& (255 : Int32)) &&& (63 : Int32)))] := ⟨_, rfl⟩
        rw [← hxs418] at V418
        have hln418 : xs418.length = es2.length + 2 := by rw [hxs418, List.length_append, hln407]; rfl
        refine ⟨T418, _, ((Int32.ofNat xs2.length) + (2 : Int32)), (xs2 ++ [(nar .byte ((192 : Int32) ||| (((nar .byte (p3 &&& (255 : Int32)).toInt8.toInt32) &&& (255 : Int32)) >>> ((6 : Int32) &&& 31))).toInt8.toInt32), (nar .byte ((128 : Int32) ||| ((nar .byte (p3 &&& (255 : Int32)).toInt8.toInt32) &&& (63 : Int32))).toInt8.toInt32)]), xs418, (.val (.int (p3 &&& (255 : Int32)))), X418.more (by decide) (by decide), N418, (by rw [e418]; exact EX418), (by rw [e418]; exact ⟨E_425, Fbytes_426, Flength_427, V_428⟩), (by rw [e418]; exact VE2_419), (by rw [e418]; exact V418), (by rw [hxs418, hxs407, List.map_append, List.map_append, ← hxe2, (hc.2 hch).2.1, (hc.2 hch).2.2, List.append_assoc]; rfl), (by rw [List.length_append]; show _ + 2 ≤ _; omega), (own_nk _ _ 2 rfl), Or.inr ⟨_, rfl, rfl⟩, ?_⟩
        intro t kk
        show Steps p.tables e below (U2.setTop (mkF m 71 #[.val (.int p1), .val (.int p2), .val (.int p3), .val (.int p4), .val (.ref b286), .val (.ref t295), .val (.ref b300), .val (.int (Int32.ofNat xs2.length)), .unset, .unset, .unset, .unset] [])) _
        refine XS.iloadN Y2.here hx rfl (hb hby at_71) rfl ?_
        show Steps p.tables e below (U2.setTop (mkF m 72 #[.val (.int p1), .val (.int p2), .val (.int p3), .val (.int p4), .val (.ref b286), .val (.ref t295), .val (.ref b300), .val (.int (Int32.ofNat xs2.length)), .unset, .unset, .unset, .unset] [(.int p4)])) _
        refine XT.iconstV Y2.here hx rfl (4 : Int32) (hb hby at_72) rfl ?_
        show Steps p.tables e below (U2.setTop (mkF m 73 #[.val (.int p1), .val (.int p2), .val (.int p3), .val (.int p4), .val (.ref b286), .val (.ref t295), .val (.ref b300), .val (.int (Int32.ofNat xs2.length)), .unset, .unset, .unset, .unset] [(.int (4 : Int32)), (.int p4)])) _
        refine XS.iand Y2.here hx rfl (hb hby at_73) rfl ?_
        show Steps p.tables e below (U2.setTop (mkF m 74 #[.val (.int p1), .val (.int p2), .val (.int p3), .val (.int p4), .val (.ref b286), .val (.ref t295), .val (.ref b300), .val (.int (Int32.ofNat xs2.length)), .unset, .unset, .unset, .unset] [(.int (p4 &&& (4 : Int32)))])) _
        refine XS.ifNo Y2.here hx rfl (hb hby at_74) rfl (XT.i0_eq_f hm) ?_
        show Steps p.tables e below (U2.setTop (mkF m 77 #[.val (.int p1), .val (.int p2), .val (.int p3), .val (.int p4), .val (.ref b286), .val (.ref t295), .val (.ref b300), .val (.int (Int32.ofNat xs2.length)), .unset, .unset, .unset, .unset] [])) _
        refine XS.iloadN Y2.here hx rfl (hb hby at_77) rfl ?_
        show Steps p.tables e below (U2.setTop (mkF m 78 #[.val (.int p1), .val (.int p2), .val (.int p3), .val (.int p4), .val (.ref b286), .val (.ref t295), .val (.ref b300), .val (.int (Int32.ofNat xs2.length)), .unset, .unset, .unset, .unset] [(.int p3)])) _
        refine XT.sipushV Y2.here hx rfl (255 : Int32) (hb hby at_78) (by decide) ?_
        show Steps p.tables e below (U2.setTop (mkF m 81 #[.val (.int p1), .val (.int p2), .val (.int p3), .val (.int p4), .val (.ref b286), .val (.ref t295), .val (.ref b300), .val (.int (Int32.ofNat xs2.length)), .unset, .unset, .unset, .unset] [(.int (255 : Int32)), (.int p3)])) _
        refine XS.iand Y2.here hx rfl (hb hby at_81) rfl ?_
        show Steps p.tables e below (U2.setTop (mkF m 82 #[.val (.int p1), .val (.int p2), .val (.int p3), .val (.int p4), .val (.ref b286), .val (.ref t295), .val (.ref b300), .val (.int (Int32.ofNat xs2.length)), .unset, .unset, .unset, .unset] [(.int (p3 &&& (255 : Int32)))])) _
        refine XS.istore Y2.here hx rfl (hb hby at_82) rfl (l' := #[.val (.int p1), .val (.int p2), .val (.int p3), .val (.int p4), .val (.ref b286), .val (.ref t295), .val (.ref b300), .val (.int (Int32.ofNat xs2.length)), .val (.int (p3 &&& (255 : Int32))), .unset, .unset, .unset]) rfl ?_
        show Steps p.tables e below (U2.setTop (mkF m 84 #[.val (.int p1), .val (.int p2), .val (.int p3), .val (.int p4), .val (.ref b286), .val (.ref t295), .val (.ref b300), .val (.int (Int32.ofNat xs2.length)), .val (.int (p3 &&& (255 : Int32))), .unset, .unset, .unset] [])) _
        refine XS.aload Y2.here hx rfl (hb hby at_84) rfl rfl ?_
        show Steps p.tables e below (U2.setTop (mkF m 86 #[.val (.int p1), .val (.int p2), .val (.int p3), .val (.int p4), .val (.ref b286), .val (.ref t295), .val (.ref b300), .val (.int (Int32.ofNat xs2.length)), .val (.int (p3 &&& (255 : Int32))), .unset, .unset, .unset] [(.ref b286)])) _
        refine XS.iload Y2.here hx rfl (hb hby at_86) rfl ?_
        show Steps p.tables e below (U2.setTop (mkF m 88 #[.val (.int p1), .val (.int p2), .val (.int p3), .val (.int p4), .val (.ref b286), .val (.ref t295), .val (.ref b300), .val (.int (Int32.ofNat xs2.length)), .val (.int (p3 &&& (255 : Int32))), .unset, .unset, .unset] [(.int (p3 &&& (255 : Int32))), (.ref b286)])) _
        refine XT.i2c Y2.here hx rfl (hb hby at_88) rfl ?_
        show Steps p.tables e below (U2.setTop (mkF m 89 #[.val (.int p1), .val (.int p2), .val (.int p3), .val (.int p4), .val (.ref b286), .val (.ref t295), .val (.ref b300), .val (.int (Int32.ofNat xs2.length)), .val (.int (p3 &&& (255 : Int32))), .unset, .unset, .unset] [(.int (p3 &&& (255 : Int32)).toUInt32.toUInt16.toUInt32.toInt32), (.ref b286)])) _
        rw [i2c_mask p3]
        show Steps p.tables e below (U2.setTop (mkF m 89 #[.val (.int p1), .val (.int p2), .val (.int p3), .val (.int p4), .val (.ref b286), .val (.ref t295), .val (.ref b300), .val (.int (Int32.ofNat xs2.length)), .val (.int (p3 &&& (255 : Int32))), .unset, .unset, .unset] [(.int (p3 &&& (255 : Int32))), (.ref b286)])) _
        refine st382 _ ?_
        show Steps p.tables e below (T382.setTop (mkF m 92 #[.val (.int p1), .val (.int p2), .val (.int p3), .val (.int p4), .val (.ref b286), .val (.ref t295), .val (.ref b300), .val (.int (Int32.ofNat xs2.length)), .val (.int (p3 &&& (255 : Int32))), .unset, .unset, .unset] [(.ref t382), (.ref b286)])) _
        refine st394.trans ?_
        show Steps p.tables e below (T394.setTop (mkF m 95 #[.val (.int p1), .val (.int p2), .val (.int p3), .val (.int p4), .val (.ref b286), .val (.ref t295), .val (.ref b300), .val (.int (Int32.ofNat xs2.length)), .val (.int (p3 &&& (255 : Int32))), .unset, .unset, .unset] [(.ref b286)])) _
        refine XT.pop X394.here hx rfl (hb hby at_95) rfl rfl ?_
        show Steps p.tables e below (T394.setTop (mkF m 96 #[.val (.int p1), .val (.int p2), .val (.int p3), .val (.int p4), .val (.ref b286), .val (.ref t295), .val (.ref b300), .val (.int (Int32.ofNat xs2.length)), .val (.int (p3 &&& (255 : Int32))), .unset, .unset, .unset] [])) _
        refine XS.iload X394.here hx rfl (hb hby at_96) rfl ?_
        show Steps p.tables e below (T394.setTop (mkF m 98 #[.val (.int p1), .val (.int p2), .val (.int p3), .val (.int p4), .val (.ref b286), .val (.ref t295), .val (.ref b300), .val (.int (Int32.ofNat xs2.length)), .val (.int (p3 &&& (255 : Int32))), .unset, .unset, .unset] [(.int (p3 &&& (255 : Int32)))])) _
        refine XT.sipushV X394.here hx rfl (128 : Int32) (hb hby at_98) (by decide) ?_
        show Steps p.tables e below (T394.setTop (mkF m 101 #[.val (.int p1), .val (.int p2), .val (.int p3), .val (.int p4), .val (.ref b286), .val (.ref t295), .val (.ref b300), .val (.int (Int32.ofNat xs2.length)), .val (.int (p3 &&& (255 : Int32))), .unset, .unset, .unset] [(.int (128 : Int32)), (.int (p3 &&& (255 : Int32)))])) _
        refine XS.icmpYes X394.here hx rfl (pc0 := 101) (pc' := 120) rfl (hb hby at_101) rfl (XT.ii_ge_t hch) (by decide) (by decide) ?_
        show Steps p.tables e below (T394.setTop (mkF m 120 #[.val (.int p1), .val (.int p2), .val (.int p3), .val (.int p4), .val (.ref b286), .val (.ref t295), .val (.ref b300), .val (.int (Int32.ofNat xs2.length)), .val (.int (p3 &&& (255 : Int32))), .unset, .unset, .unset] [])) _
        refine XS.aload X394.here hx rfl (hb hby at_120) rfl rfl ?_
        show Steps p.tables e below (T394.setTop (mkF m 122 #[.val (.int p1), .val (.int p2), .val (.int p3), .val (.int p4), .val (.ref b286), .val (.ref t295), .val (.ref b300), .val (.int (Int32.ofNat xs2.length)), .val (.int (p3 &&& (255 : Int32))), .unset, .unset, .unset] [(.ref b300)])) _
        refine XS.iload X394.here hx rfl (hb hby at_122) rfl ?_
        show Steps p.tables e below (T394.setTop (mkF m 124 #[.val (.int p1), .val (.int p2), .val (.int p3), .val (.int p4), .val (.ref b286), .val (.ref t295), .val (.ref b300), .val (.int (Int32.ofNat xs2.length)), .val (.int (p3 &&& (255 : Int32))), .unset, .unset, .unset] [(.int (Int32.ofNat xs2.length)), (.ref b300)])) _
        refine XT.sipushV X394.here hx rfl (192 : Int32) (hb hby at_124) (by decide) ?_
        show Steps p.tables e below (T394.setTop (mkF m 127 #[.val (.int p1), .val (.int p2), .val (.int p3), .val (.int p4), .val (.ref b286), .val (.ref t295), .val (.ref b300), .val (.int (Int32.ofNat xs2.length)), .val (.int (p3 &&& (255 : Int32))), .unset, .unset, .unset] [(.int (192 : Int32)), (.int (Int32.ofNat xs2.length)), (.ref b300)])) _
        refine XS.iload X394.here hx rfl (hb hby at_127) rfl ?_
        show Steps p.tables e below (T394.setTop (mkF m 129 #[.val (.int p1), .val (.int p2), .val (.int p3), .val (.int p4), .val (.ref b286), .val (.ref t295), .val (.ref b300), .val (.int (Int32.ofNat xs2.length)), .val (.int (p3 &&& (255 : Int32))), .unset, .unset, .unset] [(.int (p3 &&& (255 : Int32))), (.int (192 : Int32)), (.int (Int32.ofNat xs2.length)), (.ref b300)])) _
        refine XT.bipushV X394.here hx rfl (6 : Int32) (hb hby at_129) (by decide) ?_
        show Steps p.tables e below (T394.setTop (mkF m 131 #[.val (.int p1), .val (.int p2), .val (.int p3), .val (.int p4), .val (.ref b286), .val (.ref t295), .val (.ref b300), .val (.int (Int32.ofNat xs2.length)), .val (.int (p3 &&& (255 : Int32))), .unset, .unset, .unset] [(.int (6 : Int32)), (.int (p3 &&& (255 : Int32))), (.int (192 : Int32)), (.int (Int32.ofNat xs2.length)), (.ref b300)])) _
        refine XT.iushr X394.here hx rfl (hb hby at_131) rfl ?_
        show Steps p.tables e below (T394.setTop (mkF m 132 #[.val (.int p1), .val (.int p2), .val (.int p3), .val (.int p4), .val (.ref b286), .val (.ref t295), .val (.ref b300), .val (.int (Int32.ofNat xs2.length)), .val (.int (p3 &&& (255 : Int32))), .unset, .unset, .unset] [(.int (XT.ushr (p3 &&& (255 : Int32)) (6 : Int32))), (.int (192 : Int32)), (.int (Int32.ofNat xs2.length)), (.ref b300)])) _
        refine XT.ior X394.here hx rfl (hb hby at_132) rfl ?_
        show Steps p.tables e below (T394.setTop (mkF m 133 #[.val (.int p1), .val (.int p2), .val (.int p3), .val (.int p4), .val (.ref b286), .val (.ref t295), .val (.ref b300), .val (.int (Int32.ofNat xs2.length)), .val (.int (p3 &&& (255 : Int32))), .unset, .unset, .unset] [(.int ((192 : Int32) ||| (XT.ushr (p3 &&& (255 : Int32)) (6 : Int32)))), (.int (Int32.ofNat xs2.length)), (.ref b300)])) _
        refine st407 _ ?_
        show Steps p.tables e below (T407.setTop (mkF m 134 #[.val (.int p1), .val (.int p2), .val (.int p3), .val (.int p4), .val (.ref b286), .val (.ref t295), .val (.ref b300), .val (.int (Int32.ofNat xs2.length)), .val (.int (p3 &&& (255 : Int32))), .unset, .unset, .unset] [])) _
        refine XS.aload X407.here hx rfl (hb hby at_134) rfl rfl ?_
        show Steps p.tables e below (T407.setTop (mkF m 136 #[.val (.int p1), .val (.int p2), .val (.int p3), .val (.int p4), .val (.ref b286), .val (.ref t295), .val (.ref b300), .val (.int (Int32.ofNat xs2.length)), .val (.int (p3 &&& (255 : Int32))), .unset, .unset, .unset] [(.ref b300)])) _
        refine XS.iload X407.here hx rfl (hb hby at_136) rfl ?_
        show Steps p.tables e below (T407.setTop (mkF m 138 #[.val (.int p1), .val (.int p2), .val (.int p3), .val (.int p4), .val (.ref b286), .val (.ref t295), .val (.ref b300), .val (.int (Int32.ofNat xs2.length)), .val (.int (p3 &&& (255 : Int32))), .unset, .unset, .unset] [(.int (Int32.ofNat xs2.length)), (.ref b300)])) _
        refine XT.iconstV X407.here hx rfl (1 : Int32) (hb hby at_138) rfl ?_
        show Steps p.tables e below (T407.setTop (mkF m 139 #[.val (.int p1), .val (.int p2), .val (.int p3), .val (.int p4), .val (.ref b286), .val (.ref t295), .val (.ref b300), .val (.int (Int32.ofNat xs2.length)), .val (.int (p3 &&& (255 : Int32))), .unset, .unset, .unset] [(.int (1 : Int32)), (.int (Int32.ofNat xs2.length)), (.ref b300)])) _
        refine XS.iadd X407.here hx rfl (hb hby at_139) rfl ?_
        show Steps p.tables e below (T407.setTop (mkF m 140 #[.val (.int p1), .val (.int p2), .val (.int p3), .val (.int p4), .val (.ref b286), .val (.ref t295), .val (.ref b300), .val (.int (Int32.ofNat xs2.length)), .val (.int (p3 &&& (255 : Int32))), .unset, .unset, .unset] [(.int ((Int32.ofNat xs2.length) + (1 : Int32))), (.ref b300)])) _
        refine XT.sipushV X407.here hx rfl (128 : Int32) (hb hby at_140) (by decide) ?_
        show Steps p.tables e below (T407.setTop (mkF m 143 #[.val (.int p1), .val (.int p2), .val (.int p3), .val (.int p4), .val (.ref b286), .val (.ref t295), .val (.ref b300), .val (.int (Int32.ofNat xs2.length)), .val (.int (p3 &&& (255 : Int32))), .unset, .unset, .unset] [(.int (128 : Int32)), (.int ((Int32.ofNat xs2.length) + (1 : Int32))), (.ref b300)])) _
        refine XS.iload X407.here hx rfl (hb hby at_143) rfl ?_
        show Steps p.tables e below (T407.setTop (mkF m 145 #[.val (.int p1), .val (.int p2), .val (.int p3), .val (.int p4), .val (.ref b286), .val (.ref t295), .val (.ref b300), .val (.int (Int32.ofNat xs2.length)), .val (.int (p3 &&& (255 : Int32))), .unset, .unset, .unset] [(.int (p3 &&& (255 : Int32))), (.int (128 : Int32)), (.int ((Int32.ofNat xs2.length) + (1 : Int32))), (.ref b300)])) _
        refine XT.bipushV X407.here hx rfl (63 : Int32) (hb hby at_145) (by decide) ?_
        show Steps p.tables e below (T407.setTop (mkF m 147 #[.val (.int p1), .val (.int p2), .val (.int p3), .val (.int p4), .val (.ref b286), .val (.ref t295), .val (.ref b300), .val (.int (Int32.ofNat xs2.length)), .val (.int (p3 &&& (255 : Int32))), .unset, .unset, .unset] [(.int (63 : Int32)), (.int (p3 &&& (255 : Int32))), (.int (128 : Int32)), (.int ((Int32.ofNat xs2.length) + (1 : Int32))), (.ref b300)])) _
        refine XS.iand X407.here hx rfl (hb hby at_147) rfl ?_
        show Steps p.tables e below (T407.setTop (mkF m 148 #[.val (.int p1), .val (.int p2), .val (.int p3), .val (.int p4), .val (.ref b286), .val (.ref t295), .val (.ref b300), .val (.int (Int32.ofNat xs2.length)), .val (.int (p3 &&& (255 : Int32))), .unset, .unset, .unset] [(.int ((p3 &&& (255 : Int32)) &&& (63 : Int32))), (.int (128 : Int32)), (.int ((Int32.ofNat xs2.length) + (1 : Int32))), (.ref b300)])) _
        refine XT.ior X407.here hx rfl (hb hby at_148) rfl ?_
        show Steps p.tables e below (T407.setTop (mkF m 149 #[.val (.int p1), .val (.int p2), .val (.int p3), .val (.int p4), .val (.ref b286), .val (.ref t295), .val (.ref b300), .val (.int (Int32.ofNat xs2.length)), .val (.int (p3 &&& (255 : Int32))), .unset, .unset, .unset] [(.int ((128 : Int32) ||| ((p3 &&& (255 : Int32)) &&& (63 : Int32)))), (.int ((Int32.ofNat xs2.length) + (1 : Int32))), (.ref b300)])) _
        refine st418 _ ?_
        show Steps p.tables e below (T418.setTop (mkF m 150 #[.val (.int p1), .val (.int p2), .val (.int p3), .val (.int p4), .val (.ref b286), .val (.ref t295), .val (.ref b300), .val (.int (Int32.ofNat xs2.length)), .val (.int (p3 &&& (255 : Int32))), .unset, .unset, .unset] [])) _
        refine XS.iload X418.here hx rfl (hb hby at_150) rfl ?_
        show Steps p.tables e below (T418.setTop (mkF m 152 #[.val (.int p1), .val (.int p2), .val (.int p3), .val (.int p4), .val (.ref b286), .val (.ref t295), .val (.ref b300), .val (.int (Int32.ofNat xs2.length)), .val (.int (p3 &&& (255 : Int32))), .unset, .unset, .unset] [(.int (Int32.ofNat xs2.length))])) _
        refine XT.iconstV X418.here hx rfl (2 : Int32) (hb hby at_152) rfl ?_
        show Steps p.tables e below (T418.setTop (mkF m 153 #[.val (.int p1), .val (.int p2), .val (.int p3), .val (.int p4), .val (.ref b286), .val (.ref t295), .val (.ref b300), .val (.int (Int32.ofNat xs2.length)), .val (.int (p3 &&& (255 : Int32))), .unset, .unset, .unset] [(.int (2 : Int32)), (.int (Int32.ofNat xs2.length))])) _
        refine XS.iadd X418.here hx rfl (hb hby at_153) rfl ?_
        show Steps p.tables e below (T418.setTop (mkF m 154 #[.val (.int p1), .val (.int p2), .val (.int p3), .val (.int p4), .val (.ref b286), .val (.ref t295), .val (.ref b300), .val (.int (Int32.ofNat xs2.length)), .val (.int (p3 &&& (255 : Int32))), .unset, .unset, .unset] [(.int ((Int32.ofNat xs2.length) + (2 : Int32)))])) _
        refine XS.istore X418.here hx rfl (hb hby at_154) rfl (l' := #[.val (.int p1), .val (.int p2), .val (.int p3), .val (.int p4), .val (.ref b286), .val (.ref t295), .val (.ref b300), .val (.int ((Int32.ofNat xs2.length) + (2 : Int32))), .val (.int (p3 &&& (255 : Int32))), .unset, .unset, .unset]) rfl ?_
        show Steps p.tables e below (T418.setTop (mkF m 156 #[.val (.int p1), .val (.int p2), .val (.int p3), .val (.int p4), .val (.ref b286), .val (.ref t295), .val (.ref b300), .val (.int ((Int32.ofNat xs2.length) + (2 : Int32))), .val (.int (p3 &&& (255 : Int32))), .unset, .unset, .unset] [])) _
        exact kk
  obtain ⟨U3, lo3, nn3, xs3, es3, l8, Y3, NU3, EU3, BU3, VE3, VI3, hxe3, hlx3, rfl, hl8, thru3⟩ := thr3
  have ZU3 : n0 ≤ U3.heap.size := Nat.le_trans Z0 EU3.1
  have hle3 : xs3.length = es3.length := by rw [hxe3, List.length_map]
  have hnn : Int32.ofNat xs3.length = Int32.ofNat es3.length := by rw [hle3]
  have hxe := hxe3
  have hn10 := own_le10 hlx3
  have hq : ∀ i : Nat, xs3.getD i 0 = (es3.getD i 0).toInt8.toInt32 := fun i => by rw [hxe]; exact own_getmap es3 i
  have thru := fun t k => thru0 t (thru1 t (thru2 t (thru3 t k)))
  obtain ⟨E_429, Fbytes_430, Flength_431, V_432⟩ := id BU3
  have ne_b286_r289 : b286 ≠ r289 := E_429.neArv V_432 (hw _ (List.mem_of_getElem? (i := 1) rfl))
  obtain ⟨cq433, kq433, q433a, q433b, q433c⟩ := isOf hZ rfl E_429
  obtain ⟨_, _, ⟨T433, L433, k433, n433⟩, -, X433, ⟨Lc433, hQ433, l433, y433, z433⟩, st433⟩ := Y3.virtualBack hx (y := (⟨"com/example/chitragupta/chitragupta/ledger/KeyBuilder", "build", "()[B"⟩ : MethodName)) (z := (⟨"com/example/chitragupta/chitragupta/ledger/KeyBuilder", "build", "()[B"⟩ : MethodName)) hown (mvT hZ (hw _ (List.mem_of_getElem? (i := 12) rfl))) (mvT hZ (hw _ (List.mem_of_getElem? (i := 13) rfl))) (notFace_of_selects (args := #[]) (mvT hZ (hw _ (List.mem_of_getElem? (i := 15) rfl)))) (mvT hZ (hw _ (List.mem_of_getElem? (i := 15) rfl))) (mvT hZ (hw _ (List.mem_of_getElem? (i := 14) rfl))) (by decide) (backOf (W := 0) (own_build l Z a0 hw [] b286 r289 k289r xs3 U3.heap n0 ZU3 ⟨E_429, Fbytes_430, Flength_431, V_432⟩ hlx3) hZ (hw _ (List.mem_of_getElem? (i := 16) rfl)) (hw _ (List.mem_of_getElem? (i := 2) rfl)) (by decide) (by decide)) q433a q433c (g := (mkF m 158 #[.val (.int p1), .val (.int p2), .val (.int p3), .val (.int p4), .val (.ref b286), .val (.ref t295), .val (.ref b300), .val (.int (Int32.ofNat xs3.length)), l8, .unset, .unset, .unset] [(.ref b286)])) rfl (by rw [hml]; rfl) (Steps.refl _) (argsL := []) (rest := []) (lenOf pd___ArB rfl) rfl (by show 2 * 0 + _ ≤ _; exact Nat.le_of_eq rfl) (hb hby at_158) (fun _ _ => ⟨rfl, rfl, (by decide : 7 + 1 ≤ _), (by decide : 93 + 10 ≤ _)⟩)
  dsimp only [Pt.U, Pt.locs, Pt.cells, Pt.slots] at X433 l433 y433 z433 st433 hQ433
  subst l433 y433 z433
  obtain ⟨t433, kt433, rfl, N433q, EE433, qq433, V433t⟩ := hQ433
  have N433 := Fr.app NU3 N433q
  have q_t433 : h0.size ≤ t433 := Nat.le_trans EU3.1 qq433
  have ne_b286_t433 : b286 ≠ t433 := Nat.ne_of_lt (Nat.lt_of_lt_of_le E_429.lt qq433)
  have ne_r289_t433 : r289 ≠ t433 := Nat.ne_of_lt (Nat.lt_of_lt_of_le V_432.lt qq433)
  have ne_t295_t433 : t295 ≠ t433 := Nat.ne_of_lt (Nat.lt_of_lt_of_le VE3.lt qq433)
  have ne_b300_t433 : b300 ≠ t433 := Nat.ne_of_lt (Nat.lt_of_lt_of_le VI3.lt qq433)
  have E_434 := E_429.ext EE433
  have Fbytes_435 := Fbytes_430.ext EE433
  have Flength_436 := Flength_431.ext EE433
  have V_437 := V_432.ext EE433
  have VE3_438 := VE3.ext EE433
  have VI3_439 := VI3.ext EE433
  have EX433 : Ext h0 T433.heap := own_ext_trans EU3 EE433
  have Z433 : n0 ≤ T433.heap.size := Nat.le_trans Z0 EX433.1
  obtain ⟨cq440, kq440, q440a, q440b, q440c⟩ := isOf hZ rfl E_434
  obtain ⟨_, _, ⟨T440, L440, k440, n440⟩, -, X440, ⟨Lc440, hQ440, l440, y440, z440⟩, st440⟩ := X433.virtualBack hx (y := (⟨"com/example/chitragupta/chitragupta/ledger/KeyBuilder", "build", "()[B"⟩ : MethodName)) (z := (⟨"com/example/chitragupta/chitragupta/ledger/KeyBuilder", "build", "()[B"⟩ : MethodName)) hown (mvT hZ (hw _ (List.mem_of_getElem? (i := 12) rfl))) (mvT hZ (hw _ (List.mem_of_getElem? (i := 13) rfl))) (notFace_of_selects (args := #[]) (mvT hZ (hw _ (List.mem_of_getElem? (i := 15) rfl)))) (mvT hZ (hw _ (List.mem_of_getElem? (i := 15) rfl))) (mvT hZ (hw _ (List.mem_of_getElem? (i := 14) rfl))) (by decide) (backOf (W := 0) (own_build l Z a0 hw [] b286 r289 k289r xs3 T433.heap n0 Z433 ⟨E_434, Fbytes_435, Flength_436, V_437⟩ hlx3) hZ (hw _ (List.mem_of_getElem? (i := 16) rfl)) (hw _ (List.mem_of_getElem? (i := 2) rfl)) (by decide) (by decide)) q440a q440c (g := (mkF m 165 #[.val (.int p1), .val (.int p2), .val (.int p3), .val (.int p4), .val (.ref b286), .val (.ref t295), .val (.ref b300), .val (.int (Int32.ofNat xs3.length)), .val (.ref t433), .unset, .unset, .unset] [(.ref b286)])) rfl (by rw [hml]; rfl) (Steps.refl _) (argsL := []) (rest := []) (lenOf pd___ArB rfl) rfl (by show 2 * 0 + _ ≤ _; exact Nat.le_of_eq rfl) (hb hby at_165) (fun _ _ => ⟨rfl, rfl, (by decide : 8 + 1 ≤ _), (by decide : 103 + 10 ≤ _)⟩)
  dsimp only [Pt.U, Pt.locs, Pt.cells, Pt.slots] at X440 l440 y440 z440 st440 hQ440
  subst l440 y440 z440
  obtain ⟨t440, kt440, rfl, N440q, EE440, qq440, V440t⟩ := hQ440
  have N440 := Fr.app N433 N440q
  have q_t440 : h0.size ≤ t440 := Nat.le_trans EX433.1 qq440
  have ne_b286_t440 : b286 ≠ t440 := Nat.ne_of_lt (Nat.lt_of_lt_of_le E_434.lt qq440)
  have ne_r289_t440 : r289 ≠ t440 := Nat.ne_of_lt (Nat.lt_of_lt_of_le V_437.lt qq440)
  have ne_t295_t440 : t295 ≠ t440 := Nat.ne_of_lt (Nat.lt_of_lt_of_le VE3_438.lt qq440)
  have ne_b300_t440 : b300 ≠ t440 := Nat.ne_of_lt (Nat.lt_of_lt_of_le VI3_439.lt qq440)
  have ne_t433_t440 : t433 ≠ t440 := Nat.ne_of_lt (Nat.lt_of_lt_of_le V433t.lt qq440)
  have E_441 := E_434.ext EE440
  have Fbytes_442 := Fbytes_435.ext EE440
  have Flength_443 := Flength_436.ext EE440
  have V_444 := V_437.ext EE440
  have VE3_445 := VE3_438.ext EE440
  have VI3_446 := VI3_439.ext EE440
  have V433t_447 := V433t.ext EE440
  have EX440 : Ext h0 T440.heap := own_ext_trans EX433 EE440
  have Z440 : n0 ≤ T440.heap.size := Nat.le_trans Z0 EX440.1
  obtain ⟨cl448, Ar448, -, Sz448, Nz448, -⟩ := id VE3_445
  obtain ⟨cl449, Ar449, -, Sz449, Nz449, -⟩ := id V433t_447
  obtain ⟨cl450, Ar450, -, Sz450, Nz450, -⟩ := id V440t
  obtain ⟨_, _, ⟨T451, L451, k451, n451⟩, -, X451, ⟨Lc451, hQ451, l451, y451, z451⟩, st451⟩ := Jvm.LawKit.callS X440 hx (y := (⟨"com/example/chitragupta/chitragupta/ledger/KeyBuilderBuildPinLaw", "same", "([B[B[III)Z"⟩ : MethodName)) hown (mvT hZ (hw _ (List.mem_of_getElem? (i := 49) rfl))) (mvT hZ (hw _ (List.mem_of_getElem? (i := 50) rfl))) (mvT hZ (hw _ (List.mem_of_getElem? (i := 47) rfl))) (mvT hZ (hw _ (List.mem_of_getElem? (i := 51) rfl))) (by decide) (backOf (W := 0) (own_same l Z a0 hw [] t433 t440 b300 kt433 kt440 k300 xs3 es3 (Int32.ofNat xs3.length) (0 : Int32) T440.heap n0 Z440 V433t_447 V440t VI3_446 hxe hn10 (by decide)) hZ (hw _ (List.mem_of_getElem? (i := 51) rfl)) (hw _ (List.mem_of_getElem? (i := 47) rfl)) (by decide) (by decide)) (g := (mkF m 203 #[.val (.int p1), .val (.int p2), .val (.int p3), .val (.int p4), .val (.ref b286), .val (.ref t295), .val (.ref b300), .val (.int (Int32.ofNat xs3.length)), .val (.ref t433), .val (.ref t440), .unset, .unset] [(.int (0 : Int32)), (.int (Int32.ofNat xs3.length)), (.ref b300), (.ref t440), (.ref t433)])) rfl (by rw [hml]; rfl) (argsL := [(.ref t433), (.ref t440), (.ref b300), (.int (Int32.ofNat xs3.length)), (.int (0 : Int32))]) (rest := []) (lenOf pd__ArBArBArIII_Z rfl) rfl (by show 2 * 0 + _ ≤ _; exact Nat.le_of_eq rfl) (hb hby at_203) (fun _ _ => ⟨rfl, rfl, (by decide : 9 + 0 ≤ _), (by decide : 113 + 0 ≤ _)⟩)
  dsimp only [Pt.U, Pt.locs, Pt.cells, Pt.slots] at X451 l451 y451 z451 st451 hQ451
  subst l451 y451 z451
  obtain ⟨rfl, N451q, e451⟩ := hQ451
  have N451 := Fr.app N440 N451q
  obtain ⟨_, _, ⟨T452, L452, k452, n452⟩, -, X452, ⟨Lc452, hQ452, l452, y452, z452⟩, st452⟩ := Jvm.LawKit.callS X451 hx (y := (⟨"com/example/chitragupta/chitragupta/ledger/KeyBuilderBuildPinLaw", "same", "([B[B[III)Z"⟩ : MethodName)) hown (mvT hZ (hw _ (List.mem_of_getElem? (i := 49) rfl))) (mvT hZ (hw _ (List.mem_of_getElem? (i := 50) rfl))) (mvT hZ (hw _ (List.mem_of_getElem? (i := 47) rfl))) (mvT hZ (hw _ (List.mem_of_getElem? (i := 51) rfl))) (by decide) (backOf (W := 0) (own_same l Z a0 hw [] t433 t440 b300 kt433 kt440 k300 xs3 es3 (Int32.ofNat xs3.length) (1 : Int32) T440.heap n0 Z440 V433t_447 V440t VI3_446 hxe hn10 (by decide)) hZ (hw _ (List.mem_of_getElem? (i := 51) rfl)) (hw _ (List.mem_of_getElem? (i := 47) rfl)) (by decide) (by decide)) (g := (mkF m 218 #[.val (.int p1), .val (.int p2), .val (.int p3), .val (.int p4), .val (.ref b286), .val (.ref t295), .val (.ref b300), .val (.int (Int32.ofNat xs3.length)), .val (.ref t433), .val (.ref t440), .unset, .unset] [(.int (1 : Int32)), (.int (Int32.ofNat xs3.length)), (.ref b300), (.ref t440), (.ref t433)])) rfl (by rw [hml]; rfl) (argsL := [(.ref t433), (.ref t440), (.ref b300), (.int (Int32.ofNat xs3.length)), (.int (1 : Int32))]) (rest := []) (lenOf pd__ArBArBArIII_Z rfl) rfl (by show 2 * 0 + _ ≤ _; exact Nat.le_of_eq rfl) (hb hby at_218) (fun _ _ => ⟨rfl, e451, (by decide : 9 + 0 ≤ _), (by decide : 113 + 0 ≤ _)⟩)
  dsimp only [Pt.U, Pt.locs, Pt.cells, Pt.slots] at X452 l452 y452 z452 st452 hQ452
  subst l452 y452 z452
  obtain ⟨rfl, N452q, e452⟩ := hQ452
  have N452 := Fr.app N451 N452q
  obtain ⟨_, _, ⟨T453, L453, k453, n453⟩, -, X453, ⟨Lc453, hQ453, l453, y453, z453⟩, st453⟩ := Jvm.LawKit.callS X452 hx (y := (⟨"com/example/chitragupta/chitragupta/ledger/KeyBuilderBuildPinLaw", "same", "([B[B[III)Z"⟩ : MethodName)) hown (mvT hZ (hw _ (List.mem_of_getElem? (i := 49) rfl))) (mvT hZ (hw _ (List.mem_of_getElem? (i := 50) rfl))) (mvT hZ (hw _ (List.mem_of_getElem? (i := 47) rfl))) (mvT hZ (hw _ (List.mem_of_getElem? (i := 51) rfl))) (by decide) (backOf (W := 0) (own_same l Z a0 hw [] t433 t440 b300 kt433 kt440 k300 xs3 es3 (Int32.ofNat xs3.length) (2 : Int32) T440.heap n0 Z440 V433t_447 V440t VI3_446 hxe hn10 (by decide)) hZ (hw _ (List.mem_of_getElem? (i := 51) rfl)) (hw _ (List.mem_of_getElem? (i := 47) rfl)) (by decide) (by decide)) (g := (mkF m 233 #[.val (.int p1), .val (.int p2), .val (.int p3), .val (.int p4), .val (.ref b286), .val (.ref t295), .val (.ref b300), .val (.int (Int32.ofNat xs3.length)), .val (.ref t433), .val (.ref t440), .unset, .unset] [(.int (2 : Int32)), (.int (Int32.ofNat xs3.length)), (.ref b300), (.ref t440), (.ref t433)])) rfl (by rw [hml]; rfl) (argsL := [(.ref t433), (.ref t440), (.ref b300), (.int (Int32.ofNat xs3.length)), (.int (2 : Int32))]) (rest := []) (lenOf pd__ArBArBArIII_Z rfl) rfl (by show 2 * 0 + _ ≤ _; exact Nat.le_of_eq rfl) (hb hby at_233) (fun _ _ => ⟨rfl, e452, (by decide : 9 + 0 ≤ _), (by decide : 113 + 0 ≤ _)⟩)
  dsimp only [Pt.U, Pt.locs, Pt.cells, Pt.slots] at X453 l453 y453 z453 st453 hQ453
  subst l453 y453 z453
  obtain ⟨rfl, N453q, e453⟩ := hQ453
  have N453 := Fr.app N452 N453q
  obtain ⟨_, _, ⟨T454, L454, k454, n454⟩, -, X454, ⟨Lc454, hQ454, l454, y454, z454⟩, st454⟩ := Jvm.LawKit.callS X453 hx (y := (⟨"com/example/chitragupta/chitragupta/ledger/KeyBuilderBuildPinLaw", "same", "([B[B[III)Z"⟩ : MethodName)) hown (mvT hZ (hw _ (List.mem_of_getElem? (i := 49) rfl))) (mvT hZ (hw _ (List.mem_of_getElem? (i := 50) rfl))) (mvT hZ (hw _ (List.mem_of_getElem? (i := 47) rfl))) (mvT hZ (hw _ (List.mem_of_getElem? (i := 51) rfl))) (by decide) (backOf (W := 0) (own_same l Z a0 hw [] t433 t440 b300 kt433 kt440 k300 xs3 es3 (Int32.ofNat xs3.length) (3 : Int32) T440.heap n0 Z440 V433t_447 V440t VI3_446 hxe hn10 (by decide)) hZ (hw _ (List.mem_of_getElem? (i := 51) rfl)) (hw _ (List.mem_of_getElem? (i := 47) rfl)) (by decide) (by decide)) (g := (mkF m 248 #[.val (.int p1), .val (.int p2), .val (.int p3), .val (.int p4), .val (.ref b286), .val (.ref t295), .val (.ref b300), .val (.int (Int32.ofNat xs3.length)), .val (.ref t433), .val (.ref t440), .unset, .unset] [(.int (3 : Int32)), (.int (Int32.ofNat xs3.length)), (.ref b300), (.ref t440), (.ref t433)])) rfl (by rw [hml]; rfl) (argsL := [(.ref t433), (.ref t440), (.ref b300), (.int (Int32.ofNat xs3.length)), (.int (3 : Int32))]) (rest := []) (lenOf pd__ArBArBArIII_Z rfl) rfl (by show 2 * 0 + _ ≤ _; exact Nat.le_of_eq rfl) (hb hby at_248) (fun _ _ => ⟨rfl, e453, (by decide : 9 + 0 ≤ _), (by decide : 113 + 0 ≤ _)⟩)
  dsimp only [Pt.U, Pt.locs, Pt.cells, Pt.slots] at X454 l454 y454 z454 st454 hQ454
  subst l454 y454 z454
  obtain ⟨rfl, N454q, e454⟩ := hQ454
  have N454 := Fr.app N453 N454q
  obtain ⟨_, _, ⟨T455, L455, k455, n455⟩, -, X455, ⟨Lc455, hQ455, l455, y455, z455⟩, st455⟩ := Jvm.LawKit.callS X454 hx (y := (⟨"com/example/chitragupta/chitragupta/ledger/KeyBuilderBuildPinLaw", "same", "([B[B[III)Z"⟩ : MethodName)) hown (mvT hZ (hw _ (List.mem_of_getElem? (i := 49) rfl))) (mvT hZ (hw _ (List.mem_of_getElem? (i := 50) rfl))) (mvT hZ (hw _ (List.mem_of_getElem? (i := 47) rfl))) (mvT hZ (hw _ (List.mem_of_getElem? (i := 51) rfl))) (by decide) (backOf (W := 0) (own_same l Z a0 hw [] t433 t440 b300 kt433 kt440 k300 xs3 es3 (Int32.ofNat xs3.length) (4 : Int32) T440.heap n0 Z440 V433t_447 V440t VI3_446 hxe hn10 (by decide)) hZ (hw _ (List.mem_of_getElem? (i := 51) rfl)) (hw _ (List.mem_of_getElem? (i := 47) rfl)) (by decide) (by decide)) (g := (mkF m 263 #[.val (.int p1), .val (.int p2), .val (.int p3), .val (.int p4), .val (.ref b286), .val (.ref t295), .val (.ref b300), .val (.int (Int32.ofNat xs3.length)), .val (.ref t433), .val (.ref t440), .unset, .unset] [(.int (4 : Int32)), (.int (Int32.ofNat xs3.length)), (.ref b300), (.ref t440), (.ref t433)])) rfl (by rw [hml]; rfl) (argsL := [(.ref t433), (.ref t440), (.ref b300), (.int (Int32.ofNat xs3.length)), (.int (4 : Int32))]) (rest := []) (lenOf pd__ArBArBArIII_Z rfl) rfl (by show 2 * 0 + _ ≤ _; exact Nat.le_of_eq rfl) (hb hby at_263) (fun _ _ => ⟨rfl, e454, (by decide : 9 + 0 ≤ _), (by decide : 113 + 0 ≤ _)⟩)
  dsimp only [Pt.U, Pt.locs, Pt.cells, Pt.slots] at X455 l455 y455 z455 st455 hQ455
  subst l455 y455 z455
  obtain ⟨rfl, N455q, e455⟩ := hQ455
  have N455 := Fr.app N454 N455q
  obtain ⟨_, _, ⟨T456, L456, k456, n456⟩, -, X456, ⟨Lc456, hQ456, l456, y456, z456⟩, st456⟩ := Jvm.LawKit.callS X455 hx (y := (⟨"com/example/chitragupta/chitragupta/ledger/KeyBuilderBuildPinLaw", "same", "([B[B[III)Z"⟩ : MethodName)) hown (mvT hZ (hw _ (List.mem_of_getElem? (i := 49) rfl))) (mvT hZ (hw _ (List.mem_of_getElem? (i := 50) rfl))) (mvT hZ (hw _ (List.mem_of_getElem? (i := 47) rfl))) (mvT hZ (hw _ (List.mem_of_getElem? (i := 51) rfl))) (by decide) (backOf (W := 0) (own_same l Z a0 hw [] t433 t440 b300 kt433 kt440 k300 xs3 es3 (Int32.ofNat xs3.length) (5 : Int32) T440.heap n0 Z440 V433t_447 V440t VI3_446 hxe hn10 (by decide)) hZ (hw _ (List.mem_of_getElem? (i := 51) rfl)) (hw _ (List.mem_of_getElem? (i := 47) rfl)) (by decide) (by decide)) (g := (mkF m 278 #[.val (.int p1), .val (.int p2), .val (.int p3), .val (.int p4), .val (.ref b286), .val (.ref t295), .val (.ref b300), .val (.int (Int32.ofNat xs3.length)), .val (.ref t433), .val (.ref t440), .unset, .unset] [(.int (5 : Int32)), (.int (Int32.ofNat xs3.length)), (.ref b300), (.ref t440), (.ref t433)])) rfl (by rw [hml]; rfl) (argsL := [(.ref t433), (.ref t440), (.ref b300), (.int (Int32.ofNat xs3.length)), (.int (5 : Int32))]) (rest := []) (lenOf pd__ArBArBArIII_Z rfl) rfl (by show 2 * 0 + _ ≤ _; exact Nat.le_of_eq rfl) (hb hby at_278) (fun _ _ => ⟨rfl, e455, (by decide : 9 + 0 ≤ _), (by decide : 113 + 0 ≤ _)⟩)
  dsimp only [Pt.U, Pt.locs, Pt.cells, Pt.slots] at X456 l456 y456 z456 st456 hQ456
  subst l456 y456 z456
  obtain ⟨rfl, N456q, e456⟩ := hQ456
  have N456 := Fr.app N455 N456q
  obtain ⟨_, _, ⟨T457, L457, k457, n457⟩, -, X457, ⟨Lc457, hQ457, l457, y457, z457⟩, st457⟩ := Jvm.LawKit.callS X456 hx (y := (⟨"com/example/chitragupta/chitragupta/ledger/KeyBuilderBuildPinLaw", "same", "([B[B[III)Z"⟩ : MethodName)) hown (mvT hZ (hw _ (List.mem_of_getElem? (i := 49) rfl))) (mvT hZ (hw _ (List.mem_of_getElem? (i := 50) rfl))) (mvT hZ (hw _ (List.mem_of_getElem? (i := 47) rfl))) (mvT hZ (hw _ (List.mem_of_getElem? (i := 51) rfl))) (by decide) (backOf (W := 0) (own_same l Z a0 hw [] t433 t440 b300 kt433 kt440 k300 xs3 es3 (Int32.ofNat xs3.length) (6 : Int32) T440.heap n0 Z440 V433t_447 V440t VI3_446 hxe hn10 (by decide)) hZ (hw _ (List.mem_of_getElem? (i := 51) rfl)) (hw _ (List.mem_of_getElem? (i := 47) rfl)) (by decide) (by decide)) (g := (mkF m 294 #[.val (.int p1), .val (.int p2), .val (.int p3), .val (.int p4), .val (.ref b286), .val (.ref t295), .val (.ref b300), .val (.int (Int32.ofNat xs3.length)), .val (.ref t433), .val (.ref t440), .unset, .unset] [(.int (6 : Int32)), (.int (Int32.ofNat xs3.length)), (.ref b300), (.ref t440), (.ref t433)])) rfl (by rw [hml]; rfl) (argsL := [(.ref t433), (.ref t440), (.ref b300), (.int (Int32.ofNat xs3.length)), (.int (6 : Int32))]) (rest := []) (lenOf pd__ArBArBArIII_Z rfl) rfl (by show 2 * 0 + _ ≤ _; exact Nat.le_of_eq rfl) (hb hby at_294) (fun _ _ => ⟨rfl, e456, (by decide : 9 + 0 ≤ _), (by decide : 113 + 0 ≤ _)⟩)
  dsimp only [Pt.U, Pt.locs, Pt.cells, Pt.slots] at X457 l457 y457 z457 st457 hQ457
  subst l457 y457 z457
  obtain ⟨rfl, N457q, e457⟩ := hQ457
  have N457 := Fr.app N456 N457q
  obtain ⟨_, _, ⟨T458, L458, k458, n458⟩, -, X458, ⟨Lc458, hQ458, l458, y458, z458⟩, st458⟩ := Jvm.LawKit.callS X457 hx (y := (⟨"com/example/chitragupta/chitragupta/ledger/KeyBuilderBuildPinLaw", "same", "([B[B[III)Z"⟩ : MethodName)) hown (mvT hZ (hw _ (List.mem_of_getElem? (i := 49) rfl))) (mvT hZ (hw _ (List.mem_of_getElem? (i := 50) rfl))) (mvT hZ (hw _ (List.mem_of_getElem? (i := 47) rfl))) (mvT hZ (hw _ (List.mem_of_getElem? (i := 51) rfl))) (by decide) (backOf (W := 0) (own_same l Z a0 hw [] t433 t440 b300 kt433 kt440 k300 xs3 es3 (Int32.ofNat xs3.length) (7 : Int32) T440.heap n0 Z440 V433t_447 V440t VI3_446 hxe hn10 (by decide)) hZ (hw _ (List.mem_of_getElem? (i := 51) rfl)) (hw _ (List.mem_of_getElem? (i := 47) rfl)) (by decide) (by decide)) (g := (mkF m 310 #[.val (.int p1), .val (.int p2), .val (.int p3), .val (.int p4), .val (.ref b286), .val (.ref t295), .val (.ref b300), .val (.int (Int32.ofNat xs3.length)), .val (.ref t433), .val (.ref t440), .unset, .unset] [(.int (7 : Int32)), (.int (Int32.ofNat xs3.length)), (.ref b300), (.ref t440), (.ref t433)])) rfl (by rw [hml]; rfl) (argsL := [(.ref t433), (.ref t440), (.ref b300), (.int (Int32.ofNat xs3.length)), (.int (7 : Int32))]) (rest := []) (lenOf pd__ArBArBArIII_Z rfl) rfl (by show 2 * 0 + _ ≤ _; exact Nat.le_of_eq rfl) (hb hby at_310) (fun _ _ => ⟨rfl, e457, (by decide : 9 + 0 ≤ _), (by decide : 113 + 0 ≤ _)⟩)
  dsimp only [Pt.U, Pt.locs, Pt.cells, Pt.slots] at X458 l458 y458 z458 st458 hQ458
  subst l458 y458 z458
  obtain ⟨rfl, N458q, e458⟩ := hQ458
  have N458 := Fr.app N457 N458q
  obtain ⟨_, _, ⟨T459, L459, k459, n459⟩, -, X459, ⟨Lc459, hQ459, l459, y459, z459⟩, st459⟩ := Jvm.LawKit.callS X458 hx (y := (⟨"com/example/chitragupta/chitragupta/ledger/KeyBuilderBuildPinLaw", "same", "([B[B[III)Z"⟩ : MethodName)) hown (mvT hZ (hw _ (List.mem_of_getElem? (i := 49) rfl))) (mvT hZ (hw _ (List.mem_of_getElem? (i := 50) rfl))) (mvT hZ (hw _ (List.mem_of_getElem? (i := 47) rfl))) (mvT hZ (hw _ (List.mem_of_getElem? (i := 51) rfl))) (by decide) (backOf (W := 0) (own_same l Z a0 hw [] t433 t440 b300 kt433 kt440 k300 xs3 es3 (Int32.ofNat xs3.length) (8 : Int32) T440.heap n0 Z440 V433t_447 V440t VI3_446 hxe hn10 (by decide)) hZ (hw _ (List.mem_of_getElem? (i := 51) rfl)) (hw _ (List.mem_of_getElem? (i := 47) rfl)) (by decide) (by decide)) (g := (mkF m 326 #[.val (.int p1), .val (.int p2), .val (.int p3), .val (.int p4), .val (.ref b286), .val (.ref t295), .val (.ref b300), .val (.int (Int32.ofNat xs3.length)), .val (.ref t433), .val (.ref t440), .unset, .unset] [(.int (8 : Int32)), (.int (Int32.ofNat xs3.length)), (.ref b300), (.ref t440), (.ref t433)])) rfl (by rw [hml]; rfl) (argsL := [(.ref t433), (.ref t440), (.ref b300), (.int (Int32.ofNat xs3.length)), (.int (8 : Int32))]) (rest := []) (lenOf pd__ArBArBArIII_Z rfl) rfl (by show 2 * 0 + _ ≤ _; exact Nat.le_of_eq rfl) (hb hby at_326) (fun _ _ => ⟨rfl, e458, (by decide : 9 + 0 ≤ _), (by decide : 113 + 0 ≤ _)⟩)
  dsimp only [Pt.U, Pt.locs, Pt.cells, Pt.slots] at X459 l459 y459 z459 st459 hQ459
  subst l459 y459 z459
  obtain ⟨rfl, N459q, e459⟩ := hQ459
  have N459 := Fr.app N458 N459q
  obtain ⟨_, _, ⟨T460, L460, k460, n460⟩, -, X460, ⟨Lc460, hQ460, l460, y460, z460⟩, st460⟩ := Jvm.LawKit.callS X459 hx (y := (⟨"com/example/chitragupta/chitragupta/ledger/KeyBuilderBuildPinLaw", "same", "([B[B[III)Z"⟩ : MethodName)) hown (mvT hZ (hw _ (List.mem_of_getElem? (i := 49) rfl))) (mvT hZ (hw _ (List.mem_of_getElem? (i := 50) rfl))) (mvT hZ (hw _ (List.mem_of_getElem? (i := 47) rfl))) (mvT hZ (hw _ (List.mem_of_getElem? (i := 51) rfl))) (by decide) (backOf (W := 0) (own_same l Z a0 hw [] t433 t440 b300 kt433 kt440 k300 xs3 es3 (Int32.ofNat xs3.length) (9 : Int32) T440.heap n0 Z440 V433t_447 V440t VI3_446 hxe hn10 (by decide)) hZ (hw _ (List.mem_of_getElem? (i := 51) rfl)) (hw _ (List.mem_of_getElem? (i := 47) rfl)) (by decide) (by decide)) (g := (mkF m 342 #[.val (.int p1), .val (.int p2), .val (.int p3), .val (.int p4), .val (.ref b286), .val (.ref t295), .val (.ref b300), .val (.int (Int32.ofNat xs3.length)), .val (.ref t433), .val (.ref t440), .unset, .unset] [(.int (9 : Int32)), (.int (Int32.ofNat xs3.length)), (.ref b300), (.ref t440), (.ref t433)])) rfl (by rw [hml]; rfl) (argsL := [(.ref t433), (.ref t440), (.ref b300), (.int (Int32.ofNat xs3.length)), (.int (9 : Int32))]) (rest := []) (lenOf pd__ArBArBArIII_Z rfl) rfl (by show 2 * 0 + _ ≤ _; exact Nat.le_of_eq rfl) (hb hby at_342) (fun _ _ => ⟨rfl, e459, (by decide : 9 + 0 ≤ _), (by decide : 113 + 0 ≤ _)⟩)
  dsimp only [Pt.U, Pt.locs, Pt.cells, Pt.slots] at X460 l460 y460 z460 st460 hQ460
  subst l460 y460 z460
  obtain ⟨rfl, N460q, e460⟩ := hQ460
  have N460 := Fr.app N459 N460q
  have pre2 : ∀ t, Steps p.tables e below (T460.setTop (mkF m 362 #[.val (.int p1), .val (.int p2), .val (.int p3), .val (.int p4), .val (.ref b286), .val (.ref t295), .val (.ref b300), .val (.int (Int32.ofNat xs3.length)), .val (.ref t433), .val (.ref t440), .val (.int (1 : Int32)), .unset] [])) t → Steps p.tables e below (U3.setTop (mkF m 156 #[.val (.int p1), .val (.int p2), .val (.int p3), .val (.int p4), .val (.ref b286), .val (.ref t295), .val (.ref b300), .val (.int (Int32.ofNat xs3.length)), l8, .unset, .unset, .unset] [])) t := by
    intro t kk
    show Steps p.tables e below (U3.setTop (mkF m 156 #[.val (.int p1), .val (.int p2), .val (.int p3), .val (.int p4), .val (.ref b286), .val (.ref t295), .val (.ref b300), .val (.int (Int32.ofNat xs3.length)), l8, .unset, .unset, .unset] [])) _
    refine XS.aload Y3.here hx rfl (hb hby at_156) rfl rfl ?_
    show Steps p.tables e below (U3.setTop (mkF m 158 #[.val (.int p1), .val (.int p2), .val (.int p3), .val (.int p4), .val (.ref b286), .val (.ref t295), .val (.ref b300), .val (.int (Int32.ofNat xs3.length)), l8, .unset, .unset, .unset] [(.ref b286)])) _
    refine st433.trans ?_
    show Steps p.tables e below (T433.setTop (mkF m 161 #[.val (.int p1), .val (.int p2), .val (.int p3), .val (.int p4), .val (.ref b286), .val (.ref t295), .val (.ref b300), .val (.int (Int32.ofNat xs3.length)), l8, .unset, .unset, .unset] [(.ref t433)])) _
    refine XS.astoreS X433.here hx rfl (hb hby at_161) rfl rfl rfl rfl hl8 ?_
    show Steps p.tables e below (T433.setTop (mkF m 163 #[.val (.int p1), .val (.int p2), .val (.int p3), .val (.int p4), .val (.ref b286), .val (.ref t295), .val (.ref b300), .val (.int (Int32.ofNat xs3.length)), .val (.ref t433), .unset, .unset, .unset] [])) _
    refine XS.aload X433.here hx rfl (hb hby at_163) rfl rfl ?_
    show Steps p.tables e below (T433.setTop (mkF m 165 #[.val (.int p1), .val (.int p2), .val (.int p3), .val (.int p4), .val (.ref b286), .val (.ref t295), .val (.ref b300), .val (.int (Int32.ofNat xs3.length)), .val (.ref t433), .unset, .unset, .unset] [(.ref b286)])) _
    refine st440.trans ?_
    show Steps p.tables e below (T440.setTop (mkF m 168 #[.val (.int p1), .val (.int p2), .val (.int p3), .val (.int p4), .val (.ref b286), .val (.ref t295), .val (.ref b300), .val (.int (Int32.ofNat xs3.length)), .val (.ref t433), .unset, .unset, .unset] [(.ref t440)])) _
    refine XS.astore X440.here hx rfl (hb hby at_168) rfl rfl (l' := #[.val (.int p1), .val (.int p2), .val (.int p3), .val (.int p4), .val (.ref b286), .val (.ref t295), .val (.ref b300), .val (.int (Int32.ofNat xs3.length)), .val (.ref t433), .val (.ref t440), .unset, .unset]) rfl ?_
    show Steps p.tables e below (T440.setTop (mkF m 170 #[.val (.int p1), .val (.int p2), .val (.int p3), .val (.int p4), .val (.ref b286), .val (.ref t295), .val (.ref b300), .val (.int (Int32.ofNat xs3.length)), .val (.ref t433), .val (.ref t440), .unset, .unset] [])) _
    refine XS.aload X440.here hx rfl (hb hby at_170) rfl rfl ?_
    show Steps p.tables e below (T440.setTop (mkF m 172 #[.val (.int p1), .val (.int p2), .val (.int p3), .val (.int p4), .val (.ref b286), .val (.ref t295), .val (.ref b300), .val (.int (Int32.ofNat xs3.length)), .val (.ref t433), .val (.ref t440), .unset, .unset] [(.ref t295)])) _
    refine X440.arraylength hx (by exact Ar448.1) (State.isArrayOf_alike hZ.alike Ar448.2.1) (g := (mkF m 172 #[.val (.int p1), .val (.int p2), .val (.int p3), .val (.int p4), .val (.ref b286), .val (.ref t295), .val (.ref b300), .val (.int (Int32.ofNat xs3.length)), .val (.ref t433), .val (.ref t440), .unset, .unset] [(.ref t295)])) rfl rfl (hb hby at_172) _ ?_
    rw [len_of Sz448 Nz448]
    show Steps p.tables e below (T440.setTop (mkF m 173 #[.val (.int p1), .val (.int p2), .val (.int p3), .val (.int p4), .val (.ref b286), .val (.ref t295), .val (.ref b300), .val (.int (Int32.ofNat xs3.length)), .val (.ref t433), .val (.ref t440), .unset, .unset] [(.int (Int32.ofNat ([] : List Int32).length))])) _
    refine XS.ifNo X440.here hx rfl (hb hby at_173) rfl (XT.i0_ne_f rfl) ?_
    show Steps p.tables e below (T440.setTop (mkF m 176 #[.val (.int p1), .val (.int p2), .val (.int p3), .val (.int p4), .val (.ref b286), .val (.ref t295), .val (.ref b300), .val (.int (Int32.ofNat xs3.length)), .val (.ref t433), .val (.ref t440), .unset, .unset] [])) _
    refine XS.aload X440.here hx rfl (hb hby at_176) rfl rfl ?_
    show Steps p.tables e below (T440.setTop (mkF m 178 #[.val (.int p1), .val (.int p2), .val (.int p3), .val (.int p4), .val (.ref b286), .val (.ref t295), .val (.ref b300), .val (.int (Int32.ofNat xs3.length)), .val (.ref t433), .val (.ref t440), .unset, .unset] [(.ref t433)])) _
    refine X440.arraylength hx (by exact Ar449.1) (State.isArrayOf_alike hZ.alike Ar449.2.1) (g := (mkF m 178 #[.val (.int p1), .val (.int p2), .val (.int p3), .val (.int p4), .val (.ref b286), .val (.ref t295), .val (.ref b300), .val (.int (Int32.ofNat xs3.length)), .val (.ref t433), .val (.ref t440), .unset, .unset] [(.ref t433)])) rfl rfl (hb hby at_178) _ ?_
    rw [len_of Sz449 Nz449]
    show Steps p.tables e below (T440.setTop (mkF m 179 #[.val (.int p1), .val (.int p2), .val (.int p3), .val (.int p4), .val (.ref b286), .val (.ref t295), .val (.ref b300), .val (.int (Int32.ofNat xs3.length)), .val (.ref t433), .val (.ref t440), .unset, .unset] [(.int (Int32.ofNat xs3.length))])) _
    refine XS.iload X440.here hx rfl (hb hby at_179) rfl ?_
    show Steps p.tables e below (T440.setTop (mkF m 181 #[.val (.int p1), .val (.int p2), .val (.int p3), .val (.int p4), .val (.ref b286), .val (.ref t295), .val (.ref b300), .val (.int (Int32.ofNat xs3.length)), .val (.ref t433), .val (.ref t440), .unset, .unset] [(.int (Int32.ofNat xs3.length)), (.int (Int32.ofNat xs3.length))])) _
    refine XS.icmpNo X440.here hx rfl (hb hby at_181) rfl (XT.ii_ne_f rfl) ?_
    show Steps p.tables e below (T440.setTop (mkF m 184 #[.val (.int p1), .val (.int p2), .val (.int p3), .val (.int p4), .val (.ref b286), .val (.ref t295), .val (.ref b300), .val (.int (Int32.ofNat xs3.length)), .val (.ref t433), .val (.ref t440), .unset, .unset] [])) _
    refine XS.aload X440.here hx rfl (hb hby at_184) rfl rfl ?_
    show Steps p.tables e below (T440.setTop (mkF m 186 #[.val (.int p1), .val (.int p2), .val (.int p3), .val (.int p4), .val (.ref b286), .val (.ref t295), .val (.ref b300), .val (.int (Int32.ofNat xs3.length)), .val (.ref t433), .val (.ref t440), .unset, .unset] [(.ref t440)])) _
    refine X440.arraylength hx (by exact Ar450.1) (State.isArrayOf_alike hZ.alike Ar450.2.1) (g := (mkF m 186 #[.val (.int p1), .val (.int p2), .val (.int p3), .val (.int p4), .val (.ref b286), .val (.ref t295), .val (.ref b300), .val (.int (Int32.ofNat xs3.length)), .val (.ref t433), .val (.ref t440), .unset, .unset] [(.ref t440)])) rfl rfl (hb hby at_186) _ ?_
    rw [len_of Sz450 Nz450]
    show Steps p.tables e below (T440.setTop (mkF m 187 #[.val (.int p1), .val (.int p2), .val (.int p3), .val (.int p4), .val (.ref b286), .val (.ref t295), .val (.ref b300), .val (.int (Int32.ofNat xs3.length)), .val (.ref t433), .val (.ref t440), .unset, .unset] [(.int (Int32.ofNat xs3.length))])) _
    refine XS.iload X440.here hx rfl (hb hby at_187) rfl ?_
    show Steps p.tables e below (T440.setTop (mkF m 189 #[.val (.int p1), .val (.int p2), .val (.int p3), .val (.int p4), .val (.ref b286), .val (.ref t295), .val (.ref b300), .val (.int (Int32.ofNat xs3.length)), .val (.ref t433), .val (.ref t440), .unset, .unset] [(.int (Int32.ofNat xs3.length)), (.int (Int32.ofNat xs3.length))])) _
    refine XS.icmpYes X440.here hx rfl (pc0 := 189) (pc' := 194) rfl (hb hby at_189) rfl (XT.ii_eq_t rfl) (by decide) (by decide) ?_
    show Steps p.tables e below (T440.setTop (mkF m 194 #[.val (.int p1), .val (.int p2), .val (.int p3), .val (.int p4), .val (.ref b286), .val (.ref t295), .val (.ref b300), .val (.int (Int32.ofNat xs3.length)), .val (.ref t433), .val (.ref t440), .unset, .unset] [])) _
    refine XS.aload X440.here hx rfl (hb hby at_194) rfl rfl ?_
    show Steps p.tables e below (T440.setTop (mkF m 196 #[.val (.int p1), .val (.int p2), .val (.int p3), .val (.int p4), .val (.ref b286), .val (.ref t295), .val (.ref b300), .val (.int (Int32.ofNat xs3.length)), .val (.ref t433), .val (.ref t440), .unset, .unset] [(.ref t433)])) _
    refine XS.aload X440.here hx rfl (hb hby at_196) rfl rfl ?_
    show Steps p.tables e below (T440.setTop (mkF m 198 #[.val (.int p1), .val (.int p2), .val (.int p3), .val (.int p4), .val (.ref b286), .val (.ref t295), .val (.ref b300), .val (.int (Int32.ofNat xs3.length)), .val (.ref t433), .val (.ref t440), .unset, .unset] [(.ref t440), (.ref t433)])) _
    refine XS.aload X440.here hx rfl (hb hby at_198) rfl rfl ?_
    show Steps p.tables e below (T440.setTop (mkF m 200 #[.val (.int p1), .val (.int p2), .val (.int p3), .val (.int p4), .val (.ref b286), .val (.ref t295), .val (.ref b300), .val (.int (Int32.ofNat xs3.length)), .val (.ref t433), .val (.ref t440), .unset, .unset] [(.ref b300), (.ref t440), (.ref t433)])) _
    refine XS.iload X440.here hx rfl (hb hby at_200) rfl ?_
    show Steps p.tables e below (T440.setTop (mkF m 202 #[.val (.int p1), .val (.int p2), .val (.int p3), .val (.int p4), .val (.ref b286), .val (.ref t295), .val (.ref b300), .val (.int (Int32.ofNat xs3.length)), .val (.ref t433), .val (.ref t440), .unset, .unset] [(.int (Int32.ofNat xs3.length)), (.ref b300), (.ref t440), (.ref t433)])) _
    refine XT.iconstV X440.here hx rfl (0 : Int32) (hb hby at_202) rfl ?_
    show Steps p.tables e below (T440.setTop (mkF m 203 #[.val (.int p1), .val (.int p2), .val (.int p3), .val (.int p4), .val (.ref b286), .val (.ref t295), .val (.ref b300), .val (.int (Int32.ofNat xs3.length)), .val (.ref t433), .val (.ref t440), .unset, .unset] [(.int (0 : Int32)), (.int (Int32.ofNat xs3.length)), (.ref b300), (.ref t440), (.ref t433)])) _
    refine st451 _ ?_
    show Steps p.tables e below (T451.setTop (mkF m 206 #[.val (.int p1), .val (.int p2), .val (.int p3), .val (.int p4), .val (.ref b286), .val (.ref t295), .val (.ref b300), .val (.int (Int32.ofNat xs3.length)), .val (.ref t433), .val (.ref t440), .unset, .unset] [(.int (1 : Int32))])) _
    refine XS.ifNo X451.here hx rfl (hb hby at_206) rfl (by decide) ?_
    show Steps p.tables e below (T451.setTop (mkF m 209 #[.val (.int p1), .val (.int p2), .val (.int p3), .val (.int p4), .val (.ref b286), .val (.ref t295), .val (.ref b300), .val (.int (Int32.ofNat xs3.length)), .val (.ref t433), .val (.ref t440), .unset, .unset] [])) _
    refine XS.aload X451.here hx rfl (hb hby at_209) rfl rfl ?_
    show Steps p.tables e below (T451.setTop (mkF m 211 #[.val (.int p1), .val (.int p2), .val (.int p3), .val (.int p4), .val (.ref b286), .val (.ref t295), .val (.ref b300), .val (.int (Int32.ofNat xs3.length)), .val (.ref t433), .val (.ref t440), .unset, .unset] [(.ref t433)])) _
    refine XS.aload X451.here hx rfl (hb hby at_211) rfl rfl ?_
    show Steps p.tables e below (T451.setTop (mkF m 213 #[.val (.int p1), .val (.int p2), .val (.int p3), .val (.int p4), .val (.ref b286), .val (.ref t295), .val (.ref b300), .val (.int (Int32.ofNat xs3.length)), .val (.ref t433), .val (.ref t440), .unset, .unset] [(.ref t440), (.ref t433)])) _
    refine XS.aload X451.here hx rfl (hb hby at_213) rfl rfl ?_
    show Steps p.tables e below (T451.setTop (mkF m 215 #[.val (.int p1), .val (.int p2), .val (.int p3), .val (.int p4), .val (.ref b286), .val (.ref t295), .val (.ref b300), .val (.int (Int32.ofNat xs3.length)), .val (.ref t433), .val (.ref t440), .unset, .unset] [(.ref b300), (.ref t440), (.ref t433)])) _
    refine XS.iload X451.here hx rfl (hb hby at_215) rfl ?_
    show Steps p.tables e below (T451.setTop (mkF m 217 #[.val (.int p1), .val (.int p2), .val (.int p3), .val (.int p4), .val (.ref b286), .val (.ref t295), .val (.ref b300), .val (.int (Int32.ofNat xs3.length)), .val (.ref t433), .val (.ref t440), .unset, .unset] [(.int (Int32.ofNat xs3.length)), (.ref b300), (.ref t440), (.ref t433)])) _
    refine XT.iconstV X451.here hx rfl (1 : Int32) (hb hby at_217) rfl ?_
    show Steps p.tables e below (T451.setTop (mkF m 218 #[.val (.int p1), .val (.int p2), .val (.int p3), .val (.int p4), .val (.ref b286), .val (.ref t295), .val (.ref b300), .val (.int (Int32.ofNat xs3.length)), .val (.ref t433), .val (.ref t440), .unset, .unset] [(.int (1 : Int32)), (.int (Int32.ofNat xs3.length)), (.ref b300), (.ref t440), (.ref t433)])) _
    refine st452 _ ?_
    show Steps p.tables e below (T452.setTop (mkF m 221 #[.val (.int p1), .val (.int p2), .val (.int p3), .val (.int p4), .val (.ref b286), .val (.ref t295), .val (.ref b300), .val (.int (Int32.ofNat xs3.length)), .val (.ref t433), .val (.ref t440), .unset, .unset] [(.int (1 : Int32))])) _
    refine XS.ifNo X452.here hx rfl (hb hby at_221) rfl (by decide) ?_
    show Steps p.tables e below (T452.setTop (mkF m 224 #[.val (.int p1), .val (.int p2), .val (.int p3), .val (.int p4), .val (.ref b286), .val (.ref t295), .val (.ref b300), .val (.int (Int32.ofNat xs3.length)), .val (.ref t433), .val (.ref t440), .unset, .unset] [])) _
    refine XS.aload X452.here hx rfl (hb hby at_224) rfl rfl ?_
    show Steps p.tables e below (T452.setTop (mkF m 226 #[.val (.int p1), .val (.int p2), .val (.int p3), .val (.int p4), .val (.ref b286), .val (.ref t295), .val (.ref b300), .val (.int (Int32.ofNat xs3.length)), .val (.ref t433), .val (.ref t440), .unset, .unset] [(.ref t433)])) _
    refine XS.aload X452.here hx rfl (hb hby at_226) rfl rfl ?_
    show Steps p.tables e below (T452.setTop (mkF m 228 #[.val (.int p1), .val (.int p2), .val (.int p3), .val (.int p4), .val (.ref b286), .val (.ref t295), .val (.ref b300), .val (.int (Int32.ofNat xs3.length)), .val (.ref t433), .val (.ref t440), .unset, .unset] [(.ref t440), (.ref t433)])) _
    refine XS.aload X452.here hx rfl (hb hby at_228) rfl rfl ?_
    show Steps p.tables e below (T452.setTop (mkF m 230 #[.val (.int p1), .val (.int p2), .val (.int p3), .val (.int p4), .val (.ref b286), .val (.ref t295), .val (.ref b300), .val (.int (Int32.ofNat xs3.length)), .val (.ref t433), .val (.ref t440), .unset, .unset] [(.ref b300), (.ref t440), (.ref t433)])) _
    refine XS.iload X452.here hx rfl (hb hby at_230) rfl ?_
    show Steps p.tables e below (T452.setTop (mkF m 232 #[.val (.int p1), .val (.int p2), .val (.int p3), .val (.int p4), .val (.ref b286), .val (.ref t295), .val (.ref b300), .val (.int (Int32.ofNat xs3.length)), .val (.ref t433), .val (.ref t440), .unset, .unset] [(.int (Int32.ofNat xs3.length)), (.ref b300), (.ref t440), (.ref t433)])) _
    refine XT.iconstV X452.here hx rfl (2 : Int32) (hb hby at_232) rfl ?_
    show Steps p.tables e below (T452.setTop (mkF m 233 #[.val (.int p1), .val (.int p2), .val (.int p3), .val (.int p4), .val (.ref b286), .val (.ref t295), .val (.ref b300), .val (.int (Int32.ofNat xs3.length)), .val (.ref t433), .val (.ref t440), .unset, .unset] [(.int (2 : Int32)), (.int (Int32.ofNat xs3.length)), (.ref b300), (.ref t440), (.ref t433)])) _
    refine st453 _ ?_
    show Steps p.tables e below (T453.setTop (mkF m 236 #[.val (.int p1), .val (.int p2), .val (.int p3), .val (.int p4), .val (.ref b286), .val (.ref t295), .val (.ref b300), .val (.int (Int32.ofNat xs3.length)), .val (.ref t433), .val (.ref t440), .unset, .unset] [(.int (1 : Int32))])) _
    refine XS.ifNo X453.here hx rfl (hb hby at_236) rfl (by decide) ?_
    show Steps p.tables e below (T453.setTop (mkF m 239 #[.val (.int p1), .val (.int p2), .val (.int p3), .val (.int p4), .val (.ref b286), .val (.ref t295), .val (.ref b300), .val (.int (Int32.ofNat xs3.length)), .val (.ref t433), .val (.ref t440), .unset, .unset] [])) _
    refine XS.aload X453.here hx rfl (hb hby at_239) rfl rfl ?_
    show Steps p.tables e below (T453.setTop (mkF m 241 #[.val (.int p1), .val (.int p2), .val (.int p3), .val (.int p4), .val (.ref b286), .val (.ref t295), .val (.ref b300), .val (.int (Int32.ofNat xs3.length)), .val (.ref t433), .val (.ref t440), .unset, .unset] [(.ref t433)])) _
    refine XS.aload X453.here hx rfl (hb hby at_241) rfl rfl ?_
    show Steps p.tables e below (T453.setTop (mkF m 243 #[.val (.int p1), .val (.int p2), .val (.int p3), .val (.int p4), .val (.ref b286), .val (.ref t295), .val (.ref b300), .val (.int (Int32.ofNat xs3.length)), .val (.ref t433), .val (.ref t440), .unset, .unset] [(.ref t440), (.ref t433)])) _
    refine XS.aload X453.here hx rfl (hb hby at_243) rfl rfl ?_
    show Steps p.tables e below (T453.setTop (mkF m 245 #[.val (.int p1), .val (.int p2), .val (.int p3), .val (.int p4), .val (.ref b286), .val (.ref t295), .val (.ref b300), .val (.int (Int32.ofNat xs3.length)), .val (.ref t433), .val (.ref t440), .unset, .unset] [(.ref b300), (.ref t440), (.ref t433)])) _
    refine XS.iload X453.here hx rfl (hb hby at_245) rfl ?_
    show Steps p.tables e below (T453.setTop (mkF m 247 #[.val (.int p1), .val (.int p2), .val (.int p3), .val (.int p4), .val (.ref b286), .val (.ref t295), .val (.ref b300), .val (.int (Int32.ofNat xs3.length)), .val (.ref t433), .val (.ref t440), .unset, .unset] [(.int (Int32.ofNat xs3.length)), (.ref b300), (.ref t440), (.ref t433)])) _
    refine XT.iconstV X453.here hx rfl (3 : Int32) (hb hby at_247) rfl ?_
    show Steps p.tables e below (T453.setTop (mkF m 248 #[.val (.int p1), .val (.int p2), .val (.int p3), .val (.int p4), .val (.ref b286), .val (.ref t295), .val (.ref b300), .val (.int (Int32.ofNat xs3.length)), .val (.ref t433), .val (.ref t440), .unset, .unset] [(.int (3 : Int32)), (.int (Int32.ofNat xs3.length)), (.ref b300), (.ref t440), (.ref t433)])) _
    refine st454 _ ?_
    show Steps p.tables e below (T454.setTop (mkF m 251 #[.val (.int p1), .val (.int p2), .val (.int p3), .val (.int p4), .val (.ref b286), .val (.ref t295), .val (.ref b300), .val (.int (Int32.ofNat xs3.length)), .val (.ref t433), .val (.ref t440), .unset, .unset] [(.int (1 : Int32))])) _
    refine XS.ifNo X454.here hx rfl (hb hby at_251) rfl (by decide) ?_
    show Steps p.tables e below (T454.setTop (mkF m 254 #[.val (.int p1), .val (.int p2), .val (.int p3), .val (.int p4), .val (.ref b286), .val (.ref t295), .val (.ref b300), .val (.int (Int32.ofNat xs3.length)), .val (.ref t433), .val (.ref t440), .unset, .unset] [])) _
    refine XS.aload X454.here hx rfl (hb hby at_254) rfl rfl ?_
    show Steps p.tables e below (T454.setTop (mkF m 256 #[.val (.int p1), .val (.int p2), .val (.int p3), .val (.int p4), .val (.ref b286), .val (.ref t295), .val (.ref b300), .val (.int (Int32.ofNat xs3.length)), .val (.ref t433), .val (.ref t440), .unset, .unset] [(.ref t433)])) _
    refine XS.aload X454.here hx rfl (hb hby at_256) rfl rfl ?_
    show Steps p.tables e below (T454.setTop (mkF m 258 #[.val (.int p1), .val (.int p2), .val (.int p3), .val (.int p4), .val (.ref b286), .val (.ref t295), .val (.ref b300), .val (.int (Int32.ofNat xs3.length)), .val (.ref t433), .val (.ref t440), .unset, .unset] [(.ref t440), (.ref t433)])) _
    refine XS.aload X454.here hx rfl (hb hby at_258) rfl rfl ?_
    show Steps p.tables e below (T454.setTop (mkF m 260 #[.val (.int p1), .val (.int p2), .val (.int p3), .val (.int p4), .val (.ref b286), .val (.ref t295), .val (.ref b300), .val (.int (Int32.ofNat xs3.length)), .val (.ref t433), .val (.ref t440), .unset, .unset] [(.ref b300), (.ref t440), (.ref t433)])) _
    refine XS.iload X454.here hx rfl (hb hby at_260) rfl ?_
    show Steps p.tables e below (T454.setTop (mkF m 262 #[.val (.int p1), .val (.int p2), .val (.int p3), .val (.int p4), .val (.ref b286), .val (.ref t295), .val (.ref b300), .val (.int (Int32.ofNat xs3.length)), .val (.ref t433), .val (.ref t440), .unset, .unset] [(.int (Int32.ofNat xs3.length)), (.ref b300), (.ref t440), (.ref t433)])) _
    refine XT.iconstV X454.here hx rfl (4 : Int32) (hb hby at_262) rfl ?_
    show Steps p.tables e below (T454.setTop (mkF m 263 #[.val (.int p1), .val (.int p2), .val (.int p3), .val (.int p4), .val (.ref b286), .val (.ref t295), .val (.ref b300), .val (.int (Int32.ofNat xs3.length)), .val (.ref t433), .val (.ref t440), .unset, .unset] [(.int (4 : Int32)), (.int (Int32.ofNat xs3.length)), (.ref b300), (.ref t440), (.ref t433)])) _
    refine st455 _ ?_
    show Steps p.tables e below (T455.setTop (mkF m 266 #[.val (.int p1), .val (.int p2), .val (.int p3), .val (.int p4), .val (.ref b286), .val (.ref t295), .val (.ref b300), .val (.int (Int32.ofNat xs3.length)), .val (.ref t433), .val (.ref t440), .unset, .unset] [(.int (1 : Int32))])) _
    refine XS.ifNo X455.here hx rfl (hb hby at_266) rfl (by decide) ?_
    show Steps p.tables e below (T455.setTop (mkF m 269 #[.val (.int p1), .val (.int p2), .val (.int p3), .val (.int p4), .val (.ref b286), .val (.ref t295), .val (.ref b300), .val (.int (Int32.ofNat xs3.length)), .val (.ref t433), .val (.ref t440), .unset, .unset] [])) _
    refine XS.aload X455.here hx rfl (hb hby at_269) rfl rfl ?_
    show Steps p.tables e below (T455.setTop (mkF m 271 #[.val (.int p1), .val (.int p2), .val (.int p3), .val (.int p4), .val (.ref b286), .val (.ref t295), .val (.ref b300), .val (.int (Int32.ofNat xs3.length)), .val (.ref t433), .val (.ref t440), .unset, .unset] [(.ref t433)])) _
    refine XS.aload X455.here hx rfl (hb hby at_271) rfl rfl ?_
    show Steps p.tables e below (T455.setTop (mkF m 273 #[.val (.int p1), .val (.int p2), .val (.int p3), .val (.int p4), .val (.ref b286), .val (.ref t295), .val (.ref b300), .val (.int (Int32.ofNat xs3.length)), .val (.ref t433), .val (.ref t440), .unset, .unset] [(.ref t440), (.ref t433)])) _
    refine XS.aload X455.here hx rfl (hb hby at_273) rfl rfl ?_
    show Steps p.tables e below (T455.setTop (mkF m 275 #[.val (.int p1), .val (.int p2), .val (.int p3), .val (.int p4), .val (.ref b286), .val (.ref t295), .val (.ref b300), .val (.int (Int32.ofNat xs3.length)), .val (.ref t433), .val (.ref t440), .unset, .unset] [(.ref b300), (.ref t440), (.ref t433)])) _
    refine XS.iload X455.here hx rfl (hb hby at_275) rfl ?_
    show Steps p.tables e below (T455.setTop (mkF m 277 #[.val (.int p1), .val (.int p2), .val (.int p3), .val (.int p4), .val (.ref b286), .val (.ref t295), .val (.ref b300), .val (.int (Int32.ofNat xs3.length)), .val (.ref t433), .val (.ref t440), .unset, .unset] [(.int (Int32.ofNat xs3.length)), (.ref b300), (.ref t440), (.ref t433)])) _
    refine XT.iconstV X455.here hx rfl (5 : Int32) (hb hby at_277) rfl ?_
    show Steps p.tables e below (T455.setTop (mkF m 278 #[.val (.int p1), .val (.int p2), .val (.int p3), .val (.int p4), .val (.ref b286), .val (.ref t295), .val (.ref b300), .val (.int (Int32.ofNat xs3.length)), .val (.ref t433), .val (.ref t440), .unset, .unset] [(.int (5 : Int32)), (.int (Int32.ofNat xs3.length)), (.ref b300), (.ref t440), (.ref t433)])) _
    refine st456 _ ?_
    show Steps p.tables e below (T456.setTop (mkF m 281 #[.val (.int p1), .val (.int p2), .val (.int p3), .val (.int p4), .val (.ref b286), .val (.ref t295), .val (.ref b300), .val (.int (Int32.ofNat xs3.length)), .val (.ref t433), .val (.ref t440), .unset, .unset] [(.int (1 : Int32))])) _
    refine XS.ifNo X456.here hx rfl (hb hby at_281) rfl (by decide) ?_
    show Steps p.tables e below (T456.setTop (mkF m 284 #[.val (.int p1), .val (.int p2), .val (.int p3), .val (.int p4), .val (.ref b286), .val (.ref t295), .val (.ref b300), .val (.int (Int32.ofNat xs3.length)), .val (.ref t433), .val (.ref t440), .unset, .unset] [])) _
    refine XS.aload X456.here hx rfl (hb hby at_284) rfl rfl ?_
    show Steps p.tables e below (T456.setTop (mkF m 286 #[.val (.int p1), .val (.int p2), .val (.int p3), .val (.int p4), .val (.ref b286), .val (.ref t295), .val (.ref b300), .val (.int (Int32.ofNat xs3.length)), .val (.ref t433), .val (.ref t440), .unset, .unset] [(.ref t433)])) _
    refine XS.aload X456.here hx rfl (hb hby at_286) rfl rfl ?_
    show Steps p.tables e below (T456.setTop (mkF m 288 #[.val (.int p1), .val (.int p2), .val (.int p3), .val (.int p4), .val (.ref b286), .val (.ref t295), .val (.ref b300), .val (.int (Int32.ofNat xs3.length)), .val (.ref t433), .val (.ref t440), .unset, .unset] [(.ref t440), (.ref t433)])) _
    refine XS.aload X456.here hx rfl (hb hby at_288) rfl rfl ?_
    show Steps p.tables e below (T456.setTop (mkF m 290 #[.val (.int p1), .val (.int p2), .val (.int p3), .val (.int p4), .val (.ref b286), .val (.ref t295), .val (.ref b300), .val (.int (Int32.ofNat xs3.length)), .val (.ref t433), .val (.ref t440), .unset, .unset] [(.ref b300), (.ref t440), (.ref t433)])) _
    refine XS.iload X456.here hx rfl (hb hby at_290) rfl ?_
    show Steps p.tables e below (T456.setTop (mkF m 292 #[.val (.int p1), .val (.int p2), .val (.int p3), .val (.int p4), .val (.ref b286), .val (.ref t295), .val (.ref b300), .val (.int (Int32.ofNat xs3.length)), .val (.ref t433), .val (.ref t440), .unset, .unset] [(.int (Int32.ofNat xs3.length)), (.ref b300), (.ref t440), (.ref t433)])) _
    refine XT.bipushV X456.here hx rfl (6 : Int32) (hb hby at_292) (by decide) ?_
    show Steps p.tables e below (T456.setTop (mkF m 294 #[.val (.int p1), .val (.int p2), .val (.int p3), .val (.int p4), .val (.ref b286), .val (.ref t295), .val (.ref b300), .val (.int (Int32.ofNat xs3.length)), .val (.ref t433), .val (.ref t440), .unset, .unset] [(.int (6 : Int32)), (.int (Int32.ofNat xs3.length)), (.ref b300), (.ref t440), (.ref t433)])) _
    refine st457 _ ?_
    show Steps p.tables e below (T457.setTop (mkF m 297 #[.val (.int p1), .val (.int p2), .val (.int p3), .val (.int p4), .val (.ref b286), .val (.ref t295), .val (.ref b300), .val (.int (Int32.ofNat xs3.length)), .val (.ref t433), .val (.ref t440), .unset, .unset] [(.int (1 : Int32))])) _
    refine XS.ifNo X457.here hx rfl (hb hby at_297) rfl (by decide) ?_
    show Steps p.tables e below (T457.setTop (mkF m 300 #[.val (.int p1), .val (.int p2), .val (.int p3), .val (.int p4), .val (.ref b286), .val (.ref t295), .val (.ref b300), .val (.int (Int32.ofNat xs3.length)), .val (.ref t433), .val (.ref t440), .unset, .unset] [])) _
    refine XS.aload X457.here hx rfl (hb hby at_300) rfl rfl ?_
    show Steps p.tables e below (T457.setTop (mkF m 302 #[.val (.int p1), .val (.int p2), .val (.int p3), .val (.int p4), .val (.ref b286), .val (.ref t295), .val (.ref b300), .val (.int (Int32.ofNat xs3.length)), .val (.ref t433), .val (.ref t440), .unset, .unset] [(.ref t433)])) _
    refine XS.aload X457.here hx rfl (hb hby at_302) rfl rfl ?_
    show Steps p.tables e below (T457.setTop (mkF m 304 #[.val (.int p1), .val (.int p2), .val (.int p3), .val (.int p4), .val (.ref b286), .val (.ref t295), .val (.ref b300), .val (.int (Int32.ofNat xs3.length)), .val (.ref t433), .val (.ref t440), .unset, .unset] [(.ref t440), (.ref t433)])) _
    refine XS.aload X457.here hx rfl (hb hby at_304) rfl rfl ?_
    show Steps p.tables e below (T457.setTop (mkF m 306 #[.val (.int p1), .val (.int p2), .val (.int p3), .val (.int p4), .val (.ref b286), .val (.ref t295), .val (.ref b300), .val (.int (Int32.ofNat xs3.length)), .val (.ref t433), .val (.ref t440), .unset, .unset] [(.ref b300), (.ref t440), (.ref t433)])) _
    refine XS.iload X457.here hx rfl (hb hby at_306) rfl ?_
    show Steps p.tables e below (T457.setTop (mkF m 308 #[.val (.int p1), .val (.int p2), .val (.int p3), .val (.int p4), .val (.ref b286), .val (.ref t295), .val (.ref b300), .val (.int (Int32.ofNat xs3.length)), .val (.ref t433), .val (.ref t440), .unset, .unset] [(.int (Int32.ofNat xs3.length)), (.ref b300), (.ref t440), (.ref t433)])) _
    refine XT.bipushV X457.here hx rfl (7 : Int32) (hb hby at_308) (by decide) ?_
    show Steps p.tables e below (T457.setTop (mkF m 310 #[.val (.int p1), .val (.int p2), .val (.int p3), .val (.int p4), .val (.ref b286), .val (.ref t295), .val (.ref b300), .val (.int (Int32.ofNat xs3.length)), .val (.ref t433), .val (.ref t440), .unset, .unset] [(.int (7 : Int32)), (.int (Int32.ofNat xs3.length)), (.ref b300), (.ref t440), (.ref t433)])) _
    refine st458 _ ?_
    show Steps p.tables e below (T458.setTop (mkF m 313 #[.val (.int p1), .val (.int p2), .val (.int p3), .val (.int p4), .val (.ref b286), .val (.ref t295), .val (.ref b300), .val (.int (Int32.ofNat xs3.length)), .val (.ref t433), .val (.ref t440), .unset, .unset] [(.int (1 : Int32))])) _
    refine XS.ifNo X458.here hx rfl (hb hby at_313) rfl (by decide) ?_
    show Steps p.tables e below (T458.setTop (mkF m 316 #[.val (.int p1), .val (.int p2), .val (.int p3), .val (.int p4), .val (.ref b286), .val (.ref t295), .val (.ref b300), .val (.int (Int32.ofNat xs3.length)), .val (.ref t433), .val (.ref t440), .unset, .unset] [])) _
    refine XS.aload X458.here hx rfl (hb hby at_316) rfl rfl ?_
    show Steps p.tables e below (T458.setTop (mkF m 318 #[.val (.int p1), .val (.int p2), .val (.int p3), .val (.int p4), .val (.ref b286), .val (.ref t295), .val (.ref b300), .val (.int (Int32.ofNat xs3.length)), .val (.ref t433), .val (.ref t440), .unset, .unset] [(.ref t433)])) _
    refine XS.aload X458.here hx rfl (hb hby at_318) rfl rfl ?_
    show Steps p.tables e below (T458.setTop (mkF m 320 #[.val (.int p1), .val (.int p2), .val (.int p3), .val (.int p4), .val (.ref b286), .val (.ref t295), .val (.ref b300), .val (.int (Int32.ofNat xs3.length)), .val (.ref t433), .val (.ref t440), .unset, .unset] [(.ref t440), (.ref t433)])) _
    refine XS.aload X458.here hx rfl (hb hby at_320) rfl rfl ?_
    show Steps p.tables e below (T458.setTop (mkF m 322 #[.val (.int p1), .val (.int p2), .val (.int p3), .val (.int p4), .val (.ref b286), .val (.ref t295), .val (.ref b300), .val (.int (Int32.ofNat xs3.length)), .val (.ref t433), .val (.ref t440), .unset, .unset] [(.ref b300), (.ref t440), (.ref t433)])) _
    refine XS.iload X458.here hx rfl (hb hby at_322) rfl ?_
    show Steps p.tables e below (T458.setTop (mkF m 324 #[.val (.int p1), .val (.int p2), .val (.int p3), .val (.int p4), .val (.ref b286), .val (.ref t295), .val (.ref b300), .val (.int (Int32.ofNat xs3.length)), .val (.ref t433), .val (.ref t440), .unset, .unset] [(.int (Int32.ofNat xs3.length)), (.ref b300), (.ref t440), (.ref t433)])) _
    refine XT.bipushV X458.here hx rfl (8 : Int32) (hb hby at_324) (by decide) ?_
    show Steps p.tables e below (T458.setTop (mkF m 326 #[.val (.int p1), .val (.int p2), .val (.int p3), .val (.int p4), .val (.ref b286), .val (.ref t295), .val (.ref b300), .val (.int (Int32.ofNat xs3.length)), .val (.ref t433), .val (.ref t440), .unset, .unset] [(.int (8 : Int32)), (.int (Int32.ofNat xs3.length)), (.ref b300), (.ref t440), (.ref t433)])) _
    refine st459 _ ?_
    show Steps p.tables e below (T459.setTop (mkF m 329 #[.val (.int p1), .val (.int p2), .val (.int p3), .val (.int p4), .val (.ref b286), .val (.ref t295), .val (.ref b300), .val (.int (Int32.ofNat xs3.length)), .val (.ref t433), .val (.ref t440), .unset, .unset] [(.int (1 : Int32))])) _
    refine XS.ifNo X459.here hx rfl (hb hby at_329) rfl (by decide) ?_
    show Steps p.tables e below (T459.setTop (mkF m 332 #[.val (.int p1), .val (.int p2), .val (.int p3), .val (.int p4), .val (.ref b286), .val (.ref t295), .val (.ref b300), .val (.int (Int32.ofNat xs3.length)), .val (.ref t433), .val (.ref t440), .unset, .unset] [])) _
    refine XS.aload X459.here hx rfl (hb hby at_332) rfl rfl ?_
    show Steps p.tables e below (T459.setTop (mkF m 334 #[.val (.int p1), .val (.int p2), .val (.int p3), .val (.int p4), .val (.ref b286), .val (.ref t295), .val (.ref b300), .val (.int (Int32.ofNat xs3.length)), .val (.ref t433), .val (.ref t440), .unset, .unset] [(.ref t433)])) _
    refine XS.aload X459.here hx rfl (hb hby at_334) rfl rfl ?_
    show Steps p.tables e below (T459.setTop (mkF m 336 #[.val (.int p1), .val (.int p2), .val (.int p3), .val (.int p4), .val (.ref b286), .val (.ref t295), .val (.ref b300), .val (.int (Int32.ofNat xs3.length)), .val (.ref t433), .val (.ref t440), .unset, .unset] [(.ref t440), (.ref t433)])) _
    refine XS.aload X459.here hx rfl (hb hby at_336) rfl rfl ?_
    show Steps p.tables e below (T459.setTop (mkF m 338 #[.val (.int p1), .val (.int p2), .val (.int p3), .val (.int p4), .val (.ref b286), .val (.ref t295), .val (.ref b300), .val (.int (Int32.ofNat xs3.length)), .val (.ref t433), .val (.ref t440), .unset, .unset] [(.ref b300), (.ref t440), (.ref t433)])) _
    refine XS.iload X459.here hx rfl (hb hby at_338) rfl ?_
    show Steps p.tables e below (T459.setTop (mkF m 340 #[.val (.int p1), .val (.int p2), .val (.int p3), .val (.int p4), .val (.ref b286), .val (.ref t295), .val (.ref b300), .val (.int (Int32.ofNat xs3.length)), .val (.ref t433), .val (.ref t440), .unset, .unset] [(.int (Int32.ofNat xs3.length)), (.ref b300), (.ref t440), (.ref t433)])) _
    refine XT.bipushV X459.here hx rfl (9 : Int32) (hb hby at_340) (by decide) ?_
    show Steps p.tables e below (T459.setTop (mkF m 342 #[.val (.int p1), .val (.int p2), .val (.int p3), .val (.int p4), .val (.ref b286), .val (.ref t295), .val (.ref b300), .val (.int (Int32.ofNat xs3.length)), .val (.ref t433), .val (.ref t440), .unset, .unset] [(.int (9 : Int32)), (.int (Int32.ofNat xs3.length)), (.ref b300), (.ref t440), (.ref t433)])) _
    refine st460 _ ?_
    show Steps p.tables e below (T460.setTop (mkF m 345 #[.val (.int p1), .val (.int p2), .val (.int p3), .val (.int p4), .val (.ref b286), .val (.ref t295), .val (.ref b300), .val (.int (Int32.ofNat xs3.length)), .val (.ref t433), .val (.ref t440), .unset, .unset] [(.int (1 : Int32))])) _
    refine XS.ifNo X460.here hx rfl (hb hby at_345) rfl (by decide) ?_
    show Steps p.tables e below (T460.setTop (mkF m 348 #[.val (.int p1), .val (.int p2), .val (.int p3), .val (.int p4), .val (.ref b286), .val (.ref t295), .val (.ref b300), .val (.int (Int32.ofNat xs3.length)), .val (.ref t433), .val (.ref t440), .unset, .unset] [])) _
    refine XT.iconstV X460.here hx rfl (1 : Int32) (hb hby at_348) rfl ?_
    show Steps p.tables e below (T460.setTop (mkF m 349 #[.val (.int p1), .val (.int p2), .val (.int p3), .val (.int p4), .val (.ref b286), .val (.ref t295), .val (.ref b300), .val (.int (Int32.ofNat xs3.length)), .val (.ref t433), .val (.ref t440), .unset, .unset] [(.int (1 : Int32))])) _
    refine XS.goto X460.here hx rfl (pc0 := 349) (pc' := 353) rfl (hb hby at_349) (by decide) (by decide) ?_
    show Steps p.tables e below (T460.setTop (mkF m 353 #[.val (.int p1), .val (.int p2), .val (.int p3), .val (.int p4), .val (.ref b286), .val (.ref t295), .val (.ref b300), .val (.int (Int32.ofNat xs3.length)), .val (.ref t433), .val (.ref t440), .unset, .unset] [(.int (1 : Int32))])) _
    refine XS.istore X460.here hx rfl (hb hby at_353) rfl (l' := #[.val (.int p1), .val (.int p2), .val (.int p3), .val (.int p4), .val (.ref b286), .val (.ref t295), .val (.ref b300), .val (.int (Int32.ofNat xs3.length)), .val (.ref t433), .val (.ref t440), .val (.int (1 : Int32)), .unset]) rfl ?_
    show Steps p.tables e below (T460.setTop (mkF m 355 #[.val (.int p1), .val (.int p2), .val (.int p3), .val (.int p4), .val (.ref b286), .val (.ref t295), .val (.ref b300), .val (.int (Int32.ofNat xs3.length)), .val (.ref t433), .val (.ref t440), .val (.int (1 : Int32)), .unset] [])) _
    refine XS.iload X460.here hx rfl (hb hby at_355) rfl ?_
    show Steps p.tables e below (T460.setTop (mkF m 357 #[.val (.int p1), .val (.int p2), .val (.int p3), .val (.int p4), .val (.ref b286), .val (.ref t295), .val (.ref b300), .val (.int (Int32.ofNat xs3.length)), .val (.ref t433), .val (.ref t440), .val (.int (1 : Int32)), .unset] [(.int (1 : Int32))])) _
    refine XS.ifYes X460.here hx rfl (pc0 := 357) (pc' := 362) rfl (hb hby at_357) rfl (by decide) (by decide) (by decide) ?_
    show Steps p.tables e below (T460.setTop (mkF m 362 #[.val (.int p1), .val (.int p2), .val (.int p3), .val (.int p4), .val (.ref b286), .val (.ref t295), .val (.ref b300), .val (.int (Int32.ofNat xs3.length)), .val (.ref t433), .val (.ref t440), .val (.int (1 : Int32)), .unset] [])) _
    exact kk
  by_cases hz : (Int32.ofNat xs3.length) = (0 : Int32)
  · obtain ⟨fs, hr, hrun, hended, hW, hsame⟩ := X460.leave (v := some (.int (1 : Int32))) (fun h => by rw [Bd.returns] at h; cases h)
    refine ⟨_, _, pre0 _ (pre1 _ (thru _ (pre2 _ ?_))), hrun, hended, _, _, rfl, ?_, ⟨_, rfl⟩, hW, hsame.mono (by decide) (by decide)⟩
    · show Steps p.tables e below (T460.setTop (mkF m 362 #[.val (.int p1), .val (.int p2), .val (.int p3), .val (.int p4), .val (.ref b286), .val (.ref t295), .val (.ref b300), .val (.int (Int32.ofNat xs3.length)), .val (.ref t433), .val (.ref t440), .val (.int (1 : Int32)), .unset] [])) _
      refine XS.iload X460.here hx rfl (hb hby at_362) rfl ?_
      show Steps p.tables e below (T460.setTop (mkF m 364 #[.val (.int p1), .val (.int p2), .val (.int p3), .val (.int p4), .val (.ref b286), .val (.ref t295), .val (.ref b300), .val (.int (Int32.ofNat xs3.length)), .val (.ref t433), .val (.ref t440), .val (.int (1 : Int32)), .unset] [(.int (Int32.ofNat xs3.length))])) _
      refine XS.ifNo X460.here hx rfl (hb hby at_364) rfl (XT.i0_ne_f hz) ?_
      show Steps p.tables e below (T460.setTop (mkF m 367 #[.val (.int p1), .val (.int p2), .val (.int p3), .val (.int p4), .val (.ref b286), .val (.ref t295), .val (.ref b300), .val (.int (Int32.ofNat xs3.length)), .val (.ref t433), .val (.ref t440), .val (.int (1 : Int32)), .unset] [])) _
      refine XT.iconstV X460.here hx rfl (1 : Int32) (hb hby at_367) rfl ?_
      show Steps p.tables e below (T460.setTop (mkF m 368 #[.val (.int p1), .val (.int p2), .val (.int p3), .val (.int p4), .val (.ref b286), .val (.ref t295), .val (.ref b300), .val (.int (Int32.ofNat xs3.length)), .val (.ref t433), .val (.ref t440), .val (.int (1 : Int32)), .unset] [(.int (1 : Int32))])) _
      exact retN X460 hx (t := .boolean) Bd.returns (by simp) (hb hby at_368) hr
    · show own_Q0 n0 _ T460.heap _
      exact ⟨rfl, N460⟩
  · have hz2 := own_nz hlx3 hz
    obtain ⟨cl461, Ar461, Q461, H461⟩ := own_atL V433t_447 (j := (0 : Int32)) hz2.1
    obtain ⟨T462, h462, X462, e462, W462, st462⟩ := own_stBo X460 hx hZ e460 V433t_447 (j := (0 : Int32)) hz2.1 (g := (mkF m 379 #[.val (.int p1), .val (.int p2), .val (.int p3), .val (.int p4), .val (.ref b286), .val (.ref t295), .val (.ref b300), .val (.int (Int32.ofNat xs3.length)), .val (.ref t433), .val (.ref t440), .val (.int (1 : Int32)), .unset] [(.int ((xs3.getD (0 : Int32).toNatClampNeg 0) ^^^ (1 : Int32)).toInt8.toInt32), (.int (0 : Int32)), (.ref t433)])) rfl rfl (hb hby at_379)
    have E_463 := E_441.wr W462
    have Fbytes_464 := Fbytes_442.other W462 (Or.inl ne_b286_t433)
    have Flength_465 := Flength_443.other W462 (Or.inl ne_b286_t433)
    have V_466 := V_444.other W462 ne_r289_t433
    have VE3_467 := VE3_445.other W462 ne_t295_t433
    have VI3_468 := VI3_446.other W462 ne_b300_t433
    have V440t_469 := V440t.other W462 (Ne.symm ne_t433_t440)
    have EX462 : Ext h0 h462 := own_ext_wr EX440 W462 q_t433
    have Z462 : n0 ≤ h462.size := Nat.le_trans Z0 EX462.1
    have N462 := Fr.snoc X462 N460 (Nat.le_trans Z0 q_t433)
    obtain ⟨cl470, Ar470, Q470, H470⟩ := own_atL V440t_469 (j := ((Int32.ofNat xs3.length) - (1 : Int32))) hz2.2.1
    obtain ⟨T471, h471, X471, e471, W471, st471⟩ := own_stBo X462 hx hZ e462 V440t_469 (j := ((Int32.ofNat xs3.length) - (1 : Int32))) hz2.2.1 (g := (mkF m 396 #[.val (.int p1), .val (.int p2), .val (.int p3), .val (.int p4), .val (.ref b286), .val (.ref t295), .val (.ref b300), .val (.int (Int32.ofNat xs3.length)), .val (.ref t433), .val (.ref t440), .val (.int (1 : Int32)), .unset] [(.int ((xs3.getD ((Int32.ofNat xs3.length) - (1 : Int32)).toNatClampNeg 0) ^^^ (1 : Int32)).toInt8.toInt32), (.int ((Int32.ofNat xs3.length) - (1 : Int32))), (.ref t440)])) rfl rfl (hb hby at_396)
    have E_472 := E_463.wr W471
    have Fbytes_473 := Fbytes_464.other W471 (Or.inl ne_b286_t440)
    have Flength_474 := Flength_465.other W471 (Or.inl ne_b286_t440)
    have V_475 := V_466.other W471 ne_r289_t440
    have VE3_476 := VE3_467.other W471 ne_t295_t440
    have VI3_477 := VI3_468.other W471 ne_b300_t440
    have EX471 : Ext h0 h471 := own_ext_wr EX462 W471 q_t440
    have Z471 : n0 ≤ h471.size := Nat.le_trans Z0 EX471.1
    have N471 := Fr.snoc X471 N462 (Nat.le_trans Z0 q_t440)
    obtain ⟨cq478, kq478, q478a, q478b, q478c⟩ := isOf hZ e471 E_472
    obtain ⟨_, _, ⟨T478, L478, k478, n478⟩, -, X478, ⟨Lc478, hQ478, l478, y478, z478⟩, st478⟩ := X471.virtualBack hx (y := (⟨"com/example/chitragupta/chitragupta/ledger/KeyBuilder", "build", "()[B"⟩ : MethodName)) (z := (⟨"com/example/chitragupta/chitragupta/ledger/KeyBuilder", "build", "()[B"⟩ : MethodName)) hown (mvT hZ (hw _ (List.mem_of_getElem? (i := 12) rfl))) (mvT hZ (hw _ (List.mem_of_getElem? (i := 13) rfl))) (notFace_of_selects (args := #[]) (mvT hZ (hw _ (List.mem_of_getElem? (i := 15) rfl)))) (mvT hZ (hw _ (List.mem_of_getElem? (i := 15) rfl))) (mvT hZ (hw _ (List.mem_of_getElem? (i := 14) rfl))) (by decide) (backOf (W := 0) (own_build l Z a0 hw [] b286 r289 k289r xs3 h471 n0 Z471 ⟨E_472, Fbytes_473, Flength_474, V_475⟩ hlx3) hZ (hw _ (List.mem_of_getElem? (i := 16) rfl)) (hw _ (List.mem_of_getElem? (i := 2) rfl)) (by decide) (by decide)) q478a q478c (g := (mkF m 399 #[.val (.int p1), .val (.int p2), .val (.int p3), .val (.int p4), .val (.ref b286), .val (.ref t295), .val (.ref b300), .val (.int (Int32.ofNat xs3.length)), .val (.ref t433), .val (.ref t440), .val (.int (1 : Int32)), .unset] [(.ref b286)])) rfl (by rw [hml]; rfl) (Steps.refl _) (argsL := []) (rest := []) (lenOf pd___ArB rfl) rfl (by show 2 * 0 + _ ≤ _; exact Nat.le_of_eq rfl) (hb hby at_399) (fun _ _ => ⟨rfl, e471, (by decide : 9 + 1 ≤ _), (by decide : 113 + 10 ≤ _)⟩)
    dsimp only [Pt.U, Pt.locs, Pt.cells, Pt.slots] at X478 l478 y478 z478 st478 hQ478
    subst l478 y478 z478
    obtain ⟨t478, kt478, rfl, N478q, EE478, qq478, V478t⟩ := hQ478
    have N478 := Fr.app N471 N478q
    have q_t478 : h0.size ≤ t478 := Nat.le_trans EX471.1 qq478
    have ne_b286_t478 : b286 ≠ t478 := Nat.ne_of_lt (Nat.lt_of_lt_of_le E_472.lt qq478)
    have ne_r289_t478 : r289 ≠ t478 := Nat.ne_of_lt (Nat.lt_of_lt_of_le V_475.lt qq478)
    have ne_t295_t478 : t295 ≠ t478 := Nat.ne_of_lt (Nat.lt_of_lt_of_le VE3_476.lt qq478)
    have ne_b300_t478 : b300 ≠ t478 := Nat.ne_of_lt (Nat.lt_of_lt_of_le VI3_477.lt qq478)
    have E_479 := E_472.ext EE478
    have Fbytes_480 := Fbytes_473.ext EE478
    have Flength_481 := Flength_474.ext EE478
    have V_482 := V_475.ext EE478
    have VE3_483 := VE3_476.ext EE478
    have VI3_484 := VI3_477.ext EE478
    have EX478 : Ext h0 T478.heap := own_ext_trans EX471 EE478
    have Z478 : n0 ≤ T478.heap.size := Nat.le_trans Z0 EX478.1
    obtain ⟨cl485, Ar485, -, Sz485, Nz485, -⟩ := id V478t
    obtain ⟨cl486, Ar486, Q486, H486⟩ := own_atL V478t (j := (0 : Int32)) hz2.1
    obtain ⟨cl487, Ar487, Q487, H487⟩ := own_atL VI3_484 (j := (0 : Int32)) hz2.2.2.1
    obtain ⟨cl488, Ar488, Q488, H488⟩ := own_atL V478t (j := ((Int32.ofNat xs3.length) - (1 : Int32))) hz2.2.1
    obtain ⟨cl489, Ar489, Q489, H489⟩ := own_atL VI3_484 (j := ((Int32.ofNat xs3.length) - (1 : Int32))) hz2.2.2.2
    obtain ⟨fs, hr, hrun, hended, hW, hsame⟩ := X478.leave (v := some (.int (1 : Int32))) (fun h => by rw [Bd.returns] at h; cases h)
    refine ⟨_, _, pre0 _ (pre1 _ (thru _ (pre2 _ ?_))), hrun, hended, _, _, rfl, ?_, ⟨_, rfl⟩, hW, hsame.mono (by decide) (by decide)⟩
    · show Steps p.tables e below (T460.setTop (mkF m 362 #[.val (.int p1), .val (.int p2), .val (.int p3), .val (.int p4), .val (.ref b286), .val (.ref t295), .val (.ref b300), .val (.int (Int32.ofNat xs3.length)), .val (.ref t433), .val (.ref t440), .val (.int (1 : Int32)), .unset] [])) _
      refine XS.iload X460.here hx rfl (hb hby at_362) rfl ?_
      show Steps p.tables e below (T460.setTop (mkF m 364 #[.val (.int p1), .val (.int p2), .val (.int p3), .val (.int p4), .val (.ref b286), .val (.ref t295), .val (.ref b300), .val (.int (Int32.ofNat xs3.length)), .val (.ref t433), .val (.ref t440), .val (.int (1 : Int32)), .unset] [(.int (Int32.ofNat xs3.length))])) _
      refine XS.ifYes X460.here hx rfl (pc0 := 364) (pc' := 369) rfl (hb hby at_364) rfl (XT.i0_ne_t hz) (by decide) (by decide) ?_
      show Steps p.tables e below (T460.setTop (mkF m 369 #[.val (.int p1), .val (.int p2), .val (.int p3), .val (.int p4), .val (.ref b286), .val (.ref t295), .val (.ref b300), .val (.int (Int32.ofNat xs3.length)), .val (.ref t433), .val (.ref t440), .val (.int (1 : Int32)), .unset] [])) _
      refine XS.aload X460.here hx rfl (hb hby at_369) rfl rfl ?_
      show Steps p.tables e below (T460.setTop (mkF m 371 #[.val (.int p1), .val (.int p2), .val (.int p3), .val (.int p4), .val (.ref b286), .val (.ref t295), .val (.ref b300), .val (.int (Int32.ofNat xs3.length)), .val (.ref t433), .val (.ref t440), .val (.int (1 : Int32)), .unset] [(.ref t433)])) _
      refine XT.iconstV X460.here hx rfl (0 : Int32) (hb hby at_371) rfl ?_
      show Steps p.tables e below (T460.setTop (mkF m 372 #[.val (.int p1), .val (.int p2), .val (.int p3), .val (.int p4), .val (.ref b286), .val (.ref t295), .val (.ref b300), .val (.int (Int32.ofNat xs3.length)), .val (.ref t433), .val (.ref t440), .val (.int (1 : Int32)), .unset] [(.int (0 : Int32)), (.ref t433)])) _
      refine XS.aload X460.here hx rfl (hb hby at_372) rfl rfl ?_
      show Steps p.tables e below (T460.setTop (mkF m 374 #[.val (.int p1), .val (.int p2), .val (.int p3), .val (.int p4), .val (.ref b286), .val (.ref t295), .val (.ref b300), .val (.int (Int32.ofNat xs3.length)), .val (.ref t433), .val (.ref t440), .val (.int (1 : Int32)), .unset] [(.ref t433), (.int (0 : Int32)), (.ref t433)])) _
      refine XT.iconstV X460.here hx rfl (0 : Int32) (hb hby at_374) rfl ?_
      show Steps p.tables e below (T460.setTop (mkF m 375 #[.val (.int p1), .val (.int p2), .val (.int p3), .val (.int p4), .val (.ref b286), .val (.ref t295), .val (.ref b300), .val (.int (Int32.ofNat xs3.length)), .val (.ref t433), .val (.ref t440), .val (.int (1 : Int32)), .unset] [(.int (0 : Int32)), (.ref t433), (.int (0 : Int32)), (.ref t433)])) _
      refine X460.baloadBytes hx (j := (0 : Int32)) (v := (.int (xs3.getD (0 : Int32).toNatClampNeg 0))) (by rw [e460]; exact Ar461.1) (State.isArrayOf_alike hZ.alike Ar461.2.1) Ar461.2.2 Q461 H461 (g := (mkF m 375 #[.val (.int p1), .val (.int p2), .val (.int p3), .val (.int p4), .val (.ref b286), .val (.ref t295), .val (.ref b300), .val (.int (Int32.ofNat xs3.length)), .val (.ref t433), .val (.ref t440), .val (.int (1 : Int32)), .unset] [(.int (0 : Int32)), (.ref t433), (.int (0 : Int32)), (.ref t433)])) rfl rfl (hb hby at_375) _ ?_
      show Steps p.tables e below (T460.setTop (mkF m 376 #[.val (.int p1), .val (.int p2), .val (.int p3), .val (.int p4), .val (.ref b286), .val (.ref t295), .val (.ref b300), .val (.int (Int32.ofNat xs3.length)), .val (.ref t433), .val (.ref t440), .val (.int (1 : Int32)), .unset] [(.int (xs3.getD (0 : Int32).toNatClampNeg 0)), (.int (0 : Int32)), (.ref t433)])) _
      refine XT.iconstV X460.here hx rfl (1 : Int32) (hb hby at_376) rfl ?_
      show Steps p.tables e below (T460.setTop (mkF m 377 #[.val (.int p1), .val (.int p2), .val (.int p3), .val (.int p4), .val (.ref b286), .val (.ref t295), .val (.ref b300), .val (.int (Int32.ofNat xs3.length)), .val (.ref t433), .val (.ref t440), .val (.int (1 : Int32)), .unset] [(.int (1 : Int32)), (.int (xs3.getD (0 : Int32).toNatClampNeg 0)), (.int (0 : Int32)), (.ref t433)])) _
      refine XT.ixor X460.here hx rfl (hb hby at_377) rfl ?_
      show Steps p.tables e below (T460.setTop (mkF m 378 #[.val (.int p1), .val (.int p2), .val (.int p3), .val (.int p4), .val (.ref b286), .val (.ref t295), .val (.ref b300), .val (.int (Int32.ofNat xs3.length)), .val (.ref t433), .val (.ref t440), .val (.int (1 : Int32)), .unset] [(.int ((xs3.getD (0 : Int32).toNatClampNeg 0) ^^^ (1 : Int32))), (.int (0 : Int32)), (.ref t433)])) _
      refine XT.i2b X460.here hx rfl (hb hby at_378) rfl ?_
      show Steps p.tables e below (T460.setTop (mkF m 379 #[.val (.int p1), .val (.int p2), .val (.int p3), .val (.int p4), .val (.ref b286), .val (.ref t295), .val (.ref b300), .val (.int (Int32.ofNat xs3.length)), .val (.ref t433), .val (.ref t440), .val (.int (1 : Int32)), .unset] [(.int ((xs3.getD (0 : Int32).toNatClampNeg 0) ^^^ (1 : Int32)).toInt8.toInt32), (.int (0 : Int32)), (.ref t433)])) _
      refine st462 _ ?_
      show Steps p.tables e below (T462.setTop (mkF m 380 #[.val (.int p1), .val (.int p2), .val (.int p3), .val (.int p4), .val (.ref b286), .val (.ref t295), .val (.ref b300), .val (.int (Int32.ofNat xs3.length)), .val (.ref t433), .val (.ref t440), .val (.int (1 : Int32)), .unset] [])) _
      refine XS.aload X462.here hx rfl (hb hby at_380) rfl rfl ?_
      show Steps p.tables e below (T462.setTop (mkF m 382 #[.val (.int p1), .val (.int p2), .val (.int p3), .val (.int p4), .val (.ref b286), .val (.ref t295), .val (.ref b300), .val (.int (Int32.ofNat xs3.length)), .val (.ref t433), .val (.ref t440), .val (.int (1 : Int32)), .unset] [(.ref t440)])) _
      refine XS.iload X462.here hx rfl (hb hby at_382) rfl ?_
      show Steps p.tables e below (T462.setTop (mkF m 384 #[.val (.int p1), .val (.int p2), .val (.int p3), .val (.int p4), .val (.ref b286), .val (.ref t295), .val (.ref b300), .val (.int (Int32.ofNat xs3.length)), .val (.ref t433), .val (.ref t440), .val (.int (1 : Int32)), .unset] [(.int (Int32.ofNat xs3.length)), (.ref t440)])) _
      refine XT.iconstV X462.here hx rfl (1 : Int32) (hb hby at_384) rfl ?_
      show Steps p.tables e below (T462.setTop (mkF m 385 #[.val (.int p1), .val (.int p2), .val (.int p3), .val (.int p4), .val (.ref b286), .val (.ref t295), .val (.ref b300), .val (.int (Int32.ofNat xs3.length)), .val (.ref t433), .val (.ref t440), .val (.int (1 : Int32)), .unset] [(.int (1 : Int32)), (.int (Int32.ofNat xs3.length)), (.ref t440)])) _
      refine XS.isub X462.here hx rfl (hb hby at_385) rfl ?_
      show Steps p.tables e below (T462.setTop (mkF m 386 #[.val (.int p1), .val (.int p2), .val (.int p3), .val (.int p4), .val (.ref b286), .val (.ref t295), .val (.ref b300), .val (.int (Int32.ofNat xs3.length)), .val (.ref t433), .val (.ref t440), .val (.int (1 : Int32)), .unset] [(.int ((Int32.ofNat xs3.length) - (1 : Int32))), (.ref t440)])) _
      refine XS.aload X462.here hx rfl (hb hby at_386) rfl rfl ?_
      show Steps p.tables e below (T462.setTop (mkF m 388 #[.val (.int p1), .val (.int p2), .val (.int p3), .val (.int p4), .val (.ref b286), .val (.ref t295), .val (.ref b300), .val (.int (Int32.ofNat xs3.length)), .val (.ref t433), .val (.ref t440), .val (.int (1 : Int32)), .unset] [(.ref t440), (.int ((Int32.ofNat xs3.length) - (1 : Int32))), (.ref t440)])) _
      refine XS.iload X462.here hx rfl (hb hby at_388) rfl ?_
      show Steps p.tables e below (T462.setTop (mkF m 390 #[.val (.int p1), .val (.int p2), .val (.int p3), .val (.int p4), .val (.ref b286), .val (.ref t295), .val (.ref b300), .val (.int (Int32.ofNat xs3.length)), .val (.ref t433), .val (.ref t440), .val (.int (1 : Int32)), .unset] [(.int (Int32.ofNat xs3.length)), (.ref t440), (.int ((Int32.ofNat xs3.length) - (1 : Int32))), (.ref t440)])) _
      refine XT.iconstV X462.here hx rfl (1 : Int32) (hb hby at_390) rfl ?_
      show Steps p.tables e below (T462.setTop (mkF m 391 #[.val (.int p1), .val (.int p2), .val (.int p3), .val (.int p4), .val (.ref b286), .val (.ref t295), .val (.ref b300), .val (.int (Int32.ofNat xs3.length)), .val (.ref t433), .val (.ref t440), .val (.int (1 : Int32)), .unset] [(.int (1 : Int32)), (.int (Int32.ofNat xs3.length)), (.ref t440), (.int ((Int32.ofNat xs3.length) - (1 : Int32))), (.ref t440)])) _
      refine XS.isub X462.here hx rfl (hb hby at_391) rfl ?_
      show Steps p.tables e below (T462.setTop (mkF m 392 #[.val (.int p1), .val (.int p2), .val (.int p3), .val (.int p4), .val (.ref b286), .val (.ref t295), .val (.ref b300), .val (.int (Int32.ofNat xs3.length)), .val (.ref t433), .val (.ref t440), .val (.int (1 : Int32)), .unset] [(.int ((Int32.ofNat xs3.length) - (1 : Int32))), (.ref t440), (.int ((Int32.ofNat xs3.length) - (1 : Int32))), (.ref t440)])) _
      refine X462.baloadBytes hx (j := ((Int32.ofNat xs3.length) - (1 : Int32))) (v := (.int (xs3.getD ((Int32.ofNat xs3.length) - (1 : Int32)).toNatClampNeg 0))) (by rw [e462]; exact Ar470.1) (State.isArrayOf_alike hZ.alike Ar470.2.1) Ar470.2.2 Q470 H470 (g := (mkF m 392 #[.val (.int p1), .val (.int p2), .val (.int p3), .val (.int p4), .val (.ref b286), .val (.ref t295), .val (.ref b300), .val (.int (Int32.ofNat xs3.length)), .val (.ref t433), .val (.ref t440), .val (.int (1 : Int32)), .unset] [(.int ((Int32.ofNat xs3.length) - (1 : Int32))), (.ref t440), (.int ((Int32.ofNat xs3.length) - (1 : Int32))), (.ref t440)])) rfl rfl (hb hby at_392) _ ?_
      show Steps p.tables e below (T462.setTop (mkF m 393 #[.val (.int p1), .val (.int p2), .val (.int p3), .val (.int p4), .val (.ref b286), .val (.ref t295), .val (.ref b300), .val (.int (Int32.ofNat xs3.length)), .val (.ref t433), .val (.ref t440), .val (.int (1 : Int32)), .unset] [(.int (xs3.getD ((Int32.ofNat xs3.length) - (1 : Int32)).toNatClampNeg 0)), (.int ((Int32.ofNat xs3.length) - (1 : Int32))), (.ref t440)])) _
      refine XT.iconstV X462.here hx rfl (1 : Int32) (hb hby at_393) rfl ?_
      show Steps p.tables e below (T462.setTop (mkF m 394 #[.val (.int p1), .val (.int p2), .val (.int p3), .val (.int p4), .val (.ref b286), .val (.ref t295), .val (.ref b300), .val (.int (Int32.ofNat xs3.length)), .val (.ref t433), .val (.ref t440), .val (.int (1 : Int32)), .unset] [(.int (1 : Int32)), (.int (xs3.getD ((Int32.ofNat xs3.length) - (1 : Int32)).toNatClampNeg 0)), (.int ((Int32.ofNat xs3.length) - (1 : Int32))), (.ref t440)])) _
      refine XT.ixor X462.here hx rfl (hb hby at_394) rfl ?_
      show Steps p.tables e below (T462.setTop (mkF m 395 #[.val (.int p1), .val (.int p2), .val (.int p3), .val (.int p4), .val (.ref b286), .val (.ref t295), .val (.ref b300), .val (.int (Int32.ofNat xs3.length)), .val (.ref t433), .val (.ref t440), .val (.int (1 : Int32)), .unset] [(.int ((xs3.getD ((Int32.ofNat xs3.length) - (1 : Int32)).toNatClampNeg 0) ^^^ (1 : Int32))), (.int ((Int32.ofNat xs3.length) - (1 : Int32))), (.ref t440)])) _
      refine XT.i2b X462.here hx rfl (hb hby at_395) rfl ?_
      show Steps p.tables e below (T462.setTop (mkF m 396 #[.val (.int p1), .val (.int p2), .val (.int p3), .val (.int p4), .val (.ref b286), .val (.ref t295), .val (.ref b300), .val (.int (Int32.ofNat xs3.length)), .val (.ref t433), .val (.ref t440), .val (.int (1 : Int32)), .unset] [(.int ((xs3.getD ((Int32.ofNat xs3.length) - (1 : Int32)).toNatClampNeg 0) ^^^ (1 : Int32)).toInt8.toInt32), (.int ((Int32.ofNat xs3.length) - (1 : Int32))), (.ref t440)])) _
      refine st471 _ ?_
      show Steps p.tables e below (T471.setTop (mkF m 397 #[.val (.int p1), .val (.int p2), .val (.int p3), .val (.int p4), .val (.ref b286), .val (.ref t295), .val (.ref b300), .val (.int (Int32.ofNat xs3.length)), .val (.ref t433), .val (.ref t440), .val (.int (1 : Int32)), .unset] [])) _
      refine XS.aload X471.here hx rfl (hb hby at_397) rfl rfl ?_
      show Steps p.tables e below (T471.setTop (mkF m 399 #[.val (.int p1), .val (.int p2), .val (.int p3), .val (.int p4), .val (.ref b286), .val (.ref t295), .val (.ref b300), .val (.int (Int32.ofNat xs3.length)), .val (.ref t433), .val (.ref t440), .val (.int (1 : Int32)), .unset] [(.ref b286)])) _
      refine st478.trans ?_
      show Steps p.tables e below (T478.setTop (mkF m 402 #[.val (.int p1), .val (.int p2), .val (.int p3), .val (.int p4), .val (.ref b286), .val (.ref t295), .val (.ref b300), .val (.int (Int32.ofNat xs3.length)), .val (.ref t433), .val (.ref t440), .val (.int (1 : Int32)), .unset] [(.ref t478)])) _
      refine XS.astore X478.here hx rfl (hb hby at_402) rfl rfl (l' := #[.val (.int p1), .val (.int p2), .val (.int p3), .val (.int p4), .val (.ref b286), .val (.ref t295), .val (.ref b300), .val (.int (Int32.ofNat xs3.length)), .val (.ref t433), .val (.ref t440), .val (.int (1 : Int32)), .val (.ref t478)]) rfl ?_
      show Steps p.tables e below (T478.setTop (mkF m 404 #[.val (.int p1), .val (.int p2), .val (.int p3), .val (.int p4), .val (.ref b286), .val (.ref t295), .val (.ref b300), .val (.int (Int32.ofNat xs3.length)), .val (.ref t433), .val (.ref t440), .val (.int (1 : Int32)), .val (.ref t478)] [])) _
      refine XS.aload X478.here hx rfl (hb hby at_404) rfl rfl ?_
      show Steps p.tables e below (T478.setTop (mkF m 406 #[.val (.int p1), .val (.int p2), .val (.int p3), .val (.int p4), .val (.ref b286), .val (.ref t295), .val (.ref b300), .val (.int (Int32.ofNat xs3.length)), .val (.ref t433), .val (.ref t440), .val (.int (1 : Int32)), .val (.ref t478)] [(.ref t478)])) _
      refine X478.arraylength hx (by exact Ar485.1) (State.isArrayOf_alike hZ.alike Ar485.2.1) (g := (mkF m 406 #[.val (.int p1), .val (.int p2), .val (.int p3), .val (.int p4), .val (.ref b286), .val (.ref t295), .val (.ref b300), .val (.int (Int32.ofNat xs3.length)), .val (.ref t433), .val (.ref t440), .val (.int (1 : Int32)), .val (.ref t478)] [(.ref t478)])) rfl rfl (hb hby at_406) _ ?_
      rw [len_of Sz485 Nz485]
      show Steps p.tables e below (T478.setTop (mkF m 407 #[.val (.int p1), .val (.int p2), .val (.int p3), .val (.int p4), .val (.ref b286), .val (.ref t295), .val (.ref b300), .val (.int (Int32.ofNat xs3.length)), .val (.ref t433), .val (.ref t440), .val (.int (1 : Int32)), .val (.ref t478)] [(.int (Int32.ofNat xs3.length))])) _
      refine XS.iload X478.here hx rfl (hb hby at_407) rfl ?_
      show Steps p.tables e below (T478.setTop (mkF m 409 #[.val (.int p1), .val (.int p2), .val (.int p3), .val (.int p4), .val (.ref b286), .val (.ref t295), .val (.ref b300), .val (.int (Int32.ofNat xs3.length)), .val (.ref t433), .val (.ref t440), .val (.int (1 : Int32)), .val (.ref t478)] [(.int (Int32.ofNat xs3.length)), (.int (Int32.ofNat xs3.length))])) _
      refine XS.icmpNo X478.here hx rfl (hb hby at_409) rfl (XT.ii_ne_f rfl) ?_
      show Steps p.tables e below (T478.setTop (mkF m 412 #[.val (.int p1), .val (.int p2), .val (.int p3), .val (.int p4), .val (.ref b286), .val (.ref t295), .val (.ref b300), .val (.int (Int32.ofNat xs3.length)), .val (.ref t433), .val (.ref t440), .val (.int (1 : Int32)), .val (.ref t478)] [])) _
      refine XS.aload X478.here hx rfl (hb hby at_412) rfl rfl ?_
      show Steps p.tables e below (T478.setTop (mkF m 414 #[.val (.int p1), .val (.int p2), .val (.int p3), .val (.int p4), .val (.ref b286), .val (.ref t295), .val (.ref b300), .val (.int (Int32.ofNat xs3.length)), .val (.ref t433), .val (.ref t440), .val (.int (1 : Int32)), .val (.ref t478)] [(.ref t478)])) _
      refine XT.iconstV X478.here hx rfl (0 : Int32) (hb hby at_414) rfl ?_
      show Steps p.tables e below (T478.setTop (mkF m 415 #[.val (.int p1), .val (.int p2), .val (.int p3), .val (.int p4), .val (.ref b286), .val (.ref t295), .val (.ref b300), .val (.int (Int32.ofNat xs3.length)), .val (.ref t433), .val (.ref t440), .val (.int (1 : Int32)), .val (.ref t478)] [(.int (0 : Int32)), (.ref t478)])) _
      refine X478.baloadBytes hx (j := (0 : Int32)) (v := (.int (xs3.getD (0 : Int32).toNatClampNeg 0))) (by exact Ar486.1) (State.isArrayOf_alike hZ.alike Ar486.2.1) Ar486.2.2 Q486 H486 (g := (mkF m 415 #[.val (.int p1), .val (.int p2), .val (.int p3), .val (.int p4), .val (.ref b286), .val (.ref t295), .val (.ref b300), .val (.int (Int32.ofNat xs3.length)), .val (.ref t433), .val (.ref t440), .val (.int (1 : Int32)), .val (.ref t478)] [(.int (0 : Int32)), (.ref t478)])) rfl rfl (hb hby at_415) _ ?_
      show Steps p.tables e below (T478.setTop (mkF m 416 #[.val (.int p1), .val (.int p2), .val (.int p3), .val (.int p4), .val (.ref b286), .val (.ref t295), .val (.ref b300), .val (.int (Int32.ofNat xs3.length)), .val (.ref t433), .val (.ref t440), .val (.int (1 : Int32)), .val (.ref t478)] [(.int (xs3.getD (0 : Int32).toNatClampNeg 0))])) _
      refine XS.aload X478.here hx rfl (hb hby at_416) rfl rfl ?_
      show Steps p.tables e below (T478.setTop (mkF m 418 #[.val (.int p1), .val (.int p2), .val (.int p3), .val (.int p4), .val (.ref b286), .val (.ref t295), .val (.ref b300), .val (.int (Int32.ofNat xs3.length)), .val (.ref t433), .val (.ref t440), .val (.int (1 : Int32)), .val (.ref t478)] [(.ref b300), (.int (xs3.getD (0 : Int32).toNatClampNeg 0))])) _
      refine XT.iconstV X478.here hx rfl (0 : Int32) (hb hby at_418) rfl ?_
      show Steps p.tables e below (T478.setTop (mkF m 419 #[.val (.int p1), .val (.int p2), .val (.int p3), .val (.int p4), .val (.ref b286), .val (.ref t295), .val (.ref b300), .val (.int (Int32.ofNat xs3.length)), .val (.ref t433), .val (.ref t440), .val (.int (1 : Int32)), .val (.ref t478)] [(.int (0 : Int32)), (.ref b300), (.int (xs3.getD (0 : Int32).toNatClampNeg 0))])) _
      refine X478.iaload hx (j := (0 : Int32)) (v := (.int (es3.getD (0 : Int32).toNatClampNeg 0))) (by exact Ar487.1) (State.isArrayOf_alike hZ.alike Ar487.2.1) Ar487.2.2 Q487 H487 (g := (mkF m 419 #[.val (.int p1), .val (.int p2), .val (.int p3), .val (.int p4), .val (.ref b286), .val (.ref t295), .val (.ref b300), .val (.int (Int32.ofNat xs3.length)), .val (.ref t433), .val (.ref t440), .val (.int (1 : Int32)), .val (.ref t478)] [(.int (0 : Int32)), (.ref b300), (.int (xs3.getD (0 : Int32).toNatClampNeg 0))])) rfl rfl (hb hby at_419) _ ?_
      show Steps p.tables e below (T478.setTop (mkF m 420 #[.val (.int p1), .val (.int p2), .val (.int p3), .val (.int p4), .val (.ref b286), .val (.ref t295), .val (.ref b300), .val (.int (Int32.ofNat xs3.length)), .val (.ref t433), .val (.ref t440), .val (.int (1 : Int32)), .val (.ref t478)] [(.int (es3.getD (0 : Int32).toNatClampNeg 0)), (.int (xs3.getD (0 : Int32).toNatClampNeg 0))])) _
      refine XT.i2b X478.here hx rfl (hb hby at_420) rfl ?_
      show Steps p.tables e below (T478.setTop (mkF m 421 #[.val (.int p1), .val (.int p2), .val (.int p3), .val (.int p4), .val (.ref b286), .val (.ref t295), .val (.ref b300), .val (.int (Int32.ofNat xs3.length)), .val (.ref t433), .val (.ref t440), .val (.int (1 : Int32)), .val (.ref t478)] [(.int (es3.getD (0 : Int32).toNatClampNeg 0).toInt8.toInt32), (.int (xs3.getD (0 : Int32).toNatClampNeg 0))])) _
      refine XS.icmpNo X478.here hx rfl (hb hby at_421) rfl (XT.ii_ne_f (hq _)) ?_
      show Steps p.tables e below (T478.setTop (mkF m 424 #[.val (.int p1), .val (.int p2), .val (.int p3), .val (.int p4), .val (.ref b286), .val (.ref t295), .val (.ref b300), .val (.int (Int32.ofNat xs3.length)), .val (.ref t433), .val (.ref t440), .val (.int (1 : Int32)), .val (.ref t478)] [])) _
      refine XS.aload X478.here hx rfl (hb hby at_424) rfl rfl ?_
      show Steps p.tables e below (T478.setTop (mkF m 426 #[.val (.int p1), .val (.int p2), .val (.int p3), .val (.int p4), .val (.ref b286), .val (.ref t295), .val (.ref b300), .val (.int (Int32.ofNat xs3.length)), .val (.ref t433), .val (.ref t440), .val (.int (1 : Int32)), .val (.ref t478)] [(.ref t478)])) _
      refine XS.iload X478.here hx rfl (hb hby at_426) rfl ?_
      show Steps p.tables e below (T478.setTop (mkF m 428 #[.val (.int p1), .val (.int p2), .val (.int p3), .val (.int p4), .val (.ref b286), .val (.ref t295), .val (.ref b300), .val (.int (Int32.ofNat xs3.length)), .val (.ref t433), .val (.ref t440), .val (.int (1 : Int32)), .val (.ref t478)] [(.int (Int32.ofNat xs3.length)), (.ref t478)])) _
      refine XT.iconstV X478.here hx rfl (1 : Int32) (hb hby at_428) rfl ?_
      show Steps p.tables e below (T478.setTop (mkF m 429 #[.val (.int p1), .val (.int p2), .val (.int p3), .val (.int p4), .val (.ref b286), .val (.ref t295), .val (.ref b300), .val (.int (Int32.ofNat xs3.length)), .val (.ref t433), .val (.ref t440), .val (.int (1 : Int32)), .val (.ref t478)] [(.int (1 : Int32)), (.int (Int32.ofNat xs3.length)), (.ref t478)])) _
      refine XS.isub X478.here hx rfl (hb hby at_429) rfl ?_
      show Steps p.tables e below (T478.setTop (mkF m 430 #[.val (.int p1), .val (.int p2), .val (.int p3), .val (.int p4), .val (.ref b286), .val (.ref t295), .val (.ref b300), .val (.int (Int32.ofNat xs3.length)), .val (.ref t433), .val (.ref t440), .val (.int (1 : Int32)), .val (.ref t478)] [(.int ((Int32.ofNat xs3.length) - (1 : Int32))), (.ref t478)])) _
      refine X478.baloadBytes hx (j := ((Int32.ofNat xs3.length) - (1 : Int32))) (v := (.int (xs3.getD ((Int32.ofNat xs3.length) - (1 : Int32)).toNatClampNeg 0))) (by exact Ar488.1) (State.isArrayOf_alike hZ.alike Ar488.2.1) Ar488.2.2 Q488 H488 (g := (mkF m 430 #[.val (.int p1), .val (.int p2), .val (.int p3), .val (.int p4), .val (.ref b286), .val (.ref t295), .val (.ref b300), .val (.int (Int32.ofNat xs3.length)), .val (.ref t433), .val (.ref t440), .val (.int (1 : Int32)), .val (.ref t478)] [(.int ((Int32.ofNat xs3.length) - (1 : Int32))), (.ref t478)])) rfl rfl (hb hby at_430) _ ?_
      show Steps p.tables e below (T478.setTop (mkF m 431 #[.val (.int p1), .val (.int p2), .val (.int p3), .val (.int p4), .val (.ref b286), .val (.ref t295), .val (.ref b300), .val (.int (Int32.ofNat xs3.length)), .val (.ref t433), .val (.ref t440), .val (.int (1 : Int32)), .val (.ref t478)] [(.int (xs3.getD ((Int32.ofNat xs3.length) - (1 : Int32)).toNatClampNeg 0))])) _
      refine XS.aload X478.here hx rfl (hb hby at_431) rfl rfl ?_
      show Steps p.tables e below (T478.setTop (mkF m 433 #[.val (.int p1), .val (.int p2), .val (.int p3), .val (.int p4), .val (.ref b286), .val (.ref t295), .val (.ref b300), .val (.int (Int32.ofNat xs3.length)), .val (.ref t433), .val (.ref t440), .val (.int (1 : Int32)), .val (.ref t478)] [(.ref b300), (.int (xs3.getD ((Int32.ofNat xs3.length) - (1 : Int32)).toNatClampNeg 0))])) _
      refine XS.iload X478.here hx rfl (hb hby at_433) rfl ?_
      show Steps p.tables e below (T478.setTop (mkF m 435 #[.val (.int p1), .val (.int p2), .val (.int p3), .val (.int p4), .val (.ref b286), .val (.ref t295), .val (.ref b300), .val (.int (Int32.ofNat xs3.length)), .val (.ref t433), .val (.ref t440), .val (.int (1 : Int32)), .val (.ref t478)] [(.int (Int32.ofNat xs3.length)), (.ref b300), (.int (xs3.getD ((Int32.ofNat xs3.length) - (1 : Int32)).toNatClampNeg 0))])) _
      refine XT.iconstV X478.here hx rfl (1 : Int32) (hb hby at_435) rfl ?_
      show Steps p.tables e below (T478.setTop (mkF m 436 #[.val (.int p1), .val (.int p2), .val (.int p3), .val (.int p4), .val (.ref b286), .val (.ref t295), .val (.ref b300), .val (.int (Int32.ofNat xs3.length)), .val (.ref t433), .val (.ref t440), .val (.int (1 : Int32)), .val (.ref t478)] [(.int (1 : Int32)), (.int (Int32.ofNat xs3.length)), (.ref b300), (.int (xs3.getD ((Int32.ofNat xs3.length) - (1 : Int32)).toNatClampNeg 0))])) _
      refine XS.isub X478.here hx rfl (hb hby at_436) rfl ?_
      show Steps p.tables e below (T478.setTop (mkF m 437 #[.val (.int p1), .val (.int p2), .val (.int p3), .val (.int p4), .val (.ref b286), .val (.ref t295), .val (.ref b300), .val (.int (Int32.ofNat xs3.length)), .val (.ref t433), .val (.ref t440), .val (.int (1 : Int32)), .val (.ref t478)] [(.int ((Int32.ofNat xs3.length) - (1 : Int32))), (.ref b300), (.int (xs3.getD ((Int32.ofNat xs3.length) - (1 : Int32)).toNatClampNeg 0))])) _
      refine X478.iaload hx (j := ((Int32.ofNat xs3.length) - (1 : Int32))) (v := (.int (es3.getD ((Int32.ofNat xs3.length) - (1 : Int32)).toNatClampNeg 0))) (by exact Ar489.1) (State.isArrayOf_alike hZ.alike Ar489.2.1) Ar489.2.2 Q489 H489 (g := (mkF m 437 #[.val (.int p1), .val (.int p2), .val (.int p3), .val (.int p4), .val (.ref b286), .val (.ref t295), .val (.ref b300), .val (.int (Int32.ofNat xs3.length)), .val (.ref t433), .val (.ref t440), .val (.int (1 : Int32)), .val (.ref t478)] [(.int ((Int32.ofNat xs3.length) - (1 : Int32))), (.ref b300), (.int (xs3.getD ((Int32.ofNat xs3.length) - (1 : Int32)).toNatClampNeg 0))])) rfl rfl (hb hby at_437) _ ?_
      show Steps p.tables e below (T478.setTop (mkF m 438 #[.val (.int p1), .val (.int p2), .val (.int p3), .val (.int p4), .val (.ref b286), .val (.ref t295), .val (.ref b300), .val (.int (Int32.ofNat xs3.length)), .val (.ref t433), .val (.ref t440), .val (.int (1 : Int32)), .val (.ref t478)] [(.int (es3.getD ((Int32.ofNat xs3.length) - (1 : Int32)).toNatClampNeg 0)), (.int (xs3.getD ((Int32.ofNat xs3.length) - (1 : Int32)).toNatClampNeg 0))])) _
      refine XT.i2b X478.here hx rfl (hb hby at_438) rfl ?_
      show Steps p.tables e below (T478.setTop (mkF m 439 #[.val (.int p1), .val (.int p2), .val (.int p3), .val (.int p4), .val (.ref b286), .val (.ref t295), .val (.ref b300), .val (.int (Int32.ofNat xs3.length)), .val (.ref t433), .val (.ref t440), .val (.int (1 : Int32)), .val (.ref t478)] [(.int (es3.getD ((Int32.ofNat xs3.length) - (1 : Int32)).toNatClampNeg 0).toInt8.toInt32), (.int (xs3.getD ((Int32.ofNat xs3.length) - (1 : Int32)).toNatClampNeg 0))])) _
      refine XS.icmpNo X478.here hx rfl (hb hby at_439) rfl (XT.ii_ne_f (hq _)) ?_
      show Steps p.tables e below (T478.setTop (mkF m 442 #[.val (.int p1), .val (.int p2), .val (.int p3), .val (.int p4), .val (.ref b286), .val (.ref t295), .val (.ref b300), .val (.int (Int32.ofNat xs3.length)), .val (.ref t433), .val (.ref t440), .val (.int (1 : Int32)), .val (.ref t478)] [])) _
      refine XT.iconstV X478.here hx rfl (1 : Int32) (hb hby at_442) rfl ?_
      show Steps p.tables e below (T478.setTop (mkF m 443 #[.val (.int p1), .val (.int p2), .val (.int p3), .val (.int p4), .val (.ref b286), .val (.ref t295), .val (.ref b300), .val (.int (Int32.ofNat xs3.length)), .val (.ref t433), .val (.ref t440), .val (.int (1 : Int32)), .val (.ref t478)] [(.int (1 : Int32))])) _
      refine XS.goto X478.here hx rfl (pc0 := 443) (pc' := 447) rfl (hb hby at_443) (by decide) (by decide) ?_
      show Steps p.tables e below (T478.setTop (mkF m 447 #[.val (.int p1), .val (.int p2), .val (.int p3), .val (.int p4), .val (.ref b286), .val (.ref t295), .val (.ref b300), .val (.int (Int32.ofNat xs3.length)), .val (.ref t433), .val (.ref t440), .val (.int (1 : Int32)), .val (.ref t478)] [(.int (1 : Int32))])) _
      exact retN X478 hx (t := .boolean) Bd.returns (by simp) (hb hby at_447) hr
    · show own_Q0 n0 _ T478.heap _
      exact ⟨rfl, N478⟩
set_option maxRecDepth 65536 in
set_option maxHeartbeats 40000000 in
theorem comes_1 {Post : Tables → Env → Array Value → State → Outcome → State → Prop} (hpost : ∀ tb e args s v u, (limb_1_1.after args s (.returned v) u = true ∧ limb_1_2.after args s (.returned v) u = true ∧ True) → FrameEnd s (.returned v) u (Jvm.fieldLocs frame_1_writes args s ++ Jvm.arrayLocs frame_1_arrays args s ++ Jvm.staticLocs frame_1_statics s) 32 320 → Post tb e args s (.returned v) u) :
    ArmFor flags0 classFile x code maxLocals ret World_1 tables_1 room_1 Calls_1 rest_1 Pre_1 Post := by
  intro l hfl _ _ p e ha hc hk s m args below hf hA hF happ hP
  obtain ⟨hcalls, hrest, hpre⟩ := hP
  obtain ⟨-, -, -, hnamed, -, -, -, hat⟩ := (Spec.applies_iff hf).mp happ
  obtain ⟨hg, hn⟩ := and_e (Cond.before_iff.mp (show (Jvm.Cond.and given_1 narrow_1).before args s = true from hpre))
  obtain ⟨gg, gr⟩ := and_e hg
  obtain ⟨a0, a1, a2, a3, rfl⟩ : ∃ a0 a1 a2 a3 : Value, args = #[a0, a1, a2, a3] := by
    have hs : args.size = 4 := by simpa [Cond.value, given_1] using gg
    obtain ⟨L⟩ := args
    match L, hs with
    | [a0, a1, a2, a3], _ => exact ⟨a0, a1, a2, a3, rfl⟩
  have hw := fun d (hd : d ∈ tables_1) => atoms_spec (ws := Jvm.Cond.code x code maxLocals ret :: tables_1) hat d (List.mem_cons_of_mem _ hd)
  have hfit : Fit s := fun {y c} hc i hi => by
    obtain ⟨ha, rfl⟩ := Array.getElem?_eq_some_iff.mp hc
    have q := List.all_eq_true.mp ((Array.all_eq_true_iff_forall_mem.mp hF) _ (Array.getElem_mem ha)) i (List.mem_range.mpr hi)
    simpa [Array.getElem?_eq_getElem hi] using q
  obtain ⟨gi0, gr0⟩ := and_e gr
  obtain ⟨i0, ei0⟩ := is_v gi0
  obtain rfl : a0 = (.int i0) := Option.some.inj ei0
  obtain ⟨gi1, gr1⟩ := and_e gr0
  obtain ⟨i1, ei1⟩ := is_v gi1
  obtain rfl : a1 = (.int i1) := Option.some.inj ei1
  obtain ⟨gi2, gr2⟩ := and_e gr1
  obtain ⟨i2, ei2⟩ := is_v gi2
  obtain rfl : a2 = (.int i2) := Option.some.inj ei2
  obtain ⟨i3, ei3⟩ := is_v gr2
  obtain rfl : a3 = (.int i3) := Option.some.inj ei3
  obtain ⟨hsets, hown0⟩ := atoms_of _ (rest_1_c_eq ▸ (show rest_1_c.before _ s = true from hrest))
  have n3 := not_v (Cond.before_iff.mp (hsets _ (List.mem_of_getElem? (i := 2) rfl)))
  obtain ⟨i7, e6⟩ := is_v (Cond.before_iff.mp (hsets _ (List.mem_of_getElem? (i := 1) rfl)))
  have S8 : Sta s s.heap "java/lang/String" "COMPACT_STRINGS" "Z" (.int i7) := Sta.start e6 (Or.inl (hsets _ (List.mem_of_getElem? (i := 0) rfl)))
  have c9 : ¬ (i7 = (0 : Int32)) := gotF (Cond.eq_ints e6 (Term.int_eval (0))) n3
  obtain ⟨wu, vu⟩ := exa_v (Cond.before_iff.mp (hsets _ (List.mem_of_getElem? (i := 14) rfl)))
  obtain ⟨wi, vi⟩ := exa_v (Cond.before_iff.mp (hsets _ (List.mem_of_getElem? (i := 17) rfl)))
  obtain rfl : wu = wi := Value.ref.inj (gotT (eq_R vu vi rfl rfl) (Cond.before_iff.mp (hsets _ (List.mem_of_getElem? (i := 13) rfl))))
  have SU := Sta.start vu (Or.inl (hsets _ (List.mem_of_getElem? (i := 10) rfl)))
  have SI := Sta.start vi (Or.inl (hsets _ (List.mem_of_getElem? (i := 12) rfl)))
  obtain ⟨n, o, h1, h2, h3, _, L, rfl, ⟨rfl, N⟩, hq⟩ := own_law l s _ hw tables_1 i0 i1 i2 i3 i7 wu s.heap s.heap.size (Nat.le_refl _) S8 c9 SI SU p e ha hc hk s m _ below hf ((Spec.applies_iff_loose hf).mp happ).1 ⟨rfl, State.Warmed39.refl s, rfl⟩ trivial
  refine ⟨n, _, h1, h2, h3, hpost _ _ _ _ _ _ ⟨Cond.after_iff.mpr rfl, Cond.after_iff.mpr (eq_i res_at (Term.int_eval (1)) rfl), trivial⟩ ⟨hq.1, hq.2.1, (hq.2.2.sift fun y hy => Or.inr (N y hy)).mono (by decide) (by decide)⟩⟩
theorem main_1_1 : Claimed_1_1 := comes_1 fun _ _ _ _ _ _ h hF => ⟨h.1, hF⟩
theorem main_1_2 : Claimed_1_2 := comes_1 fun _ _ _ _ _ _ h hF => ⟨h.2.1, hF⟩
end Jvm.Pilot.@@N@@
namespace Jvm.Pilot.@@N@@
open Jvm Jvm.ClassFile Sem Op Lib Jvm.Free Jvm.Stand Jvm.Pilot.@@N@@.Jvm.D
/-! MADE BY PROGRAM (witnessworld.py) out of the Statement's table words and the real class files: 27 classes; the members and pool entries that the words name. The judged class is class 1, her method 1. -/
namespace start1
open Jvm.ClassFile
def u (s : String) : CpInfo := .utf8 (stringToUtf16 s)
/-- a pool by its gaps: so many unusable entries, then the entry; so many at the end -/
def gap : Nat → List CpInfo → List CpInfo
  | 0, r => r
  | n + 1, r => .unusable :: gap n r
def poolList (es : List (Nat × CpInfo)) (last : Nat) : List CpInfo := es.foldr (fun e r => gap e.1 (e.2 :: r)) (gap last [])
def pool (es : List (Nat × CpInfo)) (last : Nat) : Array CpInfo := ⟨poolList es last⟩
def fileOf (pool : Array CpInfo) (this : Nat) (attrs : Array Attribute := #[]) (ms : Array MethodInfo := #[]) (fl : Nat := 33) (sup : Nat := 0) (ifs : Array Nat := #[]) (fds : Array FieldInfo := #[]) : ClassFile where
  minorVersion := 0
  majorVersion := 65
  constantPool := pool
  accessFlags := fl
  thisClass := this
  superClass := sup
  interfaces := ifs
  fields := fds
  methods := ms
  attributes := attrs
def plain (name : String) (sup : Option ClassId) : Class where
  name := name
  kind := .ordinary
  loader := none
  accessFlags := 33
  super := sup
  interfaces := #[]
  cf := none
  fields := #[]
  methods := #[]
  instanceTypes := #[]
  staticTypes := #[]
  resolved := #[]
  callSites := []
  init := .initialized
  statics := none
  mirror := none

def pool0 : Array CpInfo := pool [(5, u "<init>"), (0, u "()V"), (1, .class_ 10), (1, u "java/lang/Object"), (85, u "clone"), (0, u "()Ljava/lang/Object;")] 26

def k0c0 : Code := { maxStack := 0, maxLocals := 1, code := object_method_1_code, exceptionTable := #[], attributes := #[] }
def k0m0 : Method := { name := "<init>", desc := "()V", sig := { parameters := [], returnType := none }, accessFlags := 1, code := some k0c0 }
def k0m1 : Method := { name := "clone", desc := "()Ljava/lang/Object;", sig := { parameters := [], returnType := some (.object "java/lang/Object") }, accessFlags := 260, code := none }
/-- java/lang/Object -/
def k0 : Class := { plain "java/lang/Object" none with
  accessFlags := 33
  interfaces := #[]
  cf := some (fileOf pool0 8 #[] #[{ accessFlags := 1, nameIndex := 5, descriptorIndex := 6, attributes := #[] }, { accessFlags := 260, nameIndex := 96, descriptorIndex := 97, attributes := #[] }] 33 0 #[] #[])
  fields := #[]
  methods := #[k0m0, k0m1]
  instanceTypes := #[]
  staticTypes := #[]
  resolved := Array.replicate 124 none
  statics := none }

def pool1 : Array CpInfo := pool [(2, .class_ 4), (0, .nameAndType 5 6), (0, u "java/lang/Object"), (0, u "<init>"), (0, u "()V"), (0, .class_ 8), (0, u "com/example/chitragupta/chitragupta/ledger/KeyBuilder"), (0, .methodref 7 3), (0, .methodref 7 11), (0, .nameAndType 12 13), (0, u "build"), (0, u "()[B"), (0, .methodref 7 15), (0, .nameAndType 16 17), (0, u "number"), (0, u "(I)Lcom/example/chitragupta/chitragupta/ledger/KeyBuilder;"), (0, .methodref 19 20), (0, .class_ 21), (0, .nameAndType 22 23), (0, u "com/example/chitragupta/chitragupta/ledger/KeyBuilderBuildPinLaw"), (0, u "put4"), (0, u "([III)I"), (0, .methodref 25 26), (0, .class_ 27), (0, .nameAndType 28 29), (0, u "java/lang/String"), (0, u "valueOf"), (0, u "(C)Ljava/lang/String;"), (0, .methodref 7 31), (0, .nameAndType 32 33), (0, u "last"), (0, u "(Ljava/lang/String;)Lcom/example/chitragupta/chitragupta/ledger/KeyBuilder;"), (0, .methodref 19 35), (0, .nameAndType 36 37), (0, u "same"), (0, u "([B[B[III)Z"), (2, u "law"), (0, u "(IIII)Z")] 7

def k1m0 : Method := { name := "<init>", desc := "()V", sig := { parameters := [], returnType := none }, accessFlags := 1, code := none }
def k1c1 : Code := { maxStack := 5, maxLocals := 12, code := code, exceptionTable := #[], attributes := #[] }
def k1m1 : Method := { name := "law", desc := "(IIII)Z", sig := { parameters := [.int, .int, .int, .int], returnType := some .boolean }, accessFlags := 9, code := some k1c1 }
def k1c2 : Code := { maxStack := 4, maxLocals := 3, code := method_3_code, exceptionTable := #[], attributes := #[] }
def k1m2 : Method := { name := "put4", desc := "([III)I", sig := { parameters := [(.array .int), .int, .int], returnType := some .int }, accessFlags := 10, code := some k1c2 }
def k1c3 : Code := { maxStack := 3, maxLocals := 5, code := method_4_code, exceptionTable := #[], attributes := #[] }
def k1m3 : Method := { name := "same", desc := "([B[B[III)Z", sig := { parameters := [(.array .byte), (.array .byte), (.array .int), .int, .int], returnType := some .boolean }, accessFlags := 10, code := some k1c3 }
/-- com/example/chitragupta/chitragupta/ledger/KeyBuilderBuildPinLaw -/
def k1 : Class := { plain "com/example/chitragupta/chitragupta/ledger/KeyBuilderBuildPinLaw" (some 0) with
  accessFlags := 49
  interfaces := #[]
  cf := some (fileOf pool1 19 #[] #[{ accessFlags := 1, nameIndex := 5, descriptorIndex := 6, attributes := #[] }, { accessFlags := 9, nameIndex := 40, descriptorIndex := 41, attributes := #[] }, { accessFlags := 10, nameIndex := 22, descriptorIndex := 23, attributes := #[] }, { accessFlags := 10, nameIndex := 36, descriptorIndex := 37, attributes := #[] }] 49 2 #[] #[])
  fields := #[]
  methods := #[k1m0, k1m1, k1m2, k1m3]
  instanceTypes := #[]
  staticTypes := #[]
  resolved := Array.replicate 49 none
  statics := none }

def pool2 : Array CpInfo := pool [(1, .methodref 2 3), (0, .class_ 4), (0, .nameAndType 5 6), (0, u "java/lang/Object"), (0, u "<init>"), (0, u "()V"), (0, .fieldref 8 9), (0, .class_ 10), (0, .nameAndType 11 12), (0, u "com/example/chitragupta/chitragupta/ledger/KeyBuilder"), (0, u "bytes"), (0, u "[B"), (0, .fieldref 14 15), (0, .class_ 16), (0, .nameAndType 17 18), (0, u "java/nio/charset/StandardCharsets"), (0, u "UTF_8"), (0, u "Ljava/nio/charset/Charset;"), (0, .methodref 20 21), (0, .class_ 22), (0, .nameAndType 23 24), (0, u "java/lang/String"), (0, u "getBytes"), (0, u "(Ljava/nio/charset/Charset;)[B"), (2, u "number"), (0, u "(I)Lcom/example/chitragupta/chitragupta/ledger/KeyBuilder;"), (0, .methodref 8 30), (0, .nameAndType 31 32), (0, u "append"), (0, u "([B)V"), (2, .methodref 8 36), (0, .nameAndType 31 37), (0, u "(JI)V"), (14, .fieldref 8 53), (0, .nameAndType 54 55), (0, u "length"), (0, u "I"), (0, .methodref 57 58), (0, .class_ 59), (0, .nameAndType 60 61), (0, u "java/util/Arrays"), (0, u "copyOf"), (0, u "([BI)[B"), (2, u "build"), (0, u "()[B"), (55, u "(Ljava/lang/String;)Lcom/example/chitragupta/chitragupta/ledger/KeyBuilder;"), (0, .methodref 8 123), (0, .nameAndType 124 125), (0, u "room"), (0, u "(I)V"), (0, .methodref 127 128), (0, .class_ 129), (0, .nameAndType 130 131), (0, u "java/lang/System"), (0, u "arraycopy"), (0, u "(Ljava/lang/Object;ILjava/lang/Object;II)V"), (12, u "last")] 12

def k2c0 : Code := { maxStack := 2, maxLocals := 1, code := prog_10_method_1_code, exceptionTable := #[], attributes := #[] }
def k2m0 : Method := { name := "<init>", desc := "()V", sig := { parameters := [], returnType := none }, accessFlags := 0, code := some k2c0 }
def k2c1 : Code := { maxStack := 4, maxLocals := 2, code := prog_10_method_3_code, exceptionTable := #[], attributes := #[] }
def k2m1 : Method := { name := "number", desc := "(I)Lcom/example/chitragupta/chitragupta/ledger/KeyBuilder;", sig := { parameters := [.int], returnType := some (.object "com/example/chitragupta/chitragupta/ledger/KeyBuilder") }, accessFlags := 0, code := some k2c1 }
def k2c2 : Code := { maxStack := 3, maxLocals := 2, code := prog_10_method_5_code, exceptionTable := #[], attributes := #[] }
def k2m2 : Method := { name := "last", desc := "(Ljava/lang/String;)Lcom/example/chitragupta/chitragupta/ledger/KeyBuilder;", sig := { parameters := [(.object "java/lang/String")], returnType := some (.object "com/example/chitragupta/chitragupta/ledger/KeyBuilder") }, accessFlags := 0, code := some k2c2 }
def k2c3 : Code := { maxStack := 2, maxLocals := 1, code := prog_10_method_6_code, exceptionTable := #[], attributes := #[] }
def k2m3 : Method := { name := "build", desc := "()[B", sig := { parameters := [], returnType := some (.array .byte) }, accessFlags := 0, code := some k2c3 }
def k2c4 : Code := { maxStack := 5, maxLocals := 2, code := prog_10_method_10_code, exceptionTable := #[], attributes := #[] }
def k2m4 : Method := { name := "append", desc := "([B)V", sig := { parameters := [(.array .byte)], returnType := none }, accessFlags := 2, code := some k2c4 }
def k2c5 : Code := { maxStack := 5, maxLocals := 5, code := prog_10_method_11_code, exceptionTable := #[], attributes := #[] }
def k2m5 : Method := { name := "append", desc := "(JI)V", sig := { parameters := [.long, .int], returnType := none }, accessFlags := 2, code := some k2c5 }
def k2c6 : Code := { maxStack := 5, maxLocals := 2, code := prog_10_method_12_code, exceptionTable := #[], attributes := #[] }
def k2m6 : Method := { name := "room", desc := "(I)V", sig := { parameters := [.int], returnType := none }, accessFlags := 2, code := some k2c6 }
/-- com/example/chitragupta/chitragupta/ledger/KeyBuilder -/
def k2 : Class := { plain "com/example/chitragupta/chitragupta/ledger/KeyBuilder" (some 0) with
  accessFlags := 32
  interfaces := #[]
  cf := some (fileOf pool2 8 #[] #[{ accessFlags := 0, nameIndex := 5, descriptorIndex := 6, attributes := #[] }, { accessFlags := 0, nameIndex := 27, descriptorIndex := 28, attributes := #[] }, { accessFlags := 0, nameIndex := 144, descriptorIndex := 121, attributes := #[] }, { accessFlags := 0, nameIndex := 64, descriptorIndex := 65, attributes := #[] }, { accessFlags := 2, nameIndex := 31, descriptorIndex := 32, attributes := #[] }, { accessFlags := 2, nameIndex := 31, descriptorIndex := 37, attributes := #[] }, { accessFlags := 2, nameIndex := 124, descriptorIndex := 125, attributes := #[] }] 32 2 #[] #[{ accessFlags := 2, nameIndex := 11, descriptorIndex := 12, attributes := #[] }, { accessFlags := 2, nameIndex := 54, descriptorIndex := 55, attributes := #[] }])
  fields := #[{ name := "bytes", type := (.array .byte), accessFlags := 2, slot := 0, constantValue := 0 }, { name := "length", type := .int, accessFlags := 2, slot := 1, constantValue := 0 }]
  methods := #[k2m0, k2m1, k2m2, k2m3, k2m4, k2m5, k2m6]
  instanceTypes := #[(.array .byte), .int]
  staticTypes := #[]
  resolved := Array.replicate 157 none
  statics := none }

def pool3 : Array CpInfo := pool [(2, .class_ 4), (1, u "java/lang/Object"), (0, u "<init>"), (0, u "()V"), (7, .class_ 16), (1, u "java/util/Arrays"), (57, .class_ 76), (1, u "java/util/Arrays$NaturalOrder"), (36, .class_ 115), (1, u "java/util/Arrays$LegacyMergeSort"), (1, u "Z"), (32, .methodref 151 152), (0, .class_ 153), (0, .nameAndType 154 155), (0, u "java/lang/System"), (0, u "arraycopy"), (0, u "(Ljava/lang/Object;ILjava/lang/Object;II)V"), (146, u "copyOf"), (1, .methodref 305 306), (0, .class_ 307), (0, .nameAndType 308 309), (0, u "java/lang/Math"), (0, u "min"), (0, u "(II)I"), (65, .class_ 376), (0, u "java/util/Arrays$ArrayList"), (68, u "$assertionsDisabled"), (269, u "MIN_ARRAY_SORT_GRAN"), (0, u "I"), (2, u "INSERTIONSORT_THRESHOLD"), (149, u "([BI)[B"), (105, .class_ 976), (0, u "java/util/Arrays$ArrayItr")] 52

def k3m0 : Method := { name := "<init>", desc := "()V", sig := { parameters := [], returnType := none }, accessFlags := 2, code := none }
def k3c1 : Code := { maxStack := 6, maxLocals := 3, code := jdk_65_method_121_code, exceptionTable := #[], attributes := #[] }
def k3m1 : Method := { name := "copyOf", desc := "([BI)[B", sig := { parameters := [(.array .byte), .int], returnType := some (.array .byte) }, accessFlags := 9, code := some k3c1 }
/-- java/util/Arrays -/
def k3 : Class := { plain "java/util/Arrays" (some 0) with
  accessFlags := 49
  interfaces := #[]
  cf := some (fileOf pool3 14 #[.nestMembers #[975, 375, 113, 74]] #[{ accessFlags := 2, nameIndex := 5, descriptorIndex := 6, attributes := #[] }, { accessFlags := 9, nameIndex := 302, descriptorIndex := 869, attributes := #[] }] 49 2 #[] #[{ accessFlags := 26, nameIndex := 715, descriptorIndex := 716, attributes := #[] }, { accessFlags := 26, nameIndex := 719, descriptorIndex := 716, attributes := #[] }, { accessFlags := 4120, nameIndex := 445, descriptorIndex := 117, attributes := #[] }])
  fields := #[{ name := "MIN_ARRAY_SORT_GRAN", type := .int, accessFlags := 26, slot := 0, constantValue := 0 }, { name := "INSERTIONSORT_THRESHOLD", type := .int, accessFlags := 26, slot := 1, constantValue := 0 }, { name := "$assertionsDisabled", type := .boolean, accessFlags := 4120, slot := 2, constantValue := 0 }]
  methods := #[k3m0, k3m1]
  instanceTypes := #[]
  staticTypes := #[.int, .int, .boolean]
  resolved := Array.replicate 1029 none
  statics := none }

def pool4 : Array CpInfo := pool [(1, .class_ 2), (0, u "java/lang/Math"), (1, .class_ 6), (1, u "java/lang/Object"), (0, u "<init>"), (0, u "()V"), (89, .class_ 100), (1, u "java/lang/Math$RandomNumberGeneratorHolder"), (71, u "negativeZeroFloatBits"), (0, u "J"), (2, u "negativeZeroDoubleBits"), (24, u "min"), (43, u "$assertionsDisabled"), (0, u "Z"), (88, u "(II)I"), (2, u "twoToTheDoubleScaleDown"), (0, u "D"), (4, u "twoToTheDoubleScaleUp"), (9, u "E"), (3, u "PI"), (2, u "TAU"), (2, u "DEGREES_TO_RADIANS"), (0, u "RADIANS_TO_DEGREES")] 94

def k4m0 : Method := { name := "<init>", desc := "()V", sig := { parameters := [], returnType := none }, accessFlags := 2, code := none }
def k4c1 : Code := { maxStack := 2, maxLocals := 2, code := jdk_29_method_69_code, exceptionTable := #[], attributes := #[] }
def k4m1 : Method := { name := "min", desc := "(II)I", sig := { parameters := [.int, .int], returnType := some .int }, accessFlags := 9, code := some k4c1 }
/-- java/lang/Math -/
def k4 : Class := { plain "java/lang/Math" (some 0) with
  accessFlags := 49
  interfaces := #[]
  cf := some (fileOf pool4 1 #[.nestMembers #[98]] #[{ accessFlags := 2, nameIndex := 7, descriptorIndex := 8, attributes := #[] }, { accessFlags := 9, nameIndex := 201, descriptorIndex := 335, attributes := #[] }] 49 4 #[] #[{ accessFlags := 25, nameIndex := 354, descriptorIndex := 339, attributes := #[] }, { accessFlags := 25, nameIndex := 358, descriptorIndex := 339, attributes := #[] }, { accessFlags := 25, nameIndex := 361, descriptorIndex := 339, attributes := #[] }, { accessFlags := 26, nameIndex := 364, descriptorIndex := 339, attributes := #[] }, { accessFlags := 26, nameIndex := 365, descriptorIndex := 339, attributes := #[] }, { accessFlags := 26, nameIndex := 172, descriptorIndex := 173, attributes := #[] }, { accessFlags := 26, nameIndex := 176, descriptorIndex := 173, attributes := #[] }, { accessFlags := 8, nameIndex := 344, descriptorIndex := 339, attributes := #[] }, { accessFlags := 8, nameIndex := 338, descriptorIndex := 339, attributes := #[] }, { accessFlags := 4120, nameIndex := 245, descriptorIndex := 246, attributes := #[] }])
  fields := #[{ name := "E", type := .double, accessFlags := 25, slot := 0, constantValue := 0 }, { name := "PI", type := .double, accessFlags := 25, slot := 1, constantValue := 0 }, { name := "TAU", type := .double, accessFlags := 25, slot := 2, constantValue := 0 }, { name := "DEGREES_TO_RADIANS", type := .double, accessFlags := 26, slot := 3, constantValue := 0 }, { name := "RADIANS_TO_DEGREES", type := .double, accessFlags := 26, slot := 4, constantValue := 0 }, { name := "negativeZeroFloatBits", type := .long, accessFlags := 26, slot := 5, constantValue := 0 }, { name := "negativeZeroDoubleBits", type := .long, accessFlags := 26, slot := 6, constantValue := 0 }, { name := "twoToTheDoubleScaleUp", type := .double, accessFlags := 8, slot := 7, constantValue := 0 }, { name := "twoToTheDoubleScaleDown", type := .double, accessFlags := 8, slot := 8, constantValue := 0 }, { name := "$assertionsDisabled", type := .boolean, accessFlags := 4120, slot := 9, constantValue := 0 }]
  methods := #[k4m0, k4m1]
  instanceTypes := #[]
  staticTypes := #[.double, .double, .double, .double, .double, .long, .long, .double, .double, .boolean]
  resolved := Array.replicate 460 none
  statics := none }

def pool5 : Array CpInfo := pool [(2, .class_ 4), (1, u "java/lang/Object"), (0, u "<init>"), (0, u "()V"), (1, .class_ 10), (1, u "java/lang/System"), (0, u "allowSecurityManager"), (0, u "I"), (16, u "cons"), (0, u "Ljava/io/Console;"), (77, .class_ 110), (1, u "java/lang/System$CallersHolder"), (43, u "initialErrStream"), (0, u "Ljava/io/PrintStream;"), (19, u "security"), (0, u "Ljava/lang/SecurityManager;"), (31, .class_ 209), (0, u "java/lang/System$1"), (7, u "props"), (0, u "Ljava/util/Properties;"), (2, u "lineSeparator"), (0, u "Ljava/lang/String;"), (96, .class_ 321), (1, u "java/lang/System$LoggerFinder"), (5, .class_ 328), (0, u "java/lang/System$Logger"), (67, u "err"), (2, u "out"), (91, u "notSupportedJnuEncoding"), (15, u "in"), (17, u "initialIn"), (0, u "Ljava/io/InputStream;"), (35, u "bootLayer"), (0, u "Ljava/lang/ModuleLayer;"), (99, .class_ 664), (0, u "java/lang/System$2"), (9, u "NEVER"), (2, u "MAYBE"), (49, u "arraycopy"), (0, u "(Ljava/lang/Object;ILjava/lang/Object;II)V"), (72, .class_ 802), (0, u "java/lang/System$Logger$Level")] 31

def k5m0 : Method := { name := "<init>", desc := "()V", sig := { parameters := [], returnType := none }, accessFlags := 2, code := none }
def k5m1 : Method := { name := "arraycopy", desc := "(Ljava/lang/Object;ILjava/lang/Object;II)V", sig := { parameters := [(.object "java/lang/Object"), .int, (.object "java/lang/Object"), .int, .int], returnType := none }, accessFlags := 265, code := none }
/-- java/lang/System -/
def k5 : Class := { plain "java/lang/System" (some 0) with
  accessFlags := 49
  interfaces := #[]
  cf := some (fileOf pool5 8 #[.nestMembers #[319, 327, 801, 108, 663, 208]] #[{ accessFlags := 2, nameIndex := 5, descriptorIndex := 6, attributes := #[] }, { accessFlags := 265, nameIndex := 727, descriptorIndex := 728, attributes := #[] }] 49 2 #[] #[{ accessFlags := 25, nameIndex := 507, descriptorIndex := 526, attributes := #[] }, { accessFlags := 25, nameIndex := 399, descriptorIndex := 155, attributes := #[] }, { accessFlags := 25, nameIndex := 396, descriptorIndex := 155, attributes := #[] }, { accessFlags := 10, nameIndex := 525, descriptorIndex := 526, attributes := #[] }, { accessFlags := 26, nameIndex := 674, descriptorIndex := 12, attributes := #[] }, { accessFlags := 26, nameIndex := 677, descriptorIndex := 12, attributes := #[] }, { accessFlags := 10, nameIndex := 11, descriptorIndex := 12, attributes := #[] }, { accessFlags := 74, nameIndex := 175, descriptorIndex := 176, attributes := #[] }, { accessFlags := 10, nameIndex := 491, descriptorIndex := 222, attributes := #[] }, { accessFlags := 74, nameIndex := 29, descriptorIndex := 30, attributes := #[] }, { accessFlags := 74, nameIndex := 154, descriptorIndex := 155, attributes := #[] }, { accessFlags := 10, nameIndex := 217, descriptorIndex := 218, attributes := #[] }, { accessFlags := 10, nameIndex := 221, descriptorIndex := 222, attributes := #[] }, { accessFlags := 8, nameIndex := 562, descriptorIndex := 563, attributes := #[] }])
  fields := #[{ name := "in", type := (.object "java/io/InputStream"), accessFlags := 25, slot := 0, constantValue := 0 }, { name := "out", type := (.object "java/io/PrintStream"), accessFlags := 25, slot := 1, constantValue := 0 }, { name := "err", type := (.object "java/io/PrintStream"), accessFlags := 25, slot := 2, constantValue := 0 }, { name := "initialIn", type := (.object "java/io/InputStream"), accessFlags := 10, slot := 3, constantValue := 0 }, { name := "NEVER", type := .int, accessFlags := 26, slot := 4, constantValue := 0 }, { name := "MAYBE", type := .int, accessFlags := 26, slot := 5, constantValue := 0 }, { name := "allowSecurityManager", type := .int, accessFlags := 10, slot := 6, constantValue := 0 }, { name := "security", type := (.object "java/lang/SecurityManager"), accessFlags := 74, slot := 7, constantValue := 0 }, { name := "notSupportedJnuEncoding", type := (.object "java/lang/String"), accessFlags := 10, slot := 8, constantValue := 0 }, { name := "cons", type := (.object "java/io/Console"), accessFlags := 74, slot := 9, constantValue := 0 }, { name := "initialErrStream", type := (.object "java/io/PrintStream"), accessFlags := 74, slot := 10, constantValue := 0 }, { name := "props", type := (.object "java/util/Properties"), accessFlags := 10, slot := 11, constantValue := 0 }, { name := "lineSeparator", type := (.object "java/lang/String"), accessFlags := 10, slot := 12, constantValue := 0 }, { name := "bootLayer", type := (.object "java/lang/ModuleLayer"), accessFlags := 8, slot := 13, constantValue := 0 }]
  methods := #[k5m0, k5m1]
  instanceTypes := #[]
  staticTypes := #[(.object "java/io/InputStream"), (.object "java/io/PrintStream"), (.object "java/io/PrintStream"), (.object "java/io/InputStream"), .int, .int, .int, (.object "java/lang/SecurityManager"), (.object "java/lang/String"), (.object "java/io/Console"), (.object "java/io/PrintStream"), (.object "java/util/Properties"), (.object "java/lang/String"), (.object "java/lang/ModuleLayer")]
  resolved := Array.replicate 834 none
  statics := none }

def pool6 : Array CpInfo := pool [(1, .class_ 2), (0, u "java/io/Serializable"), (0, .class_ 4), (0, u "java/lang/Object")] 2

/-- java/io/Serializable -/
def k6 : Class := { plain "java/io/Serializable" (some 0) with
  accessFlags := 1537
  interfaces := #[]
  cf := some (fileOf pool6 1 #[] #[] 1537 3 #[] #[])
  fields := #[]
  methods := #[]
  instanceTypes := #[]
  staticTypes := #[]
  resolved := Array.replicate 7 none
  statics := none }

def pool7 : Array CpInfo := pool [(1, .class_ 2), (0, u "java/lang/Comparable"), (0, .class_ 4), (0, u "java/lang/Object")] 7

/-- java/lang/Comparable -/
def k7 : Class := { plain "java/lang/Comparable" (some 0) with
  accessFlags := 1537
  interfaces := #[]
  cf := some (fileOf pool7 1 #[] #[] 1537 3 #[] #[])
  fields := #[]
  methods := #[]
  instanceTypes := #[]
  staticTypes := #[]
  resolved := Array.replicate 12 none
  statics := none }

def pool8 : Array CpInfo := pool [(2, .class_ 4), (1, u "java/lang/CharSequence"), (42, .class_ 48), (0, u "java/lang/CharSequence$1CodePointIterator"), (10, .class_ 60), (0, u "java/lang/CharSequence$1CharIterator"), (5, .class_ 67), (0, u "java/lang/Object")] 63

/-- java/lang/CharSequence -/
def k8 : Class := { plain "java/lang/CharSequence" (some 0) with
  accessFlags := 1537
  interfaces := #[]
  cf := some (fileOf pool8 2 #[.nestMembers #[47, 59]] #[] 1537 66 #[] #[])
  fields := #[]
  methods := #[]
  instanceTypes := #[]
  staticTypes := #[]
  resolved := Array.replicate 131 none
  statics := none }

def pool9 : Array CpInfo := pool [(1, .class_ 2), (0, u "java/lang/constant/Constable"), (0, .class_ 4), (0, u "java/lang/Object")] 6

/-- java/lang/constant/Constable -/
def k9 : Class := { plain "java/lang/constant/Constable" (some 0) with
  accessFlags := 1537
  interfaces := #[]
  cf := some (fileOf pool9 1 #[] #[] 1537 3 #[] #[])
  fields := #[]
  methods := #[]
  instanceTypes := #[]
  staticTypes := #[]
  resolved := Array.replicate 11 none
  statics := none }

def pool10 : Array CpInfo := pool [(1, .class_ 2), (0, u "java/lang/constant/ConstantDesc"), (0, .class_ 4), (0, u "java/lang/Object")] 32

/-- java/lang/constant/ConstantDesc -/
def k10 : Class := { plain "java/lang/constant/ConstantDesc" (some 0) with
  accessFlags := 1537
  interfaces := #[]
  cf := some (fileOf pool10 1 #[] #[] 1537 3 #[] #[])
  fields := #[]
  methods := #[]
  instanceTypes := #[]
  staticTypes := #[]
  resolved := Array.replicate 37 none
  statics := none }

def pool11 : Array CpInfo := pool [(1, .methodref 2 3), (0, .class_ 4), (0, .nameAndType 5 6), (0, u "java/lang/Object"), (0, u "<init>"), (0, u "()V"), (2, .fieldref 10 11), (0, .class_ 12), (0, .nameAndType 13 14), (0, u "java/lang/String"), (0, u "value"), (0, u "[B"), (0, .fieldref 10 16), (0, .nameAndType 17 18), (0, u "coder"), (0, u "B"), (2, u "hash"), (0, u "I"), (2, u "hashIsZero"), (0, u "Z"), (11, .fieldref 10 39), (0, .nameAndType 40 26), (0, u "COMPACT_STRINGS"), (1, .class_ 44), (1, u "java/lang/StringUTF16"), (8, u "toBytes"), (6, .methodref 42 61), (0, .nameAndType 62 63), (0, u "newBytesFor"), (0, u "(I)[B"), (22, .fieldref 87 88), (0, .class_ 89), (0, .nameAndType 90 91), (0, u "sun/nio/cs/UTF_8"), (0, u "INSTANCE"), (0, u "Lsun/nio/cs/UTF_8;"), (1, .class_ 95), (1, u "java/lang/StringCoding"), (11, .class_ 109), (1, u "java/lang/StringLatin1"), (18, .methodref 93 129), (0, .nameAndType 130 131), (0, u "hasNegatives"), (0, u "([BII)Z"), (77, .methodref 10 210), (0, .nameAndType 5 211), (0, u "([BB)V"), (40, .methodref 10 253), (0, .nameAndType 254 255), (0, u "encodeUTF8"), (0, u "(B[BZ)[B"), (23, .methodref 280 281), (0, .class_ 14), (0, .nameAndType 282 283), (0, u "clone"), (0, u "()Ljava/lang/Object;"), (33, u "encode"), (17, .methodref 10 336), (0, .nameAndType 17 337), (0, u "()B"), (31, u "(C)Z"), (162, u "getBytes"), (2, .methodref 10 536), (0, .nameAndType 317 537), (0, u "(Ljava/nio/charset/Charset;B[B)[B"), (37, .class_ 576), (0, u "java/lang/CharSequence"), (22, u "CASE_INSENSITIVE_ORDER"), (0, u "Ljava/util/Comparator;"), (181, u "valueOf"), (0, u "(C)Ljava/lang/String;"), (231, .methodref 107 1016), (0, .nameAndType 1017 369), (0, u "canEncode"), (0, .methodref 107 1019), (0, .nameAndType 53 1020), (0, u "(C)[B"), (80, u "serialPersistentFields"), (0, u "[Ljava/io/ObjectStreamField;"), (0, .class_ 1104), (0, u "java/lang/String$CaseInsensitiveComparator"), (1, .class_ 1107), (0, u "java/io/Serializable"), (0, .class_ 1109), (0, u "java/lang/Comparable"), (0, .class_ 1111), (0, u "java/lang/constant/Constable"), (0, .class_ 1113), (0, u "java/lang/constant/ConstantDesc"), (2, u "serialVersionUID"), (0, u "J"), (3, u "REPL"), (0, u "C"), (2, u "LATIN1"), (1, u "UTF16"), (117, u "(Ljava/nio/charset/Charset;)[B")] 205

def k11m0 : Method := { name := "<init>", desc := "()V", sig := { parameters := [], returnType := none }, accessFlags := 1, code := none }
def k11c1 : Code := { maxStack := 4, maxLocals := 3, code := jdk_42_method_18_code, exceptionTable := #[], attributes := #[] }
def k11m1 : Method := { name := "encode", desc := "(Ljava/nio/charset/Charset;B[B)[B", sig := { parameters := [(.object "java/nio/charset/Charset"), .byte, (.array .byte)], returnType := some (.array .byte) }, accessFlags := 10, code := some k11c1 }
def k11c2 : Code := { maxStack := 5, maxLocals := 9, code := jdk_42_method_46_code, exceptionTable := #[], attributes := #[] }
def k11m2 : Method := { name := "encodeUTF8", desc := "(B[BZ)[B", sig := { parameters := [.byte, (.array .byte), .boolean], returnType := some (.array .byte) }, accessFlags := 10, code := some k11c2 }
def k11c3 : Code := { maxStack := 3, maxLocals := 2, code := jdk_42_method_64_code, exceptionTable := #[], attributes := #[] }
def k11m3 : Method := { name := "getBytes", desc := "(Ljava/nio/charset/Charset;)[B", sig := { parameters := [(.object "java/nio/charset/Charset")], returnType := some (.array .byte) }, accessFlags := 1, code := some k11c3 }
def k11c4 : Code := { maxStack := 4, maxLocals := 1, code := jdk_42_method_139_code, exceptionTable := #[], attributes := #[] }
def k11m4 : Method := { name := "valueOf", desc := "(C)Ljava/lang/String;", sig := { parameters := [.char], returnType := some (.object "java/lang/String") }, accessFlags := 9, code := some k11c4 }
def k11c5 : Code := { maxStack := 2, maxLocals := 3, code := jdk_42_method_151_code, exceptionTable := #[], attributes := #[] }
def k11m5 : Method := { name := "<init>", desc := "([BB)V", sig := { parameters := [(.array .byte), .byte], returnType := none }, accessFlags := 0, code := some k11c5 }
def k11c6 : Code := { maxStack := 1, maxLocals := 1, code := jdk_42_method_152_code, exceptionTable := #[], attributes := #[] }
def k11m6 : Method := { name := "coder", desc := "()B", sig := { parameters := [], returnType := some .byte }, accessFlags := 0, code := some k11c6 }
/-- java/lang/String -/
def k11 : Class := { plain "java/lang/String" (some 0) with
  accessFlags := 49
  interfaces := #[6, 7, 8, 9, 10]
  cf := some (fileOf pool11 10 #[.nestMembers #[1103]] #[{ accessFlags := 1, nameIndex := 5, descriptorIndex := 6, attributes := #[] }, { accessFlags := 10, nameIndex := 317, descriptorIndex := 537, attributes := #[] }, { accessFlags := 10, nameIndex := 254, descriptorIndex := 255, attributes := #[] }, { accessFlags := 1, nameIndex := 532, descriptorIndex := 1245, attributes := #[] }, { accessFlags := 9, nameIndex := 782, descriptorIndex := 783, attributes := #[] }, { accessFlags := 0, nameIndex := 5, descriptorIndex := 211, attributes := #[] }, { accessFlags := 0, nameIndex := 17, descriptorIndex := 337, attributes := #[] }] 49 2 #[1106, 1108, 575, 1110, 1112] #[{ accessFlags := 18, nameIndex := 13, descriptorIndex := 14, attributes := #[] }, { accessFlags := 18, nameIndex := 17, descriptorIndex := 18, attributes := #[] }, { accessFlags := 2, nameIndex := 21, descriptorIndex := 22, attributes := #[] }, { accessFlags := 2, nameIndex := 25, descriptorIndex := 26, attributes := #[] }, { accessFlags := 26, nameIndex := 1116, descriptorIndex := 1117, attributes := #[] }, { accessFlags := 24, nameIndex := 40, descriptorIndex := 26, attributes := #[] }, { accessFlags := 26, nameIndex := 1101, descriptorIndex := 1102, attributes := #[] }, { accessFlags := 26, nameIndex := 1121, descriptorIndex := 1122, attributes := #[] }, { accessFlags := 25, nameIndex := 599, descriptorIndex := 600, attributes := #[] }, { accessFlags := 24, nameIndex := 1125, descriptorIndex := 18, attributes := #[] }, { accessFlags := 24, nameIndex := 1127, descriptorIndex := 18, attributes := #[] }])
  fields := #[{ name := "value", type := (.array .byte), accessFlags := 18, slot := 0, constantValue := 0 }, { name := "coder", type := .byte, accessFlags := 18, slot := 1, constantValue := 0 }, { name := "hash", type := .int, accessFlags := 2, slot := 2, constantValue := 0 }, { name := "hashIsZero", type := .boolean, accessFlags := 2, slot := 3, constantValue := 0 }, { name := "serialVersionUID", type := .long, accessFlags := 26, slot := 0, constantValue := 0 }, { name := "COMPACT_STRINGS", type := .boolean, accessFlags := 24, slot := 1, constantValue := 0 }, { name := "serialPersistentFields", type := (.array (.object "java/io/ObjectStreamField")), accessFlags := 26, slot := 2, constantValue := 0 }, { name := "REPL", type := .char, accessFlags := 26, slot := 3, constantValue := 0 }, { name := "CASE_INSENSITIVE_ORDER", type := (.object "java/util/Comparator"), accessFlags := 25, slot := 4, constantValue := 0 }, { name := "LATIN1", type := .byte, accessFlags := 24, slot := 5, constantValue := 0 }, { name := "UTF16", type := .byte, accessFlags := 24, slot := 6, constantValue := 0 }]
  methods := #[k11m0, k11m1, k11m2, k11m3, k11m4, k11m5, k11m6]
  instanceTypes := #[(.array .byte), .byte, .int, .boolean]
  staticTypes := #[.long, .boolean, (.array (.object "java/io/ObjectStreamField")), .char, (.object "java/util/Comparator"), .byte, .byte]
  resolved := Array.replicate 1451 none
  statics := some 0 }

def pool12 : Array CpInfo := pool [(4, .class_ 6), (1, u "java/lang/Object"), (0, u "<init>"), (0, u "()V"), (5, .class_ 16), (1, u "java/lang/StringLatin1"), (73, u "canEncode"), (14, u "(C)Z"), (15, u "$assertionsDisabled"), (0, u "Z"), (98, .class_ 223), (1, u "java/lang/StringLatin1$LinesSpliterator"), (156, u "toBytes"), (1, u "(C)[B"), (7, .class_ 391), (0, u "java/lang/StringLatin1$CharsSpliterator")] 3

def k12m0 : Method := { name := "<init>", desc := "()V", sig := { parameters := [], returnType := none }, accessFlags := 0, code := none }
def k12c1 : Code := { maxStack := 2, maxLocals := 1, code := jdk_43_method_3_code, exceptionTable := #[], attributes := #[] }
def k12m1 : Method := { name := "canEncode", desc := "(C)Z", sig := { parameters := [.char], returnType := some .boolean }, accessFlags := 9, code := some k12c1 }
def k12c2 : Code := { maxStack := 4, maxLocals := 1, code := jdk_43_method_46_code, exceptionTable := #[], attributes := #[] }
def k12m2 : Method := { name := "toBytes", desc := "(C)[B", sig := { parameters := [.char], returnType := some (.array .byte) }, accessFlags := 9, code := some k12c2 }
/-- java/lang/StringLatin1 -/
def k12 : Class := { plain "java/lang/StringLatin1" (some 0) with
  accessFlags := 48
  interfaces := #[]
  cf := some (fileOf pool12 14 #[.nestMembers #[390, 221]] #[{ accessFlags := 0, nameIndex := 7, descriptorIndex := 8, attributes := #[] }, { accessFlags := 9, nameIndex := 90, descriptorIndex := 105, attributes := #[] }, { accessFlags := 9, nameIndex := 380, descriptorIndex := 382, attributes := #[] }] 48 4 #[] #[{ accessFlags := 4120, nameIndex := 121, descriptorIndex := 122, attributes := #[] }])
  fields := #[{ name := "$assertionsDisabled", type := .boolean, accessFlags := 4120, slot := 0, constantValue := 0 }]
  methods := #[k12m0, k12m1, k12m2]
  instanceTypes := #[]
  staticTypes := #[.boolean]
  resolved := Array.replicate 395 none
  statics := none }

def pool13 : Array CpInfo := pool [(2, .class_ 4), (1, u "java/lang/Object"), (0, u "<init>"), (0, u "()V"), (14, .class_ 23), (1, u "java/nio/charset/StandardCharsets"), (0, u "US_ASCII"), (0, u "Ljava/nio/charset/Charset;"), (7, u "ISO_8859_1"), (7, u "UTF_8"), (5, u "UTF_16BE"), (5, u "UTF_16LE"), (5, u "UTF_16")] 8

def k13m0 : Method := { name := "<init>", desc := "()V", sig := { parameters := [], returnType := none }, accessFlags := 2, code := none }
/-- java/nio/charset/StandardCharsets -/
def k13 : Class := { plain "java/nio/charset/StandardCharsets" (some 0) with
  accessFlags := 49
  interfaces := #[]
  cf := some (fileOf pool13 21 #[] #[{ accessFlags := 2, nameIndex := 5, descriptorIndex := 6, attributes := #[] }] 49 2 #[] #[{ accessFlags := 25, nameIndex := 24, descriptorIndex := 25, attributes := #[] }, { accessFlags := 25, nameIndex := 33, descriptorIndex := 25, attributes := #[] }, { accessFlags := 25, nameIndex := 41, descriptorIndex := 25, attributes := #[] }, { accessFlags := 25, nameIndex := 47, descriptorIndex := 25, attributes := #[] }, { accessFlags := 25, nameIndex := 53, descriptorIndex := 25, attributes := #[] }, { accessFlags := 25, nameIndex := 59, descriptorIndex := 25, attributes := #[] }])
  fields := #[{ name := "US_ASCII", type := (.object "java/nio/charset/Charset"), accessFlags := 25, slot := 0, constantValue := 0 }, { name := "ISO_8859_1", type := (.object "java/nio/charset/Charset"), accessFlags := 25, slot := 1, constantValue := 0 }, { name := "UTF_8", type := (.object "java/nio/charset/Charset"), accessFlags := 25, slot := 2, constantValue := 0 }, { name := "UTF_16BE", type := (.object "java/nio/charset/Charset"), accessFlags := 25, slot := 3, constantValue := 0 }, { name := "UTF_16LE", type := (.object "java/nio/charset/Charset"), accessFlags := 25, slot := 4, constantValue := 0 }, { name := "UTF_16", type := (.object "java/nio/charset/Charset"), accessFlags := 25, slot := 5, constantValue := 0 }]
  methods := #[k13m0]
  instanceTypes := #[]
  staticTypes := #[(.object "java/nio/charset/Charset"), (.object "java/nio/charset/Charset"), (.object "java/nio/charset/Charset"), (.object "java/nio/charset/Charset"), (.object "java/nio/charset/Charset"), (.object "java/nio/charset/Charset")]
  resolved := Array.replicate 68 none
  statics := some 1 }

def pool14 : Array CpInfo := pool [(18, .class_ 20), (1, u "java/nio/charset/Charset"), (0, u "cache1"), (0, u "[Ljava/lang/Object;"), (2, u "cache2"), (0, .class_ 27), (0, u "java/lang/Object"), (0, .class_ 29), (0, u "java/nio/charset/Charset$1"), (4, .class_ 36), (1, u "java/nio/charset/Charset$ThreadTrackHolder"), (21, .class_ 59), (0, u "java/nio/charset/Charset$2"), (11, .class_ 73), (1, u "java/nio/charset/Charset$ExtendedProviderHolder"), (22, u "standardProvider"), (0, u "Ljava/nio/charset/spi/CharsetProvider;"), (29, u "name"), (7, .class_ 136), (0, u "java/nio/charset/Charset$3"), (5, u "defaultCharset"), (0, u "Ljava/nio/charset/Charset;"), (14, u "zeroAliases"), (0, u "[Ljava/lang/String;"), (29, u "Ljava/lang/String;"), (2, u "aliases"), (2, u "aliasSet"), (0, u "Ljava/util/Set;"), (82, .class_ 280), (0, u "java/lang/Comparable"), (84, .class_ 366), (0, u "java/nio/charset/Charset$ExtendedProviderHolder$1")] 3

/-- java/nio/charset/Charset -/
def k14 : Class := { plain "java/nio/charset/Charset" (some 0) with
  accessFlags := 1057
  interfaces := #[7]
  cf := some (fileOf pool14 18 #[.nestMembers #[71, 365, 34, 135, 58, 28]] #[] 1057 26 #[279] #[{ accessFlags := 26, nameIndex := 96, descriptorIndex := 97, attributes := #[] }, { accessFlags := 26, nameIndex := 158, descriptorIndex := 159, attributes := #[] }, { accessFlags := 74, nameIndex := 21, descriptorIndex := 22, attributes := #[] }, { accessFlags := 74, nameIndex := 25, descriptorIndex := 22, attributes := #[] }, { accessFlags := 10, nameIndex := 142, descriptorIndex := 143, attributes := #[] }, { accessFlags := 18, nameIndex := 127, descriptorIndex := 189, attributes := #[] }, { accessFlags := 18, nameIndex := 192, descriptorIndex := 159, attributes := #[] }, { accessFlags := 2, nameIndex := 195, descriptorIndex := 196, attributes := #[] }])
  fields := #[{ name := "standardProvider", type := (.object "java/nio/charset/spi/CharsetProvider"), accessFlags := 26, slot := 0, constantValue := 0 }, { name := "zeroAliases", type := (.array (.object "java/lang/String")), accessFlags := 26, slot := 1, constantValue := 0 }, { name := "cache1", type := (.array (.object "java/lang/Object")), accessFlags := 74, slot := 2, constantValue := 0 }, { name := "cache2", type := (.array (.object "java/lang/Object")), accessFlags := 74, slot := 3, constantValue := 0 }, { name := "defaultCharset", type := (.object "java/nio/charset/Charset"), accessFlags := 10, slot := 4, constantValue := 0 }, { name := "name", type := (.object "java/lang/String"), accessFlags := 18, slot := 0, constantValue := 0 }, { name := "aliases", type := (.array (.object "java/lang/String")), accessFlags := 18, slot := 1, constantValue := 0 }, { name := "aliasSet", type := (.object "java/util/Set"), accessFlags := 2, slot := 2, constantValue := 0 }]
  methods := #[]
  instanceTypes := #[(.object "java/lang/String"), (.array (.object "java/lang/String")), (.object "java/util/Set")]
  staticTypes := #[(.object "java/nio/charset/spi/CharsetProvider"), (.array (.object "java/lang/String")), (.array (.object "java/lang/Object")), (.array (.object "java/lang/Object")), (.object "java/nio/charset/Charset")]
  resolved := Array.replicate 370 none
  statics := none }

def pool15 : Array CpInfo := pool [(1, .class_ 2), (0, u "sun/nio/cs/HistoricallyNamedCharset"), (0, .class_ 4), (0, u "java/lang/Object")] 4

/-- sun/nio/cs/HistoricallyNamedCharset -/
def k15 : Class := { plain "sun/nio/cs/HistoricallyNamedCharset" (some 0) with
  accessFlags := 1537
  interfaces := #[]
  cf := some (fileOf pool15 1 #[] #[] 1537 3 #[] #[])
  fields := #[]
  methods := #[]
  instanceTypes := #[]
  staticTypes := #[]
  resolved := Array.replicate 9 none
  statics := none }

def pool16 : Array CpInfo := pool [(2, .class_ 4), (1, u "java/nio/charset/Charset"), (130, .class_ 136), (0, u "sun/nio/cs/Unicode"), (0, .class_ 138), (0, u "sun/nio/cs/HistoricallyNamedCharset")] 15

/-- sun/nio/cs/Unicode -/
def k16 : Class := { plain "sun/nio/cs/Unicode" (some 14) with
  accessFlags := 1056
  interfaces := #[15]
  cf := some (fileOf pool16 135 #[] #[] 1056 2 #[137] #[])
  fields := #[]
  methods := #[]
  instanceTypes := #[(.object "java/lang/String"), (.array (.object "java/lang/String")), (.object "java/util/Set")]
  staticTypes := #[]
  resolved := Array.replicate 154 none
  statics := none }

def pool17 : Array CpInfo := pool [(10, .class_ 12), (1, u "sun/nio/cs/Unicode"), (0, u "<init>"), (3, .class_ 18), (0, u "sun/nio/cs/UTF_8$Decoder"), (3, .class_ 23), (0, u "sun/nio/cs/UTF_8$Encoder"), (15, .class_ 40), (0, u "sun/nio/cs/UTF_8"), (2, u "()V"), (2, u "INSTANCE"), (0, u "Lsun/nio/cs/UTF_8;"), (8, u "JLA"), (0, u "Ljdk/internal/access/JavaLangAccess;")] 26

def k17m0 : Method := { name := "<init>", desc := "()V", sig := { parameters := [], returnType := none }, accessFlags := 1, code := none }
/-- sun/nio/cs/UTF_8 -/
def k17 : Class := { plain "sun/nio/cs/UTF_8" (some 16) with
  accessFlags := 49
  interfaces := #[]
  cf := some (fileOf pool17 39 #[.nestMembers #[22, 17]] #[{ accessFlags := 1, nameIndex := 13, descriptorIndex := 43, attributes := #[] }] 49 10 #[] #[{ accessFlags := 25, nameIndex := 46, descriptorIndex := 47, attributes := #[] }, { accessFlags := 26, nameIndex := 56, descriptorIndex := 57, attributes := #[] }])
  fields := #[{ name := "INSTANCE", type := (.object "sun/nio/cs/UTF_8"), accessFlags := 25, slot := 0, constantValue := 0 }, { name := "JLA", type := (.object "jdk/internal/access/JavaLangAccess"), accessFlags := 26, slot := 1, constantValue := 0 }]
  methods := #[k17m0]
  instanceTypes := #[(.object "java/lang/String"), (.array (.object "java/lang/String")), (.object "java/util/Set")]
  staticTypes := #[(.object "sun/nio/cs/UTF_8"), (.object "jdk/internal/access/JavaLangAccess")]
  resolved := Array.replicate 84 none
  statics := some 2 }

def pool18 : Array CpInfo := pool [(2, .class_ 4), (1, u "java/lang/Object"), (0, u "<init>"), (0, u "()V"), (0, .methodref 8 9), (0, .class_ 10), (0, .nameAndType 11 12), (0, u "java/lang/StringCoding"), (0, u "countPositives"), (0, u "([BII)I"), (11, u "hasNegatives"), (0, u "([BII)Z")] 23

def k18m0 : Method := { name := "<init>", desc := "()V", sig := { parameters := [], returnType := none }, accessFlags := 2, code := none }
def k18c1 : Code := { maxStack := 3, maxLocals := 3, code := jdk_123_method_2_code, exceptionTable := #[], attributes := #[] }
def k18m1 : Method := { name := "hasNegatives", desc := "([BII)Z", sig := { parameters := [(.array .byte), .int, .int], returnType := some .boolean }, accessFlags := 9, code := some k18c1 }
def k18c2 : Code := { maxStack := 2, maxLocals := 5, code := jdk_123_method_3_code, exceptionTable := #[], attributes := #[] }
def k18m2 : Method := { name := "countPositives", desc := "([BII)I", sig := { parameters := [(.array .byte), .int, .int], returnType := some .int }, accessFlags := 9, code := some k18c2 }
/-- java/lang/StringCoding -/
def k18 : Class := { plain "java/lang/StringCoding" (some 0) with
  accessFlags := 32
  interfaces := #[]
  cf := some (fileOf pool18 8 #[] #[{ accessFlags := 2, nameIndex := 5, descriptorIndex := 6, attributes := #[] }, { accessFlags := 9, nameIndex := 24, descriptorIndex := 25, attributes := #[] }, { accessFlags := 9, nameIndex := 11, descriptorIndex := 12, attributes := #[] }] 32 2 #[] #[])
  fields := #[]
  methods := #[k18m0, k18m1, k18m2]
  instanceTypes := #[]
  staticTypes := #[]
  resolved := Array.replicate 49 none
  statics := none }

def pool19 : Array CpInfo := pool [(6, .class_ 8), (1, u "java/lang/Object"), (0, u "<init>"), (0, u "()V"), (0, .methodref 12 13), (0, .class_ 14), (0, .nameAndType 15 16), (0, u "java/lang/StringUTF16"), (0, u "newBytesLength"), (0, u "(I)I"), (3, .integer 1073741823), (25, u "$assertionsDisabled"), (0, u "Z"), (13, u "HI_BYTE_SHIFT"), (0, u "I"), (2, u "LO_BYTE_SHIFT"), (43, u "newBytesFor"), (0, u "(I)[B"), (258, .class_ 371), (1, u "java/lang/StringUTF16$LinesSpliterator"), (58, u "MAX_LENGTH"), (196, .class_ 628), (0, u "java/lang/StringUTF16$CodePointsSpliterator"), (0, .class_ 630), (0, u "java/lang/StringUTF16$CharsSpliterator")] 4

def k19m0 : Method := { name := "<init>", desc := "()V", sig := { parameters := [], returnType := none }, accessFlags := 0, code := none }
def k19c1 : Code := { maxStack := 1, maxLocals := 1, code := jdk_52_method_2_code, exceptionTable := #[], attributes := #[] }
def k19m1 : Method := { name := "newBytesFor", desc := "(I)[B", sig := { parameters := [.int], returnType := some (.array .byte) }, accessFlags := 9, code := some k19c1 }
def k19c2 : Code := { maxStack := 4, maxLocals := 1, code := jdk_52_method_3_code, exceptionTable := #[], attributes := #[] }
def k19m2 : Method := { name := "newBytesLength", desc := "(I)I", sig := { parameters := [.int], returnType := some .int }, accessFlags := 9, code := some k19c2 }
/-- java/lang/StringUTF16 -/
def k19 : Class := { plain "java/lang/StringUTF16" (some 0) with
  accessFlags := 48
  interfaces := #[]
  cf := some (fileOf pool19 12 #[.nestMembers #[627, 629, 369]] #[{ accessFlags := 0, nameIndex := 9, descriptorIndex := 10, attributes := #[] }, { accessFlags := 9, nameIndex := 109, descriptorIndex := 110, attributes := #[] }, { accessFlags := 9, nameIndex := 15, descriptorIndex := 16, attributes := #[] }] 48 6 #[] #[{ accessFlags := 26, nameIndex := 61, descriptorIndex := 62, attributes := #[] }, { accessFlags := 26, nameIndex := 65, descriptorIndex := 62, attributes := #[] }, { accessFlags := 24, nameIndex := 430, descriptorIndex := 62, attributes := #[] }, { accessFlags := 4120, nameIndex := 46, descriptorIndex := 47, attributes := #[] }])
  fields := #[{ name := "HI_BYTE_SHIFT", type := .int, accessFlags := 26, slot := 0, constantValue := 0 }, { name := "LO_BYTE_SHIFT", type := .int, accessFlags := 26, slot := 1, constantValue := 0 }, { name := "MAX_LENGTH", type := .int, accessFlags := 24, slot := 2, constantValue := 0 }, { name := "$assertionsDisabled", type := .boolean, accessFlags := 4120, slot := 3, constantValue := 0 }]
  methods := #[k19m0, k19m1, k19m2]
  instanceTypes := #[]
  staticTypes := #[.int, .int, .int, .boolean]
  resolved := Array.replicate 635 none
  statics := none }

def pool20 : Array CpInfo := pool [(1, .class_ 2), (0, u "java/lang/Cloneable"), (0, .class_ 4), (0, u "java/lang/Object")] 2

/-- java/lang/Cloneable -/
def k20 : Class := { plain "java/lang/Cloneable" (some 0) with
  accessFlags := 1537
  interfaces := #[]
  cf := some (fileOf pool20 1 #[] #[] 1537 3 #[] #[])
  fields := #[]
  methods := #[]
  instanceTypes := #[]
  staticTypes := #[]
  resolved := Array.replicate 7 none
  statics := none }

def pool21 : Array CpInfo := pool [(2, .class_ 4), (1, u "java/lang/Object"), (0, u "<init>"), (0, u "()V"), (17, .class_ 26), (1, u "jdk/internal/util/Preconditions"), (28, .class_ 56), (0, u "jdk/internal/util/Preconditions$4"), (57, .class_ 115), (0, u "jdk/internal/util/Preconditions$1"), (7, u "SIOOBE_FORMATTER"), (0, u "Ljava/util/function/BiFunction;"), (0, .class_ 126), (0, u "jdk/internal/util/Preconditions$2"), (3, u "AIOOBE_FORMATTER"), (0, .class_ 132), (0, u "jdk/internal/util/Preconditions$3"), (3, u "IOOBE_FORMATTER")] 57

def k21m0 : Method := { name := "<init>", desc := "()V", sig := { parameters := [], returnType := none }, accessFlags := 1, code := none }
/-- jdk/internal/util/Preconditions -/
def k21 : Class := { plain "jdk/internal/util/Preconditions" (some 0) with
  accessFlags := 33
  interfaces := #[]
  cf := some (fileOf pool21 24 #[.nestMembers #[55, 131, 125, 114]] #[{ accessFlags := 1, nameIndex := 5, descriptorIndex := 6, attributes := #[] }] 33 2 #[] #[{ accessFlags := 25, nameIndex := 123, descriptorIndex := 124, attributes := #[] }, { accessFlags := 25, nameIndex := 130, descriptorIndex := 124, attributes := #[] }, { accessFlags := 25, nameIndex := 136, descriptorIndex := 124, attributes := #[] }])
  fields := #[{ name := "SIOOBE_FORMATTER", type := (.object "java/util/function/BiFunction"), accessFlags := 25, slot := 0, constantValue := 0 }, { name := "AIOOBE_FORMATTER", type := (.object "java/util/function/BiFunction"), accessFlags := 25, slot := 1, constantValue := 0 }, { name := "IOOBE_FORMATTER", type := (.object "java/util/function/BiFunction"), accessFlags := 25, slot := 2, constantValue := 0 }]
  methods := #[k21m0]
  instanceTypes := #[]
  staticTypes := #[(.object "java/util/function/BiFunction"), (.object "java/util/function/BiFunction"), (.object "java/util/function/BiFunction")]
  resolved := Array.replicate 194 none
  statics := some 3 }

def pool22 : Array CpInfo := pool [(9, u "<init>"), (6, .class_ 18), (1, u "java/lang/Object"), (0, u "()V"), (1, .class_ 23), (1, u "jdk/internal/util/ArraysSupport"), (0, u "LOG2_ARRAY_LONG_INDEX_SCALE"), (0, u "I"), (2, u "U"), (0, u "Ljdk/internal/misc/Unsafe;"), (8, u "BIG_ENDIAN"), (0, u "Z"), (8, u "LOG2_BYTE_BIT_SIZE"), (4, u "LOG2_ARRAY_INT_INDEX_SCALE"), (54, u "JLA"), (0, u "Ljdk/internal/access/JavaLangAccess;"), (11, u "LOG2_ARRAY_BOOLEAN_INDEX_SCALE"), (9, u "LOG2_ARRAY_BYTE_INDEX_SCALE"), (5, u "LOG2_ARRAY_CHAR_INDEX_SCALE"), (5, u "LOG2_ARRAY_SHORT_INDEX_SCALE"), (18, u "LOG2_ARRAY_FLOAT_INDEX_SCALE"), (24, u "LOG2_ARRAY_DOUBLE_INDEX_SCALE"), (89, u "T_BOOLEAN"), (2, u "T_CHAR"), (1, u "T_FLOAT"), (1, u "T_DOUBLE"), (1, u "T_BYTE"), (1, u "T_SHORT"), (1, u "T_INT"), (1, u "T_LONG"), (1, u "SOFT_MAX_ARRAY_LENGTH")] 83

def k22m0 : Method := { name := "<init>", desc := "()V", sig := { parameters := [], returnType := none }, accessFlags := 2, code := none }
/-- jdk/internal/util/ArraysSupport -/
def k22 : Class := { plain "jdk/internal/util/ArraysSupport" (some 0) with
  accessFlags := 33
  interfaces := #[]
  cf := some (fileOf pool22 21 #[] #[{ accessFlags := 2, nameIndex := 9, descriptorIndex := 19, attributes := #[] }] 33 16 #[] #[{ accessFlags := 24, nameIndex := 28, descriptorIndex := 29, attributes := #[] }, { accessFlags := 26, nameIndex := 38, descriptorIndex := 39, attributes := #[] }, { accessFlags := 25, nameIndex := 121, descriptorIndex := 25, attributes := #[] }, { accessFlags := 25, nameIndex := 131, descriptorIndex := 25, attributes := #[] }, { accessFlags := 25, nameIndex := 137, descriptorIndex := 25, attributes := #[] }, { accessFlags := 25, nameIndex := 143, descriptorIndex := 25, attributes := #[] }, { accessFlags := 25, nameIndex := 53, descriptorIndex := 25, attributes := #[] }, { accessFlags := 25, nameIndex := 24, descriptorIndex := 25, attributes := #[] }, { accessFlags := 25, nameIndex := 162, descriptorIndex := 25, attributes := #[] }, { accessFlags := 25, nameIndex := 187, descriptorIndex := 25, attributes := #[] }, { accessFlags := 26, nameIndex := 48, descriptorIndex := 25, attributes := #[] }, { accessFlags := 25, nameIndex := 277, descriptorIndex := 25, attributes := #[] }, { accessFlags := 25, nameIndex := 280, descriptorIndex := 25, attributes := #[] }, { accessFlags := 25, nameIndex := 282, descriptorIndex := 25, attributes := #[] }, { accessFlags := 25, nameIndex := 284, descriptorIndex := 25, attributes := #[] }, { accessFlags := 25, nameIndex := 286, descriptorIndex := 25, attributes := #[] }, { accessFlags := 25, nameIndex := 288, descriptorIndex := 25, attributes := #[] }, { accessFlags := 25, nameIndex := 290, descriptorIndex := 25, attributes := #[] }, { accessFlags := 25, nameIndex := 292, descriptorIndex := 25, attributes := #[] }, { accessFlags := 26, nameIndex := 108, descriptorIndex := 109, attributes := #[] }, { accessFlags := 25, nameIndex := 294, descriptorIndex := 25, attributes := #[] }])
  fields := #[{ name := "U", type := (.object "jdk/internal/misc/Unsafe"), accessFlags := 24, slot := 0, constantValue := 0 }, { name := "BIG_ENDIAN", type := .boolean, accessFlags := 26, slot := 1, constantValue := 0 }, { name := "LOG2_ARRAY_BOOLEAN_INDEX_SCALE", type := .int, accessFlags := 25, slot := 2, constantValue := 0 }, { name := "LOG2_ARRAY_BYTE_INDEX_SCALE", type := .int, accessFlags := 25, slot := 3, constantValue := 0 }, { name := "LOG2_ARRAY_CHAR_INDEX_SCALE", type := .int, accessFlags := 25, slot := 4, constantValue := 0 }, { name := "LOG2_ARRAY_SHORT_INDEX_SCALE", type := .int, accessFlags := 25, slot := 5, constantValue := 0 }, { name := "LOG2_ARRAY_INT_INDEX_SCALE", type := .int, accessFlags := 25, slot := 6, constantValue := 0 }, { name := "LOG2_ARRAY_LONG_INDEX_SCALE", type := .int, accessFlags := 25, slot := 7, constantValue := 0 }, { name := "LOG2_ARRAY_FLOAT_INDEX_SCALE", type := .int, accessFlags := 25, slot := 8, constantValue := 0 }, { name := "LOG2_ARRAY_DOUBLE_INDEX_SCALE", type := .int, accessFlags := 25, slot := 9, constantValue := 0 }, { name := "LOG2_BYTE_BIT_SIZE", type := .int, accessFlags := 26, slot := 10, constantValue := 0 }, { name := "T_BOOLEAN", type := .int, accessFlags := 25, slot := 11, constantValue := 0 }, { name := "T_CHAR", type := .int, accessFlags := 25, slot := 12, constantValue := 0 }, { name := "T_FLOAT", type := .int, accessFlags := 25, slot := 13, constantValue := 0 }, { name := "T_DOUBLE", type := .int, accessFlags := 25, slot := 14, constantValue := 0 }, { name := "T_BYTE", type := .int, accessFlags := 25, slot := 15, constantValue := 0 }, { name := "T_SHORT", type := .int, accessFlags := 25, slot := 16, constantValue := 0 }, { name := "T_INT", type := .int, accessFlags := 25, slot := 17, constantValue := 0 }, { name := "T_LONG", type := .int, accessFlags := 25, slot := 18, constantValue := 0 }, { name := "JLA", type := (.object "jdk/internal/access/JavaLangAccess"), accessFlags := 26, slot := 19, constantValue := 0 }, { name := "SOFT_MAX_ARRAY_LENGTH", type := .int, accessFlags := 25, slot := 20, constantValue := 0 }]
  methods := #[k22m0]
  instanceTypes := #[]
  staticTypes := #[(.object "jdk/internal/misc/Unsafe"), .boolean, .int, .int, .int, .int, .int, .int, .int, .int, .int, .int, .int, .int, .int, .int, .int, .int, .int, (.object "jdk/internal/access/JavaLangAccess"), .int]
  resolved := Array.replicate 378 none
  statics := none }

/-- the primitive byte -/
def k23 : Class := { plain "byte" none with kind := .primitive 'B', accessFlags := 0x411 }
/-- [B -/
def k24 : Class := { plain "[B" (some 0) with kind := .array 23 .byte, interfaces := #[20, 6], accessFlags := 1041 }

/-- the primitive int -/
def k25 : Class := { plain "int" none with kind := .primitive 'I', accessFlags := 0x411 }
/-- [I -/
def k26 : Class := { plain "[I" (some 0) with kind := .array 25 .int, interfaces := #[20, 6], accessFlags := 1041 }

def heap : Heap := #[{ cls := 11, slots := #[.long 0, .int 1, .null, .int 0, .null, .int 0, .int 0], vm := .statics 11 },
  { cls := 13, slots := #[.null, .null, .ref 4, .null, .null, .null], vm := .statics 13 },
  { cls := 17, slots := #[.ref 4, .null], vm := .statics 17 },
  { cls := 21, slots := #[.null, .null, .null], vm := .statics 21 },
  { cls := 17, slots := #[.null, .null, .null], vm := .none }]
def classes : Array Class := #[k0, k1, k2, k3, k4, k5, k6, k7, k8, k9, k10, k11, k12, k13, k14, k15, k16, k17, k18, k19, k20, k21, k22, k23, k24, k25, k26]
def interned : List (Array UInt16 × Addr) := []
def slotsUsed : Nat := 21
def theMethod : MethodId := ⟨1, 1⟩
def args0 : Array Value := #[.int 5, .int 6, .int 7, .int 7]
def aboutOver (below : List Frame) : State where
  vm := { classes := classes, interned := interned.toArray }
  heap := heap
  slotsUsed := slotsUsed
  threads := #[{ frames := .invoking theMethod args0 :: below }]
def below0 : List Frame := [.native { method := ⟨0, 0⟩, args := #[] }]
def about1 : State := aboutOver below0
def p0 : Program := .bare "" "" ""
def e0 : Env := launch0.env 0 0 0
theorem w_frames : about1.frames = Frame.invoking theMethod args0 :: below0 := rfl
set_option maxRecDepth 65536 in
theorem w_args : argsFit about1.vm theMethod args0 = true := by decide +kernel
set_option maxRecDepth 65536 in
theorem w_heap : heapFits about1 = true := by decide +kernel
set_option maxRecDepth 65536 in
theorem w_runnable : about1.curStatus? = some .runnable := by decide +kernel
set_option maxRecDepth 65536 in
theorem w_alone : about1.alone = true := by decide +kernel
set_option maxRecDepth 65536 in
theorem w_named : about1.methodNamed? x = some theMethod := by decide +kernel
set_option maxRecDepth 65536 in
theorem w_hears : about1.hears theMethod below0 = true := by decide +kernel
set_option maxRecDepth 65536 in
theorem w_ripe : about1.ripe theMethod args0 below0 = true := by decide +kernel
theorem w_running : about1.status = .running := rfl
set_option maxRecDepth 65536 in
theorem w_room : about1.hasRoom e0.platform room_1 = true :=
  launch0.hasRoom_least _ room_1 (by decide +kernel) (by decide +kernel) (by decide +kernel) (by decide +kernel) (by decide +kernel) (by decide +kernel)
theorem allAtoms_all (ts : List Jvm.Cond) (a : Array Jvm.Value) (st : Jvm.State) : (allAtoms ts).before a st = ts.all (fun c => c.before a st) := by
  induction ts with
  | nil => rfl
  | cons c t ih =>
    show (Jvm.Cond.and c (allAtoms t)).before a st = _
    rw [Jvm.Cond.before_and, ih, List.all_cons]
def words1 : List Jvm.Cond := Jvm.Cond.code x code maxLocals ret :: tables_1
/-- a 'code' word, met by the world's own term for the bytes: nothing is compared byte by byte -/
theorem code_word {y : MethodName} {bytes : ByteArray} {mx : Nat} {rt : Option FieldType} {a : Array Value} {s : State} {m : MethodId} {meth : Method} {c : Code} (h1 : s.methodNamed? y = some m) (h2 : s.vm.method? m = some meth) (h3 : meth.code = some c) (h4 : c.code = bytes)
    (h5 : (c.maxLocals == mx && c.exceptionTable.isEmpty && decide (c.maxStack ≤ mostOperands) && decide (meth.sig.returnType = rt) && !meth.locks && decide (parseMethodDescriptor y.desc = some meth.sig)) = true) : (Jvm.Cond.code y bytes mx rt).before a s = true := by
  simp only [Bool.and_eq_true, beq_iff_eq, Bool.not_eq_true', decide_eq_true_eq] at h5
  obtain ⟨⟨⟨⟨⟨g1, g2⟩, g3⟩, g4⟩, g5⟩, g6⟩ := h5
  simp [Cond.before, Cond.holds, Cond.value, h1, h2, h3, h4, g1, g2, g3, g4, g5, g6]
def isCode : Jvm.Cond → Bool
  | .code _ _ _ _ => true
  | _ => false
theorem all_split {L : List Jvm.Cond} {P : Jvm.Cond → Bool} (h1 : L.all (fun c => isCode c || P c) = true) (h2 : ∀ c ∈ L.filter isCode, P c = true) : L.all P = true := by
  refine List.all_eq_true.mpr fun c hc => ?_
  have h := List.all_eq_true.mp h1 c hc
  rcases Bool.eq_false_or_eq_true (isCode c) with hi | hi
  · exact h2 c (List.mem_filter.mpr ⟨hc, hi⟩)
  · simpa [hi] using h
set_option maxRecDepth 65536 in
theorem w_c0 : (Jvm.Cond.code x code maxLocals ret).before args0 about1 = true := code_word (m := ⟨1, 1⟩) (meth := k1m1) (c := k1c1) (by decide +kernel) rfl rfl rfl (by decide +kernel)
set_option maxRecDepth 65536 in
theorem w_c1 : (Jvm.Cond.code ({ cls := "com/example/chitragupta/chitragupta/ledger/KeyBuilder", name := "<init>", desc := "()V" } : Jvm.MethodName) prog_10_method_1_code (1 : Nat) (Option.none : Option Jvm.ClassFile.FieldType)).before args0 about1 = true := code_word (m := ⟨2, 0⟩) (meth := k2m0) (c := k2c0) (by decide +kernel) rfl rfl rfl (by decide +kernel)
set_option maxRecDepth 65536 in
theorem w_c2 : (Jvm.Cond.code ({ cls := "java/lang/Object", name := "<init>", desc := "()V" } : Jvm.MethodName) object_method_1_code (1 : Nat) (Option.none : Option Jvm.ClassFile.FieldType)).before args0 about1 = true := code_word (m := ⟨0, 0⟩) (meth := k0m0) (c := k0c0) (by decide +kernel) rfl rfl rfl (by decide +kernel)
set_option maxRecDepth 65536 in
theorem w_c3 : (Jvm.Cond.code ({ cls := "com/example/chitragupta/chitragupta/ledger/KeyBuilder", name := "build", desc := "()[B" } : Jvm.MethodName) prog_10_method_6_code (1 : Nat) (Option.some (Jvm.ClassFile.FieldType.array Jvm.ClassFile.FieldType.byte))).before args0 about1 = true := code_word (m := ⟨2, 3⟩) (meth := k2m3) (c := k2c3) (by decide +kernel) rfl rfl rfl (by decide +kernel)
set_option maxRecDepth 65536 in
theorem w_c4 : (Jvm.Cond.code ({ cls := "java/util/Arrays", name := "copyOf", desc := "([BI)[B" } : Jvm.MethodName) jdk_65_method_121_code (3 : Nat) (Option.some (Jvm.ClassFile.FieldType.array Jvm.ClassFile.FieldType.byte))).before args0 about1 = true := code_word (m := ⟨3, 1⟩) (meth := k3m1) (c := k3c1) (by decide +kernel) rfl rfl rfl (by decide +kernel)
set_option maxRecDepth 65536 in
theorem w_c5 : (Jvm.Cond.code ({ cls := "java/lang/Math", name := "min", desc := "(II)I" } : Jvm.MethodName) jdk_29_method_69_code (2 : Nat) (Option.some Jvm.ClassFile.FieldType.int)).before args0 about1 = true := code_word (m := ⟨4, 1⟩) (meth := k4m1) (c := k4c1) (by decide +kernel) rfl rfl rfl (by decide +kernel)
set_option maxRecDepth 65536 in
theorem w_c6 : (Jvm.Cond.code ({ cls := "com/example/chitragupta/chitragupta/ledger/KeyBuilder", name := "number", desc := "(I)Lcom/example/chitragupta/chitragupta/ledger/KeyBuilder;" } : Jvm.MethodName) prog_10_method_3_code (2 : Nat) (Option.some (Jvm.ClassFile.FieldType.object "com/example/chitragupta/chitragupta/ledger/KeyBuilder"))).before args0 about1 = true := code_word (m := ⟨2, 1⟩) (meth := k2m1) (c := k2c1) (by decide +kernel) rfl rfl rfl (by decide +kernel)
set_option maxRecDepth 65536 in
theorem w_c7 : (Jvm.Cond.code ({ cls := "com/example/chitragupta/chitragupta/ledger/KeyBuilder", name := "append", desc := "(JI)V" } : Jvm.MethodName) prog_10_method_11_code (5 : Nat) (Option.none : Option Jvm.ClassFile.FieldType)).before args0 about1 = true := code_word (m := ⟨2, 5⟩) (meth := k2m5) (c := k2c5) (by decide +kernel) rfl rfl rfl (by decide +kernel)
set_option maxRecDepth 65536 in
theorem w_c8 : (Jvm.Cond.code ({ cls := "com/example/chitragupta/chitragupta/ledger/KeyBuilder", name := "room", desc := "(I)V" } : Jvm.MethodName) prog_10_method_12_code (2 : Nat) (Option.none : Option Jvm.ClassFile.FieldType)).before args0 about1 = true := code_word (m := ⟨2, 6⟩) (meth := k2m6) (c := k2c6) (by decide +kernel) rfl rfl rfl (by decide +kernel)
set_option maxRecDepth 65536 in
theorem w_c9 : (Jvm.Cond.code ({ cls := "com/example/chitragupta/chitragupta/ledger/KeyBuilderBuildPinLaw", name := "put4", desc := "([III)I" } : Jvm.MethodName) method_3_code (3 : Nat) (Option.some Jvm.ClassFile.FieldType.int)).before args0 about1 = true := code_word (m := ⟨1, 2⟩) (meth := k1m2) (c := k1c2) (by decide +kernel) rfl rfl rfl (by decide +kernel)
set_option maxRecDepth 65536 in
theorem w_c10 : (Jvm.Cond.code ({ cls := "com/example/chitragupta/chitragupta/ledger/KeyBuilderBuildPinLaw", name := "same", desc := "([B[B[III)Z" } : Jvm.MethodName) method_4_code (5 : Nat) (Option.some Jvm.ClassFile.FieldType.boolean)).before args0 about1 = true := code_word (m := ⟨1, 3⟩) (meth := k1m3) (c := k1c3) (by decide +kernel) rfl rfl rfl (by decide +kernel)
set_option maxRecDepth 65536 in
theorem w_c11 : (Jvm.Cond.code ({ cls := "java/lang/String", name := "valueOf", desc := "(C)Ljava/lang/String;" } : Jvm.MethodName) jdk_42_method_139_code (1 : Nat) (Option.some (Jvm.ClassFile.FieldType.object "java/lang/String"))).before args0 about1 = true := code_word (m := ⟨11, 4⟩) (meth := k11m4) (c := k11c4) (by decide +kernel) rfl rfl rfl (by decide +kernel)
set_option maxRecDepth 65536 in
theorem w_c12 : (Jvm.Cond.code ({ cls := "java/lang/StringLatin1", name := "canEncode", desc := "(C)Z" } : Jvm.MethodName) jdk_43_method_3_code (1 : Nat) (Option.some Jvm.ClassFile.FieldType.boolean)).before args0 about1 = true := code_word (m := ⟨12, 1⟩) (meth := k12m1) (c := k12c1) (by decide +kernel) rfl rfl rfl (by decide +kernel)
set_option maxRecDepth 65536 in
theorem w_c13 : (Jvm.Cond.code ({ cls := "java/lang/StringLatin1", name := "toBytes", desc := "(C)[B" } : Jvm.MethodName) jdk_43_method_46_code (1 : Nat) (Option.some (Jvm.ClassFile.FieldType.array Jvm.ClassFile.FieldType.byte))).before args0 about1 = true := code_word (m := ⟨12, 2⟩) (meth := k12m2) (c := k12c2) (by decide +kernel) rfl rfl rfl (by decide +kernel)
set_option maxRecDepth 65536 in
theorem w_c14 : (Jvm.Cond.code ({ cls := "java/lang/String", name := "<init>", desc := "([BB)V" } : Jvm.MethodName) jdk_42_method_151_code (3 : Nat) (Option.none : Option Jvm.ClassFile.FieldType)).before args0 about1 = true := code_word (m := ⟨11, 5⟩) (meth := k11m5) (c := k11c5) (by decide +kernel) rfl rfl rfl (by decide +kernel)
set_option maxRecDepth 65536 in
theorem w_c15 : (Jvm.Cond.code ({ cls := "com/example/chitragupta/chitragupta/ledger/KeyBuilder", name := "last", desc := "(Ljava/lang/String;)Lcom/example/chitragupta/chitragupta/ledger/KeyBuilder;" } : Jvm.MethodName) prog_10_method_5_code (2 : Nat) (Option.some (Jvm.ClassFile.FieldType.object "com/example/chitragupta/chitragupta/ledger/KeyBuilder"))).before args0 about1 = true := code_word (m := ⟨2, 2⟩) (meth := k2m2) (c := k2c2) (by decide +kernel) rfl rfl rfl (by decide +kernel)
set_option maxRecDepth 65536 in
theorem w_c16 : (Jvm.Cond.code ({ cls := "java/lang/String", name := "getBytes", desc := "(Ljava/nio/charset/Charset;)[B" } : Jvm.MethodName) jdk_42_method_64_code (2 : Nat) (Option.some (Jvm.ClassFile.FieldType.array Jvm.ClassFile.FieldType.byte))).before args0 about1 = true := code_word (m := ⟨11, 3⟩) (meth := k11m3) (c := k11c3) (by decide +kernel) rfl rfl rfl (by decide +kernel)
set_option maxRecDepth 65536 in
theorem w_c17 : (Jvm.Cond.code ({ cls := "java/lang/String", name := "coder", desc := "()B" } : Jvm.MethodName) jdk_42_method_152_code (1 : Nat) (Option.some Jvm.ClassFile.FieldType.byte)).before args0 about1 = true := code_word (m := ⟨11, 6⟩) (meth := k11m6) (c := k11c6) (by decide +kernel) rfl rfl rfl (by decide +kernel)
set_option maxRecDepth 65536 in
theorem w_c18 : (Jvm.Cond.code ({ cls := "java/lang/String", name := "encode", desc := "(Ljava/nio/charset/Charset;B[B)[B" } : Jvm.MethodName) jdk_42_method_18_code (3 : Nat) (Option.some (Jvm.ClassFile.FieldType.array Jvm.ClassFile.FieldType.byte))).before args0 about1 = true := code_word (m := ⟨11, 1⟩) (meth := k11m1) (c := k11c1) (by decide +kernel) rfl rfl rfl (by decide +kernel)
set_option maxRecDepth 65536 in
theorem w_c19 : (Jvm.Cond.code ({ cls := "java/lang/String", name := "encodeUTF8", desc := "(B[BZ)[B" } : Jvm.MethodName) jdk_42_method_46_code (9 : Nat) (Option.some (Jvm.ClassFile.FieldType.array Jvm.ClassFile.FieldType.byte))).before args0 about1 = true := code_word (m := ⟨11, 2⟩) (meth := k11m2) (c := k11c2) (by decide +kernel) rfl rfl rfl (by decide +kernel)
set_option maxRecDepth 65536 in
theorem w_c20 : (Jvm.Cond.code ({ cls := "java/lang/StringCoding", name := "hasNegatives", desc := "([BII)Z" } : Jvm.MethodName) jdk_123_method_2_code (3 : Nat) (Option.some Jvm.ClassFile.FieldType.boolean)).before args0 about1 = true := code_word (m := ⟨18, 1⟩) (meth := k18m1) (c := k18c1) (by decide +kernel) rfl rfl rfl (by decide +kernel)
set_option maxRecDepth 65536 in
theorem w_c21 : (Jvm.Cond.code ({ cls := "java/lang/StringCoding", name := "countPositives", desc := "([BII)I" } : Jvm.MethodName) jdk_123_method_3_code (5 : Nat) (Option.some Jvm.ClassFile.FieldType.int)).before args0 about1 = true := code_word (m := ⟨18, 2⟩) (meth := k18m2) (c := k18c2) (by decide +kernel) rfl rfl rfl (by decide +kernel)
set_option maxRecDepth 65536 in
theorem w_c22 : (Jvm.Cond.code ({ cls := "java/lang/StringUTF16", name := "newBytesFor", desc := "(I)[B" } : Jvm.MethodName) jdk_52_method_2_code (1 : Nat) (Option.some (Jvm.ClassFile.FieldType.array Jvm.ClassFile.FieldType.byte))).before args0 about1 = true := code_word (m := ⟨19, 1⟩) (meth := k19m1) (c := k19c1) (by decide +kernel) rfl rfl rfl (by decide +kernel)
set_option maxRecDepth 65536 in
theorem w_c23 : (Jvm.Cond.code ({ cls := "java/lang/StringUTF16", name := "newBytesLength", desc := "(I)I" } : Jvm.MethodName) jdk_52_method_3_code (1 : Nat) (Option.some Jvm.ClassFile.FieldType.int)).before args0 about1 = true := code_word (m := ⟨19, 2⟩) (meth := k19m2) (c := k19c2) (by decide +kernel) rfl rfl rfl (by decide +kernel)
set_option maxRecDepth 65536 in
theorem w_c24 : (Jvm.Cond.code ({ cls := "com/example/chitragupta/chitragupta/ledger/KeyBuilder", name := "append", desc := "([B)V" } : Jvm.MethodName) prog_10_method_10_code (2 : Nat) (Option.none : Option Jvm.ClassFile.FieldType)).before args0 about1 = true := code_word (m := ⟨2, 4⟩) (meth := k2m4) (c := k2c4) (by decide +kernel) rfl rfl rfl (by decide +kernel)
def codes1 : List Jvm.Cond := [Jvm.Cond.code x code maxLocals ret, Jvm.Cond.code ({ cls := "com/example/chitragupta/chitragupta/ledger/KeyBuilder", name := "<init>", desc := "()V" } : Jvm.MethodName) prog_10_method_1_code (1 : Nat) (Option.none : Option Jvm.ClassFile.FieldType), Jvm.Cond.code ({ cls := "java/lang/Object", name := "<init>", desc := "()V" } : Jvm.MethodName) object_method_1_code (1 : Nat) (Option.none : Option Jvm.ClassFile.FieldType), Jvm.Cond.code ({ cls := "com/example/chitragupta/chitragupta/ledger/KeyBuilder", name := "build", desc := "()[B" } : Jvm.MethodName) prog_10_method_6_code (1 : Nat) (Option.some (Jvm.ClassFile.FieldType.array Jvm.ClassFile.FieldType.byte)), Jvm.Cond.code ({ cls := "java/util/Arrays", name := "copyOf", desc := "([BI)[B" } : Jvm.MethodName) jdk_65_method_121_code (3 : Nat) (Option.some (Jvm.ClassFile.FieldType.array Jvm.ClassFile.FieldType.byte)), Jvm.Cond.code ({ cls := "java/lang/Math", name := "min", desc := "(II)I" } : Jvm.MethodName) jdk_29_method_69_code (2 : Nat) (Option.some Jvm.ClassFile.FieldType.int), Jvm.Cond.code ({ cls := "com/example/chitragupta/chitragupta/ledger/KeyBuilder", name := "number", desc := "(I)Lcom/example/chitragupta/chitragupta/ledger/KeyBuilder;" } : Jvm.MethodName) prog_10_method_3_code (2 : Nat) (Option.some (Jvm.ClassFile.FieldType.object "com/example/chitragupta/chitragupta/ledger/KeyBuilder")), Jvm.Cond.code ({ cls := "com/example/chitragupta/chitragupta/ledger/KeyBuilder", name := "append", desc := "(JI)V" } : Jvm.MethodName) prog_10_method_11_code (5 : Nat) (Option.none : Option Jvm.ClassFile.FieldType), Jvm.Cond.code ({ cls := "com/example/chitragupta/chitragupta/ledger/KeyBuilder", name := "room", desc := "(I)V" } : Jvm.MethodName) prog_10_method_12_code (2 : Nat) (Option.none : Option Jvm.ClassFile.FieldType), Jvm.Cond.code ({ cls := "com/example/chitragupta/chitragupta/ledger/KeyBuilderBuildPinLaw", name := "put4", desc := "([III)I" } : Jvm.MethodName) method_3_code (3 : Nat) (Option.some Jvm.ClassFile.FieldType.int), Jvm.Cond.code ({ cls := "com/example/chitragupta/chitragupta/ledger/KeyBuilderBuildPinLaw", name := "same", desc := "([B[B[III)Z" } : Jvm.MethodName) method_4_code (5 : Nat) (Option.some Jvm.ClassFile.FieldType.boolean), Jvm.Cond.code ({ cls := "java/lang/String", name := "valueOf", desc := "(C)Ljava/lang/String;" } : Jvm.MethodName) jdk_42_method_139_code (1 : Nat) (Option.some (Jvm.ClassFile.FieldType.object "java/lang/String")), Jvm.Cond.code ({ cls := "java/lang/StringLatin1", name := "canEncode", desc := "(C)Z" } : Jvm.MethodName) jdk_43_method_3_code (1 : Nat) (Option.some Jvm.ClassFile.FieldType.boolean), Jvm.Cond.code ({ cls := "java/lang/StringLatin1", name := "toBytes", desc := "(C)[B" } : Jvm.MethodName) jdk_43_method_46_code (1 : Nat) (Option.some (Jvm.ClassFile.FieldType.array Jvm.ClassFile.FieldType.byte)), Jvm.Cond.code ({ cls := "java/lang/String", name := "<init>", desc := "([BB)V" } : Jvm.MethodName) jdk_42_method_151_code (3 : Nat) (Option.none : Option Jvm.ClassFile.FieldType), Jvm.Cond.code ({ cls := "com/example/chitragupta/chitragupta/ledger/KeyBuilder", name := "last", desc := "(Ljava/lang/String;)Lcom/example/chitragupta/chitragupta/ledger/KeyBuilder;" } : Jvm.MethodName) prog_10_method_5_code (2 : Nat) (Option.some (Jvm.ClassFile.FieldType.object "com/example/chitragupta/chitragupta/ledger/KeyBuilder")), Jvm.Cond.code ({ cls := "java/lang/String", name := "getBytes", desc := "(Ljava/nio/charset/Charset;)[B" } : Jvm.MethodName) jdk_42_method_64_code (2 : Nat) (Option.some (Jvm.ClassFile.FieldType.array Jvm.ClassFile.FieldType.byte)), Jvm.Cond.code ({ cls := "java/lang/String", name := "coder", desc := "()B" } : Jvm.MethodName) jdk_42_method_152_code (1 : Nat) (Option.some Jvm.ClassFile.FieldType.byte), Jvm.Cond.code ({ cls := "java/lang/String", name := "encode", desc := "(Ljava/nio/charset/Charset;B[B)[B" } : Jvm.MethodName) jdk_42_method_18_code (3 : Nat) (Option.some (Jvm.ClassFile.FieldType.array Jvm.ClassFile.FieldType.byte)), Jvm.Cond.code ({ cls := "java/lang/String", name := "encodeUTF8", desc := "(B[BZ)[B" } : Jvm.MethodName) jdk_42_method_46_code (9 : Nat) (Option.some (Jvm.ClassFile.FieldType.array Jvm.ClassFile.FieldType.byte)), Jvm.Cond.code ({ cls := "java/lang/StringCoding", name := "hasNegatives", desc := "([BII)Z" } : Jvm.MethodName) jdk_123_method_2_code (3 : Nat) (Option.some Jvm.ClassFile.FieldType.boolean), Jvm.Cond.code ({ cls := "java/lang/StringCoding", name := "countPositives", desc := "([BII)I" } : Jvm.MethodName) jdk_123_method_3_code (5 : Nat) (Option.some Jvm.ClassFile.FieldType.int), Jvm.Cond.code ({ cls := "java/lang/StringUTF16", name := "newBytesFor", desc := "(I)[B" } : Jvm.MethodName) jdk_52_method_2_code (1 : Nat) (Option.some (Jvm.ClassFile.FieldType.array Jvm.ClassFile.FieldType.byte)), Jvm.Cond.code ({ cls := "java/lang/StringUTF16", name := "newBytesLength", desc := "(I)I" } : Jvm.MethodName) jdk_52_method_3_code (1 : Nat) (Option.some Jvm.ClassFile.FieldType.int), Jvm.Cond.code ({ cls := "com/example/chitragupta/chitragupta/ledger/KeyBuilder", name := "append", desc := "([B)V" } : Jvm.MethodName) prog_10_method_10_code (2 : Nat) (Option.none : Option Jvm.ClassFile.FieldType)]
set_option maxRecDepth 65536 in
theorem codes_eq : words1.filter isCode = codes1 := rfl
theorem w_codes : ∀ c ∈ words1.filter isCode, c.before args0 about1 = true := by
  rw [codes_eq]
  intro c hc
  simp only [codes1, List.mem_cons, List.not_mem_nil, or_false] at hc
  rcases hc with rfl | rfl | rfl | rfl | rfl | rfl | rfl | rfl | rfl | rfl | rfl | rfl | rfl | rfl | rfl | rfl | rfl | rfl | rfl | rfl | rfl | rfl | rfl | rfl | rfl
  · exact w_c0
  · exact w_c1
  · exact w_c2
  · exact w_c3
  · exact w_c4
  · exact w_c5
  · exact w_c6
  · exact w_c7
  · exact w_c8
  · exact w_c9
  · exact w_c10
  · exact w_c11
  · exact w_c12
  · exact w_c13
  · exact w_c14
  · exact w_c15
  · exact w_c16
  · exact w_c17
  · exact w_c18
  · exact w_c19
  · exact w_c20
  · exact w_c21
  · exact w_c22
  · exact w_c23
  · exact w_c24
set_option maxRecDepth 65536 in
theorem w_t1 : (words1.take 24).all (fun c => isCode c || c.before args0 about1) = true := by decide +kernel
set_option maxRecDepth 65536 in
theorem w_t2 : ((words1.drop 24).take 24).all (fun c => isCode c || c.before args0 about1) = true := by decide +kernel
set_option maxRecDepth 65536 in
theorem w_t3 : (((words1.drop 24).drop 24).take 24).all (fun c => isCode c || c.before args0 about1) = true := by decide +kernel
set_option maxRecDepth 65536 in
theorem w_t4 : ((((words1.drop 24).drop 24).drop 24).take 24).all (fun c => isCode c || c.before args0 about1) = true := by decide +kernel
set_option maxRecDepth 65536 in
theorem w_t5 : (((((words1.drop 24).drop 24).drop 24).drop 24).take 24).all (fun c => isCode c || c.before args0 about1) = true := by decide +kernel
set_option maxRecDepth 65536 in
theorem w_t6 : (((((words1.drop 24).drop 24).drop 24).drop 24).drop 24).all (fun c => isCode c || c.before args0 about1) = true := by decide +kernel
theorem w_tables : (allAtoms (Jvm.Cond.code x code maxLocals ret :: tables_1)).before args0 about1 = true := by
  rw [allAtoms_all]
  show words1.all (fun c => c.before args0 about1) = true
  refine all_split ?_ w_codes
  rw [← List.take_append_drop 24 words1, List.all_append, w_t1, ← List.take_append_drop 24 (words1.drop 24), List.all_append, w_t2, ← List.take_append_drop 24 ((words1.drop 24).drop 24), List.all_append, w_t3, ← List.take_append_drop 24 (((words1.drop 24).drop 24).drop 24), List.all_append, w_t4, ← List.take_append_drop 24 ((((words1.drop 24).drop 24).drop 24).drop 24), List.all_append, w_t5, w_t6]
  rfl
set_option maxRecDepth 65536 in
theorem w_rest : rest_1_c.before args0 about1 = true := by decide +kernel
set_option maxRecDepth 65536 in
theorem w_case : (Jvm.Cond.and given_1 narrow_1).before args0 about1 = true := by decide +kernel
theorem w_applies : (headSpec (Jvm.Cond.code x code maxLocals ret :: tables_1) room_1).applies x e0.platform about1 = true :=
  (Spec.applies_iff w_frames).mpr ⟨w_running, w_runnable, w_alone, w_named, w_hears, w_ripe, w_room, w_tables⟩
theorem atStart : AtStart classFile x code maxLocals ret World_1 tables_1 room_1 Calls_1 rest_1 Pre_1 launch0 p0 e0 about1 theMethod args0 below0 :=
  ⟨lists_1, trivial, launch0.admits_env _ _ _, launch0.least_env, fairChoices_fair.cas, fairChoices_fair.clock, w_frames, w_args, w_heap, w_applies, trivial, w_rest, w_case⟩
end start1
theorem witness_1 : WitnessClaimed_1 := ⟨start1.p0, start1.e0, start1.about1, start1.theMethod, start1.args0, start1.below0, start1.atStart⟩
end Jvm.Pilot.@@N@@
