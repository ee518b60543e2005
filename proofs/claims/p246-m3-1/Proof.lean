import JvmDerived
import JvmDerived.Pilot.@@N@@Statement
import JvmDerived.Pilot.@@N@@Code
set_option linter.unusedVariables false
set_option linter.unusedSimpArgs false
namespace Jvm.RoadKit
open Sem ClassFile Op Lib Jvm.Stand Jvm.Free Jvm.LawKit
section New
variable {p : Program} {l : Launch} {e : Env} {R : Room} {s : State} {m : MethodId} {args : Array Value} {below : List Frame} {meth : Method} {c : Code} {T : State} {locs : List Loc} {cells slots : Nat}
theorem retI (X : Stand p l e R s m args below meth c T locs cells slots) (hx : p.tables.exec = Jvm.exec) {pc : Nat} {Ls : Array Slot} {z : Int32} {rest : List Value} (hret : meth.sig.returnType = some .int) (hd : decode c.code pc = .ok (.ireturn, 1)) {fs : List Frame}
    (hl : ∀ (f : JFrame) (acts : List Action), f.method = m → f.locked = none → f.entered = [] → (doReturn e (T.setTop f) acts (some (.int z))).1 = T.setFrames fs) : Steps p.tables e below (T.setTop (mkF m pc Ls (.int z :: rest))) (T.setFrames fs) := by
  have hm' : T.vm.method? m = some meth := X.method'
  have hn : narrow .int (.int z) = .int z := rfl
  show Steps p.tables e below (T.setTop { method := m, pc := pc, locals := Ls, stack := _ :: rest, locked := none }) _
  jvm_step X.here [X.here.top, hx, hd, hm', hret, hn]
  first | (intro acts; rw [hl _ acts rfl rfl rfl]) | rw [hl _ _ rfl rfl rfl]
  exact Steps.refl _
end New
end Jvm.RoadKit
/- laws to paste: Road.backV (cut by pick.py; bodies as the Statement names them) -/
namespace Jvm.Pilot.@@N@@
namespace StrChars
open Jvm Sem ClassFile Op Lib Jvm.Stand Jvm.Free.XT Jvm.Free.ALB Jvm.Free.JM Jvm.Free
open Jvm.Lib.Cold (StaticIs)
/-- a char array whose places are chars -/
def Ch (a : Addr) (A : Cell) (U : State) : Prop := Arr .char a A U ∧ Typed .char A
theorem Ch.mv {a : Addr} {A : Cell} {U U' : State} (h : Ch a A U) (hal : U.vm.Alike U'.vm) (hh : U'.heap = U.heap) : Ch a A U' := ⟨h.1.mv hal hh, h.2⟩
theorem Ch.keep {a : Addr} {A : Cell} {U U' : State} (h : Ch a A U) (hal : U.vm.Alike U'.vm) (hk : U'.heap[a]? = some A) : Ch a A U' := ⟨h.1.keep hal hk, h.2⟩
/-- what place i of a char[]'s cell holds -/
def cv (A : Cell) (i : Nat) : Int32 := match A.slots[i]? with | some (.int x) => x | _ => 0
theorem Ch.get {a : Addr} {A : Cell} {U : State} (h : Ch a A U) {i : Nat} (hi : i < A.slots.size) : A.slots[i]? = some (.int (cv A i)) := by
  have e := Array.getElem?_eq_getElem hi
  have f := h.2 i _ e
  unfold cv; rw [e]
  generalize A.slots[i] = v at f
  cases v <;> simp [fits] at f ⊢
/-- the byte that i2b leaves of a char -/
def lo8 (x : Int32) : Int32 := x.toInt8.toInt32
theorem fits_lo8 (y : Int32) : fits .byte (.int (lo8 y)) = true := by
  have h1 := y.toInt8.le_toInt
  have h2 := y.toInt8.toInt_lt
  simp only [lo8, fits, Bool.and_eq_true, decide_eq_true_eq, Int32.le_iff_toInt_le, Int8.toInt_toInt32, show (-128 : Int32).toInt = -128 from by decide, show (127 : Int32).toInt = 127 from by decide]
  omega
/-- A' is A but that each place j of lo .. hi - 1 holds f j -/
def Laid (A A' : Cell) (lo hi : Nat) (f : Nat → Value) : Prop := A'.cls = A.cls ∧ A'.vm = A.vm ∧ A'.slots.size = A.slots.size ∧ ∀ i, A'.slots[i]? = if lo ≤ i ∧ i < hi then some (f i) else A.slots[i]?
theorem Laid.zero (A : Cell) (lo : Nat) (f : Nat → Value) : Laid A A lo (lo + 0) f := ⟨rfl, rfl, rfl, fun i => by rw [if_neg (by omega)]⟩
theorem Laid.step {A Ak : Cell} {lo k : Nat} {f : Nat → Value} {v : Value} (h : Laid A Ak lo k f) (hlo : lo ≤ k) (hk : k < Ak.slots.size) (hv : v = f k) : Laid A (Ak.setSlot k v) lo (k + 1) f := by
  refine ⟨h.1, h.2.1, by simpa [Cell.setSlot] using h.2.2.1, fun i => ?_⟩
  by_cases e : k = i
  · subst e; rw [Cell.slots_setSlot_self v hk, if_pos (by omega), hv]
  · rw [Cell.slots_setSlot_ne v e, h.2.2.2 i]
    by_cases q : lo ≤ i ∧ i < k
    · rw [if_pos q, if_pos (by omega)]
    · rw [if_neg q, if_neg (by omega)]
def U16 : String := "java/lang/StringUTF16"
namespace Cmp5
def yN : MethodName := ⟨"java/lang/StringUTF16", "compress", "([CI[BII)I"⟩
abbrev yB : ByteArray := jdk_52_method_21_code
theorem d0 : decode yB 0 = .ok (.iconst 0, 1) := by decide +kernel
theorem d1 : decode yB 1 = .ok (.istore 5, 2) := by decide +kernel
theorem d3 : decode yB 3 = .ok (.iload 5, 2) := by decide +kernel
theorem d5 : decode yB 5 = .ok (.iload 4, 2) := by decide +kernel
theorem d7 : decode yB 7 = .ok (.if_icmp (.ge) 37, 3) := by decide +kernel
theorem d10 : decode yB 10 = .ok (.aload_n 0, 1) := by decide +kernel
theorem d11 : decode yB 11 = .ok (.iload_n 1, 1) := by decide +kernel
theorem d12 : decode yB 12 = .ok (.caload, 1) := by decide +kernel
theorem d13 : decode yB 13 = .ok (.istore 6, 2) := by decide +kernel
theorem d15 : decode yB 15 = .ok (.iload 6, 2) := by decide +kernel
theorem d17 : decode yB 17 = .ok (.sipush 255, 3) := by decide +kernel
theorem d20 : decode yB 20 = .ok (.if_icmp (.le) 6, 3) := by decide +kernel
theorem d26 : decode yB 26 = .ok (.aload_n 2, 1) := by decide +kernel
theorem d27 : decode yB 27 = .ok (.iload_n 3, 1) := by decide +kernel
theorem d28 : decode yB 28 = .ok (.iload 6, 2) := by decide +kernel
theorem d30 : decode yB 30 = .ok (.i2b, 1) := by decide +kernel
theorem d31 : decode yB 31 = .ok (.bastore, 1) := by decide +kernel
theorem d32 : decode yB 32 = .ok (.iinc 1 1, 3) := by decide +kernel
theorem d35 : decode yB 35 = .ok (.iinc 3 1, 3) := by decide +kernel
theorem d38 : decode yB 38 = .ok (.iinc 5 1, 3) := by decide +kernel
theorem d41 : decode yB 41 = .ok (.goto (-38), 3) := by decide +kernel
theorem d44 : decode yB 44 = .ok (.iload 4, 2) := by decide +kernel
theorem d46 : decode yB 46 = .ok (.ireturn, 1) := by decide +kernel
def site : List Cond := []
def tab : Cond := tabOf yN yB 7 (some .int) site
def P (b : Addr) (A : Cell) (d : Addr) (B : Cell) (o q len : Nat) (args : Array Value) (s : State) : Prop := args = #[.ref b, .int (Int32.ofNat o), .ref d, .int (Int32.ofNat q), .int (Int32.ofNat len)] ∧ Ch b A s ∧ Arr .byte d B s ∧ b ≠ d ∧ o + len ≤ A.slots.size ∧ q + len ≤ B.slots.size ∧ ∀ i, i < len → ¬ 255 < cv A (o + i)
def E (b : Addr) (A : Cell) (d : Addr) (B : Cell) (o q len : Nat) (r : Option Value) (s u : State) : Prop := r = some (.int (Int32.ofNat len)) ∧ ∃ B', Put d B' s u ∧ Laid B B' q (q + len) (fun j => Value.int (lo8 (cv A (o + (j - q)))))
/-- no char of the range above 255: len; the places written hold each char's low byte -/
theorem law (l : Launch) (b : Addr) (A : Cell) (d : Addr) (B : Cell) (o q len : Nat) : Law l yN 5 5 0 0 yB 7 (some .int) site (P b A d B o q len) (E b A d B o q len) (copyLocs d q len) 0 0 := by
  refine Law.of_walk (plainFor_of_name (by decide +kernel)) (by decide +kernel) (by decide +kernel) (by decide) (fun _ _ h => by rw [h.1]; rfl) (fun _ U U' hal hh h => ⟨h.1, h.2.1.mv hal hh, h.2.2.1.mv hal hh, h.2.2.2⟩) (fun r U U' V V' h1 hal h2 h => ⟨h.1, h.2.elim fun B' q => ⟨B', q.1.mv h1 h2, q.2⟩⟩) ?_
  intro p e s m args below meth c s₁ X0 hexec hbytes hml hret hlk hnm hown hh0 W hP
  obtain ⟨rfl, hA, hB, hne, l1, l2, hp⟩ := hP
  have c1 : Steps p.tables e below (s₁.setTop (entryFrame m #[.ref b, .int (Int32.ofNat o), .ref d, .int (Int32.ofNat q), .int (Int32.ofNat len)] 7)) (s₁.setTop (mkF m 0 #[.val (.ref b), .val (.int (Int32.ofNat o)), .val (.ref d), .val (.int (Int32.ofNat q)), .val (.int (Int32.ofNat len)), .unset, .unset] [])) := entry rfl
  have hA0 := hA.1.mv X0.warmed.alike hh0
  have hB0 := hB.mv X0.warmed.alike hh0
  have a31 := hA.1.2.2.2
  have c2 : Steps p.tables e below (s₁.setTop (entryFrame m #[.ref b, .int (Int32.ofNat o), .ref d, .int (Int32.ofNat q), .int (Int32.ofNat len)] 7)) (s₁.setTop (mkF m 3 #[.val (.ref b), .val (.int (Int32.ofNat o)), .val (.ref d), .val (.int (Int32.ofNat q)), .val (.int (Int32.ofNat len)), .val (.int 0), .unset] [])) := c1.trans (by
    refine iconstV X0.here hexec rfl 0 (hb hbytes d0) (by decide) ?_
    refine XS.istore X0.here hexec rfl (hb hbytes d1) rfl rfl ?_
    exact Steps.refl _)
  have loop : ∀ (r i : Nat), i + r = len → ∀ (z : Slot), (z = .unset ∨ ∃ w, z = .val w ∧ w.category = 1) → ∀ (Tl : State) (Bk : Cell), Stand p l e { frames := 0, locals := 0, cells := 0, slots := 0 } s m #[.ref b, .int (Int32.ofNat o), .ref d, .int (Int32.ofNat q), .int (Int32.ofNat len)] below meth c Tl ([] ++ copyLocs d q i) 0 0 → Put d Bk s₁ Tl → Laid B Bk q (q + i) (fun j => Value.int (lo8 (cv A (o + (j - q))))) →
      Steps p.tables e below (s₁.setTop (entryFrame m #[.ref b, .int (Int32.ofNat o), .ref d, .int (Int32.ofNat q), .int (Int32.ofNat len)] 7)) (Tl.setTop (mkF m 3 #[.val (.ref b), .val (.int (Int32.ofNat (o + i))), .val (.ref d), .val (.int (Int32.ofNat (q + i))), .val (.int (Int32.ofNat len)), .val (.int (Int32.ofNat i)), z] [])) → ∃ (T' : State) (B' : Cell) (z' : Slot), Stand p l e { frames := 0, locals := 0, cells := 0, slots := 0 } s m #[.ref b, .int (Int32.ofNat o), .ref d, .int (Int32.ofNat q), .int (Int32.ofNat len)] below meth c T' ([] ++ copyLocs d q len) 0 0 ∧ Put d B' s₁ T' ∧ Laid B B' q (q + len) (fun j => Value.int (lo8 (cv A (o + (j - q))))) ∧
      Steps p.tables e below (s₁.setTop (entryFrame m #[.ref b, .int (Int32.ofNat o), .ref d, .int (Int32.ofNat q), .int (Int32.ofNat len)] 7)) (T'.setTop (mkF m 3 #[.val (.ref b), .val (.int (Int32.ofNat (o + len))), .val (.ref d), .val (.int (Int32.ofNat (q + len))), .val (.int (Int32.ofNat len)), .val (.int (Int32.ofNat len)), z'] [])) := by
    intro r
    induction r with
    | zero =>
      intro i hi z hz Tl Bk Xl pl fl cl
      have hil : i = len := by omega
      rw [hil] at Xl fl cl
      exact ⟨Tl, Bk, z, Xl, pl, fl, cl⟩
    | succ r ih =>
      intro i hi z hz Tl Bk Xl pl fl cl
      have all := X0.warmed.alike.symm.trans Xl.warmed.alike
      have hAl := hA0.keep all (pl.other hne hA0.1)
      have hBk := hB0.like all pl.1 fl.1 fl.2.1 fl.2.2.1
      have hlt : q + i < Bk.slots.size := by rw [fl.2.2.1]; omega
      have c3 : Steps p.tables e below (s₁.setTop (entryFrame m #[.ref b, .int (Int32.ofNat o), .ref d, .int (Int32.ofNat q), .int (Int32.ofNat len)] 7)) (Tl.setTop (mkF m 12 #[.val (.ref b), .val (.int (Int32.ofNat (o + i))), .val (.ref d), .val (.int (Int32.ofNat (q + i))), .val (.int (Int32.ofNat len)), .val (.int (Int32.ofNat i)), z] [.int (Int32.ofNat (o + i)), .ref b])) := cl.trans (by
        refine XS.iload Xl.here hexec rfl (hb hbytes d3) rfl ?_
        refine XS.iload Xl.here hexec rfl (hb hbytes d5) rfl ?_
        refine XS.icmpNo Xl.here hexec rfl (hb hbytes d7) rfl (ii_ge_f (lt32 (by omega) (by omega))) ?_
        refine XS.aloadN Xl.here hexec rfl (hb hbytes d10) rfl rfl ?_
        refine XS.iloadN Xl.here hexec rfl (hb hbytes d11) rfl ?_
        exact Steps.refl _)
      have c4 : Steps p.tables e below (s₁.setTop (entryFrame m #[.ref b, .int (Int32.ofNat o), .ref d, .int (Int32.ofNat q), .int (Int32.ofNat len)] 7)) (Tl.setTop (mkF m 13 #[.val (.ref b), .val (.int (Int32.ofNat (o + i))), .val (.ref d), .val (.int (Int32.ofNat (q + i))), .val (.int (Int32.ofNat len)), .val (.int (Int32.ofNat i)), z] [.int (cv A (o + i))])) := c3.trans (by
        refine Xl.aget hexec hAl rfl (hA.get (i := o + i) (by omega)) rfl rfl (hb hbytes d12) ?_
        exact Steps.refl _)
      have c5 : Steps p.tables e below (s₁.setTop (entryFrame m #[.ref b, .int (Int32.ofNat o), .ref d, .int (Int32.ofNat q), .int (Int32.ofNat len)] 7)) (Tl.setTop (mkF m 15 #[.val (.ref b), .val (.int (Int32.ofNat (o + i))), .val (.ref d), .val (.int (Int32.ofNat (q + i))), .val (.int (Int32.ofNat len)), .val (.int (Int32.ofNat i)), .val (.int (cv A (o + i)))] [])) := c4.trans (by
        refine XS.istoreS Xl.here hexec rfl (hb hbytes d13) rfl rfl hz ?_
        exact Steps.refl _)
      have c6 : Steps p.tables e below (s₁.setTop (entryFrame m #[.ref b, .int (Int32.ofNat o), .ref d, .int (Int32.ofNat q), .int (Int32.ofNat len)] 7)) (Tl.setTop (mkF m 31 #[.val (.ref b), .val (.int (Int32.ofNat (o + i))), .val (.ref d), .val (.int (Int32.ofNat (q + i))), .val (.int (Int32.ofNat len)), .val (.int (Int32.ofNat i)), .val (.int (cv A (o + i)))] [.int (lo8 (cv A (o + i))), .int (Int32.ofNat (q + i)), .ref d])) := c5.trans (by
        refine XS.iload Xl.here hexec rfl (hb hbytes d15) rfl ?_
        refine sipushV Xl.here hexec rfl 255 (hb hbytes d17) (by decide) ?_
        refine XS.icmpYes Xl.here hexec rfl (pc0 := 20) rfl (hb hbytes d20) rfl (ii_le_t (hp i (by omega))) (by decide) rfl ?_
        refine XS.aloadN Xl.here hexec rfl (hb hbytes d26) rfl rfl ?_
        refine XS.iloadN Xl.here hexec rfl (hb hbytes d27) rfl ?_
        refine XS.iload Xl.here hexec rfl (hb hbytes d28) rfl ?_
        refine i2b Xl.here hexec rfl (hb hbytes d30) rfl ?_
        exact Steps.refl _)
      obtain ⟨T7, X7, p7, st7⟩ := Xl.aput hexec hBk rfl hlt rfl (fits_lo8 (cv A (o + i))) (g := (mkF m 31 #[.val (.ref b), .val (.int (Int32.ofNat (o + i))), .val (.ref d), .val (.int (Int32.ofNat (q + i))), .val (.int (Int32.ofNat len)), .val (.int (Int32.ofNat i)), .val (.int (cv A (o + i)))] [.int (lo8 (cv A (o + i))), .int (Int32.ofNat (q + i)), .ref d])) rfl (rest := []) rfl (hb hbytes d31)
      have c8 : Steps p.tables e below (s₁.setTop (entryFrame m #[.ref b, .int (Int32.ofNat o), .ref d, .int (Int32.ofNat q), .int (Int32.ofNat len)] 7)) (T7.setTop (mkF m 32 #[.val (.ref b), .val (.int (Int32.ofNat (o + i))), .val (.ref d), .val (.int (Int32.ofNat (q + i))), .val (.int (Int32.ofNat len)), .val (.int (Int32.ofNat i)), .val (.int (cv A (o + i)))] [])) := c6.trans (st7 _ (Steps.refl _))
      have c9 : Steps p.tables e below (s₁.setTop (entryFrame m #[.ref b, .int (Int32.ofNat o), .ref d, .int (Int32.ofNat q), .int (Int32.ofNat len)] 7)) (T7.setTop (mkF m 3 #[.val (.ref b), .val (.int (Int32.ofNat (o + i) + 1)), .val (.ref d), .val (.int (Int32.ofNat (q + i) + 1)), .val (.int (Int32.ofNat len)), .val (.int (Int32.ofNat i + 1)), .val (.int (cv A (o + i)))] [])) := c8.trans (by
        refine iincV X7.here hexec rfl 1 (hb hbytes d32) (by decide) rfl rfl ?_
        refine iincV X7.here hexec rfl 1 (hb hbytes d35) (by decide) rfl rfl ?_
        refine iincV X7.here hexec rfl 1 (hb hbytes d38) (by decide) rfl rfl ?_
        refine XS.goto X7.here hexec rfl (pc0 := 41) rfl (hb hbytes d41) (by decide) rfl ?_
        exact Steps.refl _)
      have c10 : Steps p.tables e below (s₁.setTop (entryFrame m #[.ref b, .int (Int32.ofNat o), .ref d, .int (Int32.ofNat q), .int (Int32.ofNat len)] 7)) (T7.setTop (mkF m 3 #[.val (.ref b), .val (.int (Int32.ofNat (o + (i + 1)))), .val (.ref d), .val (.int (Int32.ofNat (q + (i + 1)))), .val (.int (Int32.ofNat len)), .val (.int (Int32.ofNat (i + 1))), .val (.int (cv A (o + i)))] [])) := by
        have := c9
        rw [succ32, succ32, succ32] at this
        exact this
      exact ih (i + 1) (by omega) _ (Or.inr ⟨_, rfl, rfl⟩) T7 _ (by rw [copyLocs_step, ← List.append_assoc]; exact X7) (pl.trans p7) (fl.step (by omega) hlt (by simp)) c10
  obtain ⟨T9, B9, z9, X9, p9, f9, g9⟩ := loop len 0 (by omega) .unset (Or.inl rfl) s₁ B (by simpa [copyLocs] using X0) ⟨hB0.1, fun _ _ => rfl, rfl⟩ (Laid.zero _ _ _) c2
  have c11 : Steps p.tables e below (s₁.setTop (entryFrame m #[.ref b, .int (Int32.ofNat o), .ref d, .int (Int32.ofNat q), .int (Int32.ofNat len)] 7)) (T9.setTop (mkF m 46 #[.val (.ref b), .val (.int (Int32.ofNat (o + len))), .val (.ref d), .val (.int (Int32.ofNat (q + len))), .val (.int (Int32.ofNat len)), .val (.int (Int32.ofNat len)), z9] [.int (Int32.ofNat len)])) := g9.trans (by
    refine XS.iload X9.here hexec rfl (hb hbytes d3) rfl ?_
    refine XS.iload X9.here hexec rfl (hb hbytes d5) rfl ?_
    refine XS.icmpYes X9.here hexec rfl (pc0 := 7) rfl (hb hbytes d7) rfl (ii_ge_t (nlt32 (by omega) (Nat.le_refl _))) (by decide) rfl ?_
    refine XS.iload X9.here hexec rfl (hb hbytes d44) rfl ?_
    exact Steps.refl _)
  exact ⟨T9, some (.int (Int32.ofNat len)), _, _, _, X9, by simp, rfl, rfl, (fun h => by cases h), ⟨rfl, B9, p9.from hh0, f9⟩, fun fs hl => c11.trans (X9.ireturnOut hexec hret rfl (Or.inl rfl) (hb hbytes d46) hl)⟩
end Cmp5
namespace Cmp3
def yN : MethodName := ⟨"java/lang/StringUTF16", "compress", "([CII)[B"⟩
abbrev yB : ByteArray := jdk_52_method_16_code
theorem d0 : decode yB 0 = .ok (.iload_n 2, 1) := by decide +kernel
theorem d1 : decode yB 1 = .ok (.newarray .byte, 2) := by decide +kernel
theorem d3 : decode yB 3 = .ok (.astore_n 3, 1) := by decide +kernel
theorem d4 : decode yB 4 = .ok (.aload_n 0, 1) := by decide +kernel
theorem d5 : decode yB 5 = .ok (.iload_n 1, 1) := by decide +kernel
theorem d6 : decode yB 6 = .ok (.aload_n 3, 1) := by decide +kernel
theorem d7 : decode yB 7 = .ok (.iconst 0, 1) := by decide +kernel
theorem d8 : decode yB 8 = .ok (.iload_n 2, 1) := by decide +kernel
theorem d9 : decode yB 9 = .ok (.invokestatic 115, 3) := by decide +kernel
theorem d12 : decode yB 12 = .ok (.istore 4, 2) := by decide +kernel
theorem d14 : decode yB 14 = .ok (.iload 4, 2) := by decide +kernel
theorem d16 : decode yB 16 = .ok (.iload_n 2, 1) := by decide +kernel
theorem d17 : decode yB 17 = .ok (.if_icmp (.eq) 40, 3) := by decide +kernel
theorem d57 : decode yB 57 = .ok (.aload_n 3, 1) := by decide +kernel
theorem d58 : decode yB 58 = .ok (.areturn, 1) := by decide +kernel
def site : List Cond := [.arrayClass .byte, Cmp5.tab] ++ staticW U16 115 Cmp5.yN
def tab : Cond := tabOf yN yB 6 (some (.array .byte)) site
def P (b : Addr) (A : Cell) (o len : Nat) (args : Array Value) (s : State) : Prop := args = #[.ref b, .int (Int32.ofNat o), .int (Int32.ofNat len)] ∧ Ch b A s ∧ o + len ≤ A.slots.size ∧ len ≤ 536870912 ∧ ∀ i, i < len → ¬ 255 < cv A (o + i)
def E (b : Addr) (A : Cell) (o len : Nat) (r : Option Value) (s u : State) : Prop := NewArr .byte "[B" len (fun j => .int (lo8 (cv A (o + j)))) r s u ∧ u.heap.size = s.heap.size + 1
/-- no char of the range above 255: a new byte[] of their low bytes -/
theorem law (l : Launch) (b : Addr) (A : Cell) (o len : Nat) : Law l yN 3 3 1 18 yB 6 (some (.array .byte)) site (P b A o len) (E b A o len) [] 1 len := by
  refine Law.of_walk (plainFor_of_name (by decide +kernel)) (by decide +kernel) (by decide +kernel) (by decide) (fun _ _ h => by rw [h.1]; rfl) (fun _ U U' hal hh h => ⟨h.1, h.2.1.mv hal hh, h.2.2⟩) (fun r U U' V V' h1 hal h2 h => ⟨NewArr.mv r U U' V V' h1 hal h2 h.1, by rw [h1, h2]; exact h.2⟩) ?_
  intro p e s m args below meth c s₁ X0 hexec hbytes hml hret hlk hnm hown hh0 W hP
  obtain ⟨rfl, hA, l1, l2, hp⟩ := hP
  have a31 := hA.1.2.2.2
  have c1 : Steps p.tables e below (s₁.setTop (entryFrame m #[.ref b, .int (Int32.ofNat o), .int (Int32.ofNat len)] 6)) (s₁.setTop (mkF m 0 #[.val (.ref b), .val (.int (Int32.ofNat o)), .val (.int (Int32.ofNat len)), .unset, .unset, .unset] [])) := entry rfl
  have c2 : Steps p.tables e below (s₁.setTop (entryFrame m #[.ref b, .int (Int32.ofNat o), .int (Int32.ofNat len)] 6)) (s₁.setTop (mkF m 1 #[.val (.ref b), .val (.int (Int32.ofNat o)), .val (.int (Int32.ofNat len)), .unset, .unset, .unset] [.int (Int32.ofNat len)])) := c1.trans (by
    refine XS.iloadN X0.here hexec rfl (hb hbytes d0) rfl ?_
    exact Steps.refl _)
  obtain ⟨T3, B3, X3, ba3, bs3, bv3, bh3, bf3, st3⟩ := X0.anew hexec (atype := .byte) (wk W (.arrayClass .byte)) rfl (by show len * 1 ≤ _; omega) (by omega) (g := (mkF m 1 #[.val (.ref b), .val (.int (Int32.ofNat o)), .val (.int (Int32.ofNat len)), .unset, .unset, .unset] [.int (Int32.ofNat len)])) rfl (hb hbytes d1) (rest := []) rfl (Nat.le_refl _) (by show 0 + len ≤ len; omega)
  rw [hh0] at ba3 st3
  have kp3 : XT.Kept s T3 := (XT.Kept.of_eq hh0).push bh3
  have hA3 := hA.keep X3.warmed.alike (kp3 _ _ hA.1.1)
  have hne : b ≠ s.heap.size := hA.1.ne
  have c4 : Steps p.tables e below (s₁.setTop (entryFrame m #[.ref b, .int (Int32.ofNat o), .int (Int32.ofNat len)] 6)) (T3.setTop (mkF m 3 #[.val (.ref b), .val (.int (Int32.ofNat o)), .val (.int (Int32.ofNat len)), .unset, .unset, .unset] [.ref s.heap.size])) := c2.trans (st3 _ (Steps.refl _))
  have c5 : Steps p.tables e below (s₁.setTop (entryFrame m #[.ref b, .int (Int32.ofNat o), .int (Int32.ofNat len)] 6)) (T3.setTop (mkF m 9 #[.val (.ref b), .val (.int (Int32.ofNat o)), .val (.int (Int32.ofNat len)), .val (.ref s.heap.size), .unset, .unset] [.int (Int32.ofNat len), .int 0, .ref s.heap.size, .int (Int32.ofNat o), .ref b])) := c4.trans (by
    refine XS.astoreN X3.here hexec rfl (hb hbytes d3) rfl rfl rfl ?_
    refine XS.aloadN X3.here hexec rfl (hb hbytes d4) rfl rfl ?_
    refine XS.iloadN X3.here hexec rfl (hb hbytes d5) rfl ?_
    refine XS.aloadN X3.here hexec rfl (hb hbytes d6) rfl rfl ?_
    refine iconstV X3.here hexec rfl 0 (hb hbytes d7) (by decide) ?_
    refine XS.iloadN X3.here hexec rfl (hb hbytes d8) rfl ?_
    exact Steps.refl _)
  obtain ⟨v6, T6, X6, E6, g6⟩ := X3.callS hexec (Cmp5.law l b A s.heap.size B3 o 0 len) hown (wks W (staticW U16 115 Cmp5.yN)) (wk W Cmp5.tab) (W := 0) (Nat.le_of_ble_eq_true rfl) (Nat.le_of_ble_eq_true rfl) (Nat.le_refl _) (by show 0 + len + 0 ≤ len; omega) (g := (mkF m 9 #[.val (.ref b), .val (.int (Int32.ofNat o)), .val (.int (Int32.ofNat len)), .val (.ref s.heap.size), .unset, .unset] [.int (Int32.ofNat len), .int (Int32.ofNat 0), .ref s.heap.size, .int (Int32.ofNat o), .ref b])) rfl (by rw [hml]; rfl) c5 (argsL := [.ref b, .int (Int32.ofNat o), .ref s.heap.size, .int (Int32.ofNat 0), .int (Int32.ofNat len)]) (rest := []) rfl rfl (by show 2 * 0 + 0 ≤ _; decide) (hb hbytes d9) (⟨rfl, hA3, ba3, hne, l1, by rw [bs3]; simp, hp⟩)
  obtain ⟨rfl, B6, p6, f6⟩ := E6
  have c7 : Steps p.tables e below (s₁.setTop (entryFrame m #[.ref b, .int (Int32.ofNat o), .int (Int32.ofNat len)] 6)) (T6.setTop (mkF m 12 #[.val (.ref b), .val (.int (Int32.ofNat o)), .val (.int (Int32.ofNat len)), .val (.ref s.heap.size), .unset, .unset] [.int (Int32.ofNat len)])) := g6
  have c8 : Steps p.tables e below (s₁.setTop (entryFrame m #[.ref b, .int (Int32.ofNat o), .int (Int32.ofNat len)] 6)) (T6.setTop (mkF m 58 #[.val (.ref b), .val (.int (Int32.ofNat o)), .val (.int (Int32.ofNat len)), .val (.ref s.heap.size), .val (.int (Int32.ofNat len)), .unset] [.ref s.heap.size])) := c7.trans (by
    refine XS.istore X6.here hexec rfl (hb hbytes d12) rfl rfl ?_
    refine XS.iload X6.here hexec rfl (hb hbytes d14) rfl ?_
    refine XS.iloadN X6.here hexec rfl (hb hbytes d16) rfl ?_
    refine XS.icmpYes X6.here hexec rfl (pc0 := 17) rfl (hb hbytes d17) rfl (ii_eq_t rfl) (by decide) rfl ?_
    refine XS.aloadN X6.here hexec rfl (hb hbytes d57) rfl rfl ?_
    exact Steps.refl _)
  have X8 := X6.wide (L' := []) (cells' := 1) (slots' := len) (fun x hx hlt => by
    simp only [List.nil_append, copyLocs, List.mem_map, List.mem_range] at hx
    obtain ⟨i, -, rfl⟩ := hx
    exact absurd hlt (Nat.lt_irrefl _)) (Nat.le_refl _) (by omega)
  exact ⟨T6, some (.ref s.heap.size), _, _, _, X8, rfl, rfl, rfl, (fun h => by cases h), ⟨⟨rfl, B6, ba3.like (X3.warmed.alike.symm.trans X6.warmed.alike) p6.1 f6.1 f6.2.1 f6.2.2.1, f6.2.1.trans bv3, by rw [X6.warmed.alike.findClass, f6.1]; exact bf3, by rw [f6.2.2.1, bs3]; simp, fun j hj => by rw [f6.2.2.2 j, if_pos (by omega)]; rfl, kp3.put p6 (Nat.le_refl _)⟩, by rw [p6.2.2, bh3, hh0]; simp⟩, fun fs hl => c8.trans (X8.areturnOut hexec rfl hret rfl (hb hbytes d58) hl)⟩
end Cmp3
namespace CodL
def yN : MethodName := ⟨"java/lang/StringUTF16", "coderFromArrayLen", "([BI)B"⟩
abbrev yB : ByteArray := jdk_52_method_15_code
theorem d0 : decode yB 0 = .ok (.iload_n 1, 1) := by decide +kernel
theorem d1 : decode yB 1 = .ok (.aload_n 0, 1) := by decide +kernel
theorem d2 : decode yB 2 = .ok (.arraylength, 1) := by decide +kernel
theorem d3 : decode yB 3 = .ok (.isub, 1) := by decide +kernel
theorem d4 : decode yB 4 = .ok (.bipush 31, 2) := by decide +kernel
theorem d6 : decode yB 6 = .ok (.iushr, 1) := by decide +kernel
theorem d7 : decode yB 7 = .ok (.i2b, 1) := by decide +kernel
theorem d8 : decode yB 8 = .ok (.ireturn, 1) := by decide +kernel
def site : List Cond := []
def tab : Cond := tabOf yN yB 2 (some .byte) site
def P (d : Addr) (B : Cell) (args : Array Value) (s : State) : Prop := args = #[.ref d, .int (Int32.ofNat B.slots.size)] ∧ Arr .byte d B s
def E (r : Option Value) (s u : State) : Prop := XT.PureE (some (.int 0)) r s u
/-- an array as long as the number of chars: LATIN1 -/
theorem law (l : Launch) (d : Addr) (B : Cell) : Law l yN 2 2 0 0 yB 2 (some .byte) site (P d B) E [] 0 0 := by
  refine Law.of_walk (plainFor_of_name (by decide +kernel)) (by decide +kernel) (by decide +kernel) (by decide) (fun _ _ h => by rw [h.1]; rfl) (fun _ U U' hal hh h => ⟨h.1, h.2.mv hal hh⟩) (fun r U U' V V' h1 hal h2 h => XT.PureE.mv r U U' V V' h1 hal h2 h) ?_
  intro p e s m args below meth c s₁ X0 hexec hbytes hml hret hlk hnm hown hh0 W hP
  obtain ⟨rfl, hB⟩ := hP
  have hB0 := hB.mv X0.warmed.alike hh0
  have c1 : Steps p.tables e below (s₁.setTop (entryFrame m #[.ref d, .int (Int32.ofNat B.slots.size)] 2)) (s₁.setTop (mkF m 0 #[.val (.ref d), .val (.int (Int32.ofNat B.slots.size))] [])) := entry rfl
  have c2 : Steps p.tables e below (s₁.setTop (entryFrame m #[.ref d, .int (Int32.ofNat B.slots.size)] 2)) (s₁.setTop (mkF m 2 #[.val (.ref d), .val (.int (Int32.ofNat B.slots.size))] [.ref d, .int (Int32.ofNat B.slots.size)])) := c1.trans (by
    refine XS.iloadN X0.here hexec rfl (hb hbytes d0) rfl ?_
    refine XS.aloadN X0.here hexec rfl (hb hbytes d1) rfl rfl ?_
    exact Steps.refl _)
  have c3 : Steps p.tables e below (s₁.setTop (entryFrame m #[.ref d, .int (Int32.ofNat B.slots.size)] 2)) (s₁.setTop (mkF m 8 #[.val (.ref d), .val (.int (Int32.ofNat B.slots.size))] [.int (lo8 (ushr (Int32.ofNat B.slots.size - Int32.ofNat B.slots.size) 31))])) := c2.trans (by
    refine X0.alen hexec hB0 rfl rfl (hb hbytes d2) ?_
    refine XS.isub X0.here hexec rfl (hb hbytes d3) rfl ?_
    refine bipushV X0.here hexec rfl 31 (hb hbytes d4) (by decide) ?_
    refine iushr X0.here hexec rfl (hb hbytes d6) rfl ?_
    refine i2b X0.here hexec rfl (hb hbytes d7) rfl ?_
    exact Steps.refl _)
  have e0 : lo8 (ushr (Int32.ofNat B.slots.size - Int32.ofNat B.slots.size) 31) = 0 := by rw [Int32.sub_self]; decide
  rw [e0] at c3
  exact ⟨s₁, some (.int 0), _, _, _, X0, rfl, rfl, rfl, (fun h => by cases h), ⟨rfl, hh0⟩, fun fs hl => c3.trans (X0.ireturnOut hexec hret rfl (Or.inr (Or.inr (Or.inl rfl))) (hb hbytes d8) hl)⟩
end CodL
/-- the String at a is Latin-1 over a new byte[] (the heap's one new cell): the low bytes of the len chars of A from o on; every cell but a is kept -/
def Got (a : Addr) (D : Cell) (fV fC : Field) (A : Cell) (o len : Nat) (r : Option Value) (s u : State) : Prop := r = none ∧ ∃ D' V : Cell, Blank "java/lang/String" a D' u ∧ Same D D' [fV.slot, fC.slot] ∧ D'.slots[fV.slot]? = some (.ref s.heap.size) ∧ D'.slots[fC.slot]? = some (.int 0) ∧ Arr .byte s.heap.size V u ∧ V.vm = .none ∧ u.vm.findClass "[B" = some V.cls ∧ V.slots.size = len ∧ (∀ j, j < len → V.slots[j]? = some (.int (lo8 (cv A (o + j))))) ∧ (∀ (y : Addr) (c : Cell), y ≠ a → s.heap[y]? = some c → u.heap[y]? = some c) ∧ u.heap.size = s.heap.size + 1
theorem Got.mv {a : Addr} {D A : Cell} {fV fC : Field} {o len : Nat} : ∀ r (U U' V V' : State), U'.heap = U.heap → V.vm.Alike V'.vm → V'.heap = V.heap → Got a D fV fC A o len r U V → Got a D fV fC A o len r U' V' :=
  fun r U U' V V' h1 hal h2 ⟨e0, D', X, a1, a2, a3, a4, a5, a6, a7, a8, a9, a10, a11⟩ => ⟨e0, D', X, a1.mv hal h2, a2, by rw [h1]; exact a3, a4, by rw [h1]; exact a5.mv hal h2, a6, by rw [hal.findClass]; exact a7, a8, a9, by rw [h1, h2]; exact a10, by rw [h1, h2]; exact a11⟩
namespace New4
def yN : MethodName := ⟨"java/lang/String", "<init>", "([CIILjava/lang/Void;)V"⟩
abbrev yB : ByteArray := jdk_42_method_149_code
theorem d0 : decode yB 0 = .ok (.aload_n 0, 1) := by decide +kernel
theorem d1 : decode yB 1 = .ok (.invokespecial 1, 3) := by decide +kernel
theorem d4 : decode yB 4 = .ok (.iload_n 3, 1) := by decide +kernel
theorem d5 : decode yB 5 = .ok (.ifCond (.ne) 22, 3) := by decide +kernel
theorem d27 : decode yB 27 = .ok (.getstatic 38, 3) := by decide +kernel
theorem d30 : decode yB 30 = .ok (.ifCond (.eq) 28, 3) := by decide +kernel
theorem d33 : decode yB 33 = .ok (.aload_n 1, 1) := by decide +kernel
theorem d34 : decode yB 34 = .ok (.iload_n 2, 1) := by decide +kernel
theorem d35 : decode yB 35 = .ok (.iload_n 3, 1) := by decide +kernel
theorem d36 : decode yB 36 = .ok (.invokestatic 177, 3) := by decide +kernel
theorem d39 : decode yB 39 = .ok (.astore 5, 2) := by decide +kernel
theorem d41 : decode yB 41 = .ok (.aload_n 0, 1) := by decide +kernel
theorem d42 : decode yB 42 = .ok (.aload 5, 2) := by decide +kernel
theorem d44 : decode yB 44 = .ok (.iload_n 3, 1) := by decide +kernel
theorem d45 : decode yB 45 = .ok (.invokestatic 47, 3) := by decide +kernel
theorem d48 : decode yB 48 = .ok (.putfield 15, 3) := by decide +kernel
theorem d51 : decode yB 51 = .ok (.aload_n 0, 1) := by decide +kernel
theorem d52 : decode yB 52 = .ok (.aload 5, 2) := by decide +kernel
theorem d54 : decode yB 54 = .ok (.putfield 9, 3) := by decide +kernel
theorem d57 : decode yB 57 = .ok (.return_, 1) := by decide +kernel
def site : List Cond := [.fieldLink "java/lang/String" 38 "java/lang/String" "COMPACT_STRINGS" "Z", Cmp3.tab, CodL.tab, .laysFinal "java/lang/String" "java/lang/String" "value" "[B", .fieldLink "java/lang/String" 9 "java/lang/String" "value" "[B", .laysFinal "java/lang/String" "java/lang/String" "coder" "B", .fieldLink "java/lang/String" 15 "java/lang/String" "coder" "B"] ++ objW "java/lang/String" 1 ++ staticW "java/lang/String" 177 Cmp3.yN ++ staticW "java/lang/String" 47 CodL.yN
def tab : Cond := tabOf yN yB 6 none site
def P (a : Addr) (D : Cell) (fV fC : Field) (b : Addr) (A : Cell) (z : Int32) (o len : Nat) (args : Array Value) (s : State) : Prop := args = #[.ref a, .ref b, .int (Int32.ofNat o), .int (Int32.ofNat len), .null] ∧ Blank "java/lang/String" a D s ∧ Found "java/lang/String" "value" "[B" fV s ∧ Found "java/lang/String" "coder" "B" fC s ∧ Ch b A s ∧ StaticIs s "java/lang/String" "COMPACT_STRINGS" "Z" (.int z) ∧ ¬ z = 0 ∧ 0 < len ∧ o + len ≤ A.slots.size ∧ len ≤ 536870912 ∧ ∀ i, i < len → ¬ 255 < cv A (o + i)
def E (a : Addr) (D : Cell) (fV fC : Field) (A : Cell) (o len : Nat) (r : Option Value) (s u : State) : Prop := Got a D fV fC A o len r s u
/-- len > 0, no char of the range above 255: a Latin-1 String of their low bytes -/
theorem law (l : Launch) (a : Addr) (D : Cell) (fV fC : Field) (b : Addr) (A : Cell) (z : Int32) (o len : Nat) : Law l yN 5 4 2 35 yB 6 none site (P a D fV fC b A z o len) (E a D fV fC A o len) [⟨a, fC.slot⟩, ⟨a, fV.slot⟩] 1 len := by
  refine Law.of_walk (plainFor_of_name (by decide +kernel)) (by decide +kernel) (by decide +kernel) (by decide) (fun _ _ h => by rw [h.1]; rfl) (fun _ U U' hal hh h => ⟨h.1, h.2.1.mv hal hh, h.2.2.1.al hal, h.2.2.2.1.al hal, h.2.2.2.2.1.mv hal hh, h.2.2.2.2.2.1.there hal hh, h.2.2.2.2.2.2⟩) (fun r U U' V V' h1 hal h2 h => Got.mv r U U' V V' h1 hal h2 h) ?_
  intro p e s m args below meth c s₁ X0 hexec hbytes hml hret hlk hnm hown hh0 W hP
  obtain ⟨rfl, hB, f1, f2, hA, s1, hz, l0, l1, l2, hp⟩ := hP
  have a31 := hA.1.2.2.2
  have c1 : Steps p.tables e below (s₁.setTop (entryFrame m #[.ref a, .ref b, .int (Int32.ofNat o), .int (Int32.ofNat len), .null] 6)) (s₁.setTop (mkF m 0 #[.val (.ref a), .val (.ref b), .val (.int (Int32.ofNat o)), .val (.int (Int32.ofNat len)), .val .null, .unset] [])) := entry rfl
  have c2 : Steps p.tables e below (s₁.setTop (entryFrame m #[.ref a, .ref b, .int (Int32.ofNat o), .int (Int32.ofNat len), .null] 6)) (s₁.setTop (mkF m 1 #[.val (.ref a), .val (.ref b), .val (.int (Int32.ofNat o)), .val (.int (Int32.ofNat len)), .val .null, .unset] [.ref a])) := c1.trans (by
    refine XS.aloadN X0.here hexec rfl (hb hbytes d0) rfl rfl ?_
    exact Steps.refl _)
  obtain ⟨T3, X3, q3, st3⟩ := X0.oinit hexec hown (wks W (objW "java/lang/String" 1)) (g := (mkF m 1 #[.val (.ref a), .val (.ref b), .val (.int (Int32.ofNat o)), .val (.int (Int32.ofNat len)), .val .null, .unset] [.ref a])) rfl (by rw [hml]; rfl) (rest := []) rfl (hb hbytes d1) (W := 0) (by show 2 * 0 + 0 ≤ _; decide) (Nat.le_of_ble_eq_true rfl) (Nat.le_of_ble_eq_true rfl)
  have hh3 := q3.trans hh0
  have c4 : Steps p.tables e below (s₁.setTop (entryFrame m #[.ref a, .ref b, .int (Int32.ofNat o), .int (Int32.ofNat len), .null] 6)) (T3.setTop (mkF m 27 #[.val (.ref a), .val (.ref b), .val (.int (Int32.ofNat o)), .val (.int (Int32.ofNat len)), .val .null, .unset] [])) := (c2.trans (st3 _ (Steps.refl _))).trans (by
    refine XS.iloadN X3.here hexec rfl (hb hbytes d4) rfl ?_
    refine XS.ifYes X3.here hexec rfl (pc0 := 5) rfl (hb hbytes d5) rfl (i0_ne_t (nz32 (by omega) l0)) (by decide) rfl ?_
    exact Steps.refl _)
  obtain ⟨T5, X5, q5, st5⟩ := X3.sget hexec hown (wk W (.fieldLink "java/lang/String" 38 "java/lang/String" "COMPACT_STRINGS" "Z")) s1 (fun _ _ h => by rw [hh3]; exact h) (g := (mkF m 27 #[.val (.ref a), .val (.ref b), .val (.int (Int32.ofNat o)), .val (.int (Int32.ofNat len)), .val .null, .unset] [])) rfl (hb hbytes d27)
  have hh5 := q5.trans hh3
  have c6 : Steps p.tables e below (s₁.setTop (entryFrame m #[.ref a, .ref b, .int (Int32.ofNat o), .int (Int32.ofNat len), .null] 6)) (T5.setTop (mkF m 30 #[.val (.ref a), .val (.ref b), .val (.int (Int32.ofNat o)), .val (.int (Int32.ofNat len)), .val .null, .unset] [.int z])) := c4.trans (st5 _ (Steps.refl _))
  have c7 : Steps p.tables e below (s₁.setTop (entryFrame m #[.ref a, .ref b, .int (Int32.ofNat o), .int (Int32.ofNat len), .null] 6)) (T5.setTop (mkF m 36 #[.val (.ref a), .val (.ref b), .val (.int (Int32.ofNat o)), .val (.int (Int32.ofNat len)), .val .null, .unset] [.int (Int32.ofNat len), .int (Int32.ofNat o), .ref b])) := c6.trans (by
    refine XS.ifNo X5.here hexec rfl (hb hbytes d30) rfl (i0_eq_f hz) ?_
    refine XS.aloadN X5.here hexec rfl (hb hbytes d33) rfl rfl ?_
    refine XS.iloadN X5.here hexec rfl (hb hbytes d34) rfl ?_
    refine XS.iloadN X5.here hexec rfl (hb hbytes d35) rfl ?_
    exact Steps.refl _)
  obtain ⟨v8, T8, X8, E8, g8⟩ := X5.callS hexec (Cmp3.law l b A o len) hown (wks W (staticW "java/lang/String" 177 Cmp3.yN)) (wk W Cmp3.tab) (W := 0) (Nat.le_of_ble_eq_true rfl) (Nat.le_of_ble_eq_true rfl) (Nat.le_refl _) (by show 0 + len ≤ len; omega) (g := (mkF m 36 #[.val (.ref a), .val (.ref b), .val (.int (Int32.ofNat o)), .val (.int (Int32.ofNat len)), .val .null, .unset] [.int (Int32.ofNat len), .int (Int32.ofNat o), .ref b])) rfl (by rw [hml]; rfl) c7 (argsL := [.ref b, .int (Int32.ofNat o), .int (Int32.ofNat len)]) (rest := []) rfl rfl (by show 2 * 0 + 0 ≤ _; decide) (hb hbytes d36) (⟨rfl, hA.mv X5.warmed.alike hh5, l1, l2, hp⟩)
  obtain ⟨e8, z8⟩ := E8
  obtain ⟨rfl, N, n1, n2, n3, n4, n5, n6⟩ := NewArr.mv _ T5 s _ _ hh5.symm (Vm.Alike.refl _) rfl e8
  rw [hh5] at z8
  have hB1 := hB.keep X8.warmed.alike (n6 _ _ hB.1)
  have hne : s.heap.size ≠ a := (Nat.ne_of_lt (Array.getElem?_eq_some_iff.mp hB.1).1).symm
  have c9 : Steps p.tables e below (s₁.setTop (entryFrame m #[.ref a, .ref b, .int (Int32.ofNat o), .int (Int32.ofNat len), .null] 6)) (T8.setTop (mkF m 39 #[.val (.ref a), .val (.ref b), .val (.int (Int32.ofNat o)), .val (.int (Int32.ofNat len)), .val .null, .unset] [.ref s.heap.size])) := g8
  have c10 : Steps p.tables e below (s₁.setTop (entryFrame m #[.ref a, .ref b, .int (Int32.ofNat o), .int (Int32.ofNat len), .null] 6)) (T8.setTop (mkF m 45 #[.val (.ref a), .val (.ref b), .val (.int (Int32.ofNat o)), .val (.int (Int32.ofNat len)), .val .null, .val (.ref s.heap.size)] [.int (Int32.ofNat N.slots.size), .ref s.heap.size, .ref a])) := by
    have hc : Steps p.tables e below (s₁.setTop (entryFrame m #[.ref a, .ref b, .int (Int32.ofNat o), .int (Int32.ofNat len), .null] 6)) (T8.setTop (mkF m 45 #[.val (.ref a), .val (.ref b), .val (.int (Int32.ofNat o)), .val (.int (Int32.ofNat len)), .val .null, .val (.ref s.heap.size)] [.int (Int32.ofNat len), .ref s.heap.size, .ref a])) := c9.trans (by
      refine XS.astore X8.here hexec rfl (hb hbytes d39) rfl rfl rfl ?_
      refine XS.aloadN X8.here hexec rfl (hb hbytes d41) rfl rfl ?_
      refine XS.aload X8.here hexec rfl (hb hbytes d42) rfl rfl ?_
      refine XS.iloadN X8.here hexec rfl (hb hbytes d44) rfl ?_
      exact Steps.refl _)
    rw [n4]; exact hc
  obtain ⟨v11, T11, X11, E11, g11⟩ := X8.callS hexec (CodL.law l s.heap.size N) hown (wks W (staticW "java/lang/String" 47 CodL.yN)) (wk W CodL.tab) (W := 1) (Nat.le_of_ble_eq_true rfl) (Nat.le_of_ble_eq_true rfl) (Nat.le_refl _) (by show 0 + len + 0 ≤ len; omega) (g := (mkF m 45 #[.val (.ref a), .val (.ref b), .val (.int (Int32.ofNat o)), .val (.int (Int32.ofNat len)), .val .null, .val (.ref s.heap.size)] [.int (Int32.ofNat N.slots.size), .ref s.heap.size, .ref a])) rfl (by rw [hml]; rfl) c10 (argsL := [.ref s.heap.size, .int (Int32.ofNat N.slots.size)]) (rest := [.ref a]) rfl rfl (by show 2 * 0 + (1 + 0) ≤ _; decide) (hb hbytes d45) (⟨rfl, n1⟩)
  obtain ⟨rfl, q11⟩ := E11
  have hB11 := hB1.mv (X8.warmed.alike.symm.trans X11.warmed.alike) q11
  have c12 : Steps p.tables e below (s₁.setTop (entryFrame m #[.ref a, .ref b, .int (Int32.ofNat o), .int (Int32.ofNat len), .null] 6)) (T11.setTop (mkF m 48 #[.val (.ref a), .val (.ref b), .val (.int (Int32.ofNat o)), .val (.int (Int32.ofNat len)), .val .null, .val (.ref s.heap.size)] [.int 0, .ref a])) := g11
  obtain ⟨T13, X13, p13, bl13, sl13, st13⟩ := X11.finit hexec hown (wk W (.fieldLink "java/lang/String" 15 "java/lang/String" "coder" "B")) (Or.inr ⟨_, (wk W (.laysFinal "java/lang/String" "java/lang/String" "coder" "B"))⟩) (Or.inl ⟨rfl, hnm⟩) f2 (Or.inl rfl) hB11 (t := .byte) (by decide +kernel) rfl (g := (mkF m 48 #[.val (.ref a), .val (.ref b), .val (.int (Int32.ofNat o)), .val (.int (Int32.ofNat len)), .val .null, .val (.ref s.heap.size)] [.int 0, .ref a])) rfl (rest := []) rfl (hb hbytes d48)
  have c14 : Steps p.tables e below (s₁.setTop (entryFrame m #[.ref a, .ref b, .int (Int32.ofNat o), .int (Int32.ofNat len), .null] 6)) (T13.setTop (mkF m 54 #[.val (.ref a), .val (.ref b), .val (.int (Int32.ofNat o)), .val (.int (Int32.ofNat len)), .val .null, .val (.ref s.heap.size)] [.ref s.heap.size, .ref a])) := (c12.trans (st13 _ (Steps.refl _))).trans (by
    refine XS.aloadN X13.here hexec rfl (hb hbytes d51) rfl rfl ?_
    refine XS.aload X13.here hexec rfl (hb hbytes d52) rfl rfl ?_
    exact Steps.refl _)
  obtain ⟨T15, X15, p15, bl15, sl15, st15⟩ := X13.finit hexec hown (wk W (.fieldLink "java/lang/String" 9 "java/lang/String" "value" "[B")) (Or.inr ⟨_, (wk W (.laysFinal "java/lang/String" "java/lang/String" "value" "[B"))⟩) (Or.inl ⟨rfl, hnm⟩) f1 (Or.inl rfl) bl13 (t := (.array .byte)) (by decide +kernel) rfl (g := (mkF m 54 #[.val (.ref a), .val (.ref b), .val (.int (Int32.ofNat o)), .val (.int (Int32.ofNat len)), .val .null, .val (.ref s.heap.size)] [.ref s.heap.size, .ref a])) rfl (rest := []) rfl (hb hbytes d54)
  have c16 : Steps p.tables e below (s₁.setTop (entryFrame m #[.ref a, .ref b, .int (Int32.ofNat o), .int (Int32.ofNat len), .null] 6)) (T15.setTop (mkF m 57 #[.val (.ref a), .val (.ref b), .val (.int (Int32.ofNat o)), .val (.int (Int32.ofNat len)), .val .null, .val (.ref s.heap.size)] [])) := c14.trans (st15 _ (Steps.refl _))
  have ap := apart (Or.inr ⟨_, (wk W (.laysFinal "java/lang/String" "java/lang/String" "value" "[B"))⟩) (Or.inr ⟨_, (wk W (.laysFinal "java/lang/String" "java/lang/String" "coder" "B"))⟩) f1 f2 (t₁ := .array .byte) (t₂ := .byte) (by decide +kernel) (by decide +kernel) (by decide)
  have al := X8.warmed.alike.symm.trans X15.warmed.alike
  have n7 : T11.heap[s.heap.size]? = some N := by rw [q11]; exact n1.1
  exact ⟨T15, none, _, _, _, X15, by simp, rfl, by omega, (fun _ => rfl), ⟨rfl, _, N, bl15, ((Same.refl D _).set _ (by simp)).set _ (by simp), sl15, (Cell.slots_setSlot_ne _ ap).trans sl13, n1.keep al (p15.other hne (p13.other hne n7)), n2, by rw [al.findClass]; exact n3, n4, n5, fun y c h1 h2 => p15.other h1 (p13.other h1 (by rw [q11]; exact n6 y c h2)), by rw [p15.2.2, p13.2.2, q11]; exact z8⟩, fun fs hl => c16.trans (X15.returnOut hexec hret (hb hbytes d57) hl)⟩
end New4
namespace New1
def yN : MethodName := ⟨"java/lang/String", "<init>", "([C)V"⟩
abbrev yB : ByteArray := jdk_42_method_3_code
theorem d0 : decode yB 0 = .ok (.aload_n 0, 1) := by decide +kernel
theorem d1 : decode yB 1 = .ok (.aload_n 1, 1) := by decide +kernel
theorem d2 : decode yB 2 = .ok (.iconst 0, 1) := by decide +kernel
theorem d3 : decode yB 3 = .ok (.aload_n 1, 1) := by decide +kernel
theorem d4 : decode yB 4 = .ok (.arraylength, 1) := by decide +kernel
theorem d5 : decode yB 5 = .ok (.aconst_null, 1) := by decide +kernel
theorem d6 : decode yB 6 = .ok (.invokespecial 27, 3) := by decide +kernel
theorem d9 : decode yB 9 = .ok (.return_, 1) := by decide +kernel
def site : List Cond := [New4.tab] ++ initW "java/lang/String" 27 New4.yN
def tab : Cond := tabOf yN yB 2 none site
def P (a : Addr) (D : Cell) (fV fC : Field) (b : Addr) (A : Cell) (z : Int32) (args : Array Value) (s : State) : Prop := args = #[.ref a, .ref b] ∧ Blank "java/lang/String" a D s ∧ Found "java/lang/String" "value" "[B" fV s ∧ Found "java/lang/String" "coder" "B" fC s ∧ Ch b A s ∧ StaticIs s "java/lang/String" "COMPACT_STRINGS" "Z" (.int z) ∧ ¬ z = 0 ∧ 0 < A.slots.size ∧ A.slots.size ≤ 536870912 ∧ ∀ i, i < A.slots.size → ¬ 255 < cv A i
def E (a : Addr) (D : Cell) (fV fC : Field) (A : Cell) (r : Option Value) (s u : State) : Prop := Got a D fV fC A 0 A.slots.size r s u
/-- new String(chars), not empty, no char above 255: a Latin-1 String of their low bytes -/
theorem law (l : Launch) (a : Addr) (D : Cell) (fV fC : Field) (b : Addr) (A : Cell) (z : Int32) : Law l yN 2 1 3 52 yB 2 none site (P a D fV fC b A z) (E a D fV fC A) [⟨a, fC.slot⟩, ⟨a, fV.slot⟩] 1 A.slots.size := by
  refine Law.of_walk (plainFor_of_name (by decide +kernel)) (by decide +kernel) (by decide +kernel) (by decide) (fun _ _ h => by rw [h.1]; rfl) (fun _ U U' hal hh h => ⟨h.1, h.2.1.mv hal hh, h.2.2.1.al hal, h.2.2.2.1.al hal, h.2.2.2.2.1.mv hal hh, h.2.2.2.2.2.1.there hal hh, h.2.2.2.2.2.2⟩) (fun r U U' V V' h1 hal h2 h => Got.mv r U U' V V' h1 hal h2 h) ?_
  intro p e s m args below meth c s₁ X0 hexec hbytes hml hret hlk hnm hown hh0 W hP
  obtain ⟨rfl, hB, f1, f2, hA, s1, hz, l0, l2, hp⟩ := hP
  have c1 : Steps p.tables e below (s₁.setTop (entryFrame m #[.ref a, .ref b] 2)) (s₁.setTop (mkF m 0 #[.val (.ref a), .val (.ref b)] [])) := entry rfl
  have c2 : Steps p.tables e below (s₁.setTop (entryFrame m #[.ref a, .ref b] 2)) (s₁.setTop (mkF m 6 #[.val (.ref a), .val (.ref b)] [.null, .int (Int32.ofNat A.slots.size), .int 0, .ref b, .ref a])) := c1.trans (by
    refine XS.aloadN X0.here hexec rfl (hb hbytes d0) rfl rfl ?_
    refine XS.aloadN X0.here hexec rfl (hb hbytes d1) rfl rfl ?_
    refine iconstV X0.here hexec rfl 0 (hb hbytes d2) (by decide) ?_
    refine XS.aloadN X0.here hexec rfl (hb hbytes d3) rfl rfl ?_
    refine X0.alen hexec (hA.1.mv X0.warmed.alike hh0) rfl rfl (hb hbytes d4) ?_
    refine XS.aconstNull X0.here hexec rfl (hb hbytes d5) ?_
    exact Steps.refl _)
  obtain ⟨v3, T3, X3, E3, g3⟩ := X0.callN hexec (New4.law l a D fV fC b A z 0 A.slots.size) rfl hown (wks W (initW "java/lang/String" 27 New4.yN)) (W New4.tab (by simp only [site, List.mem_cons, List.mem_append, true_or, or_true])) (W := 0) (Nat.le_of_ble_eq_true rfl) (Nat.le_of_ble_eq_true rfl) (Nat.le_refl _) (by show 0 + A.slots.size ≤ A.slots.size; omega) (g := (mkF m 6 #[.val (.ref a), .val (.ref b)] [.null, .int (Int32.ofNat A.slots.size), .int (Int32.ofNat 0), .ref b, .ref a])) rfl (by rw [hml]; rfl) c2 (argsL := [.ref b, .int (Int32.ofNat 0), .int (Int32.ofNat A.slots.size), .null]) (rest := []) rfl rfl (by show 2 * 0 + 0 ≤ _; decide) (hb hbytes d6) (⟨rfl, hB.mv X0.warmed.alike hh0, f1.al X0.warmed.alike, f2.al X0.warmed.alike, hA.mv X0.warmed.alike hh0, s1.there X0.warmed.alike hh0, hz, l0, by omega, l2, fun i hi => by rw [Nat.zero_add]; exact hp i hi⟩)
  have e0 := Got.mv _ s₁ s _ _ hh0.symm (Vm.Alike.refl _) rfl E3
  obtain rfl := e0.1
  have c4 : Steps p.tables e below (s₁.setTop (entryFrame m #[.ref a, .ref b] 2)) (T3.setTop (mkF m 9 #[.val (.ref a), .val (.ref b)] [])) := g3
  exact ⟨T3, none, _, _, _, X3, by simp, rfl, by omega, (fun _ => rfl), e0, fun fs hl => c4.trans (X3.returnOut hexec hret (hb hbytes d9) hl)⟩
theorem pays {l : Launch} {R : Room} {p : Program} {e : Env} {below : List Frame} {s : State} {sargs : Array Value} {len W : Nat} (a : Addr) (D : Cell) (fV fC : Field) (b : Addr) (A : Cell) (z : Int32) (htab : tab.before sargs s = true) (hfr : 4 ≤ R.frames) (hlo : W + 65 ≤ R.locals) :
    Back l R p e below s sargs yN len W (fun A₁ a₁ => A₁.cells + 1 ≤ R.cells ∧ A₁.slots + A.slots.size ≤ R.slots ∧ P a D fV fC b A z a₁ A₁.U) (fun A₁ _ v₁ B₁ => E a D fV fC A v₁ A₁.U B₁.U ∧ B₁.locs = A₁.locs ++ [⟨a, fC.slot⟩, ⟨a, fV.slot⟩] ∧ B₁.cells = A₁.cells + 1 ∧ B₁.slots = A₁.slots + A.slots.size) :=
  (law l a D fV fC b A z).pays htab hfr (by omega)
end New1
end StrChars
namespace StrChars.Road
open Jvm Sem ClassFile Op Lib Jvm.Stand Jvm.Free Jvm.Free.XT
open Jvm.Lib.Cold (StaticIs)
abbrev ST : String := "java/lang/String"
/-- every table word that New1's law asks, flat -/
abbrev words : List Jvm.Cond := [.code New1.yN New1.yB 2 none, .initialized ST, .methodLink ST 27 New4.yN, .instanceMethod New4.yN,
  .code New4.yN New4.yB 6 none, .fieldLink ST 38 ST "COMPACT_STRINGS" "Z", .laysFinal ST ST "value" "[B", .fieldLink ST 9 ST "value" "[B", .laysFinal ST ST "coder" "B", .fieldLink ST 15 ST "coder" "B",
  .methodLink ST 1 Lib.objectInit, .instanceMethod Lib.objectInit, .code Lib.objectInit ⟨#[0xb1]⟩ 1 none, .methodLink ST 177 Cmp3.yN, .static Cmp3.yN, .methodLink ST 47 CodL.yN, .static CodL.yN,
  .code Cmp3.yN Cmp3.yB 6 (some (.array .byte)), .initialized U16, .arrayClass .byte, .methodLink U16 115 Cmp5.yN, .static Cmp5.yN, .code Cmp5.yN Cmp5.yB 7 (some .int), .code CodL.yN CodL.yB 2 (some .byte)]
theorem tab_of {a : Array Value} {s : State} (h : ∀ w ∈ words, w.before a s = true) : New1.tab.before a s = true := by
  have h5 : Cmp5.tab.before a s = true := unparts (wk h (.code Cmp5.yN Cmp5.yB 7 (some .int))) (wks h (.initialized Cmp5.yN.cls :: Cmp5.site))
  have hc : CodL.tab.before a s = true := unparts (wk h (.code CodL.yN CodL.yB 2 (some .byte))) (wks h (.initialized CodL.yN.cls :: CodL.site))
  have q5 : ∀ w ∈ Cmp5.tab :: words, w.before a s = true := fun w hw => (List.mem_cons.mp hw).elim (fun e => e ▸ h5) (h w)
  have h3 : Cmp3.tab.before a s = true := unparts (wk q5 (.code Cmp3.yN Cmp3.yB 6 (some (.array .byte)))) (wks q5 (.initialized Cmp3.yN.cls :: Cmp3.site))
  have q3 : ∀ w ∈ Cmp3.tab :: CodL.tab :: words, w.before a s = true := fun w hw => (List.mem_cons.mp hw).elim (fun e => e ▸ h3) fun hw => (List.mem_cons.mp hw).elim (fun e => e ▸ hc) (h w)
  have h4 : New4.tab.before a s = true := unparts (wk q3 (.code New4.yN New4.yB 6 none)) (wks q3 (.initialized New4.yN.cls :: New4.site))
  have q4 : ∀ w ∈ New4.tab :: words, w.before a s = true := fun w hw => (List.mem_cons.mp hw).elim (fun e => e ▸ h4) (h w)
  exact unparts (wk q4 (.code New1.yN New1.yB 2 none)) (wks q4 (.initialized New1.yN.cls :: New1.site))
/-- the words ride from the start Z to the walk's own state -/
theorem moved {Z s : State} {a0 args : Array Value} (hZ : Z.Warmed39 s.vm) (hw : ∀ d ∈ words, d.before a0 Z = true) : ∀ d ∈ words, d.before args s = true := fun d hd => by
  have q := hw d hd
  have t : ∀ d ∈ words, d = .arrayClass .byte ∨ (d.onTables && d.keepsFace) = true := by decide +kernel
  rcases t d hd with rfl | t
  · exact RoadKit.mvA hZ q
  · exact RoadKit.mv hZ q t
/-- WHAT COMES BACK, over the tables of the start Z: h the heap at the call, h' behind it -/
def Q (Z : State) (x : Addr) (A : Cell) (h : Heap) (v : Option Value) (h' : Heap) (L : List Loc) : Prop := v = none ∧ (∀ y ∈ L, y.base = x) ∧ RoadKit.Keep h h' [x] ∧ h'.size = h.size + 1 ∧ RoadKit.Exa Z h' x ST ∧ RoadKit.Fld Z h' x ST "value" "[B" (.ref h.size) ∧ RoadKit.Fld Z h' x ST "coder" "B" (.int 0) ∧
  (∃ V : Cell, RoadKit.Arr Z h' h.size V .byte ∧ V.vm = .none ∧ Z.vm.findClass "[B" = some V.cls ∧ V.slots.size = A.slots.size ∧ ∀ j, j < A.slots.size → V.slots[j]? = some (.int (lo8 (cv A j)))) ∧
  ∀ (O n d : String) (w : Value), RoadKit.Fld Z h x O n d w → RoadKit.slotOf Z O n d ≠ RoadKit.slotOf Z ST "value" "[B" → RoadKit.slotOf Z O n d ≠ RoadKit.slotOf Z ST "coder" "B" → RoadKit.Fld Z h' x O n d w
/-- **new String(chars) AT A CALL, IN THE ROAD'S FORM**: for specialBack behind newO: x the fresh String, b the char[] with the cell A -/
theorem back {p : Program} {l : Launch} {e : Env} {R : Room} {s : State} {args : Array Value} {below : List Frame} {len W : Nat} {Z : State} {a0 : Array Value} {h : Heap} (hZ : Z.Warmed39 s.vm) (hw : ∀ d ∈ words, d.before a0 Z = true) {kI : Nat} (wi : (Jvm.Cond.instantiable ST kI).before a0 Z = true)
    {x b : Addr} {A : Cell} {z : Int32} {v0 c0 : Value} (E : RoadKit.Exa Z h x ST) (V : RoadKit.Fld Z h x ST "value" "[B" v0) (C : RoadKit.Fld Z h x ST "coder" "B" c0) (K : RoadKit.Arr Z h b A .char) (hty : Typed .char A) (S : RoadKit.Sta Z h ST "COMPACT_STRINGS" "Z" (.int z)) (hz : ¬ z = 0)
    (l0 : 0 < A.slots.size) (l2 : A.slots.size ≤ 536870912) (hp : ∀ i, i < A.slots.size → ¬ 255 < cv A i) (hfr : 4 ≤ R.frames) (hlo : W + 65 ≤ R.locals) :
    Back l R p e below s args New1.yN len W (fun P a => a = #[.ref x, .ref b] ∧ P.U.heap = h ∧ P.cells + 1 ≤ R.cells ∧ P.slots + A.slots.size ≤ R.slots)
      (fun P _ v B => ∃ L, Q Z x A h v B.U.heap L ∧ B.locs = P.locs ++ L ∧ B.cells = P.cells + 1 ∧ B.slots = P.slots + A.slots.size) := by
  intro m meth c P g ig mk a X hg hsize hdg hW hn hp'
  obtain ⟨rfl, rfl, r1, r2⟩ := hp'
  have al : Z.vm.Alike P.U.vm := hZ.alike.trans X.warmed.alike
  obtain ⟨D, cfV, kV, iV, fV, hD, gV, stV, knV, obV, asV, slV⟩ := id V
  obtain ⟨D', cfC, kC, iC, fC, hD', gC, stC, -, -, asC, slC⟩ := id C
  cases hD.symm.trans hD'
  obtain ⟨D2, kD, e1, e2, e3, e4, e5⟩ := id E
  cases hD.symm.trans e1
  obtain ⟨c2, k2, i1, i2, i3, -⟩ := Cond.instantiable_spec wi
  cases e2.symm.trans i1
  cases e3.symm.trans i2
  obtain ⟨kU, u1, u2⟩ := al.2.2 _ _ e3
  have hB : Blank ST x D P.U := ⟨hD, ⟨knV, fun q hq => by rw [hq] at obV; cases obV⟩, by rw [al.findClass]; exact e2, kU, u1, by rw [u2]; exact i3, by rw [u2]; exact e5 i3⟩
  have F1 : Found ST "value" "[B" fV P.U := ⟨SBG.found_only al ⟨cfV, kV, iV, gV⟩, stV⟩
  have F2 : Found ST "coder" "B" fC P.U := ⟨SBG.found_only al ⟨cfC, kC, iC, gC⟩, stC⟩
  have hA : Ch b A P.U := ⟨⟨K.1, State.isArrayOf_alike al K.2.1, K.2.2, by omega⟩, hty⟩
  have hS : StaticIs P.U ST "COMPACT_STRINGS" "Z" (.int z) := by
    obtain ⟨cfS, iS, kS, fS, st, cS, t1, t2, t3, t4, t5, t6, t7⟩ := S
    exact StaticIs.there (s := { Z with heap := P.U.heap }) ⟨cfS, iS, kS, fS, st, cS, t1, t2, t3, t4, t5, (fun q => by rw [q] at t6; cases t6), t7⟩ al rfl
  obtain ⟨v, B, X', ⟨⟨hv, E', V', q1, q2, q3, q4, q5, q6, q7, q8, q9, q10, q11⟩, hl, hc, hs⟩, st⟩ := New1.pays x D fV fC b A z (tab_of (moved hZ hw)) hfr hlo m meth c P g ig mk _ X hg hsize hdg hW hn ⟨r1, r2, rfl, hB, F1, F2, hA, hS, hz, l0, l2, hp⟩
  have al' : Z.vm.Alike B.U.vm := hZ.alike.trans X'.warmed.alike
  have hsz : E'.slots.size = D.slots.size := by
    obtain ⟨-, -, -, kB, w1, w2, w3⟩ := q1
    obtain ⟨kB', y1, y2⟩ := al'.2.2 _ _ e3
    rw [q2.2.1] at w1
    cases w1.symm.trans y1
    rw [w3, e5 i3, y2]
  refine ⟨v, B, X', ⟨_, ⟨hv, ?_, ⟨by omega, fun y cy hy hn' => q10 y cy (by simpa using hn') hy, fun y cy hy => ?_⟩, q11, ⟨E', _, q1.1, by rw [q2.2.1]; exact e2, by rw [q2.2.1]; exact e3, by rw [q2.1]; exact obV, fun _ => by rw [hsz]; exact e5 i3⟩,
    ⟨E', cfV, kV, iV, fV, q1.1, gV, stV, by rw [q2.1]; exact knV, by rw [q2.1]; exact obV, by rw [q2.2.1]; exact asV, q3⟩, ⟨E', cfC, kC, iC, fC, q1.1, gC, stC, by rw [q2.1]; exact knV, by rw [q2.1]; exact obV, by rw [q2.2.1]; exact asC, q4⟩,
    ⟨V', ⟨q5.1, State.isArrayOf_alike al'.symm q5.2.1, q5.2.2.1⟩, q6, by rw [← al'.findClass]; exact q7, q8, fun j hj => by have := q9 j hj; rwa [Nat.zero_add] at this⟩, fun O n d w F n1 n2 => ?_⟩, hl, hc, hs⟩, st⟩
  · intro y hy
    simp only [List.mem_cons, List.not_mem_nil, or_false] at hy
    rcases hy with rfl | rfl <;> rfl
  · by_cases q : y = x
    · subst q
      cases hD.symm.trans hy
      exact ⟨E', q1.1, q2.2.1, q2.1, hsz⟩
    · exact ⟨cy, q10 y cy q hy, rfl, rfl, rfl⟩
  · obtain ⟨D3, cf, k, i, f, g1, g2, g3, g4, g5, g6, g7⟩ := F
    cases hD.symm.trans g1
    simp only [RoadKit.slotOf, g2, gV, gC, Option.map_some, Option.getD_some] at n1 n2
    exact ⟨E', cf, k, i, f, q1.1, g2, g3, by rw [q2.1]; exact g4, by rw [q2.1]; exact g5, by rw [q2.2.1]; exact g6, by rw [q2.2.2 f.slot (by simp [n1, n2])]; exact g7⟩
end StrChars.Road
namespace StrChars.Road
open Jvm Sem ClassFile Op Lib Jvm.Stand Jvm.Free Jvm.Free.XT
/-- WHAT COMES BACK, the byte[] as a list of values -/
def QA (Z : State) (x : Addr) (zn : Int32) (cs : List Int32) (h : Heap) (v : Option Value) (h' : Heap) (L : List Loc) : Prop := v = none ∧ (∀ y ∈ L, y.base = x) ∧ RoadKit.Keep h h' [x] ∧ h'.size = h.size + 1 ∧ RoadKit.Exa Z h' x ST ∧ RoadKit.Fld Z h' x ST "value" "[B" (.ref h.size) ∧ RoadKit.Fld Z h' x ST "coder" "B" (.int 0) ∧
  (∃ kb, Z.vm.findClass "[B" = some kb ∧ RoadKit.Arv Z h' h.size kb .byte zn (cs.map fun c => .int (lo8 c)) (.int 0)) ∧
  ∀ (O n d : String) (w : Value), RoadKit.Fld Z h x O n d w → RoadKit.slotOf Z O n d ≠ RoadKit.slotOf Z ST "value" "[B" → RoadKit.slotOf Z O n d ≠ RoadKit.slotOf Z ST "coder" "B" → RoadKit.Fld Z h' x O n d w
/-- **new String(chars) AT A CALL, THE ARRAYS AS LISTS**: the char[] at b holds cs, not empty, no char above 255 -/
theorem backArv {p : Program} {l : Launch} {e : Env} {R : Room} {s : State} {args : Array Value} {below : List Frame} {len W : Nat} {Z : State} {a0 : Array Value} {h : Heap} (hZ : Z.Warmed39 s.vm) (hw : ∀ d ∈ words, d.before a0 Z = true) {kI : Nat} (wi : (Jvm.Cond.instantiable ST kI).before a0 Z = true)
    {x b : Addr} {k : ClassId} {zn z : Int32} {cs : List Int32} {dv v0 c0 : Value} (E : RoadKit.Exa Z h x ST) (V : RoadKit.Fld Z h x ST "value" "[B" v0) (C : RoadKit.Fld Z h x ST "coder" "B" c0) (K : RoadKit.Arv Z h b k .char zn (cs.map Value.int) dv) (S : RoadKit.Sta Z h ST "COMPACT_STRINGS" "Z" (.int z)) (hz : ¬ z = 0)
    (hlen : zn.toNatClampNeg = cs.length) (h0 : 0 < cs.length) (hbig : cs.length ≤ 536870912) (hall : ∀ c ∈ cs, ¬ 255 < c) (hfr : 4 ≤ R.frames) (hlo : W + 65 ≤ R.locals) :
    Back l R p e below s args New1.yN len W (fun P a => a = #[.ref x, .ref b] ∧ P.U.heap = h ∧ P.cells + 1 ≤ R.cells ∧ P.slots + cs.length ≤ R.slots)
      (fun P _ v B => ∃ L, QA Z x zn cs h v B.U.heap L ∧ B.locs = P.locs ++ L ∧ B.cells = P.cells + 1 ∧ B.slots = P.slots + cs.length) := by
  obtain ⟨A, K1, K2, K3, K4, K5, K6⟩ := K
  have e : A.slots.size = cs.length := K3.trans hlen
  have hat : ∀ (i : Nat) (hi : i < cs.length), A.slots[i]? = some (.int cs[i]) := fun i hi => by rw [K5 i (by omega)]; simp [List.getD_eq_getElem?_getD, hi]
  have hcv : ∀ (i : Nat) (hi : i < cs.length), cv A i = cs[i] := fun i hi => by unfold cv; rw [hat i hi]
  have hty : Typed .char A := fun i v hv => by
    have hi : i < A.slots.size := (Array.getElem?_eq_some_iff.mp hv).1
    have q := K5 i hi
    rw [hv] at q
    rw [Option.some.inj q]
    exact K6 i hi
  refine Back.mono (back hZ hw wi E V C K1 hty S hz (by omega) (by omega) (fun i hi => by rw [hcv i (by omega)]; exact hall _ (List.getElem_mem _)) hfr hlo) (fun P a hp => ⟨hp.1, hp.2.1, hp.2.2.1, by rw [e]; exact hp.2.2.2⟩) (fun P a v B hp hq => ?_)
  obtain ⟨L, ⟨q1, q2, q3, q4, q5, q6, q7, ⟨V', v1, v2, v3, v4, v5⟩, q9⟩, hl, hc, hs⟩ := hq
  refine ⟨L, ⟨q1, q2, q3, q4, q5, q6, q7, ⟨V'.cls, v3, V', v1, rfl, by rw [v4, e, hlen], K4, fun i hi => ?_, fun i hi => ?_⟩, q9⟩, hl, hc, by rw [hs, e]⟩
  · have hi' : i < cs.length := by omega
    rw [v5 i (by omega), hcv i hi']; simp [List.getD_eq_getElem?_getD, hi']
  · have hi' : i < cs.length := by omega
    simp only [List.getD_eq_getElem?_getD, List.getElem?_map, List.getElem?_eq_getElem hi', Option.map_some, Option.getD_some]
    exact fits_lo8 _
end StrChars.Road
namespace StrChars.Road
open Jvm Sem ClassFile Op Lib Jvm.Stand Jvm.Free Jvm.Free.XT
/-- WHAT COMES BACK, in the writer's own shape -/
def QV (Z : State) (x : Addr) (N : Int32) (bs : List Int32) (h : Heap) (n0 : Nat) (v : Option Value) (h' : Heap) (L : List Loc) : Prop := v = none ∧ RoadKit.Fr n0 L ∧ RoadKit.Keep h h' [x] ∧ RoadKit.Exa Z h' x ST ∧ RoadKit.Fld Z h' x ST "coder" "B" (.int 0) ∧
  ∃ (t : Addr) (kb : ClassId), n0 ≤ t ∧ h.size ≤ t ∧ ¬ t = x ∧ RoadKit.Fld Z h' x ST "value" "[B" (.ref t) ∧ RoadKit.Arv Z h' t kb .byte N (bs.map Value.int) (.int 0)
/-- **new String(chars) AT A CALL, FOR THE WRITER**: a char[] of n known ints, each 0 to 255 -/
theorem backV {p : Program} {l : Launch} {e : Env} {R : Room} {s : State} {args : Array Value} {below : List Frame} {len W : Nat} {Z : State} {a0 : Array Value} {h : Heap} (hZ : Z.Warmed39 s.vm) (hw : ∀ d ∈ words, d.before a0 Z = true) {kI : Nat} (wi : (Jvm.Cond.instantiable ST kI).before a0 Z = true)
    {x b : Addr} {kC : ClassId} {cs bs : List Int32} {d v0 c0 : Value} {z N : Int32} {n n0 : Nat} (hx0 : n0 ≤ x) (hh0 : n0 ≤ h.size) (E : RoadKit.Exa Z h x ST) (V : RoadKit.Fld Z h x ST "value" "[B" v0) (C : RoadKit.Fld Z h x ST "coder" "B" c0) (K : RoadKit.Arv Z h b kC .char N (cs.map Value.int) d) (S : RoadKit.Sta Z h ST "COMPACT_STRINGS" "Z" (.int z)) (hz : ¬ z = 0)
    (hn : cs.length = n) (hN : N = Int32.ofNat n) (l0 : 0 < n) (l2 : n ≤ 4000) (hp : ∀ c ∈ cs, ¬ c < 0 ∧ ¬ (255 : Int32) < c) (hb : bs = cs.map (fun c => c.toInt8.toInt32)) (hfr : 4 ≤ R.frames) (hlo : W + 65 ≤ R.locals) :
    Back l R p e below s args (⟨"java/lang/String", "<init>", "([C)V"⟩ : MethodName) len W (fun P a => a = #[.ref x, .ref b] ∧ P.U.heap = h ∧ P.cells + 1 ≤ R.cells ∧ P.slots + n ≤ R.slots)
      (fun P _ v B => ∃ L, QV Z x N bs h n0 v B.U.heap L ∧ B.locs = P.locs ++ L ∧ B.cells = P.cells + 1 ∧ B.slots = P.slots + n) := by
  subst hn hN hb
  refine Back.mono (backArv hZ hw wi E V C K S hz (n32 (by omega)) l0 (by omega) (fun c hc => (hp c hc).2) hfr hlo) (fun P a hp => hp) (fun P a v B hp hq => ?_)
  obtain ⟨L, ⟨q1, q2, q3, q4, q5, q6, q7, ⟨kb, v1, v2⟩, q9⟩, hl, hc, hs⟩ := hq
  exact ⟨L, ⟨q1, fun y hy => by rw [q2 y hy]; exact hx0, q3, q5, q7, h.size, kb, hh0, Nat.le_refl _, Nat.ne_of_gt E.lt, q6, by rw [List.map_map]; exact v2⟩, hl, hc, hs⟩
end StrChars.Road
end Jvm.Pilot.@@N@@

namespace Jvm.Pilot.@@N@@
open Jvm Jvm.ClassFile Sem Op Lib Jvm.Free Jvm.Stand Jvm.LawKit Jvm.RoadKit Bundle Jvm.Pilot.@@N@@.Jvm.D

def own_Q (r : Option Value) (h0 : Heap) (n0 : Nat) (v : Option Value) (h : Heap) (L : List Loc) : Prop := v = r ∧ Fr n0 L ∧ h = h0
def own_Q0 (n0 : Nat) (v : Option Value) (h : Heap) (L : List Loc) : Prop := v = some (.int 1) ∧ Fr n0 L
theorem own_ext_trans {h h' h'' : Heap} (E : Ext h h') (E' : Ext h' h'') : Ext h h'' := ⟨Nat.le_trans E.1 E'.1, fun a c q => E'.2 a c (E.2 a c q)⟩
theorem own_ext_wr {h0 h h' : Heap} {a : Addr} {sl : Nat} {v : Value} (E : Ext h0 h) (W : Wr h h' a sl v) (q : h0.size ≤ a) : Ext h0 h' := by
  refine ⟨by rw [W.size]; exact E.1, fun b c hb => ?_⟩
  have hne : b ≠ a := Nat.ne_of_lt (Nat.lt_of_lt_of_le (Array.getElem?_eq_some_iff.mp hb).1 q)
  obtain ⟨c', e1, -, -, -, e5, -⟩ := wr_at W (E.2 b c hb)
  rw [e1, e5 hne]
theorem own_stR {p : Program} {l : Launch} {e : Env} {R : Room} {s : State} {m : MethodId} {args : Array Value} {below : List Frame} {meth : Method} {c : Code} {T : State} {locs : List Loc} {cells slots : Nat} {Z : State} {h : Heap}
    (X : Stand p l e R s m args below meth c T locs cells slots) (hx : p.tables.exec = Jvm.exec) (hZ : Z.Warmed39 s.vm) (eT : T.heap = h) {a y : Addr} {k : ClassId} {ty : FieldType} {z : Int32} {vs : List Value} {dv : Value} {C : String} (F : Arv Z h a k ty z vs dv) (O : Ovr Z k C) (I : Ins Z h y C true) {j : Int32} (hj : ¬ j < 0 ∧ j < z) {i : Nat} (hi : j.toNatClampNeg = i) (hl : i < vs.length) (hty : ty.isReference = true)
    {g : JFrame} (hg : g.method = m) {rest : List Value} (hs : g.stack = .ref y :: .int j :: .ref a :: rest) (hd : decode c.code g.pc = .ok (.aastore, 1)) :
    ∃ T' h', Stand p l e R s m args below meth c T' (locs ++ [⟨a, j.toNatClampNeg⟩]) cells slots ∧ T'.heap = h' ∧ Wr h h' a j.toNatClampNeg (.ref y) ∧ Arv Z h' a k ty z (vs.set i (.ref y)) dv ∧ ∀ target, Steps p.tables e below (T'.setTop { g with pc := g.pc + 1, stack := rest }) target → Steps p.tables e below (T.setTop g) target := by
  obtain ⟨cl, A, q1, S, q3, H, G⟩ := F
  obtain ⟨T', h', X', e', W, st⟩ := stR X hx hZ eT A (inb_of S hj) hty (Sto.ofV A q1 O I) hg hs hd
  exact ⟨T', h', X', e', W, Arv.set A q1 S q3 H G (by cases ty <;> first | rfl | cases hty) W i hi hl, st⟩
theorem own_at {Z : State} {h : Heap} {a : Addr} {k : ClassId} {ty : FieldType} {z : Int32} {vs : List Value} {dv : Value} (F : Arv Z h a k ty z vs dv) {j : Int32} {v : Value} (hj : ¬ j < 0 ∧ j < z) (u : vs.getD j.toNatClampNeg dv = v) :
    ∃ c : Cell, Arr Z h a c ty ∧ ¬ (j < 0 ∨ c.slots.size ≤ j.toNatClampNeg) ∧ c.slots[j.toNatClampNeg]? = some v := by
  obtain ⟨c, A, -, S, -, H, -⟩ := F
  exact ⟨c, A, inb_of S hj, H.at (inb_of S hj) u⟩
theorem own_ext_refl (h : Heap) : Ext h h := ⟨Nat.le_refl _, fun _ _ q => q⟩
theorem own_ext_keep {h0 h h' : Heap} {ws : List Addr} (E : Ext h0 h) (K : Keep h h' ws) (q : ∀ x ∈ ws, h0.size ≤ x) : Ext h0 h' :=
  ⟨Nat.le_trans E.1 K.1, fun a c r => K.2.1 a c (E.2 a c r) fun z => absurd (Array.getElem?_eq_some_iff.mp r).1 (Nat.not_lt.mpr (q a z))⟩
theorem own_stI {p : Program} {l : Launch} {e : Env} {R : Room} {s : State} {m : MethodId} {args : Array Value} {below : List Frame} {meth : Method} {c : Code} {T : State} {locs : List Loc} {cells slots : Nat} {Z : State} {h : Heap}
    (X : Stand p l e R s m args below meth c T locs cells slots) (hx : p.tables.exec = Jvm.exec) (hZ : Z.Warmed39 s.vm) (eT : T.heap = h) {a : Addr} {k : ClassId} {z : Int32} {vs : List Value} {dv : Value} (F : Arv Z h a k .int z vs dv) {j x : Int32} (hj : ¬ j < 0 ∧ j < z) {i : Nat} (hi : j.toNatClampNeg = i) (hl : i < vs.length)
    {g : JFrame} (hg : g.method = m) {rest : List Value} (hs : g.stack = .int x :: .int j :: .ref a :: rest) (hd : decode c.code g.pc = .ok (.iastore, 1)) :
    ∃ T' h', Stand p l e R s m args below meth c T' (locs ++ [⟨a, j.toNatClampNeg⟩]) cells slots ∧ T'.heap = h' ∧ Wr h h' a j.toNatClampNeg (.int x) ∧ Arv Z h' a k .int z (vs.set i (.int x)) dv ∧ ∀ target, Steps p.tables e below (T'.setTop { g with pc := g.pc + 1, stack := rest }) target → Steps p.tables e below (T.setTop g) target := by
  obtain ⟨cl, A, q1, S, q3, H, G⟩ := F
  obtain ⟨T', h', X', e', W, st⟩ := stI X hx hZ eT A (inb_of S hj) hg hs hd
  exact ⟨T', h', X', e', W, Arv.set A q1 S q3 H G rfl W i hi hl, st⟩
theorem own_stC {p : Program} {l : Launch} {e : Env} {R : Room} {s : State} {m : MethodId} {args : Array Value} {below : List Frame} {meth : Method} {c : Code} {T : State} {locs : List Loc} {cells slots : Nat} {Z : State} {h : Heap}
    (X : Stand p l e R s m args below meth c T locs cells slots) (hx : p.tables.exec = Jvm.exec) (hZ : Z.Warmed39 s.vm) (eT : T.heap = h) {a : Addr} {k : ClassId} {z : Int32} {vs : List Value} {dv : Value} (F : Arv Z h a k .char z vs dv) {j x : Int32} (hj : ¬ j < 0 ∧ j < z) {i : Nat} (hi : j.toNatClampNeg = i) (hl : i < vs.length)
    {g : JFrame} (hg : g.method = m) {rest : List Value} (hs : g.stack = .int x :: .int j :: .ref a :: rest) (hd : decode c.code g.pc = .ok (.castore, 1)) :
    ∃ T' h', Stand p l e R s m args below meth c T' (locs ++ [⟨a, j.toNatClampNeg⟩]) cells slots ∧ T'.heap = h' ∧ Wr h h' a j.toNatClampNeg (.int (nar .char x)) ∧ Arv Z h' a k .char z (vs.set i (.int (nar .char x))) dv ∧ ∀ target, Steps p.tables e below (T'.setTop { g with pc := g.pc + 1, stack := rest }) target → Steps p.tables e below (T.setTop g) target := by
  obtain ⟨cl, A, q1, S, q3, H, G⟩ := F
  obtain ⟨T', h', X', e', W, st⟩ := stC X hx hZ eT A (inb_of S hj) hg hs hd
  exact ⟨T', h', X', e', W, Arv.set A q1 S q3 H G (fits_nar_char x) W i hi hl, st⟩
theorem own_selP {s : State} {args : Array Value} {y z : MethodName} {C : String} (hs : (Jvm.Cond.selects C z z).before args s = true) (hcls : z.cls = y.cls) (hp : s.PrivateAt y) (hi : (Jvm.Cond.instanceMethod y).before args s = true) (hy : y.cls ≠ "java/lang/invoke/MethodHandle" ∧ y.cls ≠ "java/lang/invoke/VarHandle") : (Jvm.Cond.selects y.cls y y).before args s = true := by
  obtain ⟨c2, r2, m2, q1, q2, q3, q4, kP, hkP, hkPi⟩ := Cond.selects_spec hs
  exact selects_self_of_private (hcls ▸ findClass_of_methodNamed q3) hkP hkPi hp hi hy
theorem own_lat (x : Int32) : ¬ (x &&& (255 : Int32)) < 0 ∧ ¬ (255 : Int32) < (x &&& (255 : Int32)) := by
  have h := c_and x (255 : Int32) (by decide)
  have e0 : (0 : Int32).toInt = 0 := by decide
  have e1 : (255 : Int32).toInt = 255 := by decide
  rw [e1] at h
  exact ⟨by rw [Int32.lt_iff_toInt_lt, e0]; omega, by rw [Int32.lt_iff_toInt_lt, e1]; omega⟩
theorem own_nar (x : Int32) : nar .char ((x &&& (255 : Int32)).toUInt32.toUInt16.toUInt32.toInt32) = x &&& (255 : Int32) := by simp only [nar, i2c_mask]
theorem d_prog_41_method_2_code_0 : decode prog_41_method_2_code 0 = .ok (.iload_n 0, 1) := by decide +kernel
theorem d_prog_41_method_2_code_1 : decode prog_41_method_2_code 1 = .ok (.ifCond .lt 8, 3) := by decide +kernel
theorem d_prog_41_method_2_code_4 : decode prog_41_method_2_code 4 = .ok (.iload_n 0, 1) := by decide +kernel
theorem d_prog_41_method_2_code_5 : decode prog_41_method_2_code 5 = .ok (.iload_n 1, 1) := by decide +kernel
theorem d_prog_41_method_2_code_6 : decode prog_41_method_2_code 6 = .ok (.if_icmp .le 19, 3) := by decide +kernel
theorem d_prog_41_method_2_code_25 : decode prog_41_method_2_code 25 = .ok (.iload_n 0, 1) := by decide +kernel
theorem d_prog_41_method_2_code_26 : decode prog_41_method_2_code 26 = .ok (.ireturn, 1) := by decide +kernel
theorem ef_prog_41_method_2_code_IIA (m : MethodId) (x0 : Int32) (x1 : Int32) (x2 : Addr) : entryFrame m #[(.int x0), (.int x1), (.ref x2)] 3 = mkF m 0 #[.val (.int x0), .val (.int x1), .val (.ref x2)] [] := by first | (simp [entryFrame, mkF, argsToLocals, Value.category]; done) | rfl
theorem pn_com_example_plimsoll_plimsoll_model_Fields : plainName "com/example/plimsoll/plimsoll/model/Fields" = true := by first | (simp [plainName, overriddenIn]; done) | decide +kernel
set_option maxRecDepth 65536 in
set_option maxHeartbeats 40000000 in
theorem own_unsigned (l : Launch) (Z : State) (a0 : Array Value) (hw : ∀ d ∈ tables_1, d.before a0 Z = true) (ws : List Jvm.Cond) (vv mm : Int32) (a1 : Addr) (h0 : Heap) (n0 : Nat) (Z0 : n0 ≤ h0.size) (h1 : ¬ vv < 0) (h2 : ¬ mm < vv) :
    MetFree l (⟨"com/example/plimsoll/plimsoll/model/Fields", "unsigned", "(IILjava/lang/String;)I"⟩ : MethodName) (head1 (Jvm.Cond.code (⟨"com/example/plimsoll/plimsoll/model/Fields", "unsigned", "(IILjava/lang/String;)I"⟩ : MethodName) prog_41_method_2_code 3 (some .int) :: ws) ({ frames := 0, cells := 0, slots := 0, locals := 0 } : Room)) (fun a U => a = #[(.int vv), (.int mm), (.ref a1)] ∧ Z.Warmed39 U.vm ∧ U.heap = h0) (fun _ _ _ _ _ => True) (fun _ U o U' => ∃ v L, o = .returned v ∧ own_Q (some (.int vv)) h0 n0 v U'.heap L ∧ FrameEnd U o U' L ({ frames := 0, cells := 0, slots := 0, locals := 0 } : Room).cells ({ frames := 0, cells := 0, slots := 0, locals := 0 } : Room).slots) := by
  refine MetFree.of_bodySF (plainFor_of_name pn_com_example_plimsoll_plimsoll_model_Fields) hisR ?_
  intro p e s m args below meth c s₁ Bd hml0 hP hK
  obtain ⟨rfl, hZ, hh⟩ := hP
  have hx := Bd.exec
  have hby := Bd.bytes
  have hml : c.maxLocals = 3 := hml0
  have hown : s.vm.findClass "com/example/plimsoll/plimsoll/model/Fields" = some m.cls := findClass_of_methodNamed Bd.named
  have hnm := (name_of_methodNamed Bd.named Bd.method).1
  have X0 : Stand p l e ({ frames := 0, cells := 0, slots := 0, locals := 0 } : Room) s m #[(.int vv), (.int mm), (.ref a1)] below meth c s₁ [] 0 0 := Stand.of_body Bd
  have e0 : s₁.heap = h0 := by rw [← hh, Bd.state]; rfl
  have N0 := Fr.nil n0
  have pre0 : ∀ t, Steps p.tables e below (s₁.setTop (mkF m 0 #[.val (.int vv), .val (.int mm), .val (.ref a1)] [])) t → Steps p.tables e below (s₁.setTop (entryFrame m #[(.int vv), (.int mm), (.ref a1)] 3)) t := fun t k => castTop (ef_prog_41_method_2_code_IIA m vv mm a1) k
  obtain ⟨fs, hr, hrun, hended, hW, hsame⟩ := X0.leave (v := some (.int vv)) (fun h => by rw [Bd.returns] at h; cases h)
  refine ⟨_, _, pre0 _ ?_, hrun, hended, _, _, rfl, ?_, ⟨_, rfl⟩, hW, hsame.mono (by decide) (by decide)⟩
  · show Steps p.tables e below (s₁.setTop (mkF m 0 #[.val (.int vv), .val (.int mm), .val (.ref a1)] [])) _
    refine XS.iloadN X0.here hx rfl (hb hby d_prog_41_method_2_code_0) rfl ?_
    show Steps p.tables e below (s₁.setTop (mkF m 1 #[.val (.int vv), .val (.int mm), .val (.ref a1)] [(.int vv)])) _
    refine XS.ifNo X0.here hx rfl (hb hby d_prog_41_method_2_code_1) rfl (XT.i0_lt_f h1) ?_
    show Steps p.tables e below (s₁.setTop (mkF m 4 #[.val (.int vv), .val (.int mm), .val (.ref a1)] [])) _
    refine XS.iloadN X0.here hx rfl (hb hby d_prog_41_method_2_code_4) rfl ?_
    show Steps p.tables e below (s₁.setTop (mkF m 5 #[.val (.int vv), .val (.int mm), .val (.ref a1)] [(.int vv)])) _
    refine XS.iloadN X0.here hx rfl (hb hby d_prog_41_method_2_code_5) rfl ?_
    show Steps p.tables e below (s₁.setTop (mkF m 6 #[.val (.int vv), .val (.int mm), .val (.ref a1)] [(.int mm), (.int vv)])) _
    refine XS.icmpYes X0.here hx rfl (pc0 := 6) (pc' := 25) rfl (hb hby d_prog_41_method_2_code_6) rfl (XT.ii_le_t h2) (by decide) (by decide) ?_
    show Steps p.tables e below (s₁.setTop (mkF m 25 #[.val (.int vv), .val (.int mm), .val (.ref a1)] [])) _
    refine XS.iloadN X0.here hx rfl (hb hby d_prog_41_method_2_code_25) rfl ?_
    show Steps p.tables e below (s₁.setTop (mkF m 26 #[.val (.int vv), .val (.int mm), .val (.ref a1)] [(.int vv)])) _
    exact retI X0 hx Bd.returns (hb hby d_prog_41_method_2_code_26) hr
  · show own_Q (some (.int vv)) h0 n0 _ s₁.heap _
    rw [e0]
    exact ⟨rfl, N0, rfl⟩
theorem pd__ArC_V : parseMethodDescriptor "([C)V" = some ⟨[(.array .char)], none⟩ := by decide +kernel
theorem pd__IILjava_lang_String__I : parseMethodDescriptor "(IILjava/lang/String;)I" = some ⟨[.int, .int, (.object "java/lang/String")], (some .int)⟩ := by decide +kernel
theorem ef_code_IIII (m : MethodId) (x0 : Int32) (x1 : Int32) (x2 : Int32) (x3 : Int32) : entryFrame m #[(.int x0), (.int x1), (.int x2), (.int x3)] maxLocals = mkF m 0 #[.val (.int x0), .val (.int x1), .val (.int x2), .val (.int x3), .unset, .unset, .unset, .unset, .unset, .unset, .unset] [] := by first | (simp [entryFrame, mkF, argsToLocals, Value.category, maxLocals]; done) | rfl
theorem pn_com_example_plimsoll_plimsoll_model_FieldsUnsignedPinLaw : plainName "com/example/plimsoll/plimsoll/model/FieldsUnsignedPinLaw" = true := by first | (simp [plainName, overriddenIn]; done) | decide +kernel
set_option maxRecDepth 65536 in
set_option maxHeartbeats 40000000 in
theorem own_law_0 (l : Launch) (Z : State) (a0 : Array Value) (hw : ∀ d ∈ tables_1, d.before a0 Z = true) (ws : List Jvm.Cond) (p1 p2 p3 p4 i7 : Int32) (h0 : Heap) (n0 : Nat) (Z0 : n0 ≤ h0.size) (S8 : Sta Z h0 "java/lang/String" "COMPACT_STRINGS" "Z" (.int i7)) (c9 : ¬ (i7 = (0 : Int32))) (hk : (p3 &&& (3 : Int32)) = (0 : Int32)) (hD : ((p2 &&& (2147483647 : Int32)).toInt64 + (1 : Int64)) ≠ 0) (hv1 : ¬ (0 : Int32) < 0) (hv2 : ¬ (p2 &&& (2147483647 : Int32)) < (0 : Int32)) :
    MetFree l x (head1 (Jvm.Cond.code x code maxLocals ret :: ws) room_1) (fun a U => a = #[(.int p1), (.int p2), (.int p3), (.int p4)] ∧ Z.Warmed39 U.vm ∧ U.heap = h0) (fun _ _ _ _ _ => True) (fun _ U o U' => ∃ v L, o = .returned v ∧ own_Q0 n0 v U'.heap L ∧ FrameEnd U o U' L room_1.cells room_1.slots) := by
  refine MetFree.of_bodySF (plainFor_of_name pn_com_example_plimsoll_plimsoll_model_FieldsUnsignedPinLaw) hisR ?_
  intro p e s m args below meth c s₁ Bd hml0 hP hK
  obtain ⟨rfl, hZ, hh⟩ := hP
  have hx := Bd.exec
  have hby := Bd.bytes
  have hml : c.maxLocals = 11 := hml0
  have hown : s.vm.findClass "com/example/plimsoll/plimsoll/model/FieldsUnsignedPinLaw" = some m.cls := findClass_of_methodNamed Bd.named
  have hnm := (name_of_methodNamed Bd.named Bd.method).1
  have X0 : Stand p l e room_1 s m #[(.int p1), (.int p2), (.int p3), (.int p4)] below meth c s₁ [] 0 0 := Stand.of_body Bd
  have e0 : s₁.heap = h0 := by rw [← hh, Bd.state]; rfl
  have N0 := Fr.nil n0
  have pre0 : ∀ t, Steps p.tables e below (s₁.setTop (mkF m 0 #[.val (.int p1), .val (.int p2), .val (.int p3), .val (.int p4), .unset, .unset, .unset, .unset, .unset, .unset, .unset] [])) t → Steps p.tables e below (s₁.setTop (entryFrame m #[(.int p1), (.int p2), (.int p3), (.int p4)] maxLocals)) t := fun t k => castTop (ef_code_IIII m p1 p2 p3 p4) k
  obtain ⟨T1, h1, k1, X1, e1, E1, A1, st1⟩ := newP X0 hx hZ (hw _ (List.mem_of_getElem? (i := 2) rfl)) e0 (g := (mkF m 72 #[.val (.int p1), .val (.int p2), .val (.int p3), .val (.int p4), .val (.int (p2 &&& (2147483647 : Int32))), .val (.int (0 : Int32)), .val (.long ((p1.toInt64 &&& (2147483647 : Int64)) - ((p1.toInt64 &&& (2147483647 : Int64)) / ((p2 &&& (2147483647 : Int32)).toInt64 + (1 : Int64))) * ((p2 &&& (2147483647 : Int32)).toInt64 + (1 : Int64)))), .second, .val (.int (0 : Int32)), .unset, .unset] [(.int (2 : Int32))])) rfl (hb hby at_72) rfl (by decide) (cap := 2) (by decide) (by decide) (by decide) (by decide)
  obtain ⟨b1, g1⟩ : ∃ z, z = h0.size := ⟨_, rfl⟩
  rw [← g1] at A1 st1
  have V1 : Arv Z h1 b1 k1 .char (2 : Int32) (List.replicate 2 (.int (0 : Int32))) (.int (0 : Int32)) := (Arv.new A1 (by decide)).pad (fun i => pad_rep [] (.int (0 : Int32)) 2 i)
  have q1 : h0.size ≤ b1 := by rw [g1]; exact Nat.le_refl _
  have EX1 : Ext h0 h1 := E1
  have Z1 : n0 ≤ h1.size := Nat.le_trans Z0 EX1.1
  obtain ⟨T2, h2, X2, e2, W2, V2, st2⟩ := own_stC X1 hx hZ e1 V1 (j := (0 : Int32)) (by decide) (i := 0) (by decide) (by simp) (g := (mkF m 82 #[.val (.int p1), .val (.int p2), .val (.int p3), .val (.int p4), .val (.int (p2 &&& (2147483647 : Int32))), .val (.int (0 : Int32)), .val (.long ((p1.toInt64 &&& (2147483647 : Int64)) - ((p1.toInt64 &&& (2147483647 : Int64)) / ((p2 &&& (2147483647 : Int32)).toInt64 + (1 : Int64))) * ((p2 &&& (2147483647 : Int32)).toInt64 + (1 : Int64)))), .second, .val (.int (0 : Int32)), .unset, .unset] [(.int (p4 &&& (255 : Int32)).toUInt32.toUInt16.toUInt32.toInt32), (.int (0 : Int32)), (.ref b1), (.ref b1)])) rfl rfl (hb hby at_82)
  have EX2 : Ext h0 h2 := own_ext_wr EX1 W2 q1
  have Z2 : n0 ≤ h2.size := Nat.le_trans Z0 EX2.1
  have N2 := Fr.snoc X2 N0 (Nat.le_trans Z0 q1)
  obtain ⟨T3, h3, X3, e3, W3, V3, st3⟩ := own_stC X2 hx hZ e2 V2 (j := (1 : Int32)) (by decide) (i := 1) (by decide) (by simp) (g := (mkF m 94 #[.val (.int p1), .val (.int p2), .val (.int p3), .val (.int p4), .val (.int (p2 &&& (2147483647 : Int32))), .val (.int (0 : Int32)), .val (.long ((p1.toInt64 &&& (2147483647 : Int64)) - ((p1.toInt64 &&& (2147483647 : Int64)) / ((p2 &&& (2147483647 : Int32)).toInt64 + (1 : Int64))) * ((p2 &&& (2147483647 : Int32)).toInt64 + (1 : Int64)))), .second, .val (.int (0 : Int32)), .unset, .unset] [(.int ((XT.ushr p4 (8 : Int32)) &&& (255 : Int32)).toUInt32.toUInt16.toUInt32.toInt32), (.int (1 : Int32)), (.ref b1), (.ref b1)])) rfl rfl (hb hby at_94)
  have EX3 : Ext h0 h3 := own_ext_wr EX2 W3 q1
  have Z3 : n0 ≤ h3.size := Nat.le_trans Z0 EX3.1
  have N3 := Fr.snoc X3 N2 (Nat.le_trans Z0 q1)
  obtain ⟨T4, h4, X4, e4, E4, A4, D4, -, st4⟩ := newO X3 hx hZ hown (hw _ (List.mem_of_getElem? (i := 3) rfl)) (hw _ (List.mem_of_getElem? (i := 4) rfl)) (hw _ (List.mem_of_getElem? (i := 5) rfl)) e3 (g := (mkF m 97 #[.val (.int p1), .val (.int p2), .val (.int p3), .val (.int p4), .val (.int (p2 &&& (2147483647 : Int32))), .val (.int (0 : Int32)), .val (.long ((p1.toInt64 &&& (2147483647 : Int64)) - ((p1.toInt64 &&& (2147483647 : Int64)) / ((p2 &&& (2147483647 : Int32)).toInt64 + (1 : Int64))) * ((p2 &&& (2147483647 : Int32)).toInt64 + (1 : Int64)))), .second, .val (.int (0 : Int32)), .val (.ref b1), .unset] [])) rfl (hb hby at_97) (by decide) (by decide)
  obtain ⟨b4, g4⟩ : ∃ z, z = h3.size := ⟨_, rfl⟩
  rw [← g4] at A4 D4 st4
  have q4 : h0.size ≤ b4 := by rw [g4]; exact EX3.1
  have ne_b1_b4 : b1 ≠ b4 := by rw [g4]; exact Nat.ne_of_lt V3.lt
  have V3_5 := V3.ext E4
  have EX4 : Ext h0 h4 := own_ext_trans EX3 E4
  have Z4 : n0 ≤ h4.size := Nat.le_trans Z0 EX4.1
  have Fcoder_6 : Fld Z h4 b4 "java/lang/String" "coder" "B" (.int (0 : Int32)) := D4 (Or.inr (hw _ (List.mem_of_getElem? (i := 29) rfl))) (ty := .byte) (by decide)
  have Fvalue_7 : Fld Z h4 b4 "java/lang/String" "value" "[B" .null := D4 (Or.inr (hw _ (List.mem_of_getElem? (i := 31) rfl))) (ty := (.array .byte)) (by decide)
  have V8c : Arv Z h4 b1 k1 .char (2 : Int32) [(.int (nar .char (p4 &&& (255 : Int32)).toUInt32.toUInt16.toUInt32.toInt32)), (.int (nar .char ((XT.ushr p4 (8 : Int32)) &&& (255 : Int32)).toUInt32.toUInt16.toUInt32.toInt32))] (.int (0 : Int32)) := V3_5
  have hws8 : ∀ d ∈ StrChars.Road.words, d.before a0 Z = true := fun d hd => hw d ((by decide +kernel : ∀ d ∈ StrChars.Road.words, d ∈ tables_1) d hd)
  have hlat8 : ∀ c ∈ [(nar .char (p4 &&& (255 : Int32)).toUInt32.toUInt16.toUInt32.toInt32), (nar .char ((XT.ushr p4 (8 : Int32)) &&& (255 : Int32)).toUInt32.toUInt16.toUInt32.toInt32)], ¬ c < 0 ∧ ¬ (255 : Int32) < c := by
    intro c hc
    simp only [List.mem_cons, List.not_mem_nil, or_false] at hc
    rcases hc with rfl | rfl
    · rw [own_nar]; exact own_lat _
    · rw [own_nar]; exact own_lat _
  obtain ⟨_, _, ⟨T8, L8, k8, n8⟩, -, X8, ⟨Lc8, hQ8, l8, y8, z8⟩, st8⟩ := X4.specialBack hx (y := (⟨"java/lang/String", "<init>", "([C)V"⟩ : MethodName)) rfl hown (mvT hZ (hw _ (List.mem_of_getElem? (i := 6) rfl))) (mvT hZ (hw _ (List.mem_of_getElem? (i := 7) rfl))) (mvT hZ (hw _ (List.mem_of_getElem? (i := 8) rfl))) (by decide) (StrChars.Road.backV (W := 1) hZ hws8 (kI := 4) (hw _ (List.mem_of_getElem? (i := 4) rfl)) (cs := [(nar .char (p4 &&& (255 : Int32)).toUInt32.toUInt16.toUInt32.toInt32), (nar .char ((XT.ushr p4 (8 : Int32)) &&& (255 : Int32)).toUInt32.toUInt16.toUInt32.toInt32)]) (bs := [(nar .char (p4 &&& (255 : Int32)).toUInt32.toUInt16.toUInt32.toInt32).toInt8.toInt32, (nar .char ((XT.ushr p4 (8 : Int32)) &&& (255 : Int32)).toUInt32.toUInt16.toUInt32.toInt32).toInt8.toInt32]) (n := 2) (Nat.le_trans Z0 q4) Z4 A4 Fvalue_7 Fcoder_6 V8c (S8.ext EX4) c9 rfl rfl (by decide) (by decide) hlat8 rfl (by decide) (by decide)) (g := (mkF m 103 #[.val (.int p1), .val (.int p2), .val (.int p3), .val (.int p4), .val (.int (p2 &&& (2147483647 : Int32))), .val (.int (0 : Int32)), .val (.long ((p1.toInt64 &&& (2147483647 : Int64)) - ((p1.toInt64 &&& (2147483647 : Int64)) / ((p2 &&& (2147483647 : Int32)).toInt64 + (1 : Int64))) * ((p2 &&& (2147483647 : Int32)).toInt64 + (1 : Int64)))), .second, .val (.int (0 : Int32)), .val (.ref b1), .unset] [(.ref b1), (.ref b4), (.ref b4)])) rfl (by rw [hml]; rfl) (Steps.refl _) (a := b4) (argsL := [(.ref b1)]) (rest := [(.ref b4)]) (lenOf pd__ArC_V rfl) rfl (by show 2 * 0 + _ ≤ _; exact Nat.le_of_eq rfl) (hb hby at_103) (fun _ _ => ⟨rfl, e4, (by decide : 2 + 1 ≤ _), (by decide : 6 + 2 ≤ _)⟩)
  dsimp only [Pt.U, Pt.locs, Pt.cells, Pt.slots] at X8 l8 y8 z8 st8 hQ8
  subst l8 y8 z8
  obtain ⟨rfl, N8q, K8q, E8s, C8s, t8s, kb8s, qn8s, qh8s, qx8s, V8s, B8s⟩ := hQ8
  have N8 := Fr.app N3 N8q
  have q8s : h0.size ≤ t8s := Nat.le_trans EX4.1 qh8s
  have ne_b1_t8s : b1 ≠ t8s := Nat.ne_of_lt (Nat.lt_of_lt_of_le V3_5.lt qh8s)
  have V3_9 := V3_5.keep K8q (ninS ne_b1_b4 nin0)
  have A4_10 := A4.keep K8q
  have EX8 : Ext h0 T8.heap := own_ext_keep EX4 K8q (allS q4 all0)
  have Z8 : n0 ≤ T8.heap.size := Nat.le_trans Z0 EX8.1
  obtain ⟨_, _, ⟨T11, L11, k11, n11⟩, -, X11, ⟨Lc11, hQ11, l11, y11, z11⟩, st11⟩ := Jvm.LawKit.callS X8 hx (y := (⟨"com/example/plimsoll/plimsoll/model/Fields", "unsigned", "(IILjava/lang/String;)I"⟩ : MethodName)) hown (mvT hZ (hw _ (List.mem_of_getElem? (i := 32) rfl))) (mvT hZ (hw _ (List.mem_of_getElem? (i := 33) rfl))) (mvT hZ (hw _ (List.mem_of_getElem? (i := 34) rfl))) (mvT hZ (hw _ (List.mem_of_getElem? (i := 35) rfl))) (by decide) (backOf (W := 0) (own_unsigned l Z a0 hw [] (0 : Int32) (p2 &&& (2147483647 : Int32)) b4 T8.heap n0 Z8 hv1 hv2) hZ (hw _ (List.mem_of_getElem? (i := 35) rfl)) (hw _ (List.mem_of_getElem? (i := 34) rfl)) (by decide) (by decide)) (g := (mkF m 114 #[.val (.int p1), .val (.int p2), .val (.int p3), .val (.int p4), .val (.int (p2 &&& (2147483647 : Int32))), .val (.int (0 : Int32)), .val (.long ((p1.toInt64 &&& (2147483647 : Int64)) - ((p1.toInt64 &&& (2147483647 : Int64)) / ((p2 &&& (2147483647 : Int32)).toInt64 + (1 : Int64))) * ((p2 &&& (2147483647 : Int32)).toInt64 + (1 : Int64)))), .second, .val (.int (0 : Int32)), .val (.ref b1), .val (.ref b4)] [(.ref b4), (.int (p2 &&& (2147483647 : Int32))), (.int (0 : Int32))])) rfl (by rw [hml]; rfl) (argsL := [(.int (0 : Int32)), (.int (p2 &&& (2147483647 : Int32))), (.ref b4)]) (rest := []) (lenOf pd__IILjava_lang_String__I rfl) rfl (by show 2 * 0 + _ ≤ _; exact Nat.le_of_eq rfl) (hb hby at_114) (fun _ _ => ⟨rfl, rfl, (by decide : 3 + 0 ≤ _), (by decide : 8 + 0 ≤ _)⟩)
  dsimp only [Pt.U, Pt.locs, Pt.cells, Pt.slots] at X11 l11 y11 z11 st11 hQ11
  subst l11 y11 z11
  obtain ⟨rfl, N11q, e11⟩ := hQ11
  have N11 := Fr.app N8 N11q
  obtain ⟨fs, hr, hrun, hended, hW, hsame⟩ := X11.leave (v := some (.int (1 : Int32))) (fun h => by rw [Bd.returns] at h; cases h)
  refine ⟨_, _, pre0 _ ?_, hrun, hended, _, _, rfl, ?_, ⟨_, rfl⟩, hW, hsame.mono (by decide) (by decide)⟩
  · show Steps p.tables e below (s₁.setTop (mkF m 0 #[.val (.int p1), .val (.int p2), .val (.int p3), .val (.int p4), .unset, .unset, .unset, .unset, .unset, .unset, .unset] [])) _
    refine XS.iloadN X0.here hx rfl (hb hby at_0) rfl ?_
    show Steps p.tables e below (s₁.setTop (mkF m 1 #[.val (.int p1), .val (.int p2), .val (.int p3), .val (.int p4), .unset, .unset, .unset, .unset, .unset, .unset, .unset] [(.int p2)])) _
    refine Jvm.Stand.ldcI X0 hx hown (mvT hZ (hw _ (List.mem_of_getElem? (i := 0) rfl))) rfl (hb hby at_1) ?_
    show Steps p.tables e below (s₁.setTop (mkF m 3 #[.val (.int p1), .val (.int p2), .val (.int p3), .val (.int p4), .unset, .unset, .unset, .unset, .unset, .unset, .unset] [(.int (2147483647 : Int32)), (.int p2)])) _
    refine XS.iand X0.here hx rfl (hb hby at_3) rfl ?_
    show Steps p.tables e below (s₁.setTop (mkF m 4 #[.val (.int p1), .val (.int p2), .val (.int p3), .val (.int p4), .unset, .unset, .unset, .unset, .unset, .unset, .unset] [(.int (p2 &&& (2147483647 : Int32)))])) _
    refine XS.istore X0.here hx rfl (hb hby at_4) rfl (l' := #[.val (.int p1), .val (.int p2), .val (.int p3), .val (.int p4), .val (.int (p2 &&& (2147483647 : Int32))), .unset, .unset, .unset, .unset, .unset, .unset]) rfl ?_
    show Steps p.tables e below (s₁.setTop (mkF m 6 #[.val (.int p1), .val (.int p2), .val (.int p3), .val (.int p4), .val (.int (p2 &&& (2147483647 : Int32))), .unset, .unset, .unset, .unset, .unset, .unset] [])) _
    refine XS.iloadN X0.here hx rfl (hb hby at_6) rfl ?_
    show Steps p.tables e below (s₁.setTop (mkF m 7 #[.val (.int p1), .val (.int p2), .val (.int p3), .val (.int p4), .val (.int (p2 &&& (2147483647 : Int32))), .unset, .unset, .unset, .unset, .unset, .unset] [(.int p3)])) _
    refine XT.iconstV X0.here hx rfl (3 : Int32) (hb hby at_7) rfl ?_
    show Steps p.tables e below (s₁.setTop (mkF m 8 #[.val (.int p1), .val (.int p2), .val (.int p3), .val (.int p4), .val (.int (p2 &&& (2147483647 : Int32))), .unset, .unset, .unset, .unset, .unset, .unset] [(.int (3 : Int32)), (.int p3)])) _
    refine XS.iand X0.here hx rfl (hb hby at_8) rfl ?_
    show Steps p.tables e below (s₁.setTop (mkF m 9 #[.val (.int p1), .val (.int p2), .val (.int p3), .val (.int p4), .val (.int (p2 &&& (2147483647 : Int32))), .unset, .unset, .unset, .unset, .unset, .unset] [(.int (p3 &&& (3 : Int32)))])) _
    rw [hk]
    show Steps p.tables e below (s₁.setTop (mkF m 9 #[.val (.int p1), .val (.int p2), .val (.int p3), .val (.int p4), .val (.int (p2 &&& (2147483647 : Int32))), .unset, .unset, .unset, .unset, .unset, .unset] [(.int (0 : Int32))])) _
    refine XS.istore X0.here hx rfl (hb hby at_9) rfl (l' := #[.val (.int p1), .val (.int p2), .val (.int p3), .val (.int p4), .val (.int (p2 &&& (2147483647 : Int32))), .val (.int (0 : Int32)), .unset, .unset, .unset, .unset, .unset]) rfl ?_
    show Steps p.tables e below (s₁.setTop (mkF m 11 #[.val (.int p1), .val (.int p2), .val (.int p3), .val (.int p4), .val (.int (p2 &&& (2147483647 : Int32))), .val (.int (0 : Int32)), .unset, .unset, .unset, .unset, .unset] [])) _
    refine XS.iloadN X0.here hx rfl (hb hby at_11) rfl ?_
    show Steps p.tables e below (s₁.setTop (mkF m 12 #[.val (.int p1), .val (.int p2), .val (.int p3), .val (.int p4), .val (.int (p2 &&& (2147483647 : Int32))), .val (.int (0 : Int32)), .unset, .unset, .unset, .unset, .unset] [(.int p1)])) _
    refine XT.i2l X0.here hx rfl (hb hby at_12) rfl ?_
    show Steps p.tables e below (s₁.setTop (mkF m 13 #[.val (.int p1), .val (.int p2), .val (.int p3), .val (.int p4), .val (.int (p2 &&& (2147483647 : Int32))), .val (.int (0 : Int32)), .unset, .unset, .unset, .unset, .unset] [(.long p1.toInt64)])) _
    refine Jvm.Stand.ldc2J X0 hx hown (mvT hZ (hw _ (List.mem_of_getElem? (i := 1) rfl))) rfl (hb hby at_13) ?_
    show Steps p.tables e below (s₁.setTop (mkF m 16 #[.val (.int p1), .val (.int p2), .val (.int p3), .val (.int p4), .val (.int (p2 &&& (2147483647 : Int32))), .val (.int (0 : Int32)), .unset, .unset, .unset, .unset, .unset] [(.long (2147483647 : Int64)), (.long p1.toInt64)])) _
    refine XT.land X0.here hx rfl (hb hby at_16) rfl ?_
    show Steps p.tables e below (s₁.setTop (mkF m 17 #[.val (.int p1), .val (.int p2), .val (.int p3), .val (.int p4), .val (.int (p2 &&& (2147483647 : Int32))), .val (.int (0 : Int32)), .unset, .unset, .unset, .unset, .unset] [(.long (p1.toInt64 &&& (2147483647 : Int64)))])) _
    refine XS.iload X0.here hx rfl (hb hby at_17) rfl ?_
    show Steps p.tables e below (s₁.setTop (mkF m 19 #[.val (.int p1), .val (.int p2), .val (.int p3), .val (.int p4), .val (.int (p2 &&& (2147483647 : Int32))), .val (.int (0 : Int32)), .unset, .unset, .unset, .unset, .unset] [(.int (p2 &&& (2147483647 : Int32))), (.long (p1.toInt64 &&& (2147483647 : Int64)))])) _
    refine XT.i2l X0.here hx rfl (hb hby at_19) rfl ?_
    show Steps p.tables e below (s₁.setTop (mkF m 20 #[.val (.int p1), .val (.int p2), .val (.int p3), .val (.int p4), .val (.int (p2 &&& (2147483647 : Int32))), .val (.int (0 : Int32)), .unset, .unset, .unset, .unset, .unset] [(.long (p2 &&& (2147483647 : Int32)).toInt64), (.long (p1.toInt64 &&& (2147483647 : Int64)))])) _
    refine XT.lconstV X0.here hx rfl (1 : Int64) (hb hby at_20) rfl ?_
    show Steps p.tables e below (s₁.setTop (mkF m 21 #[.val (.int p1), .val (.int p2), .val (.int p3), .val (.int p4), .val (.int (p2 &&& (2147483647 : Int32))), .val (.int (0 : Int32)), .unset, .unset, .unset, .unset, .unset] [(.long (1 : Int64)), (.long (p2 &&& (2147483647 : Int32)).toInt64), (.long (p1.toInt64 &&& (2147483647 : Int64)))])) _
    refine XT.ladd X0.here hx rfl (hb hby at_21) rfl ?_
    show Steps p.tables e below (s₁.setTop (mkF m 22 #[.val (.int p1), .val (.int p2), .val (.int p3), .val (.int p4), .val (.int (p2 &&& (2147483647 : Int32))), .val (.int (0 : Int32)), .unset, .unset, .unset, .unset, .unset] [(.long ((p2 &&& (2147483647 : Int32)).toInt64 + (1 : Int64))), (.long (p1.toInt64 &&& (2147483647 : Int64)))])) _
    refine XT.lrem X0.here hx rfl (hb hby at_22) rfl hD ?_
    show Steps p.tables e below (s₁.setTop (mkF m 23 #[.val (.int p1), .val (.int p2), .val (.int p3), .val (.int p4), .val (.int (p2 &&& (2147483647 : Int32))), .val (.int (0 : Int32)), .unset, .unset, .unset, .unset, .unset] [(.long ((p1.toInt64 &&& (2147483647 : Int64)) - ((p1.toInt64 &&& (2147483647 : Int64)) / ((p2 &&& (2147483647 : Int32)).toInt64 + (1 : Int64))) * ((p2 &&& (2147483647 : Int32)).toInt64 + (1 : Int64))))])) _
    refine XT.lstore X0.here hx rfl (hb hby at_23) rfl (l' := #[.val (.int p1), .val (.int p2), .val (.int p3), .val (.int p4), .val (.int (p2 &&& (2147483647 : Int32))), .val (.int (0 : Int32)), .val (.long ((p1.toInt64 &&& (2147483647 : Int64)) - ((p1.toInt64 &&& (2147483647 : Int64)) / ((p2 &&& (2147483647 : Int32)).toInt64 + (1 : Int64))) * ((p2 &&& (2147483647 : Int32)).toInt64 + (1 : Int64)))), .second, .unset, .unset, .unset]) rfl ?_
    show Steps p.tables e below (s₁.setTop (mkF m 25 #[.val (.int p1), .val (.int p2), .val (.int p3), .val (.int p4), .val (.int (p2 &&& (2147483647 : Int32))), .val (.int (0 : Int32)), .val (.long ((p1.toInt64 &&& (2147483647 : Int64)) - ((p1.toInt64 &&& (2147483647 : Int64)) / ((p2 &&& (2147483647 : Int32)).toInt64 + (1 : Int64))) * ((p2 &&& (2147483647 : Int32)).toInt64 + (1 : Int64)))), .second, .unset, .unset, .unset] [])) _
    refine XS.iload X0.here hx rfl (hb hby at_25) rfl ?_
    show Steps p.tables e below (s₁.setTop (mkF m 27 #[.val (.int p1), .val (.int p2), .val (.int p3), .val (.int p4), .val (.int (p2 &&& (2147483647 : Int32))), .val (.int (0 : Int32)), .val (.long ((p1.toInt64 &&& (2147483647 : Int64)) - ((p1.toInt64 &&& (2147483647 : Int64)) / ((p2 &&& (2147483647 : Int32)).toInt64 + (1 : Int64))) * ((p2 &&& (2147483647 : Int32)).toInt64 + (1 : Int64)))), .second, .unset, .unset, .unset] [(.int (0 : Int32))])) _
    refine XS.ifNo X0.here hx rfl (hb hby at_27) rfl (by decide) ?_
    show Steps p.tables e below (s₁.setTop (mkF m 30 #[.val (.int p1), .val (.int p2), .val (.int p3), .val (.int p4), .val (.int (p2 &&& (2147483647 : Int32))), .val (.int (0 : Int32)), .val (.long ((p1.toInt64 &&& (2147483647 : Int64)) - ((p1.toInt64 &&& (2147483647 : Int64)) / ((p2 &&& (2147483647 : Int32)).toInt64 + (1 : Int64))) * ((p2 &&& (2147483647 : Int32)).toInt64 + (1 : Int64)))), .second, .unset, .unset, .unset] [])) _
    refine XT.iconstV X0.here hx rfl (0 : Int32) (hb hby at_30) rfl ?_
    show Steps p.tables e below (s₁.setTop (mkF m 31 #[.val (.int p1), .val (.int p2), .val (.int p3), .val (.int p4), .val (.int (p2 &&& (2147483647 : Int32))), .val (.int (0 : Int32)), .val (.long ((p1.toInt64 &&& (2147483647 : Int64)) - ((p1.toInt64 &&& (2147483647 : Int64)) / ((p2 &&& (2147483647 : Int32)).toInt64 + (1 : Int64))) * ((p2 &&& (2147483647 : Int32)).toInt64 + (1 : Int64)))), .second, .unset, .unset, .unset] [(.int (0 : Int32))])) _
    refine XS.istore X0.here hx rfl (hb hby at_31) rfl (l' := #[.val (.int p1), .val (.int p2), .val (.int p3), .val (.int p4), .val (.int (p2 &&& (2147483647 : Int32))), .val (.int (0 : Int32)), .val (.long ((p1.toInt64 &&& (2147483647 : Int64)) - ((p1.toInt64 &&& (2147483647 : Int64)) / ((p2 &&& (2147483647 : Int32)).toInt64 + (1 : Int64))) * ((p2 &&& (2147483647 : Int32)).toInt64 + (1 : Int64)))), .second, .val (.int (0 : Int32)), .unset, .unset]) rfl ?_
    show Steps p.tables e below (s₁.setTop (mkF m 33 #[.val (.int p1), .val (.int p2), .val (.int p3), .val (.int p4), .val (.int (p2 &&& (2147483647 : Int32))), .val (.int (0 : Int32)), .val (.long ((p1.toInt64 &&& (2147483647 : Int64)) - ((p1.toInt64 &&& (2147483647 : Int64)) / ((p2 &&& (2147483647 : Int32)).toInt64 + (1 : Int64))) * ((p2 &&& (2147483647 : Int32)).toInt64 + (1 : Int64)))), .second, .val (.int (0 : Int32)), .unset, .unset] [])) _
    refine XS.goto X0.here hx rfl (pc0 := 33) (pc' := 71) rfl (hb hby at_33) (by decide) (by decide) ?_
    show Steps p.tables e below (s₁.setTop (mkF m 71 #[.val (.int p1), .val (.int p2), .val (.int p3), .val (.int p4), .val (.int (p2 &&& (2147483647 : Int32))), .val (.int (0 : Int32)), .val (.long ((p1.toInt64 &&& (2147483647 : Int64)) - ((p1.toInt64 &&& (2147483647 : Int64)) / ((p2 &&& (2147483647 : Int32)).toInt64 + (1 : Int64))) * ((p2 &&& (2147483647 : Int32)).toInt64 + (1 : Int64)))), .second, .val (.int (0 : Int32)), .unset, .unset] [])) _
    refine XT.iconstV X0.here hx rfl (2 : Int32) (hb hby at_71) rfl ?_
    show Steps p.tables e below (s₁.setTop (mkF m 72 #[.val (.int p1), .val (.int p2), .val (.int p3), .val (.int p4), .val (.int (p2 &&& (2147483647 : Int32))), .val (.int (0 : Int32)), .val (.long ((p1.toInt64 &&& (2147483647 : Int64)) - ((p1.toInt64 &&& (2147483647 : Int64)) / ((p2 &&& (2147483647 : Int32)).toInt64 + (1 : Int64))) * ((p2 &&& (2147483647 : Int32)).toInt64 + (1 : Int64)))), .second, .val (.int (0 : Int32)), .unset, .unset] [(.int (2 : Int32))])) _
    refine st1 _ ?_
    show Steps p.tables e below (T1.setTop (mkF m 74 #[.val (.int p1), .val (.int p2), .val (.int p3), .val (.int p4), .val (.int (p2 &&& (2147483647 : Int32))), .val (.int (0 : Int32)), .val (.long ((p1.toInt64 &&& (2147483647 : Int64)) - ((p1.toInt64 &&& (2147483647 : Int64)) / ((p2 &&& (2147483647 : Int32)).toInt64 + (1 : Int64))) * ((p2 &&& (2147483647 : Int32)).toInt64 + (1 : Int64)))), .second, .val (.int (0 : Int32)), .unset, .unset] [(.ref b1)])) _
    refine XS.dup X1.here hx rfl (hb hby at_74) rfl rfl ?_
    show Steps p.tables e below (T1.setTop (mkF m 75 #[.val (.int p1), .val (.int p2), .val (.int p3), .val (.int p4), .val (.int (p2 &&& (2147483647 : Int32))), .val (.int (0 : Int32)), .val (.long ((p1.toInt64 &&& (2147483647 : Int64)) - ((p1.toInt64 &&& (2147483647 : Int64)) / ((p2 &&& (2147483647 : Int32)).toInt64 + (1 : Int64))) * ((p2 &&& (2147483647 : Int32)).toInt64 + (1 : Int64)))), .second, .val (.int (0 : Int32)), .unset, .unset] [(.ref b1), (.ref b1)])) _
    refine XT.iconstV X1.here hx rfl (0 : Int32) (hb hby at_75) rfl ?_
    show Steps p.tables e below (T1.setTop (mkF m 76 #[.val (.int p1), .val (.int p2), .val (.int p3), .val (.int p4), .val (.int (p2 &&& (2147483647 : Int32))), .val (.int (0 : Int32)), .val (.long ((p1.toInt64 &&& (2147483647 : Int64)) - ((p1.toInt64 &&& (2147483647 : Int64)) / ((p2 &&& (2147483647 : Int32)).toInt64 + (1 : Int64))) * ((p2 &&& (2147483647 : Int32)).toInt64 + (1 : Int64)))), .second, .val (.int (0 : Int32)), .unset, .unset] [(.int (0 : Int32)), (.ref b1), (.ref b1)])) _
    refine XS.iloadN X1.here hx rfl (hb hby at_76) rfl ?_
    show Steps p.tables e below (T1.setTop (mkF m 77 #[.val (.int p1), .val (.int p2), .val (.int p3), .val (.int p4), .val (.int (p2 &&& (2147483647 : Int32))), .val (.int (0 : Int32)), .val (.long ((p1.toInt64 &&& (2147483647 : Int64)) - ((p1.toInt64 &&& (2147483647 : Int64)) / ((p2 &&& (2147483647 : Int32)).toInt64 + (1 : Int64))) * ((p2 &&& (2147483647 : Int32)).toInt64 + (1 : Int64)))), .second, .val (.int (0 : Int32)), .unset, .unset] [(.int p4), (.int (0 : Int32)), (.ref b1), (.ref b1)])) _
    refine XT.sipushV X1.here hx rfl (255 : Int32) (hb hby at_77) (by decide) ?_
    show Steps p.tables e below (T1.setTop (mkF m 80 #[.val (.int p1), .val (.int p2), .val (.int p3), .val (.int p4), .val (.int (p2 &&& (2147483647 : Int32))), .val (.int (0 : Int32)), .val (.long ((p1.toInt64 &&& (2147483647 : Int64)) - ((p1.toInt64 &&& (2147483647 : Int64)) / ((p2 &&& (2147483647 : Int32)).toInt64 + (1 : Int64))) * ((p2 &&& (2147483647 : Int32)).toInt64 + (1 : Int64)))), .second, .val (.int (0 : Int32)), .unset, .unset] [(.int (255 : Int32)), (.int p4), (.int (0 : Int32)), (.ref b1), (.ref b1)])) _
    refine XS.iand X1.here hx rfl (hb hby at_80) rfl ?_
    show Steps p.tables e below (T1.setTop (mkF m 81 #[.val (.int p1), .val (.int p2), .val (.int p3), .val (.int p4), .val (.int (p2 &&& (2147483647 : Int32))), .val (.int (0 : Int32)), .val (.long ((p1.toInt64 &&& (2147483647 : Int64)) - ((p1.toInt64 &&& (2147483647 : Int64)) / ((p2 &&& (2147483647 : Int32)).toInt64 + (1 : Int64))) * ((p2 &&& (2147483647 : Int32)).toInt64 + (1 : Int64)))), .second, .val (.int (0 : Int32)), .unset, .unset] [(.int (p4 &&& (255 : Int32))), (.int (0 : Int32)), (.ref b1), (.ref b1)])) _
    refine XT.i2c X1.here hx rfl (hb hby at_81) rfl ?_
    show Steps p.tables e below (T1.setTop (mkF m 82 #[.val (.int p1), .val (.int p2), .val (.int p3), .val (.int p4), .val (.int (p2 &&& (2147483647 : Int32))), .val (.int (0 : Int32)), .val (.long ((p1.toInt64 &&& (2147483647 : Int64)) - ((p1.toInt64 &&& (2147483647 : Int64)) / ((p2 &&& (2147483647 : Int32)).toInt64 + (1 : Int64))) * ((p2 &&& (2147483647 : Int32)).toInt64 + (1 : Int64)))), .second, .val (.int (0 : Int32)), .unset, .unset] [(.int (p4 &&& (255 : Int32)).toUInt32.toUInt16.toUInt32.toInt32), (.int (0 : Int32)), (.ref b1), (.ref b1)])) _
    refine st2 _ ?_
    show Steps p.tables e below (T2.setTop (mkF m 83 #[.val (.int p1), .val (.int p2), .val (.int p3), .val (.int p4), .val (.int (p2 &&& (2147483647 : Int32))), .val (.int (0 : Int32)), .val (.long ((p1.toInt64 &&& (2147483647 : Int64)) - ((p1.toInt64 &&& (2147483647 : Int64)) / ((p2 &&& (2147483647 : Int32)).toInt64 + (1 : Int64))) * ((p2 &&& (2147483647 : Int32)).toInt64 + (1 : Int64)))), .second, .val (.int (0 : Int32)), .unset, .unset] [(.ref b1)])) _
    refine XS.dup X2.here hx rfl (hb hby at_83) rfl rfl ?_
    show Steps p.tables e below (T2.setTop (mkF m 84 #[.val (.int p1), .val (.int p2), .val (.int p3), .val (.int p4), .val (.int (p2 &&& (2147483647 : Int32))), .val (.int (0 : Int32)), .val (.long ((p1.toInt64 &&& (2147483647 : Int64)) - ((p1.toInt64 &&& (2147483647 : Int64)) / ((p2 &&& (2147483647 : Int32)).toInt64 + (1 : Int64))) * ((p2 &&& (2147483647 : Int32)).toInt64 + (1 : Int64)))), .second, .val (.int (0 : Int32)), .unset, .unset] [(.ref b1), (.ref b1)])) _
    refine XT.iconstV X2.here hx rfl (1 : Int32) (hb hby at_84) rfl ?_
    show Steps p.tables e below (T2.setTop (mkF m 85 #[.val (.int p1), .val (.int p2), .val (.int p3), .val (.int p4), .val (.int (p2 &&& (2147483647 : Int32))), .val (.int (0 : Int32)), .val (.long ((p1.toInt64 &&& (2147483647 : Int64)) - ((p1.toInt64 &&& (2147483647 : Int64)) / ((p2 &&& (2147483647 : Int32)).toInt64 + (1 : Int64))) * ((p2 &&& (2147483647 : Int32)).toInt64 + (1 : Int64)))), .second, .val (.int (0 : Int32)), .unset, .unset] [(.int (1 : Int32)), (.ref b1), (.ref b1)])) _
    refine XS.iloadN X2.here hx rfl (hb hby at_85) rfl ?_
    show Steps p.tables e below (T2.setTop (mkF m 86 #[.val (.int p1), .val (.int p2), .val (.int p3), .val (.int p4), .val (.int (p2 &&& (2147483647 : Int32))), .val (.int (0 : Int32)), .val (.long ((p1.toInt64 &&& (2147483647 : Int64)) - ((p1.toInt64 &&& (2147483647 : Int64)) / ((p2 &&& (2147483647 : Int32)).toInt64 + (1 : Int64))) * ((p2 &&& (2147483647 : Int32)).toInt64 + (1 : Int64)))), .second, .val (.int (0 : Int32)), .unset, .unset] [(.int p4), (.int (1 : Int32)), (.ref b1), (.ref b1)])) _
    refine XT.bipushV X2.here hx rfl (8 : Int32) (hb hby at_86) (by decide) ?_
    show Steps p.tables e below (T2.setTop (mkF m 88 #[.val (.int p1), .val (.int p2), .val (.int p3), .val (.int p4), .val (.int (p2 &&& (2147483647 : Int32))), .val (.int (0 : Int32)), .val (.long ((p1.toInt64 &&& (2147483647 : Int64)) - ((p1.toInt64 &&& (2147483647 : Int64)) / ((p2 &&& (2147483647 : Int32)).toInt64 + (1 : Int64))) * ((p2 &&& (2147483647 : Int32)).toInt64 + (1 : Int64)))), .second, .val (.int (0 : Int32)), .unset, .unset] [(.int (8 : Int32)), (.int p4), (.int (1 : Int32)), (.ref b1), (.ref b1)])) _
    refine XT.iushr X2.here hx rfl (hb hby at_88) rfl ?_
    show Steps p.tables e below (T2.setTop (mkF m 89 #[.val (.int p1), .val (.int p2), .val (.int p3), .val (.int p4), .val (.int (p2 &&& (2147483647 : Int32))), .val (.int (0 : Int32)), .val (.long ((p1.toInt64 &&& (2147483647 : Int64)) - ((p1.toInt64 &&& (2147483647 : Int64)) / ((p2 &&& (2147483647 : Int32)).toInt64 + (1 : Int64))) * ((p2 &&& (2147483647 : Int32)).toInt64 + (1 : Int64)))), .second, .val (.int (0 : Int32)), .unset, .unset] [(.int (XT.ushr p4 (8 : Int32))), (.int (1 : Int32)), (.ref b1), (.ref b1)])) _
    refine XT.sipushV X2.here hx rfl (255 : Int32) (hb hby at_89) (by decide) ?_
    show Steps p.tables e below (T2.setTop (mkF m 92 #[.val (.int p1), .val (.int p2), .val (.int p3), .val (.int p4), .val (.int (p2 &&& (2147483647 : Int32))), .val (.int (0 : Int32)), .val (.long ((p1.toInt64 &&& (2147483647 : Int64)) - ((p1.toInt64 &&& (2147483647 : Int64)) / ((p2 &&& (2147483647 : Int32)).toInt64 + (1 : Int64))) * ((p2 &&& (2147483647 : Int32)).toInt64 + (1 : Int64)))), .second, .val (.int (0 : Int32)), .unset, .unset] [(.int (255 : Int32)), (.int (XT.ushr p4 (8 : Int32))), (.int (1 : Int32)), (.ref b1), (.ref b1)])) _
    refine XS.iand X2.here hx rfl (hb hby at_92) rfl ?_
    show Steps p.tables e below (T2.setTop (mkF m 93 #[.val (.int p1), .val (.int p2), .val (.int p3), .val (.int p4), .val (.int (p2 &&& (2147483647 : Int32))), .val (.int (0 : Int32)), .val (.long ((p1.toInt64 &&& (2147483647 : Int64)) - ((p1.toInt64 &&& (2147483647 : Int64)) / ((p2 &&& (2147483647 : Int32)).toInt64 + (1 : Int64))) * ((p2 &&& (2147483647 : Int32)).toInt64 + (1 : Int64)))), .second, .val (.int (0 : Int32)), .unset, .unset] [(.int ((XT.ushr p4 (8 : Int32)) &&& (255 : Int32))), (.int (1 : Int32)), (.ref b1), (.ref b1)])) _
    refine XT.i2c X2.here hx rfl (hb hby at_93) rfl ?_
    show Steps p.tables e below (T2.setTop (mkF m 94 #[.val (.int p1), .val (.int p2), .val (.int p3), .val (.int p4), .val (.int (p2 &&& (2147483647 : Int32))), .val (.int (0 : Int32)), .val (.long ((p1.toInt64 &&& (2147483647 : Int64)) - ((p1.toInt64 &&& (2147483647 : Int64)) / ((p2 &&& (2147483647 : Int32)).toInt64 + (1 : Int64))) * ((p2 &&& (2147483647 : Int32)).toInt64 + (1 : Int64)))), .second, .val (.int (0 : Int32)), .unset, .unset] [(.int ((XT.ushr p4 (8 : Int32)) &&& (255 : Int32)).toUInt32.toUInt16.toUInt32.toInt32), (.int (1 : Int32)), (.ref b1), (.ref b1)])) _
    refine st3 _ ?_
    show Steps p.tables e below (T3.setTop (mkF m 95 #[.val (.int p1), .val (.int p2), .val (.int p3), .val (.int p4), .val (.int (p2 &&& (2147483647 : Int32))), .val (.int (0 : Int32)), .val (.long ((p1.toInt64 &&& (2147483647 : Int64)) - ((p1.toInt64 &&& (2147483647 : Int64)) / ((p2 &&& (2147483647 : Int32)).toInt64 + (1 : Int64))) * ((p2 &&& (2147483647 : Int32)).toInt64 + (1 : Int64)))), .second, .val (.int (0 : Int32)), .unset, .unset] [(.ref b1)])) _
    refine XS.astore X3.here hx rfl (hb hby at_95) rfl rfl (l' := #[.val (.int p1), .val (.int p2), .val (.int p3), .val (.int p4), .val (.int (p2 &&& (2147483647 : Int32))), .val (.int (0 : Int32)), .val (.long ((p1.toInt64 &&& (2147483647 : Int64)) - ((p1.toInt64 &&& (2147483647 : Int64)) / ((p2 &&& (2147483647 : Int32)).toInt64 + (1 : Int64))) * ((p2 &&& (2147483647 : Int32)).toInt64 + (1 : Int64)))), .second, .val (.int (0 : Int32)), .val (.ref b1), .unset]) rfl ?_
    show Steps p.tables e below (T3.setTop (mkF m 97 #[.val (.int p1), .val (.int p2), .val (.int p3), .val (.int p4), .val (.int (p2 &&& (2147483647 : Int32))), .val (.int (0 : Int32)), .val (.long ((p1.toInt64 &&& (2147483647 : Int64)) - ((p1.toInt64 &&& (2147483647 : Int64)) / ((p2 &&& (2147483647 : Int32)).toInt64 + (1 : Int64))) * ((p2 &&& (2147483647 : Int32)).toInt64 + (1 : Int64)))), .second, .val (.int (0 : Int32)), .val (.ref b1), .unset] [])) _
    refine st4 _ ?_
    show Steps p.tables e below (T4.setTop (mkF m 100 #[.val (.int p1), .val (.int p2), .val (.int p3), .val (.int p4), .val (.int (p2 &&& (2147483647 : Int32))), .val (.int (0 : Int32)), .val (.long ((p1.toInt64 &&& (2147483647 : Int64)) - ((p1.toInt64 &&& (2147483647 : Int64)) / ((p2 &&& (2147483647 : Int32)).toInt64 + (1 : Int64))) * ((p2 &&& (2147483647 : Int32)).toInt64 + (1 : Int64)))), .second, .val (.int (0 : Int32)), .val (.ref b1), .unset] [(.ref b4)])) _
    refine XS.dup X4.here hx rfl (hb hby at_100) rfl rfl ?_
    show Steps p.tables e below (T4.setTop (mkF m 101 #[.val (.int p1), .val (.int p2), .val (.int p3), .val (.int p4), .val (.int (p2 &&& (2147483647 : Int32))), .val (.int (0 : Int32)), .val (.long ((p1.toInt64 &&& (2147483647 : Int64)) - ((p1.toInt64 &&& (2147483647 : Int64)) / ((p2 &&& (2147483647 : Int32)).toInt64 + (1 : Int64))) * ((p2 &&& (2147483647 : Int32)).toInt64 + (1 : Int64)))), .second, .val (.int (0 : Int32)), .val (.ref b1), .unset] [(.ref b4), (.ref b4)])) _
    refine XS.aload X4.here hx rfl (hb hby at_101) rfl rfl ?_
    show Steps p.tables e below (T4.setTop (mkF m 103 #[.val (.int p1), .val (.int p2), .val (.int p3), .val (.int p4), .val (.int (p2 &&& (2147483647 : Int32))), .val (.int (0 : Int32)), .val (.long ((p1.toInt64 &&& (2147483647 : Int64)) - ((p1.toInt64 &&& (2147483647 : Int64)) / ((p2 &&& (2147483647 : Int32)).toInt64 + (1 : Int64))) * ((p2 &&& (2147483647 : Int32)).toInt64 + (1 : Int64)))), .second, .val (.int (0 : Int32)), .val (.ref b1), .unset] [(.ref b1), (.ref b4), (.ref b4)])) _
    refine st8.trans ?_
    show Steps p.tables e below (T8.setTop (mkF m 106 #[.val (.int p1), .val (.int p2), .val (.int p3), .val (.int p4), .val (.int (p2 &&& (2147483647 : Int32))), .val (.int (0 : Int32)), .val (.long ((p1.toInt64 &&& (2147483647 : Int64)) - ((p1.toInt64 &&& (2147483647 : Int64)) / ((p2 &&& (2147483647 : Int32)).toInt64 + (1 : Int64))) * ((p2 &&& (2147483647 : Int32)).toInt64 + (1 : Int64)))), .second, .val (.int (0 : Int32)), .val (.ref b1), .unset] [(.ref b4)])) _
    refine XS.astore X8.here hx rfl (hb hby at_106) rfl rfl (l' := #[.val (.int p1), .val (.int p2), .val (.int p3), .val (.int p4), .val (.int (p2 &&& (2147483647 : Int32))), .val (.int (0 : Int32)), .val (.long ((p1.toInt64 &&& (2147483647 : Int64)) - ((p1.toInt64 &&& (2147483647 : Int64)) / ((p2 &&& (2147483647 : Int32)).toInt64 + (1 : Int64))) * ((p2 &&& (2147483647 : Int32)).toInt64 + (1 : Int64)))), .second, .val (.int (0 : Int32)), .val (.ref b1), .val (.ref b4)]) rfl ?_
    show Steps p.tables e below (T8.setTop (mkF m 108 #[.val (.int p1), .val (.int p2), .val (.int p3), .val (.int p4), .val (.int (p2 &&& (2147483647 : Int32))), .val (.int (0 : Int32)), .val (.long ((p1.toInt64 &&& (2147483647 : Int64)) - ((p1.toInt64 &&& (2147483647 : Int64)) / ((p2 &&& (2147483647 : Int32)).toInt64 + (1 : Int64))) * ((p2 &&& (2147483647 : Int32)).toInt64 + (1 : Int64)))), .second, .val (.int (0 : Int32)), .val (.ref b1), .val (.ref b4)] [])) _
    refine XS.iload X8.here hx rfl (hb hby at_108) rfl ?_
    show Steps p.tables e below (T8.setTop (mkF m 110 #[.val (.int p1), .val (.int p2), .val (.int p3), .val (.int p4), .val (.int (p2 &&& (2147483647 : Int32))), .val (.int (0 : Int32)), .val (.long ((p1.toInt64 &&& (2147483647 : Int64)) - ((p1.toInt64 &&& (2147483647 : Int64)) / ((p2 &&& (2147483647 : Int32)).toInt64 + (1 : Int64))) * ((p2 &&& (2147483647 : Int32)).toInt64 + (1 : Int64)))), .second, .val (.int (0 : Int32)), .val (.ref b1), .val (.ref b4)] [(.int (0 : Int32))])) _
    refine XS.iload X8.here hx rfl (hb hby at_110) rfl ?_
    show Steps p.tables e below (T8.setTop (mkF m 112 #[.val (.int p1), .val (.int p2), .val (.int p3), .val (.int p4), .val (.int (p2 &&& (2147483647 : Int32))), .val (.int (0 : Int32)), .val (.long ((p1.toInt64 &&& (2147483647 : Int64)) - ((p1.toInt64 &&& (2147483647 : Int64)) / ((p2 &&& (2147483647 : Int32)).toInt64 + (1 : Int64))) * ((p2 &&& (2147483647 : Int32)).toInt64 + (1 : Int64)))), .second, .val (.int (0 : Int32)), .val (.ref b1), .val (.ref b4)] [(.int (p2 &&& (2147483647 : Int32))), (.int (0 : Int32))])) _
    refine XS.aload X8.here hx rfl (hb hby at_112) rfl rfl ?_
    show Steps p.tables e below (T8.setTop (mkF m 114 #[.val (.int p1), .val (.int p2), .val (.int p3), .val (.int p4), .val (.int (p2 &&& (2147483647 : Int32))), .val (.int (0 : Int32)), .val (.long ((p1.toInt64 &&& (2147483647 : Int64)) - ((p1.toInt64 &&& (2147483647 : Int64)) / ((p2 &&& (2147483647 : Int32)).toInt64 + (1 : Int64))) * ((p2 &&& (2147483647 : Int32)).toInt64 + (1 : Int64)))), .second, .val (.int (0 : Int32)), .val (.ref b1), .val (.ref b4)] [(.ref b4), (.int (p2 &&& (2147483647 : Int32))), (.int (0 : Int32))])) _
    refine st11 _ ?_
    show Steps p.tables e below (T11.setTop (mkF m 117 #[.val (.int p1), .val (.int p2), .val (.int p3), .val (.int p4), .val (.int (p2 &&& (2147483647 : Int32))), .val (.int (0 : Int32)), .val (.long ((p1.toInt64 &&& (2147483647 : Int64)) - ((p1.toInt64 &&& (2147483647 : Int64)) / ((p2 &&& (2147483647 : Int32)).toInt64 + (1 : Int64))) * ((p2 &&& (2147483647 : Int32)).toInt64 + (1 : Int64)))), .second, .val (.int (0 : Int32)), .val (.ref b1), .val (.ref b4)] [(.int (0 : Int32))])) _
    refine XS.iload X11.here hx rfl (hb hby at_117) rfl ?_
    show Steps p.tables e below (T11.setTop (mkF m 119 #[.val (.int p1), .val (.int p2), .val (.int p3), .val (.int p4), .val (.int (p2 &&& (2147483647 : Int32))), .val (.int (0 : Int32)), .val (.long ((p1.toInt64 &&& (2147483647 : Int64)) - ((p1.toInt64 &&& (2147483647 : Int64)) / ((p2 &&& (2147483647 : Int32)).toInt64 + (1 : Int64))) * ((p2 &&& (2147483647 : Int32)).toInt64 + (1 : Int64)))), .second, .val (.int (0 : Int32)), .val (.ref b1), .val (.ref b4)] [(.int (0 : Int32)), (.int (0 : Int32))])) _
    refine XS.icmpNo X11.here hx rfl (hb hby at_119) rfl (by decide) ?_
    show Steps p.tables e below (T11.setTop (mkF m 122 #[.val (.int p1), .val (.int p2), .val (.int p3), .val (.int p4), .val (.int (p2 &&& (2147483647 : Int32))), .val (.int (0 : Int32)), .val (.long ((p1.toInt64 &&& (2147483647 : Int64)) - ((p1.toInt64 &&& (2147483647 : Int64)) / ((p2 &&& (2147483647 : Int32)).toInt64 + (1 : Int64))) * ((p2 &&& (2147483647 : Int32)).toInt64 + (1 : Int64)))), .second, .val (.int (0 : Int32)), .val (.ref b1), .val (.ref b4)] [])) _
    refine XT.iconstV X11.here hx rfl (1 : Int32) (hb hby at_122) rfl ?_
    show Steps p.tables e below (T11.setTop (mkF m 123 #[.val (.int p1), .val (.int p2), .val (.int p3), .val (.int p4), .val (.int (p2 &&& (2147483647 : Int32))), .val (.int (0 : Int32)), .val (.long ((p1.toInt64 &&& (2147483647 : Int64)) - ((p1.toInt64 &&& (2147483647 : Int64)) / ((p2 &&& (2147483647 : Int32)).toInt64 + (1 : Int64))) * ((p2 &&& (2147483647 : Int32)).toInt64 + (1 : Int64)))), .second, .val (.int (0 : Int32)), .val (.ref b1), .val (.ref b4)] [(.int (1 : Int32))])) _
    refine XS.goto X11.here hx rfl (pc0 := 123) (pc' := 127) rfl (hb hby at_123) (by decide) (by decide) ?_
    show Steps p.tables e below (T11.setTop (mkF m 127 #[.val (.int p1), .val (.int p2), .val (.int p3), .val (.int p4), .val (.int (p2 &&& (2147483647 : Int32))), .val (.int (0 : Int32)), .val (.long ((p1.toInt64 &&& (2147483647 : Int64)) - ((p1.toInt64 &&& (2147483647 : Int64)) / ((p2 &&& (2147483647 : Int32)).toInt64 + (1 : Int64))) * ((p2 &&& (2147483647 : Int32)).toInt64 + (1 : Int64)))), .second, .val (.int (0 : Int32)), .val (.ref b1), .val (.ref b4)] [(.int (1 : Int32))])) _
    exact retN X11 hx (t := .boolean) Bd.returns (by simp) (hb hby at_127) hr
  · show own_Q0 n0 _ T11.heap _
    exact ⟨rfl, N11⟩
set_option maxRecDepth 65536 in
set_option maxHeartbeats 40000000 in
theorem own_law_1 (l : Launch) (Z : State) (a0 : Array Value) (hw : ∀ d ∈ tables_1, d.before a0 Z = true) (ws : List Jvm.Cond) (p1 p2 p3 p4 i7 : Int32) (h0 : Heap) (n0 : Nat) (Z0 : n0 ≤ h0.size) (S8 : Sta Z h0 "java/lang/String" "COMPACT_STRINGS" "Z" (.int i7)) (c9 : ¬ (i7 = (0 : Int32))) (hk : (p3 &&& (3 : Int32)) = (1 : Int32)) (hD : ((p2 &&& (2147483647 : Int32)).toInt64 + (1 : Int64)) ≠ 0) (hv1 : ¬ (p2 &&& (2147483647 : Int32)) < 0) (hv2 : ¬ (p2 &&& (2147483647 : Int32)) < (p2 &&& (2147483647 : Int32))) :
    MetFree l x (head1 (Jvm.Cond.code x code maxLocals ret :: ws) room_1) (fun a U => a = #[(.int p1), (.int p2), (.int p3), (.int p4)] ∧ Z.Warmed39 U.vm ∧ U.heap = h0) (fun _ _ _ _ _ => True) (fun _ U o U' => ∃ v L, o = .returned v ∧ own_Q0 n0 v U'.heap L ∧ FrameEnd U o U' L room_1.cells room_1.slots) := by
  refine MetFree.of_bodySF (plainFor_of_name pn_com_example_plimsoll_plimsoll_model_FieldsUnsignedPinLaw) hisR ?_
  intro p e s m args below meth c s₁ Bd hml0 hP hK
  obtain ⟨rfl, hZ, hh⟩ := hP
  have hx := Bd.exec
  have hby := Bd.bytes
  have hml : c.maxLocals = 11 := hml0
  have hown : s.vm.findClass "com/example/plimsoll/plimsoll/model/FieldsUnsignedPinLaw" = some m.cls := findClass_of_methodNamed Bd.named
  have hnm := (name_of_methodNamed Bd.named Bd.method).1
  have X0 : Stand p l e room_1 s m #[(.int p1), (.int p2), (.int p3), (.int p4)] below meth c s₁ [] 0 0 := Stand.of_body Bd
  have e0 : s₁.heap = h0 := by rw [← hh, Bd.state]; rfl
  have N0 := Fr.nil n0
  have pre0 : ∀ t, Steps p.tables e below (s₁.setTop (mkF m 0 #[.val (.int p1), .val (.int p2), .val (.int p3), .val (.int p4), .unset, .unset, .unset, .unset, .unset, .unset, .unset] [])) t → Steps p.tables e below (s₁.setTop (entryFrame m #[(.int p1), (.int p2), (.int p3), (.int p4)] maxLocals)) t := fun t k => castTop (ef_code_IIII m p1 p2 p3 p4) k
  obtain ⟨T12, h12, k12, X12, e12, E12, A12, st12⟩ := newP X0 hx hZ (hw _ (List.mem_of_getElem? (i := 2) rfl)) e0 (g := (mkF m 72 #[.val (.int p1), .val (.int p2), .val (.int p3), .val (.int p4), .val (.int (p2 &&& (2147483647 : Int32))), .val (.int (1 : Int32)), .val (.long ((p1.toInt64 &&& (2147483647 : Int64)) - ((p1.toInt64 &&& (2147483647 : Int64)) / ((p2 &&& (2147483647 : Int32)).toInt64 + (1 : Int64))) * ((p2 &&& (2147483647 : Int32)).toInt64 + (1 : Int64)))), .second, .val (.int (p2 &&& (2147483647 : Int32))), .unset, .unset] [(.int (2 : Int32))])) rfl (hb hby at_72) rfl (by decide) (cap := 2) (by decide) (by decide) (by decide) (by decide)
  obtain ⟨b12, g12⟩ : ∃ z, z = h0.size := ⟨_, rfl⟩
  rw [← g12] at A12 st12
  have V12 : Arv Z h12 b12 k12 .char (2 : Int32) (List.replicate 2 (.int (0 : Int32))) (.int (0 : Int32)) := (Arv.new A12 (by decide)).pad (fun i => pad_rep [] (.int (0 : Int32)) 2 i)
  have q12 : h0.size ≤ b12 := by rw [g12]; exact Nat.le_refl _
  have EX12 : Ext h0 h12 := E12
  have Z12 : n0 ≤ h12.size := Nat.le_trans Z0 EX12.1
  obtain ⟨T13, h13, X13, e13, W13, V13, st13⟩ := own_stC X12 hx hZ e12 V12 (j := (0 : Int32)) (by decide) (i := 0) (by decide) (by simp) (g := (mkF m 82 #[.val (.int p1), .val (.int p2), .val (.int p3), .val (.int p4), .val (.int (p2 &&& (2147483647 : Int32))), .val (.int (1 : Int32)), .val (.long ((p1.toInt64 &&& (2147483647 : Int64)) - ((p1.toInt64 &&& (2147483647 : Int64)) / ((p2 &&& (2147483647 : Int32)).toInt64 + (1 : Int64))) * ((p2 &&& (2147483647 : Int32)).toInt64 + (1 : Int64)))), .second, .val (.int (p2 &&& (2147483647 : Int32))), .unset, .unset] [(.int (p4 &&& (255 : Int32)).toUInt32.toUInt16.toUInt32.toInt32), (.int (0 : Int32)), (.ref b12), (.ref b12)])) rfl rfl (hb hby at_82)
  have EX13 : Ext h0 h13 := own_ext_wr EX12 W13 q12
  have Z13 : n0 ≤ h13.size := Nat.le_trans Z0 EX13.1
  have N13 := Fr.snoc X13 N0 (Nat.le_trans Z0 q12)
  obtain ⟨T14, h14, X14, e14, W14, V14, st14⟩ := own_stC X13 hx hZ e13 V13 (j := (1 : Int32)) (by decide) (i := 1) (by decide) (by simp) (g := (mkF m 94 #[.val (.int p1), .val (.int p2), .val (.int p3), .val (.int p4), .val (.int (p2 &&& (2147483647 : Int32))), .val (.int (1 : Int32)), .val (.long ((p1.toInt64 &&& (2147483647 : Int64)) - ((p1.toInt64 &&& (2147483647 : Int64)) / ((p2 &&& (2147483647 : Int32)).toInt64 + (1 : Int64))) * ((p2 &&& (2147483647 : Int32)).toInt64 + (1 : Int64)))), .second, .val (.int (p2 &&& (2147483647 : Int32))), .unset, .unset] [(.int ((XT.ushr p4 (8 : Int32)) &&& (255 : Int32)).toUInt32.toUInt16.toUInt32.toInt32), (.int (1 : Int32)), (.ref b12), (.ref b12)])) rfl rfl (hb hby at_94)
  have EX14 : Ext h0 h14 := own_ext_wr EX13 W14 q12
  have Z14 : n0 ≤ h14.size := Nat.le_trans Z0 EX14.1
  have N14 := Fr.snoc X14 N13 (Nat.le_trans Z0 q12)
  obtain ⟨T15, h15, X15, e15, E15, A15, D15, -, st15⟩ := newO X14 hx hZ hown (hw _ (List.mem_of_getElem? (i := 3) rfl)) (hw _ (List.mem_of_getElem? (i := 4) rfl)) (hw _ (List.mem_of_getElem? (i := 5) rfl)) e14 (g := (mkF m 97 #[.val (.int p1), .val (.int p2), .val (.int p3), .val (.int p4), .val (.int (p2 &&& (2147483647 : Int32))), .val (.int (1 : Int32)), .val (.long ((p1.toInt64 &&& (2147483647 : Int64)) - ((p1.toInt64 &&& (2147483647 : Int64)) / ((p2 &&& (2147483647 : Int32)).toInt64 + (1 : Int64))) * ((p2 &&& (2147483647 : Int32)).toInt64 + (1 : Int64)))), .second, .val (.int (p2 &&& (2147483647 : Int32))), .val (.ref b12), .unset] [])) rfl (hb hby at_97) (by decide) (by decide)
  obtain ⟨b15, g15⟩ : ∃ z, z = h14.size := ⟨_, rfl⟩
  rw [← g15] at A15 D15 st15
  have q15 : h0.size ≤ b15 := by rw [g15]; exact EX14.1
  have ne_b12_b15 : b12 ≠ b15 := by rw [g15]; exact Nat.ne_of_lt V14.lt
  have V14_16 := V14.ext E15
  have EX15 : Ext h0 h15 := own_ext_trans EX14 E15
  have Z15 : n0 ≤ h15.size := Nat.le_trans Z0 EX15.1
  have Fcoder_17 : Fld Z h15 b15 "java/lang/String" "coder" "B" (.int (0 : Int32)) := D15 (Or.inr (hw _ (List.mem_of_getElem? (i := 29) rfl))) (ty := .byte) (by decide)
  have Fvalue_18 : Fld Z h15 b15 "java/lang/String" "value" "[B" .null := D15 (Or.inr (hw _ (List.mem_of_getElem? (i := 31) rfl))) (ty := (.array .byte)) (by decide)
  have V19c : Arv Z h15 b12 k12 .char (2 : Int32) [(.int (nar .char (p4 &&& (255 : Int32)).toUInt32.toUInt16.toUInt32.toInt32)), (.int (nar .char ((XT.ushr p4 (8 : Int32)) &&& (255 : Int32)).toUInt32.toUInt16.toUInt32.toInt32))] (.int (0 : Int32)) := V14_16
  have hws19 : ∀ d ∈ StrChars.Road.words, d.before a0 Z = true := fun d hd => hw d ((by decide +kernel : ∀ d ∈ StrChars.Road.words, d ∈ tables_1) d hd)
  have hlat19 : ∀ c ∈ [(nar .char (p4 &&& (255 : Int32)).toUInt32.toUInt16.toUInt32.toInt32), (nar .char ((XT.ushr p4 (8 : Int32)) &&& (255 : Int32)).toUInt32.toUInt16.toUInt32.toInt32)], ¬ c < 0 ∧ ¬ (255 : Int32) < c := by
    intro c hc
    simp only [List.mem_cons, List.not_mem_nil, or_false] at hc
    rcases hc with rfl | rfl
    · rw [own_nar]; exact own_lat _
    · rw [own_nar]; exact own_lat _
  obtain ⟨_, _, ⟨T19, L19, k19, n19⟩, -, X19, ⟨Lc19, hQ19, l19, y19, z19⟩, st19⟩ := X15.specialBack hx (y := (⟨"java/lang/String", "<init>", "([C)V"⟩ : MethodName)) rfl hown (mvT hZ (hw _ (List.mem_of_getElem? (i := 6) rfl))) (mvT hZ (hw _ (List.mem_of_getElem? (i := 7) rfl))) (mvT hZ (hw _ (List.mem_of_getElem? (i := 8) rfl))) (by decide) (StrChars.Road.backV (W := 1) hZ hws19 (kI := 4) (hw _ (List.mem_of_getElem? (i := 4) rfl)) (cs := [(nar .char (p4 &&& (255 : Int32)).toUInt32.toUInt16.toUInt32.toInt32), (nar .char ((XT.ushr p4 (8 : Int32)) &&& (255 : Int32)).toUInt32.toUInt16.toUInt32.toInt32)]) (bs := [(nar .char (p4 &&& (255 : Int32)).toUInt32.toUInt16.toUInt32.toInt32).toInt8.toInt32, (nar .char ((XT.ushr p4 (8 : Int32)) &&& (255 : Int32)).toUInt32.toUInt16.toUInt32.toInt32).toInt8.toInt32]) (n := 2) (Nat.le_trans Z0 q15) Z15 A15 Fvalue_18 Fcoder_17 V19c (S8.ext EX15) c9 rfl rfl (by decide) (by decide) hlat19 rfl (by decide) (by decide)) (g := (mkF m 103 #[.val (.int p1), .val (.int p2), .val (.int p3), .val (.int p4), .val (.int (p2 &&& (2147483647 : Int32))), .val (.int (1 : Int32)), .val (.long ((p1.toInt64 &&& (2147483647 : Int64)) - ((p1.toInt64 &&& (2147483647 : Int64)) / ((p2 &&& (2147483647 : Int32)).toInt64 + (1 : Int64))) * ((p2 &&& (2147483647 : Int32)).toInt64 + (1 : Int64)))), .second, .val (.int (p2 &&& (2147483647 : Int32))), .val (.ref b12), .unset] [(.ref b12), (.ref b15), (.ref b15)])) rfl (by rw [hml]; rfl) (Steps.refl _) (a := b15) (argsL := [(.ref b12)]) (rest := [(.ref b15)]) (lenOf pd__ArC_V rfl) rfl (by show 2 * 0 + _ ≤ _; exact Nat.le_of_eq rfl) (hb hby at_103) (fun _ _ => ⟨rfl, e15, (by decide : 2 + 1 ≤ _), (by decide : 6 + 2 ≤ _)⟩)
  dsimp only [Pt.U, Pt.locs, Pt.cells, Pt.slots] at X19 l19 y19 z19 st19 hQ19
  subst l19 y19 z19
  obtain ⟨rfl, N19q, K19q, E19s, C19s, t19s, kb19s, qn19s, qh19s, qx19s, V19s, B19s⟩ := hQ19
  have N19 := Fr.app N14 N19q
  have q19s : h0.size ≤ t19s := Nat.le_trans EX15.1 qh19s
  have ne_b12_t19s : b12 ≠ t19s := Nat.ne_of_lt (Nat.lt_of_lt_of_le V14_16.lt qh19s)
  have V14_20 := V14_16.keep K19q (ninS ne_b12_b15 nin0)
  have A15_21 := A15.keep K19q
  have EX19 : Ext h0 T19.heap := own_ext_keep EX15 K19q (allS q15 all0)
  have Z19 : n0 ≤ T19.heap.size := Nat.le_trans Z0 EX19.1
  obtain ⟨_, _, ⟨T22, L22, k22, n22⟩, -, X22, ⟨Lc22, hQ22, l22, y22, z22⟩, st22⟩ := Jvm.LawKit.callS X19 hx (y := (⟨"com/example/plimsoll/plimsoll/model/Fields", "unsigned", "(IILjava/lang/String;)I"⟩ : MethodName)) hown (mvT hZ (hw _ (List.mem_of_getElem? (i := 32) rfl))) (mvT hZ (hw _ (List.mem_of_getElem? (i := 33) rfl))) (mvT hZ (hw _ (List.mem_of_getElem? (i := 34) rfl))) (mvT hZ (hw _ (List.mem_of_getElem? (i := 35) rfl))) (by decide) (backOf (W := 0) (own_unsigned l Z a0 hw [] (p2 &&& (2147483647 : Int32)) (p2 &&& (2147483647 : Int32)) b15 T19.heap n0 Z19 hv1 hv2) hZ (hw _ (List.mem_of_getElem? (i := 35) rfl)) (hw _ (List.mem_of_getElem? (i := 34) rfl)) (by decide) (by decide)) (g := (mkF m 114 #[.val (.int p1), .val (.int p2), .val (.int p3), .val (.int p4), .val (.int (p2 &&& (2147483647 : Int32))), .val (.int (1 : Int32)), .val (.long ((p1.toInt64 &&& (2147483647 : Int64)) - ((p1.toInt64 &&& (2147483647 : Int64)) / ((p2 &&& (2147483647 : Int32)).toInt64 + (1 : Int64))) * ((p2 &&& (2147483647 : Int32)).toInt64 + (1 : Int64)))), .second, .val (.int (p2 &&& (2147483647 : Int32))), .val (.ref b12), .val (.ref b15)] [(.ref b15), (.int (p2 &&& (2147483647 : Int32))), (.int (p2 &&& (2147483647 : Int32)))])) rfl (by rw [hml]; rfl) (argsL := [(.int (p2 &&& (2147483647 : Int32))), (.int (p2 &&& (2147483647 : Int32))), (.ref b15)]) (rest := []) (lenOf pd__IILjava_lang_String__I rfl) rfl (by show 2 * 0 + _ ≤ _; exact Nat.le_of_eq rfl) (hb hby at_114) (fun _ _ => ⟨rfl, rfl, (by decide : 3 + 0 ≤ _), (by decide : 8 + 0 ≤ _)⟩)
  dsimp only [Pt.U, Pt.locs, Pt.cells, Pt.slots] at X22 l22 y22 z22 st22 hQ22
  subst l22 y22 z22
  obtain ⟨rfl, N22q, e22⟩ := hQ22
  have N22 := Fr.app N19 N22q
  obtain ⟨fs, hr, hrun, hended, hW, hsame⟩ := X22.leave (v := some (.int (1 : Int32))) (fun h => by rw [Bd.returns] at h; cases h)
  refine ⟨_, _, pre0 _ ?_, hrun, hended, _, _, rfl, ?_, ⟨_, rfl⟩, hW, hsame.mono (by decide) (by decide)⟩
  · show Steps p.tables e below (s₁.setTop (mkF m 0 #[.val (.int p1), .val (.int p2), .val (.int p3), .val (.int p4), .unset, .unset, .unset, .unset, .unset, .unset, .unset] [])) _
    refine XS.iloadN X0.here hx rfl (hb hby at_0) rfl ?_
    show Steps p.tables e below (s₁.setTop (mkF m 1 #[.val (.int p1), .val (.int p2), .val (.int p3), .val (.int p4), .unset, .unset, .unset, .unset, .unset, .unset, .unset] [(.int p2)])) _
    refine Jvm.Stand.ldcI X0 hx hown (mvT hZ (hw _ (List.mem_of_getElem? (i := 0) rfl))) rfl (hb hby at_1) ?_
    show Steps p.tables e below (s₁.setTop (mkF m 3 #[.val (.int p1), .val (.int p2), .val (.int p3), .val (.int p4), .unset, .unset, .unset, .unset, .unset, .unset, .unset] [(.int (2147483647 : Int32)), (.int p2)])) _
    refine XS.iand X0.here hx rfl (hb hby at_3) rfl ?_
    show Steps p.tables e below (s₁.setTop (mkF m 4 #[.val (.int p1), .val (.int p2), .val (.int p3), .val (.int p4), .unset, .unset, .unset, .unset, .unset, .unset, .unset] [(.int (p2 &&& (2147483647 : Int32)))])) _
    refine XS.istore X0.here hx rfl (hb hby at_4) rfl (l' := #[.val (.int p1), .val (.int p2), .val (.int p3), .val (.int p4), .val (.int (p2 &&& (2147483647 : Int32))), .unset, .unset, .unset, .unset, .unset, .unset]) rfl ?_
    show Steps p.tables e below (s₁.setTop (mkF m 6 #[.val (.int p1), .val (.int p2), .val (.int p3), .val (.int p4), .val (.int (p2 &&& (2147483647 : Int32))), .unset, .unset, .unset, .unset, .unset, .unset] [])) _
    refine XS.iloadN X0.here hx rfl (hb hby at_6) rfl ?_
    show Steps p.tables e below (s₁.setTop (mkF m 7 #[.val (.int p1), .val (.int p2), .val (.int p3), .val (.int p4), .val (.int (p2 &&& (2147483647 : Int32))), .unset, .unset, .unset, .unset, .unset, .unset] [(.int p3)])) _
    refine XT.iconstV X0.here hx rfl (3 : Int32) (hb hby at_7) rfl ?_
    show Steps p.tables e below (s₁.setTop (mkF m 8 #[.val (.int p1), .val (.int p2), .val (.int p3), .val (.int p4), .val (.int (p2 &&& (2147483647 : Int32))), .unset, .unset, .unset, .unset, .unset, .unset] [(.int (3 : Int32)), (.int p3)])) _
    refine XS.iand X0.here hx rfl (hb hby at_8) rfl ?_
    show Steps p.tables e below (s₁.setTop (mkF m 9 #[.val (.int p1), .val (.int p2), .val (.int p3), .val (.int p4), .val (.int (p2 &&& (2147483647 : Int32))), .unset, .unset, .unset, .unset, .unset, .unset] [(.int (p3 &&& (3 : Int32)))])) _
    rw [hk]
    show Steps p.tables e below (s₁.setTop (mkF m 9 #[.val (.int p1), .val (.int p2), .val (.int p3), .val (.int p4), .val (.int (p2 &&& (2147483647 : Int32))), .unset, .unset, .unset, .unset, .unset, .unset] [(.int (1 : Int32))])) _
    refine XS.istore X0.here hx rfl (hb hby at_9) rfl (l' := #[.val (.int p1), .val (.int p2), .val (.int p3), .val (.int p4), .val (.int (p2 &&& (2147483647 : Int32))), .val (.int (1 : Int32)), .unset, .unset, .unset, .unset, .unset]) rfl ?_
    show Steps p.tables e below (s₁.setTop (mkF m 11 #[.val (.int p1), .val (.int p2), .val (.int p3), .val (.int p4), .val (.int (p2 &&& (2147483647 : Int32))), .val (.int (1 : Int32)), .unset, .unset, .unset, .unset, .unset] [])) _
    refine XS.iloadN X0.here hx rfl (hb hby at_11) rfl ?_
    show Steps p.tables e below (s₁.setTop (mkF m 12 #[.val (.int p1), .val (.int p2), .val (.int p3), .val (.int p4), .val (.int (p2 &&& (2147483647 : Int32))), .val (.int (1 : Int32)), .unset, .unset, .unset, .unset, .unset] [(.int p1)])) _
    refine XT.i2l X0.here hx rfl (hb hby at_12) rfl ?_
    show Steps p.tables e below (s₁.setTop (mkF m 13 #[.val (.int p1), .val (.int p2), .val (.int p3), .val (.int p4), .val (.int (p2 &&& (2147483647 : Int32))), .val (.int (1 : Int32)), .unset, .unset, .unset, .unset, .unset] [(.long p1.toInt64)])) _
    refine Jvm.Stand.ldc2J X0 hx hown (mvT hZ (hw _ (List.mem_of_getElem? (i := 1) rfl))) rfl (hb hby at_13) ?_
    show Steps p.tables e below (s₁.setTop (mkF m 16 #[.val (.int p1), .val (.int p2), .val (.int p3), .val (.int p4), .val (.int (p2 &&& (2147483647 : Int32))), .val (.int (1 : Int32)), .unset, .unset, .unset, .unset, .unset] [(.long (2147483647 : Int64)), (.long p1.toInt64)])) _
    refine XT.land X0.here hx rfl (hb hby at_16) rfl ?_
    show Steps p.tables e below (s₁.setTop (mkF m 17 #[.val (.int p1), .val (.int p2), .val (.int p3), .val (.int p4), .val (.int (p2 &&& (2147483647 : Int32))), .val (.int (1 : Int32)), .unset, .unset, .unset, .unset, .unset] [(.long (p1.toInt64 &&& (2147483647 : Int64)))])) _
    refine XS.iload X0.here hx rfl (hb hby at_17) rfl ?_
    show Steps p.tables e below (s₁.setTop (mkF m 19 #[.val (.int p1), .val (.int p2), .val (.int p3), .val (.int p4), .val (.int (p2 &&& (2147483647 : Int32))), .val (.int (1 : Int32)), .unset, .unset, .unset, .unset, .unset] [(.int (p2 &&& (2147483647 : Int32))), (.long (p1.toInt64 &&& (2147483647 : Int64)))])) _
    refine XT.i2l X0.here hx rfl (hb hby at_19) rfl ?_
    show Steps p.tables e below (s₁.setTop (mkF m 20 #[.val (.int p1), .val (.int p2), .val (.int p3), .val (.int p4), .val (.int (p2 &&& (2147483647 : Int32))), .val (.int (1 : Int32)), .unset, .unset, .unset, .unset, .unset] [(.long (p2 &&& (2147483647 : Int32)).toInt64), (.long (p1.toInt64 &&& (2147483647 : Int64)))])) _
    refine XT.lconstV X0.here hx rfl (1 : Int64) (hb hby at_20) rfl ?_
    show Steps p.tables e below (s₁.setTop (mkF m 21 #[.val (.int p1), .val (.int p2), .val (.int p3), .val (.int p4), .val (.int (p2 &&& (2147483647 : Int32))), .val (.int (1 : Int32)), .unset, .unset, .unset, .unset, .unset] [(.long (1 : Int64)), (.long (p2 &&& (2147483647 : Int32)).toInt64), (.long (p1.toInt64 &&& (2147483647 : Int64)))])) _
    refine XT.ladd X0.here hx rfl (hb hby at_21) rfl ?_
    show Steps p.tables e below (s₁.setTop (mkF m 22 #[.val (.int p1), .val (.int p2), .val (.int p3), .val (.int p4), .val (.int (p2 &&& (2147483647 : Int32))), .val (.int (1 : Int32)), .unset, .unset, .unset, .unset, .unset] [(.long ((p2 &&& (2147483647 : Int32)).toInt64 + (1 : Int64))), (.long (p1.toInt64 &&& (2147483647 : Int64)))])) _
    refine XT.lrem X0.here hx rfl (hb hby at_22) rfl hD ?_
    show Steps p.tables e below (s₁.setTop (mkF m 23 #[.val (.int p1), .val (.int p2), .val (.int p3), .val (.int p4), .val (.int (p2 &&& (2147483647 : Int32))), .val (.int (1 : Int32)), .unset, .unset, .unset, .unset, .unset] [(.long ((p1.toInt64 &&& (2147483647 : Int64)) - ((p1.toInt64 &&& (2147483647 : Int64)) / ((p2 &&& (2147483647 : Int32)).toInt64 + (1 : Int64))) * ((p2 &&& (2147483647 : Int32)).toInt64 + (1 : Int64))))])) _
    refine XT.lstore X0.here hx rfl (hb hby at_23) rfl (l' := #[.val (.int p1), .val (.int p2), .val (.int p3), .val (.int p4), .val (.int (p2 &&& (2147483647 : Int32))), .val (.int (1 : Int32)), .val (.long ((p1.toInt64 &&& (2147483647 : Int64)) - ((p1.toInt64 &&& (2147483647 : Int64)) / ((p2 &&& (2147483647 : Int32)).toInt64 + (1 : Int64))) * ((p2 &&& (2147483647 : Int32)).toInt64 + (1 : Int64)))), .second, .unset, .unset, .unset]) rfl ?_
    show Steps p.tables e below (s₁.setTop (mkF m 25 #[.val (.int p1), .val (.int p2), .val (.int p3), .val (.int p4), .val (.int (p2 &&& (2147483647 : Int32))), .val (.int (1 : Int32)), .val (.long ((p1.toInt64 &&& (2147483647 : Int64)) - ((p1.toInt64 &&& (2147483647 : Int64)) / ((p2 &&& (2147483647 : Int32)).toInt64 + (1 : Int64))) * ((p2 &&& (2147483647 : Int32)).toInt64 + (1 : Int64)))), .second, .unset, .unset, .unset] [])) _
    refine XS.iload X0.here hx rfl (hb hby at_25) rfl ?_
    show Steps p.tables e below (s₁.setTop (mkF m 27 #[.val (.int p1), .val (.int p2), .val (.int p3), .val (.int p4), .val (.int (p2 &&& (2147483647 : Int32))), .val (.int (1 : Int32)), .val (.long ((p1.toInt64 &&& (2147483647 : Int64)) - ((p1.toInt64 &&& (2147483647 : Int64)) / ((p2 &&& (2147483647 : Int32)).toInt64 + (1 : Int64))) * ((p2 &&& (2147483647 : Int32)).toInt64 + (1 : Int64)))), .second, .unset, .unset, .unset] [(.int (1 : Int32))])) _
    refine XS.ifYes X0.here hx rfl (pc0 := 27) (pc' := 36) rfl (hb hby at_27) rfl (by decide) (by decide) (by decide) ?_
    show Steps p.tables e below (s₁.setTop (mkF m 36 #[.val (.int p1), .val (.int p2), .val (.int p3), .val (.int p4), .val (.int (p2 &&& (2147483647 : Int32))), .val (.int (1 : Int32)), .val (.long ((p1.toInt64 &&& (2147483647 : Int64)) - ((p1.toInt64 &&& (2147483647 : Int64)) / ((p2 &&& (2147483647 : Int32)).toInt64 + (1 : Int64))) * ((p2 &&& (2147483647 : Int32)).toInt64 + (1 : Int64)))), .second, .unset, .unset, .unset] [])) _
    refine XS.iload X0.here hx rfl (hb hby at_36) rfl ?_
    show Steps p.tables e below (s₁.setTop (mkF m 38 #[.val (.int p1), .val (.int p2), .val (.int p3), .val (.int p4), .val (.int (p2 &&& (2147483647 : Int32))), .val (.int (1 : Int32)), .val (.long ((p1.toInt64 &&& (2147483647 : Int64)) - ((p1.toInt64 &&& (2147483647 : Int64)) / ((p2 &&& (2147483647 : Int32)).toInt64 + (1 : Int64))) * ((p2 &&& (2147483647 : Int32)).toInt64 + (1 : Int64)))), .second, .unset, .unset, .unset] [(.int (1 : Int32))])) _
    refine XT.iconstV X0.here hx rfl (1 : Int32) (hb hby at_38) rfl ?_
    show Steps p.tables e below (s₁.setTop (mkF m 39 #[.val (.int p1), .val (.int p2), .val (.int p3), .val (.int p4), .val (.int (p2 &&& (2147483647 : Int32))), .val (.int (1 : Int32)), .val (.long ((p1.toInt64 &&& (2147483647 : Int64)) - ((p1.toInt64 &&& (2147483647 : Int64)) / ((p2 &&& (2147483647 : Int32)).toInt64 + (1 : Int64))) * ((p2 &&& (2147483647 : Int32)).toInt64 + (1 : Int64)))), .second, .unset, .unset, .unset] [(.int (1 : Int32)), (.int (1 : Int32))])) _
    refine XS.icmpNo X0.here hx rfl (hb hby at_39) rfl (by decide) ?_
    show Steps p.tables e below (s₁.setTop (mkF m 42 #[.val (.int p1), .val (.int p2), .val (.int p3), .val (.int p4), .val (.int (p2 &&& (2147483647 : Int32))), .val (.int (1 : Int32)), .val (.long ((p1.toInt64 &&& (2147483647 : Int64)) - ((p1.toInt64 &&& (2147483647 : Int64)) / ((p2 &&& (2147483647 : Int32)).toInt64 + (1 : Int64))) * ((p2 &&& (2147483647 : Int32)).toInt64 + (1 : Int64)))), .second, .unset, .unset, .unset] [])) _
    refine XS.iload X0.here hx rfl (hb hby at_42) rfl ?_
    show Steps p.tables e below (s₁.setTop (mkF m 44 #[.val (.int p1), .val (.int p2), .val (.int p3), .val (.int p4), .val (.int (p2 &&& (2147483647 : Int32))), .val (.int (1 : Int32)), .val (.long ((p1.toInt64 &&& (2147483647 : Int64)) - ((p1.toInt64 &&& (2147483647 : Int64)) / ((p2 &&& (2147483647 : Int32)).toInt64 + (1 : Int64))) * ((p2 &&& (2147483647 : Int32)).toInt64 + (1 : Int64)))), .second, .unset, .unset, .unset] [(.int (p2 &&& (2147483647 : Int32)))])) _
    refine XS.istore X0.here hx rfl (hb hby at_44) rfl (l' := #[.val (.int p1), .val (.int p2), .val (.int p3), .val (.int p4), .val (.int (p2 &&& (2147483647 : Int32))), .val (.int (1 : Int32)), .val (.long ((p1.toInt64 &&& (2147483647 : Int64)) - ((p1.toInt64 &&& (2147483647 : Int64)) / ((p2 &&& (2147483647 : Int32)).toInt64 + (1 : Int64))) * ((p2 &&& (2147483647 : Int32)).toInt64 + (1 : Int64)))), .second, .val (.int (p2 &&& (2147483647 : Int32))), .unset, .unset]) rfl ?_
    show Steps p.tables e below (s₁.setTop (mkF m 46 #[.val (.int p1), .val (.int p2), .val (.int p3), .val (.int p4), .val (.int (p2 &&& (2147483647 : Int32))), .val (.int (1 : Int32)), .val (.long ((p1.toInt64 &&& (2147483647 : Int64)) - ((p1.toInt64 &&& (2147483647 : Int64)) / ((p2 &&& (2147483647 : Int32)).toInt64 + (1 : Int64))) * ((p2 &&& (2147483647 : Int32)).toInt64 + (1 : Int64)))), .second, .val (.int (p2 &&& (2147483647 : Int32))), .unset, .unset] [])) _
    refine XS.goto X0.here hx rfl (pc0 := 46) (pc' := 71) rfl (hb hby at_46) (by decide) (by decide) ?_
    show Steps p.tables e below (s₁.setTop (mkF m 71 #[.val (.int p1), .val (.int p2), .val (.int p3), .val (.int p4), .val (.int (p2 &&& (2147483647 : Int32))), .val (.int (1 : Int32)), .val (.long ((p1.toInt64 &&& (2147483647 : Int64)) - ((p1.toInt64 &&& (2147483647 : Int64)) / ((p2 &&& (2147483647 : Int32)).toInt64 + (1 : Int64))) * ((p2 &&& (2147483647 : Int32)).toInt64 + (1 : Int64)))), .second, .val (.int (p2 &&& (2147483647 : Int32))), .unset, .unset] [])) _
    refine XT.iconstV X0.here hx rfl (2 : Int32) (hb hby at_71) rfl ?_
    show Steps p.tables e below (s₁.setTop (mkF m 72 #[.val (.int p1), .val (.int p2), .val (.int p3), .val (.int p4), .val (.int (p2 &&& (2147483647 : Int32))), .val (.int (1 : Int32)), .val (.long ((p1.toInt64 &&& (2147483647 : Int64)) - ((p1.toInt64 &&& (2147483647 : Int64)) / ((p2 &&& (2147483647 : Int32)).toInt64 + (1 : Int64))) * ((p2 &&& (2147483647 : Int32)).toInt64 + (1 : Int64)))), .second, .val (.int (p2 &&& (2147483647 : Int32))), .unset, .unset] [(.int (2 : Int32))])) _
    refine st12 _ ?_
    show Steps p.tables e below (T12.setTop (mkF m 74 #[.val (.int p1), .val (.int p2), .val (.int p3), .val (.int p4), .val (.int (p2 &&& (2147483647 : Int32))), .val (.int (1 : Int32)), .val (.long ((p1.toInt64 &&& (2147483647 : Int64)) - ((p1.toInt64 &&& (2147483647 : Int64)) / ((p2 &&& (2147483647 : Int32)).toInt64 + (1 : Int64))) * ((p2 &&& (2147483647 : Int32)).toInt64 + (1 : Int64)))), .second, .val (.int (p2 &&& (2147483647 : Int32))), .unset, .unset] [(.ref b12)])) _
    refine XS.dup X12.here hx rfl (hb hby at_74) rfl rfl ?_
    show Steps p.tables e below (T12.setTop (mkF m 75 #[.val (.int p1), .val (.int p2), .val (.int p3), .val (.int p4), .val (.int (p2 &&& (2147483647 : Int32))), .val (.int (1 : Int32)), .val (.long ((p1.toInt64 &&& (2147483647 : Int64)) - ((p1.toInt64 &&& (2147483647 : Int64)) / ((p2 &&& (2147483647 : Int32)).toInt64 + (1 : Int64))) * ((p2 &&& (2147483647 : Int32)).toInt64 + (1 : Int64)))), .second, .val (.int (p2 &&& (2147483647 : Int32))), .unset, .unset] [(.ref b12), (.ref b12)])) _
    refine XT.iconstV X12.here hx rfl (0 : Int32) (hb hby at_75) rfl ?_
    show Steps p.tables e below (T12.setTop (mkF m 76 #[.val (.int p1), .val (.int p2), .val (.int p3), .val (.int p4), .val (.int (p2 &&& (2147483647 : Int32))), .val (.int (1 : Int32)), .val (.long ((p1.toInt64 &&& (2147483647 : Int64)) - ((p1.toInt64 &&& (2147483647 : Int64)) / ((p2 &&& (2147483647 : Int32)).toInt64 + (1 : Int64))) * ((p2 &&& (2147483647 : Int32)).toInt64 + (1 : Int64)))), .second, .val (.int (p2 &&& (2147483647 : Int32))), .unset, .unset] [(.int (0 : Int32)), (.ref b12), (.ref b12)])) _
    refine XS.iloadN X12.here hx rfl (hb hby at_76) rfl ?_
    show Steps p.tables e below (T12.setTop (mkF m 77 #[.val (.int p1), .val (.int p2), .val (.int p3), .val (.int p4), .val (.int (p2 &&& (2147483647 : Int32))), .val (.int (1 : Int32)), .val (.long ((p1.toInt64 &&& (2147483647 : Int64)) - ((p1.toInt64 &&& (2147483647 : Int64)) / ((p2 &&& (2147483647 : Int32)).toInt64 + (1 : Int64))) * ((p2 &&& (2147483647 : Int32)).toInt64 + (1 : Int64)))), .second, .val (.int (p2 &&& (2147483647 : Int32))), .unset, .unset] [(.int p4), (.int (0 : Int32)), (.ref b12), (.ref b12)])) _
    refine XT.sipushV X12.here hx rfl (255 : Int32) (hb hby at_77) (by decide) ?_
    show Steps p.tables e below (T12.setTop (mkF m 80 #[.val (.int p1), .val (.int p2), .val (.int p3), .val (.int p4), .val (.int (p2 &&& (2147483647 : Int32))), .val (.int (1 : Int32)), .val (.long ((p1.toInt64 &&& (2147483647 : Int64)) - ((p1.toInt64 &&& (2147483647 : Int64)) / ((p2 &&& (2147483647 : Int32)).toInt64 + (1 : Int64))) * ((p2 &&& (2147483647 : Int32)).toInt64 + (1 : Int64)))), .second, .val (.int (p2 &&& (2147483647 : Int32))), .unset, .unset] [(.int (255 : Int32)), (.int p4), (.int (0 : Int32)), (.ref b12), (.ref b12)])) _
    refine XS.iand X12.here hx rfl (hb hby at_80) rfl ?_
    show Steps p.tables e below (T12.setTop (mkF m 81 #[.val (.int p1), .val (.int p2), .val (.int p3), .val (.int p4), .val (.int (p2 &&& (2147483647 : Int32))), .val (.int (1 : Int32)), .val (.long ((p1.toInt64 &&& (2147483647 : Int64)) - ((p1.toInt64 &&& (2147483647 : Int64)) / ((p2 &&& (2147483647 : Int32)).toInt64 + (1 : Int64))) * ((p2 &&& (2147483647 : Int32)).toInt64 + (1 : Int64)))), .second, .val (.int (p2 &&& (2147483647 : Int32))), .unset, .unset] [(.int (p4 &&& (255 : Int32))), (.int (0 : Int32)), (.ref b12), (.ref b12)])) _
    refine XT.i2c X12.here hx rfl (hb hby at_81) rfl ?_
    show Steps p.tables e below (T12.setTop (mkF m 82 #[.val (.int p1), .val (.int p2), .val (.int p3), .val (.int p4), .val (.int (p2 &&& (2147483647 : Int32))), .val (.int (1 : Int32)), .val (.long ((p1.toInt64 &&& (2147483647 : Int64)) - ((p1.toInt64 &&& (2147483647 : Int64)) / ((p2 &&& (2147483647 : Int32)).toInt64 + (1 : Int64))) * ((p2 &&& (2147483647 : Int32)).toInt64 + (1 : Int64)))), .second, .val (.int (p2 &&& (2147483647 : Int32))), .unset, .unset] [(.int (p4 &&& (255 : Int32)).toUInt32.toUInt16.toUInt32.toInt32), (.int (0 : Int32)), (.ref b12), (.ref b12)])) _
    refine st13 _ ?_
    show Steps p.tables e below (T13.setTop (mkF m 83 #[.val (.int p1), .val (.int p2), .val (.int p3), .val (.int p4), .val (.int (p2 &&& (2147483647 : Int32))), .val (.int (1 : Int32)), .val (.long ((p1.toInt64 &&& (2147483647 : Int64)) - ((p1.toInt64 &&& (2147483647 : Int64)) / ((p2 &&& (2147483647 : Int32)).toInt64 + (1 : Int64))) * ((p2 &&& (2147483647 : Int32)).toInt64 + (1 : Int64)))), .second, .val (.int (p2 &&& (2147483647 : Int32))), .unset, .unset] [(.ref b12)])) _
    refine XS.dup X13.here hx rfl (hb hby at_83) rfl rfl ?_
    show Steps p.tables e below (T13.setTop (mkF m 84 #[.val (.int p1), .val (.int p2), .val (.int p3), .val (.int p4), .val (.int (p2 &&& (2147483647 : Int32))), .val (.int (1 : Int32)), .val (.long ((p1.toInt64 &&& (2147483647 : Int64)) - ((p1.toInt64 &&& (2147483647 : Int64)) / ((p2 &&& (2147483647 : Int32)).toInt64 + (1 : Int64))) * ((p2 &&& (2147483647 : Int32)).toInt64 + (1 : Int64)))), .second, .val (.int (p2 &&& (2147483647 : Int32))), .unset, .unset] [(.ref b12), (.ref b12)])) _
    refine XT.iconstV X13.here hx rfl (1 : Int32) (hb hby at_84) rfl ?_
    show Steps p.tables e below (T13.setTop (mkF m 85 #[.val (.int p1), .val (.int p2), .val (.int p3), .val (.int p4), .val (.int (p2 &&& (2147483647 : Int32))), .val (.int (1 : Int32)), .val (.long ((p1.toInt64 &&& (2147483647 : Int64)) - ((p1.toInt64 &&& (2147483647 : Int64)) / ((p2 &&& (2147483647 : Int32)).toInt64 + (1 : Int64))) * ((p2 &&& (2147483647 : Int32)).toInt64 + (1 : Int64)))), .second, .val (.int (p2 &&& (2147483647 : Int32))), .unset, .unset] [(.int (1 : Int32)), (.ref b12), (.ref b12)])) _
    refine XS.iloadN X13.here hx rfl (hb hby at_85) rfl ?_
    show Steps p.tables e below (T13.setTop (mkF m 86 #[.val (.int p1), .val (.int p2), .val (.int p3), .val (.int p4), .val (.int (p2 &&& (2147483647 : Int32))), .val (.int (1 : Int32)), .val (.long ((p1.toInt64 &&& (2147483647 : Int64)) - ((p1.toInt64 &&& (2147483647 : Int64)) / ((p2 &&& (2147483647 : Int32)).toInt64 + (1 : Int64))) * ((p2 &&& (2147483647 : Int32)).toInt64 + (1 : Int64)))), .second, .val (.int (p2 &&& (2147483647 : Int32))), .unset, .unset] [(.int p4), (.int (1 : Int32)), (.ref b12), (.ref b12)])) _
    refine XT.bipushV X13.here hx rfl (8 : Int32) (hb hby at_86) (by decide) ?_
    show Steps p.tables e below (T13.setTop (mkF m 88 #[.val (.int p1), .val (.int p2), .val (.int p3), .val (.int p4), .val (.int (p2 &&& (2147483647 : Int32))), .val (.int (1 : Int32)), .val (.long ((p1.toInt64 &&& (2147483647 : Int64)) - ((p1.toInt64 &&& (2147483647 : Int64)) / ((p2 &&& (2147483647 : Int32)).toInt64 + (1 : Int64))) * ((p2 &&& (2147483647 : Int32)).toInt64 + (1 : Int64)))), .second, .val (.int (p2 &&& (2147483647 : Int32))), .unset, .unset] [(.int (8 : Int32)), (.int p4), (.int (1 : Int32)), (.ref b12), (.ref b12)])) _
    refine XT.iushr X13.here hx rfl (hb hby at_88) rfl ?_
    show Steps p.tables e below (T13.setTop (mkF m 89 #[.val (.int p1), .val (.int p2), .val (.int p3), .val (.int p4), .val (.int (p2 &&& (2147483647 : Int32))), .val (.int (1 : Int32)), .val (.long ((p1.toInt64 &&& (2147483647 : Int64)) - ((p1.toInt64 &&& (2147483647 : Int64)) / ((p2 &&& (2147483647 : Int32)).toInt64 + (1 : Int64))) * ((p2 &&& (2147483647 : Int32)).toInt64 + (1 : Int64)))), .second, .val (.int (p2 &&& (2147483647 : Int32))), .unset, .unset] [(.int (XT.ushr p4 (8 : Int32))), (.int (1 : Int32)), (.ref b12), (.ref b12)])) _
    refine XT.sipushV X13.here hx rfl (255 : Int32) (hb hby at_89) (by decide) ?_
    show Steps p.tables e below (T13.setTop (mkF m 92 #[.val (.int p1), .val (.int p2), .val (.int p3), .val (.int p4), .val (.int (p2 &&& (2147483647 : Int32))), .val (.int (1 : Int32)), .val (.long ((p1.toInt64 &&& (2147483647 : Int64)) - ((p1.toInt64 &&& (2147483647 : Int64)) / ((p2 &&& (2147483647 : Int32)).toInt64 + (1 : Int64))) * ((p2 &&& (2147483647 : Int32)).toInt64 + (1 : Int64)))), .second, .val (.int (p2 &&& (2147483647 : Int32))), .unset, .unset] [(.int (255 : Int32)), (.int (XT.ushr p4 (8 : Int32))), (.int (1 : Int32)), (.ref b12), (.ref b12)])) _
    refine XS.iand X13.here hx rfl (hb hby at_92) rfl ?_
    show Steps p.tables e below (T13.setTop (mkF m 93 #[.val (.int p1), .val (.int p2), .val (.int p3), .val (.int p4), .val (.int (p2 &&& (2147483647 : Int32))), .val (.int (1 : Int32)), .val (.long ((p1.toInt64 &&& (2147483647 : Int64)) - ((p1.toInt64 &&& (2147483647 : Int64)) / ((p2 &&& (2147483647 : Int32)).toInt64 + (1 : Int64))) * ((p2 &&& (2147483647 : Int32)).toInt64 + (1 : Int64)))), .second, .val (.int (p2 &&& (2147483647 : Int32))), .unset, .unset] [(.int ((XT.ushr p4 (8 : Int32)) &&& (255 : Int32))), (.int (1 : Int32)), (.ref b12), (.ref b12)])) _
    refine XT.i2c X13.here hx rfl (hb hby at_93) rfl ?_
    show Steps p.tables e below (T13.setTop (mkF m 94 #[.val (.int p1), .val (.int p2), .val (.int p3), .val (.int p4), .val (.int (p2 &&& (2147483647 : Int32))), .val (.int (1 : Int32)), .val (.long ((p1.toInt64 &&& (2147483647 : Int64)) - ((p1.toInt64 &&& (2147483647 : Int64)) / ((p2 &&& (2147483647 : Int32)).toInt64 + (1 : Int64))) * ((p2 &&& (2147483647 : Int32)).toInt64 + (1 : Int64)))), .second, .val (.int (p2 &&& (2147483647 : Int32))), .unset, .unset] [(.int ((XT.ushr p4 (8 : Int32)) &&& (255 : Int32)).toUInt32.toUInt16.toUInt32.toInt32), (.int (1 : Int32)), (.ref b12), (.ref b12)])) _
    refine st14 _ ?_
    show Steps p.tables e below (T14.setTop (mkF m 95 #[.val (.int p1), .val (.int p2), .val (.int p3), .val (.int p4), .val (.int (p2 &&& (2147483647 : Int32))), .val (.int (1 : Int32)), .val (.long ((p1.toInt64 &&& (2147483647 : Int64)) - ((p1.toInt64 &&& (2147483647 : Int64)) / ((p2 &&& (2147483647 : Int32)).toInt64 + (1 : Int64))) * ((p2 &&& (2147483647 : Int32)).toInt64 + (1 : Int64)))), .second, .val (.int (p2 &&& (2147483647 : Int32))), .unset, .unset] [(.ref b12)])) _
    refine XS.astore X14.here hx rfl (hb hby at_95) rfl rfl (l' := #[.val (.int p1), .val (.int p2), .val (.int p3), .val (.int p4), .val (.int (p2 &&& (2147483647 : Int32))), .val (.int (1 : Int32)), .val (.long ((p1.toInt64 &&& (2147483647 : Int64)) - ((p1.toInt64 &&& (2147483647 : Int64)) / ((p2 &&& (2147483647 : Int32)).toInt64 + (1 : Int64))) * ((p2 &&& (2147483647 : Int32)).toInt64 + (1 : Int64)))), .second, .val (.int (p2 &&& (2147483647 : Int32))), .val (.ref b12), .unset]) rfl ?_
    show Steps p.tables e below (T14.setTop (mkF m 97 #[.val (.int p1), .val (.int p2), .val (.int p3), .val (.int p4), .val (.int (p2 &&& (2147483647 : Int32))), .val (.int (1 : Int32)), .val (.long ((p1.toInt64 &&& (2147483647 : Int64)) - ((p1.toInt64 &&& (2147483647 : Int64)) / ((p2 &&& (2147483647 : Int32)).toInt64 + (1 : Int64))) * ((p2 &&& (2147483647 : Int32)).toInt64 + (1 : Int64)))), .second, .val (.int (p2 &&& (2147483647 : Int32))), .val (.ref b12), .unset] [])) _
    refine st15 _ ?_
    show Steps p.tables e below (T15.setTop (mkF m 100 #[.val (.int p1), .val (.int p2), .val (.int p3), .val (.int p4), .val (.int (p2 &&& (2147483647 : Int32))), .val (.int (1 : Int32)), .val (.long ((p1.toInt64 &&& (2147483647 : Int64)) - ((p1.toInt64 &&& (2147483647 : Int64)) / ((p2 &&& (2147483647 : Int32)).toInt64 + (1 : Int64))) * ((p2 &&& (2147483647 : Int32)).toInt64 + (1 : Int64)))), .second, .val (.int (p2 &&& (2147483647 : Int32))), .val (.ref b12), .unset] [(.ref b15)])) _
    refine XS.dup X15.here hx rfl (hb hby at_100) rfl rfl ?_
    show Steps p.tables e below (T15.setTop (mkF m 101 #[.val (.int p1), .val (.int p2), .val (.int p3), .val (.int p4), .val (.int (p2 &&& (2147483647 : Int32))), .val (.int (1 : Int32)), .val (.long ((p1.toInt64 &&& (2147483647 : Int64)) - ((p1.toInt64 &&& (2147483647 : Int64)) / ((p2 &&& (2147483647 : Int32)).toInt64 + (1 : Int64))) * ((p2 &&& (2147483647 : Int32)).toInt64 + (1 : Int64)))), .second, .val (.int (p2 &&& (2147483647 : Int32))), .val (.ref b12), .unset] [(.ref b15), (.ref b15)])) _
    refine XS.aload X15.here hx rfl (hb hby at_101) rfl rfl ?_
    show Steps p.tables e below (T15.setTop (mkF m 103 #[.val (.int p1), .val (.int p2), .val (.int p3), .val (.int p4), .val (.int (p2 &&& (2147483647 : Int32))), .val (.int (1 : Int32)), .val (.long ((p1.toInt64 &&& (2147483647 : Int64)) - ((p1.toInt64 &&& (2147483647 : Int64)) / ((p2 &&& (2147483647 : Int32)).toInt64 + (1 : Int64))) * ((p2 &&& (2147483647 : Int32)).toInt64 + (1 : Int64)))), .second, .val (.int (p2 &&& (2147483647 : Int32))), .val (.ref b12), .unset] [(.ref b12), (.ref b15), (.ref b15)])) _
    refine st19.trans ?_
    show Steps p.tables e below (T19.setTop (mkF m 106 #[.val (.int p1), .val (.int p2), .val (.int p3), .val (.int p4), .val (.int (p2 &&& (2147483647 : Int32))), .val (.int (1 : Int32)), .val (.long ((p1.toInt64 &&& (2147483647 : Int64)) - ((p1.toInt64 &&& (2147483647 : Int64)) / ((p2 &&& (2147483647 : Int32)).toInt64 + (1 : Int64))) * ((p2 &&& (2147483647 : Int32)).toInt64 + (1 : Int64)))), .second, .val (.int (p2 &&& (2147483647 : Int32))), .val (.ref b12), .unset] [(.ref b15)])) _
    refine XS.astore X19.here hx rfl (hb hby at_106) rfl rfl (l' := #[.val (.int p1), .val (.int p2), .val (.int p3), .val (.int p4), .val (.int (p2 &&& (2147483647 : Int32))), .val (.int (1 : Int32)), .val (.long ((p1.toInt64 &&& (2147483647 : Int64)) - ((p1.toInt64 &&& (2147483647 : Int64)) / ((p2 &&& (2147483647 : Int32)).toInt64 + (1 : Int64))) * ((p2 &&& (2147483647 : Int32)).toInt64 + (1 : Int64)))), .second, .val (.int (p2 &&& (2147483647 : Int32))), .val (.ref b12), .val (.ref b15)]) rfl ?_
    show Steps p.tables e below (T19.setTop (mkF m 108 #[.val (.int p1), .val (.int p2), .val (.int p3), .val (.int p4), .val (.int (p2 &&& (2147483647 : Int32))), .val (.int (1 : Int32)), .val (.long ((p1.toInt64 &&& (2147483647 : Int64)) - ((p1.toInt64 &&& (2147483647 : Int64)) / ((p2 &&& (2147483647 : Int32)).toInt64 + (1 : Int64))) * ((p2 &&& (2147483647 : Int32)).toInt64 + (1 : Int64)))), .second, .val (.int (p2 &&& (2147483647 : Int32))), .val (.ref b12), .val (.ref b15)] [])) _
    refine XS.iload X19.here hx rfl (hb hby at_108) rfl ?_
    show Steps p.tables e below (T19.setTop (mkF m 110 #[.val (.int p1), .val (.int p2), .val (.int p3), .val (.int p4), .val (.int (p2 &&& (2147483647 : Int32))), .val (.int (1 : Int32)), .val (.long ((p1.toInt64 &&& (2147483647 : Int64)) - ((p1.toInt64 &&& (2147483647 : Int64)) / ((p2 &&& (2147483647 : Int32)).toInt64 + (1 : Int64))) * ((p2 &&& (2147483647 : Int32)).toInt64 + (1 : Int64)))), .second, .val (.int (p2 &&& (2147483647 : Int32))), .val (.ref b12), .val (.ref b15)] [(.int (p2 &&& (2147483647 : Int32)))])) _
    refine XS.iload X19.here hx rfl (hb hby at_110) rfl ?_
    show Steps p.tables e below (T19.setTop (mkF m 112 #[.val (.int p1), .val (.int p2), .val (.int p3), .val (.int p4), .val (.int (p2 &&& (2147483647 : Int32))), .val (.int (1 : Int32)), .val (.long ((p1.toInt64 &&& (2147483647 : Int64)) - ((p1.toInt64 &&& (2147483647 : Int64)) / ((p2 &&& (2147483647 : Int32)).toInt64 + (1 : Int64))) * ((p2 &&& (2147483647 : Int32)).toInt64 + (1 : Int64)))), .second, .val (.int (p2 &&& (2147483647 : Int32))), .val (.ref b12), .val (.ref b15)] [(.int (p2 &&& (2147483647 : Int32))), (.int (p2 &&& (2147483647 : Int32)))])) _
    refine XS.aload X19.here hx rfl (hb hby at_112) rfl rfl ?_
    show Steps p.tables e below (T19.setTop (mkF m 114 #[.val (.int p1), .val (.int p2), .val (.int p3), .val (.int p4), .val (.int (p2 &&& (2147483647 : Int32))), .val (.int (1 : Int32)), .val (.long ((p1.toInt64 &&& (2147483647 : Int64)) - ((p1.toInt64 &&& (2147483647 : Int64)) / ((p2 &&& (2147483647 : Int32)).toInt64 + (1 : Int64))) * ((p2 &&& (2147483647 : Int32)).toInt64 + (1 : Int64)))), .second, .val (.int (p2 &&& (2147483647 : Int32))), .val (.ref b12), .val (.ref b15)] [(.ref b15), (.int (p2 &&& (2147483647 : Int32))), (.int (p2 &&& (2147483647 : Int32)))])) _
    refine st22 _ ?_
    show Steps p.tables e below (T22.setTop (mkF m 117 #[.val (.int p1), .val (.int p2), .val (.int p3), .val (.int p4), .val (.int (p2 &&& (2147483647 : Int32))), .val (.int (1 : Int32)), .val (.long ((p1.toInt64 &&& (2147483647 : Int64)) - ((p1.toInt64 &&& (2147483647 : Int64)) / ((p2 &&& (2147483647 : Int32)).toInt64 + (1 : Int64))) * ((p2 &&& (2147483647 : Int32)).toInt64 + (1 : Int64)))), .second, .val (.int (p2 &&& (2147483647 : Int32))), .val (.ref b12), .val (.ref b15)] [(.int (p2 &&& (2147483647 : Int32)))])) _
    refine XS.iload X22.here hx rfl (hb hby at_117) rfl ?_
    show Steps p.tables e below (T22.setTop (mkF m 119 #[.val (.int p1), .val (.int p2), .val (.int p3), .val (.int p4), .val (.int (p2 &&& (2147483647 : Int32))), .val (.int (1 : Int32)), .val (.long ((p1.toInt64 &&& (2147483647 : Int64)) - ((p1.toInt64 &&& (2147483647 : Int64)) / ((p2 &&& (2147483647 : Int32)).toInt64 + (1 : Int64))) * ((p2 &&& (2147483647 : Int32)).toInt64 + (1 : Int64)))), .second, .val (.int (p2 &&& (2147483647 : Int32))), .val (.ref b12), .val (.ref b15)] [(.int (p2 &&& (2147483647 : Int32))), (.int (p2 &&& (2147483647 : Int32)))])) _
    refine XS.icmpNo X22.here hx rfl (hb hby at_119) rfl (XT.ii_ne_f rfl) ?_
    show Steps p.tables e below (T22.setTop (mkF m 122 #[.val (.int p1), .val (.int p2), .val (.int p3), .val (.int p4), .val (.int (p2 &&& (2147483647 : Int32))), .val (.int (1 : Int32)), .val (.long ((p1.toInt64 &&& (2147483647 : Int64)) - ((p1.toInt64 &&& (2147483647 : Int64)) / ((p2 &&& (2147483647 : Int32)).toInt64 + (1 : Int64))) * ((p2 &&& (2147483647 : Int32)).toInt64 + (1 : Int64)))), .second, .val (.int (p2 &&& (2147483647 : Int32))), .val (.ref b12), .val (.ref b15)] [])) _
    refine XT.iconstV X22.here hx rfl (1 : Int32) (hb hby at_122) rfl ?_
    show Steps p.tables e below (T22.setTop (mkF m 123 #[.val (.int p1), .val (.int p2), .val (.int p3), .val (.int p4), .val (.int (p2 &&& (2147483647 : Int32))), .val (.int (1 : Int32)), .val (.long ((p1.toInt64 &&& (2147483647 : Int64)) - ((p1.toInt64 &&& (2147483647 : Int64)) / ((p2 &&& (2147483647 : Int32)).toInt64 + (1 : Int64))) * ((p2 &&& (2147483647 : Int32)).toInt64 + (1 : Int64)))), .second, .val (.int (p2 &&& (2147483647 : Int32))), .val (.ref b12), .val (.ref b15)] [(.int (1 : Int32))])) _
    refine XS.goto X22.here hx rfl (pc0 := 123) (pc' := 127) rfl (hb hby at_123) (by decide) (by decide) ?_
    show Steps p.tables e below (T22.setTop (mkF m 127 #[.val (.int p1), .val (.int p2), .val (.int p3), .val (.int p4), .val (.int (p2 &&& (2147483647 : Int32))), .val (.int (1 : Int32)), .val (.long ((p1.toInt64 &&& (2147483647 : Int64)) - ((p1.toInt64 &&& (2147483647 : Int64)) / ((p2 &&& (2147483647 : Int32)).toInt64 + (1 : Int64))) * ((p2 &&& (2147483647 : Int32)).toInt64 + (1 : Int64)))), .second, .val (.int (p2 &&& (2147483647 : Int32))), .val (.ref b12), .val (.ref b15)] [(.int (1 : Int32))])) _
    exact retN X22 hx (t := .boolean) Bd.returns (by simp) (hb hby at_127) hr
  · show own_Q0 n0 _ T22.heap _
    exact ⟨rfl, N22⟩
set_option maxRecDepth 65536 in
set_option maxHeartbeats 40000000 in
theorem own_law_2 (l : Launch) (Z : State) (a0 : Array Value) (hw : ∀ d ∈ tables_1, d.before a0 Z = true) (ws : List Jvm.Cond) (p1 p2 p3 p4 i7 : Int32) (h0 : Heap) (n0 : Nat) (Z0 : n0 ≤ h0.size) (S8 : Sta Z h0 "java/lang/String" "COMPACT_STRINGS" "Z" (.int i7)) (c9 : ¬ (i7 = (0 : Int32))) (hk : (p3 &&& (3 : Int32)) = (2 : Int32)) (hD : ((p2 &&& (2147483647 : Int32)).toInt64 + (1 : Int64)) ≠ 0) (hv1 : ¬ ((p1.toInt64 &&& (2147483647 : Int64)) - ((p1.toInt64 &&& (2147483647 : Int64)) / ((p2 &&& (2147483647 : Int32)).toInt64 + (1 : Int64))) * ((p2 &&& (2147483647 : Int32)).toInt64 + (1 : Int64))).toInt32 < 0) (hv2 : ¬ (p2 &&& (2147483647 : Int32)) < ((p1.toInt64 &&& (2147483647 : Int64)) - ((p1.toInt64 &&& (2147483647 : Int64)) / ((p2 &&& (2147483647 : Int32)).toInt64 + (1 : Int64))) * ((p2 &&& (2147483647 : Int32)).toInt64 + (1 : Int64))).toInt32) :
    MetFree l x (head1 (Jvm.Cond.code x code maxLocals ret :: ws) room_1) (fun a U => a = #[(.int p1), (.int p2), (.int p3), (.int p4)] ∧ Z.Warmed39 U.vm ∧ U.heap = h0) (fun _ _ _ _ _ => True) (fun _ U o U' => ∃ v L, o = .returned v ∧ own_Q0 n0 v U'.heap L ∧ FrameEnd U o U' L room_1.cells room_1.slots) := by
  refine MetFree.of_bodySF (plainFor_of_name pn_com_example_plimsoll_plimsoll_model_FieldsUnsignedPinLaw) hisR ?_
  intro p e s m args below meth c s₁ Bd hml0 hP hK
  obtain ⟨rfl, hZ, hh⟩ := hP
  have hx := Bd.exec
  have hby := Bd.bytes
  have hml : c.maxLocals = 11 := hml0
  have hown : s.vm.findClass "com/example/plimsoll/plimsoll/model/FieldsUnsignedPinLaw" = some m.cls := findClass_of_methodNamed Bd.named
  have hnm := (name_of_methodNamed Bd.named Bd.method).1
  have X0 : Stand p l e room_1 s m #[(.int p1), (.int p2), (.int p3), (.int p4)] below meth c s₁ [] 0 0 := Stand.of_body Bd
  have e0 : s₁.heap = h0 := by rw [← hh, Bd.state]; rfl
  have N0 := Fr.nil n0
  have pre0 : ∀ t, Steps p.tables e below (s₁.setTop (mkF m 0 #[.val (.int p1), .val (.int p2), .val (.int p3), .val (.int p4), .unset, .unset, .unset, .unset, .unset, .unset, .unset] [])) t → Steps p.tables e below (s₁.setTop (entryFrame m #[(.int p1), (.int p2), (.int p3), (.int p4)] maxLocals)) t := fun t k => castTop (ef_code_IIII m p1 p2 p3 p4) k
  obtain ⟨T23, h23, k23, X23, e23, E23, A23, st23⟩ := newP X0 hx hZ (hw _ (List.mem_of_getElem? (i := 2) rfl)) e0 (g := (mkF m 72 #[.val (.int p1), .val (.int p2), .val (.int p3), .val (.int p4), .val (.int (p2 &&& (2147483647 : Int32))), .val (.int (2 : Int32)), .val (.long ((p1.toInt64 &&& (2147483647 : Int64)) - ((p1.toInt64 &&& (2147483647 : Int64)) / ((p2 &&& (2147483647 : Int32)).toInt64 + (1 : Int64))) * ((p2 &&& (2147483647 : Int32)).toInt64 + (1 : Int64)))), .second, .val (.int ((p1.toInt64 &&& (2147483647 : Int64)) - ((p1.toInt64 &&& (2147483647 : Int64)) / ((p2 &&& (2147483647 : Int32)).toInt64 + (1 : Int64))) * ((p2 &&& (2147483647 : Int32)).toInt64 + (1 : Int64))).toInt32), .unset, .unset] [(.int (2 : Int32))])) rfl (hb hby at_72) rfl (by decide) (cap := 2) (by decide) (by decide) (by decide) (by decide)
  obtain ⟨b23, g23⟩ : ∃ z, z = h0.size := ⟨_, rfl⟩
  rw [← g23] at A23 st23
  have V23 : Arv Z h23 b23 k23 .char (2 : Int32) (List.replicate 2 (.int (0 : Int32))) (.int (0 : Int32)) := (Arv.new A23 (by decide)).pad (fun i => pad_rep [] (.int (0 : Int32)) 2 i)
  have q23 : h0.size ≤ b23 := by rw [g23]; exact Nat.le_refl _
  have EX23 : Ext h0 h23 := E23
  have Z23 : n0 ≤ h23.size := Nat.le_trans Z0 EX23.1
  obtain ⟨T24, h24, X24, e24, W24, V24, st24⟩ := own_stC X23 hx hZ e23 V23 (j := (0 : Int32)) (by decide) (i := 0) (by decide) (by simp) (g := (mkF m 82 #[.val (.int p1), .val (.int p2), .val (.int p3), .val (.int p4), .val (.int (p2 &&& (2147483647 : Int32))), .val (.int (2 : Int32)), .val (.long ((p1.toInt64 &&& (2147483647 : Int64)) - ((p1.toInt64 &&& (2147483647 : Int64)) / ((p2 &&& (2147483647 : Int32)).toInt64 + (1 : Int64))) * ((p2 &&& (2147483647 : Int32)).toInt64 + (1 : Int64)))), .second, .val (.int ((p1.toInt64 &&& (2147483647 : Int64)) - ((p1.toInt64 &&& (2147483647 : Int64)) / ((p2 &&& (2147483647 : Int32)).toInt64 + (1 : Int64))) * ((p2 &&& (2147483647 : Int32)).toInt64 + (1 : Int64))).toInt32), .unset, .unset] [(.int (p4 &&& (255 : Int32)).toUInt32.toUInt16.toUInt32.toInt32), (.int (0 : Int32)), (.ref b23), (.ref b23)])) rfl rfl (hb hby at_82)
  have EX24 : Ext h0 h24 := own_ext_wr EX23 W24 q23
  have Z24 : n0 ≤ h24.size := Nat.le_trans Z0 EX24.1
  have N24 := Fr.snoc X24 N0 (Nat.le_trans Z0 q23)
  obtain ⟨T25, h25, X25, e25, W25, V25, st25⟩ := own_stC X24 hx hZ e24 V24 (j := (1 : Int32)) (by decide) (i := 1) (by decide) (by simp) (g := (mkF m 94 #[.val (.int p1), .val (.int p2), .val (.int p3), .val (.int p4), .val (.int (p2 &&& (2147483647 : Int32))), .val (.int (2 : Int32)), .val (.long ((p1.toInt64 &&& (2147483647 : Int64)) - ((p1.toInt64 &&& (2147483647 : Int64)) / ((p2 &&& (2147483647 : Int32)).toInt64 + (1 : Int64))) * ((p2 &&& (2147483647 : Int32)).toInt64 + (1 : Int64)))), .second, .val (.int ((p1.toInt64 &&& (2147483647 : Int64)) - ((p1.toInt64 &&& (2147483647 : Int64)) / ((p2 &&& (2147483647 : Int32)).toInt64 + (1 : Int64))) * ((p2 &&& (2147483647 : Int32)).toInt64 + (1 : Int64))).toInt32), .unset, .unset] [(.int ((XT.ushr p4 (8 : Int32)) &&& (255 : Int32)).toUInt32.toUInt16.toUInt32.toInt32), (.int (1 : Int32)), (.ref b23), (.ref b23)])) rfl rfl (hb hby at_94)
  have EX25 : Ext h0 h25 := own_ext_wr EX24 W25 q23
  have Z25 : n0 ≤ h25.size := Nat.le_trans Z0 EX25.1
  have N25 := Fr.snoc X25 N24 (Nat.le_trans Z0 q23)
  obtain ⟨T26, h26, X26, e26, E26, A26, D26, -, st26⟩ := newO X25 hx hZ hown (hw _ (List.mem_of_getElem? (i := 3) rfl)) (hw _ (List.mem_of_getElem? (i := 4) rfl)) (hw _ (List.mem_of_getElem? (i := 5) rfl)) e25 (g := (mkF m 97 #[.val (.int p1), .val (.int p2), .val (.int p3), .val (.int p4), .val (.int (p2 &&& (2147483647 : Int32))), .val (.int (2 : Int32)), .val (.long ((p1.toInt64 &&& (2147483647 : Int64)) - ((p1.toInt64 &&& (2147483647 : Int64)) / ((p2 &&& (2147483647 : Int32)).toInt64 + (1 : Int64))) * ((p2 &&& (2147483647 : Int32)).toInt64 + (1 : Int64)))), .second, .val (.int ((p1.toInt64 &&& (2147483647 : Int64)) - ((p1.toInt64 &&& (2147483647 : Int64)) / ((p2 &&& (2147483647 : Int32)).toInt64 + (1 : Int64))) * ((p2 &&& (2147483647 : Int32)).toInt64 + (1 : Int64))).toInt32), .val (.ref b23), .unset] [])) rfl (hb hby at_97) (by decide) (by decide)
  obtain ⟨b26, g26⟩ : ∃ z, z = h25.size := ⟨_, rfl⟩
  rw [← g26] at A26 D26 st26
  have q26 : h0.size ≤ b26 := by rw [g26]; exact EX25.1
  have ne_b23_b26 : b23 ≠ b26 := by rw [g26]; exact Nat.ne_of_lt V25.lt
  have V25_27 := V25.ext E26
  have EX26 : Ext h0 h26 := own_ext_trans EX25 E26
  have Z26 : n0 ≤ h26.size := Nat.le_trans Z0 EX26.1
  have Fcoder_28 : Fld Z h26 b26 "java/lang/String" "coder" "B" (.int (0 : Int32)) := D26 (Or.inr (hw _ (List.mem_of_getElem? (i := 29) rfl))) (ty := .byte) (by decide)
  have Fvalue_29 : Fld Z h26 b26 "java/lang/String" "value" "[B" .null := D26 (Or.inr (hw _ (List.mem_of_getElem? (i := 31) rfl))) (ty := (.array .byte)) (by decide)
  have V30c : Arv Z h26 b23 k23 .char (2 : Int32) [(.int (nar .char (p4 &&& (255 : Int32)).toUInt32.toUInt16.toUInt32.toInt32)), (.int (nar .char ((XT.ushr p4 (8 : Int32)) &&& (255 : Int32)).toUInt32.toUInt16.toUInt32.toInt32))] (.int (0 : Int32)) := V25_27
  have hws30 : ∀ d ∈ StrChars.Road.words, d.before a0 Z = true := fun d hd => hw d ((by decide +kernel : ∀ d ∈ StrChars.Road.words, d ∈ tables_1) d hd)
  have hlat30 : ∀ c ∈ [(nar .char (p4 &&& (255 : Int32)).toUInt32.toUInt16.toUInt32.toInt32), (nar .char ((XT.ushr p4 (8 : Int32)) &&& (255 : Int32)).toUInt32.toUInt16.toUInt32.toInt32)], ¬ c < 0 ∧ ¬ (255 : Int32) < c := by
    intro c hc
    simp only [List.mem_cons, List.not_mem_nil, or_false] at hc
    rcases hc with rfl | rfl
    · rw [own_nar]; exact own_lat _
    · rw [own_nar]; exact own_lat _
  obtain ⟨_, _, ⟨T30, L30, k30, n30⟩, -, X30, ⟨Lc30, hQ30, l30, y30, z30⟩, st30⟩ := X26.specialBack hx (y := (⟨"java/lang/String", "<init>", "([C)V"⟩ : MethodName)) rfl hown (mvT hZ (hw _ (List.mem_of_getElem? (i := 6) rfl))) (mvT hZ (hw _ (List.mem_of_getElem? (i := 7) rfl))) (mvT hZ (hw _ (List.mem_of_getElem? (i := 8) rfl))) (by decide) (StrChars.Road.backV (W := 1) hZ hws30 (kI := 4) (hw _ (List.mem_of_getElem? (i := 4) rfl)) (cs := [(nar .char (p4 &&& (255 : Int32)).toUInt32.toUInt16.toUInt32.toInt32), (nar .char ((XT.ushr p4 (8 : Int32)) &&& (255 : Int32)).toUInt32.toUInt16.toUInt32.toInt32)]) (bs := [(nar .char (p4 &&& (255 : Int32)).toUInt32.toUInt16.toUInt32.toInt32).toInt8.toInt32, (nar .char ((XT.ushr p4 (8 : Int32)) &&& (255 : Int32)).toUInt32.toUInt16.toUInt32.toInt32).toInt8.toInt32]) (n := 2) (Nat.le_trans Z0 q26) Z26 A26 Fvalue_29 Fcoder_28 V30c (S8.ext EX26) c9 rfl rfl (by decide) (by decide) hlat30 rfl (by decide) (by decide)) (g := (mkF m 103 #[.val (.int p1), .val (.int p2), .val (.int p3), .val (.int p4), .val (.int (p2 &&& (2147483647 : Int32))), .val (.int (2 : Int32)), .val (.long ((p1.toInt64 &&& (2147483647 : Int64)) - ((p1.toInt64 &&& (2147483647 : Int64)) / ((p2 &&& (2147483647 : Int32)).toInt64 + (1 : Int64))) * ((p2 &&& (2147483647 : Int32)).toInt64 + (1 : Int64)))), .second, .val (.int ((p1.toInt64 &&& (2147483647 : Int64)) - ((p1.toInt64 &&& (2147483647 : Int64)) / ((p2 &&& (2147483647 : Int32)).toInt64 + (1 : Int64))) * ((p2 &&& (2147483647 : Int32)).toInt64 + (1 : Int64))).toInt32), .val (.ref b23), .unset] [(.ref b23), (.ref b26), (.ref b26)])) rfl (by rw [hml]; rfl) (Steps.refl _) (a := b26) (argsL := [(.ref b23)]) (rest := [(.ref b26)]) (lenOf pd__ArC_V rfl) rfl (by show 2 * 0 + _ ≤ _; exact Nat.le_of_eq rfl) (hb hby at_103) (fun _ _ => ⟨rfl, e26, (by decide : 2 + 1 ≤ _), (by decide : 6 + 2 ≤ _)⟩)
  dsimp only [Pt.U, Pt.locs, Pt.cells, Pt.slots] at X30 l30 y30 z30 st30 hQ30
  subst l30 y30 z30
  obtain ⟨rfl, N30q, K30q, E30s, C30s, t30s, kb30s, qn30s, qh30s, qx30s, V30s, B30s⟩ := hQ30
  have N30 := Fr.app N25 N30q
  have q30s : h0.size ≤ t30s := Nat.le_trans EX26.1 qh30s
  have ne_b23_t30s : b23 ≠ t30s := Nat.ne_of_lt (Nat.lt_of_lt_of_le V25_27.lt qh30s)
  have V25_31 := V25_27.keep K30q (ninS ne_b23_b26 nin0)
  have A26_32 := A26.keep K30q
  have EX30 : Ext h0 T30.heap := own_ext_keep EX26 K30q (allS q26 all0)
  have Z30 : n0 ≤ T30.heap.size := Nat.le_trans Z0 EX30.1
  obtain ⟨_, _, ⟨T33, L33, k33, n33⟩, -, X33, ⟨Lc33, hQ33, l33, y33, z33⟩, st33⟩ := Jvm.LawKit.callS X30 hx (y := (⟨"com/example/plimsoll/plimsoll/model/Fields", "unsigned", "(IILjava/lang/String;)I"⟩ : MethodName)) hown (mvT hZ (hw _ (List.mem_of_getElem? (i := 32) rfl))) (mvT hZ (hw _ (List.mem_of_getElem? (i := 33) rfl))) (mvT hZ (hw _ (List.mem_of_getElem? (i := 34) rfl))) (mvT hZ (hw _ (List.mem_of_getElem? (i := 35) rfl))) (by decide) (backOf (W := 0) (own_unsigned l Z a0 hw [] ((p1.toInt64 &&& (2147483647 : Int64)) - ((p1.toInt64 &&& (2147483647 : Int64)) / ((p2 &&& (2147483647 : Int32)).toInt64 + (1 : Int64))) * ((p2 &&& (2147483647 : Int32)).toInt64 + (1 : Int64))).toInt32 (p2 &&& (2147483647 : Int32)) b26 T30.heap n0 Z30 hv1 hv2) hZ (hw _ (List.mem_of_getElem? (i := 35) rfl)) (hw _ (List.mem_of_getElem? (i := 34) rfl)) (by decide) (by decide)) (g := (mkF m 114 #[.val (.int p1), .val (.int p2), .val (.int p3), .val (.int p4), .val (.int (p2 &&& (2147483647 : Int32))), .val (.int (2 : Int32)), .val (.long ((p1.toInt64 &&& (2147483647 : Int64)) - ((p1.toInt64 &&& (2147483647 : Int64)) / ((p2 &&& (2147483647 : Int32)).toInt64 + (1 : Int64))) * ((p2 &&& (2147483647 : Int32)).toInt64 + (1 : Int64)))), .second, .val (.int ((p1.toInt64 &&& (2147483647 : Int64)) - ((p1.toInt64 &&& (2147483647 : Int64)) / ((p2 &&& (2147483647 : Int32)).toInt64 + (1 : Int64))) * ((p2 &&& (2147483647 : Int32)).toInt64 + (1 : Int64))).toInt32), .val (.ref b23), .val (.ref b26)] [(.ref b26), (.int (p2 &&& (2147483647 : Int32))), (.int ((p1.toInt64 &&& (2147483647 : Int64)) - ((p1.toInt64 &&& (2147483647 : Int64)) / ((p2 &&& (2147483647 : Int32)).toInt64 + (1 : Int64))) * ((p2 &&& (2147483647 : Int32)).toInt64 + (1 : Int64))).toInt32)])) rfl (by rw [hml]; rfl) (argsL := [(.int ((p1.toInt64 &&& (2147483647 : Int64)) - ((p1.toInt64 &&& (2147483647 : Int64)) / ((p2 &&& (2147483647 : Int32)).toInt64 + (1 : Int64))) * ((p2 &&& (2147483647 : Int32)).toInt64 + (1 : Int64))).toInt32), (.int (p2 &&& (2147483647 : Int32))), (.ref b26)]) (rest := []) (lenOf pd__IILjava_lang_String__I rfl) rfl (by show 2 * 0 + _ ≤ _; exact Nat.le_of_eq rfl) (hb hby at_114) (fun _ _ => ⟨rfl, rfl, (by decide : 3 + 0 ≤ _), (by decide : 8 + 0 ≤ _)⟩)
  dsimp only [Pt.U, Pt.locs, Pt.cells, Pt.slots] at X33 l33 y33 z33 st33 hQ33
  subst l33 y33 z33
  obtain ⟨rfl, N33q, e33⟩ := hQ33
  have N33 := Fr.app N30 N33q
  obtain ⟨fs, hr, hrun, hended, hW, hsame⟩ := X33.leave (v := some (.int (1 : Int32))) (fun h => by rw [Bd.returns] at h; cases h)
  refine ⟨_, _, pre0 _ ?_, hrun, hended, _, _, rfl, ?_, ⟨_, rfl⟩, hW, hsame.mono (by decide) (by decide)⟩
  · show Steps p.tables e below (s₁.setTop (mkF m 0 #[.val (.int p1), .val (.int p2), .val (.int p3), .val (.int p4), .unset, .unset, .unset, .unset, .unset, .unset, .unset] [])) _
    refine XS.iloadN X0.here hx rfl (hb hby at_0) rfl ?_
    show Steps p.tables e below (s₁.setTop (mkF m 1 #[.val (.int p1), .val (.int p2), .val (.int p3), .val (.int p4), .unset, .unset, .unset, .unset, .unset, .unset, .unset] [(.int p2)])) _
    refine Jvm.Stand.ldcI X0 hx hown (mvT hZ (hw _ (List.mem_of_getElem? (i := 0) rfl))) rfl (hb hby at_1) ?_
    show Steps p.tables e below (s₁.setTop (mkF m 3 #[.val (.int p1), .val (.int p2), .val (.int p3), .val (.int p4), .unset, .unset, .unset, .unset, .unset, .unset, .unset] [(.int (2147483647 : Int32)), (.int p2)])) _
    refine XS.iand X0.here hx rfl (hb hby at_3) rfl ?_
    show Steps p.tables e below (s₁.setTop (mkF m 4 #[.val (.int p1), .val (.int p2), .val (.int p3), .val (.int p4), .unset, .unset, .unset, .unset, .unset, .unset, .unset] [(.int (p2 &&& (2147483647 : Int32)))])) _
    refine XS.istore X0.here hx rfl (hb hby at_4) rfl (l' := #[.val (.int p1), .val (.int p2), .val (.int p3), .val (.int p4), .val (.int (p2 &&& (2147483647 : Int32))), .unset, .unset, .unset, .unset, .unset, .unset]) rfl ?_
    show Steps p.tables e below (s₁.setTop (mkF m 6 #[.val (.int p1), .val (.int p2), .val (.int p3), .val (.int p4), .val (.int (p2 &&& (2147483647 : Int32))), .unset, .unset, .unset, .unset, .unset, .unset] [])) _
    refine XS.iloadN X0.here hx rfl (hb hby at_6) rfl ?_
    show Steps p.tables e below (s₁.setTop (mkF m 7 #[.val (.int p1), .val (.int p2), .val (.int p3), .val (.int p4), .val (.int (p2 &&& (2147483647 : Int32))), .unset, .unset, .unset, .unset, .unset, .unset] [(.int p3)])) _
    refine XT.iconstV X0.here hx rfl (3 : Int32) (hb hby at_7) rfl ?_
    show Steps p.tables e below (s₁.setTop (mkF m 8 #[.val (.int p1), .val (.int p2), .val (.int p3), .val (.int p4), .val (.int (p2 &&& (2147483647 : Int32))), .unset, .unset, .unset, .unset, .unset, .unset] [(.int (3 : Int32)), (.int p3)])) _
    refine XS.iand X0.here hx rfl (hb hby at_8) rfl ?_
    show Steps p.tables e below (s₁.setTop (mkF m 9 #[.val (.int p1), .val (.int p2), .val (.int p3), .val (.int p4), .val (.int (p2 &&& (2147483647 : Int32))), .unset, .unset, .unset, .unset, .unset, .unset] [(.int (p3 &&& (3 : Int32)))])) _
    rw [hk]
    show Steps p.tables e below (s₁.setTop (mkF m 9 #[.val (.int p1), .val (.int p2), .val (.int p3), .val (.int p4), .val (.int (p2 &&& (2147483647 : Int32))), .unset, .unset, .unset, .unset, .unset, .unset] [(.int (2 : Int32))])) _
    refine XS.istore X0.here hx rfl (hb hby at_9) rfl (l' := #[.val (.int p1), .val (.int p2), .val (.int p3), .val (.int p4), .val (.int (p2 &&& (2147483647 : Int32))), .val (.int (2 : Int32)), .unset, .unset, .unset, .unset, .unset]) rfl ?_
    show Steps p.tables e below (s₁.setTop (mkF m 11 #[.val (.int p1), .val (.int p2), .val (.int p3), .val (.int p4), .val (.int (p2 &&& (2147483647 : Int32))), .val (.int (2 : Int32)), .unset, .unset, .unset, .unset, .unset] [])) _
    refine XS.iloadN X0.here hx rfl (hb hby at_11) rfl ?_
    show Steps p.tables e below (s₁.setTop (mkF m 12 #[.val (.int p1), .val (.int p2), .val (.int p3), .val (.int p4), .val (.int (p2 &&& (2147483647 : Int32))), .val (.int (2 : Int32)), .unset, .unset, .unset, .unset, .unset] [(.int p1)])) _
    refine XT.i2l X0.here hx rfl (hb hby at_12) rfl ?_
    show Steps p.tables e below (s₁.setTop (mkF m 13 #[.val (.int p1), .val (.int p2), .val (.int p3), .val (.int p4), .val (.int (p2 &&& (2147483647 : Int32))), .val (.int (2 : Int32)), .unset, .unset, .unset, .unset, .unset] [(.long p1.toInt64)])) _
    refine Jvm.Stand.ldc2J X0 hx hown (mvT hZ (hw _ (List.mem_of_getElem? (i := 1) rfl))) rfl (hb hby at_13) ?_
    show Steps p.tables e below (s₁.setTop (mkF m 16 #[.val (.int p1), .val (.int p2), .val (.int p3), .val (.int p4), .val (.int (p2 &&& (2147483647 : Int32))), .val (.int (2 : Int32)), .unset, .unset, .unset, .unset, .unset] [(.long (2147483647 : Int64)), (.long p1.toInt64)])) _
    refine XT.land X0.here hx rfl (hb hby at_16) rfl ?_
    show Steps p.tables e below (s₁.setTop (mkF m 17 #[.val (.int p1), .val (.int p2), .val (.int p3), .val (.int p4), .val (.int (p2 &&& (2147483647 : Int32))), .val (.int (2 : Int32)), .unset, .unset, .unset, .unset, .unset] [(.long (p1.toInt64 &&& (2147483647 : Int64)))])) _
    refine XS.iload X0.here hx rfl (hb hby at_17) rfl ?_
    show Steps p.tables e below (s₁.setTop (mkF m 19 #[.val (.int p1), .val (.int p2), .val (.int p3), .val (.int p4), .val (.int (p2 &&& (2147483647 : Int32))), .val (.int (2 : Int32)), .unset, .unset, .unset, .unset, .unset] [(.int (p2 &&& (2147483647 : Int32))), (.long (p1.toInt64 &&& (2147483647 : Int64)))])) _
    refine XT.i2l X0.here hx rfl (hb hby at_19) rfl ?_
    show Steps p.tables e below (s₁.setTop (mkF m 20 #[.val (.int p1), .val (.int p2), .val (.int p3), .val (.int p4), .val (.int (p2 &&& (2147483647 : Int32))), .val (.int (2 : Int32)), .unset, .unset, .unset, .unset, .unset] [(.long (p2 &&& (2147483647 : Int32)).toInt64), (.long (p1.toInt64 &&& (2147483647 : Int64)))])) _
    refine XT.lconstV X0.here hx rfl (1 : Int64) (hb hby at_20) rfl ?_
    show Steps p.tables e below (s₁.setTop (mkF m 21 #[.val (.int p1), .val (.int p2), .val (.int p3), .val (.int p4), .val (.int (p2 &&& (2147483647 : Int32))), .val (.int (2 : Int32)), .unset, .unset, .unset, .unset, .unset] [(.long (1 : Int64)), (.long (p2 &&& (2147483647 : Int32)).toInt64), (.long (p1.toInt64 &&& (2147483647 : Int64)))])) _
    refine XT.ladd X0.here hx rfl (hb hby at_21) rfl ?_
    show Steps p.tables e below (s₁.setTop (mkF m 22 #[.val (.int p1), .val (.int p2), .val (.int p3), .val (.int p4), .val (.int (p2 &&& (2147483647 : Int32))), .val (.int (2 : Int32)), .unset, .unset, .unset, .unset, .unset] [(.long ((p2 &&& (2147483647 : Int32)).toInt64 + (1 : Int64))), (.long (p1.toInt64 &&& (2147483647 : Int64)))])) _
    refine XT.lrem X0.here hx rfl (hb hby at_22) rfl hD ?_
    show Steps p.tables e below (s₁.setTop (mkF m 23 #[.val (.int p1), .val (.int p2), .val (.int p3), .val (.int p4), .val (.int (p2 &&& (2147483647 : Int32))), .val (.int (2 : Int32)), .unset, .unset, .unset, .unset, .unset] [(.long ((p1.toInt64 &&& (2147483647 : Int64)) - ((p1.toInt64 &&& (2147483647 : Int64)) / ((p2 &&& (2147483647 : Int32)).toInt64 + (1 : Int64))) * ((p2 &&& (2147483647 : Int32)).toInt64 + (1 : Int64))))])) _
    refine XT.lstore X0.here hx rfl (hb hby at_23) rfl (l' := #[.val (.int p1), .val (.int p2), .val (.int p3), .val (.int p4), .val (.int (p2 &&& (2147483647 : Int32))), .val (.int (2 : Int32)), .val (.long ((p1.toInt64 &&& (2147483647 : Int64)) - ((p1.toInt64 &&& (2147483647 : Int64)) / ((p2 &&& (2147483647 : Int32)).toInt64 + (1 : Int64))) * ((p2 &&& (2147483647 : Int32)).toInt64 + (1 : Int64)))), .second, .unset, .unset, .unset]) rfl ?_
    show Steps p.tables e below (s₁.setTop (mkF m 25 #[.val (.int p1), .val (.int p2), .val (.int p3), .val (.int p4), .val (.int (p2 &&& (2147483647 : Int32))), .val (.int (2 : Int32)), .val (.long ((p1.toInt64 &&& (2147483647 : Int64)) - ((p1.toInt64 &&& (2147483647 : Int64)) / ((p2 &&& (2147483647 : Int32)).toInt64 + (1 : Int64))) * ((p2 &&& (2147483647 : Int32)).toInt64 + (1 : Int64)))), .second, .unset, .unset, .unset] [])) _
    refine XS.iload X0.here hx rfl (hb hby at_25) rfl ?_
    show Steps p.tables e below (s₁.setTop (mkF m 27 #[.val (.int p1), .val (.int p2), .val (.int p3), .val (.int p4), .val (.int (p2 &&& (2147483647 : Int32))), .val (.int (2 : Int32)), .val (.long ((p1.toInt64 &&& (2147483647 : Int64)) - ((p1.toInt64 &&& (2147483647 : Int64)) / ((p2 &&& (2147483647 : Int32)).toInt64 + (1 : Int64))) * ((p2 &&& (2147483647 : Int32)).toInt64 + (1 : Int64)))), .second, .unset, .unset, .unset] [(.int (2 : Int32))])) _
    refine XS.ifYes X0.here hx rfl (pc0 := 27) (pc' := 36) rfl (hb hby at_27) rfl (by decide) (by decide) (by decide) ?_
    show Steps p.tables e below (s₁.setTop (mkF m 36 #[.val (.int p1), .val (.int p2), .val (.int p3), .val (.int p4), .val (.int (p2 &&& (2147483647 : Int32))), .val (.int (2 : Int32)), .val (.long ((p1.toInt64 &&& (2147483647 : Int64)) - ((p1.toInt64 &&& (2147483647 : Int64)) / ((p2 &&& (2147483647 : Int32)).toInt64 + (1 : Int64))) * ((p2 &&& (2147483647 : Int32)).toInt64 + (1 : Int64)))), .second, .unset, .unset, .unset] [])) _
    refine XS.iload X0.here hx rfl (hb hby at_36) rfl ?_
    show Steps p.tables e below (s₁.setTop (mkF m 38 #[.val (.int p1), .val (.int p2), .val (.int p3), .val (.int p4), .val (.int (p2 &&& (2147483647 : Int32))), .val (.int (2 : Int32)), .val (.long ((p1.toInt64 &&& (2147483647 : Int64)) - ((p1.toInt64 &&& (2147483647 : Int64)) / ((p2 &&& (2147483647 : Int32)).toInt64 + (1 : Int64))) * ((p2 &&& (2147483647 : Int32)).toInt64 + (1 : Int64)))), .second, .unset, .unset, .unset] [(.int (2 : Int32))])) _
    refine XT.iconstV X0.here hx rfl (1 : Int32) (hb hby at_38) rfl ?_
    show Steps p.tables e below (s₁.setTop (mkF m 39 #[.val (.int p1), .val (.int p2), .val (.int p3), .val (.int p4), .val (.int (p2 &&& (2147483647 : Int32))), .val (.int (2 : Int32)), .val (.long ((p1.toInt64 &&& (2147483647 : Int64)) - ((p1.toInt64 &&& (2147483647 : Int64)) / ((p2 &&& (2147483647 : Int32)).toInt64 + (1 : Int64))) * ((p2 &&& (2147483647 : Int32)).toInt64 + (1 : Int64)))), .second, .unset, .unset, .unset] [(.int (1 : Int32)), (.int (2 : Int32))])) _
    refine XS.icmpYes X0.here hx rfl (pc0 := 39) (pc' := 49) rfl (hb hby at_39) rfl (by decide) (by decide) (by decide) ?_
    show Steps p.tables e below (s₁.setTop (mkF m 49 #[.val (.int p1), .val (.int p2), .val (.int p3), .val (.int p4), .val (.int (p2 &&& (2147483647 : Int32))), .val (.int (2 : Int32)), .val (.long ((p1.toInt64 &&& (2147483647 : Int64)) - ((p1.toInt64 &&& (2147483647 : Int64)) / ((p2 &&& (2147483647 : Int32)).toInt64 + (1 : Int64))) * ((p2 &&& (2147483647 : Int32)).toInt64 + (1 : Int64)))), .second, .unset, .unset, .unset] [])) _
    refine XS.iload X0.here hx rfl (hb hby at_49) rfl ?_
    show Steps p.tables e below (s₁.setTop (mkF m 51 #[.val (.int p1), .val (.int p2), .val (.int p3), .val (.int p4), .val (.int (p2 &&& (2147483647 : Int32))), .val (.int (2 : Int32)), .val (.long ((p1.toInt64 &&& (2147483647 : Int64)) - ((p1.toInt64 &&& (2147483647 : Int64)) / ((p2 &&& (2147483647 : Int32)).toInt64 + (1 : Int64))) * ((p2 &&& (2147483647 : Int32)).toInt64 + (1 : Int64)))), .second, .unset, .unset, .unset] [(.int (2 : Int32))])) _
    refine XT.iconstV X0.here hx rfl (2 : Int32) (hb hby at_51) rfl ?_
    show Steps p.tables e below (s₁.setTop (mkF m 52 #[.val (.int p1), .val (.int p2), .val (.int p3), .val (.int p4), .val (.int (p2 &&& (2147483647 : Int32))), .val (.int (2 : Int32)), .val (.long ((p1.toInt64 &&& (2147483647 : Int64)) - ((p1.toInt64 &&& (2147483647 : Int64)) / ((p2 &&& (2147483647 : Int32)).toInt64 + (1 : Int64))) * ((p2 &&& (2147483647 : Int32)).toInt64 + (1 : Int64)))), .second, .unset, .unset, .unset] [(.int (2 : Int32)), (.int (2 : Int32))])) _
    refine XS.icmpNo X0.here hx rfl (hb hby at_52) rfl (by decide) ?_
    show Steps p.tables e below (s₁.setTop (mkF m 55 #[.val (.int p1), .val (.int p2), .val (.int p3), .val (.int p4), .val (.int (p2 &&& (2147483647 : Int32))), .val (.int (2 : Int32)), .val (.long ((p1.toInt64 &&& (2147483647 : Int64)) - ((p1.toInt64 &&& (2147483647 : Int64)) / ((p2 &&& (2147483647 : Int32)).toInt64 + (1 : Int64))) * ((p2 &&& (2147483647 : Int32)).toInt64 + (1 : Int64)))), .second, .unset, .unset, .unset] [])) _
    refine XT.lload X0.here hx rfl (hb hby at_55) rfl ?_
    show Steps p.tables e below (s₁.setTop (mkF m 57 #[.val (.int p1), .val (.int p2), .val (.int p3), .val (.int p4), .val (.int (p2 &&& (2147483647 : Int32))), .val (.int (2 : Int32)), .val (.long ((p1.toInt64 &&& (2147483647 : Int64)) - ((p1.toInt64 &&& (2147483647 : Int64)) / ((p2 &&& (2147483647 : Int32)).toInt64 + (1 : Int64))) * ((p2 &&& (2147483647 : Int32)).toInt64 + (1 : Int64)))), .second, .unset, .unset, .unset] [(.long ((p1.toInt64 &&& (2147483647 : Int64)) - ((p1.toInt64 &&& (2147483647 : Int64)) / ((p2 &&& (2147483647 : Int32)).toInt64 + (1 : Int64))) * ((p2 &&& (2147483647 : Int32)).toInt64 + (1 : Int64))))])) _
    refine XT.l2i X0.here hx rfl (hb hby at_57) rfl ?_
    show Steps p.tables e below (s₁.setTop (mkF m 58 #[.val (.int p1), .val (.int p2), .val (.int p3), .val (.int p4), .val (.int (p2 &&& (2147483647 : Int32))), .val (.int (2 : Int32)), .val (.long ((p1.toInt64 &&& (2147483647 : Int64)) - ((p1.toInt64 &&& (2147483647 : Int64)) / ((p2 &&& (2147483647 : Int32)).toInt64 + (1 : Int64))) * ((p2 &&& (2147483647 : Int32)).toInt64 + (1 : Int64)))), .second, .unset, .unset, .unset] [(.int ((p1.toInt64 &&& (2147483647 : Int64)) - ((p1.toInt64 &&& (2147483647 : Int64)) / ((p2 &&& (2147483647 : Int32)).toInt64 + (1 : Int64))) * ((p2 &&& (2147483647 : Int32)).toInt64 + (1 : Int64))).toInt32)])) _
    refine XS.istore X0.here hx rfl (hb hby at_58) rfl (l' := #[.val (.int p1), .val (.int p2), .val (.int p3), .val (.int p4), .val (.int (p2 &&& (2147483647 : Int32))), .val (.int (2 : Int32)), .val (.long ((p1.toInt64 &&& (2147483647 : Int64)) - ((p1.toInt64 &&& (2147483647 : Int64)) / ((p2 &&& (2147483647 : Int32)).toInt64 + (1 : Int64))) * ((p2 &&& (2147483647 : Int32)).toInt64 + (1 : Int64)))), .second, .val (.int ((p1.toInt64 &&& (2147483647 : Int64)) - ((p1.toInt64 &&& (2147483647 : Int64)) / ((p2 &&& (2147483647 : Int32)).toInt64 + (1 : Int64))) * ((p2 &&& (2147483647 : Int32)).toInt64 + (1 : Int64))).toInt32), .unset, .unset]) rfl ?_
    show Steps p.tables e below (s₁.setTop (mkF m 60 #[.val (.int p1), .val (.int p2), .val (.int p3), .val (.int p4), .val (.int (p2 &&& (2147483647 : Int32))), .val (.int (2 : Int32)), .val (.long ((p1.toInt64 &&& (2147483647 : Int64)) - ((p1.toInt64 &&& (2147483647 : Int64)) / ((p2 &&& (2147483647 : Int32)).toInt64 + (1 : Int64))) * ((p2 &&& (2147483647 : Int32)).toInt64 + (1 : Int64)))), .second, .val (.int ((p1.toInt64 &&& (2147483647 : Int64)) - ((p1.toInt64 &&& (2147483647 : Int64)) / ((p2 &&& (2147483647 : Int32)).toInt64 + (1 : Int64))) * ((p2 &&& (2147483647 : Int32)).toInt64 + (1 : Int64))).toInt32), .unset, .unset] [])) _
    refine XS.goto X0.here hx rfl (pc0 := 60) (pc' := 71) rfl (hb hby at_60) (by decide) (by decide) ?_
    show Steps p.tables e below (s₁.setTop (mkF m 71 #[.val (.int p1), .val (.int p2), .val (.int p3), .val (.int p4), .val (.int (p2 &&& (2147483647 : Int32))), .val (.int (2 : Int32)), .val (.long ((p1.toInt64 &&& (2147483647 : Int64)) - ((p1.toInt64 &&& (2147483647 : Int64)) / ((p2 &&& (2147483647 : Int32)).toInt64 + (1 : Int64))) * ((p2 &&& (2147483647 : Int32)).toInt64 + (1 : Int64)))), .second, .val (.int ((p1.toInt64 &&& (2147483647 : Int64)) - ((p1.toInt64 &&& (2147483647 : Int64)) / ((p2 &&& (2147483647 : Int32)).toInt64 + (1 : Int64))) * ((p2 &&& (2147483647 : Int32)).toInt64 + (1 : Int64))).toInt32), .unset, .unset] [])) _
    refine XT.iconstV X0.here hx rfl (2 : Int32) (hb hby at_71) rfl ?_
    show Steps p.tables e below (s₁.setTop (mkF m 72 #[.val (.int p1), .val (.int p2), .val (.int p3), .val (.int p4), .val (.int (p2 &&& (2147483647 : Int32))), .val (.int (2 : Int32)), .val (.long ((p1.toInt64 &&& (2147483647 : Int64)) - ((p1.toInt64 &&& (2147483647 : Int64)) / ((p2 &&& (2147483647 : Int32)).toInt64 + (1 : Int64))) * ((p2 &&& (2147483647 : Int32)).toInt64 + (1 : Int64)))), .second, .val (.int ((p1.toInt64 &&& (2147483647 : Int64)) - ((p1.toInt64 &&& (2147483647 : Int64)) / ((p2 &&& (2147483647 : Int32)).toInt64 + (1 : Int64))) * ((p2 &&& (2147483647 : Int32)).toInt64 + (1 : Int64))).toInt32), .unset, .unset] [(.int (2 : Int32))])) _
    refine st23 _ ?_
    show Steps p.tables e below (T23.setTop (mkF m 74 #[.val (.int p1), .val (.int p2), .val (.int p3), .val (.int p4), .val (.int (p2 &&& (2147483647 : Int32))), .val (.int (2 : Int32)), .val (.long ((p1.toInt64 &&& (2147483647 : Int64)) - ((p1.toInt64 &&& (2147483647 : Int64)) / ((p2 &&& (2147483647 : Int32)).toInt64 + (1 : Int64))) * ((p2 &&& (2147483647 : Int32)).toInt64 + (1 : Int64)))), .second, .val (.int ((p1.toInt64 &&& (2147483647 : Int64)) - ((p1.toInt64 &&& (2147483647 : Int64)) / ((p2 &&& (2147483647 : Int32)).toInt64 + (1 : Int64))) * ((p2 &&& (2147483647 : Int32)).toInt64 + (1 : Int64))).toInt32), .unset, .unset] [(.ref b23)])) _
    refine XS.dup X23.here hx rfl (hb hby at_74) rfl rfl ?_
    show Steps p.tables e below (T23.setTop (mkF m 75 #[.val (.int p1), .val (.int p2), .val (.int p3), .val (.int p4), .val (.int (p2 &&& (2147483647 : Int32))), .val (.int (2 : Int32)), .val (.long ((p1.toInt64 &&& (2147483647 : Int64)) - ((p1.toInt64 &&& (2147483647 : Int64)) / ((p2 &&& (2147483647 : Int32)).toInt64 + (1 : Int64))) * ((p2 &&& (2147483647 : Int32)).toInt64 + (1 : Int64)))), .second, .val (.int ((p1.toInt64 &&& (2147483647 : Int64)) - ((p1.toInt64 &&& (2147483647 : Int64)) / ((p2 &&& (2147483647 : Int32)).toInt64 + (1 : Int64))) * ((p2 &&& (2147483647 : Int32)).toInt64 + (1 : Int64))).toInt32), .unset, .unset] [(.ref b23), (.ref b23)])) _
    refine XT.iconstV X23.here hx rfl (0 : Int32) (hb hby at_75) rfl ?_
    show Steps p.tables e below (T23.setTop (mkF m 76 #[.val (.int p1), .val (.int p2), .val (.int p3), .val (.int p4), .val (.int (p2 &&& (2147483647 : Int32))), .val (.int (2 : Int32)), .val (.long ((p1.toInt64 &&& (2147483647 : Int64)) - ((p1.toInt64 &&& (2147483647 : Int64)) / ((p2 &&& (2147483647 : Int32)).toInt64 + (1 : Int64))) * ((p2 &&& (2147483647 : Int32)).toInt64 + (1 : Int64)))), .second, .val (.int ((p1.toInt64 &&& (2147483647 : Int64)) - ((p1.toInt64 &&& (2147483647 : Int64)) / ((p2 &&& (2147483647 : Int32)).toInt64 + (1 : Int64))) * ((p2 &&& (2147483647 : Int32)).toInt64 + (1 : Int64))).toInt32), .unset, .unset] [(.int (0 : Int32)), (.ref b23), (.ref b23)])) _
    refine XS.iloadN X23.here hx rfl (hb hby at_76) rfl ?_
    show Steps p.tables e below (T23.setTop (mkF m 77 #[.val (.int p1), .val (.int p2), .val (.int p3), .val (.int p4), .val (.int (p2 &&& (2147483647 : Int32))), .val (.int (2 : Int32)), .val (.long ((p1.toInt64 &&& (2147483647 : Int64)) - ((p1.toInt64 &&& (2147483647 : Int64)) / ((p2 &&& (2147483647 : Int32)).toInt64 + (1 : Int64))) * ((p2 &&& (2147483647 : Int32)).toInt64 + (1 : Int64)))), .second, .val (.int ((p1.toInt64 &&& (2147483647 : Int64)) - ((p1.toInt64 &&& (2147483647 : Int64)) / ((p2 &&& (2147483647 : Int32)).toInt64 + (1 : Int64))) * ((p2 &&& (2147483647 : Int32)).toInt64 + (1 : Int64))).toInt32), .unset, .unset] [(.int p4), (.int (0 : Int32)), (.ref b23), (.ref b23)])) _
    refine XT.sipushV X23.here hx rfl (255 : Int32) (hb hby at_77) (by decide) ?_
    show Steps p.tables e below (T23.setTop (mkF m 80 #[.val (.int p1), .val (.int p2), .val (.int p3), .val (.int p4), .val (.int (p2 &&& (2147483647 : Int32))), .val (.int (2 : Int32)), .val (.long ((p1.toInt64 &&& (2147483647 : Int64)) - ((p1.toInt64 &&& (2147483647 : Int64)) / ((p2 &&& (2147483647 : Int32)).toInt64 + (1 : Int64))) * ((p2 &&& (2147483647 : Int32)).toInt64 + (1 : Int64)))), .second, .val (.int ((p1.toInt64 &&& (2147483647 : Int64)) - ((p1.toInt64 &&& (2147483647 : Int64)) / ((p2 &&& (2147483647 : Int32)).toInt64 + (1 : Int64))) * ((p2 &&& (2147483647 : Int32)).toInt64 + (1 : Int64))).toInt32), .unset, .unset] [(.int (255 : Int32)), (.int p4), (.int (0 : Int32)), (.ref b23), (.ref b23)])) _
    refine XS.iand X23.here hx rfl (hb hby at_80) rfl ?_
    show Steps p.tables e below (T23.setTop (mkF m 81 #[.val (.int p1), .val (.int p2), .val (.int p3), .val (.int p4), .val (.int (p2 &&& (2147483647 : Int32))), .val (.int (2 : Int32)), .val (.long ((p1.toInt64 &&& (2147483647 : Int64)) - ((p1.toInt64 &&& (2147483647 : Int64)) / ((p2 &&& (2147483647 : Int32)).toInt64 + (1 : Int64))) * ((p2 &&& (2147483647 : Int32)).toInt64 + (1 : Int64)))), .second, .val (.int ((p1.toInt64 &&& (2147483647 : Int64)) - ((p1.toInt64 &&& (2147483647 : Int64)) / ((p2 &&& (2147483647 : Int32)).toInt64 + (1 : Int64))) * ((p2 &&& (2147483647 : Int32)).toInt64 + (1 : Int64))).toInt32), .unset, .unset] [(.int (p4 &&& (255 : Int32))), (.int (0 : Int32)), (.ref b23), (.ref b23)])) _
    refine XT.i2c X23.here hx rfl (hb hby at_81) rfl ?_
    show Steps p.tables e below (T23.setTop (mkF m 82 #[.val (.int p1), .val (.int p2), .val (.int p3), .val (.int p4), .val (.int (p2 &&& (2147483647 : Int32))), .val (.int (2 : Int32)), .val (.long ((p1.toInt64 &&& (2147483647 : Int64)) - ((p1.toInt64 &&& (2147483647 : Int64)) / ((p2 &&& (2147483647 : Int32)).toInt64 + (1 : Int64))) * ((p2 &&& (2147483647 : Int32)).toInt64 + (1 : Int64)))), .second, .val (.int ((p1.toInt64 &&& (2147483647 : Int64)) - ((p1.toInt64 &&& (2147483647 : Int64)) / ((p2 &&& (2147483647 : Int32)).toInt64 + (1 : Int64))) * ((p2 &&& (2147483647 : Int32)).toInt64 + (1 : Int64))).toInt32), .unset, .unset] [(.int (p4 &&& (255 : Int32)).toUInt32.toUInt16.toUInt32.toInt32), (.int (0 : Int32)), (.ref b23), (.ref b23)])) _
    refine st24 _ ?_
    show Steps p.tables e below (T24.setTop (mkF m 83 #[.val (.int p1), .val (.int p2), .val (.int p3), .val (.int p4), .val (.int (p2 &&& (2147483647 : Int32))), .val (.int (2 : Int32)), .val (.long ((p1.toInt64 &&& (2147483647 : Int64)) - ((p1.toInt64 &&& (2147483647 : Int64)) / ((p2 &&& (2147483647 : Int32)).toInt64 + (1 : Int64))) * ((p2 &&& (2147483647 : Int32)).toInt64 + (1 : Int64)))), .second, .val (.int ((p1.toInt64 &&& (2147483647 : Int64)) - ((p1.toInt64 &&& (2147483647 : Int64)) / ((p2 &&& (2147483647 : Int32)).toInt64 + (1 : Int64))) * ((p2 &&& (2147483647 : Int32)).toInt64 + (1 : Int64))).toInt32), .unset, .unset] [(.ref b23)])) _
    refine XS.dup X24.here hx rfl (hb hby at_83) rfl rfl ?_
    show Steps p.tables e below (T24.setTop (mkF m 84 #[.val (.int p1), .val (.int p2), .val (.int p3), .val (.int p4), .val (.int (p2 &&& (2147483647 : Int32))), .val (.int (2 : Int32)), .val (.long ((p1.toInt64 &&& (2147483647 : Int64)) - ((p1.toInt64 &&& (2147483647 : Int64)) / ((p2 &&& (2147483647 : Int32)).toInt64 + (1 : Int64))) * ((p2 &&& (2147483647 : Int32)).toInt64 + (1 : Int64)))), .second, .val (.int ((p1.toInt64 &&& (2147483647 : Int64)) - ((p1.toInt64 &&& (2147483647 : Int64)) / ((p2 &&& (2147483647 : Int32)).toInt64 + (1 : Int64))) * ((p2 &&& (2147483647 : Int32)).toInt64 + (1 : Int64))).toInt32), .unset, .unset] [(.ref b23), (.ref b23)])) _
    refine XT.iconstV X24.here hx rfl (1 : Int32) (hb hby at_84) rfl ?_
    show Steps p.tables e below (T24.setTop (mkF m 85 #[.val (.int p1), .val (.int p2), .val (.int p3), .val (.int p4), .val (.int (p2 &&& (2147483647 : Int32))), .val (.int (2 : Int32)), .val (.long ((p1.toInt64 &&& (2147483647 : Int64)) - ((p1.toInt64 &&& (2147483647 : Int64)) / ((p2 &&& (2147483647 : Int32)).toInt64 + (1 : Int64))) * ((p2 &&& (2147483647 : Int32)).toInt64 + (1 : Int64)))), .second, .val (.int ((p1.toInt64 &&& (2147483647 : Int64)) - ((p1.toInt64 &&& (2147483647 : Int64)) / ((p2 &&& (2147483647 : Int32)).toInt64 + (1 : Int64))) * ((p2 &&& (2147483647 : Int32)).toInt64 + (1 : Int64))).toInt32), .unset, .unset] [(.int (1 : Int32)), (.ref b23), (.ref b23)])) _
    refine XS.iloadN X24.here hx rfl (hb hby at_85) rfl ?_
    show Steps p.tables e below (T24.setTop (mkF m 86 #[.val (.int p1), .val (.int p2), .val (.int p3), .val (.int p4), .val (.int (p2 &&& (2147483647 : Int32))), .val (.int (2 : Int32)), .val (.long ((p1.toInt64 &&& (2147483647 : Int64)) - ((p1.toInt64 &&& (2147483647 : Int64)) / ((p2 &&& (2147483647 : Int32)).toInt64 + (1 : Int64))) * ((p2 &&& (2147483647 : Int32)).toInt64 + (1 : Int64)))), .second, .val (.int ((p1.toInt64 &&& (2147483647 : Int64)) - ((p1.toInt64 &&& (2147483647 : Int64)) / ((p2 &&& (2147483647 : Int32)).toInt64 + (1 : Int64))) * ((p2 &&& (2147483647 : Int32)).toInt64 + (1 : Int64))).toInt32), .unset, .unset] [(.int p4), (.int (1 : Int32)), (.ref b23), (.ref b23)])) _
    refine XT.bipushV X24.here hx rfl (8 : Int32) (hb hby at_86) (by decide) ?_
    show Steps p.tables e below (T24.setTop (mkF m 88 #[.val (.int p1), .val (.int p2), .val (.int p3), .val (.int p4), .val (.int (p2 &&& (2147483647 : Int32))), .val (.int (2 : Int32)), .val (.long ((p1.toInt64 &&& (2147483647 : Int64)) - ((p1.toInt64 &&& (2147483647 : Int64)) / ((p2 &&& (2147483647 : Int32)).toInt64 + (1 : Int64))) * ((p2 &&& (2147483647 : Int32)).toInt64 + (1 : Int64)))), .second, .val (.int ((p1.toInt64 &&& (2147483647 : Int64)) - ((p1.toInt64 &&& (2147483647 : Int64)) / ((p2 &&& (2147483647 : Int32)).toInt64 + (1 : Int64))) * ((p2 &&& (2147483647 : Int32)).toInt64 + (1 : Int64))).toInt32), .unset, .unset] [(.int (8 : Int32)), (.int p4), (.int (1 : Int32)), (.ref b23), (.ref b23)])) _
    refine XT.iushr X24.here hx rfl (hb hby at_88) rfl ?_
    show Steps p.tables e below (T24.setTop (mkF m 89 #[.val (.int p1), .val (.int p2), .val (.int p3), .val (.int p4), .val (.int (p2 &&& (2147483647 : Int32))), .val (.int (2 : Int32)), .val (.long ((p1.toInt64 &&& (2147483647 : Int64)) - ((p1.toInt64 &&& (2147483647 : Int64)) / ((p2 &&& (2147483647 : Int32)).toInt64 + (1 : Int64))) * ((p2 &&& (2147483647 : Int32)).toInt64 + (1 : Int64)))), .second, .val (.int ((p1.toInt64 &&& (2147483647 : Int64)) - ((p1.toInt64 &&& (2147483647 : Int64)) / ((p2 &&& (2147483647 : Int32)).toInt64 + (1 : Int64))) * ((p2 &&& (2147483647 : Int32)).toInt64 + (1 : Int64))).toInt32), .unset, .unset] [(.int (XT.ushr p4 (8 : Int32))), (.int (1 : Int32)), (.ref b23), (.ref b23)])) _
    refine XT.sipushV X24.here hx rfl (255 : Int32) (hb hby at_89) (by decide) ?_
    show Steps p.tables e below (T24.setTop (mkF m 92 #[.val (.int p1), .val (.int p2), .val (.int p3), .val (.int p4), .val (.int (p2 &&& (2147483647 : Int32))), .val (.int (2 : Int32)), .val (.long ((p1.toInt64 &&& (2147483647 : Int64)) - ((p1.toInt64 &&& (2147483647 : Int64)) / ((p2 &&& (2147483647 : Int32)).toInt64 + (1 : Int64))) * ((p2 &&& (2147483647 : Int32)).toInt64 + (1 : Int64)))), .second, .val (.int ((p1.toInt64 &&& (2147483647 : Int64)) - ((p1.toInt64 &&& (2147483647 : Int64)) / ((p2 &&& (2147483647 : Int32)).toInt64 + (1 : Int64))) * ((p2 &&& (2147483647 : Int32)).toInt64 + (1 : Int64))).toInt32), .unset, .unset] [(.int (255 : Int32)), (.int (XT.ushr p4 (8 : Int32))), (.int (1 : Int32)), (.ref b23), (.ref b23)])) _
    refine XS.iand X24.here hx rfl (hb hby at_92) rfl ?_
    show Steps p.tables e below (T24.setTop (mkF m 93 #[.val (.int p1), .val (.int p2), .val (.int p3), .val (.int p4), .val (.int (p2 &&& (2147483647 : Int32))), .val (.int (2 : Int32)), .val (.long ((p1.toInt64 &&& (2147483647 : Int64)) - ((p1.toInt64 &&& (2147483647 : Int64)) / ((p2 &&& (2147483647 : Int32)).toInt64 + (1 : Int64))) * ((p2 &&& (2147483647 : Int32)).toInt64 + (1 : Int64)))), .second, .val (.int ((p1.toInt64 &&& (2147483647 : Int64)) - ((p1.toInt64 &&& (2147483647 : Int64)) / ((p2 &&& (2147483647 : Int32)).toInt64 + (1 : Int64))) * ((p2 &&& (2147483647 : Int32)).toInt64 + (1 : Int64))).toInt32), .unset, .unset] [(.int ((XT.ushr p4 (8 : Int32)) &&& (255 : Int32))), (.int (1 : Int32)), (.ref b23), (.ref b23)])) _
    refine XT.i2c X24.here hx rfl (hb hby at_93) rfl ?_
    show Steps p.tables e below (T24.setTop (mkF m 94 #[.val (.int p1), .val (.int p2), .val (.int p3), .val (.int p4), .val (.int (p2 &&& (2147483647 : Int32))), .val (.int (2 : Int32)), .val (.long ((p1.toInt64 &&& (2147483647 : Int64)) - ((p1.toInt64 &&& (2147483647 : Int64)) / ((p2 &&& (2147483647 : Int32)).toInt64 + (1 : Int64))) * ((p2 &&& (2147483647 : Int32)).toInt64 + (1 : Int64)))), .second, .val (.int ((p1.toInt64 &&& (2147483647 : Int64)) - ((p1.toInt64 &&& (2147483647 : Int64)) / ((p2 &&& (2147483647 : Int32)).toInt64 + (1 : Int64))) * ((p2 &&& (2147483647 : Int32)).toInt64 + (1 : Int64))).toInt32), .unset, .unset] [(.int ((XT.ushr p4 (8 : Int32)) &&& (255 : Int32)).toUInt32.toUInt16.toUInt32.toInt32), (.int (1 : Int32)), (.ref b23), (.ref b23)])) _
    refine st25 _ ?_
    show Steps p.tables e below (T25.setTop (mkF m 95 #[.val (.int p1), .val (.int p2), .val (.int p3), .val (.int p4), .val (.int (p2 &&& (2147483647 : Int32))), .val (.int (2 : Int32)), .val (.long ((p1.toInt64 &&& (2147483647 : Int64)) - ((p1.toInt64 &&& (2147483647 : Int64)) / ((p2 &&& (2147483647 : Int32)).toInt64 + (1 : Int64))) * ((p2 &&& (2147483647 : Int32)).toInt64 + (1 : Int64)))), .second, .val (.int ((p1.toInt64 &&& (2147483647 : Int64)) - ((p1.toInt64 &&& (2147483647 : Int64)) / ((p2 &&& (2147483647 : Int32)).toInt64 + (1 : Int64))) * ((p2 &&& (2147483647 : Int32)).toInt64 + (1 : Int64))).toInt32), .unset, .unset] [(.ref b23)])) _
    refine XS.astore X25.here hx rfl (hb hby at_95) rfl rfl (l' := #[.val (.int p1), .val (.int p2), .val (.int p3), .val (.int p4), .val (.int (p2 &&& (2147483647 : Int32))), .val (.int (2 : Int32)), .val (.long ((p1.toInt64 &&& (2147483647 : Int64)) - ((p1.toInt64 &&& (2147483647 : Int64)) / ((p2 &&& (2147483647 : Int32)).toInt64 + (1 : Int64))) * ((p2 &&& (2147483647 : Int32)).toInt64 + (1 : Int64)))), .second, .val (.int ((p1.toInt64 &&& (2147483647 : Int64)) - ((p1.toInt64 &&& (2147483647 : Int64)) / ((p2 &&& (2147483647 : Int32)).toInt64 + (1 : Int64))) * ((p2 &&& (2147483647 : Int32)).toInt64 + (1 : Int64))).toInt32), .val (.ref b23), .unset]) rfl ?_
    show Steps p.tables e below (T25.setTop (mkF m 97 #[.val (.int p1), .val (.int p2), .val (.int p3), .val (.int p4), .val (.int (p2 &&& (2147483647 : Int32))), .val (.int (2 : Int32)), .val (.long ((p1.toInt64 &&& (2147483647 : Int64)) - ((p1.toInt64 &&& (2147483647 : Int64)) / ((p2 &&& (2147483647 : Int32)).toInt64 + (1 : Int64))) * ((p2 &&& (2147483647 : Int32)).toInt64 + (1 : Int64)))), .second, .val (.int ((p1.toInt64 &&& (2147483647 : Int64)) - ((p1.toInt64 &&& (2147483647 : Int64)) / ((p2 &&& (2147483647 : Int32)).toInt64 + (1 : Int64))) * ((p2 &&& (2147483647 : Int32)).toInt64 + (1 : Int64))).toInt32), .val (.ref b23), .unset] [])) _
    refine st26 _ ?_
    show Steps p.tables e below (T26.setTop (mkF m 100 #[.val (.int p1), .val (.int p2), .val (.int p3), .val (.int p4), .val (.int (p2 &&& (2147483647 : Int32))), .val (.int (2 : Int32)), .val (.long ((p1.toInt64 &&& (2147483647 : Int64)) - ((p1.toInt64 &&& (2147483647 : Int64)) / ((p2 &&& (2147483647 : Int32)).toInt64 + (1 : Int64))) * ((p2 &&& (2147483647 : Int32)).toInt64 + (1 : Int64)))), .second, .val (.int ((p1.toInt64 &&& (2147483647 : Int64)) - ((p1.toInt64 &&& (2147483647 : Int64)) / ((p2 &&& (2147483647 : Int32)).toInt64 + (1 : Int64))) * ((p2 &&& (2147483647 : Int32)).toInt64 + (1 : Int64))).toInt32), .val (.ref b23), .unset] [(.ref b26)])) _
    refine XS.dup X26.here hx rfl (hb hby at_100) rfl rfl ?_
    show Steps p.tables e below (T26.setTop (mkF m 101 #[.val (.int p1), .val (.int p2), .val (.int p3), .val (.int p4), .val (.int (p2 &&& (2147483647 : Int32))), .val (.int (2 : Int32)), .val (.long ((p1.toInt64 &&& (2147483647 : Int64)) - ((p1.toInt64 &&& (2147483647 : Int64)) / ((p2 &&& (2147483647 : Int32)).toInt64 + (1 : Int64))) * ((p2 &&& (2147483647 : Int32)).toInt64 + (1 : Int64)))), .second, .val (.int ((p1.toInt64 &&& (2147483647 : Int64)) - ((p1.toInt64 &&& (2147483647 : Int64)) / ((p2 &&& (2147483647 : Int32)).toInt64 + (1 : Int64))) * ((p2 &&& (2147483647 : Int32)).toInt64 + (1 : Int64))).toInt32), .val (.ref b23), .unset] [(.ref b26), (.ref b26)])) _
    refine XS.aload X26.here hx rfl (hb hby at_101) rfl rfl ?_
    show Steps p.tables e below (T26.setTop (mkF m 103 #[.val (.int p1), .val (.int p2), .val (.int p3), .val (.int p4), .val (.int (p2 &&& (2147483647 : Int32))), .val (.int (2 : Int32)), .val (.long ((p1.toInt64 &&& (2147483647 : Int64)) - ((p1.toInt64 &&& (2147483647 : Int64)) / ((p2 &&& (2147483647 : Int32)).toInt64 + (1 : Int64))) * ((p2 &&& (2147483647 : Int32)).toInt64 + (1 : Int64)))), .second, .val (.int ((p1.toInt64 &&& (2147483647 : Int64)) - ((p1.toInt64 &&& (2147483647 : Int64)) / ((p2 &&& (2147483647 : Int32)).toInt64 + (1 : Int64))) * ((p2 &&& (2147483647 : Int32)).toInt64 + (1 : Int64))).toInt32), .val (.ref b23), .unset] [(.ref b23), (.ref b26), (.ref b26)])) _
    refine st30.trans ?_
    show Steps p.tables e below (T30.setTop (mkF m 106 #[.val (.int p1), .val (.int p2), .val (.int p3), .val (.int p4), .val (.int (p2 &&& (2147483647 : Int32))), .val (.int (2 : Int32)), .val (.long ((p1.toInt64 &&& (2147483647 : Int64)) - ((p1.toInt64 &&& (2147483647 : Int64)) / ((p2 &&& (2147483647 : Int32)).toInt64 + (1 : Int64))) * ((p2 &&& (2147483647 : Int32)).toInt64 + (1 : Int64)))), .second, .val (.int ((p1.toInt64 &&& (2147483647 : Int64)) - ((p1.toInt64 &&& (2147483647 : Int64)) / ((p2 &&& (2147483647 : Int32)).toInt64 + (1 : Int64))) * ((p2 &&& (2147483647 : Int32)).toInt64 + (1 : Int64))).toInt32), .val (.ref b23), .unset] [(.ref b26)])) _
    refine XS.astore X30.here hx rfl (hb hby at_106) rfl rfl (l' := #[.val (.int p1), .val (.int p2), .val (.int p3), .val (.int p4), .val (.int (p2 &&& (2147483647 : Int32))), .val (.int (2 : Int32)), .val (.long ((p1.toInt64 &&& (2147483647 : Int64)) - ((p1.toInt64 &&& (2147483647 : Int64)) / ((p2 &&& (2147483647 : Int32)).toInt64 + (1 : Int64))) * ((p2 &&& (2147483647 : Int32)).toInt64 + (1 : Int64)))), .second, .val (.int ((p1.toInt64 &&& (2147483647 : Int64)) - ((p1.toInt64 &&& (2147483647 : Int64)) / ((p2 &&& (2147483647 : Int32)).toInt64 + (1 : Int64))) * ((p2 &&& (2147483647 : Int32)).toInt64 + (1 : Int64))).toInt32), .val (.ref b23), .val (.ref b26)]) rfl ?_
    show Steps p.tables e below (T30.setTop (mkF m 108 #[.val (.int p1), .val (.int p2), .val (.int p3), .val (.int p4), .val (.int (p2 &&& (2147483647 : Int32))), .val (.int (2 : Int32)), .val (.long ((p1.toInt64 &&& (2147483647 : Int64)) - ((p1.toInt64 &&& (2147483647 : Int64)) / ((p2 &&& (2147483647 : Int32)).toInt64 + (1 : Int64))) * ((p2 &&& (2147483647 : Int32)).toInt64 + (1 : Int64)))), .second, .val (.int ((p1.toInt64 &&& (2147483647 : Int64)) - ((p1.toInt64 &&& (2147483647 : Int64)) / ((p2 &&& (2147483647 : Int32)).toInt64 + (1 : Int64))) * ((p2 &&& (2147483647 : Int32)).toInt64 + (1 : Int64))).toInt32), .val (.ref b23), .val (.ref b26)] [])) _
    refine XS.iload X30.here hx rfl (hb hby at_108) rfl ?_
    show Steps p.tables e below (T30.setTop (mkF m 110 #[.val (.int p1), .val (.int p2), .val (.int p3), .val (.int p4), .val (.int (p2 &&& (2147483647 : Int32))), .val (.int (2 : Int32)), .val (.long ((p1.toInt64 &&& (2147483647 : Int64)) - ((p1.toInt64 &&& (2147483647 : Int64)) / ((p2 &&& (2147483647 : Int32)).toInt64 + (1 : Int64))) * ((p2 &&& (2147483647 : Int32)).toInt64 + (1 : Int64)))), .second, .val (.int ((p1.toInt64 &&& (2147483647 : Int64)) - ((p1.toInt64 &&& (2147483647 : Int64)) / ((p2 &&& (2147483647 : Int32)).toInt64 + (1 : Int64))) * ((p2 &&& (2147483647 : Int32)).toInt64 + (1 : Int64))).toInt32), .val (.ref b23), .val (.ref b26)] [(.int ((p1.toInt64 &&& (2147483647 : Int64)) - ((p1.toInt64 &&& (2147483647 : Int64)) / ((p2 &&& (2147483647 : Int32)).toInt64 + (1 : Int64))) * ((p2 &&& (2147483647 : Int32)).toInt64 + (1 : Int64))).toInt32)])) _
    refine XS.iload X30.here hx rfl (hb hby at_110) rfl ?_
    show Steps p.tables e below (T30.setTop (mkF m 112 #[.val (.int p1), .val (.int p2), .val (.int p3), .val (.int p4), .val (.int (p2 &&& (2147483647 : Int32))), .val (.int (2 : Int32)), .val (.long ((p1.toInt64 &&& (2147483647 : Int64)) - ((p1.toInt64 &&& (2147483647 : Int64)) / ((p2 &&& (2147483647 : Int32)).toInt64 + (1 : Int64))) * ((p2 &&& (2147483647 : Int32)).toInt64 + (1 : Int64)))), .second, .val (.int ((p1.toInt64 &&& (2147483647 : Int64)) - ((p1.toInt64 &&& (2147483647 : Int64)) / ((p2 &&& (2147483647 : Int32)).toInt64 + (1 : Int64))) * ((p2 &&& (2147483647 : Int32)).toInt64 + (1 : Int64))).toInt32), .val (.ref b23), .val (.ref b26)] [(.int (p2 &&& (2147483647 : Int32))), (.int ((p1.toInt64 &&& (2147483647 : Int64)) - ((p1.toInt64 &&& (2147483647 : Int64)) / ((p2 &&& (2147483647 : Int32)).toInt64 + (1 : Int64))) * ((p2 &&& (2147483647 : Int32)).toInt64 + (1 : Int64))).toInt32)])) _
    refine XS.aload X30.here hx rfl (hb hby at_112) rfl rfl ?_
    show Steps p.tables e below (T30.setTop (mkF m 114 #[.val (.int p1), .val (.int p2), .val (.int p3), .val (.int p4), .val (.int (p2 &&& (2147483647 : Int32))), .val (.int (2 : Int32)), .val (.long ((p1.toInt64 &&& (2147483647 : Int64)) - ((p1.toInt64 &&& (2147483647 : Int64)) / ((p2 &&& (2147483647 : Int32)).toInt64 + (1 : Int64))) * ((p2 &&& (2147483647 : Int32)).toInt64 + (1 : Int64)))), .second, .val (.int ((p1.toInt64 &&& (2147483647 : Int64)) - ((p1.toInt64 &&& (2147483647 : Int64)) / ((p2 &&& (2147483647 : Int32)).toInt64 + (1 : Int64))) * ((p2 &&& (2147483647 : Int32)).toInt64 + (1 : Int64))).toInt32), .val (.ref b23), .val (.ref b26)] [(.ref b26), (.int (p2 &&& (2147483647 : Int32))), (.int ((p1.toInt64 &&& (2147483647 : Int64)) - ((p1.toInt64 &&& (2147483647 : Int64)) / ((p2 &&& (2147483647 : Int32)).toInt64 + (1 : Int64))) * ((p2 &&& (2147483647 : Int32)).toInt64 + (1 : Int64))).toInt32)])) _
    refine st33 _ ?_
    show Steps p.tables e below (T33.setTop (mkF m 117 #[.val (.int p1), .val (.int p2), .val (.int p3), .val (.int p4), .val (.int (p2 &&& (2147483647 : Int32))), .val (.int (2 : Int32)), .val (.long ((p1.toInt64 &&& (2147483647 : Int64)) - ((p1.toInt64 &&& (2147483647 : Int64)) / ((p2 &&& (2147483647 : Int32)).toInt64 + (1 : Int64))) * ((p2 &&& (2147483647 : Int32)).toInt64 + (1 : Int64)))), .second, .val (.int ((p1.toInt64 &&& (2147483647 : Int64)) - ((p1.toInt64 &&& (2147483647 : Int64)) / ((p2 &&& (2147483647 : Int32)).toInt64 + (1 : Int64))) * ((p2 &&& (2147483647 : Int32)).toInt64 + (1 : Int64))).toInt32), .val (.ref b23), .val (.ref b26)] [(.int ((p1.toInt64 &&& (2147483647 : Int64)) - ((p1.toInt64 &&& (2147483647 : Int64)) / ((p2 &&& (2147483647 : Int32)).toInt64 + (1 : Int64))) * ((p2 &&& (2147483647 : Int32)).toInt64 + (1 : Int64))).toInt32)])) _
    refine XS.iload X33.here hx rfl (hb hby at_117) rfl ?_
    show Steps p.tables e below (T33.setTop (mkF m 119 #[.val (.int p1), .val (.int p2), .val (.int p3), .val (.int p4), .val (.int (p2 &&& (2147483647 : Int32))), .val (.int (2 : Int32)), .val (.long ((p1.toInt64 &&& (2147483647 : Int64)) - ((p1.toInt64 &&& (2147483647 : Int64)) / ((p2 &&& (2147483647 : Int32)).toInt64 + (1 : Int64))) * ((p2 &&& (2147483647 : Int32)).toInt64 + (1 : Int64)))), .second, .val (.int ((p1.toInt64 &&& (2147483647 : Int64)) - ((p1.toInt64 &&& (2147483647 : Int64)) / ((p2 &&& (2147483647 : Int32)).toInt64 + (1 : Int64))) * ((p2 &&& (2147483647 : Int32)).toInt64 + (1 : Int64))).toInt32), .val (.ref b23), .val (.ref b26)] [(.int ((p1.toInt64 &&& (2147483647 : Int64)) - ((p1.toInt64 &&& (2147483647 : Int64)) / ((p2 &&& (2147483647 : Int32)).toInt64 + (1 : Int64))) * ((p2 &&& (2147483647 : Int32)).toInt64 + (1 : Int64))).toInt32), (.int ((p1.toInt64 &&& (2147483647 : Int64)) - ((p1.toInt64 &&& (2147483647 : Int64)) / ((p2 &&& (2147483647 : Int32)).toInt64 + (1 : Int64))) * ((p2 &&& (2147483647 : Int32)).toInt64 + (1 : Int64))).toInt32)])) _
    refine XS.icmpNo X33.here hx rfl (hb hby at_119) rfl (XT.ii_ne_f rfl) ?_
    show Steps p.tables e below (T33.setTop (mkF m 122 #[.val (.int p1), .val (.int p2), .val (.int p3), .val (.int p4), .val (.int (p2 &&& (2147483647 : Int32))), .val (.int (2 : Int32)), .val (.long ((p1.toInt64 &&& (2147483647 : Int64)) - ((p1.toInt64 &&& (2147483647 : Int64)) / ((p2 &&& (2147483647 : Int32)).toInt64 + (1 : Int64))) * ((p2 &&& (2147483647 : Int32)).toInt64 + (1 : Int64)))), .second, .val (.int ((p1.toInt64 &&& (2147483647 : Int64)) - ((p1.toInt64 &&& (2147483647 : Int64)) / ((p2 &&& (2147483647 : Int32)).toInt64 + (1 : Int64))) * ((p2 &&& (2147483647 : Int32)).toInt64 + (1 : Int64))).toInt32), .val (.ref b23), .val (.ref b26)] [])) _
    refine XT.iconstV X33.here hx rfl (1 : Int32) (hb hby at_122) rfl ?_
    show Steps p.tables e below (T33.setTop (mkF m 123 #[.val (.int p1), .val (.int p2), .val (.int p3), .val (.int p4), .val (.int (p2 &&& (2147483647 : Int32))), .val (.int (2 : Int32)), .val (.long ((p1.toInt64 &&& (2147483647 : Int64)) - ((p1.toInt64 &&& (2147483647 : Int64)) / ((p2 &&& (2147483647 : Int32)).toInt64 + (1 : Int64))) * ((p2 &&& (2147483647 : Int32)).toInt64 + (1 : Int64)))), .second, .val (.int ((p1.toInt64 &&& (2147483647 : Int64)) - ((p1.toInt64 &&& (2147483647 : Int64)) / ((p2 &&& (2147483647 : Int32)).toInt64 + (1 : Int64))) * ((p2 &&& (2147483647 : Int32)).toInt64 + (1 : Int64))).toInt32), .val (.ref b23), .val (.ref b26)] [(.int (1 : Int32))])) _
    refine XS.goto X33.here hx rfl (pc0 := 123) (pc' := 127) rfl (hb hby at_123) (by decide) (by decide) ?_
    show Steps p.tables e below (T33.setTop (mkF m 127 #[.val (.int p1), .val (.int p2), .val (.int p3), .val (.int p4), .val (.int (p2 &&& (2147483647 : Int32))), .val (.int (2 : Int32)), .val (.long ((p1.toInt64 &&& (2147483647 : Int64)) - ((p1.toInt64 &&& (2147483647 : Int64)) / ((p2 &&& (2147483647 : Int32)).toInt64 + (1 : Int64))) * ((p2 &&& (2147483647 : Int32)).toInt64 + (1 : Int64)))), .second, .val (.int ((p1.toInt64 &&& (2147483647 : Int64)) - ((p1.toInt64 &&& (2147483647 : Int64)) / ((p2 &&& (2147483647 : Int32)).toInt64 + (1 : Int64))) * ((p2 &&& (2147483647 : Int32)).toInt64 + (1 : Int64))).toInt32), .val (.ref b23), .val (.ref b26)] [(.int (1 : Int32))])) _
    exact retN X33 hx (t := .boolean) Bd.returns (by simp) (hb hby at_127) hr
  · show own_Q0 n0 _ T33.heap _
    exact ⟨rfl, N33⟩
set_option maxRecDepth 65536 in
set_option maxHeartbeats 40000000 in
theorem own_law_3 (l : Launch) (Z : State) (a0 : Array Value) (hw : ∀ d ∈ tables_1, d.before a0 Z = true) (ws : List Jvm.Cond) (p1 p2 p3 p4 i7 : Int32) (h0 : Heap) (n0 : Nat) (Z0 : n0 ≤ h0.size) (S8 : Sta Z h0 "java/lang/String" "COMPACT_STRINGS" "Z" (.int i7)) (c9 : ¬ (i7 = (0 : Int32))) (hk : (p3 &&& (3 : Int32)) = (3 : Int32)) (hD : ((p2 &&& (2147483647 : Int32)).toInt64 + (1 : Int64)) ≠ 0) (hv1 : ¬ ((p2 &&& (2147483647 : Int32)) - ((p1.toInt64 &&& (2147483647 : Int64)) - ((p1.toInt64 &&& (2147483647 : Int64)) / ((p2 &&& (2147483647 : Int32)).toInt64 + (1 : Int64))) * ((p2 &&& (2147483647 : Int32)).toInt64 + (1 : Int64))).toInt32) < 0) (hv2 : ¬ (p2 &&& (2147483647 : Int32)) < ((p2 &&& (2147483647 : Int32)) - ((p1.toInt64 &&& (2147483647 : Int64)) - ((p1.toInt64 &&& (2147483647 : Int64)) / ((p2 &&& (2147483647 : Int32)).toInt64 + (1 : Int64))) * ((p2 &&& (2147483647 : Int32)).toInt64 + (1 : Int64))).toInt32)) :
    MetFree l x (head1 (Jvm.Cond.code x code maxLocals ret :: ws) room_1) (fun a U => a = #[(.int p1), (.int p2), (.int p3), (.int p4)] ∧ Z.Warmed39 U.vm ∧ U.heap = h0) (fun _ _ _ _ _ => True) (fun _ U o U' => ∃ v L, o = .returned v ∧ own_Q0 n0 v U'.heap L ∧ FrameEnd U o U' L room_1.cells room_1.slots) := by
  refine MetFree.of_bodySF (plainFor_of_name pn_com_example_plimsoll_plimsoll_model_FieldsUnsignedPinLaw) hisR ?_
  intro p e s m args below meth c s₁ Bd hml0 hP hK
  obtain ⟨rfl, hZ, hh⟩ := hP
  have hx := Bd.exec
  have hby := Bd.bytes
  have hml : c.maxLocals = 11 := hml0
  have hown : s.vm.findClass "com/example/plimsoll/plimsoll/model/FieldsUnsignedPinLaw" = some m.cls := findClass_of_methodNamed Bd.named
  have hnm := (name_of_methodNamed Bd.named Bd.method).1
  have X0 : Stand p l e room_1 s m #[(.int p1), (.int p2), (.int p3), (.int p4)] below meth c s₁ [] 0 0 := Stand.of_body Bd
  have e0 : s₁.heap = h0 := by rw [← hh, Bd.state]; rfl
  have N0 := Fr.nil n0
  have pre0 : ∀ t, Steps p.tables e below (s₁.setTop (mkF m 0 #[.val (.int p1), .val (.int p2), .val (.int p3), .val (.int p4), .unset, .unset, .unset, .unset, .unset, .unset, .unset] [])) t → Steps p.tables e below (s₁.setTop (entryFrame m #[(.int p1), (.int p2), (.int p3), (.int p4)] maxLocals)) t := fun t k => castTop (ef_code_IIII m p1 p2 p3 p4) k
  obtain ⟨T34, h34, k34, X34, e34, E34, A34, st34⟩ := newP X0 hx hZ (hw _ (List.mem_of_getElem? (i := 2) rfl)) e0 (g := (mkF m 72 #[.val (.int p1), .val (.int p2), .val (.int p3), .val (.int p4), .val (.int (p2 &&& (2147483647 : Int32))), .val (.int (3 : Int32)), .val (.long ((p1.toInt64 &&& (2147483647 : Int64)) - ((p1.toInt64 &&& (2147483647 : Int64)) / ((p2 &&& (2147483647 : Int32)).toInt64 + (1 : Int64))) * ((p2 &&& (2147483647 : Int32)).toInt64 + (1 : Int64)))), .second, .val (.int ((p2 &&& (2147483647 : Int32)) - ((p1.toInt64 &&& (2147483647 : Int64)) - ((p1.toInt64 &&& (2147483647 : Int64)) / ((p2 &&& (2147483647 : Int32)).toInt64 + (1 : Int64))) * ((p2 &&& (2147483647 : Int32)).toInt64 + (1 : Int64))).toInt32)), .unset, .unset] [(.int (2 : Int32))])) rfl (hb hby at_72) rfl (by decide) (cap := 2) (by decide) (by decide) (by decide) (by decide)
  obtain ⟨b34, g34⟩ : ∃ z, z = h0.size := ⟨_, rfl⟩
  rw [← g34] at A34 st34
  have V34 : Arv Z h34 b34 k34 .char (2 : Int32) (List.replicate 2 (.int (0 : Int32))) (.int (0 : Int32)) := (Arv.new A34 (by decide)).pad (fun i => pad_rep [] (.int (0 : Int32)) 2 i)
  have q34 : h0.size ≤ b34 := by rw [g34]; exact Nat.le_refl _
  have EX34 : Ext h0 h34 := E34
  have Z34 : n0 ≤ h34.size := Nat.le_trans Z0 EX34.1
  obtain ⟨T35, h35, X35, e35, W35, V35, st35⟩ := own_stC X34 hx hZ e34 V34 (j := (0 : Int32)) (by decide) (i := 0) (by decide) (by simp) (g := (mkF m 82 #[.val (.int p1), .val (.int p2), .val (.int p3), .val (.int p4), .val (.int (p2 &&& (2147483647 : Int32))), .val (.int (3 : Int32)), .val (.long ((p1.toInt64 &&& (2147483647 : Int64)) - ((p1.toInt64 &&& (2147483647 : Int64)) / ((p2 &&& (2147483647 : Int32)).toInt64 + (1 : Int64))) * ((p2 &&& (2147483647 : Int32)).toInt64 + (1 : Int64)))), .second, .val (.int ((p2 &&& (2147483647 : Int32)) - ((p1.toInt64 &&& (2147483647 : Int64)) - ((p1.toInt64 &&& (2147483647 : Int64)) / ((p2 &&& (2147483647 : Int32)).toInt64 + (1 : Int64))) * ((p2 &&& (2147483647 : Int32)).toInt64 + (1 : Int64))).toInt32)), .unset, .unset] [(.int (p4 &&& (255 : Int32)).toUInt32.toUInt16.toUInt32.toInt32), (.int (0 : Int32)), (.ref b34), (.ref b34)])) rfl rfl (hb hby at_82)
  have EX35 : Ext h0 h35 := own_ext_wr EX34 W35 q34
  have Z35 : n0 ≤ h35.size := Nat.le_trans Z0 EX35.1
  have N35 := Fr.snoc X35 N0 (Nat.le_trans Z0 q34)
  obtain ⟨T36, h36, X36, e36, W36, V36, st36⟩ := own_stC X35 hx hZ e35 V35 (j := (1 : Int32)) (by decide) (i := 1) (by decide) (by simp) (g := (mkF m 94 #[.val (.int p1), .val (.int p2), .val (.int p3), .val (.int p4), .val (.int (p2 &&& (2147483647 : Int32))), .val (.int (3 : Int32)), .val (.long ((p1.toInt64 &&& (2147483647 : Int64)) - ((p1.toInt64 &&& (2147483647 : Int64)) / ((p2 &&& (2147483647 : Int32)).toInt64 + (1 : Int64))) * ((p2 &&& (2147483647 : Int32)).toInt64 + (1 : Int64)))), .second, .val (.int ((p2 &&& (2147483647 : Int32)) - ((p1.toInt64 &&& (2147483647 : Int64)) - ((p1.toInt64 &&& (2147483647 : Int64)) / ((p2 &&& (2147483647 : Int32)).toInt64 + (1 : Int64))) * ((p2 &&& (2147483647 : Int32)).toInt64 + (1 : Int64))).toInt32)), .unset, .unset] [(.int ((XT.ushr p4 (8 : Int32)) &&& (255 : Int32)).toUInt32.toUInt16.toUInt32.toInt32), (.int (1 : Int32)), (.ref b34), (.ref b34)])) rfl rfl (hb hby at_94)
  have EX36 : Ext h0 h36 := own_ext_wr EX35 W36 q34
  have Z36 : n0 ≤ h36.size := Nat.le_trans Z0 EX36.1
  have N36 := Fr.snoc X36 N35 (Nat.le_trans Z0 q34)
  obtain ⟨T37, h37, X37, e37, E37, A37, D37, -, st37⟩ := newO X36 hx hZ hown (hw _ (List.mem_of_getElem? (i := 3) rfl)) (hw _ (List.mem_of_getElem? (i := 4) rfl)) (hw _ (List.mem_of_getElem? (i := 5) rfl)) e36 (g := (mkF m 97 #[.val (.int p1), .val (.int p2), .val (.int p3), .val (.int p4), .val (.int (p2 &&& (2147483647 : Int32))), .val (.int (3 : Int32)), .val (.long ((p1.toInt64 &&& (2147483647 : Int64)) - ((p1.toInt64 &&& (2147483647 : Int64)) / ((p2 &&& (2147483647 : Int32)).toInt64 + (1 : Int64))) * ((p2 &&& (2147483647 : Int32)).toInt64 + (1 : Int64)))), .second, .val (.int ((p2 &&& (2147483647 : Int32)) - ((p1.toInt64 &&& (2147483647 : Int64)) - ((p1.toInt64 &&& (2147483647 : Int64)) / ((p2 &&& (2147483647 : Int32)).toInt64 + (1 : Int64))) * ((p2 &&& (2147483647 : Int32)).toInt64 + (1 : Int64))).toInt32)), .val (.ref b34), .unset] [])) rfl (hb hby at_97) (by decide) (by decide)
  obtain ⟨b37, g37⟩ : ∃ z, z = h36.size := ⟨_, rfl⟩
  rw [← g37] at A37 D37 st37
  have q37 : h0.size ≤ b37 := by rw [g37]; exact EX36.1
  have ne_b34_b37 : b34 ≠ b37 := by rw [g37]; exact Nat.ne_of_lt V36.lt
  have V36_38 := V36.ext E37
  have EX37 : Ext h0 h37 := own_ext_trans EX36 E37
  have Z37 : n0 ≤ h37.size := Nat.le_trans Z0 EX37.1
  have Fcoder_39 : Fld Z h37 b37 "java/lang/String" "coder" "B" (.int (0 : Int32)) := D37 (Or.inr (hw _ (List.mem_of_getElem? (i := 29) rfl))) (ty := .byte) (by decide)
  have Fvalue_40 : Fld Z h37 b37 "java/lang/String" "value" "[B" .null := D37 (Or.inr (hw _ (List.mem_of_getElem? (i := 31) rfl))) (ty := (.array .byte)) (by decide)
  have V41c : Arv Z h37 b34 k34 .char (2 : Int32) [(.int (nar .char (p4 &&& (255 : Int32)).toUInt32.toUInt16.toUInt32.toInt32)), (.int (nar .char ((XT.ushr p4 (8 : Int32)) &&& (255 : Int32)).toUInt32.toUInt16.toUInt32.toInt32))] (.int (0 : Int32)) := V36_38
  have hws41 : ∀ d ∈ StrChars.Road.words, d.before a0 Z = true := fun d hd => hw d ((by decide +kernel : ∀ d ∈ StrChars.Road.words, d ∈ tables_1) d hd)
  have hlat41 : ∀ c ∈ [(nar .char (p4 &&& (255 : Int32)).toUInt32.toUInt16.toUInt32.toInt32), (nar .char ((XT.ushr p4 (8 : Int32)) &&& (255 : Int32)).toUInt32.toUInt16.toUInt32.toInt32)], ¬ c < 0 ∧ ¬ (255 : Int32) < c := by
    intro c hc
    simp only [List.mem_cons, List.not_mem_nil, or_false] at hc
    rcases hc with rfl | rfl
    · rw [own_nar]; exact own_lat _
    · rw [own_nar]; exact own_lat _
  obtain ⟨_, _, ⟨T41, L41, k41, n41⟩, -, X41, ⟨Lc41, hQ41, l41, y41, z41⟩, st41⟩ := X37.specialBack hx (y := (⟨"java/lang/String", "<init>", "([C)V"⟩ : MethodName)) rfl hown (mvT hZ (hw _ (List.mem_of_getElem? (i := 6) rfl))) (mvT hZ (hw _ (List.mem_of_getElem? (i := 7) rfl))) (mvT hZ (hw _ (List.mem_of_getElem? (i := 8) rfl))) (by decide) (StrChars.Road.backV (W := 1) hZ hws41 (kI := 4) (hw _ (List.mem_of_getElem? (i := 4) rfl)) (cs := [(nar .char (p4 &&& (255 : Int32)).toUInt32.toUInt16.toUInt32.toInt32), (nar .char ((XT.ushr p4 (8 : Int32)) &&& (255 : Int32)).toUInt32.toUInt16.toUInt32.toInt32)]) (bs := [(nar .char (p4 &&& (255 : Int32)).toUInt32.toUInt16.toUInt32.toInt32).toInt8.toInt32, (nar .char ((XT.ushr p4 (8 : Int32)) &&& (255 : Int32)).toUInt32.toUInt16.toUInt32.toInt32).toInt8.toInt32]) (n := 2) (Nat.le_trans Z0 q37) Z37 A37 Fvalue_40 Fcoder_39 V41c (S8.ext EX37) c9 rfl rfl (by decide) (by decide) hlat41 rfl (by decide) (by decide)) (g := (mkF m 103 #[.val (.int p1), .val (.int p2), .val (.int p3), .val (.int p4), .val (.int (p2 &&& (2147483647 : Int32))), .val (.int (3 : Int32)), .val (.long ((p1.toInt64 &&& (2147483647 : Int64)) - ((p1.toInt64 &&& (2147483647 : Int64)) / ((p2 &&& (2147483647 : Int32)).toInt64 + (1 : Int64))) * ((p2 &&& (2147483647 : Int32)).toInt64 + (1 : Int64)))), .second, .val (.int ((p2 &&& (2147483647 : Int32)) - ((p1.toInt64 &&& (2147483647 : Int64)) - ((p1.toInt64 &&& (2147483647 : Int64)) / ((p2 &&& (2147483647 : Int32)).toInt64 + (1 : Int64))) * ((p2 &&& (2147483647 : Int32)).toInt64 + (1 : Int64))).toInt32)), .val (.ref b34), .unset] [(.ref b34), (.ref b37), (.ref b37)])) rfl (by rw [hml]; rfl) (Steps.refl _) (a := b37) (argsL := [(.ref b34)]) (rest := [(.ref b37)]) (lenOf pd__ArC_V rfl) rfl (by show 2 * 0 + _ ≤ _; exact Nat.le_of_eq rfl) (hb hby at_103) (fun _ _ => ⟨rfl, e37, (by decide : 2 + 1 ≤ _), (by decide : 6 + 2 ≤ _)⟩)
  dsimp only [Pt.U, Pt.locs, Pt.cells, Pt.slots] at X41 l41 y41 z41 st41 hQ41
  subst l41 y41 z41
  obtain ⟨rfl, N41q, K41q, E41s, C41s, t41s, kb41s, qn41s, qh41s, qx41s, V41s, B41s⟩ := hQ41
  have N41 := Fr.app N36 N41q
  have q41s : h0.size ≤ t41s := Nat.le_trans EX37.1 qh41s
  have ne_b34_t41s : b34 ≠ t41s := Nat.ne_of_lt (Nat.lt_of_lt_of_le V36_38.lt qh41s)
  have V36_42 := V36_38.keep K41q (ninS ne_b34_b37 nin0)
  have A37_43 := A37.keep K41q
  have EX41 : Ext h0 T41.heap := own_ext_keep EX37 K41q (allS q37 all0)
  have Z41 : n0 ≤ T41.heap.size := Nat.le_trans Z0 EX41.1
  obtain ⟨_, _, ⟨T44, L44, k44, n44⟩, -, X44, ⟨Lc44, hQ44, l44, y44, z44⟩, st44⟩ := Jvm.LawKit.callS X41 hx (y := (⟨"com/example/plimsoll/plimsoll/model/Fields", "unsigned", "(IILjava/lang/String;)I"⟩ : MethodName)) hown (mvT hZ (hw _ (List.mem_of_getElem? (i := 32) rfl))) (mvT hZ (hw _ (List.mem_of_getElem? (i := 33) rfl))) (mvT hZ (hw _ (List.mem_of_getElem? (i := 34) rfl))) (mvT hZ (hw _ (List.mem_of_getElem? (i := 35) rfl))) (by decide) (backOf (W := 0) (own_unsigned l Z a0 hw [] ((p2 &&& (2147483647 : Int32)) - ((p1.toInt64 &&& (2147483647 : Int64)) - ((p1.toInt64 &&& (2147483647 : Int64)) / ((p2 &&& (2147483647 : Int32)).toInt64 + (1 : Int64))) * ((p2 &&& (2147483647 : Int32)).toInt64 + (1 : Int64))).toInt32) (p2 &&& (2147483647 : Int32)) b37 T41.heap n0 Z41 hv1 hv2) hZ (hw _ (List.mem_of_getElem? (i := 35) rfl)) (hw _ (List.mem_of_getElem? (i := 34) rfl)) (by decide) (by decide)) (g := (mkF m 114 #[.val (.int p1), .val (.int p2), .val (.int p3), .val (.int p4), .val (.int (p2 &&& (2147483647 : Int32))), .val (.int (3 : Int32)), .val (.long ((p1.toInt64 &&& (2147483647 : Int64)) - ((p1.toInt64 &&& (2147483647 : Int64)) / ((p2 &&& (2147483647 : Int32)).toInt64 + (1 : Int64))) * ((p2 &&& (2147483647 : Int32)).toInt64 + (1 : Int64)))), .second, .val (.int ((p2 &&& (2147483647 : Int32)) - ((p1.toInt64 &&& (2147483647 : Int64)) - ((p1.toInt64 &&& (2147483647 : Int64)) / ((p2 &&& (2147483647 : Int32)).toInt64 + (1 : Int64))) * ((p2 &&& (2147483647 : Int32)).toInt64 + (1 : Int64))).toInt32)), .val (.ref b34), .val (.ref b37)] [(.ref b37), (.int (p2 &&& (2147483647 : Int32))), (.int ((p2 &&& (2147483647 : Int32)) - ((p1.toInt64 &&& (2147483647 : Int64)) - ((p1.toInt64 &&& (2147483647 : Int64)) / ((p2 &&& (2147483647 : Int32)).toInt64 + (1 : Int64))) * ((p2 &&& (2147483647 : Int32)).toInt64 + (1 : Int64))).toInt32))])) rfl (by rw [hml]; rfl) (argsL := [(.int ((p2 &&& (2147483647 : Int32)) - ((p1.toInt64 &&& (2147483647 : Int64)) - ((p1.toInt64 &&& (2147483647 : Int64)) / ((p2 &&& (2147483647 : Int32)).toInt64 + (1 : Int64))) * ((p2 &&& (2147483647 : Int32)).toInt64 + (1 : Int64))).toInt32)), (.int (p2 &&& (2147483647 : Int32))), (.ref b37)]) (rest := []) (lenOf pd__IILjava_lang_String__I rfl) rfl (by show 2 * 0 + _ ≤ _; exact Nat.le_of_eq rfl) (hb hby at_114) (fun _ _ => ⟨rfl, rfl, (by decide : 3 + 0 ≤ _), (by decide : 8 + 0 ≤ _)⟩)
  dsimp only [Pt.U, Pt.locs, Pt.cells, Pt.slots] at X44 l44 y44 z44 st44 hQ44
  subst l44 y44 z44
  obtain ⟨rfl, N44q, e44⟩ := hQ44
  have N44 := Fr.app N41 N44q
  obtain ⟨fs, hr, hrun, hended, hW, hsame⟩ := X44.leave (v := some (.int (1 : Int32))) (fun h => by rw [Bd.returns] at h; cases h)
  refine ⟨_, _, pre0 _ ?_, hrun, hended, _, _, rfl, ?_, ⟨_, rfl⟩, hW, hsame.mono (by decide) (by decide)⟩
  · show Steps p.tables e below (s₁.setTop (mkF m 0 #[.val (.int p1), .val (.int p2), .val (.int p3), .val (.int p4), .unset, .unset, .unset, .unset, .unset, .unset, .unset] [])) _
    refine XS.iloadN X0.here hx rfl (hb hby at_0) rfl ?_
    show Steps p.tables e below (s₁.setTop (mkF m 1 #[.val (.int p1), .val (.int p2), .val (.int p3), .val (.int p4), .unset, .unset, .unset, .unset, .unset, .unset, .unset] [(.int p2)])) _
    refine Jvm.Stand.ldcI X0 hx hown (mvT hZ (hw _ (List.mem_of_getElem? (i := 0) rfl))) rfl (hb hby at_1) ?_
    show Steps p.tables e below (s₁.setTop (mkF m 3 #[.val (.int p1), .val (.int p2), .val (.int p3), .val (.int p4), .unset, .unset, .unset, .unset, .unset, .unset, .unset] [(.int (2147483647 : Int32)), (.int p2)])) _
    refine XS.iand X0.here hx rfl (hb hby at_3) rfl ?_
    show Steps p.tables e below (s₁.setTop (mkF m 4 #[.val (.int p1), .val (.int p2), .val (.int p3), .val (.int p4), .unset, .unset, .unset, .unset, .unset, .unset, .unset] [(.int (p2 &&& (2147483647 : Int32)))])) _
    refine XS.istore X0.here hx rfl (hb hby at_4) rfl (l' := #[.val (.int p1), .val (.int p2), .val (.int p3), .val (.int p4), .val (.int (p2 &&& (2147483647 : Int32))), .unset, .unset, .unset, .unset, .unset, .unset]) rfl ?_
    show Steps p.tables e below (s₁.setTop (mkF m 6 #[.val (.int p1), .val (.int p2), .val (.int p3), .val (.int p4), .val (.int (p2 &&& (2147483647 : Int32))), .unset, .unset, .unset, .unset, .unset, .unset] [])) _
    refine XS.iloadN X0.here hx rfl (hb hby at_6) rfl ?_
    show Steps p.tables e below (s₁.setTop (mkF m 7 #[.val (.int p1), .val (.int p2), .val (.int p3), .val (.int p4), .val (.int (p2 &&& (2147483647 : Int32))), .unset, .unset, .unset, .unset, .unset, .unset] [(.int p3)])) _
    refine XT.iconstV X0.here hx rfl (3 : Int32) (hb hby at_7) rfl ?_
    show Steps p.tables e below (s₁.setTop (mkF m 8 #[.val (.int p1), .val (.int p2), .val (.int p3), .val (.int p4), .val (.int (p2 &&& (2147483647 : Int32))), .unset, .unset, .unset, .unset, .unset, .unset] [(.int (3 : Int32)), (.int p3)])) _
    refine XS.iand X0.here hx rfl (hb hby at_8) rfl ?_
    show Steps p.tables e below (s₁.setTop (mkF m 9 #[.val (.int p1), .val (.int p2), .val (.int p3), .val (.int p4), .val (.int (p2 &&& (2147483647 : Int32))), .unset, .unset, .unset, .unset, .unset, .unset] [(.int (p3 &&& (3 : Int32)))])) _
    rw [hk]
    show Steps p.tables e below (s₁.setTop (mkF m 9 #[.val (.int p1), .val (.int p2), .val (.int p3), .val (.int p4), .val (.int (p2 &&& (2147483647 : Int32))), .unset, .unset, .unset, .unset, .unset, .unset] [(.int (3 : Int32))])) _
    refine XS.istore X0.here hx rfl (hb hby at_9) rfl (l' := #[.val (.int p1), .val (.int p2), .val (.int p3), .val (.int p4), .val (.int (p2 &&& (2147483647 : Int32))), .val (.int (3 : Int32)), .unset, .unset, .unset, .unset, .unset]) rfl ?_
    show Steps p.tables e below (s₁.setTop (mkF m 11 #[.val (.int p1), .val (.int p2), .val (.int p3), .val (.int p4), .val (.int (p2 &&& (2147483647 : Int32))), .val (.int (3 : Int32)), .unset, .unset, .unset, .unset, .unset] [])) _
    refine XS.iloadN X0.here hx rfl (hb hby at_11) rfl ?_
    show Steps p.tables e below (s₁.setTop (mkF m 12 #[.val (.int p1), .val (.int p2), .val (.int p3), .val (.int p4), .val (.int (p2 &&& (2147483647 : Int32))), .val (.int (3 : Int32)), .unset, .unset, .unset, .unset, .unset] [(.int p1)])) _
    refine XT.i2l X0.here hx rfl (hb hby at_12) rfl ?_
    show Steps p.tables e below (s₁.setTop (mkF m 13 #[.val (.int p1), .val (.int p2), .val (.int p3), .val (.int p4), .val (.int (p2 &&& (2147483647 : Int32))), .val (.int (3 : Int32)), .unset, .unset, .unset, .unset, .unset] [(.long p1.toInt64)])) _
    refine Jvm.Stand.ldc2J X0 hx hown (mvT hZ (hw _ (List.mem_of_getElem? (i := 1) rfl))) rfl (hb hby at_13) ?_
    show Steps p.tables e below (s₁.setTop (mkF m 16 #[.val (.int p1), .val (.int p2), .val (.int p3), .val (.int p4), .val (.int (p2 &&& (2147483647 : Int32))), .val (.int (3 : Int32)), .unset, .unset, .unset, .unset, .unset] [(.long (2147483647 : Int64)), (.long p1.toInt64)])) _
    refine XT.land X0.here hx rfl (hb hby at_16) rfl ?_
    show Steps p.tables e below (s₁.setTop (mkF m 17 #[.val (.int p1), .val (.int p2), .val (.int p3), .val (.int p4), .val (.int (p2 &&& (2147483647 : Int32))), .val (.int (3 : Int32)), .unset, .unset, .unset, .unset, .unset] [(.long (p1.toInt64 &&& (2147483647 : Int64)))])) _
    refine XS.iload X0.here hx rfl (hb hby at_17) rfl ?_
    show Steps p.tables e below (s₁.setTop (mkF m 19 #[.val (.int p1), .val (.int p2), .val (.int p3), .val (.int p4), .val (.int (p2 &&& (2147483647 : Int32))), .val (.int (3 : Int32)), .unset, .unset, .unset, .unset, .unset] [(.int (p2 &&& (2147483647 : Int32))), (.long (p1.toInt64 &&& (2147483647 : Int64)))])) _
    refine XT.i2l X0.here hx rfl (hb hby at_19) rfl ?_
    show Steps p.tables e below (s₁.setTop (mkF m 20 #[.val (.int p1), .val (.int p2), .val (.int p3), .val (.int p4), .val (.int (p2 &&& (2147483647 : Int32))), .val (.int (3 : Int32)), .unset, .unset, .unset, .unset, .unset] [(.long (p2 &&& (2147483647 : Int32)).toInt64), (.long (p1.toInt64 &&& (2147483647 : Int64)))])) _
    refine XT.lconstV X0.here hx rfl (1 : Int64) (hb hby at_20) rfl ?_
    show Steps p.tables e below (s₁.setTop (mkF m 21 #[.val (.int p1), .val (.int p2), .val (.int p3), .val (.int p4), .val (.int (p2 &&& (2147483647 : Int32))), .val (.int (3 : Int32)), .unset, .unset, .unset, .unset, .unset] [(.long (1 : Int64)), (.long (p2 &&& (2147483647 : Int32)).toInt64), (.long (p1.toInt64 &&& (2147483647 : Int64)))])) _
    refine XT.ladd X0.here hx rfl (hb hby at_21) rfl ?_
    show Steps p.tables e below (s₁.setTop (mkF m 22 #[.val (.int p1), .val (.int p2), .val (.int p3), .val (.int p4), .val (.int (p2 &&& (2147483647 : Int32))), .val (.int (3 : Int32)), .unset, .unset, .unset, .unset, .unset] [(.long ((p2 &&& (2147483647 : Int32)).toInt64 + (1 : Int64))), (.long (p1.toInt64 &&& (2147483647 : Int64)))])) _
    refine XT.lrem X0.here hx rfl (hb hby at_22) rfl hD ?_
    show Steps p.tables e below (s₁.setTop (mkF m 23 #[.val (.int p1), .val (.int p2), .val (.int p3), .val (.int p4), .val (.int (p2 &&& (2147483647 : Int32))), .val (.int (3 : Int32)), .unset, .unset, .unset, .unset, .unset] [(.long ((p1.toInt64 &&& (2147483647 : Int64)) - ((p1.toInt64 &&& (2147483647 : Int64)) / ((p2 &&& (2147483647 : Int32)).toInt64 + (1 : Int64))) * ((p2 &&& (2147483647 : Int32)).toInt64 + (1 : Int64))))])) _
    refine XT.lstore X0.here hx rfl (hb hby at_23) rfl (l' := #[.val (.int p1), .val (.int p2), .val (.int p3), .val (.int p4), .val (.int (p2 &&& (2147483647 : Int32))), .val (.int (3 : Int32)), .val (.long ((p1.toInt64 &&& (2147483647 : Int64)) - ((p1.toInt64 &&& (2147483647 : Int64)) / ((p2 &&& (2147483647 : Int32)).toInt64 + (1 : Int64))) * ((p2 &&& (2147483647 : Int32)).toInt64 + (1 : Int64)))), .second, .unset, .unset, .unset]) rfl ?_
    show Steps p.tables e below (s₁.setTop (mkF m 25 #[.val (.int p1), .val (.int p2), .val (.int p3), .val (.int p4), .val (.int (p2 &&& (2147483647 : Int32))), .val (.int (3 : Int32)), .val (.long ((p1.toInt64 &&& (2147483647 : Int64)) - ((p1.toInt64 &&& (2147483647 : Int64)) / ((p2 &&& (2147483647 : Int32)).toInt64 + (1 : Int64))) * ((p2 &&& (2147483647 : Int32)).toInt64 + (1 : Int64)))), .second, .unset, .unset, .unset] [])) _
    refine XS.iload X0.here hx rfl (hb hby at_25) rfl ?_
    show Steps p.tables e below (s₁.setTop (mkF m 27 #[.val (.int p1), .val (.int p2), .val (.int p3), .val (.int p4), .val (.int (p2 &&& (2147483647 : Int32))), .val (.int (3 : Int32)), .val (.long ((p1.toInt64 &&& (2147483647 : Int64)) - ((p1.toInt64 &&& (2147483647 : Int64)) / ((p2 &&& (2147483647 : Int32)).toInt64 + (1 : Int64))) * ((p2 &&& (2147483647 : Int32)).toInt64 + (1 : Int64)))), .second, .unset, .unset, .unset] [(.int (3 : Int32))])) _
    refine XS.ifYes X0.here hx rfl (pc0 := 27) (pc' := 36) rfl (hb hby at_27) rfl (by decide) (by decide) (by decide) ?_
    show Steps p.tables e below (s₁.setTop (mkF m 36 #[.val (.int p1), .val (.int p2), .val (.int p3), .val (.int p4), .val (.int (p2 &&& (2147483647 : Int32))), .val (.int (3 : Int32)), .val (.long ((p1.toInt64 &&& (2147483647 : Int64)) - ((p1.toInt64 &&& (2147483647 : Int64)) / ((p2 &&& (2147483647 : Int32)).toInt64 + (1 : Int64))) * ((p2 &&& (2147483647 : Int32)).toInt64 + (1 : Int64)))), .second, .unset, .unset, .unset] [])) _
    refine XS.iload X0.here hx rfl (hb hby at_36) rfl ?_
    show Steps p.tables e below (s₁.setTop (mkF m 38 #[.val (.int p1), .val (.int p2), .val (.int p3), .val (.int p4), .val (.int (p2 &&& (2147483647 : Int32))), .val (.int (3 : Int32)), .val (.long ((p1.toInt64 &&& (2147483647 : Int64)) - ((p1.toInt64 &&& (2147483647 : Int64)) / ((p2 &&& (2147483647 : Int32)).toInt64 + (1 : Int64))) * ((p2 &&& (2147483647 : Int32)).toInt64 + (1 : Int64)))), .second, .unset, .unset, .unset] [(.int (3 : Int32))])) _
    refine XT.iconstV X0.here hx rfl (1 : Int32) (hb hby at_38) rfl ?_
    show Steps p.tables e below (s₁.setTop (mkF m 39 #[.val (.int p1), .val (.int p2), .val (.int p3), .val (.int p4), .val (.int (p2 &&& (2147483647 : Int32))), .val (.int (3 : Int32)), .val (.long ((p1.toInt64 &&& (2147483647 : Int64)) - ((p1.toInt64 &&& (2147483647 : Int64)) / ((p2 &&& (2147483647 : Int32)).toInt64 + (1 : Int64))) * ((p2 &&& (2147483647 : Int32)).toInt64 + (1 : Int64)))), .second, .unset, .unset, .unset] [(.int (1 : Int32)), (.int (3 : Int32))])) _
    refine XS.icmpYes X0.here hx rfl (pc0 := 39) (pc' := 49) rfl (hb hby at_39) rfl (by decide) (by decide) (by decide) ?_
    show Steps p.tables e below (s₁.setTop (mkF m 49 #[.val (.int p1), .val (.int p2), .val (.int p3), .val (.int p4), .val (.int (p2 &&& (2147483647 : Int32))), .val (.int (3 : Int32)), .val (.long ((p1.toInt64 &&& (2147483647 : Int64)) - ((p1.toInt64 &&& (2147483647 : Int64)) / ((p2 &&& (2147483647 : Int32)).toInt64 + (1 : Int64))) * ((p2 &&& (2147483647 : Int32)).toInt64 + (1 : Int64)))), .second, .unset, .unset, .unset] [])) _
    refine XS.iload X0.here hx rfl (hb hby at_49) rfl ?_
    show Steps p.tables e below (s₁.setTop (mkF m 51 #[.val (.int p1), .val (.int p2), .val (.int p3), .val (.int p4), .val (.int (p2 &&& (2147483647 : Int32))), .val (.int (3 : Int32)), .val (.long ((p1.toInt64 &&& (2147483647 : Int64)) - ((p1.toInt64 &&& (2147483647 : Int64)) / ((p2 &&& (2147483647 : Int32)).toInt64 + (1 : Int64))) * ((p2 &&& (2147483647 : Int32)).toInt64 + (1 : Int64)))), .second, .unset, .unset, .unset] [(.int (3 : Int32))])) _
    refine XT.iconstV X0.here hx rfl (2 : Int32) (hb hby at_51) rfl ?_
    show Steps p.tables e below (s₁.setTop (mkF m 52 #[.val (.int p1), .val (.int p2), .val (.int p3), .val (.int p4), .val (.int (p2 &&& (2147483647 : Int32))), .val (.int (3 : Int32)), .val (.long ((p1.toInt64 &&& (2147483647 : Int64)) - ((p1.toInt64 &&& (2147483647 : Int64)) / ((p2 &&& (2147483647 : Int32)).toInt64 + (1 : Int64))) * ((p2 &&& (2147483647 : Int32)).toInt64 + (1 : Int64)))), .second, .unset, .unset, .unset] [(.int (2 : Int32)), (.int (3 : Int32))])) _
    refine XS.icmpYes X0.here hx rfl (pc0 := 52) (pc' := 63) rfl (hb hby at_52) rfl (by decide) (by decide) (by decide) ?_
    show Steps p.tables e below (s₁.setTop (mkF m 63 #[.val (.int p1), .val (.int p2), .val (.int p3), .val (.int p4), .val (.int (p2 &&& (2147483647 : Int32))), .val (.int (3 : Int32)), .val (.long ((p1.toInt64 &&& (2147483647 : Int64)) - ((p1.toInt64 &&& (2147483647 : Int64)) / ((p2 &&& (2147483647 : Int32)).toInt64 + (1 : Int64))) * ((p2 &&& (2147483647 : Int32)).toInt64 + (1 : Int64)))), .second, .unset, .unset, .unset] [])) _
    refine XS.iload X0.here hx rfl (hb hby at_63) rfl ?_
    show Steps p.tables e below (s₁.setTop (mkF m 65 #[.val (.int p1), .val (.int p2), .val (.int p3), .val (.int p4), .val (.int (p2 &&& (2147483647 : Int32))), .val (.int (3 : Int32)), .val (.long ((p1.toInt64 &&& (2147483647 : Int64)) - ((p1.toInt64 &&& (2147483647 : Int64)) / ((p2 &&& (2147483647 : Int32)).toInt64 + (1 : Int64))) * ((p2 &&& (2147483647 : Int32)).toInt64 + (1 : Int64)))), .second, .unset, .unset, .unset] [(.int (p2 &&& (2147483647 : Int32)))])) _
    refine XT.lload X0.here hx rfl (hb hby at_65) rfl ?_
    show Steps p.tables e below (s₁.setTop (mkF m 67 #[.val (.int p1), .val (.int p2), .val (.int p3), .val (.int p4), .val (.int (p2 &&& (2147483647 : Int32))), .val (.int (3 : Int32)), .val (.long ((p1.toInt64 &&& (2147483647 : Int64)) - ((p1.toInt64 &&& (2147483647 : Int64)) / ((p2 &&& (2147483647 : Int32)).toInt64 + (1 : Int64))) * ((p2 &&& (2147483647 : Int32)).toInt64 + (1 : Int64)))), .second, .unset, .unset, .unset] [(.long ((p1.toInt64 &&& (2147483647 : Int64)) - ((p1.toInt64 &&& (2147483647 : Int64)) / ((p2 &&& (2147483647 : Int32)).toInt64 + (1 : Int64))) * ((p2 &&& (2147483647 : Int32)).toInt64 + (1 : Int64)))), (.int (p2 &&& (2147483647 : Int32)))])) _
    refine XT.l2i X0.here hx rfl (hb hby at_67) rfl ?_
    show Steps p.tables e below (s₁.setTop (mkF m 68 #[.val (.int p1), .val (.int p2), .val (.int p3), .val (.int p4), .val (.int (p2 &&& (2147483647 : Int32))), .val (.int (3 : Int32)), .val (.long ((p1.toInt64 &&& (2147483647 : Int64)) - ((p1.toInt64 &&& (2147483647 : Int64)) / ((p2 &&& (2147483647 : Int32)).toInt64 + (1 : Int64))) * ((p2 &&& (2147483647 : Int32)).toInt64 + (1 : Int64)))), .second, .unset, .unset, .unset] [(.int ((p1.toInt64 &&& (2147483647 : Int64)) - ((p1.toInt64 &&& (2147483647 : Int64)) / ((p2 &&& (2147483647 : Int32)).toInt64 + (1 : Int64))) * ((p2 &&& (2147483647 : Int32)).toInt64 + (1 : Int64))).toInt32), (.int (p2 &&& (2147483647 : Int32)))])) _
    refine XS.isub X0.here hx rfl (hb hby at_68) rfl ?_
    show Steps p.tables e below (s₁.setTop (mkF m 69 #[.val (.int p1), .val (.int p2), .val (.int p3), .val (.int p4), .val (.int (p2 &&& (2147483647 : Int32))), .val (.int (3 : Int32)), .val (.long ((p1.toInt64 &&& (2147483647 : Int64)) - ((p1.toInt64 &&& (2147483647 : Int64)) / ((p2 &&& (2147483647 : Int32)).toInt64 + (1 : Int64))) * ((p2 &&& (2147483647 : Int32)).toInt64 + (1 : Int64)))), .second, .unset, .unset, .unset] [(.int ((p2 &&& (2147483647 : Int32)) - ((p1.toInt64 &&& (2147483647 : Int64)) - ((p1.toInt64 &&& (2147483647 : Int64)) / ((p2 &&& (2147483647 : Int32)).toInt64 + (1 : Int64))) * ((p2 &&& (2147483647 : Int32)).toInt64 + (1 : Int64))).toInt32))])) _
    refine XS.istore X0.here hx rfl (hb hby at_69) rfl (l' := #[.val (.int p1), .val (.int p2), .val (.int p3), .val (.int p4), .val (.int (p2 &&& (2147483647 : Int32))), .val (.int (3 : Int32)), .val (.long ((p1.toInt64 &&& (2147483647 : Int64)) - ((p1.toInt64 &&& (2147483647 : Int64)) / ((p2 &&& (2147483647 : Int32)).toInt64 + (1 : Int64))) * ((p2 &&& (2147483647 : Int32)).toInt64 + (1 : Int64)))), .second, .val (.int ((p2 &&& (2147483647 : Int32)) - ((p1.toInt64 &&& (2147483647 : Int64)) - ((p1.toInt64 &&& (2147483647 : Int64)) / ((p2 &&& (2147483647 : Int32)).toInt64 + (1 : Int64))) * ((p2 &&& (2147483647 : Int32)).toInt64 + (1 : Int64))).toInt32)), .unset, .unset]) rfl ?_
    show Steps p.tables e below (s₁.setTop (mkF m 71 #[.val (.int p1), .val (.int p2), .val (.int p3), .val (.int p4), .val (.int (p2 &&& (2147483647 : Int32))), .val (.int (3 : Int32)), .val (.long ((p1.toInt64 &&& (2147483647 : Int64)) - ((p1.toInt64 &&& (2147483647 : Int64)) / ((p2 &&& (2147483647 : Int32)).toInt64 + (1 : Int64))) * ((p2 &&& (2147483647 : Int32)).toInt64 + (1 : Int64)))), .second, .val (.int ((p2 &&& (2147483647 : Int32)) - ((p1.toInt64 &&& (2147483647 : Int64)) - ((p1.toInt64 &&& (2147483647 : Int64)) / ((p2 &&& (2147483647 : Int32)).toInt64 + (1 : Int64))) * ((p2 &&& (2147483647 : Int32)).toInt64 + (1 : Int64))).toInt32)), .unset, .unset] [])) _
    refine XT.iconstV X0.here hx rfl (2 : Int32) (hb hby at_71) rfl ?_
    show Steps p.tables e below (s₁.setTop (mkF m 72 #[.val (.int p1), .val (.int p2), .val (.int p3), .val (.int p4), .val (.int (p2 &&& (2147483647 : Int32))), .val (.int (3 : Int32)), .val (.long ((p1.toInt64 &&& (2147483647 : Int64)) - ((p1.toInt64 &&& (2147483647 : Int64)) / ((p2 &&& (2147483647 : Int32)).toInt64 + (1 : Int64))) * ((p2 &&& (2147483647 : Int32)).toInt64 + (1 : Int64)))), .second, .val (.int ((p2 &&& (2147483647 : Int32)) - ((p1.toInt64 &&& (2147483647 : Int64)) - ((p1.toInt64 &&& (2147483647 : Int64)) / ((p2 &&& (2147483647 : Int32)).toInt64 + (1 : Int64))) * ((p2 &&& (2147483647 : Int32)).toInt64 + (1 : Int64))).toInt32)), .unset, .unset] [(.int (2 : Int32))])) _
    refine st34 _ ?_
    show Steps p.tables e below (T34.setTop (mkF m 74 #[.val (.int p1), .val (.int p2), .val (.int p3), .val (.int p4), .val (.int (p2 &&& (2147483647 : Int32))), .val (.int (3 : Int32)), .val (.long ((p1.toInt64 &&& (2147483647 : Int64)) - ((p1.toInt64 &&& (2147483647 : Int64)) / ((p2 &&& (2147483647 : Int32)).toInt64 + (1 : Int64))) * ((p2 &&& (2147483647 : Int32)).toInt64 + (1 : Int64)))), .second, .val (.int ((p2 &&& (2147483647 : Int32)) - ((p1.toInt64 &&& (2147483647 : Int64)) - ((p1.toInt64 &&& (2147483647 : Int64)) / ((p2 &&& (2147483647 : Int32)).toInt64 + (1 : Int64))) * ((p2 &&& (2147483647 : Int32)).toInt64 + (1 : Int64))).toInt32)), .unset, .unset] [(.ref b34)])) _
    refine XS.dup X34.here hx rfl (hb hby at_74) rfl rfl ?_
    show Steps p.tables e below (T34.setTop (mkF m 75 #[.val (.int p1), .val (.int p2), .val (.int p3), .val (.int p4), .val (.int (p2 &&& (2147483647 : Int32))), .val (.int (3 : Int32)), .val (.long ((p1.toInt64 &&& (2147483647 : Int64)) - ((p1.toInt64 &&& (2147483647 : Int64)) / ((p2 &&& (2147483647 : Int32)).toInt64 + (1 : Int64))) * ((p2 &&& (2147483647 : Int32)).toInt64 + (1 : Int64)))), .second, .val (.int ((p2 &&& (2147483647 : Int32)) - ((p1.toInt64 &&& (2147483647 : Int64)) - ((p1.toInt64 &&& (2147483647 : Int64)) / ((p2 &&& (2147483647 : Int32)).toInt64 + (1 : Int64))) * ((p2 &&& (2147483647 : Int32)).toInt64 + (1 : Int64))).toInt32)), .unset, .unset] [(.ref b34), (.ref b34)])) _
    refine XT.iconstV X34.here hx rfl (0 : Int32) (hb hby at_75) rfl ?_
    show Steps p.tables e below (T34.setTop (mkF m 76 #[.val (.int p1), .val (.int p2), .val (.int p3), .val (.int p4), .val (.int (p2 &&& (2147483647 : Int32))), .val (.int (3 : Int32)), .val (.long ((p1.toInt64 &&& (2147483647 : Int64)) - ((p1.toInt64 &&& (2147483647 : Int64)) / ((p2 &&& (2147483647 : Int32)).toInt64 + (1 : Int64))) * ((p2 &&& (2147483647 : Int32)).toInt64 + (1 : Int64)))), .second, .val (.int ((p2 &&& (2147483647 : Int32)) - ((p1.toInt64 &&& (2147483647 : Int64)) - ((p1.toInt64 &&& (2147483647 : Int64)) / ((p2 &&& (2147483647 : Int32)).toInt64 + (1 : Int64))) * ((p2 &&& (2147483647 : Int32)).toInt64 + (1 : Int64))).toInt32)), .unset, .unset] [(.int (0 : Int32)), (.ref b34), (.ref b34)])) _
    refine XS.iloadN X34.here hx rfl (hb hby at_76) rfl ?_
    show Steps p.tables e below (T34.setTop (mkF m 77 #[.val (.int p1), .val (.int p2), .val (.int p3), .val (.int p4), .val (.int (p2 &&& (2147483647 : Int32))), .val (.int (3 : Int32)), .val (.long ((p1.toInt64 &&& (2147483647 : Int64)) - ((p1.toInt64 &&& (2147483647 : Int64)) / ((p2 &&& (2147483647 : Int32)).toInt64 + (1 : Int64))) * ((p2 &&& (2147483647 : Int32)).toInt64 + (1 : Int64)))), .second, .val (.int ((p2 &&& (2147483647 : Int32)) - ((p1.toInt64 &&& (2147483647 : Int64)) - ((p1.toInt64 &&& (2147483647 : Int64)) / ((p2 &&& (2147483647 : Int32)).toInt64 + (1 : Int64))) * ((p2 &&& (2147483647 : Int32)).toInt64 + (1 : Int64))).toInt32)), .unset, .unset] [(.int p4), (.int (0 : Int32)), (.ref b34), (.ref b34)])) _
    refine XT.sipushV X34.here hx rfl (255 : Int32) (hb hby at_77) (by decide) ?_
    show Steps p.tables e below (T34.setTop (mkF m 80 #[.val (.int p1), .val (.int p2), .val (.int p3), .val (.int p4), .val (.int (p2 &&& (2147483647 : Int32))), .val (.int (3 : Int32)), .val (.long ((p1.toInt64 &&& (2147483647 : Int64)) - ((p1.toInt64 &&& (2147483647 : Int64)) / ((p2 &&& (2147483647 : Int32)).toInt64 + (1 : Int64))) * ((p2 &&& (2147483647 : Int32)).toInt64 + (1 : Int64)))), .second, .val (.int ((p2 &&& (2147483647 : Int32)) - ((p1.toInt64 &&& (2147483647 : Int64)) - ((p1.toInt64 &&& (2147483647 : Int64)) / ((p2 &&& (2147483647 : Int32)).toInt64 + (1 : Int64))) * ((p2 &&& (2147483647 : Int32)).toInt64 + (1 : Int64))).toInt32)), .unset, .unset] [(.int (255 : Int32)), (.int p4), (.int (0 : Int32)), (.ref b34), (.ref b34)])) _
    refine XS.iand X34.here hx rfl (hb hby at_80) rfl ?_
    show Steps p.tables e below (T34.setTop (mkF m 81 #[.val (.int p1), .val (.int p2), .val (.int p3), .val (.int p4), .val (.int (p2 &&& (2147483647 : Int32))), .val (.int (3 : Int32)), .val (.long ((p1.toInt64 &&& (2147483647 : Int64)) - ((p1.toInt64 &&& (2147483647 : Int64)) / ((p2 &&& (2147483647 : Int32)).toInt64 + (1 : Int64))) * ((p2 &&& (2147483647 : Int32)).toInt64 + (1 : Int64)))), .second, .val (.int ((p2 &&& (2147483647 : Int32)) - ((p1.toInt64 &&& (2147483647 : Int64)) - ((p1.toInt64 &&& (2147483647 : Int64)) / ((p2 &&& (2147483647 : Int32)).toInt64 + (1 : Int64))) * ((p2 &&& (2147483647 : Int32)).toInt64 + (1 : Int64))).toInt32)), .unset, .unset] [(.int (p4 &&& (255 : Int32))), (.int (0 : Int32)), (.ref b34), (.ref b34)])) _
    refine XT.i2c X34.here hx rfl (hb hby at_81) rfl ?_
    show Steps p.tables e below (T34.setTop (mkF m 82 #[.val (.int p1), .val (.int p2), .val (.int p3), .val (.int p4), .val (.int (p2 &&& (2147483647 : Int32))), .val (.int (3 : Int32)), .val (.long ((p1.toInt64 &&& (2147483647 : Int64)) - ((p1.toInt64 &&& (2147483647 : Int64)) / ((p2 &&& (2147483647 : Int32)).toInt64 + (1 : Int64))) * ((p2 &&& (2147483647 : Int32)).toInt64 + (1 : Int64)))), .second, .val (.int ((p2 &&& (2147483647 : Int32)) - ((p1.toInt64 &&& (2147483647 : Int64)) - ((p1.toInt64 &&& (2147483647 : Int64)) / ((p2 &&& (2147483647 : Int32)).toInt64 + (1 : Int64))) * ((p2 &&& (2147483647 : Int32)).toInt64 + (1 : Int64))).toInt32)), .unset, .unset] [(.int (p4 &&& (255 : Int32)).toUInt32.toUInt16.toUInt32.toInt32), (.int (0 : Int32)), (.ref b34), (.ref b34)])) _
    refine st35 _ ?_
    show Steps p.tables e below (T35.setTop (mkF m 83 #[.val (.int p1), .val (.int p2), .val (.int p3), .val (.int p4), .val (.int (p2 &&& (2147483647 : Int32))), .val (.int (3 : Int32)), .val (.long ((p1.toInt64 &&& (2147483647 : Int64)) - ((p1.toInt64 &&& (2147483647 : Int64)) / ((p2 &&& (2147483647 : Int32)).toInt64 + (1 : Int64))) * ((p2 &&& (2147483647 : Int32)).toInt64 + (1 : Int64)))), .second, .val (.int ((p2 &&& (2147483647 : Int32)) - ((p1.toInt64 &&& (2147483647 : Int64)) - ((p1.toInt64 &&& (2147483647 : Int64)) / ((p2 &&& (2147483647 : Int32)).toInt64 + (1 : Int64))) * ((p2 &&& (2147483647 : Int32)).toInt64 + (1 : Int64))).toInt32)), .unset, .unset] [(.ref b34)])) _
    refine XS.dup X35.here hx rfl (hb hby at_83) rfl rfl ?_
    show Steps p.tables e below (T35.setTop (mkF m 84 #[.val (.int p1), .val (.int p2), .val (.int p3), .val (.int p4), .val (.int (p2 &&& (2147483647 : Int32))), .val (.int (3 : Int32)), .val (.long ((p1.toInt64 &&& (2147483647 : Int64)) - ((p1.toInt64 &&& (2147483647 : Int64)) / ((p2 &&& (2147483647 : Int32)).toInt64 + (1 : Int64))) * ((p2 &&& (2147483647 : Int32)).toInt64 + (1 : Int64)))), .second, .val (.int ((p2 &&& (2147483647 : Int32)) - ((p1.toInt64 &&& (2147483647 : Int64)) - ((p1.toInt64 &&& (2147483647 : Int64)) / ((p2 &&& (2147483647 : Int32)).toInt64 + (1 : Int64))) * ((p2 &&& (2147483647 : Int32)).toInt64 + (1 : Int64))).toInt32)), .unset, .unset] [(.ref b34), (.ref b34)])) _
    refine XT.iconstV X35.here hx rfl (1 : Int32) (hb hby at_84) rfl ?_
    show Steps p.tables e below (T35.setTop (mkF m 85 #[.val (.int p1), .val (.int p2), .val (.int p3), .val (.int p4), .val (.int (p2 &&& (2147483647 : Int32))), .val (.int (3 : Int32)), .val (.long ((p1.toInt64 &&& (2147483647 : Int64)) - ((p1.toInt64 &&& (2147483647 : Int64)) / ((p2 &&& (2147483647 : Int32)).toInt64 + (1 : Int64))) * ((p2 &&& (2147483647 : Int32)).toInt64 + (1 : Int64)))), .second, .val (.int ((p2 &&& (2147483647 : Int32)) - ((p1.toInt64 &&& (2147483647 : Int64)) - ((p1.toInt64 &&& (2147483647 : Int64)) / ((p2 &&& (2147483647 : Int32)).toInt64 + (1 : Int64))) * ((p2 &&& (2147483647 : Int32)).toInt64 + (1 : Int64))).toInt32)), .unset, .unset] [(.int (1 : Int32)), (.ref b34), (.ref b34)])) _
    refine XS.iloadN X35.here hx rfl (hb hby at_85) rfl ?_
    show Steps p.tables e below (T35.setTop (mkF m 86 #[.val (.int p1), .val (.int p2), .val (.int p3), .val (.int p4), .val (.int (p2 &&& (2147483647 : Int32))), .val (.int (3 : Int32)), .val (.long ((p1.toInt64 &&& (2147483647 : Int64)) - ((p1.toInt64 &&& (2147483647 : Int64)) / ((p2 &&& (2147483647 : Int32)).toInt64 + (1 : Int64))) * ((p2 &&& (2147483647 : Int32)).toInt64 + (1 : Int64)))), .second, .val (.int ((p2 &&& (2147483647 : Int32)) - ((p1.toInt64 &&& (2147483647 : Int64)) - ((p1.toInt64 &&& (2147483647 : Int64)) / ((p2 &&& (2147483647 : Int32)).toInt64 + (1 : Int64))) * ((p2 &&& (2147483647 : Int32)).toInt64 + (1 : Int64))).toInt32)), .unset, .unset] [(.int p4), (.int (1 : Int32)), (.ref b34), (.ref b34)])) _
    refine XT.bipushV X35.here hx rfl (8 : Int32) (hb hby at_86) (by decide) ?_
    show Steps p.tables e below (T35.setTop (mkF m 88 #[.val (.int p1), .val (.int p2), .val (.int p3), .val (.int p4), .val (.int (p2 &&& (2147483647 : Int32))), .val (.int (3 : Int32)), .val (.long ((p1.toInt64 &&& (2147483647 : Int64)) - ((p1.toInt64 &&& (2147483647 : Int64)) / ((p2 &&& (2147483647 : Int32)).toInt64 + (1 : Int64))) * ((p2 &&& (2147483647 : Int32)).toInt64 + (1 : Int64)))), .second, .val (.int ((p2 &&& (2147483647 : Int32)) - ((p1.toInt64 &&& (2147483647 : Int64)) - ((p1.toInt64 &&& (2147483647 : Int64)) / ((p2 &&& (2147483647 : Int32)).toInt64 + (1 : Int64))) * ((p2 &&& (2147483647 : Int32)).toInt64 + (1 : Int64))).toInt32)), .unset, .unset] [(.int (8 : Int32)), (.int p4), (.int (1 : Int32)), (.ref b34), (.ref b34)])) _
    refine XT.iushr X35.here hx rfl (hb hby at_88) rfl ?_
    show Steps p.tables e below (T35.setTop (mkF m 89 #[.val (.int p1), .val (.int p2), .val (.int p3), .val (.int p4), .val (.int (p2 &&& (2147483647 : Int32))), .val (.int (3 : Int32)), .val (.long ((p1.toInt64 &&& (2147483647 : Int64)) - ((p1.toInt64 &&& (2147483647 : Int64)) / ((p2 &&& (2147483647 : Int32)).toInt64 + (1 : Int64))) * ((p2 &&& (2147483647 : Int32)).toInt64 + (1 : Int64)))), .second, .val (.int ((p2 &&& (2147483647 : Int32)) - ((p1.toInt64 &&& (2147483647 : Int64)) - ((p1.toInt64 &&& (2147483647 : Int64)) / ((p2 &&& (2147483647 : Int32)).toInt64 + (1 : Int64))) * ((p2 &&& (2147483647 : Int32)).toInt64 + (1 : Int64))).toInt32)), .unset, .unset] [(.int (XT.ushr p4 (8 : Int32))), (.int (1 : Int32)), (.ref b34), (.ref b34)])) _
    refine XT.sipushV X35.here hx rfl (255 : Int32) (hb hby at_89) (by decide) ?_
    show Steps p.tables e below (T35.setTop (mkF m 92 #[.val (.int p1), .val (.int p2), .val (.int p3), .val (.int p4), .val (.int (p2 &&& (2147483647 : Int32))), .val (.int (3 : Int32)), .val (.long ((p1.toInt64 &&& (2147483647 : Int64)) - ((p1.toInt64 &&& (2147483647 : Int64)) / ((p2 &&& (2147483647 : Int32)).toInt64 + (1 : Int64))) * ((p2 &&& (2147483647 : Int32)).toInt64 + (1 : Int64)))), .second, .val (.int ((p2 &&& (2147483647 : Int32)) - ((p1.toInt64 &&& (2147483647 : Int64)) - ((p1.toInt64 &&& (2147483647 : Int64)) / ((p2 &&& (2147483647 : Int32)).toInt64 + (1 : Int64))) * ((p2 &&& (2147483647 : Int32)).toInt64 + (1 : Int64))).toInt32)), .unset, .unset] [(.int (255 : Int32)), (.int (XT.ushr p4 (8 : Int32))), (.int (1 : Int32)), (.ref b34), (.ref b34)])) _
    refine XS.iand X35.here hx rfl (hb hby at_92) rfl ?_
    show Steps p.tables e below (T35.setTop (mkF m 93 #[.val (.int p1), .val (.int p2), .val (.int p3), .val (.int p4), .val (.int (p2 &&& (2147483647 : Int32))), .val (.int (3 : Int32)), .val (.long ((p1.toInt64 &&& (2147483647 : Int64)) - ((p1.toInt64 &&& (2147483647 : Int64)) / ((p2 &&& (2147483647 : Int32)).toInt64 + (1 : Int64))) * ((p2 &&& (2147483647 : Int32)).toInt64 + (1 : Int64)))), .second, .val (.int ((p2 &&& (2147483647 : Int32)) - ((p1.toInt64 &&& (2147483647 : Int64)) - ((p1.toInt64 &&& (2147483647 : Int64)) / ((p2 &&& (2147483647 : Int32)).toInt64 + (1 : Int64))) * ((p2 &&& (2147483647 : Int32)).toInt64 + (1 : Int64))).toInt32)), .unset, .unset] [(.int ((XT.ushr p4 (8 : Int32)) &&& (255 : Int32))), (.int (1 : Int32)), (.ref b34), (.ref b34)])) _
    refine XT.i2c X35.here hx rfl (hb hby at_93) rfl ?_
    show Steps p.tables e below (T35.setTop (mkF m 94 #[.val (.int p1), .val (.int p2), .val (.int p3), .val (.int p4), .val (.int (p2 &&& (2147483647 : Int32))), .val (.int (3 : Int32)), .val (.long ((p1.toInt64 &&& (2147483647 : Int64)) - ((p1.toInt64 &&& (2147483647 : Int64)) / ((p2 &&& (2147483647 : Int32)).toInt64 + (1 : Int64))) * ((p2 &&& (2147483647 : Int32)).toInt64 + (1 : Int64)))), .second, .val (.int ((p2 &&& (2147483647 : Int32)) - ((p1.toInt64 &&& (2147483647 : Int64)) - ((p1.toInt64 &&& (2147483647 : Int64)) / ((p2 &&& (2147483647 : Int32)).toInt64 + (1 : Int64))) * ((p2 &&& (2147483647 : Int32)).toInt64 + (1 : Int64))).toInt32)), .unset, .unset] [(.int ((XT.ushr p4 (8 : Int32)) &&& (255 : Int32)).toUInt32.toUInt16.toUInt32.toInt32), (.int (1 : Int32)), (.ref b34), (.ref b34)])) _
    refine st36 _ ?_
    show Steps p.tables e below (T36.setTop (mkF m 95 #[.val (.int p1), .val (.int p2), .val (.int p3), .val (.int p4), .val (.int (p2 &&& (2147483647 : Int32))), .val (.int (3 : Int32)), .val (.long ((p1.toInt64 &&& (2147483647 : Int64)) - ((p1.toInt64 &&& (2147483647 : Int64)) / ((p2 &&& (2147483647 : Int32)).toInt64 + (1 : Int64))) * ((p2 &&& (2147483647 : Int32)).toInt64 + (1 : Int64)))), .second, .val (.int ((p2 &&& (2147483647 : Int32)) - ((p1.toInt64 &&& (2147483647 : Int64)) - ((p1.toInt64 &&& (2147483647 : Int64)) / ((p2 &&& (2147483647 : Int32)).toInt64 + (1 : Int64))) * ((p2 &&& (2147483647 : Int32)).toInt64 + (1 : Int64))).toInt32)), .unset, .unset] [(.ref b34)])) _
    refine XS.astore X36.here hx rfl (hb hby at_95) rfl rfl (l' := #[.val (.int p1), .val (.int p2), .val (.int p3), .val (.int p4), .val (.int (p2 &&& (2147483647 : Int32))), .val (.int (3 : Int32)), .val (.long ((p1.toInt64 &&& (2147483647 : Int64)) - ((p1.toInt64 &&& (2147483647 : Int64)) / ((p2 &&& (2147483647 : Int32)).toInt64 + (1 : Int64))) * ((p2 &&& (2147483647 : Int32)).toInt64 + (1 : Int64)))), .second, .val (.int ((p2 &&& (2147483647 : Int32)) - ((p1.toInt64 &&& (2147483647 : Int64)) - ((p1.toInt64 &&& (2147483647 : Int64)) / ((p2 &&& (2147483647 : Int32)).toInt64 + (1 : Int64))) * ((p2 &&& (2147483647 : Int32)).toInt64 + (1 : Int64))).toInt32)), .val (.ref b34), .unset]) rfl ?_
    show Steps p.tables e below (T36.setTop (mkF m 97 #[.val (.int p1), .val (.int p2), .val (.int p3), .val (.int p4), .val (.int (p2 &&& (2147483647 : Int32))), .val (.int (3 : Int32)), .val (.long ((p1.toInt64 &&& (2147483647 : Int64)) - ((p1.toInt64 &&& (2147483647 : Int64)) / ((p2 &&& (2147483647 : Int32)).toInt64 + (1 : Int64))) * ((p2 &&& (2147483647 : Int32)).toInt64 + (1 : Int64)))), .second, .val (.int ((p2 &&& (2147483647 : Int32)) - ((p1.toInt64 &&& (2147483647 : Int64)) - ((p1.toInt64 &&& (2147483647 : Int64)) / ((p2 &&& (2147483647 : Int32)).toInt64 + (1 : Int64))) * ((p2 &&& (2147483647 : Int32)).toInt64 + (1 : Int64))).toInt32)), .val (.ref b34), .unset] [])) _
    refine st37 _ ?_
    show Steps p.tables e below (T37.setTop (mkF m 100 #[.val (.int p1), .val (.int p2), .val (.int p3), .val (.int p4), .val (.int (p2 &&& (2147483647 : Int32))), .val (.int (3 : Int32)), .val (.long ((p1.toInt64 &&& (2147483647 : Int64)) - ((p1.toInt64 &&& (2147483647 : Int64)) / ((p2 &&& (2147483647 : Int32)).toInt64 + (1 : Int64))) * ((p2 &&& (2147483647 : Int32)).toInt64 + (1 : Int64)))), .second, .val (.int ((p2 &&& (2147483647 : Int32)) - ((p1.toInt64 &&& (2147483647 : Int64)) - ((p1.toInt64 &&& (2147483647 : Int64)) / ((p2 &&& (2147483647 : Int32)).toInt64 + (1 : Int64))) * ((p2 &&& (2147483647 : Int32)).toInt64 + (1 : Int64))).toInt32)), .val (.ref b34), .unset] [(.ref b37)])) _
    refine XS.dup X37.here hx rfl (hb hby at_100) rfl rfl ?_
    show Steps p.tables e below (T37.setTop (mkF m 101 #[.val (.int p1), .val (.int p2), .val (.int p3), .val (.int p4), .val (.int (p2 &&& (2147483647 : Int32))), .val (.int (3 : Int32)), .val (.long ((p1.toInt64 &&& (2147483647 : Int64)) - ((p1.toInt64 &&& (2147483647 : Int64)) / ((p2 &&& (2147483647 : Int32)).toInt64 + (1 : Int64))) * ((p2 &&& (2147483647 : Int32)).toInt64 + (1 : Int64)))), .second, .val (.int ((p2 &&& (2147483647 : Int32)) - ((p1.toInt64 &&& (2147483647 : Int64)) - ((p1.toInt64 &&& (2147483647 : Int64)) / ((p2 &&& (2147483647 : Int32)).toInt64 + (1 : Int64))) * ((p2 &&& (2147483647 : Int32)).toInt64 + (1 : Int64))).toInt32)), .val (.ref b34), .unset] [(.ref b37), (.ref b37)])) _
    refine XS.aload X37.here hx rfl (hb hby at_101) rfl rfl ?_
    show Steps p.tables e below (T37.setTop (mkF m 103 #[.val (.int p1), .val (.int p2), .val (.int p3), .val (.int p4), .val (.int (p2 &&& (2147483647 : Int32))), .val (.int (3 : Int32)), .val (.long ((p1.toInt64 &&& (2147483647 : Int64)) - ((p1.toInt64 &&& (2147483647 : Int64)) / ((p2 &&& (2147483647 : Int32)).toInt64 + (1 : Int64))) * ((p2 &&& (2147483647 : Int32)).toInt64 + (1 : Int64)))), .second, .val (.int ((p2 &&& (2147483647 : Int32)) - ((p1.toInt64 &&& (2147483647 : Int64)) - ((p1.toInt64 &&& (2147483647 : Int64)) / ((p2 &&& (2147483647 : Int32)).toInt64 + (1 : Int64))) * ((p2 &&& (2147483647 : Int32)).toInt64 + (1 : Int64))).toInt32)), .val (.ref b34), .unset] [(.ref b34), (.ref b37), (.ref b37)])) _
    refine st41.trans ?_
    show Steps p.tables e below (T41.setTop (mkF m 106 #[.val (.int p1), .val (.int p2), .val (.int p3), .val (.int p4), .val (.int (p2 &&& (2147483647 : Int32))), .val (.int (3 : Int32)), .val (.long ((p1.toInt64 &&& (2147483647 : Int64)) - ((p1.toInt64 &&& (2147483647 : Int64)) / ((p2 &&& (2147483647 : Int32)).toInt64 + (1 : Int64))) * ((p2 &&& (2147483647 : Int32)).toInt64 + (1 : Int64)))), .second, .val (.int ((p2 &&& (2147483647 : Int32)) - ((p1.toInt64 &&& (2147483647 : Int64)) - ((p1.toInt64 &&& (2147483647 : Int64)) / ((p2 &&& (2147483647 : Int32)).toInt64 + (1 : Int64))) * ((p2 &&& (2147483647 : Int32)).toInt64 + (1 : Int64))).toInt32)), .val (.ref b34), .unset] [(.ref b37)])) _
    refine XS.astore X41.here hx rfl (hb hby at_106) rfl rfl (l' := #[.val (.int p1), .val (.int p2), .val (.int p3), .val (.int p4), .val (.int (p2 &&& (2147483647 : Int32))), .val (.int (3 : Int32)), .val (.long ((p1.toInt64 &&& (2147483647 : Int64)) - ((p1.toInt64 &&& (2147483647 : Int64)) / ((p2 &&& (2147483647 : Int32)).toInt64 + (1 : Int64))) * ((p2 &&& (2147483647 : Int32)).toInt64 + (1 : Int64)))), .second, .val (.int ((p2 &&& (2147483647 : Int32)) - ((p1.toInt64 &&& (2147483647 : Int64)) - ((p1.toInt64 &&& (2147483647 : Int64)) / ((p2 &&& (2147483647 : Int32)).toInt64 + (1 : Int64))) * ((p2 &&& (2147483647 : Int32)).toInt64 + (1 : Int64))).toInt32)), .val (.ref b34), .val (.ref b37)]) rfl ?_
    show Steps p.tables e below (T41.setTop (mkF m 108 #[.val (.int p1), .val (.int p2), .val (.int p3), .val (.int p4), .val (.int (p2 &&& (2147483647 : Int32))), .val (.int (3 : Int32)), .val (.long ((p1.toInt64 &&& (2147483647 : Int64)) - ((p1.toInt64 &&& (2147483647 : Int64)) / ((p2 &&& (2147483647 : Int32)).toInt64 + (1 : Int64))) * ((p2 &&& (2147483647 : Int32)).toInt64 + (1 : Int64)))), .second, .val (.int ((p2 &&& (2147483647 : Int32)) - ((p1.toInt64 &&& (2147483647 : Int64)) - ((p1.toInt64 &&& (2147483647 : Int64)) / ((p2 &&& (2147483647 : Int32)).toInt64 + (1 : Int64))) * ((p2 &&& (2147483647 : Int32)).toInt64 + (1 : Int64))).toInt32)), .val (.ref b34), .val (.ref b37)] [])) _
    refine XS.iload X41.here hx rfl (hb hby at_108) rfl ?_
    show Steps p.tables e below (T41.setTop (mkF m 110 #[.val (.int p1), .val (.int p2), .val (.int p3), .val (.int p4), .val (.int (p2 &&& (2147483647 : Int32))), .val (.int (3 : Int32)), .val (.long ((p1.toInt64 &&& (2147483647 : Int64)) - ((p1.toInt64 &&& (2147483647 : Int64)) / ((p2 &&& (2147483647 : Int32)).toInt64 + (1 : Int64))) * ((p2 &&& (2147483647 : Int32)).toInt64 + (1 : Int64)))), .second, .val (.int ((p2 &&& (2147483647 : Int32)) - ((p1.toInt64 &&& (2147483647 : Int64)) - ((p1.toInt64 &&& (2147483647 : Int64)) / ((p2 &&& (2147483647 : Int32)).toInt64 + (1 : Int64))) * ((p2 &&& (2147483647 : Int32)).toInt64 + (1 : Int64))).toInt32)), .val (.ref b34), .val (.ref b37)] [(.int ((p2 &&& (2147483647 : Int32)) - ((p1.toInt64 &&& (2147483647 : Int64)) - ((p1.toInt64 &&& (2147483647 : Int64)) / ((p2 &&& (2147483647 : Int32)).toInt64 + (1 : Int64))) * ((p2 &&& (2147483647 : Int32)).toInt64 + (1 : Int64))).toInt32))])) _
    refine XS.iload X41.here hx rfl (hb hby at_110) rfl ?_
    show Steps p.tables e below (T41.setTop (mkF m 112 #[.val (.int p1), .val (.int p2), .val (.int p3), .val (.int p4), .val (.int (p2 &&& (2147483647 : Int32))), .val (.int (3 : Int32)), .val (.long ((p1.toInt64 &&& (2147483647 : Int64)) - ((p1.toInt64 &&& (2147483647 : Int64)) / ((p2 &&& (2147483647 : Int32)).toInt64 + (1 : Int64))) * ((p2 &&& (2147483647 : Int32)).toInt64 + (1 : Int64)))), .second, .val (.int ((p2 &&& (2147483647 : Int32)) - ((p1.toInt64 &&& (2147483647 : Int64)) - ((p1.toInt64 &&& (2147483647 : Int64)) / ((p2 &&& (2147483647 : Int32)).toInt64 + (1 : Int64))) * ((p2 &&& (2147483647 : Int32)).toInt64 + (1 : Int64))).toInt32)), .val (.ref b34), .val (.ref b37)] [(.int (p2 &&& (2147483647 : Int32))), (.int ((p2 &&& (2147483647 : Int32)) - ((p1.toInt64 &&& (2147483647 : Int64)) - ((p1.toInt64 &&& (2147483647 : Int64)) / ((p2 &&& (2147483647 : Int32)).toInt64 + (1 : Int64))) * ((p2 &&& (2147483647 : Int32)).toInt64 + (1 : Int64))).toInt32))])) _
    refine XS.aload X41.here hx rfl (hb hby at_112) rfl rfl ?_
    show Steps p.tables e below (T41.setTop (mkF m 114 #[.val (.int p1), .val (.int p2), .val (.int p3), .val (.int p4), .val (.int (p2 &&& (2147483647 : Int32))), .val (.int (3 : Int32)), .val (.long ((p1.toInt64 &&& (2147483647 : Int64)) - ((p1.toInt64 &&& (2147483647 : Int64)) / ((p2 &&& (2147483647 : Int32)).toInt64 + (1 : Int64))) * ((p2 &&& (2147483647 : Int32)).toInt64 + (1 : Int64)))), .second, .val (.int ((p2 &&& (2147483647 : Int32)) - ((p1.toInt64 &&& (2147483647 : Int64)) - ((p1.toInt64 &&& (2147483647 : Int64)) / ((p2 &&& (2147483647 : Int32)).toInt64 + (1 : Int64))) * ((p2 &&& (2147483647 : Int32)).toInt64 + (1 : Int64))).toInt32)), .val (.ref b34), .val (.ref b37)] [(.ref b37), (.int (p2 &&& (2147483647 : Int32))), (.int ((p2 &&& (2147483647 : Int32)) - ((p1.toInt64 &&& (2147483647 : Int64)) - ((p1.toInt64 &&& (2147483647 : Int64)) / ((p2 &&& (2147483647 : Int32)).toInt64 + (1 : Int64))) * ((p2 &&& (2147483647 : Int32)).toInt64 + (1 : Int64))).toInt32))])) _
    refine st44 _ ?_
    show Steps p.tables e below (T44.setTop (mkF m 117 #[.val (.int p1), .val (.int p2), .val (.int p3), .val (.int p4), .val (.int (p2 &&& (2147483647 : Int32))), .val (.int (3 : Int32)), .val (.long ((p1.toInt64 &&& (2147483647 : Int64)) - ((p1.toInt64 &&& (2147483647 : Int64)) / ((p2 &&& (2147483647 : Int32)).toInt64 + (1 : Int64))) * ((p2 &&& (2147483647 : Int32)).toInt64 + (1 : Int64)))), .second, .val (.int ((p2 &&& (2147483647 : Int32)) - ((p1.toInt64 &&& (2147483647 : Int64)) - ((p1.toInt64 &&& (2147483647 : Int64)) / ((p2 &&& (2147483647 : Int32)).toInt64 + (1 : Int64))) * ((p2 &&& (2147483647 : Int32)).toInt64 + (1 : Int64))).toInt32)), .val (.ref b34), .val (.ref b37)] [(.int ((p2 &&& (2147483647 : Int32)) - ((p1.toInt64 &&& (2147483647 : Int64)) - ((p1.toInt64 &&& (2147483647 : Int64)) / ((p2 &&& (2147483647 : Int32)).toInt64 + (1 : Int64))) * ((p2 &&& (2147483647 : Int32)).toInt64 + (1 : Int64))).toInt32))])) _
    refine XS.iload X44.here hx rfl (hb hby at_117) rfl ?_
    show Steps p.tables e below (T44.setTop (mkF m 119 #[.val (.int p1), .val (.int p2), .val (.int p3), .val (.int p4), .val (.int (p2 &&& (2147483647 : Int32))), .val (.int (3 : Int32)), .val (.long ((p1.toInt64 &&& (2147483647 : Int64)) - ((p1.toInt64 &&& (2147483647 : Int64)) / ((p2 &&& (2147483647 : Int32)).toInt64 + (1 : Int64))) * ((p2 &&& (2147483647 : Int32)).toInt64 + (1 : Int64)))), .second, .val (.int ((p2 &&& (2147483647 : Int32)) - ((p1.toInt64 &&& (2147483647 : Int64)) - ((p1.toInt64 &&& (2147483647 : Int64)) / ((p2 &&& (2147483647 : Int32)).toInt64 + (1 : Int64))) * ((p2 &&& (2147483647 : Int32)).toInt64 + (1 : Int64))).toInt32)), .val (.ref b34), .val (.ref b37)] [(.int ((p2 &&& (2147483647 : Int32)) - ((p1.toInt64 &&& (2147483647 : Int64)) - ((p1.toInt64 &&& (2147483647 : Int64)) / ((p2 &&& (2147483647 : Int32)).toInt64 + (1 : Int64))) * ((p2 &&& (2147483647 : Int32)).toInt64 + (1 : Int64))).toInt32)), (.int ((p2 &&& (2147483647 : Int32)) - ((p1.toInt64 &&& (2147483647 : Int64)) - ((p1.toInt64 &&& (2147483647 : Int64)) / ((p2 &&& (2147483647 : Int32)).toInt64 + (1 : Int64))) * ((p2 &&& (2147483647 : Int32)).toInt64 + (1 : Int64))).toInt32))])) _
    refine XS.icmpNo X44.here hx rfl (hb hby at_119) rfl (XT.ii_ne_f rfl) ?_
    show Steps p.tables e below (T44.setTop (mkF m 122 #[.val (.int p1), .val (.int p2), .val (.int p3), .val (.int p4), .val (.int (p2 &&& (2147483647 : Int32))), .val (.int (3 : Int32)), .val (.long ((p1.toInt64 &&& (2147483647 : Int64)) - ((p1.toInt64 &&& (2147483647 : Int64)) / ((p2 &&& (2147483647 : Int32)).toInt64 + (1 : Int64))) * ((p2 &&& (2147483647 : Int32)).toInt64 + (1 : Int64)))), .second, .val (.int ((p2 &&& (2147483647 : Int32)) - ((p1.toInt64 &&& (2147483647 : Int64)) - ((p1.toInt64 &&& (2147483647 : Int64)) / ((p2 &&& (2147483647 : Int32)).toInt64 + (1 : Int64))) * ((p2 &&& (2147483647 : Int32)).toInt64 + (1 : Int64))).toInt32)), .val (.ref b34), .val (.ref b37)] [])) _
    refine XT.iconstV X44.here hx rfl (1 : Int32) (hb hby at_122) rfl ?_
    show Steps p.tables e below (T44.setTop (mkF m 123 #[.val (.int p1), .val (.int p2), .val (.int p3), .val (.int p4), .val (.int (p2 &&& (2147483647 : Int32))), .val (.int (3 : Int32)), .val (.long ((p1.toInt64 &&& (2147483647 : Int64)) - ((p1.toInt64 &&& (2147483647 : Int64)) / ((p2 &&& (2147483647 : Int32)).toInt64 + (1 : Int64))) * ((p2 &&& (2147483647 : Int32)).toInt64 + (1 : Int64)))), .second, .val (.int ((p2 &&& (2147483647 : Int32)) - ((p1.toInt64 &&& (2147483647 : Int64)) - ((p1.toInt64 &&& (2147483647 : Int64)) / ((p2 &&& (2147483647 : Int32)).toInt64 + (1 : Int64))) * ((p2 &&& (2147483647 : Int32)).toInt64 + (1 : Int64))).toInt32)), .val (.ref b34), .val (.ref b37)] [(.int (1 : Int32))])) _
    refine XS.goto X44.here hx rfl (pc0 := 123) (pc' := 127) rfl (hb hby at_123) (by decide) (by decide) ?_
    show Steps p.tables e below (T44.setTop (mkF m 127 #[.val (.int p1), .val (.int p2), .val (.int p3), .val (.int p4), .val (.int (p2 &&& (2147483647 : Int32))), .val (.int (3 : Int32)), .val (.long ((p1.toInt64 &&& (2147483647 : Int64)) - ((p1.toInt64 &&& (2147483647 : Int64)) / ((p2 &&& (2147483647 : Int32)).toInt64 + (1 : Int64))) * ((p2 &&& (2147483647 : Int32)).toInt64 + (1 : Int64)))), .second, .val (.int ((p2 &&& (2147483647 : Int32)) - ((p1.toInt64 &&& (2147483647 : Int64)) - ((p1.toInt64 &&& (2147483647 : Int64)) / ((p2 &&& (2147483647 : Int32)).toInt64 + (1 : Int64))) * ((p2 &&& (2147483647 : Int32)).toInt64 + (1 : Int64))).toInt32)), .val (.ref b34), .val (.ref b37)] [(.int (1 : Int32))])) _
    exact retN X44 hx (t := .boolean) Bd.returns (by simp) (hb hby at_127) hr
  · show own_Q0 n0 _ T44.heap _
    exact ⟨rfl, N44⟩
theorem own_and3 (x : Int32) : (x &&& (3 : Int32)) = (0 : Int32) ∨ (x &&& (3 : Int32)) = (1 : Int32) ∨ (x &&& (3 : Int32)) = (2 : Int32) ∨ (x &&& (3 : Int32)) = (3 : Int32) := by
  have h := c_and x (3 : Int32) (by decide)
  have e3 : (3 : Int32).toInt = 3 := by decide
  rw [e3] at h
  generalize (x &&& (3 : Int32)) = r at h ⊢
  have q : r.toInt = 0 ∨ r.toInt = 1 ∨ r.toInt = 2 ∨ r.toInt = 3 := by omega
  rcases q with q | q | q | q
  · exact Or.inl (Int32.toInt_inj.mp (q.trans (by decide)))
  · exact Or.inr (Or.inl (Int32.toInt_inj.mp (q.trans (by decide))))
  · exact Or.inr (Or.inr (Or.inl (Int32.toInt_inj.mp (q.trans (by decide)))))
  · exact Or.inr (Or.inr (Or.inr (Int32.toInt_inj.mp (q.trans (by decide)))))
theorem own_facts (p1 p2 : Int32) : ((p2 &&& (2147483647 : Int32)).toInt64 + (1 : Int64)) ≠ 0 ∧ ¬ (p2 &&& (2147483647 : Int32)) < 0 ∧ 0 ≤ ((p1.toInt64 &&& (2147483647 : Int64)) - ((p1.toInt64 &&& (2147483647 : Int64)) / ((p2 &&& (2147483647 : Int32)).toInt64 + (1 : Int64))) * ((p2 &&& (2147483647 : Int32)).toInt64 + (1 : Int64))).toInt32.toInt ∧ ((p1.toInt64 &&& (2147483647 : Int64)) - ((p1.toInt64 &&& (2147483647 : Int64)) / ((p2 &&& (2147483647 : Int32)).toInt64 + (1 : Int64))) * ((p2 &&& (2147483647 : Int32)).toInt64 + (1 : Int64))).toInt32.toInt ≤ (p2 &&& (2147483647 : Int32)).toInt := by
  have hM := c_and p2 (2147483647 : Int32) (by decide)
  generalize (p2 &&& (2147483647 : Int32)) = M at hM ⊢
  have eM : (2147483647 : Int32).toInt = 2147483647 := by decide
  rw [eM] at hM
  have hL := c_maskL p1.toInt64 (2147483647 : Int64) 31 (by decide) (by decide)
  generalize (p1.toInt64 &&& (2147483647 : Int64)) = L at hL ⊢
  have hD := c_ladd M.toInt64 (1 : Int64)
  have rD := rng64 (M.toInt64 + (1 : Int64))
  rw [c_i2l, show (1 : Int64).toInt = 1 from by decide] at hD
  have dD : (M.toInt64 + (1 : Int64)).toInt = M.toInt + 1 := by omega
  generalize M.toInt64 + (1 : Int64) = D at dD ⊢
  have e0 : (0 : Int64).toInt = 0 := by decide
  have e0' : (0 : Int32).toInt = 0 := by decide
  have nz : D ≠ 0 := fun q => by rw [q, e0] at dD; omega
  have hr := (c_lrem L D D.toInt rfl).1 (by omega)
  have b1 : 0 ≤ (L - (L / D) * D).toInt := by rw [hr]; exact Int.emod_nonneg _ (by omega)
  have b2 : (L - (L / D) * D).toInt < D.toInt := by rw [hr]; exact Int.emod_lt_of_pos _ (by omega)
  generalize L - (L / D) * D = r at b1 b2 ⊢
  have hi := c_l2i r
  have ri := rng32 r.toInt32
  refine ⟨nz, by rw [Int32.lt_iff_toInt_lt, e0']; omega, by omega, by omega⟩
set_option maxRecDepth 65536 in
set_option maxHeartbeats 40000000 in
theorem own_law (l : Launch) (Z : State) (a0 : Array Value) (hw : ∀ d ∈ tables_1, d.before a0 Z = true) (ws : List Jvm.Cond) (p1 p2 p3 p4 i7 : Int32) (h0 : Heap) (n0 : Nat) (Z0 : n0 ≤ h0.size) (S8 : Sta Z h0 "java/lang/String" "COMPACT_STRINGS" "Z" (.int i7)) (c9 : ¬ (i7 = (0 : Int32))) :
    MetFree l x (head1 (Jvm.Cond.code x code maxLocals ret :: ws) room_1) (fun a U => a = #[(.int p1), (.int p2), (.int p3), (.int p4)] ∧ Z.Warmed39 U.vm ∧ U.heap = h0) (fun _ _ _ _ _ => True) (fun _ U o U' => ∃ v L, o = .returned v ∧ own_Q0 n0 v U'.heap L ∧ FrameEnd U o U' L room_1.cells room_1.slots) := by
  obtain ⟨hD, hM, hr1, hr2⟩ := own_facts p1 p2
  have e0 : (0 : Int32).toInt = 0 := by decide
  have mI : ∀ {a b : Int32}, b.toInt ≤ a.toInt → ¬ a < b := fun h => by rw [Int32.lt_iff_toInt_lt]; omega
  have hM2 : 0 ≤ (p2 &&& (2147483647 : Int32)).toInt := by rw [Int32.lt_iff_toInt_lt, e0] at hM; omega
  rcases own_and3 p3 with hk | hk | hk | hk
  · exact own_law_0 l Z a0 hw ws p1 p2 p3 p4 i7 h0 n0 Z0 S8 c9 hk hD (by decide) (mI (by rw [e0]; exact hM2))
  · exact own_law_1 l Z a0 hw ws p1 p2 p3 p4 i7 h0 n0 Z0 S8 c9 hk hD hM (mI (Int.le_refl _))
  · exact own_law_2 l Z a0 hw ws p1 p2 p3 p4 i7 h0 n0 Z0 S8 c9 hk hD (by rw [Int32.lt_iff_toInt_lt, e0]; omega) (mI hr2)
  · have hs := c_isub (p2 &&& (2147483647 : Int32)) ((p1.toInt64 &&& (2147483647 : Int64)) - ((p1.toInt64 &&& (2147483647 : Int64)) / ((p2 &&& (2147483647 : Int32)).toInt64 + (1 : Int64))) * ((p2 &&& (2147483647 : Int32)).toInt64 + (1 : Int64))).toInt32
    have rs := rng32 ((p2 &&& (2147483647 : Int32)) - ((p1.toInt64 &&& (2147483647 : Int64)) - ((p1.toInt64 &&& (2147483647 : Int64)) / ((p2 &&& (2147483647 : Int32)).toInt64 + (1 : Int64))) * ((p2 &&& (2147483647 : Int32)).toInt64 + (1 : Int64))).toInt32)
    have rM := rng32 (p2 &&& (2147483647 : Int32))
    exact own_law_3 l Z a0 hw ws p1 p2 p3 p4 i7 h0 n0 Z0 S8 c9 hk hD (by rw [Int32.lt_iff_toInt_lt, e0]; omega) (mI (by omega))
set_option maxRecDepth 65536 in
set_option maxHeartbeats 40000000 in
theorem comes_1 {Post : Tables → Env → Array Value → State → Outcome → State → Prop} (hpost : ∀ tb e args s v u, (limb_1_1.after args s (.returned v) u = true ∧ limb_1_2.after args s (.returned v) u = true ∧ True) → FrameEnd s (.returned v) u (Jvm.fieldLocs frame_1_writes args s ++ Jvm.arrayLocs frame_1_arrays args s ++ Jvm.staticLocs frame_1_statics s) 16 128 → Post tb e args s (.returned v) u) :
    ArmFor flags0 classFile x code maxLocals ret World_1 tables_1 room_1 Calls_1 rest_1 Pre_1 Post := by
  intro l hfl _ _ p e ha hc hk s m args below hf hA hF happ hP
  obtain ⟨hcalls, hrest, hpre⟩ := hP
  obtain ⟨-, -, -, hnamed, -, -, -, hat⟩ := (Spec.applies_iff hf).mp happ
  obtain ⟨hg, hn⟩ := and_e (Cond.before_iff.mp (show (Jvm.Cond.and given_1 narrow_1).before args s = true from hpre))
  obtain ⟨gg, gr⟩ := and_e hg
  obtain ⟨a0, a1, a2, a3, rfl⟩ : ∃ a0 a1 a2 a3 : Value, args = #[a0, a1, a2, a3] := by
    have hs : args.size = 4 := by simpa [Cond.value, given_1] using gg
    obtain ⟨L⟩ := args
    match L, hs with
    | [a0, a1, a2, a3], _ => exact ⟨a0, a1, a2, a3, rfl⟩
  have hw := fun d (hd : d ∈ tables_1) => atoms_spec (ws := Jvm.Cond.code x code maxLocals ret :: tables_1) hat d (List.mem_cons_of_mem _ hd)
  have hfit : Fit s := fun {y c} hc i hi => by
    obtain ⟨ha, rfl⟩ := Array.getElem?_eq_some_iff.mp hc
    have q := List.all_eq_true.mp ((Array.all_eq_true_iff_forall_mem.mp hF) _ (Array.getElem_mem ha)) i (List.mem_range.mpr hi)
    simpa [Array.getElem?_eq_getElem hi] using q
  obtain ⟨gi0, gr0⟩ := and_e gr
  obtain ⟨i0, ei0⟩ := is_v gi0
  obtain rfl : a0 = (.int i0) := Option.some.inj ei0
  obtain ⟨gi1, gr1⟩ := and_e gr0
  obtain ⟨i1, ei1⟩ := is_v gi1
  obtain rfl : a1 = (.int i1) := Option.some.inj ei1
  obtain ⟨gi2, gr2⟩ := and_e gr1
  obtain ⟨i2, ei2⟩ := is_v gi2
  obtain rfl : a2 = (.int i2) := Option.some.inj ei2
  obtain ⟨i3, ei3⟩ := is_v gr2
  obtain rfl : a3 = (.int i3) := Option.some.inj ei3
  obtain ⟨hsets, hown0⟩ := atoms_of _ (rest_1_c_eq ▸ (show rest_1_c.before _ s = true from hrest))
  have n3 := not_v (Cond.before_iff.mp (hsets _ (List.mem_of_getElem? (i := 2) rfl)))
  obtain ⟨i7, e6⟩ := is_v (Cond.before_iff.mp (hsets _ (List.mem_of_getElem? (i := 1) rfl)))
  have S8 : Sta s s.heap "java/lang/String" "COMPACT_STRINGS" "Z" (.int i7) := Sta.start e6 (Or.inl (hsets _ (List.mem_of_getElem? (i := 0) rfl)))
  have c9 : ¬ (i7 = (0 : Int32)) := gotF (Cond.eq_ints e6 (Term.int_eval (0))) n3
  obtain ⟨n, o, h1, h2, h3, _, L, rfl, ⟨rfl, N⟩, hq⟩ := own_law l s _ hw tables_1 i0 i1 i2 i3 i7 s.heap s.heap.size (Nat.le_refl _) S8 c9 p e ha hc hk s m _ below hf ((Spec.applies_iff_loose hf).mp happ).1 ⟨rfl, State.Warmed39.refl s, rfl⟩ trivial
  refine ⟨n, _, h1, h2, h3, hpost _ _ _ _ _ _ ⟨Cond.after_iff.mpr rfl, Cond.after_iff.mpr (eq_i res_at (Term.int_eval (1)) rfl), trivial⟩ ⟨hq.1, hq.2.1, (hq.2.2.sift fun y hy => Or.inr (N y hy)).mono (by decide) (by decide)⟩⟩
theorem main_1_1 : Claimed_1_1 := comes_1 fun _ _ _ _ _ _ h hF => ⟨h.1, hF⟩
theorem main_1_2 : Claimed_1_2 := comes_1 fun _ _ _ _ _ _ h hF => ⟨h.2.1, hF⟩
end Jvm.Pilot.@@N@@
namespace Jvm.Pilot.@@N@@
open Jvm Jvm.ClassFile Sem Op Lib Jvm.Free Jvm.Stand Jvm.Pilot.@@N@@.Jvm.D
/-! MADE BY PROGRAM (witnessworld.py) out of the Statement's table words and the real class files: 20 classes; the members and pool entries that the words name. The judged class is class 1, her method 1. -/
namespace start1
open Jvm.ClassFile
def u (s : String) : CpInfo := .utf8 (stringToUtf16 s)
/-- a pool by its gaps: so many unusable entries, then the entry; so many at the end -/
def gap : Nat → List CpInfo → List CpInfo
  | 0, r => r
  | n + 1, r => .unusable :: gap n r
def poolList (es : List (Nat × CpInfo)) (last : Nat) : List CpInfo := es.foldr (fun e r => gap e.1 (e.2 :: r)) (gap last [])
def pool (es : List (Nat × CpInfo)) (last : Nat) : Array CpInfo := ⟨poolList es last⟩
def fileOf (pool : Array CpInfo) (this : Nat) (attrs : Array Attribute := #[]) (ms : Array MethodInfo := #[]) (fl : Nat := 33) (sup : Nat := 0) (ifs : Array Nat := #[]) (fds : Array FieldInfo := #[]) : ClassFile where
  minorVersion := 0
  majorVersion := 65
  constantPool := pool
  accessFlags := fl
  thisClass := this
  superClass := sup
  interfaces := ifs
  fields := fds
  methods := ms
  attributes := attrs
def plain (name : String) (sup : Option ClassId) : Class where
  name := name
  kind := .ordinary
  loader := none
  accessFlags := 33
  super := sup
  interfaces := #[]
  cf := none
  fields := #[]
  methods := #[]
  instanceTypes := #[]
  staticTypes := #[]
  resolved := #[]
  callSites := []
  init := .initialized
  statics := none
  mirror := none

def pool0 : Array CpInfo := pool [(5, u "<init>"), (0, u "()V"), (1, .class_ 10), (1, u "java/lang/Object")] 113

def k0c0 : Code := { maxStack := 0, maxLocals := 1, code := object_method_1_code, exceptionTable := #[], attributes := #[] }
def k0m0 : Method := { name := "<init>", desc := "()V", sig := { parameters := [], returnType := none }, accessFlags := 1, code := some k0c0 }
/-- java/lang/Object -/
def k0 : Class := { plain "java/lang/Object" none with
  accessFlags := 33
  interfaces := #[]
  cf := some (fileOf pool0 8 #[] #[{ accessFlags := 1, nameIndex := 5, descriptorIndex := 6, attributes := #[] }] 33 0 #[] #[])
  fields := #[]
  methods := #[k0m0]
  instanceTypes := #[]
  staticTypes := #[]
  resolved := Array.replicate 124 none
  statics := none }

def pool1 : Array CpInfo := pool [(2, .class_ 4), (1, u "java/lang/Object"), (0, u "<init>"), (0, u "()V"), (0, .integer 2147483647), (0, .long 2147483647), (1, .class_ 11), (0, u "java/lang/String"), (0, .methodref 10 13), (0, .nameAndType 5 14), (0, u "([C)V"), (0, .methodref 16 17), (0, .class_ 18), (0, .nameAndType 19 20), (0, u "com/example/plimsoll/plimsoll/model/Fields"), (0, u "unsigned"), (0, u "(IILjava/lang/String;)I"), (0, .class_ 22), (0, u "com/example/plimsoll/plimsoll/model/FieldsUnsignedPinLaw"), (2, u "law"), (0, u "(IIII)Z")] 5

def k1m0 : Method := { name := "<init>", desc := "()V", sig := { parameters := [], returnType := none }, accessFlags := 2, code := none }
def k1c1 : Code := { maxStack := 6, maxLocals := 11, code := code, exceptionTable := #[], attributes := #[] }
def k1m1 : Method := { name := "law", desc := "(IIII)Z", sig := { parameters := [.int, .int, .int, .int], returnType := some .boolean }, accessFlags := 9, code := some k1c1 }
/-- com/example/plimsoll/plimsoll/model/FieldsUnsignedPinLaw -/
def k1 : Class := { plain "com/example/plimsoll/plimsoll/model/FieldsUnsignedPinLaw" (some 0) with
  accessFlags := 49
  interfaces := #[]
  cf := some (fileOf pool1 21 #[] #[{ accessFlags := 2, nameIndex := 5, descriptorIndex := 6, attributes := #[] }, { accessFlags := 9, nameIndex := 25, descriptorIndex := 26, attributes := #[] }] 49 2 #[] #[])
  fields := #[]
  methods := #[k1m0, k1m1]
  instanceTypes := #[]
  staticTypes := #[]
  resolved := Array.replicate 32 none
  statics := none }

def pool2 : Array CpInfo := pool [(1, .class_ 2), (0, u "java/io/Serializable"), (0, .class_ 4), (0, u "java/lang/Object")] 2

/-- java/io/Serializable -/
def k2 : Class := { plain "java/io/Serializable" (some 0) with
  accessFlags := 1537
  interfaces := #[]
  cf := some (fileOf pool2 1 #[] #[] 1537 3 #[] #[])
  fields := #[]
  methods := #[]
  instanceTypes := #[]
  staticTypes := #[]
  resolved := Array.replicate 7 none
  statics := none }

def pool3 : Array CpInfo := pool [(1, .class_ 2), (0, u "java/lang/Comparable"), (0, .class_ 4), (0, u "java/lang/Object")] 7

/-- java/lang/Comparable -/
def k3 : Class := { plain "java/lang/Comparable" (some 0) with
  accessFlags := 1537
  interfaces := #[]
  cf := some (fileOf pool3 1 #[] #[] 1537 3 #[] #[])
  fields := #[]
  methods := #[]
  instanceTypes := #[]
  staticTypes := #[]
  resolved := Array.replicate 12 none
  statics := none }

def pool4 : Array CpInfo := pool [(2, .class_ 4), (1, u "java/lang/CharSequence"), (42, .class_ 48), (0, u "java/lang/CharSequence$1CodePointIterator"), (10, .class_ 60), (0, u "java/lang/CharSequence$1CharIterator"), (5, .class_ 67), (0, u "java/lang/Object")] 63

/-- java/lang/CharSequence -/
def k4 : Class := { plain "java/lang/CharSequence" (some 0) with
  accessFlags := 1537
  interfaces := #[]
  cf := some (fileOf pool4 2 #[.nestMembers #[47, 59]] #[] 1537 66 #[] #[])
  fields := #[]
  methods := #[]
  instanceTypes := #[]
  staticTypes := #[]
  resolved := Array.replicate 131 none
  statics := none }

def pool5 : Array CpInfo := pool [(1, .class_ 2), (0, u "java/lang/constant/Constable"), (0, .class_ 4), (0, u "java/lang/Object")] 6

/-- java/lang/constant/Constable -/
def k5 : Class := { plain "java/lang/constant/Constable" (some 0) with
  accessFlags := 1537
  interfaces := #[]
  cf := some (fileOf pool5 1 #[] #[] 1537 3 #[] #[])
  fields := #[]
  methods := #[]
  instanceTypes := #[]
  staticTypes := #[]
  resolved := Array.replicate 11 none
  statics := none }

def pool6 : Array CpInfo := pool [(1, .class_ 2), (0, u "java/lang/constant/ConstantDesc"), (0, .class_ 4), (0, u "java/lang/Object")] 32

/-- java/lang/constant/ConstantDesc -/
def k6 : Class := { plain "java/lang/constant/ConstantDesc" (some 0) with
  accessFlags := 1537
  interfaces := #[]
  cf := some (fileOf pool6 1 #[] #[] 1537 3 #[] #[])
  fields := #[]
  methods := #[]
  instanceTypes := #[]
  staticTypes := #[]
  resolved := Array.replicate 37 none
  statics := none }

def pool7 : Array CpInfo := pool [(1, .methodref 2 3), (0, .class_ 4), (0, .nameAndType 5 6), (0, u "java/lang/Object"), (0, u "<init>"), (0, u "()V"), (2, .fieldref 10 11), (0, .class_ 12), (0, .nameAndType 13 14), (0, u "java/lang/String"), (0, u "value"), (0, u "[B"), (0, .fieldref 10 16), (0, .nameAndType 17 18), (0, u "coder"), (0, u "B"), (2, u "hash"), (0, u "I"), (2, u "hashIsZero"), (0, u "Z"), (0, .methodref 10 28), (0, .nameAndType 5 29), (0, u "([CIILjava/lang/Void;)V"), (8, .fieldref 10 39), (0, .nameAndType 40 26), (0, u "COMPACT_STRINGS"), (1, .class_ 44), (1, u "java/lang/StringUTF16"), (0, u "compress"), (1, .methodref 42 48), (0, .nameAndType 49 50), (0, u "coderFromArrayLen"), (0, u "([BI)B"), (126, .methodref 42 178), (0, .nameAndType 45 179), (0, u "([CII)[B"), (395, .class_ 576), (0, u "java/lang/CharSequence"), (22, u "CASE_INSENSITIVE_ORDER"), (0, u "Ljava/util/Comparator;"), (409, u "([C)V"), (90, u "serialPersistentFields"), (0, u "[Ljava/io/ObjectStreamField;"), (0, .class_ 1104), (0, u "java/lang/String$CaseInsensitiveComparator"), (1, .class_ 1107), (0, u "java/io/Serializable"), (0, .class_ 1109), (0, u "java/lang/Comparable"), (0, .class_ 1111), (0, u "java/lang/constant/Constable"), (0, .class_ 1113), (0, u "java/lang/constant/ConstantDesc"), (2, u "serialVersionUID"), (0, u "J"), (3, u "REPL"), (0, u "C"), (2, u "LATIN1"), (1, u "UTF16")] 323

def k7m0 : Method := { name := "<init>", desc := "()V", sig := { parameters := [], returnType := none }, accessFlags := 1, code := none }
def k7c1 : Code := { maxStack := 5, maxLocals := 2, code := jdk_42_method_3_code, exceptionTable := #[], attributes := #[] }
def k7m1 : Method := { name := "<init>", desc := "([C)V", sig := { parameters := [(.array .char)], returnType := none }, accessFlags := 1, code := some k7c1 }
def k7c2 : Code := { maxStack := 4, maxLocals := 6, code := jdk_42_method_149_code, exceptionTable := #[], attributes := #[] }
def k7m2 : Method := { name := "<init>", desc := "([CIILjava/lang/Void;)V", sig := { parameters := [(.array .char), .int, .int, (.object "java/lang/Void")], returnType := none }, accessFlags := 2, code := some k7c2 }
/-- java/lang/String -/
def k7 : Class := { plain "java/lang/String" (some 0) with
  accessFlags := 49
  interfaces := #[2, 3, 4, 5, 6]
  cf := some (fileOf pool7 10 #[.nestMembers #[1103]] #[{ accessFlags := 1, nameIndex := 5, descriptorIndex := 6, attributes := #[] }, { accessFlags := 1, nameIndex := 5, descriptorIndex := 1010, attributes := #[] }, { accessFlags := 2, nameIndex := 5, descriptorIndex := 29, attributes := #[] }] 49 2 #[1106, 1108, 575, 1110, 1112] #[{ accessFlags := 18, nameIndex := 13, descriptorIndex := 14, attributes := #[] }, { accessFlags := 18, nameIndex := 17, descriptorIndex := 18, attributes := #[] }, { accessFlags := 2, nameIndex := 21, descriptorIndex := 22, attributes := #[] }, { accessFlags := 2, nameIndex := 25, descriptorIndex := 26, attributes := #[] }, { accessFlags := 26, nameIndex := 1116, descriptorIndex := 1117, attributes := #[] }, { accessFlags := 24, nameIndex := 40, descriptorIndex := 26, attributes := #[] }, { accessFlags := 26, nameIndex := 1101, descriptorIndex := 1102, attributes := #[] }, { accessFlags := 26, nameIndex := 1121, descriptorIndex := 1122, attributes := #[] }, { accessFlags := 25, nameIndex := 599, descriptorIndex := 600, attributes := #[] }, { accessFlags := 24, nameIndex := 1125, descriptorIndex := 18, attributes := #[] }, { accessFlags := 24, nameIndex := 1127, descriptorIndex := 18, attributes := #[] }])
  fields := #[{ name := "value", type := (.array .byte), accessFlags := 18, slot := 0, constantValue := 0 }, { name := "coder", type := .byte, accessFlags := 18, slot := 1, constantValue := 0 }, { name := "hash", type := .int, accessFlags := 2, slot := 2, constantValue := 0 }, { name := "hashIsZero", type := .boolean, accessFlags := 2, slot := 3, constantValue := 0 }, { name := "serialVersionUID", type := .long, accessFlags := 26, slot := 0, constantValue := 0 }, { name := "COMPACT_STRINGS", type := .boolean, accessFlags := 24, slot := 1, constantValue := 0 }, { name := "serialPersistentFields", type := (.array (.object "java/io/ObjectStreamField")), accessFlags := 26, slot := 2, constantValue := 0 }, { name := "REPL", type := .char, accessFlags := 26, slot := 3, constantValue := 0 }, { name := "CASE_INSENSITIVE_ORDER", type := (.object "java/util/Comparator"), accessFlags := 25, slot := 4, constantValue := 0 }, { name := "LATIN1", type := .byte, accessFlags := 24, slot := 5, constantValue := 0 }, { name := "UTF16", type := .byte, accessFlags := 24, slot := 6, constantValue := 0 }]
  methods := #[k7m0, k7m1, k7m2]
  instanceTypes := #[(.array .byte), .byte, .int, .boolean]
  staticTypes := #[.long, .boolean, (.array (.object "java/io/ObjectStreamField")), .char, (.object "java/util/Comparator"), .byte, .byte]
  resolved := Array.replicate 1451 none
  statics := some 0 }

def pool8 : Array CpInfo := pool [(6, .class_ 8), (1, u "java/lang/Object"), (0, u "<init>"), (0, u "()V"), (1, .class_ 14), (1, u "java/lang/StringUTF16"), (31, u "$assertionsDisabled"), (0, u "Z"), (13, u "HI_BYTE_SHIFT"), (0, u "I"), (2, u "LO_BYTE_SHIFT"), (49, .methodref 12 116), (0, .nameAndType 117 118), (0, u "compress"), (0, u "([CI[BII)I"), (3, u "([CII)[B"), (138, u "coderFromArrayLen"), (0, u "([BI)B"), (106, .class_ 371), (1, u "java/lang/StringUTF16$LinesSpliterator"), (58, u "MAX_LENGTH"), (196, .class_ 628), (0, u "java/lang/StringUTF16$CodePointsSpliterator"), (0, .class_ 630), (0, u "java/lang/StringUTF16$CharsSpliterator")] 4

def k8m0 : Method := { name := "<init>", desc := "()V", sig := { parameters := [], returnType := none }, accessFlags := 0, code := none }
def k8c1 : Code := { maxStack := 2, maxLocals := 2, code := jdk_52_method_15_code, exceptionTable := #[], attributes := #[] }
def k8m1 : Method := { name := "coderFromArrayLen", desc := "([BI)B", sig := { parameters := [(.array .byte), .int], returnType := some .byte }, accessFlags := 8, code := some k8c1 }
def k8c2 : Code := { maxStack := 5, maxLocals := 6, code := jdk_52_method_16_code, exceptionTable := #[], attributes := #[] }
def k8m2 : Method := { name := "compress", desc := "([CII)[B", sig := { parameters := [(.array .char), .int, .int], returnType := some (.array .byte) }, accessFlags := 9, code := some k8c2 }
def k8c3 : Code := { maxStack := 3, maxLocals := 7, code := jdk_52_method_21_code, exceptionTable := #[], attributes := #[] }
def k8m3 : Method := { name := "compress", desc := "([CI[BII)I", sig := { parameters := [(.array .char), .int, (.array .byte), .int, .int], returnType := some .int }, accessFlags := 9, code := some k8c3 }
/-- java/lang/StringUTF16 -/
def k8 : Class := { plain "java/lang/StringUTF16" (some 0) with
  accessFlags := 48
  interfaces := #[]
  cf := some (fileOf pool8 12 #[.nestMembers #[627, 629, 369]] #[{ accessFlags := 0, nameIndex := 9, descriptorIndex := 10, attributes := #[] }, { accessFlags := 8, nameIndex := 261, descriptorIndex := 262, attributes := #[] }, { accessFlags := 9, nameIndex := 117, descriptorIndex := 122, attributes := #[] }, { accessFlags := 9, nameIndex := 117, descriptorIndex := 118, attributes := #[] }] 48 6 #[] #[{ accessFlags := 26, nameIndex := 61, descriptorIndex := 62, attributes := #[] }, { accessFlags := 26, nameIndex := 65, descriptorIndex := 62, attributes := #[] }, { accessFlags := 24, nameIndex := 430, descriptorIndex := 62, attributes := #[] }, { accessFlags := 4120, nameIndex := 46, descriptorIndex := 47, attributes := #[] }])
  fields := #[{ name := "HI_BYTE_SHIFT", type := .int, accessFlags := 26, slot := 0, constantValue := 0 }, { name := "LO_BYTE_SHIFT", type := .int, accessFlags := 26, slot := 1, constantValue := 0 }, { name := "MAX_LENGTH", type := .int, accessFlags := 24, slot := 2, constantValue := 0 }, { name := "$assertionsDisabled", type := .boolean, accessFlags := 4120, slot := 3, constantValue := 0 }]
  methods := #[k8m0, k8m1, k8m2, k8m3]
  instanceTypes := #[]
  staticTypes := #[.int, .int, .int, .boolean]
  resolved := Array.replicate 635 none
  statics := none }

def pool9 : Array CpInfo := pool [(2, .class_ 4), (1, u "java/lang/Object"), (0, u "<init>"), (0, u "()V"), (21, .class_ 29), (0, u "com/example/plimsoll/plimsoll/model/Fields"), (59, u "MAXIMUM_COUNT"), (0, u "I"), (3, u "unsigned"), (0, u "(IILjava/lang/String;)I")] 30

def k9m0 : Method := { name := "<init>", desc := "()V", sig := { parameters := [], returnType := none }, accessFlags := 2, code := none }
def k9c1 : Code := { maxStack := 5, maxLocals := 3, code := prog_41_method_2_code, exceptionTable := #[], attributes := #[] }
def k9m1 : Method := { name := "unsigned", desc := "(IILjava/lang/String;)I", sig := { parameters := [.int, .int, (.object "java/lang/String")], returnType := some .int }, accessFlags := 9, code := some k9c1 }
/-- com/example/plimsoll/plimsoll/model/Fields -/
def k9 : Class := { plain "com/example/plimsoll/plimsoll/model/Fields" (some 0) with
  accessFlags := 49
  interfaces := #[]
  cf := some (fileOf pool9 28 #[] #[{ accessFlags := 2, nameIndex := 5, descriptorIndex := 6, attributes := #[] }, { accessFlags := 9, nameIndex := 94, descriptorIndex := 95, attributes := #[] }] 49 2 #[] #[{ accessFlags := 25, nameIndex := 89, descriptorIndex := 90, attributes := #[] }])
  fields := #[{ name := "MAXIMUM_COUNT", type := .int, accessFlags := 25, slot := 0, constantValue := 0 }]
  methods := #[k9m0, k9m1]
  instanceTypes := #[]
  staticTypes := #[.int]
  resolved := Array.replicate 126 none
  statics := none }

def pool10 : Array CpInfo := pool [(4, .class_ 6), (1, u "java/lang/Object"), (0, u "<init>"), (0, u "()V"), (5, .class_ 16), (1, u "java/lang/StringLatin1"), (104, u "$assertionsDisabled"), (0, u "Z"), (98, .class_ 223), (1, u "java/lang/StringLatin1$LinesSpliterator"), (166, .class_ 391), (0, u "java/lang/StringLatin1$CharsSpliterator")] 3

def k10m0 : Method := { name := "<init>", desc := "()V", sig := { parameters := [], returnType := none }, accessFlags := 0, code := none }
/-- java/lang/StringLatin1 -/
def k10 : Class := { plain "java/lang/StringLatin1" (some 0) with
  accessFlags := 48
  interfaces := #[]
  cf := some (fileOf pool10 14 #[.nestMembers #[390, 221]] #[{ accessFlags := 0, nameIndex := 7, descriptorIndex := 8, attributes := #[] }] 48 4 #[] #[{ accessFlags := 4120, nameIndex := 121, descriptorIndex := 122, attributes := #[] }])
  fields := #[{ name := "$assertionsDisabled", type := .boolean, accessFlags := 4120, slot := 0, constantValue := 0 }]
  methods := #[k10m0]
  instanceTypes := #[]
  staticTypes := #[.boolean]
  resolved := Array.replicate 395 none
  statics := none }

def pool11 : Array CpInfo := pool [(2, .class_ 4), (1, u "java/lang/Object"), (0, u "<init>"), (0, u "()V"), (17, .class_ 26), (1, u "jdk/internal/util/Preconditions"), (28, .class_ 56), (0, u "jdk/internal/util/Preconditions$4"), (57, .class_ 115), (0, u "jdk/internal/util/Preconditions$1"), (7, u "SIOOBE_FORMATTER"), (0, u "Ljava/util/function/BiFunction;"), (0, .class_ 126), (0, u "jdk/internal/util/Preconditions$2"), (3, u "AIOOBE_FORMATTER"), (0, .class_ 132), (0, u "jdk/internal/util/Preconditions$3"), (3, u "IOOBE_FORMATTER")] 57

def k11m0 : Method := { name := "<init>", desc := "()V", sig := { parameters := [], returnType := none }, accessFlags := 1, code := none }
/-- jdk/internal/util/Preconditions -/
def k11 : Class := { plain "jdk/internal/util/Preconditions" (some 0) with
  accessFlags := 33
  interfaces := #[]
  cf := some (fileOf pool11 24 #[.nestMembers #[55, 131, 125, 114]] #[{ accessFlags := 1, nameIndex := 5, descriptorIndex := 6, attributes := #[] }] 33 2 #[] #[{ accessFlags := 25, nameIndex := 123, descriptorIndex := 124, attributes := #[] }, { accessFlags := 25, nameIndex := 130, descriptorIndex := 124, attributes := #[] }, { accessFlags := 25, nameIndex := 136, descriptorIndex := 124, attributes := #[] }])
  fields := #[{ name := "SIOOBE_FORMATTER", type := (.object "java/util/function/BiFunction"), accessFlags := 25, slot := 0, constantValue := 0 }, { name := "AIOOBE_FORMATTER", type := (.object "java/util/function/BiFunction"), accessFlags := 25, slot := 1, constantValue := 0 }, { name := "IOOBE_FORMATTER", type := (.object "java/util/function/BiFunction"), accessFlags := 25, slot := 2, constantValue := 0 }]
  methods := #[k11m0]
  instanceTypes := #[]
  staticTypes := #[(.object "java/util/function/BiFunction"), (.object "java/util/function/BiFunction"), (.object "java/util/function/BiFunction")]
  resolved := Array.replicate 194 none
  statics := some 1 }

def pool12 : Array CpInfo := pool [(9, u "<init>"), (6, .class_ 18), (1, u "java/lang/Object"), (0, u "()V"), (1, .class_ 23), (1, u "jdk/internal/util/ArraysSupport"), (0, u "LOG2_ARRAY_LONG_INDEX_SCALE"), (0, u "I"), (2, u "U"), (0, u "Ljdk/internal/misc/Unsafe;"), (8, u "BIG_ENDIAN"), (0, u "Z"), (8, u "LOG2_BYTE_BIT_SIZE"), (4, u "LOG2_ARRAY_INT_INDEX_SCALE"), (54, u "JLA"), (0, u "Ljdk/internal/access/JavaLangAccess;"), (11, u "LOG2_ARRAY_BOOLEAN_INDEX_SCALE"), (9, u "LOG2_ARRAY_BYTE_INDEX_SCALE"), (5, u "LOG2_ARRAY_CHAR_INDEX_SCALE"), (5, u "LOG2_ARRAY_SHORT_INDEX_SCALE"), (18, u "LOG2_ARRAY_FLOAT_INDEX_SCALE"), (24, u "LOG2_ARRAY_DOUBLE_INDEX_SCALE"), (89, u "T_BOOLEAN"), (2, u "T_CHAR"), (1, u "T_FLOAT"), (1, u "T_DOUBLE"), (1, u "T_BYTE"), (1, u "T_SHORT"), (1, u "T_INT"), (1, u "T_LONG"), (1, u "SOFT_MAX_ARRAY_LENGTH")] 83

def k12m0 : Method := { name := "<init>", desc := "()V", sig := { parameters := [], returnType := none }, accessFlags := 2, code := none }
/-- jdk/internal/util/ArraysSupport -/
def k12 : Class := { plain "jdk/internal/util/ArraysSupport" (some 0) with
  accessFlags := 33
  interfaces := #[]
  cf := some (fileOf pool12 21 #[] #[{ accessFlags := 2, nameIndex := 9, descriptorIndex := 19, attributes := #[] }] 33 16 #[] #[{ accessFlags := 24, nameIndex := 28, descriptorIndex := 29, attributes := #[] }, { accessFlags := 26, nameIndex := 38, descriptorIndex := 39, attributes := #[] }, { accessFlags := 25, nameIndex := 121, descriptorIndex := 25, attributes := #[] }, { accessFlags := 25, nameIndex := 131, descriptorIndex := 25, attributes := #[] }, { accessFlags := 25, nameIndex := 137, descriptorIndex := 25, attributes := #[] }, { accessFlags := 25, nameIndex := 143, descriptorIndex := 25, attributes := #[] }, { accessFlags := 25, nameIndex := 53, descriptorIndex := 25, attributes := #[] }, { accessFlags := 25, nameIndex := 24, descriptorIndex := 25, attributes := #[] }, { accessFlags := 25, nameIndex := 162, descriptorIndex := 25, attributes := #[] }, { accessFlags := 25, nameIndex := 187, descriptorIndex := 25, attributes := #[] }, { accessFlags := 26, nameIndex := 48, descriptorIndex := 25, attributes := #[] }, { accessFlags := 25, nameIndex := 277, descriptorIndex := 25, attributes := #[] }, { accessFlags := 25, nameIndex := 280, descriptorIndex := 25, attributes := #[] }, { accessFlags := 25, nameIndex := 282, descriptorIndex := 25, attributes := #[] }, { accessFlags := 25, nameIndex := 284, descriptorIndex := 25, attributes := #[] }, { accessFlags := 25, nameIndex := 286, descriptorIndex := 25, attributes := #[] }, { accessFlags := 25, nameIndex := 288, descriptorIndex := 25, attributes := #[] }, { accessFlags := 25, nameIndex := 290, descriptorIndex := 25, attributes := #[] }, { accessFlags := 25, nameIndex := 292, descriptorIndex := 25, attributes := #[] }, { accessFlags := 26, nameIndex := 108, descriptorIndex := 109, attributes := #[] }, { accessFlags := 25, nameIndex := 294, descriptorIndex := 25, attributes := #[] }])
  fields := #[{ name := "U", type := (.object "jdk/internal/misc/Unsafe"), accessFlags := 24, slot := 0, constantValue := 0 }, { name := "BIG_ENDIAN", type := .boolean, accessFlags := 26, slot := 1, constantValue := 0 }, { name := "LOG2_ARRAY_BOOLEAN_INDEX_SCALE", type := .int, accessFlags := 25, slot := 2, constantValue := 0 }, { name := "LOG2_ARRAY_BYTE_INDEX_SCALE", type := .int, accessFlags := 25, slot := 3, constantValue := 0 }, { name := "LOG2_ARRAY_CHAR_INDEX_SCALE", type := .int, accessFlags := 25, slot := 4, constantValue := 0 }, { name := "LOG2_ARRAY_SHORT_INDEX_SCALE", type := .int, accessFlags := 25, slot := 5, constantValue := 0 }, { name := "LOG2_ARRAY_INT_INDEX_SCALE", type := .int, accessFlags := 25, slot := 6, constantValue := 0 }, { name := "LOG2_ARRAY_LONG_INDEX_SCALE", type := .int, accessFlags := 25, slot := 7, constantValue := 0 }, { name := "LOG2_ARRAY_FLOAT_INDEX_SCALE", type := .int, accessFlags := 25, slot := 8, constantValue := 0 }, { name := "LOG2_ARRAY_DOUBLE_INDEX_SCALE", type := .int, accessFlags := 25, slot := 9, constantValue := 0 }, { name := "LOG2_BYTE_BIT_SIZE", type := .int, accessFlags := 26, slot := 10, constantValue := 0 }, { name := "T_BOOLEAN", type := .int, accessFlags := 25, slot := 11, constantValue := 0 }, { name := "T_CHAR", type := .int, accessFlags := 25, slot := 12, constantValue := 0 }, { name := "T_FLOAT", type := .int, accessFlags := 25, slot := 13, constantValue := 0 }, { name := "T_DOUBLE", type := .int, accessFlags := 25, slot := 14, constantValue := 0 }, { name := "T_BYTE", type := .int, accessFlags := 25, slot := 15, constantValue := 0 }, { name := "T_SHORT", type := .int, accessFlags := 25, slot := 16, constantValue := 0 }, { name := "T_INT", type := .int, accessFlags := 25, slot := 17, constantValue := 0 }, { name := "T_LONG", type := .int, accessFlags := 25, slot := 18, constantValue := 0 }, { name := "JLA", type := (.object "jdk/internal/access/JavaLangAccess"), accessFlags := 26, slot := 19, constantValue := 0 }, { name := "SOFT_MAX_ARRAY_LENGTH", type := .int, accessFlags := 25, slot := 20, constantValue := 0 }]
  methods := #[k12m0]
  instanceTypes := #[]
  staticTypes := #[(.object "jdk/internal/misc/Unsafe"), .boolean, .int, .int, .int, .int, .int, .int, .int, .int, .int, .int, .int, .int, .int, .int, .int, .int, .int, (.object "jdk/internal/access/JavaLangAccess"), .int]
  resolved := Array.replicate 378 none
  statics := none }

def pool13 : Array CpInfo := pool [(1, u "java/lang/Cloneable"), (0, .class_ 1), (0, u "java/lang/Object"), (0, .class_ 3)] 3

/-- java/lang/Cloneable -/
def k13 : Class := { plain "java/lang/Cloneable" (some 0) with
  accessFlags := 1537
  interfaces := #[]
  cf := some (fileOf pool13 2 #[] #[] 1537 4 #[] #[])
  fields := #[]
  methods := #[]
  instanceTypes := #[]
  staticTypes := #[]
  resolved := Array.replicate 8 none
  statics := none }

/-- the primitive byte -/
def k14 : Class := { plain "byte" none with kind := .primitive 'B', accessFlags := 0x411 }
/-- [B -/
def k15 : Class := { plain "[B" (some 0) with kind := .array 14 .byte, interfaces := #[13, 2], accessFlags := 1041 }

/-- the primitive char -/
def k16 : Class := { plain "char" none with kind := .primitive 'C', accessFlags := 0x411 }
/-- [C -/
def k17 : Class := { plain "[C" (some 0) with kind := .array 16 .char, interfaces := #[13, 2], accessFlags := 1041 }

/-- the primitive int -/
def k18 : Class := { plain "int" none with kind := .primitive 'I', accessFlags := 0x411 }
/-- [I -/
def k19 : Class := { plain "[I" (some 0) with kind := .array 18 .int, interfaces := #[13, 2], accessFlags := 1041 }

def heap : Heap := #[{ cls := 7, slots := #[.long 0, .int 1, .null, .int 0, .null, .int 0, .int 0], vm := .statics 7 },
  { cls := 11, slots := #[.null, .null, .null], vm := .statics 11 }]
def classes : Array Class := #[k0, k1, k2, k3, k4, k5, k6, k7, k8, k9, k10, k11, k12, k13, k14, k15, k16, k17, k18, k19]
def interned : List (Array UInt16 × Addr) := []
def slotsUsed : Nat := 10
def theMethod : MethodId := ⟨1, 1⟩
def args0 : Array Value := #[.int 5, .int 7, .int 2, .int 9]
def aboutOver (below : List Frame) : State where
  vm := { classes := classes, interned := interned.toArray }
  heap := heap
  slotsUsed := slotsUsed
  threads := #[{ frames := .invoking theMethod args0 :: below }]
def below0 : List Frame := [.native { method := ⟨0, 0⟩, args := #[] }]
def about1 : State := aboutOver below0
def p0 : Program := .bare "" "" ""
def e0 : Env := launch0.env 0 0 0
theorem w_frames : about1.frames = Frame.invoking theMethod args0 :: below0 := rfl
set_option maxRecDepth 65536 in
theorem w_args : argsFit about1.vm theMethod args0 = true := by decide +kernel
set_option maxRecDepth 65536 in
theorem w_heap : heapFits about1 = true := by decide +kernel
set_option maxRecDepth 65536 in
theorem w_runnable : about1.curStatus? = some .runnable := by decide +kernel
set_option maxRecDepth 65536 in
theorem w_alone : about1.alone = true := by decide +kernel
set_option maxRecDepth 65536 in
theorem w_named : about1.methodNamed? x = some theMethod := by decide +kernel
set_option maxRecDepth 65536 in
theorem w_hears : about1.hears theMethod below0 = true := by decide +kernel
set_option maxRecDepth 65536 in
theorem w_ripe : about1.ripe theMethod args0 below0 = true := by decide +kernel
theorem w_running : about1.status = .running := rfl
set_option maxRecDepth 65536 in
theorem w_room : about1.hasRoom e0.platform room_1 = true :=
  launch0.hasRoom_least _ room_1 (by decide +kernel) (by decide +kernel) (by decide +kernel) (by decide +kernel) (by decide +kernel) (by decide +kernel)
theorem allAtoms_all (ts : List Jvm.Cond) (a : Array Jvm.Value) (st : Jvm.State) : (allAtoms ts).before a st = ts.all (fun c => c.before a st) := by
  induction ts with
  | nil => rfl
  | cons c t ih =>
    show (Jvm.Cond.and c (allAtoms t)).before a st = _
    rw [Jvm.Cond.before_and, ih, List.all_cons]
def words1 : List Jvm.Cond := Jvm.Cond.code x code maxLocals ret :: tables_1
/-- a 'code' word, met by the world's own term for the bytes: nothing is compared byte by byte -/
theorem code_word {y : MethodName} {bytes : ByteArray} {mx : Nat} {rt : Option FieldType} {a : Array Value} {s : State} {m : MethodId} {meth : Method} {c : Code} (h1 : s.methodNamed? y = some m) (h2 : s.vm.method? m = some meth) (h3 : meth.code = some c) (h4 : c.code = bytes)
    (h5 : (c.maxLocals == mx && c.exceptionTable.isEmpty && decide (c.maxStack ≤ mostOperands) && decide (meth.sig.returnType = rt) && !meth.locks && decide (parseMethodDescriptor y.desc = some meth.sig)) = true) : (Jvm.Cond.code y bytes mx rt).before a s = true := by
  simp only [Bool.and_eq_true, beq_iff_eq, Bool.not_eq_true', decide_eq_true_eq] at h5
  obtain ⟨⟨⟨⟨⟨g1, g2⟩, g3⟩, g4⟩, g5⟩, g6⟩ := h5
  simp [Cond.before, Cond.holds, Cond.value, h1, h2, h3, h4, g1, g2, g3, g4, g5, g6]
def isCode : Jvm.Cond → Bool
  | .code _ _ _ _ => true
  | _ => false
theorem all_split {L : List Jvm.Cond} {P : Jvm.Cond → Bool} (h1 : L.all (fun c => isCode c || P c) = true) (h2 : ∀ c ∈ L.filter isCode, P c = true) : L.all P = true := by
  refine List.all_eq_true.mpr fun c hc => ?_
  have h := List.all_eq_true.mp h1 c hc
  rcases Bool.eq_false_or_eq_true (isCode c) with hi | hi
  · exact h2 c (List.mem_filter.mpr ⟨hc, hi⟩)
  · simpa [hi] using h
set_option maxRecDepth 65536 in
theorem w_c0 : (Jvm.Cond.code x code maxLocals ret).before args0 about1 = true := code_word (m := ⟨1, 1⟩) (meth := k1m1) (c := k1c1) (by decide +kernel) rfl rfl rfl (by decide +kernel)
set_option maxRecDepth 65536 in
theorem w_c1 : (Jvm.Cond.code ({ cls := "java/lang/String", name := "<init>", desc := "([C)V" } : Jvm.MethodName) jdk_42_method_3_code (2 : Nat) (Option.none : Option Jvm.ClassFile.FieldType)).before args0 about1 = true := code_word (m := ⟨7, 1⟩) (meth := k7m1) (c := k7c1) (by decide +kernel) rfl rfl rfl (by decide +kernel)
set_option maxRecDepth 65536 in
theorem w_c2 : (Jvm.Cond.code ({ cls := "java/lang/String", name := "<init>", desc := "([CIILjava/lang/Void;)V" } : Jvm.MethodName) jdk_42_method_149_code (6 : Nat) (Option.none : Option Jvm.ClassFile.FieldType)).before args0 about1 = true := code_word (m := ⟨7, 2⟩) (meth := k7m2) (c := k7c2) (by decide +kernel) rfl rfl rfl (by decide +kernel)
set_option maxRecDepth 65536 in
theorem w_c3 : (Jvm.Cond.code ({ cls := "java/lang/Object", name := "<init>", desc := "()V" } : Jvm.MethodName) object_method_1_code (1 : Nat) (Option.none : Option Jvm.ClassFile.FieldType)).before args0 about1 = true := code_word (m := ⟨0, 0⟩) (meth := k0m0) (c := k0c0) (by decide +kernel) rfl rfl rfl (by decide +kernel)
set_option maxRecDepth 65536 in
theorem w_c4 : (Jvm.Cond.code ({ cls := "java/lang/StringUTF16", name := "compress", desc := "([CII)[B" } : Jvm.MethodName) jdk_52_method_16_code (6 : Nat) (Option.some (Jvm.ClassFile.FieldType.array Jvm.ClassFile.FieldType.byte))).before args0 about1 = true := code_word (m := ⟨8, 2⟩) (meth := k8m2) (c := k8c2) (by decide +kernel) rfl rfl rfl (by decide +kernel)
set_option maxRecDepth 65536 in
theorem w_c5 : (Jvm.Cond.code ({ cls := "java/lang/StringUTF16", name := "compress", desc := "([CI[BII)I" } : Jvm.MethodName) jdk_52_method_21_code (7 : Nat) (Option.some Jvm.ClassFile.FieldType.int)).before args0 about1 = true := code_word (m := ⟨8, 3⟩) (meth := k8m3) (c := k8c3) (by decide +kernel) rfl rfl rfl (by decide +kernel)
set_option maxRecDepth 65536 in
theorem w_c6 : (Jvm.Cond.code ({ cls := "java/lang/StringUTF16", name := "coderFromArrayLen", desc := "([BI)B" } : Jvm.MethodName) jdk_52_method_15_code (2 : Nat) (Option.some Jvm.ClassFile.FieldType.byte)).before args0 about1 = true := code_word (m := ⟨8, 1⟩) (meth := k8m1) (c := k8c1) (by decide +kernel) rfl rfl rfl (by decide +kernel)
set_option maxRecDepth 65536 in
theorem w_c7 : (Jvm.Cond.code ({ cls := "com/example/plimsoll/plimsoll/model/Fields", name := "unsigned", desc := "(IILjava/lang/String;)I" } : Jvm.MethodName) prog_41_method_2_code (3 : Nat) (Option.some Jvm.ClassFile.FieldType.int)).before args0 about1 = true := code_word (m := ⟨9, 1⟩) (meth := k9m1) (c := k9c1) (by decide +kernel) rfl rfl rfl (by decide +kernel)
def codes1 : List Jvm.Cond := [Jvm.Cond.code x code maxLocals ret, Jvm.Cond.code ({ cls := "java/lang/String", name := "<init>", desc := "([C)V" } : Jvm.MethodName) jdk_42_method_3_code (2 : Nat) (Option.none : Option Jvm.ClassFile.FieldType), Jvm.Cond.code ({ cls := "java/lang/String", name := "<init>", desc := "([CIILjava/lang/Void;)V" } : Jvm.MethodName) jdk_42_method_149_code (6 : Nat) (Option.none : Option Jvm.ClassFile.FieldType), Jvm.Cond.code ({ cls := "java/lang/Object", name := "<init>", desc := "()V" } : Jvm.MethodName) object_method_1_code (1 : Nat) (Option.none : Option Jvm.ClassFile.FieldType), Jvm.Cond.code ({ cls := "java/lang/StringUTF16", name := "compress", desc := "([CII)[B" } : Jvm.MethodName) jdk_52_method_16_code (6 : Nat) (Option.some (Jvm.ClassFile.FieldType.array Jvm.ClassFile.FieldType.byte)), Jvm.Cond.code ({ cls := "java/lang/StringUTF16", name := "compress", desc := "([CI[BII)I" } : Jvm.MethodName) jdk_52_method_21_code (7 : Nat) (Option.some Jvm.ClassFile.FieldType.int), Jvm.Cond.code ({ cls := "java/lang/StringUTF16", name := "coderFromArrayLen", desc := "([BI)B" } : Jvm.MethodName) jdk_52_method_15_code (2 : Nat) (Option.some Jvm.ClassFile.FieldType.byte), Jvm.Cond.code ({ cls := "com/example/plimsoll/plimsoll/model/Fields", name := "unsigned", desc := "(IILjava/lang/String;)I" } : Jvm.MethodName) prog_41_method_2_code (3 : Nat) (Option.some Jvm.ClassFile.FieldType.int)]
set_option maxRecDepth 65536 in
theorem codes_eq : words1.filter isCode = codes1 := rfl
theorem w_codes : ∀ c ∈ words1.filter isCode, c.before args0 about1 = true := by
  rw [codes_eq]
  intro c hc
  simp only [codes1, List.mem_cons, List.not_mem_nil, or_false] at hc
  rcases hc with rfl | rfl | rfl | rfl | rfl | rfl | rfl | rfl
  · exact w_c0
  · exact w_c1
  · exact w_c2
  · exact w_c3
  · exact w_c4
  · exact w_c5
  · exact w_c6
  · exact w_c7
set_option maxRecDepth 65536 in
theorem w_t1 : (words1.take 24).all (fun c => isCode c || c.before args0 about1) = true := by decide +kernel
set_option maxRecDepth 65536 in
theorem w_t2 : (words1.drop 24).all (fun c => isCode c || c.before args0 about1) = true := by decide +kernel
theorem w_tables : (allAtoms (Jvm.Cond.code x code maxLocals ret :: tables_1)).before args0 about1 = true := by
  rw [allAtoms_all]
  show words1.all (fun c => c.before args0 about1) = true
  refine all_split ?_ w_codes
  rw [← List.take_append_drop 24 words1, List.all_append, w_t1, w_t2]
  rfl
set_option maxRecDepth 65536 in
theorem w_rest : rest_1_c.before args0 about1 = true := by decide +kernel
set_option maxRecDepth 65536 in
theorem w_case : (Jvm.Cond.and given_1 narrow_1).before args0 about1 = true := by decide +kernel
theorem w_applies : (headSpec (Jvm.Cond.code x code maxLocals ret :: tables_1) room_1).applies x e0.platform about1 = true :=
  (Spec.applies_iff w_frames).mpr ⟨w_running, w_runnable, w_alone, w_named, w_hears, w_ripe, w_room, w_tables⟩
theorem atStart : AtStart classFile x code maxLocals ret World_1 tables_1 room_1 Calls_1 rest_1 Pre_1 launch0 p0 e0 about1 theMethod args0 below0 :=
  ⟨lists_1, trivial, launch0.admits_env _ _ _, launch0.least_env, fairChoices_fair.cas, fairChoices_fair.clock, w_frames, w_args, w_heap, w_applies, trivial, w_rest, w_case⟩
end start1
theorem witness_1 : WitnessClaimed_1 := ⟨start1.p0, start1.e0, start1.about1, start1.theMethod, start1.args0, start1.below0, start1.atStart⟩
end Jvm.Pilot.@@N@@
