import JvmDerived
import JvmDerived.Pilot.@@N@@Statement
import JvmDerived.Pilot.@@N@@Code
set_option linter.unusedVariables false
set_option linter.unusedSimpArgs false
namespace Jvm.RoadKit
open Sem ClassFile Op Lib Jvm.Stand Jvm.Free Jvm.LawKit
section New
variable {p : Program} {l : Launch} {e : Env} {R : Room} {s : State} {m : MethodId} {args : Array Value} {below : List Frame} {meth : Method} {c : Code} {T : State} {locs : List Loc} {cells slots : Nat}
theorem retI (X : Stand p l e R s m args below meth c T locs cells slots) (hx : p.tables.exec = Jvm.exec) {pc : Nat} {Ls : Array Slot} {z : Int32} {rest : List Value} (hret : meth.sig.returnType = some .int) (hd : decode c.code pc = .ok (.ireturn, 1)) {fs : List Frame}
    (hl : ∀ (f : JFrame) (acts : List Action), f.method = m → f.locked = none → f.entered = [] → (doReturn e (T.setTop f) acts (some (.int z))).1 = T.setFrames fs) : Steps p.tables e below (T.setTop (mkF m pc Ls (.int z :: rest))) (T.setFrames fs) := by
  have hm' : T.vm.method? m = some meth := X.method'
  have hn : narrow .int (.int z) = .int z := rfl
  show Steps p.tables e below (T.setTop { method := m, pc := pc, locals := Ls, stack := _ :: rest, locked := none }) _
  jvm_step X.here [X.here.top, hx, hd, hm', hret, hn]
  first | (intro acts; rw [hl _ acts rfl rfl rfl]) | rw [hl _ _ rfl rfl rfl]
  exact Steps.refl _
end New
end Jvm.RoadKit
/- laws to paste: Road.backV (cut by pick.py; bodies as the Statement names them) -/
namespace Jvm.Pilot.@@N@@
namespace StrChars
open Jvm Sem ClassFile Op Lib Jvm.Stand Jvm.Free.XT Jvm.Free.ALB Jvm.Free.JM Jvm.Free
open Jvm.Lib.Cold (StaticIs)
/-- a char array whose places are chars -/
def Ch (a : Addr) (A : Cell) (U : State) : Prop := Arr .char a A U ∧ Typed .char A
theorem Ch.mv {a : Addr} {A : Cell} {U U' : State} (h : Ch a A U) (hal : U.vm.Alike U'.vm) (hh : U'.heap = U.heap) : Ch a A U' := ⟨h.1.mv hal hh, h.2⟩
theorem Ch.keep {a : Addr} {A : Cell} {U U' : State} (h : Ch a A U) (hal : U.vm.Alike U'.vm) (hk : U'.heap[a]? = some A) : Ch a A U' := ⟨h.1.keep hal hk, h.2⟩
/-- what place i of a char[]'s cell holds -/
def cv (A : Cell) (i : Nat) : Int32 := match A.slots[i]? with | some (.int x) => x | _ => 0
theorem Ch.get {a : Addr} {A : Cell} {U : State} (h : Ch a A U) {i : Nat} (hi : i < A.slots.size) : A.slots[i]? = some (.int (cv A i)) := by
  have e := Array.getElem?_eq_getElem hi
  have f := h.2 i _ e
  unfold cv; rw [e]
  generalize A.slots[i] = v at f
  cases v <;> simp [fits] at f ⊢
/-- the byte that i2b leaves of a char -/
def lo8 (x : Int32) : Int32 := x.toInt8.toInt32
theorem fits_lo8 (y : Int32) : fits .byte (.int (lo8 y)) = true := by
  have h1 := y.toInt8.le_toInt
  have h2 := y.toInt8.toInt_lt
  simp only [lo8, fits, Bool.and_eq_true, decide_eq_true_eq, Int32.le_iff_toInt_le, Int8.toInt_toInt32, show (-128 : Int32).toInt = -128 from by decide, show (127 : Int32).toInt = 127 from by decide]
  omega
/-- A' is A but that each place j of lo .. hi - 1 holds f j -/
def Laid (A A' : Cell) (lo hi : Nat) (f : Nat → Value) : Prop := A'.cls = A.cls ∧ A'.vm = A.vm ∧ A'.slots.size = A.slots.size ∧ ∀ i, A'.slots[i]? = if lo ≤ i ∧ i < hi then some (f i) else A.slots[i]?
theorem Laid.zero (A : Cell) (lo : Nat) (f : Nat → Value) : Laid A A lo (lo + 0) f := ⟨rfl, rfl, rfl, fun i => by rw [if_neg (by omega)]⟩
theorem Laid.step {A Ak : Cell} {lo k : Nat} {f : Nat → Value} {v : Value} (h : Laid A Ak lo k f) (hlo : lo ≤ k) (hk : k < Ak.slots.size) (hv : v = f k) : Laid A (Ak.setSlot k v) lo (k + 1) f := by
  refine ⟨h.1, h.2.1, by simpa [Cell.setSlot] using h.2.2.1, fun i => ?_⟩
  by_cases e : k = i
  · subst e; rw [Cell.slots_setSlot_self v hk, if_pos (by omega), hv]
  · rw [Cell.slots_setSlot_ne v e, h.2.2.2 i]
    by_cases q : lo ≤ i ∧ i < k
    · rw [if_pos q, if_pos (by omega)]
    · rw [if_neg q, if_neg (by omega)]
def U16 : String := "java/lang/StringUTF16"
namespace Cmp5
def yN : MethodName := ⟨"java/lang/StringUTF16", "compress", "([CI[BII)I"⟩
abbrev yB : ByteArray := jdk_52_method_21_code
theorem d0 : decode yB 0 = .ok (.iconst 0, 1) := by decide +kernel
theorem d1 : decode yB 1 = .ok (.istore 5, 2) := by decide +kernel
theorem d3 : decode yB 3 = .ok (.iload 5, 2) := by decide +kernel
theorem d5 : decode yB 5 = .ok (.iload 4, 2) := by decide +kernel
theorem d7 : decode yB 7 = .ok (.if_icmp (.ge) 37, 3) := by decide +kernel
theorem d10 : decode yB 10 = .ok (.aload_n 0, 1) := by decide +kernel
theorem d11 : decode yB 11 = .ok (.iload_n 1, 1) := by decide +kernel
theorem d12 : decode yB 12 = .ok (.caload, 1) := by decide +kernel
theorem d13 : decode yB 13 = .ok (.istore 6, 2) := by decide +kernel
theorem d15 : decode yB 15 = .ok (.iload 6, 2) := by decide +kernel
theorem d17 : decode yB 17 = .ok (.sipush 255, 3) := by decide +kernel
theorem d20 : decode yB 20 = .ok (.if_icmp (.le) 6, 3) := by decide +kernel
theorem d26 : decode yB 26 = .ok (.aload_n 2, 1) := by decide +kernel
theorem d27 : decode yB 27 = .ok (.iload_n 3, 1) := by decide +kernel
theorem d28 : decode yB 28 = .ok (.iload 6, 2) := by decide +kernel
theorem d30 : decode yB 30 = .ok (.i2b, 1) := by decide +kernel
theorem d31 : decode yB 31 = .ok (.bastore, 1) := by decide +kernel
theorem d32 : decode yB 32 = .ok (.iinc 1 1, 3) := by decide +kernel
theorem d35 : decode yB 35 = .ok (.iinc 3 1, 3) := by decide +kernel
theorem d38 : decode yB 38 = .ok (.iinc 5 1, 3) := by decide +kernel
theorem d41 : decode yB 41 = .ok (.goto (-38), 3) := by decide +kernel
theorem d44 : decode yB 44 = .ok (.iload 4, 2) := by decide +kernel
theorem d46 : decode yB 46 = .ok (.ireturn, 1) := by decide +kernel
def site : List Cond := []
def tab : Cond := tabOf yN yB 7 (some .int) site
def P (b : Addr) (A : Cell) (d : Addr) (B : Cell) (o q len : Nat) (args : Array Value) (s : State) : Prop := args = #[.ref b, .int (Int32.ofNat o), .ref d, .int (Int32.ofNat q), .int (Int32.ofNat len)] ∧ Ch b A s ∧ Arr .byte d B s ∧ b ≠ d ∧ o + len ≤ A.slots.size ∧ q + len ≤ B.slots.size ∧ ∀ i, i < len → ¬ 255 < cv A (o + i)
def E (b : Addr) (A : Cell) (d : Addr) (B : Cell) (o q len : Nat) (r : Option Value) (s u : State) : Prop := r = some (.int (Int32.ofNat len)) ∧ ∃ B', Put d B' s u ∧ Laid B B' q (q + len) (fun j => Value.int (lo8 (cv A (o + (j - q)))))
/-- no char of the range above 255: len; the places written hold each char's low byte -/
theorem law (l : Launch) (b : Addr) (A : Cell) (d : Addr) (B : Cell) (o q len : Nat) : Law l yN 5 5 0 0 yB 7 (some .int) site (P b A d B o q len) (E b A d B o q len) (copyLocs d q len) 0 0 := by
  refine Law.of_walk (plainFor_of_name (by decide +kernel)) (by decide +kernel) (by decide +kernel) (by decide) (fun _ _ h => by rw [h.1]; rfl) (fun _ U U' hal hh h => ⟨h.1, h.2.1.mv hal hh, h.2.2.1.mv hal hh, h.2.2.2⟩) (fun r U U' V V' h1 hal h2 h => ⟨h.1, h.2.elim fun B' q => ⟨B', q.1.mv h1 h2, q.2⟩⟩) ?_
  intro p e s m args below meth c s₁ X0 hexec hbytes hml hret hlk hnm hown hh0 W hP
  obtain ⟨rfl, hA, hB, hne, l1, l2, hp⟩ := hP
  have c1 : Steps p.tables e below (s₁.setTop (entryFrame m #[.ref b, .int (Int32.ofNat o), .ref d, .int (Int32.ofNat q), .int (Int32.ofNat len)] 7)) (s₁.setTop (mkF m 0 #[.val (.ref b), .val (.int (Int32.ofNat o)), .val (.ref d), .val (.int (Int32.ofNat q)), .val (.int (Int32.ofNat len)), .unset, .unset] [])) := entry rfl
  have hA0 := hA.1.mv X0.warmed.alike hh0
  have hB0 := hB.mv X0.warmed.alike hh0
  have a31 := hA.1.2.2.2
  have c2 : Steps p.tables e below (s₁.setTop (entryFrame m #[.ref b, .int (Int32.ofNat o), .ref d, .int (Int32.ofNat q), .int (Int32.ofNat len)] 7)) (s₁.setTop (mkF m 3 #[.val (.ref b), .val (.int (Int32.ofNat o)), .val (.ref d), .val (.int (Int32.ofNat q)), .val (.int (Int32.ofNat len)), .val (.int 0), .unset] [])) := c1.trans (by
    refine iconstV X0.here hexec rfl 0 (hb hbytes d0) (by decide) ?_
    refine XS.istore X0.here hexec rfl (hb hbytes d1) rfl rfl ?_
    exact Steps.refl _)
  have loop : ∀ (r i : Nat), i + r = len → ∀ (z : Slot), (z = .unset ∨ ∃ w, z = .val w ∧ w.category = 1) → ∀ (Tl : State) (Bk : Cell), Stand p l e { frames := 0, locals := 0, cells := 0, slots := 0 } s m #[.ref b, .int (Int32.ofNat o), .ref d, .int (Int32.ofNat q), .int (Int32.ofNat len)] below meth c Tl ([] ++ copyLocs d q i) 0 0 → Put d Bk s₁ Tl → Laid B Bk q (q + i) (fun j => Value.int (lo8 (cv A (o + (j - q))))) →
      Steps p.tables e below (s₁.setTop (entryFrame m #[.ref b, .int (Int32.ofNat o), .ref d, .int (Int32.ofNat q), .int (Int32.ofNat len)] 7)) (Tl.setTop (mkF m 3 #[.val (.ref b), .val (.int (Int32.ofNat (o + i))), .val (.ref d), .val (.int (Int32.ofNat (q + i))), .val (.int (Int32.ofNat len)), .val (.int (Int32.ofNat i)), z] [])) → ∃ (T' : State) (B' : Cell) (z' : Slot), Stand p l e { frames := 0, locals := 0, cells := 0, slots := 0 } s m #[.ref b, .int (Int32.ofNat o), .ref d, .int (Int32.ofNat q), .int (Int32.ofNat len)] below meth c T' ([] ++ copyLocs d q len) 0 0 ∧ Put d B' s₁ T' ∧ Laid B B' q (q + len) (fun j => Value.int (lo8 (cv A (o + (j - q))))) ∧
      Steps p.tables e below (s₁.setTop (entryFrame m #[.ref b, .int (Int32.ofNat o), .ref d, .int (Int32.ofNat q), .int (Int32.ofNat len)] 7)) (T'.setTop (mkF m 3 #[.val (.ref b), .val (.int (Int32.ofNat (o + len))), .val (.ref d), .val (.int (Int32.ofNat (q + len))), .val (.int (Int32.ofNat len)), .val (.int (Int32.ofNat len)), z'] [])) := by
    intro r
    induction r with
    | zero =>
      intro i hi z hz Tl Bk Xl pl fl cl
      have hil : i = len := by omega
      rw [hil] at Xl fl cl
      exact ⟨Tl, Bk, z, Xl, pl, fl, cl⟩
    | succ r ih =>
      intro i hi z hz Tl Bk Xl pl fl cl
      have all := X0.warmed.alike.symm.trans Xl.warmed.alike
      have hAl := hA0.keep all (pl.other hne hA0.1)
      have hBk := hB0.like all pl.1 fl.1 fl.2.1 fl.2.2.1
      have hlt : q + i < Bk.slots.size := by rw [fl.2.2.1]; omega
      have c3 : Steps p.tables e below (s₁.setTop (entryFrame m #[.ref b, .int (Int32.ofNat o), .ref d, .int (Int32.ofNat q), .int (Int32.ofNat len)] 7)) (Tl.setTop (mkF m 12 #[.val (.ref b), .val (.int (Int32.ofNat (o + i))), .val (.ref d), .val (.int (Int32.ofNat (q + i))), .val (.int (Int32.ofNat len)), .val (.int (Int32.ofNat i)), z] [.int (Int32.ofNat (o + i)), .ref b])) := cl.trans (by
        refine XS.iload Xl.here hexec rfl (hb hbytes d3) rfl ?_
        refine XS.iload Xl.here hexec rfl (hb hbytes d5) rfl ?_
        refine XS.icmpNo Xl.here hexec rfl (hb hbytes d7) rfl (ii_ge_f (lt32 (by omega) (by omega))) ?_
        refine XS.aloadN Xl.here hexec rfl (hb hbytes d10) rfl rfl ?_
        refine XS.iloadN Xl.here hexec rfl (hb hbytes d11) rfl ?_
        exact Steps.refl _)
      have c4 : Steps p.tables e below (s₁.setTop (entryFrame m #[.ref b, .int (Int32.ofNat o), .ref d, .int (Int32.ofNat q), .int (Int32.ofNat len)] 7)) (Tl.setTop (mkF m 13 #[.val (.ref b), .val (.int (Int32.ofNat (o + i))), .val (.ref d), .val (.int (Int32.ofNat (q + i))), .val (.int (Int32.ofNat len)), .val (.int (Int32.ofNat i)), z] [.int (cv A (o + i))])) := c3.trans (by
        refine Xl.aget hexec hAl rfl (hA.get (i := o + i) (by omega)) rfl rfl (hb hbytes d12) ?_
        exact Steps.refl _)
      have c5 : Steps p.tables e below (s₁.setTop (entryFrame m #[.ref b, .int (Int32.ofNat o), .ref d, .int (Int32.ofNat q), .int (Int32.ofNat len)] 7)) (Tl.setTop (mkF m 15 #[.val (.ref b), .val (.int (Int32.ofNat (o + i))), .val (.ref d), .val (.int (Int32.ofNat (q + i))), .val (.int (Int32.ofNat len)), .val (.int (Int32.ofNat i)), .val (.int (cv A (o + i)))] [])) := c4.trans (by
        refine XS.istoreS Xl.here hexec rfl (hb hbytes d13) rfl rfl hz ?_
        exact Steps.refl _)
      have c6 : Steps p.tables e below (s₁.setTop (entryFrame m #[.ref b, .int (Int32.ofNat o), .ref d, .int (Int32.ofNat q), .int (Int32.ofNat len)] 7)) (Tl.setTop (mkF m 31 #[.val (.ref b), .val (.int (Int32.ofNat (o + i))), .val (.ref d), .val (.int (Int32.ofNat (q + i))), .val (.int (Int32.ofNat len)), .val (.int (Int32.ofNat i)), .val (.int (cv A (o + i)))] [.int (lo8 (cv A (o + i))), .int (Int32.ofNat (q + i)), .ref d])) := c5.trans (by
        refine XS.iload Xl.here hexec rfl (hb hbytes d15) rfl ?_
        refine sipushV Xl.here hexec rfl 255 (hb hbytes d17) (by decide) ?_
        refine XS.icmpYes Xl.here hexec rfl (pc0 := 20) rfl (hb hbytes d20) rfl (ii_le_t (hp i (by omega))) (by decide) rfl ?_
        refine XS.aloadN Xl.here hexec rfl (hb hbytes d26) rfl rfl ?_
        refine XS.iloadN Xl.here hexec rfl (hb hbytes d27) rfl ?_
        refine XS.iload Xl.here hexec rfl (hb hbytes d28) rfl ?_
        refine i2b Xl.here hexec rfl (hb hbytes d30) rfl ?_
        exact Steps.refl _)
      obtain ⟨T7, X7, p7, st7⟩ := Xl.aput hexec hBk rfl hlt rfl (fits_lo8 (cv A (o + i))) (g := (mkF m 31 #[.val (.ref b), .val (.int (Int32.ofNat (o + i))), .val (.ref d), .val (.int (Int32.ofNat (q + i))), .val (.int (Int32.ofNat len)), .val (.int (Int32.ofNat i)), .val (.int (cv A (o + i)))] [.int (lo8 (cv A (o + i))), .int (Int32.ofNat (q + i)), .ref d])) rfl (rest := []) rfl (hb hbytes d31)
      have c8 : Steps p.tables e below (s₁.setTop (entryFrame m #[.ref b, .int (Int32.ofNat o), .ref d, .int (Int32.ofNat q), .int (Int32.ofNat len)] 7)) (T7.setTop (mkF m 32 #[.val (.ref b), .val (.int (Int32.ofNat (o + i))), .val (.ref d), .val (.int (Int32.ofNat (q + i))), .val (.int (Int32.ofNat len)), .val (.int (Int32.ofNat i)), .val (.int (cv A (o + i)))] [])) := c6.trans (st7 _ (Steps.refl _))
      have c9 : Steps p.tables e below (s₁.setTop (entryFrame m #[.ref b, .int (Int32.ofNat o), .ref d, .int (Int32.ofNat q), .int (Int32.ofNat len)] 7)) (T7.setTop (mkF m 3 #[.val (.ref b), .val (.int (Int32.ofNat (o + i) + 1)), .val (.ref d), .val (.int (Int32.ofNat (q + i) + 1)), .val (.int (Int32.ofNat len)), .val (.int (Int32.ofNat i + 1)), .val (.int (cv A (o + i)))] [])) := c8.trans (by
        refine iincV X7.here hexec rfl 1 (hb hbytes d32) (by decide) rfl rfl ?_
        refine iincV X7.here hexec rfl 1 (hb hbytes d35) (by decide) rfl rfl ?_
        refine iincV X7.here hexec rfl 1 (hb hbytes d38) (by decide) rfl rfl ?_
        refine XS.goto X7.here hexec rfl (pc0 := 41) rfl (hb hbytes d41) (by decide) rfl ?_
        exact Steps.refl _)
      have c10 : Steps p.tables e below (s₁.setTop (entryFrame m #[.ref b, .int (Int32.ofNat o), .ref d, .int (Int32.ofNat q), .int (Int32.ofNat len)] 7)) (T7.setTop (mkF m 3 #[.val (.ref b), .val (.int (Int32.ofNat (o + (i + 1)))), .val (.ref d), .val (.int (Int32.ofNat (q + (i + 1)))), .val (.int (Int32.ofNat len)), .val (.int (Int32.ofNat (i + 1))), .val (.int (cv A (o + i)))] [])) := by
        have := c9
        rw [succ32, succ32, succ32] at this
        exact this
      exact ih (i + 1) (by omega) _ (Or.inr ⟨_, rfl, rfl⟩) T7 _ (by rw [copyLocs_step, ← List.append_assoc]; exact X7) (pl.trans p7) (fl.step (by omega) hlt (by simp)) c10
  obtain ⟨T9, B9, z9, X9, p9, f9, g9⟩ := loop len 0 (by omega) .unset (Or.inl rfl) s₁ B (by simpa [copyLocs] using X0) ⟨hB0.1, fun _ _ => rfl, rfl⟩ (Laid.zero _ _ _) c2
  have c11 : Steps p.tables e below (s₁.setTop (entryFrame m #[.ref b, .int (Int32.ofNat o), .ref d, .int (Int32.ofNat q), .int (Int32.ofNat len)] 7)) (T9.setTop (mkF m 46 #[.val (.ref b), .val (.int (Int32.ofNat (o + len))), .val (.ref d), .val (.int (Int32.ofNat (q + len))), .val (.int (Int32.ofNat len)), .val (.int (Int32.ofNat len)), z9] [.int (Int32.ofNat len)])) := g9.trans (by
    refine XS.iload X9.here hexec rfl (hb hbytes d3) rfl ?_
    refine XS.iload X9.here hexec rfl (hb hbytes d5) rfl ?_
    refine XS.icmpYes X9.here hexec rfl (pc0 := 7) rfl (hb hbytes d7) rfl (ii_ge_t (nlt32 (by omega) (Nat.le_refl _))) (by decide) rfl ?_
    refine XS.iload X9.here hexec rfl (hb hbytes d44) rfl ?_
    exact Steps.refl _)
  exact ⟨T9, some (.int (Int32.ofNat len)), _, _, _, X9, by simp, rfl, rfl, (fun h => by cases h), ⟨rfl, B9, p9.from hh0, f9⟩, fun fs hl => c11.trans (X9.ireturnOut hexec hret rfl (Or.inl rfl) (hb hbytes d46) hl)⟩
end Cmp5
namespace Cmp3
def yN : MethodName := ⟨"java/lang/StringUTF16", "compress", "([CII)[B"⟩
abbrev yB : ByteArray := jdk_52_method_16_code
theorem d0 : decode yB 0 = .ok (.iload_n 2, 1) := by decide +kernel
theorem d1 : decode yB 1 = .ok (.newarray .byte, 2) := by decide +kernel
theorem d3 : decode yB 3 = .ok (.astore_n 3, 1) := by decide +kernel
theorem d4 : decode yB 4 = .ok (.aload_n 0, 1) := by decide +kernel
theorem d5 : decode yB 5 = .ok (.iload_n 1, 1) := by decide +kernel
theorem d6 : decode yB 6 = .ok (.aload_n 3, 1) := by decide +kernel
theorem d7 : decode yB 7 = .ok (.iconst 0, 1) := by decide +kernel
theorem d8 : decode yB 8 = .ok (.iload_n 2, 1) := by decide +kernel
theorem d9 : decode yB 9 = .ok (.invokestatic 115, 3) := by decide +kernel
theorem d12 : decode yB 12 = .ok (.istore 4, 2) := by decide +kernel
theorem d14 : decode yB 14 = .ok (.iload 4, 2) := by decide +kernel
theorem d16 : decode yB 16 = .ok (.iload_n 2, 1) := by decide +kernel
theorem d17 : decode yB 17 = .ok (.if_icmp (.eq) 40, 3) := by decide +kernel
theorem d57 : decode yB 57 = .ok (.aload_n 3, 1) := by decide +kernel
theorem d58 : decode yB 58 = .ok (.areturn, 1) := by decide +kernel
def site : List Cond := [.arrayClass .byte, Cmp5.tab] ++ staticW U16 115 Cmp5.yN
def tab : Cond := tabOf yN yB 6 (some (.array .byte)) site
def P (b : Addr) (A : Cell) (o len : Nat) (args : Array Value) (s : State) : Prop := args = #[.ref b, .int (Int32.ofNat o), .int (Int32.ofNat len)] ∧ Ch b A s ∧ o + len ≤ A.slots.size ∧ len ≤ 536870912 ∧ ∀ i, i < len → ¬ 255 < cv A (o + i)
def E (b : Addr) (A : Cell) (o len : Nat) (r : Option Value) (s u : State) : Prop := NewArr .byte "[B" len (fun j => .int (lo8 (cv A (o + j)))) r s u ∧ u.heap.size = s.heap.size + 1
/-- no char of the range above 255: a new byte[] of their low bytes -/
theorem law (l : Launch) (b : Addr) (A : Cell) (o len : Nat) : Law l yN 3 3 1 18 yB 6 (some (.array .byte)) site (P b A o len) (E b A o len) [] 1 len := by
  refine Law.of_walk (plainFor_of_name (by decide +kernel)) (by decide +kernel) (by decide +kernel) (by decide) (fun _ _ h => by rw [h.1]; rfl) (fun _ U U' hal hh h => ⟨h.1, h.2.1.mv hal hh, h.2.2⟩) (fun r U U' V V' h1 hal h2 h => ⟨NewArr.mv r U U' V V' h1 hal h2 h.1, by rw [h1, h2]; exact h.2⟩) ?_
  intro p e s m args below meth c s₁ X0 hexec hbytes hml hret hlk hnm hown hh0 W hP
  obtain ⟨rfl, hA, l1, l2, hp⟩ := hP
  have a31 := hA.1.2.2.2
  have c1 : Steps p.tables e below (s₁.setTop (entryFrame m #[.ref b, .int (Int32.ofNat o), .int (Int32.ofNat len)] 6)) (s₁.setTop (mkF m 0 #[.val (.ref b), .val (.int (Int32.ofNat o)), .val (.int (Int32.ofNat len)), .unset, .unset, .unset] [])) := entry rfl
  have c2 : Steps p.tables e below (s₁.setTop (entryFrame m #[.ref b, .int (Int32.ofNat o), .int (Int32.ofNat len)] 6)) (s₁.setTop (mkF m 1 #[.val (.ref b), .val (.int (Int32.ofNat o)), .val (.int (Int32.ofNat len)), .unset, .unset, .unset] [.int (Int32.ofNat len)])) := c1.trans (by
    refine XS.iloadN X0.here hexec rfl (hb hbytes d0) rfl ?_
    exact Steps.refl _)
  obtain ⟨T3, B3, X3, ba3, bs3, bv3, bh3, bf3, st3⟩ := X0.anew hexec (atype := .byte) (wk W (.arrayClass .byte)) rfl (by show len * 1 ≤ _; omega) (by omega) (g := (mkF m 1 #[.val (.ref b), .val (.int (Int32.ofNat o)), .val (.int (Int32.ofNat len)), .unset, .unset, .unset] [.int (Int32.ofNat len)])) rfl (hb hbytes d1) (rest := []) rfl (Nat.le_refl _) (by show 0 + len ≤ len; omega)
  rw [hh0] at ba3 st3
  have kp3 : XT.Kept s T3 := (XT.Kept.of_eq hh0).push bh3
  have hA3 := hA.keep X3.warmed.alike (kp3 _ _ hA.1.1)
  have hne : b ≠ s.heap.size := hA.1.ne
  have c4 : Steps p.tables e below (s₁.setTop (entryFrame m #[.ref b, .int (Int32.ofNat o), .int (Int32.ofNat len)] 6)) (T3.setTop (mkF m 3 #[.val (.ref b), .val (.int (Int32.ofNat o)), .val (.int (Int32.ofNat len)), .unset, .unset, .unset] [.ref s.heap.size])) := c2.trans (st3 _ (Steps.refl _))
  have c5 : Steps p.tables e below (s₁.setTop (entryFrame m #[.ref b, .int (Int32.ofNat o), .int (Int32.ofNat len)] 6)) (T3.setTop (mkF m 9 #[.val (.ref b), .val (.int (Int32.ofNat o)), .val (.int (Int32.ofNat len)), .val (.ref s.heap.size), .unset, .unset] [.int (Int32.ofNat len), .int 0, .ref s.heap.size, .int (Int32.ofNat o), .ref b])) := c4.trans (by
    refine XS.astoreN X3.here hexec rfl (hb hbytes d3) rfl rfl rfl ?_
    refine XS.aloadN X3.here hexec rfl (hb hbytes d4) rfl rfl ?_
    refine XS.iloadN X3.here hexec rfl (hb hbytes d5) rfl ?_
    refine XS.aloadN X3.here hexec rfl (hb hbytes d6) rfl rfl ?_
    refine iconstV X3.here hexec rfl 0 (hb hbytes d7) (by decide) ?_
    refine XS.iloadN X3.here hexec rfl (hb hbytes d8) rfl ?_
    exact Steps.refl _)
  obtain ⟨v6, T6, X6, E6, g6⟩ := X3.callS hexec (Cmp5.law l b A s.heap.size B3 o 0 len) hown (wks W (staticW U16 115 Cmp5.yN)) (wk W Cmp5.tab) (W := 0) (Nat.le_of_ble_eq_true rfl) (Nat.le_of_ble_eq_true rfl) (Nat.le_refl _) (by show 0 + len + 0 ≤ len; omega) (g := (mkF m 9 #[.val (.ref b), .val (.int (Int32.ofNat o)), .val (.int (Int32.ofNat len)), .val (.ref s.heap.size), .unset, .unset] [.int (Int32.ofNat len), .int (Int32.ofNat 0), .ref s.heap.size, .int (Int32.ofNat o), .ref b])) rfl (by rw [hml]; rfl) c5 (argsL := [.ref b, .int (Int32.ofNat o), .ref s.heap.size, .int (Int32.ofNat 0), .int (Int32.ofNat len)]) (rest := []) rfl rfl (by show 2 * 0 + 0 ≤ _; decide) (hb hbytes d9) (⟨rfl, hA3, ba3, hne, l1, by rw [bs3]; simp, hp⟩)
  obtain ⟨rfl, B6, p6, f6⟩ := E6
  have c7 : Steps p.tables e below (s₁.setTop (entryFrame m #[.ref b, .int (Int32.ofNat o), .int (Int32.ofNat len)] 6)) (T6.setTop (mkF m 12 #[.val (.ref b), .val (.int (Int32.ofNat o)), .val (.int (Int32.ofNat len)), .val (.ref s.heap.size), .unset, .unset] [.int (Int32.ofNat len)])) := g6
  have c8 : Steps p.tables e below (s₁.setTop (entryFrame m #[.ref b, .int (Int32.ofNat o), .int (Int32.ofNat len)] 6)) (T6.setTop (mkF m 58 #[.val (.ref b), .val (.int (Int32.ofNat o)), .val (.int (Int32.ofNat len)), .val (.ref s.heap.size), .val (.int (Int32.ofNat len)), .unset] [.ref s.heap.size])) := c7.trans (by
    refine XS.istore X6.here hexec rfl (hb hbytes d12) rfl rfl ?_
    refine XS.iload X6.here hexec rfl (hb hbytes d14) rfl ?_
    refine XS.iloadN X6.here hexec rfl (hb hbytes d16) rfl ?_
    refine XS.icmpYes X6.here hexec rfl (pc0 := 17) rfl (hb hbytes d17) rfl (ii_eq_t rfl) (by decide) rfl ?_
    refine XS.aloadN X6.here hexec rfl (hb hbytes d57) rfl rfl ?_
    exact Steps.refl _)
  have X8 := X6.wide (L' := []) (cells' := 1) (slots' := len) (fun x hx hlt => by
    simp only [List.nil_append, copyLocs, List.mem_map, List.mem_range] at hx
    obtain ⟨i, -, rfl⟩ := hx
    exact absurd hlt (Nat.lt_irrefl _)) (Nat.le_refl _) (by omega)
  exact ⟨T6, some (.ref s.heap.size), _, _, _, X8, rfl, rfl, rfl, (fun h => by cases h), ⟨⟨rfl, B6, ba3.like (X3.warmed.alike.symm.trans X6.warmed.alike) p6.1 f6.1 f6.2.1 f6.2.2.1, f6.2.1.trans bv3, by rw [X6.warmed.alike.findClass, f6.1]; exact bf3, by rw [f6.2.2.1, bs3]; simp, fun j hj => by rw [f6.2.2.2 j, if_pos (by omega)]; rfl, kp3.put p6 (Nat.le_refl _)⟩, by rw [p6.2.2, bh3, hh0]; simp⟩, fun fs hl => c8.trans (X8.areturnOut hexec rfl hret rfl (hb hbytes d58) hl)⟩
end Cmp3
namespace CodL
def yN : MethodName := ⟨"java/lang/StringUTF16", "coderFromArrayLen", "([BI)B"⟩
abbrev yB : ByteArray := jdk_52_method_15_code
theorem d0 : decode yB 0 = .ok (.iload_n 1, 1) := by decide +kernel
theorem d1 : decode yB 1 = .ok (.aload_n 0, 1) := by decide +kernel
theorem d2 : decode yB 2 = .ok (.arraylength, 1) := by decide +kernel
theorem d3 : decode yB 3 = .ok (.isub, 1) := by decide +kernel
theorem d4 : decode yB 4 = .ok (.bipush 31, 2) := by decide +kernel
theorem d6 : decode yB 6 = .ok (.iushr, 1) := by decide +kernel
theorem d7 : decode yB 7 = .ok (.i2b, 1) := by decide +kernel
theorem d8 : decode yB 8 = .ok (.ireturn, 1) := by decide +kernel
def site : List Cond := []
def tab : Cond := tabOf yN yB 2 (some .byte) site
def P (d : Addr) (B : Cell) (args : Array Value) (s : State) : Prop := args = #[.ref d, .int (Int32.ofNat B.slots.size)] ∧ Arr .byte d B s
def E (r : Option Value) (s u : State) : Prop := XT.PureE (some (.int 0)) r s u
/-- an array as long as the number of chars: LATIN1 -/
theorem law (l : Launch) (d : Addr) (B : Cell) : Law l yN 2 2 0 0 yB 2 (some .byte) site (P d B) E [] 0 0 := by
  refine Law.of_walk (plainFor_of_name (by decide +kernel)) (by decide +kernel) (by decide +kernel) (by decide) (fun _ _ h => by rw [h.1]; rfl) (fun _ U U' hal hh h => ⟨h.1, h.2.mv hal hh⟩) (fun r U U' V V' h1 hal h2 h => XT.PureE.mv r U U' V V' h1 hal h2 h) ?_
  intro p e s m args below meth c s₁ X0 hexec hbytes hml hret hlk hnm hown hh0 W hP
  obtain ⟨rfl, hB⟩ := hP
  have hB0 := hB.mv X0.warmed.alike hh0
  have c1 : Steps p.tables e below (s₁.setTop (entryFrame m #[.ref d, .int (Int32.ofNat B.slots.size)] 2)) (s₁.setTop (mkF m 0 #[.val (.ref d), .val (.int (Int32.ofNat B.slots.size))] [])) := entry rfl
  have c2 : Steps p.tables e below (s₁.setTop (entryFrame m #[.ref d, .int (Int32.ofNat B.slots.size)] 2)) (s₁.setTop (mkF m 2 #[.val (.ref d), .val (.int (Int32.ofNat B.slots.size))] [.ref d, .int (Int32.ofNat B.slots.size)])) := c1.trans (by
    refine XS.iloadN X0.here hexec rfl (hb hbytes d0) rfl ?_
    refine XS.aloadN X0.here hexec rfl (hb hbytes d1) rfl rfl ?_
    exact Steps.refl _)
  have c3 : Steps p.tables e below (s₁.setTop (entryFrame m #[.ref d, .int (Int32.ofNat B.slots.size)] 2)) (s₁.setTop (mkF m 8 #[.val (.ref d), .val (.int (Int32.ofNat B.slots.size))] [.int (lo8 (ushr (Int32.ofNat B.slots.size - Int32.ofNat B.slots.size) 31))])) := c2.trans (by
    refine X0.alen hexec hB0 rfl rfl (hb hbytes d2) ?_
    refine XS.isub X0.here hexec rfl (hb hbytes d3) rfl ?_
    refine bipushV X0.here hexec rfl 31 (hb hbytes d4) (by decide) ?_
    refine iushr X0.here hexec rfl (hb hbytes d6) rfl ?_
    refine i2b X0.here hexec rfl (hb hbytes d7) rfl ?_
    exact Steps.refl _)
  have e0 : lo8 (ushr (Int32.ofNat B.slots.size - Int32.ofNat B.slots.size) 31) = 0 := by rw [Int32.sub_self]; decide
  rw [e0] at c3
  exact ⟨s₁, some (.int 0), _, _, _, X0, rfl, rfl, rfl, (fun h => by cases h), ⟨rfl, hh0⟩, fun fs hl => c3.trans (X0.ireturnOut hexec hret rfl (Or.inr (Or.inr (Or.inl rfl))) (hb hbytes d8) hl)⟩
end CodL
/-- the String at a is Latin-1 over a new byte[] (the heap's one new cell): the low bytes of the len chars of A from o on; every cell but a is kept -/
def Got (a : Addr) (D : Cell) (fV fC : Field) (A : Cell) (o len : Nat) (r : Option Value) (s u : State) : Prop := r = none ∧ ∃ D' V : Cell, Blank "java/lang/String" a D' u ∧ Same D D' [fV.slot, fC.slot] ∧ D'.slots[fV.slot]? = some (.ref s.heap.size) ∧ D'.slots[fC.slot]? = some (.int 0) ∧ Arr .byte s.heap.size V u ∧ V.vm = .none ∧ u.vm.findClass "[B" = some V.cls ∧ V.slots.size = len ∧ (∀ j, j < len → V.slots[j]? = some (.int (lo8 (cv A (o + j))))) ∧ (∀ (y : Addr) (c : Cell), y ≠ a → s.heap[y]? = some c → u.heap[y]? = some c) ∧ u.heap.size = s.heap.size + 1
theorem Got.mv {a : Addr} {D A : Cell} {fV fC : Field} {o len : Nat} : ∀ r (U U' V V' : State), U'.heap = U.heap → V.vm.Alike V'.vm → V'.heap = V.heap → Got a D fV fC A o len r U V → Got a D fV fC A o len r U' V' :=
  fun r U U' V V' h1 hal h2 ⟨e0, D', X, a1, a2, a3, a4, a5, a6, a7, a8, a9, a10, a11⟩ => ⟨e0, D', X, a1.mv hal h2, a2, by rw [h1]; exact a3, a4, by rw [h1]; exact a5.mv hal h2, a6, by rw [hal.findClass]; exact a7, a8, a9, by rw [h1, h2]; exact a10, by rw [h1, h2]; exact a11⟩
namespace New4
def yN : MethodName := ⟨"java/lang/String", "<init>", "([CIILjava/lang/Void;)V"⟩
abbrev yB : ByteArray := jdk_42_method_149_code
theorem d0 : decode yB 0 = .ok (.aload_n 0, 1) := by decide +kernel
theorem d1 : decode yB 1 = .ok (.invokespecial 1, 3) := by decide +kernel
theorem d4 : decode yB 4 = .ok (.iload_n 3, 1) := by decide +kernel
theorem d5 : decode yB 5 = .ok (.ifCond (.ne) 22, 3) := by decide +kernel
theorem d27 : decode yB 27 = .ok (.getstatic 38, 3) := by decide +kernel
theorem d30 : decode yB 30 = .ok (.ifCond (.eq) 28, 3) := by decide +kernel
theorem d33 : decode yB 33 = .ok (.aload_n 1, 1) := by decide +kernel
theorem d34 : decode yB 34 = .ok (.iload_n 2, 1) := by decide +kernel
theorem d35 : decode yB 35 = .ok (.iload_n 3, 1) := by decide +kernel
theorem d36 : decode yB 36 = .ok (.invokestatic 177, 3) := by decide +kernel
theorem d39 : decode yB 39 = .ok (.astore 5, 2) := by decide +kernel
theorem d41 : decode yB 41 = .ok (.aload_n 0, 1) := by decide +kernel
theorem d42 : decode yB 42 = .ok (.aload 5, 2) := by decide +kernel
theorem d44 : decode yB 44 = .ok (.iload_n 3, 1) := by decide +kernel
theorem d45 : decode yB 45 = .ok (.invokestatic 47, 3) := by decide +kernel
theorem d48 : decode yB 48 = .ok (.putfield 15, 3) := by decide +kernel
theorem d51 : decode yB 51 = .ok (.aload_n 0, 1) := by decide +kernel
theorem d52 : decode yB 52 = .ok (.aload 5, 2) := by decide +kernel
theorem d54 : decode yB 54 = .ok (.putfield 9, 3) := by decide +kernel
theorem d57 : decode yB 57 = .ok (.return_, 1) := by decide +kernel
def site : List Cond := [.fieldLink "java/lang/String" 38 "java/lang/String" "COMPACT_STRINGS" "Z", Cmp3.tab, CodL.tab, .laysFinal "java/lang/String" "java/lang/String" "value" "[B", .fieldLink "java/lang/String" 9 "java/lang/String" "value" "[B", .laysFinal "java/lang/String" "java/lang/String" "coder" "B", .fieldLink "java/lang/String" 15 "java/lang/String" "coder" "B"] ++ objW "java/lang/String" 1 ++ staticW "java/lang/String" 177 Cmp3.yN ++ staticW "java/lang/String" 47 CodL.yN
def tab : Cond := tabOf yN yB 6 none site
def P (a : Addr) (D : Cell) (fV fC : Field) (b : Addr) (A : Cell) (z : Int32) (o len : Nat) (args : Array Value) (s : State) : Prop := args = #[.ref a, .ref b, .int (Int32.ofNat o), .int (Int32.ofNat len), .null] ∧ Blank "java/lang/String" a D s ∧ Found "java/lang/String" "value" "[B" fV s ∧ Found "java/lang/String" "coder" "B" fC s ∧ Ch b A s ∧ StaticIs s "java/lang/String" "COMPACT_STRINGS" "Z" (.int z) ∧ ¬ z = 0 ∧ 0 < len ∧ o + len ≤ A.slots.size ∧ len ≤ 536870912 ∧ ∀ i, i < len → ¬ 255 < cv A (o + i)
def E (a : Addr) (D : Cell) (fV fC : Field) (A : Cell) (o len : Nat) (r : Option Value) (s u : State) : Prop := Got a D fV fC A o len r s u
/-- len > 0, no char of the range above 255: a Latin-1 String of their low bytes -/
theorem law (l : Launch) (a : Addr) (D : Cell) (fV fC : Field) (b : Addr) (A : Cell) (z : Int32) (o len : Nat) : Law l yN 5 4 2 35 yB 6 none site (P a D fV fC b A z o len) (E a D fV fC A o len) [⟨a, fC.slot⟩, ⟨a, fV.slot⟩] 1 len := by
  refine Law.of_walk (plainFor_of_name (by decide +kernel)) (by decide +kernel) (by decide +kernel) (by decide) (fun _ _ h => by rw [h.1]; rfl) (fun _ U U' hal hh h => ⟨h.1, h.2.1.mv hal hh, h.2.2.1.al hal, h.2.2.2.1.al hal, h.2.2.2.2.1.mv hal hh, h.2.2.2.2.2.1.there hal hh, h.2.2.2.2.2.2⟩) (fun r U U' V V' h1 hal h2 h => Got.mv r U U' V V' h1 hal h2 h) ?_
  intro p e s m args below meth c s₁ X0 hexec hbytes hml hret hlk hnm hown hh0 W hP
  obtain ⟨rfl, hB, f1, f2, hA, s1, hz, l0, l1, l2, hp⟩ := hP
  have a31 := hA.1.2.2.2
  have c1 : Steps p.tables e below (s₁.setTop (entryFrame m #[.ref a, .ref b, .int (Int32.ofNat o), .int (Int32.ofNat len), .null] 6)) (s₁.setTop (mkF m 0 #[.val (.ref a), .val (.ref b), .val (.int (Int32.ofNat o)), .val (.int (Int32.ofNat len)), .val .null, .unset] [])) := entry rfl
  have c2 : Steps p.tables e below (s₁.setTop (entryFrame m #[.ref a, .ref b, .int (Int32.ofNat o), .int (Int32.ofNat len), .null] 6)) (s₁.setTop (mkF m 1 #[.val (.ref a), .val (.ref b), .val (.int (Int32.ofNat o)), .val (.int (Int32.ofNat len)), .val .null, .unset] [.ref a])) := c1.trans (by
    refine XS.aloadN X0.here hexec rfl (hb hbytes d0) rfl rfl ?_
    exact Steps.refl _)
  obtain ⟨T3, X3, q3, st3⟩ := X0.oinit hexec hown (wks W (objW "java/lang/String" 1)) (g := (mkF m 1 #[.val (.ref a), .val (.ref b), .val (.int (Int32.ofNat o)), .val (.int (Int32.ofNat len)), .val .null, .unset] [.ref a])) rfl (by rw [hml]; rfl) (rest := []) rfl (hb hbytes d1) (W := 0) (by show 2 * 0 + 0 ≤ _; decide) (Nat.le_of_ble_eq_true rfl) (Nat.le_of_ble_eq_true rfl)
  have hh3 := q3.trans hh0
  have c4 : Steps p.tables e below (s₁.setTop (entryFrame m #[.ref a, .ref b, .int (Int32.ofNat o), .int (Int32.ofNat len), .null] 6)) (T3.setTop (mkF m 27 #[.val (.ref a), .val (.ref b), .val (.int (Int32.ofNat o)), .val (.int (Int32.ofNat len)), .val .null, .unset] [])) := (c2.trans (st3 _ (Steps.refl _))).trans (by
    refine XS.iloadN X3.here hexec rfl (hb hbytes d4) rfl ?_
    refine XS.ifYes X3.here hexec rfl (pc0 := 5) rfl (hb hbytes d5) rfl (i0_ne_t (nz32 (by omega) l0)) (by decide) rfl ?_
    exact Steps.refl _)
  obtain ⟨T5, X5, q5, st5⟩ := X3.sget hexec hown (wk W (.fieldLink "java/lang/String" 38 "java/lang/String" "COMPACT_STRINGS" "Z")) s1 (fun _ _ h => by rw [hh3]; exact h) (g := (mkF m 27 #[.val (.ref a), .val (.ref b), .val (.int (Int32.ofNat o)), .val (.int (Int32.ofNat len)), .val .null, .unset] [])) rfl (hb hbytes d27)
  have hh5 := q5.trans hh3
  have c6 : Steps p.tables e below (s₁.setTop (entryFrame m #[.ref a, .ref b, .int (Int32.ofNat o), .int (Int32.ofNat len), .null] 6)) (T5.setTop (mkF m 30 #[.val (.ref a), .val (.ref b), .val (.int (Int32.ofNat o)), .val (.int (Int32.ofNat len)), .val .null, .unset] [.int z])) := c4.trans (st5 _ (Steps.refl _))
  have c7 : Steps p.tables e below (s₁.setTop (entryFrame m #[.ref a, .ref b, .int (Int32.ofNat o), .int (Int32.ofNat len), .null] 6)) (T5.setTop (mkF m 36 #[.val (.ref a), .val (.ref b), .val (.int (Int32.ofNat o)), .val (.int (Int32.ofNat len)), .val .null, .unset] [.int (Int32.ofNat len), .int (Int32.ofNat o), .ref b])) := c6.trans (by
    refine XS.ifNo X5.here hexec rfl (hb hbytes d30) rfl (i0_eq_f hz) ?_
    refine XS.aloadN X5.here hexec rfl (hb hbytes d33) rfl rfl ?_
    refine XS.iloadN X5.here hexec rfl (hb hbytes d34) rfl ?_
    refine XS.iloadN X5.here hexec rfl (hb hbytes d35) rfl ?_
    exact Steps.refl _)
  obtain ⟨v8, T8, X8, E8, g8⟩ := X5.callS hexec (Cmp3.law l b A o len) hown (wks W (staticW "java/lang/String" 177 Cmp3.yN)) (wk W Cmp3.tab) (W := 0) (Nat.le_of_ble_eq_true rfl) (Nat.le_of_ble_eq_true rfl) (Nat.le_refl _) (by show 0 + len ≤ len; omega) (g := (mkF m 36 #[.val (.ref a), .val (.ref b), .val (.int (Int32.ofNat o)), .val (.int (Int32.ofNat len)), .val .null, .unset] [.int (Int32.ofNat len), .int (Int32.ofNat o), .ref b])) rfl (by rw [hml]; rfl) c7 (argsL := [.ref b, .int (Int32.ofNat o), .int (Int32.ofNat len)]) (rest := []) rfl rfl (by show 2 * 0 + 0 ≤ _; decide) (hb hbytes d36) (⟨rfl, hA.mv X5.warmed.alike hh5, l1, l2, hp⟩)
  obtain ⟨e8, z8⟩ := E8
  obtain ⟨rfl, N, n1, n2, n3, n4, n5, n6⟩ := NewArr.mv _ T5 s _ _ hh5.symm (Vm.Alike.refl _) rfl e8
  rw [hh5] at z8
  have hB1 := hB.keep X8.warmed.alike (n6 _ _ hB.1)
  have hne : s.heap.size ≠ a := (Nat.ne_of_lt (Array.getElem?_eq_some_iff.mp hB.1).1).symm
  have c9 : Steps p.tables e below (s₁.setTop (entryFrame m #[.ref a, .ref b, .int (Int32.ofNat o), .int (Int32.ofNat len), .null] 6)) (T8.setTop (mkF m 39 #[.val (.ref a), .val (.ref b), .val (.int (Int32.ofNat o)), .val (.int (Int32.ofNat len)), .val .null, .unset] [.ref s.heap.size])) := g8
  have c10 : Steps p.tables e below (s₁.setTop (entryFrame m #[.ref a, .ref b, .int (Int32.ofNat o), .int (Int32.ofNat len), .null] 6)) (T8.setTop (mkF m 45 #[.val (.ref a), .val (.ref b), .val (.int (Int32.ofNat o)), .val (.int (Int32.ofNat len)), .val .null, .val (.ref s.heap.size)] [.int (Int32.ofNat N.slots.size), .ref s.heap.size, .ref a])) := by
    have hc : Steps p.tables e below (s₁.setTop (entryFrame m #[.ref a, .ref b, .int (Int32.ofNat o), .int (Int32.ofNat len), .null] 6)) (T8.setTop (mkF m 45 #[.val (.ref a), .val (.ref b), .val (.int (Int32.ofNat o)), .val (.int (Int32.ofNat len)), .val .null, .val (.ref s.heap.size)] [.int (Int32.ofNat len), .ref s.heap.size, .ref a])) := c9.trans (by
      refine XS.astore X8.here hexec rfl (hb hbytes d39) rfl rfl rfl ?_
      refine XS.aloadN X8.here hexec rfl (hb hbytes d41) rfl rfl ?_
      refine XS.aload X8.here hexec rfl (hb hbytes d42) rfl rfl ?_
      refine XS.iloadN X8.here hexec rfl (hb hbytes d44) rfl ?_
      exact Steps.refl _)
    rw [n4]; exact hc
  obtain ⟨v11, T11, X11, E11, g11⟩ := X8.callS hexec (CodL.law l s.heap.size N) hown (wks W (staticW "java/lang/String" 47 CodL.yN)) (wk W CodL.tab) (W := 1) (Nat.le_of_ble_eq_true rfl) (Nat.le_of_ble_eq_true rfl) (Nat.le_refl _) (by show 0 + len + 0 ≤ len; omega) (g := (mkF m 45 #[.val (.ref a), .val (.ref b), .val (.int (Int32.ofNat o)), .val (.int (Int32.ofNat len)), .val .null, .val (.ref s.heap.size)] [.int (Int32.ofNat N.slots.size), .ref s.heap.size, .ref a])) rfl (by rw [hml]; rfl) c10 (argsL := [.ref s.heap.size, .int (Int32.ofNat N.slots.size)]) (rest := [.ref a]) rfl rfl (by show 2 * 0 + (1 + 0) ≤ _; decide) (hb hbytes d45) (⟨rfl, n1⟩)
  obtain ⟨rfl, q11⟩ := E11
  have hB11 := hB1.mv (X8.warmed.alike.symm.trans X11.warmed.alike) q11
  have c12 : Steps p.tables e below (s₁.setTop (entryFrame m #[.ref a, .ref b, .int (Int32.ofNat o), .int (Int32.ofNat len), .null] 6)) (T11.setTop (mkF m 48 #[.val (.ref a), .val (.ref b), .val (.int (Int32.ofNat o)), .val (.int (Int32.ofNat len)), .val .null, .val (.ref s.heap.size)] [.int 0, .ref a])) := g11
  obtain ⟨T13, X13, p13, bl13, sl13, st13⟩ := X11.finit hexec hown (wk W (.fieldLink "java/lang/String" 15 "java/lang/String" "coder" "B")) (Or.inr ⟨_, (wk W (.laysFinal "java/lang/String" "java/lang/String" "coder" "B"))⟩) (Or.inl ⟨rfl, hnm⟩) f2 (Or.inl rfl) hB11 (t := .byte) (by decide +kernel) rfl (g := (mkF m 48 #[.val (.ref a), .val (.ref b), .val (.int (Int32.ofNat o)), .val (.int (Int32.ofNat len)), .val .null, .val (.ref s.heap.size)] [.int 0, .ref a])) rfl (rest := []) rfl (hb hbytes d48)
  have c14 : Steps p.tables e below (s₁.setTop (entryFrame m #[.ref a, .ref b, .int (Int32.ofNat o), .int (Int32.ofNat len), .null] 6)) (T13.setTop (mkF m 54 #[.val (.ref a), .val (.ref b), .val (.int (Int32.ofNat o)), .val (.int (Int32.ofNat len)), .val .null, .val (.ref s.heap.size)] [.ref s.heap.size, .ref a])) := (c12.trans (st13 _ (Steps.refl _))).trans (by
    refine XS.aloadN X13.here hexec rfl (hb hbytes d51) rfl rfl ?_
    refine XS.aload X13.here hexec rfl (hb hbytes d52) rfl rfl ?_
    exact Steps.refl _)
  obtain ⟨T15, X15, p15, bl15, sl15, st15⟩ := X13.finit hexec hown (wk W (.fieldLink "java/lang/String" 9 "java/lang/String" "value" "[B")) (Or.inr ⟨_, (wk W (.laysFinal "java/lang/String" "java/lang/String" "value" "[B"))⟩) (Or.inl ⟨rfl, hnm⟩) f1 (Or.inl rfl) bl13 (t := (.array .byte)) (by decide +kernel) rfl (g := (mkF m 54 #[.val (.ref a), .val (.ref b), .val (.int (Int32.ofNat o)), .val (.int (Int32.ofNat len)), .val .null, .val (.ref s.heap.size)] [.ref s.heap.size, .ref a])) rfl (rest := []) rfl (hb hbytes d54)
  have c16 : Steps p.tables e below (s₁.setTop (entryFrame m #[.ref a, .ref b, .int (Int32.ofNat o), .int (Int32.ofNat len), .null] 6)) (T15.setTop (mkF m 57 #[.val (.ref a), .val (.ref b), .val (.int (Int32.ofNat o)), .val (.int (Int32.ofNat len)), .val .null, .val (.ref s.heap.size)] [])) := c14.trans (st15 _ (Steps.refl _))
  have ap := apart (Or.inr ⟨_, (wk W (.laysFinal "java/lang/String" "java/lang/String" "value" "[B"))⟩) (Or.inr ⟨_, (wk W (.laysFinal "java/lang/String" "java/lang/String" "coder" "B"))⟩) f1 f2 (t₁ := .array .byte) (t₂ := .byte) (by decide +kernel) (by decide +kernel) (by decide)
  have al := X8.warmed.alike.symm.trans X15.warmed.alike
  have n7 : T11.heap[s.heap.size]? = some N := by rw [q11]; exact n1.1
  exact ⟨T15, none, _, _, _, X15, by simp, rfl, by omega, (fun _ => rfl), ⟨rfl, _, N, bl15, ((Same.refl D _).set _ (by simp)).set _ (by simp), sl15, (Cell.slots_setSlot_ne _ ap).trans sl13, n1.keep al (p15.other hne (p13.other hne n7)), n2, by rw [al.findClass]; exact n3, n4, n5, fun y c h1 h2 => p15.other h1 (p13.other h1 (by rw [q11]; exact n6 y c h2)), by rw [p15.2.2, p13.2.2, q11]; exact z8⟩, fun fs hl => c16.trans (X15.returnOut hexec hret (hb hbytes d57) hl)⟩
end New4
namespace New1
def yN : MethodName := ⟨"java/lang/String", "<init>", "([C)V"⟩
abbrev yB : ByteArray := jdk_42_method_3_code
theorem d0 : decode yB 0 = .ok (.aload_n 0, 1) := by decide +kernel
theorem d1 : decode yB 1 = .ok (.aload_n 1, 1) := by decide +kernel
theorem d2 : decode yB 2 = .ok (.iconst 0, 1) := by decide +kernel
theorem d3 : decode yB 3 = .ok (.aload_n 1, 1) := by decide +kernel
theorem d4 : decode yB 4 = .ok (.arraylength, 1) := by decide +kernel
theorem d5 : decode yB 5 = .ok (.aconst_null, 1) := by decide +kernel
theorem d6 : decode yB 6 = .ok (.invokespecial 27, 3) := by decide +kernel
theorem d9 : decode yB 9 = .ok (.return_, 1) := by decide +kernel
def site : List Cond := [New4.tab] ++ initW "java/lang/String" 27 New4.yN
def tab : Cond := tabOf yN yB 2 none site
def P (a : Addr) (D : Cell) (fV fC : Field) (b : Addr) (A : Cell) (z : Int32) (args : Array Value) (s : State) : Prop := args = #[.ref a, .ref b] ∧ Blank "java/lang/String" a D s ∧ Found "java/lang/String" "value" "[B" fV s ∧ Found "java/lang/String" "coder" "B" fC s ∧ Ch b A s ∧ StaticIs s "java/lang/String" "COMPACT_STRINGS" "Z" (.int z) ∧ ¬ z = 0 ∧ 0 < A.slots.size ∧ A.slots.size ≤ 536870912 ∧ ∀ i, i < A.slots.size → ¬ 255 < cv A i
def E (a : Addr) (D : Cell) (fV fC : Field) (A : Cell) (r : Option Value) (s u : State) : Prop := Got a D fV fC A 0 A.slots.size r s u
/-- new String(chars), not empty, no char above 255: a Latin-1 String of their low bytes -/
theorem law (l : Launch) (a : Addr) (D : Cell) (fV fC : Field) (b : Addr) (A : Cell) (z : Int32) : Law l yN 2 1 3 52 yB 2 none site (P a D fV fC b A z) (E a D fV fC A) [⟨a, fC.slot⟩, ⟨a, fV.slot⟩] 1 A.slots.size := by
  refine Law.of_walk (plainFor_of_name (by decide +kernel)) (by decide +kernel) (by decide +kernel) (by decide) (fun _ _ h => by rw [h.1]; rfl) (fun _ U U' hal hh h => ⟨h.1, h.2.1.mv hal hh, h.2.2.1.al hal, h.2.2.2.1.al hal, h.2.2.2.2.1.mv hal hh, h.2.2.2.2.2.1.there hal hh, h.2.2.2.2.2.2⟩) (fun r U U' V V' h1 hal h2 h => Got.mv r U U' V V' h1 hal h2 h) ?_
  intro p e s m args below meth c s₁ X0 hexec hbytes hml hret hlk hnm hown hh0 W hP
  obtain ⟨rfl, hB, f1, f2, hA, s1, hz, l0, l2, hp⟩ := hP
  have c1 : Steps p.tables e below (s₁.setTop (entryFrame m #[.ref a, .ref b] 2)) (s₁.setTop (mkF m 0 #[.val (.ref a), .val (.ref b)] [])) := entry rfl
  have c2 : Steps p.tables e below (s₁.setTop (entryFrame m #[.ref a, .ref b] 2)) (s₁.setTop (mkF m 6 #[.val (.ref a), .val (.ref b)] [.null, .int (Int32.ofNat A.slots.size), .int 0, .ref b, .ref a])) := c1.trans (by
    refine XS.aloadN X0.here hexec rfl (hb hbytes d0) rfl rfl ?_
    refine XS.aloadN X0.here hexec rfl (hb hbytes d1) rfl rfl ?_
    refine iconstV X0.here hexec rfl 0 (hb hbytes d2) (by decide) ?_
    refine XS.aloadN X0.here hexec rfl (hb hbytes d3) rfl rfl ?_
    refine X0.alen hexec (hA.1.mv X0.warmed.alike hh0) rfl rfl (hb hbytes d4) ?_
    refine XS.aconstNull X0.here hexec rfl (hb hbytes d5) ?_
    exact Steps.refl _)
  obtain ⟨v3, T3, X3, E3, g3⟩ := X0.callN hexec (New4.law l a D fV fC b A z 0 A.slots.size) rfl hown (wks W (initW "java/lang/String" 27 New4.yN)) (W New4.tab (by simp only [site, List.mem_cons, List.mem_append, true_or, or_true])) (W := 0) (Nat.le_of_ble_eq_true rfl) (Nat.le_of_ble_eq_true rfl) (Nat.le_refl _) (by show 0 + A.slots.size ≤ A.slots.size; omega) (g := (mkF m 6 #[.val (.ref a), .val (.ref b)] [.null, .int (Int32.ofNat A.slots.size), .int (Int32.ofNat 0), .ref b, .ref a])) rfl (by rw [hml]; rfl) c2 (argsL := [.ref b, .int (Int32.ofNat 0), .int (Int32.ofNat A.slots.size), .null]) (rest := []) rfl rfl (by show 2 * 0 + 0 ≤ _; decide) (hb hbytes d6) (⟨rfl, hB.mv X0.warmed.alike hh0, f1.al X0.warmed.alike, f2.al X0.warmed.alike, hA.mv X0.warmed.alike hh0, s1.there X0.warmed.alike hh0, hz, l0, by omega, l2, fun i hi => by rw [Nat.zero_add]; exact hp i hi⟩)
  have e0 := Got.mv _ s₁ s _ _ hh0.symm (Vm.Alike.refl _) rfl E3
  obtain rfl := e0.1
  have c4 : Steps p.tables e below (s₁.setTop (entryFrame m #[.ref a, .ref b] 2)) (T3.setTop (mkF m 9 #[.val (.ref a), .val (.ref b)] [])) := g3
  exact ⟨T3, none, _, _, _, X3, by simp, rfl, by omega, (fun _ => rfl), e0, fun fs hl => c4.trans (X3.returnOut hexec hret (hb hbytes d9) hl)⟩
theorem pays {l : Launch} {R : Room} {p : Program} {e : Env} {below : List Frame} {s : State} {sargs : Array Value} {len W : Nat} (a : Addr) (D : Cell) (fV fC : Field) (b : Addr) (A : Cell) (z : Int32) (htab : tab.before sargs s = true) (hfr : 4 ≤ R.frames) (hlo : W + 65 ≤ R.locals) :
    Back l R p e below s sargs yN len W (fun A₁ a₁ => A₁.cells + 1 ≤ R.cells ∧ A₁.slots + A.slots.size ≤ R.slots ∧ P a D fV fC b A z a₁ A₁.U) (fun A₁ _ v₁ B₁ => E a D fV fC A v₁ A₁.U B₁.U ∧ B₁.locs = A₁.locs ++ [⟨a, fC.slot⟩, ⟨a, fV.slot⟩] ∧ B₁.cells = A₁.cells + 1 ∧ B₁.slots = A₁.slots + A.slots.size) :=
  (law l a D fV fC b A z).pays htab hfr (by omega)
end New1
end StrChars
namespace StrChars.Road
open Jvm Sem ClassFile Op Lib Jvm.Stand Jvm.Free Jvm.Free.XT
open Jvm.Lib.Cold (StaticIs)
abbrev ST : String := "java/lang/String"
/-- every table word that New1's law asks, flat -/
abbrev words : List Jvm.Cond := [.code New1.yN New1.yB 2 none, .initialized ST, .methodLink ST 27 New4.yN, .instanceMethod New4.yN,
  .code New4.yN New4.yB 6 none, .fieldLink ST 38 ST "COMPACT_STRINGS" "Z", .laysFinal ST ST "value" "[B", .fieldLink ST 9 ST "value" "[B", .laysFinal ST ST "coder" "B", .fieldLink ST 15 ST "coder" "B",
  .methodLink ST 1 Lib.objectInit, .instanceMethod Lib.objectInit, .code Lib.objectInit ⟨#[0xb1]⟩ 1 none, .methodLink ST 177 Cmp3.yN, .static Cmp3.yN, .methodLink ST 47 CodL.yN, .static CodL.yN,
  .code Cmp3.yN Cmp3.yB 6 (some (.array .byte)), .initialized U16, .arrayClass .byte, .methodLink U16 115 Cmp5.yN, .static Cmp5.yN, .code Cmp5.yN Cmp5.yB 7 (some .int), .code CodL.yN CodL.yB 2 (some .byte)]
theorem tab_of {a : Array Value} {s : State} (h : ∀ w ∈ words, w.before a s = true) : New1.tab.before a s = true := by
  have h5 : Cmp5.tab.before a s = true := unparts (wk h (.code Cmp5.yN Cmp5.yB 7 (some .int))) (wks h (.initialized Cmp5.yN.cls :: Cmp5.site))
  have hc : CodL.tab.before a s = true := unparts (wk h (.code CodL.yN CodL.yB 2 (some .byte))) (wks h (.initialized CodL.yN.cls :: CodL.site))
  have q5 : ∀ w ∈ Cmp5.tab :: words, w.before a s = true := fun w hw => (List.mem_cons.mp hw).elim (fun e => e ▸ h5) (h w)
  have h3 : Cmp3.tab.before a s = true := unparts (wk q5 (.code Cmp3.yN Cmp3.yB 6 (some (.array .byte)))) (wks q5 (.initialized Cmp3.yN.cls :: Cmp3.site))
  have q3 : ∀ w ∈ Cmp3.tab :: CodL.tab :: words, w.before a s = true := fun w hw => (List.mem_cons.mp hw).elim (fun e => e ▸ h3) fun hw => (List.mem_cons.mp hw).elim (fun e => e ▸ hc) (h w)
  have h4 : New4.tab.before a s = true := unparts (wk q3 (.code New4.yN New4.yB 6 none)) (wks q3 (.initialized New4.yN.cls :: New4.site))
  have q4 : ∀ w ∈ New4.tab :: words, w.before a s = true := fun w hw => (List.mem_cons.mp hw).elim (fun e => e ▸ h4) (h w)
  exact unparts (wk q4 (.code New1.yN New1.yB 2 none)) (wks q4 (.initialized New1.yN.cls :: New1.site))
/-- the words ride from the start Z to the walk's own state -/
theorem moved {Z s : State} {a0 args : Array Value} (hZ : Z.Warmed39 s.vm) (hw : ∀ d ∈ words, d.before a0 Z = true) : ∀ d ∈ words, d.before args s = true := fun d hd => by
  have q := hw d hd
  have t : ∀ d ∈ words, d = .arrayClass .byte ∨ (d.onTables && d.keepsFace) = true := by decide +kernel
  rcases t d hd with rfl | t
  · exact RoadKit.mvA hZ q
  · exact RoadKit.mv hZ q t
/-- WHAT COMES BACK, over the tables of the start Z: h the heap at the call, h' behind it -/
def Q (Z : State) (x : Addr) (A : Cell) (h : Heap) (v : Option Value) (h' : Heap) (L : List Loc) : Prop := v = none ∧ (∀ y ∈ L, y.base = x) ∧ RoadKit.Keep h h' [x] ∧ h'.size = h.size + 1 ∧ RoadKit.Exa Z h' x ST ∧ RoadKit.Fld Z h' x ST "value" "[B" (.ref h.size) ∧ RoadKit.Fld Z h' x ST "coder" "B" (.int 0) ∧
  (∃ V : Cell, RoadKit.Arr Z h' h.size V .byte ∧ V.vm = .none ∧ Z.vm.findClass "[B" = some V.cls ∧ V.slots.size = A.slots.size ∧ ∀ j, j < A.slots.size → V.slots[j]? = some (.int (lo8 (cv A j)))) ∧
  ∀ (O n d : String) (w : Value), RoadKit.Fld Z h x O n d w → RoadKit.slotOf Z O n d ≠ RoadKit.slotOf Z ST "value" "[B" → RoadKit.slotOf Z O n d ≠ RoadKit.slotOf Z ST "coder" "B" → RoadKit.Fld Z h' x O n d w
/-- **new String(chars) AT A CALL, IN THE ROAD'S FORM**: for specialBack behind newO: x the fresh String, b the char[] with the cell A -/
theorem back {p : Program} {l : Launch} {e : Env} {R : Room} {s : State} {args : Array Value} {below : List Frame} {len W : Nat} {Z : State} {a0 : Array Value} {h : Heap} (hZ : Z.Warmed39 s.vm) (hw : ∀ d ∈ words, d.before a0 Z = true) {kI : Nat} (wi : (Jvm.Cond.instantiable ST kI).before a0 Z = true)
    {x b : Addr} {A : Cell} {z : Int32} {v0 c0 : Value} (E : RoadKit.Exa Z h x ST) (V : RoadKit.Fld Z h x ST "value" "[B" v0) (C : RoadKit.Fld Z h x ST "coder" "B" c0) (K : RoadKit.Arr Z h b A .char) (hty : Typed .char A) (S : RoadKit.Sta Z h ST "COMPACT_STRINGS" "Z" (.int z)) (hz : ¬ z = 0)
    (l0 : 0 < A.slots.size) (l2 : A.slots.size ≤ 536870912) (hp : ∀ i, i < A.slots.size → ¬ 255 < cv A i) (hfr : 4 ≤ R.frames) (hlo : W + 65 ≤ R.locals) :
    Back l R p e below s args New1.yN len W (fun P a => a = #[.ref x, .ref b] ∧ P.U.heap = h ∧ P.cells + 1 ≤ R.cells ∧ P.slots + A.slots.size ≤ R.slots)
      (fun P _ v B => ∃ L, Q Z x A h v B.U.heap L ∧ B.locs = P.locs ++ L ∧ B.cells = P.cells + 1 ∧ B.slots = P.slots + A.slots.size) := by
  intro m meth c P g ig mk a X hg hsize hdg hW hn hp'
  obtain ⟨rfl, rfl, r1, r2⟩ := hp'
  have al : Z.vm.Alike P.U.vm := hZ.alike.trans X.warmed.alike
  obtain ⟨D, cfV, kV, iV, fV, hD, gV, stV, knV, obV, asV, slV⟩ := id V
  obtain ⟨D', cfC, kC, iC, fC, hD', gC, stC, -, -, asC, slC⟩ := id C
  cases hD.symm.trans hD'
  obtain ⟨D2, kD, e1, e2, e3, e4, e5⟩ := id E
  cases hD.symm.trans e1
  obtain ⟨c2, k2, i1, i2, i3, -⟩ := Cond.instantiable_spec wi
  cases e2.symm.trans i1
  cases e3.symm.trans i2
  obtain ⟨kU, u1, u2⟩ := al.2.2 _ _ e3
  have hB : Blank ST x D P.U := ⟨hD, ⟨knV, fun q hq => by rw [hq] at obV; cases obV⟩, by rw [al.findClass]; exact e2, kU, u1, by rw [u2]; exact i3, by rw [u2]; exact e5 i3⟩
  have F1 : Found ST "value" "[B" fV P.U := ⟨SBG.found_only al ⟨cfV, kV, iV, gV⟩, stV⟩
  have F2 : Found ST "coder" "B" fC P.U := ⟨SBG.found_only al ⟨cfC, kC, iC, gC⟩, stC⟩
  have hA : Ch b A P.U := ⟨⟨K.1, State.isArrayOf_alike al K.2.1, K.2.2, by omega⟩, hty⟩
  have hS : StaticIs P.U ST "COMPACT_STRINGS" "Z" (.int z) := by
    obtain ⟨cfS, iS, kS, fS, st, cS, t1, t2, t3, t4, t5, t6, t7⟩ := S
    exact StaticIs.there (s := { Z with heap := P.U.heap }) ⟨cfS, iS, kS, fS, st, cS, t1, t2, t3, t4, t5, (fun q => by rw [q] at t6; cases t6), t7⟩ al rfl
  obtain ⟨v, B, X', ⟨⟨hv, E', V', q1, q2, q3, q4, q5, q6, q7, q8, q9, q10, q11⟩, hl, hc, hs⟩, st⟩ := New1.pays x D fV fC b A z (tab_of (moved hZ hw)) hfr hlo m meth c P g ig mk _ X hg hsize hdg hW hn ⟨r1, r2, rfl, hB, F1, F2, hA, hS, hz, l0, l2, hp⟩
  have al' : Z.vm.Alike B.U.vm := hZ.alike.trans X'.warmed.alike
  have hsz : E'.slots.size = D.slots.size := by
    obtain ⟨-, -, -, kB, w1, w2, w3⟩ := q1
    obtain ⟨kB', y1, y2⟩ := al'.2.2 _ _ e3
    rw [q2.2.1] at w1
    cases w1.symm.trans y1
    rw [w3, e5 i3, y2]
  refine ⟨v, B, X', ⟨_, ⟨hv, ?_, ⟨by omega, fun y cy hy hn' => q10 y cy (by simpa using hn') hy, fun y cy hy => ?_⟩, q11, ⟨E', _, q1.1, by rw [q2.2.1]; exact e2, by rw [q2.2.1]; exact e3, by rw [q2.1]; exact obV, fun _ => by rw [hsz]; exact e5 i3⟩,
    ⟨E', cfV, kV, iV, fV, q1.1, gV, stV, by rw [q2.1]; exact knV, by rw [q2.1]; exact obV, by rw [q2.2.1]; exact asV, q3⟩, ⟨E', cfC, kC, iC, fC, q1.1, gC, stC, by rw [q2.1]; exact knV, by rw [q2.1]; exact obV, by rw [q2.2.1]; exact asC, q4⟩,
    ⟨V', ⟨q5.1, State.isArrayOf_alike al'.symm q5.2.1, q5.2.2.1⟩, q6, by rw [← al'.findClass]; exact q7, q8, fun j hj => by have := q9 j hj; rwa [Nat.zero_add] at this⟩, fun O n d w F n1 n2 => ?_⟩, hl, hc, hs⟩, st⟩
  · intro y hy
    simp only [List.mem_cons, List.not_mem_nil, or_false] at hy
    rcases hy with rfl | rfl <;> rfl
  · by_cases q : y = x
    · subst q
      cases hD.symm.trans hy
      exact ⟨E', q1.1, q2.2.1, q2.1, hsz⟩
    · exact ⟨cy, q10 y cy q hy, rfl, rfl, rfl⟩
  · obtain ⟨D3, cf, k, i, f, g1, g2, g3, g4, g5, g6, g7⟩ := F
    cases hD.symm.trans g1
    simp only [RoadKit.slotOf, g2, gV, gC, Option.map_some, Option.getD_some] at n1 n2
    exact ⟨E', cf, k, i, f, q1.1, g2, g3, by rw [q2.1]; exact g4, by rw [q2.1]; exact g5, by rw [q2.2.1]; exact g6, by rw [q2.2.2 f.slot (by simp [n1, n2])]; exact g7⟩
end StrChars.Road
namespace StrChars.Road
open Jvm Sem ClassFile Op Lib Jvm.Stand Jvm.Free Jvm.Free.XT
/-- WHAT COMES BACK, the byte[] as a list of values -/
def QA (Z : State) (x : Addr) (zn : Int32) (cs : List Int32) (h : Heap) (v : Option Value) (h' : Heap) (L : List Loc) : Prop := v = none ∧ (∀ y ∈ L, y.base = x) ∧ RoadKit.Keep h h' [x] ∧ h'.size = h.size + 1 ∧ RoadKit.Exa Z h' x ST ∧ RoadKit.Fld Z h' x ST "value" "[B" (.ref h.size) ∧ RoadKit.Fld Z h' x ST "coder" "B" (.int 0) ∧
  (∃ kb, Z.vm.findClass "[B" = some kb ∧ RoadKit.Arv Z h' h.size kb .byte zn (cs.map fun c => .int (lo8 c)) (.int 0)) ∧
  ∀ (O n d : String) (w : Value), RoadKit.Fld Z h x O n d w → RoadKit.slotOf Z O n d ≠ RoadKit.slotOf Z ST "value" "[B" → RoadKit.slotOf Z O n d ≠ RoadKit.slotOf Z ST "coder" "B" → RoadKit.Fld Z h' x O n d w
/-- **new String(chars) AT A CALL, THE ARRAYS AS LISTS**: the char[] at b holds cs, not empty, no char above 255 -/
theorem backArv {p : Program} {l : Launch} {e : Env} {R : Room} {s : State} {args : Array Value} {below : List Frame} {len W : Nat} {Z : State} {a0 : Array Value} {h : Heap} (hZ : Z.Warmed39 s.vm) (hw : ∀ d ∈ words, d.before a0 Z = true) {kI : Nat} (wi : (Jvm.Cond.instantiable ST kI).before a0 Z = true)
    {x b : Addr} {k : ClassId} {zn z : Int32} {cs : List Int32} {dv v0 c0 : Value} (E : RoadKit.Exa Z h x ST) (V : RoadKit.Fld Z h x ST "value" "[B" v0) (C : RoadKit.Fld Z h x ST "coder" "B" c0) (K : RoadKit.Arv Z h b k .char zn (cs.map Value.int) dv) (S : RoadKit.Sta Z h ST "COMPACT_STRINGS" "Z" (.int z)) (hz : ¬ z = 0)
    (hlen : zn.toNatClampNeg = cs.length) (h0 : 0 < cs.length) (hbig : cs.length ≤ 536870912) (hall : ∀ c ∈ cs, ¬ 255 < c) (hfr : 4 ≤ R.frames) (hlo : W + 65 ≤ R.locals) :
    Back l R p e below s args New1.yN len W (fun P a => a = #[.ref x, .ref b] ∧ P.U.heap = h ∧ P.cells + 1 ≤ R.cells ∧ P.slots + cs.length ≤ R.slots)
      (fun P _ v B => ∃ L, QA Z x zn cs h v B.U.heap L ∧ B.locs = P.locs ++ L ∧ B.cells = P.cells + 1 ∧ B.slots = P.slots + cs.length) := by
  obtain ⟨A, K1, K2, K3, K4, K5, K6⟩ := K
  have e : A.slots.size = cs.length := K3.trans hlen
  have hat : ∀ (i : Nat) (hi : i < cs.length), A.slots[i]? = some (.int cs[i]) := fun i hi => by rw [K5 i (by omega)]; simp [List.getD_eq_getElem?_getD, hi]
  have hcv : ∀ (i : Nat) (hi : i < cs.length), cv A i = cs[i] := fun i hi => by unfold cv; rw [hat i hi]
  have hty : Typed .char A := fun i v hv => by
    have hi : i < A.slots.size := (Array.getElem?_eq_some_iff.mp hv).1
    have q := K5 i hi
    rw [hv] at q
    rw [Option.some.inj q]
    exact K6 i hi
  refine Back.mono (back hZ hw wi E V C K1 hty S hz (by omega) (by omega) (fun i hi => by rw [hcv i (by omega)]; exact hall _ (List.getElem_mem _)) hfr hlo) (fun P a hp => ⟨hp.1, hp.2.1, hp.2.2.1, by rw [e]; exact hp.2.2.2⟩) (fun P a v B hp hq => ?_)
  obtain ⟨L, ⟨q1, q2, q3, q4, q5, q6, q7, ⟨V', v1, v2, v3, v4, v5⟩, q9⟩, hl, hc, hs⟩ := hq
  refine ⟨L, ⟨q1, q2, q3, q4, q5, q6, q7, ⟨V'.cls, v3, V', v1, rfl, by rw [v4, e, hlen], K4, fun i hi => ?_, fun i hi => ?_⟩, q9⟩, hl, hc, by rw [hs, e]⟩
  · have hi' : i < cs.length := by omega
    rw [v5 i (by omega), hcv i hi']; simp [List.getD_eq_getElem?_getD, hi']
  · have hi' : i < cs.length := by omega
    simp only [List.getD_eq_getElem?_getD, List.getElem?_map, List.getElem?_eq_getElem hi', Option.map_some, Option.getD_some]
    exact fits_lo8 _
end StrChars.Road
namespace StrChars.Road
open Jvm Sem ClassFile Op Lib Jvm.Stand Jvm.Free Jvm.Free.XT
/-- WHAT COMES BACK, in the writer's own shape -/
def QV (Z : State) (x : Addr) (N : Int32) (bs : List Int32) (h : Heap) (n0 : Nat) (v : Option Value) (h' : Heap) (L : List Loc) : Prop := v = none ∧ RoadKit.Fr n0 L ∧ RoadKit.Keep h h' [x] ∧ RoadKit.Exa Z h' x ST ∧ RoadKit.Fld Z h' x ST "coder" "B" (.int 0) ∧
  ∃ (t : Addr) (kb : ClassId), n0 ≤ t ∧ h.size ≤ t ∧ ¬ t = x ∧ RoadKit.Fld Z h' x ST "value" "[B" (.ref t) ∧ RoadKit.Arv Z h' t kb .byte N (bs.map Value.int) (.int 0)
/-- **new String(chars) AT A CALL, FOR THE WRITER**: a char[] of n known ints, each 0 to 255 -/
theorem backV {p : Program} {l : Launch} {e : Env} {R : Room} {s : State} {args : Array Value} {below : List Frame} {len W : Nat} {Z : State} {a0 : Array Value} {h : Heap} (hZ : Z.Warmed39 s.vm) (hw : ∀ d ∈ words, d.before a0 Z = true) {kI : Nat} (wi : (Jvm.Cond.instantiable ST kI).before a0 Z = true)
    {x b : Addr} {kC : ClassId} {cs bs : List Int32} {d v0 c0 : Value} {z N : Int32} {n n0 : Nat} (hx0 : n0 ≤ x) (hh0 : n0 ≤ h.size) (E : RoadKit.Exa Z h x ST) (V : RoadKit.Fld Z h x ST "value" "[B" v0) (C : RoadKit.Fld Z h x ST "coder" "B" c0) (K : RoadKit.Arv Z h b kC .char N (cs.map Value.int) d) (S : RoadKit.Sta Z h ST "COMPACT_STRINGS" "Z" (.int z)) (hz : ¬ z = 0)
    (hn : cs.length = n) (hN : N = Int32.ofNat n) (l0 : 0 < n) (l2 : n ≤ 4000) (hp : ∀ c ∈ cs, ¬ c < 0 ∧ ¬ (255 : Int32) < c) (hb : bs = cs.map (fun c => c.toInt8.toInt32)) (hfr : 4 ≤ R.frames) (hlo : W + 65 ≤ R.locals) :
    Back l R p e below s args (⟨"java/lang/String", "<init>", "([C)V"⟩ : MethodName) len W (fun P a => a = #[.ref x, .ref b] ∧ P.U.heap = h ∧ P.cells + 1 ≤ R.cells ∧ P.slots + n ≤ R.slots)
      (fun P _ v B => ∃ L, QV Z x N bs h n0 v B.U.heap L ∧ B.locs = P.locs ++ L ∧ B.cells = P.cells + 1 ∧ B.slots = P.slots + n) := by
  subst hn hN hb
  refine Back.mono (backArv hZ hw wi E V C K S hz (n32 (by omega)) l0 (by omega) (fun c hc => (hp c hc).2) hfr hlo) (fun P a hp => hp) (fun P a v B hp hq => ?_)
  obtain ⟨L, ⟨q1, q2, q3, q4, q5, q6, q7, ⟨kb, v1, v2⟩, q9⟩, hl, hc, hs⟩ := hq
  exact ⟨L, ⟨q1, fun y hy => by rw [q2 y hy]; exact hx0, q3, q5, q7, h.size, kb, hh0, Nat.le_refl _, Nat.ne_of_gt E.lt, q6, by rw [List.map_map]; exact v2⟩, hl, hc, hs⟩
end StrChars.Road
end Jvm.Pilot.@@N@@

namespace Jvm.Pilot.@@N@@
open Jvm Jvm.ClassFile Sem Op Lib Jvm.Free Jvm.Stand Jvm.LawKit Jvm.RoadKit Bundle Jvm.Pilot.@@N@@.Jvm.D

def own_Q (r : Option Value) (h0 : Heap) (n0 : Nat) (v : Option Value) (h : Heap) (L : List Loc) : Prop := v = r ∧ Fr n0 L ∧ h = h0
def own_Q0 (n0 : Nat) (v : Option Value) (h : Heap) (L : List Loc) : Prop := v = some (.int 1) ∧ Fr n0 L
theorem own_ext_trans {h h' h'' : Heap} (E : Ext h h') (E' : Ext h' h'') : Ext h h'' := ⟨Nat.le_trans E.1 E'.1, fun a c q => E'.2 a c (E.2 a c q)⟩
theorem own_ext_wr {h0 h h' : Heap} {a : Addr} {sl : Nat} {v : Value} (E : Ext h0 h) (W : Wr h h' a sl v) (q : h0.size ≤ a) : Ext h0 h' := by
  refine ⟨by rw [W.size]; exact E.1, fun b c hb => ?_⟩
  have hne : b ≠ a := Nat.ne_of_lt (Nat.lt_of_lt_of_le (Array.getElem?_eq_some_iff.mp hb).1 q)
  obtain ⟨c', e1, -, -, -, e5, -⟩ := wr_at W (E.2 b c hb)
  rw [e1, e5 hne]
theorem own_stR {p : Program} {l : Launch} {e : Env} {R : Room} {s : State} {m : MethodId} {args : Array Value} {below : List Frame} {meth : Method} {c : Code} {T : State} {locs : List Loc} {cells slots : Nat} {Z : State} {h : Heap}
    (X : Stand p l e R s m args below meth c T locs cells slots) (hx : p.tables.exec = Jvm.exec) (hZ : Z.Warmed39 s.vm) (eT : T.heap = h) {a y : Addr} {k : ClassId} {ty : FieldType} {z : Int32} {vs : List Value} {dv : Value} {C : String} (F : Arv Z h a k ty z vs dv) (O : Ovr Z k C) (I : Ins Z h y C true) {j : Int32} (hj : ¬ j < 0 ∧ j < z) {i : Nat} (hi : j.toNatClampNeg = i) (hl : i < vs.length) (hty : ty.isReference = true)
    {g : JFrame} (hg : g.method = m) {rest : List Value} (hs : g.stack = .ref y :: .int j :: .ref a :: rest) (hd : decode c.code g.pc = .ok (.aastore, 1)) :
    ∃ T' h', Stand p l e R s m args below meth c T' (locs ++ [⟨a, j.toNatClampNeg⟩]) cells slots ∧ T'.heap = h' ∧ Wr h h' a j.toNatClampNeg (.ref y) ∧ Arv Z h' a k ty z (vs.set i (.ref y)) dv ∧ ∀ target, Steps p.tables e below (T'.setTop { g with pc := g.pc + 1, stack := rest }) target → Steps p.tables e below (T.setTop g) target := by
  obtain ⟨cl, A, q1, S, q3, H, G⟩ := F
  obtain ⟨T', h', X', e', W, st⟩ := stR X hx hZ eT A (inb_of S hj) hty (Sto.ofV A q1 O I) hg hs hd
  exact ⟨T', h', X', e', W, Arv.set A q1 S q3 H G (by cases ty <;> first | rfl | cases hty) W i hi hl, st⟩
theorem own_at {Z : State} {h : Heap} {a : Addr} {k : ClassId} {ty : FieldType} {z : Int32} {vs : List Value} {dv : Value} (F : Arv Z h a k ty z vs dv) {j : Int32} {v : Value} (hj : ¬ j < 0 ∧ j < z) (u : vs.getD j.toNatClampNeg dv = v) :
    ∃ c : Cell, Arr Z h a c ty ∧ ¬ (j < 0 ∨ c.slots.size ≤ j.toNatClampNeg) ∧ c.slots[j.toNatClampNeg]? = some v := by
  obtain ⟨c, A, -, S, -, H, -⟩ := F
  exact ⟨c, A, inb_of S hj, H.at (inb_of S hj) u⟩
theorem own_ext_refl (h : Heap) : Ext h h := ⟨Nat.le_refl _, fun _ _ q => q⟩
theorem own_ext_keep {h0 h h' : Heap} {ws : List Addr} (E : Ext h0 h) (K : Keep h h' ws) (q : ∀ x ∈ ws, h0.size ≤ x) : Ext h0 h' :=
  ⟨Nat.le_trans E.1 K.1, fun a c r => K.2.1 a c (E.2 a c r) fun z => absurd (Array.getElem?_eq_some_iff.mp r).1 (Nat.not_lt.mpr (q a z))⟩
theorem own_stI {p : Program} {l : Launch} {e : Env} {R : Room} {s : State} {m : MethodId} {args : Array Value} {below : List Frame} {meth : Method} {c : Code} {T : State} {locs : List Loc} {cells slots : Nat} {Z : State} {h : Heap}
    (X : Stand p l e R s m args below meth c T locs cells slots) (hx : p.tables.exec = Jvm.exec) (hZ : Z.Warmed39 s.vm) (eT : T.heap = h) {a : Addr} {k : ClassId} {z : Int32} {vs : List Value} {dv : Value} (F : Arv Z h a k .int z vs dv) {j x : Int32} (hj : ¬ j < 0 ∧ j < z) {i : Nat} (hi : j.toNatClampNeg = i) (hl : i < vs.length)
    {g : JFrame} (hg : g.method = m) {rest : List Value} (hs : g.stack = .int x :: .int j :: .ref a :: rest) (hd : decode c.code g.pc = .ok (.iastore, 1)) :
    ∃ T' h', Stand p l e R s m args below meth c T' (locs ++ [⟨a, j.toNatClampNeg⟩]) cells slots ∧ T'.heap = h' ∧ Wr h h' a j.toNatClampNeg (.int x) ∧ Arv Z h' a k .int z (vs.set i (.int x)) dv ∧ ∀ target, Steps p.tables e below (T'.setTop { g with pc := g.pc + 1, stack := rest }) target → Steps p.tables e below (T.setTop g) target := by
  obtain ⟨cl, A, q1, S, q3, H, G⟩ := F
  obtain ⟨T', h', X', e', W, st⟩ := stI X hx hZ eT A (inb_of S hj) hg hs hd
  exact ⟨T', h', X', e', W, Arv.set A q1 S q3 H G rfl W i hi hl, st⟩
theorem own_stC {p : Program} {l : Launch} {e : Env} {R : Room} {s : State} {m : MethodId} {args : Array Value} {below : List Frame} {meth : Method} {c : Code} {T : State} {locs : List Loc} {cells slots : Nat} {Z : State} {h : Heap}
    (X : Stand p l e R s m args below meth c T locs cells slots) (hx : p.tables.exec = Jvm.exec) (hZ : Z.Warmed39 s.vm) (eT : T.heap = h) {a : Addr} {k : ClassId} {z : Int32} {vs : List Value} {dv : Value} (F : Arv Z h a k .char z vs dv) {j x : Int32} (hj : ¬ j < 0 ∧ j < z) {i : Nat} (hi : j.toNatClampNeg = i) (hl : i < vs.length)
    {g : JFrame} (hg : g.method = m) {rest : List Value} (hs : g.stack = .int x :: .int j :: .ref a :: rest) (hd : decode c.code g.pc = .ok (.castore, 1)) :
    ∃ T' h', Stand p l e R s m args below meth c T' (locs ++ [⟨a, j.toNatClampNeg⟩]) cells slots ∧ T'.heap = h' ∧ Wr h h' a j.toNatClampNeg (.int (nar .char x)) ∧ Arv Z h' a k .char z (vs.set i (.int (nar .char x))) dv ∧ ∀ target, Steps p.tables e below (T'.setTop { g with pc := g.pc + 1, stack := rest }) target → Steps p.tables e below (T.setTop g) target := by
  obtain ⟨cl, A, q1, S, q3, H, G⟩ := F
  obtain ⟨T', h', X', e', W, st⟩ := stC X hx hZ eT A (inb_of S hj) hg hs hd
  exact ⟨T', h', X', e', W, Arv.set A q1 S q3 H G (fits_nar_char x) W i hi hl, st⟩
theorem own_selP {s : State} {args : Array Value} {y z : MethodName} {C : String} (hs : (Jvm.Cond.selects C z z).before args s = true) (hcls : z.cls = y.cls) (hp : s.PrivateAt y) (hi : (Jvm.Cond.instanceMethod y).before args s = true) (hy : y.cls ≠ "java/lang/invoke/MethodHandle" ∧ y.cls ≠ "java/lang/invoke/VarHandle") : (Jvm.Cond.selects y.cls y y).before args s = true := by
  obtain ⟨c2, r2, m2, q1, q2, q3, q4, kP, hkP, hkPi⟩ := Cond.selects_spec hs
  exact selects_self_of_private (hcls ▸ findClass_of_methodNamed q3) hkP hkPi hp hi hy
theorem own_safe {Z : State} {EL : List (String × Nat)} {vm : Vm} {h : Heap} {x : Addr} (hal : Z.vm.Alike vm) (E : Exa Z h x "java/lang/String") (F : Fld Z h x "java/lang/String" "value" "[B" .null) : Safe Z EL vm h x := fun B => by
  obtain ⟨p, -, u, a, -, q, -, G, rfl | rfl⟩ := B
  · obtain ⟨cS, ⟨⟨s1, s2, s3, ⟨cv, kv, iv, s4, s4'⟩, -, s6, s7, s8, -⟩, -, -⟩, -⟩ := G
    obtain ⟨kv', z4⟩ := ff_back (U := Wst Z vm h) hal s4
    have K : Fld Z h q.sa "java/lang/String" "value" "[B" (.ref q.sd) := ⟨q.sC, cv, kv', iv, q.fSV, s1, z4, s6, s2, s3, by rw [← hal.assignable]; exact s4', s8⟩
    exact F.ne K (by simp) rfl
  · obtain ⟨cell, k, e1, e2, e3, -, -⟩ := E
    cases (show h[q.sd]? = some q.SA from G.hd).symm.trans e1
    obtain ⟨cS, -, -, f, -⟩ := G
    have f' : vm.findClass "[B" = some q.SA.cls := f
    rw [hal.findClass] at f'
    obtain ⟨k1, q1, q2⟩ := Vm.findClass_spec f'
    obtain ⟨k2, q3, q4⟩ := Vm.findClass_spec e2
    cases q1.symm.trans q3
    exact absurd (q2.symm.trans q4) (by decide)
def own_dr (dd xx cc : Int32) : Prop := (¬ dd = 0 → ((51 : Int32) + (xx &&& (3 : Int32))).toUInt32.toUInt16.toUInt32.toInt32 = cc) ∧ (dd = 0 → (xx &&& (255 : Int32)).toUInt32.toUInt16.toUInt32.toInt32 = cc) ∧ nar .char cc = cc ∧ (¬ cc < 0 ∧ ¬ (255 : Int32) < cc) ∧ (cc = 52 ↔ (52 : Int32) = cc.toInt8.toInt32) ∧ (cc = 53 ↔ (53 : Int32) = cc.toInt8.toInt32)
theorem own_f256 (i : Fin 256) : (Int32.ofNat i.1).toUInt32.toUInt16.toUInt32.toInt32 = Int32.ofNat i.1 ∧ (¬ Int32.ofNat i.1 < 0 ∧ ¬ (255 : Int32) < Int32.ofNat i.1) ∧ (Int32.ofNat i.1 = 52 ↔ (52 : Int32) = (Int32.ofNat i.1).toInt8.toInt32) ∧ (Int32.ofNat i.1 = 53 ↔ (53 : Int32) = (Int32.ofNat i.1).toInt8.toInt32) := by
  revert i
  decide +kernel
theorem own_fin (v : Int32) (h0 : 0 ≤ v.toInt) (h1 : v.toInt < 256) : ∃ i : Fin 256, v = Int32.ofNat i.1 := by
  refine ⟨⟨v.toInt.toNat, by omega⟩, Int32.toInt_inj.mp ?_⟩
  show _ = (Int32.ofNat v.toInt.toNat).toInt
  rw [Int32.toInt_ofNat_small (show v.toInt.toNat < 2 ^ 31 by omega)]
  omega
theorem own_drx (dd xx : Int32) : ∃ cc, own_dr dd xx cc := by
  have ha := c_and xx (255 : Int32) (by decide)
  have h3 := c_and xx (3 : Int32) (by decide)
  have e1 : (255 : Int32).toInt = 255 := by decide
  have e3 : (3 : Int32).toInt = 3 := by decide
  have e5 : (51 : Int32).toInt = 51 := by decide
  rw [e1] at ha
  rw [e3] at h3
  have hs := c_iadd (51 : Int32) (xx &&& (3 : Int32))
  have rs := rng32 ((51 : Int32) + (xx &&& (3 : Int32)))
  rw [e5] at hs
  by_cases hd : dd = 0
  · obtain ⟨i, hi⟩ := own_fin (xx &&& (255 : Int32)) (by omega) (by omega)
    have f := own_f256 i
    rw [← hi] at f
    exact ⟨xx &&& (255 : Int32), fun q => absurd hd q, fun _ => f.1, f.1, f.2⟩
  · obtain ⟨i, hi⟩ := own_fin ((51 : Int32) + (xx &&& (3 : Int32))) (by omega) (by omega)
    have f := own_f256 i
    rw [← hi] at f
    exact ⟨(51 : Int32) + (xx &&& (3 : Int32)), fun _ => f.1, fun q => absurd q hd, f.1, f.2⟩
theorem own_eqI {args : Array Value} {s : State} {t : Term} {k : Int32} (h : (Jvm.Cond.eq t (Jvm.Term.int k)).value args s none s [] = some true) : t.eval args s none [] s = some (.int k) := by
  obtain ⟨x, y, e1, e2, K1, K2⟩ := cmp_v (Or.inl h)
  have e3 : (Jvm.Term.int k).eval args s none [] s = some (.int k) := rfl
  obtain rfl : y = .int k := Option.some.inj (e2.symm.trans e3)
  obtain ⟨z, rfl⟩ := K2
  obtain rfl : z = k := gotT (Jvm.Cond.eq_ints e1 e3) h
  exact e1
theorem own_eqR {args : Array Value} {s : State} {t u : Term} {a : Addr} (hu : u.eval args s none [] s = some (.ref a)) (h : (Jvm.Cond.eq t u).value args s none s [] = some true) : t.eval args s none [] s = some (.ref a) := by
  obtain ⟨x, y, e1, e2, K1, K2⟩ := cmp_v (Or.inl h)
  obtain rfl : y = .ref a := Option.some.inj (e2.symm.trans hu)
  obtain rfl : x = .ref a := gotT (eq_R e1 hu K2.2 rfl) h
  exact e1
theorem own_len {args : Array Value} {s : State} {t : Term} {a : Addr} {cl : Cell} {v : Value} (ev : t.eval args s none [] s = some (.ref a)) (A : s.arrayAt? a = some cl) (h : (Jvm.Term.length t).eval args s none [] s = some v) : cl.slots.size < 2 ^ 31 ∧ v = .int cl.slots.size.toInt32 := by
  simp only [Jvm.Term.eval, ev, A, Option.bind_eq_bind, Option.bind_some] at h
  split at h
  · exact ⟨by assumption, (Option.some.inj h).symm⟩
  · cases h
theorem own_arr2 {args : Array Value} {s : State} {t : Term} {ty : FieldType} {a : Addr} {x y dv : Value} (hf : Fit s) (ev : t.eval args s none [] s = some (.ref a)) (hA : (Jvm.Cond.arrayOf t ty).value args s none s [] = some true) (hL : (Jvm.Cond.eq (Jvm.Term.length t) (Jvm.Term.int (2 : Int32))).value args s none s [] = some true) (e0 : (Jvm.Term.elem t (Jvm.Term.int (0 : Int32))).eval args s none [] s = some x) (e1 : (Jvm.Term.elem t (Jvm.Term.int (1 : Int32))).eval args s none [] s = some y) : ∃ k, Arv s s.heap a k ty (2 : Int32) [x, y] dv := by
  obtain ⟨cl, A⟩ := Arr.start ev hA
  have hl := own_len ev (A.fin (Vm.Alike.refl _)) (own_eqI hL)
  have g0 := (elem_in e0 ev (j := (0 : Int32)) rfl A.1).2
  have g1 := (elem_in e1 ev (j := (1 : Int32)) rfl A.1).2
  exact ⟨cl.cls, Arv.start hf A hl.1 (Value.int.inj hl.2).symm (by decide) rfl ⟨g0, g1, trivial⟩⟩

def own_St (Z : State) (h : Heap) (t : Addr) (u : Addr) (k : ClassId) (n : Int32) (ys : List Int32) : Prop := (Exa Z h t "java/lang/String") ∧ (Fld Z h t "java/lang/String" "value" "[B" (.ref u)) ∧ (Fld Z h t "java/lang/String" "coder" "B" (.int (0 : Int32))) ∧ (Arv Z h u k .byte n (ys.map Value.int) (.int (0 : Int32)))
theorem own_St_ext {Z : State} {h h' : Heap} {t : Addr} {u : Addr} {k : ClassId} {n : Int32} {ys : List Int32} (P : own_St Z h t u k n ys) (E : Ext h h') : own_St Z h' t u k n ys := by
  obtain ⟨f0, f1, f2, f3⟩ := P
  exact ⟨f0.ext E, f1.ext E, f2.ext E, f3.ext E⟩
def own_P (Z : State) (h : Heap) (wv w0 w1 r0 r1 s0 s1 c0 c1 we : Addr) (kv kc0 kc1 : ClassId) (i7 : Int32) : Prop := (Sta Z h "com/example/recourse/recourse/WriteOffActor" "$VALUES" "[Lcom/example/recourse/recourse/WriteOffActor;" (.ref wv)) ∧ (Exa Z h wv "[Lcom/example/recourse/recourse/WriteOffActor;") ∧ (Arv Z h wv kv (.object "com/example/recourse/recourse/WriteOffActor") (2 : Int32) [.ref w0, .ref w1] .null) ∧ (Sta Z h "com/example/recourse/recourse/WriteOffActor" "ISSUER" "Lcom/example/recourse/recourse/WriteOffActor;" (.ref w0)) ∧ (Sta Z h "com/example/recourse/recourse/WriteOffActor" "PROGRAM" "Lcom/example/recourse/recourse/WriteOffActor;" (.ref w1)) ∧ (Exa Z h w0 "com/example/recourse/recourse/WriteOffActor") ∧ (Exa Z h w1 "com/example/recourse/recourse/WriteOffActor") ∧ (Fld Z h w0 "com/example/recourse/recourse/WriteOffActor" "reasonCode" "Lcom/example/recourse/recourse/ReasonCode;" (.ref r0)) ∧ (Fld Z h w1 "com/example/recourse/recourse/WriteOffActor" "reasonCode" "Lcom/example/recourse/recourse/ReasonCode;" (.ref r1)) ∧ (Exa Z h r0 "com/example/recourse/recourse/ReasonCode") ∧ (Exa Z h r1 "com/example/recourse/recourse/ReasonCode") ∧ (Fld Z h r0 "com/example/recourse/recourse/ReasonCode" "code" "Ljava/lang/String;" (.ref s0)) ∧ (Fld Z h r1 "com/example/recourse/recourse/ReasonCode" "code" "Ljava/lang/String;" (.ref s1)) ∧ (own_St Z h s0 c0 kc0 (2 : Int32) [52, 52]) ∧ (own_St Z h s1 c1 kc1 (2 : Int32) [52, 53]) ∧ (Sta Z h "java/util/Optional" "EMPTY" "Ljava/util/Optional;" (.ref we)) ∧ (Exa Z h we "java/util/Optional") ∧ (Fld Z h we "java/util/Optional" "value" "Ljava/lang/Object;" .null) ∧ (Sta Z h "java/lang/String" "COMPACT_STRINGS" "Z" (.int i7)) ∧ (¬ (i7 = (0 : Int32)))
theorem own_P_ext {Z : State} {h h' : Heap} {wv : Addr} {w0 : Addr} {w1 : Addr} {r0 : Addr} {r1 : Addr} {s0 : Addr} {s1 : Addr} {c0 : Addr} {c1 : Addr} {we : Addr} {kv : ClassId} {kc0 : ClassId} {kc1 : ClassId} {i7 : Int32} (P : own_P Z h wv w0 w1 r0 r1 s0 s1 c0 c1 we kv kc0 kc1 i7) (E : Ext h h') : own_P Z h' wv w0 w1 r0 r1 s0 s1 c0 c1 we kv kc0 kc1 i7 := by
  obtain ⟨Pv, Ev, Av, Pw0, Pw1, Ew0, Ew1, Fr0, Fr1, Er0, Er1, Fc0, Fc1, Q0, Q1, Pe, Ee, Fe, S8, c9⟩ := P
  exact ⟨Pv.ext E, Ev.ext E, Av.ext E, Pw0.ext E, Pw1.ext E, Ew0.ext E, Ew1.ext E, Fr0.ext E, Fr1.ext E, Er0.ext E, Er1.ext E, Fc0.ext E, Fc1.ext E, own_St_ext Q0 E, own_St_ext Q1 E, Pe.ext E, Ee.ext E, Fe.ext E, S8.ext E, c9⟩
theorem own_P_lt {Z : State} {h : Heap} {wv : Addr} {w0 : Addr} {w1 : Addr} {r0 : Addr} {r1 : Addr} {s0 : Addr} {s1 : Addr} {c0 : Addr} {c1 : Addr} {we : Addr} {kv : ClassId} {kc0 : ClassId} {kc1 : ClassId} {i7 : Int32} (P : own_P Z h wv w0 w1 r0 r1 s0 s1 c0 c1 we kv kc0 kc1 i7) : s0 < h.size ∧ s1 < h.size := by
  obtain ⟨Pv, Ev, Av, Pw0, Pw1, Ew0, Ew1, Fr0, Fr1, Er0, Er1, Fc0, Fc1, Q0, Q1, Pe, Ee, Fe, S8, c9⟩ := P
  exact ⟨Q0.1.lt, Q1.1.lt⟩
theorem d_method_2_code_0 : decode method_2_code 0 = .ok (.iload_n 0, 1) := by decide +kernel
theorem d_method_2_code_1 : decode method_2_code 1 = .ok (.ifCond .eq 11, 3) := by decide +kernel
theorem d_method_2_code_4 : decode method_2_code 4 = .ok (.bipush 51, 2) := by decide +kernel
theorem d_method_2_code_6 : decode method_2_code 6 = .ok (.iload_n 1, 1) := by decide +kernel
theorem d_method_2_code_7 : decode method_2_code 7 = .ok (.iconst 3, 1) := by decide +kernel
theorem d_method_2_code_8 : decode method_2_code 8 = .ok (.iand, 1) := by decide +kernel
theorem d_method_2_code_9 : decode method_2_code 9 = .ok (.iadd, 1) := by decide +kernel
theorem d_method_2_code_10 : decode method_2_code 10 = .ok (.i2c, 1) := by decide +kernel
theorem d_method_2_code_11 : decode method_2_code 11 = .ok (.ireturn, 1) := by decide +kernel
theorem ef_method_2_code_II (m : MethodId) (x0 : Int32) (x1 : Int32) : entryFrame m #[(.int x0), (.int x1)] 2 = mkF m 0 #[.val (.int x0), .val (.int x1)] [] := by first | (simp [entryFrame, mkF, argsToLocals, Value.category]; done) | rfl
theorem pn_com_example_recourse_recourse_WriteOffActorRecordedAsPinLaw : plainName "com/example/recourse/recourse/WriteOffActorRecordedAsPinLaw" = true := by first | (simp [plainName, overriddenIn]; done) | decide +kernel
set_option maxRecDepth 65536 in
set_option maxHeartbeats 40000000 in
theorem own_draw_t (l : Launch) (Z : State) (a0 : Array Value) (hw : ∀ d ∈ tables_1, d.before a0 Z = true) (ws : List Jvm.Cond) (dd xx cc : Int32) (h0 : Heap) (n0 : Nat) (Z0 : n0 ≤ h0.size) (hdr : own_dr dd xx cc) (hd : ¬ dd = 0) :
    MetFree l (⟨"com/example/recourse/recourse/WriteOffActorRecordedAsPinLaw", "draw", "(ZI)C"⟩ : MethodName) (head1 (Jvm.Cond.code (⟨"com/example/recourse/recourse/WriteOffActorRecordedAsPinLaw", "draw", "(ZI)C"⟩ : MethodName) method_2_code 2 (some .char) :: ws) ({ frames := 0, cells := 0, slots := 0, locals := 0 } : Room)) (fun a U => a = #[(.int dd), (.int xx)] ∧ Z.Warmed39 U.vm ∧ U.heap = h0) (fun _ _ _ _ _ => True) (fun _ U o U' => ∃ v L, o = .returned v ∧ own_Q (some (.int cc)) h0 n0 v U'.heap L ∧ FrameEnd U o U' L ({ frames := 0, cells := 0, slots := 0, locals := 0 } : Room).cells ({ frames := 0, cells := 0, slots := 0, locals := 0 } : Room).slots) := by
  refine MetFree.of_bodySF (plainFor_of_name pn_com_example_recourse_recourse_WriteOffActorRecordedAsPinLaw) hisR ?_
  intro p e s m args below meth c s₁ Bd hml0 hP hK
  obtain ⟨rfl, hZ, hh⟩ := hP
  have hx := Bd.exec
  have hby := Bd.bytes
  have hml : c.maxLocals = 2 := hml0
  have hown : s.vm.findClass "com/example/recourse/recourse/WriteOffActorRecordedAsPinLaw" = some m.cls := findClass_of_methodNamed Bd.named
  have hnm := (name_of_methodNamed Bd.named Bd.method).1
  have X0 : Stand p l e ({ frames := 0, cells := 0, slots := 0, locals := 0 } : Room) s m #[(.int dd), (.int xx)] below meth c s₁ [] 0 0 := Stand.of_body Bd
  have e0 : s₁.heap = h0 := by rw [← hh, Bd.state]; rfl
  have N0 := Fr.nil n0
  have pre0 : ∀ t, Steps p.tables e below (s₁.setTop (mkF m 0 #[.val (.int dd), .val (.int xx)] [])) t → Steps p.tables e below (s₁.setTop (entryFrame m #[(.int dd), (.int xx)] 2)) t := fun t k => castTop (ef_method_2_code_II m dd xx) k
  obtain ⟨fs, hr, hrun, hended, hW, hsame⟩ := X0.leave (v := some (.int (nar .char cc))) (fun h => by rw [Bd.returns] at h; cases h)
  refine ⟨_, _, pre0 _ ?_, hrun, hended, _, _, rfl, ?_, ⟨_, rfl⟩, hW, hsame.mono (by decide) (by decide)⟩
  · show Steps p.tables e below (s₁.setTop (mkF m 0 #[.val (.int dd), .val (.int xx)] [])) _
    refine XS.iloadN X0.here hx rfl (hb hby d_method_2_code_0) rfl ?_
    show Steps p.tables e below (s₁.setTop (mkF m 1 #[.val (.int dd), .val (.int xx)] [(.int dd)])) _
    refine XS.ifNo X0.here hx rfl (hb hby d_method_2_code_1) rfl (XT.i0_eq_f hd) ?_
    show Steps p.tables e below (s₁.setTop (mkF m 4 #[.val (.int dd), .val (.int xx)] [])) _
    refine XT.bipushV X0.here hx rfl (51 : Int32) (hb hby d_method_2_code_4) (by decide) ?_
    show Steps p.tables e below (s₁.setTop (mkF m 6 #[.val (.int dd), .val (.int xx)] [(.int (51 : Int32))])) _
    refine XS.iloadN X0.here hx rfl (hb hby d_method_2_code_6) rfl ?_
    show Steps p.tables e below (s₁.setTop (mkF m 7 #[.val (.int dd), .val (.int xx)] [(.int xx), (.int (51 : Int32))])) _
    refine XT.iconstV X0.here hx rfl (3 : Int32) (hb hby d_method_2_code_7) rfl ?_
    show Steps p.tables e below (s₁.setTop (mkF m 8 #[.val (.int dd), .val (.int xx)] [(.int (3 : Int32)), (.int xx), (.int (51 : Int32))])) _
    refine XS.iand X0.here hx rfl (hb hby d_method_2_code_8) rfl ?_
    show Steps p.tables e below (s₁.setTop (mkF m 9 #[.val (.int dd), .val (.int xx)] [(.int (xx &&& (3 : Int32))), (.int (51 : Int32))])) _
    refine XS.iadd X0.here hx rfl (hb hby d_method_2_code_9) rfl ?_
    show Steps p.tables e below (s₁.setTop (mkF m 10 #[.val (.int dd), .val (.int xx)] [(.int ((51 : Int32) + (xx &&& (3 : Int32))))])) _
    refine XT.i2c X0.here hx rfl (hb hby d_method_2_code_10) rfl ?_
    show Steps p.tables e below (s₁.setTop (mkF m 11 #[.val (.int dd), .val (.int xx)] [(.int ((51 : Int32) + (xx &&& (3 : Int32))).toUInt32.toUInt16.toUInt32.toInt32)])) _
    rw [hdr.1 hd]
    show Steps p.tables e below (s₁.setTop (mkF m 11 #[.val (.int dd), .val (.int xx)] [(.int cc)])) _
    exact retN X0 hx (t := .char) Bd.returns (by simp) (hb hby d_method_2_code_11) hr
  · show own_Q (some (.int cc)) h0 n0 _ s₁.heap _
    rw [e0]
    exact ⟨congrArg (fun z => some (Value.int z)) hdr.2.2.1, N0, rfl⟩
theorem d_method_2_code_12 : decode method_2_code 12 = .ok (.iload_n 1, 1) := by decide +kernel
theorem d_method_2_code_13 : decode method_2_code 13 = .ok (.sipush 255, 3) := by decide +kernel
theorem d_method_2_code_16 : decode method_2_code 16 = .ok (.iand, 1) := by decide +kernel
theorem d_method_2_code_17 : decode method_2_code 17 = .ok (.i2c, 1) := by decide +kernel
theorem d_method_2_code_18 : decode method_2_code 18 = .ok (.ireturn, 1) := by decide +kernel
set_option maxRecDepth 65536 in
set_option maxHeartbeats 40000000 in
theorem own_draw_f (l : Launch) (Z : State) (a0 : Array Value) (hw : ∀ d ∈ tables_1, d.before a0 Z = true) (ws : List Jvm.Cond) (dd xx cc : Int32) (h0 : Heap) (n0 : Nat) (Z0 : n0 ≤ h0.size) (hdr : own_dr dd xx cc) (hd : dd = 0) :
    MetFree l (⟨"com/example/recourse/recourse/WriteOffActorRecordedAsPinLaw", "draw", "(ZI)C"⟩ : MethodName) (head1 (Jvm.Cond.code (⟨"com/example/recourse/recourse/WriteOffActorRecordedAsPinLaw", "draw", "(ZI)C"⟩ : MethodName) method_2_code 2 (some .char) :: ws) ({ frames := 0, cells := 0, slots := 0, locals := 0 } : Room)) (fun a U => a = #[(.int dd), (.int xx)] ∧ Z.Warmed39 U.vm ∧ U.heap = h0) (fun _ _ _ _ _ => True) (fun _ U o U' => ∃ v L, o = .returned v ∧ own_Q (some (.int cc)) h0 n0 v U'.heap L ∧ FrameEnd U o U' L ({ frames := 0, cells := 0, slots := 0, locals := 0 } : Room).cells ({ frames := 0, cells := 0, slots := 0, locals := 0 } : Room).slots) := by
  refine MetFree.of_bodySF (plainFor_of_name pn_com_example_recourse_recourse_WriteOffActorRecordedAsPinLaw) hisR ?_
  intro p e s m args below meth c s₁ Bd hml0 hP hK
  obtain ⟨rfl, hZ, hh⟩ := hP
  have hx := Bd.exec
  have hby := Bd.bytes
  have hml : c.maxLocals = 2 := hml0
  have hown : s.vm.findClass "com/example/recourse/recourse/WriteOffActorRecordedAsPinLaw" = some m.cls := findClass_of_methodNamed Bd.named
  have hnm := (name_of_methodNamed Bd.named Bd.method).1
  have X0 : Stand p l e ({ frames := 0, cells := 0, slots := 0, locals := 0 } : Room) s m #[(.int dd), (.int xx)] below meth c s₁ [] 0 0 := Stand.of_body Bd
  have e0 : s₁.heap = h0 := by rw [← hh, Bd.state]; rfl
  have N0 := Fr.nil n0
  have pre0 : ∀ t, Steps p.tables e below (s₁.setTop (mkF m 0 #[.val (.int dd), .val (.int xx)] [])) t → Steps p.tables e below (s₁.setTop (entryFrame m #[(.int dd), (.int xx)] 2)) t := fun t k => castTop (ef_method_2_code_II m dd xx) k
  obtain ⟨fs, hr, hrun, hended, hW, hsame⟩ := X0.leave (v := some (.int (nar .char cc))) (fun h => by rw [Bd.returns] at h; cases h)
  refine ⟨_, _, pre0 _ ?_, hrun, hended, _, _, rfl, ?_, ⟨_, rfl⟩, hW, hsame.mono (by decide) (by decide)⟩
  · show Steps p.tables e below (s₁.setTop (mkF m 0 #[.val (.int dd), .val (.int xx)] [])) _
    refine XS.iloadN X0.here hx rfl (hb hby d_method_2_code_0) rfl ?_
    show Steps p.tables e below (s₁.setTop (mkF m 1 #[.val (.int dd), .val (.int xx)] [(.int dd)])) _
    refine XS.ifYes X0.here hx rfl (pc0 := 1) (pc' := 12) rfl (hb hby d_method_2_code_1) rfl (XT.i0_eq_t hd) (by decide) (by decide) ?_
    show Steps p.tables e below (s₁.setTop (mkF m 12 #[.val (.int dd), .val (.int xx)] [])) _
    refine XS.iloadN X0.here hx rfl (hb hby d_method_2_code_12) rfl ?_
    show Steps p.tables e below (s₁.setTop (mkF m 13 #[.val (.int dd), .val (.int xx)] [(.int xx)])) _
    refine XT.sipushV X0.here hx rfl (255 : Int32) (hb hby d_method_2_code_13) (by decide) ?_
    show Steps p.tables e below (s₁.setTop (mkF m 16 #[.val (.int dd), .val (.int xx)] [(.int (255 : Int32)), (.int xx)])) _
    refine XS.iand X0.here hx rfl (hb hby d_method_2_code_16) rfl ?_
    show Steps p.tables e below (s₁.setTop (mkF m 17 #[.val (.int dd), .val (.int xx)] [(.int (xx &&& (255 : Int32)))])) _
    refine XT.i2c X0.here hx rfl (hb hby d_method_2_code_17) rfl ?_
    show Steps p.tables e below (s₁.setTop (mkF m 18 #[.val (.int dd), .val (.int xx)] [(.int (xx &&& (255 : Int32)).toUInt32.toUInt16.toUInt32.toInt32)])) _
    rw [hdr.2.1 hd]
    show Steps p.tables e below (s₁.setTop (mkF m 18 #[.val (.int dd), .val (.int xx)] [(.int cc)])) _
    exact retN X0 hx (t := .char) Bd.returns (by simp) (hb hby d_method_2_code_18) hr
  · show own_Q (some (.int cc)) h0 n0 _ s₁.heap _
    rw [e0]
    exact ⟨congrArg (fun z => some (Value.int z)) hdr.2.2.1, N0, rfl⟩
theorem own_draw (l : Launch) (Z : State) (a0 : Array Value) (hw : ∀ d ∈ tables_1, d.before a0 Z = true) (ws : List Jvm.Cond) (dd xx cc : Int32) (h0 : Heap) (n0 : Nat) (Z0 : n0 ≤ h0.size) (hdr : own_dr dd xx cc) :
    MetFree l (⟨"com/example/recourse/recourse/WriteOffActorRecordedAsPinLaw", "draw", "(ZI)C"⟩ : MethodName) (head1 (Jvm.Cond.code (⟨"com/example/recourse/recourse/WriteOffActorRecordedAsPinLaw", "draw", "(ZI)C"⟩ : MethodName) method_2_code 2 (some .char) :: ws) ({ frames := 0, cells := 0, slots := 0, locals := 0 } : Room)) (fun a U => a = #[(.int dd), (.int xx)] ∧ Z.Warmed39 U.vm ∧ U.heap = h0) (fun _ _ _ _ _ => True) (fun _ U o U' => ∃ v L, o = .returned v ∧ own_Q (some (.int cc)) h0 n0 v U'.heap L ∧ FrameEnd U o U' L ({ frames := 0, cells := 0, slots := 0, locals := 0 } : Room).cells ({ frames := 0, cells := 0, slots := 0, locals := 0 } : Room).slots) := by
  by_cases hd : dd = 0
  · exact own_draw_f l Z a0 hw ws dd xx cc h0 n0 Z0 hdr hd
  · exact own_draw_t l Z a0 hw ws dd xx cc h0 n0 Z0 hdr hd
def own_QE (Z : State) (a : Addr) (h0 : Heap) (n0 : Nat) (v : Option Value) (h : Heap) (L : List Loc) : Prop := v = none ∧ Fr n0 L ∧ Keep h0 h [a] ∧ ∃ u k, a ≠ u ∧ own_St Z h a u k (0 : Int32) []
theorem d_jdk_42_method_149_code_0 : decode jdk_42_method_149_code 0 = .ok (.aload_n 0, 1) := by decide +kernel
theorem d_jdk_42_method_149_code_1 : decode jdk_42_method_149_code 1 = .ok (.invokespecial 1, 3) := by decide +kernel
theorem d_jdk_42_method_149_code_4 : decode jdk_42_method_149_code 4 = .ok (.iload_n 3, 1) := by decide +kernel
theorem d_jdk_42_method_149_code_5 : decode jdk_42_method_149_code 5 = .ok (.ifCond .ne 22, 3) := by decide +kernel
theorem d_jdk_42_method_149_code_8 : decode jdk_42_method_149_code 8 = .ok (.aload_n 0, 1) := by decide +kernel
theorem d_jdk_42_method_149_code_9 : decode jdk_42_method_149_code 9 = .ok (.ldc 7, 2) := by decide +kernel
theorem d_jdk_42_method_149_code_11 : decode jdk_42_method_149_code 11 = .ok (.getfield 9, 3) := by decide +kernel
theorem d_jdk_42_method_149_code_14 : decode jdk_42_method_149_code 14 = .ok (.putfield 9, 3) := by decide +kernel
theorem d_jdk_42_method_149_code_17 : decode jdk_42_method_149_code 17 = .ok (.aload_n 0, 1) := by decide +kernel
theorem d_jdk_42_method_149_code_18 : decode jdk_42_method_149_code 18 = .ok (.ldc 7, 2) := by decide +kernel
theorem d_jdk_42_method_149_code_20 : decode jdk_42_method_149_code 20 = .ok (.getfield 15, 3) := by decide +kernel
theorem d_jdk_42_method_149_code_23 : decode jdk_42_method_149_code 23 = .ok (.putfield 15, 3) := by decide +kernel
theorem d_jdk_42_method_149_code_26 : decode jdk_42_method_149_code 26 = .ok (.return_, 1) := by decide +kernel
theorem ef_jdk_42_method_149_code_AAIIN (m : MethodId) (x0 : Addr) (x1 : Addr) (x2 : Int32) (x3 : Int32) : entryFrame m #[(.ref x0), (.ref x1), (.int x2), (.int x3), .null] 6 = mkF m 0 #[.val (.ref x0), .val (.ref x1), .val (.int x2), .val (.int x3), .val .null, .unset] [] := by first | (simp [entryFrame, mkF, argsToLocals, Value.category]; done) | rfl
theorem pf_jdk_42_method_149_code : plainFor (⟨"java/lang/String", "<init>", "([CIILjava/lang/Void;)V"⟩ : MethodName) = true := by decide +kernel
set_option maxRecDepth 65536 in
set_option maxHeartbeats 40000000 in
theorem own_initE4 (l : Launch) (Z : State) (a0 : Array Value) (hw : ∀ d ∈ tables_1, d.before a0 Z = true) (ws : List Jvm.Cond) (a1 x1 : Addr) (kx : ClassId) (h0 : Heap) (n0 : Nat) (Z0 : n0 ≤ h0.size) (E1 : Exa Z h0 a1 "java/lang/String") (G1 : Fld Z h0 a1 "java/lang/String" "value" "[B" .null) (G2 : Fld Z h0 a1 "java/lang/String" "coder" "B" (.int (0 : Int32))) (VC : Arv Z h0 x1 kx .char (0 : Int32) [] (.int 0)) (g1 : n0 ≤ a1) (hEL : EW Z a0 [("java/lang/String", 7)]) :
    MetFree l (⟨"java/lang/String", "<init>", "([CIILjava/lang/Void;)V"⟩ : MethodName) (head1 (Jvm.Cond.code (⟨"java/lang/String", "<init>", "([CIILjava/lang/Void;)V"⟩ : MethodName) jdk_42_method_149_code 6 none :: ws) ({ frames := 1, cells := 4, slots := 8, locals := 12 } : Room)) (fun a U => a = #[(.ref a1), (.ref x1), (.int (0 : Int32)), (.int (0 : Int32)), .null] ∧ Z.Warmed39 U.vm ∧ U.heap = h0 ∧ CHv Z [("java/lang/String", 7)] U.vm h0) (fun _ _ _ _ _ => True) (fun _ U o U' => ∃ v L, o = .returned v ∧ own_QE Z a1 h0 n0 v U'.heap L ∧ CHr Z [("java/lang/String", 7)] U.vm U.heap U'.vm U'.heap ∧ ReturnedEndW U o U' L ({ frames := 1, cells := 4, slots := 8, locals := 12 } : Room).cells ({ frames := 1, cells := 4, slots := 8, locals := 12 } : Room).slots) := by
  refine MetFree.of_bodySF pf_jdk_42_method_149_code hisR ?_
  intro p e s m args below meth c s₁ Bd hml0 hP hK
  obtain ⟨rfl, hZ, hh, hCH⟩ := hP
  have hx := Bd.exec
  have hby := Bd.bytes
  have hml : c.maxLocals = 6 := hml0
  have hown : s.vm.findClass "java/lang/String" = some m.cls := findClass_of_methodNamed Bd.named
  have hnm := (name_of_methodNamed Bd.named Bd.method).1
  have X0 : Stand p l e ({ frames := 1, cells := 4, slots := 8, locals := 12 } : Room) s m #[(.ref a1), (.ref x1), (.int (0 : Int32)), (.int (0 : Int32)), .null] below meth c s₁ [] 0 0 := Stand.of_body Bd
  have e0 : s₁.heap = h0 := by rw [← hh, Bd.state]; rfl
  have N0 := Fr.nil n0
  have pre0 : ∀ t, Steps p.tables e below (s₁.setTop (mkF m 0 #[.val (.ref a1), .val (.ref x1), .val (.int (0 : Int32)), .val (.int (0 : Int32)), .val .null, .unset] [])) t → Steps p.tables e below (s₁.setTop (entryFrame m #[(.ref a1), (.ref x1), (.int (0 : Int32)), (.int (0 : Int32)), .null] 6)) t := fun t k => castTop (ef_jdk_42_method_149_code_AAIIN m a1 x1 (0 : Int32) (0 : Int32)) k
  have Sf0 : Safe Z [("java/lang/String", 7)] s.vm h0 a1 := own_safe hZ.alike E1 G1
  obtain ⟨T1, X1, e1, st1⟩ := initO X0 hx hZ hown (hw _ (List.mem_of_getElem? (i := 15) rfl)) (hw _ (List.mem_of_getElem? (i := 16) rfl)) (hw _ (List.mem_of_getElem? (i := 17) rfl)) e0 (g := (mkF m 1 #[.val (.ref a1), .val (.ref x1), .val (.int (0 : Int32)), .val (.int (0 : Int32)), .val .null, .unset] [(.ref a1)])) rfl (by rw [hml]; rfl) rfl (hb hby d_jdk_42_method_149_code_1) (by decide) (W := 0) (by show 2 * 0 + _ ≤ _; exact Nat.le_of_eq rfl) (by decide)
  have hstr2 : ∀ a ∈ Bundle.stringAtoms, a.before a0 Z = true := fun d hd => hw d ((by decide +kernel : ∀ d ∈ Bundle.stringAtoms, d ∈ tables_1) d hd)
  obtain ⟨a2, T2, h2, k2, b2, kb2, X2, e2, E2, hS2, hk2, hZ2, hown2, EA2, FC2, FV2, AV2, la2, lb2, hCR2, -, NE2, st2⟩ := ldcCH (s := s) (vm0 := s.vm) X1 hx hZ hown (hw _ (List.mem_of_getElem? (i := 18) rfl)) hstr2 e1 ((State.WarmedH.refl s).since 0) (Nat.zero_le _) hEL (List.mem_of_getElem? (i := 0) rfl) hCH (vs := []) (z := (0 : Int32)) ⟨by simp, rfl⟩ (by decide) rfl (g := (mkF m 9 #[.val (.ref a1), .val (.ref x1), .val (.int (0 : Int32)), .val (.int (0 : Int32)), .val .null, .unset] [(.ref a1)])) rfl (hb hby d_jdk_42_method_149_code_9) (n := 0) (by decide) (by decide) (by decide) (by decide)
  have Sf2_a1 := hCR2.safe E1.lt Sf0
  have E1_3 := E1.ext E2
  have G1_4 := G1.ext E2
  have G2_5 := G2.ext E2
  have K2 : Keep h0 h2 [a1] := (Keep.refl _ _).ext E2
  have Z2 : n0 ≤ h2.size := Nat.le_trans Z0 K2.1
  obtain ⟨T6, X6, e6, st6⟩ := getF X2 hx hZ2 hown2 (host := "") (Or.inl (hw _ (List.mem_of_getElem? (i := 24) rfl))) Via.refl e2 FV2 (g := (mkF m 11 #[.val (.ref a1), .val (.ref x1), .val (.int (0 : Int32)), .val (.int (0 : Int32)), .val .null, .unset] [(.ref a2), (.ref a1)])) rfl rfl (hb hby d_jdk_42_method_149_code_11)
  obtain ⟨T7, h7, X7, e7, W7, st7⟩ := putF X6 hx hZ2 hown2 (host := "") (Or.inl (hw _ (List.mem_of_getElem? (i := 24) rfl))) Via.refl e6 G1_4 E1_3 (Or.inr ⟨(hw _ (List.mem_of_getElem? (i := 20) rfl)), rfl, hnm⟩) (hw _ (List.mem_of_getElem? (i := 5) rfl)) (ty := (.array .byte)) (by decide) rfl rfl (g := (mkF m 14 #[.val (.ref a1), .val (.ref x1), .val (.int (0 : Int32)), .val (.int (0 : Int32)), .val .null, .unset] [(.ref b2), (.ref a1)])) rfl rfl (hb hby d_jdk_42_method_149_code_14)
  have hCR7 : CHr Z [("java/lang/String", 7)] T2.vm h2 T2.vm h7 := CHr.wr W7 Sf2_a1 hCR2.1
  have Sf7_a1 := Safe.wr W7 Sf2_a1 hCR2.1 Sf2_a1
  have hCA7 := hCR2.trans hCR7
  have E1_8 := E1_3.wr W7
  have G2_9 := G2_5.other W7 (Or.inr (slot_ne (Or.inr (hw _ (List.mem_of_getElem? (i := 21) rfl))) (Or.inr (hw _ (List.mem_of_getElem? (i := 20) rfl))) (by decide) (t := .byte) (t' := (.array .byte)) (by decide) (by decide)))
  have EA2_10 := EA2.wr W7
  have FV2_11 := FV2.other W7 (Or.inl (Ne.symm (NE2 _ Sf2_a1).1))
  have FC2_12 := FC2.other W7 (Or.inl (Ne.symm (NE2 _ Sf2_a1).1))
  have AV2_13 := AV2.other W7 (Ne.symm (NE2 _ Sf2_a1).2)
  have K7 : Keep h0 h7 [a1] := K2.wr W7 (Or.inl (List.mem_of_getElem? (i := 0) rfl))
  have Z7 : n0 ≤ h7.size := Nat.le_trans Z0 K7.1
  have N7 := Fr.snoc X7 N0 g1
  have hk7 := Nat.le_trans hk2 (Nat.le_of_eq (W7.size).symm)
  have Fvalue_14 : Fld Z h7 a1 "java/lang/String" "value" "[B" (.ref b2) := G1_4.same W7
  have hstr15 : ∀ a ∈ Bundle.stringAtoms, a.before a0 Z = true := fun d hd => hw d ((by decide +kernel : ∀ d ∈ Bundle.stringAtoms, d ∈ tables_1) d hd)
  obtain ⟨a15, T15, h15, k15, b15, kb15, X15, e15, E15, hS15, hk15, hZ15, hown15, EA15, FC15, FV15, AV15, la15, lb15, hCR15, -, NE15, st15⟩ := ldcCH (s := s) (vm0 := T2.vm) X7 hx hZ2 hown2 (hw _ (List.mem_of_getElem? (i := 18) rfl)) hstr15 e7 hS2 hk7 hEL (List.mem_of_getElem? (i := 0) rfl) hCR7.1 (vs := []) (z := (0 : Int32)) ⟨by simp, rfl⟩ (by decide) rfl (g := (mkF m 18 #[.val (.ref a1), .val (.ref x1), .val (.int (0 : Int32)), .val (.int (0 : Int32)), .val .null, .unset] [(.ref a1)])) rfl (hb hby d_jdk_42_method_149_code_18) (n := 0) (by decide) (by decide) (by decide) (by decide)
  have Sf15_a1 := hCR15.safe E1_8.lt Sf7_a1
  have hCA15 := hCA7.trans hCR15
  have E1_16 := E1_8.ext E15
  have Fvalue_17 := Fvalue_14.ext E15
  have G2_18 := G2_9.ext E15
  have EA2_19 := EA2_10.ext E15
  have FV2_20 := FV2_11.ext E15
  have FC2_21 := FC2_12.ext E15
  have AV2_22 := AV2_13.ext E15
  have K15 : Keep h0 h15 [a1] := K7.ext E15
  have Z15 : n0 ≤ h15.size := Nat.le_trans Z0 K15.1
  obtain ⟨T23, X23, e23, st23⟩ := getF X15 hx hZ15 hown15 (host := "") (Or.inl (hw _ (List.mem_of_getElem? (i := 25) rfl))) Via.refl e15 FC15 (g := (mkF m 20 #[.val (.ref a1), .val (.ref x1), .val (.int (0 : Int32)), .val (.int (0 : Int32)), .val .null, .unset] [(.ref a15), (.ref a1)])) rfl rfl (hb hby d_jdk_42_method_149_code_20)
  obtain ⟨T24, h24, X24, e24, W24, st24⟩ := putF X23 hx hZ15 hown15 (host := "") (Or.inl (hw _ (List.mem_of_getElem? (i := 25) rfl))) Via.refl e23 G2_18 E1_16 (Or.inr ⟨(hw _ (List.mem_of_getElem? (i := 21) rfl)), rfl, hnm⟩) (hw _ (List.mem_of_getElem? (i := 5) rfl)) (ty := .byte) (by decide) (by decide) (by decide) (g := (mkF m 23 #[.val (.ref a1), .val (.ref x1), .val (.int (0 : Int32)), .val (.int (0 : Int32)), .val .null, .unset] [(.int (0 : Int32)), (.ref a1)])) rfl rfl (hb hby d_jdk_42_method_149_code_23)
  have hCR24 : CHr Z [("java/lang/String", 7)] T15.vm h15 T15.vm h24 := CHr.wr W24 Sf15_a1 hCR15.1
  have Sf24_a1 := Safe.wr W24 Sf15_a1 hCR15.1 Sf15_a1
  have hCA24 := hCA15.trans hCR24
  have E1_25 := E1_16.wr W24
  have Fvalue_26 := Fvalue_17.other W24 (Or.inr (slot_ne (Or.inr (hw _ (List.mem_of_getElem? (i := 20) rfl))) (Or.inr (hw _ (List.mem_of_getElem? (i := 21) rfl))) (by decide) (t := (.array .byte)) (t' := .byte) (by decide) (by decide)))
  have EA2_27 := EA2_19.wr W24
  have FV2_28 := FV2_20.other W24 (Or.inl (Ne.symm (NE2 _ Sf2_a1).1))
  have FC2_29 := FC2_21.other W24 (Or.inl (Ne.symm (NE2 _ Sf2_a1).1))
  have AV2_30 := AV2_22.other W24 (Ne.symm (NE2 _ Sf2_a1).2)
  have EA15_31 := EA15.wr W24
  have FV15_32 := FV15.other W24 (Or.inl (Ne.symm (NE15 _ Sf15_a1).1))
  have FC15_33 := FC15.other W24 (Or.inl (Ne.symm (NE15 _ Sf15_a1).1))
  have AV15_34 := AV15.other W24 (Ne.symm (NE15 _ Sf15_a1).2)
  have K24 : Keep h0 h24 [a1] := K15.wr W24 (Or.inl (List.mem_of_getElem? (i := 0) rfl))
  have Z24 : n0 ≤ h24.size := Nat.le_trans Z0 K24.1
  have N24 := Fr.snoc X24 N7 g1
  have hk24 := Nat.le_trans hk15 (Nat.le_of_eq (W24.size).symm)
  have Fcoder_35 : Fld Z h24 a1 "java/lang/String" "coder" "B" (.int (0 : Int32)) := G2_18.same W24
  have hCHe : CHr Z [("java/lang/String", 7)] s.vm s.heap T24.vm T24.heap := by
    rw [hh, e24]
    exact hCA24.trans (CHv.at (s := s) (vm0 := T15.vm) X24 hZ15 hEL hCR24.1)
  obtain ⟨fs, hr, hrun, hended, hRE⟩ := Jvm.Stand.leaveW (s := s) (vm₁ := T15.vm) X24 hS15 (Nat.le_trans hk24 (Nat.le_of_eq (congrArg Array.size e24.symm))) (v := none) (fun _ => rfl)
  refine ⟨_, _, pre0 _ ?_, hrun, hended, _, _, rfl, ?_, hCHe, ⟨_, rfl⟩, hRE.2.1, hRE.2.2.1, hRE.2.2.2.mono (by decide) (by decide)⟩
  · show Steps p.tables e below (s₁.setTop (mkF m 0 #[.val (.ref a1), .val (.ref x1), .val (.int (0 : Int32)), .val (.int (0 : Int32)), .val .null, .unset] [])) _
    refine XS.aloadN X0.here hx rfl (hb hby d_jdk_42_method_149_code_0) rfl rfl ?_
    show Steps p.tables e below (s₁.setTop (mkF m 1 #[.val (.ref a1), .val (.ref x1), .val (.int (0 : Int32)), .val (.int (0 : Int32)), .val .null, .unset] [(.ref a1)])) _
    refine st1 _ ?_
    show Steps p.tables e below (T1.setTop (mkF m 4 #[.val (.ref a1), .val (.ref x1), .val (.int (0 : Int32)), .val (.int (0 : Int32)), .val .null, .unset] [])) _
    refine XS.iloadN X1.here hx rfl (hb hby d_jdk_42_method_149_code_4) rfl ?_
    show Steps p.tables e below (T1.setTop (mkF m 5 #[.val (.ref a1), .val (.ref x1), .val (.int (0 : Int32)), .val (.int (0 : Int32)), .val .null, .unset] [(.int (0 : Int32))])) _
    refine XS.ifNo X1.here hx rfl (hb hby d_jdk_42_method_149_code_5) rfl (by decide) ?_
    show Steps p.tables e below (T1.setTop (mkF m 8 #[.val (.ref a1), .val (.ref x1), .val (.int (0 : Int32)), .val (.int (0 : Int32)), .val .null, .unset] [])) _
    refine XS.aloadN X1.here hx rfl (hb hby d_jdk_42_method_149_code_8) rfl rfl ?_
    show Steps p.tables e below (T1.setTop (mkF m 9 #[.val (.ref a1), .val (.ref x1), .val (.int (0 : Int32)), .val (.int (0 : Int32)), .val .null, .unset] [(.ref a1)])) _
    refine st2 _ ?_
    show Steps p.tables e below (T2.setTop (mkF m 11 #[.val (.ref a1), .val (.ref x1), .val (.int (0 : Int32)), .val (.int (0 : Int32)), .val .null, .unset] [(.ref a2), (.ref a1)])) _
    refine st6 _ ?_
    show Steps p.tables e below (T6.setTop (mkF m 14 #[.val (.ref a1), .val (.ref x1), .val (.int (0 : Int32)), .val (.int (0 : Int32)), .val .null, .unset] [(.ref b2), (.ref a1)])) _
    refine st7 _ ?_
    show Steps p.tables e below (T7.setTop (mkF m 17 #[.val (.ref a1), .val (.ref x1), .val (.int (0 : Int32)), .val (.int (0 : Int32)), .val .null, .unset] [])) _
    refine XS.aloadN X7.here hx rfl (hb hby d_jdk_42_method_149_code_17) rfl rfl ?_
    show Steps p.tables e below (T7.setTop (mkF m 18 #[.val (.ref a1), .val (.ref x1), .val (.int (0 : Int32)), .val (.int (0 : Int32)), .val .null, .unset] [(.ref a1)])) _
    refine st15 _ ?_
    show Steps p.tables e below (T15.setTop (mkF m 20 #[.val (.ref a1), .val (.ref x1), .val (.int (0 : Int32)), .val (.int (0 : Int32)), .val .null, .unset] [(.ref a15), (.ref a1)])) _
    refine st23 _ ?_
    show Steps p.tables e below (T23.setTop (mkF m 23 #[.val (.ref a1), .val (.ref x1), .val (.int (0 : Int32)), .val (.int (0 : Int32)), .val .null, .unset] [(.int (0 : Int32)), (.ref a1)])) _
    refine st24 _ ?_
    show Steps p.tables e below (T24.setTop (mkF m 26 #[.val (.ref a1), .val (.ref x1), .val (.int (0 : Int32)), .val (.int (0 : Int32)), .val .null, .unset] [])) _
    exact X24.returnOut hx Bd.returns (hb hby d_jdk_42_method_149_code_26) hr
  · show own_QE Z a1 h0 n0 _ T24.heap _
    rw [e24]
    exact ⟨rfl, N24, K24, b2, kb2, (NE2 _ Sf2_a1).2, ⟨E1_25, Fvalue_26, Fcoder_35, AV2_30⟩⟩
theorem d_jdk_42_method_3_code_0 : decode jdk_42_method_3_code 0 = .ok (.aload_n 0, 1) := by decide +kernel
theorem d_jdk_42_method_3_code_1 : decode jdk_42_method_3_code 1 = .ok (.aload_n 1, 1) := by decide +kernel
theorem d_jdk_42_method_3_code_2 : decode jdk_42_method_3_code 2 = .ok (.iconst 0, 1) := by decide +kernel
theorem d_jdk_42_method_3_code_3 : decode jdk_42_method_3_code 3 = .ok (.aload_n 1, 1) := by decide +kernel
theorem d_jdk_42_method_3_code_4 : decode jdk_42_method_3_code 4 = .ok (.arraylength, 1) := by decide +kernel
theorem d_jdk_42_method_3_code_5 : decode jdk_42_method_3_code 5 = .ok (.aconst_null, 1) := by decide +kernel
theorem pd__ArCIILjava_lang_Void__V : parseMethodDescriptor "([CIILjava/lang/Void;)V" = some ⟨[(.array .char), .int, .int, (.object "java/lang/Void")], none⟩ := by decide +kernel
theorem d_jdk_42_method_3_code_6 : decode jdk_42_method_3_code 6 = .ok (.invokespecial 27, 3) := by decide +kernel
theorem d_jdk_42_method_3_code_9 : decode jdk_42_method_3_code 9 = .ok (.return_, 1) := by decide +kernel
theorem ef_jdk_42_method_3_code_AA (m : MethodId) (x0 : Addr) (x1 : Addr) : entryFrame m #[(.ref x0), (.ref x1)] 2 = mkF m 0 #[.val (.ref x0), .val (.ref x1)] [] := by first | (simp [entryFrame, mkF, argsToLocals, Value.category]; done) | rfl
theorem pf_jdk_42_method_3_code : plainFor (⟨"java/lang/String", "<init>", "([C)V"⟩ : MethodName) = true := by decide +kernel
set_option maxRecDepth 65536 in
set_option maxHeartbeats 40000000 in
theorem own_initE (l : Launch) (Z : State) (a0 : Array Value) (hw : ∀ d ∈ tables_1, d.before a0 Z = true) (ws : List Jvm.Cond) (a1 x1 : Addr) (kx : ClassId) (h0 : Heap) (n0 : Nat) (Z0 : n0 ≤ h0.size) (E1 : Exa Z h0 a1 "java/lang/String") (G1 : Fld Z h0 a1 "java/lang/String" "value" "[B" .null) (G2 : Fld Z h0 a1 "java/lang/String" "coder" "B" (.int (0 : Int32))) (VC : Arv Z h0 x1 kx .char (0 : Int32) [] (.int 0)) (g1 : n0 ≤ a1) (hEL : EW Z a0 [("java/lang/String", 7)]) :
    MetFree l (⟨"java/lang/String", "<init>", "([C)V"⟩ : MethodName) (head1 (Jvm.Cond.code (⟨"java/lang/String", "<init>", "([C)V"⟩ : MethodName) jdk_42_method_3_code 2 none :: ws) ({ frames := 2, cells := 4, slots := 8, locals := 29 } : Room)) (fun a U => a = #[(.ref a1), (.ref x1)] ∧ Z.Warmed39 U.vm ∧ U.heap = h0 ∧ CHv Z [("java/lang/String", 7)] U.vm h0) (fun _ _ _ _ _ => True) (fun _ U o U' => ∃ v L, o = .returned v ∧ own_QE Z a1 h0 n0 v U'.heap L ∧ CHr Z [("java/lang/String", 7)] U.vm U.heap U'.vm U'.heap ∧ ReturnedEndW U o U' L ({ frames := 2, cells := 4, slots := 8, locals := 29 } : Room).cells ({ frames := 2, cells := 4, slots := 8, locals := 29 } : Room).slots) := by
  refine MetFree.of_bodySF pf_jdk_42_method_3_code hisR ?_
  intro p e s m args below meth c s₁ Bd hml0 hP hK
  obtain ⟨rfl, hZ, hh, hCH⟩ := hP
  have hx := Bd.exec
  have hby := Bd.bytes
  have hml : c.maxLocals = 2 := hml0
  have hown : s.vm.findClass "java/lang/String" = some m.cls := findClass_of_methodNamed Bd.named
  have hnm := (name_of_methodNamed Bd.named Bd.method).1
  have X0 : Stand p l e ({ frames := 2, cells := 4, slots := 8, locals := 29 } : Room) s m #[(.ref a1), (.ref x1)] below meth c s₁ [] 0 0 := Stand.of_body Bd
  have e0 : s₁.heap = h0 := by rw [← hh, Bd.state]; rfl
  have N0 := Fr.nil n0
  have pre0 : ∀ t, Steps p.tables e below (s₁.setTop (mkF m 0 #[.val (.ref a1), .val (.ref x1)] [])) t → Steps p.tables e below (s₁.setTop (entryFrame m #[(.ref a1), (.ref x1)] 2)) t := fun t k => castTop (ef_jdk_42_method_3_code_AA m a1 x1) k
  have nx : a1 ≠ x1 := E1.neArv VC (hw _ (List.mem_of_getElem? (i := 5) rfl))
  obtain ⟨cl36, Ar36, -, Sz36, Nz36, -⟩ := id VC
  obtain ⟨_, _, ⟨T37, L37, k37, n37⟩, -, X37, hSb37, gb37, ⟨Lc37, hQ37, l37, y37, z37, hCR37⟩, st37⟩ := X0.specialBackS hx (y := (⟨"java/lang/String", "<init>", "([CIILjava/lang/Void;)V"⟩ : MethodName)) rfl hown (mvT hZ (hw _ (List.mem_of_getElem? (i := 11) rfl))) (mvT hZ (hw _ (List.mem_of_getElem? (i := 12) rfl))) (mvT hZ (hw _ (List.mem_of_getElem? (i := 14) rfl))) (by decide) (backOfSH (s := s) (vm0 := s.vm) (W := 0) (own_initE4 l Z a0 hw [] a1 x1 kx h0 n0 Z0 E1 G1 G2 VC g1 hEL) hZ (hw _ (List.mem_of_getElem? (i := 14) rfl)) (hw _ (List.mem_of_getElem? (i := 6) rfl)) (by decide) (by decide) hEL hCH) (g := (mkF m 6 #[.val (.ref a1), .val (.ref x1)] [.null, (.int (0 : Int32)), (.int (0 : Int32)), (.ref x1), (.ref a1)])) rfl (by rw [hml]; rfl) (Steps.refl _) (a := a1) (argsL := [(.ref x1), (.int (0 : Int32)), (.int (0 : Int32)), .null]) (rest := []) (lenOf pd__ArCIILjava_lang_Void__V rfl) rfl (by show 2 * 0 + _ ≤ _; exact Nat.le_of_eq rfl) (hb hby d_jdk_42_method_3_code_6) (fun _ _ => ⟨rfl, e0, (by decide : 0 + 4 ≤ _), (by decide : 0 + 8 ≤ _)⟩)
  dsimp only [Pt.U, Pt.locs, Pt.cells, Pt.slots] at X37 hSb37 gb37 l37 y37 z37 st37 hQ37 hCR37
  subst l37 y37 z37
  obtain ⟨X37r, hS37, hZ37, hown37⟩ := rebS (s := s) (vm0 := s.vm) ((State.WarmedH.refl s).since 0) (Nat.le_trans (Nat.zero_le _) (Nat.le_of_eq (congrArg Array.size e0.symm))) X37 hSb37 gb37 hZ hown
  obtain ⟨rfl, N37q, K37q, u37, ku37, nu37, B37q⟩ := hQ37
  have N37 := Fr.app N0 N37q
  have E1_38 := E1.keep K37q
  have VC_39 := VC.keep K37q (ninS (Ne.symm nx) nin0)
  have K37 : Keep h0 T37.heap [a1] := (Keep.refl h0 [a1]).trans K37q (allS (Or.inl (List.mem_of_getElem? (i := 0) rfl)) all0)
  have Z37 : n0 ≤ T37.heap.size := Nat.le_trans Z0 K37.1
  obtain ⟨E_40, Fvalue_41, Fcoder_42, V_43⟩ := id B37q
  have hCHe : CHr Z [("java/lang/String", 7)] s.vm s.heap T37.vm T37.heap := by
    rw [hh]
    exact hCR37.trans (CHv.at (s := s) (vm0 := T37.vm) X37r hZ37 hEL hCR37.1)
  obtain ⟨fs, hr, hrun, hended, hRE⟩ := Jvm.Stand.leaveW (s := s) (vm₁ := T37.vm) X37r hS37 (Nat.le_trans (Nat.le_refl _) (Nat.le_of_eq (congrArg Array.size (rfl : T37.heap = _).symm))) (v := none) (fun _ => rfl)
  refine ⟨_, _, pre0 _ ?_, hrun, hended, _, _, rfl, ?_, hCHe, ⟨_, rfl⟩, hRE.2.1, hRE.2.2.1, hRE.2.2.2.mono (by decide) (by decide)⟩
  · show Steps p.tables e below (s₁.setTop (mkF m 0 #[.val (.ref a1), .val (.ref x1)] [])) _
    refine XS.aloadN X0.here hx rfl (hb hby d_jdk_42_method_3_code_0) rfl rfl ?_
    show Steps p.tables e below (s₁.setTop (mkF m 1 #[.val (.ref a1), .val (.ref x1)] [(.ref a1)])) _
    refine XS.aloadN X0.here hx rfl (hb hby d_jdk_42_method_3_code_1) rfl rfl ?_
    show Steps p.tables e below (s₁.setTop (mkF m 2 #[.val (.ref a1), .val (.ref x1)] [(.ref x1), (.ref a1)])) _
    refine XT.iconstV X0.here hx rfl (0 : Int32) (hb hby d_jdk_42_method_3_code_2) rfl ?_
    show Steps p.tables e below (s₁.setTop (mkF m 3 #[.val (.ref a1), .val (.ref x1)] [(.int (0 : Int32)), (.ref x1), (.ref a1)])) _
    refine XS.aloadN X0.here hx rfl (hb hby d_jdk_42_method_3_code_3) rfl rfl ?_
    show Steps p.tables e below (s₁.setTop (mkF m 4 #[.val (.ref a1), .val (.ref x1)] [(.ref x1), (.int (0 : Int32)), (.ref x1), (.ref a1)])) _
    refine X0.arraylength hx (by rw [e0]; exact Ar36.1) (State.isArrayOf_alike hZ.alike Ar36.2.1) (g := (mkF m 4 #[.val (.ref a1), .val (.ref x1)] [(.ref x1), (.int (0 : Int32)), (.ref x1), (.ref a1)])) rfl rfl (hb hby d_jdk_42_method_3_code_4) _ ?_
    rw [len_of Sz36 Nz36]
    show Steps p.tables e below (s₁.setTop (mkF m 5 #[.val (.ref a1), .val (.ref x1)] [(.int (0 : Int32)), (.int (0 : Int32)), (.ref x1), (.ref a1)])) _
    refine XS.aconstNull X0.here hx rfl (hb hby d_jdk_42_method_3_code_5) ?_
    show Steps p.tables e below (s₁.setTop (mkF m 6 #[.val (.ref a1), .val (.ref x1)] [.null, (.int (0 : Int32)), (.int (0 : Int32)), (.ref x1), (.ref a1)])) _
    refine st37.trans ?_
    show Steps p.tables e below (T37.setTop (mkF m 9 #[.val (.ref a1), .val (.ref x1)] [])) _
    exact X37r.returnOut hx Bd.returns (hb hby d_jdk_42_method_3_code_9) hr
  · show own_QE Z a1 h0 n0 _ T37.heap _
    exact ⟨rfl, N37, K37, u37, ku37, nu37, ⟨E_40, Fvalue_41, Fcoder_42, V_43⟩⟩
theorem d_jdk_43_method_13_code_0 : decode jdk_43_method_13_code 0 = .ok (.aload_n 0, 1) := by decide +kernel
theorem d_jdk_43_method_13_code_1 : decode jdk_43_method_13_code 1 = .ok (.arraylength, 1) := by decide +kernel
theorem d_jdk_43_method_13_code_2 : decode jdk_43_method_13_code 2 = .ok (.aload_n 1, 1) := by decide +kernel
theorem d_jdk_43_method_13_code_3 : decode jdk_43_method_13_code 3 = .ok (.arraylength, 1) := by decide +kernel
theorem d_jdk_43_method_13_code_4 : decode jdk_43_method_13_code 4 = .ok (.if_icmp .ne 30, 3) := by decide +kernel
theorem d_jdk_43_method_13_code_34 : decode jdk_43_method_13_code 34 = .ok (.iconst 0, 1) := by decide +kernel
theorem d_jdk_43_method_13_code_35 : decode jdk_43_method_13_code 35 = .ok (.ireturn, 1) := by decide +kernel
theorem ef_jdk_43_method_13_code_AA (m : MethodId) (x0 : Addr) (x1 : Addr) : entryFrame m #[(.ref x0), (.ref x1)] 3 = mkF m 0 #[.val (.ref x0), .val (.ref x1), .unset] [] := by first | (simp [entryFrame, mkF, argsToLocals, Value.category]; done) | rfl
theorem pf_jdk_43_method_13_code : plainFor (⟨"java/lang/StringLatin1", "equals", "([B[B)Z"⟩ : MethodName) = true := by decide +kernel
set_option maxRecDepth 65536 in
set_option maxHeartbeats 40000000 in
theorem own_leq_ne (l : Launch) (Z : State) (a0 : Array Value) (hw : ∀ d ∈ tables_1, d.before a0 Z = true) (ws : List Jvm.Cond) (u1 u2 : Addr) (k1 k2 : ClassId) (x0 x1 : Int32) (nn : Int32) (ys : List Int32) (h0 : Heap) (n0 : Nat) (Z0 : n0 ≤ h0.size) (V1 : Arv Z h0 u1 k1 .byte (2 : Int32) ([x0, x1].map Value.int) (.int 0)) (V2 : Arv Z h0 u2 k2 .byte nn (ys.map Value.int) (.int 0)) (hnn : ¬ (2 : Int32) = nn) :
    MetFree l (⟨"java/lang/StringLatin1", "equals", "([B[B)Z"⟩ : MethodName) (head1 (Jvm.Cond.code (⟨"java/lang/StringLatin1", "equals", "([B[B)Z"⟩ : MethodName) jdk_43_method_13_code 3 (some .boolean) :: ws) ({ frames := 0, cells := 0, slots := 0, locals := 0 } : Room)) (fun a U => a = #[(.ref u1), (.ref u2)] ∧ Z.Warmed39 U.vm ∧ U.heap = h0) (fun _ _ _ _ _ => True) (fun _ U o U' => ∃ v L, o = .returned v ∧ own_Q (some (.int (0 : Int32))) h0 n0 v U'.heap L ∧ FrameEnd U o U' L ({ frames := 0, cells := 0, slots := 0, locals := 0 } : Room).cells ({ frames := 0, cells := 0, slots := 0, locals := 0 } : Room).slots) := by
  refine MetFree.of_bodySF pf_jdk_43_method_13_code hisR ?_
  intro p e s m args below meth c s₁ Bd hml0 hP hK
  obtain ⟨rfl, hZ, hh⟩ := hP
  have hx := Bd.exec
  have hby := Bd.bytes
  have hml : c.maxLocals = 3 := hml0
  have hown : s.vm.findClass "java/lang/StringLatin1" = some m.cls := findClass_of_methodNamed Bd.named
  have hnm := (name_of_methodNamed Bd.named Bd.method).1
  have X0 : Stand p l e ({ frames := 0, cells := 0, slots := 0, locals := 0 } : Room) s m #[(.ref u1), (.ref u2)] below meth c s₁ [] 0 0 := Stand.of_body Bd
  have e0 : s₁.heap = h0 := by rw [← hh, Bd.state]; rfl
  have N0 := Fr.nil n0
  have pre0 : ∀ t, Steps p.tables e below (s₁.setTop (mkF m 0 #[.val (.ref u1), .val (.ref u2), .unset] [])) t → Steps p.tables e below (s₁.setTop (entryFrame m #[(.ref u1), (.ref u2)] 3)) t := fun t k => castTop (ef_jdk_43_method_13_code_AA m u1 u2) k
  obtain ⟨cl44, Ar44, -, Sz44, Nz44, -⟩ := id V1
  obtain ⟨cl45, Ar45, -, Sz45, Nz45, -⟩ := id V2
  obtain ⟨fs, hr, hrun, hended, hW, hsame⟩ := X0.leave (v := some (.int (0 : Int32))) (fun h => by rw [Bd.returns] at h; cases h)
  refine ⟨_, _, pre0 _ ?_, hrun, hended, _, _, rfl, ?_, ⟨_, rfl⟩, hW, hsame.mono (by decide) (by decide)⟩
  · show Steps p.tables e below (s₁.setTop (mkF m 0 #[.val (.ref u1), .val (.ref u2), .unset] [])) _
    refine XS.aloadN X0.here hx rfl (hb hby d_jdk_43_method_13_code_0) rfl rfl ?_
    show Steps p.tables e below (s₁.setTop (mkF m 1 #[.val (.ref u1), .val (.ref u2), .unset] [(.ref u1)])) _
    refine X0.arraylength hx (by rw [e0]; exact Ar44.1) (State.isArrayOf_alike hZ.alike Ar44.2.1) (g := (mkF m 1 #[.val (.ref u1), .val (.ref u2), .unset] [(.ref u1)])) rfl rfl (hb hby d_jdk_43_method_13_code_1) _ ?_
    rw [len_of Sz44 Nz44]
    show Steps p.tables e below (s₁.setTop (mkF m 2 #[.val (.ref u1), .val (.ref u2), .unset] [(.int (2 : Int32))])) _
    refine XS.aloadN X0.here hx rfl (hb hby d_jdk_43_method_13_code_2) rfl rfl ?_
    show Steps p.tables e below (s₁.setTop (mkF m 3 #[.val (.ref u1), .val (.ref u2), .unset] [(.ref u2), (.int (2 : Int32))])) _
    refine X0.arraylength hx (by rw [e0]; exact Ar45.1) (State.isArrayOf_alike hZ.alike Ar45.2.1) (g := (mkF m 3 #[.val (.ref u1), .val (.ref u2), .unset] [(.ref u2), (.int (2 : Int32))])) rfl rfl (hb hby d_jdk_43_method_13_code_3) _ ?_
    rw [len_of Sz45 Nz45]
    show Steps p.tables e below (s₁.setTop (mkF m 4 #[.val (.ref u1), .val (.ref u2), .unset] [(.int nn), (.int (2 : Int32))])) _
    refine XS.icmpYes X0.here hx rfl (pc0 := 4) (pc' := 34) rfl (hb hby d_jdk_43_method_13_code_4) rfl (XT.ii_ne_t hnn) (by decide) (by decide) ?_
    show Steps p.tables e below (s₁.setTop (mkF m 34 #[.val (.ref u1), .val (.ref u2), .unset] [])) _
    refine XT.iconstV X0.here hx rfl (0 : Int32) (hb hby d_jdk_43_method_13_code_34) rfl ?_
    show Steps p.tables e below (s₁.setTop (mkF m 35 #[.val (.ref u1), .val (.ref u2), .unset] [(.int (0 : Int32))])) _
    exact retN X0 hx (t := .boolean) Bd.returns (by simp) (hb hby d_jdk_43_method_13_code_35) hr
  · show own_Q (some (.int (0 : Int32))) h0 n0 _ s₁.heap _
    rw [e0]
    exact ⟨rfl, N0, rfl⟩
theorem d_jdk_42_method_66_code_0 : decode jdk_42_method_66_code 0 = .ok (.aload_n 0, 1) := by decide +kernel
theorem d_jdk_42_method_66_code_1 : decode jdk_42_method_66_code 1 = .ok (.aload_n 1, 1) := by decide +kernel
theorem d_jdk_42_method_66_code_2 : decode jdk_42_method_66_code 2 = .ok (.if_acmp .ne 5, 3) := by decide +kernel
theorem d_jdk_42_method_66_code_7 : decode jdk_42_method_66_code 7 = .ok (.aload_n 1, 1) := by decide +kernel
theorem d_jdk_42_method_66_code_8 : decode jdk_42_method_66_code 8 = .ok (.instanceof 10, 3) := by decide +kernel
theorem d_jdk_42_method_66_code_11 : decode jdk_42_method_66_code 11 = .ok (.ifCond .eq 43, 3) := by decide +kernel
theorem d_jdk_42_method_66_code_14 : decode jdk_42_method_66_code 14 = .ok (.aload_n 1, 1) := by decide +kernel
theorem d_jdk_42_method_66_code_15 : decode jdk_42_method_66_code 15 = .ok (.checkcast 10, 3) := by decide +kernel
theorem d_jdk_42_method_66_code_18 : decode jdk_42_method_66_code 18 = .ok (.astore_n 2, 1) := by decide +kernel
theorem d_jdk_42_method_66_code_19 : decode jdk_42_method_66_code 19 = .ok (.getstatic 38, 3) := by decide +kernel
theorem d_jdk_42_method_66_code_22 : decode jdk_42_method_66_code 22 = .ok (.ifCond .eq 14, 3) := by decide +kernel
theorem d_jdk_42_method_66_code_25 : decode jdk_42_method_66_code 25 = .ok (.aload_n 0, 1) := by decide +kernel
theorem d_jdk_42_method_66_code_26 : decode jdk_42_method_66_code 26 = .ok (.getfield 15, 3) := by decide +kernel
theorem d_jdk_42_method_66_code_29 : decode jdk_42_method_66_code 29 = .ok (.aload_n 2, 1) := by decide +kernel
theorem d_jdk_42_method_66_code_30 : decode jdk_42_method_66_code 30 = .ok (.getfield 15, 3) := by decide +kernel
theorem d_jdk_42_method_66_code_33 : decode jdk_42_method_66_code 33 = .ok (.if_icmp .ne 21, 3) := by decide +kernel
theorem d_jdk_42_method_66_code_36 : decode jdk_42_method_66_code 36 = .ok (.aload_n 0, 1) := by decide +kernel
theorem d_jdk_42_method_66_code_37 : decode jdk_42_method_66_code 37 = .ok (.getfield 9, 3) := by decide +kernel
theorem d_jdk_42_method_66_code_40 : decode jdk_42_method_66_code 40 = .ok (.aload_n 2, 1) := by decide +kernel
theorem d_jdk_42_method_66_code_41 : decode jdk_42_method_66_code 41 = .ok (.getfield 9, 3) := by decide +kernel
theorem pd__ArBArB_Z : parseMethodDescriptor "([B[B)Z" = some ⟨[(.array .byte), (.array .byte)], (some .boolean)⟩ := by decide +kernel
theorem d_jdk_42_method_66_code_44 : decode jdk_42_method_66_code 44 = .ok (.invokestatic 541, 3) := by decide +kernel
theorem d_jdk_42_method_66_code_47 : decode jdk_42_method_66_code 47 = .ok (.ifCond .eq 7, 3) := by decide +kernel
theorem d_jdk_42_method_66_code_54 : decode jdk_42_method_66_code 54 = .ok (.iconst 0, 1) := by decide +kernel
theorem d_jdk_42_method_66_code_55 : decode jdk_42_method_66_code 55 = .ok (.ireturn, 1) := by decide +kernel
theorem ef_jdk_42_method_66_code_AA (m : MethodId) (x0 : Addr) (x1 : Addr) : entryFrame m #[(.ref x0), (.ref x1)] 3 = mkF m 0 #[.val (.ref x0), .val (.ref x1), .unset] [] := by first | (simp [entryFrame, mkF, argsToLocals, Value.category]; done) | rfl
theorem pf_jdk_42_method_66_code : plainFor (⟨"java/lang/String", "equals", "(Ljava/lang/Object;)Z"⟩ : MethodName) = true := by decide +kernel
set_option maxRecDepth 65536 in
set_option maxHeartbeats 40000000 in
theorem own_eq_ne (l : Launch) (Z : State) (a0 : Array Value) (hw : ∀ d ∈ tables_1, d.before a0 Z = true) (ws : List Jvm.Cond) (a1 a2 u1 u2 : Addr) (k1 k2 : ClassId) (i7 x0 x1 : Int32) (nn : Int32) (ys : List Int32) (h0 : Heap) (n0 : Nat) (Z0 : n0 ≤ h0.size) (P1 : own_St Z h0 a1 u1 k1 (2 : Int32) [x0, x1]) (P2 : own_St Z h0 a2 u2 k2 nn ys) (S8 : Sta Z h0 "java/lang/String" "COMPACT_STRINGS" "Z" (.int i7)) (c9 : ¬ (i7 = (0 : Int32))) (hne : a1 ≠ a2) (hnn : ¬ (2 : Int32) = nn) :
    MetFree l (⟨"java/lang/String", "equals", "(Ljava/lang/Object;)Z"⟩ : MethodName) (head1 (Jvm.Cond.code (⟨"java/lang/String", "equals", "(Ljava/lang/Object;)Z"⟩ : MethodName) jdk_42_method_66_code 3 (some .boolean) :: ws) ({ frames := 1, cells := 0, slots := 0, locals := 14 } : Room)) (fun a U => a = #[(.ref a1), (.ref a2)] ∧ Z.Warmed39 U.vm ∧ U.heap = h0) (fun _ _ _ _ _ => True) (fun _ U o U' => ∃ v L, o = .returned v ∧ own_Q (some (.int (0 : Int32))) h0 n0 v U'.heap L ∧ FrameEnd U o U' L ({ frames := 1, cells := 0, slots := 0, locals := 14 } : Room).cells ({ frames := 1, cells := 0, slots := 0, locals := 14 } : Room).slots) := by
  refine MetFree.of_bodySF pf_jdk_42_method_66_code hisR ?_
  intro p e s m args below meth c s₁ Bd hml0 hP hK
  obtain ⟨rfl, hZ, hh⟩ := hP
  have hx := Bd.exec
  have hby := Bd.bytes
  have hml : c.maxLocals = 3 := hml0
  have hown : s.vm.findClass "java/lang/String" = some m.cls := findClass_of_methodNamed Bd.named
  have hnm := (name_of_methodNamed Bd.named Bd.method).1
  have X0 : Stand p l e ({ frames := 1, cells := 0, slots := 0, locals := 14 } : Room) s m #[(.ref a1), (.ref a2)] below meth c s₁ [] 0 0 := Stand.of_body Bd
  have e0 : s₁.heap = h0 := by rw [← hh, Bd.state]; rfl
  have N0 := Fr.nil n0
  have pre0 : ∀ t, Steps p.tables e below (s₁.setTop (mkF m 0 #[.val (.ref a1), .val (.ref a2), .unset] [])) t → Steps p.tables e below (s₁.setTop (entryFrame m #[(.ref a1), (.ref a2)] 3)) t := fun t k => castTop (ef_jdk_42_method_66_code_AA m a1 a2) k
  obtain ⟨E_46, Fvalue_47, Fcoder_48, V_49⟩ := id P1
  obtain ⟨E_50, Fvalue_51, Fcoder_52, V_53⟩ := id P2
  obtain ⟨T54, X54, e54, st54⟩ := instY X0 hx hZ hown (hw _ (List.mem_of_getElem? (i := 63) rfl)) e0 (Ins.self E_50) (g := (mkF m 8 #[.val (.ref a1), .val (.ref a2), .unset] [(.ref a2)])) rfl rfl (hb hby d_jdk_42_method_66_code_8)
  obtain ⟨T55, X55, e55, st55⟩ := castY X54 hx hZ hown (hw _ (List.mem_of_getElem? (i := 63) rfl)) e54 (Ins.self E_50) (g := (mkF m 15 #[.val (.ref a1), .val (.ref a2), .unset] [(.ref a2)])) rfl rfl (hb hby d_jdk_42_method_66_code_15)
  obtain ⟨T56, X56, e56, st56⟩ := getS2 X55 hx hZ hown (host := "") (Or.inl (hw _ (List.mem_of_getElem? (i := 64) rfl))) Via.refl e55 S8 (g := (mkF m 19 #[.val (.ref a1), .val (.ref a2), .val (.ref a2)] [])) rfl (hb hby d_jdk_42_method_66_code_19)
  obtain ⟨T57, X57, e57, st57⟩ := getF X56 hx hZ hown (host := "") (Or.inl (hw _ (List.mem_of_getElem? (i := 25) rfl))) Via.refl e56 Fcoder_48 (g := (mkF m 26 #[.val (.ref a1), .val (.ref a2), .val (.ref a2)] [(.ref a1)])) rfl rfl (hb hby d_jdk_42_method_66_code_26)
  obtain ⟨T58, X58, e58, st58⟩ := getF X57 hx hZ hown (host := "") (Or.inl (hw _ (List.mem_of_getElem? (i := 25) rfl))) Via.refl e57 Fcoder_52 (g := (mkF m 30 #[.val (.ref a1), .val (.ref a2), .val (.ref a2)] [(.ref a2), (.int (0 : Int32))])) rfl rfl (hb hby d_jdk_42_method_66_code_30)
  obtain ⟨T59, X59, e59, st59⟩ := getF X58 hx hZ hown (host := "") (Or.inl (hw _ (List.mem_of_getElem? (i := 24) rfl))) Via.refl e58 Fvalue_47 (g := (mkF m 37 #[.val (.ref a1), .val (.ref a2), .val (.ref a2)] [(.ref a1)])) rfl rfl (hb hby d_jdk_42_method_66_code_37)
  obtain ⟨T60, X60, e60, st60⟩ := getF X59 hx hZ hown (host := "") (Or.inl (hw _ (List.mem_of_getElem? (i := 24) rfl))) Via.refl e59 Fvalue_51 (g := (mkF m 41 #[.val (.ref a1), .val (.ref a2), .val (.ref a2)] [(.ref a2), (.ref u1)])) rfl rfl (hb hby d_jdk_42_method_66_code_41)
  obtain ⟨_, _, ⟨T61, L61, k61, n61⟩, -, X61, ⟨Lc61, hQ61, l61, y61, z61⟩, st61⟩ := Jvm.LawKit.callS X60 hx (y := (⟨"java/lang/StringLatin1", "equals", "([B[B)Z"⟩ : MethodName)) hown (mvT hZ (hw _ (List.mem_of_getElem? (i := 65) rfl))) (mvT hZ (hw _ (List.mem_of_getElem? (i := 66) rfl))) (mvT hZ (hw _ (List.mem_of_getElem? (i := 67) rfl))) (mvT hZ (hw _ (List.mem_of_getElem? (i := 68) rfl))) (by decide) (backOf (W := 0) (own_leq_ne l Z a0 hw [] u1 u2 k1 k2 x0 x1 nn ys h0 n0 Z0 V_49 V_53 hnn) hZ (hw _ (List.mem_of_getElem? (i := 68) rfl)) (hw _ (List.mem_of_getElem? (i := 67) rfl)) (by decide) (by decide)) (g := (mkF m 44 #[.val (.ref a1), .val (.ref a2), .val (.ref a2)] [(.ref u2), (.ref u1)])) rfl (by rw [hml]; rfl) (argsL := [(.ref u1), (.ref u2)]) (rest := []) (lenOf pd__ArBArB_Z rfl) rfl (by show 2 * 0 + _ ≤ _; exact Nat.le_of_eq rfl) (hb hby d_jdk_42_method_66_code_44) (fun _ _ => ⟨rfl, e60, (by decide : 0 + 0 ≤ _), (by decide : 0 + 0 ≤ _)⟩)
  dsimp only [Pt.U, Pt.locs, Pt.cells, Pt.slots] at X61 l61 y61 z61 st61 hQ61
  subst l61 y61 z61
  obtain ⟨rfl, N61q, e61⟩ := hQ61
  have N61 := Fr.app N0 N61q
  obtain ⟨fs, hr, hrun, hended, hW, hsame⟩ := X61.leave (v := some (.int (0 : Int32))) (fun h => by rw [Bd.returns] at h; cases h)
  refine ⟨_, _, pre0 _ ?_, hrun, hended, _, _, rfl, ?_, ⟨_, rfl⟩, hW, hsame.mono (by decide) (by decide)⟩
  · show Steps p.tables e below (s₁.setTop (mkF m 0 #[.val (.ref a1), .val (.ref a2), .unset] [])) _
    refine XS.aloadN X0.here hx rfl (hb hby d_jdk_42_method_66_code_0) rfl rfl ?_
    show Steps p.tables e below (s₁.setTop (mkF m 1 #[.val (.ref a1), .val (.ref a2), .unset] [(.ref a1)])) _
    refine XS.aloadN X0.here hx rfl (hb hby d_jdk_42_method_66_code_1) rfl rfl ?_
    show Steps p.tables e below (s₁.setTop (mkF m 2 #[.val (.ref a1), .val (.ref a2), .unset] [(.ref a2), (.ref a1)])) _
    refine Jvm.RoadKit.acmp (g := (mkF m 2 #[.val (.ref a1), .val (.ref a2), .unset] [(.ref a2), (.ref a1)])) X0 hx rfl rfl rfl (pc0 := 2) (pc' := 7) (same := false) rfl (hb hby d_jdk_42_method_66_code_2) rfl (decide_eq_false (fun q => hne (Value.ref.inj q))) (by decide) (by decide) ?_
    show Steps p.tables e below (s₁.setTop (mkF m 7 #[.val (.ref a1), .val (.ref a2), .unset] [])) _
    refine XS.aloadN X0.here hx rfl (hb hby d_jdk_42_method_66_code_7) rfl rfl ?_
    show Steps p.tables e below (s₁.setTop (mkF m 8 #[.val (.ref a1), .val (.ref a2), .unset] [(.ref a2)])) _
    refine st54 _ ?_
    show Steps p.tables e below (T54.setTop (mkF m 11 #[.val (.ref a1), .val (.ref a2), .unset] [(.int (1 : Int32))])) _
    refine XS.ifNo X54.here hx rfl (hb hby d_jdk_42_method_66_code_11) rfl (by decide) ?_
    show Steps p.tables e below (T54.setTop (mkF m 14 #[.val (.ref a1), .val (.ref a2), .unset] [])) _
    refine XS.aloadN X54.here hx rfl (hb hby d_jdk_42_method_66_code_14) rfl rfl ?_
    show Steps p.tables e below (T54.setTop (mkF m 15 #[.val (.ref a1), .val (.ref a2), .unset] [(.ref a2)])) _
    refine st55 _ ?_
    show Steps p.tables e below (T55.setTop (mkF m 18 #[.val (.ref a1), .val (.ref a2), .unset] [(.ref a2)])) _
    refine XS.astoreN X55.here hx rfl (hb hby d_jdk_42_method_66_code_18) rfl rfl (l' := #[.val (.ref a1), .val (.ref a2), .val (.ref a2)]) rfl ?_
    show Steps p.tables e below (T55.setTop (mkF m 19 #[.val (.ref a1), .val (.ref a2), .val (.ref a2)] [])) _
    refine st56 _ ?_
    show Steps p.tables e below (T56.setTop (mkF m 22 #[.val (.ref a1), .val (.ref a2), .val (.ref a2)] [(.int i7)])) _
    refine XS.ifNo X56.here hx rfl (hb hby d_jdk_42_method_66_code_22) rfl (XT.i0_eq_f c9) ?_
    show Steps p.tables e below (T56.setTop (mkF m 25 #[.val (.ref a1), .val (.ref a2), .val (.ref a2)] [])) _
    refine XS.aloadN X56.here hx rfl (hb hby d_jdk_42_method_66_code_25) rfl rfl ?_
    show Steps p.tables e below (T56.setTop (mkF m 26 #[.val (.ref a1), .val (.ref a2), .val (.ref a2)] [(.ref a1)])) _
    refine st57 _ ?_
    show Steps p.tables e below (T57.setTop (mkF m 29 #[.val (.ref a1), .val (.ref a2), .val (.ref a2)] [(.int (0 : Int32))])) _
    refine XS.aloadN X57.here hx rfl (hb hby d_jdk_42_method_66_code_29) rfl rfl ?_
    show Steps p.tables e below (T57.setTop (mkF m 30 #[.val (.ref a1), .val (.ref a2), .val (.ref a2)] [(.ref a2), (.int (0 : Int32))])) _
    refine st58 _ ?_
    show Steps p.tables e below (T58.setTop (mkF m 33 #[.val (.ref a1), .val (.ref a2), .val (.ref a2)] [(.int (0 : Int32)), (.int (0 : Int32))])) _
    refine XS.icmpNo X58.here hx rfl (hb hby d_jdk_42_method_66_code_33) rfl (by decide) ?_
    show Steps p.tables e below (T58.setTop (mkF m 36 #[.val (.ref a1), .val (.ref a2), .val (.ref a2)] [])) _
    refine XS.aloadN X58.here hx rfl (hb hby d_jdk_42_method_66_code_36) rfl rfl ?_
    show Steps p.tables e below (T58.setTop (mkF m 37 #[.val (.ref a1), .val (.ref a2), .val (.ref a2)] [(.ref a1)])) _
    refine st59 _ ?_
    show Steps p.tables e below (T59.setTop (mkF m 40 #[.val (.ref a1), .val (.ref a2), .val (.ref a2)] [(.ref u1)])) _
    refine XS.aloadN X59.here hx rfl (hb hby d_jdk_42_method_66_code_40) rfl rfl ?_
    show Steps p.tables e below (T59.setTop (mkF m 41 #[.val (.ref a1), .val (.ref a2), .val (.ref a2)] [(.ref a2), (.ref u1)])) _
    refine st60 _ ?_
    show Steps p.tables e below (T60.setTop (mkF m 44 #[.val (.ref a1), .val (.ref a2), .val (.ref a2)] [(.ref u2), (.ref u1)])) _
    refine st61 _ ?_
    show Steps p.tables e below (T61.setTop (mkF m 47 #[.val (.ref a1), .val (.ref a2), .val (.ref a2)] [(.int (0 : Int32))])) _
    refine XS.ifYes X61.here hx rfl (pc0 := 47) (pc' := 54) rfl (hb hby d_jdk_42_method_66_code_47) rfl (by decide) (by decide) (by decide) ?_
    show Steps p.tables e below (T61.setTop (mkF m 54 #[.val (.ref a1), .val (.ref a2), .val (.ref a2)] [])) _
    refine XT.iconstV X61.here hx rfl (0 : Int32) (hb hby d_jdk_42_method_66_code_54) rfl ?_
    show Steps p.tables e below (T61.setTop (mkF m 55 #[.val (.ref a1), .val (.ref a2), .val (.ref a2)] [(.int (0 : Int32))])) _
    exact retN X61 hx (t := .boolean) Bd.returns (by simp) (hb hby d_jdk_42_method_66_code_55) hr
  · show own_Q (some (.int (0 : Int32))) h0 n0 _ T61.heap _
    rw [e61]
    exact ⟨rfl, N61, rfl⟩
theorem d_jdk_43_method_13_code_7 : decode jdk_43_method_13_code 7 = .ok (.iconst 0, 1) := by decide +kernel
theorem d_jdk_43_method_13_code_8 : decode jdk_43_method_13_code 8 = .ok (.istore_n 2, 1) := by decide +kernel
theorem d_jdk_43_method_13_code_9 : decode jdk_43_method_13_code 9 = .ok (.iload_n 2, 1) := by decide +kernel
theorem d_jdk_43_method_13_code_10 : decode jdk_43_method_13_code 10 = .ok (.aload_n 0, 1) := by decide +kernel
theorem d_jdk_43_method_13_code_11 : decode jdk_43_method_13_code 11 = .ok (.arraylength, 1) := by decide +kernel
theorem d_jdk_43_method_13_code_12 : decode jdk_43_method_13_code 12 = .ok (.if_icmp .ge 20, 3) := by decide +kernel
theorem d_jdk_43_method_13_code_15 : decode jdk_43_method_13_code 15 = .ok (.aload_n 0, 1) := by decide +kernel
theorem d_jdk_43_method_13_code_16 : decode jdk_43_method_13_code 16 = .ok (.iload_n 2, 1) := by decide +kernel
theorem d_jdk_43_method_13_code_17 : decode jdk_43_method_13_code 17 = .ok (.baload, 1) := by decide +kernel
theorem d_jdk_43_method_13_code_18 : decode jdk_43_method_13_code 18 = .ok (.aload_n 1, 1) := by decide +kernel
theorem d_jdk_43_method_13_code_19 : decode jdk_43_method_13_code 19 = .ok (.iload_n 2, 1) := by decide +kernel
theorem d_jdk_43_method_13_code_20 : decode jdk_43_method_13_code 20 = .ok (.baload, 1) := by decide +kernel
theorem d_jdk_43_method_13_code_21 : decode jdk_43_method_13_code 21 = .ok (.if_icmp .eq 5, 3) := by decide +kernel
theorem d_jdk_43_method_13_code_24 : decode jdk_43_method_13_code 24 = .ok (.iconst 0, 1) := by decide +kernel
theorem d_jdk_43_method_13_code_25 : decode jdk_43_method_13_code 25 = .ok (.ireturn, 1) := by decide +kernel
set_option maxRecDepth 65536 in
set_option maxHeartbeats 40000000 in
theorem own_leq_s0 (l : Launch) (Z : State) (a0 : Array Value) (hw : ∀ d ∈ tables_1, d.before a0 Z = true) (ws : List Jvm.Cond) (u1 u2 : Addr) (k1 k2 : ClassId) (x0 x1 : Int32) (y0 y1 : Int32) (h0 : Heap) (n0 : Nat) (Z0 : n0 ≤ h0.size) (V1 : Arv Z h0 u1 k1 .byte (2 : Int32) ([x0, x1].map Value.int) (.int 0)) (V2 : Arv Z h0 u2 k2 .byte (2 : Int32) ([y0, y1].map Value.int) (.int 0)) (q0 : ¬ x0 = y0) :
    MetFree l (⟨"java/lang/StringLatin1", "equals", "([B[B)Z"⟩ : MethodName) (head1 (Jvm.Cond.code (⟨"java/lang/StringLatin1", "equals", "([B[B)Z"⟩ : MethodName) jdk_43_method_13_code 3 (some .boolean) :: ws) ({ frames := 0, cells := 0, slots := 0, locals := 0 } : Room)) (fun a U => a = #[(.ref u1), (.ref u2)] ∧ Z.Warmed39 U.vm ∧ U.heap = h0) (fun _ _ _ _ _ => True) (fun _ U o U' => ∃ v L, o = .returned v ∧ own_Q (some (.int (0 : Int32))) h0 n0 v U'.heap L ∧ FrameEnd U o U' L ({ frames := 0, cells := 0, slots := 0, locals := 0 } : Room).cells ({ frames := 0, cells := 0, slots := 0, locals := 0 } : Room).slots) := by
  refine MetFree.of_bodySF pf_jdk_43_method_13_code hisR ?_
  intro p e s m args below meth c s₁ Bd hml0 hP hK
  obtain ⟨rfl, hZ, hh⟩ := hP
  have hx := Bd.exec
  have hby := Bd.bytes
  have hml : c.maxLocals = 3 := hml0
  have hown : s.vm.findClass "java/lang/StringLatin1" = some m.cls := findClass_of_methodNamed Bd.named
  have hnm := (name_of_methodNamed Bd.named Bd.method).1
  have X0 : Stand p l e ({ frames := 0, cells := 0, slots := 0, locals := 0 } : Room) s m #[(.ref u1), (.ref u2)] below meth c s₁ [] 0 0 := Stand.of_body Bd
  have e0 : s₁.heap = h0 := by rw [← hh, Bd.state]; rfl
  have N0 := Fr.nil n0
  have pre0 : ∀ t, Steps p.tables e below (s₁.setTop (mkF m 0 #[.val (.ref u1), .val (.ref u2), .unset] [])) t → Steps p.tables e below (s₁.setTop (entryFrame m #[(.ref u1), (.ref u2)] 3)) t := fun t k => castTop (ef_jdk_43_method_13_code_AA m u1 u2) k
  obtain ⟨cl62, Ar62, -, Sz62, Nz62, -⟩ := id V1
  obtain ⟨cl63, Ar63, -, Sz63, Nz63, -⟩ := id V2
  obtain ⟨cl64, Ar64, -, Sz64, Nz64, -⟩ := id V1
  obtain ⟨cl65, Ar65, Q65, H65⟩ := own_at V1 (j := (0 : Int32)) (v := (.int x0)) (by decide) rfl
  obtain ⟨cl66, Ar66, Q66, H66⟩ := own_at V2 (j := (0 : Int32)) (v := (.int y0)) (by decide) rfl
  obtain ⟨fs, hr, hrun, hended, hW, hsame⟩ := X0.leave (v := some (.int (0 : Int32))) (fun h => by rw [Bd.returns] at h; cases h)
  refine ⟨_, _, pre0 _ ?_, hrun, hended, _, _, rfl, ?_, ⟨_, rfl⟩, hW, hsame.mono (by decide) (by decide)⟩
  · show Steps p.tables e below (s₁.setTop (mkF m 0 #[.val (.ref u1), .val (.ref u2), .unset] [])) _
    refine XS.aloadN X0.here hx rfl (hb hby d_jdk_43_method_13_code_0) rfl rfl ?_
    show Steps p.tables e below (s₁.setTop (mkF m 1 #[.val (.ref u1), .val (.ref u2), .unset] [(.ref u1)])) _
    refine X0.arraylength hx (by rw [e0]; exact Ar62.1) (State.isArrayOf_alike hZ.alike Ar62.2.1) (g := (mkF m 1 #[.val (.ref u1), .val (.ref u2), .unset] [(.ref u1)])) rfl rfl (hb hby d_jdk_43_method_13_code_1) _ ?_
    rw [len_of Sz62 Nz62]
    show Steps p.tables e below (s₁.setTop (mkF m 2 #[.val (.ref u1), .val (.ref u2), .unset] [(.int (2 : Int32))])) _
    refine XS.aloadN X0.here hx rfl (hb hby d_jdk_43_method_13_code_2) rfl rfl ?_
    show Steps p.tables e below (s₁.setTop (mkF m 3 #[.val (.ref u1), .val (.ref u2), .unset] [(.ref u2), (.int (2 : Int32))])) _
    refine X0.arraylength hx (by rw [e0]; exact Ar63.1) (State.isArrayOf_alike hZ.alike Ar63.2.1) (g := (mkF m 3 #[.val (.ref u1), .val (.ref u2), .unset] [(.ref u2), (.int (2 : Int32))])) rfl rfl (hb hby d_jdk_43_method_13_code_3) _ ?_
    rw [len_of Sz63 Nz63]
    show Steps p.tables e below (s₁.setTop (mkF m 4 #[.val (.ref u1), .val (.ref u2), .unset] [(.int (2 : Int32)), (.int (2 : Int32))])) _
    refine XS.icmpNo X0.here hx rfl (hb hby d_jdk_43_method_13_code_4) rfl (by decide) ?_
    show Steps p.tables e below (s₁.setTop (mkF m 7 #[.val (.ref u1), .val (.ref u2), .unset] [])) _
    refine XT.iconstV X0.here hx rfl (0 : Int32) (hb hby d_jdk_43_method_13_code_7) rfl ?_
    show Steps p.tables e below (s₁.setTop (mkF m 8 #[.val (.ref u1), .val (.ref u2), .unset] [(.int (0 : Int32))])) _
    refine XS.istoreN X0.here hx rfl (hb hby d_jdk_43_method_13_code_8) rfl (l' := #[.val (.ref u1), .val (.ref u2), .val (.int (0 : Int32))]) rfl ?_
    show Steps p.tables e below (s₁.setTop (mkF m 9 #[.val (.ref u1), .val (.ref u2), .val (.int (0 : Int32))] [])) _
    refine XS.iloadN X0.here hx rfl (hb hby d_jdk_43_method_13_code_9) rfl ?_
    show Steps p.tables e below (s₁.setTop (mkF m 10 #[.val (.ref u1), .val (.ref u2), .val (.int (0 : Int32))] [(.int (0 : Int32))])) _
    refine XS.aloadN X0.here hx rfl (hb hby d_jdk_43_method_13_code_10) rfl rfl ?_
    show Steps p.tables e below (s₁.setTop (mkF m 11 #[.val (.ref u1), .val (.ref u2), .val (.int (0 : Int32))] [(.ref u1), (.int (0 : Int32))])) _
    refine X0.arraylength hx (by rw [e0]; exact Ar64.1) (State.isArrayOf_alike hZ.alike Ar64.2.1) (g := (mkF m 11 #[.val (.ref u1), .val (.ref u2), .val (.int (0 : Int32))] [(.ref u1), (.int (0 : Int32))])) rfl rfl (hb hby d_jdk_43_method_13_code_11) _ ?_
    rw [len_of Sz64 Nz64]
    show Steps p.tables e below (s₁.setTop (mkF m 12 #[.val (.ref u1), .val (.ref u2), .val (.int (0 : Int32))] [(.int (2 : Int32)), (.int (0 : Int32))])) _
    refine XS.icmpNo X0.here hx rfl (hb hby d_jdk_43_method_13_code_12) rfl (by decide) ?_
    show Steps p.tables e below (s₁.setTop (mkF m 15 #[.val (.ref u1), .val (.ref u2), .val (.int (0 : Int32))] [])) _
    refine XS.aloadN X0.here hx rfl (hb hby d_jdk_43_method_13_code_15) rfl rfl ?_
    show Steps p.tables e below (s₁.setTop (mkF m 16 #[.val (.ref u1), .val (.ref u2), .val (.int (0 : Int32))] [(.ref u1)])) _
    refine XS.iloadN X0.here hx rfl (hb hby d_jdk_43_method_13_code_16) rfl ?_
    show Steps p.tables e below (s₁.setTop (mkF m 17 #[.val (.ref u1), .val (.ref u2), .val (.int (0 : Int32))] [(.int (0 : Int32)), (.ref u1)])) _
    refine X0.baloadBytes hx (j := (0 : Int32)) (v := (.int x0)) (by rw [e0]; exact Ar65.1) (State.isArrayOf_alike hZ.alike Ar65.2.1) Ar65.2.2 Q65 H65 (g := (mkF m 17 #[.val (.ref u1), .val (.ref u2), .val (.int (0 : Int32))] [(.int (0 : Int32)), (.ref u1)])) rfl rfl (hb hby d_jdk_43_method_13_code_17) _ ?_
    show Steps p.tables e below (s₁.setTop (mkF m 18 #[.val (.ref u1), .val (.ref u2), .val (.int (0 : Int32))] [(.int x0)])) _
    refine XS.aloadN X0.here hx rfl (hb hby d_jdk_43_method_13_code_18) rfl rfl ?_
    show Steps p.tables e below (s₁.setTop (mkF m 19 #[.val (.ref u1), .val (.ref u2), .val (.int (0 : Int32))] [(.ref u2), (.int x0)])) _
    refine XS.iloadN X0.here hx rfl (hb hby d_jdk_43_method_13_code_19) rfl ?_
    show Steps p.tables e below (s₁.setTop (mkF m 20 #[.val (.ref u1), .val (.ref u2), .val (.int (0 : Int32))] [(.int (0 : Int32)), (.ref u2), (.int x0)])) _
    refine X0.baloadBytes hx (j := (0 : Int32)) (v := (.int y0)) (by rw [e0]; exact Ar66.1) (State.isArrayOf_alike hZ.alike Ar66.2.1) Ar66.2.2 Q66 H66 (g := (mkF m 20 #[.val (.ref u1), .val (.ref u2), .val (.int (0 : Int32))] [(.int (0 : Int32)), (.ref u2), (.int x0)])) rfl rfl (hb hby d_jdk_43_method_13_code_20) _ ?_
    show Steps p.tables e below (s₁.setTop (mkF m 21 #[.val (.ref u1), .val (.ref u2), .val (.int (0 : Int32))] [(.int y0), (.int x0)])) _
    refine XS.icmpNo X0.here hx rfl (hb hby d_jdk_43_method_13_code_21) rfl (XT.ii_eq_f q0) ?_
    show Steps p.tables e below (s₁.setTop (mkF m 24 #[.val (.ref u1), .val (.ref u2), .val (.int (0 : Int32))] [])) _
    refine XT.iconstV X0.here hx rfl (0 : Int32) (hb hby d_jdk_43_method_13_code_24) rfl ?_
    show Steps p.tables e below (s₁.setTop (mkF m 25 #[.val (.ref u1), .val (.ref u2), .val (.int (0 : Int32))] [(.int (0 : Int32))])) _
    exact retN X0 hx (t := .boolean) Bd.returns (by simp) (hb hby d_jdk_43_method_13_code_25) hr
  · show own_Q (some (.int (0 : Int32))) h0 n0 _ s₁.heap _
    rw [e0]
    exact ⟨rfl, N0, rfl⟩
set_option maxRecDepth 65536 in
set_option maxHeartbeats 40000000 in
theorem own_eq_s0 (l : Launch) (Z : State) (a0 : Array Value) (hw : ∀ d ∈ tables_1, d.before a0 Z = true) (ws : List Jvm.Cond) (a1 a2 u1 u2 : Addr) (k1 k2 : ClassId) (i7 x0 x1 : Int32) (y0 y1 : Int32) (h0 : Heap) (n0 : Nat) (Z0 : n0 ≤ h0.size) (P1 : own_St Z h0 a1 u1 k1 (2 : Int32) [x0, x1]) (P2 : own_St Z h0 a2 u2 k2 (2 : Int32) [y0, y1]) (S8 : Sta Z h0 "java/lang/String" "COMPACT_STRINGS" "Z" (.int i7)) (c9 : ¬ (i7 = (0 : Int32))) (hne : a1 ≠ a2) (q0 : ¬ x0 = y0) :
    MetFree l (⟨"java/lang/String", "equals", "(Ljava/lang/Object;)Z"⟩ : MethodName) (head1 (Jvm.Cond.code (⟨"java/lang/String", "equals", "(Ljava/lang/Object;)Z"⟩ : MethodName) jdk_42_method_66_code 3 (some .boolean) :: ws) ({ frames := 1, cells := 0, slots := 0, locals := 14 } : Room)) (fun a U => a = #[(.ref a1), (.ref a2)] ∧ Z.Warmed39 U.vm ∧ U.heap = h0) (fun _ _ _ _ _ => True) (fun _ U o U' => ∃ v L, o = .returned v ∧ own_Q (some (.int (0 : Int32))) h0 n0 v U'.heap L ∧ FrameEnd U o U' L ({ frames := 1, cells := 0, slots := 0, locals := 14 } : Room).cells ({ frames := 1, cells := 0, slots := 0, locals := 14 } : Room).slots) := by
  refine MetFree.of_bodySF pf_jdk_42_method_66_code hisR ?_
  intro p e s m args below meth c s₁ Bd hml0 hP hK
  obtain ⟨rfl, hZ, hh⟩ := hP
  have hx := Bd.exec
  have hby := Bd.bytes
  have hml : c.maxLocals = 3 := hml0
  have hown : s.vm.findClass "java/lang/String" = some m.cls := findClass_of_methodNamed Bd.named
  have hnm := (name_of_methodNamed Bd.named Bd.method).1
  have X0 : Stand p l e ({ frames := 1, cells := 0, slots := 0, locals := 14 } : Room) s m #[(.ref a1), (.ref a2)] below meth c s₁ [] 0 0 := Stand.of_body Bd
  have e0 : s₁.heap = h0 := by rw [← hh, Bd.state]; rfl
  have N0 := Fr.nil n0
  have pre0 : ∀ t, Steps p.tables e below (s₁.setTop (mkF m 0 #[.val (.ref a1), .val (.ref a2), .unset] [])) t → Steps p.tables e below (s₁.setTop (entryFrame m #[(.ref a1), (.ref a2)] 3)) t := fun t k => castTop (ef_jdk_42_method_66_code_AA m a1 a2) k
  obtain ⟨E_67, Fvalue_68, Fcoder_69, V_70⟩ := id P1
  obtain ⟨E_71, Fvalue_72, Fcoder_73, V_74⟩ := id P2
  obtain ⟨T75, X75, e75, st75⟩ := instY X0 hx hZ hown (hw _ (List.mem_of_getElem? (i := 63) rfl)) e0 (Ins.self E_71) (g := (mkF m 8 #[.val (.ref a1), .val (.ref a2), .unset] [(.ref a2)])) rfl rfl (hb hby d_jdk_42_method_66_code_8)
  obtain ⟨T76, X76, e76, st76⟩ := castY X75 hx hZ hown (hw _ (List.mem_of_getElem? (i := 63) rfl)) e75 (Ins.self E_71) (g := (mkF m 15 #[.val (.ref a1), .val (.ref a2), .unset] [(.ref a2)])) rfl rfl (hb hby d_jdk_42_method_66_code_15)
  obtain ⟨T77, X77, e77, st77⟩ := getS2 X76 hx hZ hown (host := "") (Or.inl (hw _ (List.mem_of_getElem? (i := 64) rfl))) Via.refl e76 S8 (g := (mkF m 19 #[.val (.ref a1), .val (.ref a2), .val (.ref a2)] [])) rfl (hb hby d_jdk_42_method_66_code_19)
  obtain ⟨T78, X78, e78, st78⟩ := getF X77 hx hZ hown (host := "") (Or.inl (hw _ (List.mem_of_getElem? (i := 25) rfl))) Via.refl e77 Fcoder_69 (g := (mkF m 26 #[.val (.ref a1), .val (.ref a2), .val (.ref a2)] [(.ref a1)])) rfl rfl (hb hby d_jdk_42_method_66_code_26)
  obtain ⟨T79, X79, e79, st79⟩ := getF X78 hx hZ hown (host := "") (Or.inl (hw _ (List.mem_of_getElem? (i := 25) rfl))) Via.refl e78 Fcoder_73 (g := (mkF m 30 #[.val (.ref a1), .val (.ref a2), .val (.ref a2)] [(.ref a2), (.int (0 : Int32))])) rfl rfl (hb hby d_jdk_42_method_66_code_30)
  obtain ⟨T80, X80, e80, st80⟩ := getF X79 hx hZ hown (host := "") (Or.inl (hw _ (List.mem_of_getElem? (i := 24) rfl))) Via.refl e79 Fvalue_68 (g := (mkF m 37 #[.val (.ref a1), .val (.ref a2), .val (.ref a2)] [(.ref a1)])) rfl rfl (hb hby d_jdk_42_method_66_code_37)
  obtain ⟨T81, X81, e81, st81⟩ := getF X80 hx hZ hown (host := "") (Or.inl (hw _ (List.mem_of_getElem? (i := 24) rfl))) Via.refl e80 Fvalue_72 (g := (mkF m 41 #[.val (.ref a1), .val (.ref a2), .val (.ref a2)] [(.ref a2), (.ref u1)])) rfl rfl (hb hby d_jdk_42_method_66_code_41)
  obtain ⟨_, _, ⟨T82, L82, k82, n82⟩, -, X82, ⟨Lc82, hQ82, l82, y82, z82⟩, st82⟩ := Jvm.LawKit.callS X81 hx (y := (⟨"java/lang/StringLatin1", "equals", "([B[B)Z"⟩ : MethodName)) hown (mvT hZ (hw _ (List.mem_of_getElem? (i := 65) rfl))) (mvT hZ (hw _ (List.mem_of_getElem? (i := 66) rfl))) (mvT hZ (hw _ (List.mem_of_getElem? (i := 67) rfl))) (mvT hZ (hw _ (List.mem_of_getElem? (i := 68) rfl))) (by decide) (backOf (W := 0) (own_leq_s0 l Z a0 hw [] u1 u2 k1 k2 x0 x1 y0 y1 h0 n0 Z0 V_70 V_74 q0) hZ (hw _ (List.mem_of_getElem? (i := 68) rfl)) (hw _ (List.mem_of_getElem? (i := 67) rfl)) (by decide) (by decide)) (g := (mkF m 44 #[.val (.ref a1), .val (.ref a2), .val (.ref a2)] [(.ref u2), (.ref u1)])) rfl (by rw [hml]; rfl) (argsL := [(.ref u1), (.ref u2)]) (rest := []) (lenOf pd__ArBArB_Z rfl) rfl (by show 2 * 0 + _ ≤ _; exact Nat.le_of_eq rfl) (hb hby d_jdk_42_method_66_code_44) (fun _ _ => ⟨rfl, e81, (by decide : 0 + 0 ≤ _), (by decide : 0 + 0 ≤ _)⟩)
  dsimp only [Pt.U, Pt.locs, Pt.cells, Pt.slots] at X82 l82 y82 z82 st82 hQ82
  subst l82 y82 z82
  obtain ⟨rfl, N82q, e82⟩ := hQ82
  have N82 := Fr.app N0 N82q
  obtain ⟨fs, hr, hrun, hended, hW, hsame⟩ := X82.leave (v := some (.int (0 : Int32))) (fun h => by rw [Bd.returns] at h; cases h)
  refine ⟨_, _, pre0 _ ?_, hrun, hended, _, _, rfl, ?_, ⟨_, rfl⟩, hW, hsame.mono (by decide) (by decide)⟩
  · show Steps p.tables e below (s₁.setTop (mkF m 0 #[.val (.ref a1), .val (.ref a2), .unset] [])) _
    refine XS.aloadN X0.here hx rfl (hb hby d_jdk_42_method_66_code_0) rfl rfl ?_
    show Steps p.tables e below (s₁.setTop (mkF m 1 #[.val (.ref a1), .val (.ref a2), .unset] [(.ref a1)])) _
    refine XS.aloadN X0.here hx rfl (hb hby d_jdk_42_method_66_code_1) rfl rfl ?_
    show Steps p.tables e below (s₁.setTop (mkF m 2 #[.val (.ref a1), .val (.ref a2), .unset] [(.ref a2), (.ref a1)])) _
    refine Jvm.RoadKit.acmp (g := (mkF m 2 #[.val (.ref a1), .val (.ref a2), .unset] [(.ref a2), (.ref a1)])) X0 hx rfl rfl rfl (pc0 := 2) (pc' := 7) (same := false) rfl (hb hby d_jdk_42_method_66_code_2) rfl (decide_eq_false (fun q => hne (Value.ref.inj q))) (by decide) (by decide) ?_
    show Steps p.tables e below (s₁.setTop (mkF m 7 #[.val (.ref a1), .val (.ref a2), .unset] [])) _
    refine XS.aloadN X0.here hx rfl (hb hby d_jdk_42_method_66_code_7) rfl rfl ?_
    show Steps p.tables e below (s₁.setTop (mkF m 8 #[.val (.ref a1), .val (.ref a2), .unset] [(.ref a2)])) _
    refine st75 _ ?_
    show Steps p.tables e below (T75.setTop (mkF m 11 #[.val (.ref a1), .val (.ref a2), .unset] [(.int (1 : Int32))])) _
    refine XS.ifNo X75.here hx rfl (hb hby d_jdk_42_method_66_code_11) rfl (by decide) ?_
    show Steps p.tables e below (T75.setTop (mkF m 14 #[.val (.ref a1), .val (.ref a2), .unset] [])) _
    refine XS.aloadN X75.here hx rfl (hb hby d_jdk_42_method_66_code_14) rfl rfl ?_
    show Steps p.tables e below (T75.setTop (mkF m 15 #[.val (.ref a1), .val (.ref a2), .unset] [(.ref a2)])) _
    refine st76 _ ?_
    show Steps p.tables e below (T76.setTop (mkF m 18 #[.val (.ref a1), .val (.ref a2), .unset] [(.ref a2)])) _
    refine XS.astoreN X76.here hx rfl (hb hby d_jdk_42_method_66_code_18) rfl rfl (l' := #[.val (.ref a1), .val (.ref a2), .val (.ref a2)]) rfl ?_
    show Steps p.tables e below (T76.setTop (mkF m 19 #[.val (.ref a1), .val (.ref a2), .val (.ref a2)] [])) _
    refine st77 _ ?_
    show Steps p.tables e below (T77.setTop (mkF m 22 #[.val (.ref a1), .val (.ref a2), .val (.ref a2)] [(.int i7)])) _
    refine XS.ifNo X77.here hx rfl (hb hby d_jdk_42_method_66_code_22) rfl (XT.i0_eq_f c9) ?_
    show Steps p.tables e below (T77.setTop (mkF m 25 #[.val (.ref a1), .val (.ref a2), .val (.ref a2)] [])) _
    refine XS.aloadN X77.here hx rfl (hb hby d_jdk_42_method_66_code_25) rfl rfl ?_
    show Steps p.tables e below (T77.setTop (mkF m 26 #[.val (.ref a1), .val (.ref a2), .val (.ref a2)] [(.ref a1)])) _
    refine st78 _ ?_
    show Steps p.tables e below (T78.setTop (mkF m 29 #[.val (.ref a1), .val (.ref a2), .val (.ref a2)] [(.int (0 : Int32))])) _
    refine XS.aloadN X78.here hx rfl (hb hby d_jdk_42_method_66_code_29) rfl rfl ?_
    show Steps p.tables e below (T78.setTop (mkF m 30 #[.val (.ref a1), .val (.ref a2), .val (.ref a2)] [(.ref a2), (.int (0 : Int32))])) _
    refine st79 _ ?_
    show Steps p.tables e below (T79.setTop (mkF m 33 #[.val (.ref a1), .val (.ref a2), .val (.ref a2)] [(.int (0 : Int32)), (.int (0 : Int32))])) _
    refine XS.icmpNo X79.here hx rfl (hb hby d_jdk_42_method_66_code_33) rfl (by decide) ?_
    show Steps p.tables e below (T79.setTop (mkF m 36 #[.val (.ref a1), .val (.ref a2), .val (.ref a2)] [])) _
    refine XS.aloadN X79.here hx rfl (hb hby d_jdk_42_method_66_code_36) rfl rfl ?_
    show Steps p.tables e below (T79.setTop (mkF m 37 #[.val (.ref a1), .val (.ref a2), .val (.ref a2)] [(.ref a1)])) _
    refine st80 _ ?_
    show Steps p.tables e below (T80.setTop (mkF m 40 #[.val (.ref a1), .val (.ref a2), .val (.ref a2)] [(.ref u1)])) _
    refine XS.aloadN X80.here hx rfl (hb hby d_jdk_42_method_66_code_40) rfl rfl ?_
    show Steps p.tables e below (T80.setTop (mkF m 41 #[.val (.ref a1), .val (.ref a2), .val (.ref a2)] [(.ref a2), (.ref u1)])) _
    refine st81 _ ?_
    show Steps p.tables e below (T81.setTop (mkF m 44 #[.val (.ref a1), .val (.ref a2), .val (.ref a2)] [(.ref u2), (.ref u1)])) _
    refine st82 _ ?_
    show Steps p.tables e below (T82.setTop (mkF m 47 #[.val (.ref a1), .val (.ref a2), .val (.ref a2)] [(.int (0 : Int32))])) _
    refine XS.ifYes X82.here hx rfl (pc0 := 47) (pc' := 54) rfl (hb hby d_jdk_42_method_66_code_47) rfl (by decide) (by decide) (by decide) ?_
    show Steps p.tables e below (T82.setTop (mkF m 54 #[.val (.ref a1), .val (.ref a2), .val (.ref a2)] [])) _
    refine XT.iconstV X82.here hx rfl (0 : Int32) (hb hby d_jdk_42_method_66_code_54) rfl ?_
    show Steps p.tables e below (T82.setTop (mkF m 55 #[.val (.ref a1), .val (.ref a2), .val (.ref a2)] [(.int (0 : Int32))])) _
    exact retN X82 hx (t := .boolean) Bd.returns (by simp) (hb hby d_jdk_42_method_66_code_55) hr
  · show own_Q (some (.int (0 : Int32))) h0 n0 _ T82.heap _
    rw [e82]
    exact ⟨rfl, N82, rfl⟩
theorem d_jdk_43_method_13_code_26 : decode jdk_43_method_13_code 26 = .ok (.iinc 2 1, 3) := by decide +kernel
theorem d_jdk_43_method_13_code_29 : decode jdk_43_method_13_code 29 = .ok (.goto (-20), 3) := by decide +kernel
set_option maxRecDepth 65536 in
set_option maxHeartbeats 40000000 in
theorem own_leq_s1 (l : Launch) (Z : State) (a0 : Array Value) (hw : ∀ d ∈ tables_1, d.before a0 Z = true) (ws : List Jvm.Cond) (u1 u2 : Addr) (k1 k2 : ClassId) (x0 x1 : Int32) (y0 y1 : Int32) (h0 : Heap) (n0 : Nat) (Z0 : n0 ≤ h0.size) (V1 : Arv Z h0 u1 k1 .byte (2 : Int32) ([x0, x1].map Value.int) (.int 0)) (V2 : Arv Z h0 u2 k2 .byte (2 : Int32) ([y0, y1].map Value.int) (.int 0)) (q0 : x0 = y0) (q1 : ¬ x1 = y1) :
    MetFree l (⟨"java/lang/StringLatin1", "equals", "([B[B)Z"⟩ : MethodName) (head1 (Jvm.Cond.code (⟨"java/lang/StringLatin1", "equals", "([B[B)Z"⟩ : MethodName) jdk_43_method_13_code 3 (some .boolean) :: ws) ({ frames := 0, cells := 0, slots := 0, locals := 0 } : Room)) (fun a U => a = #[(.ref u1), (.ref u2)] ∧ Z.Warmed39 U.vm ∧ U.heap = h0) (fun _ _ _ _ _ => True) (fun _ U o U' => ∃ v L, o = .returned v ∧ own_Q (some (.int (0 : Int32))) h0 n0 v U'.heap L ∧ FrameEnd U o U' L ({ frames := 0, cells := 0, slots := 0, locals := 0 } : Room).cells ({ frames := 0, cells := 0, slots := 0, locals := 0 } : Room).slots) := by
  refine MetFree.of_bodySF pf_jdk_43_method_13_code hisR ?_
  intro p e s m args below meth c s₁ Bd hml0 hP hK
  obtain ⟨rfl, hZ, hh⟩ := hP
  have hx := Bd.exec
  have hby := Bd.bytes
  have hml : c.maxLocals = 3 := hml0
  have hown : s.vm.findClass "java/lang/StringLatin1" = some m.cls := findClass_of_methodNamed Bd.named
  have hnm := (name_of_methodNamed Bd.named Bd.method).1
  have X0 : Stand p l e ({ frames := 0, cells := 0, slots := 0, locals := 0 } : Room) s m #[(.ref u1), (.ref u2)] below meth c s₁ [] 0 0 := Stand.of_body Bd
  have e0 : s₁.heap = h0 := by rw [← hh, Bd.state]; rfl
  have N0 := Fr.nil n0
  have pre0 : ∀ t, Steps p.tables e below (s₁.setTop (mkF m 0 #[.val (.ref u1), .val (.ref u2), .unset] [])) t → Steps p.tables e below (s₁.setTop (entryFrame m #[(.ref u1), (.ref u2)] 3)) t := fun t k => castTop (ef_jdk_43_method_13_code_AA m u1 u2) k
  obtain ⟨cl83, Ar83, -, Sz83, Nz83, -⟩ := id V1
  obtain ⟨cl84, Ar84, -, Sz84, Nz84, -⟩ := id V2
  obtain ⟨cl85, Ar85, -, Sz85, Nz85, -⟩ := id V1
  obtain ⟨cl86, Ar86, Q86, H86⟩ := own_at V1 (j := (0 : Int32)) (v := (.int x0)) (by decide) rfl
  obtain ⟨cl87, Ar87, Q87, H87⟩ := own_at V2 (j := (0 : Int32)) (v := (.int y0)) (by decide) rfl
  obtain ⟨cl88, Ar88, -, Sz88, Nz88, -⟩ := id V1
  obtain ⟨cl89, Ar89, Q89, H89⟩ := own_at V1 (j := (1 : Int32)) (v := (.int x1)) (by decide) rfl
  obtain ⟨cl90, Ar90, Q90, H90⟩ := own_at V2 (j := (1 : Int32)) (v := (.int y1)) (by decide) rfl
  obtain ⟨fs, hr, hrun, hended, hW, hsame⟩ := X0.leave (v := some (.int (0 : Int32))) (fun h => by rw [Bd.returns] at h; cases h)
  refine ⟨_, _, pre0 _ ?_, hrun, hended, _, _, rfl, ?_, ⟨_, rfl⟩, hW, hsame.mono (by decide) (by decide)⟩
  · show Steps p.tables e below (s₁.setTop (mkF m 0 #[.val (.ref u1), .val (.ref u2), .unset] [])) _
    refine XS.aloadN X0.here hx rfl (hb hby d_jdk_43_method_13_code_0) rfl rfl ?_
    show Steps p.tables e below (s₁.setTop (mkF m 1 #[.val (.ref u1), .val (.ref u2), .unset] [(.ref u1)])) _
    refine X0.arraylength hx (by rw [e0]; exact Ar83.1) (State.isArrayOf_alike hZ.alike Ar83.2.1) (g := (mkF m 1 #[.val (.ref u1), .val (.ref u2), .unset] [(.ref u1)])) rfl rfl (hb hby d_jdk_43_method_13_code_1) _ ?_
    rw [len_of Sz83 Nz83]
    show Steps p.tables e below (s₁.setTop (mkF m 2 #[.val (.ref u1), .val (.ref u2), .unset] [(.int (2 : Int32))])) _
    refine XS.aloadN X0.here hx rfl (hb hby d_jdk_43_method_13_code_2) rfl rfl ?_
    show Steps p.tables e below (s₁.setTop (mkF m 3 #[.val (.ref u1), .val (.ref u2), .unset] [(.ref u2), (.int (2 : Int32))])) _
    refine X0.arraylength hx (by rw [e0]; exact Ar84.1) (State.isArrayOf_alike hZ.alike Ar84.2.1) (g := (mkF m 3 #[.val (.ref u1), .val (.ref u2), .unset] [(.ref u2), (.int (2 : Int32))])) rfl rfl (hb hby d_jdk_43_method_13_code_3) _ ?_
    rw [len_of Sz84 Nz84]
    show Steps p.tables e below (s₁.setTop (mkF m 4 #[.val (.ref u1), .val (.ref u2), .unset] [(.int (2 : Int32)), (.int (2 : Int32))])) _
    refine XS.icmpNo X0.here hx rfl (hb hby d_jdk_43_method_13_code_4) rfl (by decide) ?_
    show Steps p.tables e below (s₁.setTop (mkF m 7 #[.val (.ref u1), .val (.ref u2), .unset] [])) _
    refine XT.iconstV X0.here hx rfl (0 : Int32) (hb hby d_jdk_43_method_13_code_7) rfl ?_
    show Steps p.tables e below (s₁.setTop (mkF m 8 #[.val (.ref u1), .val (.ref u2), .unset] [(.int (0 : Int32))])) _
    refine XS.istoreN X0.here hx rfl (hb hby d_jdk_43_method_13_code_8) rfl (l' := #[.val (.ref u1), .val (.ref u2), .val (.int (0 : Int32))]) rfl ?_
    show Steps p.tables e below (s₁.setTop (mkF m 9 #[.val (.ref u1), .val (.ref u2), .val (.int (0 : Int32))] [])) _
    refine XS.iloadN X0.here hx rfl (hb hby d_jdk_43_method_13_code_9) rfl ?_
    show Steps p.tables e below (s₁.setTop (mkF m 10 #[.val (.ref u1), .val (.ref u2), .val (.int (0 : Int32))] [(.int (0 : Int32))])) _
    refine XS.aloadN X0.here hx rfl (hb hby d_jdk_43_method_13_code_10) rfl rfl ?_
    show Steps p.tables e below (s₁.setTop (mkF m 11 #[.val (.ref u1), .val (.ref u2), .val (.int (0 : Int32))] [(.ref u1), (.int (0 : Int32))])) _
    refine X0.arraylength hx (by rw [e0]; exact Ar85.1) (State.isArrayOf_alike hZ.alike Ar85.2.1) (g := (mkF m 11 #[.val (.ref u1), .val (.ref u2), .val (.int (0 : Int32))] [(.ref u1), (.int (0 : Int32))])) rfl rfl (hb hby d_jdk_43_method_13_code_11) _ ?_
    rw [len_of Sz85 Nz85]
    show Steps p.tables e below (s₁.setTop (mkF m 12 #[.val (.ref u1), .val (.ref u2), .val (.int (0 : Int32))] [(.int (2 : Int32)), (.int (0 : Int32))])) _
    refine XS.icmpNo X0.here hx rfl (hb hby d_jdk_43_method_13_code_12) rfl (by decide) ?_
    show Steps p.tables e below (s₁.setTop (mkF m 15 #[.val (.ref u1), .val (.ref u2), .val (.int (0 : Int32))] [])) _
    refine XS.aloadN X0.here hx rfl (hb hby d_jdk_43_method_13_code_15) rfl rfl ?_
    show Steps p.tables e below (s₁.setTop (mkF m 16 #[.val (.ref u1), .val (.ref u2), .val (.int (0 : Int32))] [(.ref u1)])) _
    refine XS.iloadN X0.here hx rfl (hb hby d_jdk_43_method_13_code_16) rfl ?_
    show Steps p.tables e below (s₁.setTop (mkF m 17 #[.val (.ref u1), .val (.ref u2), .val (.int (0 : Int32))] [(.int (0 : Int32)), (.ref u1)])) _
    refine X0.baloadBytes hx (j := (0 : Int32)) (v := (.int x0)) (by rw [e0]; exact Ar86.1) (State.isArrayOf_alike hZ.alike Ar86.2.1) Ar86.2.2 Q86 H86 (g := (mkF m 17 #[.val (.ref u1), .val (.ref u2), .val (.int (0 : Int32))] [(.int (0 : Int32)), (.ref u1)])) rfl rfl (hb hby d_jdk_43_method_13_code_17) _ ?_
    show Steps p.tables e below (s₁.setTop (mkF m 18 #[.val (.ref u1), .val (.ref u2), .val (.int (0 : Int32))] [(.int x0)])) _
    refine XS.aloadN X0.here hx rfl (hb hby d_jdk_43_method_13_code_18) rfl rfl ?_
    show Steps p.tables e below (s₁.setTop (mkF m 19 #[.val (.ref u1), .val (.ref u2), .val (.int (0 : Int32))] [(.ref u2), (.int x0)])) _
    refine XS.iloadN X0.here hx rfl (hb hby d_jdk_43_method_13_code_19) rfl ?_
    show Steps p.tables e below (s₁.setTop (mkF m 20 #[.val (.ref u1), .val (.ref u2), .val (.int (0 : Int32))] [(.int (0 : Int32)), (.ref u2), (.int x0)])) _
    refine X0.baloadBytes hx (j := (0 : Int32)) (v := (.int y0)) (by rw [e0]; exact Ar87.1) (State.isArrayOf_alike hZ.alike Ar87.2.1) Ar87.2.2 Q87 H87 (g := (mkF m 20 #[.val (.ref u1), .val (.ref u2), .val (.int (0 : Int32))] [(.int (0 : Int32)), (.ref u2), (.int x0)])) rfl rfl (hb hby d_jdk_43_method_13_code_20) _ ?_
    show Steps p.tables e below (s₁.setTop (mkF m 21 #[.val (.ref u1), .val (.ref u2), .val (.int (0 : Int32))] [(.int y0), (.int x0)])) _
    refine XS.icmpYes X0.here hx rfl (pc0 := 21) (pc' := 26) rfl (hb hby d_jdk_43_method_13_code_21) rfl (XT.ii_eq_t q0) (by decide) (by decide) ?_
    show Steps p.tables e below (s₁.setTop (mkF m 26 #[.val (.ref u1), .val (.ref u2), .val (.int (0 : Int32))] [])) _
    refine XT.iincV X0.here hx rfl (1 : Int32) (hb hby d_jdk_43_method_13_code_26) rfl rfl (l' := #[.val (.ref u1), .val (.ref u2), .val (.int ((0 : Int32) + (1 : Int32)))]) rfl ?_
    rw [show ((0 : Int32) + (1 : Int32)) = (1 : Int32) from by decide]
    show Steps p.tables e below (s₁.setTop (mkF m 29 #[.val (.ref u1), .val (.ref u2), .val (.int (1 : Int32))] [])) _
    refine XS.goto X0.here hx rfl (pc0 := 29) (pc' := 9) rfl (hb hby d_jdk_43_method_13_code_29) (by decide) (by decide) ?_
    show Steps p.tables e below (s₁.setTop (mkF m 9 #[.val (.ref u1), .val (.ref u2), .val (.int (1 : Int32))] [])) _
    refine XS.iloadN X0.here hx rfl (hb hby d_jdk_43_method_13_code_9) rfl ?_
    show Steps p.tables e below (s₁.setTop (mkF m 10 #[.val (.ref u1), .val (.ref u2), .val (.int (1 : Int32))] [(.int (1 : Int32))])) _
    refine XS.aloadN X0.here hx rfl (hb hby d_jdk_43_method_13_code_10) rfl rfl ?_
    show Steps p.tables e below (s₁.setTop (mkF m 11 #[.val (.ref u1), .val (.ref u2), .val (.int (1 : Int32))] [(.ref u1), (.int (1 : Int32))])) _
    refine X0.arraylength hx (by rw [e0]; exact Ar88.1) (State.isArrayOf_alike hZ.alike Ar88.2.1) (g := (mkF m 11 #[.val (.ref u1), .val (.ref u2), .val (.int (1 : Int32))] [(.ref u1), (.int (1 : Int32))])) rfl rfl (hb hby d_jdk_43_method_13_code_11) _ ?_
    rw [len_of Sz88 Nz88]
    show Steps p.tables e below (s₁.setTop (mkF m 12 #[.val (.ref u1), .val (.ref u2), .val (.int (1 : Int32))] [(.int (2 : Int32)), (.int (1 : Int32))])) _
    refine XS.icmpNo X0.here hx rfl (hb hby d_jdk_43_method_13_code_12) rfl (by decide) ?_
    show Steps p.tables e below (s₁.setTop (mkF m 15 #[.val (.ref u1), .val (.ref u2), .val (.int (1 : Int32))] [])) _
    refine XS.aloadN X0.here hx rfl (hb hby d_jdk_43_method_13_code_15) rfl rfl ?_
    show Steps p.tables e below (s₁.setTop (mkF m 16 #[.val (.ref u1), .val (.ref u2), .val (.int (1 : Int32))] [(.ref u1)])) _
    refine XS.iloadN X0.here hx rfl (hb hby d_jdk_43_method_13_code_16) rfl ?_
    show Steps p.tables e below (s₁.setTop (mkF m 17 #[.val (.ref u1), .val (.ref u2), .val (.int (1 : Int32))] [(.int (1 : Int32)), (.ref u1)])) _
    refine X0.baloadBytes hx (j := (1 : Int32)) (v := (.int x1)) (by rw [e0]; exact Ar89.1) (State.isArrayOf_alike hZ.alike Ar89.2.1) Ar89.2.2 Q89 H89 (g := (mkF m 17 #[.val (.ref u1), .val (.ref u2), .val (.int (1 : Int32))] [(.int (1 : Int32)), (.ref u1)])) rfl rfl (hb hby d_jdk_43_method_13_code_17) _ ?_
    show Steps p.tables e below (s₁.setTop (mkF m 18 #[.val (.ref u1), .val (.ref u2), .val (.int (1 : Int32))] [(.int x1)])) _
    refine XS.aloadN X0.here hx rfl (hb hby d_jdk_43_method_13_code_18) rfl rfl ?_
    show Steps p.tables e below (s₁.setTop (mkF m 19 #[.val (.ref u1), .val (.ref u2), .val (.int (1 : Int32))] [(.ref u2), (.int x1)])) _
    refine XS.iloadN X0.here hx rfl (hb hby d_jdk_43_method_13_code_19) rfl ?_
    show Steps p.tables e below (s₁.setTop (mkF m 20 #[.val (.ref u1), .val (.ref u2), .val (.int (1 : Int32))] [(.int (1 : Int32)), (.ref u2), (.int x1)])) _
    refine X0.baloadBytes hx (j := (1 : Int32)) (v := (.int y1)) (by rw [e0]; exact Ar90.1) (State.isArrayOf_alike hZ.alike Ar90.2.1) Ar90.2.2 Q90 H90 (g := (mkF m 20 #[.val (.ref u1), .val (.ref u2), .val (.int (1 : Int32))] [(.int (1 : Int32)), (.ref u2), (.int x1)])) rfl rfl (hb hby d_jdk_43_method_13_code_20) _ ?_
    show Steps p.tables e below (s₁.setTop (mkF m 21 #[.val (.ref u1), .val (.ref u2), .val (.int (1 : Int32))] [(.int y1), (.int x1)])) _
    refine XS.icmpNo X0.here hx rfl (hb hby d_jdk_43_method_13_code_21) rfl (XT.ii_eq_f q1) ?_
    show Steps p.tables e below (s₁.setTop (mkF m 24 #[.val (.ref u1), .val (.ref u2), .val (.int (1 : Int32))] [])) _
    refine XT.iconstV X0.here hx rfl (0 : Int32) (hb hby d_jdk_43_method_13_code_24) rfl ?_
    show Steps p.tables e below (s₁.setTop (mkF m 25 #[.val (.ref u1), .val (.ref u2), .val (.int (1 : Int32))] [(.int (0 : Int32))])) _
    exact retN X0 hx (t := .boolean) Bd.returns (by simp) (hb hby d_jdk_43_method_13_code_25) hr
  · show own_Q (some (.int (0 : Int32))) h0 n0 _ s₁.heap _
    rw [e0]
    exact ⟨rfl, N0, rfl⟩
set_option maxRecDepth 65536 in
set_option maxHeartbeats 40000000 in
theorem own_eq_s1 (l : Launch) (Z : State) (a0 : Array Value) (hw : ∀ d ∈ tables_1, d.before a0 Z = true) (ws : List Jvm.Cond) (a1 a2 u1 u2 : Addr) (k1 k2 : ClassId) (i7 x0 x1 : Int32) (y0 y1 : Int32) (h0 : Heap) (n0 : Nat) (Z0 : n0 ≤ h0.size) (P1 : own_St Z h0 a1 u1 k1 (2 : Int32) [x0, x1]) (P2 : own_St Z h0 a2 u2 k2 (2 : Int32) [y0, y1]) (S8 : Sta Z h0 "java/lang/String" "COMPACT_STRINGS" "Z" (.int i7)) (c9 : ¬ (i7 = (0 : Int32))) (hne : a1 ≠ a2) (q0 : x0 = y0) (q1 : ¬ x1 = y1) :
    MetFree l (⟨"java/lang/String", "equals", "(Ljava/lang/Object;)Z"⟩ : MethodName) (head1 (Jvm.Cond.code (⟨"java/lang/String", "equals", "(Ljava/lang/Object;)Z"⟩ : MethodName) jdk_42_method_66_code 3 (some .boolean) :: ws) ({ frames := 1, cells := 0, slots := 0, locals := 14 } : Room)) (fun a U => a = #[(.ref a1), (.ref a2)] ∧ Z.Warmed39 U.vm ∧ U.heap = h0) (fun _ _ _ _ _ => True) (fun _ U o U' => ∃ v L, o = .returned v ∧ own_Q (some (.int (0 : Int32))) h0 n0 v U'.heap L ∧ FrameEnd U o U' L ({ frames := 1, cells := 0, slots := 0, locals := 14 } : Room).cells ({ frames := 1, cells := 0, slots := 0, locals := 14 } : Room).slots) := by
  refine MetFree.of_bodySF pf_jdk_42_method_66_code hisR ?_
  intro p e s m args below meth c s₁ Bd hml0 hP hK
  obtain ⟨rfl, hZ, hh⟩ := hP
  have hx := Bd.exec
  have hby := Bd.bytes
  have hml : c.maxLocals = 3 := hml0
  have hown : s.vm.findClass "java/lang/String" = some m.cls := findClass_of_methodNamed Bd.named
  have hnm := (name_of_methodNamed Bd.named Bd.method).1
  have X0 : Stand p l e ({ frames := 1, cells := 0, slots := 0, locals := 14 } : Room) s m #[(.ref a1), (.ref a2)] below meth c s₁ [] 0 0 := Stand.of_body Bd
  have e0 : s₁.heap = h0 := by rw [← hh, Bd.state]; rfl
  have N0 := Fr.nil n0
  have pre0 : ∀ t, Steps p.tables e below (s₁.setTop (mkF m 0 #[.val (.ref a1), .val (.ref a2), .unset] [])) t → Steps p.tables e below (s₁.setTop (entryFrame m #[(.ref a1), (.ref a2)] 3)) t := fun t k => castTop (ef_jdk_42_method_66_code_AA m a1 a2) k
  obtain ⟨E_91, Fvalue_92, Fcoder_93, V_94⟩ := id P1
  obtain ⟨E_95, Fvalue_96, Fcoder_97, V_98⟩ := id P2
  obtain ⟨T99, X99, e99, st99⟩ := instY X0 hx hZ hown (hw _ (List.mem_of_getElem? (i := 63) rfl)) e0 (Ins.self E_95) (g := (mkF m 8 #[.val (.ref a1), .val (.ref a2), .unset] [(.ref a2)])) rfl rfl (hb hby d_jdk_42_method_66_code_8)
  obtain ⟨T100, X100, e100, st100⟩ := castY X99 hx hZ hown (hw _ (List.mem_of_getElem? (i := 63) rfl)) e99 (Ins.self E_95) (g := (mkF m 15 #[.val (.ref a1), .val (.ref a2), .unset] [(.ref a2)])) rfl rfl (hb hby d_jdk_42_method_66_code_15)
  obtain ⟨T101, X101, e101, st101⟩ := getS2 X100 hx hZ hown (host := "") (Or.inl (hw _ (List.mem_of_getElem? (i := 64) rfl))) Via.refl e100 S8 (g := (mkF m 19 #[.val (.ref a1), .val (.ref a2), .val (.ref a2)] [])) rfl (hb hby d_jdk_42_method_66_code_19)
  obtain ⟨T102, X102, e102, st102⟩ := getF X101 hx hZ hown (host := "") (Or.inl (hw _ (List.mem_of_getElem? (i := 25) rfl))) Via.refl e101 Fcoder_93 (g := (mkF m 26 #[.val (.ref a1), .val (.ref a2), .val (.ref a2)] [(.ref a1)])) rfl rfl (hb hby d_jdk_42_method_66_code_26)
  obtain ⟨T103, X103, e103, st103⟩ := getF X102 hx hZ hown (host := "") (Or.inl (hw _ (List.mem_of_getElem? (i := 25) rfl))) Via.refl e102 Fcoder_97 (g := (mkF m 30 #[.val (.ref a1), .val (.ref a2), .val (.ref a2)] [(.ref a2), (.int (0 : Int32))])) rfl rfl (hb hby d_jdk_42_method_66_code_30)
  obtain ⟨T104, X104, e104, st104⟩ := getF X103 hx hZ hown (host := "") (Or.inl (hw _ (List.mem_of_getElem? (i := 24) rfl))) Via.refl e103 Fvalue_92 (g := (mkF m 37 #[.val (.ref a1), .val (.ref a2), .val (.ref a2)] [(.ref a1)])) rfl rfl (hb hby d_jdk_42_method_66_code_37)
  obtain ⟨T105, X105, e105, st105⟩ := getF X104 hx hZ hown (host := "") (Or.inl (hw _ (List.mem_of_getElem? (i := 24) rfl))) Via.refl e104 Fvalue_96 (g := (mkF m 41 #[.val (.ref a1), .val (.ref a2), .val (.ref a2)] [(.ref a2), (.ref u1)])) rfl rfl (hb hby d_jdk_42_method_66_code_41)
  obtain ⟨_, _, ⟨T106, L106, k106, n106⟩, -, X106, ⟨Lc106, hQ106, l106, y106, z106⟩, st106⟩ := Jvm.LawKit.callS X105 hx (y := (⟨"java/lang/StringLatin1", "equals", "([B[B)Z"⟩ : MethodName)) hown (mvT hZ (hw _ (List.mem_of_getElem? (i := 65) rfl))) (mvT hZ (hw _ (List.mem_of_getElem? (i := 66) rfl))) (mvT hZ (hw _ (List.mem_of_getElem? (i := 67) rfl))) (mvT hZ (hw _ (List.mem_of_getElem? (i := 68) rfl))) (by decide) (backOf (W := 0) (own_leq_s1 l Z a0 hw [] u1 u2 k1 k2 x0 x1 y0 y1 h0 n0 Z0 V_94 V_98 q0 q1) hZ (hw _ (List.mem_of_getElem? (i := 68) rfl)) (hw _ (List.mem_of_getElem? (i := 67) rfl)) (by decide) (by decide)) (g := (mkF m 44 #[.val (.ref a1), .val (.ref a2), .val (.ref a2)] [(.ref u2), (.ref u1)])) rfl (by rw [hml]; rfl) (argsL := [(.ref u1), (.ref u2)]) (rest := []) (lenOf pd__ArBArB_Z rfl) rfl (by show 2 * 0 + _ ≤ _; exact Nat.le_of_eq rfl) (hb hby d_jdk_42_method_66_code_44) (fun _ _ => ⟨rfl, e105, (by decide : 0 + 0 ≤ _), (by decide : 0 + 0 ≤ _)⟩)
  dsimp only [Pt.U, Pt.locs, Pt.cells, Pt.slots] at X106 l106 y106 z106 st106 hQ106
  subst l106 y106 z106
  obtain ⟨rfl, N106q, e106⟩ := hQ106
  have N106 := Fr.app N0 N106q
  obtain ⟨fs, hr, hrun, hended, hW, hsame⟩ := X106.leave (v := some (.int (0 : Int32))) (fun h => by rw [Bd.returns] at h; cases h)
  refine ⟨_, _, pre0 _ ?_, hrun, hended, _, _, rfl, ?_, ⟨_, rfl⟩, hW, hsame.mono (by decide) (by decide)⟩
  · show Steps p.tables e below (s₁.setTop (mkF m 0 #[.val (.ref a1), .val (.ref a2), .unset] [])) _
    refine XS.aloadN X0.here hx rfl (hb hby d_jdk_42_method_66_code_0) rfl rfl ?_
    show Steps p.tables e below (s₁.setTop (mkF m 1 #[.val (.ref a1), .val (.ref a2), .unset] [(.ref a1)])) _
    refine XS.aloadN X0.here hx rfl (hb hby d_jdk_42_method_66_code_1) rfl rfl ?_
    show Steps p.tables e below (s₁.setTop (mkF m 2 #[.val (.ref a1), .val (.ref a2), .unset] [(.ref a2), (.ref a1)])) _
    refine Jvm.RoadKit.acmp (g := (mkF m 2 #[.val (.ref a1), .val (.ref a2), .unset] [(.ref a2), (.ref a1)])) X0 hx rfl rfl rfl (pc0 := 2) (pc' := 7) (same := false) rfl (hb hby d_jdk_42_method_66_code_2) rfl (decide_eq_false (fun q => hne (Value.ref.inj q))) (by decide) (by decide) ?_
    show Steps p.tables e below (s₁.setTop (mkF m 7 #[.val (.ref a1), .val (.ref a2), .unset] [])) _
    refine XS.aloadN X0.here hx rfl (hb hby d_jdk_42_method_66_code_7) rfl rfl ?_
    show Steps p.tables e below (s₁.setTop (mkF m 8 #[.val (.ref a1), .val (.ref a2), .unset] [(.ref a2)])) _
    refine st99 _ ?_
    show Steps p.tables e below (T99.setTop (mkF m 11 #[.val (.ref a1), .val (.ref a2), .unset] [(.int (1 : Int32))])) _
    refine XS.ifNo X99.here hx rfl (hb hby d_jdk_42_method_66_code_11) rfl (by decide) ?_
    show Steps p.tables e below (T99.setTop (mkF m 14 #[.val (.ref a1), .val (.ref a2), .unset] [])) _
    refine XS.aloadN X99.here hx rfl (hb hby d_jdk_42_method_66_code_14) rfl rfl ?_
    show Steps p.tables e below (T99.setTop (mkF m 15 #[.val (.ref a1), .val (.ref a2), .unset] [(.ref a2)])) _
    refine st100 _ ?_
    show Steps p.tables e below (T100.setTop (mkF m 18 #[.val (.ref a1), .val (.ref a2), .unset] [(.ref a2)])) _
    refine XS.astoreN X100.here hx rfl (hb hby d_jdk_42_method_66_code_18) rfl rfl (l' := #[.val (.ref a1), .val (.ref a2), .val (.ref a2)]) rfl ?_
    show Steps p.tables e below (T100.setTop (mkF m 19 #[.val (.ref a1), .val (.ref a2), .val (.ref a2)] [])) _
    refine st101 _ ?_
    show Steps p.tables e below (T101.setTop (mkF m 22 #[.val (.ref a1), .val (.ref a2), .val (.ref a2)] [(.int i7)])) _
    refine XS.ifNo X101.here hx rfl (hb hby d_jdk_42_method_66_code_22) rfl (XT.i0_eq_f c9) ?_
    show Steps p.tables e below (T101.setTop (mkF m 25 #[.val (.ref a1), .val (.ref a2), .val (.ref a2)] [])) _
    refine XS.aloadN X101.here hx rfl (hb hby d_jdk_42_method_66_code_25) rfl rfl ?_
    show Steps p.tables e below (T101.setTop (mkF m 26 #[.val (.ref a1), .val (.ref a2), .val (.ref a2)] [(.ref a1)])) _
    refine st102 _ ?_
    show Steps p.tables e below (T102.setTop (mkF m 29 #[.val (.ref a1), .val (.ref a2), .val (.ref a2)] [(.int (0 : Int32))])) _
    refine XS.aloadN X102.here hx rfl (hb hby d_jdk_42_method_66_code_29) rfl rfl ?_
    show Steps p.tables e below (T102.setTop (mkF m 30 #[.val (.ref a1), .val (.ref a2), .val (.ref a2)] [(.ref a2), (.int (0 : Int32))])) _
    refine st103 _ ?_
    show Steps p.tables e below (T103.setTop (mkF m 33 #[.val (.ref a1), .val (.ref a2), .val (.ref a2)] [(.int (0 : Int32)), (.int (0 : Int32))])) _
    refine XS.icmpNo X103.here hx rfl (hb hby d_jdk_42_method_66_code_33) rfl (by decide) ?_
    show Steps p.tables e below (T103.setTop (mkF m 36 #[.val (.ref a1), .val (.ref a2), .val (.ref a2)] [])) _
    refine XS.aloadN X103.here hx rfl (hb hby d_jdk_42_method_66_code_36) rfl rfl ?_
    show Steps p.tables e below (T103.setTop (mkF m 37 #[.val (.ref a1), .val (.ref a2), .val (.ref a2)] [(.ref a1)])) _
    refine st104 _ ?_
    show Steps p.tables e below (T104.setTop (mkF m 40 #[.val (.ref a1), .val (.ref a2), .val (.ref a2)] [(.ref u1)])) _
    refine XS.aloadN X104.here hx rfl (hb hby d_jdk_42_method_66_code_40) rfl rfl ?_
    show Steps p.tables e below (T104.setTop (mkF m 41 #[.val (.ref a1), .val (.ref a2), .val (.ref a2)] [(.ref a2), (.ref u1)])) _
    refine st105 _ ?_
    show Steps p.tables e below (T105.setTop (mkF m 44 #[.val (.ref a1), .val (.ref a2), .val (.ref a2)] [(.ref u2), (.ref u1)])) _
    refine st106 _ ?_
    show Steps p.tables e below (T106.setTop (mkF m 47 #[.val (.ref a1), .val (.ref a2), .val (.ref a2)] [(.int (0 : Int32))])) _
    refine XS.ifYes X106.here hx rfl (pc0 := 47) (pc' := 54) rfl (hb hby d_jdk_42_method_66_code_47) rfl (by decide) (by decide) (by decide) ?_
    show Steps p.tables e below (T106.setTop (mkF m 54 #[.val (.ref a1), .val (.ref a2), .val (.ref a2)] [])) _
    refine XT.iconstV X106.here hx rfl (0 : Int32) (hb hby d_jdk_42_method_66_code_54) rfl ?_
    show Steps p.tables e below (T106.setTop (mkF m 55 #[.val (.ref a1), .val (.ref a2), .val (.ref a2)] [(.int (0 : Int32))])) _
    exact retN X106 hx (t := .boolean) Bd.returns (by simp) (hb hby d_jdk_42_method_66_code_55) hr
  · show own_Q (some (.int (0 : Int32))) h0 n0 _ T106.heap _
    rw [e106]
    exact ⟨rfl, N106, rfl⟩
theorem d_jdk_43_method_13_code_32 : decode jdk_43_method_13_code 32 = .ok (.iconst 1, 1) := by decide +kernel
theorem d_jdk_43_method_13_code_33 : decode jdk_43_method_13_code 33 = .ok (.ireturn, 1) := by decide +kernel
set_option maxRecDepth 65536 in
set_option maxHeartbeats 40000000 in
theorem own_leq_s2 (l : Launch) (Z : State) (a0 : Array Value) (hw : ∀ d ∈ tables_1, d.before a0 Z = true) (ws : List Jvm.Cond) (u1 u2 : Addr) (k1 k2 : ClassId) (x0 x1 : Int32) (y0 y1 : Int32) (h0 : Heap) (n0 : Nat) (Z0 : n0 ≤ h0.size) (V1 : Arv Z h0 u1 k1 .byte (2 : Int32) ([x0, x1].map Value.int) (.int 0)) (V2 : Arv Z h0 u2 k2 .byte (2 : Int32) ([y0, y1].map Value.int) (.int 0)) (q0 : x0 = y0) (q1 : x1 = y1) :
    MetFree l (⟨"java/lang/StringLatin1", "equals", "([B[B)Z"⟩ : MethodName) (head1 (Jvm.Cond.code (⟨"java/lang/StringLatin1", "equals", "([B[B)Z"⟩ : MethodName) jdk_43_method_13_code 3 (some .boolean) :: ws) ({ frames := 0, cells := 0, slots := 0, locals := 0 } : Room)) (fun a U => a = #[(.ref u1), (.ref u2)] ∧ Z.Warmed39 U.vm ∧ U.heap = h0) (fun _ _ _ _ _ => True) (fun _ U o U' => ∃ v L, o = .returned v ∧ own_Q (some (.int (1 : Int32))) h0 n0 v U'.heap L ∧ FrameEnd U o U' L ({ frames := 0, cells := 0, slots := 0, locals := 0 } : Room).cells ({ frames := 0, cells := 0, slots := 0, locals := 0 } : Room).slots) := by
  refine MetFree.of_bodySF pf_jdk_43_method_13_code hisR ?_
  intro p e s m args below meth c s₁ Bd hml0 hP hK
  obtain ⟨rfl, hZ, hh⟩ := hP
  have hx := Bd.exec
  have hby := Bd.bytes
  have hml : c.maxLocals = 3 := hml0
  have hown : s.vm.findClass "java/lang/StringLatin1" = some m.cls := findClass_of_methodNamed Bd.named
  have hnm := (name_of_methodNamed Bd.named Bd.method).1
  have X0 : Stand p l e ({ frames := 0, cells := 0, slots := 0, locals := 0 } : Room) s m #[(.ref u1), (.ref u2)] below meth c s₁ [] 0 0 := Stand.of_body Bd
  have e0 : s₁.heap = h0 := by rw [← hh, Bd.state]; rfl
  have N0 := Fr.nil n0
  have pre0 : ∀ t, Steps p.tables e below (s₁.setTop (mkF m 0 #[.val (.ref u1), .val (.ref u2), .unset] [])) t → Steps p.tables e below (s₁.setTop (entryFrame m #[(.ref u1), (.ref u2)] 3)) t := fun t k => castTop (ef_jdk_43_method_13_code_AA m u1 u2) k
  obtain ⟨cl107, Ar107, -, Sz107, Nz107, -⟩ := id V1
  obtain ⟨cl108, Ar108, -, Sz108, Nz108, -⟩ := id V2
  obtain ⟨cl109, Ar109, -, Sz109, Nz109, -⟩ := id V1
  obtain ⟨cl110, Ar110, Q110, H110⟩ := own_at V1 (j := (0 : Int32)) (v := (.int x0)) (by decide) rfl
  obtain ⟨cl111, Ar111, Q111, H111⟩ := own_at V2 (j := (0 : Int32)) (v := (.int y0)) (by decide) rfl
  obtain ⟨cl112, Ar112, -, Sz112, Nz112, -⟩ := id V1
  obtain ⟨cl113, Ar113, Q113, H113⟩ := own_at V1 (j := (1 : Int32)) (v := (.int x1)) (by decide) rfl
  obtain ⟨cl114, Ar114, Q114, H114⟩ := own_at V2 (j := (1 : Int32)) (v := (.int y1)) (by decide) rfl
  obtain ⟨cl115, Ar115, -, Sz115, Nz115, -⟩ := id V1
  obtain ⟨fs, hr, hrun, hended, hW, hsame⟩ := X0.leave (v := some (.int (1 : Int32))) (fun h => by rw [Bd.returns] at h; cases h)
  refine ⟨_, _, pre0 _ ?_, hrun, hended, _, _, rfl, ?_, ⟨_, rfl⟩, hW, hsame.mono (by decide) (by decide)⟩
  · show Steps p.tables e below (s₁.setTop (mkF m 0 #[.val (.ref u1), .val (.ref u2), .unset] [])) _
    refine XS.aloadN X0.here hx rfl (hb hby d_jdk_43_method_13_code_0) rfl rfl ?_
    show Steps p.tables e below (s₁.setTop (mkF m 1 #[.val (.ref u1), .val (.ref u2), .unset] [(.ref u1)])) _
    refine X0.arraylength hx (by rw [e0]; exact Ar107.1) (State.isArrayOf_alike hZ.alike Ar107.2.1) (g := (mkF m 1 #[.val (.ref u1), .val (.ref u2), .unset] [(.ref u1)])) rfl rfl (hb hby d_jdk_43_method_13_code_1) _ ?_
    rw [len_of Sz107 Nz107]
    show Steps p.tables e below (s₁.setTop (mkF m 2 #[.val (.ref u1), .val (.ref u2), .unset] [(.int (2 : Int32))])) _
    refine XS.aloadN X0.here hx rfl (hb hby d_jdk_43_method_13_code_2) rfl rfl ?_
    show Steps p.tables e below (s₁.setTop (mkF m 3 #[.val (.ref u1), .val (.ref u2), .unset] [(.ref u2), (.int (2 : Int32))])) _
    refine X0.arraylength hx (by rw [e0]; exact Ar108.1) (State.isArrayOf_alike hZ.alike Ar108.2.1) (g := (mkF m 3 #[.val (.ref u1), .val (.ref u2), .unset] [(.ref u2), (.int (2 : Int32))])) rfl rfl (hb hby d_jdk_43_method_13_code_3) _ ?_
    rw [len_of Sz108 Nz108]
    show Steps p.tables e below (s₁.setTop (mkF m 4 #[.val (.ref u1), .val (.ref u2), .unset] [(.int (2 : Int32)), (.int (2 : Int32))])) _
    refine XS.icmpNo X0.here hx rfl (hb hby d_jdk_43_method_13_code_4) rfl (by decide) ?_
    show Steps p.tables e below (s₁.setTop (mkF m 7 #[.val (.ref u1), .val (.ref u2), .unset] [])) _
    refine XT.iconstV X0.here hx rfl (0 : Int32) (hb hby d_jdk_43_method_13_code_7) rfl ?_
    show Steps p.tables e below (s₁.setTop (mkF m 8 #[.val (.ref u1), .val (.ref u2), .unset] [(.int (0 : Int32))])) _
    refine XS.istoreN X0.here hx rfl (hb hby d_jdk_43_method_13_code_8) rfl (l' := #[.val (.ref u1), .val (.ref u2), .val (.int (0 : Int32))]) rfl ?_
    show Steps p.tables e below (s₁.setTop (mkF m 9 #[.val (.ref u1), .val (.ref u2), .val (.int (0 : Int32))] [])) _
    refine XS.iloadN X0.here hx rfl (hb hby d_jdk_43_method_13_code_9) rfl ?_
    show Steps p.tables e below (s₁.setTop (mkF m 10 #[.val (.ref u1), .val (.ref u2), .val (.int (0 : Int32))] [(.int (0 : Int32))])) _
    refine XS.aloadN X0.here hx rfl (hb hby d_jdk_43_method_13_code_10) rfl rfl ?_
    show Steps p.tables e below (s₁.setTop (mkF m 11 #[.val (.ref u1), .val (.ref u2), .val (.int (0 : Int32))] [(.ref u1), (.int (0 : Int32))])) _
    refine X0.arraylength hx (by rw [e0]; exact Ar109.1) (State.isArrayOf_alike hZ.alike Ar109.2.1) (g := (mkF m 11 #[.val (.ref u1), .val (.ref u2), .val (.int (0 : Int32))] [(.ref u1), (.int (0 : Int32))])) rfl rfl (hb hby d_jdk_43_method_13_code_11) _ ?_
    rw [len_of Sz109 Nz109]
    show Steps p.tables e below (s₁.setTop (mkF m 12 #[.val (.ref u1), .val (.ref u2), .val (.int (0 : Int32))] [(.int (2 : Int32)), (.int (0 : Int32))])) _
    refine XS.icmpNo X0.here hx rfl (hb hby d_jdk_43_method_13_code_12) rfl (by decide) ?_
    show Steps p.tables e below (s₁.setTop (mkF m 15 #[.val (.ref u1), .val (.ref u2), .val (.int (0 : Int32))] [])) _
    refine XS.aloadN X0.here hx rfl (hb hby d_jdk_43_method_13_code_15) rfl rfl ?_
    show Steps p.tables e below (s₁.setTop (mkF m 16 #[.val (.ref u1), .val (.ref u2), .val (.int (0 : Int32))] [(.ref u1)])) _
    refine XS.iloadN X0.here hx rfl (hb hby d_jdk_43_method_13_code_16) rfl ?_
    show Steps p.tables e below (s₁.setTop (mkF m 17 #[.val (.ref u1), .val (.ref u2), .val (.int (0 : Int32))] [(.int (0 : Int32)), (.ref u1)])) _
    refine X0.baloadBytes hx (j := (0 : Int32)) (v := (.int x0)) (by rw [e0]; exact Ar110.1) (State.isArrayOf_alike hZ.alike Ar110.2.1) Ar110.2.2 Q110 H110 (g := (mkF m 17 #[.val (.ref u1), .val (.ref u2), .val (.int (0 : Int32))] [(.int (0 : Int32)), (.ref u1)])) rfl rfl (hb hby d_jdk_43_method_13_code_17) _ ?_
    show Steps p.tables e below (s₁.setTop (mkF m 18 #[.val (.ref u1), .val (.ref u2), .val (.int (0 : Int32))] [(.int x0)])) _
    refine XS.aloadN X0.here hx rfl (hb hby d_jdk_43_method_13_code_18) rfl rfl ?_
    show Steps p.tables e below (s₁.setTop (mkF m 19 #[.val (.ref u1), .val (.ref u2), .val (.int (0 : Int32))] [(.ref u2), (.int x0)])) _
    refine XS.iloadN X0.here hx rfl (hb hby d_jdk_43_method_13_code_19) rfl ?_
    show Steps p.tables e below (s₁.setTop (mkF m 20 #[.val (.ref u1), .val (.ref u2), .val (.int (0 : Int32))] [(.int (0 : Int32)), (.ref u2), (.int x0)])) _
    refine X0.baloadBytes hx (j := (0 : Int32)) (v := (.int y0)) (by rw [e0]; exact Ar111.1) (State.isArrayOf_alike hZ.alike Ar111.2.1) Ar111.2.2 Q111 H111 (g := (mkF m 20 #[.val (.ref u1), .val (.ref u2), .val (.int (0 : Int32))] [(.int (0 : Int32)), (.ref u2), (.int x0)])) rfl rfl (hb hby d_jdk_43_method_13_code_20) _ ?_
    show Steps p.tables e below (s₁.setTop (mkF m 21 #[.val (.ref u1), .val (.ref u2), .val (.int (0 : Int32))] [(.int y0), (.int x0)])) _
    refine XS.icmpYes X0.here hx rfl (pc0 := 21) (pc' := 26) rfl (hb hby d_jdk_43_method_13_code_21) rfl (XT.ii_eq_t q0) (by decide) (by decide) ?_
    show Steps p.tables e below (s₁.setTop (mkF m 26 #[.val (.ref u1), .val (.ref u2), .val (.int (0 : Int32))] [])) _
    refine XT.iincV X0.here hx rfl (1 : Int32) (hb hby d_jdk_43_method_13_code_26) rfl rfl (l' := #[.val (.ref u1), .val (.ref u2), .val (.int ((0 : Int32) + (1 : Int32)))]) rfl ?_
    rw [show ((0 : Int32) + (1 : Int32)) = (1 : Int32) from by decide]
    show Steps p.tables e below (s₁.setTop (mkF m 29 #[.val (.ref u1), .val (.ref u2), .val (.int (1 : Int32))] [])) _
    refine XS.goto X0.here hx rfl (pc0 := 29) (pc' := 9) rfl (hb hby d_jdk_43_method_13_code_29) (by decide) (by decide) ?_
    show Steps p.tables e below (s₁.setTop (mkF m 9 #[.val (.ref u1), .val (.ref u2), .val (.int (1 : Int32))] [])) _
    refine XS.iloadN X0.here hx rfl (hb hby d_jdk_43_method_13_code_9) rfl ?_
    show Steps p.tables e below (s₁.setTop (mkF m 10 #[.val (.ref u1), .val (.ref u2), .val (.int (1 : Int32))] [(.int (1 : Int32))])) _
    refine XS.aloadN X0.here hx rfl (hb hby d_jdk_43_method_13_code_10) rfl rfl ?_
    show Steps p.tables e below (s₁.setTop (mkF m 11 #[.val (.ref u1), .val (.ref u2), .val (.int (1 : Int32))] [(.ref u1), (.int (1 : Int32))])) _
    refine X0.arraylength hx (by rw [e0]; exact Ar112.1) (State.isArrayOf_alike hZ.alike Ar112.2.1) (g := (mkF m 11 #[.val (.ref u1), .val (.ref u2), .val (.int (1 : Int32))] [(.ref u1), (.int (1 : Int32))])) rfl rfl (hb hby d_jdk_43_method_13_code_11) _ ?_
    rw [len_of Sz112 Nz112]
    show Steps p.tables e below (s₁.setTop (mkF m 12 #[.val (.ref u1), .val (.ref u2), .val (.int (1 : Int32))] [(.int (2 : Int32)), (.int (1 : Int32))])) _
    refine XS.icmpNo X0.here hx rfl (hb hby d_jdk_43_method_13_code_12) rfl (by decide) ?_
    show Steps p.tables e below (s₁.setTop (mkF m 15 #[.val (.ref u1), .val (.ref u2), .val (.int (1 : Int32))] [])) _
    refine XS.aloadN X0.here hx rfl (hb hby d_jdk_43_method_13_code_15) rfl rfl ?_
    show Steps p.tables e below (s₁.setTop (mkF m 16 #[.val (.ref u1), .val (.ref u2), .val (.int (1 : Int32))] [(.ref u1)])) _
    refine XS.iloadN X0.here hx rfl (hb hby d_jdk_43_method_13_code_16) rfl ?_
    show Steps p.tables e below (s₁.setTop (mkF m 17 #[.val (.ref u1), .val (.ref u2), .val (.int (1 : Int32))] [(.int (1 : Int32)), (.ref u1)])) _
    refine X0.baloadBytes hx (j := (1 : Int32)) (v := (.int x1)) (by rw [e0]; exact Ar113.1) (State.isArrayOf_alike hZ.alike Ar113.2.1) Ar113.2.2 Q113 H113 (g := (mkF m 17 #[.val (.ref u1), .val (.ref u2), .val (.int (1 : Int32))] [(.int (1 : Int32)), (.ref u1)])) rfl rfl (hb hby d_jdk_43_method_13_code_17) _ ?_
    show Steps p.tables e below (s₁.setTop (mkF m 18 #[.val (.ref u1), .val (.ref u2), .val (.int (1 : Int32))] [(.int x1)])) _
    refine XS.aloadN X0.here hx rfl (hb hby d_jdk_43_method_13_code_18) rfl rfl ?_
    show Steps p.tables e below (s₁.setTop (mkF m 19 #[.val (.ref u1), .val (.ref u2), .val (.int (1 : Int32))] [(.ref u2), (.int x1)])) _
    refine XS.iloadN X0.here hx rfl (hb hby d_jdk_43_method_13_code_19) rfl ?_
    show Steps p.tables e below (s₁.setTop (mkF m 20 #[.val (.ref u1), .val (.ref u2), .val (.int (1 : Int32))] [(.int (1 : Int32)), (.ref u2), (.int x1)])) _
    refine X0.baloadBytes hx (j := (1 : Int32)) (v := (.int y1)) (by rw [e0]; exact Ar114.1) (State.isArrayOf_alike hZ.alike Ar114.2.1) Ar114.2.2 Q114 H114 (g := (mkF m 20 #[.val (.ref u1), .val (.ref u2), .val (.int (1 : Int32))] [(.int (1 : Int32)), (.ref u2), (.int x1)])) rfl rfl (hb hby d_jdk_43_method_13_code_20) _ ?_
    show Steps p.tables e below (s₁.setTop (mkF m 21 #[.val (.ref u1), .val (.ref u2), .val (.int (1 : Int32))] [(.int y1), (.int x1)])) _
    refine XS.icmpYes X0.here hx rfl (pc0 := 21) (pc' := 26) rfl (hb hby d_jdk_43_method_13_code_21) rfl (XT.ii_eq_t q1) (by decide) (by decide) ?_
    show Steps p.tables e below (s₁.setTop (mkF m 26 #[.val (.ref u1), .val (.ref u2), .val (.int (1 : Int32))] [])) _
    refine XT.iincV X0.here hx rfl (1 : Int32) (hb hby d_jdk_43_method_13_code_26) rfl rfl (l' := #[.val (.ref u1), .val (.ref u2), .val (.int ((1 : Int32) + (1 : Int32)))]) rfl ?_
    rw [show ((1 : Int32) + (1 : Int32)) = (2 : Int32) from by decide]
    show Steps p.tables e below (s₁.setTop (mkF m 29 #[.val (.ref u1), .val (.ref u2), .val (.int (2 : Int32))] [])) _
    refine XS.goto X0.here hx rfl (pc0 := 29) (pc' := 9) rfl (hb hby d_jdk_43_method_13_code_29) (by decide) (by decide) ?_
    show Steps p.tables e below (s₁.setTop (mkF m 9 #[.val (.ref u1), .val (.ref u2), .val (.int (2 : Int32))] [])) _
    refine XS.iloadN X0.here hx rfl (hb hby d_jdk_43_method_13_code_9) rfl ?_
    show Steps p.tables e below (s₁.setTop (mkF m 10 #[.val (.ref u1), .val (.ref u2), .val (.int (2 : Int32))] [(.int (2 : Int32))])) _
    refine XS.aloadN X0.here hx rfl (hb hby d_jdk_43_method_13_code_10) rfl rfl ?_
    show Steps p.tables e below (s₁.setTop (mkF m 11 #[.val (.ref u1), .val (.ref u2), .val (.int (2 : Int32))] [(.ref u1), (.int (2 : Int32))])) _
    refine X0.arraylength hx (by rw [e0]; exact Ar115.1) (State.isArrayOf_alike hZ.alike Ar115.2.1) (g := (mkF m 11 #[.val (.ref u1), .val (.ref u2), .val (.int (2 : Int32))] [(.ref u1), (.int (2 : Int32))])) rfl rfl (hb hby d_jdk_43_method_13_code_11) _ ?_
    rw [len_of Sz115 Nz115]
    show Steps p.tables e below (s₁.setTop (mkF m 12 #[.val (.ref u1), .val (.ref u2), .val (.int (2 : Int32))] [(.int (2 : Int32)), (.int (2 : Int32))])) _
    refine XS.icmpYes X0.here hx rfl (pc0 := 12) (pc' := 32) rfl (hb hby d_jdk_43_method_13_code_12) rfl (by decide) (by decide) (by decide) ?_
    show Steps p.tables e below (s₁.setTop (mkF m 32 #[.val (.ref u1), .val (.ref u2), .val (.int (2 : Int32))] [])) _
    refine XT.iconstV X0.here hx rfl (1 : Int32) (hb hby d_jdk_43_method_13_code_32) rfl ?_
    show Steps p.tables e below (s₁.setTop (mkF m 33 #[.val (.ref u1), .val (.ref u2), .val (.int (2 : Int32))] [(.int (1 : Int32))])) _
    exact retN X0 hx (t := .boolean) Bd.returns (by simp) (hb hby d_jdk_43_method_13_code_33) hr
  · show own_Q (some (.int (1 : Int32))) h0 n0 _ s₁.heap _
    rw [e0]
    exact ⟨rfl, N0, rfl⟩
theorem d_jdk_42_method_66_code_50 : decode jdk_42_method_66_code 50 = .ok (.iconst 1, 1) := by decide +kernel
theorem d_jdk_42_method_66_code_51 : decode jdk_42_method_66_code 51 = .ok (.goto 4, 3) := by decide +kernel
set_option maxRecDepth 65536 in
set_option maxHeartbeats 40000000 in
theorem own_eq_s2 (l : Launch) (Z : State) (a0 : Array Value) (hw : ∀ d ∈ tables_1, d.before a0 Z = true) (ws : List Jvm.Cond) (a1 a2 u1 u2 : Addr) (k1 k2 : ClassId) (i7 x0 x1 : Int32) (y0 y1 : Int32) (h0 : Heap) (n0 : Nat) (Z0 : n0 ≤ h0.size) (P1 : own_St Z h0 a1 u1 k1 (2 : Int32) [x0, x1]) (P2 : own_St Z h0 a2 u2 k2 (2 : Int32) [y0, y1]) (S8 : Sta Z h0 "java/lang/String" "COMPACT_STRINGS" "Z" (.int i7)) (c9 : ¬ (i7 = (0 : Int32))) (hne : a1 ≠ a2) (q0 : x0 = y0) (q1 : x1 = y1) :
    MetFree l (⟨"java/lang/String", "equals", "(Ljava/lang/Object;)Z"⟩ : MethodName) (head1 (Jvm.Cond.code (⟨"java/lang/String", "equals", "(Ljava/lang/Object;)Z"⟩ : MethodName) jdk_42_method_66_code 3 (some .boolean) :: ws) ({ frames := 1, cells := 0, slots := 0, locals := 14 } : Room)) (fun a U => a = #[(.ref a1), (.ref a2)] ∧ Z.Warmed39 U.vm ∧ U.heap = h0) (fun _ _ _ _ _ => True) (fun _ U o U' => ∃ v L, o = .returned v ∧ own_Q (some (.int (1 : Int32))) h0 n0 v U'.heap L ∧ FrameEnd U o U' L ({ frames := 1, cells := 0, slots := 0, locals := 14 } : Room).cells ({ frames := 1, cells := 0, slots := 0, locals := 14 } : Room).slots) := by
  refine MetFree.of_bodySF pf_jdk_42_method_66_code hisR ?_
  intro p e s m args below meth c s₁ Bd hml0 hP hK
  obtain ⟨rfl, hZ, hh⟩ := hP
  have hx := Bd.exec
  have hby := Bd.bytes
  have hml : c.maxLocals = 3 := hml0
  have hown : s.vm.findClass "java/lang/String" = some m.cls := findClass_of_methodNamed Bd.named
  have hnm := (name_of_methodNamed Bd.named Bd.method).1
  have X0 : Stand p l e ({ frames := 1, cells := 0, slots := 0, locals := 14 } : Room) s m #[(.ref a1), (.ref a2)] below meth c s₁ [] 0 0 := Stand.of_body Bd
  have e0 : s₁.heap = h0 := by rw [← hh, Bd.state]; rfl
  have N0 := Fr.nil n0
  have pre0 : ∀ t, Steps p.tables e below (s₁.setTop (mkF m 0 #[.val (.ref a1), .val (.ref a2), .unset] [])) t → Steps p.tables e below (s₁.setTop (entryFrame m #[(.ref a1), (.ref a2)] 3)) t := fun t k => castTop (ef_jdk_42_method_66_code_AA m a1 a2) k
  obtain ⟨E_116, Fvalue_117, Fcoder_118, V_119⟩ := id P1
  obtain ⟨E_120, Fvalue_121, Fcoder_122, V_123⟩ := id P2
  obtain ⟨T124, X124, e124, st124⟩ := instY X0 hx hZ hown (hw _ (List.mem_of_getElem? (i := 63) rfl)) e0 (Ins.self E_120) (g := (mkF m 8 #[.val (.ref a1), .val (.ref a2), .unset] [(.ref a2)])) rfl rfl (hb hby d_jdk_42_method_66_code_8)
  obtain ⟨T125, X125, e125, st125⟩ := castY X124 hx hZ hown (hw _ (List.mem_of_getElem? (i := 63) rfl)) e124 (Ins.self E_120) (g := (mkF m 15 #[.val (.ref a1), .val (.ref a2), .unset] [(.ref a2)])) rfl rfl (hb hby d_jdk_42_method_66_code_15)
  obtain ⟨T126, X126, e126, st126⟩ := getS2 X125 hx hZ hown (host := "") (Or.inl (hw _ (List.mem_of_getElem? (i := 64) rfl))) Via.refl e125 S8 (g := (mkF m 19 #[.val (.ref a1), .val (.ref a2), .val (.ref a2)] [])) rfl (hb hby d_jdk_42_method_66_code_19)
  obtain ⟨T127, X127, e127, st127⟩ := getF X126 hx hZ hown (host := "") (Or.inl (hw _ (List.mem_of_getElem? (i := 25) rfl))) Via.refl e126 Fcoder_118 (g := (mkF m 26 #[.val (.ref a1), .val (.ref a2), .val (.ref a2)] [(.ref a1)])) rfl rfl (hb hby d_jdk_42_method_66_code_26)
  obtain ⟨T128, X128, e128, st128⟩ := getF X127 hx hZ hown (host := "") (Or.inl (hw _ (List.mem_of_getElem? (i := 25) rfl))) Via.refl e127 Fcoder_122 (g := (mkF m 30 #[.val (.ref a1), .val (.ref a2), .val (.ref a2)] [(.ref a2), (.int (0 : Int32))])) rfl rfl (hb hby d_jdk_42_method_66_code_30)
  obtain ⟨T129, X129, e129, st129⟩ := getF X128 hx hZ hown (host := "") (Or.inl (hw _ (List.mem_of_getElem? (i := 24) rfl))) Via.refl e128 Fvalue_117 (g := (mkF m 37 #[.val (.ref a1), .val (.ref a2), .val (.ref a2)] [(.ref a1)])) rfl rfl (hb hby d_jdk_42_method_66_code_37)
  obtain ⟨T130, X130, e130, st130⟩ := getF X129 hx hZ hown (host := "") (Or.inl (hw _ (List.mem_of_getElem? (i := 24) rfl))) Via.refl e129 Fvalue_121 (g := (mkF m 41 #[.val (.ref a1), .val (.ref a2), .val (.ref a2)] [(.ref a2), (.ref u1)])) rfl rfl (hb hby d_jdk_42_method_66_code_41)
  obtain ⟨_, _, ⟨T131, L131, k131, n131⟩, -, X131, ⟨Lc131, hQ131, l131, y131, z131⟩, st131⟩ := Jvm.LawKit.callS X130 hx (y := (⟨"java/lang/StringLatin1", "equals", "([B[B)Z"⟩ : MethodName)) hown (mvT hZ (hw _ (List.mem_of_getElem? (i := 65) rfl))) (mvT hZ (hw _ (List.mem_of_getElem? (i := 66) rfl))) (mvT hZ (hw _ (List.mem_of_getElem? (i := 67) rfl))) (mvT hZ (hw _ (List.mem_of_getElem? (i := 68) rfl))) (by decide) (backOf (W := 0) (own_leq_s2 l Z a0 hw [] u1 u2 k1 k2 x0 x1 y0 y1 h0 n0 Z0 V_119 V_123 q0 q1) hZ (hw _ (List.mem_of_getElem? (i := 68) rfl)) (hw _ (List.mem_of_getElem? (i := 67) rfl)) (by decide) (by decide)) (g := (mkF m 44 #[.val (.ref a1), .val (.ref a2), .val (.ref a2)] [(.ref u2), (.ref u1)])) rfl (by rw [hml]; rfl) (argsL := [(.ref u1), (.ref u2)]) (rest := []) (lenOf pd__ArBArB_Z rfl) rfl (by show 2 * 0 + _ ≤ _; exact Nat.le_of_eq rfl) (hb hby d_jdk_42_method_66_code_44) (fun _ _ => ⟨rfl, e130, (by decide : 0 + 0 ≤ _), (by decide : 0 + 0 ≤ _)⟩)
  dsimp only [Pt.U, Pt.locs, Pt.cells, Pt.slots] at X131 l131 y131 z131 st131 hQ131
  subst l131 y131 z131
  obtain ⟨rfl, N131q, e131⟩ := hQ131
  have N131 := Fr.app N0 N131q
  obtain ⟨fs, hr, hrun, hended, hW, hsame⟩ := X131.leave (v := some (.int (1 : Int32))) (fun h => by rw [Bd.returns] at h; cases h)
  refine ⟨_, _, pre0 _ ?_, hrun, hended, _, _, rfl, ?_, ⟨_, rfl⟩, hW, hsame.mono (by decide) (by decide)⟩
  · show Steps p.tables e below (s₁.setTop (mkF m 0 #[.val (.ref a1), .val (.ref a2), .unset] [])) _
    refine XS.aloadN X0.here hx rfl (hb hby d_jdk_42_method_66_code_0) rfl rfl ?_
    show Steps p.tables e below (s₁.setTop (mkF m 1 #[.val (.ref a1), .val (.ref a2), .unset] [(.ref a1)])) _
    refine XS.aloadN X0.here hx rfl (hb hby d_jdk_42_method_66_code_1) rfl rfl ?_
    show Steps p.tables e below (s₁.setTop (mkF m 2 #[.val (.ref a1), .val (.ref a2), .unset] [(.ref a2), (.ref a1)])) _
    refine Jvm.RoadKit.acmp (g := (mkF m 2 #[.val (.ref a1), .val (.ref a2), .unset] [(.ref a2), (.ref a1)])) X0 hx rfl rfl rfl (pc0 := 2) (pc' := 7) (same := false) rfl (hb hby d_jdk_42_method_66_code_2) rfl (decide_eq_false (fun q => hne (Value.ref.inj q))) (by decide) (by decide) ?_
    show Steps p.tables e below (s₁.setTop (mkF m 7 #[.val (.ref a1), .val (.ref a2), .unset] [])) _
    refine XS.aloadN X0.here hx rfl (hb hby d_jdk_42_method_66_code_7) rfl rfl ?_
    show Steps p.tables e below (s₁.setTop (mkF m 8 #[.val (.ref a1), .val (.ref a2), .unset] [(.ref a2)])) _
    refine st124 _ ?_
    show Steps p.tables e below (T124.setTop (mkF m 11 #[.val (.ref a1), .val (.ref a2), .unset] [(.int (1 : Int32))])) _
    refine XS.ifNo X124.here hx rfl (hb hby d_jdk_42_method_66_code_11) rfl (by decide) ?_
    show Steps p.tables e below (T124.setTop (mkF m 14 #[.val (.ref a1), .val (.ref a2), .unset] [])) _
    refine XS.aloadN X124.here hx rfl (hb hby d_jdk_42_method_66_code_14) rfl rfl ?_
    show Steps p.tables e below (T124.setTop (mkF m 15 #[.val (.ref a1), .val (.ref a2), .unset] [(.ref a2)])) _
    refine st125 _ ?_
    show Steps p.tables e below (T125.setTop (mkF m 18 #[.val (.ref a1), .val (.ref a2), .unset] [(.ref a2)])) _
    refine XS.astoreN X125.here hx rfl (hb hby d_jdk_42_method_66_code_18) rfl rfl (l' := #[.val (.ref a1), .val (.ref a2), .val (.ref a2)]) rfl ?_
    show Steps p.tables e below (T125.setTop (mkF m 19 #[.val (.ref a1), .val (.ref a2), .val (.ref a2)] [])) _
    refine st126 _ ?_
    show Steps p.tables e below (T126.setTop (mkF m 22 #[.val (.ref a1), .val (.ref a2), .val (.ref a2)] [(.int i7)])) _
    refine XS.ifNo X126.here hx rfl (hb hby d_jdk_42_method_66_code_22) rfl (XT.i0_eq_f c9) ?_
    show Steps p.tables e below (T126.setTop (mkF m 25 #[.val (.ref a1), .val (.ref a2), .val (.ref a2)] [])) _
    refine XS.aloadN X126.here hx rfl (hb hby d_jdk_42_method_66_code_25) rfl rfl ?_
    show Steps p.tables e below (T126.setTop (mkF m 26 #[.val (.ref a1), .val (.ref a2), .val (.ref a2)] [(.ref a1)])) _
    refine st127 _ ?_
    show Steps p.tables e below (T127.setTop (mkF m 29 #[.val (.ref a1), .val (.ref a2), .val (.ref a2)] [(.int (0 : Int32))])) _
    refine XS.aloadN X127.here hx rfl (hb hby d_jdk_42_method_66_code_29) rfl rfl ?_
    show Steps p.tables e below (T127.setTop (mkF m 30 #[.val (.ref a1), .val (.ref a2), .val (.ref a2)] [(.ref a2), (.int (0 : Int32))])) _
    refine st128 _ ?_
    show Steps p.tables e below (T128.setTop (mkF m 33 #[.val (.ref a1), .val (.ref a2), .val (.ref a2)] [(.int (0 : Int32)), (.int (0 : Int32))])) _
    refine XS.icmpNo X128.here hx rfl (hb hby d_jdk_42_method_66_code_33) rfl (by decide) ?_
    show Steps p.tables e below (T128.setTop (mkF m 36 #[.val (.ref a1), .val (.ref a2), .val (.ref a2)] [])) _
    refine XS.aloadN X128.here hx rfl (hb hby d_jdk_42_method_66_code_36) rfl rfl ?_
    show Steps p.tables e below (T128.setTop (mkF m 37 #[.val (.ref a1), .val (.ref a2), .val (.ref a2)] [(.ref a1)])) _
    refine st129 _ ?_
    show Steps p.tables e below (T129.setTop (mkF m 40 #[.val (.ref a1), .val (.ref a2), .val (.ref a2)] [(.ref u1)])) _
    refine XS.aloadN X129.here hx rfl (hb hby d_jdk_42_method_66_code_40) rfl rfl ?_
    show Steps p.tables e below (T129.setTop (mkF m 41 #[.val (.ref a1), .val (.ref a2), .val (.ref a2)] [(.ref a2), (.ref u1)])) _
    refine st130 _ ?_
    show Steps p.tables e below (T130.setTop (mkF m 44 #[.val (.ref a1), .val (.ref a2), .val (.ref a2)] [(.ref u2), (.ref u1)])) _
    refine st131 _ ?_
    show Steps p.tables e below (T131.setTop (mkF m 47 #[.val (.ref a1), .val (.ref a2), .val (.ref a2)] [(.int (1 : Int32))])) _
    refine XS.ifNo X131.here hx rfl (hb hby d_jdk_42_method_66_code_47) rfl (by decide) ?_
    show Steps p.tables e below (T131.setTop (mkF m 50 #[.val (.ref a1), .val (.ref a2), .val (.ref a2)] [])) _
    refine XT.iconstV X131.here hx rfl (1 : Int32) (hb hby d_jdk_42_method_66_code_50) rfl ?_
    show Steps p.tables e below (T131.setTop (mkF m 51 #[.val (.ref a1), .val (.ref a2), .val (.ref a2)] [(.int (1 : Int32))])) _
    refine XS.goto X131.here hx rfl (pc0 := 51) (pc' := 55) rfl (hb hby d_jdk_42_method_66_code_51) (by decide) (by decide) ?_
    show Steps p.tables e below (T131.setTop (mkF m 55 #[.val (.ref a1), .val (.ref a2), .val (.ref a2)] [(.int (1 : Int32))])) _
    exact retN X131 hx (t := .boolean) Bd.returns (by simp) (hb hby d_jdk_42_method_66_code_55) hr
  · show own_Q (some (.int (1 : Int32))) h0 n0 _ T131.heap _
    rw [e131]
    exact ⟨rfl, N131, rfl⟩
theorem d_prog_34_method_4_code_0 : decode prog_34_method_4_code 0 = .ok (.aload_n 0, 1) := by decide +kernel
theorem d_prog_34_method_4_code_1 : decode prog_34_method_4_code 1 = .ok (.getfield 89, 3) := by decide +kernel
theorem d_prog_34_method_4_code_4 : decode prog_34_method_4_code 4 = .ok (.areturn, 1) := by decide +kernel
theorem ef_prog_34_method_4_code_A (m : MethodId) (x0 : Addr) : entryFrame m #[(.ref x0)] 1 = mkF m 0 #[.val (.ref x0)] [] := by first | (simp [entryFrame, mkF, argsToLocals, Value.category]; done) | rfl
theorem pn_com_example_recourse_recourse_ReasonCode : plainName "com/example/recourse/recourse/ReasonCode" = true := by first | (simp [plainName, overriddenIn]; done) | decide +kernel
set_option maxRecDepth 65536 in
set_option maxHeartbeats 40000000 in
theorem own_code (l : Launch) (Z : State) (a0 : Array Value) (hw : ∀ d ∈ tables_1, d.before a0 Z = true) (ws : List Jvm.Cond) (r1 s1 : Addr) (h0 : Heap) (n0 : Nat) (Z0 : n0 ≤ h0.size) (F1 : Fld Z h0 r1 "com/example/recourse/recourse/ReasonCode" "code" "Ljava/lang/String;" (.ref s1)) :
    MetFree l (⟨"com/example/recourse/recourse/ReasonCode", "code", "()Ljava/lang/String;"⟩ : MethodName) (head1 (Jvm.Cond.code (⟨"com/example/recourse/recourse/ReasonCode", "code", "()Ljava/lang/String;"⟩ : MethodName) prog_34_method_4_code 1 (some (.object "java/lang/String")) :: ws) ({ frames := 0, cells := 0, slots := 0, locals := 0 } : Room)) (fun a U => a = #[(.ref r1)] ∧ Z.Warmed39 U.vm ∧ U.heap = h0) (fun _ _ _ _ _ => True) (fun _ U o U' => ∃ v L, o = .returned v ∧ own_Q (some (.ref s1)) h0 n0 v U'.heap L ∧ FrameEnd U o U' L ({ frames := 0, cells := 0, slots := 0, locals := 0 } : Room).cells ({ frames := 0, cells := 0, slots := 0, locals := 0 } : Room).slots) := by
  refine MetFree.of_bodySF (plainFor_of_name pn_com_example_recourse_recourse_ReasonCode) hisR ?_
  intro p e s m args below meth c s₁ Bd hml0 hP hK
  obtain ⟨rfl, hZ, hh⟩ := hP
  have hx := Bd.exec
  have hby := Bd.bytes
  have hml : c.maxLocals = 1 := hml0
  have hown : s.vm.findClass "com/example/recourse/recourse/ReasonCode" = some m.cls := findClass_of_methodNamed Bd.named
  have hnm := (name_of_methodNamed Bd.named Bd.method).1
  have X0 : Stand p l e ({ frames := 0, cells := 0, slots := 0, locals := 0 } : Room) s m #[(.ref r1)] below meth c s₁ [] 0 0 := Stand.of_body Bd
  have e0 : s₁.heap = h0 := by rw [← hh, Bd.state]; rfl
  have N0 := Fr.nil n0
  have pre0 : ∀ t, Steps p.tables e below (s₁.setTop (mkF m 0 #[.val (.ref r1)] [])) t → Steps p.tables e below (s₁.setTop (entryFrame m #[(.ref r1)] 1)) t := fun t k => castTop (ef_prog_34_method_4_code_A m r1) k
  obtain ⟨T132, X132, e132, st132⟩ := getF X0 hx hZ hown (host := "") (Or.inl (hw _ (List.mem_of_getElem? (i := 56) rfl))) Via.refl e0 F1 (g := (mkF m 1 #[.val (.ref r1)] [(.ref r1)])) rfl rfl (hb hby d_prog_34_method_4_code_1)
  obtain ⟨fs, hr, hrun, hended, hW, hsame⟩ := X132.leave (v := some (.ref s1)) (fun h => by rw [Bd.returns] at h; cases h)
  refine ⟨_, _, pre0 _ ?_, hrun, hended, _, _, rfl, ?_, ⟨_, rfl⟩, hW, hsame.mono (by decide) (by decide)⟩
  · show Steps p.tables e below (s₁.setTop (mkF m 0 #[.val (.ref r1)] [])) _
    refine XS.aloadN X0.here hx rfl (hb hby d_prog_34_method_4_code_0) rfl rfl ?_
    show Steps p.tables e below (s₁.setTop (mkF m 1 #[.val (.ref r1)] [(.ref r1)])) _
    refine st132 _ ?_
    show Steps p.tables e below (T132.setTop (mkF m 4 #[.val (.ref r1)] [(.ref s1)])) _
    jvm_step X132.here [X132.here.top, hx, (hb hby d_prog_34_method_4_code_4), X132.method', Bd.returns, Value.isRef, FieldType.isReference]
    first | (intro acts; rw [hr _ acts rfl rfl rfl]) | rw [hr _ _ rfl rfl rfl]
    exact Steps.refl _
  · show own_Q (some (.ref s1)) h0 n0 _ T132.heap _
    rw [e132]
    exact ⟨rfl, N0, rfl⟩
def own_QV (Z : State) (k : ClassId) (w0 w1 : Addr) (h0 : Heap) (n0 : Nat) (v : Option Value) (h : Heap) (L : List Loc) : Prop := ∃ t, v = some (.ref t) ∧ Fr n0 L ∧ Ext h0 h ∧ h0.size ≤ t ∧ Arv Z h t k (.object "com/example/recourse/recourse/WriteOffActor") (2 : Int32) [.ref w0, .ref w1] .null
theorem d_prog_44_method_1_code_0 : decode prog_44_method_1_code 0 = .ok (.getstatic 10, 3) := by decide +kernel
theorem d_prog_44_method_1_code_3 : decode prog_44_method_1_code 3 = .ok (.invokevirtual 14, 3) := by decide +kernel
theorem d_prog_44_method_1_code_6 : decode prog_44_method_1_code 6 = .ok (.checkcast 15, 3) := by decide +kernel
theorem d_prog_44_method_1_code_9 : decode prog_44_method_1_code 9 = .ok (.areturn, 1) := by decide +kernel
theorem ef_prog_44_method_1_code_0 (m : MethodId)  : entryFrame m #[] 0 = mkF m 0 #[] [] := by first | (simp [entryFrame, mkF, argsToLocals, Value.category]; done) | rfl
theorem pn_com_example_recourse_recourse_WriteOffActor : plainName "com/example/recourse/recourse/WriteOffActor" = true := by first | (simp [plainName, overriddenIn]; done) | decide +kernel
set_option maxRecDepth 65536 in
set_option maxHeartbeats 40000000 in
theorem own_values (l : Launch) (Z : State) (a0 : Array Value) (hw : ∀ d ∈ tables_1, d.before a0 Z = true) (ws : List Jvm.Cond) (wv w0 w1 : Addr) (kv : ClassId) (h0 : Heap) (n0 : Nat) (Z0 : n0 ≤ h0.size) (Pv : Sta Z h0 "com/example/recourse/recourse/WriteOffActor" "$VALUES" "[Lcom/example/recourse/recourse/WriteOffActor;" (.ref wv)) (Ev : Exa Z h0 wv "[Lcom/example/recourse/recourse/WriteOffActor;") (Av : Arv Z h0 wv kv (.object "com/example/recourse/recourse/WriteOffActor") (2 : Int32) [.ref w0, .ref w1] .null) :
    MetFree l (⟨"com/example/recourse/recourse/WriteOffActor", "values", "()[Lcom/example/recourse/recourse/WriteOffActor;"⟩ : MethodName) (head1 (Jvm.Cond.code (⟨"com/example/recourse/recourse/WriteOffActor", "values", "()[Lcom/example/recourse/recourse/WriteOffActor;"⟩ : MethodName) prog_44_method_1_code 0 (some (.array (.object "com/example/recourse/recourse/WriteOffActor"))) :: ws) ({ frames := 1, cells := 1, slots := 2, locals := 14 } : Room)) (fun a U => a = #[] ∧ Z.Warmed39 U.vm ∧ U.heap = h0) (fun _ _ _ _ _ => True) (fun _ U o U' => ∃ v L, o = .returned v ∧ own_QV Z kv w0 w1 h0 n0 v U'.heap L ∧ FrameEnd U o U' L ({ frames := 1, cells := 1, slots := 2, locals := 14 } : Room).cells ({ frames := 1, cells := 1, slots := 2, locals := 14 } : Room).slots) := by
  refine MetFree.of_bodySF (plainFor_of_name pn_com_example_recourse_recourse_WriteOffActor) hisR ?_
  intro p e s m args below meth c s₁ Bd hml0 hP hK
  obtain ⟨rfl, hZ, hh⟩ := hP
  have hx := Bd.exec
  have hby := Bd.bytes
  have hml : c.maxLocals = 0 := hml0
  have hown : s.vm.findClass "com/example/recourse/recourse/WriteOffActor" = some m.cls := findClass_of_methodNamed Bd.named
  have hnm := (name_of_methodNamed Bd.named Bd.method).1
  have X0 : Stand p l e ({ frames := 1, cells := 1, slots := 2, locals := 14 } : Room) s m #[] below meth c s₁ [] 0 0 := Stand.of_body Bd
  have e0 : s₁.heap = h0 := by rw [← hh, Bd.state]; rfl
  have N0 := Fr.nil n0
  have pre0 : ∀ t, Steps p.tables e below (s₁.setTop (mkF m 0 #[] [])) t → Steps p.tables e below (s₁.setTop (entryFrame m #[] 0)) t := fun t k => castTop (ef_prog_44_method_1_code_0 m ) k
  obtain ⟨T133, X133, e133, st133⟩ := getS2 X0 hx hZ hown (host := "") (Or.inl (hw _ (List.mem_of_getElem? (i := 33) rfl))) Via.refl e0 Pv (g := (mkF m 0 #[] [])) rfl (hb hby d_prog_44_method_1_code_0)
  obtain ⟨T134, h134, X134, e134, E134, V134, AE134, st134⟩ := cloneH (a0 := a0) X133 hx hZ hown (hw _ (List.mem_of_getElem? (i := 35) rfl)) (hw _ (List.mem_of_getElem? (i := 36) rfl)) (hw _ (List.mem_of_getElem? (i := 40) rfl)) (hw _ (List.mem_of_getElem? (i := 38) rfl)) (hw _ (List.mem_of_getElem? (i := 39) rfl)) (hw _ (List.mem_of_getElem? (i := 41) rfl)) e133 Av.arh Ev (g := (mkF m 3 #[] [(.ref wv)])) rfl (by rw [hml]; rfl) rfl (hb hby d_prog_44_method_1_code_3) (by decide) (W := 0) (by show 2 * 0 + _ ≤ _; exact Nat.le_of_eq rfl) (by decide) (cap := 2) (by decide) (by decide) (by decide)
  obtain ⟨b134, g134⟩ : ∃ z, z = h0.size := ⟨_, rfl⟩
  rw [← g134] at V134 AE134 st134
  have q134 : h0.size ≤ b134 := by rw [g134]; exact Nat.le_refl _
  have ne_wv_b134 : wv ≠ b134 := by rw [g134]; exact Nat.ne_of_lt Ev.lt
  have Ev_135 := Ev.ext E134
  have Av_136 := Av.ext E134
  have EX134 : Ext h0 h134 := E134
  have Z134 : n0 ≤ h134.size := Nat.le_trans Z0 EX134.1
  have V134v : Arv Z h134 b134 kv (.object "com/example/recourse/recourse/WriteOffActor") (2 : Int32) [(.ref w0), (.ref w1)] .null := V134
  obtain ⟨T137, X137, e137, st137⟩ := castY X134 hx hZ hown (hw _ (List.mem_of_getElem? (i := 45) rfl)) e134 (Ins.self AE134) (g := (mkF m 6 #[] [(.ref b134)])) rfl rfl (hb hby d_prog_44_method_1_code_6)
  obtain ⟨fs, hr, hrun, hended, hW, hsame⟩ := X137.leave (v := some (.ref b134)) (fun h => by rw [Bd.returns] at h; cases h)
  refine ⟨_, _, pre0 _ ?_, hrun, hended, _, _, rfl, ?_, ⟨_, rfl⟩, hW, hsame.mono (by decide) (by decide)⟩
  · show Steps p.tables e below (s₁.setTop (mkF m 0 #[] [])) _
    refine st133 _ ?_
    show Steps p.tables e below (T133.setTop (mkF m 3 #[] [(.ref wv)])) _
    refine st134 _ ?_
    show Steps p.tables e below (T134.setTop (mkF m 6 #[] [(.ref b134)])) _
    refine st137 _ ?_
    show Steps p.tables e below (T137.setTop (mkF m 9 #[] [(.ref b134)])) _
    jvm_step X137.here [X137.here.top, hx, (hb hby d_prog_44_method_1_code_9), X137.method', Bd.returns, Value.isRef, FieldType.isReference]
    first | (intro acts; rw [hr _ acts rfl rfl rfl]) | rw [hr _ _ rfl rfl rfl]
    exact Steps.refl _
  · show own_QV Z kv w0 w1 h0 n0 _ T137.heap _
    rw [e137]
    exact ⟨b134, rfl, N0, EX134, q134, V134v⟩
theorem d_jdk_32_method_1_code_0 : decode jdk_32_method_1_code 0 = .ok (.getstatic 1, 3) := by decide +kernel
theorem d_jdk_32_method_1_code_3 : decode jdk_32_method_1_code 3 = .ok (.astore_n 0, 1) := by decide +kernel
theorem d_jdk_32_method_1_code_4 : decode jdk_32_method_1_code 4 = .ok (.aload_n 0, 1) := by decide +kernel
theorem d_jdk_32_method_1_code_5 : decode jdk_32_method_1_code 5 = .ok (.areturn, 1) := by decide +kernel
theorem ef_jdk_32_method_1_code_0 (m : MethodId)  : entryFrame m #[] 1 = mkF m 0 #[.unset] [] := by first | (simp [entryFrame, mkF, argsToLocals, Value.category]; done) | rfl
theorem pf_jdk_32_method_1_code : plainFor (⟨"java/util/Optional", "empty", "()Ljava/util/Optional;"⟩ : MethodName) = true := by decide +kernel
set_option maxRecDepth 65536 in
set_option maxHeartbeats 40000000 in
theorem own_empty (l : Launch) (Z : State) (a0 : Array Value) (hw : ∀ d ∈ tables_1, d.before a0 Z = true) (ws : List Jvm.Cond) (we : Addr) (h0 : Heap) (n0 : Nat) (Z0 : n0 ≤ h0.size) (Pe : Sta Z h0 "java/util/Optional" "EMPTY" "Ljava/util/Optional;" (.ref we)) :
    MetFree l (⟨"java/util/Optional", "empty", "()Ljava/util/Optional;"⟩ : MethodName) (head1 (Jvm.Cond.code (⟨"java/util/Optional", "empty", "()Ljava/util/Optional;"⟩ : MethodName) jdk_32_method_1_code 1 (some (.object "java/util/Optional")) :: ws) ({ frames := 0, cells := 0, slots := 0, locals := 0 } : Room)) (fun a U => a = #[] ∧ Z.Warmed39 U.vm ∧ U.heap = h0) (fun _ _ _ _ _ => True) (fun _ U o U' => ∃ v L, o = .returned v ∧ own_Q (some (.ref we)) h0 n0 v U'.heap L ∧ FrameEnd U o U' L ({ frames := 0, cells := 0, slots := 0, locals := 0 } : Room).cells ({ frames := 0, cells := 0, slots := 0, locals := 0 } : Room).slots) := by
  refine MetFree.of_bodySF pf_jdk_32_method_1_code hisR ?_
  intro p e s m args below meth c s₁ Bd hml0 hP hK
  obtain ⟨rfl, hZ, hh⟩ := hP
  have hx := Bd.exec
  have hby := Bd.bytes
  have hml : c.maxLocals = 1 := hml0
  have hown : s.vm.findClass "java/util/Optional" = some m.cls := findClass_of_methodNamed Bd.named
  have hnm := (name_of_methodNamed Bd.named Bd.method).1
  have X0 : Stand p l e ({ frames := 0, cells := 0, slots := 0, locals := 0 } : Room) s m #[] below meth c s₁ [] 0 0 := Stand.of_body Bd
  have e0 : s₁.heap = h0 := by rw [← hh, Bd.state]; rfl
  have N0 := Fr.nil n0
  have pre0 : ∀ t, Steps p.tables e below (s₁.setTop (mkF m 0 #[.unset] [])) t → Steps p.tables e below (s₁.setTop (entryFrame m #[] 1)) t := fun t k => castTop (ef_jdk_32_method_1_code_0 m ) k
  obtain ⟨T138, X138, e138, st138⟩ := getS2 X0 hx hZ hown (host := "") (Or.inl (hw _ (List.mem_of_getElem? (i := 74) rfl))) Via.refl e0 Pe (g := (mkF m 0 #[.unset] [])) rfl (hb hby d_jdk_32_method_1_code_0)
  obtain ⟨fs, hr, hrun, hended, hW, hsame⟩ := X138.leave (v := some (.ref we)) (fun h => by rw [Bd.returns] at h; cases h)
  refine ⟨_, _, pre0 _ ?_, hrun, hended, _, _, rfl, ?_, ⟨_, rfl⟩, hW, hsame.mono (by decide) (by decide)⟩
  · show Steps p.tables e below (s₁.setTop (mkF m 0 #[.unset] [])) _
    refine st138 _ ?_
    show Steps p.tables e below (T138.setTop (mkF m 3 #[.unset] [(.ref we)])) _
    refine XS.astoreN X138.here hx rfl (hb hby d_jdk_32_method_1_code_3) rfl rfl (l' := #[.val (.ref we)]) rfl ?_
    show Steps p.tables e below (T138.setTop (mkF m 4 #[.val (.ref we)] [])) _
    refine XS.aloadN X138.here hx rfl (hb hby d_jdk_32_method_1_code_4) rfl rfl ?_
    show Steps p.tables e below (T138.setTop (mkF m 5 #[.val (.ref we)] [(.ref we)])) _
    jvm_step X138.here [X138.here.top, hx, (hb hby d_jdk_32_method_1_code_5), X138.method', Bd.returns, Value.isRef, FieldType.isReference]
    first | (intro acts; rw [hr _ acts rfl rfl rfl]) | rw [hr _ _ rfl rfl rfl]
    exact Steps.refl _
  · show own_Q (some (.ref we)) h0 n0 _ T138.heap _
    rw [e138]
    exact ⟨rfl, N0, rfl⟩
theorem d_jdk_31_method_10_code_0 : decode jdk_31_method_10_code 0 = .ok (.aload_n 0, 1) := by decide +kernel
theorem d_jdk_31_method_10_code_1 : decode jdk_31_method_10_code 1 = .ok (.ifnonnull 11, 3) := by decide +kernel
theorem d_jdk_31_method_10_code_12 : decode jdk_31_method_10_code 12 = .ok (.aload_n 0, 1) := by decide +kernel
theorem d_jdk_31_method_10_code_13 : decode jdk_31_method_10_code 13 = .ok (.areturn, 1) := by decide +kernel
theorem ef_jdk_31_method_10_code_A (m : MethodId) (x0 : Addr) : entryFrame m #[(.ref x0)] 1 = mkF m 0 #[.val (.ref x0)] [] := by first | (simp [entryFrame, mkF, argsToLocals, Value.category]; done) | rfl
theorem pf_jdk_31_method_10_code : plainFor (⟨"java/util/Objects", "requireNonNull", "(Ljava/lang/Object;)Ljava/lang/Object;"⟩ : MethodName) = true := by decide +kernel
set_option maxRecDepth 65536 in
set_option maxHeartbeats 40000000 in
theorem own_rnn (l : Launch) (Z : State) (a0 : Array Value) (hw : ∀ d ∈ tables_1, d.before a0 Z = true) (ws : List Jvm.Cond) (x1 : Addr) (h0 : Heap) (n0 : Nat) (Z0 : n0 ≤ h0.size)  :
    MetFree l (⟨"java/util/Objects", "requireNonNull", "(Ljava/lang/Object;)Ljava/lang/Object;"⟩ : MethodName) (head1 (Jvm.Cond.code (⟨"java/util/Objects", "requireNonNull", "(Ljava/lang/Object;)Ljava/lang/Object;"⟩ : MethodName) jdk_31_method_10_code 1 (some (.object "java/lang/Object")) :: ws) ({ frames := 0, cells := 0, slots := 0, locals := 0 } : Room)) (fun a U => a = #[(.ref x1)] ∧ Z.Warmed39 U.vm ∧ U.heap = h0) (fun _ _ _ _ _ => True) (fun _ U o U' => ∃ v L, o = .returned v ∧ own_Q (some (.ref x1)) h0 n0 v U'.heap L ∧ FrameEnd U o U' L ({ frames := 0, cells := 0, slots := 0, locals := 0 } : Room).cells ({ frames := 0, cells := 0, slots := 0, locals := 0 } : Room).slots) := by
  refine MetFree.of_bodySF pf_jdk_31_method_10_code hisR ?_
  intro p e s m args below meth c s₁ Bd hml0 hP hK
  obtain ⟨rfl, hZ, hh⟩ := hP
  have hx := Bd.exec
  have hby := Bd.bytes
  have hml : c.maxLocals = 1 := hml0
  have hown : s.vm.findClass "java/util/Objects" = some m.cls := findClass_of_methodNamed Bd.named
  have hnm := (name_of_methodNamed Bd.named Bd.method).1
  have X0 : Stand p l e ({ frames := 0, cells := 0, slots := 0, locals := 0 } : Room) s m #[(.ref x1)] below meth c s₁ [] 0 0 := Stand.of_body Bd
  have e0 : s₁.heap = h0 := by rw [← hh, Bd.state]; rfl
  have N0 := Fr.nil n0
  have pre0 : ∀ t, Steps p.tables e below (s₁.setTop (mkF m 0 #[.val (.ref x1)] [])) t → Steps p.tables e below (s₁.setTop (entryFrame m #[(.ref x1)] 1)) t := fun t k => castTop (ef_jdk_31_method_10_code_A m x1) k
  obtain ⟨fs, hr, hrun, hended, hW, hsame⟩ := X0.leave (v := some (.ref x1)) (fun h => by rw [Bd.returns] at h; cases h)
  refine ⟨_, _, pre0 _ ?_, hrun, hended, _, _, rfl, ?_, ⟨_, rfl⟩, hW, hsame.mono (by decide) (by decide)⟩
  · show Steps p.tables e below (s₁.setTop (mkF m 0 #[.val (.ref x1)] [])) _
    refine XS.aloadN X0.here hx rfl (hb hby d_jdk_31_method_10_code_0) rfl rfl ?_
    show Steps p.tables e below (s₁.setTop (mkF m 1 #[.val (.ref x1)] [(.ref x1)])) _
    refine XT.ifnonnullYes X0.here hx rfl (pc0 := 1) (pc' := 12) rfl (hb hby d_jdk_31_method_10_code_1) rfl (by decide) (by decide) ?_
    show Steps p.tables e below (s₁.setTop (mkF m 12 #[.val (.ref x1)] [])) _
    refine XS.aloadN X0.here hx rfl (hb hby d_jdk_31_method_10_code_12) rfl rfl ?_
    show Steps p.tables e below (s₁.setTop (mkF m 13 #[.val (.ref x1)] [(.ref x1)])) _
    jvm_step X0.here [X0.here.top, hx, (hb hby d_jdk_31_method_10_code_13), X0.method', Bd.returns, Value.isRef, FieldType.isReference]
    first | (intro acts; rw [hr _ acts rfl rfl rfl]) | rw [hr _ _ rfl rfl rfl]
    exact Steps.refl _
  · show own_Q (some (.ref x1)) h0 n0 _ s₁.heap _
    rw [e0]
    exact ⟨rfl, N0, rfl⟩
def own_QO0 (Z : State) (a x : Addr) (h0 : Heap) (n0 : Nat) (v : Option Value) (h : Heap) (L : List Loc) : Prop := v = none ∧ Fr n0 L ∧ Keep h0 h [a] ∧ Fld Z h a "java/util/Optional" "value" "Ljava/lang/Object;" (.ref x)
def own_QO (Z : State) (x : Addr) (h0 : Heap) (n0 : Nat) (v : Option Value) (h : Heap) (L : List Loc) : Prop := ∃ t, v = some (.ref t) ∧ Fr n0 L ∧ Ext h0 h ∧ Exa Z h t "java/util/Optional" ∧ Fld Z h t "java/util/Optional" "value" "Ljava/lang/Object;" (.ref x)
theorem d_jdk_32_method_2_code_0 : decode jdk_32_method_2_code 0 = .ok (.aload_n 0, 1) := by decide +kernel
theorem d_jdk_32_method_2_code_1 : decode jdk_32_method_2_code 1 = .ok (.invokespecial 7, 3) := by decide +kernel
theorem d_jdk_32_method_2_code_4 : decode jdk_32_method_2_code 4 = .ok (.aload_n 0, 1) := by decide +kernel
theorem d_jdk_32_method_2_code_5 : decode jdk_32_method_2_code 5 = .ok (.aload_n 1, 1) := by decide +kernel
theorem d_jdk_32_method_2_code_6 : decode jdk_32_method_2_code 6 = .ok (.putfield 13, 3) := by decide +kernel
theorem d_jdk_32_method_2_code_9 : decode jdk_32_method_2_code 9 = .ok (.return_, 1) := by decide +kernel
theorem ef_jdk_32_method_2_code_AA (m : MethodId) (x0 : Addr) (x1 : Addr) : entryFrame m #[(.ref x0), (.ref x1)] 2 = mkF m 0 #[.val (.ref x0), .val (.ref x1)] [] := by first | (simp [entryFrame, mkF, argsToLocals, Value.category]; done) | rfl
theorem pf_jdk_32_method_2_code : plainFor (⟨"java/util/Optional", "<init>", "(Ljava/lang/Object;)V"⟩ : MethodName) = true := by decide +kernel
set_option maxRecDepth 65536 in
set_option maxHeartbeats 40000000 in
theorem own_oinit (l : Launch) (Z : State) (a0 : Array Value) (hw : ∀ d ∈ tables_1, d.before a0 Z = true) (ws : List Jvm.Cond) (o1 x1 : Addr) (h0 : Heap) (n0 : Nat) (Z0 : n0 ≤ h0.size) (E1 : Exa Z h0 o1 "java/util/Optional") (G1 : Fld Z h0 o1 "java/util/Optional" "value" "Ljava/lang/Object;" .null) (g1 : n0 ≤ o1) :
    MetFree l (⟨"java/util/Optional", "<init>", "(Ljava/lang/Object;)V"⟩ : MethodName) (head1 (Jvm.Cond.code (⟨"java/util/Optional", "<init>", "(Ljava/lang/Object;)V"⟩ : MethodName) jdk_32_method_2_code 2 none :: ws) ({ frames := 1, cells := 0, slots := 0, locals := 12 } : Room)) (fun a U => a = #[(.ref o1), (.ref x1)] ∧ Z.Warmed39 U.vm ∧ U.heap = h0) (fun _ _ _ _ _ => True) (fun _ U o U' => ∃ v L, o = .returned v ∧ own_QO0 Z o1 x1 h0 n0 v U'.heap L ∧ FrameEnd U o U' L ({ frames := 1, cells := 0, slots := 0, locals := 12 } : Room).cells ({ frames := 1, cells := 0, slots := 0, locals := 12 } : Room).slots) := by
  refine MetFree.of_bodySF pf_jdk_32_method_2_code hisR ?_
  intro p e s m args below meth c s₁ Bd hml0 hP hK
  obtain ⟨rfl, hZ, hh⟩ := hP
  have hx := Bd.exec
  have hby := Bd.bytes
  have hml : c.maxLocals = 2 := hml0
  have hown : s.vm.findClass "java/util/Optional" = some m.cls := findClass_of_methodNamed Bd.named
  have hnm := (name_of_methodNamed Bd.named Bd.method).1
  have X0 : Stand p l e ({ frames := 1, cells := 0, slots := 0, locals := 12 } : Room) s m #[(.ref o1), (.ref x1)] below meth c s₁ [] 0 0 := Stand.of_body Bd
  have e0 : s₁.heap = h0 := by rw [← hh, Bd.state]; rfl
  have N0 := Fr.nil n0
  have pre0 : ∀ t, Steps p.tables e below (s₁.setTop (mkF m 0 #[.val (.ref o1), .val (.ref x1)] [])) t → Steps p.tables e below (s₁.setTop (entryFrame m #[(.ref o1), (.ref x1)] 2)) t := fun t k => castTop (ef_jdk_32_method_2_code_AA m o1 x1) k
  obtain ⟨T139, X139, e139, st139⟩ := initO X0 hx hZ hown (hw _ (List.mem_of_getElem? (i := 105) rfl)) (hw _ (List.mem_of_getElem? (i := 16) rfl)) (hw _ (List.mem_of_getElem? (i := 17) rfl)) e0 (g := (mkF m 1 #[.val (.ref o1), .val (.ref x1)] [(.ref o1)])) rfl (by rw [hml]; rfl) rfl (hb hby d_jdk_32_method_2_code_1) (by decide) (W := 0) (by show 2 * 0 + _ ≤ _; exact Nat.le_of_eq rfl) (by decide)
  obtain ⟨T140, h140, X140, e140, W140, st140⟩ := putF X139 hx hZ hown (host := "") (Or.inl (hw _ (List.mem_of_getElem? (i := 80) rfl))) Via.refl e139 G1 E1 (Or.inr ⟨(hw _ (List.mem_of_getElem? (i := 81) rfl)), rfl, hnm⟩) (hw _ (List.mem_of_getElem? (i := 96) rfl)) (ty := (.object "java/lang/Object")) (by decide) rfl rfl (g := (mkF m 6 #[.val (.ref o1), .val (.ref x1)] [(.ref x1), (.ref o1)])) rfl rfl (hb hby d_jdk_32_method_2_code_6)
  have E1_141 := E1.wr W140
  have K140 : Keep h0 h140 [o1] := (Keep.refl _ _).wr W140 (Or.inl (List.mem_of_getElem? (i := 0) rfl))
  have Z140 : n0 ≤ h140.size := Nat.le_trans Z0 K140.1
  have N140 := Fr.snoc X140 N0 g1
  have Fvalue_142 : Fld Z h140 o1 "java/util/Optional" "value" "Ljava/lang/Object;" (.ref x1) := G1.same W140
  obtain ⟨fs, hr, hrun, hended, hW, hsame⟩ := X140.leave (v := none) (fun _ => rfl)
  refine ⟨_, _, pre0 _ ?_, hrun, hended, _, _, rfl, ?_, ⟨_, rfl⟩, hW, hsame.mono (by decide) (by decide)⟩
  · show Steps p.tables e below (s₁.setTop (mkF m 0 #[.val (.ref o1), .val (.ref x1)] [])) _
    refine XS.aloadN X0.here hx rfl (hb hby d_jdk_32_method_2_code_0) rfl rfl ?_
    show Steps p.tables e below (s₁.setTop (mkF m 1 #[.val (.ref o1), .val (.ref x1)] [(.ref o1)])) _
    refine st139 _ ?_
    show Steps p.tables e below (T139.setTop (mkF m 4 #[.val (.ref o1), .val (.ref x1)] [])) _
    refine XS.aloadN X139.here hx rfl (hb hby d_jdk_32_method_2_code_4) rfl rfl ?_
    show Steps p.tables e below (T139.setTop (mkF m 5 #[.val (.ref o1), .val (.ref x1)] [(.ref o1)])) _
    refine XS.aloadN X139.here hx rfl (hb hby d_jdk_32_method_2_code_5) rfl rfl ?_
    show Steps p.tables e below (T139.setTop (mkF m 6 #[.val (.ref o1), .val (.ref x1)] [(.ref x1), (.ref o1)])) _
    refine st140 _ ?_
    show Steps p.tables e below (T140.setTop (mkF m 9 #[.val (.ref o1), .val (.ref x1)] [])) _
    exact X140.returnOut hx Bd.returns (hb hby d_jdk_32_method_2_code_9) hr
  · show own_QO0 Z o1 x1 h0 n0 _ T140.heap _
    rw [e140]
    exact ⟨rfl, N140, K140, Fvalue_142⟩
theorem d_jdk_32_method_3_code_0 : decode jdk_32_method_3_code 0 = .ok (.new 2, 3) := by decide +kernel
theorem d_jdk_32_method_3_code_3 : decode jdk_32_method_3_code 3 = .ok (.dup, 1) := by decide +kernel
theorem d_jdk_32_method_3_code_4 : decode jdk_32_method_3_code 4 = .ok (.aload_n 0, 1) := by decide +kernel
theorem pd__Ljava_lang_Object__Ljava_lang_Object_ : parseMethodDescriptor "(Ljava/lang/Object;)Ljava/lang/Object;" = some ⟨[(.object "java/lang/Object")], (some (.object "java/lang/Object"))⟩ := by decide +kernel
theorem d_jdk_32_method_3_code_5 : decode jdk_32_method_3_code 5 = .ok (.invokestatic 17, 3) := by decide +kernel
theorem pd__Ljava_lang_Object__V : parseMethodDescriptor "(Ljava/lang/Object;)V" = some ⟨[(.object "java/lang/Object")], none⟩ := by decide +kernel
theorem d_jdk_32_method_3_code_8 : decode jdk_32_method_3_code 8 = .ok (.invokespecial 23, 3) := by decide +kernel
theorem d_jdk_32_method_3_code_11 : decode jdk_32_method_3_code 11 = .ok (.areturn, 1) := by decide +kernel
theorem ef_jdk_32_method_3_code_A (m : MethodId) (x0 : Addr) : entryFrame m #[(.ref x0)] 1 = mkF m 0 #[.val (.ref x0)] [] := by first | (simp [entryFrame, mkF, argsToLocals, Value.category]; done) | rfl
theorem pf_jdk_32_method_3_code : plainFor (⟨"java/util/Optional", "of", "(Ljava/lang/Object;)Ljava/util/Optional;"⟩ : MethodName) = true := by decide +kernel
set_option maxRecDepth 65536 in
set_option maxHeartbeats 40000000 in
theorem own_of (l : Launch) (Z : State) (a0 : Array Value) (hw : ∀ d ∈ tables_1, d.before a0 Z = true) (ws : List Jvm.Cond) (x1 : Addr) (h0 : Heap) (n0 : Nat) (Z0 : n0 ≤ h0.size)  :
    MetFree l (⟨"java/util/Optional", "of", "(Ljava/lang/Object;)Ljava/util/Optional;"⟩ : MethodName) (head1 (Jvm.Cond.code (⟨"java/util/Optional", "of", "(Ljava/lang/Object;)Ljava/util/Optional;"⟩ : MethodName) jdk_32_method_3_code 1 (some (.object "java/util/Optional")) :: ws) ({ frames := 2, cells := 1, slots := 1, locals := 26 } : Room)) (fun a U => a = #[(.ref x1)] ∧ Z.Warmed39 U.vm ∧ U.heap = h0) (fun _ _ _ _ _ => True) (fun _ U o U' => ∃ v L, o = .returned v ∧ own_QO Z x1 h0 n0 v U'.heap L ∧ FrameEnd U o U' L ({ frames := 2, cells := 1, slots := 1, locals := 26 } : Room).cells ({ frames := 2, cells := 1, slots := 1, locals := 26 } : Room).slots) := by
  refine MetFree.of_bodySF pf_jdk_32_method_3_code hisR ?_
  intro p e s m args below meth c s₁ Bd hml0 hP hK
  obtain ⟨rfl, hZ, hh⟩ := hP
  have hx := Bd.exec
  have hby := Bd.bytes
  have hml : c.maxLocals = 1 := hml0
  have hown : s.vm.findClass "java/util/Optional" = some m.cls := findClass_of_methodNamed Bd.named
  have hnm := (name_of_methodNamed Bd.named Bd.method).1
  have X0 : Stand p l e ({ frames := 2, cells := 1, slots := 1, locals := 26 } : Room) s m #[(.ref x1)] below meth c s₁ [] 0 0 := Stand.of_body Bd
  have e0 : s₁.heap = h0 := by rw [← hh, Bd.state]; rfl
  have N0 := Fr.nil n0
  have pre0 : ∀ t, Steps p.tables e below (s₁.setTop (mkF m 0 #[.val (.ref x1)] [])) t → Steps p.tables e below (s₁.setTop (entryFrame m #[(.ref x1)] 1)) t := fun t k => castTop (ef_jdk_32_method_3_code_A m x1) k
  obtain ⟨T143, h143, X143, e143, E143, A143, D143, -, st143⟩ := newO X0 hx hZ hown (hw _ (List.mem_of_getElem? (i := 95) rfl)) (hw _ (List.mem_of_getElem? (i := 96) rfl)) (hw _ (List.mem_of_getElem? (i := 72) rfl)) e0 (g := (mkF m 0 #[.val (.ref x1)] [])) rfl (hb hby d_jdk_32_method_3_code_0) (by decide) (by decide)
  obtain ⟨b143, g143⟩ : ∃ z, z = h0.size := ⟨_, rfl⟩
  rw [← g143] at A143 D143 st143
  have q143 : h0.size ≤ b143 := by rw [g143]; exact Nat.le_refl _
  have EX143 : Ext h0 h143 := E143
  have Z143 : n0 ≤ h143.size := Nat.le_trans Z0 EX143.1
  have Fvalue_144 : Fld Z h143 b143 "java/util/Optional" "value" "Ljava/lang/Object;" .null := D143 (Or.inr (hw _ (List.mem_of_getElem? (i := 81) rfl))) (ty := (.object "java/lang/Object")) (by decide)
  obtain ⟨_, _, ⟨T145, L145, k145, n145⟩, -, X145, ⟨Lc145, hQ145, l145, y145, z145⟩, st145⟩ := Jvm.LawKit.callS X143 hx (y := (⟨"java/util/Objects", "requireNonNull", "(Ljava/lang/Object;)Ljava/lang/Object;"⟩ : MethodName)) hown (mvT hZ (hw _ (List.mem_of_getElem? (i := 97) rfl))) (mvT hZ (hw _ (List.mem_of_getElem? (i := 98) rfl))) (mvT hZ (hw _ (List.mem_of_getElem? (i := 99) rfl))) (mvT hZ (hw _ (List.mem_of_getElem? (i := 100) rfl))) (by decide) (backOf (W := 2) (own_rnn l Z a0 hw [] x1 h143 n0 Z143) hZ (hw _ (List.mem_of_getElem? (i := 100) rfl)) (hw _ (List.mem_of_getElem? (i := 99) rfl)) (by decide) (by decide)) (g := (mkF m 5 #[.val (.ref x1)] [(.ref x1), (.ref b143), (.ref b143)])) rfl (by rw [hml]; rfl) (argsL := [(.ref x1)]) (rest := [(.ref b143), (.ref b143)]) (lenOf pd__Ljava_lang_Object__Ljava_lang_Object_ rfl) rfl (by show 2 * 0 + _ ≤ _; exact Nat.le_of_eq rfl) (hb hby d_jdk_32_method_3_code_5) (fun _ _ => ⟨rfl, e143, (by decide : 1 + 0 ≤ _), (by decide : 1 + 0 ≤ _)⟩)
  dsimp only [Pt.U, Pt.locs, Pt.cells, Pt.slots] at X145 l145 y145 z145 st145 hQ145
  subst l145 y145 z145
  obtain ⟨rfl, N145q, e145⟩ := hQ145
  have N145 := Fr.app N0 N145q
  obtain ⟨_, _, ⟨T146, L146, k146, n146⟩, -, X146, ⟨Lc146, hQ146, l146, y146, z146⟩, st146⟩ := X145.specialBack hx (y := (⟨"java/util/Optional", "<init>", "(Ljava/lang/Object;)V"⟩ : MethodName)) rfl hown (mvT hZ (hw _ (List.mem_of_getElem? (i := 101) rfl))) (mvT hZ (hw _ (List.mem_of_getElem? (i := 102) rfl))) (mvT hZ (hw _ (List.mem_of_getElem? (i := 104) rfl))) (by decide) (backOf (W := 1) (own_oinit l Z a0 hw [] b143 x1 h143 n0 Z143 A143 Fvalue_144 (Nat.le_trans Z0 q143)) hZ (hw _ (List.mem_of_getElem? (i := 104) rfl)) (hw _ (List.mem_of_getElem? (i := 72) rfl)) (by decide) (by decide)) (g := (mkF m 8 #[.val (.ref x1)] [(.ref x1), (.ref b143), (.ref b143)])) rfl (by rw [hml]; rfl) (Steps.refl _) (a := b143) (argsL := [(.ref x1)]) (rest := [(.ref b143)]) (lenOf pd__Ljava_lang_Object__V rfl) rfl (by show 2 * 0 + _ ≤ _; exact Nat.le_of_eq rfl) (hb hby d_jdk_32_method_3_code_8) (fun _ _ => ⟨rfl, e145, (by decide : 1 + 0 ≤ _), (by decide : 1 + 0 ≤ _)⟩)
  dsimp only [Pt.U, Pt.locs, Pt.cells, Pt.slots] at X146 l146 y146 z146 st146 hQ146
  subst l146 y146 z146
  obtain ⟨rfl, N146q, K146q, F146q⟩ := hQ146
  have N146 := Fr.app N145 N146q
  have A143_147 := A143.keep K146q
  have EX146 : Ext h0 T146.heap := own_ext_keep EX143 K146q (allS q143 all0)
  have Z146 : n0 ≤ T146.heap.size := Nat.le_trans Z0 EX146.1
  obtain ⟨fs, hr, hrun, hended, hW, hsame⟩ := X146.leave (v := some (.ref b143)) (fun h => by rw [Bd.returns] at h; cases h)
  refine ⟨_, _, pre0 _ ?_, hrun, hended, _, _, rfl, ?_, ⟨_, rfl⟩, hW, hsame.mono (by decide) (by decide)⟩
  · show Steps p.tables e below (s₁.setTop (mkF m 0 #[.val (.ref x1)] [])) _
    refine st143 _ ?_
    show Steps p.tables e below (T143.setTop (mkF m 3 #[.val (.ref x1)] [(.ref b143)])) _
    refine XS.dup X143.here hx rfl (hb hby d_jdk_32_method_3_code_3) rfl rfl ?_
    show Steps p.tables e below (T143.setTop (mkF m 4 #[.val (.ref x1)] [(.ref b143), (.ref b143)])) _
    refine XS.aloadN X143.here hx rfl (hb hby d_jdk_32_method_3_code_4) rfl rfl ?_
    show Steps p.tables e below (T143.setTop (mkF m 5 #[.val (.ref x1)] [(.ref x1), (.ref b143), (.ref b143)])) _
    refine st145 _ ?_
    show Steps p.tables e below (T145.setTop (mkF m 8 #[.val (.ref x1)] [(.ref x1), (.ref b143), (.ref b143)])) _
    refine st146.trans ?_
    show Steps p.tables e below (T146.setTop (mkF m 11 #[.val (.ref x1)] [(.ref b143)])) _
    jvm_step X146.here [X146.here.top, hx, (hb hby d_jdk_32_method_3_code_11), X146.method', Bd.returns, Value.isRef, FieldType.isReference]
    first | (intro acts; rw [hr _ acts rfl rfl rfl]) | rw [hr _ _ rfl rfl rfl]
    exact Steps.refl _
  · show own_QO Z x1 h0 n0 _ T146.heap _
    exact ⟨b143, rfl, N146, EX146, A143_147, F146q⟩
theorem d_jdk_32_method_6_code_0 : decode jdk_32_method_6_code 0 = .ok (.aload_n 0, 1) := by decide +kernel
theorem d_jdk_32_method_6_code_1 : decode jdk_32_method_6_code 1 = .ok (.getfield 13, 3) := by decide +kernel
theorem d_jdk_32_method_6_code_4 : decode jdk_32_method_6_code 4 = .ok (.ifnull 7, 3) := by decide +kernel
theorem d_jdk_32_method_6_code_11 : decode jdk_32_method_6_code 11 = .ok (.iconst 0, 1) := by decide +kernel
theorem d_jdk_32_method_6_code_12 : decode jdk_32_method_6_code 12 = .ok (.ireturn, 1) := by decide +kernel
theorem ef_jdk_32_method_6_code_A (m : MethodId) (x0 : Addr) : entryFrame m #[(.ref x0)] 1 = mkF m 0 #[.val (.ref x0)] [] := by first | (simp [entryFrame, mkF, argsToLocals, Value.category]; done) | rfl
theorem pf_jdk_32_method_6_code : plainFor (⟨"java/util/Optional", "isPresent", "()Z"⟩ : MethodName) = true := by decide +kernel
set_option maxRecDepth 65536 in
set_option maxHeartbeats 40000000 in
theorem own_pres_e (l : Launch) (Z : State) (a0 : Array Value) (hw : ∀ d ∈ tables_1, d.before a0 Z = true) (ws : List Jvm.Cond) (o1 : Addr) (h0 : Heap) (n0 : Nat) (Z0 : n0 ≤ h0.size) (F1 : Fld Z h0 o1 "java/util/Optional" "value" "Ljava/lang/Object;" .null) :
    MetFree l (⟨"java/util/Optional", "isPresent", "()Z"⟩ : MethodName) (head1 (Jvm.Cond.code (⟨"java/util/Optional", "isPresent", "()Z"⟩ : MethodName) jdk_32_method_6_code 1 (some .boolean) :: ws) ({ frames := 0, cells := 0, slots := 0, locals := 0 } : Room)) (fun a U => a = #[(.ref o1)] ∧ Z.Warmed39 U.vm ∧ U.heap = h0) (fun _ _ _ _ _ => True) (fun _ U o U' => ∃ v L, o = .returned v ∧ own_Q (some (.int (0 : Int32))) h0 n0 v U'.heap L ∧ FrameEnd U o U' L ({ frames := 0, cells := 0, slots := 0, locals := 0 } : Room).cells ({ frames := 0, cells := 0, slots := 0, locals := 0 } : Room).slots) := by
  refine MetFree.of_bodySF pf_jdk_32_method_6_code hisR ?_
  intro p e s m args below meth c s₁ Bd hml0 hP hK
  obtain ⟨rfl, hZ, hh⟩ := hP
  have hx := Bd.exec
  have hby := Bd.bytes
  have hml : c.maxLocals = 1 := hml0
  have hown : s.vm.findClass "java/util/Optional" = some m.cls := findClass_of_methodNamed Bd.named
  have hnm := (name_of_methodNamed Bd.named Bd.method).1
  have X0 : Stand p l e ({ frames := 0, cells := 0, slots := 0, locals := 0 } : Room) s m #[(.ref o1)] below meth c s₁ [] 0 0 := Stand.of_body Bd
  have e0 : s₁.heap = h0 := by rw [← hh, Bd.state]; rfl
  have N0 := Fr.nil n0
  have pre0 : ∀ t, Steps p.tables e below (s₁.setTop (mkF m 0 #[.val (.ref o1)] [])) t → Steps p.tables e below (s₁.setTop (entryFrame m #[(.ref o1)] 1)) t := fun t k => castTop (ef_jdk_32_method_6_code_A m o1) k
  obtain ⟨T148, X148, e148, st148⟩ := getF X0 hx hZ hown (host := "") (Or.inl (hw _ (List.mem_of_getElem? (i := 80) rfl))) Via.refl e0 F1 (g := (mkF m 1 #[.val (.ref o1)] [(.ref o1)])) rfl rfl (hb hby d_jdk_32_method_6_code_1)
  obtain ⟨fs, hr, hrun, hended, hW, hsame⟩ := X148.leave (v := some (.int (0 : Int32))) (fun h => by rw [Bd.returns] at h; cases h)
  refine ⟨_, _, pre0 _ ?_, hrun, hended, _, _, rfl, ?_, ⟨_, rfl⟩, hW, hsame.mono (by decide) (by decide)⟩
  · show Steps p.tables e below (s₁.setTop (mkF m 0 #[.val (.ref o1)] [])) _
    refine XS.aloadN X0.here hx rfl (hb hby d_jdk_32_method_6_code_0) rfl rfl ?_
    show Steps p.tables e below (s₁.setTop (mkF m 1 #[.val (.ref o1)] [(.ref o1)])) _
    refine st148 _ ?_
    show Steps p.tables e below (T148.setTop (mkF m 4 #[.val (.ref o1)] [.null])) _
    refine XS.ifnullYes X148.here hx rfl (pc0 := 4) (pc' := 11) rfl (hb hby d_jdk_32_method_6_code_4) rfl (by decide) (by decide) ?_
    show Steps p.tables e below (T148.setTop (mkF m 11 #[.val (.ref o1)] [])) _
    refine XT.iconstV X148.here hx rfl (0 : Int32) (hb hby d_jdk_32_method_6_code_11) rfl ?_
    show Steps p.tables e below (T148.setTop (mkF m 12 #[.val (.ref o1)] [(.int (0 : Int32))])) _
    exact retN X148 hx (t := .boolean) Bd.returns (by simp) (hb hby d_jdk_32_method_6_code_12) hr
  · show own_Q (some (.int (0 : Int32))) h0 n0 _ T148.heap _
    rw [e148]
    exact ⟨rfl, N0, rfl⟩
theorem d_jdk_32_method_6_code_7 : decode jdk_32_method_6_code 7 = .ok (.iconst 1, 1) := by decide +kernel
theorem d_jdk_32_method_6_code_8 : decode jdk_32_method_6_code 8 = .ok (.goto 4, 3) := by decide +kernel
set_option maxRecDepth 65536 in
set_option maxHeartbeats 40000000 in
theorem own_pres_f (l : Launch) (Z : State) (a0 : Array Value) (hw : ∀ d ∈ tables_1, d.before a0 Z = true) (ws : List Jvm.Cond) (o1 x1 : Addr) (h0 : Heap) (n0 : Nat) (Z0 : n0 ≤ h0.size) (F1 : Fld Z h0 o1 "java/util/Optional" "value" "Ljava/lang/Object;" (.ref x1)) :
    MetFree l (⟨"java/util/Optional", "isPresent", "()Z"⟩ : MethodName) (head1 (Jvm.Cond.code (⟨"java/util/Optional", "isPresent", "()Z"⟩ : MethodName) jdk_32_method_6_code 1 (some .boolean) :: ws) ({ frames := 0, cells := 0, slots := 0, locals := 0 } : Room)) (fun a U => a = #[(.ref o1)] ∧ Z.Warmed39 U.vm ∧ U.heap = h0) (fun _ _ _ _ _ => True) (fun _ U o U' => ∃ v L, o = .returned v ∧ own_Q (some (.int (1 : Int32))) h0 n0 v U'.heap L ∧ FrameEnd U o U' L ({ frames := 0, cells := 0, slots := 0, locals := 0 } : Room).cells ({ frames := 0, cells := 0, slots := 0, locals := 0 } : Room).slots) := by
  refine MetFree.of_bodySF pf_jdk_32_method_6_code hisR ?_
  intro p e s m args below meth c s₁ Bd hml0 hP hK
  obtain ⟨rfl, hZ, hh⟩ := hP
  have hx := Bd.exec
  have hby := Bd.bytes
  have hml : c.maxLocals = 1 := hml0
  have hown : s.vm.findClass "java/util/Optional" = some m.cls := findClass_of_methodNamed Bd.named
  have hnm := (name_of_methodNamed Bd.named Bd.method).1
  have X0 : Stand p l e ({ frames := 0, cells := 0, slots := 0, locals := 0 } : Room) s m #[(.ref o1)] below meth c s₁ [] 0 0 := Stand.of_body Bd
  have e0 : s₁.heap = h0 := by rw [← hh, Bd.state]; rfl
  have N0 := Fr.nil n0
  have pre0 : ∀ t, Steps p.tables e below (s₁.setTop (mkF m 0 #[.val (.ref o1)] [])) t → Steps p.tables e below (s₁.setTop (entryFrame m #[(.ref o1)] 1)) t := fun t k => castTop (ef_jdk_32_method_6_code_A m o1) k
  obtain ⟨T149, X149, e149, st149⟩ := getF X0 hx hZ hown (host := "") (Or.inl (hw _ (List.mem_of_getElem? (i := 80) rfl))) Via.refl e0 F1 (g := (mkF m 1 #[.val (.ref o1)] [(.ref o1)])) rfl rfl (hb hby d_jdk_32_method_6_code_1)
  obtain ⟨fs, hr, hrun, hended, hW, hsame⟩ := X149.leave (v := some (.int (1 : Int32))) (fun h => by rw [Bd.returns] at h; cases h)
  refine ⟨_, _, pre0 _ ?_, hrun, hended, _, _, rfl, ?_, ⟨_, rfl⟩, hW, hsame.mono (by decide) (by decide)⟩
  · show Steps p.tables e below (s₁.setTop (mkF m 0 #[.val (.ref o1)] [])) _
    refine XS.aloadN X0.here hx rfl (hb hby d_jdk_32_method_6_code_0) rfl rfl ?_
    show Steps p.tables e below (s₁.setTop (mkF m 1 #[.val (.ref o1)] [(.ref o1)])) _
    refine st149 _ ?_
    show Steps p.tables e below (T149.setTop (mkF m 4 #[.val (.ref o1)] [(.ref x1)])) _
    refine XS.ifnullNo X149.here hx rfl (hb hby d_jdk_32_method_6_code_4) rfl ?_
    show Steps p.tables e below (T149.setTop (mkF m 7 #[.val (.ref o1)] [])) _
    refine XT.iconstV X149.here hx rfl (1 : Int32) (hb hby d_jdk_32_method_6_code_7) rfl ?_
    show Steps p.tables e below (T149.setTop (mkF m 8 #[.val (.ref o1)] [(.int (1 : Int32))])) _
    refine XS.goto X149.here hx rfl (pc0 := 8) (pc' := 12) rfl (hb hby d_jdk_32_method_6_code_8) (by decide) (by decide) ?_
    show Steps p.tables e below (T149.setTop (mkF m 12 #[.val (.ref o1)] [(.int (1 : Int32))])) _
    exact retN X149 hx (t := .boolean) Bd.returns (by simp) (hb hby d_jdk_32_method_6_code_12) hr
  · show own_Q (some (.int (1 : Int32))) h0 n0 _ T149.heap _
    rw [e149]
    exact ⟨rfl, N0, rfl⟩
theorem d_jdk_32_method_5_code_0 : decode jdk_32_method_5_code 0 = .ok (.aload_n 0, 1) := by decide +kernel
theorem d_jdk_32_method_5_code_1 : decode jdk_32_method_5_code 1 = .ok (.getfield 13, 3) := by decide +kernel
theorem d_jdk_32_method_5_code_4 : decode jdk_32_method_5_code 4 = .ok (.ifnonnull 13, 3) := by decide +kernel
theorem d_jdk_32_method_5_code_17 : decode jdk_32_method_5_code 17 = .ok (.aload_n 0, 1) := by decide +kernel
theorem d_jdk_32_method_5_code_18 : decode jdk_32_method_5_code 18 = .ok (.getfield 13, 3) := by decide +kernel
theorem d_jdk_32_method_5_code_21 : decode jdk_32_method_5_code 21 = .ok (.areturn, 1) := by decide +kernel
theorem ef_jdk_32_method_5_code_A (m : MethodId) (x0 : Addr) : entryFrame m #[(.ref x0)] 1 = mkF m 0 #[.val (.ref x0)] [] := by first | (simp [entryFrame, mkF, argsToLocals, Value.category]; done) | rfl
theorem pf_jdk_32_method_5_code : plainFor (⟨"java/util/Optional", "get", "()Ljava/lang/Object;"⟩ : MethodName) = true := by decide +kernel
set_option maxRecDepth 65536 in
set_option maxHeartbeats 40000000 in
theorem own_get (l : Launch) (Z : State) (a0 : Array Value) (hw : ∀ d ∈ tables_1, d.before a0 Z = true) (ws : List Jvm.Cond) (o1 x1 : Addr) (h0 : Heap) (n0 : Nat) (Z0 : n0 ≤ h0.size) (F1 : Fld Z h0 o1 "java/util/Optional" "value" "Ljava/lang/Object;" (.ref x1)) :
    MetFree l (⟨"java/util/Optional", "get", "()Ljava/lang/Object;"⟩ : MethodName) (head1 (Jvm.Cond.code (⟨"java/util/Optional", "get", "()Ljava/lang/Object;"⟩ : MethodName) jdk_32_method_5_code 1 (some (.object "java/lang/Object")) :: ws) ({ frames := 0, cells := 0, slots := 0, locals := 0 } : Room)) (fun a U => a = #[(.ref o1)] ∧ Z.Warmed39 U.vm ∧ U.heap = h0) (fun _ _ _ _ _ => True) (fun _ U o U' => ∃ v L, o = .returned v ∧ own_Q (some (.ref x1)) h0 n0 v U'.heap L ∧ FrameEnd U o U' L ({ frames := 0, cells := 0, slots := 0, locals := 0 } : Room).cells ({ frames := 0, cells := 0, slots := 0, locals := 0 } : Room).slots) := by
  refine MetFree.of_bodySF pf_jdk_32_method_5_code hisR ?_
  intro p e s m args below meth c s₁ Bd hml0 hP hK
  obtain ⟨rfl, hZ, hh⟩ := hP
  have hx := Bd.exec
  have hby := Bd.bytes
  have hml : c.maxLocals = 1 := hml0
  have hown : s.vm.findClass "java/util/Optional" = some m.cls := findClass_of_methodNamed Bd.named
  have hnm := (name_of_methodNamed Bd.named Bd.method).1
  have X0 : Stand p l e ({ frames := 0, cells := 0, slots := 0, locals := 0 } : Room) s m #[(.ref o1)] below meth c s₁ [] 0 0 := Stand.of_body Bd
  have e0 : s₁.heap = h0 := by rw [← hh, Bd.state]; rfl
  have N0 := Fr.nil n0
  have pre0 : ∀ t, Steps p.tables e below (s₁.setTop (mkF m 0 #[.val (.ref o1)] [])) t → Steps p.tables e below (s₁.setTop (entryFrame m #[(.ref o1)] 1)) t := fun t k => castTop (ef_jdk_32_method_5_code_A m o1) k
  obtain ⟨T150, X150, e150, st150⟩ := getF X0 hx hZ hown (host := "") (Or.inl (hw _ (List.mem_of_getElem? (i := 80) rfl))) Via.refl e0 F1 (g := (mkF m 1 #[.val (.ref o1)] [(.ref o1)])) rfl rfl (hb hby d_jdk_32_method_5_code_1)
  obtain ⟨T151, X151, e151, st151⟩ := getF X150 hx hZ hown (host := "") (Or.inl (hw _ (List.mem_of_getElem? (i := 80) rfl))) Via.refl e150 F1 (g := (mkF m 18 #[.val (.ref o1)] [(.ref o1)])) rfl rfl (hb hby d_jdk_32_method_5_code_18)
  obtain ⟨fs, hr, hrun, hended, hW, hsame⟩ := X151.leave (v := some (.ref x1)) (fun h => by rw [Bd.returns] at h; cases h)
  refine ⟨_, _, pre0 _ ?_, hrun, hended, _, _, rfl, ?_, ⟨_, rfl⟩, hW, hsame.mono (by decide) (by decide)⟩
  · show Steps p.tables e below (s₁.setTop (mkF m 0 #[.val (.ref o1)] [])) _
    refine XS.aloadN X0.here hx rfl (hb hby d_jdk_32_method_5_code_0) rfl rfl ?_
    show Steps p.tables e below (s₁.setTop (mkF m 1 #[.val (.ref o1)] [(.ref o1)])) _
    refine st150 _ ?_
    show Steps p.tables e below (T150.setTop (mkF m 4 #[.val (.ref o1)] [(.ref x1)])) _
    refine XT.ifnonnullYes X150.here hx rfl (pc0 := 4) (pc' := 17) rfl (hb hby d_jdk_32_method_5_code_4) rfl (by decide) (by decide) ?_
    show Steps p.tables e below (T150.setTop (mkF m 17 #[.val (.ref o1)] [])) _
    refine XS.aloadN X150.here hx rfl (hb hby d_jdk_32_method_5_code_17) rfl rfl ?_
    show Steps p.tables e below (T150.setTop (mkF m 18 #[.val (.ref o1)] [(.ref o1)])) _
    refine st151 _ ?_
    show Steps p.tables e below (T151.setTop (mkF m 21 #[.val (.ref o1)] [(.ref x1)])) _
    jvm_step X151.here [X151.here.top, hx, (hb hby d_jdk_32_method_5_code_21), X151.method', Bd.returns, Value.isRef, FieldType.isReference]
    first | (intro acts; rw [hr _ acts rfl rfl rfl]) | rw [hr _ _ rfl rfl rfl]
    exact Steps.refl _
  · show own_Q (some (.ref x1)) h0 n0 _ T151.heap _
    rw [e151]
    exact ⟨rfl, N0, rfl⟩
def own_QR (we : Addr) (h0 : Heap) (n0 : Nat) (v : Option Value) (h : Heap) (L : List Loc) : Prop := v = some (.ref we) ∧ Fr n0 L ∧ Ext h0 h
theorem pd___ArLcom_example_recourse_recourse_WriteOffActor_ : parseMethodDescriptor "()[Lcom/example/recourse/recourse/WriteOffActor;" = some ⟨[], (some (.array (.object "com/example/recourse/recourse/WriteOffActor")))⟩ := by decide +kernel
theorem d_prog_44_method_6_code_0 : decode prog_44_method_6_code 0 = .ok (.invokestatic 37, 3) := by decide +kernel
theorem d_prog_44_method_6_code_3 : decode prog_44_method_6_code 3 = .ok (.astore_n 1, 1) := by decide +kernel
theorem d_prog_44_method_6_code_4 : decode prog_44_method_6_code 4 = .ok (.aload_n 1, 1) := by decide +kernel
theorem d_prog_44_method_6_code_5 : decode prog_44_method_6_code 5 = .ok (.arraylength, 1) := by decide +kernel
theorem d_prog_44_method_6_code_6 : decode prog_44_method_6_code 6 = .ok (.istore_n 2, 1) := by decide +kernel
theorem d_prog_44_method_6_code_7 : decode prog_44_method_6_code 7 = .ok (.iconst 0, 1) := by decide +kernel
theorem d_prog_44_method_6_code_8 : decode prog_44_method_6_code 8 = .ok (.istore_n 3, 1) := by decide +kernel
theorem d_prog_44_method_6_code_9 : decode prog_44_method_6_code 9 = .ok (.iload_n 3, 1) := by decide +kernel
theorem d_prog_44_method_6_code_10 : decode prog_44_method_6_code 10 = .ok (.iload_n 2, 1) := by decide +kernel
theorem d_prog_44_method_6_code_11 : decode prog_44_method_6_code 11 = .ok (.if_icmp .ge 35, 3) := by decide +kernel
theorem d_prog_44_method_6_code_14 : decode prog_44_method_6_code 14 = .ok (.aload_n 1, 1) := by decide +kernel
theorem d_prog_44_method_6_code_15 : decode prog_44_method_6_code 15 = .ok (.iload_n 3, 1) := by decide +kernel
theorem d_prog_44_method_6_code_16 : decode prog_44_method_6_code 16 = .ok (.aaload, 1) := by decide +kernel
theorem d_prog_44_method_6_code_17 : decode prog_44_method_6_code 17 = .ok (.astore 4, 2) := by decide +kernel
theorem d_prog_44_method_6_code_19 : decode prog_44_method_6_code 19 = .ok (.aload 4, 2) := by decide +kernel
theorem d_prog_44_method_6_code_21 : decode prog_44_method_6_code 21 = .ok (.getfield 29, 3) := by decide +kernel
theorem pd___Ljava_lang_String_ : parseMethodDescriptor "()Ljava/lang/String;" = some ⟨[], (some (.object "java/lang/String"))⟩ := by decide +kernel
theorem d_prog_44_method_6_code_24 : decode prog_44_method_6_code 24 = .ok (.invokevirtual 41, 3) := by decide +kernel
theorem d_prog_44_method_6_code_27 : decode prog_44_method_6_code 27 = .ok (.aload_n 0, 1) := by decide +kernel
theorem pd__Ljava_lang_Object__Z : parseMethodDescriptor "(Ljava/lang/Object;)Z" = some ⟨[(.object "java/lang/Object")], (some .boolean)⟩ := by decide +kernel
theorem d_prog_44_method_6_code_28 : decode prog_44_method_6_code 28 = .ok (.invokevirtual 47, 3) := by decide +kernel
theorem d_prog_44_method_6_code_31 : decode prog_44_method_6_code 31 = .ok (.ifCond .eq 9, 3) := by decide +kernel
theorem d_prog_44_method_6_code_40 : decode prog_44_method_6_code 40 = .ok (.iinc 3 1, 3) := by decide +kernel
theorem d_prog_44_method_6_code_43 : decode prog_44_method_6_code 43 = .ok (.goto (-34), 3) := by decide +kernel
theorem pd___Ljava_util_Optional_ : parseMethodDescriptor "()Ljava/util/Optional;" = some ⟨[], (some (.object "java/util/Optional"))⟩ := by decide +kernel
theorem d_prog_44_method_6_code_46 : decode prog_44_method_6_code 46 = .ok (.invokestatic 59, 3) := by decide +kernel
theorem d_prog_44_method_6_code_49 : decode prog_44_method_6_code 49 = .ok (.areturn, 1) := by decide +kernel
theorem ef_prog_44_method_6_code_A (m : MethodId) (x0 : Addr) : entryFrame m #[(.ref x0)] 5 = mkF m 0 #[.val (.ref x0), .unset, .unset, .unset, .unset] [] := by first | (simp [entryFrame, mkF, argsToLocals, Value.category]; done) | rfl
set_option maxRecDepth 65536 in
set_option maxHeartbeats 40000000 in
theorem own_rec_ne (l : Launch) (Z : State) (a0 : Array Value) (hw : ∀ d ∈ tables_1, d.before a0 Z = true) (ws : List Jvm.Cond) (wv w0 w1 r0 r1 s0 s1 c0 c1 we : Addr) (kv kc0 kc1 : ClassId) (i7 : Int32) (t1 u1 : Addr) (kt : ClassId) (nn : Int32) (ys : List Int32) (h0 : Heap) (n0 : Nat) (Z0 : n0 ≤ h0.size) (P : own_P Z h0 wv w0 w1 r0 r1 s0 s1 c0 c1 we kv kc0 kc1 i7) (PT : own_St Z h0 t1 u1 kt nn ys) (n_s0 : s0 ≠ t1) (n_s1 : s1 ≠ t1) (hnn : ¬ (2 : Int32) = nn) :
    MetFree l (⟨"com/example/recourse/recourse/WriteOffActor", "recordedAs", "(Ljava/lang/String;)Ljava/util/Optional;"⟩ : MethodName) (head1 (Jvm.Cond.code (⟨"com/example/recourse/recourse/WriteOffActor", "recordedAs", "(Ljava/lang/String;)Ljava/util/Optional;"⟩ : MethodName) prog_44_method_6_code 5 (some (.object "java/util/Optional")) :: ws) ({ frames := 2, cells := 1, slots := 2, locals := 28 } : Room)) (fun a U => a = #[(.ref t1)] ∧ Z.Warmed39 U.vm ∧ U.heap = h0) (fun _ _ _ _ _ => True) (fun _ U o U' => ∃ v L, o = .returned v ∧ own_QR we h0 n0 v U'.heap L ∧ FrameEnd U o U' L ({ frames := 2, cells := 1, slots := 2, locals := 28 } : Room).cells ({ frames := 2, cells := 1, slots := 2, locals := 28 } : Room).slots) := by
  refine MetFree.of_bodySF (plainFor_of_name pn_com_example_recourse_recourse_WriteOffActor) hisR ?_
  intro p e s m args below meth c s₁ Bd hml0 hP hK
  obtain ⟨rfl, hZ, hh⟩ := hP
  have hx := Bd.exec
  have hby := Bd.bytes
  have hml : c.maxLocals = 5 := hml0
  have hown : s.vm.findClass "com/example/recourse/recourse/WriteOffActor" = some m.cls := findClass_of_methodNamed Bd.named
  have hnm := (name_of_methodNamed Bd.named Bd.method).1
  have X0 : Stand p l e ({ frames := 2, cells := 1, slots := 2, locals := 28 } : Room) s m #[(.ref t1)] below meth c s₁ [] 0 0 := Stand.of_body Bd
  have e0 : s₁.heap = h0 := by rw [← hh, Bd.state]; rfl
  have N0 := Fr.nil n0
  have pre0 : ∀ t, Steps p.tables e below (s₁.setTop (mkF m 0 #[.val (.ref t1), .unset, .unset, .unset, .unset] [])) t → Steps p.tables e below (s₁.setTop (entryFrame m #[(.ref t1)] 5)) t := fun t k => castTop (ef_prog_44_method_6_code_A m t1) k
  obtain ⟨Pv, Ev, Av, Pw0, Pw1, Ew0, Ew1, Fr0, Fr1, Er0, Er1, Fc0, Fc1, Q0, Q1, Pe, Ee, Fe, S8, c9⟩ := id P
  obtain ⟨E_152, Fvalue_153, Fcoder_154, V_155⟩ := id Q0
  obtain ⟨E_156, Fvalue_157, Fcoder_158, V_159⟩ := id Q1
  obtain ⟨E_160, Fvalue_161, Fcoder_162, V_163⟩ := id PT
  obtain ⟨_, _, ⟨T164, L164, k164, n164⟩, -, X164, ⟨Lc164, hQ164, l164, y164, z164⟩, st164⟩ := Jvm.LawKit.callS X0 hx (y := (⟨"com/example/recourse/recourse/WriteOffActor", "values", "()[Lcom/example/recourse/recourse/WriteOffActor;"⟩ : MethodName)) hown (mvT hZ (hw _ (List.mem_of_getElem? (i := 30) rfl))) (mvT hZ (hw _ (List.mem_of_getElem? (i := 31) rfl))) (mvT hZ (hw _ (List.mem_of_getElem? (i := 28) rfl))) (mvT hZ (hw _ (List.mem_of_getElem? (i := 32) rfl))) (by decide) (backOf (W := 0) (own_values l Z a0 hw [] wv w0 w1 kv h0 n0 Z0 Pv Ev Av) hZ (hw _ (List.mem_of_getElem? (i := 32) rfl)) (hw _ (List.mem_of_getElem? (i := 28) rfl)) (by decide) (by decide)) (g := (mkF m 0 #[.val (.ref t1), .unset, .unset, .unset, .unset] [])) rfl (by rw [hml]; rfl) (argsL := []) (rest := []) (lenOf pd___ArLcom_example_recourse_recourse_WriteOffActor_ rfl) rfl (by show 2 * 0 + _ ≤ _; exact Nat.le_of_eq rfl) (hb hby d_prog_44_method_6_code_0) (fun _ _ => ⟨rfl, e0, (by decide : 0 + 1 ≤ _), (by decide : 0 + 2 ≤ _)⟩)
  dsimp only [Pt.U, Pt.locs, Pt.cells, Pt.slots] at X164 l164 y164 z164 st164 hQ164
  subst l164 y164 z164
  obtain ⟨t164, rfl, N164q, EE164, qq164, V164t⟩ := hQ164
  have N164 := Fr.app N0 N164q
  have q_t164 : h0.size ≤ t164 := qq164
  have ne_wv_t164 : wv ≠ t164 := Nat.ne_of_lt (Nat.lt_of_lt_of_le Ev.lt qq164)
  have ne_w0_t164 : w0 ≠ t164 := Nat.ne_of_lt (Nat.lt_of_lt_of_le Ew0.lt qq164)
  have ne_r0_t164 : r0 ≠ t164 := Nat.ne_of_lt (Nat.lt_of_lt_of_le Er0.lt qq164)
  have ne_s0_t164 : s0 ≠ t164 := Nat.ne_of_lt (Nat.lt_of_lt_of_le E_152.lt qq164)
  have ne_c0_t164 : c0 ≠ t164 := Nat.ne_of_lt (Nat.lt_of_lt_of_le V_155.lt qq164)
  have ne_w1_t164 : w1 ≠ t164 := Nat.ne_of_lt (Nat.lt_of_lt_of_le Ew1.lt qq164)
  have ne_r1_t164 : r1 ≠ t164 := Nat.ne_of_lt (Nat.lt_of_lt_of_le Er1.lt qq164)
  have ne_s1_t164 : s1 ≠ t164 := Nat.ne_of_lt (Nat.lt_of_lt_of_le E_156.lt qq164)
  have ne_c1_t164 : c1 ≠ t164 := Nat.ne_of_lt (Nat.lt_of_lt_of_le V_159.lt qq164)
  have ne_t1_t164 : t1 ≠ t164 := Nat.ne_of_lt (Nat.lt_of_lt_of_le E_160.lt qq164)
  have ne_u1_t164 : u1 ≠ t164 := Nat.ne_of_lt (Nat.lt_of_lt_of_le V_163.lt qq164)
  have Ev_165 := Ev.ext EE164
  have Av_166 := Av.ext EE164
  have Ew0_167 := Ew0.ext EE164
  have Fr0_168 := Fr0.ext EE164
  have Er0_169 := Er0.ext EE164
  have Fc0_170 := Fc0.ext EE164
  have E_171 := E_152.ext EE164
  have Fvalue_172 := Fvalue_153.ext EE164
  have Fcoder_173 := Fcoder_154.ext EE164
  have V_174 := V_155.ext EE164
  have Ew1_175 := Ew1.ext EE164
  have Fr1_176 := Fr1.ext EE164
  have Er1_177 := Er1.ext EE164
  have Fc1_178 := Fc1.ext EE164
  have E_179 := E_156.ext EE164
  have Fvalue_180 := Fvalue_157.ext EE164
  have Fcoder_181 := Fcoder_158.ext EE164
  have V_182 := V_159.ext EE164
  have E_183 := E_160.ext EE164
  have Fvalue_184 := Fvalue_161.ext EE164
  have Fcoder_185 := Fcoder_162.ext EE164
  have V_186 := V_163.ext EE164
  have EX164 : Ext h0 T164.heap := EE164
  have Z164 : n0 ≤ T164.heap.size := Nat.le_trans Z0 EX164.1
  obtain ⟨cl187, Ar187, -, Sz187, Nz187, -⟩ := id V164t
  obtain ⟨cl188, Ar188, Q188, H188⟩ := own_at V164t (j := (0 : Int32)) (v := (.ref w0)) (by decide) rfl
  obtain ⟨T189, X189, e189, st189⟩ := getF X164 hx hZ hown (host := "") (Or.inl (hw _ (List.mem_of_getElem? (i := 47) rfl))) Via.refl rfl Fr0_168 (g := (mkF m 21 #[.val (.ref t1), .val (.ref t164), .val (.int (2 : Int32)), .val (.int (0 : Int32)), .val (.ref w0)] [(.ref w0)])) rfl rfl (hb hby d_prog_44_method_6_code_21)
  obtain ⟨cq190, kq190, q190a, q190b, q190c⟩ := isOf hZ e189 Er0_169
  obtain ⟨_, _, ⟨T190, L190, k190, n190⟩, -, X190, ⟨Lc190, hQ190, l190, y190, z190⟩, st190⟩ := X189.virtualBack hx (y := (⟨"com/example/recourse/recourse/ReasonCode", "code", "()Ljava/lang/String;"⟩ : MethodName)) (z := (⟨"com/example/recourse/recourse/ReasonCode", "code", "()Ljava/lang/String;"⟩ : MethodName)) hown (mvT hZ (hw _ (List.mem_of_getElem? (i := 51) rfl))) (mvT hZ (hw _ (List.mem_of_getElem? (i := 52) rfl))) (notFace_of_selects (args := #[]) (mvT hZ (hw _ (List.mem_of_getElem? (i := 54) rfl)))) (mvT hZ (hw _ (List.mem_of_getElem? (i := 54) rfl))) (mvT hZ (hw _ (List.mem_of_getElem? (i := 53) rfl))) (by decide) (backOf (W := 0) (own_code l Z a0 hw [] r0 s0 T164.heap n0 Z164 Fc0_170) hZ (hw _ (List.mem_of_getElem? (i := 55) rfl)) (hw _ (List.mem_of_getElem? (i := 49) rfl)) (by decide) (by decide)) q190a q190c (g := (mkF m 24 #[.val (.ref t1), .val (.ref t164), .val (.int (2 : Int32)), .val (.int (0 : Int32)), .val (.ref w0)] [(.ref r0)])) rfl (by rw [hml]; rfl) (Steps.refl _) (argsL := []) (rest := []) (lenOf pd___Ljava_lang_String_ rfl) rfl (by show 2 * 0 + _ ≤ _; exact Nat.le_of_eq rfl) (hb hby d_prog_44_method_6_code_24) (fun _ _ => ⟨rfl, e189, (by decide : 1 + 0 ≤ _), (by decide : 2 + 0 ≤ _)⟩)
  dsimp only [Pt.U, Pt.locs, Pt.cells, Pt.slots] at X190 l190 y190 z190 st190 hQ190
  subst l190 y190 z190
  obtain ⟨rfl, N190q, e190⟩ := hQ190
  have N190 := Fr.app N164 N190q
  obtain ⟨cq191, kq191, q191a, q191b, q191c⟩ := isOf hZ e190 E_171
  obtain ⟨_, _, ⟨T191, L191, k191, n191⟩, -, X191, ⟨Lc191, hQ191, l191, y191, z191⟩, st191⟩ := X190.virtualBack hx (y := (⟨"java/lang/String", "equals", "(Ljava/lang/Object;)Z"⟩ : MethodName)) (z := (⟨"java/lang/String", "equals", "(Ljava/lang/Object;)Z"⟩ : MethodName)) hown (mvT hZ (hw _ (List.mem_of_getElem? (i := 58) rfl))) (mvT hZ (hw _ (List.mem_of_getElem? (i := 59) rfl))) (notFace_of_selects (args := #[]) (mvT hZ (hw _ (List.mem_of_getElem? (i := 61) rfl)))) (mvT hZ (hw _ (List.mem_of_getElem? (i := 61) rfl))) (mvT hZ (hw _ (List.mem_of_getElem? (i := 60) rfl))) (by decide) (backOf (W := 0) (own_eq_ne l Z a0 hw [] s0 t1 c0 u1 kc0 kt i7 52 52 nn ys T164.heap n0 Z164 ⟨E_171, Fvalue_172, Fcoder_173, V_174⟩ ⟨E_183, Fvalue_184, Fcoder_185, V_186⟩ (S8.ext EX164) c9 n_s0 hnn) hZ (hw _ (List.mem_of_getElem? (i := 62) rfl)) (hw _ (List.mem_of_getElem? (i := 6) rfl)) (by decide) (by decide)) q191a q191c (g := (mkF m 28 #[.val (.ref t1), .val (.ref t164), .val (.int (2 : Int32)), .val (.int (0 : Int32)), .val (.ref w0)] [(.ref t1), (.ref s0)])) rfl (by rw [hml]; rfl) (Steps.refl _) (argsL := [(.ref t1)]) (rest := []) (lenOf pd__Ljava_lang_Object__Z rfl) rfl (by show 2 * 0 + _ ≤ _; exact Nat.le_of_eq rfl) (hb hby d_prog_44_method_6_code_28) (fun _ _ => ⟨rfl, e190, (by decide : 1 + 0 ≤ _), (by decide : 2 + 0 ≤ _)⟩)
  dsimp only [Pt.U, Pt.locs, Pt.cells, Pt.slots] at X191 l191 y191 z191 st191 hQ191
  subst l191 y191 z191
  obtain ⟨rfl, N191q, e191⟩ := hQ191
  have N191 := Fr.app N190 N191q
  obtain ⟨cl192, Ar192, Q192, H192⟩ := own_at V164t (j := (1 : Int32)) (v := (.ref w1)) (by decide) rfl
  obtain ⟨T193, X193, e193, st193⟩ := getF X191 hx hZ hown (host := "") (Or.inl (hw _ (List.mem_of_getElem? (i := 47) rfl))) Via.refl e191 Fr1_176 (g := (mkF m 21 #[.val (.ref t1), .val (.ref t164), .val (.int (2 : Int32)), .val (.int (1 : Int32)), .val (.ref w1)] [(.ref w1)])) rfl rfl (hb hby d_prog_44_method_6_code_21)
  obtain ⟨cq194, kq194, q194a, q194b, q194c⟩ := isOf hZ e193 Er1_177
  obtain ⟨_, _, ⟨T194, L194, k194, n194⟩, -, X194, ⟨Lc194, hQ194, l194, y194, z194⟩, st194⟩ := X193.virtualBack hx (y := (⟨"com/example/recourse/recourse/ReasonCode", "code", "()Ljava/lang/String;"⟩ : MethodName)) (z := (⟨"com/example/recourse/recourse/ReasonCode", "code", "()Ljava/lang/String;"⟩ : MethodName)) hown (mvT hZ (hw _ (List.mem_of_getElem? (i := 51) rfl))) (mvT hZ (hw _ (List.mem_of_getElem? (i := 52) rfl))) (notFace_of_selects (args := #[]) (mvT hZ (hw _ (List.mem_of_getElem? (i := 54) rfl)))) (mvT hZ (hw _ (List.mem_of_getElem? (i := 54) rfl))) (mvT hZ (hw _ (List.mem_of_getElem? (i := 53) rfl))) (by decide) (backOf (W := 0) (own_code l Z a0 hw [] r1 s1 T164.heap n0 Z164 Fc1_178) hZ (hw _ (List.mem_of_getElem? (i := 55) rfl)) (hw _ (List.mem_of_getElem? (i := 49) rfl)) (by decide) (by decide)) q194a q194c (g := (mkF m 24 #[.val (.ref t1), .val (.ref t164), .val (.int (2 : Int32)), .val (.int (1 : Int32)), .val (.ref w1)] [(.ref r1)])) rfl (by rw [hml]; rfl) (Steps.refl _) (argsL := []) (rest := []) (lenOf pd___Ljava_lang_String_ rfl) rfl (by show 2 * 0 + _ ≤ _; exact Nat.le_of_eq rfl) (hb hby d_prog_44_method_6_code_24) (fun _ _ => ⟨rfl, e193, (by decide : 1 + 0 ≤ _), (by decide : 2 + 0 ≤ _)⟩)
  dsimp only [Pt.U, Pt.locs, Pt.cells, Pt.slots] at X194 l194 y194 z194 st194 hQ194
  subst l194 y194 z194
  obtain ⟨rfl, N194q, e194⟩ := hQ194
  have N194 := Fr.app N191 N194q
  obtain ⟨cq195, kq195, q195a, q195b, q195c⟩ := isOf hZ e194 E_179
  obtain ⟨_, _, ⟨T195, L195, k195, n195⟩, -, X195, ⟨Lc195, hQ195, l195, y195, z195⟩, st195⟩ := X194.virtualBack hx (y := (⟨"java/lang/String", "equals", "(Ljava/lang/Object;)Z"⟩ : MethodName)) (z := (⟨"java/lang/String", "equals", "(Ljava/lang/Object;)Z"⟩ : MethodName)) hown (mvT hZ (hw _ (List.mem_of_getElem? (i := 58) rfl))) (mvT hZ (hw _ (List.mem_of_getElem? (i := 59) rfl))) (notFace_of_selects (args := #[]) (mvT hZ (hw _ (List.mem_of_getElem? (i := 61) rfl)))) (mvT hZ (hw _ (List.mem_of_getElem? (i := 61) rfl))) (mvT hZ (hw _ (List.mem_of_getElem? (i := 60) rfl))) (by decide) (backOf (W := 0) (own_eq_ne l Z a0 hw [] s1 t1 c1 u1 kc1 kt i7 52 53 nn ys T164.heap n0 Z164 ⟨E_179, Fvalue_180, Fcoder_181, V_182⟩ ⟨E_183, Fvalue_184, Fcoder_185, V_186⟩ (S8.ext EX164) c9 n_s1 hnn) hZ (hw _ (List.mem_of_getElem? (i := 62) rfl)) (hw _ (List.mem_of_getElem? (i := 6) rfl)) (by decide) (by decide)) q195a q195c (g := (mkF m 28 #[.val (.ref t1), .val (.ref t164), .val (.int (2 : Int32)), .val (.int (1 : Int32)), .val (.ref w1)] [(.ref t1), (.ref s1)])) rfl (by rw [hml]; rfl) (Steps.refl _) (argsL := [(.ref t1)]) (rest := []) (lenOf pd__Ljava_lang_Object__Z rfl) rfl (by show 2 * 0 + _ ≤ _; exact Nat.le_of_eq rfl) (hb hby d_prog_44_method_6_code_28) (fun _ _ => ⟨rfl, e194, (by decide : 1 + 0 ≤ _), (by decide : 2 + 0 ≤ _)⟩)
  dsimp only [Pt.U, Pt.locs, Pt.cells, Pt.slots] at X195 l195 y195 z195 st195 hQ195
  subst l195 y195 z195
  obtain ⟨rfl, N195q, e195⟩ := hQ195
  have N195 := Fr.app N194 N195q
  obtain ⟨_, _, ⟨T196, L196, k196, n196⟩, -, X196, ⟨Lc196, hQ196, l196, y196, z196⟩, st196⟩ := Jvm.LawKit.callS X195 hx (y := (⟨"java/util/Optional", "empty", "()Ljava/util/Optional;"⟩ : MethodName)) hown (mvT hZ (hw _ (List.mem_of_getElem? (i := 70) rfl))) (mvT hZ (hw _ (List.mem_of_getElem? (i := 71) rfl))) (mvT hZ (hw _ (List.mem_of_getElem? (i := 72) rfl))) (mvT hZ (hw _ (List.mem_of_getElem? (i := 73) rfl))) (by decide) (backOf (W := 0) (own_empty l Z a0 hw [] we T164.heap n0 Z164 (Pe.ext EX164)) hZ (hw _ (List.mem_of_getElem? (i := 73) rfl)) (hw _ (List.mem_of_getElem? (i := 72) rfl)) (by decide) (by decide)) (g := (mkF m 46 #[.val (.ref t1), .val (.ref t164), .val (.int (2 : Int32)), .val (.int (2 : Int32)), .val (.ref w1)] [])) rfl (by rw [hml]; rfl) (argsL := []) (rest := []) (lenOf pd___Ljava_util_Optional_ rfl) rfl (by show 2 * 0 + _ ≤ _; exact Nat.le_of_eq rfl) (hb hby d_prog_44_method_6_code_46) (fun _ _ => ⟨rfl, e195, (by decide : 1 + 0 ≤ _), (by decide : 2 + 0 ≤ _)⟩)
  dsimp only [Pt.U, Pt.locs, Pt.cells, Pt.slots] at X196 l196 y196 z196 st196 hQ196
  subst l196 y196 z196
  obtain ⟨rfl, N196q, e196⟩ := hQ196
  have N196 := Fr.app N195 N196q
  obtain ⟨fs, hr, hrun, hended, hW, hsame⟩ := X196.leave (v := some (.ref we)) (fun h => by rw [Bd.returns] at h; cases h)
  refine ⟨_, _, pre0 _ ?_, hrun, hended, _, _, rfl, ?_, ⟨_, rfl⟩, hW, hsame.mono (by decide) (by decide)⟩
  · show Steps p.tables e below (s₁.setTop (mkF m 0 #[.val (.ref t1), .unset, .unset, .unset, .unset] [])) _
    refine st164 _ ?_
    show Steps p.tables e below (T164.setTop (mkF m 3 #[.val (.ref t1), .unset, .unset, .unset, .unset] [(.ref t164)])) _
    refine XS.astoreN X164.here hx rfl (hb hby d_prog_44_method_6_code_3) rfl rfl (l' := #[.val (.ref t1), .val (.ref t164), .unset, .unset, .unset]) rfl ?_
    show Steps p.tables e below (T164.setTop (mkF m 4 #[.val (.ref t1), .val (.ref t164), .unset, .unset, .unset] [])) _
    refine XS.aloadN X164.here hx rfl (hb hby d_prog_44_method_6_code_4) rfl rfl ?_
    show Steps p.tables e below (T164.setTop (mkF m 5 #[.val (.ref t1), .val (.ref t164), .unset, .unset, .unset] [(.ref t164)])) _
    refine X164.arraylength hx (by exact Ar187.1) (State.isArrayOf_alike hZ.alike Ar187.2.1) (g := (mkF m 5 #[.val (.ref t1), .val (.ref t164), .unset, .unset, .unset] [(.ref t164)])) rfl rfl (hb hby d_prog_44_method_6_code_5) _ ?_
    rw [len_of Sz187 Nz187]
    show Steps p.tables e below (T164.setTop (mkF m 6 #[.val (.ref t1), .val (.ref t164), .unset, .unset, .unset] [(.int (2 : Int32))])) _
    refine XS.istoreN X164.here hx rfl (hb hby d_prog_44_method_6_code_6) rfl (l' := #[.val (.ref t1), .val (.ref t164), .val (.int (2 : Int32)), .unset, .unset]) rfl ?_
    show Steps p.tables e below (T164.setTop (mkF m 7 #[.val (.ref t1), .val (.ref t164), .val (.int (2 : Int32)), .unset, .unset] [])) _
    refine XT.iconstV X164.here hx rfl (0 : Int32) (hb hby d_prog_44_method_6_code_7) rfl ?_
    show Steps p.tables e below (T164.setTop (mkF m 8 #[.val (.ref t1), .val (.ref t164), .val (.int (2 : Int32)), .unset, .unset] [(.int (0 : Int32))])) _
    refine XS.istoreN X164.here hx rfl (hb hby d_prog_44_method_6_code_8) rfl (l' := #[.val (.ref t1), .val (.ref t164), .val (.int (2 : Int32)), .val (.int (0 : Int32)), .unset]) rfl ?_
    show Steps p.tables e below (T164.setTop (mkF m 9 #[.val (.ref t1), .val (.ref t164), .val (.int (2 : Int32)), .val (.int (0 : Int32)), .unset] [])) _
    refine XS.iloadN X164.here hx rfl (hb hby d_prog_44_method_6_code_9) rfl ?_
    show Steps p.tables e below (T164.setTop (mkF m 10 #[.val (.ref t1), .val (.ref t164), .val (.int (2 : Int32)), .val (.int (0 : Int32)), .unset] [(.int (0 : Int32))])) _
    refine XS.iloadN X164.here hx rfl (hb hby d_prog_44_method_6_code_10) rfl ?_
    show Steps p.tables e below (T164.setTop (mkF m 11 #[.val (.ref t1), .val (.ref t164), .val (.int (2 : Int32)), .val (.int (0 : Int32)), .unset] [(.int (2 : Int32)), (.int (0 : Int32))])) _
    refine XS.icmpNo X164.here hx rfl (hb hby d_prog_44_method_6_code_11) rfl (by decide) ?_
    show Steps p.tables e below (T164.setTop (mkF m 14 #[.val (.ref t1), .val (.ref t164), .val (.int (2 : Int32)), .val (.int (0 : Int32)), .unset] [])) _
    refine XS.aloadN X164.here hx rfl (hb hby d_prog_44_method_6_code_14) rfl rfl ?_
    show Steps p.tables e below (T164.setTop (mkF m 15 #[.val (.ref t1), .val (.ref t164), .val (.int (2 : Int32)), .val (.int (0 : Int32)), .unset] [(.ref t164)])) _
    refine XS.iloadN X164.here hx rfl (hb hby d_prog_44_method_6_code_15) rfl ?_
    show Steps p.tables e below (T164.setTop (mkF m 16 #[.val (.ref t1), .val (.ref t164), .val (.int (2 : Int32)), .val (.int (0 : Int32)), .unset] [(.int (0 : Int32)), (.ref t164)])) _
    refine X164.aaload hx (j := (0 : Int32)) (v := (.ref w0)) (by exact Ar188.1) (State.isArrayOf_alike hZ.alike Ar188.2.1) rfl Ar188.2.2 Q188 H188 (g := (mkF m 16 #[.val (.ref t1), .val (.ref t164), .val (.int (2 : Int32)), .val (.int (0 : Int32)), .unset] [(.int (0 : Int32)), (.ref t164)])) rfl rfl (hb hby d_prog_44_method_6_code_16) _ ?_
    show Steps p.tables e below (T164.setTop (mkF m 17 #[.val (.ref t1), .val (.ref t164), .val (.int (2 : Int32)), .val (.int (0 : Int32)), .unset] [(.ref w0)])) _
    refine XS.astore X164.here hx rfl (hb hby d_prog_44_method_6_code_17) rfl rfl (l' := #[.val (.ref t1), .val (.ref t164), .val (.int (2 : Int32)), .val (.int (0 : Int32)), .val (.ref w0)]) rfl ?_
    show Steps p.tables e below (T164.setTop (mkF m 19 #[.val (.ref t1), .val (.ref t164), .val (.int (2 : Int32)), .val (.int (0 : Int32)), .val (.ref w0)] [])) _
    refine XS.aload X164.here hx rfl (hb hby d_prog_44_method_6_code_19) rfl rfl ?_
    show Steps p.tables e below (T164.setTop (mkF m 21 #[.val (.ref t1), .val (.ref t164), .val (.int (2 : Int32)), .val (.int (0 : Int32)), .val (.ref w0)] [(.ref w0)])) _
    refine st189 _ ?_
    show Steps p.tables e below (T189.setTop (mkF m 24 #[.val (.ref t1), .val (.ref t164), .val (.int (2 : Int32)), .val (.int (0 : Int32)), .val (.ref w0)] [(.ref r0)])) _
    refine st190.trans ?_
    show Steps p.tables e below (T190.setTop (mkF m 27 #[.val (.ref t1), .val (.ref t164), .val (.int (2 : Int32)), .val (.int (0 : Int32)), .val (.ref w0)] [(.ref s0)])) _
    refine XS.aloadN X190.here hx rfl (hb hby d_prog_44_method_6_code_27) rfl rfl ?_
    show Steps p.tables e below (T190.setTop (mkF m 28 #[.val (.ref t1), .val (.ref t164), .val (.int (2 : Int32)), .val (.int (0 : Int32)), .val (.ref w0)] [(.ref t1), (.ref s0)])) _
    refine st191.trans ?_
    show Steps p.tables e below (T191.setTop (mkF m 31 #[.val (.ref t1), .val (.ref t164), .val (.int (2 : Int32)), .val (.int (0 : Int32)), .val (.ref w0)] [(.int (0 : Int32))])) _
    refine XS.ifYes X191.here hx rfl (pc0 := 31) (pc' := 40) rfl (hb hby d_prog_44_method_6_code_31) rfl (by decide) (by decide) (by decide) ?_
    show Steps p.tables e below (T191.setTop (mkF m 40 #[.val (.ref t1), .val (.ref t164), .val (.int (2 : Int32)), .val (.int (0 : Int32)), .val (.ref w0)] [])) _
    refine XT.iincV X191.here hx rfl (1 : Int32) (hb hby d_prog_44_method_6_code_40) rfl rfl (l' := #[.val (.ref t1), .val (.ref t164), .val (.int (2 : Int32)), .val (.int ((0 : Int32) + (1 : Int32))), .val (.ref w0)]) rfl ?_
    rw [show ((0 : Int32) + (1 : Int32)) = (1 : Int32) from by decide]
    show Steps p.tables e below (T191.setTop (mkF m 43 #[.val (.ref t1), .val (.ref t164), .val (.int (2 : Int32)), .val (.int (1 : Int32)), .val (.ref w0)] [])) _
    refine XS.goto X191.here hx rfl (pc0 := 43) (pc' := 9) rfl (hb hby d_prog_44_method_6_code_43) (by decide) (by decide) ?_
    show Steps p.tables e below (T191.setTop (mkF m 9 #[.val (.ref t1), .val (.ref t164), .val (.int (2 : Int32)), .val (.int (1 : Int32)), .val (.ref w0)] [])) _
    refine XS.iloadN X191.here hx rfl (hb hby d_prog_44_method_6_code_9) rfl ?_
    show Steps p.tables e below (T191.setTop (mkF m 10 #[.val (.ref t1), .val (.ref t164), .val (.int (2 : Int32)), .val (.int (1 : Int32)), .val (.ref w0)] [(.int (1 : Int32))])) _
    refine XS.iloadN X191.here hx rfl (hb hby d_prog_44_method_6_code_10) rfl ?_
    show Steps p.tables e below (T191.setTop (mkF m 11 #[.val (.ref t1), .val (.ref t164), .val (.int (2 : Int32)), .val (.int (1 : Int32)), .val (.ref w0)] [(.int (2 : Int32)), (.int (1 : Int32))])) _
    refine XS.icmpNo X191.here hx rfl (hb hby d_prog_44_method_6_code_11) rfl (by decide) ?_
    show Steps p.tables e below (T191.setTop (mkF m 14 #[.val (.ref t1), .val (.ref t164), .val (.int (2 : Int32)), .val (.int (1 : Int32)), .val (.ref w0)] [])) _
    refine XS.aloadN X191.here hx rfl (hb hby d_prog_44_method_6_code_14) rfl rfl ?_
    show Steps p.tables e below (T191.setTop (mkF m 15 #[.val (.ref t1), .val (.ref t164), .val (.int (2 : Int32)), .val (.int (1 : Int32)), .val (.ref w0)] [(.ref t164)])) _
    refine XS.iloadN X191.here hx rfl (hb hby d_prog_44_method_6_code_15) rfl ?_
    show Steps p.tables e below (T191.setTop (mkF m 16 #[.val (.ref t1), .val (.ref t164), .val (.int (2 : Int32)), .val (.int (1 : Int32)), .val (.ref w0)] [(.int (1 : Int32)), (.ref t164)])) _
    refine X191.aaload hx (j := (1 : Int32)) (v := (.ref w1)) (by rw [e191]; exact Ar192.1) (State.isArrayOf_alike hZ.alike Ar192.2.1) rfl Ar192.2.2 Q192 H192 (g := (mkF m 16 #[.val (.ref t1), .val (.ref t164), .val (.int (2 : Int32)), .val (.int (1 : Int32)), .val (.ref w0)] [(.int (1 : Int32)), (.ref t164)])) rfl rfl (hb hby d_prog_44_method_6_code_16) _ ?_
    show Steps p.tables e below (T191.setTop (mkF m 17 #[.val (.ref t1), .val (.ref t164), .val (.int (2 : Int32)), .val (.int (1 : Int32)), .val (.ref w0)] [(.ref w1)])) _
    refine XS.astore X191.here hx rfl (hb hby d_prog_44_method_6_code_17) rfl rfl (l' := #[.val (.ref t1), .val (.ref t164), .val (.int (2 : Int32)), .val (.int (1 : Int32)), .val (.ref w1)]) rfl ?_
    show Steps p.tables e below (T191.setTop (mkF m 19 #[.val (.ref t1), .val (.ref t164), .val (.int (2 : Int32)), .val (.int (1 : Int32)), .val (.ref w1)] [])) _
    refine XS.aload X191.here hx rfl (hb hby d_prog_44_method_6_code_19) rfl rfl ?_
    show Steps p.tables e below (T191.setTop (mkF m 21 #[.val (.ref t1), .val (.ref t164), .val (.int (2 : Int32)), .val (.int (1 : Int32)), .val (.ref w1)] [(.ref w1)])) _
    refine st193 _ ?_
    show Steps p.tables e below (T193.setTop (mkF m 24 #[.val (.ref t1), .val (.ref t164), .val (.int (2 : Int32)), .val (.int (1 : Int32)), .val (.ref w1)] [(.ref r1)])) _
    refine st194.trans ?_
    show Steps p.tables e below (T194.setTop (mkF m 27 #[.val (.ref t1), .val (.ref t164), .val (.int (2 : Int32)), .val (.int (1 : Int32)), .val (.ref w1)] [(.ref s1)])) _
    refine XS.aloadN X194.here hx rfl (hb hby d_prog_44_method_6_code_27) rfl rfl ?_
    show Steps p.tables e below (T194.setTop (mkF m 28 #[.val (.ref t1), .val (.ref t164), .val (.int (2 : Int32)), .val (.int (1 : Int32)), .val (.ref w1)] [(.ref t1), (.ref s1)])) _
    refine st195.trans ?_
    show Steps p.tables e below (T195.setTop (mkF m 31 #[.val (.ref t1), .val (.ref t164), .val (.int (2 : Int32)), .val (.int (1 : Int32)), .val (.ref w1)] [(.int (0 : Int32))])) _
    refine XS.ifYes X195.here hx rfl (pc0 := 31) (pc' := 40) rfl (hb hby d_prog_44_method_6_code_31) rfl (by decide) (by decide) (by decide) ?_
    show Steps p.tables e below (T195.setTop (mkF m 40 #[.val (.ref t1), .val (.ref t164), .val (.int (2 : Int32)), .val (.int (1 : Int32)), .val (.ref w1)] [])) _
    refine XT.iincV X195.here hx rfl (1 : Int32) (hb hby d_prog_44_method_6_code_40) rfl rfl (l' := #[.val (.ref t1), .val (.ref t164), .val (.int (2 : Int32)), .val (.int ((1 : Int32) + (1 : Int32))), .val (.ref w1)]) rfl ?_
    rw [show ((1 : Int32) + (1 : Int32)) = (2 : Int32) from by decide]
    show Steps p.tables e below (T195.setTop (mkF m 43 #[.val (.ref t1), .val (.ref t164), .val (.int (2 : Int32)), .val (.int (2 : Int32)), .val (.ref w1)] [])) _
    refine XS.goto X195.here hx rfl (pc0 := 43) (pc' := 9) rfl (hb hby d_prog_44_method_6_code_43) (by decide) (by decide) ?_
    show Steps p.tables e below (T195.setTop (mkF m 9 #[.val (.ref t1), .val (.ref t164), .val (.int (2 : Int32)), .val (.int (2 : Int32)), .val (.ref w1)] [])) _
    refine XS.iloadN X195.here hx rfl (hb hby d_prog_44_method_6_code_9) rfl ?_
    show Steps p.tables e below (T195.setTop (mkF m 10 #[.val (.ref t1), .val (.ref t164), .val (.int (2 : Int32)), .val (.int (2 : Int32)), .val (.ref w1)] [(.int (2 : Int32))])) _
    refine XS.iloadN X195.here hx rfl (hb hby d_prog_44_method_6_code_10) rfl ?_
    show Steps p.tables e below (T195.setTop (mkF m 11 #[.val (.ref t1), .val (.ref t164), .val (.int (2 : Int32)), .val (.int (2 : Int32)), .val (.ref w1)] [(.int (2 : Int32)), (.int (2 : Int32))])) _
    refine XS.icmpYes X195.here hx rfl (pc0 := 11) (pc' := 46) rfl (hb hby d_prog_44_method_6_code_11) rfl (by decide) (by decide) (by decide) ?_
    show Steps p.tables e below (T195.setTop (mkF m 46 #[.val (.ref t1), .val (.ref t164), .val (.int (2 : Int32)), .val (.int (2 : Int32)), .val (.ref w1)] [])) _
    refine st196 _ ?_
    show Steps p.tables e below (T196.setTop (mkF m 49 #[.val (.ref t1), .val (.ref t164), .val (.int (2 : Int32)), .val (.int (2 : Int32)), .val (.ref w1)] [(.ref we)])) _
    jvm_step X196.here [X196.here.top, hx, (hb hby d_prog_44_method_6_code_49), X196.method', Bd.returns, Value.isRef, FieldType.isReference]
    first | (intro acts; rw [hr _ acts rfl rfl rfl]) | rw [hr _ _ rfl rfl rfl]
    exact Steps.refl _
  · show own_QR we h0 n0 _ T196.heap _
    rw [e196]
    exact ⟨rfl, N196, EX164⟩
set_option maxRecDepth 65536 in
set_option maxHeartbeats 40000000 in
theorem own_rec_s0 (l : Launch) (Z : State) (a0 : Array Value) (hw : ∀ d ∈ tables_1, d.before a0 Z = true) (ws : List Jvm.Cond) (wv w0 w1 r0 r1 s0 s1 c0 c1 we : Addr) (kv kc0 kc1 : ClassId) (i7 : Int32) (t1 u1 : Addr) (kt : ClassId) (y0 y1 : Int32) (h0 : Heap) (n0 : Nat) (Z0 : n0 ≤ h0.size) (P : own_P Z h0 wv w0 w1 r0 r1 s0 s1 c0 c1 we kv kc0 kc1 i7) (PT : own_St Z h0 t1 u1 kt (2 : Int32) [y0, y1]) (n_s0 : s0 ≠ t1) (n_s1 : s1 ≠ t1) (q0 : ¬ (52 : Int32) = y0) :
    MetFree l (⟨"com/example/recourse/recourse/WriteOffActor", "recordedAs", "(Ljava/lang/String;)Ljava/util/Optional;"⟩ : MethodName) (head1 (Jvm.Cond.code (⟨"com/example/recourse/recourse/WriteOffActor", "recordedAs", "(Ljava/lang/String;)Ljava/util/Optional;"⟩ : MethodName) prog_44_method_6_code 5 (some (.object "java/util/Optional")) :: ws) ({ frames := 2, cells := 1, slots := 2, locals := 28 } : Room)) (fun a U => a = #[(.ref t1)] ∧ Z.Warmed39 U.vm ∧ U.heap = h0) (fun _ _ _ _ _ => True) (fun _ U o U' => ∃ v L, o = .returned v ∧ own_QR we h0 n0 v U'.heap L ∧ FrameEnd U o U' L ({ frames := 2, cells := 1, slots := 2, locals := 28 } : Room).cells ({ frames := 2, cells := 1, slots := 2, locals := 28 } : Room).slots) := by
  refine MetFree.of_bodySF (plainFor_of_name pn_com_example_recourse_recourse_WriteOffActor) hisR ?_
  intro p e s m args below meth c s₁ Bd hml0 hP hK
  obtain ⟨rfl, hZ, hh⟩ := hP
  have hx := Bd.exec
  have hby := Bd.bytes
  have hml : c.maxLocals = 5 := hml0
  have hown : s.vm.findClass "com/example/recourse/recourse/WriteOffActor" = some m.cls := findClass_of_methodNamed Bd.named
  have hnm := (name_of_methodNamed Bd.named Bd.method).1
  have X0 : Stand p l e ({ frames := 2, cells := 1, slots := 2, locals := 28 } : Room) s m #[(.ref t1)] below meth c s₁ [] 0 0 := Stand.of_body Bd
  have e0 : s₁.heap = h0 := by rw [← hh, Bd.state]; rfl
  have N0 := Fr.nil n0
  have pre0 : ∀ t, Steps p.tables e below (s₁.setTop (mkF m 0 #[.val (.ref t1), .unset, .unset, .unset, .unset] [])) t → Steps p.tables e below (s₁.setTop (entryFrame m #[(.ref t1)] 5)) t := fun t k => castTop (ef_prog_44_method_6_code_A m t1) k
  obtain ⟨Pv, Ev, Av, Pw0, Pw1, Ew0, Ew1, Fr0, Fr1, Er0, Er1, Fc0, Fc1, Q0, Q1, Pe, Ee, Fe, S8, c9⟩ := id P
  obtain ⟨E_197, Fvalue_198, Fcoder_199, V_200⟩ := id Q0
  obtain ⟨E_201, Fvalue_202, Fcoder_203, V_204⟩ := id Q1
  obtain ⟨E_205, Fvalue_206, Fcoder_207, V_208⟩ := id PT
  obtain ⟨_, _, ⟨T209, L209, k209, n209⟩, -, X209, ⟨Lc209, hQ209, l209, y209, z209⟩, st209⟩ := Jvm.LawKit.callS X0 hx (y := (⟨"com/example/recourse/recourse/WriteOffActor", "values", "()[Lcom/example/recourse/recourse/WriteOffActor;"⟩ : MethodName)) hown (mvT hZ (hw _ (List.mem_of_getElem? (i := 30) rfl))) (mvT hZ (hw _ (List.mem_of_getElem? (i := 31) rfl))) (mvT hZ (hw _ (List.mem_of_getElem? (i := 28) rfl))) (mvT hZ (hw _ (List.mem_of_getElem? (i := 32) rfl))) (by decide) (backOf (W := 0) (own_values l Z a0 hw [] wv w0 w1 kv h0 n0 Z0 Pv Ev Av) hZ (hw _ (List.mem_of_getElem? (i := 32) rfl)) (hw _ (List.mem_of_getElem? (i := 28) rfl)) (by decide) (by decide)) (g := (mkF m 0 #[.val (.ref t1), .unset, .unset, .unset, .unset] [])) rfl (by rw [hml]; rfl) (argsL := []) (rest := []) (lenOf pd___ArLcom_example_recourse_recourse_WriteOffActor_ rfl) rfl (by show 2 * 0 + _ ≤ _; exact Nat.le_of_eq rfl) (hb hby d_prog_44_method_6_code_0) (fun _ _ => ⟨rfl, e0, (by decide : 0 + 1 ≤ _), (by decide : 0 + 2 ≤ _)⟩)
  dsimp only [Pt.U, Pt.locs, Pt.cells, Pt.slots] at X209 l209 y209 z209 st209 hQ209
  subst l209 y209 z209
  obtain ⟨t209, rfl, N209q, EE209, qq209, V209t⟩ := hQ209
  have N209 := Fr.app N0 N209q
  have q_t209 : h0.size ≤ t209 := qq209
  have ne_wv_t209 : wv ≠ t209 := Nat.ne_of_lt (Nat.lt_of_lt_of_le Ev.lt qq209)
  have ne_w0_t209 : w0 ≠ t209 := Nat.ne_of_lt (Nat.lt_of_lt_of_le Ew0.lt qq209)
  have ne_r0_t209 : r0 ≠ t209 := Nat.ne_of_lt (Nat.lt_of_lt_of_le Er0.lt qq209)
  have ne_s0_t209 : s0 ≠ t209 := Nat.ne_of_lt (Nat.lt_of_lt_of_le E_197.lt qq209)
  have ne_c0_t209 : c0 ≠ t209 := Nat.ne_of_lt (Nat.lt_of_lt_of_le V_200.lt qq209)
  have ne_w1_t209 : w1 ≠ t209 := Nat.ne_of_lt (Nat.lt_of_lt_of_le Ew1.lt qq209)
  have ne_r1_t209 : r1 ≠ t209 := Nat.ne_of_lt (Nat.lt_of_lt_of_le Er1.lt qq209)
  have ne_s1_t209 : s1 ≠ t209 := Nat.ne_of_lt (Nat.lt_of_lt_of_le E_201.lt qq209)
  have ne_c1_t209 : c1 ≠ t209 := Nat.ne_of_lt (Nat.lt_of_lt_of_le V_204.lt qq209)
  have ne_t1_t209 : t1 ≠ t209 := Nat.ne_of_lt (Nat.lt_of_lt_of_le E_205.lt qq209)
  have ne_u1_t209 : u1 ≠ t209 := Nat.ne_of_lt (Nat.lt_of_lt_of_le V_208.lt qq209)
  have Ev_210 := Ev.ext EE209
  have Av_211 := Av.ext EE209
  have Ew0_212 := Ew0.ext EE209
  have Fr0_213 := Fr0.ext EE209
  have Er0_214 := Er0.ext EE209
  have Fc0_215 := Fc0.ext EE209
  have E_216 := E_197.ext EE209
  have Fvalue_217 := Fvalue_198.ext EE209
  have Fcoder_218 := Fcoder_199.ext EE209
  have V_219 := V_200.ext EE209
  have Ew1_220 := Ew1.ext EE209
  have Fr1_221 := Fr1.ext EE209
  have Er1_222 := Er1.ext EE209
  have Fc1_223 := Fc1.ext EE209
  have E_224 := E_201.ext EE209
  have Fvalue_225 := Fvalue_202.ext EE209
  have Fcoder_226 := Fcoder_203.ext EE209
  have V_227 := V_204.ext EE209
  have E_228 := E_205.ext EE209
  have Fvalue_229 := Fvalue_206.ext EE209
  have Fcoder_230 := Fcoder_207.ext EE209
  have V_231 := V_208.ext EE209
  have EX209 : Ext h0 T209.heap := EE209
  have Z209 : n0 ≤ T209.heap.size := Nat.le_trans Z0 EX209.1
  obtain ⟨cl232, Ar232, -, Sz232, Nz232, -⟩ := id V209t
  obtain ⟨cl233, Ar233, Q233, H233⟩ := own_at V209t (j := (0 : Int32)) (v := (.ref w0)) (by decide) rfl
  obtain ⟨T234, X234, e234, st234⟩ := getF X209 hx hZ hown (host := "") (Or.inl (hw _ (List.mem_of_getElem? (i := 47) rfl))) Via.refl rfl Fr0_213 (g := (mkF m 21 #[.val (.ref t1), .val (.ref t209), .val (.int (2 : Int32)), .val (.int (0 : Int32)), .val (.ref w0)] [(.ref w0)])) rfl rfl (hb hby d_prog_44_method_6_code_21)
  obtain ⟨cq235, kq235, q235a, q235b, q235c⟩ := isOf hZ e234 Er0_214
  obtain ⟨_, _, ⟨T235, L235, k235, n235⟩, -, X235, ⟨Lc235, hQ235, l235, y235, z235⟩, st235⟩ := X234.virtualBack hx (y := (⟨"com/example/recourse/recourse/ReasonCode", "code", "()Ljava/lang/String;"⟩ : MethodName)) (z := (⟨"com/example/recourse/recourse/ReasonCode", "code", "()Ljava/lang/String;"⟩ : MethodName)) hown (mvT hZ (hw _ (List.mem_of_getElem? (i := 51) rfl))) (mvT hZ (hw _ (List.mem_of_getElem? (i := 52) rfl))) (notFace_of_selects (args := #[]) (mvT hZ (hw _ (List.mem_of_getElem? (i := 54) rfl)))) (mvT hZ (hw _ (List.mem_of_getElem? (i := 54) rfl))) (mvT hZ (hw _ (List.mem_of_getElem? (i := 53) rfl))) (by decide) (backOf (W := 0) (own_code l Z a0 hw [] r0 s0 T209.heap n0 Z209 Fc0_215) hZ (hw _ (List.mem_of_getElem? (i := 55) rfl)) (hw _ (List.mem_of_getElem? (i := 49) rfl)) (by decide) (by decide)) q235a q235c (g := (mkF m 24 #[.val (.ref t1), .val (.ref t209), .val (.int (2 : Int32)), .val (.int (0 : Int32)), .val (.ref w0)] [(.ref r0)])) rfl (by rw [hml]; rfl) (Steps.refl _) (argsL := []) (rest := []) (lenOf pd___Ljava_lang_String_ rfl) rfl (by show 2 * 0 + _ ≤ _; exact Nat.le_of_eq rfl) (hb hby d_prog_44_method_6_code_24) (fun _ _ => ⟨rfl, e234, (by decide : 1 + 0 ≤ _), (by decide : 2 + 0 ≤ _)⟩)
  dsimp only [Pt.U, Pt.locs, Pt.cells, Pt.slots] at X235 l235 y235 z235 st235 hQ235
  subst l235 y235 z235
  obtain ⟨rfl, N235q, e235⟩ := hQ235
  have N235 := Fr.app N209 N235q
  obtain ⟨cq236, kq236, q236a, q236b, q236c⟩ := isOf hZ e235 E_216
  obtain ⟨_, _, ⟨T236, L236, k236, n236⟩, -, X236, ⟨Lc236, hQ236, l236, y236, z236⟩, st236⟩ := X235.virtualBack hx (y := (⟨"java/lang/String", "equals", "(Ljava/lang/Object;)Z"⟩ : MethodName)) (z := (⟨"java/lang/String", "equals", "(Ljava/lang/Object;)Z"⟩ : MethodName)) hown (mvT hZ (hw _ (List.mem_of_getElem? (i := 58) rfl))) (mvT hZ (hw _ (List.mem_of_getElem? (i := 59) rfl))) (notFace_of_selects (args := #[]) (mvT hZ (hw _ (List.mem_of_getElem? (i := 61) rfl)))) (mvT hZ (hw _ (List.mem_of_getElem? (i := 61) rfl))) (mvT hZ (hw _ (List.mem_of_getElem? (i := 60) rfl))) (by decide) (backOf (W := 0) (own_eq_s0 l Z a0 hw [] s0 t1 c0 u1 kc0 kt i7 52 52 y0 y1 T209.heap n0 Z209 ⟨E_216, Fvalue_217, Fcoder_218, V_219⟩ ⟨E_228, Fvalue_229, Fcoder_230, V_231⟩ (S8.ext EX209) c9 n_s0 q0) hZ (hw _ (List.mem_of_getElem? (i := 62) rfl)) (hw _ (List.mem_of_getElem? (i := 6) rfl)) (by decide) (by decide)) q236a q236c (g := (mkF m 28 #[.val (.ref t1), .val (.ref t209), .val (.int (2 : Int32)), .val (.int (0 : Int32)), .val (.ref w0)] [(.ref t1), (.ref s0)])) rfl (by rw [hml]; rfl) (Steps.refl _) (argsL := [(.ref t1)]) (rest := []) (lenOf pd__Ljava_lang_Object__Z rfl) rfl (by show 2 * 0 + _ ≤ _; exact Nat.le_of_eq rfl) (hb hby d_prog_44_method_6_code_28) (fun _ _ => ⟨rfl, e235, (by decide : 1 + 0 ≤ _), (by decide : 2 + 0 ≤ _)⟩)
  dsimp only [Pt.U, Pt.locs, Pt.cells, Pt.slots] at X236 l236 y236 z236 st236 hQ236
  subst l236 y236 z236
  obtain ⟨rfl, N236q, e236⟩ := hQ236
  have N236 := Fr.app N235 N236q
  obtain ⟨cl237, Ar237, Q237, H237⟩ := own_at V209t (j := (1 : Int32)) (v := (.ref w1)) (by decide) rfl
  obtain ⟨T238, X238, e238, st238⟩ := getF X236 hx hZ hown (host := "") (Or.inl (hw _ (List.mem_of_getElem? (i := 47) rfl))) Via.refl e236 Fr1_221 (g := (mkF m 21 #[.val (.ref t1), .val (.ref t209), .val (.int (2 : Int32)), .val (.int (1 : Int32)), .val (.ref w1)] [(.ref w1)])) rfl rfl (hb hby d_prog_44_method_6_code_21)
  obtain ⟨cq239, kq239, q239a, q239b, q239c⟩ := isOf hZ e238 Er1_222
  obtain ⟨_, _, ⟨T239, L239, k239, n239⟩, -, X239, ⟨Lc239, hQ239, l239, y239, z239⟩, st239⟩ := X238.virtualBack hx (y := (⟨"com/example/recourse/recourse/ReasonCode", "code", "()Ljava/lang/String;"⟩ : MethodName)) (z := (⟨"com/example/recourse/recourse/ReasonCode", "code", "()Ljava/lang/String;"⟩ : MethodName)) hown (mvT hZ (hw _ (List.mem_of_getElem? (i := 51) rfl))) (mvT hZ (hw _ (List.mem_of_getElem? (i := 52) rfl))) (notFace_of_selects (args := #[]) (mvT hZ (hw _ (List.mem_of_getElem? (i := 54) rfl)))) (mvT hZ (hw _ (List.mem_of_getElem? (i := 54) rfl))) (mvT hZ (hw _ (List.mem_of_getElem? (i := 53) rfl))) (by decide) (backOf (W := 0) (own_code l Z a0 hw [] r1 s1 T209.heap n0 Z209 Fc1_223) hZ (hw _ (List.mem_of_getElem? (i := 55) rfl)) (hw _ (List.mem_of_getElem? (i := 49) rfl)) (by decide) (by decide)) q239a q239c (g := (mkF m 24 #[.val (.ref t1), .val (.ref t209), .val (.int (2 : Int32)), .val (.int (1 : Int32)), .val (.ref w1)] [(.ref r1)])) rfl (by rw [hml]; rfl) (Steps.refl _) (argsL := []) (rest := []) (lenOf pd___Ljava_lang_String_ rfl) rfl (by show 2 * 0 + _ ≤ _; exact Nat.le_of_eq rfl) (hb hby d_prog_44_method_6_code_24) (fun _ _ => ⟨rfl, e238, (by decide : 1 + 0 ≤ _), (by decide : 2 + 0 ≤ _)⟩)
  dsimp only [Pt.U, Pt.locs, Pt.cells, Pt.slots] at X239 l239 y239 z239 st239 hQ239
  subst l239 y239 z239
  obtain ⟨rfl, N239q, e239⟩ := hQ239
  have N239 := Fr.app N236 N239q
  obtain ⟨cq240, kq240, q240a, q240b, q240c⟩ := isOf hZ e239 E_224
  obtain ⟨_, _, ⟨T240, L240, k240, n240⟩, -, X240, ⟨Lc240, hQ240, l240, y240, z240⟩, st240⟩ := X239.virtualBack hx (y := (⟨"java/lang/String", "equals", "(Ljava/lang/Object;)Z"⟩ : MethodName)) (z := (⟨"java/lang/String", "equals", "(Ljava/lang/Object;)Z"⟩ : MethodName)) hown (mvT hZ (hw _ (List.mem_of_getElem? (i := 58) rfl))) (mvT hZ (hw _ (List.mem_of_getElem? (i := 59) rfl))) (notFace_of_selects (args := #[]) (mvT hZ (hw _ (List.mem_of_getElem? (i := 61) rfl)))) (mvT hZ (hw _ (List.mem_of_getElem? (i := 61) rfl))) (mvT hZ (hw _ (List.mem_of_getElem? (i := 60) rfl))) (by decide) (backOf (W := 0) (own_eq_s0 l Z a0 hw [] s1 t1 c1 u1 kc1 kt i7 52 53 y0 y1 T209.heap n0 Z209 ⟨E_224, Fvalue_225, Fcoder_226, V_227⟩ ⟨E_228, Fvalue_229, Fcoder_230, V_231⟩ (S8.ext EX209) c9 n_s1 q0) hZ (hw _ (List.mem_of_getElem? (i := 62) rfl)) (hw _ (List.mem_of_getElem? (i := 6) rfl)) (by decide) (by decide)) q240a q240c (g := (mkF m 28 #[.val (.ref t1), .val (.ref t209), .val (.int (2 : Int32)), .val (.int (1 : Int32)), .val (.ref w1)] [(.ref t1), (.ref s1)])) rfl (by rw [hml]; rfl) (Steps.refl _) (argsL := [(.ref t1)]) (rest := []) (lenOf pd__Ljava_lang_Object__Z rfl) rfl (by show 2 * 0 + _ ≤ _; exact Nat.le_of_eq rfl) (hb hby d_prog_44_method_6_code_28) (fun _ _ => ⟨rfl, e239, (by decide : 1 + 0 ≤ _), (by decide : 2 + 0 ≤ _)⟩)
  dsimp only [Pt.U, Pt.locs, Pt.cells, Pt.slots] at X240 l240 y240 z240 st240 hQ240
  subst l240 y240 z240
  obtain ⟨rfl, N240q, e240⟩ := hQ240
  have N240 := Fr.app N239 N240q
  obtain ⟨_, _, ⟨T241, L241, k241, n241⟩, -, X241, ⟨Lc241, hQ241, l241, y241, z241⟩, st241⟩ := Jvm.LawKit.callS X240 hx (y := (⟨"java/util/Optional", "empty", "()Ljava/util/Optional;"⟩ : MethodName)) hown (mvT hZ (hw _ (List.mem_of_getElem? (i := 70) rfl))) (mvT hZ (hw _ (List.mem_of_getElem? (i := 71) rfl))) (mvT hZ (hw _ (List.mem_of_getElem? (i := 72) rfl))) (mvT hZ (hw _ (List.mem_of_getElem? (i := 73) rfl))) (by decide) (backOf (W := 0) (own_empty l Z a0 hw [] we T209.heap n0 Z209 (Pe.ext EX209)) hZ (hw _ (List.mem_of_getElem? (i := 73) rfl)) (hw _ (List.mem_of_getElem? (i := 72) rfl)) (by decide) (by decide)) (g := (mkF m 46 #[.val (.ref t1), .val (.ref t209), .val (.int (2 : Int32)), .val (.int (2 : Int32)), .val (.ref w1)] [])) rfl (by rw [hml]; rfl) (argsL := []) (rest := []) (lenOf pd___Ljava_util_Optional_ rfl) rfl (by show 2 * 0 + _ ≤ _; exact Nat.le_of_eq rfl) (hb hby d_prog_44_method_6_code_46) (fun _ _ => ⟨rfl, e240, (by decide : 1 + 0 ≤ _), (by decide : 2 + 0 ≤ _)⟩)
  dsimp only [Pt.U, Pt.locs, Pt.cells, Pt.slots] at X241 l241 y241 z241 st241 hQ241
  subst l241 y241 z241
  obtain ⟨rfl, N241q, e241⟩ := hQ241
  have N241 := Fr.app N240 N241q
  obtain ⟨fs, hr, hrun, hended, hW, hsame⟩ := X241.leave (v := some (.ref we)) (fun h => by rw [Bd.returns] at h; cases h)
  refine ⟨_, _, pre0 _ ?_, hrun, hended, _, _, rfl, ?_, ⟨_, rfl⟩, hW, hsame.mono (by decide) (by decide)⟩
  · show Steps p.tables e below (s₁.setTop (mkF m 0 #[.val (.ref t1), .unset, .unset, .unset, .unset] [])) _
    refine st209 _ ?_
    show Steps p.tables e below (T209.setTop (mkF m 3 #[.val (.ref t1), .unset, .unset, .unset, .unset] [(.ref t209)])) _
    refine XS.astoreN X209.here hx rfl (hb hby d_prog_44_method_6_code_3) rfl rfl (l' := #[.val (.ref t1), .val (.ref t209), .unset, .unset, .unset]) rfl ?_
    show Steps p.tables e below (T209.setTop (mkF m 4 #[.val (.ref t1), .val (.ref t209), .unset, .unset, .unset] [])) _
    refine XS.aloadN X209.here hx rfl (hb hby d_prog_44_method_6_code_4) rfl rfl ?_
    show Steps p.tables e below (T209.setTop (mkF m 5 #[.val (.ref t1), .val (.ref t209), .unset, .unset, .unset] [(.ref t209)])) _
    refine X209.arraylength hx (by exact Ar232.1) (State.isArrayOf_alike hZ.alike Ar232.2.1) (g := (mkF m 5 #[.val (.ref t1), .val (.ref t209), .unset, .unset, .unset] [(.ref t209)])) rfl rfl (hb hby d_prog_44_method_6_code_5) _ ?_
    rw [len_of Sz232 Nz232]
    show Steps p.tables e below (T209.setTop (mkF m 6 #[.val (.ref t1), .val (.ref t209), .unset, .unset, .unset] [(.int (2 : Int32))])) _
    refine XS.istoreN X209.here hx rfl (hb hby d_prog_44_method_6_code_6) rfl (l' := #[.val (.ref t1), .val (.ref t209), .val (.int (2 : Int32)), .unset, .unset]) rfl ?_
    show Steps p.tables e below (T209.setTop (mkF m 7 #[.val (.ref t1), .val (.ref t209), .val (.int (2 : Int32)), .unset, .unset] [])) _
    refine XT.iconstV X209.here hx rfl (0 : Int32) (hb hby d_prog_44_method_6_code_7) rfl ?_
    show Steps p.tables e below (T209.setTop (mkF m 8 #[.val (.ref t1), .val (.ref t209), .val (.int (2 : Int32)), .unset, .unset] [(.int (0 : Int32))])) _
    refine XS.istoreN X209.here hx rfl (hb hby d_prog_44_method_6_code_8) rfl (l' := #[.val (.ref t1), .val (.ref t209), .val (.int (2 : Int32)), .val (.int (0 : Int32)), .unset]) rfl ?_
    show Steps p.tables e below (T209.setTop (mkF m 9 #[.val (.ref t1), .val (.ref t209), .val (.int (2 : Int32)), .val (.int (0 : Int32)), .unset] [])) _
    refine XS.iloadN X209.here hx rfl (hb hby d_prog_44_method_6_code_9) rfl ?_
    show Steps p.tables e below (T209.setTop (mkF m 10 #[.val (.ref t1), .val (.ref t209), .val (.int (2 : Int32)), .val (.int (0 : Int32)), .unset] [(.int (0 : Int32))])) _
    refine XS.iloadN X209.here hx rfl (hb hby d_prog_44_method_6_code_10) rfl ?_
    show Steps p.tables e below (T209.setTop (mkF m 11 #[.val (.ref t1), .val (.ref t209), .val (.int (2 : Int32)), .val (.int (0 : Int32)), .unset] [(.int (2 : Int32)), (.int (0 : Int32))])) _
    refine XS.icmpNo X209.here hx rfl (hb hby d_prog_44_method_6_code_11) rfl (by decide) ?_
    show Steps p.tables e below (T209.setTop (mkF m 14 #[.val (.ref t1), .val (.ref t209), .val (.int (2 : Int32)), .val (.int (0 : Int32)), .unset] [])) _
    refine XS.aloadN X209.here hx rfl (hb hby d_prog_44_method_6_code_14) rfl rfl ?_
    show Steps p.tables e below (T209.setTop (mkF m 15 #[.val (.ref t1), .val (.ref t209), .val (.int (2 : Int32)), .val (.int (0 : Int32)), .unset] [(.ref t209)])) _
    refine XS.iloadN X209.here hx rfl (hb hby d_prog_44_method_6_code_15) rfl ?_
    show Steps p.tables e below (T209.setTop (mkF m 16 #[.val (.ref t1), .val (.ref t209), .val (.int (2 : Int32)), .val (.int (0 : Int32)), .unset] [(.int (0 : Int32)), (.ref t209)])) _
    refine X209.aaload hx (j := (0 : Int32)) (v := (.ref w0)) (by exact Ar233.1) (State.isArrayOf_alike hZ.alike Ar233.2.1) rfl Ar233.2.2 Q233 H233 (g := (mkF m 16 #[.val (.ref t1), .val (.ref t209), .val (.int (2 : Int32)), .val (.int (0 : Int32)), .unset] [(.int (0 : Int32)), (.ref t209)])) rfl rfl (hb hby d_prog_44_method_6_code_16) _ ?_
    show Steps p.tables e below (T209.setTop (mkF m 17 #[.val (.ref t1), .val (.ref t209), .val (.int (2 : Int32)), .val (.int (0 : Int32)), .unset] [(.ref w0)])) _
    refine XS.astore X209.here hx rfl (hb hby d_prog_44_method_6_code_17) rfl rfl (l' := #[.val (.ref t1), .val (.ref t209), .val (.int (2 : Int32)), .val (.int (0 : Int32)), .val (.ref w0)]) rfl ?_
    show Steps p.tables e below (T209.setTop (mkF m 19 #[.val (.ref t1), .val (.ref t209), .val (.int (2 : Int32)), .val (.int (0 : Int32)), .val (.ref w0)] [])) _
    refine XS.aload X209.here hx rfl (hb hby d_prog_44_method_6_code_19) rfl rfl ?_
    show Steps p.tables e below (T209.setTop (mkF m 21 #[.val (.ref t1), .val (.ref t209), .val (.int (2 : Int32)), .val (.int (0 : Int32)), .val (.ref w0)] [(.ref w0)])) _
    refine st234 _ ?_
    show Steps p.tables e below (T234.setTop (mkF m 24 #[.val (.ref t1), .val (.ref t209), .val (.int (2 : Int32)), .val (.int (0 : Int32)), .val (.ref w0)] [(.ref r0)])) _
    refine st235.trans ?_
    show Steps p.tables e below (T235.setTop (mkF m 27 #[.val (.ref t1), .val (.ref t209), .val (.int (2 : Int32)), .val (.int (0 : Int32)), .val (.ref w0)] [(.ref s0)])) _
    refine XS.aloadN X235.here hx rfl (hb hby d_prog_44_method_6_code_27) rfl rfl ?_
    show Steps p.tables e below (T235.setTop (mkF m 28 #[.val (.ref t1), .val (.ref t209), .val (.int (2 : Int32)), .val (.int (0 : Int32)), .val (.ref w0)] [(.ref t1), (.ref s0)])) _
    refine st236.trans ?_
    show Steps p.tables e below (T236.setTop (mkF m 31 #[.val (.ref t1), .val (.ref t209), .val (.int (2 : Int32)), .val (.int (0 : Int32)), .val (.ref w0)] [(.int (0 : Int32))])) _
    refine XS.ifYes X236.here hx rfl (pc0 := 31) (pc' := 40) rfl (hb hby d_prog_44_method_6_code_31) rfl (by decide) (by decide) (by decide) ?_
    show Steps p.tables e below (T236.setTop (mkF m 40 #[.val (.ref t1), .val (.ref t209), .val (.int (2 : Int32)), .val (.int (0 : Int32)), .val (.ref w0)] [])) _
    refine XT.iincV X236.here hx rfl (1 : Int32) (hb hby d_prog_44_method_6_code_40) rfl rfl (l' := #[.val (.ref t1), .val (.ref t209), .val (.int (2 : Int32)), .val (.int ((0 : Int32) + (1 : Int32))), .val (.ref w0)]) rfl ?_
    rw [show ((0 : Int32) + (1 : Int32)) = (1 : Int32) from by decide]
    show Steps p.tables e below (T236.setTop (mkF m 43 #[.val (.ref t1), .val (.ref t209), .val (.int (2 : Int32)), .val (.int (1 : Int32)), .val (.ref w0)] [])) _
    refine XS.goto X236.here hx rfl (pc0 := 43) (pc' := 9) rfl (hb hby d_prog_44_method_6_code_43) (by decide) (by decide) ?_
    show Steps p.tables e below (T236.setTop (mkF m 9 #[.val (.ref t1), .val (.ref t209), .val (.int (2 : Int32)), .val (.int (1 : Int32)), .val (.ref w0)] [])) _
    refine XS.iloadN X236.here hx rfl (hb hby d_prog_44_method_6_code_9) rfl ?_
    show Steps p.tables e below (T236.setTop (mkF m 10 #[.val (.ref t1), .val (.ref t209), .val (.int (2 : Int32)), .val (.int (1 : Int32)), .val (.ref w0)] [(.int (1 : Int32))])) _
    refine XS.iloadN X236.here hx rfl (hb hby d_prog_44_method_6_code_10) rfl ?_
    show Steps p.tables e below (T236.setTop (mkF m 11 #[.val (.ref t1), .val (.ref t209), .val (.int (2 : Int32)), .val (.int (1 : Int32)), .val (.ref w0)] [(.int (2 : Int32)), (.int (1 : Int32))])) _
    refine XS.icmpNo X236.here hx rfl (hb hby d_prog_44_method_6_code_11) rfl (by decide) ?_
    show Steps p.tables e below (T236.setTop (mkF m 14 #[.val (.ref t1), .val (.ref t209), .val (.int (2 : Int32)), .val (.int (1 : Int32)), .val (.ref w0)] [])) _
    refine XS.aloadN X236.here hx rfl (hb hby d_prog_44_method_6_code_14) rfl rfl ?_
    show Steps p.tables e below (T236.setTop (mkF m 15 #[.val (.ref t1), .val (.ref t209), .val (.int (2 : Int32)), .val (.int (1 : Int32)), .val (.ref w0)] [(.ref t209)])) _
    refine XS.iloadN X236.here hx rfl (hb hby d_prog_44_method_6_code_15) rfl ?_
    show Steps p.tables e below (T236.setTop (mkF m 16 #[.val (.ref t1), .val (.ref t209), .val (.int (2 : Int32)), .val (.int (1 : Int32)), .val (.ref w0)] [(.int (1 : Int32)), (.ref t209)])) _
    refine X236.aaload hx (j := (1 : Int32)) (v := (.ref w1)) (by rw [e236]; exact Ar237.1) (State.isArrayOf_alike hZ.alike Ar237.2.1) rfl Ar237.2.2 Q237 H237 (g := (mkF m 16 #[.val (.ref t1), .val (.ref t209), .val (.int (2 : Int32)), .val (.int (1 : Int32)), .val (.ref w0)] [(.int (1 : Int32)), (.ref t209)])) rfl rfl (hb hby d_prog_44_method_6_code_16) _ ?_
    show Steps p.tables e below (T236.setTop (mkF m 17 #[.val (.ref t1), .val (.ref t209), .val (.int (2 : Int32)), .val (.int (1 : Int32)), .val (.ref w0)] [(.ref w1)])) _
    refine XS.astore X236.here hx rfl (hb hby d_prog_44_method_6_code_17) rfl rfl (l' := #[.val (.ref t1), .val (.ref t209), .val (.int (2 : Int32)), .val (.int (1 : Int32)), .val (.ref w1)]) rfl ?_
    show Steps p.tables e below (T236.setTop (mkF m 19 #[.val (.ref t1), .val (.ref t209), .val (.int (2 : Int32)), .val (.int (1 : Int32)), .val (.ref w1)] [])) _
    refine XS.aload X236.here hx rfl (hb hby d_prog_44_method_6_code_19) rfl rfl ?_
    show Steps p.tables e below (T236.setTop (mkF m 21 #[.val (.ref t1), .val (.ref t209), .val (.int (2 : Int32)), .val (.int (1 : Int32)), .val (.ref w1)] [(.ref w1)])) _
    refine st238 _ ?_
    show Steps p.tables e below (T238.setTop (mkF m 24 #[.val (.ref t1), .val (.ref t209), .val (.int (2 : Int32)), .val (.int (1 : Int32)), .val (.ref w1)] [(.ref r1)])) _
    refine st239.trans ?_
    show Steps p.tables e below (T239.setTop (mkF m 27 #[.val (.ref t1), .val (.ref t209), .val (.int (2 : Int32)), .val (.int (1 : Int32)), .val (.ref w1)] [(.ref s1)])) _
    refine XS.aloadN X239.here hx rfl (hb hby d_prog_44_method_6_code_27) rfl rfl ?_
    show Steps p.tables e below (T239.setTop (mkF m 28 #[.val (.ref t1), .val (.ref t209), .val (.int (2 : Int32)), .val (.int (1 : Int32)), .val (.ref w1)] [(.ref t1), (.ref s1)])) _
    refine st240.trans ?_
    show Steps p.tables e below (T240.setTop (mkF m 31 #[.val (.ref t1), .val (.ref t209), .val (.int (2 : Int32)), .val (.int (1 : Int32)), .val (.ref w1)] [(.int (0 : Int32))])) _
    refine XS.ifYes X240.here hx rfl (pc0 := 31) (pc' := 40) rfl (hb hby d_prog_44_method_6_code_31) rfl (by decide) (by decide) (by decide) ?_
    show Steps p.tables e below (T240.setTop (mkF m 40 #[.val (.ref t1), .val (.ref t209), .val (.int (2 : Int32)), .val (.int (1 : Int32)), .val (.ref w1)] [])) _
    refine XT.iincV X240.here hx rfl (1 : Int32) (hb hby d_prog_44_method_6_code_40) rfl rfl (l' := #[.val (.ref t1), .val (.ref t209), .val (.int (2 : Int32)), .val (.int ((1 : Int32) + (1 : Int32))), .val (.ref w1)]) rfl ?_
    rw [show ((1 : Int32) + (1 : Int32)) = (2 : Int32) from by decide]
    show Steps p.tables e below (T240.setTop (mkF m 43 #[.val (.ref t1), .val (.ref t209), .val (.int (2 : Int32)), .val (.int (2 : Int32)), .val (.ref w1)] [])) _
    refine XS.goto X240.here hx rfl (pc0 := 43) (pc' := 9) rfl (hb hby d_prog_44_method_6_code_43) (by decide) (by decide) ?_
    show Steps p.tables e below (T240.setTop (mkF m 9 #[.val (.ref t1), .val (.ref t209), .val (.int (2 : Int32)), .val (.int (2 : Int32)), .val (.ref w1)] [])) _
    refine XS.iloadN X240.here hx rfl (hb hby d_prog_44_method_6_code_9) rfl ?_
    show Steps p.tables e below (T240.setTop (mkF m 10 #[.val (.ref t1), .val (.ref t209), .val (.int (2 : Int32)), .val (.int (2 : Int32)), .val (.ref w1)] [(.int (2 : Int32))])) _
    refine XS.iloadN X240.here hx rfl (hb hby d_prog_44_method_6_code_10) rfl ?_
    show Steps p.tables e below (T240.setTop (mkF m 11 #[.val (.ref t1), .val (.ref t209), .val (.int (2 : Int32)), .val (.int (2 : Int32)), .val (.ref w1)] [(.int (2 : Int32)), (.int (2 : Int32))])) _
    refine XS.icmpYes X240.here hx rfl (pc0 := 11) (pc' := 46) rfl (hb hby d_prog_44_method_6_code_11) rfl (by decide) (by decide) (by decide) ?_
    show Steps p.tables e below (T240.setTop (mkF m 46 #[.val (.ref t1), .val (.ref t209), .val (.int (2 : Int32)), .val (.int (2 : Int32)), .val (.ref w1)] [])) _
    refine st241 _ ?_
    show Steps p.tables e below (T241.setTop (mkF m 49 #[.val (.ref t1), .val (.ref t209), .val (.int (2 : Int32)), .val (.int (2 : Int32)), .val (.ref w1)] [(.ref we)])) _
    jvm_step X241.here [X241.here.top, hx, (hb hby d_prog_44_method_6_code_49), X241.method', Bd.returns, Value.isRef, FieldType.isReference]
    first | (intro acts; rw [hr _ acts rfl rfl rfl]) | rw [hr _ _ rfl rfl rfl]
    exact Steps.refl _
  · show own_QR we h0 n0 _ T241.heap _
    rw [e241]
    exact ⟨rfl, N241, EX209⟩
theorem d_prog_44_method_6_code_34 : decode prog_44_method_6_code 34 = .ok (.aload 4, 2) := by decide +kernel
theorem pd__Ljava_lang_Object__Ljava_util_Optional_ : parseMethodDescriptor "(Ljava/lang/Object;)Ljava/util/Optional;" = some ⟨[(.object "java/lang/Object")], (some (.object "java/util/Optional"))⟩ := by decide +kernel
theorem d_prog_44_method_6_code_36 : decode prog_44_method_6_code 36 = .ok (.invokestatic 53, 3) := by decide +kernel
theorem d_prog_44_method_6_code_39 : decode prog_44_method_6_code 39 = .ok (.areturn, 1) := by decide +kernel
set_option maxRecDepth 65536 in
set_option maxHeartbeats 40000000 in
theorem own_rec_m0 (l : Launch) (Z : State) (a0 : Array Value) (hw : ∀ d ∈ tables_1, d.before a0 Z = true) (ws : List Jvm.Cond) (wv w0 w1 r0 r1 s0 s1 c0 c1 we : Addr) (kv kc0 kc1 : ClassId) (i7 : Int32) (t1 u1 : Addr) (kt : ClassId) (y0 y1 : Int32) (h0 : Heap) (n0 : Nat) (Z0 : n0 ≤ h0.size) (P : own_P Z h0 wv w0 w1 r0 r1 s0 s1 c0 c1 we kv kc0 kc1 i7) (PT : own_St Z h0 t1 u1 kt (2 : Int32) [y0, y1]) (n_s0 : s0 ≠ t1) (n_s1 : s1 ≠ t1) (q0 : (52 : Int32) = y0) (q1 : (52 : Int32) = y1) :
    MetFree l (⟨"com/example/recourse/recourse/WriteOffActor", "recordedAs", "(Ljava/lang/String;)Ljava/util/Optional;"⟩ : MethodName) (head1 (Jvm.Cond.code (⟨"com/example/recourse/recourse/WriteOffActor", "recordedAs", "(Ljava/lang/String;)Ljava/util/Optional;"⟩ : MethodName) prog_44_method_6_code 5 (some (.object "java/util/Optional")) :: ws) ({ frames := 3, cells := 2, slots := 3, locals := 38 } : Room)) (fun a U => a = #[(.ref t1)] ∧ Z.Warmed39 U.vm ∧ U.heap = h0) (fun _ _ _ _ _ => True) (fun _ U o U' => ∃ v L, o = .returned v ∧ own_QO Z w0 h0 n0 v U'.heap L ∧ FrameEnd U o U' L ({ frames := 3, cells := 2, slots := 3, locals := 38 } : Room).cells ({ frames := 3, cells := 2, slots := 3, locals := 38 } : Room).slots) := by
  refine MetFree.of_bodySF (plainFor_of_name pn_com_example_recourse_recourse_WriteOffActor) hisR ?_
  intro p e s m args below meth c s₁ Bd hml0 hP hK
  obtain ⟨rfl, hZ, hh⟩ := hP
  have hx := Bd.exec
  have hby := Bd.bytes
  have hml : c.maxLocals = 5 := hml0
  have hown : s.vm.findClass "com/example/recourse/recourse/WriteOffActor" = some m.cls := findClass_of_methodNamed Bd.named
  have hnm := (name_of_methodNamed Bd.named Bd.method).1
  have X0 : Stand p l e ({ frames := 3, cells := 2, slots := 3, locals := 38 } : Room) s m #[(.ref t1)] below meth c s₁ [] 0 0 := Stand.of_body Bd
  have e0 : s₁.heap = h0 := by rw [← hh, Bd.state]; rfl
  have N0 := Fr.nil n0
  have pre0 : ∀ t, Steps p.tables e below (s₁.setTop (mkF m 0 #[.val (.ref t1), .unset, .unset, .unset, .unset] [])) t → Steps p.tables e below (s₁.setTop (entryFrame m #[(.ref t1)] 5)) t := fun t k => castTop (ef_prog_44_method_6_code_A m t1) k
  obtain ⟨Pv, Ev, Av, Pw0, Pw1, Ew0, Ew1, Fr0, Fr1, Er0, Er1, Fc0, Fc1, Q0, Q1, Pe, Ee, Fe, S8, c9⟩ := id P
  obtain ⟨E_242, Fvalue_243, Fcoder_244, V_245⟩ := id Q0
  obtain ⟨E_246, Fvalue_247, Fcoder_248, V_249⟩ := id Q1
  obtain ⟨E_250, Fvalue_251, Fcoder_252, V_253⟩ := id PT
  obtain ⟨_, _, ⟨T254, L254, k254, n254⟩, -, X254, ⟨Lc254, hQ254, l254, y254, z254⟩, st254⟩ := Jvm.LawKit.callS X0 hx (y := (⟨"com/example/recourse/recourse/WriteOffActor", "values", "()[Lcom/example/recourse/recourse/WriteOffActor;"⟩ : MethodName)) hown (mvT hZ (hw _ (List.mem_of_getElem? (i := 30) rfl))) (mvT hZ (hw _ (List.mem_of_getElem? (i := 31) rfl))) (mvT hZ (hw _ (List.mem_of_getElem? (i := 28) rfl))) (mvT hZ (hw _ (List.mem_of_getElem? (i := 32) rfl))) (by decide) (backOf (W := 0) (own_values l Z a0 hw [] wv w0 w1 kv h0 n0 Z0 Pv Ev Av) hZ (hw _ (List.mem_of_getElem? (i := 32) rfl)) (hw _ (List.mem_of_getElem? (i := 28) rfl)) (by decide) (by decide)) (g := (mkF m 0 #[.val (.ref t1), .unset, .unset, .unset, .unset] [])) rfl (by rw [hml]; rfl) (argsL := []) (rest := []) (lenOf pd___ArLcom_example_recourse_recourse_WriteOffActor_ rfl) rfl (by show 2 * 0 + _ ≤ _; exact Nat.le_of_eq rfl) (hb hby d_prog_44_method_6_code_0) (fun _ _ => ⟨rfl, e0, (by decide : 0 + 1 ≤ _), (by decide : 0 + 2 ≤ _)⟩)
  dsimp only [Pt.U, Pt.locs, Pt.cells, Pt.slots] at X254 l254 y254 z254 st254 hQ254
  subst l254 y254 z254
  obtain ⟨t254, rfl, N254q, EE254, qq254, V254t⟩ := hQ254
  have N254 := Fr.app N0 N254q
  have q_t254 : h0.size ≤ t254 := qq254
  have ne_wv_t254 : wv ≠ t254 := Nat.ne_of_lt (Nat.lt_of_lt_of_le Ev.lt qq254)
  have ne_w0_t254 : w0 ≠ t254 := Nat.ne_of_lt (Nat.lt_of_lt_of_le Ew0.lt qq254)
  have ne_r0_t254 : r0 ≠ t254 := Nat.ne_of_lt (Nat.lt_of_lt_of_le Er0.lt qq254)
  have ne_s0_t254 : s0 ≠ t254 := Nat.ne_of_lt (Nat.lt_of_lt_of_le E_242.lt qq254)
  have ne_c0_t254 : c0 ≠ t254 := Nat.ne_of_lt (Nat.lt_of_lt_of_le V_245.lt qq254)
  have ne_w1_t254 : w1 ≠ t254 := Nat.ne_of_lt (Nat.lt_of_lt_of_le Ew1.lt qq254)
  have ne_r1_t254 : r1 ≠ t254 := Nat.ne_of_lt (Nat.lt_of_lt_of_le Er1.lt qq254)
  have ne_s1_t254 : s1 ≠ t254 := Nat.ne_of_lt (Nat.lt_of_lt_of_le E_246.lt qq254)
  have ne_c1_t254 : c1 ≠ t254 := Nat.ne_of_lt (Nat.lt_of_lt_of_le V_249.lt qq254)
  have ne_t1_t254 : t1 ≠ t254 := Nat.ne_of_lt (Nat.lt_of_lt_of_le E_250.lt qq254)
  have ne_u1_t254 : u1 ≠ t254 := Nat.ne_of_lt (Nat.lt_of_lt_of_le V_253.lt qq254)
  have Ev_255 := Ev.ext EE254
  have Av_256 := Av.ext EE254
  have Ew0_257 := Ew0.ext EE254
  have Fr0_258 := Fr0.ext EE254
  have Er0_259 := Er0.ext EE254
  have Fc0_260 := Fc0.ext EE254
  have E_261 := E_242.ext EE254
  have Fvalue_262 := Fvalue_243.ext EE254
  have Fcoder_263 := Fcoder_244.ext EE254
  have V_264 := V_245.ext EE254
  have Ew1_265 := Ew1.ext EE254
  have Fr1_266 := Fr1.ext EE254
  have Er1_267 := Er1.ext EE254
  have Fc1_268 := Fc1.ext EE254
  have E_269 := E_246.ext EE254
  have Fvalue_270 := Fvalue_247.ext EE254
  have Fcoder_271 := Fcoder_248.ext EE254
  have V_272 := V_249.ext EE254
  have E_273 := E_250.ext EE254
  have Fvalue_274 := Fvalue_251.ext EE254
  have Fcoder_275 := Fcoder_252.ext EE254
  have V_276 := V_253.ext EE254
  have EX254 : Ext h0 T254.heap := EE254
  have Z254 : n0 ≤ T254.heap.size := Nat.le_trans Z0 EX254.1
  obtain ⟨cl277, Ar277, -, Sz277, Nz277, -⟩ := id V254t
  obtain ⟨cl278, Ar278, Q278, H278⟩ := own_at V254t (j := (0 : Int32)) (v := (.ref w0)) (by decide) rfl
  obtain ⟨T279, X279, e279, st279⟩ := getF X254 hx hZ hown (host := "") (Or.inl (hw _ (List.mem_of_getElem? (i := 47) rfl))) Via.refl rfl Fr0_258 (g := (mkF m 21 #[.val (.ref t1), .val (.ref t254), .val (.int (2 : Int32)), .val (.int (0 : Int32)), .val (.ref w0)] [(.ref w0)])) rfl rfl (hb hby d_prog_44_method_6_code_21)
  obtain ⟨cq280, kq280, q280a, q280b, q280c⟩ := isOf hZ e279 Er0_259
  obtain ⟨_, _, ⟨T280, L280, k280, n280⟩, -, X280, ⟨Lc280, hQ280, l280, y280, z280⟩, st280⟩ := X279.virtualBack hx (y := (⟨"com/example/recourse/recourse/ReasonCode", "code", "()Ljava/lang/String;"⟩ : MethodName)) (z := (⟨"com/example/recourse/recourse/ReasonCode", "code", "()Ljava/lang/String;"⟩ : MethodName)) hown (mvT hZ (hw _ (List.mem_of_getElem? (i := 51) rfl))) (mvT hZ (hw _ (List.mem_of_getElem? (i := 52) rfl))) (notFace_of_selects (args := #[]) (mvT hZ (hw _ (List.mem_of_getElem? (i := 54) rfl)))) (mvT hZ (hw _ (List.mem_of_getElem? (i := 54) rfl))) (mvT hZ (hw _ (List.mem_of_getElem? (i := 53) rfl))) (by decide) (backOf (W := 0) (own_code l Z a0 hw [] r0 s0 T254.heap n0 Z254 Fc0_260) hZ (hw _ (List.mem_of_getElem? (i := 55) rfl)) (hw _ (List.mem_of_getElem? (i := 49) rfl)) (by decide) (by decide)) q280a q280c (g := (mkF m 24 #[.val (.ref t1), .val (.ref t254), .val (.int (2 : Int32)), .val (.int (0 : Int32)), .val (.ref w0)] [(.ref r0)])) rfl (by rw [hml]; rfl) (Steps.refl _) (argsL := []) (rest := []) (lenOf pd___Ljava_lang_String_ rfl) rfl (by show 2 * 0 + _ ≤ _; exact Nat.le_of_eq rfl) (hb hby d_prog_44_method_6_code_24) (fun _ _ => ⟨rfl, e279, (by decide : 1 + 0 ≤ _), (by decide : 2 + 0 ≤ _)⟩)
  dsimp only [Pt.U, Pt.locs, Pt.cells, Pt.slots] at X280 l280 y280 z280 st280 hQ280
  subst l280 y280 z280
  obtain ⟨rfl, N280q, e280⟩ := hQ280
  have N280 := Fr.app N254 N280q
  obtain ⟨cq281, kq281, q281a, q281b, q281c⟩ := isOf hZ e280 E_261
  obtain ⟨_, _, ⟨T281, L281, k281, n281⟩, -, X281, ⟨Lc281, hQ281, l281, y281, z281⟩, st281⟩ := X280.virtualBack hx (y := (⟨"java/lang/String", "equals", "(Ljava/lang/Object;)Z"⟩ : MethodName)) (z := (⟨"java/lang/String", "equals", "(Ljava/lang/Object;)Z"⟩ : MethodName)) hown (mvT hZ (hw _ (List.mem_of_getElem? (i := 58) rfl))) (mvT hZ (hw _ (List.mem_of_getElem? (i := 59) rfl))) (notFace_of_selects (args := #[]) (mvT hZ (hw _ (List.mem_of_getElem? (i := 61) rfl)))) (mvT hZ (hw _ (List.mem_of_getElem? (i := 61) rfl))) (mvT hZ (hw _ (List.mem_of_getElem? (i := 60) rfl))) (by decide) (backOf (W := 0) (own_eq_s2 l Z a0 hw [] s0 t1 c0 u1 kc0 kt i7 52 52 y0 y1 T254.heap n0 Z254 ⟨E_261, Fvalue_262, Fcoder_263, V_264⟩ ⟨E_273, Fvalue_274, Fcoder_275, V_276⟩ (S8.ext EX254) c9 n_s0 q0 q1) hZ (hw _ (List.mem_of_getElem? (i := 62) rfl)) (hw _ (List.mem_of_getElem? (i := 6) rfl)) (by decide) (by decide)) q281a q281c (g := (mkF m 28 #[.val (.ref t1), .val (.ref t254), .val (.int (2 : Int32)), .val (.int (0 : Int32)), .val (.ref w0)] [(.ref t1), (.ref s0)])) rfl (by rw [hml]; rfl) (Steps.refl _) (argsL := [(.ref t1)]) (rest := []) (lenOf pd__Ljava_lang_Object__Z rfl) rfl (by show 2 * 0 + _ ≤ _; exact Nat.le_of_eq rfl) (hb hby d_prog_44_method_6_code_28) (fun _ _ => ⟨rfl, e280, (by decide : 1 + 0 ≤ _), (by decide : 2 + 0 ≤ _)⟩)
  dsimp only [Pt.U, Pt.locs, Pt.cells, Pt.slots] at X281 l281 y281 z281 st281 hQ281
  subst l281 y281 z281
  obtain ⟨rfl, N281q, e281⟩ := hQ281
  have N281 := Fr.app N280 N281q
  obtain ⟨_, _, ⟨T282, L282, k282, n282⟩, -, X282, ⟨Lc282, hQ282, l282, y282, z282⟩, st282⟩ := Jvm.LawKit.callS X281 hx (y := (⟨"java/util/Optional", "of", "(Ljava/lang/Object;)Ljava/util/Optional;"⟩ : MethodName)) hown (mvT hZ (hw _ (List.mem_of_getElem? (i := 92) rfl))) (mvT hZ (hw _ (List.mem_of_getElem? (i := 93) rfl))) (mvT hZ (hw _ (List.mem_of_getElem? (i := 72) rfl))) (mvT hZ (hw _ (List.mem_of_getElem? (i := 94) rfl))) (by decide) (backOf (W := 0) (own_of l Z a0 hw [] w0 T254.heap n0 Z254) hZ (hw _ (List.mem_of_getElem? (i := 94) rfl)) (hw _ (List.mem_of_getElem? (i := 72) rfl)) (by decide) (by decide)) (g := (mkF m 36 #[.val (.ref t1), .val (.ref t254), .val (.int (2 : Int32)), .val (.int (0 : Int32)), .val (.ref w0)] [(.ref w0)])) rfl (by rw [hml]; rfl) (argsL := [(.ref w0)]) (rest := []) (lenOf pd__Ljava_lang_Object__Ljava_util_Optional_ rfl) rfl (by show 2 * 0 + _ ≤ _; exact Nat.le_of_eq rfl) (hb hby d_prog_44_method_6_code_36) (fun _ _ => ⟨rfl, e281, (by decide : 1 + 1 ≤ _), (by decide : 2 + 1 ≤ _)⟩)
  dsimp only [Pt.U, Pt.locs, Pt.cells, Pt.slots] at X282 l282 y282 z282 st282 hQ282
  subst l282 y282 z282
  obtain ⟨t282, rfl, N282q, EE282, EO282, FO282⟩ := hQ282
  have N282 := Fr.app N281 N282q
  have Ev_283 := Ev_255.ext EE282
  have Av_284 := Av_256.ext EE282
  have Ew0_285 := Ew0_257.ext EE282
  have Fr0_286 := Fr0_258.ext EE282
  have Er0_287 := Er0_259.ext EE282
  have Fc0_288 := Fc0_260.ext EE282
  have E_289 := E_261.ext EE282
  have Fvalue_290 := Fvalue_262.ext EE282
  have Fcoder_291 := Fcoder_263.ext EE282
  have V_292 := V_264.ext EE282
  have Ew1_293 := Ew1_265.ext EE282
  have Fr1_294 := Fr1_266.ext EE282
  have Er1_295 := Er1_267.ext EE282
  have Fc1_296 := Fc1_268.ext EE282
  have E_297 := E_269.ext EE282
  have Fvalue_298 := Fvalue_270.ext EE282
  have Fcoder_299 := Fcoder_271.ext EE282
  have V_300 := V_272.ext EE282
  have E_301 := E_273.ext EE282
  have Fvalue_302 := Fvalue_274.ext EE282
  have Fcoder_303 := Fcoder_275.ext EE282
  have V_304 := V_276.ext EE282
  have V254t_305 := V254t.ext EE282
  have EX282 : Ext h0 T282.heap := own_ext_trans EX254 EE282
  have Z282 : n0 ≤ T282.heap.size := Nat.le_trans Z0 EX282.1
  obtain ⟨fs, hr, hrun, hended, hW, hsame⟩ := X282.leave (v := some (.ref t282)) (fun h => by rw [Bd.returns] at h; cases h)
  refine ⟨_, _, pre0 _ ?_, hrun, hended, _, _, rfl, ?_, ⟨_, rfl⟩, hW, hsame.mono (by decide) (by decide)⟩
  · show Steps p.tables e below (s₁.setTop (mkF m 0 #[.val (.ref t1), .unset, .unset, .unset, .unset] [])) _
    refine st254 _ ?_
    show Steps p.tables e below (T254.setTop (mkF m 3 #[.val (.ref t1), .unset, .unset, .unset, .unset] [(.ref t254)])) _
    refine XS.astoreN X254.here hx rfl (hb hby d_prog_44_method_6_code_3) rfl rfl (l' := #[.val (.ref t1), .val (.ref t254), .unset, .unset, .unset]) rfl ?_
    show Steps p.tables e below (T254.setTop (mkF m 4 #[.val (.ref t1), .val (.ref t254), .unset, .unset, .unset] [])) _
    refine XS.aloadN X254.here hx rfl (hb hby d_prog_44_method_6_code_4) rfl rfl ?_
    show Steps p.tables e below (T254.setTop (mkF m 5 #[.val (.ref t1), .val (.ref t254), .unset, .unset, .unset] [(.ref t254)])) _
    refine X254.arraylength hx (by exact Ar277.1) (State.isArrayOf_alike hZ.alike Ar277.2.1) (g := (mkF m 5 #[.val (.ref t1), .val (.ref t254), .unset, .unset, .unset] [(.ref t254)])) rfl rfl (hb hby d_prog_44_method_6_code_5) _ ?_
    rw [len_of Sz277 Nz277]
    show Steps p.tables e below (T254.setTop (mkF m 6 #[.val (.ref t1), .val (.ref t254), .unset, .unset, .unset] [(.int (2 : Int32))])) _
    refine XS.istoreN X254.here hx rfl (hb hby d_prog_44_method_6_code_6) rfl (l' := #[.val (.ref t1), .val (.ref t254), .val (.int (2 : Int32)), .unset, .unset]) rfl ?_
    show Steps p.tables e below (T254.setTop (mkF m 7 #[.val (.ref t1), .val (.ref t254), .val (.int (2 : Int32)), .unset, .unset] [])) _
    refine XT.iconstV X254.here hx rfl (0 : Int32) (hb hby d_prog_44_method_6_code_7) rfl ?_
    show Steps p.tables e below (T254.setTop (mkF m 8 #[.val (.ref t1), .val (.ref t254), .val (.int (2 : Int32)), .unset, .unset] [(.int (0 : Int32))])) _
    refine XS.istoreN X254.here hx rfl (hb hby d_prog_44_method_6_code_8) rfl (l' := #[.val (.ref t1), .val (.ref t254), .val (.int (2 : Int32)), .val (.int (0 : Int32)), .unset]) rfl ?_
    show Steps p.tables e below (T254.setTop (mkF m 9 #[.val (.ref t1), .val (.ref t254), .val (.int (2 : Int32)), .val (.int (0 : Int32)), .unset] [])) _
    refine XS.iloadN X254.here hx rfl (hb hby d_prog_44_method_6_code_9) rfl ?_
    show Steps p.tables e below (T254.setTop (mkF m 10 #[.val (.ref t1), .val (.ref t254), .val (.int (2 : Int32)), .val (.int (0 : Int32)), .unset] [(.int (0 : Int32))])) _
    refine XS.iloadN X254.here hx rfl (hb hby d_prog_44_method_6_code_10) rfl ?_
    show Steps p.tables e below (T254.setTop (mkF m 11 #[.val (.ref t1), .val (.ref t254), .val (.int (2 : Int32)), .val (.int (0 : Int32)), .unset] [(.int (2 : Int32)), (.int (0 : Int32))])) _
    refine XS.icmpNo X254.here hx rfl (hb hby d_prog_44_method_6_code_11) rfl (by decide) ?_
    show Steps p.tables e below (T254.setTop (mkF m 14 #[.val (.ref t1), .val (.ref t254), .val (.int (2 : Int32)), .val (.int (0 : Int32)), .unset] [])) _
    refine XS.aloadN X254.here hx rfl (hb hby d_prog_44_method_6_code_14) rfl rfl ?_
    show Steps p.tables e below (T254.setTop (mkF m 15 #[.val (.ref t1), .val (.ref t254), .val (.int (2 : Int32)), .val (.int (0 : Int32)), .unset] [(.ref t254)])) _
    refine XS.iloadN X254.here hx rfl (hb hby d_prog_44_method_6_code_15) rfl ?_
    show Steps p.tables e below (T254.setTop (mkF m 16 #[.val (.ref t1), .val (.ref t254), .val (.int (2 : Int32)), .val (.int (0 : Int32)), .unset] [(.int (0 : Int32)), (.ref t254)])) _
    refine X254.aaload hx (j := (0 : Int32)) (v := (.ref w0)) (by exact Ar278.1) (State.isArrayOf_alike hZ.alike Ar278.2.1) rfl Ar278.2.2 Q278 H278 (g := (mkF m 16 #[.val (.ref t1), .val (.ref t254), .val (.int (2 : Int32)), .val (.int (0 : Int32)), .unset] [(.int (0 : Int32)), (.ref t254)])) rfl rfl (hb hby d_prog_44_method_6_code_16) _ ?_
    show Steps p.tables e below (T254.setTop (mkF m 17 #[.val (.ref t1), .val (.ref t254), .val (.int (2 : Int32)), .val (.int (0 : Int32)), .unset] [(.ref w0)])) _
    refine XS.astore X254.here hx rfl (hb hby d_prog_44_method_6_code_17) rfl rfl (l' := #[.val (.ref t1), .val (.ref t254), .val (.int (2 : Int32)), .val (.int (0 : Int32)), .val (.ref w0)]) rfl ?_
    show Steps p.tables e below (T254.setTop (mkF m 19 #[.val (.ref t1), .val (.ref t254), .val (.int (2 : Int32)), .val (.int (0 : Int32)), .val (.ref w0)] [])) _
    refine XS.aload X254.here hx rfl (hb hby d_prog_44_method_6_code_19) rfl rfl ?_
    show Steps p.tables e below (T254.setTop (mkF m 21 #[.val (.ref t1), .val (.ref t254), .val (.int (2 : Int32)), .val (.int (0 : Int32)), .val (.ref w0)] [(.ref w0)])) _
    refine st279 _ ?_
    show Steps p.tables e below (T279.setTop (mkF m 24 #[.val (.ref t1), .val (.ref t254), .val (.int (2 : Int32)), .val (.int (0 : Int32)), .val (.ref w0)] [(.ref r0)])) _
    refine st280.trans ?_
    show Steps p.tables e below (T280.setTop (mkF m 27 #[.val (.ref t1), .val (.ref t254), .val (.int (2 : Int32)), .val (.int (0 : Int32)), .val (.ref w0)] [(.ref s0)])) _
    refine XS.aloadN X280.here hx rfl (hb hby d_prog_44_method_6_code_27) rfl rfl ?_
    show Steps p.tables e below (T280.setTop (mkF m 28 #[.val (.ref t1), .val (.ref t254), .val (.int (2 : Int32)), .val (.int (0 : Int32)), .val (.ref w0)] [(.ref t1), (.ref s0)])) _
    refine st281.trans ?_
    show Steps p.tables e below (T281.setTop (mkF m 31 #[.val (.ref t1), .val (.ref t254), .val (.int (2 : Int32)), .val (.int (0 : Int32)), .val (.ref w0)] [(.int (1 : Int32))])) _
    refine XS.ifNo X281.here hx rfl (hb hby d_prog_44_method_6_code_31) rfl (by decide) ?_
    show Steps p.tables e below (T281.setTop (mkF m 34 #[.val (.ref t1), .val (.ref t254), .val (.int (2 : Int32)), .val (.int (0 : Int32)), .val (.ref w0)] [])) _
    refine XS.aload X281.here hx rfl (hb hby d_prog_44_method_6_code_34) rfl rfl ?_
    show Steps p.tables e below (T281.setTop (mkF m 36 #[.val (.ref t1), .val (.ref t254), .val (.int (2 : Int32)), .val (.int (0 : Int32)), .val (.ref w0)] [(.ref w0)])) _
    refine st282 _ ?_
    show Steps p.tables e below (T282.setTop (mkF m 39 #[.val (.ref t1), .val (.ref t254), .val (.int (2 : Int32)), .val (.int (0 : Int32)), .val (.ref w0)] [(.ref t282)])) _
    jvm_step X282.here [X282.here.top, hx, (hb hby d_prog_44_method_6_code_39), X282.method', Bd.returns, Value.isRef, FieldType.isReference]
    first | (intro acts; rw [hr _ acts rfl rfl rfl]) | rw [hr _ _ rfl rfl rfl]
    exact Steps.refl _
  · show own_QO Z w0 h0 n0 _ T282.heap _
    exact ⟨t282, rfl, N282, EX282, EO282, FO282⟩
set_option maxRecDepth 65536 in
set_option maxHeartbeats 40000000 in
theorem own_rec_m1 (l : Launch) (Z : State) (a0 : Array Value) (hw : ∀ d ∈ tables_1, d.before a0 Z = true) (ws : List Jvm.Cond) (wv w0 w1 r0 r1 s0 s1 c0 c1 we : Addr) (kv kc0 kc1 : ClassId) (i7 : Int32) (t1 u1 : Addr) (kt : ClassId) (y0 y1 : Int32) (h0 : Heap) (n0 : Nat) (Z0 : n0 ≤ h0.size) (P : own_P Z h0 wv w0 w1 r0 r1 s0 s1 c0 c1 we kv kc0 kc1 i7) (PT : own_St Z h0 t1 u1 kt (2 : Int32) [y0, y1]) (n_s0 : s0 ≠ t1) (n_s1 : s1 ≠ t1) (q0 : (52 : Int32) = y0) (q1 : ¬ (52 : Int32) = y1) (q2 : (53 : Int32) = y1) :
    MetFree l (⟨"com/example/recourse/recourse/WriteOffActor", "recordedAs", "(Ljava/lang/String;)Ljava/util/Optional;"⟩ : MethodName) (head1 (Jvm.Cond.code (⟨"com/example/recourse/recourse/WriteOffActor", "recordedAs", "(Ljava/lang/String;)Ljava/util/Optional;"⟩ : MethodName) prog_44_method_6_code 5 (some (.object "java/util/Optional")) :: ws) ({ frames := 3, cells := 2, slots := 3, locals := 38 } : Room)) (fun a U => a = #[(.ref t1)] ∧ Z.Warmed39 U.vm ∧ U.heap = h0) (fun _ _ _ _ _ => True) (fun _ U o U' => ∃ v L, o = .returned v ∧ own_QO Z w1 h0 n0 v U'.heap L ∧ FrameEnd U o U' L ({ frames := 3, cells := 2, slots := 3, locals := 38 } : Room).cells ({ frames := 3, cells := 2, slots := 3, locals := 38 } : Room).slots) := by
  refine MetFree.of_bodySF (plainFor_of_name pn_com_example_recourse_recourse_WriteOffActor) hisR ?_
  intro p e s m args below meth c s₁ Bd hml0 hP hK
  obtain ⟨rfl, hZ, hh⟩ := hP
  have hx := Bd.exec
  have hby := Bd.bytes
  have hml : c.maxLocals = 5 := hml0
  have hown : s.vm.findClass "com/example/recourse/recourse/WriteOffActor" = some m.cls := findClass_of_methodNamed Bd.named
  have hnm := (name_of_methodNamed Bd.named Bd.method).1
  have X0 : Stand p l e ({ frames := 3, cells := 2, slots := 3, locals := 38 } : Room) s m #[(.ref t1)] below meth c s₁ [] 0 0 := Stand.of_body Bd
  have e0 : s₁.heap = h0 := by rw [← hh, Bd.state]; rfl
  have N0 := Fr.nil n0
  have pre0 : ∀ t, Steps p.tables e below (s₁.setTop (mkF m 0 #[.val (.ref t1), .unset, .unset, .unset, .unset] [])) t → Steps p.tables e below (s₁.setTop (entryFrame m #[(.ref t1)] 5)) t := fun t k => castTop (ef_prog_44_method_6_code_A m t1) k
  obtain ⟨Pv, Ev, Av, Pw0, Pw1, Ew0, Ew1, Fr0, Fr1, Er0, Er1, Fc0, Fc1, Q0, Q1, Pe, Ee, Fe, S8, c9⟩ := id P
  obtain ⟨E_306, Fvalue_307, Fcoder_308, V_309⟩ := id Q0
  obtain ⟨E_310, Fvalue_311, Fcoder_312, V_313⟩ := id Q1
  obtain ⟨E_314, Fvalue_315, Fcoder_316, V_317⟩ := id PT
  obtain ⟨_, _, ⟨T318, L318, k318, n318⟩, -, X318, ⟨Lc318, hQ318, l318, y318, z318⟩, st318⟩ := Jvm.LawKit.callS X0 hx (y := (⟨"com/example/recourse/recourse/WriteOffActor", "values", "()[Lcom/example/recourse/recourse/WriteOffActor;"⟩ : MethodName)) hown (mvT hZ (hw _ (List.mem_of_getElem? (i := 30) rfl))) (mvT hZ (hw _ (List.mem_of_getElem? (i := 31) rfl))) (mvT hZ (hw _ (List.mem_of_getElem? (i := 28) rfl))) (mvT hZ (hw _ (List.mem_of_getElem? (i := 32) rfl))) (by decide) (backOf (W := 0) (own_values l Z a0 hw [] wv w0 w1 kv h0 n0 Z0 Pv Ev Av) hZ (hw _ (List.mem_of_getElem? (i := 32) rfl)) (hw _ (List.mem_of_getElem? (i := 28) rfl)) (by decide) (by decide)) (g := (mkF m 0 #[.val (.ref t1), .unset, .unset, .unset, .unset] [])) rfl (by rw [hml]; rfl) (argsL := []) (rest := []) (lenOf pd___ArLcom_example_recourse_recourse_WriteOffActor_ rfl) rfl (by show 2 * 0 + _ ≤ _; exact Nat.le_of_eq rfl) (hb hby d_prog_44_method_6_code_0) (fun _ _ => ⟨rfl, e0, (by decide : 0 + 1 ≤ _), (by decide : 0 + 2 ≤ _)⟩)
  dsimp only [Pt.U, Pt.locs, Pt.cells, Pt.slots] at X318 l318 y318 z318 st318 hQ318
  subst l318 y318 z318
  obtain ⟨t318, rfl, N318q, EE318, qq318, V318t⟩ := hQ318
  have N318 := Fr.app N0 N318q
  have q_t318 : h0.size ≤ t318 := qq318
  have ne_wv_t318 : wv ≠ t318 := Nat.ne_of_lt (Nat.lt_of_lt_of_le Ev.lt qq318)
  have ne_w0_t318 : w0 ≠ t318 := Nat.ne_of_lt (Nat.lt_of_lt_of_le Ew0.lt qq318)
  have ne_r0_t318 : r0 ≠ t318 := Nat.ne_of_lt (Nat.lt_of_lt_of_le Er0.lt qq318)
  have ne_s0_t318 : s0 ≠ t318 := Nat.ne_of_lt (Nat.lt_of_lt_of_le E_306.lt qq318)
  have ne_c0_t318 : c0 ≠ t318 := Nat.ne_of_lt (Nat.lt_of_lt_of_le V_309.lt qq318)
  have ne_w1_t318 : w1 ≠ t318 := Nat.ne_of_lt (Nat.lt_of_lt_of_le Ew1.lt qq318)
  have ne_r1_t318 : r1 ≠ t318 := Nat.ne_of_lt (Nat.lt_of_lt_of_le Er1.lt qq318)
  have ne_s1_t318 : s1 ≠ t318 := Nat.ne_of_lt (Nat.lt_of_lt_of_le E_310.lt qq318)
  have ne_c1_t318 : c1 ≠ t318 := Nat.ne_of_lt (Nat.lt_of_lt_of_le V_313.lt qq318)
  have ne_t1_t318 : t1 ≠ t318 := Nat.ne_of_lt (Nat.lt_of_lt_of_le E_314.lt qq318)
  have ne_u1_t318 : u1 ≠ t318 := Nat.ne_of_lt (Nat.lt_of_lt_of_le V_317.lt qq318)
  have Ev_319 := Ev.ext EE318
  have Av_320 := Av.ext EE318
  have Ew0_321 := Ew0.ext EE318
  have Fr0_322 := Fr0.ext EE318
  have Er0_323 := Er0.ext EE318
  have Fc0_324 := Fc0.ext EE318
  have E_325 := E_306.ext EE318
  have Fvalue_326 := Fvalue_307.ext EE318
  have Fcoder_327 := Fcoder_308.ext EE318
  have V_328 := V_309.ext EE318
  have Ew1_329 := Ew1.ext EE318
  have Fr1_330 := Fr1.ext EE318
  have Er1_331 := Er1.ext EE318
  have Fc1_332 := Fc1.ext EE318
  have E_333 := E_310.ext EE318
  have Fvalue_334 := Fvalue_311.ext EE318
  have Fcoder_335 := Fcoder_312.ext EE318
  have V_336 := V_313.ext EE318
  have E_337 := E_314.ext EE318
  have Fvalue_338 := Fvalue_315.ext EE318
  have Fcoder_339 := Fcoder_316.ext EE318
  have V_340 := V_317.ext EE318
  have EX318 : Ext h0 T318.heap := EE318
  have Z318 : n0 ≤ T318.heap.size := Nat.le_trans Z0 EX318.1
  obtain ⟨cl341, Ar341, -, Sz341, Nz341, -⟩ := id V318t
  obtain ⟨cl342, Ar342, Q342, H342⟩ := own_at V318t (j := (0 : Int32)) (v := (.ref w0)) (by decide) rfl
  obtain ⟨T343, X343, e343, st343⟩ := getF X318 hx hZ hown (host := "") (Or.inl (hw _ (List.mem_of_getElem? (i := 47) rfl))) Via.refl rfl Fr0_322 (g := (mkF m 21 #[.val (.ref t1), .val (.ref t318), .val (.int (2 : Int32)), .val (.int (0 : Int32)), .val (.ref w0)] [(.ref w0)])) rfl rfl (hb hby d_prog_44_method_6_code_21)
  obtain ⟨cq344, kq344, q344a, q344b, q344c⟩ := isOf hZ e343 Er0_323
  obtain ⟨_, _, ⟨T344, L344, k344, n344⟩, -, X344, ⟨Lc344, hQ344, l344, y344, z344⟩, st344⟩ := X343.virtualBack hx (y := (⟨"com/example/recourse/recourse/ReasonCode", "code", "()Ljava/lang/String;"⟩ : MethodName)) (z := (⟨"com/example/recourse/recourse/ReasonCode", "code", "()Ljava/lang/String;"⟩ : MethodName)) hown (mvT hZ (hw _ (List.mem_of_getElem? (i := 51) rfl))) (mvT hZ (hw _ (List.mem_of_getElem? (i := 52) rfl))) (notFace_of_selects (args := #[]) (mvT hZ (hw _ (List.mem_of_getElem? (i := 54) rfl)))) (mvT hZ (hw _ (List.mem_of_getElem? (i := 54) rfl))) (mvT hZ (hw _ (List.mem_of_getElem? (i := 53) rfl))) (by decide) (backOf (W := 0) (own_code l Z a0 hw [] r0 s0 T318.heap n0 Z318 Fc0_324) hZ (hw _ (List.mem_of_getElem? (i := 55) rfl)) (hw _ (List.mem_of_getElem? (i := 49) rfl)) (by decide) (by decide)) q344a q344c (g := (mkF m 24 #[.val (.ref t1), .val (.ref t318), .val (.int (2 : Int32)), .val (.int (0 : Int32)), .val (.ref w0)] [(.ref r0)])) rfl (by rw [hml]; rfl) (Steps.refl _) (argsL := []) (rest := []) (lenOf pd___Ljava_lang_String_ rfl) rfl (by show 2 * 0 + _ ≤ _; exact Nat.le_of_eq rfl) (hb hby d_prog_44_method_6_code_24) (fun _ _ => ⟨rfl, e343, (by decide : 1 + 0 ≤ _), (by decide : 2 + 0 ≤ _)⟩)
  dsimp only [Pt.U, Pt.locs, Pt.cells, Pt.slots] at X344 l344 y344 z344 st344 hQ344
  subst l344 y344 z344
  obtain ⟨rfl, N344q, e344⟩ := hQ344
  have N344 := Fr.app N318 N344q
  obtain ⟨cq345, kq345, q345a, q345b, q345c⟩ := isOf hZ e344 E_325
  obtain ⟨_, _, ⟨T345, L345, k345, n345⟩, -, X345, ⟨Lc345, hQ345, l345, y345, z345⟩, st345⟩ := X344.virtualBack hx (y := (⟨"java/lang/String", "equals", "(Ljava/lang/Object;)Z"⟩ : MethodName)) (z := (⟨"java/lang/String", "equals", "(Ljava/lang/Object;)Z"⟩ : MethodName)) hown (mvT hZ (hw _ (List.mem_of_getElem? (i := 58) rfl))) (mvT hZ (hw _ (List.mem_of_getElem? (i := 59) rfl))) (notFace_of_selects (args := #[]) (mvT hZ (hw _ (List.mem_of_getElem? (i := 61) rfl)))) (mvT hZ (hw _ (List.mem_of_getElem? (i := 61) rfl))) (mvT hZ (hw _ (List.mem_of_getElem? (i := 60) rfl))) (by decide) (backOf (W := 0) (own_eq_s1 l Z a0 hw [] s0 t1 c0 u1 kc0 kt i7 52 52 y0 y1 T318.heap n0 Z318 ⟨E_325, Fvalue_326, Fcoder_327, V_328⟩ ⟨E_337, Fvalue_338, Fcoder_339, V_340⟩ (S8.ext EX318) c9 n_s0 q0 q1) hZ (hw _ (List.mem_of_getElem? (i := 62) rfl)) (hw _ (List.mem_of_getElem? (i := 6) rfl)) (by decide) (by decide)) q345a q345c (g := (mkF m 28 #[.val (.ref t1), .val (.ref t318), .val (.int (2 : Int32)), .val (.int (0 : Int32)), .val (.ref w0)] [(.ref t1), (.ref s0)])) rfl (by rw [hml]; rfl) (Steps.refl _) (argsL := [(.ref t1)]) (rest := []) (lenOf pd__Ljava_lang_Object__Z rfl) rfl (by show 2 * 0 + _ ≤ _; exact Nat.le_of_eq rfl) (hb hby d_prog_44_method_6_code_28) (fun _ _ => ⟨rfl, e344, (by decide : 1 + 0 ≤ _), (by decide : 2 + 0 ≤ _)⟩)
  dsimp only [Pt.U, Pt.locs, Pt.cells, Pt.slots] at X345 l345 y345 z345 st345 hQ345
  subst l345 y345 z345
  obtain ⟨rfl, N345q, e345⟩ := hQ345
  have N345 := Fr.app N344 N345q
  obtain ⟨cl346, Ar346, Q346, H346⟩ := own_at V318t (j := (1 : Int32)) (v := (.ref w1)) (by decide) rfl
  obtain ⟨T347, X347, e347, st347⟩ := getF X345 hx hZ hown (host := "") (Or.inl (hw _ (List.mem_of_getElem? (i := 47) rfl))) Via.refl e345 Fr1_330 (g := (mkF m 21 #[.val (.ref t1), .val (.ref t318), .val (.int (2 : Int32)), .val (.int (1 : Int32)), .val (.ref w1)] [(.ref w1)])) rfl rfl (hb hby d_prog_44_method_6_code_21)
  obtain ⟨cq348, kq348, q348a, q348b, q348c⟩ := isOf hZ e347 Er1_331
  obtain ⟨_, _, ⟨T348, L348, k348, n348⟩, -, X348, ⟨Lc348, hQ348, l348, y348, z348⟩, st348⟩ := X347.virtualBack hx (y := (⟨"com/example/recourse/recourse/ReasonCode", "code", "()Ljava/lang/String;"⟩ : MethodName)) (z := (⟨"com/example/recourse/recourse/ReasonCode", "code", "()Ljava/lang/String;"⟩ : MethodName)) hown (mvT hZ (hw _ (List.mem_of_getElem? (i := 51) rfl))) (mvT hZ (hw _ (List.mem_of_getElem? (i := 52) rfl))) (notFace_of_selects (args := #[]) (mvT hZ (hw _ (List.mem_of_getElem? (i := 54) rfl)))) (mvT hZ (hw _ (List.mem_of_getElem? (i := 54) rfl))) (mvT hZ (hw _ (List.mem_of_getElem? (i := 53) rfl))) (by decide) (backOf (W := 0) (own_code l Z a0 hw [] r1 s1 T318.heap n0 Z318 Fc1_332) hZ (hw _ (List.mem_of_getElem? (i := 55) rfl)) (hw _ (List.mem_of_getElem? (i := 49) rfl)) (by decide) (by decide)) q348a q348c (g := (mkF m 24 #[.val (.ref t1), .val (.ref t318), .val (.int (2 : Int32)), .val (.int (1 : Int32)), .val (.ref w1)] [(.ref r1)])) rfl (by rw [hml]; rfl) (Steps.refl _) (argsL := []) (rest := []) (lenOf pd___Ljava_lang_String_ rfl) rfl (by show 2 * 0 + _ ≤ _; exact Nat.le_of_eq rfl) (hb hby d_prog_44_method_6_code_24) (fun _ _ => ⟨rfl, e347, (by decide : 1 + 0 ≤ _), (by decide : 2 + 0 ≤ _)⟩)
  dsimp only [Pt.U, Pt.locs, Pt.cells, Pt.slots] at X348 l348 y348 z348 st348 hQ348
  subst l348 y348 z348
  obtain ⟨rfl, N348q, e348⟩ := hQ348
  have N348 := Fr.app N345 N348q
  obtain ⟨cq349, kq349, q349a, q349b, q349c⟩ := isOf hZ e348 E_333
  obtain ⟨_, _, ⟨T349, L349, k349, n349⟩, -, X349, ⟨Lc349, hQ349, l349, y349, z349⟩, st349⟩ := X348.virtualBack hx (y := (⟨"java/lang/String", "equals", "(Ljava/lang/Object;)Z"⟩ : MethodName)) (z := (⟨"java/lang/String", "equals", "(Ljava/lang/Object;)Z"⟩ : MethodName)) hown (mvT hZ (hw _ (List.mem_of_getElem? (i := 58) rfl))) (mvT hZ (hw _ (List.mem_of_getElem? (i := 59) rfl))) (notFace_of_selects (args := #[]) (mvT hZ (hw _ (List.mem_of_getElem? (i := 61) rfl)))) (mvT hZ (hw _ (List.mem_of_getElem? (i := 61) rfl))) (mvT hZ (hw _ (List.mem_of_getElem? (i := 60) rfl))) (by decide) (backOf (W := 0) (own_eq_s2 l Z a0 hw [] s1 t1 c1 u1 kc1 kt i7 52 53 y0 y1 T318.heap n0 Z318 ⟨E_333, Fvalue_334, Fcoder_335, V_336⟩ ⟨E_337, Fvalue_338, Fcoder_339, V_340⟩ (S8.ext EX318) c9 n_s1 q0 q2) hZ (hw _ (List.mem_of_getElem? (i := 62) rfl)) (hw _ (List.mem_of_getElem? (i := 6) rfl)) (by decide) (by decide)) q349a q349c (g := (mkF m 28 #[.val (.ref t1), .val (.ref t318), .val (.int (2 : Int32)), .val (.int (1 : Int32)), .val (.ref w1)] [(.ref t1), (.ref s1)])) rfl (by rw [hml]; rfl) (Steps.refl _) (argsL := [(.ref t1)]) (rest := []) (lenOf pd__Ljava_lang_Object__Z rfl) rfl (by show 2 * 0 + _ ≤ _; exact Nat.le_of_eq rfl) (hb hby d_prog_44_method_6_code_28) (fun _ _ => ⟨rfl, e348, (by decide : 1 + 0 ≤ _), (by decide : 2 + 0 ≤ _)⟩)
  dsimp only [Pt.U, Pt.locs, Pt.cells, Pt.slots] at X349 l349 y349 z349 st349 hQ349
  subst l349 y349 z349
  obtain ⟨rfl, N349q, e349⟩ := hQ349
  have N349 := Fr.app N348 N349q
  obtain ⟨_, _, ⟨T350, L350, k350, n350⟩, -, X350, ⟨Lc350, hQ350, l350, y350, z350⟩, st350⟩ := Jvm.LawKit.callS X349 hx (y := (⟨"java/util/Optional", "of", "(Ljava/lang/Object;)Ljava/util/Optional;"⟩ : MethodName)) hown (mvT hZ (hw _ (List.mem_of_getElem? (i := 92) rfl))) (mvT hZ (hw _ (List.mem_of_getElem? (i := 93) rfl))) (mvT hZ (hw _ (List.mem_of_getElem? (i := 72) rfl))) (mvT hZ (hw _ (List.mem_of_getElem? (i := 94) rfl))) (by decide) (backOf (W := 0) (own_of l Z a0 hw [] w1 T318.heap n0 Z318) hZ (hw _ (List.mem_of_getElem? (i := 94) rfl)) (hw _ (List.mem_of_getElem? (i := 72) rfl)) (by decide) (by decide)) (g := (mkF m 36 #[.val (.ref t1), .val (.ref t318), .val (.int (2 : Int32)), .val (.int (1 : Int32)), .val (.ref w1)] [(.ref w1)])) rfl (by rw [hml]; rfl) (argsL := [(.ref w1)]) (rest := []) (lenOf pd__Ljava_lang_Object__Ljava_util_Optional_ rfl) rfl (by show 2 * 0 + _ ≤ _; exact Nat.le_of_eq rfl) (hb hby d_prog_44_method_6_code_36) (fun _ _ => ⟨rfl, e349, (by decide : 1 + 1 ≤ _), (by decide : 2 + 1 ≤ _)⟩)
  dsimp only [Pt.U, Pt.locs, Pt.cells, Pt.slots] at X350 l350 y350 z350 st350 hQ350
  subst l350 y350 z350
  obtain ⟨t350, rfl, N350q, EE350, EO350, FO350⟩ := hQ350
  have N350 := Fr.app N349 N350q
  have Ev_351 := Ev_319.ext EE350
  have Av_352 := Av_320.ext EE350
  have Ew0_353 := Ew0_321.ext EE350
  have Fr0_354 := Fr0_322.ext EE350
  have Er0_355 := Er0_323.ext EE350
  have Fc0_356 := Fc0_324.ext EE350
  have E_357 := E_325.ext EE350
  have Fvalue_358 := Fvalue_326.ext EE350
  have Fcoder_359 := Fcoder_327.ext EE350
  have V_360 := V_328.ext EE350
  have Ew1_361 := Ew1_329.ext EE350
  have Fr1_362 := Fr1_330.ext EE350
  have Er1_363 := Er1_331.ext EE350
  have Fc1_364 := Fc1_332.ext EE350
  have E_365 := E_333.ext EE350
  have Fvalue_366 := Fvalue_334.ext EE350
  have Fcoder_367 := Fcoder_335.ext EE350
  have V_368 := V_336.ext EE350
  have E_369 := E_337.ext EE350
  have Fvalue_370 := Fvalue_338.ext EE350
  have Fcoder_371 := Fcoder_339.ext EE350
  have V_372 := V_340.ext EE350
  have V318t_373 := V318t.ext EE350
  have EX350 : Ext h0 T350.heap := own_ext_trans EX318 EE350
  have Z350 : n0 ≤ T350.heap.size := Nat.le_trans Z0 EX350.1
  obtain ⟨fs, hr, hrun, hended, hW, hsame⟩ := X350.leave (v := some (.ref t350)) (fun h => by rw [Bd.returns] at h; cases h)
  refine ⟨_, _, pre0 _ ?_, hrun, hended, _, _, rfl, ?_, ⟨_, rfl⟩, hW, hsame.mono (by decide) (by decide)⟩
  · show Steps p.tables e below (s₁.setTop (mkF m 0 #[.val (.ref t1), .unset, .unset, .unset, .unset] [])) _
    refine st318 _ ?_
    show Steps p.tables e below (T318.setTop (mkF m 3 #[.val (.ref t1), .unset, .unset, .unset, .unset] [(.ref t318)])) _
    refine XS.astoreN X318.here hx rfl (hb hby d_prog_44_method_6_code_3) rfl rfl (l' := #[.val (.ref t1), .val (.ref t318), .unset, .unset, .unset]) rfl ?_
    show Steps p.tables e below (T318.setTop (mkF m 4 #[.val (.ref t1), .val (.ref t318), .unset, .unset, .unset] [])) _
    refine XS.aloadN X318.here hx rfl (hb hby d_prog_44_method_6_code_4) rfl rfl ?_
    show Steps p.tables e below (T318.setTop (mkF m 5 #[.val (.ref t1), .val (.ref t318), .unset, .unset, .unset] [(.ref t318)])) _
    refine X318.arraylength hx (by exact Ar341.1) (State.isArrayOf_alike hZ.alike Ar341.2.1) (g := (mkF m 5 #[.val (.ref t1), .val (.ref t318), .unset, .unset, .unset] [(.ref t318)])) rfl rfl (hb hby d_prog_44_method_6_code_5) _ ?_
    rw [len_of Sz341 Nz341]
    show Steps p.tables e below (T318.setTop (mkF m 6 #[.val (.ref t1), .val (.ref t318), .unset, .unset, .unset] [(.int (2 : Int32))])) _
    refine XS.istoreN X318.here hx rfl (hb hby d_prog_44_method_6_code_6) rfl (l' := #[.val (.ref t1), .val (.ref t318), .val (.int (2 : Int32)), .unset, .unset]) rfl ?_
    show Steps p.tables e below (T318.setTop (mkF m 7 #[.val (.ref t1), .val (.ref t318), .val (.int (2 : Int32)), .unset, .unset] [])) _
    refine XT.iconstV X318.here hx rfl (0 : Int32) (hb hby d_prog_44_method_6_code_7) rfl ?_
    show Steps p.tables e below (T318.setTop (mkF m 8 #[.val (.ref t1), .val (.ref t318), .val (.int (2 : Int32)), .unset, .unset] [(.int (0 : Int32))])) _
    refine XS.istoreN X318.here hx rfl (hb hby d_prog_44_method_6_code_8) rfl (l' := #[.val (.ref t1), .val (.ref t318), .val (.int (2 : Int32)), .val (.int (0 : Int32)), .unset]) rfl ?_
    show Steps p.tables e below (T318.setTop (mkF m 9 #[.val (.ref t1), .val (.ref t318), .val (.int (2 : Int32)), .val (.int (0 : Int32)), .unset] [])) _
    refine XS.iloadN X318.here hx rfl (hb hby d_prog_44_method_6_code_9) rfl ?_
    show Steps p.tables e below (T318.setTop (mkF m 10 #[.val (.ref t1), .val (.ref t318), .val (.int (2 : Int32)), .val (.int (0 : Int32)), .unset] [(.int (0 : Int32))])) _
    refine XS.iloadN X318.here hx rfl (hb hby d_prog_44_method_6_code_10) rfl ?_
    show Steps p.tables e below (T318.setTop (mkF m 11 #[.val (.ref t1), .val (.ref t318), .val (.int (2 : Int32)), .val (.int (0 : Int32)), .unset] [(.int (2 : Int32)), (.int (0 : Int32))])) _
    refine XS.icmpNo X318.here hx rfl (hb hby d_prog_44_method_6_code_11) rfl (by decide) ?_
    show Steps p.tables e below (T318.setTop (mkF m 14 #[.val (.ref t1), .val (.ref t318), .val (.int (2 : Int32)), .val (.int (0 : Int32)), .unset] [])) _
    refine XS.aloadN X318.here hx rfl (hb hby d_prog_44_method_6_code_14) rfl rfl ?_
    show Steps p.tables e below (T318.setTop (mkF m 15 #[.val (.ref t1), .val (.ref t318), .val (.int (2 : Int32)), .val (.int (0 : Int32)), .unset] [(.ref t318)])) _
    refine XS.iloadN X318.here hx rfl (hb hby d_prog_44_method_6_code_15) rfl ?_
    show Steps p.tables e below (T318.setTop (mkF m 16 #[.val (.ref t1), .val (.ref t318), .val (.int (2 : Int32)), .val (.int (0 : Int32)), .unset] [(.int (0 : Int32)), (.ref t318)])) _
    refine X318.aaload hx (j := (0 : Int32)) (v := (.ref w0)) (by exact Ar342.1) (State.isArrayOf_alike hZ.alike Ar342.2.1) rfl Ar342.2.2 Q342 H342 (g := (mkF m 16 #[.val (.ref t1), .val (.ref t318), .val (.int (2 : Int32)), .val (.int (0 : Int32)), .unset] [(.int (0 : Int32)), (.ref t318)])) rfl rfl (hb hby d_prog_44_method_6_code_16) _ ?_
    show Steps p.tables e below (T318.setTop (mkF m 17 #[.val (.ref t1), .val (.ref t318), .val (.int (2 : Int32)), .val (.int (0 : Int32)), .unset] [(.ref w0)])) _
    refine XS.astore X318.here hx rfl (hb hby d_prog_44_method_6_code_17) rfl rfl (l' := #[.val (.ref t1), .val (.ref t318), .val (.int (2 : Int32)), .val (.int (0 : Int32)), .val (.ref w0)]) rfl ?_
    show Steps p.tables e below (T318.setTop (mkF m 19 #[.val (.ref t1), .val (.ref t318), .val (.int (2 : Int32)), .val (.int (0 : Int32)), .val (.ref w0)] [])) _
    refine XS.aload X318.here hx rfl (hb hby d_prog_44_method_6_code_19) rfl rfl ?_
    show Steps p.tables e below (T318.setTop (mkF m 21 #[.val (.ref t1), .val (.ref t318), .val (.int (2 : Int32)), .val (.int (0 : Int32)), .val (.ref w0)] [(.ref w0)])) _
    refine st343 _ ?_
    show Steps p.tables e below (T343.setTop (mkF m 24 #[.val (.ref t1), .val (.ref t318), .val (.int (2 : Int32)), .val (.int (0 : Int32)), .val (.ref w0)] [(.ref r0)])) _
    refine st344.trans ?_
    show Steps p.tables e below (T344.setTop (mkF m 27 #[.val (.ref t1), .val (.ref t318), .val (.int (2 : Int32)), .val (.int (0 : Int32)), .val (.ref w0)] [(.ref s0)])) _
    refine XS.aloadN X344.here hx rfl (hb hby d_prog_44_method_6_code_27) rfl rfl ?_
    show Steps p.tables e below (T344.setTop (mkF m 28 #[.val (.ref t1), .val (.ref t318), .val (.int (2 : Int32)), .val (.int (0 : Int32)), .val (.ref w0)] [(.ref t1), (.ref s0)])) _
    refine st345.trans ?_
    show Steps p.tables e below (T345.setTop (mkF m 31 #[.val (.ref t1), .val (.ref t318), .val (.int (2 : Int32)), .val (.int (0 : Int32)), .val (.ref w0)] [(.int (0 : Int32))])) _
    refine XS.ifYes X345.here hx rfl (pc0 := 31) (pc' := 40) rfl (hb hby d_prog_44_method_6_code_31) rfl (by decide) (by decide) (by decide) ?_
    show Steps p.tables e below (T345.setTop (mkF m 40 #[.val (.ref t1), .val (.ref t318), .val (.int (2 : Int32)), .val (.int (0 : Int32)), .val (.ref w0)] [])) _
    refine XT.iincV X345.here hx rfl (1 : Int32) (hb hby d_prog_44_method_6_code_40) rfl rfl (l' := #[.val (.ref t1), .val (.ref t318), .val (.int (2 : Int32)), .val (.int ((0 : Int32) + (1 : Int32))), .val (.ref w0)]) rfl ?_
    rw [show ((0 : Int32) + (1 : Int32)) = (1 : Int32) from by decide]
    show Steps p.tables e below (T345.setTop (mkF m 43 #[.val (.ref t1), .val (.ref t318), .val (.int (2 : Int32)), .val (.int (1 : Int32)), .val (.ref w0)] [])) _
    refine XS.goto X345.here hx rfl (pc0 := 43) (pc' := 9) rfl (hb hby d_prog_44_method_6_code_43) (by decide) (by decide) ?_
    show Steps p.tables e below (T345.setTop (mkF m 9 #[.val (.ref t1), .val (.ref t318), .val (.int (2 : Int32)), .val (.int (1 : Int32)), .val (.ref w0)] [])) _
    refine XS.iloadN X345.here hx rfl (hb hby d_prog_44_method_6_code_9) rfl ?_
    show Steps p.tables e below (T345.setTop (mkF m 10 #[.val (.ref t1), .val (.ref t318), .val (.int (2 : Int32)), .val (.int (1 : Int32)), .val (.ref w0)] [(.int (1 : Int32))])) _
    refine XS.iloadN X345.here hx rfl (hb hby d_prog_44_method_6_code_10) rfl ?_
    show Steps p.tables e below (T345.setTop (mkF m 11 #[.val (.ref t1), .val (.ref t318), .val (.int (2 : Int32)), .val (.int (1 : Int32)), .val (.ref w0)] [(.int (2 : Int32)), (.int (1 : Int32))])) _
    refine XS.icmpNo X345.here hx rfl (hb hby d_prog_44_method_6_code_11) rfl (by decide) ?_
    show Steps p.tables e below (T345.setTop (mkF m 14 #[.val (.ref t1), .val (.ref t318), .val (.int (2 : Int32)), .val (.int (1 : Int32)), .val (.ref w0)] [])) _
    refine XS.aloadN X345.here hx rfl (hb hby d_prog_44_method_6_code_14) rfl rfl ?_
    show Steps p.tables e below (T345.setTop (mkF m 15 #[.val (.ref t1), .val (.ref t318), .val (.int (2 : Int32)), .val (.int (1 : Int32)), .val (.ref w0)] [(.ref t318)])) _
    refine XS.iloadN X345.here hx rfl (hb hby d_prog_44_method_6_code_15) rfl ?_
    show Steps p.tables e below (T345.setTop (mkF m 16 #[.val (.ref t1), .val (.ref t318), .val (.int (2 : Int32)), .val (.int (1 : Int32)), .val (.ref w0)] [(.int (1 : Int32)), (.ref t318)])) _
    refine X345.aaload hx (j := (1 : Int32)) (v := (.ref w1)) (by rw [e345]; exact Ar346.1) (State.isArrayOf_alike hZ.alike Ar346.2.1) rfl Ar346.2.2 Q346 H346 (g := (mkF m 16 #[.val (.ref t1), .val (.ref t318), .val (.int (2 : Int32)), .val (.int (1 : Int32)), .val (.ref w0)] [(.int (1 : Int32)), (.ref t318)])) rfl rfl (hb hby d_prog_44_method_6_code_16) _ ?_
    show Steps p.tables e below (T345.setTop (mkF m 17 #[.val (.ref t1), .val (.ref t318), .val (.int (2 : Int32)), .val (.int (1 : Int32)), .val (.ref w0)] [(.ref w1)])) _
    refine XS.astore X345.here hx rfl (hb hby d_prog_44_method_6_code_17) rfl rfl (l' := #[.val (.ref t1), .val (.ref t318), .val (.int (2 : Int32)), .val (.int (1 : Int32)), .val (.ref w1)]) rfl ?_
    show Steps p.tables e below (T345.setTop (mkF m 19 #[.val (.ref t1), .val (.ref t318), .val (.int (2 : Int32)), .val (.int (1 : Int32)), .val (.ref w1)] [])) _
    refine XS.aload X345.here hx rfl (hb hby d_prog_44_method_6_code_19) rfl rfl ?_
    show Steps p.tables e below (T345.setTop (mkF m 21 #[.val (.ref t1), .val (.ref t318), .val (.int (2 : Int32)), .val (.int (1 : Int32)), .val (.ref w1)] [(.ref w1)])) _
    refine st347 _ ?_
    show Steps p.tables e below (T347.setTop (mkF m 24 #[.val (.ref t1), .val (.ref t318), .val (.int (2 : Int32)), .val (.int (1 : Int32)), .val (.ref w1)] [(.ref r1)])) _
    refine st348.trans ?_
    show Steps p.tables e below (T348.setTop (mkF m 27 #[.val (.ref t1), .val (.ref t318), .val (.int (2 : Int32)), .val (.int (1 : Int32)), .val (.ref w1)] [(.ref s1)])) _
    refine XS.aloadN X348.here hx rfl (hb hby d_prog_44_method_6_code_27) rfl rfl ?_
    show Steps p.tables e below (T348.setTop (mkF m 28 #[.val (.ref t1), .val (.ref t318), .val (.int (2 : Int32)), .val (.int (1 : Int32)), .val (.ref w1)] [(.ref t1), (.ref s1)])) _
    refine st349.trans ?_
    show Steps p.tables e below (T349.setTop (mkF m 31 #[.val (.ref t1), .val (.ref t318), .val (.int (2 : Int32)), .val (.int (1 : Int32)), .val (.ref w1)] [(.int (1 : Int32))])) _
    refine XS.ifNo X349.here hx rfl (hb hby d_prog_44_method_6_code_31) rfl (by decide) ?_
    show Steps p.tables e below (T349.setTop (mkF m 34 #[.val (.ref t1), .val (.ref t318), .val (.int (2 : Int32)), .val (.int (1 : Int32)), .val (.ref w1)] [])) _
    refine XS.aload X349.here hx rfl (hb hby d_prog_44_method_6_code_34) rfl rfl ?_
    show Steps p.tables e below (T349.setTop (mkF m 36 #[.val (.ref t1), .val (.ref t318), .val (.int (2 : Int32)), .val (.int (1 : Int32)), .val (.ref w1)] [(.ref w1)])) _
    refine st350 _ ?_
    show Steps p.tables e below (T350.setTop (mkF m 39 #[.val (.ref t1), .val (.ref t318), .val (.int (2 : Int32)), .val (.int (1 : Int32)), .val (.ref w1)] [(.ref t350)])) _
    jvm_step X350.here [X350.here.top, hx, (hb hby d_prog_44_method_6_code_39), X350.method', Bd.returns, Value.isRef, FieldType.isReference]
    first | (intro acts; rw [hr _ acts rfl rfl rfl]) | rw [hr _ _ rfl rfl rfl]
    exact Steps.refl _
  · show own_QO Z w1 h0 n0 _ T350.heap _
    exact ⟨t350, rfl, N350, EX350, EO350, FO350⟩
set_option maxRecDepth 65536 in
set_option maxHeartbeats 40000000 in
theorem own_rec_s1 (l : Launch) (Z : State) (a0 : Array Value) (hw : ∀ d ∈ tables_1, d.before a0 Z = true) (ws : List Jvm.Cond) (wv w0 w1 r0 r1 s0 s1 c0 c1 we : Addr) (kv kc0 kc1 : ClassId) (i7 : Int32) (t1 u1 : Addr) (kt : ClassId) (y0 y1 : Int32) (h0 : Heap) (n0 : Nat) (Z0 : n0 ≤ h0.size) (P : own_P Z h0 wv w0 w1 r0 r1 s0 s1 c0 c1 we kv kc0 kc1 i7) (PT : own_St Z h0 t1 u1 kt (2 : Int32) [y0, y1]) (n_s0 : s0 ≠ t1) (n_s1 : s1 ≠ t1) (q0 : (52 : Int32) = y0) (q1 : ¬ (52 : Int32) = y1) (q2 : ¬ (53 : Int32) = y1) :
    MetFree l (⟨"com/example/recourse/recourse/WriteOffActor", "recordedAs", "(Ljava/lang/String;)Ljava/util/Optional;"⟩ : MethodName) (head1 (Jvm.Cond.code (⟨"com/example/recourse/recourse/WriteOffActor", "recordedAs", "(Ljava/lang/String;)Ljava/util/Optional;"⟩ : MethodName) prog_44_method_6_code 5 (some (.object "java/util/Optional")) :: ws) ({ frames := 2, cells := 1, slots := 2, locals := 28 } : Room)) (fun a U => a = #[(.ref t1)] ∧ Z.Warmed39 U.vm ∧ U.heap = h0) (fun _ _ _ _ _ => True) (fun _ U o U' => ∃ v L, o = .returned v ∧ own_QR we h0 n0 v U'.heap L ∧ FrameEnd U o U' L ({ frames := 2, cells := 1, slots := 2, locals := 28 } : Room).cells ({ frames := 2, cells := 1, slots := 2, locals := 28 } : Room).slots) := by
  refine MetFree.of_bodySF (plainFor_of_name pn_com_example_recourse_recourse_WriteOffActor) hisR ?_
  intro p e s m args below meth c s₁ Bd hml0 hP hK
  obtain ⟨rfl, hZ, hh⟩ := hP
  have hx := Bd.exec
  have hby := Bd.bytes
  have hml : c.maxLocals = 5 := hml0
  have hown : s.vm.findClass "com/example/recourse/recourse/WriteOffActor" = some m.cls := findClass_of_methodNamed Bd.named
  have hnm := (name_of_methodNamed Bd.named Bd.method).1
  have X0 : Stand p l e ({ frames := 2, cells := 1, slots := 2, locals := 28 } : Room) s m #[(.ref t1)] below meth c s₁ [] 0 0 := Stand.of_body Bd
  have e0 : s₁.heap = h0 := by rw [← hh, Bd.state]; rfl
  have N0 := Fr.nil n0
  have pre0 : ∀ t, Steps p.tables e below (s₁.setTop (mkF m 0 #[.val (.ref t1), .unset, .unset, .unset, .unset] [])) t → Steps p.tables e below (s₁.setTop (entryFrame m #[(.ref t1)] 5)) t := fun t k => castTop (ef_prog_44_method_6_code_A m t1) k
  obtain ⟨Pv, Ev, Av, Pw0, Pw1, Ew0, Ew1, Fr0, Fr1, Er0, Er1, Fc0, Fc1, Q0, Q1, Pe, Ee, Fe, S8, c9⟩ := id P
  obtain ⟨E_374, Fvalue_375, Fcoder_376, V_377⟩ := id Q0
  obtain ⟨E_378, Fvalue_379, Fcoder_380, V_381⟩ := id Q1
  obtain ⟨E_382, Fvalue_383, Fcoder_384, V_385⟩ := id PT
  obtain ⟨_, _, ⟨T386, L386, k386, n386⟩, -, X386, ⟨Lc386, hQ386, l386, y386, z386⟩, st386⟩ := Jvm.LawKit.callS X0 hx (y := (⟨"com/example/recourse/recourse/WriteOffActor", "values", "()[Lcom/example/recourse/recourse/WriteOffActor;"⟩ : MethodName)) hown (mvT hZ (hw _ (List.mem_of_getElem? (i := 30) rfl))) (mvT hZ (hw _ (List.mem_of_getElem? (i := 31) rfl))) (mvT hZ (hw _ (List.mem_of_getElem? (i := 28) rfl))) (mvT hZ (hw _ (List.mem_of_getElem? (i := 32) rfl))) (by decide) (backOf (W := 0) (own_values l Z a0 hw [] wv w0 w1 kv h0 n0 Z0 Pv Ev Av) hZ (hw _ (List.mem_of_getElem? (i := 32) rfl)) (hw _ (List.mem_of_getElem? (i := 28) rfl)) (by decide) (by decide)) (g := (mkF m 0 #[.val (.ref t1), .unset, .unset, .unset, .unset] [])) rfl (by rw [hml]; rfl) (argsL := []) (rest := []) (lenOf pd___ArLcom_example_recourse_recourse_WriteOffActor_ rfl) rfl (by show 2 * 0 + _ ≤ _; exact Nat.le_of_eq rfl) (hb hby d_prog_44_method_6_code_0) (fun _ _ => ⟨rfl, e0, (by decide : 0 + 1 ≤ _), (by decide : 0 + 2 ≤ _)⟩)
  dsimp only [Pt.U, Pt.locs, Pt.cells, Pt.slots] at X386 l386 y386 z386 st386 hQ386
  subst l386 y386 z386
  obtain ⟨t386, rfl, N386q, EE386, qq386, V386t⟩ := hQ386
  have N386 := Fr.app N0 N386q
  have q_t386 : h0.size ≤ t386 := qq386
  have ne_wv_t386 : wv ≠ t386 := Nat.ne_of_lt (Nat.lt_of_lt_of_le Ev.lt qq386)
  have ne_w0_t386 : w0 ≠ t386 := Nat.ne_of_lt (Nat.lt_of_lt_of_le Ew0.lt qq386)
  have ne_r0_t386 : r0 ≠ t386 := Nat.ne_of_lt (Nat.lt_of_lt_of_le Er0.lt qq386)
  have ne_s0_t386 : s0 ≠ t386 := Nat.ne_of_lt (Nat.lt_of_lt_of_le E_374.lt qq386)
  have ne_c0_t386 : c0 ≠ t386 := Nat.ne_of_lt (Nat.lt_of_lt_of_le V_377.lt qq386)
  have ne_w1_t386 : w1 ≠ t386 := Nat.ne_of_lt (Nat.lt_of_lt_of_le Ew1.lt qq386)
  have ne_r1_t386 : r1 ≠ t386 := Nat.ne_of_lt (Nat.lt_of_lt_of_le Er1.lt qq386)
  have ne_s1_t386 : s1 ≠ t386 := Nat.ne_of_lt (Nat.lt_of_lt_of_le E_378.lt qq386)
  have ne_c1_t386 : c1 ≠ t386 := Nat.ne_of_lt (Nat.lt_of_lt_of_le V_381.lt qq386)
  have ne_t1_t386 : t1 ≠ t386 := Nat.ne_of_lt (Nat.lt_of_lt_of_le E_382.lt qq386)
  have ne_u1_t386 : u1 ≠ t386 := Nat.ne_of_lt (Nat.lt_of_lt_of_le V_385.lt qq386)
  have Ev_387 := Ev.ext EE386
  have Av_388 := Av.ext EE386
  have Ew0_389 := Ew0.ext EE386
  have Fr0_390 := Fr0.ext EE386
  have Er0_391 := Er0.ext EE386
  have Fc0_392 := Fc0.ext EE386
  have E_393 := E_374.ext EE386
  have Fvalue_394 := Fvalue_375.ext EE386
  have Fcoder_395 := Fcoder_376.ext EE386
  have V_396 := V_377.ext EE386
  have Ew1_397 := Ew1.ext EE386
  have Fr1_398 := Fr1.ext EE386
  have Er1_399 := Er1.ext EE386
  have Fc1_400 := Fc1.ext EE386
  have E_401 := E_378.ext EE386
  have Fvalue_402 := Fvalue_379.ext EE386
  have Fcoder_403 := Fcoder_380.ext EE386
  have V_404 := V_381.ext EE386
  have E_405 := E_382.ext EE386
  have Fvalue_406 := Fvalue_383.ext EE386
  have Fcoder_407 := Fcoder_384.ext EE386
  have V_408 := V_385.ext EE386
  have EX386 : Ext h0 T386.heap := EE386
  have Z386 : n0 ≤ T386.heap.size := Nat.le_trans Z0 EX386.1
  obtain ⟨cl409, Ar409, -, Sz409, Nz409, -⟩ := id V386t
  obtain ⟨cl410, Ar410, Q410, H410⟩ := own_at V386t (j := (0 : Int32)) (v := (.ref w0)) (by decide) rfl
  obtain ⟨T411, X411, e411, st411⟩ := getF X386 hx hZ hown (host := "") (Or.inl (hw _ (List.mem_of_getElem? (i := 47) rfl))) Via.refl rfl Fr0_390 (g := (mkF m 21 #[.val (.ref t1), .val (.ref t386), .val (.int (2 : Int32)), .val (.int (0 : Int32)), .val (.ref w0)] [(.ref w0)])) rfl rfl (hb hby d_prog_44_method_6_code_21)
  obtain ⟨cq412, kq412, q412a, q412b, q412c⟩ := isOf hZ e411 Er0_391
  obtain ⟨_, _, ⟨T412, L412, k412, n412⟩, -, X412, ⟨Lc412, hQ412, l412, y412, z412⟩, st412⟩ := X411.virtualBack hx (y := (⟨"com/example/recourse/recourse/ReasonCode", "code", "()Ljava/lang/String;"⟩ : MethodName)) (z := (⟨"com/example/recourse/recourse/ReasonCode", "code", "()Ljava/lang/String;"⟩ : MethodName)) hown (mvT hZ (hw _ (List.mem_of_getElem? (i := 51) rfl))) (mvT hZ (hw _ (List.mem_of_getElem? (i := 52) rfl))) (notFace_of_selects (args := #[]) (mvT hZ (hw _ (List.mem_of_getElem? (i := 54) rfl)))) (mvT hZ (hw _ (List.mem_of_getElem? (i := 54) rfl))) (mvT hZ (hw _ (List.mem_of_getElem? (i := 53) rfl))) (by decide) (backOf (W := 0) (own_code l Z a0 hw [] r0 s0 T386.heap n0 Z386 Fc0_392) hZ (hw _ (List.mem_of_getElem? (i := 55) rfl)) (hw _ (List.mem_of_getElem? (i := 49) rfl)) (by decide) (by decide)) q412a q412c (g := (mkF m 24 #[.val (.ref t1), .val (.ref t386), .val (.int (2 : Int32)), .val (.int (0 : Int32)), .val (.ref w0)] [(.ref r0)])) rfl (by rw [hml]; rfl) (Steps.refl _) (argsL := []) (rest := []) (lenOf pd___Ljava_lang_String_ rfl) rfl (by show 2 * 0 + _ ≤ _; exact Nat.le_of_eq rfl) (hb hby d_prog_44_method_6_code_24) (fun _ _ => ⟨rfl, e411, (by decide : 1 + 0 ≤ _), (by decide : 2 + 0 ≤ _)⟩)
  dsimp only [Pt.U, Pt.locs, Pt.cells, Pt.slots] at X412 l412 y412 z412 st412 hQ412
  subst l412 y412 z412
  obtain ⟨rfl, N412q, e412⟩ := hQ412
  have N412 := Fr.app N386 N412q
  obtain ⟨cq413, kq413, q413a, q413b, q413c⟩ := isOf hZ e412 E_393
  obtain ⟨_, _, ⟨T413, L413, k413, n413⟩, -, X413, ⟨Lc413, hQ413, l413, y413, z413⟩, st413⟩ := X412.virtualBack hx (y := (⟨"java/lang/String", "equals", "(Ljava/lang/Object;)Z"⟩ : MethodName)) (z := (⟨"java/lang/String", "equals", "(Ljava/lang/Object;)Z"⟩ : MethodName)) hown (mvT hZ (hw _ (List.mem_of_getElem? (i := 58) rfl))) (mvT hZ (hw _ (List.mem_of_getElem? (i := 59) rfl))) (notFace_of_selects (args := #[]) (mvT hZ (hw _ (List.mem_of_getElem? (i := 61) rfl)))) (mvT hZ (hw _ (List.mem_of_getElem? (i := 61) rfl))) (mvT hZ (hw _ (List.mem_of_getElem? (i := 60) rfl))) (by decide) (backOf (W := 0) (own_eq_s1 l Z a0 hw [] s0 t1 c0 u1 kc0 kt i7 52 52 y0 y1 T386.heap n0 Z386 ⟨E_393, Fvalue_394, Fcoder_395, V_396⟩ ⟨E_405, Fvalue_406, Fcoder_407, V_408⟩ (S8.ext EX386) c9 n_s0 q0 q1) hZ (hw _ (List.mem_of_getElem? (i := 62) rfl)) (hw _ (List.mem_of_getElem? (i := 6) rfl)) (by decide) (by decide)) q413a q413c (g := (mkF m 28 #[.val (.ref t1), .val (.ref t386), .val (.int (2 : Int32)), .val (.int (0 : Int32)), .val (.ref w0)] [(.ref t1), (.ref s0)])) rfl (by rw [hml]; rfl) (Steps.refl _) (argsL := [(.ref t1)]) (rest := []) (lenOf pd__Ljava_lang_Object__Z rfl) rfl (by show 2 * 0 + _ ≤ _; exact Nat.le_of_eq rfl) (hb hby d_prog_44_method_6_code_28) (fun _ _ => ⟨rfl, e412, (by decide : 1 + 0 ≤ _), (by decide : 2 + 0 ≤ _)⟩)
  dsimp only [Pt.U, Pt.locs, Pt.cells, Pt.slots] at X413 l413 y413 z413 st413 hQ413
  subst l413 y413 z413
  obtain ⟨rfl, N413q, e413⟩ := hQ413
  have N413 := Fr.app N412 N413q
  obtain ⟨cl414, Ar414, Q414, H414⟩ := own_at V386t (j := (1 : Int32)) (v := (.ref w1)) (by decide) rfl
  obtain ⟨T415, X415, e415, st415⟩ := getF X413 hx hZ hown (host := "") (Or.inl (hw _ (List.mem_of_getElem? (i := 47) rfl))) Via.refl e413 Fr1_398 (g := (mkF m 21 #[.val (.ref t1), .val (.ref t386), .val (.int (2 : Int32)), .val (.int (1 : Int32)), .val (.ref w1)] [(.ref w1)])) rfl rfl (hb hby d_prog_44_method_6_code_21)
  obtain ⟨cq416, kq416, q416a, q416b, q416c⟩ := isOf hZ e415 Er1_399
  obtain ⟨_, _, ⟨T416, L416, k416, n416⟩, -, X416, ⟨Lc416, hQ416, l416, y416, z416⟩, st416⟩ := X415.virtualBack hx (y := (⟨"com/example/recourse/recourse/ReasonCode", "code", "()Ljava/lang/String;"⟩ : MethodName)) (z := (⟨"com/example/recourse/recourse/ReasonCode", "code", "()Ljava/lang/String;"⟩ : MethodName)) hown (mvT hZ (hw _ (List.mem_of_getElem? (i := 51) rfl))) (mvT hZ (hw _ (List.mem_of_getElem? (i := 52) rfl))) (notFace_of_selects (args := #[]) (mvT hZ (hw _ (List.mem_of_getElem? (i := 54) rfl)))) (mvT hZ (hw _ (List.mem_of_getElem? (i := 54) rfl))) (mvT hZ (hw _ (List.mem_of_getElem? (i := 53) rfl))) (by decide) (backOf (W := 0) (own_code l Z a0 hw [] r1 s1 T386.heap n0 Z386 Fc1_400) hZ (hw _ (List.mem_of_getElem? (i := 55) rfl)) (hw _ (List.mem_of_getElem? (i := 49) rfl)) (by decide) (by decide)) q416a q416c (g := (mkF m 24 #[.val (.ref t1), .val (.ref t386), .val (.int (2 : Int32)), .val (.int (1 : Int32)), .val (.ref w1)] [(.ref r1)])) rfl (by rw [hml]; rfl) (Steps.refl _) (argsL := []) (rest := []) (lenOf pd___Ljava_lang_String_ rfl) rfl (by show 2 * 0 + _ ≤ _; exact Nat.le_of_eq rfl) (hb hby d_prog_44_method_6_code_24) (fun _ _ => ⟨rfl, e415, (by decide : 1 + 0 ≤ _), (by decide : 2 + 0 ≤ _)⟩)
  dsimp only [Pt.U, Pt.locs, Pt.cells, Pt.slots] at X416 l416 y416 z416 st416 hQ416
  subst l416 y416 z416
  obtain ⟨rfl, N416q, e416⟩ := hQ416
  have N416 := Fr.app N413 N416q
  obtain ⟨cq417, kq417, q417a, q417b, q417c⟩ := isOf hZ e416 E_401
  obtain ⟨_, _, ⟨T417, L417, k417, n417⟩, -, X417, ⟨Lc417, hQ417, l417, y417, z417⟩, st417⟩ := X416.virtualBack hx (y := (⟨"java/lang/String", "equals", "(Ljava/lang/Object;)Z"⟩ : MethodName)) (z := (⟨"java/lang/String", "equals", "(Ljava/lang/Object;)Z"⟩ : MethodName)) hown (mvT hZ (hw _ (List.mem_of_getElem? (i := 58) rfl))) (mvT hZ (hw _ (List.mem_of_getElem? (i := 59) rfl))) (notFace_of_selects (args := #[]) (mvT hZ (hw _ (List.mem_of_getElem? (i := 61) rfl)))) (mvT hZ (hw _ (List.mem_of_getElem? (i := 61) rfl))) (mvT hZ (hw _ (List.mem_of_getElem? (i := 60) rfl))) (by decide) (backOf (W := 0) (own_eq_s1 l Z a0 hw [] s1 t1 c1 u1 kc1 kt i7 52 53 y0 y1 T386.heap n0 Z386 ⟨E_401, Fvalue_402, Fcoder_403, V_404⟩ ⟨E_405, Fvalue_406, Fcoder_407, V_408⟩ (S8.ext EX386) c9 n_s1 q0 q2) hZ (hw _ (List.mem_of_getElem? (i := 62) rfl)) (hw _ (List.mem_of_getElem? (i := 6) rfl)) (by decide) (by decide)) q417a q417c (g := (mkF m 28 #[.val (.ref t1), .val (.ref t386), .val (.int (2 : Int32)), .val (.int (1 : Int32)), .val (.ref w1)] [(.ref t1), (.ref s1)])) rfl (by rw [hml]; rfl) (Steps.refl _) (argsL := [(.ref t1)]) (rest := []) (lenOf pd__Ljava_lang_Object__Z rfl) rfl (by show 2 * 0 + _ ≤ _; exact Nat.le_of_eq rfl) (hb hby d_prog_44_method_6_code_28) (fun _ _ => ⟨rfl, e416, (by decide : 1 + 0 ≤ _), (by decide : 2 + 0 ≤ _)⟩)
  dsimp only [Pt.U, Pt.locs, Pt.cells, Pt.slots] at X417 l417 y417 z417 st417 hQ417
  subst l417 y417 z417
  obtain ⟨rfl, N417q, e417⟩ := hQ417
  have N417 := Fr.app N416 N417q
  obtain ⟨_, _, ⟨T418, L418, k418, n418⟩, -, X418, ⟨Lc418, hQ418, l418, y418, z418⟩, st418⟩ := Jvm.LawKit.callS X417 hx (y := (⟨"java/util/Optional", "empty", "()Ljava/util/Optional;"⟩ : MethodName)) hown (mvT hZ (hw _ (List.mem_of_getElem? (i := 70) rfl))) (mvT hZ (hw _ (List.mem_of_getElem? (i := 71) rfl))) (mvT hZ (hw _ (List.mem_of_getElem? (i := 72) rfl))) (mvT hZ (hw _ (List.mem_of_getElem? (i := 73) rfl))) (by decide) (backOf (W := 0) (own_empty l Z a0 hw [] we T386.heap n0 Z386 (Pe.ext EX386)) hZ (hw _ (List.mem_of_getElem? (i := 73) rfl)) (hw _ (List.mem_of_getElem? (i := 72) rfl)) (by decide) (by decide)) (g := (mkF m 46 #[.val (.ref t1), .val (.ref t386), .val (.int (2 : Int32)), .val (.int (2 : Int32)), .val (.ref w1)] [])) rfl (by rw [hml]; rfl) (argsL := []) (rest := []) (lenOf pd___Ljava_util_Optional_ rfl) rfl (by show 2 * 0 + _ ≤ _; exact Nat.le_of_eq rfl) (hb hby d_prog_44_method_6_code_46) (fun _ _ => ⟨rfl, e417, (by decide : 1 + 0 ≤ _), (by decide : 2 + 0 ≤ _)⟩)
  dsimp only [Pt.U, Pt.locs, Pt.cells, Pt.slots] at X418 l418 y418 z418 st418 hQ418
  subst l418 y418 z418
  obtain ⟨rfl, N418q, e418⟩ := hQ418
  have N418 := Fr.app N417 N418q
  obtain ⟨fs, hr, hrun, hended, hW, hsame⟩ := X418.leave (v := some (.ref we)) (fun h => by rw [Bd.returns] at h; cases h)
  refine ⟨_, _, pre0 _ ?_, hrun, hended, _, _, rfl, ?_, ⟨_, rfl⟩, hW, hsame.mono (by decide) (by decide)⟩
  · show Steps p.tables e below (s₁.setTop (mkF m 0 #[.val (.ref t1), .unset, .unset, .unset, .unset] [])) _
    refine st386 _ ?_
    show Steps p.tables e below (T386.setTop (mkF m 3 #[.val (.ref t1), .unset, .unset, .unset, .unset] [(.ref t386)])) _
    refine XS.astoreN X386.here hx rfl (hb hby d_prog_44_method_6_code_3) rfl rfl (l' := #[.val (.ref t1), .val (.ref t386), .unset, .unset, .unset]) rfl ?_
    show Steps p.tables e below (T386.setTop (mkF m 4 #[.val (.ref t1), .val (.ref t386), .unset, .unset, .unset] [])) _
    refine XS.aloadN X386.here hx rfl (hb hby d_prog_44_method_6_code_4) rfl rfl ?_
    show Steps p.tables e below (T386.setTop (mkF m 5 #[.val (.ref t1), .val (.ref t386), .unset, .unset, .unset] [(.ref t386)])) _
    refine X386.arraylength hx (by exact Ar409.1) (State.isArrayOf_alike hZ.alike Ar409.2.1) (g := (mkF m 5 #[.val (.ref t1), .val (.ref t386), .unset, .unset, .unset] [(.ref t386)])) rfl rfl (hb hby d_prog_44_method_6_code_5) _ ?_
    rw [len_of Sz409 Nz409]
    show Steps p.tables e below (T386.setTop (mkF m 6 #[.val (.ref t1), .val (.ref t386), .unset, .unset, .unset] [(.int (2 : Int32))])) _
    refine XS.istoreN X386.here hx rfl (hb hby d_prog_44_method_6_code_6) rfl (l' := #[.val (.ref t1), .val (.ref t386), .val (.int (2 : Int32)), .unset, .unset]) rfl ?_
    show Steps p.tables e below (T386.setTop (mkF m 7 #[.val (.ref t1), .val (.ref t386), .val (.int (2 : Int32)), .unset, .unset] [])) _
    refine XT.iconstV X386.here hx rfl (0 : Int32) (hb hby d_prog_44_method_6_code_7) rfl ?_
    show Steps p.tables e below (T386.setTop (mkF m 8 #[.val (.ref t1), .val (.ref t386), .val (.int (2 : Int32)), .unset, .unset] [(.int (0 : Int32))])) _
    refine XS.istoreN X386.here hx rfl (hb hby d_prog_44_method_6_code_8) rfl (l' := #[.val (.ref t1), .val (.ref t386), .val (.int (2 : Int32)), .val (.int (0 : Int32)), .unset]) rfl ?_
    show Steps p.tables e below (T386.setTop (mkF m 9 #[.val (.ref t1), .val (.ref t386), .val (.int (2 : Int32)), .val (.int (0 : Int32)), .unset] [])) _
    refine XS.iloadN X386.here hx rfl (hb hby d_prog_44_method_6_code_9) rfl ?_
    show Steps p.tables e below (T386.setTop (mkF m 10 #[.val (.ref t1), .val (.ref t386), .val (.int (2 : Int32)), .val (.int (0 : Int32)), .unset] [(.int (0 : Int32))])) _
    refine XS.iloadN X386.here hx rfl (hb hby d_prog_44_method_6_code_10) rfl ?_
    show Steps p.tables e below (T386.setTop (mkF m 11 #[.val (.ref t1), .val (.ref t386), .val (.int (2 : Int32)), .val (.int (0 : Int32)), .unset] [(.int (2 : Int32)), (.int (0 : Int32))])) _
    refine XS.icmpNo X386.here hx rfl (hb hby d_prog_44_method_6_code_11) rfl (by decide) ?_
    show Steps p.tables e below (T386.setTop (mkF m 14 #[.val (.ref t1), .val (.ref t386), .val (.int (2 : Int32)), .val (.int (0 : Int32)), .unset] [])) _
    refine XS.aloadN X386.here hx rfl (hb hby d_prog_44_method_6_code_14) rfl rfl ?_
    show Steps p.tables e below (T386.setTop (mkF m 15 #[.val (.ref t1), .val (.ref t386), .val (.int (2 : Int32)), .val (.int (0 : Int32)), .unset] [(.ref t386)])) _
    refine XS.iloadN X386.here hx rfl (hb hby d_prog_44_method_6_code_15) rfl ?_
    show Steps p.tables e below (T386.setTop (mkF m 16 #[.val (.ref t1), .val (.ref t386), .val (.int (2 : Int32)), .val (.int (0 : Int32)), .unset] [(.int (0 : Int32)), (.ref t386)])) _
    refine X386.aaload hx (j := (0 : Int32)) (v := (.ref w0)) (by exact Ar410.1) (State.isArrayOf_alike hZ.alike Ar410.2.1) rfl Ar410.2.2 Q410 H410 (g := (mkF m 16 #[.val (.ref t1), .val (.ref t386), .val (.int (2 : Int32)), .val (.int (0 : Int32)), .unset] [(.int (0 : Int32)), (.ref t386)])) rfl rfl (hb hby d_prog_44_method_6_code_16) _ ?_
    show Steps p.tables e below (T386.setTop (mkF m 17 #[.val (.ref t1), .val (.ref t386), .val (.int (2 : Int32)), .val (.int (0 : Int32)), .unset] [(.ref w0)])) _
    refine XS.astore X386.here hx rfl (hb hby d_prog_44_method_6_code_17) rfl rfl (l' := #[.val (.ref t1), .val (.ref t386), .val (.int (2 : Int32)), .val (.int (0 : Int32)), .val (.ref w0)]) rfl ?_
    show Steps p.tables e below (T386.setTop (mkF m 19 #[.val (.ref t1), .val (.ref t386), .val (.int (2 : Int32)), .val (.int (0 : Int32)), .val (.ref w0)] [])) _
    refine XS.aload X386.here hx rfl (hb hby d_prog_44_method_6_code_19) rfl rfl ?_
    show Steps p.tables e below (T386.setTop (mkF m 21 #[.val (.ref t1), .val (.ref t386), .val (.int (2 : Int32)), .val (.int (0 : Int32)), .val (.ref w0)] [(.ref w0)])) _
    refine st411 _ ?_
    show Steps p.tables e below (T411.setTop (mkF m 24 #[.val (.ref t1), .val (.ref t386), .val (.int (2 : Int32)), .val (.int (0 : Int32)), .val (.ref w0)] [(.ref r0)])) _
    refine st412.trans ?_
    show Steps p.tables e below (T412.setTop (mkF m 27 #[.val (.ref t1), .val (.ref t386), .val (.int (2 : Int32)), .val (.int (0 : Int32)), .val (.ref w0)] [(.ref s0)])) _
    refine XS.aloadN X412.here hx rfl (hb hby d_prog_44_method_6_code_27) rfl rfl ?_
    show Steps p.tables e below (T412.setTop (mkF m 28 #[.val (.ref t1), .val (.ref t386), .val (.int (2 : Int32)), .val (.int (0 : Int32)), .val (.ref w0)] [(.ref t1), (.ref s0)])) _
    refine st413.trans ?_
    show Steps p.tables e below (T413.setTop (mkF m 31 #[.val (.ref t1), .val (.ref t386), .val (.int (2 : Int32)), .val (.int (0 : Int32)), .val (.ref w0)] [(.int (0 : Int32))])) _
    refine XS.ifYes X413.here hx rfl (pc0 := 31) (pc' := 40) rfl (hb hby d_prog_44_method_6_code_31) rfl (by decide) (by decide) (by decide) ?_
    show Steps p.tables e below (T413.setTop (mkF m 40 #[.val (.ref t1), .val (.ref t386), .val (.int (2 : Int32)), .val (.int (0 : Int32)), .val (.ref w0)] [])) _
    refine XT.iincV X413.here hx rfl (1 : Int32) (hb hby d_prog_44_method_6_code_40) rfl rfl (l' := #[.val (.ref t1), .val (.ref t386), .val (.int (2 : Int32)), .val (.int ((0 : Int32) + (1 : Int32))), .val (.ref w0)]) rfl ?_
    rw [show ((0 : Int32) + (1 : Int32)) = (1 : Int32) from by decide]
    show Steps p.tables e below (T413.setTop (mkF m 43 #[.val (.ref t1), .val (.ref t386), .val (.int (2 : Int32)), .val (.int (1 : Int32)), .val (.ref w0)] [])) _
    refine XS.goto X413.here hx rfl (pc0 := 43) (pc' := 9) rfl (hb hby d_prog_44_method_6_code_43) (by decide) (by decide) ?_
    show Steps p.tables e below (T413.setTop (mkF m 9 #[.val (.ref t1), .val (.ref t386), .val (.int (2 : Int32)), .val (.int (1 : Int32)), .val (.ref w0)] [])) _
    refine XS.iloadN X413.here hx rfl (hb hby d_prog_44_method_6_code_9) rfl ?_
    show Steps p.tables e below (T413.setTop (mkF m 10 #[.val (.ref t1), .val (.ref t386), .val (.int (2 : Int32)), .val (.int (1 : Int32)), .val (.ref w0)] [(.int (1 : Int32))])) _
    refine XS.iloadN X413.here hx rfl (hb hby d_prog_44_method_6_code_10) rfl ?_
    show Steps p.tables e below (T413.setTop (mkF m 11 #[.val (.ref t1), .val (.ref t386), .val (.int (2 : Int32)), .val (.int (1 : Int32)), .val (.ref w0)] [(.int (2 : Int32)), (.int (1 : Int32))])) _
    refine XS.icmpNo X413.here hx rfl (hb hby d_prog_44_method_6_code_11) rfl (by decide) ?_
    show Steps p.tables e below (T413.setTop (mkF m 14 #[.val (.ref t1), .val (.ref t386), .val (.int (2 : Int32)), .val (.int (1 : Int32)), .val (.ref w0)] [])) _
    refine XS.aloadN X413.here hx rfl (hb hby d_prog_44_method_6_code_14) rfl rfl ?_
    show Steps p.tables e below (T413.setTop (mkF m 15 #[.val (.ref t1), .val (.ref t386), .val (.int (2 : Int32)), .val (.int (1 : Int32)), .val (.ref w0)] [(.ref t386)])) _
    refine XS.iloadN X413.here hx rfl (hb hby d_prog_44_method_6_code_15) rfl ?_
    show Steps p.tables e below (T413.setTop (mkF m 16 #[.val (.ref t1), .val (.ref t386), .val (.int (2 : Int32)), .val (.int (1 : Int32)), .val (.ref w0)] [(.int (1 : Int32)), (.ref t386)])) _
    refine X413.aaload hx (j := (1 : Int32)) (v := (.ref w1)) (by rw [e413]; exact Ar414.1) (State.isArrayOf_alike hZ.alike Ar414.2.1) rfl Ar414.2.2 Q414 H414 (g := (mkF m 16 #[.val (.ref t1), .val (.ref t386), .val (.int (2 : Int32)), .val (.int (1 : Int32)), .val (.ref w0)] [(.int (1 : Int32)), (.ref t386)])) rfl rfl (hb hby d_prog_44_method_6_code_16) _ ?_
    show Steps p.tables e below (T413.setTop (mkF m 17 #[.val (.ref t1), .val (.ref t386), .val (.int (2 : Int32)), .val (.int (1 : Int32)), .val (.ref w0)] [(.ref w1)])) _
    refine XS.astore X413.here hx rfl (hb hby d_prog_44_method_6_code_17) rfl rfl (l' := #[.val (.ref t1), .val (.ref t386), .val (.int (2 : Int32)), .val (.int (1 : Int32)), .val (.ref w1)]) rfl ?_
    show Steps p.tables e below (T413.setTop (mkF m 19 #[.val (.ref t1), .val (.ref t386), .val (.int (2 : Int32)), .val (.int (1 : Int32)), .val (.ref w1)] [])) _
    refine XS.aload X413.here hx rfl (hb hby d_prog_44_method_6_code_19) rfl rfl ?_
    show Steps p.tables e below (T413.setTop (mkF m 21 #[.val (.ref t1), .val (.ref t386), .val (.int (2 : Int32)), .val (.int (1 : Int32)), .val (.ref w1)] [(.ref w1)])) _
    refine st415 _ ?_
    show Steps p.tables e below (T415.setTop (mkF m 24 #[.val (.ref t1), .val (.ref t386), .val (.int (2 : Int32)), .val (.int (1 : Int32)), .val (.ref w1)] [(.ref r1)])) _
    refine st416.trans ?_
    show Steps p.tables e below (T416.setTop (mkF m 27 #[.val (.ref t1), .val (.ref t386), .val (.int (2 : Int32)), .val (.int (1 : Int32)), .val (.ref w1)] [(.ref s1)])) _
    refine XS.aloadN X416.here hx rfl (hb hby d_prog_44_method_6_code_27) rfl rfl ?_
    show Steps p.tables e below (T416.setTop (mkF m 28 #[.val (.ref t1), .val (.ref t386), .val (.int (2 : Int32)), .val (.int (1 : Int32)), .val (.ref w1)] [(.ref t1), (.ref s1)])) _
    refine st417.trans ?_
    show Steps p.tables e below (T417.setTop (mkF m 31 #[.val (.ref t1), .val (.ref t386), .val (.int (2 : Int32)), .val (.int (1 : Int32)), .val (.ref w1)] [(.int (0 : Int32))])) _
    refine XS.ifYes X417.here hx rfl (pc0 := 31) (pc' := 40) rfl (hb hby d_prog_44_method_6_code_31) rfl (by decide) (by decide) (by decide) ?_
    show Steps p.tables e below (T417.setTop (mkF m 40 #[.val (.ref t1), .val (.ref t386), .val (.int (2 : Int32)), .val (.int (1 : Int32)), .val (.ref w1)] [])) _
    refine XT.iincV X417.here hx rfl (1 : Int32) (hb hby d_prog_44_method_6_code_40) rfl rfl (l' := #[.val (.ref t1), .val (.ref t386), .val (.int (2 : Int32)), .val (.int ((1 : Int32) + (1 : Int32))), .val (.ref w1)]) rfl ?_
    rw [show ((1 : Int32) + (1 : Int32)) = (2 : Int32) from by decide]
    show Steps p.tables e below (T417.setTop (mkF m 43 #[.val (.ref t1), .val (.ref t386), .val (.int (2 : Int32)), .val (.int (2 : Int32)), .val (.ref w1)] [])) _
    refine XS.goto X417.here hx rfl (pc0 := 43) (pc' := 9) rfl (hb hby d_prog_44_method_6_code_43) (by decide) (by decide) ?_
    show Steps p.tables e below (T417.setTop (mkF m 9 #[.val (.ref t1), .val (.ref t386), .val (.int (2 : Int32)), .val (.int (2 : Int32)), .val (.ref w1)] [])) _
    refine XS.iloadN X417.here hx rfl (hb hby d_prog_44_method_6_code_9) rfl ?_
    show Steps p.tables e below (T417.setTop (mkF m 10 #[.val (.ref t1), .val (.ref t386), .val (.int (2 : Int32)), .val (.int (2 : Int32)), .val (.ref w1)] [(.int (2 : Int32))])) _
    refine XS.iloadN X417.here hx rfl (hb hby d_prog_44_method_6_code_10) rfl ?_
    show Steps p.tables e below (T417.setTop (mkF m 11 #[.val (.ref t1), .val (.ref t386), .val (.int (2 : Int32)), .val (.int (2 : Int32)), .val (.ref w1)] [(.int (2 : Int32)), (.int (2 : Int32))])) _
    refine XS.icmpYes X417.here hx rfl (pc0 := 11) (pc' := 46) rfl (hb hby d_prog_44_method_6_code_11) rfl (by decide) (by decide) (by decide) ?_
    show Steps p.tables e below (T417.setTop (mkF m 46 #[.val (.ref t1), .val (.ref t386), .val (.int (2 : Int32)), .val (.int (2 : Int32)), .val (.ref w1)] [])) _
    refine st418 _ ?_
    show Steps p.tables e below (T418.setTop (mkF m 49 #[.val (.ref t1), .val (.ref t386), .val (.int (2 : Int32)), .val (.int (2 : Int32)), .val (.ref w1)] [(.ref we)])) _
    jvm_step X418.here [X418.here.top, hx, (hb hby d_prog_44_method_6_code_49), X418.method', Bd.returns, Value.isRef, FieldType.isReference]
    first | (intro acts; rw [hr _ acts rfl rfl rfl]) | rw [hr _ _ rfl rfl rfl]
    exact Steps.refl _
  · show own_QR we h0 n0 _ T418.heap _
    rw [e418]
    exact ⟨rfl, N418, EX386⟩
theorem pd__ZI_C : parseMethodDescriptor "(ZI)C" = some ⟨[.boolean, .int], (some .char)⟩ := by decide +kernel
theorem pd__ArC_V : parseMethodDescriptor "([C)V" = some ⟨[(.array .char)], none⟩ := by decide +kernel
theorem pd__Ljava_lang_String__Ljava_util_Optional_ : parseMethodDescriptor "(Ljava/lang/String;)Ljava/util/Optional;" = some ⟨[(.object "java/lang/String")], (some (.object "java/util/Optional"))⟩ := by decide +kernel
theorem pd___Z : parseMethodDescriptor "()Z" = some ⟨[], (some .boolean)⟩ := by decide +kernel
theorem ef_code_IIII (m : MethodId) (x0 : Int32) (x1 : Int32) (x2 : Int32) (x3 : Int32) : entryFrame m #[(.int x0), (.int x1), (.int x2), (.int x3)] maxLocals = mkF m 0 #[.val (.int x0), .val (.int x1), .val (.int x2), .val (.int x3), .unset, .unset, .unset, .unset, .unset, .unset, .unset, .unset, .unset] [] := by first | (simp [entryFrame, mkF, argsToLocals, Value.category, maxLocals]; done) | rfl
set_option maxRecDepth 65536 in
set_option maxHeartbeats 40000000 in
theorem own_law_e (l : Launch) (Z : State) (a0 : Array Value) (hw : ∀ d ∈ tables_1, d.before a0 Z = true) (ws : List Jvm.Cond) (p1 p2 p3 p4 dd ch0 ch1 ch2 : Int32) (wv w0 w1 r0 r1 s0 s1 c0 c1 we : Addr) (kv kc0 kc1 : ClassId) (i7 : Int32) (h0 : Heap) (n0 : Nat) (Z0 : n0 ≤ h0.size) (P : own_P Z h0 wv w0 w1 r0 r1 s0 s1 c0 c1 we kv kc0 kc1 i7) (hEL : EW Z a0 [("java/lang/String", 7)]) (hr0 : own_dr dd p2 ch0) (hr1 : own_dr dd p3 ch1) (hr2 : own_dr dd p4 ch2) (hdd : (dd = (1 : Int32) ∧ ¬ ((XT.ushr p1 (2 : Int32)) &&& (1 : Int32)) = (0 : Int32)) ∨ (dd = (0 : Int32) ∧ ((XT.ushr p1 (2 : Int32)) &&& (1 : Int32)) = (0 : Int32))) (hk : (p1 &&& (3 : Int32)) = (0 : Int32))  :
    MetFree l x (head1 (Jvm.Cond.code x code maxLocals ret :: ws) room_1) (fun a U => a = #[(.int p1), (.int p2), (.int p3), (.int p4)] ∧ Z.Warmed39 U.vm ∧ U.heap = h0 ∧ CHv Z [("java/lang/String", 7)] U.vm h0) (fun _ _ _ _ _ => True) (fun _ U o U' => ∃ v L, o = .returned v ∧ own_Q0 n0 v U'.heap L ∧ ReturnedEndW U o U' L room_1.cells room_1.slots) := by
  refine MetFree.of_bodySF (plainFor_of_name pn_com_example_recourse_recourse_WriteOffActorRecordedAsPinLaw) hisR ?_
  intro p e s m args below meth c s₁ Bd hml0 hP hK
  obtain ⟨rfl, hZ, hh, hCH⟩ := hP
  have hx := Bd.exec
  have hby := Bd.bytes
  have hml : c.maxLocals = 13 := hml0
  have hown : s.vm.findClass "com/example/recourse/recourse/WriteOffActorRecordedAsPinLaw" = some m.cls := findClass_of_methodNamed Bd.named
  have hnm := (name_of_methodNamed Bd.named Bd.method).1
  have X0 : Stand p l e room_1 s m #[(.int p1), (.int p2), (.int p3), (.int p4)] below meth c s₁ [] 0 0 := Stand.of_body Bd
  have e0 : s₁.heap = h0 := by rw [← hh, Bd.state]; rfl
  have N0 := Fr.nil n0
  have pre0 : ∀ t, Steps p.tables e below (s₁.setTop (mkF m 0 #[.val (.int p1), .val (.int p2), .val (.int p3), .val (.int p4), .unset, .unset, .unset, .unset, .unset, .unset, .unset, .unset, .unset] [])) t → Steps p.tables e below (s₁.setTop (entryFrame m #[(.int p1), (.int p2), (.int p3), (.int p4)] maxLocals)) t := fun t k => castTop (ef_code_IIII m p1 p2 p3 p4) k
  obtain ⟨Pv, Ev, Av, Pw0, Pw1, Ew0, Ew1, Fr0, Fr1, Er0, Er1, Fc0, Fc1, Q0, Q1, Pe, Ee, Fe, S8, c9⟩ := id P
  have pre1 : ∀ t, Steps p.tables e below (s₁.setTop (mkF m 10 #[.val (.int p1), .val (.int p2), .val (.int p3), .val (.int p4), .val (.int (0 : Int32)), .unset, .unset, .unset, .unset, .unset, .unset, .unset, .unset] [(.int ((XT.ushr p1 (2 : Int32)) &&& (1 : Int32)))])) t → Steps p.tables e below (s₁.setTop (mkF m 0 #[.val (.int p1), .val (.int p2), .val (.int p3), .val (.int p4), .unset, .unset, .unset, .unset, .unset, .unset, .unset, .unset, .unset] [])) t := by
    intro t kk
    show Steps p.tables e below (s₁.setTop (mkF m 0 #[.val (.int p1), .val (.int p2), .val (.int p3), .val (.int p4), .unset, .unset, .unset, .unset, .unset, .unset, .unset, .unset, .unset] [])) _
    refine XS.iloadN X0.here hx rfl (hb hby at_0) rfl ?_
    show Steps p.tables e below (s₁.setTop (mkF m 1 #[.val (.int p1), .val (.int p2), .val (.int p3), .val (.int p4), .unset, .unset, .unset, .unset, .unset, .unset, .unset, .unset, .unset] [(.int p1)])) _
    refine XT.iconstV X0.here hx rfl (3 : Int32) (hb hby at_1) rfl ?_
    show Steps p.tables e below (s₁.setTop (mkF m 2 #[.val (.int p1), .val (.int p2), .val (.int p3), .val (.int p4), .unset, .unset, .unset, .unset, .unset, .unset, .unset, .unset, .unset] [(.int (3 : Int32)), (.int p1)])) _
    refine XS.iand X0.here hx rfl (hb hby at_2) rfl ?_
    show Steps p.tables e below (s₁.setTop (mkF m 3 #[.val (.int p1), .val (.int p2), .val (.int p3), .val (.int p4), .unset, .unset, .unset, .unset, .unset, .unset, .unset, .unset, .unset] [(.int (p1 &&& (3 : Int32)))])) _
    rw [hk]
    show Steps p.tables e below (s₁.setTop (mkF m 3 #[.val (.int p1), .val (.int p2), .val (.int p3), .val (.int p4), .unset, .unset, .unset, .unset, .unset, .unset, .unset, .unset, .unset] [(.int (0 : Int32))])) _
    refine XS.istore X0.here hx rfl (hb hby at_3) rfl (l' := #[.val (.int p1), .val (.int p2), .val (.int p3), .val (.int p4), .val (.int (0 : Int32)), .unset, .unset, .unset, .unset, .unset, .unset, .unset, .unset]) rfl ?_
    show Steps p.tables e below (s₁.setTop (mkF m 5 #[.val (.int p1), .val (.int p2), .val (.int p3), .val (.int p4), .val (.int (0 : Int32)), .unset, .unset, .unset, .unset, .unset, .unset, .unset, .unset] [])) _
    refine XS.iloadN X0.here hx rfl (hb hby at_5) rfl ?_
    show Steps p.tables e below (s₁.setTop (mkF m 6 #[.val (.int p1), .val (.int p2), .val (.int p3), .val (.int p4), .val (.int (0 : Int32)), .unset, .unset, .unset, .unset, .unset, .unset, .unset, .unset] [(.int p1)])) _
    refine XT.iconstV X0.here hx rfl (2 : Int32) (hb hby at_6) rfl ?_
    show Steps p.tables e below (s₁.setTop (mkF m 7 #[.val (.int p1), .val (.int p2), .val (.int p3), .val (.int p4), .val (.int (0 : Int32)), .unset, .unset, .unset, .unset, .unset, .unset, .unset, .unset] [(.int (2 : Int32)), (.int p1)])) _
    refine XT.iushr X0.here hx rfl (hb hby at_7) rfl ?_
    show Steps p.tables e below (s₁.setTop (mkF m 8 #[.val (.int p1), .val (.int p2), .val (.int p3), .val (.int p4), .val (.int (0 : Int32)), .unset, .unset, .unset, .unset, .unset, .unset, .unset, .unset] [(.int (XT.ushr p1 (2 : Int32)))])) _
    refine XT.iconstV X0.here hx rfl (1 : Int32) (hb hby at_8) rfl ?_
    show Steps p.tables e below (s₁.setTop (mkF m 9 #[.val (.int p1), .val (.int p2), .val (.int p3), .val (.int p4), .val (.int (0 : Int32)), .unset, .unset, .unset, .unset, .unset, .unset, .unset, .unset] [(.int (1 : Int32)), (.int (XT.ushr p1 (2 : Int32)))])) _
    refine XS.iand X0.here hx rfl (hb hby at_9) rfl ?_
    show Steps p.tables e below (s₁.setTop (mkF m 10 #[.val (.int p1), .val (.int p2), .val (.int p3), .val (.int p4), .val (.int (0 : Int32)), .unset, .unset, .unset, .unset, .unset, .unset, .unset, .unset] [(.int ((XT.ushr p1 (2 : Int32)) &&& (1 : Int32)))])) _
    exact kk
  have thru : ∀ t, Steps p.tables e below (s₁.setTop (mkF m 18 #[.val (.int p1), .val (.int p2), .val (.int p3), .val (.int p4), .val (.int (0 : Int32)), .unset, .unset, .unset, .unset, .unset, .unset, .unset, .unset] [(.int dd)])) t → Steps p.tables e below (s₁.setTop (mkF m 10 #[.val (.int p1), .val (.int p2), .val (.int p3), .val (.int p4), .val (.int (0 : Int32)), .unset, .unset, .unset, .unset, .unset, .unset, .unset, .unset] [(.int ((XT.ushr p1 (2 : Int32)) &&& (1 : Int32)))])) t := by
    intro t kk
    rcases hdd with ⟨rfl, hq⟩ | ⟨rfl, hq⟩
    · show Steps p.tables e below (s₁.setTop (mkF m 10 #[.val (.int p1), .val (.int p2), .val (.int p3), .val (.int p4), .val (.int (0 : Int32)), .unset, .unset, .unset, .unset, .unset, .unset, .unset, .unset] [(.int ((XT.ushr p1 (2 : Int32)) &&& (1 : Int32)))])) _
      refine XS.ifNo X0.here hx rfl (hb hby at_10) rfl (XT.i0_eq_f hq) ?_
      show Steps p.tables e below (s₁.setTop (mkF m 13 #[.val (.int p1), .val (.int p2), .val (.int p3), .val (.int p4), .val (.int (0 : Int32)), .unset, .unset, .unset, .unset, .unset, .unset, .unset, .unset] [])) _
      refine XT.iconstV X0.here hx rfl (1 : Int32) (hb hby at_13) rfl ?_
      show Steps p.tables e below (s₁.setTop (mkF m 14 #[.val (.int p1), .val (.int p2), .val (.int p3), .val (.int p4), .val (.int (0 : Int32)), .unset, .unset, .unset, .unset, .unset, .unset, .unset, .unset] [(.int (1 : Int32))])) _
      refine XS.goto X0.here hx rfl (pc0 := 14) (pc' := 18) rfl (hb hby at_14) (by decide) (by decide) ?_
      show Steps p.tables e below (s₁.setTop (mkF m 18 #[.val (.int p1), .val (.int p2), .val (.int p3), .val (.int p4), .val (.int (0 : Int32)), .unset, .unset, .unset, .unset, .unset, .unset, .unset, .unset] [(.int (1 : Int32))])) _
      exact kk
    · show Steps p.tables e below (s₁.setTop (mkF m 10 #[.val (.int p1), .val (.int p2), .val (.int p3), .val (.int p4), .val (.int (0 : Int32)), .unset, .unset, .unset, .unset, .unset, .unset, .unset, .unset] [(.int ((XT.ushr p1 (2 : Int32)) &&& (1 : Int32)))])) _
      refine XS.ifYes X0.here hx rfl (pc0 := 10) (pc' := 17) rfl (hb hby at_10) rfl (XT.i0_eq_t hq) (by decide) (by decide) ?_
      show Steps p.tables e below (s₁.setTop (mkF m 17 #[.val (.int p1), .val (.int p2), .val (.int p3), .val (.int p4), .val (.int (0 : Int32)), .unset, .unset, .unset, .unset, .unset, .unset, .unset, .unset] [])) _
      refine XT.iconstV X0.here hx rfl (0 : Int32) (hb hby at_17) rfl ?_
      show Steps p.tables e below (s₁.setTop (mkF m 18 #[.val (.int p1), .val (.int p2), .val (.int p3), .val (.int p4), .val (.int (0 : Int32)), .unset, .unset, .unset, .unset, .unset, .unset, .unset, .unset] [(.int (0 : Int32))])) _
      exact kk
  obtain ⟨_, _, ⟨T419, L419, k419, n419⟩, -, X419, ⟨Lc419, hQ419, l419, y419, z419⟩, st419⟩ := Jvm.LawKit.callS X0 hx (y := (⟨"com/example/recourse/recourse/WriteOffActorRecordedAsPinLaw", "draw", "(ZI)C"⟩ : MethodName)) hown (mvT hZ (hw _ (List.mem_of_getElem? (i := 0) rfl))) (mvT hZ (hw _ (List.mem_of_getElem? (i := 1) rfl))) (mvT hZ (hw _ (List.mem_of_getElem? (i := 2) rfl))) (mvT hZ (hw _ (List.mem_of_getElem? (i := 3) rfl))) (by decide) (backOf (W := 0) (own_draw l Z a0 hw [] dd p2 ch0 h0 n0 Z0 hr0) hZ (hw _ (List.mem_of_getElem? (i := 3) rfl)) (hw _ (List.mem_of_getElem? (i := 2) rfl)) (by decide) (by decide)) (g := (mkF m 23 #[.val (.int p1), .val (.int p2), .val (.int p3), .val (.int p4), .val (.int (0 : Int32)), .val (.int dd), .unset, .unset, .unset, .unset, .unset, .unset, .unset] [(.int p2), (.int dd)])) rfl (by rw [hml]; rfl) (argsL := [(.int dd), (.int p2)]) (rest := []) (lenOf pd__ZI_C rfl) rfl (by show 2 * 0 + _ ≤ _; exact Nat.le_of_eq rfl) (hb hby at_23) (fun _ _ => ⟨rfl, e0, (by decide : 0 + 0 ≤ _), (by decide : 0 + 0 ≤ _)⟩)
  dsimp only [Pt.U, Pt.locs, Pt.cells, Pt.slots] at X419 l419 y419 z419 st419 hQ419
  subst l419 y419 z419
  obtain ⟨rfl, N419q, e419⟩ := hQ419
  have N419 := Fr.app N0 N419q
  obtain ⟨_, _, ⟨T420, L420, k420, n420⟩, -, X420, ⟨Lc420, hQ420, l420, y420, z420⟩, st420⟩ := Jvm.LawKit.callS X419 hx (y := (⟨"com/example/recourse/recourse/WriteOffActorRecordedAsPinLaw", "draw", "(ZI)C"⟩ : MethodName)) hown (mvT hZ (hw _ (List.mem_of_getElem? (i := 0) rfl))) (mvT hZ (hw _ (List.mem_of_getElem? (i := 1) rfl))) (mvT hZ (hw _ (List.mem_of_getElem? (i := 2) rfl))) (mvT hZ (hw _ (List.mem_of_getElem? (i := 3) rfl))) (by decide) (backOf (W := 0) (own_draw l Z a0 hw [] dd p3 ch1 h0 n0 Z0 hr1) hZ (hw _ (List.mem_of_getElem? (i := 3) rfl)) (hw _ (List.mem_of_getElem? (i := 2) rfl)) (by decide) (by decide)) (g := (mkF m 31 #[.val (.int p1), .val (.int p2), .val (.int p3), .val (.int p4), .val (.int (0 : Int32)), .val (.int dd), .val (.int ch0), .unset, .unset, .unset, .unset, .unset, .unset] [(.int p3), (.int dd)])) rfl (by rw [hml]; rfl) (argsL := [(.int dd), (.int p3)]) (rest := []) (lenOf pd__ZI_C rfl) rfl (by show 2 * 0 + _ ≤ _; exact Nat.le_of_eq rfl) (hb hby at_31) (fun _ _ => ⟨rfl, e419, (by decide : 0 + 0 ≤ _), (by decide : 0 + 0 ≤ _)⟩)
  dsimp only [Pt.U, Pt.locs, Pt.cells, Pt.slots] at X420 l420 y420 z420 st420 hQ420
  subst l420 y420 z420
  obtain ⟨rfl, N420q, e420⟩ := hQ420
  have N420 := Fr.app N419 N420q
  obtain ⟨_, _, ⟨T421, L421, k421, n421⟩, -, X421, ⟨Lc421, hQ421, l421, y421, z421⟩, st421⟩ := Jvm.LawKit.callS X420 hx (y := (⟨"com/example/recourse/recourse/WriteOffActorRecordedAsPinLaw", "draw", "(ZI)C"⟩ : MethodName)) hown (mvT hZ (hw _ (List.mem_of_getElem? (i := 0) rfl))) (mvT hZ (hw _ (List.mem_of_getElem? (i := 1) rfl))) (mvT hZ (hw _ (List.mem_of_getElem? (i := 2) rfl))) (mvT hZ (hw _ (List.mem_of_getElem? (i := 3) rfl))) (by decide) (backOf (W := 0) (own_draw l Z a0 hw [] dd p4 ch2 h0 n0 Z0 hr2) hZ (hw _ (List.mem_of_getElem? (i := 3) rfl)) (hw _ (List.mem_of_getElem? (i := 2) rfl)) (by decide) (by decide)) (g := (mkF m 39 #[.val (.int p1), .val (.int p2), .val (.int p3), .val (.int p4), .val (.int (0 : Int32)), .val (.int dd), .val (.int ch0), .val (.int ch1), .unset, .unset, .unset, .unset, .unset] [(.int p4), (.int dd)])) rfl (by rw [hml]; rfl) (argsL := [(.int dd), (.int p4)]) (rest := []) (lenOf pd__ZI_C rfl) rfl (by show 2 * 0 + _ ≤ _; exact Nat.le_of_eq rfl) (hb hby at_39) (fun _ _ => ⟨rfl, e420, (by decide : 0 + 0 ≤ _), (by decide : 0 + 0 ≤ _)⟩)
  dsimp only [Pt.U, Pt.locs, Pt.cells, Pt.slots] at X421 l421 y421 z421 st421 hQ421
  subst l421 y421 z421
  obtain ⟨rfl, N421q, e421⟩ := hQ421
  have N421 := Fr.app N420 N421q
  obtain ⟨T422, h422, X422, e422, E422, A422, D422, -, st422⟩ := newO X421 hx hZ hown (hw _ (List.mem_of_getElem? (i := 4) rfl)) (hw _ (List.mem_of_getElem? (i := 5) rfl)) (hw _ (List.mem_of_getElem? (i := 6) rfl)) e421 (g := (mkF m 49 #[.val (.int p1), .val (.int p2), .val (.int p3), .val (.int p4), .val (.int (0 : Int32)), .val (.int dd), .val (.int ch0), .val (.int ch1), .val (.int ch2), .unset, .unset, .unset, .unset] [])) rfl (hb hby at_49) (by decide) (by decide)
  obtain ⟨b422, g422⟩ : ∃ z, z = h0.size := ⟨_, rfl⟩
  rw [← g422] at A422 D422 st422
  have q422 : h0.size ≤ b422 := by rw [g422]; exact Nat.le_refl _
  have Sn422 : Safe Z [("java/lang/String", 7)] s.vm h0 b422 := Safe.new (Nat.le_of_eq g422.symm)
  have hCR422 : CHr Z [("java/lang/String", 7)] s.vm h0 s.vm h422 := CHr.ext E422 hCH
  have Sf422_b422 := Safe.ext E422 hCH Sn422
  have EX422 : Ext h0 h422 := E422
  have Z422 : n0 ≤ h422.size := Nat.le_trans Z0 EX422.1
  have Fvalue_423 : Fld Z h422 b422 "java/lang/String" "value" "[B" .null := D422 (Or.inr (hw _ (List.mem_of_getElem? (i := 20) rfl))) (ty := (.array .byte)) (by decide)
  have Fcoder_424 : Fld Z h422 b422 "java/lang/String" "coder" "B" (.int (0 : Int32)) := D422 (Or.inr (hw _ (List.mem_of_getElem? (i := 21) rfl))) (ty := .byte) (by decide)
  obtain ⟨T425, h425, k425, X425, e425, E425, A425, st425⟩ := newP X422 hx hZ (hw _ (List.mem_of_getElem? (i := 7) rfl)) e422 (g := (mkF m 54 #[.val (.int p1), .val (.int p2), .val (.int p3), .val (.int p4), .val (.int (0 : Int32)), .val (.int dd), .val (.int ch0), .val (.int ch1), .val (.int ch2), .unset, .unset, .unset, .unset] [(.int (0 : Int32)), (.ref b422), (.ref b422)])) rfl (hb hby at_54) rfl (by decide) (cap := 0) (by decide) (by decide) (by decide) (by decide)
  obtain ⟨b425, g425⟩ : ∃ z, z = h422.size := ⟨_, rfl⟩
  rw [← g425] at A425 st425
  have V425 : Arv Z h425 b425 k425 .char (0 : Int32) (List.replicate 0 (.int (0 : Int32))) (.int (0 : Int32)) := (Arv.new A425 (by decide)).pad (fun i => pad_rep [] (.int (0 : Int32)) 0 i)
  have q425 : h0.size ≤ b425 := by rw [g425]; exact EX422.1
  have ne_b422_b425 : b422 ≠ b425 := by rw [g425]; exact Nat.ne_of_lt A422.lt
  have Sn425 : Safe Z [("java/lang/String", 7)] s.vm h422 b425 := Safe.new (Nat.le_of_eq g425.symm)
  have hCR425 : CHr Z [("java/lang/String", 7)] s.vm h422 s.vm h425 := CHr.ext E425 hCR422.1
  have Sf425_b422 := Safe.ext E425 hCR422.1 Sf422_b422
  have Sf425_b425 := Safe.ext E425 hCR422.1 Sn425
  have hCA425 := hCR422.trans hCR425
  have A422_426 := A422.ext E425
  have Fvalue_427 := Fvalue_423.ext E425
  have Fcoder_428 := Fcoder_424.ext E425
  have EX425 : Ext h0 h425 := own_ext_trans EX422 E425
  have Z425 : n0 ≤ h425.size := Nat.le_trans Z0 EX425.1
  obtain ⟨_, _, ⟨T429, L429, k429, n429⟩, -, X429, hSb429, gb429, ⟨Lc429, hQ429, l429, y429, z429, hCR429⟩, st429⟩ := X425.specialBackS hx (y := (⟨"java/lang/String", "<init>", "([C)V"⟩ : MethodName)) rfl hown (mvT hZ (hw _ (List.mem_of_getElem? (i := 8) rfl))) (mvT hZ (hw _ (List.mem_of_getElem? (i := 9) rfl))) (mvT hZ (hw _ (List.mem_of_getElem? (i := 10) rfl))) (by decide) (backOfSH (s := s) (vm0 := s.vm) (W := 1) (own_initE l Z a0 hw [] b422 b425 k425 h425 n0 Z425 A422_426 Fvalue_427 Fcoder_428 V425 (Nat.le_trans Z0 q422) hEL) hZ (hw _ (List.mem_of_getElem? (i := 10) rfl)) (hw _ (List.mem_of_getElem? (i := 6) rfl)) (by decide) (by decide) hEL hCR425.1) (g := (mkF m 56 #[.val (.int p1), .val (.int p2), .val (.int p3), .val (.int p4), .val (.int (0 : Int32)), .val (.int dd), .val (.int ch0), .val (.int ch1), .val (.int ch2), .unset, .unset, .unset, .unset] [(.ref b425), (.ref b422), (.ref b422)])) rfl (by rw [hml]; rfl) (Steps.refl _) (a := b422) (argsL := [(.ref b425)]) (rest := [(.ref b422)]) (lenOf pd__ArC_V rfl) rfl (by show 2 * 0 + _ ≤ _; exact Nat.le_of_eq rfl) (hb hby at_56) (fun _ _ => ⟨rfl, e425, (by decide : 2 + 4 ≤ _), (by decide : 4 + 8 ≤ _)⟩)
  dsimp only [Pt.U, Pt.locs, Pt.cells, Pt.slots] at X429 hSb429 gb429 l429 y429 z429 st429 hQ429 hCR429
  subst l429 y429 z429
  have hCA429 := hCA425.trans hCR429
  obtain ⟨X429r, hS429, hZ429, hown429⟩ := rebS (s := s) (vm0 := s.vm) ((State.WarmedH.refl s).since 0) (Nat.le_trans (Nat.zero_le _) (Nat.le_of_eq (congrArg Array.size e425.symm))) X429 hSb429 gb429 hZ hown
  obtain ⟨rfl, N429q, K429q, u429, ku429, nu429, B429q⟩ := hQ429
  have N429 := Fr.app N421 N429q
  have A422_430 := A422_426.keep K429q
  have V425_431 := V425.keep K429q (ninS (Ne.symm ne_b422_b425) nin0)
  have EX429 : Ext h0 T429.heap := own_ext_keep EX425 K429q (allS q422 all0)
  have Z429 : n0 ≤ T429.heap.size := Nat.le_trans Z0 EX429.1
  obtain ⟨E_432, Fvalue_433, Fcoder_434, V_435⟩ := id B429q
  have PT436 : own_St Z T429.heap b422 u429 ku429 (0 : Int32) ([] : List Int32) := ⟨E_432, Fvalue_433, Fcoder_434, V_435⟩
  have ns0 : s0 ≠ b422 := Nat.ne_of_lt (Nat.lt_of_lt_of_le (own_P_lt P).1 q422)
  have ns1 : s1 ≠ b422 := Nat.ne_of_lt (Nat.lt_of_lt_of_le (own_P_lt P).2 q422)
  obtain ⟨_, _, ⟨T437, L437, k437, n437⟩, -, X437, ⟨Lc437, hQ437, l437, y437, z437⟩, st437⟩ := Jvm.LawKit.callS X429r hx (y := (⟨"com/example/recourse/recourse/WriteOffActor", "recordedAs", "(Ljava/lang/String;)Ljava/util/Optional;"⟩ : MethodName)) hown429 (mvT hZ429 (hw _ (List.mem_of_getElem? (i := 26) rfl))) (mvT hZ429 (hw _ (List.mem_of_getElem? (i := 27) rfl))) (mvT hZ429 (hw _ (List.mem_of_getElem? (i := 28) rfl))) (mvT hZ429 (hw _ (List.mem_of_getElem? (i := 29) rfl))) (by decide) (backOf (W := 0) (own_rec_ne l Z a0 hw [] wv w0 w1 r0 r1 s0 s1 c0 c1 we kv kc0 kc1 i7 b422 u429 ku429 (0 : Int32) ([] : List Int32) T429.heap n0 Z429 (own_P_ext P EX429) PT436 ns0 ns1 (by decide)) hZ429 (hw _ (List.mem_of_getElem? (i := 29) rfl)) (hw _ (List.mem_of_getElem? (i := 28) rfl)) (by decide) (by decide)) (g := (mkF m 189 #[.val (.int p1), .val (.int p2), .val (.int p3), .val (.int p4), .val (.int (0 : Int32)), .val (.int dd), .val (.int ch0), .val (.int ch1), .val (.int ch2), .val (.ref b422), .val (.int (0 : Int32)), .unset, .unset] [(.ref b422)])) rfl (by rw [hml]; rfl) (argsL := [(.ref b422)]) (rest := []) (lenOf pd__Ljava_lang_String__Ljava_util_Optional_ rfl) rfl (by show 2 * 0 + _ ≤ _; exact Nat.le_of_eq rfl) (hb hby at_189) (fun _ _ => ⟨rfl, rfl, (by decide : 6 + 1 ≤ _), (by decide : 12 + 2 ≤ _)⟩)
  dsimp only [Pt.U, Pt.locs, Pt.cells, Pt.slots] at X437 l437 y437 z437 st437 hQ437
  subst l437 y437 z437
  obtain ⟨rfl, N437q, EE437⟩ := hQ437
  have N437 := Fr.app N429 N437q
  have E_438 := E_432.ext EE437
  have V425_439 := V425_431.ext EE437
  have Fvalue_440 := Fvalue_433.ext EE437
  have Fcoder_441 := Fcoder_434.ext EE437
  have V_442 := V_435.ext EE437
  have EX437 : Ext h0 T437.heap := own_ext_trans EX429 EE437
  have Z437 : n0 ≤ T437.heap.size := Nat.le_trans Z0 EX437.1
  have hk437 := Nat.le_trans (Nat.le_refl _) (EE437).1
  obtain ⟨cq443, kq443, q443a, q443b, q443c⟩ := isOf hZ429 rfl (Ee.ext EX437)
  obtain ⟨_, _, ⟨T443, L443, k443, n443⟩, -, X443, ⟨Lc443, hQ443, l443, y443, z443⟩, st443⟩ := X437.virtualBack hx (y := (⟨"java/util/Optional", "isPresent", "()Z"⟩ : MethodName)) (z := (⟨"java/util/Optional", "isPresent", "()Z"⟩ : MethodName)) hown429 (mvT hZ429 (hw _ (List.mem_of_getElem? (i := 75) rfl))) (mvT hZ429 (hw _ (List.mem_of_getElem? (i := 76) rfl))) (notFace_of_selects (args := #[]) (mvT hZ429 (hw _ (List.mem_of_getElem? (i := 78) rfl)))) (mvT hZ429 (hw _ (List.mem_of_getElem? (i := 78) rfl))) (mvT hZ429 (hw _ (List.mem_of_getElem? (i := 77) rfl))) (by decide) (backOf (W := 0) (own_pres_e l Z a0 hw [] we T437.heap n0 Z437 (Fe.ext EX437)) hZ429 (hw _ (List.mem_of_getElem? (i := 79) rfl)) (hw _ (List.mem_of_getElem? (i := 72) rfl)) (by decide) (by decide)) q443a q443c (g := (mkF m 201 #[.val (.int p1), .val (.int p2), .val (.int p3), .val (.int p4), .val (.int (0 : Int32)), .val (.int dd), .val (.int ch0), .val (.int ch1), .val (.int ch2), .val (.ref b422), .val (.int (0 : Int32)), .val (.ref we), .unset] [(.ref we)])) rfl (by rw [hml]; rfl) (Steps.refl _) (argsL := []) (rest := []) (lenOf pd___Z rfl) rfl (by show 2 * 0 + _ ≤ _; exact Nat.le_of_eq rfl) (hb hby at_201) (fun _ _ => ⟨rfl, rfl, (by decide : 7 + 0 ≤ _), (by decide : 14 + 0 ≤ _)⟩)
  dsimp only [Pt.U, Pt.locs, Pt.cells, Pt.slots] at X443 l443 y443 z443 st443 hQ443
  subst l443 y443 z443
  obtain ⟨rfl, N443q, e443⟩ := hQ443
  have N443 := Fr.app N437 N443q
  obtain ⟨fs, hr, hrun, hended, hRE⟩ := Jvm.Stand.leaveW (s := s) (vm₁ := T429.vm) X443 hS429 (Nat.le_trans hk437 (Nat.le_of_eq (congrArg Array.size e443.symm))) (v := some (.int (1 : Int32))) (fun h => by rw [Bd.returns] at h; cases h)
  refine ⟨_, _, pre0 _ (pre1 _ (thru _ ?_)), hrun, hended, _, _, rfl, ?_, ⟨_, rfl⟩, hRE.2.1, hRE.2.2.1, hRE.2.2.2.mono (by decide) (by decide)⟩
  · show Steps p.tables e below (s₁.setTop (mkF m 18 #[.val (.int p1), .val (.int p2), .val (.int p3), .val (.int p4), .val (.int (0 : Int32)), .unset, .unset, .unset, .unset, .unset, .unset, .unset, .unset] [(.int dd)])) _
    refine XS.istore X0.here hx rfl (hb hby at_18) rfl (l' := #[.val (.int p1), .val (.int p2), .val (.int p3), .val (.int p4), .val (.int (0 : Int32)), .val (.int dd), .unset, .unset, .unset, .unset, .unset, .unset, .unset]) rfl ?_
    show Steps p.tables e below (s₁.setTop (mkF m 20 #[.val (.int p1), .val (.int p2), .val (.int p3), .val (.int p4), .val (.int (0 : Int32)), .val (.int dd), .unset, .unset, .unset, .unset, .unset, .unset, .unset] [])) _
    refine XS.iload X0.here hx rfl (hb hby at_20) rfl ?_
    show Steps p.tables e below (s₁.setTop (mkF m 22 #[.val (.int p1), .val (.int p2), .val (.int p3), .val (.int p4), .val (.int (0 : Int32)), .val (.int dd), .unset, .unset, .unset, .unset, .unset, .unset, .unset] [(.int dd)])) _
    refine XS.iloadN X0.here hx rfl (hb hby at_22) rfl ?_
    show Steps p.tables e below (s₁.setTop (mkF m 23 #[.val (.int p1), .val (.int p2), .val (.int p3), .val (.int p4), .val (.int (0 : Int32)), .val (.int dd), .unset, .unset, .unset, .unset, .unset, .unset, .unset] [(.int p2), (.int dd)])) _
    refine st419 _ ?_
    show Steps p.tables e below (T419.setTop (mkF m 26 #[.val (.int p1), .val (.int p2), .val (.int p3), .val (.int p4), .val (.int (0 : Int32)), .val (.int dd), .unset, .unset, .unset, .unset, .unset, .unset, .unset] [(.int ch0)])) _
    refine XS.istore X419.here hx rfl (hb hby at_26) rfl (l' := #[.val (.int p1), .val (.int p2), .val (.int p3), .val (.int p4), .val (.int (0 : Int32)), .val (.int dd), .val (.int ch0), .unset, .unset, .unset, .unset, .unset, .unset]) rfl ?_
    show Steps p.tables e below (T419.setTop (mkF m 28 #[.val (.int p1), .val (.int p2), .val (.int p3), .val (.int p4), .val (.int (0 : Int32)), .val (.int dd), .val (.int ch0), .unset, .unset, .unset, .unset, .unset, .unset] [])) _
    refine XS.iload X419.here hx rfl (hb hby at_28) rfl ?_
    show Steps p.tables e below (T419.setTop (mkF m 30 #[.val (.int p1), .val (.int p2), .val (.int p3), .val (.int p4), .val (.int (0 : Int32)), .val (.int dd), .val (.int ch0), .unset, .unset, .unset, .unset, .unset, .unset] [(.int dd)])) _
    refine XS.iloadN X419.here hx rfl (hb hby at_30) rfl ?_
    show Steps p.tables e below (T419.setTop (mkF m 31 #[.val (.int p1), .val (.int p2), .val (.int p3), .val (.int p4), .val (.int (0 : Int32)), .val (.int dd), .val (.int ch0), .unset, .unset, .unset, .unset, .unset, .unset] [(.int p3), (.int dd)])) _
    refine st420 _ ?_
    show Steps p.tables e below (T420.setTop (mkF m 34 #[.val (.int p1), .val (.int p2), .val (.int p3), .val (.int p4), .val (.int (0 : Int32)), .val (.int dd), .val (.int ch0), .unset, .unset, .unset, .unset, .unset, .unset] [(.int ch1)])) _
    refine XS.istore X420.here hx rfl (hb hby at_34) rfl (l' := #[.val (.int p1), .val (.int p2), .val (.int p3), .val (.int p4), .val (.int (0 : Int32)), .val (.int dd), .val (.int ch0), .val (.int ch1), .unset, .unset, .unset, .unset, .unset]) rfl ?_
    show Steps p.tables e below (T420.setTop (mkF m 36 #[.val (.int p1), .val (.int p2), .val (.int p3), .val (.int p4), .val (.int (0 : Int32)), .val (.int dd), .val (.int ch0), .val (.int ch1), .unset, .unset, .unset, .unset, .unset] [])) _
    refine XS.iload X420.here hx rfl (hb hby at_36) rfl ?_
    show Steps p.tables e below (T420.setTop (mkF m 38 #[.val (.int p1), .val (.int p2), .val (.int p3), .val (.int p4), .val (.int (0 : Int32)), .val (.int dd), .val (.int ch0), .val (.int ch1), .unset, .unset, .unset, .unset, .unset] [(.int dd)])) _
    refine XS.iloadN X420.here hx rfl (hb hby at_38) rfl ?_
    show Steps p.tables e below (T420.setTop (mkF m 39 #[.val (.int p1), .val (.int p2), .val (.int p3), .val (.int p4), .val (.int (0 : Int32)), .val (.int dd), .val (.int ch0), .val (.int ch1), .unset, .unset, .unset, .unset, .unset] [(.int p4), (.int dd)])) _
    refine st421 _ ?_
    show Steps p.tables e below (T421.setTop (mkF m 42 #[.val (.int p1), .val (.int p2), .val (.int p3), .val (.int p4), .val (.int (0 : Int32)), .val (.int dd), .val (.int ch0), .val (.int ch1), .unset, .unset, .unset, .unset, .unset] [(.int ch2)])) _
    refine XS.istore X421.here hx rfl (hb hby at_42) rfl (l' := #[.val (.int p1), .val (.int p2), .val (.int p3), .val (.int p4), .val (.int (0 : Int32)), .val (.int dd), .val (.int ch0), .val (.int ch1), .val (.int ch2), .unset, .unset, .unset, .unset]) rfl ?_
    show Steps p.tables e below (T421.setTop (mkF m 44 #[.val (.int p1), .val (.int p2), .val (.int p3), .val (.int p4), .val (.int (0 : Int32)), .val (.int dd), .val (.int ch0), .val (.int ch1), .val (.int ch2), .unset, .unset, .unset, .unset] [])) _
    refine XS.iload X421.here hx rfl (hb hby at_44) rfl ?_
    show Steps p.tables e below (T421.setTop (mkF m 46 #[.val (.int p1), .val (.int p2), .val (.int p3), .val (.int p4), .val (.int (0 : Int32)), .val (.int dd), .val (.int ch0), .val (.int ch1), .val (.int ch2), .unset, .unset, .unset, .unset] [(.int (0 : Int32))])) _
    refine XS.ifNo X421.here hx rfl (hb hby at_46) rfl (by decide) ?_
    show Steps p.tables e below (T421.setTop (mkF m 49 #[.val (.int p1), .val (.int p2), .val (.int p3), .val (.int p4), .val (.int (0 : Int32)), .val (.int dd), .val (.int ch0), .val (.int ch1), .val (.int ch2), .unset, .unset, .unset, .unset] [])) _
    refine st422 _ ?_
    show Steps p.tables e below (T422.setTop (mkF m 52 #[.val (.int p1), .val (.int p2), .val (.int p3), .val (.int p4), .val (.int (0 : Int32)), .val (.int dd), .val (.int ch0), .val (.int ch1), .val (.int ch2), .unset, .unset, .unset, .unset] [(.ref b422)])) _
    refine XS.dup X422.here hx rfl (hb hby at_52) rfl rfl ?_
    show Steps p.tables e below (T422.setTop (mkF m 53 #[.val (.int p1), .val (.int p2), .val (.int p3), .val (.int p4), .val (.int (0 : Int32)), .val (.int dd), .val (.int ch0), .val (.int ch1), .val (.int ch2), .unset, .unset, .unset, .unset] [(.ref b422), (.ref b422)])) _
    refine XT.iconstV X422.here hx rfl (0 : Int32) (hb hby at_53) rfl ?_
    show Steps p.tables e below (T422.setTop (mkF m 54 #[.val (.int p1), .val (.int p2), .val (.int p3), .val (.int p4), .val (.int (0 : Int32)), .val (.int dd), .val (.int ch0), .val (.int ch1), .val (.int ch2), .unset, .unset, .unset, .unset] [(.int (0 : Int32)), (.ref b422), (.ref b422)])) _
    refine st425 _ ?_
    show Steps p.tables e below (T425.setTop (mkF m 56 #[.val (.int p1), .val (.int p2), .val (.int p3), .val (.int p4), .val (.int (0 : Int32)), .val (.int dd), .val (.int ch0), .val (.int ch1), .val (.int ch2), .unset, .unset, .unset, .unset] [(.ref b425), (.ref b422), (.ref b422)])) _
    refine st429.trans ?_
    show Steps p.tables e below (T429.setTop (mkF m 59 #[.val (.int p1), .val (.int p2), .val (.int p3), .val (.int p4), .val (.int (0 : Int32)), .val (.int dd), .val (.int ch0), .val (.int ch1), .val (.int ch2), .unset, .unset, .unset, .unset] [(.ref b422)])) _
    refine XS.astore X429r.here hx rfl (hb hby at_59) rfl rfl (l' := #[.val (.int p1), .val (.int p2), .val (.int p3), .val (.int p4), .val (.int (0 : Int32)), .val (.int dd), .val (.int ch0), .val (.int ch1), .val (.int ch2), .val (.ref b422), .unset, .unset, .unset]) rfl ?_
    show Steps p.tables e below (T429.setTop (mkF m 61 #[.val (.int p1), .val (.int p2), .val (.int p3), .val (.int p4), .val (.int (0 : Int32)), .val (.int dd), .val (.int ch0), .val (.int ch1), .val (.int ch2), .val (.ref b422), .unset, .unset, .unset] [])) _
    refine XS.goto X429r.here hx rfl (pc0 := 61) (pc' := 148) rfl (hb hby at_61) (by decide) (by decide) ?_
    show Steps p.tables e below (T429.setTop (mkF m 148 #[.val (.int p1), .val (.int p2), .val (.int p3), .val (.int p4), .val (.int (0 : Int32)), .val (.int dd), .val (.int ch0), .val (.int ch1), .val (.int ch2), .val (.ref b422), .unset, .unset, .unset] [])) _
    refine XT.iconstV X429r.here hx rfl (0 : Int32) (hb hby at_148) rfl ?_
    show Steps p.tables e below (T429.setTop (mkF m 149 #[.val (.int p1), .val (.int p2), .val (.int p3), .val (.int p4), .val (.int (0 : Int32)), .val (.int dd), .val (.int ch0), .val (.int ch1), .val (.int ch2), .val (.ref b422), .unset, .unset, .unset] [(.int (0 : Int32))])) _
    refine XS.istore X429r.here hx rfl (hb hby at_149) rfl (l' := #[.val (.int p1), .val (.int p2), .val (.int p3), .val (.int p4), .val (.int (0 : Int32)), .val (.int dd), .val (.int ch0), .val (.int ch1), .val (.int ch2), .val (.ref b422), .val (.int (0 : Int32)), .unset, .unset]) rfl ?_
    show Steps p.tables e below (T429.setTop (mkF m 151 #[.val (.int p1), .val (.int p2), .val (.int p3), .val (.int p4), .val (.int (0 : Int32)), .val (.int dd), .val (.int ch0), .val (.int ch1), .val (.int ch2), .val (.ref b422), .val (.int (0 : Int32)), .unset, .unset] [])) _
    refine XS.iload X429r.here hx rfl (hb hby at_151) rfl ?_
    show Steps p.tables e below (T429.setTop (mkF m 153 #[.val (.int p1), .val (.int p2), .val (.int p3), .val (.int p4), .val (.int (0 : Int32)), .val (.int dd), .val (.int ch0), .val (.int ch1), .val (.int ch2), .val (.ref b422), .val (.int (0 : Int32)), .unset, .unset] [(.int (0 : Int32))])) _
    refine XT.iconstV X429r.here hx rfl (2 : Int32) (hb hby at_153) rfl ?_
    show Steps p.tables e below (T429.setTop (mkF m 154 #[.val (.int p1), .val (.int p2), .val (.int p3), .val (.int p4), .val (.int (0 : Int32)), .val (.int dd), .val (.int ch0), .val (.int ch1), .val (.int ch2), .val (.ref b422), .val (.int (0 : Int32)), .unset, .unset] [(.int (2 : Int32)), (.int (0 : Int32))])) _
    refine XS.icmpYes X429r.here hx rfl (pc0 := 154) (pc' := 187) rfl (hb hby at_154) rfl (by decide) (by decide) (by decide) ?_
    show Steps p.tables e below (T429.setTop (mkF m 187 #[.val (.int p1), .val (.int p2), .val (.int p3), .val (.int p4), .val (.int (0 : Int32)), .val (.int dd), .val (.int ch0), .val (.int ch1), .val (.int ch2), .val (.ref b422), .val (.int (0 : Int32)), .unset, .unset] [])) _
    refine XS.aload X429r.here hx rfl (hb hby at_187) rfl rfl ?_
    show Steps p.tables e below (T429.setTop (mkF m 189 #[.val (.int p1), .val (.int p2), .val (.int p3), .val (.int p4), .val (.int (0 : Int32)), .val (.int dd), .val (.int ch0), .val (.int ch1), .val (.int ch2), .val (.ref b422), .val (.int (0 : Int32)), .unset, .unset] [(.ref b422)])) _
    refine st437 _ ?_
    show Steps p.tables e below (T437.setTop (mkF m 192 #[.val (.int p1), .val (.int p2), .val (.int p3), .val (.int p4), .val (.int (0 : Int32)), .val (.int dd), .val (.int ch0), .val (.int ch1), .val (.int ch2), .val (.ref b422), .val (.int (0 : Int32)), .unset, .unset] [(.ref we)])) _
    refine XS.astore X437.here hx rfl (hb hby at_192) rfl rfl (l' := #[.val (.int p1), .val (.int p2), .val (.int p3), .val (.int p4), .val (.int (0 : Int32)), .val (.int dd), .val (.int ch0), .val (.int ch1), .val (.int ch2), .val (.ref b422), .val (.int (0 : Int32)), .val (.ref we), .unset]) rfl ?_
    show Steps p.tables e below (T437.setTop (mkF m 194 #[.val (.int p1), .val (.int p2), .val (.int p3), .val (.int p4), .val (.int (0 : Int32)), .val (.int dd), .val (.int ch0), .val (.int ch1), .val (.int ch2), .val (.ref b422), .val (.int (0 : Int32)), .val (.ref we), .unset] [])) _
    refine XS.iload X437.here hx rfl (hb hby at_194) rfl ?_
    show Steps p.tables e below (T437.setTop (mkF m 196 #[.val (.int p1), .val (.int p2), .val (.int p3), .val (.int p4), .val (.int (0 : Int32)), .val (.int dd), .val (.int ch0), .val (.int ch1), .val (.int ch2), .val (.ref b422), .val (.int (0 : Int32)), .val (.ref we), .unset] [(.int (0 : Int32))])) _
    refine XS.ifNo X437.here hx rfl (hb hby at_196) rfl (by decide) ?_
    show Steps p.tables e below (T437.setTop (mkF m 199 #[.val (.int p1), .val (.int p2), .val (.int p3), .val (.int p4), .val (.int (0 : Int32)), .val (.int dd), .val (.int ch0), .val (.int ch1), .val (.int ch2), .val (.ref b422), .val (.int (0 : Int32)), .val (.ref we), .unset] [])) _
    refine XS.aload X437.here hx rfl (hb hby at_199) rfl rfl ?_
    show Steps p.tables e below (T437.setTop (mkF m 201 #[.val (.int p1), .val (.int p2), .val (.int p3), .val (.int p4), .val (.int (0 : Int32)), .val (.int dd), .val (.int ch0), .val (.int ch1), .val (.int ch2), .val (.ref b422), .val (.int (0 : Int32)), .val (.ref we), .unset] [(.ref we)])) _
    refine st443.trans ?_
    show Steps p.tables e below (T443.setTop (mkF m 204 #[.val (.int p1), .val (.int p2), .val (.int p3), .val (.int p4), .val (.int (0 : Int32)), .val (.int dd), .val (.int ch0), .val (.int ch1), .val (.int ch2), .val (.ref b422), .val (.int (0 : Int32)), .val (.ref we), .unset] [(.int (0 : Int32))])) _
    refine XS.ifNo X443.here hx rfl (hb hby at_204) rfl (by decide) ?_
    show Steps p.tables e below (T443.setTop (mkF m 207 #[.val (.int p1), .val (.int p2), .val (.int p3), .val (.int p4), .val (.int (0 : Int32)), .val (.int dd), .val (.int ch0), .val (.int ch1), .val (.int ch2), .val (.ref b422), .val (.int (0 : Int32)), .val (.ref we), .unset] [])) _
    refine XT.iconstV X443.here hx rfl (1 : Int32) (hb hby at_207) rfl ?_
    show Steps p.tables e below (T443.setTop (mkF m 208 #[.val (.int p1), .val (.int p2), .val (.int p3), .val (.int p4), .val (.int (0 : Int32)), .val (.int dd), .val (.int ch0), .val (.int ch1), .val (.int ch2), .val (.ref b422), .val (.int (0 : Int32)), .val (.ref we), .unset] [(.int (1 : Int32))])) _
    refine XS.goto X443.here hx rfl (pc0 := 208) (pc' := 212) rfl (hb hby at_208) (by decide) (by decide) ?_
    show Steps p.tables e below (T443.setTop (mkF m 212 #[.val (.int p1), .val (.int p2), .val (.int p3), .val (.int p4), .val (.int (0 : Int32)), .val (.int dd), .val (.int ch0), .val (.int ch1), .val (.int ch2), .val (.ref b422), .val (.int (0 : Int32)), .val (.ref we), .unset] [(.int (1 : Int32))])) _
    exact retN X443 hx (t := .boolean) Bd.returns (by simp) (hb hby at_212) hr
  · show own_Q0 n0 _ T443.heap _
    exact ⟨rfl, N443⟩
set_option maxRecDepth 65536 in
set_option maxHeartbeats 40000000 in
theorem own_law_1 (l : Launch) (Z : State) (a0 : Array Value) (hw : ∀ d ∈ tables_1, d.before a0 Z = true) (ws : List Jvm.Cond) (p1 p2 p3 p4 dd ch0 ch1 ch2 : Int32) (wv w0 w1 r0 r1 s0 s1 c0 c1 we : Addr) (kv kc0 kc1 : ClassId) (i7 : Int32) (h0 : Heap) (n0 : Nat) (Z0 : n0 ≤ h0.size) (P : own_P Z h0 wv w0 w1 r0 r1 s0 s1 c0 c1 we kv kc0 kc1 i7) (hEL : EW Z a0 [("java/lang/String", 7)]) (hr0 : own_dr dd p2 ch0) (hr1 : own_dr dd p3 ch1) (hr2 : own_dr dd p4 ch2) (hdd : (dd = (1 : Int32) ∧ ¬ ((XT.ushr p1 (2 : Int32)) &&& (1 : Int32)) = (0 : Int32)) ∨ (dd = (0 : Int32) ∧ ((XT.ushr p1 (2 : Int32)) &&& (1 : Int32)) = (0 : Int32))) (hk : (p1 &&& (3 : Int32)) = (1 : Int32))  :
    MetFree l x (head1 (Jvm.Cond.code x code maxLocals ret :: ws) room_1) (fun a U => a = #[(.int p1), (.int p2), (.int p3), (.int p4)] ∧ Z.Warmed39 U.vm ∧ U.heap = h0 ∧ CHv Z [("java/lang/String", 7)] U.vm h0) (fun _ _ _ _ _ => True) (fun _ U o U' => ∃ v L, o = .returned v ∧ own_Q0 n0 v U'.heap L ∧ ReturnedEndW U o U' L room_1.cells room_1.slots) := by
  refine MetFree.of_bodySF (plainFor_of_name pn_com_example_recourse_recourse_WriteOffActorRecordedAsPinLaw) hisR ?_
  intro p e s m args below meth c s₁ Bd hml0 hP hK
  obtain ⟨rfl, hZ, hh, hCH⟩ := hP
  have hx := Bd.exec
  have hby := Bd.bytes
  have hml : c.maxLocals = 13 := hml0
  have hown : s.vm.findClass "com/example/recourse/recourse/WriteOffActorRecordedAsPinLaw" = some m.cls := findClass_of_methodNamed Bd.named
  have hnm := (name_of_methodNamed Bd.named Bd.method).1
  have X0 : Stand p l e room_1 s m #[(.int p1), (.int p2), (.int p3), (.int p4)] below meth c s₁ [] 0 0 := Stand.of_body Bd
  have e0 : s₁.heap = h0 := by rw [← hh, Bd.state]; rfl
  have N0 := Fr.nil n0
  have pre0 : ∀ t, Steps p.tables e below (s₁.setTop (mkF m 0 #[.val (.int p1), .val (.int p2), .val (.int p3), .val (.int p4), .unset, .unset, .unset, .unset, .unset, .unset, .unset, .unset, .unset] [])) t → Steps p.tables e below (s₁.setTop (entryFrame m #[(.int p1), (.int p2), (.int p3), (.int p4)] maxLocals)) t := fun t k => castTop (ef_code_IIII m p1 p2 p3 p4) k
  obtain ⟨Pv, Ev, Av, Pw0, Pw1, Ew0, Ew1, Fr0, Fr1, Er0, Er1, Fc0, Fc1, Q0, Q1, Pe, Ee, Fe, S8, c9⟩ := id P
  have pre1 : ∀ t, Steps p.tables e below (s₁.setTop (mkF m 10 #[.val (.int p1), .val (.int p2), .val (.int p3), .val (.int p4), .val (.int (1 : Int32)), .unset, .unset, .unset, .unset, .unset, .unset, .unset, .unset] [(.int ((XT.ushr p1 (2 : Int32)) &&& (1 : Int32)))])) t → Steps p.tables e below (s₁.setTop (mkF m 0 #[.val (.int p1), .val (.int p2), .val (.int p3), .val (.int p4), .unset, .unset, .unset, .unset, .unset, .unset, .unset, .unset, .unset] [])) t := by
    intro t kk
    show Steps p.tables e below (s₁.setTop (mkF m 0 #[.val (.int p1), .val (.int p2), .val (.int p3), .val (.int p4), .unset, .unset, .unset, .unset, .unset, .unset, .unset, .unset, .unset] [])) _
    refine XS.iloadN X0.here hx rfl (hb hby at_0) rfl ?_
    show Steps p.tables e below (s₁.setTop (mkF m 1 #[.val (.int p1), .val (.int p2), .val (.int p3), .val (.int p4), .unset, .unset, .unset, .unset, .unset, .unset, .unset, .unset, .unset] [(.int p1)])) _
    refine XT.iconstV X0.here hx rfl (3 : Int32) (hb hby at_1) rfl ?_
    show Steps p.tables e below (s₁.setTop (mkF m 2 #[.val (.int p1), .val (.int p2), .val (.int p3), .val (.int p4), .unset, .unset, .unset, .unset, .unset, .unset, .unset, .unset, .unset] [(.int (3 : Int32)), (.int p1)])) _
    refine XS.iand X0.here hx rfl (hb hby at_2) rfl ?_
    show Steps p.tables e below (s₁.setTop (mkF m 3 #[.val (.int p1), .val (.int p2), .val (.int p3), .val (.int p4), .unset, .unset, .unset, .unset, .unset, .unset, .unset, .unset, .unset] [(.int (p1 &&& (3 : Int32)))])) _
    rw [hk]
    show Steps p.tables e below (s₁.setTop (mkF m 3 #[.val (.int p1), .val (.int p2), .val (.int p3), .val (.int p4), .unset, .unset, .unset, .unset, .unset, .unset, .unset, .unset, .unset] [(.int (1 : Int32))])) _
    refine XS.istore X0.here hx rfl (hb hby at_3) rfl (l' := #[.val (.int p1), .val (.int p2), .val (.int p3), .val (.int p4), .val (.int (1 : Int32)), .unset, .unset, .unset, .unset, .unset, .unset, .unset, .unset]) rfl ?_
    show Steps p.tables e below (s₁.setTop (mkF m 5 #[.val (.int p1), .val (.int p2), .val (.int p3), .val (.int p4), .val (.int (1 : Int32)), .unset, .unset, .unset, .unset, .unset, .unset, .unset, .unset] [])) _
    refine XS.iloadN X0.here hx rfl (hb hby at_5) rfl ?_
    show Steps p.tables e below (s₁.setTop (mkF m 6 #[.val (.int p1), .val (.int p2), .val (.int p3), .val (.int p4), .val (.int (1 : Int32)), .unset, .unset, .unset, .unset, .unset, .unset, .unset, .unset] [(.int p1)])) _
    refine XT.iconstV X0.here hx rfl (2 : Int32) (hb hby at_6) rfl ?_
    show Steps p.tables e below (s₁.setTop (mkF m 7 #[.val (.int p1), .val (.int p2), .val (.int p3), .val (.int p4), .val (.int (1 : Int32)), .unset, .unset, .unset, .unset, .unset, .unset, .unset, .unset] [(.int (2 : Int32)), (.int p1)])) _
    refine XT.iushr X0.here hx rfl (hb hby at_7) rfl ?_
    show Steps p.tables e below (s₁.setTop (mkF m 8 #[.val (.int p1), .val (.int p2), .val (.int p3), .val (.int p4), .val (.int (1 : Int32)), .unset, .unset, .unset, .unset, .unset, .unset, .unset, .unset] [(.int (XT.ushr p1 (2 : Int32)))])) _
    refine XT.iconstV X0.here hx rfl (1 : Int32) (hb hby at_8) rfl ?_
    show Steps p.tables e below (s₁.setTop (mkF m 9 #[.val (.int p1), .val (.int p2), .val (.int p3), .val (.int p4), .val (.int (1 : Int32)), .unset, .unset, .unset, .unset, .unset, .unset, .unset, .unset] [(.int (1 : Int32)), (.int (XT.ushr p1 (2 : Int32)))])) _
    refine XS.iand X0.here hx rfl (hb hby at_9) rfl ?_
    show Steps p.tables e below (s₁.setTop (mkF m 10 #[.val (.int p1), .val (.int p2), .val (.int p3), .val (.int p4), .val (.int (1 : Int32)), .unset, .unset, .unset, .unset, .unset, .unset, .unset, .unset] [(.int ((XT.ushr p1 (2 : Int32)) &&& (1 : Int32)))])) _
    exact kk
  have thru : ∀ t, Steps p.tables e below (s₁.setTop (mkF m 18 #[.val (.int p1), .val (.int p2), .val (.int p3), .val (.int p4), .val (.int (1 : Int32)), .unset, .unset, .unset, .unset, .unset, .unset, .unset, .unset] [(.int dd)])) t → Steps p.tables e below (s₁.setTop (mkF m 10 #[.val (.int p1), .val (.int p2), .val (.int p3), .val (.int p4), .val (.int (1 : Int32)), .unset, .unset, .unset, .unset, .unset, .unset, .unset, .unset] [(.int ((XT.ushr p1 (2 : Int32)) &&& (1 : Int32)))])) t := by
    intro t kk
    rcases hdd with ⟨rfl, hq⟩ | ⟨rfl, hq⟩
    · show Steps p.tables e below (s₁.setTop (mkF m 10 #[.val (.int p1), .val (.int p2), .val (.int p3), .val (.int p4), .val (.int (1 : Int32)), .unset, .unset, .unset, .unset, .unset, .unset, .unset, .unset] [(.int ((XT.ushr p1 (2 : Int32)) &&& (1 : Int32)))])) _
      refine XS.ifNo X0.here hx rfl (hb hby at_10) rfl (XT.i0_eq_f hq) ?_
      show Steps p.tables e below (s₁.setTop (mkF m 13 #[.val (.int p1), .val (.int p2), .val (.int p3), .val (.int p4), .val (.int (1 : Int32)), .unset, .unset, .unset, .unset, .unset, .unset, .unset, .unset] [])) _
      refine XT.iconstV X0.here hx rfl (1 : Int32) (hb hby at_13) rfl ?_
      show Steps p.tables e below (s₁.setTop (mkF m 14 #[.val (.int p1), .val (.int p2), .val (.int p3), .val (.int p4), .val (.int (1 : Int32)), .unset, .unset, .unset, .unset, .unset, .unset, .unset, .unset] [(.int (1 : Int32))])) _
      refine XS.goto X0.here hx rfl (pc0 := 14) (pc' := 18) rfl (hb hby at_14) (by decide) (by decide) ?_
      show Steps p.tables e below (s₁.setTop (mkF m 18 #[.val (.int p1), .val (.int p2), .val (.int p3), .val (.int p4), .val (.int (1 : Int32)), .unset, .unset, .unset, .unset, .unset, .unset, .unset, .unset] [(.int (1 : Int32))])) _
      exact kk
    · show Steps p.tables e below (s₁.setTop (mkF m 10 #[.val (.int p1), .val (.int p2), .val (.int p3), .val (.int p4), .val (.int (1 : Int32)), .unset, .unset, .unset, .unset, .unset, .unset, .unset, .unset] [(.int ((XT.ushr p1 (2 : Int32)) &&& (1 : Int32)))])) _
      refine XS.ifYes X0.here hx rfl (pc0 := 10) (pc' := 17) rfl (hb hby at_10) rfl (XT.i0_eq_t hq) (by decide) (by decide) ?_
      show Steps p.tables e below (s₁.setTop (mkF m 17 #[.val (.int p1), .val (.int p2), .val (.int p3), .val (.int p4), .val (.int (1 : Int32)), .unset, .unset, .unset, .unset, .unset, .unset, .unset, .unset] [])) _
      refine XT.iconstV X0.here hx rfl (0 : Int32) (hb hby at_17) rfl ?_
      show Steps p.tables e below (s₁.setTop (mkF m 18 #[.val (.int p1), .val (.int p2), .val (.int p3), .val (.int p4), .val (.int (1 : Int32)), .unset, .unset, .unset, .unset, .unset, .unset, .unset, .unset] [(.int (0 : Int32))])) _
      exact kk
  obtain ⟨_, _, ⟨T444, L444, k444, n444⟩, -, X444, ⟨Lc444, hQ444, l444, y444, z444⟩, st444⟩ := Jvm.LawKit.callS X0 hx (y := (⟨"com/example/recourse/recourse/WriteOffActorRecordedAsPinLaw", "draw", "(ZI)C"⟩ : MethodName)) hown (mvT hZ (hw _ (List.mem_of_getElem? (i := 0) rfl))) (mvT hZ (hw _ (List.mem_of_getElem? (i := 1) rfl))) (mvT hZ (hw _ (List.mem_of_getElem? (i := 2) rfl))) (mvT hZ (hw _ (List.mem_of_getElem? (i := 3) rfl))) (by decide) (backOf (W := 0) (own_draw l Z a0 hw [] dd p2 ch0 h0 n0 Z0 hr0) hZ (hw _ (List.mem_of_getElem? (i := 3) rfl)) (hw _ (List.mem_of_getElem? (i := 2) rfl)) (by decide) (by decide)) (g := (mkF m 23 #[.val (.int p1), .val (.int p2), .val (.int p3), .val (.int p4), .val (.int (1 : Int32)), .val (.int dd), .unset, .unset, .unset, .unset, .unset, .unset, .unset] [(.int p2), (.int dd)])) rfl (by rw [hml]; rfl) (argsL := [(.int dd), (.int p2)]) (rest := []) (lenOf pd__ZI_C rfl) rfl (by show 2 * 0 + _ ≤ _; exact Nat.le_of_eq rfl) (hb hby at_23) (fun _ _ => ⟨rfl, e0, (by decide : 0 + 0 ≤ _), (by decide : 0 + 0 ≤ _)⟩)
  dsimp only [Pt.U, Pt.locs, Pt.cells, Pt.slots] at X444 l444 y444 z444 st444 hQ444
  subst l444 y444 z444
  obtain ⟨rfl, N444q, e444⟩ := hQ444
  have N444 := Fr.app N0 N444q
  obtain ⟨_, _, ⟨T445, L445, k445, n445⟩, -, X445, ⟨Lc445, hQ445, l445, y445, z445⟩, st445⟩ := Jvm.LawKit.callS X444 hx (y := (⟨"com/example/recourse/recourse/WriteOffActorRecordedAsPinLaw", "draw", "(ZI)C"⟩ : MethodName)) hown (mvT hZ (hw _ (List.mem_of_getElem? (i := 0) rfl))) (mvT hZ (hw _ (List.mem_of_getElem? (i := 1) rfl))) (mvT hZ (hw _ (List.mem_of_getElem? (i := 2) rfl))) (mvT hZ (hw _ (List.mem_of_getElem? (i := 3) rfl))) (by decide) (backOf (W := 0) (own_draw l Z a0 hw [] dd p3 ch1 h0 n0 Z0 hr1) hZ (hw _ (List.mem_of_getElem? (i := 3) rfl)) (hw _ (List.mem_of_getElem? (i := 2) rfl)) (by decide) (by decide)) (g := (mkF m 31 #[.val (.int p1), .val (.int p2), .val (.int p3), .val (.int p4), .val (.int (1 : Int32)), .val (.int dd), .val (.int ch0), .unset, .unset, .unset, .unset, .unset, .unset] [(.int p3), (.int dd)])) rfl (by rw [hml]; rfl) (argsL := [(.int dd), (.int p3)]) (rest := []) (lenOf pd__ZI_C rfl) rfl (by show 2 * 0 + _ ≤ _; exact Nat.le_of_eq rfl) (hb hby at_31) (fun _ _ => ⟨rfl, e444, (by decide : 0 + 0 ≤ _), (by decide : 0 + 0 ≤ _)⟩)
  dsimp only [Pt.U, Pt.locs, Pt.cells, Pt.slots] at X445 l445 y445 z445 st445 hQ445
  subst l445 y445 z445
  obtain ⟨rfl, N445q, e445⟩ := hQ445
  have N445 := Fr.app N444 N445q
  obtain ⟨_, _, ⟨T446, L446, k446, n446⟩, -, X446, ⟨Lc446, hQ446, l446, y446, z446⟩, st446⟩ := Jvm.LawKit.callS X445 hx (y := (⟨"com/example/recourse/recourse/WriteOffActorRecordedAsPinLaw", "draw", "(ZI)C"⟩ : MethodName)) hown (mvT hZ (hw _ (List.mem_of_getElem? (i := 0) rfl))) (mvT hZ (hw _ (List.mem_of_getElem? (i := 1) rfl))) (mvT hZ (hw _ (List.mem_of_getElem? (i := 2) rfl))) (mvT hZ (hw _ (List.mem_of_getElem? (i := 3) rfl))) (by decide) (backOf (W := 0) (own_draw l Z a0 hw [] dd p4 ch2 h0 n0 Z0 hr2) hZ (hw _ (List.mem_of_getElem? (i := 3) rfl)) (hw _ (List.mem_of_getElem? (i := 2) rfl)) (by decide) (by decide)) (g := (mkF m 39 #[.val (.int p1), .val (.int p2), .val (.int p3), .val (.int p4), .val (.int (1 : Int32)), .val (.int dd), .val (.int ch0), .val (.int ch1), .unset, .unset, .unset, .unset, .unset] [(.int p4), (.int dd)])) rfl (by rw [hml]; rfl) (argsL := [(.int dd), (.int p4)]) (rest := []) (lenOf pd__ZI_C rfl) rfl (by show 2 * 0 + _ ≤ _; exact Nat.le_of_eq rfl) (hb hby at_39) (fun _ _ => ⟨rfl, e445, (by decide : 0 + 0 ≤ _), (by decide : 0 + 0 ≤ _)⟩)
  dsimp only [Pt.U, Pt.locs, Pt.cells, Pt.slots] at X446 l446 y446 z446 st446 hQ446
  subst l446 y446 z446
  obtain ⟨rfl, N446q, e446⟩ := hQ446
  have N446 := Fr.app N445 N446q
  obtain ⟨T447, h447, X447, e447, E447, A447, D447, -, st447⟩ := newO X446 hx hZ hown (hw _ (List.mem_of_getElem? (i := 4) rfl)) (hw _ (List.mem_of_getElem? (i := 5) rfl)) (hw _ (List.mem_of_getElem? (i := 6) rfl)) e446 (g := (mkF m 70 #[.val (.int p1), .val (.int p2), .val (.int p3), .val (.int p4), .val (.int (1 : Int32)), .val (.int dd), .val (.int ch0), .val (.int ch1), .val (.int ch2), .unset, .unset, .unset, .unset] [])) rfl (hb hby at_70) (by decide) (by decide)
  obtain ⟨b447, g447⟩ : ∃ z, z = h0.size := ⟨_, rfl⟩
  rw [← g447] at A447 D447 st447
  have q447 : h0.size ≤ b447 := by rw [g447]; exact Nat.le_refl _
  have EX447 : Ext h0 h447 := E447
  have Z447 : n0 ≤ h447.size := Nat.le_trans Z0 EX447.1
  have Fvalue_448 : Fld Z h447 b447 "java/lang/String" "value" "[B" .null := D447 (Or.inr (hw _ (List.mem_of_getElem? (i := 20) rfl))) (ty := (.array .byte)) (by decide)
  have Fcoder_449 : Fld Z h447 b447 "java/lang/String" "coder" "B" (.int (0 : Int32)) := D447 (Or.inr (hw _ (List.mem_of_getElem? (i := 21) rfl))) (ty := .byte) (by decide)
  obtain ⟨T450, h450, k450, X450, e450, E450, A450, st450⟩ := newP X447 hx hZ (hw _ (List.mem_of_getElem? (i := 7) rfl)) e447 (g := (mkF m 75 #[.val (.int p1), .val (.int p2), .val (.int p3), .val (.int p4), .val (.int (1 : Int32)), .val (.int dd), .val (.int ch0), .val (.int ch1), .val (.int ch2), .unset, .unset, .unset, .unset] [(.int (1 : Int32)), (.ref b447), (.ref b447)])) rfl (hb hby at_75) rfl (by decide) (cap := 1) (by decide) (by decide) (by decide) (by decide)
  obtain ⟨b450, g450⟩ : ∃ z, z = h447.size := ⟨_, rfl⟩
  rw [← g450] at A450 st450
  have V450 : Arv Z h450 b450 k450 .char (1 : Int32) (List.replicate 1 (.int (0 : Int32))) (.int (0 : Int32)) := (Arv.new A450 (by decide)).pad (fun i => pad_rep [] (.int (0 : Int32)) 1 i)
  have q450 : h0.size ≤ b450 := by rw [g450]; exact EX447.1
  have ne_b447_b450 : b447 ≠ b450 := by rw [g450]; exact Nat.ne_of_lt A447.lt
  have A447_451 := A447.ext E450
  have Fvalue_452 := Fvalue_448.ext E450
  have Fcoder_453 := Fcoder_449.ext E450
  have EX450 : Ext h0 h450 := own_ext_trans EX447 E450
  have Z450 : n0 ≤ h450.size := Nat.le_trans Z0 EX450.1
  obtain ⟨T454, h454, X454, e454, W454, V454, st454⟩ := own_stC X450 hx hZ e450 V450 (j := (0 : Int32)) (by decide) (i := 0) (by decide) (by simp) (g := (mkF m 81 #[.val (.int p1), .val (.int p2), .val (.int p3), .val (.int p4), .val (.int (1 : Int32)), .val (.int dd), .val (.int ch0), .val (.int ch1), .val (.int ch2), .unset, .unset, .unset, .unset] [(.int ch0), (.int (0 : Int32)), (.ref b450), (.ref b450), (.ref b447), (.ref b447)])) rfl rfl (hb hby at_81)
  have A447_455 := A447_451.wr W454
  have Fvalue_456 := Fvalue_452.other W454 (Or.inl ne_b447_b450)
  have Fcoder_457 := Fcoder_453.other W454 (Or.inl ne_b447_b450)
  have EX454 : Ext h0 h454 := own_ext_wr EX450 W454 q450
  have Z454 : n0 ≤ h454.size := Nat.le_trans Z0 EX454.1
  have N454 := Fr.snoc X454 N446 (Nat.le_trans Z0 q450)
  rw [hr0.2.2.1] at V454
  have V458c : Arv Z h454 b450 k450 .char (1 : Int32) [(.int ch0)] (.int (0 : Int32)) := V454
  have hws458 : ∀ d ∈ StrChars.Road.words, d.before a0 Z = true := fun d hd => hw d ((by decide +kernel : ∀ d ∈ StrChars.Road.words, d ∈ tables_1) d hd)
  have hlat458 : ∀ c ∈ [ch0], ¬ c < 0 ∧ ¬ (255 : Int32) < c := by
    intro c hc
    simp only [List.mem_cons, List.not_mem_nil, or_false] at hc
    obtain rfl := hc
    · exact hr0.2.2.2.1
  obtain ⟨_, _, ⟨T458, L458, k458, n458⟩, -, X458, ⟨Lc458, hQ458, l458, y458, z458⟩, st458⟩ := X454.specialBack hx (y := (⟨"java/lang/String", "<init>", "([C)V"⟩ : MethodName)) rfl hown (mvT hZ (hw _ (List.mem_of_getElem? (i := 8) rfl))) (mvT hZ (hw _ (List.mem_of_getElem? (i := 9) rfl))) (mvT hZ (hw _ (List.mem_of_getElem? (i := 10) rfl))) (by decide) (StrChars.Road.backV (W := 1) hZ hws458 (kI := 4) (hw _ (List.mem_of_getElem? (i := 5) rfl)) (cs := [ch0]) (bs := [ch0.toInt8.toInt32]) (n := 1) (Nat.le_trans Z0 q447) Z454 A447_455 Fvalue_456 Fcoder_457 V458c (S8.ext EX454) c9 rfl rfl (by decide) (by decide) hlat458 rfl (by decide) (by decide)) (g := (mkF m 82 #[.val (.int p1), .val (.int p2), .val (.int p3), .val (.int p4), .val (.int (1 : Int32)), .val (.int dd), .val (.int ch0), .val (.int ch1), .val (.int ch2), .unset, .unset, .unset, .unset] [(.ref b450), (.ref b447), (.ref b447)])) rfl (by rw [hml]; rfl) (Steps.refl _) (a := b447) (argsL := [(.ref b450)]) (rest := [(.ref b447)]) (lenOf pd__ArC_V rfl) rfl (by show 2 * 0 + _ ≤ _; exact Nat.le_of_eq rfl) (hb hby at_82) (fun _ _ => ⟨rfl, e454, (by decide : 2 + 1 ≤ _), (by decide : 5 + 1 ≤ _)⟩)
  dsimp only [Pt.U, Pt.locs, Pt.cells, Pt.slots] at X458 l458 y458 z458 st458 hQ458
  subst l458 y458 z458
  obtain ⟨rfl, N458q, K458q, E458s, C458s, t458s, kb458s, qn458s, qh458s, qx458s, V458s, B458s⟩ := hQ458
  have N458 := Fr.app N454 N458q
  have q458s : h0.size ≤ t458s := Nat.le_trans EX454.1 qh458s
  have ne_b450_t458s : b450 ≠ t458s := Nat.ne_of_lt (Nat.lt_of_lt_of_le V454.lt qh458s)
  have A447_459 := A447_455.keep K458q
  have V454_460 := V454.keep K458q (ninS (Ne.symm ne_b447_b450) nin0)
  have EX458 : Ext h0 T458.heap := own_ext_keep EX454 K458q (allS q447 all0)
  have Z458 : n0 ≤ T458.heap.size := Nat.le_trans Z0 EX458.1
  have PT461 : own_St Z T458.heap b447 t458s kb458s (1 : Int32) [ch0.toInt8.toInt32] := ⟨E458s, V458s, C458s, B458s⟩
  have ns0 : s0 ≠ b447 := Nat.ne_of_lt (Nat.lt_of_lt_of_le (own_P_lt P).1 q447)
  have ns1 : s1 ≠ b447 := Nat.ne_of_lt (Nat.lt_of_lt_of_le (own_P_lt P).2 q447)
  obtain ⟨_, _, ⟨T462, L462, k462, n462⟩, -, X462, ⟨Lc462, hQ462, l462, y462, z462⟩, st462⟩ := Jvm.LawKit.callS X458 hx (y := (⟨"com/example/recourse/recourse/WriteOffActor", "recordedAs", "(Ljava/lang/String;)Ljava/util/Optional;"⟩ : MethodName)) hown (mvT hZ (hw _ (List.mem_of_getElem? (i := 26) rfl))) (mvT hZ (hw _ (List.mem_of_getElem? (i := 27) rfl))) (mvT hZ (hw _ (List.mem_of_getElem? (i := 28) rfl))) (mvT hZ (hw _ (List.mem_of_getElem? (i := 29) rfl))) (by decide) (backOf (W := 0) (own_rec_ne l Z a0 hw [] wv w0 w1 r0 r1 s0 s1 c0 c1 we kv kc0 kc1 i7 b447 t458s kb458s (1 : Int32) [ch0.toInt8.toInt32] T458.heap n0 Z458 (own_P_ext P EX458) PT461 ns0 ns1 (by decide)) hZ (hw _ (List.mem_of_getElem? (i := 29) rfl)) (hw _ (List.mem_of_getElem? (i := 28) rfl)) (by decide) (by decide)) (g := (mkF m 189 #[.val (.int p1), .val (.int p2), .val (.int p3), .val (.int p4), .val (.int (1 : Int32)), .val (.int dd), .val (.int ch0), .val (.int ch1), .val (.int ch2), .val (.ref b447), .val (.int (0 : Int32)), .unset, .unset] [(.ref b447)])) rfl (by rw [hml]; rfl) (argsL := [(.ref b447)]) (rest := []) (lenOf pd__Ljava_lang_String__Ljava_util_Optional_ rfl) rfl (by show 2 * 0 + _ ≤ _; exact Nat.le_of_eq rfl) (hb hby at_189) (fun _ _ => ⟨rfl, rfl, (by decide : 3 + 1 ≤ _), (by decide : 6 + 2 ≤ _)⟩)
  dsimp only [Pt.U, Pt.locs, Pt.cells, Pt.slots] at X462 l462 y462 z462 st462 hQ462
  subst l462 y462 z462
  obtain ⟨rfl, N462q, EE462⟩ := hQ462
  have N462 := Fr.app N458 N462q
  have E458s_463 := E458s.ext EE462
  have V454_464 := V454_460.ext EE462
  have C458s_465 := C458s.ext EE462
  have V458s_466 := V458s.ext EE462
  have B458s_467 := B458s.ext EE462
  have EX462 : Ext h0 T462.heap := own_ext_trans EX458 EE462
  have Z462 : n0 ≤ T462.heap.size := Nat.le_trans Z0 EX462.1
  obtain ⟨cq468, kq468, q468a, q468b, q468c⟩ := isOf hZ rfl (Ee.ext EX462)
  obtain ⟨_, _, ⟨T468, L468, k468, n468⟩, -, X468, ⟨Lc468, hQ468, l468, y468, z468⟩, st468⟩ := X462.virtualBack hx (y := (⟨"java/util/Optional", "isPresent", "()Z"⟩ : MethodName)) (z := (⟨"java/util/Optional", "isPresent", "()Z"⟩ : MethodName)) hown (mvT hZ (hw _ (List.mem_of_getElem? (i := 75) rfl))) (mvT hZ (hw _ (List.mem_of_getElem? (i := 76) rfl))) (notFace_of_selects (args := #[]) (mvT hZ (hw _ (List.mem_of_getElem? (i := 78) rfl)))) (mvT hZ (hw _ (List.mem_of_getElem? (i := 78) rfl))) (mvT hZ (hw _ (List.mem_of_getElem? (i := 77) rfl))) (by decide) (backOf (W := 0) (own_pres_e l Z a0 hw [] we T462.heap n0 Z462 (Fe.ext EX462)) hZ (hw _ (List.mem_of_getElem? (i := 79) rfl)) (hw _ (List.mem_of_getElem? (i := 72) rfl)) (by decide) (by decide)) q468a q468c (g := (mkF m 201 #[.val (.int p1), .val (.int p2), .val (.int p3), .val (.int p4), .val (.int (1 : Int32)), .val (.int dd), .val (.int ch0), .val (.int ch1), .val (.int ch2), .val (.ref b447), .val (.int (0 : Int32)), .val (.ref we), .unset] [(.ref we)])) rfl (by rw [hml]; rfl) (Steps.refl _) (argsL := []) (rest := []) (lenOf pd___Z rfl) rfl (by show 2 * 0 + _ ≤ _; exact Nat.le_of_eq rfl) (hb hby at_201) (fun _ _ => ⟨rfl, rfl, (by decide : 4 + 0 ≤ _), (by decide : 8 + 0 ≤ _)⟩)
  dsimp only [Pt.U, Pt.locs, Pt.cells, Pt.slots] at X468 l468 y468 z468 st468 hQ468
  subst l468 y468 z468
  obtain ⟨rfl, N468q, e468⟩ := hQ468
  have N468 := Fr.app N462 N468q
  obtain ⟨fs, hr, hrun, hended, hRE⟩ := Jvm.Stand.leaveW (s := s) (vm₁ := s.vm) X468 ((State.WarmedH.refl s).since 0) (Nat.le_trans (Nat.zero_le _) (Nat.le_of_eq (congrArg Array.size e468.symm))) (v := some (.int (1 : Int32))) (fun h => by rw [Bd.returns] at h; cases h)
  refine ⟨_, _, pre0 _ (pre1 _ (thru _ ?_)), hrun, hended, _, _, rfl, ?_, ⟨_, rfl⟩, hRE.2.1, hRE.2.2.1, hRE.2.2.2.mono (by decide) (by decide)⟩
  · show Steps p.tables e below (s₁.setTop (mkF m 18 #[.val (.int p1), .val (.int p2), .val (.int p3), .val (.int p4), .val (.int (1 : Int32)), .unset, .unset, .unset, .unset, .unset, .unset, .unset, .unset] [(.int dd)])) _
    refine XS.istore X0.here hx rfl (hb hby at_18) rfl (l' := #[.val (.int p1), .val (.int p2), .val (.int p3), .val (.int p4), .val (.int (1 : Int32)), .val (.int dd), .unset, .unset, .unset, .unset, .unset, .unset, .unset]) rfl ?_
    show Steps p.tables e below (s₁.setTop (mkF m 20 #[.val (.int p1), .val (.int p2), .val (.int p3), .val (.int p4), .val (.int (1 : Int32)), .val (.int dd), .unset, .unset, .unset, .unset, .unset, .unset, .unset] [])) _
    refine XS.iload X0.here hx rfl (hb hby at_20) rfl ?_
    show Steps p.tables e below (s₁.setTop (mkF m 22 #[.val (.int p1), .val (.int p2), .val (.int p3), .val (.int p4), .val (.int (1 : Int32)), .val (.int dd), .unset, .unset, .unset, .unset, .unset, .unset, .unset] [(.int dd)])) _
    refine XS.iloadN X0.here hx rfl (hb hby at_22) rfl ?_
    show Steps p.tables e below (s₁.setTop (mkF m 23 #[.val (.int p1), .val (.int p2), .val (.int p3), .val (.int p4), .val (.int (1 : Int32)), .val (.int dd), .unset, .unset, .unset, .unset, .unset, .unset, .unset] [(.int p2), (.int dd)])) _
    refine st444 _ ?_
    show Steps p.tables e below (T444.setTop (mkF m 26 #[.val (.int p1), .val (.int p2), .val (.int p3), .val (.int p4), .val (.int (1 : Int32)), .val (.int dd), .unset, .unset, .unset, .unset, .unset, .unset, .unset] [(.int ch0)])) _
    refine XS.istore X444.here hx rfl (hb hby at_26) rfl (l' := #[.val (.int p1), .val (.int p2), .val (.int p3), .val (.int p4), .val (.int (1 : Int32)), .val (.int dd), .val (.int ch0), .unset, .unset, .unset, .unset, .unset, .unset]) rfl ?_
    show Steps p.tables e below (T444.setTop (mkF m 28 #[.val (.int p1), .val (.int p2), .val (.int p3), .val (.int p4), .val (.int (1 : Int32)), .val (.int dd), .val (.int ch0), .unset, .unset, .unset, .unset, .unset, .unset] [])) _
    refine XS.iload X444.here hx rfl (hb hby at_28) rfl ?_
    show Steps p.tables e below (T444.setTop (mkF m 30 #[.val (.int p1), .val (.int p2), .val (.int p3), .val (.int p4), .val (.int (1 : Int32)), .val (.int dd), .val (.int ch0), .unset, .unset, .unset, .unset, .unset, .unset] [(.int dd)])) _
    refine XS.iloadN X444.here hx rfl (hb hby at_30) rfl ?_
    show Steps p.tables e below (T444.setTop (mkF m 31 #[.val (.int p1), .val (.int p2), .val (.int p3), .val (.int p4), .val (.int (1 : Int32)), .val (.int dd), .val (.int ch0), .unset, .unset, .unset, .unset, .unset, .unset] [(.int p3), (.int dd)])) _
    refine st445 _ ?_
    show Steps p.tables e below (T445.setTop (mkF m 34 #[.val (.int p1), .val (.int p2), .val (.int p3), .val (.int p4), .val (.int (1 : Int32)), .val (.int dd), .val (.int ch0), .unset, .unset, .unset, .unset, .unset, .unset] [(.int ch1)])) _
    refine XS.istore X445.here hx rfl (hb hby at_34) rfl (l' := #[.val (.int p1), .val (.int p2), .val (.int p3), .val (.int p4), .val (.int (1 : Int32)), .val (.int dd), .val (.int ch0), .val (.int ch1), .unset, .unset, .unset, .unset, .unset]) rfl ?_
    show Steps p.tables e below (T445.setTop (mkF m 36 #[.val (.int p1), .val (.int p2), .val (.int p3), .val (.int p4), .val (.int (1 : Int32)), .val (.int dd), .val (.int ch0), .val (.int ch1), .unset, .unset, .unset, .unset, .unset] [])) _
    refine XS.iload X445.here hx rfl (hb hby at_36) rfl ?_
    show Steps p.tables e below (T445.setTop (mkF m 38 #[.val (.int p1), .val (.int p2), .val (.int p3), .val (.int p4), .val (.int (1 : Int32)), .val (.int dd), .val (.int ch0), .val (.int ch1), .unset, .unset, .unset, .unset, .unset] [(.int dd)])) _
    refine XS.iloadN X445.here hx rfl (hb hby at_38) rfl ?_
    show Steps p.tables e below (T445.setTop (mkF m 39 #[.val (.int p1), .val (.int p2), .val (.int p3), .val (.int p4), .val (.int (1 : Int32)), .val (.int dd), .val (.int ch0), .val (.int ch1), .unset, .unset, .unset, .unset, .unset] [(.int p4), (.int dd)])) _
    refine st446 _ ?_
    show Steps p.tables e below (T446.setTop (mkF m 42 #[.val (.int p1), .val (.int p2), .val (.int p3), .val (.int p4), .val (.int (1 : Int32)), .val (.int dd), .val (.int ch0), .val (.int ch1), .unset, .unset, .unset, .unset, .unset] [(.int ch2)])) _
    refine XS.istore X446.here hx rfl (hb hby at_42) rfl (l' := #[.val (.int p1), .val (.int p2), .val (.int p3), .val (.int p4), .val (.int (1 : Int32)), .val (.int dd), .val (.int ch0), .val (.int ch1), .val (.int ch2), .unset, .unset, .unset, .unset]) rfl ?_
    show Steps p.tables e below (T446.setTop (mkF m 44 #[.val (.int p1), .val (.int p2), .val (.int p3), .val (.int p4), .val (.int (1 : Int32)), .val (.int dd), .val (.int ch0), .val (.int ch1), .val (.int ch2), .unset, .unset, .unset, .unset] [])) _
    refine XS.iload X446.here hx rfl (hb hby at_44) rfl ?_
    show Steps p.tables e below (T446.setTop (mkF m 46 #[.val (.int p1), .val (.int p2), .val (.int p3), .val (.int p4), .val (.int (1 : Int32)), .val (.int dd), .val (.int ch0), .val (.int ch1), .val (.int ch2), .unset, .unset, .unset, .unset] [(.int (1 : Int32))])) _
    refine XS.ifYes X446.here hx rfl (pc0 := 46) (pc' := 64) rfl (hb hby at_46) rfl (by decide) (by decide) (by decide) ?_
    show Steps p.tables e below (T446.setTop (mkF m 64 #[.val (.int p1), .val (.int p2), .val (.int p3), .val (.int p4), .val (.int (1 : Int32)), .val (.int dd), .val (.int ch0), .val (.int ch1), .val (.int ch2), .unset, .unset, .unset, .unset] [])) _
    refine XS.iload X446.here hx rfl (hb hby at_64) rfl ?_
    show Steps p.tables e below (T446.setTop (mkF m 66 #[.val (.int p1), .val (.int p2), .val (.int p3), .val (.int p4), .val (.int (1 : Int32)), .val (.int dd), .val (.int ch0), .val (.int ch1), .val (.int ch2), .unset, .unset, .unset, .unset] [(.int (1 : Int32))])) _
    refine XT.iconstV X446.here hx rfl (1 : Int32) (hb hby at_66) rfl ?_
    show Steps p.tables e below (T446.setTop (mkF m 67 #[.val (.int p1), .val (.int p2), .val (.int p3), .val (.int p4), .val (.int (1 : Int32)), .val (.int dd), .val (.int ch0), .val (.int ch1), .val (.int ch2), .unset, .unset, .unset, .unset] [(.int (1 : Int32)), (.int (1 : Int32))])) _
    refine XS.icmpNo X446.here hx rfl (hb hby at_67) rfl (by decide) ?_
    show Steps p.tables e below (T446.setTop (mkF m 70 #[.val (.int p1), .val (.int p2), .val (.int p3), .val (.int p4), .val (.int (1 : Int32)), .val (.int dd), .val (.int ch0), .val (.int ch1), .val (.int ch2), .unset, .unset, .unset, .unset] [])) _
    refine st447 _ ?_
    show Steps p.tables e below (T447.setTop (mkF m 73 #[.val (.int p1), .val (.int p2), .val (.int p3), .val (.int p4), .val (.int (1 : Int32)), .val (.int dd), .val (.int ch0), .val (.int ch1), .val (.int ch2), .unset, .unset, .unset, .unset] [(.ref b447)])) _
    refine XS.dup X447.here hx rfl (hb hby at_73) rfl rfl ?_
    show Steps p.tables e below (T447.setTop (mkF m 74 #[.val (.int p1), .val (.int p2), .val (.int p3), .val (.int p4), .val (.int (1 : Int32)), .val (.int dd), .val (.int ch0), .val (.int ch1), .val (.int ch2), .unset, .unset, .unset, .unset] [(.ref b447), (.ref b447)])) _
    refine XT.iconstV X447.here hx rfl (1 : Int32) (hb hby at_74) rfl ?_
    show Steps p.tables e below (T447.setTop (mkF m 75 #[.val (.int p1), .val (.int p2), .val (.int p3), .val (.int p4), .val (.int (1 : Int32)), .val (.int dd), .val (.int ch0), .val (.int ch1), .val (.int ch2), .unset, .unset, .unset, .unset] [(.int (1 : Int32)), (.ref b447), (.ref b447)])) _
    refine st450 _ ?_
    show Steps p.tables e below (T450.setTop (mkF m 77 #[.val (.int p1), .val (.int p2), .val (.int p3), .val (.int p4), .val (.int (1 : Int32)), .val (.int dd), .val (.int ch0), .val (.int ch1), .val (.int ch2), .unset, .unset, .unset, .unset] [(.ref b450), (.ref b447), (.ref b447)])) _
    refine XS.dup X450.here hx rfl (hb hby at_77) rfl rfl ?_
    show Steps p.tables e below (T450.setTop (mkF m 78 #[.val (.int p1), .val (.int p2), .val (.int p3), .val (.int p4), .val (.int (1 : Int32)), .val (.int dd), .val (.int ch0), .val (.int ch1), .val (.int ch2), .unset, .unset, .unset, .unset] [(.ref b450), (.ref b450), (.ref b447), (.ref b447)])) _
    refine XT.iconstV X450.here hx rfl (0 : Int32) (hb hby at_78) rfl ?_
    show Steps p.tables e below (T450.setTop (mkF m 79 #[.val (.int p1), .val (.int p2), .val (.int p3), .val (.int p4), .val (.int (1 : Int32)), .val (.int dd), .val (.int ch0), .val (.int ch1), .val (.int ch2), .unset, .unset, .unset, .unset] [(.int (0 : Int32)), (.ref b450), (.ref b450), (.ref b447), (.ref b447)])) _
    refine XS.iload X450.here hx rfl (hb hby at_79) rfl ?_
    show Steps p.tables e below (T450.setTop (mkF m 81 #[.val (.int p1), .val (.int p2), .val (.int p3), .val (.int p4), .val (.int (1 : Int32)), .val (.int dd), .val (.int ch0), .val (.int ch1), .val (.int ch2), .unset, .unset, .unset, .unset] [(.int ch0), (.int (0 : Int32)), (.ref b450), (.ref b450), (.ref b447), (.ref b447)])) _
    refine st454 _ ?_
    show Steps p.tables e below (T454.setTop (mkF m 82 #[.val (.int p1), .val (.int p2), .val (.int p3), .val (.int p4), .val (.int (1 : Int32)), .val (.int dd), .val (.int ch0), .val (.int ch1), .val (.int ch2), .unset, .unset, .unset, .unset] [(.ref b450), (.ref b447), (.ref b447)])) _
    refine st458.trans ?_
    show Steps p.tables e below (T458.setTop (mkF m 85 #[.val (.int p1), .val (.int p2), .val (.int p3), .val (.int p4), .val (.int (1 : Int32)), .val (.int dd), .val (.int ch0), .val (.int ch1), .val (.int ch2), .unset, .unset, .unset, .unset] [(.ref b447)])) _
    refine XS.astore X458.here hx rfl (hb hby at_85) rfl rfl (l' := #[.val (.int p1), .val (.int p2), .val (.int p3), .val (.int p4), .val (.int (1 : Int32)), .val (.int dd), .val (.int ch0), .val (.int ch1), .val (.int ch2), .val (.ref b447), .unset, .unset, .unset]) rfl ?_
    show Steps p.tables e below (T458.setTop (mkF m 87 #[.val (.int p1), .val (.int p2), .val (.int p3), .val (.int p4), .val (.int (1 : Int32)), .val (.int dd), .val (.int ch0), .val (.int ch1), .val (.int ch2), .val (.ref b447), .unset, .unset, .unset] [])) _
    refine XS.goto X458.here hx rfl (pc0 := 87) (pc' := 148) rfl (hb hby at_87) (by decide) (by decide) ?_
    show Steps p.tables e below (T458.setTop (mkF m 148 #[.val (.int p1), .val (.int p2), .val (.int p3), .val (.int p4), .val (.int (1 : Int32)), .val (.int dd), .val (.int ch0), .val (.int ch1), .val (.int ch2), .val (.ref b447), .unset, .unset, .unset] [])) _
    refine XT.iconstV X458.here hx rfl (0 : Int32) (hb hby at_148) rfl ?_
    show Steps p.tables e below (T458.setTop (mkF m 149 #[.val (.int p1), .val (.int p2), .val (.int p3), .val (.int p4), .val (.int (1 : Int32)), .val (.int dd), .val (.int ch0), .val (.int ch1), .val (.int ch2), .val (.ref b447), .unset, .unset, .unset] [(.int (0 : Int32))])) _
    refine XS.istore X458.here hx rfl (hb hby at_149) rfl (l' := #[.val (.int p1), .val (.int p2), .val (.int p3), .val (.int p4), .val (.int (1 : Int32)), .val (.int dd), .val (.int ch0), .val (.int ch1), .val (.int ch2), .val (.ref b447), .val (.int (0 : Int32)), .unset, .unset]) rfl ?_
    show Steps p.tables e below (T458.setTop (mkF m 151 #[.val (.int p1), .val (.int p2), .val (.int p3), .val (.int p4), .val (.int (1 : Int32)), .val (.int dd), .val (.int ch0), .val (.int ch1), .val (.int ch2), .val (.ref b447), .val (.int (0 : Int32)), .unset, .unset] [])) _
    refine XS.iload X458.here hx rfl (hb hby at_151) rfl ?_
    show Steps p.tables e below (T458.setTop (mkF m 153 #[.val (.int p1), .val (.int p2), .val (.int p3), .val (.int p4), .val (.int (1 : Int32)), .val (.int dd), .val (.int ch0), .val (.int ch1), .val (.int ch2), .val (.ref b447), .val (.int (0 : Int32)), .unset, .unset] [(.int (1 : Int32))])) _
    refine XT.iconstV X458.here hx rfl (2 : Int32) (hb hby at_153) rfl ?_
    show Steps p.tables e below (T458.setTop (mkF m 154 #[.val (.int p1), .val (.int p2), .val (.int p3), .val (.int p4), .val (.int (1 : Int32)), .val (.int dd), .val (.int ch0), .val (.int ch1), .val (.int ch2), .val (.ref b447), .val (.int (0 : Int32)), .unset, .unset] [(.int (2 : Int32)), (.int (1 : Int32))])) _
    refine XS.icmpYes X458.here hx rfl (pc0 := 154) (pc' := 187) rfl (hb hby at_154) rfl (by decide) (by decide) (by decide) ?_
    show Steps p.tables e below (T458.setTop (mkF m 187 #[.val (.int p1), .val (.int p2), .val (.int p3), .val (.int p4), .val (.int (1 : Int32)), .val (.int dd), .val (.int ch0), .val (.int ch1), .val (.int ch2), .val (.ref b447), .val (.int (0 : Int32)), .unset, .unset] [])) _
    refine XS.aload X458.here hx rfl (hb hby at_187) rfl rfl ?_
    show Steps p.tables e below (T458.setTop (mkF m 189 #[.val (.int p1), .val (.int p2), .val (.int p3), .val (.int p4), .val (.int (1 : Int32)), .val (.int dd), .val (.int ch0), .val (.int ch1), .val (.int ch2), .val (.ref b447), .val (.int (0 : Int32)), .unset, .unset] [(.ref b447)])) _
    refine st462 _ ?_
    show Steps p.tables e below (T462.setTop (mkF m 192 #[.val (.int p1), .val (.int p2), .val (.int p3), .val (.int p4), .val (.int (1 : Int32)), .val (.int dd), .val (.int ch0), .val (.int ch1), .val (.int ch2), .val (.ref b447), .val (.int (0 : Int32)), .unset, .unset] [(.ref we)])) _
    refine XS.astore X462.here hx rfl (hb hby at_192) rfl rfl (l' := #[.val (.int p1), .val (.int p2), .val (.int p3), .val (.int p4), .val (.int (1 : Int32)), .val (.int dd), .val (.int ch0), .val (.int ch1), .val (.int ch2), .val (.ref b447), .val (.int (0 : Int32)), .val (.ref we), .unset]) rfl ?_
    show Steps p.tables e below (T462.setTop (mkF m 194 #[.val (.int p1), .val (.int p2), .val (.int p3), .val (.int p4), .val (.int (1 : Int32)), .val (.int dd), .val (.int ch0), .val (.int ch1), .val (.int ch2), .val (.ref b447), .val (.int (0 : Int32)), .val (.ref we), .unset] [])) _
    refine XS.iload X462.here hx rfl (hb hby at_194) rfl ?_
    show Steps p.tables e below (T462.setTop (mkF m 196 #[.val (.int p1), .val (.int p2), .val (.int p3), .val (.int p4), .val (.int (1 : Int32)), .val (.int dd), .val (.int ch0), .val (.int ch1), .val (.int ch2), .val (.ref b447), .val (.int (0 : Int32)), .val (.ref we), .unset] [(.int (0 : Int32))])) _
    refine XS.ifNo X462.here hx rfl (hb hby at_196) rfl (by decide) ?_
    show Steps p.tables e below (T462.setTop (mkF m 199 #[.val (.int p1), .val (.int p2), .val (.int p3), .val (.int p4), .val (.int (1 : Int32)), .val (.int dd), .val (.int ch0), .val (.int ch1), .val (.int ch2), .val (.ref b447), .val (.int (0 : Int32)), .val (.ref we), .unset] [])) _
    refine XS.aload X462.here hx rfl (hb hby at_199) rfl rfl ?_
    show Steps p.tables e below (T462.setTop (mkF m 201 #[.val (.int p1), .val (.int p2), .val (.int p3), .val (.int p4), .val (.int (1 : Int32)), .val (.int dd), .val (.int ch0), .val (.int ch1), .val (.int ch2), .val (.ref b447), .val (.int (0 : Int32)), .val (.ref we), .unset] [(.ref we)])) _
    refine st468.trans ?_
    show Steps p.tables e below (T468.setTop (mkF m 204 #[.val (.int p1), .val (.int p2), .val (.int p3), .val (.int p4), .val (.int (1 : Int32)), .val (.int dd), .val (.int ch0), .val (.int ch1), .val (.int ch2), .val (.ref b447), .val (.int (0 : Int32)), .val (.ref we), .unset] [(.int (0 : Int32))])) _
    refine XS.ifNo X468.here hx rfl (hb hby at_204) rfl (by decide) ?_
    show Steps p.tables e below (T468.setTop (mkF m 207 #[.val (.int p1), .val (.int p2), .val (.int p3), .val (.int p4), .val (.int (1 : Int32)), .val (.int dd), .val (.int ch0), .val (.int ch1), .val (.int ch2), .val (.ref b447), .val (.int (0 : Int32)), .val (.ref we), .unset] [])) _
    refine XT.iconstV X468.here hx rfl (1 : Int32) (hb hby at_207) rfl ?_
    show Steps p.tables e below (T468.setTop (mkF m 208 #[.val (.int p1), .val (.int p2), .val (.int p3), .val (.int p4), .val (.int (1 : Int32)), .val (.int dd), .val (.int ch0), .val (.int ch1), .val (.int ch2), .val (.ref b447), .val (.int (0 : Int32)), .val (.ref we), .unset] [(.int (1 : Int32))])) _
    refine XS.goto X468.here hx rfl (pc0 := 208) (pc' := 212) rfl (hb hby at_208) (by decide) (by decide) ?_
    show Steps p.tables e below (T468.setTop (mkF m 212 #[.val (.int p1), .val (.int p2), .val (.int p3), .val (.int p4), .val (.int (1 : Int32)), .val (.int dd), .val (.int ch0), .val (.int ch1), .val (.int ch2), .val (.ref b447), .val (.int (0 : Int32)), .val (.ref we), .unset] [(.int (1 : Int32))])) _
    exact retN X468 hx (t := .boolean) Bd.returns (by simp) (hb hby at_212) hr
  · show own_Q0 n0 _ T468.heap _
    exact ⟨rfl, N468⟩
set_option maxRecDepth 65536 in
set_option maxHeartbeats 40000000 in
theorem own_law_3 (l : Launch) (Z : State) (a0 : Array Value) (hw : ∀ d ∈ tables_1, d.before a0 Z = true) (ws : List Jvm.Cond) (p1 p2 p3 p4 dd ch0 ch1 ch2 : Int32) (wv w0 w1 r0 r1 s0 s1 c0 c1 we : Addr) (kv kc0 kc1 : ClassId) (i7 : Int32) (h0 : Heap) (n0 : Nat) (Z0 : n0 ≤ h0.size) (P : own_P Z h0 wv w0 w1 r0 r1 s0 s1 c0 c1 we kv kc0 kc1 i7) (hEL : EW Z a0 [("java/lang/String", 7)]) (hr0 : own_dr dd p2 ch0) (hr1 : own_dr dd p3 ch1) (hr2 : own_dr dd p4 ch2) (hdd : (dd = (1 : Int32) ∧ ¬ ((XT.ushr p1 (2 : Int32)) &&& (1 : Int32)) = (0 : Int32)) ∨ (dd = (0 : Int32) ∧ ((XT.ushr p1 (2 : Int32)) &&& (1 : Int32)) = (0 : Int32))) (hk : (p1 &&& (3 : Int32)) = (3 : Int32))  :
    MetFree l x (head1 (Jvm.Cond.code x code maxLocals ret :: ws) room_1) (fun a U => a = #[(.int p1), (.int p2), (.int p3), (.int p4)] ∧ Z.Warmed39 U.vm ∧ U.heap = h0 ∧ CHv Z [("java/lang/String", 7)] U.vm h0) (fun _ _ _ _ _ => True) (fun _ U o U' => ∃ v L, o = .returned v ∧ own_Q0 n0 v U'.heap L ∧ ReturnedEndW U o U' L room_1.cells room_1.slots) := by
  refine MetFree.of_bodySF (plainFor_of_name pn_com_example_recourse_recourse_WriteOffActorRecordedAsPinLaw) hisR ?_
  intro p e s m args below meth c s₁ Bd hml0 hP hK
  obtain ⟨rfl, hZ, hh, hCH⟩ := hP
  have hx := Bd.exec
  have hby := Bd.bytes
  have hml : c.maxLocals = 13 := hml0
  have hown : s.vm.findClass "com/example/recourse/recourse/WriteOffActorRecordedAsPinLaw" = some m.cls := findClass_of_methodNamed Bd.named
  have hnm := (name_of_methodNamed Bd.named Bd.method).1
  have X0 : Stand p l e room_1 s m #[(.int p1), (.int p2), (.int p3), (.int p4)] below meth c s₁ [] 0 0 := Stand.of_body Bd
  have e0 : s₁.heap = h0 := by rw [← hh, Bd.state]; rfl
  have N0 := Fr.nil n0
  have pre0 : ∀ t, Steps p.tables e below (s₁.setTop (mkF m 0 #[.val (.int p1), .val (.int p2), .val (.int p3), .val (.int p4), .unset, .unset, .unset, .unset, .unset, .unset, .unset, .unset, .unset] [])) t → Steps p.tables e below (s₁.setTop (entryFrame m #[(.int p1), (.int p2), (.int p3), (.int p4)] maxLocals)) t := fun t k => castTop (ef_code_IIII m p1 p2 p3 p4) k
  obtain ⟨Pv, Ev, Av, Pw0, Pw1, Ew0, Ew1, Fr0, Fr1, Er0, Er1, Fc0, Fc1, Q0, Q1, Pe, Ee, Fe, S8, c9⟩ := id P
  have pre1 : ∀ t, Steps p.tables e below (s₁.setTop (mkF m 10 #[.val (.int p1), .val (.int p2), .val (.int p3), .val (.int p4), .val (.int (3 : Int32)), .unset, .unset, .unset, .unset, .unset, .unset, .unset, .unset] [(.int ((XT.ushr p1 (2 : Int32)) &&& (1 : Int32)))])) t → Steps p.tables e below (s₁.setTop (mkF m 0 #[.val (.int p1), .val (.int p2), .val (.int p3), .val (.int p4), .unset, .unset, .unset, .unset, .unset, .unset, .unset, .unset, .unset] [])) t := by
    intro t kk
    show Steps p.tables e below (s₁.setTop (mkF m 0 #[.val (.int p1), .val (.int p2), .val (.int p3), .val (.int p4), .unset, .unset, .unset, .unset, .unset, .unset, .unset, .unset, .unset] [])) _
    refine XS.iloadN X0.here hx rfl (hb hby at_0) rfl ?_
    show Steps p.tables e below (s₁.setTop (mkF m 1 #[.val (.int p1), .val (.int p2), .val (.int p3), .val (.int p4), .unset, .unset, .unset, .unset, .unset, .unset, .unset, .unset, .unset] [(.int p1)])) _
    refine XT.iconstV X0.here hx rfl (3 : Int32) (hb hby at_1) rfl ?_
    show Steps p.tables e below (s₁.setTop (mkF m 2 #[.val (.int p1), .val (.int p2), .val (.int p3), .val (.int p4), .unset, .unset, .unset, .unset, .unset, .unset, .unset, .unset, .unset] [(.int (3 : Int32)), (.int p1)])) _
    refine XS.iand X0.here hx rfl (hb hby at_2) rfl ?_
    show Steps p.tables e below (s₁.setTop (mkF m 3 #[.val (.int p1), .val (.int p2), .val (.int p3), .val (.int p4), .unset, .unset, .unset, .unset, .unset, .unset, .unset, .unset, .unset] [(.int (p1 &&& (3 : Int32)))])) _
    rw [hk]
    show Steps p.tables e below (s₁.setTop (mkF m 3 #[.val (.int p1), .val (.int p2), .val (.int p3), .val (.int p4), .unset, .unset, .unset, .unset, .unset, .unset, .unset, .unset, .unset] [(.int (3 : Int32))])) _
    refine XS.istore X0.here hx rfl (hb hby at_3) rfl (l' := #[.val (.int p1), .val (.int p2), .val (.int p3), .val (.int p4), .val (.int (3 : Int32)), .unset, .unset, .unset, .unset, .unset, .unset, .unset, .unset]) rfl ?_
    show Steps p.tables e below (s₁.setTop (mkF m 5 #[.val (.int p1), .val (.int p2), .val (.int p3), .val (.int p4), .val (.int (3 : Int32)), .unset, .unset, .unset, .unset, .unset, .unset, .unset, .unset] [])) _
    refine XS.iloadN X0.here hx rfl (hb hby at_5) rfl ?_
    show Steps p.tables e below (s₁.setTop (mkF m 6 #[.val (.int p1), .val (.int p2), .val (.int p3), .val (.int p4), .val (.int (3 : Int32)), .unset, .unset, .unset, .unset, .unset, .unset, .unset, .unset] [(.int p1)])) _
    refine XT.iconstV X0.here hx rfl (2 : Int32) (hb hby at_6) rfl ?_
    show Steps p.tables e below (s₁.setTop (mkF m 7 #[.val (.int p1), .val (.int p2), .val (.int p3), .val (.int p4), .val (.int (3 : Int32)), .unset, .unset, .unset, .unset, .unset, .unset, .unset, .unset] [(.int (2 : Int32)), (.int p1)])) _
    refine XT.iushr X0.here hx rfl (hb hby at_7) rfl ?_
    show Steps p.tables e below (s₁.setTop (mkF m 8 #[.val (.int p1), .val (.int p2), .val (.int p3), .val (.int p4), .val (.int (3 : Int32)), .unset, .unset, .unset, .unset, .unset, .unset, .unset, .unset] [(.int (XT.ushr p1 (2 : Int32)))])) _
    refine XT.iconstV X0.here hx rfl (1 : Int32) (hb hby at_8) rfl ?_
    show Steps p.tables e below (s₁.setTop (mkF m 9 #[.val (.int p1), .val (.int p2), .val (.int p3), .val (.int p4), .val (.int (3 : Int32)), .unset, .unset, .unset, .unset, .unset, .unset, .unset, .unset] [(.int (1 : Int32)), (.int (XT.ushr p1 (2 : Int32)))])) _
    refine XS.iand X0.here hx rfl (hb hby at_9) rfl ?_
    show Steps p.tables e below (s₁.setTop (mkF m 10 #[.val (.int p1), .val (.int p2), .val (.int p3), .val (.int p4), .val (.int (3 : Int32)), .unset, .unset, .unset, .unset, .unset, .unset, .unset, .unset] [(.int ((XT.ushr p1 (2 : Int32)) &&& (1 : Int32)))])) _
    exact kk
  have thru : ∀ t, Steps p.tables e below (s₁.setTop (mkF m 18 #[.val (.int p1), .val (.int p2), .val (.int p3), .val (.int p4), .val (.int (3 : Int32)), .unset, .unset, .unset, .unset, .unset, .unset, .unset, .unset] [(.int dd)])) t → Steps p.tables e below (s₁.setTop (mkF m 10 #[.val (.int p1), .val (.int p2), .val (.int p3), .val (.int p4), .val (.int (3 : Int32)), .unset, .unset, .unset, .unset, .unset, .unset, .unset, .unset] [(.int ((XT.ushr p1 (2 : Int32)) &&& (1 : Int32)))])) t := by
    intro t kk
    rcases hdd with ⟨rfl, hq⟩ | ⟨rfl, hq⟩
    · show Steps p.tables e below (s₁.setTop (mkF m 10 #[.val (.int p1), .val (.int p2), .val (.int p3), .val (.int p4), .val (.int (3 : Int32)), .unset, .unset, .unset, .unset, .unset, .unset, .unset, .unset] [(.int ((XT.ushr p1 (2 : Int32)) &&& (1 : Int32)))])) _
      refine XS.ifNo X0.here hx rfl (hb hby at_10) rfl (XT.i0_eq_f hq) ?_
      show Steps p.tables e below (s₁.setTop (mkF m 13 #[.val (.int p1), .val (.int p2), .val (.int p3), .val (.int p4), .val (.int (3 : Int32)), .unset, .unset, .unset, .unset, .unset, .unset, .unset, .unset] [])) _
      refine XT.iconstV X0.here hx rfl (1 : Int32) (hb hby at_13) rfl ?_
      show Steps p.tables e below (s₁.setTop (mkF m 14 #[.val (.int p1), .val (.int p2), .val (.int p3), .val (.int p4), .val (.int (3 : Int32)), .unset, .unset, .unset, .unset, .unset, .unset, .unset, .unset] [(.int (1 : Int32))])) _
      refine XS.goto X0.here hx rfl (pc0 := 14) (pc' := 18) rfl (hb hby at_14) (by decide) (by decide) ?_
      show Steps p.tables e below (s₁.setTop (mkF m 18 #[.val (.int p1), .val (.int p2), .val (.int p3), .val (.int p4), .val (.int (3 : Int32)), .unset, .unset, .unset, .unset, .unset, .unset, .unset, .unset] [(.int (1 : Int32))])) _
      exact kk
    · show Steps p.tables e below (s₁.setTop (mkF m 10 #[.val (.int p1), .val (.int p2), .val (.int p3), .val (.int p4), .val (.int (3 : Int32)), .unset, .unset, .unset, .unset, .unset, .unset, .unset, .unset] [(.int ((XT.ushr p1 (2 : Int32)) &&& (1 : Int32)))])) _
      refine XS.ifYes X0.here hx rfl (pc0 := 10) (pc' := 17) rfl (hb hby at_10) rfl (XT.i0_eq_t hq) (by decide) (by decide) ?_
      show Steps p.tables e below (s₁.setTop (mkF m 17 #[.val (.int p1), .val (.int p2), .val (.int p3), .val (.int p4), .val (.int (3 : Int32)), .unset, .unset, .unset, .unset, .unset, .unset, .unset, .unset] [])) _
      refine XT.iconstV X0.here hx rfl (0 : Int32) (hb hby at_17) rfl ?_
      show Steps p.tables e below (s₁.setTop (mkF m 18 #[.val (.int p1), .val (.int p2), .val (.int p3), .val (.int p4), .val (.int (3 : Int32)), .unset, .unset, .unset, .unset, .unset, .unset, .unset, .unset] [(.int (0 : Int32))])) _
      exact kk
  obtain ⟨_, _, ⟨T469, L469, k469, n469⟩, -, X469, ⟨Lc469, hQ469, l469, y469, z469⟩, st469⟩ := Jvm.LawKit.callS X0 hx (y := (⟨"com/example/recourse/recourse/WriteOffActorRecordedAsPinLaw", "draw", "(ZI)C"⟩ : MethodName)) hown (mvT hZ (hw _ (List.mem_of_getElem? (i := 0) rfl))) (mvT hZ (hw _ (List.mem_of_getElem? (i := 1) rfl))) (mvT hZ (hw _ (List.mem_of_getElem? (i := 2) rfl))) (mvT hZ (hw _ (List.mem_of_getElem? (i := 3) rfl))) (by decide) (backOf (W := 0) (own_draw l Z a0 hw [] dd p2 ch0 h0 n0 Z0 hr0) hZ (hw _ (List.mem_of_getElem? (i := 3) rfl)) (hw _ (List.mem_of_getElem? (i := 2) rfl)) (by decide) (by decide)) (g := (mkF m 23 #[.val (.int p1), .val (.int p2), .val (.int p3), .val (.int p4), .val (.int (3 : Int32)), .val (.int dd), .unset, .unset, .unset, .unset, .unset, .unset, .unset] [(.int p2), (.int dd)])) rfl (by rw [hml]; rfl) (argsL := [(.int dd), (.int p2)]) (rest := []) (lenOf pd__ZI_C rfl) rfl (by show 2 * 0 + _ ≤ _; exact Nat.le_of_eq rfl) (hb hby at_23) (fun _ _ => ⟨rfl, e0, (by decide : 0 + 0 ≤ _), (by decide : 0 + 0 ≤ _)⟩)
  dsimp only [Pt.U, Pt.locs, Pt.cells, Pt.slots] at X469 l469 y469 z469 st469 hQ469
  subst l469 y469 z469
  obtain ⟨rfl, N469q, e469⟩ := hQ469
  have N469 := Fr.app N0 N469q
  obtain ⟨_, _, ⟨T470, L470, k470, n470⟩, -, X470, ⟨Lc470, hQ470, l470, y470, z470⟩, st470⟩ := Jvm.LawKit.callS X469 hx (y := (⟨"com/example/recourse/recourse/WriteOffActorRecordedAsPinLaw", "draw", "(ZI)C"⟩ : MethodName)) hown (mvT hZ (hw _ (List.mem_of_getElem? (i := 0) rfl))) (mvT hZ (hw _ (List.mem_of_getElem? (i := 1) rfl))) (mvT hZ (hw _ (List.mem_of_getElem? (i := 2) rfl))) (mvT hZ (hw _ (List.mem_of_getElem? (i := 3) rfl))) (by decide) (backOf (W := 0) (own_draw l Z a0 hw [] dd p3 ch1 h0 n0 Z0 hr1) hZ (hw _ (List.mem_of_getElem? (i := 3) rfl)) (hw _ (List.mem_of_getElem? (i := 2) rfl)) (by decide) (by decide)) (g := (mkF m 31 #[.val (.int p1), .val (.int p2), .val (.int p3), .val (.int p4), .val (.int (3 : Int32)), .val (.int dd), .val (.int ch0), .unset, .unset, .unset, .unset, .unset, .unset] [(.int p3), (.int dd)])) rfl (by rw [hml]; rfl) (argsL := [(.int dd), (.int p3)]) (rest := []) (lenOf pd__ZI_C rfl) rfl (by show 2 * 0 + _ ≤ _; exact Nat.le_of_eq rfl) (hb hby at_31) (fun _ _ => ⟨rfl, e469, (by decide : 0 + 0 ≤ _), (by decide : 0 + 0 ≤ _)⟩)
  dsimp only [Pt.U, Pt.locs, Pt.cells, Pt.slots] at X470 l470 y470 z470 st470 hQ470
  subst l470 y470 z470
  obtain ⟨rfl, N470q, e470⟩ := hQ470
  have N470 := Fr.app N469 N470q
  obtain ⟨_, _, ⟨T471, L471, k471, n471⟩, -, X471, ⟨Lc471, hQ471, l471, y471, z471⟩, st471⟩ := Jvm.LawKit.callS X470 hx (y := (⟨"com/example/recourse/recourse/WriteOffActorRecordedAsPinLaw", "draw", "(ZI)C"⟩ : MethodName)) hown (mvT hZ (hw _ (List.mem_of_getElem? (i := 0) rfl))) (mvT hZ (hw _ (List.mem_of_getElem? (i := 1) rfl))) (mvT hZ (hw _ (List.mem_of_getElem? (i := 2) rfl))) (mvT hZ (hw _ (List.mem_of_getElem? (i := 3) rfl))) (by decide) (backOf (W := 0) (own_draw l Z a0 hw [] dd p4 ch2 h0 n0 Z0 hr2) hZ (hw _ (List.mem_of_getElem? (i := 3) rfl)) (hw _ (List.mem_of_getElem? (i := 2) rfl)) (by decide) (by decide)) (g := (mkF m 39 #[.val (.int p1), .val (.int p2), .val (.int p3), .val (.int p4), .val (.int (3 : Int32)), .val (.int dd), .val (.int ch0), .val (.int ch1), .unset, .unset, .unset, .unset, .unset] [(.int p4), (.int dd)])) rfl (by rw [hml]; rfl) (argsL := [(.int dd), (.int p4)]) (rest := []) (lenOf pd__ZI_C rfl) rfl (by show 2 * 0 + _ ≤ _; exact Nat.le_of_eq rfl) (hb hby at_39) (fun _ _ => ⟨rfl, e470, (by decide : 0 + 0 ≤ _), (by decide : 0 + 0 ≤ _)⟩)
  dsimp only [Pt.U, Pt.locs, Pt.cells, Pt.slots] at X471 l471 y471 z471 st471 hQ471
  subst l471 y471 z471
  obtain ⟨rfl, N471q, e471⟩ := hQ471
  have N471 := Fr.app N470 N471q
  obtain ⟨T472, h472, X472, e472, E472, A472, D472, -, st472⟩ := newO X471 hx hZ hown (hw _ (List.mem_of_getElem? (i := 4) rfl)) (hw _ (List.mem_of_getElem? (i := 5) rfl)) (hw _ (List.mem_of_getElem? (i := 6) rfl)) e471 (g := (mkF m 121 #[.val (.int p1), .val (.int p2), .val (.int p3), .val (.int p4), .val (.int (3 : Int32)), .val (.int dd), .val (.int ch0), .val (.int ch1), .val (.int ch2), .unset, .unset, .unset, .unset] [])) rfl (hb hby at_121) (by decide) (by decide)
  obtain ⟨b472, g472⟩ : ∃ z, z = h0.size := ⟨_, rfl⟩
  rw [← g472] at A472 D472 st472
  have q472 : h0.size ≤ b472 := by rw [g472]; exact Nat.le_refl _
  have EX472 : Ext h0 h472 := E472
  have Z472 : n0 ≤ h472.size := Nat.le_trans Z0 EX472.1
  have Fvalue_473 : Fld Z h472 b472 "java/lang/String" "value" "[B" .null := D472 (Or.inr (hw _ (List.mem_of_getElem? (i := 20) rfl))) (ty := (.array .byte)) (by decide)
  have Fcoder_474 : Fld Z h472 b472 "java/lang/String" "coder" "B" (.int (0 : Int32)) := D472 (Or.inr (hw _ (List.mem_of_getElem? (i := 21) rfl))) (ty := .byte) (by decide)
  obtain ⟨T475, h475, k475, X475, e475, E475, A475, st475⟩ := newP X472 hx hZ (hw _ (List.mem_of_getElem? (i := 7) rfl)) e472 (g := (mkF m 126 #[.val (.int p1), .val (.int p2), .val (.int p3), .val (.int p4), .val (.int (3 : Int32)), .val (.int dd), .val (.int ch0), .val (.int ch1), .val (.int ch2), .unset, .unset, .unset, .unset] [(.int (3 : Int32)), (.ref b472), (.ref b472)])) rfl (hb hby at_126) rfl (by decide) (cap := 3) (by decide) (by decide) (by decide) (by decide)
  obtain ⟨b475, g475⟩ : ∃ z, z = h472.size := ⟨_, rfl⟩
  rw [← g475] at A475 st475
  have V475 : Arv Z h475 b475 k475 .char (3 : Int32) (List.replicate 3 (.int (0 : Int32))) (.int (0 : Int32)) := (Arv.new A475 (by decide)).pad (fun i => pad_rep [] (.int (0 : Int32)) 3 i)
  have q475 : h0.size ≤ b475 := by rw [g475]; exact EX472.1
  have ne_b472_b475 : b472 ≠ b475 := by rw [g475]; exact Nat.ne_of_lt A472.lt
  have A472_476 := A472.ext E475
  have Fvalue_477 := Fvalue_473.ext E475
  have Fcoder_478 := Fcoder_474.ext E475
  have EX475 : Ext h0 h475 := own_ext_trans EX472 E475
  have Z475 : n0 ≤ h475.size := Nat.le_trans Z0 EX475.1
  obtain ⟨T479, h479, X479, e479, W479, V479, st479⟩ := own_stC X475 hx hZ e475 V475 (j := (0 : Int32)) (by decide) (i := 0) (by decide) (by simp) (g := (mkF m 132 #[.val (.int p1), .val (.int p2), .val (.int p3), .val (.int p4), .val (.int (3 : Int32)), .val (.int dd), .val (.int ch0), .val (.int ch1), .val (.int ch2), .unset, .unset, .unset, .unset] [(.int ch0), (.int (0 : Int32)), (.ref b475), (.ref b475), (.ref b472), (.ref b472)])) rfl rfl (hb hby at_132)
  have A472_480 := A472_476.wr W479
  have Fvalue_481 := Fvalue_477.other W479 (Or.inl ne_b472_b475)
  have Fcoder_482 := Fcoder_478.other W479 (Or.inl ne_b472_b475)
  have EX479 : Ext h0 h479 := own_ext_wr EX475 W479 q475
  have Z479 : n0 ≤ h479.size := Nat.le_trans Z0 EX479.1
  have N479 := Fr.snoc X479 N471 (Nat.le_trans Z0 q475)
  obtain ⟨T483, h483, X483, e483, W483, V483, st483⟩ := own_stC X479 hx hZ e479 V479 (j := (1 : Int32)) (by decide) (i := 1) (by decide) (by simp) (g := (mkF m 137 #[.val (.int p1), .val (.int p2), .val (.int p3), .val (.int p4), .val (.int (3 : Int32)), .val (.int dd), .val (.int ch0), .val (.int ch1), .val (.int ch2), .unset, .unset, .unset, .unset] [(.int ch1), (.int (1 : Int32)), (.ref b475), (.ref b475), (.ref b472), (.ref b472)])) rfl rfl (hb hby at_137)
  have A472_484 := A472_480.wr W483
  have Fvalue_485 := Fvalue_481.other W483 (Or.inl ne_b472_b475)
  have Fcoder_486 := Fcoder_482.other W483 (Or.inl ne_b472_b475)
  have EX483 : Ext h0 h483 := own_ext_wr EX479 W483 q475
  have Z483 : n0 ≤ h483.size := Nat.le_trans Z0 EX483.1
  have N483 := Fr.snoc X483 N479 (Nat.le_trans Z0 q475)
  obtain ⟨T487, h487, X487, e487, W487, V487, st487⟩ := own_stC X483 hx hZ e483 V483 (j := (2 : Int32)) (by decide) (i := 2) (by decide) (by simp) (g := (mkF m 142 #[.val (.int p1), .val (.int p2), .val (.int p3), .val (.int p4), .val (.int (3 : Int32)), .val (.int dd), .val (.int ch0), .val (.int ch1), .val (.int ch2), .unset, .unset, .unset, .unset] [(.int ch2), (.int (2 : Int32)), (.ref b475), (.ref b475), (.ref b472), (.ref b472)])) rfl rfl (hb hby at_142)
  have A472_488 := A472_484.wr W487
  have Fvalue_489 := Fvalue_485.other W487 (Or.inl ne_b472_b475)
  have Fcoder_490 := Fcoder_486.other W487 (Or.inl ne_b472_b475)
  have EX487 : Ext h0 h487 := own_ext_wr EX483 W487 q475
  have Z487 : n0 ≤ h487.size := Nat.le_trans Z0 EX487.1
  have N487 := Fr.snoc X487 N483 (Nat.le_trans Z0 q475)
  rw [hr0.2.2.1, hr1.2.2.1, hr2.2.2.1] at V487
  have V491c : Arv Z h487 b475 k475 .char (3 : Int32) [(.int ch0), (.int ch1), (.int ch2)] (.int (0 : Int32)) := V487
  have hws491 : ∀ d ∈ StrChars.Road.words, d.before a0 Z = true := fun d hd => hw d ((by decide +kernel : ∀ d ∈ StrChars.Road.words, d ∈ tables_1) d hd)
  have hlat491 : ∀ c ∈ [ch0, ch1, ch2], ¬ c < 0 ∧ ¬ (255 : Int32) < c := by
    intro c hc
    simp only [List.mem_cons, List.not_mem_nil, or_false] at hc
    rcases hc with rfl | rfl | rfl
    · exact hr0.2.2.2.1
    · exact hr1.2.2.2.1
    · exact hr2.2.2.2.1
  obtain ⟨_, _, ⟨T491, L491, k491, n491⟩, -, X491, ⟨Lc491, hQ491, l491, y491, z491⟩, st491⟩ := X487.specialBack hx (y := (⟨"java/lang/String", "<init>", "([C)V"⟩ : MethodName)) rfl hown (mvT hZ (hw _ (List.mem_of_getElem? (i := 8) rfl))) (mvT hZ (hw _ (List.mem_of_getElem? (i := 9) rfl))) (mvT hZ (hw _ (List.mem_of_getElem? (i := 10) rfl))) (by decide) (StrChars.Road.backV (W := 1) hZ hws491 (kI := 4) (hw _ (List.mem_of_getElem? (i := 5) rfl)) (cs := [ch0, ch1, ch2]) (bs := [ch0.toInt8.toInt32, ch1.toInt8.toInt32, ch2.toInt8.toInt32]) (n := 3) (Nat.le_trans Z0 q472) Z487 A472_488 Fvalue_489 Fcoder_490 V491c (S8.ext EX487) c9 rfl rfl (by decide) (by decide) hlat491 rfl (by decide) (by decide)) (g := (mkF m 143 #[.val (.int p1), .val (.int p2), .val (.int p3), .val (.int p4), .val (.int (3 : Int32)), .val (.int dd), .val (.int ch0), .val (.int ch1), .val (.int ch2), .unset, .unset, .unset, .unset] [(.ref b475), (.ref b472), (.ref b472)])) rfl (by rw [hml]; rfl) (Steps.refl _) (a := b472) (argsL := [(.ref b475)]) (rest := [(.ref b472)]) (lenOf pd__ArC_V rfl) rfl (by show 2 * 0 + _ ≤ _; exact Nat.le_of_eq rfl) (hb hby at_143) (fun _ _ => ⟨rfl, e487, (by decide : 2 + 1 ≤ _), (by decide : 7 + 3 ≤ _)⟩)
  dsimp only [Pt.U, Pt.locs, Pt.cells, Pt.slots] at X491 l491 y491 z491 st491 hQ491
  subst l491 y491 z491
  obtain ⟨rfl, N491q, K491q, E491s, C491s, t491s, kb491s, qn491s, qh491s, qx491s, V491s, B491s⟩ := hQ491
  have N491 := Fr.app N487 N491q
  have q491s : h0.size ≤ t491s := Nat.le_trans EX487.1 qh491s
  have ne_b475_t491s : b475 ≠ t491s := Nat.ne_of_lt (Nat.lt_of_lt_of_le V487.lt qh491s)
  have A472_492 := A472_488.keep K491q
  have V487_493 := V487.keep K491q (ninS (Ne.symm ne_b472_b475) nin0)
  have EX491 : Ext h0 T491.heap := own_ext_keep EX487 K491q (allS q472 all0)
  have Z491 : n0 ≤ T491.heap.size := Nat.le_trans Z0 EX491.1
  have PT494 : own_St Z T491.heap b472 t491s kb491s (3 : Int32) [ch0.toInt8.toInt32, ch1.toInt8.toInt32, ch2.toInt8.toInt32] := ⟨E491s, V491s, C491s, B491s⟩
  have ns0 : s0 ≠ b472 := Nat.ne_of_lt (Nat.lt_of_lt_of_le (own_P_lt P).1 q472)
  have ns1 : s1 ≠ b472 := Nat.ne_of_lt (Nat.lt_of_lt_of_le (own_P_lt P).2 q472)
  obtain ⟨_, _, ⟨T495, L495, k495, n495⟩, -, X495, ⟨Lc495, hQ495, l495, y495, z495⟩, st495⟩ := Jvm.LawKit.callS X491 hx (y := (⟨"com/example/recourse/recourse/WriteOffActor", "recordedAs", "(Ljava/lang/String;)Ljava/util/Optional;"⟩ : MethodName)) hown (mvT hZ (hw _ (List.mem_of_getElem? (i := 26) rfl))) (mvT hZ (hw _ (List.mem_of_getElem? (i := 27) rfl))) (mvT hZ (hw _ (List.mem_of_getElem? (i := 28) rfl))) (mvT hZ (hw _ (List.mem_of_getElem? (i := 29) rfl))) (by decide) (backOf (W := 0) (own_rec_ne l Z a0 hw [] wv w0 w1 r0 r1 s0 s1 c0 c1 we kv kc0 kc1 i7 b472 t491s kb491s (3 : Int32) [ch0.toInt8.toInt32, ch1.toInt8.toInt32, ch2.toInt8.toInt32] T491.heap n0 Z491 (own_P_ext P EX491) PT494 ns0 ns1 (by decide)) hZ (hw _ (List.mem_of_getElem? (i := 29) rfl)) (hw _ (List.mem_of_getElem? (i := 28) rfl)) (by decide) (by decide)) (g := (mkF m 189 #[.val (.int p1), .val (.int p2), .val (.int p3), .val (.int p4), .val (.int (3 : Int32)), .val (.int dd), .val (.int ch0), .val (.int ch1), .val (.int ch2), .val (.ref b472), .val (.int (0 : Int32)), .unset, .unset] [(.ref b472)])) rfl (by rw [hml]; rfl) (argsL := [(.ref b472)]) (rest := []) (lenOf pd__Ljava_lang_String__Ljava_util_Optional_ rfl) rfl (by show 2 * 0 + _ ≤ _; exact Nat.le_of_eq rfl) (hb hby at_189) (fun _ _ => ⟨rfl, rfl, (by decide : 3 + 1 ≤ _), (by decide : 10 + 2 ≤ _)⟩)
  dsimp only [Pt.U, Pt.locs, Pt.cells, Pt.slots] at X495 l495 y495 z495 st495 hQ495
  subst l495 y495 z495
  obtain ⟨rfl, N495q, EE495⟩ := hQ495
  have N495 := Fr.app N491 N495q
  have E491s_496 := E491s.ext EE495
  have V487_497 := V487_493.ext EE495
  have C491s_498 := C491s.ext EE495
  have V491s_499 := V491s.ext EE495
  have B491s_500 := B491s.ext EE495
  have EX495 : Ext h0 T495.heap := own_ext_trans EX491 EE495
  have Z495 : n0 ≤ T495.heap.size := Nat.le_trans Z0 EX495.1
  obtain ⟨cq501, kq501, q501a, q501b, q501c⟩ := isOf hZ rfl (Ee.ext EX495)
  obtain ⟨_, _, ⟨T501, L501, k501, n501⟩, -, X501, ⟨Lc501, hQ501, l501, y501, z501⟩, st501⟩ := X495.virtualBack hx (y := (⟨"java/util/Optional", "isPresent", "()Z"⟩ : MethodName)) (z := (⟨"java/util/Optional", "isPresent", "()Z"⟩ : MethodName)) hown (mvT hZ (hw _ (List.mem_of_getElem? (i := 75) rfl))) (mvT hZ (hw _ (List.mem_of_getElem? (i := 76) rfl))) (notFace_of_selects (args := #[]) (mvT hZ (hw _ (List.mem_of_getElem? (i := 78) rfl)))) (mvT hZ (hw _ (List.mem_of_getElem? (i := 78) rfl))) (mvT hZ (hw _ (List.mem_of_getElem? (i := 77) rfl))) (by decide) (backOf (W := 0) (own_pres_e l Z a0 hw [] we T495.heap n0 Z495 (Fe.ext EX495)) hZ (hw _ (List.mem_of_getElem? (i := 79) rfl)) (hw _ (List.mem_of_getElem? (i := 72) rfl)) (by decide) (by decide)) q501a q501c (g := (mkF m 201 #[.val (.int p1), .val (.int p2), .val (.int p3), .val (.int p4), .val (.int (3 : Int32)), .val (.int dd), .val (.int ch0), .val (.int ch1), .val (.int ch2), .val (.ref b472), .val (.int (0 : Int32)), .val (.ref we), .unset] [(.ref we)])) rfl (by rw [hml]; rfl) (Steps.refl _) (argsL := []) (rest := []) (lenOf pd___Z rfl) rfl (by show 2 * 0 + _ ≤ _; exact Nat.le_of_eq rfl) (hb hby at_201) (fun _ _ => ⟨rfl, rfl, (by decide : 4 + 0 ≤ _), (by decide : 12 + 0 ≤ _)⟩)
  dsimp only [Pt.U, Pt.locs, Pt.cells, Pt.slots] at X501 l501 y501 z501 st501 hQ501
  subst l501 y501 z501
  obtain ⟨rfl, N501q, e501⟩ := hQ501
  have N501 := Fr.app N495 N501q
  obtain ⟨fs, hr, hrun, hended, hRE⟩ := Jvm.Stand.leaveW (s := s) (vm₁ := s.vm) X501 ((State.WarmedH.refl s).since 0) (Nat.le_trans (Nat.zero_le _) (Nat.le_of_eq (congrArg Array.size e501.symm))) (v := some (.int (1 : Int32))) (fun h => by rw [Bd.returns] at h; cases h)
  refine ⟨_, _, pre0 _ (pre1 _ (thru _ ?_)), hrun, hended, _, _, rfl, ?_, ⟨_, rfl⟩, hRE.2.1, hRE.2.2.1, hRE.2.2.2.mono (by decide) (by decide)⟩
  · show Steps p.tables e below (s₁.setTop (mkF m 18 #[.val (.int p1), .val (.int p2), .val (.int p3), .val (.int p4), .val (.int (3 : Int32)), .unset, .unset, .unset, .unset, .unset, .unset, .unset, .unset] [(.int dd)])) _
    refine XS.istore X0.here hx rfl (hb hby at_18) rfl (l' := #[.val (.int p1), .val (.int p2), .val (.int p3), .val (.int p4), .val (.int (3 : Int32)), .val (.int dd), .unset, .unset, .unset, .unset, .unset, .unset, .unset]) rfl ?_
    show Steps p.tables e below (s₁.setTop (mkF m 20 #[.val (.int p1), .val (.int p2), .val (.int p3), .val (.int p4), .val (.int (3 : Int32)), .val (.int dd), .unset, .unset, .unset, .unset, .unset, .unset, .unset] [])) _
    refine XS.iload X0.here hx rfl (hb hby at_20) rfl ?_
    show Steps p.tables e below (s₁.setTop (mkF m 22 #[.val (.int p1), .val (.int p2), .val (.int p3), .val (.int p4), .val (.int (3 : Int32)), .val (.int dd), .unset, .unset, .unset, .unset, .unset, .unset, .unset] [(.int dd)])) _
    refine XS.iloadN X0.here hx rfl (hb hby at_22) rfl ?_
    show Steps p.tables e below (s₁.setTop (mkF m 23 #[.val (.int p1), .val (.int p2), .val (.int p3), .val (.int p4), .val (.int (3 : Int32)), .val (.int dd), .unset, .unset, .unset, .unset, .unset, .unset, .unset] [(.int p2), (.int dd)])) _
    refine st469 _ ?_
    show Steps p.tables e below (T469.setTop (mkF m 26 #[.val (.int p1), .val (.int p2), .val (.int p3), .val (.int p4), .val (.int (3 : Int32)), .val (.int dd), .unset, .unset, .unset, .unset, .unset, .unset, .unset] [(.int ch0)])) _
    refine XS.istore X469.here hx rfl (hb hby at_26) rfl (l' := #[.val (.int p1), .val (.int p2), .val (.int p3), .val (.int p4), .val (.int (3 : Int32)), .val (.int dd), .val (.int ch0), .unset, .unset, .unset, .unset, .unset, .unset]) rfl ?_
    show Steps p.tables e below (T469.setTop (mkF m 28 #[.val (.int p1), .val (.int p2), .val (.int p3), .val (.int p4), .val (.int (3 : Int32)), .val (.int dd), .val (.int ch0), .unset, .unset, .unset, .unset, .unset, .unset] [])) _
    refine XS.iload X469.here hx rfl (hb hby at_28) rfl ?_
    show Steps p.tables e below (T469.setTop (mkF m 30 #[.val (.int p1), .val (.int p2), .val (.int p3), .val (.int p4), .val (.int (3 : Int32)), .val (.int dd), .val (.int ch0), .unset, .unset, .unset, .unset, .unset, .unset] [(.int dd)])) _
    refine XS.iloadN X469.here hx rfl (hb hby at_30) rfl ?_
    show Steps p.tables e below (T469.setTop (mkF m 31 #[.val (.int p1), .val (.int p2), .val (.int p3), .val (.int p4), .val (.int (3 : Int32)), .val (.int dd), .val (.int ch0), .unset, .unset, .unset, .unset, .unset, .unset] [(.int p3), (.int dd)])) _
    refine st470 _ ?_
    show Steps p.tables e below (T470.setTop (mkF m 34 #[.val (.int p1), .val (.int p2), .val (.int p3), .val (.int p4), .val (.int (3 : Int32)), .val (.int dd), .val (.int ch0), .unset, .unset, .unset, .unset, .unset, .unset] [(.int ch1)])) _
    refine XS.istore X470.here hx rfl (hb hby at_34) rfl (l' := #[.val (.int p1), .val (.int p2), .val (.int p3), .val (.int p4), .val (.int (3 : Int32)), .val (.int dd), .val (.int ch0), .val (.int ch1), .unset, .unset, .unset, .unset, .unset]) rfl ?_
    show Steps p.tables e below (T470.setTop (mkF m 36 #[.val (.int p1), .val (.int p2), .val (.int p3), .val (.int p4), .val (.int (3 : Int32)), .val (.int dd), .val (.int ch0), .val (.int ch1), .unset, .unset, .unset, .unset, .unset] [])) _
    refine XS.iload X470.here hx rfl (hb hby at_36) rfl ?_
    show Steps p.tables e below (T470.setTop (mkF m 38 #[.val (.int p1), .val (.int p2), .val (.int p3), .val (.int p4), .val (.int (3 : Int32)), .val (.int dd), .val (.int ch0), .val (.int ch1), .unset, .unset, .unset, .unset, .unset] [(.int dd)])) _
    refine XS.iloadN X470.here hx rfl (hb hby at_38) rfl ?_
    show Steps p.tables e below (T470.setTop (mkF m 39 #[.val (.int p1), .val (.int p2), .val (.int p3), .val (.int p4), .val (.int (3 : Int32)), .val (.int dd), .val (.int ch0), .val (.int ch1), .unset, .unset, .unset, .unset, .unset] [(.int p4), (.int dd)])) _
    refine st471 _ ?_
    show Steps p.tables e below (T471.setTop (mkF m 42 #[.val (.int p1), .val (.int p2), .val (.int p3), .val (.int p4), .val (.int (3 : Int32)), .val (.int dd), .val (.int ch0), .val (.int ch1), .unset, .unset, .unset, .unset, .unset] [(.int ch2)])) _
    refine XS.istore X471.here hx rfl (hb hby at_42) rfl (l' := #[.val (.int p1), .val (.int p2), .val (.int p3), .val (.int p4), .val (.int (3 : Int32)), .val (.int dd), .val (.int ch0), .val (.int ch1), .val (.int ch2), .unset, .unset, .unset, .unset]) rfl ?_
    show Steps p.tables e below (T471.setTop (mkF m 44 #[.val (.int p1), .val (.int p2), .val (.int p3), .val (.int p4), .val (.int (3 : Int32)), .val (.int dd), .val (.int ch0), .val (.int ch1), .val (.int ch2), .unset, .unset, .unset, .unset] [])) _
    refine XS.iload X471.here hx rfl (hb hby at_44) rfl ?_
    show Steps p.tables e below (T471.setTop (mkF m 46 #[.val (.int p1), .val (.int p2), .val (.int p3), .val (.int p4), .val (.int (3 : Int32)), .val (.int dd), .val (.int ch0), .val (.int ch1), .val (.int ch2), .unset, .unset, .unset, .unset] [(.int (3 : Int32))])) _
    refine XS.ifYes X471.here hx rfl (pc0 := 46) (pc' := 64) rfl (hb hby at_46) rfl (by decide) (by decide) (by decide) ?_
    show Steps p.tables e below (T471.setTop (mkF m 64 #[.val (.int p1), .val (.int p2), .val (.int p3), .val (.int p4), .val (.int (3 : Int32)), .val (.int dd), .val (.int ch0), .val (.int ch1), .val (.int ch2), .unset, .unset, .unset, .unset] [])) _
    refine XS.iload X471.here hx rfl (hb hby at_64) rfl ?_
    show Steps p.tables e below (T471.setTop (mkF m 66 #[.val (.int p1), .val (.int p2), .val (.int p3), .val (.int p4), .val (.int (3 : Int32)), .val (.int dd), .val (.int ch0), .val (.int ch1), .val (.int ch2), .unset, .unset, .unset, .unset] [(.int (3 : Int32))])) _
    refine XT.iconstV X471.here hx rfl (1 : Int32) (hb hby at_66) rfl ?_
    show Steps p.tables e below (T471.setTop (mkF m 67 #[.val (.int p1), .val (.int p2), .val (.int p3), .val (.int p4), .val (.int (3 : Int32)), .val (.int dd), .val (.int ch0), .val (.int ch1), .val (.int ch2), .unset, .unset, .unset, .unset] [(.int (1 : Int32)), (.int (3 : Int32))])) _
    refine XS.icmpYes X471.here hx rfl (pc0 := 67) (pc' := 90) rfl (hb hby at_67) rfl (by decide) (by decide) (by decide) ?_
    show Steps p.tables e below (T471.setTop (mkF m 90 #[.val (.int p1), .val (.int p2), .val (.int p3), .val (.int p4), .val (.int (3 : Int32)), .val (.int dd), .val (.int ch0), .val (.int ch1), .val (.int ch2), .unset, .unset, .unset, .unset] [])) _
    refine XS.iload X471.here hx rfl (hb hby at_90) rfl ?_
    show Steps p.tables e below (T471.setTop (mkF m 92 #[.val (.int p1), .val (.int p2), .val (.int p3), .val (.int p4), .val (.int (3 : Int32)), .val (.int dd), .val (.int ch0), .val (.int ch1), .val (.int ch2), .unset, .unset, .unset, .unset] [(.int (3 : Int32))])) _
    refine XT.iconstV X471.here hx rfl (2 : Int32) (hb hby at_92) rfl ?_
    show Steps p.tables e below (T471.setTop (mkF m 93 #[.val (.int p1), .val (.int p2), .val (.int p3), .val (.int p4), .val (.int (3 : Int32)), .val (.int dd), .val (.int ch0), .val (.int ch1), .val (.int ch2), .unset, .unset, .unset, .unset] [(.int (2 : Int32)), (.int (3 : Int32))])) _
    refine XS.icmpYes X471.here hx rfl (pc0 := 93) (pc' := 121) rfl (hb hby at_93) rfl (by decide) (by decide) (by decide) ?_
    show Steps p.tables e below (T471.setTop (mkF m 121 #[.val (.int p1), .val (.int p2), .val (.int p3), .val (.int p4), .val (.int (3 : Int32)), .val (.int dd), .val (.int ch0), .val (.int ch1), .val (.int ch2), .unset, .unset, .unset, .unset] [])) _
    refine st472 _ ?_
    show Steps p.tables e below (T472.setTop (mkF m 124 #[.val (.int p1), .val (.int p2), .val (.int p3), .val (.int p4), .val (.int (3 : Int32)), .val (.int dd), .val (.int ch0), .val (.int ch1), .val (.int ch2), .unset, .unset, .unset, .unset] [(.ref b472)])) _
    refine XS.dup X472.here hx rfl (hb hby at_124) rfl rfl ?_
    show Steps p.tables e below (T472.setTop (mkF m 125 #[.val (.int p1), .val (.int p2), .val (.int p3), .val (.int p4), .val (.int (3 : Int32)), .val (.int dd), .val (.int ch0), .val (.int ch1), .val (.int ch2), .unset, .unset, .unset, .unset] [(.ref b472), (.ref b472)])) _
    refine XT.iconstV X472.here hx rfl (3 : Int32) (hb hby at_125) rfl ?_
    show Steps p.tables e below (T472.setTop (mkF m 126 #[.val (.int p1), .val (.int p2), .val (.int p3), .val (.int p4), .val (.int (3 : Int32)), .val (.int dd), .val (.int ch0), .val (.int ch1), .val (.int ch2), .unset, .unset, .unset, .unset] [(.int (3 : Int32)), (.ref b472), (.ref b472)])) _
    refine st475 _ ?_
    show Steps p.tables e below (T475.setTop (mkF m 128 #[.val (.int p1), .val (.int p2), .val (.int p3), .val (.int p4), .val (.int (3 : Int32)), .val (.int dd), .val (.int ch0), .val (.int ch1), .val (.int ch2), .unset, .unset, .unset, .unset] [(.ref b475), (.ref b472), (.ref b472)])) _
    refine XS.dup X475.here hx rfl (hb hby at_128) rfl rfl ?_
    show Steps p.tables e below (T475.setTop (mkF m 129 #[.val (.int p1), .val (.int p2), .val (.int p3), .val (.int p4), .val (.int (3 : Int32)), .val (.int dd), .val (.int ch0), .val (.int ch1), .val (.int ch2), .unset, .unset, .unset, .unset] [(.ref b475), (.ref b475), (.ref b472), (.ref b472)])) _
    refine XT.iconstV X475.here hx rfl (0 : Int32) (hb hby at_129) rfl ?_
    show Steps p.tables e below (T475.setTop (mkF m 130 #[.val (.int p1), .val (.int p2), .val (.int p3), .val (.int p4), .val (.int (3 : Int32)), .val (.int dd), .val (.int ch0), .val (.int ch1), .val (.int ch2), .unset, .unset, .unset, .unset] [(.int (0 : Int32)), (.ref b475), (.ref b475), (.ref b472), (.ref b472)])) _
    refine XS.iload X475.here hx rfl (hb hby at_130) rfl ?_
    show Steps p.tables e below (T475.setTop (mkF m 132 #[.val (.int p1), .val (.int p2), .val (.int p3), .val (.int p4), .val (.int (3 : Int32)), .val (.int dd), .val (.int ch0), .val (.int ch1), .val (.int ch2), .unset, .unset, .unset, .unset] [(.int ch0), (.int (0 : Int32)), (.ref b475), (.ref b475), (.ref b472), (.ref b472)])) _
    refine st479 _ ?_
    show Steps p.tables e below (T479.setTop (mkF m 133 #[.val (.int p1), .val (.int p2), .val (.int p3), .val (.int p4), .val (.int (3 : Int32)), .val (.int dd), .val (.int ch0), .val (.int ch1), .val (.int ch2), .unset, .unset, .unset, .unset] [(.ref b475), (.ref b472), (.ref b472)])) _
    refine XS.dup X479.here hx rfl (hb hby at_133) rfl rfl ?_
    show Steps p.tables e below (T479.setTop (mkF m 134 #[.val (.int p1), .val (.int p2), .val (.int p3), .val (.int p4), .val (.int (3 : Int32)), .val (.int dd), .val (.int ch0), .val (.int ch1), .val (.int ch2), .unset, .unset, .unset, .unset] [(.ref b475), (.ref b475), (.ref b472), (.ref b472)])) _
    refine XT.iconstV X479.here hx rfl (1 : Int32) (hb hby at_134) rfl ?_
    show Steps p.tables e below (T479.setTop (mkF m 135 #[.val (.int p1), .val (.int p2), .val (.int p3), .val (.int p4), .val (.int (3 : Int32)), .val (.int dd), .val (.int ch0), .val (.int ch1), .val (.int ch2), .unset, .unset, .unset, .unset] [(.int (1 : Int32)), (.ref b475), (.ref b475), (.ref b472), (.ref b472)])) _
    refine XS.iload X479.here hx rfl (hb hby at_135) rfl ?_
    show Steps p.tables e below (T479.setTop (mkF m 137 #[.val (.int p1), .val (.int p2), .val (.int p3), .val (.int p4), .val (.int (3 : Int32)), .val (.int dd), .val (.int ch0), .val (.int ch1), .val (.int ch2), .unset, .unset, .unset, .unset] [(.int ch1), (.int (1 : Int32)), (.ref b475), (.ref b475), (.ref b472), (.ref b472)])) _
    refine st483 _ ?_
    show Steps p.tables e below (T483.setTop (mkF m 138 #[.val (.int p1), .val (.int p2), .val (.int p3), .val (.int p4), .val (.int (3 : Int32)), .val (.int dd), .val (.int ch0), .val (.int ch1), .val (.int ch2), .unset, .unset, .unset, .unset] [(.ref b475), (.ref b472), (.ref b472)])) _
    refine XS.dup X483.here hx rfl (hb hby at_138) rfl rfl ?_
    show Steps p.tables e below (T483.setTop (mkF m 139 #[.val (.int p1), .val (.int p2), .val (.int p3), .val (.int p4), .val (.int (3 : Int32)), .val (.int dd), .val (.int ch0), .val (.int ch1), .val (.int ch2), .unset, .unset, .unset, .unset] [(.ref b475), (.ref b475), (.ref b472), (.ref b472)])) _
    refine XT.iconstV X483.here hx rfl (2 : Int32) (hb hby at_139) rfl ?_
    show Steps p.tables e below (T483.setTop (mkF m 140 #[.val (.int p1), .val (.int p2), .val (.int p3), .val (.int p4), .val (.int (3 : Int32)), .val (.int dd), .val (.int ch0), .val (.int ch1), .val (.int ch2), .unset, .unset, .unset, .unset] [(.int (2 : Int32)), (.ref b475), (.ref b475), (.ref b472), (.ref b472)])) _
    refine XS.iload X483.here hx rfl (hb hby at_140) rfl ?_
    show Steps p.tables e below (T483.setTop (mkF m 142 #[.val (.int p1), .val (.int p2), .val (.int p3), .val (.int p4), .val (.int (3 : Int32)), .val (.int dd), .val (.int ch0), .val (.int ch1), .val (.int ch2), .unset, .unset, .unset, .unset] [(.int ch2), (.int (2 : Int32)), (.ref b475), (.ref b475), (.ref b472), (.ref b472)])) _
    refine st487 _ ?_
    show Steps p.tables e below (T487.setTop (mkF m 143 #[.val (.int p1), .val (.int p2), .val (.int p3), .val (.int p4), .val (.int (3 : Int32)), .val (.int dd), .val (.int ch0), .val (.int ch1), .val (.int ch2), .unset, .unset, .unset, .unset] [(.ref b475), (.ref b472), (.ref b472)])) _
    refine st491.trans ?_
    show Steps p.tables e below (T491.setTop (mkF m 146 #[.val (.int p1), .val (.int p2), .val (.int p3), .val (.int p4), .val (.int (3 : Int32)), .val (.int dd), .val (.int ch0), .val (.int ch1), .val (.int ch2), .unset, .unset, .unset, .unset] [(.ref b472)])) _
    refine XS.astore X491.here hx rfl (hb hby at_146) rfl rfl (l' := #[.val (.int p1), .val (.int p2), .val (.int p3), .val (.int p4), .val (.int (3 : Int32)), .val (.int dd), .val (.int ch0), .val (.int ch1), .val (.int ch2), .val (.ref b472), .unset, .unset, .unset]) rfl ?_
    show Steps p.tables e below (T491.setTop (mkF m 148 #[.val (.int p1), .val (.int p2), .val (.int p3), .val (.int p4), .val (.int (3 : Int32)), .val (.int dd), .val (.int ch0), .val (.int ch1), .val (.int ch2), .val (.ref b472), .unset, .unset, .unset] [])) _
    refine XT.iconstV X491.here hx rfl (0 : Int32) (hb hby at_148) rfl ?_
    show Steps p.tables e below (T491.setTop (mkF m 149 #[.val (.int p1), .val (.int p2), .val (.int p3), .val (.int p4), .val (.int (3 : Int32)), .val (.int dd), .val (.int ch0), .val (.int ch1), .val (.int ch2), .val (.ref b472), .unset, .unset, .unset] [(.int (0 : Int32))])) _
    refine XS.istore X491.here hx rfl (hb hby at_149) rfl (l' := #[.val (.int p1), .val (.int p2), .val (.int p3), .val (.int p4), .val (.int (3 : Int32)), .val (.int dd), .val (.int ch0), .val (.int ch1), .val (.int ch2), .val (.ref b472), .val (.int (0 : Int32)), .unset, .unset]) rfl ?_
    show Steps p.tables e below (T491.setTop (mkF m 151 #[.val (.int p1), .val (.int p2), .val (.int p3), .val (.int p4), .val (.int (3 : Int32)), .val (.int dd), .val (.int ch0), .val (.int ch1), .val (.int ch2), .val (.ref b472), .val (.int (0 : Int32)), .unset, .unset] [])) _
    refine XS.iload X491.here hx rfl (hb hby at_151) rfl ?_
    show Steps p.tables e below (T491.setTop (mkF m 153 #[.val (.int p1), .val (.int p2), .val (.int p3), .val (.int p4), .val (.int (3 : Int32)), .val (.int dd), .val (.int ch0), .val (.int ch1), .val (.int ch2), .val (.ref b472), .val (.int (0 : Int32)), .unset, .unset] [(.int (3 : Int32))])) _
    refine XT.iconstV X491.here hx rfl (2 : Int32) (hb hby at_153) rfl ?_
    show Steps p.tables e below (T491.setTop (mkF m 154 #[.val (.int p1), .val (.int p2), .val (.int p3), .val (.int p4), .val (.int (3 : Int32)), .val (.int dd), .val (.int ch0), .val (.int ch1), .val (.int ch2), .val (.ref b472), .val (.int (0 : Int32)), .unset, .unset] [(.int (2 : Int32)), (.int (3 : Int32))])) _
    refine XS.icmpYes X491.here hx rfl (pc0 := 154) (pc' := 187) rfl (hb hby at_154) rfl (by decide) (by decide) (by decide) ?_
    show Steps p.tables e below (T491.setTop (mkF m 187 #[.val (.int p1), .val (.int p2), .val (.int p3), .val (.int p4), .val (.int (3 : Int32)), .val (.int dd), .val (.int ch0), .val (.int ch1), .val (.int ch2), .val (.ref b472), .val (.int (0 : Int32)), .unset, .unset] [])) _
    refine XS.aload X491.here hx rfl (hb hby at_187) rfl rfl ?_
    show Steps p.tables e below (T491.setTop (mkF m 189 #[.val (.int p1), .val (.int p2), .val (.int p3), .val (.int p4), .val (.int (3 : Int32)), .val (.int dd), .val (.int ch0), .val (.int ch1), .val (.int ch2), .val (.ref b472), .val (.int (0 : Int32)), .unset, .unset] [(.ref b472)])) _
    refine st495 _ ?_
    show Steps p.tables e below (T495.setTop (mkF m 192 #[.val (.int p1), .val (.int p2), .val (.int p3), .val (.int p4), .val (.int (3 : Int32)), .val (.int dd), .val (.int ch0), .val (.int ch1), .val (.int ch2), .val (.ref b472), .val (.int (0 : Int32)), .unset, .unset] [(.ref we)])) _
    refine XS.astore X495.here hx rfl (hb hby at_192) rfl rfl (l' := #[.val (.int p1), .val (.int p2), .val (.int p3), .val (.int p4), .val (.int (3 : Int32)), .val (.int dd), .val (.int ch0), .val (.int ch1), .val (.int ch2), .val (.ref b472), .val (.int (0 : Int32)), .val (.ref we), .unset]) rfl ?_
    show Steps p.tables e below (T495.setTop (mkF m 194 #[.val (.int p1), .val (.int p2), .val (.int p3), .val (.int p4), .val (.int (3 : Int32)), .val (.int dd), .val (.int ch0), .val (.int ch1), .val (.int ch2), .val (.ref b472), .val (.int (0 : Int32)), .val (.ref we), .unset] [])) _
    refine XS.iload X495.here hx rfl (hb hby at_194) rfl ?_
    show Steps p.tables e below (T495.setTop (mkF m 196 #[.val (.int p1), .val (.int p2), .val (.int p3), .val (.int p4), .val (.int (3 : Int32)), .val (.int dd), .val (.int ch0), .val (.int ch1), .val (.int ch2), .val (.ref b472), .val (.int (0 : Int32)), .val (.ref we), .unset] [(.int (0 : Int32))])) _
    refine XS.ifNo X495.here hx rfl (hb hby at_196) rfl (by decide) ?_
    show Steps p.tables e below (T495.setTop (mkF m 199 #[.val (.int p1), .val (.int p2), .val (.int p3), .val (.int p4), .val (.int (3 : Int32)), .val (.int dd), .val (.int ch0), .val (.int ch1), .val (.int ch2), .val (.ref b472), .val (.int (0 : Int32)), .val (.ref we), .unset] [])) _
    refine XS.aload X495.here hx rfl (hb hby at_199) rfl rfl ?_
    show Steps p.tables e below (T495.setTop (mkF m 201 #[.val (.int p1), .val (.int p2), .val (.int p3), .val (.int p4), .val (.int (3 : Int32)), .val (.int dd), .val (.int ch0), .val (.int ch1), .val (.int ch2), .val (.ref b472), .val (.int (0 : Int32)), .val (.ref we), .unset] [(.ref we)])) _
    refine st501.trans ?_
    show Steps p.tables e below (T501.setTop (mkF m 204 #[.val (.int p1), .val (.int p2), .val (.int p3), .val (.int p4), .val (.int (3 : Int32)), .val (.int dd), .val (.int ch0), .val (.int ch1), .val (.int ch2), .val (.ref b472), .val (.int (0 : Int32)), .val (.ref we), .unset] [(.int (0 : Int32))])) _
    refine XS.ifNo X501.here hx rfl (hb hby at_204) rfl (by decide) ?_
    show Steps p.tables e below (T501.setTop (mkF m 207 #[.val (.int p1), .val (.int p2), .val (.int p3), .val (.int p4), .val (.int (3 : Int32)), .val (.int dd), .val (.int ch0), .val (.int ch1), .val (.int ch2), .val (.ref b472), .val (.int (0 : Int32)), .val (.ref we), .unset] [])) _
    refine XT.iconstV X501.here hx rfl (1 : Int32) (hb hby at_207) rfl ?_
    show Steps p.tables e below (T501.setTop (mkF m 208 #[.val (.int p1), .val (.int p2), .val (.int p3), .val (.int p4), .val (.int (3 : Int32)), .val (.int dd), .val (.int ch0), .val (.int ch1), .val (.int ch2), .val (.ref b472), .val (.int (0 : Int32)), .val (.ref we), .unset] [(.int (1 : Int32))])) _
    refine XS.goto X501.here hx rfl (pc0 := 208) (pc' := 212) rfl (hb hby at_208) (by decide) (by decide) ?_
    show Steps p.tables e below (T501.setTop (mkF m 212 #[.val (.int p1), .val (.int p2), .val (.int p3), .val (.int p4), .val (.int (3 : Int32)), .val (.int dd), .val (.int ch0), .val (.int ch1), .val (.int ch2), .val (.ref b472), .val (.int (0 : Int32)), .val (.ref we), .unset] [(.int (1 : Int32))])) _
    exact retN X501 hx (t := .boolean) Bd.returns (by simp) (hb hby at_212) hr
  · show own_Q0 n0 _ T501.heap _
    exact ⟨rfl, N501⟩
set_option maxRecDepth 65536 in
set_option maxHeartbeats 40000000 in
theorem own_law_2a (l : Launch) (Z : State) (a0 : Array Value) (hw : ∀ d ∈ tables_1, d.before a0 Z = true) (ws : List Jvm.Cond) (p1 p2 p3 p4 dd ch0 ch1 ch2 : Int32) (wv w0 w1 r0 r1 s0 s1 c0 c1 we : Addr) (kv kc0 kc1 : ClassId) (i7 : Int32) (h0 : Heap) (n0 : Nat) (Z0 : n0 ≤ h0.size) (P : own_P Z h0 wv w0 w1 r0 r1 s0 s1 c0 c1 we kv kc0 kc1 i7) (hEL : EW Z a0 [("java/lang/String", 7)]) (hr0 : own_dr dd p2 ch0) (hr1 : own_dr dd p3 ch1) (hr2 : own_dr dd p4 ch2) (hdd : (dd = (1 : Int32) ∧ ¬ ((XT.ushr p1 (2 : Int32)) &&& (1 : Int32)) = (0 : Int32)) ∨ (dd = (0 : Int32) ∧ ((XT.ushr p1 (2 : Int32)) &&& (1 : Int32)) = (0 : Int32))) (hk : (p1 &&& (3 : Int32)) = (2 : Int32)) (g0 : ¬ ch0 = (52 : Int32)) :
    MetFree l x (head1 (Jvm.Cond.code x code maxLocals ret :: ws) room_1) (fun a U => a = #[(.int p1), (.int p2), (.int p3), (.int p4)] ∧ Z.Warmed39 U.vm ∧ U.heap = h0 ∧ CHv Z [("java/lang/String", 7)] U.vm h0) (fun _ _ _ _ _ => True) (fun _ U o U' => ∃ v L, o = .returned v ∧ own_Q0 n0 v U'.heap L ∧ ReturnedEndW U o U' L room_1.cells room_1.slots) := by
  refine MetFree.of_bodySF (plainFor_of_name pn_com_example_recourse_recourse_WriteOffActorRecordedAsPinLaw) hisR ?_
  intro p e s m args below meth c s₁ Bd hml0 hP hK
  obtain ⟨rfl, hZ, hh, hCH⟩ := hP
  have hx := Bd.exec
  have hby := Bd.bytes
  have hml : c.maxLocals = 13 := hml0
  have hown : s.vm.findClass "com/example/recourse/recourse/WriteOffActorRecordedAsPinLaw" = some m.cls := findClass_of_methodNamed Bd.named
  have hnm := (name_of_methodNamed Bd.named Bd.method).1
  have X0 : Stand p l e room_1 s m #[(.int p1), (.int p2), (.int p3), (.int p4)] below meth c s₁ [] 0 0 := Stand.of_body Bd
  have e0 : s₁.heap = h0 := by rw [← hh, Bd.state]; rfl
  have N0 := Fr.nil n0
  have pre0 : ∀ t, Steps p.tables e below (s₁.setTop (mkF m 0 #[.val (.int p1), .val (.int p2), .val (.int p3), .val (.int p4), .unset, .unset, .unset, .unset, .unset, .unset, .unset, .unset, .unset] [])) t → Steps p.tables e below (s₁.setTop (entryFrame m #[(.int p1), (.int p2), (.int p3), (.int p4)] maxLocals)) t := fun t k => castTop (ef_code_IIII m p1 p2 p3 p4) k
  obtain ⟨Pv, Ev, Av, Pw0, Pw1, Ew0, Ew1, Fr0, Fr1, Er0, Er1, Fc0, Fc1, Q0, Q1, Pe, Ee, Fe, S8, c9⟩ := id P
  have pre1 : ∀ t, Steps p.tables e below (s₁.setTop (mkF m 10 #[.val (.int p1), .val (.int p2), .val (.int p3), .val (.int p4), .val (.int (2 : Int32)), .unset, .unset, .unset, .unset, .unset, .unset, .unset, .unset] [(.int ((XT.ushr p1 (2 : Int32)) &&& (1 : Int32)))])) t → Steps p.tables e below (s₁.setTop (mkF m 0 #[.val (.int p1), .val (.int p2), .val (.int p3), .val (.int p4), .unset, .unset, .unset, .unset, .unset, .unset, .unset, .unset, .unset] [])) t := by
    intro t kk
    show Steps p.tables e below (s₁.setTop (mkF m 0 #[.val (.int p1), .val (.int p2), .val (.int p3), .val (.int p4), .unset, .unset, .unset, .unset, .unset, .unset, .unset, .unset, .unset] [])) _
    refine XS.iloadN X0.here hx rfl (hb hby at_0) rfl ?_
    show Steps p.tables e below (s₁.setTop (mkF m 1 #[.val (.int p1), .val (.int p2), .val (.int p3), .val (.int p4), .unset, .unset, .unset, .unset, .unset, .unset, .unset, .unset, .unset] [(.int p1)])) _
    refine XT.iconstV X0.here hx rfl (3 : Int32) (hb hby at_1) rfl ?_
    show Steps p.tables e below (s₁.setTop (mkF m 2 #[.val (.int p1), .val (.int p2), .val (.int p3), .val (.int p4), .unset, .unset, .unset, .unset, .unset, .unset, .unset, .unset, .unset] [(.int (3 : Int32)), (.int p1)])) _
    refine XS.iand X0.here hx rfl (hb hby at_2) rfl ?_
    show Steps p.tables e below (s₁.setTop (mkF m 3 #[.val (.int p1), .val (.int p2), .val (.int p3), .val (.int p4), .unset, .unset, .unset, .unset, .unset, .unset, .unset, .unset, .unset] [(.int (p1 &&& (3 : Int32)))])) _
    rw [hk]
    show Steps p.tables e below (s₁.setTop (mkF m 3 #[.val (.int p1), .val (.int p2), .val (.int p3), .val (.int p4), .unset, .unset, .unset, .unset, .unset, .unset, .unset, .unset, .unset] [(.int (2 : Int32))])) _
    refine XS.istore X0.here hx rfl (hb hby at_3) rfl (l' := #[.val (.int p1), .val (.int p2), .val (.int p3), .val (.int p4), .val (.int (2 : Int32)), .unset, .unset, .unset, .unset, .unset, .unset, .unset, .unset]) rfl ?_
    show Steps p.tables e below (s₁.setTop (mkF m 5 #[.val (.int p1), .val (.int p2), .val (.int p3), .val (.int p4), .val (.int (2 : Int32)), .unset, .unset, .unset, .unset, .unset, .unset, .unset, .unset] [])) _
    refine XS.iloadN X0.here hx rfl (hb hby at_5) rfl ?_
    show Steps p.tables e below (s₁.setTop (mkF m 6 #[.val (.int p1), .val (.int p2), .val (.int p3), .val (.int p4), .val (.int (2 : Int32)), .unset, .unset, .unset, .unset, .unset, .unset, .unset, .unset] [(.int p1)])) _
    refine XT.iconstV X0.here hx rfl (2 : Int32) (hb hby at_6) rfl ?_
    show Steps p.tables e below (s₁.setTop (mkF m 7 #[.val (.int p1), .val (.int p2), .val (.int p3), .val (.int p4), .val (.int (2 : Int32)), .unset, .unset, .unset, .unset, .unset, .unset, .unset, .unset] [(.int (2 : Int32)), (.int p1)])) _
    refine XT.iushr X0.here hx rfl (hb hby at_7) rfl ?_
    show Steps p.tables e below (s₁.setTop (mkF m 8 #[.val (.int p1), .val (.int p2), .val (.int p3), .val (.int p4), .val (.int (2 : Int32)), .unset, .unset, .unset, .unset, .unset, .unset, .unset, .unset] [(.int (XT.ushr p1 (2 : Int32)))])) _
    refine XT.iconstV X0.here hx rfl (1 : Int32) (hb hby at_8) rfl ?_
    show Steps p.tables e below (s₁.setTop (mkF m 9 #[.val (.int p1), .val (.int p2), .val (.int p3), .val (.int p4), .val (.int (2 : Int32)), .unset, .unset, .unset, .unset, .unset, .unset, .unset, .unset] [(.int (1 : Int32)), (.int (XT.ushr p1 (2 : Int32)))])) _
    refine XS.iand X0.here hx rfl (hb hby at_9) rfl ?_
    show Steps p.tables e below (s₁.setTop (mkF m 10 #[.val (.int p1), .val (.int p2), .val (.int p3), .val (.int p4), .val (.int (2 : Int32)), .unset, .unset, .unset, .unset, .unset, .unset, .unset, .unset] [(.int ((XT.ushr p1 (2 : Int32)) &&& (1 : Int32)))])) _
    exact kk
  have thru : ∀ t, Steps p.tables e below (s₁.setTop (mkF m 18 #[.val (.int p1), .val (.int p2), .val (.int p3), .val (.int p4), .val (.int (2 : Int32)), .unset, .unset, .unset, .unset, .unset, .unset, .unset, .unset] [(.int dd)])) t → Steps p.tables e below (s₁.setTop (mkF m 10 #[.val (.int p1), .val (.int p2), .val (.int p3), .val (.int p4), .val (.int (2 : Int32)), .unset, .unset, .unset, .unset, .unset, .unset, .unset, .unset] [(.int ((XT.ushr p1 (2 : Int32)) &&& (1 : Int32)))])) t := by
    intro t kk
    rcases hdd with ⟨rfl, hq⟩ | ⟨rfl, hq⟩
    · show Steps p.tables e below (s₁.setTop (mkF m 10 #[.val (.int p1), .val (.int p2), .val (.int p3), .val (.int p4), .val (.int (2 : Int32)), .unset, .unset, .unset, .unset, .unset, .unset, .unset, .unset] [(.int ((XT.ushr p1 (2 : Int32)) &&& (1 : Int32)))])) _
      refine XS.ifNo X0.here hx rfl (hb hby at_10) rfl (XT.i0_eq_f hq) ?_
      show Steps p.tables e below (s₁.setTop (mkF m 13 #[.val (.int p1), .val (.int p2), .val (.int p3), .val (.int p4), .val (.int (2 : Int32)), .unset, .unset, .unset, .unset, .unset, .unset, .unset, .unset] [])) _
      refine XT.iconstV X0.here hx rfl (1 : Int32) (hb hby at_13) rfl ?_
      show Steps p.tables e below (s₁.setTop (mkF m 14 #[.val (.int p1), .val (.int p2), .val (.int p3), .val (.int p4), .val (.int (2 : Int32)), .unset, .unset, .unset, .unset, .unset, .unset, .unset, .unset] [(.int (1 : Int32))])) _
      refine XS.goto X0.here hx rfl (pc0 := 14) (pc' := 18) rfl (hb hby at_14) (by decide) (by decide) ?_
      show Steps p.tables e below (s₁.setTop (mkF m 18 #[.val (.int p1), .val (.int p2), .val (.int p3), .val (.int p4), .val (.int (2 : Int32)), .unset, .unset, .unset, .unset, .unset, .unset, .unset, .unset] [(.int (1 : Int32))])) _
      exact kk
    · show Steps p.tables e below (s₁.setTop (mkF m 10 #[.val (.int p1), .val (.int p2), .val (.int p3), .val (.int p4), .val (.int (2 : Int32)), .unset, .unset, .unset, .unset, .unset, .unset, .unset, .unset] [(.int ((XT.ushr p1 (2 : Int32)) &&& (1 : Int32)))])) _
      refine XS.ifYes X0.here hx rfl (pc0 := 10) (pc' := 17) rfl (hb hby at_10) rfl (XT.i0_eq_t hq) (by decide) (by decide) ?_
      show Steps p.tables e below (s₁.setTop (mkF m 17 #[.val (.int p1), .val (.int p2), .val (.int p3), .val (.int p4), .val (.int (2 : Int32)), .unset, .unset, .unset, .unset, .unset, .unset, .unset, .unset] [])) _
      refine XT.iconstV X0.here hx rfl (0 : Int32) (hb hby at_17) rfl ?_
      show Steps p.tables e below (s₁.setTop (mkF m 18 #[.val (.int p1), .val (.int p2), .val (.int p3), .val (.int p4), .val (.int (2 : Int32)), .unset, .unset, .unset, .unset, .unset, .unset, .unset, .unset] [(.int (0 : Int32))])) _
      exact kk
  obtain ⟨_, _, ⟨T502, L502, k502, n502⟩, -, X502, ⟨Lc502, hQ502, l502, y502, z502⟩, st502⟩ := Jvm.LawKit.callS X0 hx (y := (⟨"com/example/recourse/recourse/WriteOffActorRecordedAsPinLaw", "draw", "(ZI)C"⟩ : MethodName)) hown (mvT hZ (hw _ (List.mem_of_getElem? (i := 0) rfl))) (mvT hZ (hw _ (List.mem_of_getElem? (i := 1) rfl))) (mvT hZ (hw _ (List.mem_of_getElem? (i := 2) rfl))) (mvT hZ (hw _ (List.mem_of_getElem? (i := 3) rfl))) (by decide) (backOf (W := 0) (own_draw l Z a0 hw [] dd p2 ch0 h0 n0 Z0 hr0) hZ (hw _ (List.mem_of_getElem? (i := 3) rfl)) (hw _ (List.mem_of_getElem? (i := 2) rfl)) (by decide) (by decide)) (g := (mkF m 23 #[.val (.int p1), .val (.int p2), .val (.int p3), .val (.int p4), .val (.int (2 : Int32)), .val (.int dd), .unset, .unset, .unset, .unset, .unset, .unset, .unset] [(.int p2), (.int dd)])) rfl (by rw [hml]; rfl) (argsL := [(.int dd), (.int p2)]) (rest := []) (lenOf pd__ZI_C rfl) rfl (by show 2 * 0 + _ ≤ _; exact Nat.le_of_eq rfl) (hb hby at_23) (fun _ _ => ⟨rfl, e0, (by decide : 0 + 0 ≤ _), (by decide : 0 + 0 ≤ _)⟩)
  dsimp only [Pt.U, Pt.locs, Pt.cells, Pt.slots] at X502 l502 y502 z502 st502 hQ502
  subst l502 y502 z502
  obtain ⟨rfl, N502q, e502⟩ := hQ502
  have N502 := Fr.app N0 N502q
  obtain ⟨_, _, ⟨T503, L503, k503, n503⟩, -, X503, ⟨Lc503, hQ503, l503, y503, z503⟩, st503⟩ := Jvm.LawKit.callS X502 hx (y := (⟨"com/example/recourse/recourse/WriteOffActorRecordedAsPinLaw", "draw", "(ZI)C"⟩ : MethodName)) hown (mvT hZ (hw _ (List.mem_of_getElem? (i := 0) rfl))) (mvT hZ (hw _ (List.mem_of_getElem? (i := 1) rfl))) (mvT hZ (hw _ (List.mem_of_getElem? (i := 2) rfl))) (mvT hZ (hw _ (List.mem_of_getElem? (i := 3) rfl))) (by decide) (backOf (W := 0) (own_draw l Z a0 hw [] dd p3 ch1 h0 n0 Z0 hr1) hZ (hw _ (List.mem_of_getElem? (i := 3) rfl)) (hw _ (List.mem_of_getElem? (i := 2) rfl)) (by decide) (by decide)) (g := (mkF m 31 #[.val (.int p1), .val (.int p2), .val (.int p3), .val (.int p4), .val (.int (2 : Int32)), .val (.int dd), .val (.int ch0), .unset, .unset, .unset, .unset, .unset, .unset] [(.int p3), (.int dd)])) rfl (by rw [hml]; rfl) (argsL := [(.int dd), (.int p3)]) (rest := []) (lenOf pd__ZI_C rfl) rfl (by show 2 * 0 + _ ≤ _; exact Nat.le_of_eq rfl) (hb hby at_31) (fun _ _ => ⟨rfl, e502, (by decide : 0 + 0 ≤ _), (by decide : 0 + 0 ≤ _)⟩)
  dsimp only [Pt.U, Pt.locs, Pt.cells, Pt.slots] at X503 l503 y503 z503 st503 hQ503
  subst l503 y503 z503
  obtain ⟨rfl, N503q, e503⟩ := hQ503
  have N503 := Fr.app N502 N503q
  obtain ⟨_, _, ⟨T504, L504, k504, n504⟩, -, X504, ⟨Lc504, hQ504, l504, y504, z504⟩, st504⟩ := Jvm.LawKit.callS X503 hx (y := (⟨"com/example/recourse/recourse/WriteOffActorRecordedAsPinLaw", "draw", "(ZI)C"⟩ : MethodName)) hown (mvT hZ (hw _ (List.mem_of_getElem? (i := 0) rfl))) (mvT hZ (hw _ (List.mem_of_getElem? (i := 1) rfl))) (mvT hZ (hw _ (List.mem_of_getElem? (i := 2) rfl))) (mvT hZ (hw _ (List.mem_of_getElem? (i := 3) rfl))) (by decide) (backOf (W := 0) (own_draw l Z a0 hw [] dd p4 ch2 h0 n0 Z0 hr2) hZ (hw _ (List.mem_of_getElem? (i := 3) rfl)) (hw _ (List.mem_of_getElem? (i := 2) rfl)) (by decide) (by decide)) (g := (mkF m 39 #[.val (.int p1), .val (.int p2), .val (.int p3), .val (.int p4), .val (.int (2 : Int32)), .val (.int dd), .val (.int ch0), .val (.int ch1), .unset, .unset, .unset, .unset, .unset] [(.int p4), (.int dd)])) rfl (by rw [hml]; rfl) (argsL := [(.int dd), (.int p4)]) (rest := []) (lenOf pd__ZI_C rfl) rfl (by show 2 * 0 + _ ≤ _; exact Nat.le_of_eq rfl) (hb hby at_39) (fun _ _ => ⟨rfl, e503, (by decide : 0 + 0 ≤ _), (by decide : 0 + 0 ≤ _)⟩)
  dsimp only [Pt.U, Pt.locs, Pt.cells, Pt.slots] at X504 l504 y504 z504 st504 hQ504
  subst l504 y504 z504
  obtain ⟨rfl, N504q, e504⟩ := hQ504
  have N504 := Fr.app N503 N504q
  obtain ⟨T505, h505, X505, e505, E505, A505, D505, -, st505⟩ := newO X504 hx hZ hown (hw _ (List.mem_of_getElem? (i := 4) rfl)) (hw _ (List.mem_of_getElem? (i := 5) rfl)) (hw _ (List.mem_of_getElem? (i := 6) rfl)) e504 (g := (mkF m 96 #[.val (.int p1), .val (.int p2), .val (.int p3), .val (.int p4), .val (.int (2 : Int32)), .val (.int dd), .val (.int ch0), .val (.int ch1), .val (.int ch2), .unset, .unset, .unset, .unset] [])) rfl (hb hby at_96) (by decide) (by decide)
  obtain ⟨b505, g505⟩ : ∃ z, z = h0.size := ⟨_, rfl⟩
  rw [← g505] at A505 D505 st505
  have q505 : h0.size ≤ b505 := by rw [g505]; exact Nat.le_refl _
  have EX505 : Ext h0 h505 := E505
  have Z505 : n0 ≤ h505.size := Nat.le_trans Z0 EX505.1
  have Fvalue_506 : Fld Z h505 b505 "java/lang/String" "value" "[B" .null := D505 (Or.inr (hw _ (List.mem_of_getElem? (i := 20) rfl))) (ty := (.array .byte)) (by decide)
  have Fcoder_507 : Fld Z h505 b505 "java/lang/String" "coder" "B" (.int (0 : Int32)) := D505 (Or.inr (hw _ (List.mem_of_getElem? (i := 21) rfl))) (ty := .byte) (by decide)
  obtain ⟨T508, h508, k508, X508, e508, E508, A508, st508⟩ := newP X505 hx hZ (hw _ (List.mem_of_getElem? (i := 7) rfl)) e505 (g := (mkF m 101 #[.val (.int p1), .val (.int p2), .val (.int p3), .val (.int p4), .val (.int (2 : Int32)), .val (.int dd), .val (.int ch0), .val (.int ch1), .val (.int ch2), .unset, .unset, .unset, .unset] [(.int (2 : Int32)), (.ref b505), (.ref b505)])) rfl (hb hby at_101) rfl (by decide) (cap := 2) (by decide) (by decide) (by decide) (by decide)
  obtain ⟨b508, g508⟩ : ∃ z, z = h505.size := ⟨_, rfl⟩
  rw [← g508] at A508 st508
  have V508 : Arv Z h508 b508 k508 .char (2 : Int32) (List.replicate 2 (.int (0 : Int32))) (.int (0 : Int32)) := (Arv.new A508 (by decide)).pad (fun i => pad_rep [] (.int (0 : Int32)) 2 i)
  have q508 : h0.size ≤ b508 := by rw [g508]; exact EX505.1
  have ne_b505_b508 : b505 ≠ b508 := by rw [g508]; exact Nat.ne_of_lt A505.lt
  have A505_509 := A505.ext E508
  have Fvalue_510 := Fvalue_506.ext E508
  have Fcoder_511 := Fcoder_507.ext E508
  have EX508 : Ext h0 h508 := own_ext_trans EX505 E508
  have Z508 : n0 ≤ h508.size := Nat.le_trans Z0 EX508.1
  obtain ⟨T512, h512, X512, e512, W512, V512, st512⟩ := own_stC X508 hx hZ e508 V508 (j := (0 : Int32)) (by decide) (i := 0) (by decide) (by simp) (g := (mkF m 107 #[.val (.int p1), .val (.int p2), .val (.int p3), .val (.int p4), .val (.int (2 : Int32)), .val (.int dd), .val (.int ch0), .val (.int ch1), .val (.int ch2), .unset, .unset, .unset, .unset] [(.int ch0), (.int (0 : Int32)), (.ref b508), (.ref b508), (.ref b505), (.ref b505)])) rfl rfl (hb hby at_107)
  have A505_513 := A505_509.wr W512
  have Fvalue_514 := Fvalue_510.other W512 (Or.inl ne_b505_b508)
  have Fcoder_515 := Fcoder_511.other W512 (Or.inl ne_b505_b508)
  have EX512 : Ext h0 h512 := own_ext_wr EX508 W512 q508
  have Z512 : n0 ≤ h512.size := Nat.le_trans Z0 EX512.1
  have N512 := Fr.snoc X512 N504 (Nat.le_trans Z0 q508)
  obtain ⟨T516, h516, X516, e516, W516, V516, st516⟩ := own_stC X512 hx hZ e512 V512 (j := (1 : Int32)) (by decide) (i := 1) (by decide) (by simp) (g := (mkF m 112 #[.val (.int p1), .val (.int p2), .val (.int p3), .val (.int p4), .val (.int (2 : Int32)), .val (.int dd), .val (.int ch0), .val (.int ch1), .val (.int ch2), .unset, .unset, .unset, .unset] [(.int ch1), (.int (1 : Int32)), (.ref b508), (.ref b508), (.ref b505), (.ref b505)])) rfl rfl (hb hby at_112)
  have A505_517 := A505_513.wr W516
  have Fvalue_518 := Fvalue_514.other W516 (Or.inl ne_b505_b508)
  have Fcoder_519 := Fcoder_515.other W516 (Or.inl ne_b505_b508)
  have EX516 : Ext h0 h516 := own_ext_wr EX512 W516 q508
  have Z516 : n0 ≤ h516.size := Nat.le_trans Z0 EX516.1
  have N516 := Fr.snoc X516 N512 (Nat.le_trans Z0 q508)
  rw [hr0.2.2.1, hr1.2.2.1] at V516
  have V520c : Arv Z h516 b508 k508 .char (2 : Int32) [(.int ch0), (.int ch1)] (.int (0 : Int32)) := V516
  have hws520 : ∀ d ∈ StrChars.Road.words, d.before a0 Z = true := fun d hd => hw d ((by decide +kernel : ∀ d ∈ StrChars.Road.words, d ∈ tables_1) d hd)
  have hlat520 : ∀ c ∈ [ch0, ch1], ¬ c < 0 ∧ ¬ (255 : Int32) < c := by
    intro c hc
    simp only [List.mem_cons, List.not_mem_nil, or_false] at hc
    rcases hc with rfl | rfl
    · exact hr0.2.2.2.1
    · exact hr1.2.2.2.1
  obtain ⟨_, _, ⟨T520, L520, k520, n520⟩, -, X520, ⟨Lc520, hQ520, l520, y520, z520⟩, st520⟩ := X516.specialBack hx (y := (⟨"java/lang/String", "<init>", "([C)V"⟩ : MethodName)) rfl hown (mvT hZ (hw _ (List.mem_of_getElem? (i := 8) rfl))) (mvT hZ (hw _ (List.mem_of_getElem? (i := 9) rfl))) (mvT hZ (hw _ (List.mem_of_getElem? (i := 10) rfl))) (by decide) (StrChars.Road.backV (W := 1) hZ hws520 (kI := 4) (hw _ (List.mem_of_getElem? (i := 5) rfl)) (cs := [ch0, ch1]) (bs := [ch0.toInt8.toInt32, ch1.toInt8.toInt32]) (n := 2) (Nat.le_trans Z0 q505) Z516 A505_517 Fvalue_518 Fcoder_519 V520c (S8.ext EX516) c9 rfl rfl (by decide) (by decide) hlat520 rfl (by decide) (by decide)) (g := (mkF m 113 #[.val (.int p1), .val (.int p2), .val (.int p3), .val (.int p4), .val (.int (2 : Int32)), .val (.int dd), .val (.int ch0), .val (.int ch1), .val (.int ch2), .unset, .unset, .unset, .unset] [(.ref b508), (.ref b505), (.ref b505)])) rfl (by rw [hml]; rfl) (Steps.refl _) (a := b505) (argsL := [(.ref b508)]) (rest := [(.ref b505)]) (lenOf pd__ArC_V rfl) rfl (by show 2 * 0 + _ ≤ _; exact Nat.le_of_eq rfl) (hb hby at_113) (fun _ _ => ⟨rfl, e516, (by decide : 2 + 1 ≤ _), (by decide : 6 + 2 ≤ _)⟩)
  dsimp only [Pt.U, Pt.locs, Pt.cells, Pt.slots] at X520 l520 y520 z520 st520 hQ520
  subst l520 y520 z520
  obtain ⟨rfl, N520q, K520q, E520s, C520s, t520s, kb520s, qn520s, qh520s, qx520s, V520s, B520s⟩ := hQ520
  have N520 := Fr.app N516 N520q
  have q520s : h0.size ≤ t520s := Nat.le_trans EX516.1 qh520s
  have ne_b508_t520s : b508 ≠ t520s := Nat.ne_of_lt (Nat.lt_of_lt_of_le V516.lt qh520s)
  have A505_521 := A505_517.keep K520q
  have V516_522 := V516.keep K520q (ninS (Ne.symm ne_b505_b508) nin0)
  have EX520 : Ext h0 T520.heap := own_ext_keep EX516 K520q (allS q505 all0)
  have Z520 : n0 ≤ T520.heap.size := Nat.le_trans Z0 EX520.1
  have PT523 : own_St Z T520.heap b505 t520s kb520s (2 : Int32) [ch0.toInt8.toInt32, ch1.toInt8.toInt32] := ⟨E520s, V520s, C520s, B520s⟩
  have ns0 : s0 ≠ b505 := Nat.ne_of_lt (Nat.lt_of_lt_of_le (own_P_lt P).1 q505)
  have ns1 : s1 ≠ b505 := Nat.ne_of_lt (Nat.lt_of_lt_of_le (own_P_lt P).2 q505)
  obtain ⟨_, _, ⟨T524, L524, k524, n524⟩, -, X524, ⟨Lc524, hQ524, l524, y524, z524⟩, st524⟩ := Jvm.LawKit.callS X520 hx (y := (⟨"com/example/recourse/recourse/WriteOffActor", "recordedAs", "(Ljava/lang/String;)Ljava/util/Optional;"⟩ : MethodName)) hown (mvT hZ (hw _ (List.mem_of_getElem? (i := 26) rfl))) (mvT hZ (hw _ (List.mem_of_getElem? (i := 27) rfl))) (mvT hZ (hw _ (List.mem_of_getElem? (i := 28) rfl))) (mvT hZ (hw _ (List.mem_of_getElem? (i := 29) rfl))) (by decide) (backOf (W := 0) (own_rec_s0 l Z a0 hw [] wv w0 w1 r0 r1 s0 s1 c0 c1 we kv kc0 kc1 i7 b505 t520s kb520s ch0.toInt8.toInt32 ch1.toInt8.toInt32 T520.heap n0 Z520 (own_P_ext P EX520) PT523 ns0 ns1 (fun q => g0 (hr0.2.2.2.2.1.mpr q))) hZ (hw _ (List.mem_of_getElem? (i := 29) rfl)) (hw _ (List.mem_of_getElem? (i := 28) rfl)) (by decide) (by decide)) (g := (mkF m 189 #[.val (.int p1), .val (.int p2), .val (.int p3), .val (.int p4), .val (.int (2 : Int32)), .val (.int dd), .val (.int ch0), .val (.int ch1), .val (.int ch2), .val (.ref b505), .val (.int (0 : Int32)), .unset, .unset] [(.ref b505)])) rfl (by rw [hml]; rfl) (argsL := [(.ref b505)]) (rest := []) (lenOf pd__Ljava_lang_String__Ljava_util_Optional_ rfl) rfl (by show 2 * 0 + _ ≤ _; exact Nat.le_of_eq rfl) (hb hby at_189) (fun _ _ => ⟨rfl, rfl, (by decide : 3 + 1 ≤ _), (by decide : 8 + 2 ≤ _)⟩)
  dsimp only [Pt.U, Pt.locs, Pt.cells, Pt.slots] at X524 l524 y524 z524 st524 hQ524
  subst l524 y524 z524
  obtain ⟨rfl, N524q, EE524⟩ := hQ524
  have N524 := Fr.app N520 N524q
  have E520s_525 := E520s.ext EE524
  have V516_526 := V516_522.ext EE524
  have C520s_527 := C520s.ext EE524
  have V520s_528 := V520s.ext EE524
  have B520s_529 := B520s.ext EE524
  have EX524 : Ext h0 T524.heap := own_ext_trans EX520 EE524
  have Z524 : n0 ≤ T524.heap.size := Nat.le_trans Z0 EX524.1
  obtain ⟨cq530, kq530, q530a, q530b, q530c⟩ := isOf hZ rfl (Ee.ext EX524)
  obtain ⟨_, _, ⟨T530, L530, k530, n530⟩, -, X530, ⟨Lc530, hQ530, l530, y530, z530⟩, st530⟩ := X524.virtualBack hx (y := (⟨"java/util/Optional", "isPresent", "()Z"⟩ : MethodName)) (z := (⟨"java/util/Optional", "isPresent", "()Z"⟩ : MethodName)) hown (mvT hZ (hw _ (List.mem_of_getElem? (i := 75) rfl))) (mvT hZ (hw _ (List.mem_of_getElem? (i := 76) rfl))) (notFace_of_selects (args := #[]) (mvT hZ (hw _ (List.mem_of_getElem? (i := 78) rfl)))) (mvT hZ (hw _ (List.mem_of_getElem? (i := 78) rfl))) (mvT hZ (hw _ (List.mem_of_getElem? (i := 77) rfl))) (by decide) (backOf (W := 0) (own_pres_e l Z a0 hw [] we T524.heap n0 Z524 (Fe.ext EX524)) hZ (hw _ (List.mem_of_getElem? (i := 79) rfl)) (hw _ (List.mem_of_getElem? (i := 72) rfl)) (by decide) (by decide)) q530a q530c (g := (mkF m 201 #[.val (.int p1), .val (.int p2), .val (.int p3), .val (.int p4), .val (.int (2 : Int32)), .val (.int dd), .val (.int ch0), .val (.int ch1), .val (.int ch2), .val (.ref b505), .val (.int (0 : Int32)), .val (.ref we), .unset] [(.ref we)])) rfl (by rw [hml]; rfl) (Steps.refl _) (argsL := []) (rest := []) (lenOf pd___Z rfl) rfl (by show 2 * 0 + _ ≤ _; exact Nat.le_of_eq rfl) (hb hby at_201) (fun _ _ => ⟨rfl, rfl, (by decide : 4 + 0 ≤ _), (by decide : 10 + 0 ≤ _)⟩)
  dsimp only [Pt.U, Pt.locs, Pt.cells, Pt.slots] at X530 l530 y530 z530 st530 hQ530
  subst l530 y530 z530
  obtain ⟨rfl, N530q, e530⟩ := hQ530
  have N530 := Fr.app N524 N530q
  obtain ⟨fs, hr, hrun, hended, hRE⟩ := Jvm.Stand.leaveW (s := s) (vm₁ := s.vm) X530 ((State.WarmedH.refl s).since 0) (Nat.le_trans (Nat.zero_le _) (Nat.le_of_eq (congrArg Array.size e530.symm))) (v := some (.int (1 : Int32))) (fun h => by rw [Bd.returns] at h; cases h)
  refine ⟨_, _, pre0 _ (pre1 _ (thru _ ?_)), hrun, hended, _, _, rfl, ?_, ⟨_, rfl⟩, hRE.2.1, hRE.2.2.1, hRE.2.2.2.mono (by decide) (by decide)⟩
  · show Steps p.tables e below (s₁.setTop (mkF m 18 #[.val (.int p1), .val (.int p2), .val (.int p3), .val (.int p4), .val (.int (2 : Int32)), .unset, .unset, .unset, .unset, .unset, .unset, .unset, .unset] [(.int dd)])) _
    refine XS.istore X0.here hx rfl (hb hby at_18) rfl (l' := #[.val (.int p1), .val (.int p2), .val (.int p3), .val (.int p4), .val (.int (2 : Int32)), .val (.int dd), .unset, .unset, .unset, .unset, .unset, .unset, .unset]) rfl ?_
    show Steps p.tables e below (s₁.setTop (mkF m 20 #[.val (.int p1), .val (.int p2), .val (.int p3), .val (.int p4), .val (.int (2 : Int32)), .val (.int dd), .unset, .unset, .unset, .unset, .unset, .unset, .unset] [])) _
    refine XS.iload X0.here hx rfl (hb hby at_20) rfl ?_
    show Steps p.tables e below (s₁.setTop (mkF m 22 #[.val (.int p1), .val (.int p2), .val (.int p3), .val (.int p4), .val (.int (2 : Int32)), .val (.int dd), .unset, .unset, .unset, .unset, .unset, .unset, .unset] [(.int dd)])) _
    refine XS.iloadN X0.here hx rfl (hb hby at_22) rfl ?_
    show Steps p.tables e below (s₁.setTop (mkF m 23 #[.val (.int p1), .val (.int p2), .val (.int p3), .val (.int p4), .val (.int (2 : Int32)), .val (.int dd), .unset, .unset, .unset, .unset, .unset, .unset, .unset] [(.int p2), (.int dd)])) _
    refine st502 _ ?_
    show Steps p.tables e below (T502.setTop (mkF m 26 #[.val (.int p1), .val (.int p2), .val (.int p3), .val (.int p4), .val (.int (2 : Int32)), .val (.int dd), .unset, .unset, .unset, .unset, .unset, .unset, .unset] [(.int ch0)])) _
    refine XS.istore X502.here hx rfl (hb hby at_26) rfl (l' := #[.val (.int p1), .val (.int p2), .val (.int p3), .val (.int p4), .val (.int (2 : Int32)), .val (.int dd), .val (.int ch0), .unset, .unset, .unset, .unset, .unset, .unset]) rfl ?_
    show Steps p.tables e below (T502.setTop (mkF m 28 #[.val (.int p1), .val (.int p2), .val (.int p3), .val (.int p4), .val (.int (2 : Int32)), .val (.int dd), .val (.int ch0), .unset, .unset, .unset, .unset, .unset, .unset] [])) _
    refine XS.iload X502.here hx rfl (hb hby at_28) rfl ?_
    show Steps p.tables e below (T502.setTop (mkF m 30 #[.val (.int p1), .val (.int p2), .val (.int p3), .val (.int p4), .val (.int (2 : Int32)), .val (.int dd), .val (.int ch0), .unset, .unset, .unset, .unset, .unset, .unset] [(.int dd)])) _
    refine XS.iloadN X502.here hx rfl (hb hby at_30) rfl ?_
    show Steps p.tables e below (T502.setTop (mkF m 31 #[.val (.int p1), .val (.int p2), .val (.int p3), .val (.int p4), .val (.int (2 : Int32)), .val (.int dd), .val (.int ch0), .unset, .unset, .unset, .unset, .unset, .unset] [(.int p3), (.int dd)])) _
    refine st503 _ ?_
    show Steps p.tables e below (T503.setTop (mkF m 34 #[.val (.int p1), .val (.int p2), .val (.int p3), .val (.int p4), .val (.int (2 : Int32)), .val (.int dd), .val (.int ch0), .unset, .unset, .unset, .unset, .unset, .unset] [(.int ch1)])) _
    refine XS.istore X503.here hx rfl (hb hby at_34) rfl (l' := #[.val (.int p1), .val (.int p2), .val (.int p3), .val (.int p4), .val (.int (2 : Int32)), .val (.int dd), .val (.int ch0), .val (.int ch1), .unset, .unset, .unset, .unset, .unset]) rfl ?_
    show Steps p.tables e below (T503.setTop (mkF m 36 #[.val (.int p1), .val (.int p2), .val (.int p3), .val (.int p4), .val (.int (2 : Int32)), .val (.int dd), .val (.int ch0), .val (.int ch1), .unset, .unset, .unset, .unset, .unset] [])) _
    refine XS.iload X503.here hx rfl (hb hby at_36) rfl ?_
    show Steps p.tables e below (T503.setTop (mkF m 38 #[.val (.int p1), .val (.int p2), .val (.int p3), .val (.int p4), .val (.int (2 : Int32)), .val (.int dd), .val (.int ch0), .val (.int ch1), .unset, .unset, .unset, .unset, .unset] [(.int dd)])) _
    refine XS.iloadN X503.here hx rfl (hb hby at_38) rfl ?_
    show Steps p.tables e below (T503.setTop (mkF m 39 #[.val (.int p1), .val (.int p2), .val (.int p3), .val (.int p4), .val (.int (2 : Int32)), .val (.int dd), .val (.int ch0), .val (.int ch1), .unset, .unset, .unset, .unset, .unset] [(.int p4), (.int dd)])) _
    refine st504 _ ?_
    show Steps p.tables e below (T504.setTop (mkF m 42 #[.val (.int p1), .val (.int p2), .val (.int p3), .val (.int p4), .val (.int (2 : Int32)), .val (.int dd), .val (.int ch0), .val (.int ch1), .unset, .unset, .unset, .unset, .unset] [(.int ch2)])) _
    refine XS.istore X504.here hx rfl (hb hby at_42) rfl (l' := #[.val (.int p1), .val (.int p2), .val (.int p3), .val (.int p4), .val (.int (2 : Int32)), .val (.int dd), .val (.int ch0), .val (.int ch1), .val (.int ch2), .unset, .unset, .unset, .unset]) rfl ?_
    show Steps p.tables e below (T504.setTop (mkF m 44 #[.val (.int p1), .val (.int p2), .val (.int p3), .val (.int p4), .val (.int (2 : Int32)), .val (.int dd), .val (.int ch0), .val (.int ch1), .val (.int ch2), .unset, .unset, .unset, .unset] [])) _
    refine XS.iload X504.here hx rfl (hb hby at_44) rfl ?_
    show Steps p.tables e below (T504.setTop (mkF m 46 #[.val (.int p1), .val (.int p2), .val (.int p3), .val (.int p4), .val (.int (2 : Int32)), .val (.int dd), .val (.int ch0), .val (.int ch1), .val (.int ch2), .unset, .unset, .unset, .unset] [(.int (2 : Int32))])) _
    refine XS.ifYes X504.here hx rfl (pc0 := 46) (pc' := 64) rfl (hb hby at_46) rfl (by decide) (by decide) (by decide) ?_
    show Steps p.tables e below (T504.setTop (mkF m 64 #[.val (.int p1), .val (.int p2), .val (.int p3), .val (.int p4), .val (.int (2 : Int32)), .val (.int dd), .val (.int ch0), .val (.int ch1), .val (.int ch2), .unset, .unset, .unset, .unset] [])) _
    refine XS.iload X504.here hx rfl (hb hby at_64) rfl ?_
    show Steps p.tables e below (T504.setTop (mkF m 66 #[.val (.int p1), .val (.int p2), .val (.int p3), .val (.int p4), .val (.int (2 : Int32)), .val (.int dd), .val (.int ch0), .val (.int ch1), .val (.int ch2), .unset, .unset, .unset, .unset] [(.int (2 : Int32))])) _
    refine XT.iconstV X504.here hx rfl (1 : Int32) (hb hby at_66) rfl ?_
    show Steps p.tables e below (T504.setTop (mkF m 67 #[.val (.int p1), .val (.int p2), .val (.int p3), .val (.int p4), .val (.int (2 : Int32)), .val (.int dd), .val (.int ch0), .val (.int ch1), .val (.int ch2), .unset, .unset, .unset, .unset] [(.int (1 : Int32)), (.int (2 : Int32))])) _
    refine XS.icmpYes X504.here hx rfl (pc0 := 67) (pc' := 90) rfl (hb hby at_67) rfl (by decide) (by decide) (by decide) ?_
    show Steps p.tables e below (T504.setTop (mkF m 90 #[.val (.int p1), .val (.int p2), .val (.int p3), .val (.int p4), .val (.int (2 : Int32)), .val (.int dd), .val (.int ch0), .val (.int ch1), .val (.int ch2), .unset, .unset, .unset, .unset] [])) _
    refine XS.iload X504.here hx rfl (hb hby at_90) rfl ?_
    show Steps p.tables e below (T504.setTop (mkF m 92 #[.val (.int p1), .val (.int p2), .val (.int p3), .val (.int p4), .val (.int (2 : Int32)), .val (.int dd), .val (.int ch0), .val (.int ch1), .val (.int ch2), .unset, .unset, .unset, .unset] [(.int (2 : Int32))])) _
    refine XT.iconstV X504.here hx rfl (2 : Int32) (hb hby at_92) rfl ?_
    show Steps p.tables e below (T504.setTop (mkF m 93 #[.val (.int p1), .val (.int p2), .val (.int p3), .val (.int p4), .val (.int (2 : Int32)), .val (.int dd), .val (.int ch0), .val (.int ch1), .val (.int ch2), .unset, .unset, .unset, .unset] [(.int (2 : Int32)), (.int (2 : Int32))])) _
    refine XS.icmpNo X504.here hx rfl (hb hby at_93) rfl (by decide) ?_
    show Steps p.tables e below (T504.setTop (mkF m 96 #[.val (.int p1), .val (.int p2), .val (.int p3), .val (.int p4), .val (.int (2 : Int32)), .val (.int dd), .val (.int ch0), .val (.int ch1), .val (.int ch2), .unset, .unset, .unset, .unset] [])) _
    refine st505 _ ?_
    show Steps p.tables e below (T505.setTop (mkF m 99 #[.val (.int p1), .val (.int p2), .val (.int p3), .val (.int p4), .val (.int (2 : Int32)), .val (.int dd), .val (.int ch0), .val (.int ch1), .val (.int ch2), .unset, .unset, .unset, .unset] [(.ref b505)])) _
    refine XS.dup X505.here hx rfl (hb hby at_99) rfl rfl ?_
    show Steps p.tables e below (T505.setTop (mkF m 100 #[.val (.int p1), .val (.int p2), .val (.int p3), .val (.int p4), .val (.int (2 : Int32)), .val (.int dd), .val (.int ch0), .val (.int ch1), .val (.int ch2), .unset, .unset, .unset, .unset] [(.ref b505), (.ref b505)])) _
    refine XT.iconstV X505.here hx rfl (2 : Int32) (hb hby at_100) rfl ?_
    show Steps p.tables e below (T505.setTop (mkF m 101 #[.val (.int p1), .val (.int p2), .val (.int p3), .val (.int p4), .val (.int (2 : Int32)), .val (.int dd), .val (.int ch0), .val (.int ch1), .val (.int ch2), .unset, .unset, .unset, .unset] [(.int (2 : Int32)), (.ref b505), (.ref b505)])) _
    refine st508 _ ?_
    show Steps p.tables e below (T508.setTop (mkF m 103 #[.val (.int p1), .val (.int p2), .val (.int p3), .val (.int p4), .val (.int (2 : Int32)), .val (.int dd), .val (.int ch0), .val (.int ch1), .val (.int ch2), .unset, .unset, .unset, .unset] [(.ref b508), (.ref b505), (.ref b505)])) _
    refine XS.dup X508.here hx rfl (hb hby at_103) rfl rfl ?_
    show Steps p.tables e below (T508.setTop (mkF m 104 #[.val (.int p1), .val (.int p2), .val (.int p3), .val (.int p4), .val (.int (2 : Int32)), .val (.int dd), .val (.int ch0), .val (.int ch1), .val (.int ch2), .unset, .unset, .unset, .unset] [(.ref b508), (.ref b508), (.ref b505), (.ref b505)])) _
    refine XT.iconstV X508.here hx rfl (0 : Int32) (hb hby at_104) rfl ?_
    show Steps p.tables e below (T508.setTop (mkF m 105 #[.val (.int p1), .val (.int p2), .val (.int p3), .val (.int p4), .val (.int (2 : Int32)), .val (.int dd), .val (.int ch0), .val (.int ch1), .val (.int ch2), .unset, .unset, .unset, .unset] [(.int (0 : Int32)), (.ref b508), (.ref b508), (.ref b505), (.ref b505)])) _
    refine XS.iload X508.here hx rfl (hb hby at_105) rfl ?_
    show Steps p.tables e below (T508.setTop (mkF m 107 #[.val (.int p1), .val (.int p2), .val (.int p3), .val (.int p4), .val (.int (2 : Int32)), .val (.int dd), .val (.int ch0), .val (.int ch1), .val (.int ch2), .unset, .unset, .unset, .unset] [(.int ch0), (.int (0 : Int32)), (.ref b508), (.ref b508), (.ref b505), (.ref b505)])) _
    refine st512 _ ?_
    show Steps p.tables e below (T512.setTop (mkF m 108 #[.val (.int p1), .val (.int p2), .val (.int p3), .val (.int p4), .val (.int (2 : Int32)), .val (.int dd), .val (.int ch0), .val (.int ch1), .val (.int ch2), .unset, .unset, .unset, .unset] [(.ref b508), (.ref b505), (.ref b505)])) _
    refine XS.dup X512.here hx rfl (hb hby at_108) rfl rfl ?_
    show Steps p.tables e below (T512.setTop (mkF m 109 #[.val (.int p1), .val (.int p2), .val (.int p3), .val (.int p4), .val (.int (2 : Int32)), .val (.int dd), .val (.int ch0), .val (.int ch1), .val (.int ch2), .unset, .unset, .unset, .unset] [(.ref b508), (.ref b508), (.ref b505), (.ref b505)])) _
    refine XT.iconstV X512.here hx rfl (1 : Int32) (hb hby at_109) rfl ?_
    show Steps p.tables e below (T512.setTop (mkF m 110 #[.val (.int p1), .val (.int p2), .val (.int p3), .val (.int p4), .val (.int (2 : Int32)), .val (.int dd), .val (.int ch0), .val (.int ch1), .val (.int ch2), .unset, .unset, .unset, .unset] [(.int (1 : Int32)), (.ref b508), (.ref b508), (.ref b505), (.ref b505)])) _
    refine XS.iload X512.here hx rfl (hb hby at_110) rfl ?_
    show Steps p.tables e below (T512.setTop (mkF m 112 #[.val (.int p1), .val (.int p2), .val (.int p3), .val (.int p4), .val (.int (2 : Int32)), .val (.int dd), .val (.int ch0), .val (.int ch1), .val (.int ch2), .unset, .unset, .unset, .unset] [(.int ch1), (.int (1 : Int32)), (.ref b508), (.ref b508), (.ref b505), (.ref b505)])) _
    refine st516 _ ?_
    show Steps p.tables e below (T516.setTop (mkF m 113 #[.val (.int p1), .val (.int p2), .val (.int p3), .val (.int p4), .val (.int (2 : Int32)), .val (.int dd), .val (.int ch0), .val (.int ch1), .val (.int ch2), .unset, .unset, .unset, .unset] [(.ref b508), (.ref b505), (.ref b505)])) _
    refine st520.trans ?_
    show Steps p.tables e below (T520.setTop (mkF m 116 #[.val (.int p1), .val (.int p2), .val (.int p3), .val (.int p4), .val (.int (2 : Int32)), .val (.int dd), .val (.int ch0), .val (.int ch1), .val (.int ch2), .unset, .unset, .unset, .unset] [(.ref b505)])) _
    refine XS.astore X520.here hx rfl (hb hby at_116) rfl rfl (l' := #[.val (.int p1), .val (.int p2), .val (.int p3), .val (.int p4), .val (.int (2 : Int32)), .val (.int dd), .val (.int ch0), .val (.int ch1), .val (.int ch2), .val (.ref b505), .unset, .unset, .unset]) rfl ?_
    show Steps p.tables e below (T520.setTop (mkF m 118 #[.val (.int p1), .val (.int p2), .val (.int p3), .val (.int p4), .val (.int (2 : Int32)), .val (.int dd), .val (.int ch0), .val (.int ch1), .val (.int ch2), .val (.ref b505), .unset, .unset, .unset] [])) _
    refine XS.goto X520.here hx rfl (pc0 := 118) (pc' := 148) rfl (hb hby at_118) (by decide) (by decide) ?_
    show Steps p.tables e below (T520.setTop (mkF m 148 #[.val (.int p1), .val (.int p2), .val (.int p3), .val (.int p4), .val (.int (2 : Int32)), .val (.int dd), .val (.int ch0), .val (.int ch1), .val (.int ch2), .val (.ref b505), .unset, .unset, .unset] [])) _
    refine XT.iconstV X520.here hx rfl (0 : Int32) (hb hby at_148) rfl ?_
    show Steps p.tables e below (T520.setTop (mkF m 149 #[.val (.int p1), .val (.int p2), .val (.int p3), .val (.int p4), .val (.int (2 : Int32)), .val (.int dd), .val (.int ch0), .val (.int ch1), .val (.int ch2), .val (.ref b505), .unset, .unset, .unset] [(.int (0 : Int32))])) _
    refine XS.istore X520.here hx rfl (hb hby at_149) rfl (l' := #[.val (.int p1), .val (.int p2), .val (.int p3), .val (.int p4), .val (.int (2 : Int32)), .val (.int dd), .val (.int ch0), .val (.int ch1), .val (.int ch2), .val (.ref b505), .val (.int (0 : Int32)), .unset, .unset]) rfl ?_
    show Steps p.tables e below (T520.setTop (mkF m 151 #[.val (.int p1), .val (.int p2), .val (.int p3), .val (.int p4), .val (.int (2 : Int32)), .val (.int dd), .val (.int ch0), .val (.int ch1), .val (.int ch2), .val (.ref b505), .val (.int (0 : Int32)), .unset, .unset] [])) _
    refine XS.iload X520.here hx rfl (hb hby at_151) rfl ?_
    show Steps p.tables e below (T520.setTop (mkF m 153 #[.val (.int p1), .val (.int p2), .val (.int p3), .val (.int p4), .val (.int (2 : Int32)), .val (.int dd), .val (.int ch0), .val (.int ch1), .val (.int ch2), .val (.ref b505), .val (.int (0 : Int32)), .unset, .unset] [(.int (2 : Int32))])) _
    refine XT.iconstV X520.here hx rfl (2 : Int32) (hb hby at_153) rfl ?_
    show Steps p.tables e below (T520.setTop (mkF m 154 #[.val (.int p1), .val (.int p2), .val (.int p3), .val (.int p4), .val (.int (2 : Int32)), .val (.int dd), .val (.int ch0), .val (.int ch1), .val (.int ch2), .val (.ref b505), .val (.int (0 : Int32)), .unset, .unset] [(.int (2 : Int32)), (.int (2 : Int32))])) _
    refine XS.icmpNo X520.here hx rfl (hb hby at_154) rfl (by decide) ?_
    show Steps p.tables e below (T520.setTop (mkF m 157 #[.val (.int p1), .val (.int p2), .val (.int p3), .val (.int p4), .val (.int (2 : Int32)), .val (.int dd), .val (.int ch0), .val (.int ch1), .val (.int ch2), .val (.ref b505), .val (.int (0 : Int32)), .unset, .unset] [])) _
    refine XS.iload X520.here hx rfl (hb hby at_157) rfl ?_
    show Steps p.tables e below (T520.setTop (mkF m 159 #[.val (.int p1), .val (.int p2), .val (.int p3), .val (.int p4), .val (.int (2 : Int32)), .val (.int dd), .val (.int ch0), .val (.int ch1), .val (.int ch2), .val (.ref b505), .val (.int (0 : Int32)), .unset, .unset] [(.int ch0)])) _
    refine XT.bipushV X520.here hx rfl (52 : Int32) (hb hby at_159) (by decide) ?_
    show Steps p.tables e below (T520.setTop (mkF m 161 #[.val (.int p1), .val (.int p2), .val (.int p3), .val (.int p4), .val (.int (2 : Int32)), .val (.int dd), .val (.int ch0), .val (.int ch1), .val (.int ch2), .val (.ref b505), .val (.int (0 : Int32)), .unset, .unset] [(.int (52 : Int32)), (.int ch0)])) _
    refine XS.icmpYes X520.here hx rfl (pc0 := 161) (pc' := 187) rfl (hb hby at_161) rfl (XT.ii_ne_t g0) (by decide) (by decide) ?_
    show Steps p.tables e below (T520.setTop (mkF m 187 #[.val (.int p1), .val (.int p2), .val (.int p3), .val (.int p4), .val (.int (2 : Int32)), .val (.int dd), .val (.int ch0), .val (.int ch1), .val (.int ch2), .val (.ref b505), .val (.int (0 : Int32)), .unset, .unset] [])) _
    refine XS.aload X520.here hx rfl (hb hby at_187) rfl rfl ?_
    show Steps p.tables e below (T520.setTop (mkF m 189 #[.val (.int p1), .val (.int p2), .val (.int p3), .val (.int p4), .val (.int (2 : Int32)), .val (.int dd), .val (.int ch0), .val (.int ch1), .val (.int ch2), .val (.ref b505), .val (.int (0 : Int32)), .unset, .unset] [(.ref b505)])) _
    refine st524 _ ?_
    show Steps p.tables e below (T524.setTop (mkF m 192 #[.val (.int p1), .val (.int p2), .val (.int p3), .val (.int p4), .val (.int (2 : Int32)), .val (.int dd), .val (.int ch0), .val (.int ch1), .val (.int ch2), .val (.ref b505), .val (.int (0 : Int32)), .unset, .unset] [(.ref we)])) _
    refine XS.astore X524.here hx rfl (hb hby at_192) rfl rfl (l' := #[.val (.int p1), .val (.int p2), .val (.int p3), .val (.int p4), .val (.int (2 : Int32)), .val (.int dd), .val (.int ch0), .val (.int ch1), .val (.int ch2), .val (.ref b505), .val (.int (0 : Int32)), .val (.ref we), .unset]) rfl ?_
    show Steps p.tables e below (T524.setTop (mkF m 194 #[.val (.int p1), .val (.int p2), .val (.int p3), .val (.int p4), .val (.int (2 : Int32)), .val (.int dd), .val (.int ch0), .val (.int ch1), .val (.int ch2), .val (.ref b505), .val (.int (0 : Int32)), .val (.ref we), .unset] [])) _
    refine XS.iload X524.here hx rfl (hb hby at_194) rfl ?_
    show Steps p.tables e below (T524.setTop (mkF m 196 #[.val (.int p1), .val (.int p2), .val (.int p3), .val (.int p4), .val (.int (2 : Int32)), .val (.int dd), .val (.int ch0), .val (.int ch1), .val (.int ch2), .val (.ref b505), .val (.int (0 : Int32)), .val (.ref we), .unset] [(.int (0 : Int32))])) _
    refine XS.ifNo X524.here hx rfl (hb hby at_196) rfl (by decide) ?_
    show Steps p.tables e below (T524.setTop (mkF m 199 #[.val (.int p1), .val (.int p2), .val (.int p3), .val (.int p4), .val (.int (2 : Int32)), .val (.int dd), .val (.int ch0), .val (.int ch1), .val (.int ch2), .val (.ref b505), .val (.int (0 : Int32)), .val (.ref we), .unset] [])) _
    refine XS.aload X524.here hx rfl (hb hby at_199) rfl rfl ?_
    show Steps p.tables e below (T524.setTop (mkF m 201 #[.val (.int p1), .val (.int p2), .val (.int p3), .val (.int p4), .val (.int (2 : Int32)), .val (.int dd), .val (.int ch0), .val (.int ch1), .val (.int ch2), .val (.ref b505), .val (.int (0 : Int32)), .val (.ref we), .unset] [(.ref we)])) _
    refine st530.trans ?_
    show Steps p.tables e below (T530.setTop (mkF m 204 #[.val (.int p1), .val (.int p2), .val (.int p3), .val (.int p4), .val (.int (2 : Int32)), .val (.int dd), .val (.int ch0), .val (.int ch1), .val (.int ch2), .val (.ref b505), .val (.int (0 : Int32)), .val (.ref we), .unset] [(.int (0 : Int32))])) _
    refine XS.ifNo X530.here hx rfl (hb hby at_204) rfl (by decide) ?_
    show Steps p.tables e below (T530.setTop (mkF m 207 #[.val (.int p1), .val (.int p2), .val (.int p3), .val (.int p4), .val (.int (2 : Int32)), .val (.int dd), .val (.int ch0), .val (.int ch1), .val (.int ch2), .val (.ref b505), .val (.int (0 : Int32)), .val (.ref we), .unset] [])) _
    refine XT.iconstV X530.here hx rfl (1 : Int32) (hb hby at_207) rfl ?_
    show Steps p.tables e below (T530.setTop (mkF m 208 #[.val (.int p1), .val (.int p2), .val (.int p3), .val (.int p4), .val (.int (2 : Int32)), .val (.int dd), .val (.int ch0), .val (.int ch1), .val (.int ch2), .val (.ref b505), .val (.int (0 : Int32)), .val (.ref we), .unset] [(.int (1 : Int32))])) _
    refine XS.goto X530.here hx rfl (pc0 := 208) (pc' := 212) rfl (hb hby at_208) (by decide) (by decide) ?_
    show Steps p.tables e below (T530.setTop (mkF m 212 #[.val (.int p1), .val (.int p2), .val (.int p3), .val (.int p4), .val (.int (2 : Int32)), .val (.int dd), .val (.int ch0), .val (.int ch1), .val (.int ch2), .val (.ref b505), .val (.int (0 : Int32)), .val (.ref we), .unset] [(.int (1 : Int32))])) _
    exact retN X530 hx (t := .boolean) Bd.returns (by simp) (hb hby at_212) hr
  · show own_Q0 n0 _ T530.heap _
    exact ⟨rfl, N530⟩
theorem pd___Ljava_lang_Object_ : parseMethodDescriptor "()Ljava/lang/Object;" = some ⟨[], (some (.object "java/lang/Object"))⟩ := by decide +kernel
set_option maxRecDepth 65536 in
set_option maxHeartbeats 40000000 in
theorem own_law_2m (l : Launch) (Z : State) (a0 : Array Value) (hw : ∀ d ∈ tables_1, d.before a0 Z = true) (ws : List Jvm.Cond) (p1 p2 p3 p4 dd ch0 ch1 ch2 : Int32) (wv w0 w1 r0 r1 s0 s1 c0 c1 we : Addr) (kv kc0 kc1 : ClassId) (i7 : Int32) (h0 : Heap) (n0 : Nat) (Z0 : n0 ≤ h0.size) (P : own_P Z h0 wv w0 w1 r0 r1 s0 s1 c0 c1 we kv kc0 kc1 i7) (hEL : EW Z a0 [("java/lang/String", 7)]) (hr0 : own_dr dd p2 ch0) (hr1 : own_dr dd p3 ch1) (hr2 : own_dr dd p4 ch2) (hdd : (dd = (1 : Int32) ∧ ¬ ((XT.ushr p1 (2 : Int32)) &&& (1 : Int32)) = (0 : Int32)) ∨ (dd = (0 : Int32) ∧ ((XT.ushr p1 (2 : Int32)) &&& (1 : Int32)) = (0 : Int32))) (hk : (p1 &&& (3 : Int32)) = (2 : Int32)) (g0 : ch0 = (52 : Int32)) (g1 : ch1 = (52 : Int32)) :
    MetFree l x (head1 (Jvm.Cond.code x code maxLocals ret :: ws) room_1) (fun a U => a = #[(.int p1), (.int p2), (.int p3), (.int p4)] ∧ Z.Warmed39 U.vm ∧ U.heap = h0 ∧ CHv Z [("java/lang/String", 7)] U.vm h0) (fun _ _ _ _ _ => True) (fun _ U o U' => ∃ v L, o = .returned v ∧ own_Q0 n0 v U'.heap L ∧ ReturnedEndW U o U' L room_1.cells room_1.slots) := by
  refine MetFree.of_bodySF (plainFor_of_name pn_com_example_recourse_recourse_WriteOffActorRecordedAsPinLaw) hisR ?_
  intro p e s m args below meth c s₁ Bd hml0 hP hK
  obtain ⟨rfl, hZ, hh, hCH⟩ := hP
  have hx := Bd.exec
  have hby := Bd.bytes
  have hml : c.maxLocals = 13 := hml0
  have hown : s.vm.findClass "com/example/recourse/recourse/WriteOffActorRecordedAsPinLaw" = some m.cls := findClass_of_methodNamed Bd.named
  have hnm := (name_of_methodNamed Bd.named Bd.method).1
  have X0 : Stand p l e room_1 s m #[(.int p1), (.int p2), (.int p3), (.int p4)] below meth c s₁ [] 0 0 := Stand.of_body Bd
  have e0 : s₁.heap = h0 := by rw [← hh, Bd.state]; rfl
  have N0 := Fr.nil n0
  have pre0 : ∀ t, Steps p.tables e below (s₁.setTop (mkF m 0 #[.val (.int p1), .val (.int p2), .val (.int p3), .val (.int p4), .unset, .unset, .unset, .unset, .unset, .unset, .unset, .unset, .unset] [])) t → Steps p.tables e below (s₁.setTop (entryFrame m #[(.int p1), (.int p2), (.int p3), (.int p4)] maxLocals)) t := fun t k => castTop (ef_code_IIII m p1 p2 p3 p4) k
  obtain ⟨Pv, Ev, Av, Pw0, Pw1, Ew0, Ew1, Fr0, Fr1, Er0, Er1, Fc0, Fc1, Q0, Q1, Pe, Ee, Fe, S8, c9⟩ := id P
  have pre1 : ∀ t, Steps p.tables e below (s₁.setTop (mkF m 10 #[.val (.int p1), .val (.int p2), .val (.int p3), .val (.int p4), .val (.int (2 : Int32)), .unset, .unset, .unset, .unset, .unset, .unset, .unset, .unset] [(.int ((XT.ushr p1 (2 : Int32)) &&& (1 : Int32)))])) t → Steps p.tables e below (s₁.setTop (mkF m 0 #[.val (.int p1), .val (.int p2), .val (.int p3), .val (.int p4), .unset, .unset, .unset, .unset, .unset, .unset, .unset, .unset, .unset] [])) t := by
    intro t kk
    show Steps p.tables e below (s₁.setTop (mkF m 0 #[.val (.int p1), .val (.int p2), .val (.int p3), .val (.int p4), .unset, .unset, .unset, .unset, .unset, .unset, .unset, .unset, .unset] [])) _
    refine XS.iloadN X0.here hx rfl (hb hby at_0) rfl ?_
    show Steps p.tables e below (s₁.setTop (mkF m 1 #[.val (.int p1), .val (.int p2), .val (.int p3), .val (.int p4), .unset, .unset, .unset, .unset, .unset, .unset, .unset, .unset, .unset] [(.int p1)])) _
    refine XT.iconstV X0.here hx rfl (3 : Int32) (hb hby at_1) rfl ?_
    show Steps p.tables e below (s₁.setTop (mkF m 2 #[.val (.int p1), .val (.int p2), .val (.int p3), .val (.int p4), .unset, .unset, .unset, .unset, .unset, .unset, .unset, .unset, .unset] [(.int (3 : Int32)), (.int p1)])) _
    refine XS.iand X0.here hx rfl (hb hby at_2) rfl ?_
    show Steps p.tables e below (s₁.setTop (mkF m 3 #[.val (.int p1), .val (.int p2), .val (.int p3), .val (.int p4), .unset, .unset, .unset, .unset, .unset, .unset, .unset, .unset, .unset] [(.int (p1 &&& (3 : Int32)))])) _
    rw [hk]
    show Steps p.tables e below (s₁.setTop (mkF m 3 #[.val (.int p1), .val (.int p2), .val (.int p3), .val (.int p4), .unset, .unset, .unset, .unset, .unset, .unset, .unset, .unset, .unset] [(.int (2 : Int32))])) _
    refine XS.istore X0.here hx rfl (hb hby at_3) rfl (l' := #[.val (.int p1), .val (.int p2), .val (.int p3), .val (.int p4), .val (.int (2 : Int32)), .unset, .unset, .unset, .unset, .unset, .unset, .unset, .unset]) rfl ?_
    show Steps p.tables e below (s₁.setTop (mkF m 5 #[.val (.int p1), .val (.int p2), .val (.int p3), .val (.int p4), .val (.int (2 : Int32)), .unset, .unset, .unset, .unset, .unset, .unset, .unset, .unset] [])) _
    refine XS.iloadN X0.here hx rfl (hb hby at_5) rfl ?_
    show Steps p.tables e below (s₁.setTop (mkF m 6 #[.val (.int p1), .val (.int p2), .val (.int p3), .val (.int p4), .val (.int (2 : Int32)), .unset, .unset, .unset, .unset, .unset, .unset, .unset, .unset] [(.int p1)])) _
    refine XT.iconstV X0.here hx rfl (2 : Int32) (hb hby at_6) rfl ?_
    show Steps p.tables e below (s₁.setTop (mkF m 7 #[.val (.int p1), .val (.int p2), .val (.int p3), .val (.int p4), .val (.int (2 : Int32)), .unset, .unset, .unset, .unset, .unset, .unset, .unset, .unset] [(.int (2 : Int32)), (.int p1)])) _
    refine XT.iushr X0.here hx rfl (hb hby at_7) rfl ?_
    show Steps p.tables e below (s₁.setTop (mkF m 8 #[.val (.int p1), .val (.int p2), .val (.int p3), .val (.int p4), .val (.int (2 : Int32)), .unset, .unset, .unset, .unset, .unset, .unset, .unset, .unset] [(.int (XT.ushr p1 (2 : Int32)))])) _
    refine XT.iconstV X0.here hx rfl (1 : Int32) (hb hby at_8) rfl ?_
    show Steps p.tables e below (s₁.setTop (mkF m 9 #[.val (.int p1), .val (.int p2), .val (.int p3), .val (.int p4), .val (.int (2 : Int32)), .unset, .unset, .unset, .unset, .unset, .unset, .unset, .unset] [(.int (1 : Int32)), (.int (XT.ushr p1 (2 : Int32)))])) _
    refine XS.iand X0.here hx rfl (hb hby at_9) rfl ?_
    show Steps p.tables e below (s₁.setTop (mkF m 10 #[.val (.int p1), .val (.int p2), .val (.int p3), .val (.int p4), .val (.int (2 : Int32)), .unset, .unset, .unset, .unset, .unset, .unset, .unset, .unset] [(.int ((XT.ushr p1 (2 : Int32)) &&& (1 : Int32)))])) _
    exact kk
  have thru : ∀ t, Steps p.tables e below (s₁.setTop (mkF m 18 #[.val (.int p1), .val (.int p2), .val (.int p3), .val (.int p4), .val (.int (2 : Int32)), .unset, .unset, .unset, .unset, .unset, .unset, .unset, .unset] [(.int dd)])) t → Steps p.tables e below (s₁.setTop (mkF m 10 #[.val (.int p1), .val (.int p2), .val (.int p3), .val (.int p4), .val (.int (2 : Int32)), .unset, .unset, .unset, .unset, .unset, .unset, .unset, .unset] [(.int ((XT.ushr p1 (2 : Int32)) &&& (1 : Int32)))])) t := by
    intro t kk
    rcases hdd with ⟨rfl, hq⟩ | ⟨rfl, hq⟩
    · show Steps p.tables e below (s₁.setTop (mkF m 10 #[.val (.int p1), .val (.int p2), .val (.int p3), .val (.int p4), .val (.int (2 : Int32)), .unset, .unset, .unset, .unset, .unset, .unset, .unset, .unset] [(.int ((XT.ushr p1 (2 : Int32)) &&& (1 : Int32)))])) _
      refine XS.ifNo X0.here hx rfl (hb hby at_10) rfl (XT.i0_eq_f hq) ?_
      show Steps p.tables e below (s₁.setTop (mkF m 13 #[.val (.int p1), .val (.int p2), .val (.int p3), .val (.int p4), .val (.int (2 : Int32)), .unset, .unset, .unset, .unset, .unset, .unset, .unset, .unset] [])) _
      refine XT.iconstV X0.here hx rfl (1 : Int32) (hb hby at_13) rfl ?_
      show Steps p.tables e below (s₁.setTop (mkF m 14 #[.val (.int p1), .val (.int p2), .val (.int p3), .val (.int p4), .val (.int (2 : Int32)), .unset, .unset, .unset, .unset, .unset, .unset, .unset, .unset] [(.int (1 : Int32))])) _
      refine XS.goto X0.here hx rfl (pc0 := 14) (pc' := 18) rfl (hb hby at_14) (by decide) (by decide) ?_
      show Steps p.tables e below (s₁.setTop (mkF m 18 #[.val (.int p1), .val (.int p2), .val (.int p3), .val (.int p4), .val (.int (2 : Int32)), .unset, .unset, .unset, .unset, .unset, .unset, .unset, .unset] [(.int (1 : Int32))])) _
      exact kk
    · show Steps p.tables e below (s₁.setTop (mkF m 10 #[.val (.int p1), .val (.int p2), .val (.int p3), .val (.int p4), .val (.int (2 : Int32)), .unset, .unset, .unset, .unset, .unset, .unset, .unset, .unset] [(.int ((XT.ushr p1 (2 : Int32)) &&& (1 : Int32)))])) _
      refine XS.ifYes X0.here hx rfl (pc0 := 10) (pc' := 17) rfl (hb hby at_10) rfl (XT.i0_eq_t hq) (by decide) (by decide) ?_
      show Steps p.tables e below (s₁.setTop (mkF m 17 #[.val (.int p1), .val (.int p2), .val (.int p3), .val (.int p4), .val (.int (2 : Int32)), .unset, .unset, .unset, .unset, .unset, .unset, .unset, .unset] [])) _
      refine XT.iconstV X0.here hx rfl (0 : Int32) (hb hby at_17) rfl ?_
      show Steps p.tables e below (s₁.setTop (mkF m 18 #[.val (.int p1), .val (.int p2), .val (.int p3), .val (.int p4), .val (.int (2 : Int32)), .unset, .unset, .unset, .unset, .unset, .unset, .unset, .unset] [(.int (0 : Int32))])) _
      exact kk
  obtain ⟨_, _, ⟨T531, L531, k531, n531⟩, -, X531, ⟨Lc531, hQ531, l531, y531, z531⟩, st531⟩ := Jvm.LawKit.callS X0 hx (y := (⟨"com/example/recourse/recourse/WriteOffActorRecordedAsPinLaw", "draw", "(ZI)C"⟩ : MethodName)) hown (mvT hZ (hw _ (List.mem_of_getElem? (i := 0) rfl))) (mvT hZ (hw _ (List.mem_of_getElem? (i := 1) rfl))) (mvT hZ (hw _ (List.mem_of_getElem? (i := 2) rfl))) (mvT hZ (hw _ (List.mem_of_getElem? (i := 3) rfl))) (by decide) (backOf (W := 0) (own_draw l Z a0 hw [] dd p2 ch0 h0 n0 Z0 hr0) hZ (hw _ (List.mem_of_getElem? (i := 3) rfl)) (hw _ (List.mem_of_getElem? (i := 2) rfl)) (by decide) (by decide)) (g := (mkF m 23 #[.val (.int p1), .val (.int p2), .val (.int p3), .val (.int p4), .val (.int (2 : Int32)), .val (.int dd), .unset, .unset, .unset, .unset, .unset, .unset, .unset] [(.int p2), (.int dd)])) rfl (by rw [hml]; rfl) (argsL := [(.int dd), (.int p2)]) (rest := []) (lenOf pd__ZI_C rfl) rfl (by show 2 * 0 + _ ≤ _; exact Nat.le_of_eq rfl) (hb hby at_23) (fun _ _ => ⟨rfl, e0, (by decide : 0 + 0 ≤ _), (by decide : 0 + 0 ≤ _)⟩)
  dsimp only [Pt.U, Pt.locs, Pt.cells, Pt.slots] at X531 l531 y531 z531 st531 hQ531
  subst l531 y531 z531
  obtain ⟨rfl, N531q, e531⟩ := hQ531
  have N531 := Fr.app N0 N531q
  obtain ⟨_, _, ⟨T532, L532, k532, n532⟩, -, X532, ⟨Lc532, hQ532, l532, y532, z532⟩, st532⟩ := Jvm.LawKit.callS X531 hx (y := (⟨"com/example/recourse/recourse/WriteOffActorRecordedAsPinLaw", "draw", "(ZI)C"⟩ : MethodName)) hown (mvT hZ (hw _ (List.mem_of_getElem? (i := 0) rfl))) (mvT hZ (hw _ (List.mem_of_getElem? (i := 1) rfl))) (mvT hZ (hw _ (List.mem_of_getElem? (i := 2) rfl))) (mvT hZ (hw _ (List.mem_of_getElem? (i := 3) rfl))) (by decide) (backOf (W := 0) (own_draw l Z a0 hw [] dd p3 ch1 h0 n0 Z0 hr1) hZ (hw _ (List.mem_of_getElem? (i := 3) rfl)) (hw _ (List.mem_of_getElem? (i := 2) rfl)) (by decide) (by decide)) (g := (mkF m 31 #[.val (.int p1), .val (.int p2), .val (.int p3), .val (.int p4), .val (.int (2 : Int32)), .val (.int dd), .val (.int ch0), .unset, .unset, .unset, .unset, .unset, .unset] [(.int p3), (.int dd)])) rfl (by rw [hml]; rfl) (argsL := [(.int dd), (.int p3)]) (rest := []) (lenOf pd__ZI_C rfl) rfl (by show 2 * 0 + _ ≤ _; exact Nat.le_of_eq rfl) (hb hby at_31) (fun _ _ => ⟨rfl, e531, (by decide : 0 + 0 ≤ _), (by decide : 0 + 0 ≤ _)⟩)
  dsimp only [Pt.U, Pt.locs, Pt.cells, Pt.slots] at X532 l532 y532 z532 st532 hQ532
  subst l532 y532 z532
  obtain ⟨rfl, N532q, e532⟩ := hQ532
  have N532 := Fr.app N531 N532q
  obtain ⟨_, _, ⟨T533, L533, k533, n533⟩, -, X533, ⟨Lc533, hQ533, l533, y533, z533⟩, st533⟩ := Jvm.LawKit.callS X532 hx (y := (⟨"com/example/recourse/recourse/WriteOffActorRecordedAsPinLaw", "draw", "(ZI)C"⟩ : MethodName)) hown (mvT hZ (hw _ (List.mem_of_getElem? (i := 0) rfl))) (mvT hZ (hw _ (List.mem_of_getElem? (i := 1) rfl))) (mvT hZ (hw _ (List.mem_of_getElem? (i := 2) rfl))) (mvT hZ (hw _ (List.mem_of_getElem? (i := 3) rfl))) (by decide) (backOf (W := 0) (own_draw l Z a0 hw [] dd p4 ch2 h0 n0 Z0 hr2) hZ (hw _ (List.mem_of_getElem? (i := 3) rfl)) (hw _ (List.mem_of_getElem? (i := 2) rfl)) (by decide) (by decide)) (g := (mkF m 39 #[.val (.int p1), .val (.int p2), .val (.int p3), .val (.int p4), .val (.int (2 : Int32)), .val (.int dd), .val (.int ch0), .val (.int ch1), .unset, .unset, .unset, .unset, .unset] [(.int p4), (.int dd)])) rfl (by rw [hml]; rfl) (argsL := [(.int dd), (.int p4)]) (rest := []) (lenOf pd__ZI_C rfl) rfl (by show 2 * 0 + _ ≤ _; exact Nat.le_of_eq rfl) (hb hby at_39) (fun _ _ => ⟨rfl, e532, (by decide : 0 + 0 ≤ _), (by decide : 0 + 0 ≤ _)⟩)
  dsimp only [Pt.U, Pt.locs, Pt.cells, Pt.slots] at X533 l533 y533 z533 st533 hQ533
  subst l533 y533 z533
  obtain ⟨rfl, N533q, e533⟩ := hQ533
  have N533 := Fr.app N532 N533q
  obtain ⟨T534, h534, X534, e534, E534, A534, D534, -, st534⟩ := newO X533 hx hZ hown (hw _ (List.mem_of_getElem? (i := 4) rfl)) (hw _ (List.mem_of_getElem? (i := 5) rfl)) (hw _ (List.mem_of_getElem? (i := 6) rfl)) e533 (g := (mkF m 96 #[.val (.int p1), .val (.int p2), .val (.int p3), .val (.int p4), .val (.int (2 : Int32)), .val (.int dd), .val (.int ch0), .val (.int ch1), .val (.int ch2), .unset, .unset, .unset, .unset] [])) rfl (hb hby at_96) (by decide) (by decide)
  obtain ⟨b534, g534⟩ : ∃ z, z = h0.size := ⟨_, rfl⟩
  rw [← g534] at A534 D534 st534
  have q534 : h0.size ≤ b534 := by rw [g534]; exact Nat.le_refl _
  have EX534 : Ext h0 h534 := E534
  have Z534 : n0 ≤ h534.size := Nat.le_trans Z0 EX534.1
  have Fvalue_535 : Fld Z h534 b534 "java/lang/String" "value" "[B" .null := D534 (Or.inr (hw _ (List.mem_of_getElem? (i := 20) rfl))) (ty := (.array .byte)) (by decide)
  have Fcoder_536 : Fld Z h534 b534 "java/lang/String" "coder" "B" (.int (0 : Int32)) := D534 (Or.inr (hw _ (List.mem_of_getElem? (i := 21) rfl))) (ty := .byte) (by decide)
  obtain ⟨T537, h537, k537, X537, e537, E537, A537, st537⟩ := newP X534 hx hZ (hw _ (List.mem_of_getElem? (i := 7) rfl)) e534 (g := (mkF m 101 #[.val (.int p1), .val (.int p2), .val (.int p3), .val (.int p4), .val (.int (2 : Int32)), .val (.int dd), .val (.int ch0), .val (.int ch1), .val (.int ch2), .unset, .unset, .unset, .unset] [(.int (2 : Int32)), (.ref b534), (.ref b534)])) rfl (hb hby at_101) rfl (by decide) (cap := 2) (by decide) (by decide) (by decide) (by decide)
  obtain ⟨b537, g537⟩ : ∃ z, z = h534.size := ⟨_, rfl⟩
  rw [← g537] at A537 st537
  have V537 : Arv Z h537 b537 k537 .char (2 : Int32) (List.replicate 2 (.int (0 : Int32))) (.int (0 : Int32)) := (Arv.new A537 (by decide)).pad (fun i => pad_rep [] (.int (0 : Int32)) 2 i)
  have q537 : h0.size ≤ b537 := by rw [g537]; exact EX534.1
  have ne_b534_b537 : b534 ≠ b537 := by rw [g537]; exact Nat.ne_of_lt A534.lt
  have A534_538 := A534.ext E537
  have Fvalue_539 := Fvalue_535.ext E537
  have Fcoder_540 := Fcoder_536.ext E537
  have EX537 : Ext h0 h537 := own_ext_trans EX534 E537
  have Z537 : n0 ≤ h537.size := Nat.le_trans Z0 EX537.1
  obtain ⟨T541, h541, X541, e541, W541, V541, st541⟩ := own_stC X537 hx hZ e537 V537 (j := (0 : Int32)) (by decide) (i := 0) (by decide) (by simp) (g := (mkF m 107 #[.val (.int p1), .val (.int p2), .val (.int p3), .val (.int p4), .val (.int (2 : Int32)), .val (.int dd), .val (.int ch0), .val (.int ch1), .val (.int ch2), .unset, .unset, .unset, .unset] [(.int ch0), (.int (0 : Int32)), (.ref b537), (.ref b537), (.ref b534), (.ref b534)])) rfl rfl (hb hby at_107)
  have A534_542 := A534_538.wr W541
  have Fvalue_543 := Fvalue_539.other W541 (Or.inl ne_b534_b537)
  have Fcoder_544 := Fcoder_540.other W541 (Or.inl ne_b534_b537)
  have EX541 : Ext h0 h541 := own_ext_wr EX537 W541 q537
  have Z541 : n0 ≤ h541.size := Nat.le_trans Z0 EX541.1
  have N541 := Fr.snoc X541 N533 (Nat.le_trans Z0 q537)
  obtain ⟨T545, h545, X545, e545, W545, V545, st545⟩ := own_stC X541 hx hZ e541 V541 (j := (1 : Int32)) (by decide) (i := 1) (by decide) (by simp) (g := (mkF m 112 #[.val (.int p1), .val (.int p2), .val (.int p3), .val (.int p4), .val (.int (2 : Int32)), .val (.int dd), .val (.int ch0), .val (.int ch1), .val (.int ch2), .unset, .unset, .unset, .unset] [(.int ch1), (.int (1 : Int32)), (.ref b537), (.ref b537), (.ref b534), (.ref b534)])) rfl rfl (hb hby at_112)
  have A534_546 := A534_542.wr W545
  have Fvalue_547 := Fvalue_543.other W545 (Or.inl ne_b534_b537)
  have Fcoder_548 := Fcoder_544.other W545 (Or.inl ne_b534_b537)
  have EX545 : Ext h0 h545 := own_ext_wr EX541 W545 q537
  have Z545 : n0 ≤ h545.size := Nat.le_trans Z0 EX545.1
  have N545 := Fr.snoc X545 N541 (Nat.le_trans Z0 q537)
  rw [hr0.2.2.1, hr1.2.2.1] at V545
  have V549c : Arv Z h545 b537 k537 .char (2 : Int32) [(.int ch0), (.int ch1)] (.int (0 : Int32)) := V545
  have hws549 : ∀ d ∈ StrChars.Road.words, d.before a0 Z = true := fun d hd => hw d ((by decide +kernel : ∀ d ∈ StrChars.Road.words, d ∈ tables_1) d hd)
  have hlat549 : ∀ c ∈ [ch0, ch1], ¬ c < 0 ∧ ¬ (255 : Int32) < c := by
    intro c hc
    simp only [List.mem_cons, List.not_mem_nil, or_false] at hc
    rcases hc with rfl | rfl
    · exact hr0.2.2.2.1
    · exact hr1.2.2.2.1
  obtain ⟨_, _, ⟨T549, L549, k549, n549⟩, -, X549, ⟨Lc549, hQ549, l549, y549, z549⟩, st549⟩ := X545.specialBack hx (y := (⟨"java/lang/String", "<init>", "([C)V"⟩ : MethodName)) rfl hown (mvT hZ (hw _ (List.mem_of_getElem? (i := 8) rfl))) (mvT hZ (hw _ (List.mem_of_getElem? (i := 9) rfl))) (mvT hZ (hw _ (List.mem_of_getElem? (i := 10) rfl))) (by decide) (StrChars.Road.backV (W := 1) hZ hws549 (kI := 4) (hw _ (List.mem_of_getElem? (i := 5) rfl)) (cs := [ch0, ch1]) (bs := [ch0.toInt8.toInt32, ch1.toInt8.toInt32]) (n := 2) (Nat.le_trans Z0 q534) Z545 A534_546 Fvalue_547 Fcoder_548 V549c (S8.ext EX545) c9 rfl rfl (by decide) (by decide) hlat549 rfl (by decide) (by decide)) (g := (mkF m 113 #[.val (.int p1), .val (.int p2), .val (.int p3), .val (.int p4), .val (.int (2 : Int32)), .val (.int dd), .val (.int ch0), .val (.int ch1), .val (.int ch2), .unset, .unset, .unset, .unset] [(.ref b537), (.ref b534), (.ref b534)])) rfl (by rw [hml]; rfl) (Steps.refl _) (a := b534) (argsL := [(.ref b537)]) (rest := [(.ref b534)]) (lenOf pd__ArC_V rfl) rfl (by show 2 * 0 + _ ≤ _; exact Nat.le_of_eq rfl) (hb hby at_113) (fun _ _ => ⟨rfl, e545, (by decide : 2 + 1 ≤ _), (by decide : 6 + 2 ≤ _)⟩)
  dsimp only [Pt.U, Pt.locs, Pt.cells, Pt.slots] at X549 l549 y549 z549 st549 hQ549
  subst l549 y549 z549
  obtain ⟨rfl, N549q, K549q, E549s, C549s, t549s, kb549s, qn549s, qh549s, qx549s, V549s, B549s⟩ := hQ549
  have N549 := Fr.app N545 N549q
  have q549s : h0.size ≤ t549s := Nat.le_trans EX545.1 qh549s
  have ne_b537_t549s : b537 ≠ t549s := Nat.ne_of_lt (Nat.lt_of_lt_of_le V545.lt qh549s)
  have A534_550 := A534_546.keep K549q
  have V545_551 := V545.keep K549q (ninS (Ne.symm ne_b534_b537) nin0)
  have EX549 : Ext h0 T549.heap := own_ext_keep EX545 K549q (allS q534 all0)
  have Z549 : n0 ≤ T549.heap.size := Nat.le_trans Z0 EX549.1
  have PT552 : own_St Z T549.heap b534 t549s kb549s (2 : Int32) [ch0.toInt8.toInt32, ch1.toInt8.toInt32] := ⟨E549s, V549s, C549s, B549s⟩
  have ns0 : s0 ≠ b534 := Nat.ne_of_lt (Nat.lt_of_lt_of_le (own_P_lt P).1 q534)
  have ns1 : s1 ≠ b534 := Nat.ne_of_lt (Nat.lt_of_lt_of_le (own_P_lt P).2 q534)
  obtain ⟨_, _, ⟨T553, L553, k553, n553⟩, -, X553, ⟨Lc553, hQ553, l553, y553, z553⟩, st553⟩ := Jvm.LawKit.callS X549 hx (y := (⟨"com/example/recourse/recourse/WriteOffActor", "recordedAs", "(Ljava/lang/String;)Ljava/util/Optional;"⟩ : MethodName)) hown (mvT hZ (hw _ (List.mem_of_getElem? (i := 26) rfl))) (mvT hZ (hw _ (List.mem_of_getElem? (i := 27) rfl))) (mvT hZ (hw _ (List.mem_of_getElem? (i := 28) rfl))) (mvT hZ (hw _ (List.mem_of_getElem? (i := 29) rfl))) (by decide) (backOf (W := 0) (own_rec_m0 l Z a0 hw [] wv w0 w1 r0 r1 s0 s1 c0 c1 we kv kc0 kc1 i7 b534 t549s kb549s ch0.toInt8.toInt32 ch1.toInt8.toInt32 T549.heap n0 Z549 (own_P_ext P EX549) PT552 ns0 ns1 (hr0.2.2.2.2.1.mp g0) (hr1.2.2.2.2.1.mp g1)) hZ (hw _ (List.mem_of_getElem? (i := 29) rfl)) (hw _ (List.mem_of_getElem? (i := 28) rfl)) (by decide) (by decide)) (g := (mkF m 189 #[.val (.int p1), .val (.int p2), .val (.int p3), .val (.int p4), .val (.int (2 : Int32)), .val (.int dd), .val (.int ch0), .val (.int ch1), .val (.int ch2), .val (.ref b534), .val (.int (1 : Int32)), .unset, .unset] [(.ref b534)])) rfl (by rw [hml]; rfl) (argsL := [(.ref b534)]) (rest := []) (lenOf pd__Ljava_lang_String__Ljava_util_Optional_ rfl) rfl (by show 2 * 0 + _ ≤ _; exact Nat.le_of_eq rfl) (hb hby at_189) (fun _ _ => ⟨rfl, rfl, (by decide : 3 + 2 ≤ _), (by decide : 8 + 3 ≤ _)⟩)
  dsimp only [Pt.U, Pt.locs, Pt.cells, Pt.slots] at X553 l553 y553 z553 st553 hQ553
  subst l553 y553 z553
  obtain ⟨t553, rfl, N553q, EE553, EO553, FO553⟩ := hQ553
  have N553 := Fr.app N549 N553q
  have E549s_554 := E549s.ext EE553
  have V545_555 := V545_551.ext EE553
  have C549s_556 := C549s.ext EE553
  have V549s_557 := V549s.ext EE553
  have B549s_558 := B549s.ext EE553
  have EX553 : Ext h0 T553.heap := own_ext_trans EX549 EE553
  have Z553 : n0 ≤ T553.heap.size := Nat.le_trans Z0 EX553.1
  obtain ⟨cq559, kq559, q559a, q559b, q559c⟩ := isOf hZ rfl EO553
  obtain ⟨_, _, ⟨T559, L559, k559, n559⟩, -, X559, ⟨Lc559, hQ559, l559, y559, z559⟩, st559⟩ := X553.virtualBack hx (y := (⟨"java/util/Optional", "isPresent", "()Z"⟩ : MethodName)) (z := (⟨"java/util/Optional", "isPresent", "()Z"⟩ : MethodName)) hown (mvT hZ (hw _ (List.mem_of_getElem? (i := 75) rfl))) (mvT hZ (hw _ (List.mem_of_getElem? (i := 76) rfl))) (notFace_of_selects (args := #[]) (mvT hZ (hw _ (List.mem_of_getElem? (i := 78) rfl)))) (mvT hZ (hw _ (List.mem_of_getElem? (i := 78) rfl))) (mvT hZ (hw _ (List.mem_of_getElem? (i := 77) rfl))) (by decide) (backOf (W := 0) (own_pres_f l Z a0 hw [] t553 w0 T553.heap n0 Z553 FO553) hZ (hw _ (List.mem_of_getElem? (i := 79) rfl)) (hw _ (List.mem_of_getElem? (i := 72) rfl)) (by decide) (by decide)) q559a q559c (g := (mkF m 215 #[.val (.int p1), .val (.int p2), .val (.int p3), .val (.int p4), .val (.int (2 : Int32)), .val (.int dd), .val (.int ch0), .val (.int ch1), .val (.int ch2), .val (.ref b534), .val (.int (1 : Int32)), .val (.ref t553), .unset] [(.ref t553)])) rfl (by rw [hml]; rfl) (Steps.refl _) (argsL := []) (rest := []) (lenOf pd___Z rfl) rfl (by show 2 * 0 + _ ≤ _; exact Nat.le_of_eq rfl) (hb hby at_215) (fun _ _ => ⟨rfl, rfl, (by decide : 5 + 0 ≤ _), (by decide : 11 + 0 ≤ _)⟩)
  dsimp only [Pt.U, Pt.locs, Pt.cells, Pt.slots] at X559 l559 y559 z559 st559 hQ559
  subst l559 y559 z559
  obtain ⟨rfl, N559q, e559⟩ := hQ559
  have N559 := Fr.app N553 N559q
  obtain ⟨T560, X560, e560, st560⟩ := getS2 X559 hx hZ hown (host := "") (Or.inl (hw _ (List.mem_of_getElem? (i := 106) rfl))) Via.refl e559 (Pw0.ext EX553) (g := (mkF m 229 #[.val (.int p1), .val (.int p2), .val (.int p3), .val (.int p4), .val (.int (2 : Int32)), .val (.int dd), .val (.int ch0), .val (.int ch1), .val (.int ch2), .val (.ref b534), .val (.int (1 : Int32)), .val (.ref t553), .unset] [])) rfl (hb hby at_229)
  obtain ⟨cq561, kq561, q561a, q561b, q561c⟩ := isOf hZ e560 EO553
  obtain ⟨_, _, ⟨T561, L561, k561, n561⟩, -, X561, ⟨Lc561, hQ561, l561, y561, z561⟩, st561⟩ := X560.virtualBack hx (y := (⟨"java/util/Optional", "get", "()Ljava/lang/Object;"⟩ : MethodName)) (z := (⟨"java/util/Optional", "get", "()Ljava/lang/Object;"⟩ : MethodName)) hown (mvT hZ (hw _ (List.mem_of_getElem? (i := 107) rfl))) (mvT hZ (hw _ (List.mem_of_getElem? (i := 108) rfl))) (notFace_of_selects (args := #[]) (mvT hZ (hw _ (List.mem_of_getElem? (i := 110) rfl)))) (mvT hZ (hw _ (List.mem_of_getElem? (i := 110) rfl))) (mvT hZ (hw _ (List.mem_of_getElem? (i := 109) rfl))) (by decide) (backOf (W := 0) (own_get l Z a0 hw [] t553 w0 T553.heap n0 Z553 FO553) hZ (hw _ (List.mem_of_getElem? (i := 111) rfl)) (hw _ (List.mem_of_getElem? (i := 72) rfl)) (by decide) (by decide)) q561a q561c (g := (mkF m 242 #[.val (.int p1), .val (.int p2), .val (.int p3), .val (.int p4), .val (.int (2 : Int32)), .val (.int dd), .val (.int ch0), .val (.int ch1), .val (.int ch2), .val (.ref b534), .val (.int (1 : Int32)), .val (.ref t553), .val (.ref w0)] [(.ref t553)])) rfl (by rw [hml]; rfl) (Steps.refl _) (argsL := []) (rest := []) (lenOf pd___Ljava_lang_Object_ rfl) rfl (by show 2 * 0 + _ ≤ _; exact Nat.le_of_eq rfl) (hb hby at_242) (fun _ _ => ⟨rfl, e560, (by decide : 5 + 0 ≤ _), (by decide : 11 + 0 ≤ _)⟩)
  dsimp only [Pt.U, Pt.locs, Pt.cells, Pt.slots] at X561 l561 y561 z561 st561 hQ561
  subst l561 y561 z561
  obtain ⟨rfl, N561q, e561⟩ := hQ561
  have N561 := Fr.app N559 N561q
  obtain ⟨fs, hr, hrun, hended, hRE⟩ := Jvm.Stand.leaveW (s := s) (vm₁ := s.vm) X561 ((State.WarmedH.refl s).since 0) (Nat.le_trans (Nat.zero_le _) (Nat.le_of_eq (congrArg Array.size e561.symm))) (v := some (.int (1 : Int32))) (fun h => by rw [Bd.returns] at h; cases h)
  refine ⟨_, _, pre0 _ (pre1 _ (thru _ ?_)), hrun, hended, _, _, rfl, ?_, ⟨_, rfl⟩, hRE.2.1, hRE.2.2.1, hRE.2.2.2.mono (by decide) (by decide)⟩
  · show Steps p.tables e below (s₁.setTop (mkF m 18 #[.val (.int p1), .val (.int p2), .val (.int p3), .val (.int p4), .val (.int (2 : Int32)), .unset, .unset, .unset, .unset, .unset, .unset, .unset, .unset] [(.int dd)])) _
    refine XS.istore X0.here hx rfl (hb hby at_18) rfl (l' := #[.val (.int p1), .val (.int p2), .val (.int p3), .val (.int p4), .val (.int (2 : Int32)), .val (.int dd), .unset, .unset, .unset, .unset, .unset, .unset, .unset]) rfl ?_
    show Steps p.tables e below (s₁.setTop (mkF m 20 #[.val (.int p1), .val (.int p2), .val (.int p3), .val (.int p4), .val (.int (2 : Int32)), .val (.int dd), .unset, .unset, .unset, .unset, .unset, .unset, .unset] [])) _
    refine XS.iload X0.here hx rfl (hb hby at_20) rfl ?_
    show Steps p.tables e below (s₁.setTop (mkF m 22 #[.val (.int p1), .val (.int p2), .val (.int p3), .val (.int p4), .val (.int (2 : Int32)), .val (.int dd), .unset, .unset, .unset, .unset, .unset, .unset, .unset] [(.int dd)])) _
    refine XS.iloadN X0.here hx rfl (hb hby at_22) rfl ?_
    show Steps p.tables e below (s₁.setTop (mkF m 23 #[.val (.int p1), .val (.int p2), .val (.int p3), .val (.int p4), .val (.int (2 : Int32)), .val (.int dd), .unset, .unset, .unset, .unset, .unset, .unset, .unset] [(.int p2), (.int dd)])) _
    refine st531 _ ?_
    show Steps p.tables e below (T531.setTop (mkF m 26 #[.val (.int p1), .val (.int p2), .val (.int p3), .val (.int p4), .val (.int (2 : Int32)), .val (.int dd), .unset, .unset, .unset, .unset, .unset, .unset, .unset] [(.int ch0)])) _
    refine XS.istore X531.here hx rfl (hb hby at_26) rfl (l' := #[.val (.int p1), .val (.int p2), .val (.int p3), .val (.int p4), .val (.int (2 : Int32)), .val (.int dd), .val (.int ch0), .unset, .unset, .unset, .unset, .unset, .unset]) rfl ?_
    show Steps p.tables e below (T531.setTop (mkF m 28 #[.val (.int p1), .val (.int p2), .val (.int p3), .val (.int p4), .val (.int (2 : Int32)), .val (.int dd), .val (.int ch0), .unset, .unset, .unset, .unset, .unset, .unset] [])) _
    refine XS.iload X531.here hx rfl (hb hby at_28) rfl ?_
    show Steps p.tables e below (T531.setTop (mkF m 30 #[.val (.int p1), .val (.int p2), .val (.int p3), .val (.int p4), .val (.int (2 : Int32)), .val (.int dd), .val (.int ch0), .unset, .unset, .unset, .unset, .unset, .unset] [(.int dd)])) _
    refine XS.iloadN X531.here hx rfl (hb hby at_30) rfl ?_
    show Steps p.tables e below (T531.setTop (mkF m 31 #[.val (.int p1), .val (.int p2), .val (.int p3), .val (.int p4), .val (.int (2 : Int32)), .val (.int dd), .val (.int ch0), .unset, .unset, .unset, .unset, .unset, .unset] [(.int p3), (.int dd)])) _
    refine st532 _ ?_
    show Steps p.tables e below (T532.setTop (mkF m 34 #[.val (.int p1), .val (.int p2), .val (.int p3), .val (.int p4), .val (.int (2 : Int32)), .val (.int dd), .val (.int ch0), .unset, .unset, .unset, .unset, .unset, .unset] [(.int ch1)])) _
    refine XS.istore X532.here hx rfl (hb hby at_34) rfl (l' := #[.val (.int p1), .val (.int p2), .val (.int p3), .val (.int p4), .val (.int (2 : Int32)), .val (.int dd), .val (.int ch0), .val (.int ch1), .unset, .unset, .unset, .unset, .unset]) rfl ?_
    show Steps p.tables e below (T532.setTop (mkF m 36 #[.val (.int p1), .val (.int p2), .val (.int p3), .val (.int p4), .val (.int (2 : Int32)), .val (.int dd), .val (.int ch0), .val (.int ch1), .unset, .unset, .unset, .unset, .unset] [])) _
    refine XS.iload X532.here hx rfl (hb hby at_36) rfl ?_
    show Steps p.tables e below (T532.setTop (mkF m 38 #[.val (.int p1), .val (.int p2), .val (.int p3), .val (.int p4), .val (.int (2 : Int32)), .val (.int dd), .val (.int ch0), .val (.int ch1), .unset, .unset, .unset, .unset, .unset] [(.int dd)])) _
    refine XS.iloadN X532.here hx rfl (hb hby at_38) rfl ?_
    show Steps p.tables e below (T532.setTop (mkF m 39 #[.val (.int p1), .val (.int p2), .val (.int p3), .val (.int p4), .val (.int (2 : Int32)), .val (.int dd), .val (.int ch0), .val (.int ch1), .unset, .unset, .unset, .unset, .unset] [(.int p4), (.int dd)])) _
    refine st533 _ ?_
    show Steps p.tables e below (T533.setTop (mkF m 42 #[.val (.int p1), .val (.int p2), .val (.int p3), .val (.int p4), .val (.int (2 : Int32)), .val (.int dd), .val (.int ch0), .val (.int ch1), .unset, .unset, .unset, .unset, .unset] [(.int ch2)])) _
    refine XS.istore X533.here hx rfl (hb hby at_42) rfl (l' := #[.val (.int p1), .val (.int p2), .val (.int p3), .val (.int p4), .val (.int (2 : Int32)), .val (.int dd), .val (.int ch0), .val (.int ch1), .val (.int ch2), .unset, .unset, .unset, .unset]) rfl ?_
    show Steps p.tables e below (T533.setTop (mkF m 44 #[.val (.int p1), .val (.int p2), .val (.int p3), .val (.int p4), .val (.int (2 : Int32)), .val (.int dd), .val (.int ch0), .val (.int ch1), .val (.int ch2), .unset, .unset, .unset, .unset] [])) _
    refine XS.iload X533.here hx rfl (hb hby at_44) rfl ?_
    show Steps p.tables e below (T533.setTop (mkF m 46 #[.val (.int p1), .val (.int p2), .val (.int p3), .val (.int p4), .val (.int (2 : Int32)), .val (.int dd), .val (.int ch0), .val (.int ch1), .val (.int ch2), .unset, .unset, .unset, .unset] [(.int (2 : Int32))])) _
    refine XS.ifYes X533.here hx rfl (pc0 := 46) (pc' := 64) rfl (hb hby at_46) rfl (by decide) (by decide) (by decide) ?_
    show Steps p.tables e below (T533.setTop (mkF m 64 #[.val (.int p1), .val (.int p2), .val (.int p3), .val (.int p4), .val (.int (2 : Int32)), .val (.int dd), .val (.int ch0), .val (.int ch1), .val (.int ch2), .unset, .unset, .unset, .unset] [])) _
    refine XS.iload X533.here hx rfl (hb hby at_64) rfl ?_
    show Steps p.tables e below (T533.setTop (mkF m 66 #[.val (.int p1), .val (.int p2), .val (.int p3), .val (.int p4), .val (.int (2 : Int32)), .val (.int dd), .val (.int ch0), .val (.int ch1), .val (.int ch2), .unset, .unset, .unset, .unset] [(.int (2 : Int32))])) _
    refine XT.iconstV X533.here hx rfl (1 : Int32) (hb hby at_66) rfl ?_
    show Steps p.tables e below (T533.setTop (mkF m 67 #[.val (.int p1), .val (.int p2), .val (.int p3), .val (.int p4), .val (.int (2 : Int32)), .val (.int dd), .val (.int ch0), .val (.int ch1), .val (.int ch2), .unset, .unset, .unset, .unset] [(.int (1 : Int32)), (.int (2 : Int32))])) _
    refine XS.icmpYes X533.here hx rfl (pc0 := 67) (pc' := 90) rfl (hb hby at_67) rfl (by decide) (by decide) (by decide) ?_
    show Steps p.tables e below (T533.setTop (mkF m 90 #[.val (.int p1), .val (.int p2), .val (.int p3), .val (.int p4), .val (.int (2 : Int32)), .val (.int dd), .val (.int ch0), .val (.int ch1), .val (.int ch2), .unset, .unset, .unset, .unset] [])) _
    refine XS.iload X533.here hx rfl (hb hby at_90) rfl ?_
    show Steps p.tables e below (T533.setTop (mkF m 92 #[.val (.int p1), .val (.int p2), .val (.int p3), .val (.int p4), .val (.int (2 : Int32)), .val (.int dd), .val (.int ch0), .val (.int ch1), .val (.int ch2), .unset, .unset, .unset, .unset] [(.int (2 : Int32))])) _
    refine XT.iconstV X533.here hx rfl (2 : Int32) (hb hby at_92) rfl ?_
    show Steps p.tables e below (T533.setTop (mkF m 93 #[.val (.int p1), .val (.int p2), .val (.int p3), .val (.int p4), .val (.int (2 : Int32)), .val (.int dd), .val (.int ch0), .val (.int ch1), .val (.int ch2), .unset, .unset, .unset, .unset] [(.int (2 : Int32)), (.int (2 : Int32))])) _
    refine XS.icmpNo X533.here hx rfl (hb hby at_93) rfl (by decide) ?_
    show Steps p.tables e below (T533.setTop (mkF m 96 #[.val (.int p1), .val (.int p2), .val (.int p3), .val (.int p4), .val (.int (2 : Int32)), .val (.int dd), .val (.int ch0), .val (.int ch1), .val (.int ch2), .unset, .unset, .unset, .unset] [])) _
    refine st534 _ ?_
    show Steps p.tables e below (T534.setTop (mkF m 99 #[.val (.int p1), .val (.int p2), .val (.int p3), .val (.int p4), .val (.int (2 : Int32)), .val (.int dd), .val (.int ch0), .val (.int ch1), .val (.int ch2), .unset, .unset, .unset, .unset] [(.ref b534)])) _
    refine XS.dup X534.here hx rfl (hb hby at_99) rfl rfl ?_
    show Steps p.tables e below (T534.setTop (mkF m 100 #[.val (.int p1), .val (.int p2), .val (.int p3), .val (.int p4), .val (.int (2 : Int32)), .val (.int dd), .val (.int ch0), .val (.int ch1), .val (.int ch2), .unset, .unset, .unset, .unset] [(.ref b534), (.ref b534)])) _
    refine XT.iconstV X534.here hx rfl (2 : Int32) (hb hby at_100) rfl ?_
    show Steps p.tables e below (T534.setTop (mkF m 101 #[.val (.int p1), .val (.int p2), .val (.int p3), .val (.int p4), .val (.int (2 : Int32)), .val (.int dd), .val (.int ch0), .val (.int ch1), .val (.int ch2), .unset, .unset, .unset, .unset] [(.int (2 : Int32)), (.ref b534), (.ref b534)])) _
    refine st537 _ ?_
    show Steps p.tables e below (T537.setTop (mkF m 103 #[.val (.int p1), .val (.int p2), .val (.int p3), .val (.int p4), .val (.int (2 : Int32)), .val (.int dd), .val (.int ch0), .val (.int ch1), .val (.int ch2), .unset, .unset, .unset, .unset] [(.ref b537), (.ref b534), (.ref b534)])) _
    refine XS.dup X537.here hx rfl (hb hby at_103) rfl rfl ?_
    show Steps p.tables e below (T537.setTop (mkF m 104 #[.val (.int p1), .val (.int p2), .val (.int p3), .val (.int p4), .val (.int (2 : Int32)), .val (.int dd), .val (.int ch0), .val (.int ch1), .val (.int ch2), .unset, .unset, .unset, .unset] [(.ref b537), (.ref b537), (.ref b534), (.ref b534)])) _
    refine XT.iconstV X537.here hx rfl (0 : Int32) (hb hby at_104) rfl ?_
    show Steps p.tables e below (T537.setTop (mkF m 105 #[.val (.int p1), .val (.int p2), .val (.int p3), .val (.int p4), .val (.int (2 : Int32)), .val (.int dd), .val (.int ch0), .val (.int ch1), .val (.int ch2), .unset, .unset, .unset, .unset] [(.int (0 : Int32)), (.ref b537), (.ref b537), (.ref b534), (.ref b534)])) _
    refine XS.iload X537.here hx rfl (hb hby at_105) rfl ?_
    show Steps p.tables e below (T537.setTop (mkF m 107 #[.val (.int p1), .val (.int p2), .val (.int p3), .val (.int p4), .val (.int (2 : Int32)), .val (.int dd), .val (.int ch0), .val (.int ch1), .val (.int ch2), .unset, .unset, .unset, .unset] [(.int ch0), (.int (0 : Int32)), (.ref b537), (.ref b537), (.ref b534), (.ref b534)])) _
    refine st541 _ ?_
    show Steps p.tables e below (T541.setTop (mkF m 108 #[.val (.int p1), .val (.int p2), .val (.int p3), .val (.int p4), .val (.int (2 : Int32)), .val (.int dd), .val (.int ch0), .val (.int ch1), .val (.int ch2), .unset, .unset, .unset, .unset] [(.ref b537), (.ref b534), (.ref b534)])) _
    refine XS.dup X541.here hx rfl (hb hby at_108) rfl rfl ?_
    show Steps p.tables e below (T541.setTop (mkF m 109 #[.val (.int p1), .val (.int p2), .val (.int p3), .val (.int p4), .val (.int (2 : Int32)), .val (.int dd), .val (.int ch0), .val (.int ch1), .val (.int ch2), .unset, .unset, .unset, .unset] [(.ref b537), (.ref b537), (.ref b534), (.ref b534)])) _
    refine XT.iconstV X541.here hx rfl (1 : Int32) (hb hby at_109) rfl ?_
    show Steps p.tables e below (T541.setTop (mkF m 110 #[.val (.int p1), .val (.int p2), .val (.int p3), .val (.int p4), .val (.int (2 : Int32)), .val (.int dd), .val (.int ch0), .val (.int ch1), .val (.int ch2), .unset, .unset, .unset, .unset] [(.int (1 : Int32)), (.ref b537), (.ref b537), (.ref b534), (.ref b534)])) _
    refine XS.iload X541.here hx rfl (hb hby at_110) rfl ?_
    show Steps p.tables e below (T541.setTop (mkF m 112 #[.val (.int p1), .val (.int p2), .val (.int p3), .val (.int p4), .val (.int (2 : Int32)), .val (.int dd), .val (.int ch0), .val (.int ch1), .val (.int ch2), .unset, .unset, .unset, .unset] [(.int ch1), (.int (1 : Int32)), (.ref b537), (.ref b537), (.ref b534), (.ref b534)])) _
    refine st545 _ ?_
    show Steps p.tables e below (T545.setTop (mkF m 113 #[.val (.int p1), .val (.int p2), .val (.int p3), .val (.int p4), .val (.int (2 : Int32)), .val (.int dd), .val (.int ch0), .val (.int ch1), .val (.int ch2), .unset, .unset, .unset, .unset] [(.ref b537), (.ref b534), (.ref b534)])) _
    refine st549.trans ?_
    show Steps p.tables e below (T549.setTop (mkF m 116 #[.val (.int p1), .val (.int p2), .val (.int p3), .val (.int p4), .val (.int (2 : Int32)), .val (.int dd), .val (.int ch0), .val (.int ch1), .val (.int ch2), .unset, .unset, .unset, .unset] [(.ref b534)])) _
    refine XS.astore X549.here hx rfl (hb hby at_116) rfl rfl (l' := #[.val (.int p1), .val (.int p2), .val (.int p3), .val (.int p4), .val (.int (2 : Int32)), .val (.int dd), .val (.int ch0), .val (.int ch1), .val (.int ch2), .val (.ref b534), .unset, .unset, .unset]) rfl ?_
    show Steps p.tables e below (T549.setTop (mkF m 118 #[.val (.int p1), .val (.int p2), .val (.int p3), .val (.int p4), .val (.int (2 : Int32)), .val (.int dd), .val (.int ch0), .val (.int ch1), .val (.int ch2), .val (.ref b534), .unset, .unset, .unset] [])) _
    refine XS.goto X549.here hx rfl (pc0 := 118) (pc' := 148) rfl (hb hby at_118) (by decide) (by decide) ?_
    show Steps p.tables e below (T549.setTop (mkF m 148 #[.val (.int p1), .val (.int p2), .val (.int p3), .val (.int p4), .val (.int (2 : Int32)), .val (.int dd), .val (.int ch0), .val (.int ch1), .val (.int ch2), .val (.ref b534), .unset, .unset, .unset] [])) _
    refine XT.iconstV X549.here hx rfl (0 : Int32) (hb hby at_148) rfl ?_
    show Steps p.tables e below (T549.setTop (mkF m 149 #[.val (.int p1), .val (.int p2), .val (.int p3), .val (.int p4), .val (.int (2 : Int32)), .val (.int dd), .val (.int ch0), .val (.int ch1), .val (.int ch2), .val (.ref b534), .unset, .unset, .unset] [(.int (0 : Int32))])) _
    refine XS.istore X549.here hx rfl (hb hby at_149) rfl (l' := #[.val (.int p1), .val (.int p2), .val (.int p3), .val (.int p4), .val (.int (2 : Int32)), .val (.int dd), .val (.int ch0), .val (.int ch1), .val (.int ch2), .val (.ref b534), .val (.int (0 : Int32)), .unset, .unset]) rfl ?_
    show Steps p.tables e below (T549.setTop (mkF m 151 #[.val (.int p1), .val (.int p2), .val (.int p3), .val (.int p4), .val (.int (2 : Int32)), .val (.int dd), .val (.int ch0), .val (.int ch1), .val (.int ch2), .val (.ref b534), .val (.int (0 : Int32)), .unset, .unset] [])) _
    refine XS.iload X549.here hx rfl (hb hby at_151) rfl ?_
    show Steps p.tables e below (T549.setTop (mkF m 153 #[.val (.int p1), .val (.int p2), .val (.int p3), .val (.int p4), .val (.int (2 : Int32)), .val (.int dd), .val (.int ch0), .val (.int ch1), .val (.int ch2), .val (.ref b534), .val (.int (0 : Int32)), .unset, .unset] [(.int (2 : Int32))])) _
    refine XT.iconstV X549.here hx rfl (2 : Int32) (hb hby at_153) rfl ?_
    show Steps p.tables e below (T549.setTop (mkF m 154 #[.val (.int p1), .val (.int p2), .val (.int p3), .val (.int p4), .val (.int (2 : Int32)), .val (.int dd), .val (.int ch0), .val (.int ch1), .val (.int ch2), .val (.ref b534), .val (.int (0 : Int32)), .unset, .unset] [(.int (2 : Int32)), (.int (2 : Int32))])) _
    refine XS.icmpNo X549.here hx rfl (hb hby at_154) rfl (by decide) ?_
    show Steps p.tables e below (T549.setTop (mkF m 157 #[.val (.int p1), .val (.int p2), .val (.int p3), .val (.int p4), .val (.int (2 : Int32)), .val (.int dd), .val (.int ch0), .val (.int ch1), .val (.int ch2), .val (.ref b534), .val (.int (0 : Int32)), .unset, .unset] [])) _
    refine XS.iload X549.here hx rfl (hb hby at_157) rfl ?_
    show Steps p.tables e below (T549.setTop (mkF m 159 #[.val (.int p1), .val (.int p2), .val (.int p3), .val (.int p4), .val (.int (2 : Int32)), .val (.int dd), .val (.int ch0), .val (.int ch1), .val (.int ch2), .val (.ref b534), .val (.int (0 : Int32)), .unset, .unset] [(.int ch0)])) _
    refine XT.bipushV X549.here hx rfl (52 : Int32) (hb hby at_159) (by decide) ?_
    show Steps p.tables e below (T549.setTop (mkF m 161 #[.val (.int p1), .val (.int p2), .val (.int p3), .val (.int p4), .val (.int (2 : Int32)), .val (.int dd), .val (.int ch0), .val (.int ch1), .val (.int ch2), .val (.ref b534), .val (.int (0 : Int32)), .unset, .unset] [(.int (52 : Int32)), (.int ch0)])) _
    refine XS.icmpNo X549.here hx rfl (hb hby at_161) rfl (XT.ii_ne_f g0) ?_
    show Steps p.tables e below (T549.setTop (mkF m 164 #[.val (.int p1), .val (.int p2), .val (.int p3), .val (.int p4), .val (.int (2 : Int32)), .val (.int dd), .val (.int ch0), .val (.int ch1), .val (.int ch2), .val (.ref b534), .val (.int (0 : Int32)), .unset, .unset] [])) _
    refine XS.iload X549.here hx rfl (hb hby at_164) rfl ?_
    show Steps p.tables e below (T549.setTop (mkF m 166 #[.val (.int p1), .val (.int p2), .val (.int p3), .val (.int p4), .val (.int (2 : Int32)), .val (.int dd), .val (.int ch0), .val (.int ch1), .val (.int ch2), .val (.ref b534), .val (.int (0 : Int32)), .unset, .unset] [(.int ch1)])) _
    refine XT.bipushV X549.here hx rfl (52 : Int32) (hb hby at_166) (by decide) ?_
    show Steps p.tables e below (T549.setTop (mkF m 168 #[.val (.int p1), .val (.int p2), .val (.int p3), .val (.int p4), .val (.int (2 : Int32)), .val (.int dd), .val (.int ch0), .val (.int ch1), .val (.int ch2), .val (.ref b534), .val (.int (0 : Int32)), .unset, .unset] [(.int (52 : Int32)), (.int ch1)])) _
    refine XS.icmpNo X549.here hx rfl (hb hby at_168) rfl (XT.ii_ne_f g1) ?_
    show Steps p.tables e below (T549.setTop (mkF m 171 #[.val (.int p1), .val (.int p2), .val (.int p3), .val (.int p4), .val (.int (2 : Int32)), .val (.int dd), .val (.int ch0), .val (.int ch1), .val (.int ch2), .val (.ref b534), .val (.int (0 : Int32)), .unset, .unset] [])) _
    refine XT.iconstV X549.here hx rfl (1 : Int32) (hb hby at_171) rfl ?_
    show Steps p.tables e below (T549.setTop (mkF m 172 #[.val (.int p1), .val (.int p2), .val (.int p3), .val (.int p4), .val (.int (2 : Int32)), .val (.int dd), .val (.int ch0), .val (.int ch1), .val (.int ch2), .val (.ref b534), .val (.int (0 : Int32)), .unset, .unset] [(.int (1 : Int32))])) _
    refine XS.istore X549.here hx rfl (hb hby at_172) rfl (l' := #[.val (.int p1), .val (.int p2), .val (.int p3), .val (.int p4), .val (.int (2 : Int32)), .val (.int dd), .val (.int ch0), .val (.int ch1), .val (.int ch2), .val (.ref b534), .val (.int (1 : Int32)), .unset, .unset]) rfl ?_
    show Steps p.tables e below (T549.setTop (mkF m 174 #[.val (.int p1), .val (.int p2), .val (.int p3), .val (.int p4), .val (.int (2 : Int32)), .val (.int dd), .val (.int ch0), .val (.int ch1), .val (.int ch2), .val (.ref b534), .val (.int (1 : Int32)), .unset, .unset] [])) _
    refine XS.goto X549.here hx rfl (pc0 := 174) (pc' := 187) rfl (hb hby at_174) (by decide) (by decide) ?_
    show Steps p.tables e below (T549.setTop (mkF m 187 #[.val (.int p1), .val (.int p2), .val (.int p3), .val (.int p4), .val (.int (2 : Int32)), .val (.int dd), .val (.int ch0), .val (.int ch1), .val (.int ch2), .val (.ref b534), .val (.int (1 : Int32)), .unset, .unset] [])) _
    refine XS.aload X549.here hx rfl (hb hby at_187) rfl rfl ?_
    show Steps p.tables e below (T549.setTop (mkF m 189 #[.val (.int p1), .val (.int p2), .val (.int p3), .val (.int p4), .val (.int (2 : Int32)), .val (.int dd), .val (.int ch0), .val (.int ch1), .val (.int ch2), .val (.ref b534), .val (.int (1 : Int32)), .unset, .unset] [(.ref b534)])) _
    refine st553 _ ?_
    show Steps p.tables e below (T553.setTop (mkF m 192 #[.val (.int p1), .val (.int p2), .val (.int p3), .val (.int p4), .val (.int (2 : Int32)), .val (.int dd), .val (.int ch0), .val (.int ch1), .val (.int ch2), .val (.ref b534), .val (.int (1 : Int32)), .unset, .unset] [(.ref t553)])) _
    refine XS.astore X553.here hx rfl (hb hby at_192) rfl rfl (l' := #[.val (.int p1), .val (.int p2), .val (.int p3), .val (.int p4), .val (.int (2 : Int32)), .val (.int dd), .val (.int ch0), .val (.int ch1), .val (.int ch2), .val (.ref b534), .val (.int (1 : Int32)), .val (.ref t553), .unset]) rfl ?_
    show Steps p.tables e below (T553.setTop (mkF m 194 #[.val (.int p1), .val (.int p2), .val (.int p3), .val (.int p4), .val (.int (2 : Int32)), .val (.int dd), .val (.int ch0), .val (.int ch1), .val (.int ch2), .val (.ref b534), .val (.int (1 : Int32)), .val (.ref t553), .unset] [])) _
    refine XS.iload X553.here hx rfl (hb hby at_194) rfl ?_
    show Steps p.tables e below (T553.setTop (mkF m 196 #[.val (.int p1), .val (.int p2), .val (.int p3), .val (.int p4), .val (.int (2 : Int32)), .val (.int dd), .val (.int ch0), .val (.int ch1), .val (.int ch2), .val (.ref b534), .val (.int (1 : Int32)), .val (.ref t553), .unset] [(.int (1 : Int32))])) _
    refine XS.ifYes X553.here hx rfl (pc0 := 196) (pc' := 213) rfl (hb hby at_196) rfl (by decide) (by decide) (by decide) ?_
    show Steps p.tables e below (T553.setTop (mkF m 213 #[.val (.int p1), .val (.int p2), .val (.int p3), .val (.int p4), .val (.int (2 : Int32)), .val (.int dd), .val (.int ch0), .val (.int ch1), .val (.int ch2), .val (.ref b534), .val (.int (1 : Int32)), .val (.ref t553), .unset] [])) _
    refine XS.aload X553.here hx rfl (hb hby at_213) rfl rfl ?_
    show Steps p.tables e below (T553.setTop (mkF m 215 #[.val (.int p1), .val (.int p2), .val (.int p3), .val (.int p4), .val (.int (2 : Int32)), .val (.int dd), .val (.int ch0), .val (.int ch1), .val (.int ch2), .val (.ref b534), .val (.int (1 : Int32)), .val (.ref t553), .unset] [(.ref t553)])) _
    refine st559.trans ?_
    show Steps p.tables e below (T559.setTop (mkF m 218 #[.val (.int p1), .val (.int p2), .val (.int p3), .val (.int p4), .val (.int (2 : Int32)), .val (.int dd), .val (.int ch0), .val (.int ch1), .val (.int ch2), .val (.ref b534), .val (.int (1 : Int32)), .val (.ref t553), .unset] [(.int (1 : Int32))])) _
    refine XS.ifYes X559.here hx rfl (pc0 := 218) (pc' := 223) rfl (hb hby at_218) rfl (by decide) (by decide) (by decide) ?_
    show Steps p.tables e below (T559.setTop (mkF m 223 #[.val (.int p1), .val (.int p2), .val (.int p3), .val (.int p4), .val (.int (2 : Int32)), .val (.int dd), .val (.int ch0), .val (.int ch1), .val (.int ch2), .val (.ref b534), .val (.int (1 : Int32)), .val (.ref t553), .unset] [])) _
    refine XS.iload X559.here hx rfl (hb hby at_223) rfl ?_
    show Steps p.tables e below (T559.setTop (mkF m 225 #[.val (.int p1), .val (.int p2), .val (.int p3), .val (.int p4), .val (.int (2 : Int32)), .val (.int dd), .val (.int ch0), .val (.int ch1), .val (.int ch2), .val (.ref b534), .val (.int (1 : Int32)), .val (.ref t553), .unset] [(.int (1 : Int32))])) _
    refine XT.iconstV X559.here hx rfl (1 : Int32) (hb hby at_225) rfl ?_
    show Steps p.tables e below (T559.setTop (mkF m 226 #[.val (.int p1), .val (.int p2), .val (.int p3), .val (.int p4), .val (.int (2 : Int32)), .val (.int dd), .val (.int ch0), .val (.int ch1), .val (.int ch2), .val (.ref b534), .val (.int (1 : Int32)), .val (.ref t553), .unset] [(.int (1 : Int32)), (.int (1 : Int32))])) _
    refine XS.icmpNo X559.here hx rfl (hb hby at_226) rfl (by decide) ?_
    show Steps p.tables e below (T559.setTop (mkF m 229 #[.val (.int p1), .val (.int p2), .val (.int p3), .val (.int p4), .val (.int (2 : Int32)), .val (.int dd), .val (.int ch0), .val (.int ch1), .val (.int ch2), .val (.ref b534), .val (.int (1 : Int32)), .val (.ref t553), .unset] [])) _
    refine st560 _ ?_
    show Steps p.tables e below (T560.setTop (mkF m 232 #[.val (.int p1), .val (.int p2), .val (.int p3), .val (.int p4), .val (.int (2 : Int32)), .val (.int dd), .val (.int ch0), .val (.int ch1), .val (.int ch2), .val (.ref b534), .val (.int (1 : Int32)), .val (.ref t553), .unset] [(.ref w0)])) _
    refine XS.goto X560.here hx rfl (pc0 := 232) (pc' := 238) rfl (hb hby at_232) (by decide) (by decide) ?_
    show Steps p.tables e below (T560.setTop (mkF m 238 #[.val (.int p1), .val (.int p2), .val (.int p3), .val (.int p4), .val (.int (2 : Int32)), .val (.int dd), .val (.int ch0), .val (.int ch1), .val (.int ch2), .val (.ref b534), .val (.int (1 : Int32)), .val (.ref t553), .unset] [(.ref w0)])) _
    refine XS.astore X560.here hx rfl (hb hby at_238) rfl rfl (l' := #[.val (.int p1), .val (.int p2), .val (.int p3), .val (.int p4), .val (.int (2 : Int32)), .val (.int dd), .val (.int ch0), .val (.int ch1), .val (.int ch2), .val (.ref b534), .val (.int (1 : Int32)), .val (.ref t553), .val (.ref w0)]) rfl ?_
    show Steps p.tables e below (T560.setTop (mkF m 240 #[.val (.int p1), .val (.int p2), .val (.int p3), .val (.int p4), .val (.int (2 : Int32)), .val (.int dd), .val (.int ch0), .val (.int ch1), .val (.int ch2), .val (.ref b534), .val (.int (1 : Int32)), .val (.ref t553), .val (.ref w0)] [])) _
    refine XS.aload X560.here hx rfl (hb hby at_240) rfl rfl ?_
    show Steps p.tables e below (T560.setTop (mkF m 242 #[.val (.int p1), .val (.int p2), .val (.int p3), .val (.int p4), .val (.int (2 : Int32)), .val (.int dd), .val (.int ch0), .val (.int ch1), .val (.int ch2), .val (.ref b534), .val (.int (1 : Int32)), .val (.ref t553), .val (.ref w0)] [(.ref t553)])) _
    refine st561.trans ?_
    show Steps p.tables e below (T561.setTop (mkF m 245 #[.val (.int p1), .val (.int p2), .val (.int p3), .val (.int p4), .val (.int (2 : Int32)), .val (.int dd), .val (.int ch0), .val (.int ch1), .val (.int ch2), .val (.ref b534), .val (.int (1 : Int32)), .val (.ref t553), .val (.ref w0)] [(.ref w0)])) _
    refine XS.aload X561.here hx rfl (hb hby at_245) rfl rfl ?_
    show Steps p.tables e below (T561.setTop (mkF m 247 #[.val (.int p1), .val (.int p2), .val (.int p3), .val (.int p4), .val (.int (2 : Int32)), .val (.int dd), .val (.int ch0), .val (.int ch1), .val (.int ch2), .val (.ref b534), .val (.int (1 : Int32)), .val (.ref t553), .val (.ref w0)] [(.ref w0), (.ref w0)])) _
    refine Jvm.RoadKit.acmp (g := (mkF m 247 #[.val (.int p1), .val (.int p2), .val (.int p3), .val (.int p4), .val (.int (2 : Int32)), .val (.int dd), .val (.int ch0), .val (.int ch1), .val (.int ch2), .val (.ref b534), .val (.int (1 : Int32)), .val (.ref t553), .val (.ref w0)] [(.ref w0), (.ref w0)])) X561 hx rfl rfl rfl (pc0 := 247) (pc' := 250) (same := true) rfl (hb hby at_247) rfl (decide_eq_true rfl) (by decide) (by decide) ?_
    show Steps p.tables e below (T561.setTop (mkF m 250 #[.val (.int p1), .val (.int p2), .val (.int p3), .val (.int p4), .val (.int (2 : Int32)), .val (.int dd), .val (.int ch0), .val (.int ch1), .val (.int ch2), .val (.ref b534), .val (.int (1 : Int32)), .val (.ref t553), .val (.ref w0)] [])) _
    refine XT.iconstV X561.here hx rfl (1 : Int32) (hb hby at_250) rfl ?_
    show Steps p.tables e below (T561.setTop (mkF m 251 #[.val (.int p1), .val (.int p2), .val (.int p3), .val (.int p4), .val (.int (2 : Int32)), .val (.int dd), .val (.int ch0), .val (.int ch1), .val (.int ch2), .val (.ref b534), .val (.int (1 : Int32)), .val (.ref t553), .val (.ref w0)] [(.int (1 : Int32))])) _
    refine XS.goto X561.here hx rfl (pc0 := 251) (pc' := 255) rfl (hb hby at_251) (by decide) (by decide) ?_
    show Steps p.tables e below (T561.setTop (mkF m 255 #[.val (.int p1), .val (.int p2), .val (.int p3), .val (.int p4), .val (.int (2 : Int32)), .val (.int dd), .val (.int ch0), .val (.int ch1), .val (.int ch2), .val (.ref b534), .val (.int (1 : Int32)), .val (.ref t553), .val (.ref w0)] [(.int (1 : Int32))])) _
    exact retN X561 hx (t := .boolean) Bd.returns (by simp) (hb hby at_255) hr
  · show own_Q0 n0 _ T561.heap _
    exact ⟨rfl, N561⟩
set_option maxRecDepth 65536 in
set_option maxHeartbeats 40000000 in
theorem own_law_2p (l : Launch) (Z : State) (a0 : Array Value) (hw : ∀ d ∈ tables_1, d.before a0 Z = true) (ws : List Jvm.Cond) (p1 p2 p3 p4 dd ch0 ch1 ch2 : Int32) (wv w0 w1 r0 r1 s0 s1 c0 c1 we : Addr) (kv kc0 kc1 : ClassId) (i7 : Int32) (h0 : Heap) (n0 : Nat) (Z0 : n0 ≤ h0.size) (P : own_P Z h0 wv w0 w1 r0 r1 s0 s1 c0 c1 we kv kc0 kc1 i7) (hEL : EW Z a0 [("java/lang/String", 7)]) (hr0 : own_dr dd p2 ch0) (hr1 : own_dr dd p3 ch1) (hr2 : own_dr dd p4 ch2) (hdd : (dd = (1 : Int32) ∧ ¬ ((XT.ushr p1 (2 : Int32)) &&& (1 : Int32)) = (0 : Int32)) ∨ (dd = (0 : Int32) ∧ ((XT.ushr p1 (2 : Int32)) &&& (1 : Int32)) = (0 : Int32))) (hk : (p1 &&& (3 : Int32)) = (2 : Int32)) (g0 : ch0 = (52 : Int32)) (g1 : ¬ ch1 = (52 : Int32)) (g2 : ch1 = (53 : Int32)) :
    MetFree l x (head1 (Jvm.Cond.code x code maxLocals ret :: ws) room_1) (fun a U => a = #[(.int p1), (.int p2), (.int p3), (.int p4)] ∧ Z.Warmed39 U.vm ∧ U.heap = h0 ∧ CHv Z [("java/lang/String", 7)] U.vm h0) (fun _ _ _ _ _ => True) (fun _ U o U' => ∃ v L, o = .returned v ∧ own_Q0 n0 v U'.heap L ∧ ReturnedEndW U o U' L room_1.cells room_1.slots) := by
  refine MetFree.of_bodySF (plainFor_of_name pn_com_example_recourse_recourse_WriteOffActorRecordedAsPinLaw) hisR ?_
  intro p e s m args below meth c s₁ Bd hml0 hP hK
  obtain ⟨rfl, hZ, hh, hCH⟩ := hP
  have hx := Bd.exec
  have hby := Bd.bytes
  have hml : c.maxLocals = 13 := hml0
  have hown : s.vm.findClass "com/example/recourse/recourse/WriteOffActorRecordedAsPinLaw" = some m.cls := findClass_of_methodNamed Bd.named
  have hnm := (name_of_methodNamed Bd.named Bd.method).1
  have X0 : Stand p l e room_1 s m #[(.int p1), (.int p2), (.int p3), (.int p4)] below meth c s₁ [] 0 0 := Stand.of_body Bd
  have e0 : s₁.heap = h0 := by rw [← hh, Bd.state]; rfl
  have N0 := Fr.nil n0
  have pre0 : ∀ t, Steps p.tables e below (s₁.setTop (mkF m 0 #[.val (.int p1), .val (.int p2), .val (.int p3), .val (.int p4), .unset, .unset, .unset, .unset, .unset, .unset, .unset, .unset, .unset] [])) t → Steps p.tables e below (s₁.setTop (entryFrame m #[(.int p1), (.int p2), (.int p3), (.int p4)] maxLocals)) t := fun t k => castTop (ef_code_IIII m p1 p2 p3 p4) k
  obtain ⟨Pv, Ev, Av, Pw0, Pw1, Ew0, Ew1, Fr0, Fr1, Er0, Er1, Fc0, Fc1, Q0, Q1, Pe, Ee, Fe, S8, c9⟩ := id P
  have pre1 : ∀ t, Steps p.tables e below (s₁.setTop (mkF m 10 #[.val (.int p1), .val (.int p2), .val (.int p3), .val (.int p4), .val (.int (2 : Int32)), .unset, .unset, .unset, .unset, .unset, .unset, .unset, .unset] [(.int ((XT.ushr p1 (2 : Int32)) &&& (1 : Int32)))])) t → Steps p.tables e below (s₁.setTop (mkF m 0 #[.val (.int p1), .val (.int p2), .val (.int p3), .val (.int p4), .unset, .unset, .unset, .unset, .unset, .unset, .unset, .unset, .unset] [])) t := by
    intro t kk
    show Steps p.tables e below (s₁.setTop (mkF m 0 #[.val (.int p1), .val (.int p2), .val (.int p3), .val (.int p4), .unset, .unset, .unset, .unset, .unset, .unset, .unset, .unset, .unset] [])) _
    refine XS.iloadN X0.here hx rfl (hb hby at_0) rfl ?_
    show Steps p.tables e below (s₁.setTop (mkF m 1 #[.val (.int p1), .val (.int p2), .val (.int p3), .val (.int p4), .unset, .unset, .unset, .unset, .unset, .unset, .unset, .unset, .unset] [(.int p1)])) _
    refine XT.iconstV X0.here hx rfl (3 : Int32) (hb hby at_1) rfl ?_
    show Steps p.tables e below (s₁.setTop (mkF m 2 #[.val (.int p1), .val (.int p2), .val (.int p3), .val (.int p4), .unset, .unset, .unset, .unset, .unset, .unset, .unset, .unset, .unset] [(.int (3 : Int32)), (.int p1)])) _
    refine XS.iand X0.here hx rfl (hb hby at_2) rfl ?_
    show Steps p.tables e below (s₁.setTop (mkF m 3 #[.val (.int p1), .val (.int p2), .val (.int p3), .val (.int p4), .unset, .unset, .unset, .unset, .unset, .unset, .unset, .unset, .unset] [(.int (p1 &&& (3 : Int32)))])) _
    rw [hk]
    show Steps p.tables e below (s₁.setTop (mkF m 3 #[.val (.int p1), .val (.int p2), .val (.int p3), .val (.int p4), .unset, .unset, .unset, .unset, .unset, .unset, .unset, .unset, .unset] [(.int (2 : Int32))])) _
    refine XS.istore X0.here hx rfl (hb hby at_3) rfl (l' := #[.val (.int p1), .val (.int p2), .val (.int p3), .val (.int p4), .val (.int (2 : Int32)), .unset, .unset, .unset, .unset, .unset, .unset, .unset, .unset]) rfl ?_
    show Steps p.tables e below (s₁.setTop (mkF m 5 #[.val (.int p1), .val (.int p2), .val (.int p3), .val (.int p4), .val (.int (2 : Int32)), .unset, .unset, .unset, .unset, .unset, .unset, .unset, .unset] [])) _
    refine XS.iloadN X0.here hx rfl (hb hby at_5) rfl ?_
    show Steps p.tables e below (s₁.setTop (mkF m 6 #[.val (.int p1), .val (.int p2), .val (.int p3), .val (.int p4), .val (.int (2 : Int32)), .unset, .unset, .unset, .unset, .unset, .unset, .unset, .unset] [(.int p1)])) _
    refine XT.iconstV X0.here hx rfl (2 : Int32) (hb hby at_6) rfl ?_
    show Steps p.tables e below (s₁.setTop (mkF m 7 #[.val (.int p1), .val (.int p2), .val (.int p3), .val (.int p4), .val (.int (2 : Int32)), .unset, .unset, .unset, .unset, .unset, .unset, .unset, .unset] [(.int (2 : Int32)), (.int p1)])) _
    refine XT.iushr X0.here hx rfl (hb hby at_7) rfl ?_
    show Steps p.tables e below (s₁.setTop (mkF m 8 #[.val (.int p1), .val (.int p2), .val (.int p3), .val (.int p4), .val (.int (2 : Int32)), .unset, .unset, .unset, .unset, .unset, .unset, .unset, .unset] [(.int (XT.ushr p1 (2 : Int32)))])) _
    refine XT.iconstV X0.here hx rfl (1 : Int32) (hb hby at_8) rfl ?_
    show Steps p.tables e below (s₁.setTop (mkF m 9 #[.val (.int p1), .val (.int p2), .val (.int p3), .val (.int p4), .val (.int (2 : Int32)), .unset, .unset, .unset, .unset, .unset, .unset, .unset, .unset] [(.int (1 : Int32)), (.int (XT.ushr p1 (2 : Int32)))])) _
    refine XS.iand X0.here hx rfl (hb hby at_9) rfl ?_
    show Steps p.tables e below (s₁.setTop (mkF m 10 #[.val (.int p1), .val (.int p2), .val (.int p3), .val (.int p4), .val (.int (2 : Int32)), .unset, .unset, .unset, .unset, .unset, .unset, .unset, .unset] [(.int ((XT.ushr p1 (2 : Int32)) &&& (1 : Int32)))])) _
    exact kk
  have thru : ∀ t, Steps p.tables e below (s₁.setTop (mkF m 18 #[.val (.int p1), .val (.int p2), .val (.int p3), .val (.int p4), .val (.int (2 : Int32)), .unset, .unset, .unset, .unset, .unset, .unset, .unset, .unset] [(.int dd)])) t → Steps p.tables e below (s₁.setTop (mkF m 10 #[.val (.int p1), .val (.int p2), .val (.int p3), .val (.int p4), .val (.int (2 : Int32)), .unset, .unset, .unset, .unset, .unset, .unset, .unset, .unset] [(.int ((XT.ushr p1 (2 : Int32)) &&& (1 : Int32)))])) t := by
    intro t kk
    rcases hdd with ⟨rfl, hq⟩ | ⟨rfl, hq⟩
    · show Steps p.tables e below (s₁.setTop (mkF m 10 #[.val (.int p1), .val (.int p2), .val (.int p3), .val (.int p4), .val (.int (2 : Int32)), .unset, .unset, .unset, .unset, .unset, .unset, .unset, .unset] [(.int ((XT.ushr p1 (2 : Int32)) &&& (1 : Int32)))])) _
      refine XS.ifNo X0.here hx rfl (hb hby at_10) rfl (XT.i0_eq_f hq) ?_
      show Steps p.tables e below (s₁.setTop (mkF m 13 #[.val (.int p1), .val (.int p2), .val (.int p3), .val (.int p4), .val (.int (2 : Int32)), .unset, .unset, .unset, .unset, .unset, .unset, .unset, .unset] [])) _
      refine XT.iconstV X0.here hx rfl (1 : Int32) (hb hby at_13) rfl ?_
      show Steps p.tables e below (s₁.setTop (mkF m 14 #[.val (.int p1), .val (.int p2), .val (.int p3), .val (.int p4), .val (.int (2 : Int32)), .unset, .unset, .unset, .unset, .unset, .unset, .unset, .unset] [(.int (1 : Int32))])) _
      refine XS.goto X0.here hx rfl (pc0 := 14) (pc' := 18) rfl (hb hby at_14) (by decide) (by decide) ?_
      show Steps p.tables e below (s₁.setTop (mkF m 18 #[.val (.int p1), .val (.int p2), .val (.int p3), .val (.int p4), .val (.int (2 : Int32)), .unset, .unset, .unset, .unset, .unset, .unset, .unset, .unset] [(.int (1 : Int32))])) _
      exact kk
    · show Steps p.tables e below (s₁.setTop (mkF m 10 #[.val (.int p1), .val (.int p2), .val (.int p3), .val (.int p4), .val (.int (2 : Int32)), .unset, .unset, .unset, .unset, .unset, .unset, .unset, .unset] [(.int ((XT.ushr p1 (2 : Int32)) &&& (1 : Int32)))])) _
      refine XS.ifYes X0.here hx rfl (pc0 := 10) (pc' := 17) rfl (hb hby at_10) rfl (XT.i0_eq_t hq) (by decide) (by decide) ?_
      show Steps p.tables e below (s₁.setTop (mkF m 17 #[.val (.int p1), .val (.int p2), .val (.int p3), .val (.int p4), .val (.int (2 : Int32)), .unset, .unset, .unset, .unset, .unset, .unset, .unset, .unset] [])) _
      refine XT.iconstV X0.here hx rfl (0 : Int32) (hb hby at_17) rfl ?_
      show Steps p.tables e below (s₁.setTop (mkF m 18 #[.val (.int p1), .val (.int p2), .val (.int p3), .val (.int p4), .val (.int (2 : Int32)), .unset, .unset, .unset, .unset, .unset, .unset, .unset, .unset] [(.int (0 : Int32))])) _
      exact kk
  obtain ⟨_, _, ⟨T562, L562, k562, n562⟩, -, X562, ⟨Lc562, hQ562, l562, y562, z562⟩, st562⟩ := Jvm.LawKit.callS X0 hx (y := (⟨"com/example/recourse/recourse/WriteOffActorRecordedAsPinLaw", "draw", "(ZI)C"⟩ : MethodName)) hown (mvT hZ (hw _ (List.mem_of_getElem? (i := 0) rfl))) (mvT hZ (hw _ (List.mem_of_getElem? (i := 1) rfl))) (mvT hZ (hw _ (List.mem_of_getElem? (i := 2) rfl))) (mvT hZ (hw _ (List.mem_of_getElem? (i := 3) rfl))) (by decide) (backOf (W := 0) (own_draw l Z a0 hw [] dd p2 ch0 h0 n0 Z0 hr0) hZ (hw _ (List.mem_of_getElem? (i := 3) rfl)) (hw _ (List.mem_of_getElem? (i := 2) rfl)) (by decide) (by decide)) (g := (mkF m 23 #[.val (.int p1), .val (.int p2), .val (.int p3), .val (.int p4), .val (.int (2 : Int32)), .val (.int dd), .unset, .unset, .unset, .unset, .unset, .unset, .unset] [(.int p2), (.int dd)])) rfl (by rw [hml]; rfl) (argsL := [(.int dd), (.int p2)]) (rest := []) (lenOf pd__ZI_C rfl) rfl (by show 2 * 0 + _ ≤ _; exact Nat.le_of_eq rfl) (hb hby at_23) (fun _ _ => ⟨rfl, e0, (by decide : 0 + 0 ≤ _), (by decide : 0 + 0 ≤ _)⟩)
  dsimp only [Pt.U, Pt.locs, Pt.cells, Pt.slots] at X562 l562 y562 z562 st562 hQ562
  subst l562 y562 z562
  obtain ⟨rfl, N562q, e562⟩ := hQ562
  have N562 := Fr.app N0 N562q
  obtain ⟨_, _, ⟨T563, L563, k563, n563⟩, -, X563, ⟨Lc563, hQ563, l563, y563, z563⟩, st563⟩ := Jvm.LawKit.callS X562 hx (y := (⟨"com/example/recourse/recourse/WriteOffActorRecordedAsPinLaw", "draw", "(ZI)C"⟩ : MethodName)) hown (mvT hZ (hw _ (List.mem_of_getElem? (i := 0) rfl))) (mvT hZ (hw _ (List.mem_of_getElem? (i := 1) rfl))) (mvT hZ (hw _ (List.mem_of_getElem? (i := 2) rfl))) (mvT hZ (hw _ (List.mem_of_getElem? (i := 3) rfl))) (by decide) (backOf (W := 0) (own_draw l Z a0 hw [] dd p3 ch1 h0 n0 Z0 hr1) hZ (hw _ (List.mem_of_getElem? (i := 3) rfl)) (hw _ (List.mem_of_getElem? (i := 2) rfl)) (by decide) (by decide)) (g := (mkF m 31 #[.val (.int p1), .val (.int p2), .val (.int p3), .val (.int p4), .val (.int (2 : Int32)), .val (.int dd), .val (.int ch0), .unset, .unset, .unset, .unset, .unset, .unset] [(.int p3), (.int dd)])) rfl (by rw [hml]; rfl) (argsL := [(.int dd), (.int p3)]) (rest := []) (lenOf pd__ZI_C rfl) rfl (by show 2 * 0 + _ ≤ _; exact Nat.le_of_eq rfl) (hb hby at_31) (fun _ _ => ⟨rfl, e562, (by decide : 0 + 0 ≤ _), (by decide : 0 + 0 ≤ _)⟩)
  dsimp only [Pt.U, Pt.locs, Pt.cells, Pt.slots] at X563 l563 y563 z563 st563 hQ563
  subst l563 y563 z563
  obtain ⟨rfl, N563q, e563⟩ := hQ563
  have N563 := Fr.app N562 N563q
  obtain ⟨_, _, ⟨T564, L564, k564, n564⟩, -, X564, ⟨Lc564, hQ564, l564, y564, z564⟩, st564⟩ := Jvm.LawKit.callS X563 hx (y := (⟨"com/example/recourse/recourse/WriteOffActorRecordedAsPinLaw", "draw", "(ZI)C"⟩ : MethodName)) hown (mvT hZ (hw _ (List.mem_of_getElem? (i := 0) rfl))) (mvT hZ (hw _ (List.mem_of_getElem? (i := 1) rfl))) (mvT hZ (hw _ (List.mem_of_getElem? (i := 2) rfl))) (mvT hZ (hw _ (List.mem_of_getElem? (i := 3) rfl))) (by decide) (backOf (W := 0) (own_draw l Z a0 hw [] dd p4 ch2 h0 n0 Z0 hr2) hZ (hw _ (List.mem_of_getElem? (i := 3) rfl)) (hw _ (List.mem_of_getElem? (i := 2) rfl)) (by decide) (by decide)) (g := (mkF m 39 #[.val (.int p1), .val (.int p2), .val (.int p3), .val (.int p4), .val (.int (2 : Int32)), .val (.int dd), .val (.int ch0), .val (.int ch1), .unset, .unset, .unset, .unset, .unset] [(.int p4), (.int dd)])) rfl (by rw [hml]; rfl) (argsL := [(.int dd), (.int p4)]) (rest := []) (lenOf pd__ZI_C rfl) rfl (by show 2 * 0 + _ ≤ _; exact Nat.le_of_eq rfl) (hb hby at_39) (fun _ _ => ⟨rfl, e563, (by decide : 0 + 0 ≤ _), (by decide : 0 + 0 ≤ _)⟩)
  dsimp only [Pt.U, Pt.locs, Pt.cells, Pt.slots] at X564 l564 y564 z564 st564 hQ564
  subst l564 y564 z564
  obtain ⟨rfl, N564q, e564⟩ := hQ564
  have N564 := Fr.app N563 N564q
  obtain ⟨T565, h565, X565, e565, E565, A565, D565, -, st565⟩ := newO X564 hx hZ hown (hw _ (List.mem_of_getElem? (i := 4) rfl)) (hw _ (List.mem_of_getElem? (i := 5) rfl)) (hw _ (List.mem_of_getElem? (i := 6) rfl)) e564 (g := (mkF m 96 #[.val (.int p1), .val (.int p2), .val (.int p3), .val (.int p4), .val (.int (2 : Int32)), .val (.int dd), .val (.int ch0), .val (.int ch1), .val (.int ch2), .unset, .unset, .unset, .unset] [])) rfl (hb hby at_96) (by decide) (by decide)
  obtain ⟨b565, g565⟩ : ∃ z, z = h0.size := ⟨_, rfl⟩
  rw [← g565] at A565 D565 st565
  have q565 : h0.size ≤ b565 := by rw [g565]; exact Nat.le_refl _
  have EX565 : Ext h0 h565 := E565
  have Z565 : n0 ≤ h565.size := Nat.le_trans Z0 EX565.1
  have Fvalue_566 : Fld Z h565 b565 "java/lang/String" "value" "[B" .null := D565 (Or.inr (hw _ (List.mem_of_getElem? (i := 20) rfl))) (ty := (.array .byte)) (by decide)
  have Fcoder_567 : Fld Z h565 b565 "java/lang/String" "coder" "B" (.int (0 : Int32)) := D565 (Or.inr (hw _ (List.mem_of_getElem? (i := 21) rfl))) (ty := .byte) (by decide)
  obtain ⟨T568, h568, k568, X568, e568, E568, A568, st568⟩ := newP X565 hx hZ (hw _ (List.mem_of_getElem? (i := 7) rfl)) e565 (g := (mkF m 101 #[.val (.int p1), .val (.int p2), .val (.int p3), .val (.int p4), .val (.int (2 : Int32)), .val (.int dd), .val (.int ch0), .val (.int ch1), .val (.int ch2), .unset, .unset, .unset, .unset] [(.int (2 : Int32)), (.ref b565), (.ref b565)])) rfl (hb hby at_101) rfl (by decide) (cap := 2) (by decide) (by decide) (by decide) (by decide)
  obtain ⟨b568, g568⟩ : ∃ z, z = h565.size := ⟨_, rfl⟩
  rw [← g568] at A568 st568
  have V568 : Arv Z h568 b568 k568 .char (2 : Int32) (List.replicate 2 (.int (0 : Int32))) (.int (0 : Int32)) := (Arv.new A568 (by decide)).pad (fun i => pad_rep [] (.int (0 : Int32)) 2 i)
  have q568 : h0.size ≤ b568 := by rw [g568]; exact EX565.1
  have ne_b565_b568 : b565 ≠ b568 := by rw [g568]; exact Nat.ne_of_lt A565.lt
  have A565_569 := A565.ext E568
  have Fvalue_570 := Fvalue_566.ext E568
  have Fcoder_571 := Fcoder_567.ext E568
  have EX568 : Ext h0 h568 := own_ext_trans EX565 E568
  have Z568 : n0 ≤ h568.size := Nat.le_trans Z0 EX568.1
  obtain ⟨T572, h572, X572, e572, W572, V572, st572⟩ := own_stC X568 hx hZ e568 V568 (j := (0 : Int32)) (by decide) (i := 0) (by decide) (by simp) (g := (mkF m 107 #[.val (.int p1), .val (.int p2), .val (.int p3), .val (.int p4), .val (.int (2 : Int32)), .val (.int dd), .val (.int ch0), .val (.int ch1), .val (.int ch2), .unset, .unset, .unset, .unset] [(.int ch0), (.int (0 : Int32)), (.ref b568), (.ref b568), (.ref b565), (.ref b565)])) rfl rfl (hb hby at_107)
  have A565_573 := A565_569.wr W572
  have Fvalue_574 := Fvalue_570.other W572 (Or.inl ne_b565_b568)
  have Fcoder_575 := Fcoder_571.other W572 (Or.inl ne_b565_b568)
  have EX572 : Ext h0 h572 := own_ext_wr EX568 W572 q568
  have Z572 : n0 ≤ h572.size := Nat.le_trans Z0 EX572.1
  have N572 := Fr.snoc X572 N564 (Nat.le_trans Z0 q568)
  obtain ⟨T576, h576, X576, e576, W576, V576, st576⟩ := own_stC X572 hx hZ e572 V572 (j := (1 : Int32)) (by decide) (i := 1) (by decide) (by simp) (g := (mkF m 112 #[.val (.int p1), .val (.int p2), .val (.int p3), .val (.int p4), .val (.int (2 : Int32)), .val (.int dd), .val (.int ch0), .val (.int ch1), .val (.int ch2), .unset, .unset, .unset, .unset] [(.int ch1), (.int (1 : Int32)), (.ref b568), (.ref b568), (.ref b565), (.ref b565)])) rfl rfl (hb hby at_112)
  have A565_577 := A565_573.wr W576
  have Fvalue_578 := Fvalue_574.other W576 (Or.inl ne_b565_b568)
  have Fcoder_579 := Fcoder_575.other W576 (Or.inl ne_b565_b568)
  have EX576 : Ext h0 h576 := own_ext_wr EX572 W576 q568
  have Z576 : n0 ≤ h576.size := Nat.le_trans Z0 EX576.1
  have N576 := Fr.snoc X576 N572 (Nat.le_trans Z0 q568)
  rw [hr0.2.2.1, hr1.2.2.1] at V576
  have V580c : Arv Z h576 b568 k568 .char (2 : Int32) [(.int ch0), (.int ch1)] (.int (0 : Int32)) := V576
  have hws580 : ∀ d ∈ StrChars.Road.words, d.before a0 Z = true := fun d hd => hw d ((by decide +kernel : ∀ d ∈ StrChars.Road.words, d ∈ tables_1) d hd)
  have hlat580 : ∀ c ∈ [ch0, ch1], ¬ c < 0 ∧ ¬ (255 : Int32) < c := by
    intro c hc
    simp only [List.mem_cons, List.not_mem_nil, or_false] at hc
    rcases hc with rfl | rfl
    · exact hr0.2.2.2.1
    · exact hr1.2.2.2.1
  obtain ⟨_, _, ⟨T580, L580, k580, n580⟩, -, X580, ⟨Lc580, hQ580, l580, y580, z580⟩, st580⟩ := X576.specialBack hx (y := (⟨"java/lang/String", "<init>", "([C)V"⟩ : MethodName)) rfl hown (mvT hZ (hw _ (List.mem_of_getElem? (i := 8) rfl))) (mvT hZ (hw _ (List.mem_of_getElem? (i := 9) rfl))) (mvT hZ (hw _ (List.mem_of_getElem? (i := 10) rfl))) (by decide) (StrChars.Road.backV (W := 1) hZ hws580 (kI := 4) (hw _ (List.mem_of_getElem? (i := 5) rfl)) (cs := [ch0, ch1]) (bs := [ch0.toInt8.toInt32, ch1.toInt8.toInt32]) (n := 2) (Nat.le_trans Z0 q565) Z576 A565_577 Fvalue_578 Fcoder_579 V580c (S8.ext EX576) c9 rfl rfl (by decide) (by decide) hlat580 rfl (by decide) (by decide)) (g := (mkF m 113 #[.val (.int p1), .val (.int p2), .val (.int p3), .val (.int p4), .val (.int (2 : Int32)), .val (.int dd), .val (.int ch0), .val (.int ch1), .val (.int ch2), .unset, .unset, .unset, .unset] [(.ref b568), (.ref b565), (.ref b565)])) rfl (by rw [hml]; rfl) (Steps.refl _) (a := b565) (argsL := [(.ref b568)]) (rest := [(.ref b565)]) (lenOf pd__ArC_V rfl) rfl (by show 2 * 0 + _ ≤ _; exact Nat.le_of_eq rfl) (hb hby at_113) (fun _ _ => ⟨rfl, e576, (by decide : 2 + 1 ≤ _), (by decide : 6 + 2 ≤ _)⟩)
  dsimp only [Pt.U, Pt.locs, Pt.cells, Pt.slots] at X580 l580 y580 z580 st580 hQ580
  subst l580 y580 z580
  obtain ⟨rfl, N580q, K580q, E580s, C580s, t580s, kb580s, qn580s, qh580s, qx580s, V580s, B580s⟩ := hQ580
  have N580 := Fr.app N576 N580q
  have q580s : h0.size ≤ t580s := Nat.le_trans EX576.1 qh580s
  have ne_b568_t580s : b568 ≠ t580s := Nat.ne_of_lt (Nat.lt_of_lt_of_le V576.lt qh580s)
  have A565_581 := A565_577.keep K580q
  have V576_582 := V576.keep K580q (ninS (Ne.symm ne_b565_b568) nin0)
  have EX580 : Ext h0 T580.heap := own_ext_keep EX576 K580q (allS q565 all0)
  have Z580 : n0 ≤ T580.heap.size := Nat.le_trans Z0 EX580.1
  have PT583 : own_St Z T580.heap b565 t580s kb580s (2 : Int32) [ch0.toInt8.toInt32, ch1.toInt8.toInt32] := ⟨E580s, V580s, C580s, B580s⟩
  have ns0 : s0 ≠ b565 := Nat.ne_of_lt (Nat.lt_of_lt_of_le (own_P_lt P).1 q565)
  have ns1 : s1 ≠ b565 := Nat.ne_of_lt (Nat.lt_of_lt_of_le (own_P_lt P).2 q565)
  obtain ⟨_, _, ⟨T584, L584, k584, n584⟩, -, X584, ⟨Lc584, hQ584, l584, y584, z584⟩, st584⟩ := Jvm.LawKit.callS X580 hx (y := (⟨"com/example/recourse/recourse/WriteOffActor", "recordedAs", "(Ljava/lang/String;)Ljava/util/Optional;"⟩ : MethodName)) hown (mvT hZ (hw _ (List.mem_of_getElem? (i := 26) rfl))) (mvT hZ (hw _ (List.mem_of_getElem? (i := 27) rfl))) (mvT hZ (hw _ (List.mem_of_getElem? (i := 28) rfl))) (mvT hZ (hw _ (List.mem_of_getElem? (i := 29) rfl))) (by decide) (backOf (W := 0) (own_rec_m1 l Z a0 hw [] wv w0 w1 r0 r1 s0 s1 c0 c1 we kv kc0 kc1 i7 b565 t580s kb580s ch0.toInt8.toInt32 ch1.toInt8.toInt32 T580.heap n0 Z580 (own_P_ext P EX580) PT583 ns0 ns1 (hr0.2.2.2.2.1.mp g0) (fun q => g1 (hr1.2.2.2.2.1.mpr q)) (hr1.2.2.2.2.2.mp g2)) hZ (hw _ (List.mem_of_getElem? (i := 29) rfl)) (hw _ (List.mem_of_getElem? (i := 28) rfl)) (by decide) (by decide)) (g := (mkF m 189 #[.val (.int p1), .val (.int p2), .val (.int p3), .val (.int p4), .val (.int (2 : Int32)), .val (.int dd), .val (.int ch0), .val (.int ch1), .val (.int ch2), .val (.ref b565), .val (.int (2 : Int32)), .unset, .unset] [(.ref b565)])) rfl (by rw [hml]; rfl) (argsL := [(.ref b565)]) (rest := []) (lenOf pd__Ljava_lang_String__Ljava_util_Optional_ rfl) rfl (by show 2 * 0 + _ ≤ _; exact Nat.le_of_eq rfl) (hb hby at_189) (fun _ _ => ⟨rfl, rfl, (by decide : 3 + 2 ≤ _), (by decide : 8 + 3 ≤ _)⟩)
  dsimp only [Pt.U, Pt.locs, Pt.cells, Pt.slots] at X584 l584 y584 z584 st584 hQ584
  subst l584 y584 z584
  obtain ⟨t584, rfl, N584q, EE584, EO584, FO584⟩ := hQ584
  have N584 := Fr.app N580 N584q
  have E580s_585 := E580s.ext EE584
  have V576_586 := V576_582.ext EE584
  have C580s_587 := C580s.ext EE584
  have V580s_588 := V580s.ext EE584
  have B580s_589 := B580s.ext EE584
  have EX584 : Ext h0 T584.heap := own_ext_trans EX580 EE584
  have Z584 : n0 ≤ T584.heap.size := Nat.le_trans Z0 EX584.1
  obtain ⟨cq590, kq590, q590a, q590b, q590c⟩ := isOf hZ rfl EO584
  obtain ⟨_, _, ⟨T590, L590, k590, n590⟩, -, X590, ⟨Lc590, hQ590, l590, y590, z590⟩, st590⟩ := X584.virtualBack hx (y := (⟨"java/util/Optional", "isPresent", "()Z"⟩ : MethodName)) (z := (⟨"java/util/Optional", "isPresent", "()Z"⟩ : MethodName)) hown (mvT hZ (hw _ (List.mem_of_getElem? (i := 75) rfl))) (mvT hZ (hw _ (List.mem_of_getElem? (i := 76) rfl))) (notFace_of_selects (args := #[]) (mvT hZ (hw _ (List.mem_of_getElem? (i := 78) rfl)))) (mvT hZ (hw _ (List.mem_of_getElem? (i := 78) rfl))) (mvT hZ (hw _ (List.mem_of_getElem? (i := 77) rfl))) (by decide) (backOf (W := 0) (own_pres_f l Z a0 hw [] t584 w1 T584.heap n0 Z584 FO584) hZ (hw _ (List.mem_of_getElem? (i := 79) rfl)) (hw _ (List.mem_of_getElem? (i := 72) rfl)) (by decide) (by decide)) q590a q590c (g := (mkF m 215 #[.val (.int p1), .val (.int p2), .val (.int p3), .val (.int p4), .val (.int (2 : Int32)), .val (.int dd), .val (.int ch0), .val (.int ch1), .val (.int ch2), .val (.ref b565), .val (.int (2 : Int32)), .val (.ref t584), .unset] [(.ref t584)])) rfl (by rw [hml]; rfl) (Steps.refl _) (argsL := []) (rest := []) (lenOf pd___Z rfl) rfl (by show 2 * 0 + _ ≤ _; exact Nat.le_of_eq rfl) (hb hby at_215) (fun _ _ => ⟨rfl, rfl, (by decide : 5 + 0 ≤ _), (by decide : 11 + 0 ≤ _)⟩)
  dsimp only [Pt.U, Pt.locs, Pt.cells, Pt.slots] at X590 l590 y590 z590 st590 hQ590
  subst l590 y590 z590
  obtain ⟨rfl, N590q, e590⟩ := hQ590
  have N590 := Fr.app N584 N590q
  obtain ⟨T591, X591, e591, st591⟩ := getS2 X590 hx hZ hown (host := "") (Or.inl (hw _ (List.mem_of_getElem? (i := 112) rfl))) Via.refl e590 (Pw1.ext EX584) (g := (mkF m 235 #[.val (.int p1), .val (.int p2), .val (.int p3), .val (.int p4), .val (.int (2 : Int32)), .val (.int dd), .val (.int ch0), .val (.int ch1), .val (.int ch2), .val (.ref b565), .val (.int (2 : Int32)), .val (.ref t584), .unset] [])) rfl (hb hby at_235)
  obtain ⟨cq592, kq592, q592a, q592b, q592c⟩ := isOf hZ e591 EO584
  obtain ⟨_, _, ⟨T592, L592, k592, n592⟩, -, X592, ⟨Lc592, hQ592, l592, y592, z592⟩, st592⟩ := X591.virtualBack hx (y := (⟨"java/util/Optional", "get", "()Ljava/lang/Object;"⟩ : MethodName)) (z := (⟨"java/util/Optional", "get", "()Ljava/lang/Object;"⟩ : MethodName)) hown (mvT hZ (hw _ (List.mem_of_getElem? (i := 107) rfl))) (mvT hZ (hw _ (List.mem_of_getElem? (i := 108) rfl))) (notFace_of_selects (args := #[]) (mvT hZ (hw _ (List.mem_of_getElem? (i := 110) rfl)))) (mvT hZ (hw _ (List.mem_of_getElem? (i := 110) rfl))) (mvT hZ (hw _ (List.mem_of_getElem? (i := 109) rfl))) (by decide) (backOf (W := 0) (own_get l Z a0 hw [] t584 w1 T584.heap n0 Z584 FO584) hZ (hw _ (List.mem_of_getElem? (i := 111) rfl)) (hw _ (List.mem_of_getElem? (i := 72) rfl)) (by decide) (by decide)) q592a q592c (g := (mkF m 242 #[.val (.int p1), .val (.int p2), .val (.int p3), .val (.int p4), .val (.int (2 : Int32)), .val (.int dd), .val (.int ch0), .val (.int ch1), .val (.int ch2), .val (.ref b565), .val (.int (2 : Int32)), .val (.ref t584), .val (.ref w1)] [(.ref t584)])) rfl (by rw [hml]; rfl) (Steps.refl _) (argsL := []) (rest := []) (lenOf pd___Ljava_lang_Object_ rfl) rfl (by show 2 * 0 + _ ≤ _; exact Nat.le_of_eq rfl) (hb hby at_242) (fun _ _ => ⟨rfl, e591, (by decide : 5 + 0 ≤ _), (by decide : 11 + 0 ≤ _)⟩)
  dsimp only [Pt.U, Pt.locs, Pt.cells, Pt.slots] at X592 l592 y592 z592 st592 hQ592
  subst l592 y592 z592
  obtain ⟨rfl, N592q, e592⟩ := hQ592
  have N592 := Fr.app N590 N592q
  obtain ⟨fs, hr, hrun, hended, hRE⟩ := Jvm.Stand.leaveW (s := s) (vm₁ := s.vm) X592 ((State.WarmedH.refl s).since 0) (Nat.le_trans (Nat.zero_le _) (Nat.le_of_eq (congrArg Array.size e592.symm))) (v := some (.int (1 : Int32))) (fun h => by rw [Bd.returns] at h; cases h)
  refine ⟨_, _, pre0 _ (pre1 _ (thru _ ?_)), hrun, hended, _, _, rfl, ?_, ⟨_, rfl⟩, hRE.2.1, hRE.2.2.1, hRE.2.2.2.mono (by decide) (by decide)⟩
  · show Steps p.tables e below (s₁.setTop (mkF m 18 #[.val (.int p1), .val (.int p2), .val (.int p3), .val (.int p4), .val (.int (2 : Int32)), .unset, .unset, .unset, .unset, .unset, .unset, .unset, .unset] [(.int dd)])) _
    refine XS.istore X0.here hx rfl (hb hby at_18) rfl (l' := #[.val (.int p1), .val (.int p2), .val (.int p3), .val (.int p4), .val (.int (2 : Int32)), .val (.int dd), .unset, .unset, .unset, .unset, .unset, .unset, .unset]) rfl ?_
    show Steps p.tables e below (s₁.setTop (mkF m 20 #[.val (.int p1), .val (.int p2), .val (.int p3), .val (.int p4), .val (.int (2 : Int32)), .val (.int dd), .unset, .unset, .unset, .unset, .unset, .unset, .unset] [])) _
    refine XS.iload X0.here hx rfl (hb hby at_20) rfl ?_
    show Steps p.tables e below (s₁.setTop (mkF m 22 #[.val (.int p1), .val (.int p2), .val (.int p3), .val (.int p4), .val (.int (2 : Int32)), .val (.int dd), .unset, .unset, .unset, .unset, .unset, .unset, .unset] [(.int dd)])) _
    refine XS.iloadN X0.here hx rfl (hb hby at_22) rfl ?_
    show Steps p.tables e below (s₁.setTop (mkF m 23 #[.val (.int p1), .val (.int p2), .val (.int p3), .val (.int p4), .val (.int (2 : Int32)), .val (.int dd), .unset, .unset, .unset, .unset, .unset, .unset, .unset] [(.int p2), (.int dd)])) _
    refine st562 _ ?_
    show Steps p.tables e below (T562.setTop (mkF m 26 #[.val (.int p1), .val (.int p2), .val (.int p3), .val (.int p4), .val (.int (2 : Int32)), .val (.int dd), .unset, .unset, .unset, .unset, .unset, .unset, .unset] [(.int ch0)])) _
    refine XS.istore X562.here hx rfl (hb hby at_26) rfl (l' := #[.val (.int p1), .val (.int p2), .val (.int p3), .val (.int p4), .val (.int (2 : Int32)), .val (.int dd), .val (.int ch0), .unset, .unset, .unset, .unset, .unset, .unset]) rfl ?_
    show Steps p.tables e below (T562.setTop (mkF m 28 #[.val (.int p1), .val (.int p2), .val (.int p3), .val (.int p4), .val (.int (2 : Int32)), .val (.int dd), .val (.int ch0), .unset, .unset, .unset, .unset, .unset, .unset] [])) _
    refine XS.iload X562.here hx rfl (hb hby at_28) rfl ?_
    show Steps p.tables e below (T562.setTop (mkF m 30 #[.val (.int p1), .val (.int p2), .val (.int p3), .val (.int p4), .val (.int (2 : Int32)), .val (.int dd), .val (.int ch0), .unset, .unset, .unset, .unset, .unset, .unset] [(.int dd)])) _
    refine XS.iloadN X562.here hx rfl (hb hby at_30) rfl ?_
    show Steps p.tables e below (T562.setTop (mkF m 31 #[.val (.int p1), .val (.int p2), .val (.int p3), .val (.int p4), .val (.int (2 : Int32)), .val (.int dd), .val (.int ch0), .unset, .unset, .unset, .unset, .unset, .unset] [(.int p3), (.int dd)])) _
    refine st563 _ ?_
    show Steps p.tables e below (T563.setTop (mkF m 34 #[.val (.int p1), .val (.int p2), .val (.int p3), .val (.int p4), .val (.int (2 : Int32)), .val (.int dd), .val (.int ch0), .unset, .unset, .unset, .unset, .unset, .unset] [(.int ch1)])) _
    refine XS.istore X563.here hx rfl (hb hby at_34) rfl (l' := #[.val (.int p1), .val (.int p2), .val (.int p3), .val (.int p4), .val (.int (2 : Int32)), .val (.int dd), .val (.int ch0), .val (.int ch1), .unset, .unset, .unset, .unset, .unset]) rfl ?_
    show Steps p.tables e below (T563.setTop (mkF m 36 #[.val (.int p1), .val (.int p2), .val (.int p3), .val (.int p4), .val (.int (2 : Int32)), .val (.int dd), .val (.int ch0), .val (.int ch1), .unset, .unset, .unset, .unset, .unset] [])) _
    refine XS.iload X563.here hx rfl (hb hby at_36) rfl ?_
    show Steps p.tables e below (T563.setTop (mkF m 38 #[.val (.int p1), .val (.int p2), .val (.int p3), .val (.int p4), .val (.int (2 : Int32)), .val (.int dd), .val (.int ch0), .val (.int ch1), .unset, .unset, .unset, .unset, .unset] [(.int dd)])) _
    refine XS.iloadN X563.here hx rfl (hb hby at_38) rfl ?_
    show Steps p.tables e below (T563.setTop (mkF m 39 #[.val (.int p1), .val (.int p2), .val (.int p3), .val (.int p4), .val (.int (2 : Int32)), .val (.int dd), .val (.int ch0), .val (.int ch1), .unset, .unset, .unset, .unset, .unset] [(.int p4), (.int dd)])) _
    refine st564 _ ?_
    show Steps p.tables e below (T564.setTop (mkF m 42 #[.val (.int p1), .val (.int p2), .val (.int p3), .val (.int p4), .val (.int (2 : Int32)), .val (.int dd), .val (.int ch0), .val (.int ch1), .unset, .unset, .unset, .unset, .unset] [(.int ch2)])) _
    refine XS.istore X564.here hx rfl (hb hby at_42) rfl (l' := #[.val (.int p1), .val (.int p2), .val (.int p3), .val (.int p4), .val (.int (2 : Int32)), .val (.int dd), .val (.int ch0), .val (.int ch1), .val (.int ch2), .unset, .unset, .unset, .unset]) rfl ?_
    show Steps p.tables e below (T564.setTop (mkF m 44 #[.val (.int p1), .val (.int p2), .val (.int p3), .val (.int p4), .val (.int (2 : Int32)), .val (.int dd), .val (.int ch0), .val (.int ch1), .val (.int ch2), .unset, .unset, .unset, .unset] [])) _
    refine XS.iload X564.here hx rfl (hb hby at_44) rfl ?_
    show Steps p.tables e below (T564.setTop (mkF m 46 #[.val (.int p1), .val (.int p2), .val (.int p3), .val (.int p4), .val (.int (2 : Int32)), .val (.int dd), .val (.int ch0), .val (.int ch1), .val (.int ch2), .unset, .unset, .unset, .unset] [(.int (2 : Int32))])) _
    refine XS.ifYes X564.here hx rfl (pc0 := 46) (pc' := 64) rfl (hb hby at_46) rfl (by decide) (by decide) (by decide) ?_
    show Steps p.tables e below (T564.setTop (mkF m 64 #[.val (.int p1), .val (.int p2), .val (.int p3), .val (.int p4), .val (.int (2 : Int32)), .val (.int dd), .val (.int ch0), .val (.int ch1), .val (.int ch2), .unset, .unset, .unset, .unset] [])) _
    refine XS.iload X564.here hx rfl (hb hby at_64) rfl ?_
    show Steps p.tables e below (T564.setTop (mkF m 66 #[.val (.int p1), .val (.int p2), .val (.int p3), .val (.int p4), .val (.int (2 : Int32)), .val (.int dd), .val (.int ch0), .val (.int ch1), .val (.int ch2), .unset, .unset, .unset, .unset] [(.int (2 : Int32))])) _
    refine XT.iconstV X564.here hx rfl (1 : Int32) (hb hby at_66) rfl ?_
    show Steps p.tables e below (T564.setTop (mkF m 67 #[.val (.int p1), .val (.int p2), .val (.int p3), .val (.int p4), .val (.int (2 : Int32)), .val (.int dd), .val (.int ch0), .val (.int ch1), .val (.int ch2), .unset, .unset, .unset, .unset] [(.int (1 : Int32)), (.int (2 : Int32))])) _
    refine XS.icmpYes X564.here hx rfl (pc0 := 67) (pc' := 90) rfl (hb hby at_67) rfl (by decide) (by decide) (by decide) ?_
    show Steps p.tables e below (T564.setTop (mkF m 90 #[.val (.int p1), .val (.int p2), .val (.int p3), .val (.int p4), .val (.int (2 : Int32)), .val (.int dd), .val (.int ch0), .val (.int ch1), .val (.int ch2), .unset, .unset, .unset, .unset] [])) _
    refine XS.iload X564.here hx rfl (hb hby at_90) rfl ?_
    show Steps p.tables e below (T564.setTop (mkF m 92 #[.val (.int p1), .val (.int p2), .val (.int p3), .val (.int p4), .val (.int (2 : Int32)), .val (.int dd), .val (.int ch0), .val (.int ch1), .val (.int ch2), .unset, .unset, .unset, .unset] [(.int (2 : Int32))])) _
    refine XT.iconstV X564.here hx rfl (2 : Int32) (hb hby at_92) rfl ?_
    show Steps p.tables e below (T564.setTop (mkF m 93 #[.val (.int p1), .val (.int p2), .val (.int p3), .val (.int p4), .val (.int (2 : Int32)), .val (.int dd), .val (.int ch0), .val (.int ch1), .val (.int ch2), .unset, .unset, .unset, .unset] [(.int (2 : Int32)), (.int (2 : Int32))])) _
    refine XS.icmpNo X564.here hx rfl (hb hby at_93) rfl (by decide) ?_
    show Steps p.tables e below (T564.setTop (mkF m 96 #[.val (.int p1), .val (.int p2), .val (.int p3), .val (.int p4), .val (.int (2 : Int32)), .val (.int dd), .val (.int ch0), .val (.int ch1), .val (.int ch2), .unset, .unset, .unset, .unset] [])) _
    refine st565 _ ?_
    show Steps p.tables e below (T565.setTop (mkF m 99 #[.val (.int p1), .val (.int p2), .val (.int p3), .val (.int p4), .val (.int (2 : Int32)), .val (.int dd), .val (.int ch0), .val (.int ch1), .val (.int ch2), .unset, .unset, .unset, .unset] [(.ref b565)])) _
    refine XS.dup X565.here hx rfl (hb hby at_99) rfl rfl ?_
    show Steps p.tables e below (T565.setTop (mkF m 100 #[.val (.int p1), .val (.int p2), .val (.int p3), .val (.int p4), .val (.int (2 : Int32)), .val (.int dd), .val (.int ch0), .val (.int ch1), .val (.int ch2), .unset, .unset, .unset, .unset] [(.ref b565), (.ref b565)])) _
    refine XT.iconstV X565.here hx rfl (2 : Int32) (hb hby at_100) rfl ?_
    show Steps p.tables e below (T565.setTop (mkF m 101 #[.val (.int p1), .val (.int p2), .val (.int p3), .val (.int p4), .val (.int (2 : Int32)), .val (.int dd), .val (.int ch0), .val (.int ch1), .val (.int ch2), .unset, .unset, .unset, .unset] [(.int (2 : Int32)), (.ref b565), (.ref b565)])) _
    refine st568 _ ?_
    show Steps p.tables e below (T568.setTop (mkF m 103 #[.val (.int p1), .val (.int p2), .val (.int p3), .val (.int p4), .val (.int (2 : Int32)), .val (.int dd), .val (.int ch0), .val (.int ch1), .val (.int ch2), .unset, .unset, .unset, .unset] [(.ref b568), (.ref b565), (.ref b565)])) _
    refine XS.dup X568.here hx rfl (hb hby at_103) rfl rfl ?_
    show Steps p.tables e below (T568.setTop (mkF m 104 #[.val (.int p1), .val (.int p2), .val (.int p3), .val (.int p4), .val (.int (2 : Int32)), .val (.int dd), .val (.int ch0), .val (.int ch1), .val (.int ch2), .unset, .unset, .unset, .unset] [(.ref b568), (.ref b568), (.ref b565), (.ref b565)])) _
    refine XT.iconstV X568.here hx rfl (0 : Int32) (hb hby at_104) rfl ?_
    show Steps p.tables e below (T568.setTop (mkF m 105 #[.val (.int p1), .val (.int p2), .val (.int p3), .val (.int p4), .val (.int (2 : Int32)), .val (.int dd), .val (.int ch0), .val (.int ch1), .val (.int ch2), .unset, .unset, .unset, .unset] [(.int (0 : Int32)), (.ref b568), (.ref b568), (.ref b565), (.ref b565)])) _
    refine XS.iload X568.here hx rfl (hb hby at_105) rfl ?_
    show Steps p.tables e below (T568.setTop (mkF m 107 #[.val (.int p1), .val (.int p2), .val (.int p3), .val (.int p4), .val (.int (2 : Int32)), .val (.int dd), .val (.int ch0), .val (.int ch1), .val (.int ch2), .unset, .unset, .unset, .unset] [(.int ch0), (.int (0 : Int32)), (.ref b568), (.ref b568), (.ref b565), (.ref b565)])) _
    refine st572 _ ?_
    show Steps p.tables e below (T572.setTop (mkF m 108 #[.val (.int p1), .val (.int p2), .val (.int p3), .val (.int p4), .val (.int (2 : Int32)), .val (.int dd), .val (.int ch0), .val (.int ch1), .val (.int ch2), .unset, .unset, .unset, .unset] [(.ref b568), (.ref b565), (.ref b565)])) _
    refine XS.dup X572.here hx rfl (hb hby at_108) rfl rfl ?_
    show Steps p.tables e below (T572.setTop (mkF m 109 #[.val (.int p1), .val (.int p2), .val (.int p3), .val (.int p4), .val (.int (2 : Int32)), .val (.int dd), .val (.int ch0), .val (.int ch1), .val (.int ch2), .unset, .unset, .unset, .unset] [(.ref b568), (.ref b568), (.ref b565), (.ref b565)])) _
    refine XT.iconstV X572.here hx rfl (1 : Int32) (hb hby at_109) rfl ?_
    show Steps p.tables e below (T572.setTop (mkF m 110 #[.val (.int p1), .val (.int p2), .val (.int p3), .val (.int p4), .val (.int (2 : Int32)), .val (.int dd), .val (.int ch0), .val (.int ch1), .val (.int ch2), .unset, .unset, .unset, .unset] [(.int (1 : Int32)), (.ref b568), (.ref b568), (.ref b565), (.ref b565)])) _
    refine XS.iload X572.here hx rfl (hb hby at_110) rfl ?_
    show Steps p.tables e below (T572.setTop (mkF m 112 #[.val (.int p1), .val (.int p2), .val (.int p3), .val (.int p4), .val (.int (2 : Int32)), .val (.int dd), .val (.int ch0), .val (.int ch1), .val (.int ch2), .unset, .unset, .unset, .unset] [(.int ch1), (.int (1 : Int32)), (.ref b568), (.ref b568), (.ref b565), (.ref b565)])) _
    refine st576 _ ?_
    show Steps p.tables e below (T576.setTop (mkF m 113 #[.val (.int p1), .val (.int p2), .val (.int p3), .val (.int p4), .val (.int (2 : Int32)), .val (.int dd), .val (.int ch0), .val (.int ch1), .val (.int ch2), .unset, .unset, .unset, .unset] [(.ref b568), (.ref b565), (.ref b565)])) _
    refine st580.trans ?_
    show Steps p.tables e below (T580.setTop (mkF m 116 #[.val (.int p1), .val (.int p2), .val (.int p3), .val (.int p4), .val (.int (2 : Int32)), .val (.int dd), .val (.int ch0), .val (.int ch1), .val (.int ch2), .unset, .unset, .unset, .unset] [(.ref b565)])) _
    refine XS.astore X580.here hx rfl (hb hby at_116) rfl rfl (l' := #[.val (.int p1), .val (.int p2), .val (.int p3), .val (.int p4), .val (.int (2 : Int32)), .val (.int dd), .val (.int ch0), .val (.int ch1), .val (.int ch2), .val (.ref b565), .unset, .unset, .unset]) rfl ?_
    show Steps p.tables e below (T580.setTop (mkF m 118 #[.val (.int p1), .val (.int p2), .val (.int p3), .val (.int p4), .val (.int (2 : Int32)), .val (.int dd), .val (.int ch0), .val (.int ch1), .val (.int ch2), .val (.ref b565), .unset, .unset, .unset] [])) _
    refine XS.goto X580.here hx rfl (pc0 := 118) (pc' := 148) rfl (hb hby at_118) (by decide) (by decide) ?_
    show Steps p.tables e below (T580.setTop (mkF m 148 #[.val (.int p1), .val (.int p2), .val (.int p3), .val (.int p4), .val (.int (2 : Int32)), .val (.int dd), .val (.int ch0), .val (.int ch1), .val (.int ch2), .val (.ref b565), .unset, .unset, .unset] [])) _
    refine XT.iconstV X580.here hx rfl (0 : Int32) (hb hby at_148) rfl ?_
    show Steps p.tables e below (T580.setTop (mkF m 149 #[.val (.int p1), .val (.int p2), .val (.int p3), .val (.int p4), .val (.int (2 : Int32)), .val (.int dd), .val (.int ch0), .val (.int ch1), .val (.int ch2), .val (.ref b565), .unset, .unset, .unset] [(.int (0 : Int32))])) _
    refine XS.istore X580.here hx rfl (hb hby at_149) rfl (l' := #[.val (.int p1), .val (.int p2), .val (.int p3), .val (.int p4), .val (.int (2 : Int32)), .val (.int dd), .val (.int ch0), .val (.int ch1), .val (.int ch2), .val (.ref b565), .val (.int (0 : Int32)), .unset, .unset]) rfl ?_
    show Steps p.tables e below (T580.setTop (mkF m 151 #[.val (.int p1), .val (.int p2), .val (.int p3), .val (.int p4), .val (.int (2 : Int32)), .val (.int dd), .val (.int ch0), .val (.int ch1), .val (.int ch2), .val (.ref b565), .val (.int (0 : Int32)), .unset, .unset] [])) _
    refine XS.iload X580.here hx rfl (hb hby at_151) rfl ?_
    show Steps p.tables e below (T580.setTop (mkF m 153 #[.val (.int p1), .val (.int p2), .val (.int p3), .val (.int p4), .val (.int (2 : Int32)), .val (.int dd), .val (.int ch0), .val (.int ch1), .val (.int ch2), .val (.ref b565), .val (.int (0 : Int32)), .unset, .unset] [(.int (2 : Int32))])) _
    refine XT.iconstV X580.here hx rfl (2 : Int32) (hb hby at_153) rfl ?_
    show Steps p.tables e below (T580.setTop (mkF m 154 #[.val (.int p1), .val (.int p2), .val (.int p3), .val (.int p4), .val (.int (2 : Int32)), .val (.int dd), .val (.int ch0), .val (.int ch1), .val (.int ch2), .val (.ref b565), .val (.int (0 : Int32)), .unset, .unset] [(.int (2 : Int32)), (.int (2 : Int32))])) _
    refine XS.icmpNo X580.here hx rfl (hb hby at_154) rfl (by decide) ?_
    show Steps p.tables e below (T580.setTop (mkF m 157 #[.val (.int p1), .val (.int p2), .val (.int p3), .val (.int p4), .val (.int (2 : Int32)), .val (.int dd), .val (.int ch0), .val (.int ch1), .val (.int ch2), .val (.ref b565), .val (.int (0 : Int32)), .unset, .unset] [])) _
    refine XS.iload X580.here hx rfl (hb hby at_157) rfl ?_
    show Steps p.tables e below (T580.setTop (mkF m 159 #[.val (.int p1), .val (.int p2), .val (.int p3), .val (.int p4), .val (.int (2 : Int32)), .val (.int dd), .val (.int ch0), .val (.int ch1), .val (.int ch2), .val (.ref b565), .val (.int (0 : Int32)), .unset, .unset] [(.int ch0)])) _
    refine XT.bipushV X580.here hx rfl (52 : Int32) (hb hby at_159) (by decide) ?_
    show Steps p.tables e below (T580.setTop (mkF m 161 #[.val (.int p1), .val (.int p2), .val (.int p3), .val (.int p4), .val (.int (2 : Int32)), .val (.int dd), .val (.int ch0), .val (.int ch1), .val (.int ch2), .val (.ref b565), .val (.int (0 : Int32)), .unset, .unset] [(.int (52 : Int32)), (.int ch0)])) _
    refine XS.icmpNo X580.here hx rfl (hb hby at_161) rfl (XT.ii_ne_f g0) ?_
    show Steps p.tables e below (T580.setTop (mkF m 164 #[.val (.int p1), .val (.int p2), .val (.int p3), .val (.int p4), .val (.int (2 : Int32)), .val (.int dd), .val (.int ch0), .val (.int ch1), .val (.int ch2), .val (.ref b565), .val (.int (0 : Int32)), .unset, .unset] [])) _
    refine XS.iload X580.here hx rfl (hb hby at_164) rfl ?_
    show Steps p.tables e below (T580.setTop (mkF m 166 #[.val (.int p1), .val (.int p2), .val (.int p3), .val (.int p4), .val (.int (2 : Int32)), .val (.int dd), .val (.int ch0), .val (.int ch1), .val (.int ch2), .val (.ref b565), .val (.int (0 : Int32)), .unset, .unset] [(.int ch1)])) _
    refine XT.bipushV X580.here hx rfl (52 : Int32) (hb hby at_166) (by decide) ?_
    show Steps p.tables e below (T580.setTop (mkF m 168 #[.val (.int p1), .val (.int p2), .val (.int p3), .val (.int p4), .val (.int (2 : Int32)), .val (.int dd), .val (.int ch0), .val (.int ch1), .val (.int ch2), .val (.ref b565), .val (.int (0 : Int32)), .unset, .unset] [(.int (52 : Int32)), (.int ch1)])) _
    refine XS.icmpYes X580.here hx rfl (pc0 := 168) (pc' := 177) rfl (hb hby at_168) rfl (XT.ii_ne_t g1) (by decide) (by decide) ?_
    show Steps p.tables e below (T580.setTop (mkF m 177 #[.val (.int p1), .val (.int p2), .val (.int p3), .val (.int p4), .val (.int (2 : Int32)), .val (.int dd), .val (.int ch0), .val (.int ch1), .val (.int ch2), .val (.ref b565), .val (.int (0 : Int32)), .unset, .unset] [])) _
    refine XS.iload X580.here hx rfl (hb hby at_177) rfl ?_
    show Steps p.tables e below (T580.setTop (mkF m 179 #[.val (.int p1), .val (.int p2), .val (.int p3), .val (.int p4), .val (.int (2 : Int32)), .val (.int dd), .val (.int ch0), .val (.int ch1), .val (.int ch2), .val (.ref b565), .val (.int (0 : Int32)), .unset, .unset] [(.int ch1)])) _
    refine XT.bipushV X580.here hx rfl (53 : Int32) (hb hby at_179) (by decide) ?_
    show Steps p.tables e below (T580.setTop (mkF m 181 #[.val (.int p1), .val (.int p2), .val (.int p3), .val (.int p4), .val (.int (2 : Int32)), .val (.int dd), .val (.int ch0), .val (.int ch1), .val (.int ch2), .val (.ref b565), .val (.int (0 : Int32)), .unset, .unset] [(.int (53 : Int32)), (.int ch1)])) _
    refine XS.icmpNo X580.here hx rfl (hb hby at_181) rfl (XT.ii_ne_f g2) ?_
    show Steps p.tables e below (T580.setTop (mkF m 184 #[.val (.int p1), .val (.int p2), .val (.int p3), .val (.int p4), .val (.int (2 : Int32)), .val (.int dd), .val (.int ch0), .val (.int ch1), .val (.int ch2), .val (.ref b565), .val (.int (0 : Int32)), .unset, .unset] [])) _
    refine XT.iconstV X580.here hx rfl (2 : Int32) (hb hby at_184) rfl ?_
    show Steps p.tables e below (T580.setTop (mkF m 185 #[.val (.int p1), .val (.int p2), .val (.int p3), .val (.int p4), .val (.int (2 : Int32)), .val (.int dd), .val (.int ch0), .val (.int ch1), .val (.int ch2), .val (.ref b565), .val (.int (0 : Int32)), .unset, .unset] [(.int (2 : Int32))])) _
    refine XS.istore X580.here hx rfl (hb hby at_185) rfl (l' := #[.val (.int p1), .val (.int p2), .val (.int p3), .val (.int p4), .val (.int (2 : Int32)), .val (.int dd), .val (.int ch0), .val (.int ch1), .val (.int ch2), .val (.ref b565), .val (.int (2 : Int32)), .unset, .unset]) rfl ?_
    show Steps p.tables e below (T580.setTop (mkF m 187 #[.val (.int p1), .val (.int p2), .val (.int p3), .val (.int p4), .val (.int (2 : Int32)), .val (.int dd), .val (.int ch0), .val (.int ch1), .val (.int ch2), .val (.ref b565), .val (.int (2 : Int32)), .unset, .unset] [])) _
    refine XS.aload X580.here hx rfl (hb hby at_187) rfl rfl ?_
    show Steps p.tables e below (T580.setTop (mkF m 189 #[.val (.int p1), .val (.int p2), .val (.int p3), .val (.int p4), .val (.int (2 : Int32)), .val (.int dd), .val (.int ch0), .val (.int ch1), .val (.int ch2), .val (.ref b565), .val (.int (2 : Int32)), .unset, .unset] [(.ref b565)])) _
    refine st584 _ ?_
    show Steps p.tables e below (T584.setTop (mkF m 192 #[.val (.int p1), .val (.int p2), .val (.int p3), .val (.int p4), .val (.int (2 : Int32)), .val (.int dd), .val (.int ch0), .val (.int ch1), .val (.int ch2), .val (.ref b565), .val (.int (2 : Int32)), .unset, .unset] [(.ref t584)])) _
    refine XS.astore X584.here hx rfl (hb hby at_192) rfl rfl (l' := #[.val (.int p1), .val (.int p2), .val (.int p3), .val (.int p4), .val (.int (2 : Int32)), .val (.int dd), .val (.int ch0), .val (.int ch1), .val (.int ch2), .val (.ref b565), .val (.int (2 : Int32)), .val (.ref t584), .unset]) rfl ?_
    show Steps p.tables e below (T584.setTop (mkF m 194 #[.val (.int p1), .val (.int p2), .val (.int p3), .val (.int p4), .val (.int (2 : Int32)), .val (.int dd), .val (.int ch0), .val (.int ch1), .val (.int ch2), .val (.ref b565), .val (.int (2 : Int32)), .val (.ref t584), .unset] [])) _
    refine XS.iload X584.here hx rfl (hb hby at_194) rfl ?_
    show Steps p.tables e below (T584.setTop (mkF m 196 #[.val (.int p1), .val (.int p2), .val (.int p3), .val (.int p4), .val (.int (2 : Int32)), .val (.int dd), .val (.int ch0), .val (.int ch1), .val (.int ch2), .val (.ref b565), .val (.int (2 : Int32)), .val (.ref t584), .unset] [(.int (2 : Int32))])) _
    refine XS.ifYes X584.here hx rfl (pc0 := 196) (pc' := 213) rfl (hb hby at_196) rfl (by decide) (by decide) (by decide) ?_
    show Steps p.tables e below (T584.setTop (mkF m 213 #[.val (.int p1), .val (.int p2), .val (.int p3), .val (.int p4), .val (.int (2 : Int32)), .val (.int dd), .val (.int ch0), .val (.int ch1), .val (.int ch2), .val (.ref b565), .val (.int (2 : Int32)), .val (.ref t584), .unset] [])) _
    refine XS.aload X584.here hx rfl (hb hby at_213) rfl rfl ?_
    show Steps p.tables e below (T584.setTop (mkF m 215 #[.val (.int p1), .val (.int p2), .val (.int p3), .val (.int p4), .val (.int (2 : Int32)), .val (.int dd), .val (.int ch0), .val (.int ch1), .val (.int ch2), .val (.ref b565), .val (.int (2 : Int32)), .val (.ref t584), .unset] [(.ref t584)])) _
    refine st590.trans ?_
    show Steps p.tables e below (T590.setTop (mkF m 218 #[.val (.int p1), .val (.int p2), .val (.int p3), .val (.int p4), .val (.int (2 : Int32)), .val (.int dd), .val (.int ch0), .val (.int ch1), .val (.int ch2), .val (.ref b565), .val (.int (2 : Int32)), .val (.ref t584), .unset] [(.int (1 : Int32))])) _
    refine XS.ifYes X590.here hx rfl (pc0 := 218) (pc' := 223) rfl (hb hby at_218) rfl (by decide) (by decide) (by decide) ?_
    show Steps p.tables e below (T590.setTop (mkF m 223 #[.val (.int p1), .val (.int p2), .val (.int p3), .val (.int p4), .val (.int (2 : Int32)), .val (.int dd), .val (.int ch0), .val (.int ch1), .val (.int ch2), .val (.ref b565), .val (.int (2 : Int32)), .val (.ref t584), .unset] [])) _
    refine XS.iload X590.here hx rfl (hb hby at_223) rfl ?_
    show Steps p.tables e below (T590.setTop (mkF m 225 #[.val (.int p1), .val (.int p2), .val (.int p3), .val (.int p4), .val (.int (2 : Int32)), .val (.int dd), .val (.int ch0), .val (.int ch1), .val (.int ch2), .val (.ref b565), .val (.int (2 : Int32)), .val (.ref t584), .unset] [(.int (2 : Int32))])) _
    refine XT.iconstV X590.here hx rfl (1 : Int32) (hb hby at_225) rfl ?_
    show Steps p.tables e below (T590.setTop (mkF m 226 #[.val (.int p1), .val (.int p2), .val (.int p3), .val (.int p4), .val (.int (2 : Int32)), .val (.int dd), .val (.int ch0), .val (.int ch1), .val (.int ch2), .val (.ref b565), .val (.int (2 : Int32)), .val (.ref t584), .unset] [(.int (1 : Int32)), (.int (2 : Int32))])) _
    refine XS.icmpYes X590.here hx rfl (pc0 := 226) (pc' := 235) rfl (hb hby at_226) rfl (by decide) (by decide) (by decide) ?_
    show Steps p.tables e below (T590.setTop (mkF m 235 #[.val (.int p1), .val (.int p2), .val (.int p3), .val (.int p4), .val (.int (2 : Int32)), .val (.int dd), .val (.int ch0), .val (.int ch1), .val (.int ch2), .val (.ref b565), .val (.int (2 : Int32)), .val (.ref t584), .unset] [])) _
    refine st591 _ ?_
    show Steps p.tables e below (T591.setTop (mkF m 238 #[.val (.int p1), .val (.int p2), .val (.int p3), .val (.int p4), .val (.int (2 : Int32)), .val (.int dd), .val (.int ch0), .val (.int ch1), .val (.int ch2), .val (.ref b565), .val (.int (2 : Int32)), .val (.ref t584), .unset] [(.ref w1)])) _
    refine XS.astore X591.here hx rfl (hb hby at_238) rfl rfl (l' := #[.val (.int p1), .val (.int p2), .val (.int p3), .val (.int p4), .val (.int (2 : Int32)), .val (.int dd), .val (.int ch0), .val (.int ch1), .val (.int ch2), .val (.ref b565), .val (.int (2 : Int32)), .val (.ref t584), .val (.ref w1)]) rfl ?_
    show Steps p.tables e below (T591.setTop (mkF m 240 #[.val (.int p1), .val (.int p2), .val (.int p3), .val (.int p4), .val (.int (2 : Int32)), .val (.int dd), .val (.int ch0), .val (.int ch1), .val (.int ch2), .val (.ref b565), .val (.int (2 : Int32)), .val (.ref t584), .val (.ref w1)] [])) _
    refine XS.aload X591.here hx rfl (hb hby at_240) rfl rfl ?_
    show Steps p.tables e below (T591.setTop (mkF m 242 #[.val (.int p1), .val (.int p2), .val (.int p3), .val (.int p4), .val (.int (2 : Int32)), .val (.int dd), .val (.int ch0), .val (.int ch1), .val (.int ch2), .val (.ref b565), .val (.int (2 : Int32)), .val (.ref t584), .val (.ref w1)] [(.ref t584)])) _
    refine st592.trans ?_
    show Steps p.tables e below (T592.setTop (mkF m 245 #[.val (.int p1), .val (.int p2), .val (.int p3), .val (.int p4), .val (.int (2 : Int32)), .val (.int dd), .val (.int ch0), .val (.int ch1), .val (.int ch2), .val (.ref b565), .val (.int (2 : Int32)), .val (.ref t584), .val (.ref w1)] [(.ref w1)])) _
    refine XS.aload X592.here hx rfl (hb hby at_245) rfl rfl ?_
    show Steps p.tables e below (T592.setTop (mkF m 247 #[.val (.int p1), .val (.int p2), .val (.int p3), .val (.int p4), .val (.int (2 : Int32)), .val (.int dd), .val (.int ch0), .val (.int ch1), .val (.int ch2), .val (.ref b565), .val (.int (2 : Int32)), .val (.ref t584), .val (.ref w1)] [(.ref w1), (.ref w1)])) _
    refine Jvm.RoadKit.acmp (g := (mkF m 247 #[.val (.int p1), .val (.int p2), .val (.int p3), .val (.int p4), .val (.int (2 : Int32)), .val (.int dd), .val (.int ch0), .val (.int ch1), .val (.int ch2), .val (.ref b565), .val (.int (2 : Int32)), .val (.ref t584), .val (.ref w1)] [(.ref w1), (.ref w1)])) X592 hx rfl rfl rfl (pc0 := 247) (pc' := 250) (same := true) rfl (hb hby at_247) rfl (decide_eq_true rfl) (by decide) (by decide) ?_
    show Steps p.tables e below (T592.setTop (mkF m 250 #[.val (.int p1), .val (.int p2), .val (.int p3), .val (.int p4), .val (.int (2 : Int32)), .val (.int dd), .val (.int ch0), .val (.int ch1), .val (.int ch2), .val (.ref b565), .val (.int (2 : Int32)), .val (.ref t584), .val (.ref w1)] [])) _
    refine XT.iconstV X592.here hx rfl (1 : Int32) (hb hby at_250) rfl ?_
    show Steps p.tables e below (T592.setTop (mkF m 251 #[.val (.int p1), .val (.int p2), .val (.int p3), .val (.int p4), .val (.int (2 : Int32)), .val (.int dd), .val (.int ch0), .val (.int ch1), .val (.int ch2), .val (.ref b565), .val (.int (2 : Int32)), .val (.ref t584), .val (.ref w1)] [(.int (1 : Int32))])) _
    refine XS.goto X592.here hx rfl (pc0 := 251) (pc' := 255) rfl (hb hby at_251) (by decide) (by decide) ?_
    show Steps p.tables e below (T592.setTop (mkF m 255 #[.val (.int p1), .val (.int p2), .val (.int p3), .val (.int p4), .val (.int (2 : Int32)), .val (.int dd), .val (.int ch0), .val (.int ch1), .val (.int ch2), .val (.ref b565), .val (.int (2 : Int32)), .val (.ref t584), .val (.ref w1)] [(.int (1 : Int32))])) _
    exact retN X592 hx (t := .boolean) Bd.returns (by simp) (hb hby at_255) hr
  · show own_Q0 n0 _ T592.heap _
    exact ⟨rfl, N592⟩
set_option maxRecDepth 65536 in
set_option maxHeartbeats 40000000 in
theorem own_law_2n (l : Launch) (Z : State) (a0 : Array Value) (hw : ∀ d ∈ tables_1, d.before a0 Z = true) (ws : List Jvm.Cond) (p1 p2 p3 p4 dd ch0 ch1 ch2 : Int32) (wv w0 w1 r0 r1 s0 s1 c0 c1 we : Addr) (kv kc0 kc1 : ClassId) (i7 : Int32) (h0 : Heap) (n0 : Nat) (Z0 : n0 ≤ h0.size) (P : own_P Z h0 wv w0 w1 r0 r1 s0 s1 c0 c1 we kv kc0 kc1 i7) (hEL : EW Z a0 [("java/lang/String", 7)]) (hr0 : own_dr dd p2 ch0) (hr1 : own_dr dd p3 ch1) (hr2 : own_dr dd p4 ch2) (hdd : (dd = (1 : Int32) ∧ ¬ ((XT.ushr p1 (2 : Int32)) &&& (1 : Int32)) = (0 : Int32)) ∨ (dd = (0 : Int32) ∧ ((XT.ushr p1 (2 : Int32)) &&& (1 : Int32)) = (0 : Int32))) (hk : (p1 &&& (3 : Int32)) = (2 : Int32)) (g0 : ch0 = (52 : Int32)) (g1 : ¬ ch1 = (52 : Int32)) (g2 : ¬ ch1 = (53 : Int32)) :
    MetFree l x (head1 (Jvm.Cond.code x code maxLocals ret :: ws) room_1) (fun a U => a = #[(.int p1), (.int p2), (.int p3), (.int p4)] ∧ Z.Warmed39 U.vm ∧ U.heap = h0 ∧ CHv Z [("java/lang/String", 7)] U.vm h0) (fun _ _ _ _ _ => True) (fun _ U o U' => ∃ v L, o = .returned v ∧ own_Q0 n0 v U'.heap L ∧ ReturnedEndW U o U' L room_1.cells room_1.slots) := by
  refine MetFree.of_bodySF (plainFor_of_name pn_com_example_recourse_recourse_WriteOffActorRecordedAsPinLaw) hisR ?_
  intro p e s m args below meth c s₁ Bd hml0 hP hK
  obtain ⟨rfl, hZ, hh, hCH⟩ := hP
  have hx := Bd.exec
  have hby := Bd.bytes
  have hml : c.maxLocals = 13 := hml0
  have hown : s.vm.findClass "com/example/recourse/recourse/WriteOffActorRecordedAsPinLaw" = some m.cls := findClass_of_methodNamed Bd.named
  have hnm := (name_of_methodNamed Bd.named Bd.method).1
  have X0 : Stand p l e room_1 s m #[(.int p1), (.int p2), (.int p3), (.int p4)] below meth c s₁ [] 0 0 := Stand.of_body Bd
  have e0 : s₁.heap = h0 := by rw [← hh, Bd.state]; rfl
  have N0 := Fr.nil n0
  have pre0 : ∀ t, Steps p.tables e below (s₁.setTop (mkF m 0 #[.val (.int p1), .val (.int p2), .val (.int p3), .val (.int p4), .unset, .unset, .unset, .unset, .unset, .unset, .unset, .unset, .unset] [])) t → Steps p.tables e below (s₁.setTop (entryFrame m #[(.int p1), (.int p2), (.int p3), (.int p4)] maxLocals)) t := fun t k => castTop (ef_code_IIII m p1 p2 p3 p4) k
  obtain ⟨Pv, Ev, Av, Pw0, Pw1, Ew0, Ew1, Fr0, Fr1, Er0, Er1, Fc0, Fc1, Q0, Q1, Pe, Ee, Fe, S8, c9⟩ := id P
  have pre1 : ∀ t, Steps p.tables e below (s₁.setTop (mkF m 10 #[.val (.int p1), .val (.int p2), .val (.int p3), .val (.int p4), .val (.int (2 : Int32)), .unset, .unset, .unset, .unset, .unset, .unset, .unset, .unset] [(.int ((XT.ushr p1 (2 : Int32)) &&& (1 : Int32)))])) t → Steps p.tables e below (s₁.setTop (mkF m 0 #[.val (.int p1), .val (.int p2), .val (.int p3), .val (.int p4), .unset, .unset, .unset, .unset, .unset, .unset, .unset, .unset, .unset] [])) t := by
    intro t kk
    show Steps p.tables e below (s₁.setTop (mkF m 0 #[.val (.int p1), .val (.int p2), .val (.int p3), .val (.int p4), .unset, .unset, .unset, .unset, .unset, .unset, .unset, .unset, .unset] [])) _
    refine XS.iloadN X0.here hx rfl (hb hby at_0) rfl ?_
    show Steps p.tables e below (s₁.setTop (mkF m 1 #[.val (.int p1), .val (.int p2), .val (.int p3), .val (.int p4), .unset, .unset, .unset, .unset, .unset, .unset, .unset, .unset, .unset] [(.int p1)])) _
    refine XT.iconstV X0.here hx rfl (3 : Int32) (hb hby at_1) rfl ?_
    show Steps p.tables e below (s₁.setTop (mkF m 2 #[.val (.int p1), .val (.int p2), .val (.int p3), .val (.int p4), .unset, .unset, .unset, .unset, .unset, .unset, .unset, .unset, .unset] [(.int (3 : Int32)), (.int p1)])) _
    refine XS.iand X0.here hx rfl (hb hby at_2) rfl ?_
    show Steps p.tables e below (s₁.setTop (mkF m 3 #[.val (.int p1), .val (.int p2), .val (.int p3), .val (.int p4), .unset, .unset, .unset, .unset, .unset, .unset, .unset, .unset, .unset] [(.int (p1 &&& (3 : Int32)))])) _
    rw [hk]
    show Steps p.tables e below (s₁.setTop (mkF m 3 #[.val (.int p1), .val (.int p2), .val (.int p3), .val (.int p4), .unset, .unset, .unset, .unset, .unset, .unset, .unset, .unset, .unset] [(.int (2 : Int32))])) _
    refine XS.istore X0.here hx rfl (hb hby at_3) rfl (l' := #[.val (.int p1), .val (.int p2), .val (.int p3), .val (.int p4), .val (.int (2 : Int32)), .unset, .unset, .unset, .unset, .unset, .unset, .unset, .unset]) rfl ?_
    show Steps p.tables e below (s₁.setTop (mkF m 5 #[.val (.int p1), .val (.int p2), .val (.int p3), .val (.int p4), .val (.int (2 : Int32)), .unset, .unset, .unset, .unset, .unset, .unset, .unset, .unset] [])) _
    refine XS.iloadN X0.here hx rfl (hb hby at_5) rfl ?_
    show Steps p.tables e below (s₁.setTop (mkF m 6 #[.val (.int p1), .val (.int p2), .val (.int p3), .val (.int p4), .val (.int (2 : Int32)), .unset, .unset, .unset, .unset, .unset, .unset, .unset, .unset] [(.int p1)])) _
    refine XT.iconstV X0.here hx rfl (2 : Int32) (hb hby at_6) rfl ?_
    show Steps p.tables e below (s₁.setTop (mkF m 7 #[.val (.int p1), .val (.int p2), .val (.int p3), .val (.int p4), .val (.int (2 : Int32)), .unset, .unset, .unset, .unset, .unset, .unset, .unset, .unset] [(.int (2 : Int32)), (.int p1)])) _
    refine XT.iushr X0.here hx rfl (hb hby at_7) rfl ?_
    show Steps p.tables e below (s₁.setTop (mkF m 8 #[.val (.int p1), .val (.int p2), .val (.int p3), .val (.int p4), .val (.int (2 : Int32)), .unset, .unset, .unset, .unset, .unset, .unset, .unset, .unset] [(.int (XT.ushr p1 (2 : Int32)))])) _
    refine XT.iconstV X0.here hx rfl (1 : Int32) (hb hby at_8) rfl ?_
    show Steps p.tables e below (s₁.setTop (mkF m 9 #[.val (.int p1), .val (.int p2), .val (.int p3), .val (.int p4), .val (.int (2 : Int32)), .unset, .unset, .unset, .unset, .unset, .unset, .unset, .unset] [(.int (1 : Int32)), (.int (XT.ushr p1 (2 : Int32)))])) _
    refine XS.iand X0.here hx rfl (hb hby at_9) rfl ?_
    show Steps p.tables e below (s₁.setTop (mkF m 10 #[.val (.int p1), .val (.int p2), .val (.int p3), .val (.int p4), .val (.int (2 : Int32)), .unset, .unset, .unset, .unset, .unset, .unset, .unset, .unset] [(.int ((XT.ushr p1 (2 : Int32)) &&& (1 : Int32)))])) _
    exact kk
  have thru : ∀ t, Steps p.tables e below (s₁.setTop (mkF m 18 #[.val (.int p1), .val (.int p2), .val (.int p3), .val (.int p4), .val (.int (2 : Int32)), .unset, .unset, .unset, .unset, .unset, .unset, .unset, .unset] [(.int dd)])) t → Steps p.tables e below (s₁.setTop (mkF m 10 #[.val (.int p1), .val (.int p2), .val (.int p3), .val (.int p4), .val (.int (2 : Int32)), .unset, .unset, .unset, .unset, .unset, .unset, .unset, .unset] [(.int ((XT.ushr p1 (2 : Int32)) &&& (1 : Int32)))])) t := by
    intro t kk
    rcases hdd with ⟨rfl, hq⟩ | ⟨rfl, hq⟩
    · show Steps p.tables e below (s₁.setTop (mkF m 10 #[.val (.int p1), .val (.int p2), .val (.int p3), .val (.int p4), .val (.int (2 : Int32)), .unset, .unset, .unset, .unset, .unset, .unset, .unset, .unset] [(.int ((XT.ushr p1 (2 : Int32)) &&& (1 : Int32)))])) _
      refine XS.ifNo X0.here hx rfl (hb hby at_10) rfl (XT.i0_eq_f hq) ?_
      show Steps p.tables e below (s₁.setTop (mkF m 13 #[.val (.int p1), .val (.int p2), .val (.int p3), .val (.int p4), .val (.int (2 : Int32)), .unset, .unset, .unset, .unset, .unset, .unset, .unset, .unset] [])) _
      refine XT.iconstV X0.here hx rfl (1 : Int32) (hb hby at_13) rfl ?_
      show Steps p.tables e below (s₁.setTop (mkF m 14 #[.val (.int p1), .val (.int p2), .val (.int p3), .val (.int p4), .val (.int (2 : Int32)), .unset, .unset, .unset, .unset, .unset, .unset, .unset, .unset] [(.int (1 : Int32))])) _
      refine XS.goto X0.here hx rfl (pc0 := 14) (pc' := 18) rfl (hb hby at_14) (by decide) (by decide) ?_
      show Steps p.tables e below (s₁.setTop (mkF m 18 #[.val (.int p1), .val (.int p2), .val (.int p3), .val (.int p4), .val (.int (2 : Int32)), .unset, .unset, .unset, .unset, .unset, .unset, .unset, .unset] [(.int (1 : Int32))])) _
      exact kk
    · show Steps p.tables e below (s₁.setTop (mkF m 10 #[.val (.int p1), .val (.int p2), .val (.int p3), .val (.int p4), .val (.int (2 : Int32)), .unset, .unset, .unset, .unset, .unset, .unset, .unset, .unset] [(.int ((XT.ushr p1 (2 : Int32)) &&& (1 : Int32)))])) _
      refine XS.ifYes X0.here hx rfl (pc0 := 10) (pc' := 17) rfl (hb hby at_10) rfl (XT.i0_eq_t hq) (by decide) (by decide) ?_
      show Steps p.tables e below (s₁.setTop (mkF m 17 #[.val (.int p1), .val (.int p2), .val (.int p3), .val (.int p4), .val (.int (2 : Int32)), .unset, .unset, .unset, .unset, .unset, .unset, .unset, .unset] [])) _
      refine XT.iconstV X0.here hx rfl (0 : Int32) (hb hby at_17) rfl ?_
      show Steps p.tables e below (s₁.setTop (mkF m 18 #[.val (.int p1), .val (.int p2), .val (.int p3), .val (.int p4), .val (.int (2 : Int32)), .unset, .unset, .unset, .unset, .unset, .unset, .unset, .unset] [(.int (0 : Int32))])) _
      exact kk
  obtain ⟨_, _, ⟨T593, L593, k593, n593⟩, -, X593, ⟨Lc593, hQ593, l593, y593, z593⟩, st593⟩ := Jvm.LawKit.callS X0 hx (y := (⟨"com/example/recourse/recourse/WriteOffActorRecordedAsPinLaw", "draw", "(ZI)C"⟩ : MethodName)) hown (mvT hZ (hw _ (List.mem_of_getElem? (i := 0) rfl))) (mvT hZ (hw _ (List.mem_of_getElem? (i := 1) rfl))) (mvT hZ (hw _ (List.mem_of_getElem? (i := 2) rfl))) (mvT hZ (hw _ (List.mem_of_getElem? (i := 3) rfl))) (by decide) (backOf (W := 0) (own_draw l Z a0 hw [] dd p2 ch0 h0 n0 Z0 hr0) hZ (hw _ (List.mem_of_getElem? (i := 3) rfl)) (hw _ (List.mem_of_getElem? (i := 2) rfl)) (by decide) (by decide)) (g := (mkF m 23 #[.val (.int p1), .val (.int p2), .val (.int p3), .val (.int p4), .val (.int (2 : Int32)), .val (.int dd), .unset, .unset, .unset, .unset, .unset, .unset, .unset] [(.int p2), (.int dd)])) rfl (by rw [hml]; rfl) (argsL := [(.int dd), (.int p2)]) (rest := []) (lenOf pd__ZI_C rfl) rfl (by show 2 * 0 + _ ≤ _; exact Nat.le_of_eq rfl) (hb hby at_23) (fun _ _ => ⟨rfl, e0, (by decide : 0 + 0 ≤ _), (by decide : 0 + 0 ≤ _)⟩)
  dsimp only [Pt.U, Pt.locs, Pt.cells, Pt.slots] at X593 l593 y593 z593 st593 hQ593
  subst l593 y593 z593
  obtain ⟨rfl, N593q, e593⟩ := hQ593
  have N593 := Fr.app N0 N593q
  obtain ⟨_, _, ⟨T594, L594, k594, n594⟩, -, X594, ⟨Lc594, hQ594, l594, y594, z594⟩, st594⟩ := Jvm.LawKit.callS X593 hx (y := (⟨"com/example/recourse/recourse/WriteOffActorRecordedAsPinLaw", "draw", "(ZI)C"⟩ : MethodName)) hown (mvT hZ (hw _ (List.mem_of_getElem? (i := 0) rfl))) (mvT hZ (hw _ (List.mem_of_getElem? (i := 1) rfl))) (mvT hZ (hw _ (List.mem_of_getElem? (i := 2) rfl))) (mvT hZ (hw _ (List.mem_of_getElem? (i := 3) rfl))) (by decide) (backOf (W := 0) (own_draw l Z a0 hw [] dd p3 ch1 h0 n0 Z0 hr1) hZ (hw _ (List.mem_of_getElem? (i := 3) rfl)) (hw _ (List.mem_of_getElem? (i := 2) rfl)) (by decide) (by decide)) (g := (mkF m 31 #[.val (.int p1), .val (.int p2), .val (.int p3), .val (.int p4), .val (.int (2 : Int32)), .val (.int dd), .val (.int ch0), .unset, .unset, .unset, .unset, .unset, .unset] [(.int p3), (.int dd)])) rfl (by rw [hml]; rfl) (argsL := [(.int dd), (.int p3)]) (rest := []) (lenOf pd__ZI_C rfl) rfl (by show 2 * 0 + _ ≤ _; exact Nat.le_of_eq rfl) (hb hby at_31) (fun _ _ => ⟨rfl, e593, (by decide : 0 + 0 ≤ _), (by decide : 0 + 0 ≤ _)⟩)
  dsimp only [Pt.U, Pt.locs, Pt.cells, Pt.slots] at X594 l594 y594 z594 st594 hQ594
  subst l594 y594 z594
  obtain ⟨rfl, N594q, e594⟩ := hQ594
  have N594 := Fr.app N593 N594q
  obtain ⟨_, _, ⟨T595, L595, k595, n595⟩, -, X595, ⟨Lc595, hQ595, l595, y595, z595⟩, st595⟩ := Jvm.LawKit.callS X594 hx (y := (⟨"com/example/recourse/recourse/WriteOffActorRecordedAsPinLaw", "draw", "(ZI)C"⟩ : MethodName)) hown (mvT hZ (hw _ (List.mem_of_getElem? (i := 0) rfl))) (mvT hZ (hw _ (List.mem_of_getElem? (i := 1) rfl))) (mvT hZ (hw _ (List.mem_of_getElem? (i := 2) rfl))) (mvT hZ (hw _ (List.mem_of_getElem? (i := 3) rfl))) (by decide) (backOf (W := 0) (own_draw l Z a0 hw [] dd p4 ch2 h0 n0 Z0 hr2) hZ (hw _ (List.mem_of_getElem? (i := 3) rfl)) (hw _ (List.mem_of_getElem? (i := 2) rfl)) (by decide) (by decide)) (g := (mkF m 39 #[.val (.int p1), .val (.int p2), .val (.int p3), .val (.int p4), .val (.int (2 : Int32)), .val (.int dd), .val (.int ch0), .val (.int ch1), .unset, .unset, .unset, .unset, .unset] [(.int p4), (.int dd)])) rfl (by rw [hml]; rfl) (argsL := [(.int dd), (.int p4)]) (rest := []) (lenOf pd__ZI_C rfl) rfl (by show 2 * 0 + _ ≤ _; exact Nat.le_of_eq rfl) (hb hby at_39) (fun _ _ => ⟨rfl, e594, (by decide : 0 + 0 ≤ _), (by decide : 0 + 0 ≤ _)⟩)
  dsimp only [Pt.U, Pt.locs, Pt.cells, Pt.slots] at X595 l595 y595 z595 st595 hQ595
  subst l595 y595 z595
  obtain ⟨rfl, N595q, e595⟩ := hQ595
  have N595 := Fr.app N594 N595q
  obtain ⟨T596, h596, X596, e596, E596, A596, D596, -, st596⟩ := newO X595 hx hZ hown (hw _ (List.mem_of_getElem? (i := 4) rfl)) (hw _ (List.mem_of_getElem? (i := 5) rfl)) (hw _ (List.mem_of_getElem? (i := 6) rfl)) e595 (g := (mkF m 96 #[.val (.int p1), .val (.int p2), .val (.int p3), .val (.int p4), .val (.int (2 : Int32)), .val (.int dd), .val (.int ch0), .val (.int ch1), .val (.int ch2), .unset, .unset, .unset, .unset] [])) rfl (hb hby at_96) (by decide) (by decide)
  obtain ⟨b596, g596⟩ : ∃ z, z = h0.size := ⟨_, rfl⟩
  rw [← g596] at A596 D596 st596
  have q596 : h0.size ≤ b596 := by rw [g596]; exact Nat.le_refl _
  have EX596 : Ext h0 h596 := E596
  have Z596 : n0 ≤ h596.size := Nat.le_trans Z0 EX596.1
  have Fvalue_597 : Fld Z h596 b596 "java/lang/String" "value" "[B" .null := D596 (Or.inr (hw _ (List.mem_of_getElem? (i := 20) rfl))) (ty := (.array .byte)) (by decide)
  have Fcoder_598 : Fld Z h596 b596 "java/lang/String" "coder" "B" (.int (0 : Int32)) := D596 (Or.inr (hw _ (List.mem_of_getElem? (i := 21) rfl))) (ty := .byte) (by decide)
  obtain ⟨T599, h599, k599, X599, e599, E599, A599, st599⟩ := newP X596 hx hZ (hw _ (List.mem_of_getElem? (i := 7) rfl)) e596 (g := (mkF m 101 #[.val (.int p1), .val (.int p2), .val (.int p3), .val (.int p4), .val (.int (2 : Int32)), .val (.int dd), .val (.int ch0), .val (.int ch1), .val (.int ch2), .unset, .unset, .unset, .unset] [(.int (2 : Int32)), (.ref b596), (.ref b596)])) rfl (hb hby at_101) rfl (by decide) (cap := 2) (by decide) (by decide) (by decide) (by decide)
  obtain ⟨b599, g599⟩ : ∃ z, z = h596.size := ⟨_, rfl⟩
  rw [← g599] at A599 st599
  have V599 : Arv Z h599 b599 k599 .char (2 : Int32) (List.replicate 2 (.int (0 : Int32))) (.int (0 : Int32)) := (Arv.new A599 (by decide)).pad (fun i => pad_rep [] (.int (0 : Int32)) 2 i)
  have q599 : h0.size ≤ b599 := by rw [g599]; exact EX596.1
  have ne_b596_b599 : b596 ≠ b599 := by rw [g599]; exact Nat.ne_of_lt A596.lt
  have A596_600 := A596.ext E599
  have Fvalue_601 := Fvalue_597.ext E599
  have Fcoder_602 := Fcoder_598.ext E599
  have EX599 : Ext h0 h599 := own_ext_trans EX596 E599
  have Z599 : n0 ≤ h599.size := Nat.le_trans Z0 EX599.1
  obtain ⟨T603, h603, X603, e603, W603, V603, st603⟩ := own_stC X599 hx hZ e599 V599 (j := (0 : Int32)) (by decide) (i := 0) (by decide) (by simp) (g := (mkF m 107 #[.val (.int p1), .val (.int p2), .val (.int p3), .val (.int p4), .val (.int (2 : Int32)), .val (.int dd), .val (.int ch0), .val (.int ch1), .val (.int ch2), .unset, .unset, .unset, .unset] [(.int ch0), (.int (0 : Int32)), (.ref b599), (.ref b599), (.ref b596), (.ref b596)])) rfl rfl (hb hby at_107)
  have A596_604 := A596_600.wr W603
  have Fvalue_605 := Fvalue_601.other W603 (Or.inl ne_b596_b599)
  have Fcoder_606 := Fcoder_602.other W603 (Or.inl ne_b596_b599)
  have EX603 : Ext h0 h603 := own_ext_wr EX599 W603 q599
  have Z603 : n0 ≤ h603.size := Nat.le_trans Z0 EX603.1
  have N603 := Fr.snoc X603 N595 (Nat.le_trans Z0 q599)
  obtain ⟨T607, h607, X607, e607, W607, V607, st607⟩ := own_stC X603 hx hZ e603 V603 (j := (1 : Int32)) (by decide) (i := 1) (by decide) (by simp) (g := (mkF m 112 #[.val (.int p1), .val (.int p2), .val (.int p3), .val (.int p4), .val (.int (2 : Int32)), .val (.int dd), .val (.int ch0), .val (.int ch1), .val (.int ch2), .unset, .unset, .unset, .unset] [(.int ch1), (.int (1 : Int32)), (.ref b599), (.ref b599), (.ref b596), (.ref b596)])) rfl rfl (hb hby at_112)
  have A596_608 := A596_604.wr W607
  have Fvalue_609 := Fvalue_605.other W607 (Or.inl ne_b596_b599)
  have Fcoder_610 := Fcoder_606.other W607 (Or.inl ne_b596_b599)
  have EX607 : Ext h0 h607 := own_ext_wr EX603 W607 q599
  have Z607 : n0 ≤ h607.size := Nat.le_trans Z0 EX607.1
  have N607 := Fr.snoc X607 N603 (Nat.le_trans Z0 q599)
  rw [hr0.2.2.1, hr1.2.2.1] at V607
  have V611c : Arv Z h607 b599 k599 .char (2 : Int32) [(.int ch0), (.int ch1)] (.int (0 : Int32)) := V607
  have hws611 : ∀ d ∈ StrChars.Road.words, d.before a0 Z = true := fun d hd => hw d ((by decide +kernel : ∀ d ∈ StrChars.Road.words, d ∈ tables_1) d hd)
  have hlat611 : ∀ c ∈ [ch0, ch1], ¬ c < 0 ∧ ¬ (255 : Int32) < c := by
    intro c hc
    simp only [List.mem_cons, List.not_mem_nil, or_false] at hc
    rcases hc with rfl | rfl
    · exact hr0.2.2.2.1
    · exact hr1.2.2.2.1
  obtain ⟨_, _, ⟨T611, L611, k611, n611⟩, -, X611, ⟨Lc611, hQ611, l611, y611, z611⟩, st611⟩ := X607.specialBack hx (y := (⟨"java/lang/String", "<init>", "([C)V"⟩ : MethodName)) rfl hown (mvT hZ (hw _ (List.mem_of_getElem? (i := 8) rfl))) (mvT hZ (hw _ (List.mem_of_getElem? (i := 9) rfl))) (mvT hZ (hw _ (List.mem_of_getElem? (i := 10) rfl))) (by decide) (StrChars.Road.backV (W := 1) hZ hws611 (kI := 4) (hw _ (List.mem_of_getElem? (i := 5) rfl)) (cs := [ch0, ch1]) (bs := [ch0.toInt8.toInt32, ch1.toInt8.toInt32]) (n := 2) (Nat.le_trans Z0 q596) Z607 A596_608 Fvalue_609 Fcoder_610 V611c (S8.ext EX607) c9 rfl rfl (by decide) (by decide) hlat611 rfl (by decide) (by decide)) (g := (mkF m 113 #[.val (.int p1), .val (.int p2), .val (.int p3), .val (.int p4), .val (.int (2 : Int32)), .val (.int dd), .val (.int ch0), .val (.int ch1), .val (.int ch2), .unset, .unset, .unset, .unset] [(.ref b599), (.ref b596), (.ref b596)])) rfl (by rw [hml]; rfl) (Steps.refl _) (a := b596) (argsL := [(.ref b599)]) (rest := [(.ref b596)]) (lenOf pd__ArC_V rfl) rfl (by show 2 * 0 + _ ≤ _; exact Nat.le_of_eq rfl) (hb hby at_113) (fun _ _ => ⟨rfl, e607, (by decide : 2 + 1 ≤ _), (by decide : 6 + 2 ≤ _)⟩)
  dsimp only [Pt.U, Pt.locs, Pt.cells, Pt.slots] at X611 l611 y611 z611 st611 hQ611
  subst l611 y611 z611
  obtain ⟨rfl, N611q, K611q, E611s, C611s, t611s, kb611s, qn611s, qh611s, qx611s, V611s, B611s⟩ := hQ611
  have N611 := Fr.app N607 N611q
  have q611s : h0.size ≤ t611s := Nat.le_trans EX607.1 qh611s
  have ne_b599_t611s : b599 ≠ t611s := Nat.ne_of_lt (Nat.lt_of_lt_of_le V607.lt qh611s)
  have A596_612 := A596_608.keep K611q
  have V607_613 := V607.keep K611q (ninS (Ne.symm ne_b596_b599) nin0)
  have EX611 : Ext h0 T611.heap := own_ext_keep EX607 K611q (allS q596 all0)
  have Z611 : n0 ≤ T611.heap.size := Nat.le_trans Z0 EX611.1
  have PT614 : own_St Z T611.heap b596 t611s kb611s (2 : Int32) [ch0.toInt8.toInt32, ch1.toInt8.toInt32] := ⟨E611s, V611s, C611s, B611s⟩
  have ns0 : s0 ≠ b596 := Nat.ne_of_lt (Nat.lt_of_lt_of_le (own_P_lt P).1 q596)
  have ns1 : s1 ≠ b596 := Nat.ne_of_lt (Nat.lt_of_lt_of_le (own_P_lt P).2 q596)
  obtain ⟨_, _, ⟨T615, L615, k615, n615⟩, -, X615, ⟨Lc615, hQ615, l615, y615, z615⟩, st615⟩ := Jvm.LawKit.callS X611 hx (y := (⟨"com/example/recourse/recourse/WriteOffActor", "recordedAs", "(Ljava/lang/String;)Ljava/util/Optional;"⟩ : MethodName)) hown (mvT hZ (hw _ (List.mem_of_getElem? (i := 26) rfl))) (mvT hZ (hw _ (List.mem_of_getElem? (i := 27) rfl))) (mvT hZ (hw _ (List.mem_of_getElem? (i := 28) rfl))) (mvT hZ (hw _ (List.mem_of_getElem? (i := 29) rfl))) (by decide) (backOf (W := 0) (own_rec_s1 l Z a0 hw [] wv w0 w1 r0 r1 s0 s1 c0 c1 we kv kc0 kc1 i7 b596 t611s kb611s ch0.toInt8.toInt32 ch1.toInt8.toInt32 T611.heap n0 Z611 (own_P_ext P EX611) PT614 ns0 ns1 (hr0.2.2.2.2.1.mp g0) (fun q => g1 (hr1.2.2.2.2.1.mpr q)) (fun q => g2 (hr1.2.2.2.2.2.mpr q))) hZ (hw _ (List.mem_of_getElem? (i := 29) rfl)) (hw _ (List.mem_of_getElem? (i := 28) rfl)) (by decide) (by decide)) (g := (mkF m 189 #[.val (.int p1), .val (.int p2), .val (.int p3), .val (.int p4), .val (.int (2 : Int32)), .val (.int dd), .val (.int ch0), .val (.int ch1), .val (.int ch2), .val (.ref b596), .val (.int (0 : Int32)), .unset, .unset] [(.ref b596)])) rfl (by rw [hml]; rfl) (argsL := [(.ref b596)]) (rest := []) (lenOf pd__Ljava_lang_String__Ljava_util_Optional_ rfl) rfl (by show 2 * 0 + _ ≤ _; exact Nat.le_of_eq rfl) (hb hby at_189) (fun _ _ => ⟨rfl, rfl, (by decide : 3 + 1 ≤ _), (by decide : 8 + 2 ≤ _)⟩)
  dsimp only [Pt.U, Pt.locs, Pt.cells, Pt.slots] at X615 l615 y615 z615 st615 hQ615
  subst l615 y615 z615
  obtain ⟨rfl, N615q, EE615⟩ := hQ615
  have N615 := Fr.app N611 N615q
  have E611s_616 := E611s.ext EE615
  have V607_617 := V607_613.ext EE615
  have C611s_618 := C611s.ext EE615
  have V611s_619 := V611s.ext EE615
  have B611s_620 := B611s.ext EE615
  have EX615 : Ext h0 T615.heap := own_ext_trans EX611 EE615
  have Z615 : n0 ≤ T615.heap.size := Nat.le_trans Z0 EX615.1
  obtain ⟨cq621, kq621, q621a, q621b, q621c⟩ := isOf hZ rfl (Ee.ext EX615)
  obtain ⟨_, _, ⟨T621, L621, k621, n621⟩, -, X621, ⟨Lc621, hQ621, l621, y621, z621⟩, st621⟩ := X615.virtualBack hx (y := (⟨"java/util/Optional", "isPresent", "()Z"⟩ : MethodName)) (z := (⟨"java/util/Optional", "isPresent", "()Z"⟩ : MethodName)) hown (mvT hZ (hw _ (List.mem_of_getElem? (i := 75) rfl))) (mvT hZ (hw _ (List.mem_of_getElem? (i := 76) rfl))) (notFace_of_selects (args := #[]) (mvT hZ (hw _ (List.mem_of_getElem? (i := 78) rfl)))) (mvT hZ (hw _ (List.mem_of_getElem? (i := 78) rfl))) (mvT hZ (hw _ (List.mem_of_getElem? (i := 77) rfl))) (by decide) (backOf (W := 0) (own_pres_e l Z a0 hw [] we T615.heap n0 Z615 (Fe.ext EX615)) hZ (hw _ (List.mem_of_getElem? (i := 79) rfl)) (hw _ (List.mem_of_getElem? (i := 72) rfl)) (by decide) (by decide)) q621a q621c (g := (mkF m 201 #[.val (.int p1), .val (.int p2), .val (.int p3), .val (.int p4), .val (.int (2 : Int32)), .val (.int dd), .val (.int ch0), .val (.int ch1), .val (.int ch2), .val (.ref b596), .val (.int (0 : Int32)), .val (.ref we), .unset] [(.ref we)])) rfl (by rw [hml]; rfl) (Steps.refl _) (argsL := []) (rest := []) (lenOf pd___Z rfl) rfl (by show 2 * 0 + _ ≤ _; exact Nat.le_of_eq rfl) (hb hby at_201) (fun _ _ => ⟨rfl, rfl, (by decide : 4 + 0 ≤ _), (by decide : 10 + 0 ≤ _)⟩)
  dsimp only [Pt.U, Pt.locs, Pt.cells, Pt.slots] at X621 l621 y621 z621 st621 hQ621
  subst l621 y621 z621
  obtain ⟨rfl, N621q, e621⟩ := hQ621
  have N621 := Fr.app N615 N621q
  obtain ⟨fs, hr, hrun, hended, hRE⟩ := Jvm.Stand.leaveW (s := s) (vm₁ := s.vm) X621 ((State.WarmedH.refl s).since 0) (Nat.le_trans (Nat.zero_le _) (Nat.le_of_eq (congrArg Array.size e621.symm))) (v := some (.int (1 : Int32))) (fun h => by rw [Bd.returns] at h; cases h)
  refine ⟨_, _, pre0 _ (pre1 _ (thru _ ?_)), hrun, hended, _, _, rfl, ?_, ⟨_, rfl⟩, hRE.2.1, hRE.2.2.1, hRE.2.2.2.mono (by decide) (by decide)⟩
  · show Steps p.tables e below (s₁.setTop (mkF m 18 #[.val (.int p1), .val (.int p2), .val (.int p3), .val (.int p4), .val (.int (2 : Int32)), .unset, .unset, .unset, .unset, .unset, .unset, .unset, .unset] [(.int dd)])) _
    refine XS.istore X0.here hx rfl (hb hby at_18) rfl (l' := #[.val (.int p1), .val (.int p2), .val (.int p3), .val (.int p4), .val (.int (2 : Int32)), .val (.int dd), .unset, .unset, .unset, .unset, .unset, .unset, .unset]) rfl ?_
    show Steps p.tables e below (s₁.setTop (mkF m 20 #[.val (.int p1), .val (.int p2), .val (.int p3), .val (.int p4), .val (.int (2 : Int32)), .val (.int dd), .unset, .unset, .unset, .unset, .unset, .unset, .unset] [])) _
    refine XS.iload X0.here hx rfl (hb hby at_20) rfl ?_
    show Steps p.tables e below (s₁.setTop (mkF m 22 #[.val (.int p1), .val (.int p2), .val (.int p3), .val (.int p4), .val (.int (2 : Int32)), .val (.int dd), .unset, .unset, .unset, .unset, .unset, .unset, .unset] [(.int dd)])) _
    refine XS.iloadN X0.here hx rfl (hb hby at_22) rfl ?_
    show Steps p.tables e below (s₁.setTop (mkF m 23 #[.val (.int p1), .val (.int p2), .val (.int p3), .val (.int p4), .val (.int (2 : Int32)), .val (.int dd), .unset, .unset, .unset, .unset, .unset, .unset, .unset] [(.int p2), (.int dd)])) _
    refine st593 _ ?_
    show Steps p.tables e below (T593.setTop (mkF m 26 #[.val (.int p1), .val (.int p2), .val (.int p3), .val (.int p4), .val (.int (2 : Int32)), .val (.int dd), .unset, .unset, .unset, .unset, .unset, .unset, .unset] [(.int ch0)])) _
    refine XS.istore X593.here hx rfl (hb hby at_26) rfl (l' := #[.val (.int p1), .val (.int p2), .val (.int p3), .val (.int p4), .val (.int (2 : Int32)), .val (.int dd), .val (.int ch0), .unset, .unset, .unset, .unset, .unset, .unset]) rfl ?_
    show Steps p.tables e below (T593.setTop (mkF m 28 #[.val (.int p1), .val (.int p2), .val (.int p3), .val (.int p4), .val (.int (2 : Int32)), .val (.int dd), .val (.int ch0), .unset, .unset, .unset, .unset, .unset, .unset] [])) _
    refine XS.iload X593.here hx rfl (hb hby at_28) rfl ?_
    show Steps p.tables e below (T593.setTop (mkF m 30 #[.val (.int p1), .val (.int p2), .val (.int p3), .val (.int p4), .val (.int (2 : Int32)), .val (.int dd), .val (.int ch0), .unset, .unset, .unset, .unset, .unset, .unset] [(.int dd)])) _
    refine XS.iloadN X593.here hx rfl (hb hby at_30) rfl ?_
    show Steps p.tables e below (T593.setTop (mkF m 31 #[.val (.int p1), .val (.int p2), .val (.int p3), .val (.int p4), .val (.int (2 : Int32)), .val (.int dd), .val (.int ch0), .unset, .unset, .unset, .unset, .unset, .unset] [(.int p3), (.int dd)])) _
    refine st594 _ ?_
    show Steps p.tables e below (T594.setTop (mkF m 34 #[.val (.int p1), .val (.int p2), .val (.int p3), .val (.int p4), .val (.int (2 : Int32)), .val (.int dd), .val (.int ch0), .unset, .unset, .unset, .unset, .unset, .unset] [(.int ch1)])) _
    refine XS.istore X594.here hx rfl (hb hby at_34) rfl (l' := #[.val (.int p1), .val (.int p2), .val (.int p3), .val (.int p4), .val (.int (2 : Int32)), .val (.int dd), .val (.int ch0), .val (.int ch1), .unset, .unset, .unset, .unset, .unset]) rfl ?_
    show Steps p.tables e below (T594.setTop (mkF m 36 #[.val (.int p1), .val (.int p2), .val (.int p3), .val (.int p4), .val (.int (2 : Int32)), .val (.int dd), .val (.int ch0), .val (.int ch1), .unset, .unset, .unset, .unset, .unset] [])) _
    refine XS.iload X594.here hx rfl (hb hby at_36) rfl ?_
    show Steps p.tables e below (T594.setTop (mkF m 38 #[.val (.int p1), .val (.int p2), .val (.int p3), .val (.int p4), .val (.int (2 : Int32)), .val (.int dd), .val (.int ch0), .val (.int ch1), .unset, .unset, .unset, .unset, .unset] [(.int dd)])) _
    refine XS.iloadN X594.here hx rfl (hb hby at_38) rfl ?_
    show Steps p.tables e below (T594.setTop (mkF m 39 #[.val (.int p1), .val (.int p2), .val (.int p3), .val (.int p4), .val (.int (2 : Int32)), .val (.int dd), .val (.int ch0), .val (.int ch1), .unset, .unset, .unset, .unset, .unset] [(.int p4), (.int dd)])) _
    refine st595 _ ?_
    show Steps p.tables e below (T595.setTop (mkF m 42 #[.val (.int p1), .val (.int p2), .val (.int p3), .val (.int p4), .val (.int (2 : Int32)), .val (.int dd), .val (.int ch0), .val (.int ch1), .unset, .unset, .unset, .unset, .unset] [(.int ch2)])) _
    refine XS.istore X595.here hx rfl (hb hby at_42) rfl (l' := #[.val (.int p1), .val (.int p2), .val (.int p3), .val (.int p4), .val (.int (2 : Int32)), .val (.int dd), .val (.int ch0), .val (.int ch1), .val (.int ch2), .unset, .unset, .unset, .unset]) rfl ?_
    show Steps p.tables e below (T595.setTop (mkF m 44 #[.val (.int p1), .val (.int p2), .val (.int p3), .val (.int p4), .val (.int (2 : Int32)), .val (.int dd), .val (.int ch0), .val (.int ch1), .val (.int ch2), .unset, .unset, .unset, .unset] [])) _
    refine XS.iload X595.here hx rfl (hb hby at_44) rfl ?_
    show Steps p.tables e below (T595.setTop (mkF m 46 #[.val (.int p1), .val (.int p2), .val (.int p3), .val (.int p4), .val (.int (2 : Int32)), .val (.int dd), .val (.int ch0), .val (.int ch1), .val (.int ch2), .unset, .unset, .unset, .unset] [(.int (2 : Int32))])) _
    refine XS.ifYes X595.here hx rfl (pc0 := 46) (pc' := 64) rfl (hb hby at_46) rfl (by decide) (by decide) (by decide) ?_
    show Steps p.tables e below (T595.setTop (mkF m 64 #[.val (.int p1), .val (.int p2), .val (.int p3), .val (.int p4), .val (.int (2 : Int32)), .val (.int dd), .val (.int ch0), .val (.int ch1), .val (.int ch2), .unset, .unset, .unset, .unset] [])) _
    refine XS.iload X595.here hx rfl (hb hby at_64) rfl ?_
    show Steps p.tables e below (T595.setTop (mkF m 66 #[.val (.int p1), .val (.int p2), .val (.int p3), .val (.int p4), .val (.int (2 : Int32)), .val (.int dd), .val (.int ch0), .val (.int ch1), .val (.int ch2), .unset, .unset, .unset, .unset] [(.int (2 : Int32))])) _
    refine XT.iconstV X595.here hx rfl (1 : Int32) (hb hby at_66) rfl ?_
    show Steps p.tables e below (T595.setTop (mkF m 67 #[.val (.int p1), .val (.int p2), .val (.int p3), .val (.int p4), .val (.int (2 : Int32)), .val (.int dd), .val (.int ch0), .val (.int ch1), .val (.int ch2), .unset, .unset, .unset, .unset] [(.int (1 : Int32)), (.int (2 : Int32))])) _
    refine XS.icmpYes X595.here hx rfl (pc0 := 67) (pc' := 90) rfl (hb hby at_67) rfl (by decide) (by decide) (by decide) ?_
    show Steps p.tables e below (T595.setTop (mkF m 90 #[.val (.int p1), .val (.int p2), .val (.int p3), .val (.int p4), .val (.int (2 : Int32)), .val (.int dd), .val (.int ch0), .val (.int ch1), .val (.int ch2), .unset, .unset, .unset, .unset] [])) _
    refine XS.iload X595.here hx rfl (hb hby at_90) rfl ?_
    show Steps p.tables e below (T595.setTop (mkF m 92 #[.val (.int p1), .val (.int p2), .val (.int p3), .val (.int p4), .val (.int (2 : Int32)), .val (.int dd), .val (.int ch0), .val (.int ch1), .val (.int ch2), .unset, .unset, .unset, .unset] [(.int (2 : Int32))])) _
    refine XT.iconstV X595.here hx rfl (2 : Int32) (hb hby at_92) rfl ?_
    show Steps p.tables e below (T595.setTop (mkF m 93 #[.val (.int p1), .val (.int p2), .val (.int p3), .val (.int p4), .val (.int (2 : Int32)), .val (.int dd), .val (.int ch0), .val (.int ch1), .val (.int ch2), .unset, .unset, .unset, .unset] [(.int (2 : Int32)), (.int (2 : Int32))])) _
    refine XS.icmpNo X595.here hx rfl (hb hby at_93) rfl (by decide) ?_
    show Steps p.tables e below (T595.setTop (mkF m 96 #[.val (.int p1), .val (.int p2), .val (.int p3), .val (.int p4), .val (.int (2 : Int32)), .val (.int dd), .val (.int ch0), .val (.int ch1), .val (.int ch2), .unset, .unset, .unset, .unset] [])) _
    refine st596 _ ?_
    show Steps p.tables e below (T596.setTop (mkF m 99 #[.val (.int p1), .val (.int p2), .val (.int p3), .val (.int p4), .val (.int (2 : Int32)), .val (.int dd), .val (.int ch0), .val (.int ch1), .val (.int ch2), .unset, .unset, .unset, .unset] [(.ref b596)])) _
    refine XS.dup X596.here hx rfl (hb hby at_99) rfl rfl ?_
    show Steps p.tables e below (T596.setTop (mkF m 100 #[.val (.int p1), .val (.int p2), .val (.int p3), .val (.int p4), .val (.int (2 : Int32)), .val (.int dd), .val (.int ch0), .val (.int ch1), .val (.int ch2), .unset, .unset, .unset, .unset] [(.ref b596), (.ref b596)])) _
    refine XT.iconstV X596.here hx rfl (2 : Int32) (hb hby at_100) rfl ?_
    show Steps p.tables e below (T596.setTop (mkF m 101 #[.val (.int p1), .val (.int p2), .val (.int p3), .val (.int p4), .val (.int (2 : Int32)), .val (.int dd), .val (.int ch0), .val (.int ch1), .val (.int ch2), .unset, .unset, .unset, .unset] [(.int (2 : Int32)), (.ref b596), (.ref b596)])) _
    refine st599 _ ?_
    show Steps p.tables e below (T599.setTop (mkF m 103 #[.val (.int p1), .val (.int p2), .val (.int p3), .val (.int p4), .val (.int (2 : Int32)), .val (.int dd), .val (.int ch0), .val (.int ch1), .val (.int ch2), .unset, .unset, .unset, .unset] [(.ref b599), (.ref b596), (.ref b596)])) _
    refine XS.dup X599.here hx rfl (hb hby at_103) rfl rfl ?_
    show Steps p.tables e below (T599.setTop (mkF m 104 #[.val (.int p1), .val (.int p2), .val (.int p3), .val (.int p4), .val (.int (2 : Int32)), .val (.int dd), .val (.int ch0), .val (.int ch1), .val (.int ch2), .unset, .unset, .unset, .unset] [(.ref b599), (.ref b599), (.ref b596), (.ref b596)])) _
    refine XT.iconstV X599.here hx rfl (0 : Int32) (hb hby at_104) rfl ?_
    show Steps p.tables e below (T599.setTop (mkF m 105 #[.val (.int p1), .val (.int p2), .val (.int p3), .val (.int p4), .val (.int (2 : Int32)), .val (.int dd), .val (.int ch0), .val (.int ch1), .val (.int ch2), .unset, .unset, .unset, .unset] [(.int (0 : Int32)), (.ref b599), (.ref b599), (.ref b596), (.ref b596)])) _
    refine XS.iload X599.here hx rfl (hb hby at_105) rfl ?_
    show Steps p.tables e below (T599.setTop (mkF m 107 #[.val (.int p1), .val (.int p2), .val (.int p3), .val (.int p4), .val (.int (2 : Int32)), .val (.int dd), .val (.int ch0), .val (.int ch1), .val (.int ch2), .unset, .unset, .unset, .unset] [(.int ch0), (.int (0 : Int32)), (.ref b599), (.ref b599), (.ref b596), (.ref b596)])) _
    refine st603 _ ?_
    show Steps p.tables e below (T603.setTop (mkF m 108 #[.val (.int p1), .val (.int p2), .val (.int p3), .val (.int p4), .val (.int (2 : Int32)), .val (.int dd), .val (.int ch0), .val (.int ch1), .val (.int ch2), .unset, .unset, .unset, .unset] [(.ref b599), (.ref b596), (.ref b596)])) _
    refine XS.dup X603.here hx rfl (hb hby at_108) rfl rfl ?_
    show Steps p.tables e below (T603.setTop (mkF m 109 #[.val (.int p1), .val (.int p2), .val (.int p3), .val (.int p4), .val (.int (2 : Int32)), .val (.int dd), .val (.int ch0), .val (.int ch1), .val (.int ch2), .unset, .unset, .unset, .unset] [(.ref b599), (.ref b599), (.ref b596), (.ref b596)])) _
    refine XT.iconstV X603.here hx rfl (1 : Int32) (hb hby at_109) rfl ?_
    show Steps p.tables e below (T603.setTop (mkF m 110 #[.val (.int p1), .val (.int p2), .val (.int p3), .val (.int p4), .val (.int (2 : Int32)), .val (.int dd), .val (.int ch0), .val (.int ch1), .val (.int ch2), .unset, .unset, .unset, .unset] [(.int (1 : Int32)), (.ref b599), (.ref b599), (.ref b596), (.ref b596)])) _
    refine XS.iload X603.here hx rfl (hb hby at_110) rfl ?_
    show Steps p.tables e below (T603.setTop (mkF m 112 #[.val (.int p1), .val (.int p2), .val (.int p3), .val (.int p4), .val (.int (2 : Int32)), .val (.int dd), .val (.int ch0), .val (.int ch1), .val (.int ch2), .unset, .unset, .unset, .unset] [(.int ch1), (.int (1 : Int32)), (.ref b599), (.ref b599), (.ref b596), (.ref b596)])) _
    refine st607 _ ?_
    show Steps p.tables e below (T607.setTop (mkF m 113 #[.val (.int p1), .val (.int p2), .val (.int p3), .val (.int p4), .val (.int (2 : Int32)), .val (.int dd), .val (.int ch0), .val (.int ch1), .val (.int ch2), .unset, .unset, .unset, .unset] [(.ref b599), (.ref b596), (.ref b596)])) _
    refine st611.trans ?_
    show Steps p.tables e below (T611.setTop (mkF m 116 #[.val (.int p1), .val (.int p2), .val (.int p3), .val (.int p4), .val (.int (2 : Int32)), .val (.int dd), .val (.int ch0), .val (.int ch1), .val (.int ch2), .unset, .unset, .unset, .unset] [(.ref b596)])) _
    refine XS.astore X611.here hx rfl (hb hby at_116) rfl rfl (l' := #[.val (.int p1), .val (.int p2), .val (.int p3), .val (.int p4), .val (.int (2 : Int32)), .val (.int dd), .val (.int ch0), .val (.int ch1), .val (.int ch2), .val (.ref b596), .unset, .unset, .unset]) rfl ?_
    show Steps p.tables e below (T611.setTop (mkF m 118 #[.val (.int p1), .val (.int p2), .val (.int p3), .val (.int p4), .val (.int (2 : Int32)), .val (.int dd), .val (.int ch0), .val (.int ch1), .val (.int ch2), .val (.ref b596), .unset, .unset, .unset] [])) _
    refine XS.goto X611.here hx rfl (pc0 := 118) (pc' := 148) rfl (hb hby at_118) (by decide) (by decide) ?_
    show Steps p.tables e below (T611.setTop (mkF m 148 #[.val (.int p1), .val (.int p2), .val (.int p3), .val (.int p4), .val (.int (2 : Int32)), .val (.int dd), .val (.int ch0), .val (.int ch1), .val (.int ch2), .val (.ref b596), .unset, .unset, .unset] [])) _
    refine XT.iconstV X611.here hx rfl (0 : Int32) (hb hby at_148) rfl ?_
    show Steps p.tables e below (T611.setTop (mkF m 149 #[.val (.int p1), .val (.int p2), .val (.int p3), .val (.int p4), .val (.int (2 : Int32)), .val (.int dd), .val (.int ch0), .val (.int ch1), .val (.int ch2), .val (.ref b596), .unset, .unset, .unset] [(.int (0 : Int32))])) _
    refine XS.istore X611.here hx rfl (hb hby at_149) rfl (l' := #[.val (.int p1), .val (.int p2), .val (.int p3), .val (.int p4), .val (.int (2 : Int32)), .val (.int dd), .val (.int ch0), .val (.int ch1), .val (.int ch2), .val (.ref b596), .val (.int (0 : Int32)), .unset, .unset]) rfl ?_
    show Steps p.tables e below (T611.setTop (mkF m 151 #[.val (.int p1), .val (.int p2), .val (.int p3), .val (.int p4), .val (.int (2 : Int32)), .val (.int dd), .val (.int ch0), .val (.int ch1), .val (.int ch2), .val (.ref b596), .val (.int (0 : Int32)), .unset, .unset] [])) _
    refine XS.iload X611.here hx rfl (hb hby at_151) rfl ?_
    show Steps p.tables e below (T611.setTop (mkF m 153 #[.val (.int p1), .val (.int p2), .val (.int p3), .val (.int p4), .val (.int (2 : Int32)), .val (.int dd), .val (.int ch0), .val (.int ch1), .val (.int ch2), .val (.ref b596), .val (.int (0 : Int32)), .unset, .unset] [(.int (2 : Int32))])) _
    refine XT.iconstV X611.here hx rfl (2 : Int32) (hb hby at_153) rfl ?_
    show Steps p.tables e below (T611.setTop (mkF m 154 #[.val (.int p1), .val (.int p2), .val (.int p3), .val (.int p4), .val (.int (2 : Int32)), .val (.int dd), .val (.int ch0), .val (.int ch1), .val (.int ch2), .val (.ref b596), .val (.int (0 : Int32)), .unset, .unset] [(.int (2 : Int32)), (.int (2 : Int32))])) _
    refine XS.icmpNo X611.here hx rfl (hb hby at_154) rfl (by decide) ?_
    show Steps p.tables e below (T611.setTop (mkF m 157 #[.val (.int p1), .val (.int p2), .val (.int p3), .val (.int p4), .val (.int (2 : Int32)), .val (.int dd), .val (.int ch0), .val (.int ch1), .val (.int ch2), .val (.ref b596), .val (.int (0 : Int32)), .unset, .unset] [])) _
    refine XS.iload X611.here hx rfl (hb hby at_157) rfl ?_
    show Steps p.tables e below (T611.setTop (mkF m 159 #[.val (.int p1), .val (.int p2), .val (.int p3), .val (.int p4), .val (.int (2 : Int32)), .val (.int dd), .val (.int ch0), .val (.int ch1), .val (.int ch2), .val (.ref b596), .val (.int (0 : Int32)), .unset, .unset] [(.int ch0)])) _
    refine XT.bipushV X611.here hx rfl (52 : Int32) (hb hby at_159) (by decide) ?_
    show Steps p.tables e below (T611.setTop (mkF m 161 #[.val (.int p1), .val (.int p2), .val (.int p3), .val (.int p4), .val (.int (2 : Int32)), .val (.int dd), .val (.int ch0), .val (.int ch1), .val (.int ch2), .val (.ref b596), .val (.int (0 : Int32)), .unset, .unset] [(.int (52 : Int32)), (.int ch0)])) _
    refine XS.icmpNo X611.here hx rfl (hb hby at_161) rfl (XT.ii_ne_f g0) ?_
    show Steps p.tables e below (T611.setTop (mkF m 164 #[.val (.int p1), .val (.int p2), .val (.int p3), .val (.int p4), .val (.int (2 : Int32)), .val (.int dd), .val (.int ch0), .val (.int ch1), .val (.int ch2), .val (.ref b596), .val (.int (0 : Int32)), .unset, .unset] [])) _
    refine XS.iload X611.here hx rfl (hb hby at_164) rfl ?_
    show Steps p.tables e below (T611.setTop (mkF m 166 #[.val (.int p1), .val (.int p2), .val (.int p3), .val (.int p4), .val (.int (2 : Int32)), .val (.int dd), .val (.int ch0), .val (.int ch1), .val (.int ch2), .val (.ref b596), .val (.int (0 : Int32)), .unset, .unset] [(.int ch1)])) _
    refine XT.bipushV X611.here hx rfl (52 : Int32) (hb hby at_166) (by decide) ?_
    show Steps p.tables e below (T611.setTop (mkF m 168 #[.val (.int p1), .val (.int p2), .val (.int p3), .val (.int p4), .val (.int (2 : Int32)), .val (.int dd), .val (.int ch0), .val (.int ch1), .val (.int ch2), .val (.ref b596), .val (.int (0 : Int32)), .unset, .unset] [(.int (52 : Int32)), (.int ch1)])) _
    refine XS.icmpYes X611.here hx rfl (pc0 := 168) (pc' := 177) rfl (hb hby at_168) rfl (XT.ii_ne_t g1) (by decide) (by decide) ?_
    show Steps p.tables e below (T611.setTop (mkF m 177 #[.val (.int p1), .val (.int p2), .val (.int p3), .val (.int p4), .val (.int (2 : Int32)), .val (.int dd), .val (.int ch0), .val (.int ch1), .val (.int ch2), .val (.ref b596), .val (.int (0 : Int32)), .unset, .unset] [])) _
    refine XS.iload X611.here hx rfl (hb hby at_177) rfl ?_
    show Steps p.tables e below (T611.setTop (mkF m 179 #[.val (.int p1), .val (.int p2), .val (.int p3), .val (.int p4), .val (.int (2 : Int32)), .val (.int dd), .val (.int ch0), .val (.int ch1), .val (.int ch2), .val (.ref b596), .val (.int (0 : Int32)), .unset, .unset] [(.int ch1)])) _
    refine XT.bipushV X611.here hx rfl (53 : Int32) (hb hby at_179) (by decide) ?_
    show Steps p.tables e below (T611.setTop (mkF m 181 #[.val (.int p1), .val (.int p2), .val (.int p3), .val (.int p4), .val (.int (2 : Int32)), .val (.int dd), .val (.int ch0), .val (.int ch1), .val (.int ch2), .val (.ref b596), .val (.int (0 : Int32)), .unset, .unset] [(.int (53 : Int32)), (.int ch1)])) _
    refine XS.icmpYes X611.here hx rfl (pc0 := 181) (pc' := 187) rfl (hb hby at_181) rfl (XT.ii_ne_t g2) (by decide) (by decide) ?_
    show Steps p.tables e below (T611.setTop (mkF m 187 #[.val (.int p1), .val (.int p2), .val (.int p3), .val (.int p4), .val (.int (2 : Int32)), .val (.int dd), .val (.int ch0), .val (.int ch1), .val (.int ch2), .val (.ref b596), .val (.int (0 : Int32)), .unset, .unset] [])) _
    refine XS.aload X611.here hx rfl (hb hby at_187) rfl rfl ?_
    show Steps p.tables e below (T611.setTop (mkF m 189 #[.val (.int p1), .val (.int p2), .val (.int p3), .val (.int p4), .val (.int (2 : Int32)), .val (.int dd), .val (.int ch0), .val (.int ch1), .val (.int ch2), .val (.ref b596), .val (.int (0 : Int32)), .unset, .unset] [(.ref b596)])) _
    refine st615 _ ?_
    show Steps p.tables e below (T615.setTop (mkF m 192 #[.val (.int p1), .val (.int p2), .val (.int p3), .val (.int p4), .val (.int (2 : Int32)), .val (.int dd), .val (.int ch0), .val (.int ch1), .val (.int ch2), .val (.ref b596), .val (.int (0 : Int32)), .unset, .unset] [(.ref we)])) _
    refine XS.astore X615.here hx rfl (hb hby at_192) rfl rfl (l' := #[.val (.int p1), .val (.int p2), .val (.int p3), .val (.int p4), .val (.int (2 : Int32)), .val (.int dd), .val (.int ch0), .val (.int ch1), .val (.int ch2), .val (.ref b596), .val (.int (0 : Int32)), .val (.ref we), .unset]) rfl ?_
    show Steps p.tables e below (T615.setTop (mkF m 194 #[.val (.int p1), .val (.int p2), .val (.int p3), .val (.int p4), .val (.int (2 : Int32)), .val (.int dd), .val (.int ch0), .val (.int ch1), .val (.int ch2), .val (.ref b596), .val (.int (0 : Int32)), .val (.ref we), .unset] [])) _
    refine XS.iload X615.here hx rfl (hb hby at_194) rfl ?_
    show Steps p.tables e below (T615.setTop (mkF m 196 #[.val (.int p1), .val (.int p2), .val (.int p3), .val (.int p4), .val (.int (2 : Int32)), .val (.int dd), .val (.int ch0), .val (.int ch1), .val (.int ch2), .val (.ref b596), .val (.int (0 : Int32)), .val (.ref we), .unset] [(.int (0 : Int32))])) _
    refine XS.ifNo X615.here hx rfl (hb hby at_196) rfl (by decide) ?_
    show Steps p.tables e below (T615.setTop (mkF m 199 #[.val (.int p1), .val (.int p2), .val (.int p3), .val (.int p4), .val (.int (2 : Int32)), .val (.int dd), .val (.int ch0), .val (.int ch1), .val (.int ch2), .val (.ref b596), .val (.int (0 : Int32)), .val (.ref we), .unset] [])) _
    refine XS.aload X615.here hx rfl (hb hby at_199) rfl rfl ?_
    show Steps p.tables e below (T615.setTop (mkF m 201 #[.val (.int p1), .val (.int p2), .val (.int p3), .val (.int p4), .val (.int (2 : Int32)), .val (.int dd), .val (.int ch0), .val (.int ch1), .val (.int ch2), .val (.ref b596), .val (.int (0 : Int32)), .val (.ref we), .unset] [(.ref we)])) _
    refine st621.trans ?_
    show Steps p.tables e below (T621.setTop (mkF m 204 #[.val (.int p1), .val (.int p2), .val (.int p3), .val (.int p4), .val (.int (2 : Int32)), .val (.int dd), .val (.int ch0), .val (.int ch1), .val (.int ch2), .val (.ref b596), .val (.int (0 : Int32)), .val (.ref we), .unset] [(.int (0 : Int32))])) _
    refine XS.ifNo X621.here hx rfl (hb hby at_204) rfl (by decide) ?_
    show Steps p.tables e below (T621.setTop (mkF m 207 #[.val (.int p1), .val (.int p2), .val (.int p3), .val (.int p4), .val (.int (2 : Int32)), .val (.int dd), .val (.int ch0), .val (.int ch1), .val (.int ch2), .val (.ref b596), .val (.int (0 : Int32)), .val (.ref we), .unset] [])) _
    refine XT.iconstV X621.here hx rfl (1 : Int32) (hb hby at_207) rfl ?_
    show Steps p.tables e below (T621.setTop (mkF m 208 #[.val (.int p1), .val (.int p2), .val (.int p3), .val (.int p4), .val (.int (2 : Int32)), .val (.int dd), .val (.int ch0), .val (.int ch1), .val (.int ch2), .val (.ref b596), .val (.int (0 : Int32)), .val (.ref we), .unset] [(.int (1 : Int32))])) _
    refine XS.goto X621.here hx rfl (pc0 := 208) (pc' := 212) rfl (hb hby at_208) (by decide) (by decide) ?_
    show Steps p.tables e below (T621.setTop (mkF m 212 #[.val (.int p1), .val (.int p2), .val (.int p3), .val (.int p4), .val (.int (2 : Int32)), .val (.int dd), .val (.int ch0), .val (.int ch1), .val (.int ch2), .val (.ref b596), .val (.int (0 : Int32)), .val (.ref we), .unset] [(.int (1 : Int32))])) _
    exact retN X621 hx (t := .boolean) Bd.returns (by simp) (hb hby at_212) hr
  · show own_Q0 n0 _ T621.heap _
    exact ⟨rfl, N621⟩
theorem own_and3 (x : Int32) : (x &&& (3 : Int32)) = (0 : Int32) ∨ (x &&& (3 : Int32)) = (1 : Int32) ∨ (x &&& (3 : Int32)) = (2 : Int32) ∨ (x &&& (3 : Int32)) = (3 : Int32) := by
  have h := c_and x (3 : Int32) (by decide)
  have e3 : (3 : Int32).toInt = 3 := by decide
  rw [e3] at h
  generalize (x &&& (3 : Int32)) = r at h ⊢
  have q : r.toInt = 0 ∨ r.toInt = 1 ∨ r.toInt = 2 ∨ r.toInt = 3 := by omega
  rcases q with q | q | q | q
  · exact Or.inl (Int32.toInt_inj.mp (q.trans (by decide)))
  · exact Or.inr (Or.inl (Int32.toInt_inj.mp (q.trans (by decide))))
  · exact Or.inr (Or.inr (Or.inl (Int32.toInt_inj.mp (q.trans (by decide)))))
  · exact Or.inr (Or.inr (Or.inr (Int32.toInt_inj.mp (q.trans (by decide)))))
set_option maxRecDepth 65536 in
set_option maxHeartbeats 40000000 in
theorem own_law (l : Launch) (Z : State) (a0 : Array Value) (hw : ∀ d ∈ tables_1, d.before a0 Z = true) (ws : List Jvm.Cond) (p1 p2 p3 p4 : Int32) (wv w0 w1 r0 r1 s0 s1 c0 c1 we : Addr) (kv kc0 kc1 : ClassId) (i7 : Int32) (h0 : Heap) (n0 : Nat) (Z0 : n0 ≤ h0.size) (P : own_P Z h0 wv w0 w1 r0 r1 s0 s1 c0 c1 we kv kc0 kc1 i7) (hEL : EW Z a0 [("java/lang/String", 7)]) :
    MetFree l x (head1 (Jvm.Cond.code x code maxLocals ret :: ws) room_1) (fun a U => a = #[(.int p1), (.int p2), (.int p3), (.int p4)] ∧ Z.Warmed39 U.vm ∧ U.heap = h0 ∧ CHv Z [("java/lang/String", 7)] U.vm h0) (fun _ _ _ _ _ => True) (fun _ U o U' => ∃ v L, o = .returned v ∧ own_Q0 n0 v U'.heap L ∧ ReturnedEndW U o U' L room_1.cells room_1.slots) := by
  obtain ⟨dd, hdd⟩ : ∃ dd : Int32, (dd = (1 : Int32) ∧ ¬ ((XT.ushr p1 (2 : Int32)) &&& (1 : Int32)) = (0 : Int32)) ∨ (dd = (0 : Int32) ∧ ((XT.ushr p1 (2 : Int32)) &&& (1 : Int32)) = (0 : Int32)) := by
    by_cases q : ((XT.ushr p1 (2 : Int32)) &&& (1 : Int32)) = (0 : Int32)
    · exact ⟨0, Or.inr ⟨rfl, q⟩⟩
    · exact ⟨1, Or.inl ⟨rfl, q⟩⟩
  obtain ⟨ch0, hr0⟩ := own_drx dd p2
  obtain ⟨ch1, hr1⟩ := own_drx dd p3
  obtain ⟨ch2, hr2⟩ := own_drx dd p4
  rcases own_and3 p1 with hk | hk | hk | hk
  · exact own_law_e l Z a0 hw ws p1 p2 p3 p4 dd ch0 ch1 ch2 wv w0 w1 r0 r1 s0 s1 c0 c1 we kv kc0 kc1 i7 h0 n0 Z0 P hEL hr0 hr1 hr2 hdd hk
  · exact own_law_1 l Z a0 hw ws p1 p2 p3 p4 dd ch0 ch1 ch2 wv w0 w1 r0 r1 s0 s1 c0 c1 we kv kc0 kc1 i7 h0 n0 Z0 P hEL hr0 hr1 hr2 hdd hk
  · by_cases g0 : ch0 = (52 : Int32)
    · by_cases g1 : ch1 = (52 : Int32)
      · exact own_law_2m l Z a0 hw ws p1 p2 p3 p4 dd ch0 ch1 ch2 wv w0 w1 r0 r1 s0 s1 c0 c1 we kv kc0 kc1 i7 h0 n0 Z0 P hEL hr0 hr1 hr2 hdd hk g0 g1
      · by_cases g2 : ch1 = (53 : Int32)
        · exact own_law_2p l Z a0 hw ws p1 p2 p3 p4 dd ch0 ch1 ch2 wv w0 w1 r0 r1 s0 s1 c0 c1 we kv kc0 kc1 i7 h0 n0 Z0 P hEL hr0 hr1 hr2 hdd hk g0 g1 g2
        · exact own_law_2n l Z a0 hw ws p1 p2 p3 p4 dd ch0 ch1 ch2 wv w0 w1 r0 r1 s0 s1 c0 c1 we kv kc0 kc1 i7 h0 n0 Z0 P hEL hr0 hr1 hr2 hdd hk g0 g1 g2
    · exact own_law_2a l Z a0 hw ws p1 p2 p3 p4 dd ch0 ch1 ch2 wv w0 w1 r0 r1 s0 s1 c0 c1 we kv kc0 kc1 i7 h0 n0 Z0 P hEL hr0 hr1 hr2 hdd hk g0
  · exact own_law_3 l Z a0 hw ws p1 p2 p3 p4 dd ch0 ch1 ch2 wv w0 w1 r0 r1 s0 s1 c0 c1 we kv kc0 kc1 i7 h0 n0 Z0 P hEL hr0 hr1 hr2 hdd hk
set_option maxRecDepth 65536 in
set_option maxHeartbeats 40000000 in
theorem comes_1 {Post : Tables → Env → Array Value → State → Outcome → State → Prop} (hpost : ∀ tb e args s v u, (limb_1_1.after args s (.returned v) u = true ∧ limb_1_2.after args s (.returned v) u = true ∧ True) → ReturnedEndW s (.returned v) u (Jvm.fieldLocs frame_1_writes args s ++ Jvm.arrayLocs frame_1_arrays args s ++ Jvm.staticLocs frame_1_statics s) 24 1152 → Post tb e args s (.returned v) u) :
    ArmFor flags0 classFile x code maxLocals ret World_1 tables_1 room_1 Calls_1 rest_1 Pre_1 Post := by
  intro l hfl _ _ p e ha hc hk s m args below hf hA hF happ hP
  obtain ⟨hcalls, hrest, hpre⟩ := hP
  obtain ⟨-, -, -, hnamed, -, -, -, hat⟩ := (Spec.applies_iff hf).mp happ
  obtain ⟨hg, hn⟩ := and_e (Cond.before_iff.mp (show (Jvm.Cond.and given_1 narrow_1).before args s = true from hpre))
  obtain ⟨gg, gr⟩ := and_e hg
  obtain ⟨a0, a1, a2, a3, rfl⟩ : ∃ a0 a1 a2 a3 : Value, args = #[a0, a1, a2, a3] := by
    have hs : args.size = 4 := by simpa [Cond.value, given_1] using gg
    obtain ⟨L⟩ := args
    match L, hs with
    | [a0, a1, a2, a3], _ => exact ⟨a0, a1, a2, a3, rfl⟩
  have hw := fun d (hd : d ∈ tables_1) => atoms_spec (ws := Jvm.Cond.code x code maxLocals ret :: tables_1) hat d (List.mem_cons_of_mem _ hd)
  have hfit : Fit s := fun {y c} hc i hi => by
    obtain ⟨ha, rfl⟩ := Array.getElem?_eq_some_iff.mp hc
    have q := List.all_eq_true.mp ((Array.all_eq_true_iff_forall_mem.mp hF) _ (Array.getElem_mem ha)) i (List.mem_range.mpr hi)
    simpa [Array.getElem?_eq_getElem hi] using q
  obtain ⟨gi0, gr0⟩ := and_e gr
  obtain ⟨i0, ei0⟩ := is_v gi0
  obtain rfl : a0 = (.int i0) := Option.some.inj ei0
  obtain ⟨gi1, gr1⟩ := and_e gr0
  obtain ⟨i1, ei1⟩ := is_v gi1
  obtain rfl : a1 = (.int i1) := Option.some.inj ei1
  obtain ⟨gi2, gr2⟩ := and_e gr1
  obtain ⟨i2, ei2⟩ := is_v gi2
  obtain rfl : a2 = (.int i2) := Option.some.inj ei2
  obtain ⟨i3, ei3⟩ := is_v gr2
  obtain rfl : a3 = (.int i3) := Option.some.inj ei3
  obtain ⟨n0, m0⟩ := and_e hn
  obtain ⟨n1, m1⟩ := and_e m0
  obtain ⟨n2, m2⟩ := and_e m1
  obtain ⟨n3, m3⟩ := and_e m2
  obtain ⟨n4, m4⟩ := and_e m3
  obtain ⟨n5, m5⟩ := and_e m4
  obtain ⟨n6, m6⟩ := and_e m5
  obtain ⟨n7, m7⟩ := and_e m6
  obtain ⟨n8, m8⟩ := and_e m7
  obtain ⟨n9, m9⟩ := and_e m8
  obtain ⟨n10, m10⟩ := and_e m9
  obtain ⟨n11, m11⟩ := and_e m10
  obtain ⟨n12, m12⟩ := and_e m11
  obtain ⟨n13, m13⟩ := and_e m12
  obtain ⟨n14, m14⟩ := and_e m13
  obtain ⟨n15, m15⟩ := and_e m14
  obtain ⟨n16, m16⟩ := and_e m15
  obtain ⟨n17, m17⟩ := and_e m16
  obtain ⟨n18, m18⟩ := and_e m17
  obtain ⟨n19, m19⟩ := and_e m18
  obtain ⟨n20, m20⟩ := and_e m19
  obtain ⟨n21, m21⟩ := and_e m20
  have n22 := m21
  obtain ⟨hsets, hown0⟩ := atoms_of _ (rest_1_c_eq ▸ (show rest_1_c.before _ s = true from hrest))
  have x3 := not_v (Cond.before_iff.mp (hsets _ (List.mem_of_getElem? (i := 2) rfl)))
  obtain ⟨i7, e6⟩ := is_v (Cond.before_iff.mp (hsets _ (List.mem_of_getElem? (i := 1) rfl)))
  have S8 : Sta s s.heap "java/lang/String" "COMPACT_STRINGS" "Z" (.int i7) := Sta.start e6 (Or.inl (hsets _ (List.mem_of_getElem? (i := 0) rfl)))
  have c9 : ¬ (i7 = (0 : Int32)) := gotF (Cond.eq_ints e6 (Term.int_eval (0))) x3
  obtain ⟨we, ve⟩ := exa_v (Cond.before_iff.mp (hsets _ (List.mem_of_getElem? (i := 11) rfl)))
  have Ee := Exa.start ve (Cond.before_iff.mp (hsets _ (List.mem_of_getElem? (i := 11) rfl)))
  have Pe := Sta.start ve (Or.inl (hsets _ (List.mem_of_getElem? (i := 10) rfl)))
  have Fe := Fld.start ((fld_at ve).symm.trans (null_v (Cond.before_iff.mp (hsets _ (List.mem_of_getElem? (i := 12) rfl)))))
  obtain ⟨wv, vv⟩ := exa_v n1
  have Ev := Exa.start vv n1
  have Pv := Sta.start vv (Or.inr ⟨(hw _ (List.mem_of_getElem? (i := 28) rfl)), (hw _ (List.mem_of_getElem? (i := 34) rfl))⟩)
  obtain ⟨w0, v0⟩ := exa_v n3
  have Ew0 := Exa.start v0 n3
  have Pw0 := Sta.start v0 (Or.inr ⟨(hw _ (List.mem_of_getElem? (i := 28) rfl)), (hw _ (List.mem_of_getElem? (i := 42) rfl))⟩)
  obtain ⟨w1, v1⟩ := exa_v n5
  have Ew1 := Exa.start v1 n5
  have Pw1 := Sta.start v1 (Or.inr ⟨(hw _ (List.mem_of_getElem? (i := 28) rfl)), (hw _ (List.mem_of_getElem? (i := 43) rfl))⟩)
  obtain ⟨kv, Av⟩ := own_arr2 (dv := .null) hfit vv n0 n2 (own_eqR v0 n4) (own_eqR v1 n6)
  obtain ⟨r0, vr0⟩ := exa_v n7
  have Er0 := Exa.start vr0 n7
  have Fr0 := Fld.start ((fld_at v0).symm.trans (own_eqR vr0 n8))
  obtain ⟨s0, vs0⟩ := exa_v n9
  have Es0 := Exa.start vs0 n9
  have Fc0 := Fld.start ((fld_at vr0).symm.trans vs0)
  have Fd0 := Fld.start ((fld_at vs0).symm.trans (own_eqI n10))
  obtain ⟨c0, vc0⟩ := arr_v n11
  have Fv0 := Fld.start ((fld_at vs0).symm.trans vc0)
  obtain ⟨kc0, Ac0⟩ := own_arr2 (dv := .int 0) hfit vc0 n11 n12 (own_eqI n19) (own_eqI n21)
  obtain ⟨r1, vr1⟩ := exa_v n13
  have Er1 := Exa.start vr1 n13
  have Fr1 := Fld.start ((fld_at v1).symm.trans (own_eqR vr1 n14))
  obtain ⟨s1, vs1⟩ := exa_v n15
  have Es1 := Exa.start vs1 n15
  have Fc1 := Fld.start ((fld_at vr1).symm.trans vs1)
  have Fd1 := Fld.start ((fld_at vs1).symm.trans (own_eqI n16))
  obtain ⟨c1, vc1⟩ := arr_v n17
  have Fv1 := Fld.start ((fld_at vs1).symm.trans vc1)
  obtain ⟨kc1, Ac1⟩ := own_arr2 (dv := .int 0) hfit vc1 n17 n18 (own_eqI n20) (own_eqI n22)
  have P : own_P s s.heap wv w0 w1 r0 r1 s0 s1 c0 c1 we kv kc0 kc1 i7 := ⟨Pv, Ev, Av, Pw0, Pw1, Ew0, Ew1, Fr0, Fr1, Er0, Er1, Fc0, Fc1, ⟨Es0, Fv0, Fd0, Ac0⟩, ⟨Es1, Fv1, Fd1, Ac1⟩, Pe, Ee, Fe, S8, c9⟩
  have hEL : EW s _ [("java/lang/String", 7)] := EW.cons (text := "") (hw _ (List.mem_of_getElem? (i := 18) rfl)) (by simp) EW.nil
  have hCH : CHv s [("java/lang/String", 7)] s.vm s.heap := CHv.start hEL (fun p hp => by
    simp only [List.mem_cons, List.not_mem_nil, or_false] at hp
    subst hp
    exact hcalls.1 _ (List.mem_of_getElem? (i := 0) rfl)) (hsets _ (List.mem_of_getElem? (i := 2) rfl)) (hw _ (List.mem_of_getElem? (i := 19) rfl)) (hw _ (List.mem_of_getElem? (i := 5) rfl))
  obtain ⟨n, o, h1, h2, h3, _, L, rfl, ⟨rfl, N⟩, hq⟩ := own_law l s _ hw tables_1 i0 i1 i2 i3 wv w0 w1 r0 r1 s0 s1 c0 c1 we kv kc0 kc1 i7 s.heap s.heap.size (Nat.le_refl _) P hEL p e ha hc hk s m _ below hf ((Spec.applies_iff_loose hf).mp happ).1 ⟨rfl, State.Warmed39.refl s, rfl, hCH⟩ trivial
  refine ⟨n, _, h1, h2, h3, hpost _ _ _ _ _ _ ⟨Cond.after_iff.mpr rfl, Cond.after_iff.mpr (eq_i res_at (Term.int_eval (1)) rfl), trivial⟩ ⟨hq.1, hq.2.1, hq.2.2.1, (hq.2.2.2.sift fun y hy => Or.inr (N y hy)).mono (by decide) (by decide)⟩⟩
theorem main_1_1 : Claimed_1_1 := comes_1 fun _ _ _ _ _ _ h hF => ⟨h.1, hF⟩
theorem main_1_2 : Claimed_1_2 := comes_1 fun _ _ _ _ _ _ h hF => ⟨h.2.1, hF⟩
end Jvm.Pilot.@@N@@
namespace Jvm.Pilot.@@N@@
open Jvm Jvm.ClassFile Sem Op Lib Jvm.Free Jvm.Stand Jvm.Pilot.@@N@@.Jvm.D
/-! MADE BY PROGRAM (witnessworld.py) out of the Statement's table words and the real class files: 25 classes; the members and pool entries that the words name. The judged class is class 1, her method 2. -/
namespace start1
open Jvm.ClassFile
def u (s : String) : CpInfo := .utf8 (stringToUtf16 s)
/-- a pool by its gaps: so many unusable entries, then the entry; so many at the end -/
def gap : Nat → List CpInfo → List CpInfo
  | 0, r => r
  | n + 1, r => .unusable :: gap n r
def poolList (es : List (Nat × CpInfo)) (last : Nat) : List CpInfo := es.foldr (fun e r => gap e.1 (e.2 :: r)) (gap last [])
def pool (es : List (Nat × CpInfo)) (last : Nat) : Array CpInfo := ⟨poolList es last⟩
def fileOf (pool : Array CpInfo) (this : Nat) (attrs : Array Attribute := #[]) (ms : Array MethodInfo := #[]) (fl : Nat := 33) (sup : Nat := 0) (ifs : Array Nat := #[]) (fds : Array FieldInfo := #[]) : ClassFile where
  minorVersion := 0
  majorVersion := 65
  constantPool := pool
  accessFlags := fl
  thisClass := this
  superClass := sup
  interfaces := ifs
  fields := fds
  methods := ms
  attributes := attrs
def plain (name : String) (sup : Option ClassId) : Class where
  name := name
  kind := .ordinary
  loader := none
  accessFlags := 33
  super := sup
  interfaces := #[]
  cf := none
  fields := #[]
  methods := #[]
  instanceTypes := #[]
  staticTypes := #[]
  resolved := #[]
  callSites := []
  init := .initialized
  statics := none
  mirror := none

def pool0 : Array CpInfo := pool [(5, u "<init>"), (0, u "()V"), (1, .class_ 10), (1, u "java/lang/Object"), (85, u "clone"), (0, u "()Ljava/lang/Object;")] 26

def k0c0 : Code := { maxStack := 0, maxLocals := 1, code := object_method_1_code, exceptionTable := #[], attributes := #[] }
def k0m0 : Method := { name := "<init>", desc := "()V", sig := { parameters := [], returnType := none }, accessFlags := 1, code := some k0c0 }
def k0m1 : Method := { name := "clone", desc := "()Ljava/lang/Object;", sig := { parameters := [], returnType := some (.object "java/lang/Object") }, accessFlags := 260, code := none }
/-- java/lang/Object -/
def k0 : Class := { plain "java/lang/Object" none with
  accessFlags := 33
  interfaces := #[]
  cf := some (fileOf pool0 8 #[] #[{ accessFlags := 1, nameIndex := 5, descriptorIndex := 6, attributes := #[] }, { accessFlags := 260, nameIndex := 96, descriptorIndex := 97, attributes := #[] }] 33 0 #[] #[])
  fields := #[]
  methods := #[k0m0, k0m1]
  instanceTypes := #[]
  staticTypes := #[]
  resolved := Array.replicate 124 none
  statics := none }

def pool1 : Array CpInfo := pool [(2, .class_ 4), (1, u "java/lang/Object"), (0, u "<init>"), (0, u "()V"), (0, .methodref 8 9), (0, .class_ 10), (0, .nameAndType 11 12), (0, u "com/example/recourse/recourse/WriteOffActorRecordedAsPinLaw"), (0, u "draw"), (0, u "(ZI)C"), (0, .class_ 14), (0, u "java/lang/String"), (0, .methodref 13 16), (0, .nameAndType 5 17), (0, u "([C)V"), (0, .methodref 19 20), (0, .class_ 21), (0, .nameAndType 22 23), (0, u "com/example/recourse/recourse/WriteOffActor"), (0, u "recordedAs"), (0, u "(Ljava/lang/String;)Ljava/util/Optional;"), (0, .methodref 25 26), (0, .class_ 27), (0, .nameAndType 28 29), (0, u "java/util/Optional"), (0, u "isPresent"), (0, u "()Z"), (0, .fieldref 19 31), (0, .nameAndType 32 33), (0, u "ISSUER"), (0, u "Lcom/example/recourse/recourse/WriteOffActor;"), (0, .fieldref 19 35), (0, .nameAndType 36 33), (0, u "PROGRAM"), (0, .methodref 25 38), (0, .nameAndType 39 40), (0, u "get"), (0, u "()Ljava/lang/Object;"), (3, u "law"), (0, u "(IIII)Z")] 2

def k1m0 : Method := { name := "<init>", desc := "()V", sig := { parameters := [], returnType := none }, accessFlags := 2, code := none }
def k1c1 : Code := { maxStack := 3, maxLocals := 2, code := method_2_code, exceptionTable := #[], attributes := #[] }
def k1m1 : Method := { name := "draw", desc := "(ZI)C", sig := { parameters := [.boolean, .int], returnType := some .char }, accessFlags := 10, code := some k1c1 }
def k1c2 : Code := { maxStack := 6, maxLocals := 13, code := code, exceptionTable := #[], attributes := #[] }
def k1m2 : Method := { name := "law", desc := "(IIII)Z", sig := { parameters := [.int, .int, .int, .int], returnType := some .boolean }, accessFlags := 9, code := some k1c2 }
/-- com/example/recourse/recourse/WriteOffActorRecordedAsPinLaw -/
def k1 : Class := { plain "com/example/recourse/recourse/WriteOffActorRecordedAsPinLaw" (some 0) with
  accessFlags := 49
  interfaces := #[]
  cf := some (fileOf pool1 8 #[] #[{ accessFlags := 2, nameIndex := 5, descriptorIndex := 6, attributes := #[] }, { accessFlags := 10, nameIndex := 11, descriptorIndex := 12, attributes := #[] }, { accessFlags := 9, nameIndex := 44, descriptorIndex := 45, attributes := #[] }] 49 2 #[] #[])
  fields := #[]
  methods := #[k1m0, k1m1, k1m2]
  instanceTypes := #[]
  staticTypes := #[]
  resolved := Array.replicate 48 none
  statics := none }

def pool2 : Array CpInfo := pool [(1, .class_ 2), (0, u "java/io/Serializable"), (0, .class_ 4), (0, u "java/lang/Object")] 2

/-- java/io/Serializable -/
def k2 : Class := { plain "java/io/Serializable" (some 0) with
  accessFlags := 1537
  interfaces := #[]
  cf := some (fileOf pool2 1 #[] #[] 1537 3 #[] #[])
  fields := #[]
  methods := #[]
  instanceTypes := #[]
  staticTypes := #[]
  resolved := Array.replicate 7 none
  statics := none }

def pool3 : Array CpInfo := pool [(1, .class_ 2), (0, u "java/lang/Comparable"), (0, .class_ 4), (0, u "java/lang/Object")] 7

/-- java/lang/Comparable -/
def k3 : Class := { plain "java/lang/Comparable" (some 0) with
  accessFlags := 1537
  interfaces := #[]
  cf := some (fileOf pool3 1 #[] #[] 1537 3 #[] #[])
  fields := #[]
  methods := #[]
  instanceTypes := #[]
  staticTypes := #[]
  resolved := Array.replicate 12 none
  statics := none }

def pool4 : Array CpInfo := pool [(2, .class_ 4), (1, u "java/lang/CharSequence"), (42, .class_ 48), (0, u "java/lang/CharSequence$1CodePointIterator"), (10, .class_ 60), (0, u "java/lang/CharSequence$1CharIterator"), (5, .class_ 67), (0, u "java/lang/Object")] 63

/-- java/lang/CharSequence -/
def k4 : Class := { plain "java/lang/CharSequence" (some 0) with
  accessFlags := 1537
  interfaces := #[]
  cf := some (fileOf pool4 2 #[.nestMembers #[47, 59]] #[] 1537 66 #[] #[])
  fields := #[]
  methods := #[]
  instanceTypes := #[]
  staticTypes := #[]
  resolved := Array.replicate 131 none
  statics := none }

def pool5 : Array CpInfo := pool [(1, .class_ 2), (0, u "java/lang/constant/Constable"), (0, .class_ 4), (0, u "java/lang/Object")] 6

/-- java/lang/constant/Constable -/
def k5 : Class := { plain "java/lang/constant/Constable" (some 0) with
  accessFlags := 1537
  interfaces := #[]
  cf := some (fileOf pool5 1 #[] #[] 1537 3 #[] #[])
  fields := #[]
  methods := #[]
  instanceTypes := #[]
  staticTypes := #[]
  resolved := Array.replicate 11 none
  statics := none }

def pool6 : Array CpInfo := pool [(1, .class_ 2), (0, u "java/lang/constant/ConstantDesc"), (0, .class_ 4), (0, u "java/lang/Object")] 32

/-- java/lang/constant/ConstantDesc -/
def k6 : Class := { plain "java/lang/constant/ConstantDesc" (some 0) with
  accessFlags := 1537
  interfaces := #[]
  cf := some (fileOf pool6 1 #[] #[] 1537 3 #[] #[])
  fields := #[]
  methods := #[]
  instanceTypes := #[]
  staticTypes := #[]
  resolved := Array.replicate 37 none
  statics := none }

def pool7 : Array CpInfo := pool [(1, .methodref 2 3), (0, .class_ 4), (0, .nameAndType 5 6), (0, u "java/lang/Object"), (0, u "<init>"), (0, u "()V"), (0, .string 8), (0, u ""), (0, .fieldref 10 11), (0, .class_ 12), (0, .nameAndType 13 14), (0, u "java/lang/String"), (0, u "value"), (0, u "[B"), (0, .fieldref 10 16), (0, .nameAndType 17 18), (0, u "coder"), (0, u "B"), (2, u "hash"), (0, u "I"), (2, u "hashIsZero"), (0, u "Z"), (0, .methodref 10 28), (0, .nameAndType 5 29), (0, u "([CIILjava/lang/Void;)V"), (8, .fieldref 10 39), (0, .nameAndType 40 26), (0, u "COMPACT_STRINGS"), (1, .class_ 44), (1, u "java/lang/StringUTF16"), (0, u "compress"), (1, .methodref 42 48), (0, .nameAndType 49 50), (0, u "coderFromArrayLen"), (0, u "([BI)B"), (56, .class_ 109), (1, u "java/lang/StringLatin1"), (67, .methodref 42 178), (0, .nameAndType 45 179), (0, u "([CII)[B"), (361, .methodref 107 542), (0, .nameAndType 543 544), (0, u "equals"), (0, u "([B[B)Z"), (28, u "(Ljava/lang/Object;)Z"), (1, .class_ 576), (0, u "java/lang/CharSequence"), (22, u "CASE_INSENSITIVE_ORDER"), (0, u "Ljava/util/Comparator;"), (409, u "([C)V"), (90, u "serialPersistentFields"), (0, u "[Ljava/io/ObjectStreamField;"), (0, .class_ 1104), (0, u "java/lang/String$CaseInsensitiveComparator"), (1, .class_ 1107), (0, u "java/io/Serializable"), (0, .class_ 1109), (0, u "java/lang/Comparable"), (0, .class_ 1111), (0, u "java/lang/constant/Constable"), (0, .class_ 1113), (0, u "java/lang/constant/ConstantDesc"), (2, u "serialVersionUID"), (0, u "J"), (3, u "REPL"), (0, u "C"), (2, u "LATIN1"), (1, u "UTF16")] 323

def k7m0 : Method := { name := "<init>", desc := "()V", sig := { parameters := [], returnType := none }, accessFlags := 1, code := none }
def k7c1 : Code := { maxStack := 5, maxLocals := 2, code := jdk_42_method_3_code, exceptionTable := #[], attributes := #[] }
def k7m1 : Method := { name := "<init>", desc := "([C)V", sig := { parameters := [(.array .char)], returnType := none }, accessFlags := 1, code := some k7c1 }
def k7c2 : Code := { maxStack := 2, maxLocals := 3, code := jdk_42_method_66_code, exceptionTable := #[], attributes := #[] }
def k7m2 : Method := { name := "equals", desc := "(Ljava/lang/Object;)Z", sig := { parameters := [(.object "java/lang/Object")], returnType := some .boolean }, accessFlags := 1, code := some k7c2 }
def k7c3 : Code := { maxStack := 4, maxLocals := 6, code := jdk_42_method_149_code, exceptionTable := #[], attributes := #[] }
def k7m3 : Method := { name := "<init>", desc := "([CIILjava/lang/Void;)V", sig := { parameters := [(.array .char), .int, .int, (.object "java/lang/Void")], returnType := none }, accessFlags := 2, code := some k7c3 }
/-- java/lang/String -/
def k7 : Class := { plain "java/lang/String" (some 0) with
  accessFlags := 49
  interfaces := #[2, 3, 4, 5, 6]
  cf := some (fileOf pool7 10 #[.nestMembers #[1103]] #[{ accessFlags := 1, nameIndex := 5, descriptorIndex := 6, attributes := #[] }, { accessFlags := 1, nameIndex := 5, descriptorIndex := 1010, attributes := #[] }, { accessFlags := 1, nameIndex := 543, descriptorIndex := 573, attributes := #[] }, { accessFlags := 2, nameIndex := 5, descriptorIndex := 29, attributes := #[] }] 49 2 #[1106, 1108, 575, 1110, 1112] #[{ accessFlags := 18, nameIndex := 13, descriptorIndex := 14, attributes := #[] }, { accessFlags := 18, nameIndex := 17, descriptorIndex := 18, attributes := #[] }, { accessFlags := 2, nameIndex := 21, descriptorIndex := 22, attributes := #[] }, { accessFlags := 2, nameIndex := 25, descriptorIndex := 26, attributes := #[] }, { accessFlags := 26, nameIndex := 1116, descriptorIndex := 1117, attributes := #[] }, { accessFlags := 24, nameIndex := 40, descriptorIndex := 26, attributes := #[] }, { accessFlags := 26, nameIndex := 1101, descriptorIndex := 1102, attributes := #[] }, { accessFlags := 26, nameIndex := 1121, descriptorIndex := 1122, attributes := #[] }, { accessFlags := 25, nameIndex := 599, descriptorIndex := 600, attributes := #[] }, { accessFlags := 24, nameIndex := 1125, descriptorIndex := 18, attributes := #[] }, { accessFlags := 24, nameIndex := 1127, descriptorIndex := 18, attributes := #[] }])
  fields := #[{ name := "value", type := (.array .byte), accessFlags := 18, slot := 0, constantValue := 0 }, { name := "coder", type := .byte, accessFlags := 18, slot := 1, constantValue := 0 }, { name := "hash", type := .int, accessFlags := 2, slot := 2, constantValue := 0 }, { name := "hashIsZero", type := .boolean, accessFlags := 2, slot := 3, constantValue := 0 }, { name := "serialVersionUID", type := .long, accessFlags := 26, slot := 0, constantValue := 0 }, { name := "COMPACT_STRINGS", type := .boolean, accessFlags := 24, slot := 1, constantValue := 0 }, { name := "serialPersistentFields", type := (.array (.object "java/io/ObjectStreamField")), accessFlags := 26, slot := 2, constantValue := 0 }, { name := "REPL", type := .char, accessFlags := 26, slot := 3, constantValue := 0 }, { name := "CASE_INSENSITIVE_ORDER", type := (.object "java/util/Comparator"), accessFlags := 25, slot := 4, constantValue := 0 }, { name := "LATIN1", type := .byte, accessFlags := 24, slot := 5, constantValue := 0 }, { name := "UTF16", type := .byte, accessFlags := 24, slot := 6, constantValue := 0 }]
  methods := #[k7m0, k7m1, k7m2, k7m3]
  instanceTypes := #[(.array .byte), .byte, .int, .boolean]
  staticTypes := #[.long, .boolean, (.array (.object "java/io/ObjectStreamField")), .char, (.object "java/util/Comparator"), .byte, .byte]
  resolved := Array.replicate 1451 none
  statics := some 0 }

def pool8 : Array CpInfo := pool [(2, .class_ 4), (1, u "java/lang/Enum"), (0, u "name"), (0, u "Ljava/lang/String;"), (2, u "ordinal"), (0, u "I"), (1, .class_ 14), (1, u "java/lang/Object"), (4, u "hash"), (86, .class_ 108), (1, u "java/lang/Enum$EnumDesc"), (2, .class_ 112), (0, u "java/lang/constant/Constable"), (0, .class_ 114), (0, u "java/lang/Comparable"), (0, .class_ 116), (0, u "java/io/Serializable")] 87

/-- java/lang/Enum -/
def k8 : Class := { plain "java/lang/Enum" (some 0) with
  accessFlags := 1057
  interfaces := #[5, 3, 2]
  cf := some (fileOf pool8 2 #[.nestMembers #[106]] #[] 1057 12 #[111, 113, 115] #[{ accessFlags := 18, nameIndex := 5, descriptorIndex := 6, attributes := #[] }, { accessFlags := 18, nameIndex := 9, descriptorIndex := 10, attributes := #[] }, { accessFlags := 2, nameIndex := 19, descriptorIndex := 10, attributes := #[] }])
  fields := #[{ name := "name", type := (.object "java/lang/String"), accessFlags := 18, slot := 0, constantValue := 0 }, { name := "ordinal", type := .int, accessFlags := 18, slot := 1, constantValue := 0 }, { name := "hash", type := .int, accessFlags := 2, slot := 2, constantValue := 0 }]
  methods := #[]
  instanceTypes := #[(.object "java/lang/String"), .int, .int]
  staticTypes := #[]
  resolved := Array.replicate 204 none
  statics := none }

def pool9 : Array CpInfo := pool [(1, .class_ 2), (0, u "com/example/recourse/recourse/WriteOffActor"), (2, u "ISSUER"), (0, u "Lcom/example/recourse/recourse/WriteOffActor;"), (2, u "PROGRAM"), (0, .fieldref 1 11), (0, .nameAndType 12 13), (0, u "$VALUES"), (0, u "[Lcom/example/recourse/recourse/WriteOffActor;"), (0, .methodref 15 16), (0, .class_ 13), (0, .nameAndType 17 18), (0, u "clone"), (0, u "()Ljava/lang/Object;"), (1, .class_ 22), (1, u "java/lang/Enum"), (6, .fieldref 1 30), (0, .nameAndType 31 32), (0, u "reasonCode"), (0, u "Lcom/example/recourse/recourse/ReasonCode;"), (2, u "disputeState"), (0, u "Lcom/example/recourse/recourse/NetworkDisputeState;"), (0, .methodref 1 38), (0, .nameAndType 39 40), (0, u "values"), (0, u "()[Lcom/example/recourse/recourse/WriteOffActor;"), (0, .methodref 42 43), (0, .class_ 44), (0, .nameAndType 45 46), (0, u "com/example/recourse/recourse/ReasonCode"), (0, u "code"), (0, u "()Ljava/lang/String;"), (0, .methodref 48 49), (0, .class_ 50), (0, .nameAndType 51 52), (0, u "java/lang/String"), (0, u "equals"), (0, u "(Ljava/lang/Object;)Z"), (0, .methodref 54 55), (0, .class_ 56), (0, .nameAndType 57 58), (0, u "java/util/Optional"), (0, u "of"), (0, u "(Ljava/lang/Object;)Ljava/util/Optional;"), (0, .methodref 54 60), (0, .nameAndType 61 62), (0, u "empty"), (0, u "()Ljava/util/Optional;"), (24, u "TAKEN_AT_NETWORK"), (8, u "recordedAs"), (0, u "(Ljava/lang/String;)Ljava/util/Optional;")] 7

def k9c0 : Code := { maxStack := 1, maxLocals := 0, code := prog_44_method_1_code, exceptionTable := #[], attributes := #[] }
def k9m0 : Method := { name := "values", desc := "()[Lcom/example/recourse/recourse/WriteOffActor;", sig := { parameters := [], returnType := some (.array (.object "com/example/recourse/recourse/WriteOffActor")) }, accessFlags := 9, code := some k9c0 }
def k9c1 : Code := { maxStack := 2, maxLocals := 5, code := prog_44_method_6_code, exceptionTable := #[], attributes := #[] }
def k9m1 : Method := { name := "recordedAs", desc := "(Ljava/lang/String;)Ljava/util/Optional;", sig := { parameters := [(.object "java/lang/String")], returnType := some (.object "java/util/Optional") }, accessFlags := 8, code := some k9c1 }
/-- com/example/recourse/recourse/WriteOffActor -/
def k9 : Class := { plain "com/example/recourse/recourse/WriteOffActor" (some 8) with
  accessFlags := 16432
  interfaces := #[]
  cf := some (fileOf pool9 1 #[] #[{ accessFlags := 9, nameIndex := 39, descriptorIndex := 40, attributes := #[] }, { accessFlags := 8, nameIndex := 96, descriptorIndex := 97, attributes := #[] }] 16432 20 #[] #[{ accessFlags := 16409, nameIndex := 5, descriptorIndex := 6, attributes := #[] }, { accessFlags := 16409, nameIndex := 9, descriptorIndex := 6, attributes := #[] }, { accessFlags := 24, nameIndex := 87, descriptorIndex := 6, attributes := #[] }, { accessFlags := 18, nameIndex := 31, descriptorIndex := 32, attributes := #[] }, { accessFlags := 18, nameIndex := 35, descriptorIndex := 36, attributes := #[] }, { accessFlags := 4122, nameIndex := 12, descriptorIndex := 13, attributes := #[] }])
  fields := #[{ name := "ISSUER", type := (.object "com/example/recourse/recourse/WriteOffActor"), accessFlags := 16409, slot := 0, constantValue := 0 }, { name := "PROGRAM", type := (.object "com/example/recourse/recourse/WriteOffActor"), accessFlags := 16409, slot := 1, constantValue := 0 }, { name := "TAKEN_AT_NETWORK", type := (.object "com/example/recourse/recourse/WriteOffActor"), accessFlags := 24, slot := 2, constantValue := 0 }, { name := "reasonCode", type := (.object "com/example/recourse/recourse/ReasonCode"), accessFlags := 18, slot := 3, constantValue := 0 }, { name := "disputeState", type := (.object "com/example/recourse/recourse/NetworkDisputeState"), accessFlags := 18, slot := 4, constantValue := 0 }, { name := "$VALUES", type := (.array (.object "com/example/recourse/recourse/WriteOffActor")), accessFlags := 4122, slot := 3, constantValue := 0 }]
  methods := #[k9m0, k9m1]
  instanceTypes := #[(.object "java/lang/String"), .int, .int, (.object "com/example/recourse/recourse/ReasonCode"), (.object "com/example/recourse/recourse/NetworkDisputeState")]
  staticTypes := #[(.object "com/example/recourse/recourse/WriteOffActor"), (.object "com/example/recourse/recourse/WriteOffActor"), (.object "com/example/recourse/recourse/WriteOffActor"), (.array (.object "com/example/recourse/recourse/WriteOffActor"))]
  resolved := Array.replicate 105 none
  statics := some 1 }

def pool10 : Array CpInfo := pool [(1, .class_ 2), (0, u "java/lang/Cloneable"), (0, .class_ 4), (0, u "java/lang/Object")] 2

/-- java/lang/Cloneable -/
def k10 : Class := { plain "java/lang/Cloneable" (some 0) with
  accessFlags := 1537
  interfaces := #[]
  cf := some (fileOf pool10 1 #[] #[] 1537 3 #[] #[])
  fields := #[]
  methods := #[]
  instanceTypes := #[]
  staticTypes := #[]
  resolved := Array.replicate 7 none
  statics := none }

def pool11 : Array CpInfo := pool [(1, .class_ 2), (0, u "com/example/recourse/recourse/ReasonCode"), (2, u "CREATED"), (0, u "Lcom/example/recourse/recourse/ReasonCode;"), (2, u "CREATED_NEEDING_VERIFICATION"), (2, u "REVIEWED"), (2, u "ASSIGNED"), (2, u "RE_OPENED_23"), (2, u "RE_OPENED_24"), (2, u "CHARGED_BACK_WITH_CREDIT"), (2, u "CHARGED_BACK_WITHOUT_CREDIT"), (2, u "SELECTION_REQUIRED_TO_READY"), (2, u "WITHDRAWN"), (2, u "WON"), (2, u "LOST"), (2, u "REJECTED_BY_NETWORK"), (2, u "WRITTEN_OFF_BY_ISSUER"), (2, u "WRITTEN_OFF_BY_PROGRAM"), (2, u "PROVISIONAL_CREDIT_GRANTED"), (2, u "PROVISIONAL_CREDIT_REVERTED"), (2, u "MOVE_TO_READY_FAILED"), (2, u "FRAUD_REPORTED"), (2, u "CHARGED_BACK_UNDER_REG_E"), (2, u "SUBMITTED_WITHOUT_CREDIT"), (2, u "WAITING_TO_CLOSE"), (2, u "$VALUES"), (0, u "[Lcom/example/recourse/recourse/ReasonCode;"), (6, .class_ 82), (1, u "java/lang/Enum"), (6, .fieldref 1 90), (0, .nameAndType 91 92), (0, u "code"), (0, u "Ljava/lang/String;"), (80, u "()Ljava/lang/String;")] 5

def k11c0 : Code := { maxStack := 1, maxLocals := 1, code := prog_34_method_4_code, exceptionTable := #[], attributes := #[] }
def k11m0 : Method := { name := "code", desc := "()Ljava/lang/String;", sig := { parameters := [], returnType := some (.object "java/lang/String") }, accessFlags := 0, code := some k11c0 }
/-- com/example/recourse/recourse/ReasonCode -/
def k11 : Class := { plain "com/example/recourse/recourse/ReasonCode" (some 8) with
  accessFlags := 16432
  interfaces := #[]
  cf := some (fileOf pool11 1 #[] #[{ accessFlags := 0, nameIndex := 91, descriptorIndex := 173, attributes := #[] }] 16432 80 #[] #[{ accessFlags := 16409, nameIndex := 5, descriptorIndex := 6, attributes := #[] }, { accessFlags := 16409, nameIndex := 9, descriptorIndex := 6, attributes := #[] }, { accessFlags := 16409, nameIndex := 12, descriptorIndex := 6, attributes := #[] }, { accessFlags := 16409, nameIndex := 15, descriptorIndex := 6, attributes := #[] }, { accessFlags := 16409, nameIndex := 18, descriptorIndex := 6, attributes := #[] }, { accessFlags := 16409, nameIndex := 21, descriptorIndex := 6, attributes := #[] }, { accessFlags := 16409, nameIndex := 24, descriptorIndex := 6, attributes := #[] }, { accessFlags := 16409, nameIndex := 27, descriptorIndex := 6, attributes := #[] }, { accessFlags := 16409, nameIndex := 30, descriptorIndex := 6, attributes := #[] }, { accessFlags := 16409, nameIndex := 33, descriptorIndex := 6, attributes := #[] }, { accessFlags := 16409, nameIndex := 36, descriptorIndex := 6, attributes := #[] }, { accessFlags := 16409, nameIndex := 39, descriptorIndex := 6, attributes := #[] }, { accessFlags := 16409, nameIndex := 42, descriptorIndex := 6, attributes := #[] }, { accessFlags := 16409, nameIndex := 45, descriptorIndex := 6, attributes := #[] }, { accessFlags := 16409, nameIndex := 48, descriptorIndex := 6, attributes := #[] }, { accessFlags := 16409, nameIndex := 51, descriptorIndex := 6, attributes := #[] }, { accessFlags := 16409, nameIndex := 54, descriptorIndex := 6, attributes := #[] }, { accessFlags := 16409, nameIndex := 57, descriptorIndex := 6, attributes := #[] }, { accessFlags := 16409, nameIndex := 60, descriptorIndex := 6, attributes := #[] }, { accessFlags := 16409, nameIndex := 63, descriptorIndex := 6, attributes := #[] }, { accessFlags := 16409, nameIndex := 66, descriptorIndex := 6, attributes := #[] }, { accessFlags := 16409, nameIndex := 69, descriptorIndex := 6, attributes := #[] }, { accessFlags := 18, nameIndex := 91, descriptorIndex := 92, attributes := #[] }, { accessFlags := 4122, nameIndex := 72, descriptorIndex := 73, attributes := #[] }])
  fields := #[{ name := "CREATED", type := (.object "com/example/recourse/recourse/ReasonCode"), accessFlags := 16409, slot := 0, constantValue := 0 }, { name := "CREATED_NEEDING_VERIFICATION", type := (.object "com/example/recourse/recourse/ReasonCode"), accessFlags := 16409, slot := 1, constantValue := 0 }, { name := "REVIEWED", type := (.object "com/example/recourse/recourse/ReasonCode"), accessFlags := 16409, slot := 2, constantValue := 0 }, { name := "ASSIGNED", type := (.object "com/example/recourse/recourse/ReasonCode"), accessFlags := 16409, slot := 3, constantValue := 0 }, { name := "RE_OPENED_23", type := (.object "com/example/recourse/recourse/ReasonCode"), accessFlags := 16409, slot := 4, constantValue := 0 }, { name := "RE_OPENED_24", type := (.object "com/example/recourse/recourse/ReasonCode"), accessFlags := 16409, slot := 5, constantValue := 0 }, { name := "CHARGED_BACK_WITH_CREDIT", type := (.object "com/example/recourse/recourse/ReasonCode"), accessFlags := 16409, slot := 6, constantValue := 0 }, { name := "CHARGED_BACK_WITHOUT_CREDIT", type := (.object "com/example/recourse/recourse/ReasonCode"), accessFlags := 16409, slot := 7, constantValue := 0 }, { name := "SELECTION_REQUIRED_TO_READY", type := (.object "com/example/recourse/recourse/ReasonCode"), accessFlags := 16409, slot := 8, constantValue := 0 }, { name := "WITHDRAWN", type := (.object "com/example/recourse/recourse/ReasonCode"), accessFlags := 16409, slot := 9, constantValue := 0 }, { name := "WON", type := (.object "com/example/recourse/recourse/ReasonCode"), accessFlags := 16409, slot := 10, constantValue := 0 }, { name := "LOST", type := (.object "com/example/recourse/recourse/ReasonCode"), accessFlags := 16409, slot := 11, constantValue := 0 }, { name := "REJECTED_BY_NETWORK", type := (.object "com/example/recourse/recourse/ReasonCode"), accessFlags := 16409, slot := 12, constantValue := 0 }, { name := "WRITTEN_OFF_BY_ISSUER", type := (.object "com/example/recourse/recourse/ReasonCode"), accessFlags := 16409, slot := 13, constantValue := 0 }, { name := "WRITTEN_OFF_BY_PROGRAM", type := (.object "com/example/recourse/recourse/ReasonCode"), accessFlags := 16409, slot := 14, constantValue := 0 }, { name := "PROVISIONAL_CREDIT_GRANTED", type := (.object "com/example/recourse/recourse/ReasonCode"), accessFlags := 16409, slot := 15, constantValue := 0 }, { name := "PROVISIONAL_CREDIT_REVERTED", type := (.object "com/example/recourse/recourse/ReasonCode"), accessFlags := 16409, slot := 16, constantValue := 0 }, { name := "MOVE_TO_READY_FAILED", type := (.object "com/example/recourse/recourse/ReasonCode"), accessFlags := 16409, slot := 17, constantValue := 0 }, { name := "FRAUD_REPORTED", type := (.object "com/example/recourse/recourse/ReasonCode"), accessFlags := 16409, slot := 18, constantValue := 0 }, { name := "CHARGED_BACK_UNDER_REG_E", type := (.object "com/example/recourse/recourse/ReasonCode"), accessFlags := 16409, slot := 19, constantValue := 0 }, { name := "SUBMITTED_WITHOUT_CREDIT", type := (.object "com/example/recourse/recourse/ReasonCode"), accessFlags := 16409, slot := 20, constantValue := 0 }, { name := "WAITING_TO_CLOSE", type := (.object "com/example/recourse/recourse/ReasonCode"), accessFlags := 16409, slot := 21, constantValue := 0 }, { name := "code", type := (.object "java/lang/String"), accessFlags := 18, slot := 3, constantValue := 0 }, { name := "$VALUES", type := (.array (.object "com/example/recourse/recourse/ReasonCode")), accessFlags := 4122, slot := 22, constantValue := 0 }]
  methods := #[k11m0]
  instanceTypes := #[(.object "java/lang/String"), .int, .int, (.object "java/lang/String")]
  staticTypes := #[(.object "com/example/recourse/recourse/ReasonCode"), (.object "com/example/recourse/recourse/ReasonCode"), (.object "com/example/recourse/recourse/ReasonCode"), (.object "com/example/recourse/recourse/ReasonCode"), (.object "com/example/recourse/recourse/ReasonCode"), (.object "com/example/recourse/recourse/ReasonCode"), (.object "com/example/recourse/recourse/ReasonCode"), (.object "com/example/recourse/recourse/ReasonCode"), (.object "com/example/recourse/recourse/ReasonCode"), (.object "com/example/recourse/recourse/ReasonCode"), (.object "com/example/recourse/recourse/ReasonCode"), (.object "com/example/recourse/recourse/ReasonCode"), (.object "com/example/recourse/recourse/ReasonCode"), (.object "com/example/recourse/recourse/ReasonCode"), (.object "com/example/recourse/recourse/ReasonCode"), (.object "com/example/recourse/recourse/ReasonCode"), (.object "com/example/recourse/recourse/ReasonCode"), (.object "com/example/recourse/recourse/ReasonCode"), (.object "com/example/recourse/recourse/ReasonCode"), (.object "com/example/recourse/recourse/ReasonCode"), (.object "com/example/recourse/recourse/ReasonCode"), (.object "com/example/recourse/recourse/ReasonCode"), (.array (.object "com/example/recourse/recourse/ReasonCode"))]
  resolved := Array.replicate 179 none
  statics := some 2 }

def pool12 : Array CpInfo := pool [(4, .class_ 6), (1, u "java/lang/Object"), (0, u "<init>"), (0, u "()V"), (5, .class_ 16), (1, u "java/lang/StringLatin1"), (104, u "$assertionsDisabled"), (0, u "Z"), (98, .class_ 223), (1, u "java/lang/StringLatin1$LinesSpliterator"), (57, u "equals"), (0, u "([B[B)Z"), (107, .class_ 391), (0, u "java/lang/StringLatin1$CharsSpliterator")] 3

def k12m0 : Method := { name := "<init>", desc := "()V", sig := { parameters := [], returnType := none }, accessFlags := 0, code := none }
def k12c1 : Code := { maxStack := 3, maxLocals := 3, code := jdk_43_method_13_code, exceptionTable := #[], attributes := #[] }
def k12m1 : Method := { name := "equals", desc := "([B[B)Z", sig := { parameters := [(.array .byte), (.array .byte)], returnType := some .boolean }, accessFlags := 9, code := some k12c1 }
/-- java/lang/StringLatin1 -/
def k12 : Class := { plain "java/lang/StringLatin1" (some 0) with
  accessFlags := 48
  interfaces := #[]
  cf := some (fileOf pool12 14 #[.nestMembers #[390, 221]] #[{ accessFlags := 0, nameIndex := 7, descriptorIndex := 8, attributes := #[] }, { accessFlags := 9, nameIndex := 281, descriptorIndex := 282, attributes := #[] }] 48 4 #[] #[{ accessFlags := 4120, nameIndex := 121, descriptorIndex := 122, attributes := #[] }])
  fields := #[{ name := "$assertionsDisabled", type := .boolean, accessFlags := 4120, slot := 0, constantValue := 0 }]
  methods := #[k12m0, k12m1]
  instanceTypes := #[]
  staticTypes := #[.boolean]
  resolved := Array.replicate 395 none
  statics := none }

def pool13 : Array CpInfo := pool [(1, .fieldref 2 3), (0, .class_ 4), (0, .nameAndType 5 6), (0, u "java/util/Optional"), (0, u "EMPTY"), (0, u "Ljava/util/Optional;"), (0, .methodref 8 9), (0, .class_ 10), (0, .nameAndType 11 12), (0, u "java/lang/Object"), (0, u "<init>"), (0, u "()V"), (0, .fieldref 2 14), (0, .nameAndType 15 16), (0, u "value"), (0, u "Ljava/lang/Object;"), (0, .methodref 18 19), (0, .class_ 20), (0, .nameAndType 21 22), (0, u "java/util/Objects"), (0, u "requireNonNull"), (0, u "(Ljava/lang/Object;)Ljava/lang/Object;"), (0, .methodref 2 24), (0, .nameAndType 11 25), (0, u "(Ljava/lang/Object;)V"), (20, u "()Z"), (8, u "empty"), (0, u "()Ljava/util/Optional;"), (8, u "(Ljava/lang/Object;)Ljava/util/Optional;"), (2, u "isPresent"), (4, u "get"), (0, u "()Ljava/lang/Object;"), (7, u "of")] 104

def k13c0 : Code := { maxStack := 1, maxLocals := 1, code := jdk_32_method_1_code, exceptionTable := #[], attributes := #[] }
def k13m0 : Method := { name := "empty", desc := "()Ljava/util/Optional;", sig := { parameters := [], returnType := some (.object "java/util/Optional") }, accessFlags := 9, code := some k13c0 }
def k13c1 : Code := { maxStack := 2, maxLocals := 2, code := jdk_32_method_2_code, exceptionTable := #[], attributes := #[] }
def k13m1 : Method := { name := "<init>", desc := "(Ljava/lang/Object;)V", sig := { parameters := [(.object "java/lang/Object")], returnType := none }, accessFlags := 2, code := some k13c1 }
def k13c2 : Code := { maxStack := 3, maxLocals := 1, code := jdk_32_method_3_code, exceptionTable := #[], attributes := #[] }
def k13m2 : Method := { name := "of", desc := "(Ljava/lang/Object;)Ljava/util/Optional;", sig := { parameters := [(.object "java/lang/Object")], returnType := some (.object "java/util/Optional") }, accessFlags := 9, code := some k13c2 }
def k13c3 : Code := { maxStack := 3, maxLocals := 1, code := jdk_32_method_5_code, exceptionTable := #[], attributes := #[] }
def k13m3 : Method := { name := "get", desc := "()Ljava/lang/Object;", sig := { parameters := [], returnType := some (.object "java/lang/Object") }, accessFlags := 1, code := some k13c3 }
def k13c4 : Code := { maxStack := 1, maxLocals := 1, code := jdk_32_method_6_code, exceptionTable := #[], attributes := #[] }
def k13m4 : Method := { name := "isPresent", desc := "()Z", sig := { parameters := [], returnType := some .boolean }, accessFlags := 1, code := some k13c4 }
/-- java/util/Optional -/
def k13 : Class := { plain "java/util/Optional" (some 0) with
  accessFlags := 49
  interfaces := #[]
  cf := some (fileOf pool13 2 #[] #[{ accessFlags := 9, nameIndex := 55, descriptorIndex := 56, attributes := #[] }, { accessFlags := 2, nameIndex := 11, descriptorIndex := 25, attributes := #[] }, { accessFlags := 9, nameIndex := 82, descriptorIndex := 65, attributes := #[] }, { accessFlags := 1, nameIndex := 73, descriptorIndex := 74, attributes := #[] }, { accessFlags := 1, nameIndex := 68, descriptorIndex := 46, attributes := #[] }] 49 8 #[] #[{ accessFlags := 26, nameIndex := 5, descriptorIndex := 6, attributes := #[] }, { accessFlags := 18, nameIndex := 15, descriptorIndex := 16, attributes := #[] }])
  fields := #[{ name := "EMPTY", type := (.object "java/util/Optional"), accessFlags := 26, slot := 0, constantValue := 0 }, { name := "value", type := (.object "java/lang/Object"), accessFlags := 18, slot := 0, constantValue := 0 }]
  methods := #[k13m0, k13m1, k13m2, k13m3, k13m4]
  instanceTypes := #[(.object "java/lang/Object")]
  staticTypes := #[(.object "java/util/Optional")]
  resolved := Array.replicate 187 none
  statics := some 3 }

def pool14 : Array CpInfo := pool [(6, .class_ 8), (1, u "java/lang/Object"), (0, u "<init>"), (0, u "()V"), (1, .class_ 14), (1, u "java/lang/StringUTF16"), (31, u "$assertionsDisabled"), (0, u "Z"), (13, u "HI_BYTE_SHIFT"), (0, u "I"), (2, u "LO_BYTE_SHIFT"), (49, .methodref 12 116), (0, .nameAndType 117 118), (0, u "compress"), (0, u "([CI[BII)I"), (3, u "([CII)[B"), (138, u "coderFromArrayLen"), (0, u "([BI)B"), (106, .class_ 371), (1, u "java/lang/StringUTF16$LinesSpliterator"), (58, u "MAX_LENGTH"), (196, .class_ 628), (0, u "java/lang/StringUTF16$CodePointsSpliterator"), (0, .class_ 630), (0, u "java/lang/StringUTF16$CharsSpliterator")] 4

def k14m0 : Method := { name := "<init>", desc := "()V", sig := { parameters := [], returnType := none }, accessFlags := 0, code := none }
def k14c1 : Code := { maxStack := 2, maxLocals := 2, code := jdk_52_method_15_code, exceptionTable := #[], attributes := #[] }
def k14m1 : Method := { name := "coderFromArrayLen", desc := "([BI)B", sig := { parameters := [(.array .byte), .int], returnType := some .byte }, accessFlags := 8, code := some k14c1 }
def k14c2 : Code := { maxStack := 5, maxLocals := 6, code := jdk_52_method_16_code, exceptionTable := #[], attributes := #[] }
def k14m2 : Method := { name := "compress", desc := "([CII)[B", sig := { parameters := [(.array .char), .int, .int], returnType := some (.array .byte) }, accessFlags := 9, code := some k14c2 }
def k14c3 : Code := { maxStack := 3, maxLocals := 7, code := jdk_52_method_21_code, exceptionTable := #[], attributes := #[] }
def k14m3 : Method := { name := "compress", desc := "([CI[BII)I", sig := { parameters := [(.array .char), .int, (.array .byte), .int, .int], returnType := some .int }, accessFlags := 9, code := some k14c3 }
/-- java/lang/StringUTF16 -/
def k14 : Class := { plain "java/lang/StringUTF16" (some 0) with
  accessFlags := 48
  interfaces := #[]
  cf := some (fileOf pool14 12 #[.nestMembers #[627, 629, 369]] #[{ accessFlags := 0, nameIndex := 9, descriptorIndex := 10, attributes := #[] }, { accessFlags := 8, nameIndex := 261, descriptorIndex := 262, attributes := #[] }, { accessFlags := 9, nameIndex := 117, descriptorIndex := 122, attributes := #[] }, { accessFlags := 9, nameIndex := 117, descriptorIndex := 118, attributes := #[] }] 48 6 #[] #[{ accessFlags := 26, nameIndex := 61, descriptorIndex := 62, attributes := #[] }, { accessFlags := 26, nameIndex := 65, descriptorIndex := 62, attributes := #[] }, { accessFlags := 24, nameIndex := 430, descriptorIndex := 62, attributes := #[] }, { accessFlags := 4120, nameIndex := 46, descriptorIndex := 47, attributes := #[] }])
  fields := #[{ name := "HI_BYTE_SHIFT", type := .int, accessFlags := 26, slot := 0, constantValue := 0 }, { name := "LO_BYTE_SHIFT", type := .int, accessFlags := 26, slot := 1, constantValue := 0 }, { name := "MAX_LENGTH", type := .int, accessFlags := 24, slot := 2, constantValue := 0 }, { name := "$assertionsDisabled", type := .boolean, accessFlags := 4120, slot := 3, constantValue := 0 }]
  methods := #[k14m0, k14m1, k14m2, k14m3]
  instanceTypes := #[]
  staticTypes := #[.int, .int, .int, .boolean]
  resolved := Array.replicate 635 none
  statics := none }

def pool15 : Array CpInfo := pool [(2, .class_ 4), (1, u "java/lang/Object"), (0, u "<init>"), (0, u "()V"), (35, .class_ 44), (1, u "java/util/Objects"), (0, u "requireNonNull"), (0, u "(Ljava/lang/Object;)Ljava/lang/Object;")] 137

def k15m0 : Method := { name := "<init>", desc := "()V", sig := { parameters := [], returnType := none }, accessFlags := 2, code := none }
def k15c1 : Code := { maxStack := 2, maxLocals := 1, code := jdk_31_method_10_code, exceptionTable := #[], attributes := #[] }
def k15m1 : Method := { name := "requireNonNull", desc := "(Ljava/lang/Object;)Ljava/lang/Object;", sig := { parameters := [(.object "java/lang/Object")], returnType := some (.object "java/lang/Object") }, accessFlags := 9, code := some k15c1 }
/-- java/util/Objects -/
def k15 : Class := { plain "java/util/Objects" (some 0) with
  accessFlags := 49
  interfaces := #[]
  cf := some (fileOf pool15 42 #[] #[{ accessFlags := 2, nameIndex := 5, descriptorIndex := 6, attributes := #[] }, { accessFlags := 9, nameIndex := 45, descriptorIndex := 46, attributes := #[] }] 49 2 #[] #[])
  fields := #[]
  methods := #[k15m0, k15m1]
  instanceTypes := #[]
  staticTypes := #[]
  resolved := Array.replicate 184 none
  statics := none }

def pool16 : Array CpInfo := pool [(2, .class_ 4), (1, u "java/lang/Object"), (0, u "<init>"), (0, u "()V"), (17, .class_ 26), (1, u "jdk/internal/util/Preconditions"), (28, .class_ 56), (0, u "jdk/internal/util/Preconditions$4"), (57, .class_ 115), (0, u "jdk/internal/util/Preconditions$1"), (7, u "SIOOBE_FORMATTER"), (0, u "Ljava/util/function/BiFunction;"), (0, .class_ 126), (0, u "jdk/internal/util/Preconditions$2"), (3, u "AIOOBE_FORMATTER"), (0, .class_ 132), (0, u "jdk/internal/util/Preconditions$3"), (3, u "IOOBE_FORMATTER")] 57

def k16m0 : Method := { name := "<init>", desc := "()V", sig := { parameters := [], returnType := none }, accessFlags := 1, code := none }
/-- jdk/internal/util/Preconditions -/
def k16 : Class := { plain "jdk/internal/util/Preconditions" (some 0) with
  accessFlags := 33
  interfaces := #[]
  cf := some (fileOf pool16 24 #[.nestMembers #[55, 131, 125, 114]] #[{ accessFlags := 1, nameIndex := 5, descriptorIndex := 6, attributes := #[] }] 33 2 #[] #[{ accessFlags := 25, nameIndex := 123, descriptorIndex := 124, attributes := #[] }, { accessFlags := 25, nameIndex := 130, descriptorIndex := 124, attributes := #[] }, { accessFlags := 25, nameIndex := 136, descriptorIndex := 124, attributes := #[] }])
  fields := #[{ name := "SIOOBE_FORMATTER", type := (.object "java/util/function/BiFunction"), accessFlags := 25, slot := 0, constantValue := 0 }, { name := "AIOOBE_FORMATTER", type := (.object "java/util/function/BiFunction"), accessFlags := 25, slot := 1, constantValue := 0 }, { name := "IOOBE_FORMATTER", type := (.object "java/util/function/BiFunction"), accessFlags := 25, slot := 2, constantValue := 0 }]
  methods := #[k16m0]
  instanceTypes := #[]
  staticTypes := #[(.object "java/util/function/BiFunction"), (.object "java/util/function/BiFunction"), (.object "java/util/function/BiFunction")]
  resolved := Array.replicate 194 none
  statics := some 4 }

def pool17 : Array CpInfo := pool [(9, u "<init>"), (6, .class_ 18), (1, u "java/lang/Object"), (0, u "()V"), (1, .class_ 23), (1, u "jdk/internal/util/ArraysSupport"), (0, u "LOG2_ARRAY_LONG_INDEX_SCALE"), (0, u "I"), (2, u "U"), (0, u "Ljdk/internal/misc/Unsafe;"), (8, u "BIG_ENDIAN"), (0, u "Z"), (8, u "LOG2_BYTE_BIT_SIZE"), (4, u "LOG2_ARRAY_INT_INDEX_SCALE"), (54, u "JLA"), (0, u "Ljdk/internal/access/JavaLangAccess;"), (11, u "LOG2_ARRAY_BOOLEAN_INDEX_SCALE"), (9, u "LOG2_ARRAY_BYTE_INDEX_SCALE"), (5, u "LOG2_ARRAY_CHAR_INDEX_SCALE"), (5, u "LOG2_ARRAY_SHORT_INDEX_SCALE"), (18, u "LOG2_ARRAY_FLOAT_INDEX_SCALE"), (24, u "LOG2_ARRAY_DOUBLE_INDEX_SCALE"), (89, u "T_BOOLEAN"), (2, u "T_CHAR"), (1, u "T_FLOAT"), (1, u "T_DOUBLE"), (1, u "T_BYTE"), (1, u "T_SHORT"), (1, u "T_INT"), (1, u "T_LONG"), (1, u "SOFT_MAX_ARRAY_LENGTH")] 83

def k17m0 : Method := { name := "<init>", desc := "()V", sig := { parameters := [], returnType := none }, accessFlags := 2, code := none }
/-- jdk/internal/util/ArraysSupport -/
def k17 : Class := { plain "jdk/internal/util/ArraysSupport" (some 0) with
  accessFlags := 33
  interfaces := #[]
  cf := some (fileOf pool17 21 #[] #[{ accessFlags := 2, nameIndex := 9, descriptorIndex := 19, attributes := #[] }] 33 16 #[] #[{ accessFlags := 24, nameIndex := 28, descriptorIndex := 29, attributes := #[] }, { accessFlags := 26, nameIndex := 38, descriptorIndex := 39, attributes := #[] }, { accessFlags := 25, nameIndex := 121, descriptorIndex := 25, attributes := #[] }, { accessFlags := 25, nameIndex := 131, descriptorIndex := 25, attributes := #[] }, { accessFlags := 25, nameIndex := 137, descriptorIndex := 25, attributes := #[] }, { accessFlags := 25, nameIndex := 143, descriptorIndex := 25, attributes := #[] }, { accessFlags := 25, nameIndex := 53, descriptorIndex := 25, attributes := #[] }, { accessFlags := 25, nameIndex := 24, descriptorIndex := 25, attributes := #[] }, { accessFlags := 25, nameIndex := 162, descriptorIndex := 25, attributes := #[] }, { accessFlags := 25, nameIndex := 187, descriptorIndex := 25, attributes := #[] }, { accessFlags := 26, nameIndex := 48, descriptorIndex := 25, attributes := #[] }, { accessFlags := 25, nameIndex := 277, descriptorIndex := 25, attributes := #[] }, { accessFlags := 25, nameIndex := 280, descriptorIndex := 25, attributes := #[] }, { accessFlags := 25, nameIndex := 282, descriptorIndex := 25, attributes := #[] }, { accessFlags := 25, nameIndex := 284, descriptorIndex := 25, attributes := #[] }, { accessFlags := 25, nameIndex := 286, descriptorIndex := 25, attributes := #[] }, { accessFlags := 25, nameIndex := 288, descriptorIndex := 25, attributes := #[] }, { accessFlags := 25, nameIndex := 290, descriptorIndex := 25, attributes := #[] }, { accessFlags := 25, nameIndex := 292, descriptorIndex := 25, attributes := #[] }, { accessFlags := 26, nameIndex := 108, descriptorIndex := 109, attributes := #[] }, { accessFlags := 25, nameIndex := 294, descriptorIndex := 25, attributes := #[] }])
  fields := #[{ name := "U", type := (.object "jdk/internal/misc/Unsafe"), accessFlags := 24, slot := 0, constantValue := 0 }, { name := "BIG_ENDIAN", type := .boolean, accessFlags := 26, slot := 1, constantValue := 0 }, { name := "LOG2_ARRAY_BOOLEAN_INDEX_SCALE", type := .int, accessFlags := 25, slot := 2, constantValue := 0 }, { name := "LOG2_ARRAY_BYTE_INDEX_SCALE", type := .int, accessFlags := 25, slot := 3, constantValue := 0 }, { name := "LOG2_ARRAY_CHAR_INDEX_SCALE", type := .int, accessFlags := 25, slot := 4, constantValue := 0 }, { name := "LOG2_ARRAY_SHORT_INDEX_SCALE", type := .int, accessFlags := 25, slot := 5, constantValue := 0 }, { name := "LOG2_ARRAY_INT_INDEX_SCALE", type := .int, accessFlags := 25, slot := 6, constantValue := 0 }, { name := "LOG2_ARRAY_LONG_INDEX_SCALE", type := .int, accessFlags := 25, slot := 7, constantValue := 0 }, { name := "LOG2_ARRAY_FLOAT_INDEX_SCALE", type := .int, accessFlags := 25, slot := 8, constantValue := 0 }, { name := "LOG2_ARRAY_DOUBLE_INDEX_SCALE", type := .int, accessFlags := 25, slot := 9, constantValue := 0 }, { name := "LOG2_BYTE_BIT_SIZE", type := .int, accessFlags := 26, slot := 10, constantValue := 0 }, { name := "T_BOOLEAN", type := .int, accessFlags := 25, slot := 11, constantValue := 0 }, { name := "T_CHAR", type := .int, accessFlags := 25, slot := 12, constantValue := 0 }, { name := "T_FLOAT", type := .int, accessFlags := 25, slot := 13, constantValue := 0 }, { name := "T_DOUBLE", type := .int, accessFlags := 25, slot := 14, constantValue := 0 }, { name := "T_BYTE", type := .int, accessFlags := 25, slot := 15, constantValue := 0 }, { name := "T_SHORT", type := .int, accessFlags := 25, slot := 16, constantValue := 0 }, { name := "T_INT", type := .int, accessFlags := 25, slot := 17, constantValue := 0 }, { name := "T_LONG", type := .int, accessFlags := 25, slot := 18, constantValue := 0 }, { name := "JLA", type := (.object "jdk/internal/access/JavaLangAccess"), accessFlags := 26, slot := 19, constantValue := 0 }, { name := "SOFT_MAX_ARRAY_LENGTH", type := .int, accessFlags := 25, slot := 20, constantValue := 0 }]
  methods := #[k17m0]
  instanceTypes := #[]
  staticTypes := #[(.object "jdk/internal/misc/Unsafe"), .boolean, .int, .int, .int, .int, .int, .int, .int, .int, .int, .int, .int, .int, .int, .int, .int, .int, .int, (.object "jdk/internal/access/JavaLangAccess"), .int]
  resolved := Array.replicate 378 none
  statics := none }

/-- the primitive byte -/
def k18 : Class := { plain "byte" none with kind := .primitive 'B', accessFlags := 0x411 }
/-- [B -/
def k19 : Class := { plain "[B" (some 0) with kind := .array 18 .byte, interfaces := #[10, 2], accessFlags := 1041 }

/-- the primitive char -/
def k20 : Class := { plain "char" none with kind := .primitive 'C', accessFlags := 0x411 }
/-- [C -/
def k21 : Class := { plain "[C" (some 0) with kind := .array 20 .char, interfaces := #[10, 2], accessFlags := 1041 }

/-- the primitive int -/
def k22 : Class := { plain "int" none with kind := .primitive 'I', accessFlags := 0x411 }
/-- [I -/
def k23 : Class := { plain "[I" (some 0) with kind := .array 22 .int, interfaces := #[10, 2], accessFlags := 1041 }

/-- [Lcom/example/recourse/recourse/WriteOffActor; -/
def k24 : Class := { plain "[Lcom/example/recourse/recourse/WriteOffActor;" (some 0) with kind := .array 9 (.object "com/example/recourse/recourse/WriteOffActor"), interfaces := #[10, 2], accessFlags := 1041 }

def heap : Heap := #[{ cls := 7, slots := #[.long 0, .int 1, .null, .int 0, .null, .int 0, .int 0], vm := .statics 7 },
  { cls := 9, slots := #[.ref 6, .ref 7, .null, .ref 5], vm := .statics 9 },
  { cls := 11, slots := #[.null, .null, .null, .null, .null, .null, .null, .null, .null, .null, .null, .null, .null, .ref 8, .ref 10, .null, .null, .null, .null, .null, .null, .null, .null], vm := .statics 11 },
  { cls := 13, slots := #[.ref 14], vm := .statics 13 },
  { cls := 16, slots := #[.null, .null, .null], vm := .statics 16 },
  { cls := 24, slots := #[.ref 6, .ref 7], vm := .none },
  { cls := 9, slots := #[.null, .int 0, .int 0, .ref 8, .null], vm := .none },
  { cls := 9, slots := #[.null, .int 0, .int 0, .ref 10, .null], vm := .none },
  { cls := 11, slots := #[.null, .int 0, .int 0, .ref 9], vm := .none },
  { cls := 7, slots := #[.ref 12, .int 0, .int 0, .int 0], vm := .none },
  { cls := 11, slots := #[.null, .int 0, .int 0, .ref 11], vm := .none },
  { cls := 7, slots := #[.ref 13, .int 0, .int 0, .int 0], vm := .none },
  { cls := 19, slots := #[.int 52, .int 52], vm := .none },
  { cls := 19, slots := #[.int 52, .int 53], vm := .none },
  { cls := 13, slots := #[.null], vm := .none }]
def classes : Array Class := #[k0, k1, k2, k3, k4, k5, k6, k7, k8, k9, k10, k11, k12, k13, k14, k15, k16, k17, k18, k19, k20, k21, k22, k23, k24]
def interned : List (Array UInt16 × Addr) := []
def slotsUsed : Nat := 71
def theMethod : MethodId := ⟨1, 2⟩
def args0 : Array Value := #[.int 5, .int 1, .int 7, .int 7]
def aboutOver (below : List Frame) : State where
  vm := { classes := classes, interned := interned.toArray }
  heap := heap
  slotsUsed := slotsUsed
  threads := #[{ frames := .invoking theMethod args0 :: below }]
def below0 : List Frame := [.native { method := ⟨0, 0⟩, args := #[] }]
def about1 : State := aboutOver below0
def p0 : Program := .bare "" "" ""
def e0 : Env := launch0.env 0 0 0
theorem w_frames : about1.frames = Frame.invoking theMethod args0 :: below0 := rfl
set_option maxRecDepth 65536 in
theorem w_args : argsFit about1.vm theMethod args0 = true := by decide +kernel
set_option maxRecDepth 65536 in
theorem w_heap : heapFits about1 = true := by decide +kernel
set_option maxRecDepth 65536 in
theorem w_runnable : about1.curStatus? = some .runnable := by decide +kernel
set_option maxRecDepth 65536 in
theorem w_alone : about1.alone = true := by decide +kernel
set_option maxRecDepth 65536 in
theorem w_named : about1.methodNamed? x = some theMethod := by decide +kernel
set_option maxRecDepth 65536 in
theorem w_hears : about1.hears theMethod below0 = true := by decide +kernel
set_option maxRecDepth 65536 in
theorem w_ripe : about1.ripe theMethod args0 below0 = true := by decide +kernel
theorem w_running : about1.status = .running := rfl
set_option maxRecDepth 65536 in
theorem w_room : about1.hasRoom e0.platform room_1 = true :=
  launch0.hasRoom_least _ room_1 (by decide +kernel) (by decide +kernel) (by decide +kernel) (by decide +kernel) (by decide +kernel) (by decide +kernel)
theorem allAtoms_all (ts : List Jvm.Cond) (a : Array Jvm.Value) (st : Jvm.State) : (allAtoms ts).before a st = ts.all (fun c => c.before a st) := by
  induction ts with
  | nil => rfl
  | cons c t ih =>
    show (Jvm.Cond.and c (allAtoms t)).before a st = _
    rw [Jvm.Cond.before_and, ih, List.all_cons]
def words1 : List Jvm.Cond := Jvm.Cond.code x code maxLocals ret :: tables_1
/-- a 'code' word, met by the world's own term for the bytes: nothing is compared byte by byte -/
theorem code_word {y : MethodName} {bytes : ByteArray} {mx : Nat} {rt : Option FieldType} {a : Array Value} {s : State} {m : MethodId} {meth : Method} {c : Code} (h1 : s.methodNamed? y = some m) (h2 : s.vm.method? m = some meth) (h3 : meth.code = some c) (h4 : c.code = bytes)
    (h5 : (c.maxLocals == mx && c.exceptionTable.isEmpty && decide (c.maxStack ≤ mostOperands) && decide (meth.sig.returnType = rt) && !meth.locks && decide (parseMethodDescriptor y.desc = some meth.sig)) = true) : (Jvm.Cond.code y bytes mx rt).before a s = true := by
  simp only [Bool.and_eq_true, beq_iff_eq, Bool.not_eq_true', decide_eq_true_eq] at h5
  obtain ⟨⟨⟨⟨⟨g1, g2⟩, g3⟩, g4⟩, g5⟩, g6⟩ := h5
  simp [Cond.before, Cond.holds, Cond.value, h1, h2, h3, h4, g1, g2, g3, g4, g5, g6]
def isCode : Jvm.Cond → Bool
  | .code _ _ _ _ => true
  | _ => false
theorem all_split {L : List Jvm.Cond} {P : Jvm.Cond → Bool} (h1 : L.all (fun c => isCode c || P c) = true) (h2 : ∀ c ∈ L.filter isCode, P c = true) : L.all P = true := by
  refine List.all_eq_true.mpr fun c hc => ?_
  have h := List.all_eq_true.mp h1 c hc
  rcases Bool.eq_false_or_eq_true (isCode c) with hi | hi
  · exact h2 c (List.mem_filter.mpr ⟨hc, hi⟩)
  · simpa [hi] using h
set_option maxRecDepth 65536 in
theorem w_c0 : (Jvm.Cond.code x code maxLocals ret).before args0 about1 = true := code_word (m := ⟨1, 2⟩) (meth := k1m2) (c := k1c2) (by decide +kernel) rfl rfl rfl (by decide +kernel)
set_option maxRecDepth 65536 in
theorem w_c1 : (Jvm.Cond.code ({ cls := "com/example/recourse/recourse/WriteOffActorRecordedAsPinLaw", name := "draw", desc := "(ZI)C" } : Jvm.MethodName) method_2_code (2 : Nat) (Option.some Jvm.ClassFile.FieldType.char)).before args0 about1 = true := code_word (m := ⟨1, 1⟩) (meth := k1m1) (c := k1c1) (by decide +kernel) rfl rfl rfl (by decide +kernel)
set_option maxRecDepth 65536 in
theorem w_c2 : (Jvm.Cond.code ({ cls := "java/lang/String", name := "<init>", desc := "([C)V" } : Jvm.MethodName) jdk_42_method_3_code (2 : Nat) (Option.none : Option Jvm.ClassFile.FieldType)).before args0 about1 = true := code_word (m := ⟨7, 1⟩) (meth := k7m1) (c := k7c1) (by decide +kernel) rfl rfl rfl (by decide +kernel)
set_option maxRecDepth 65536 in
theorem w_c3 : (Jvm.Cond.code ({ cls := "java/lang/String", name := "<init>", desc := "([CIILjava/lang/Void;)V" } : Jvm.MethodName) jdk_42_method_149_code (6 : Nat) (Option.none : Option Jvm.ClassFile.FieldType)).before args0 about1 = true := code_word (m := ⟨7, 3⟩) (meth := k7m3) (c := k7c3) (by decide +kernel) rfl rfl rfl (by decide +kernel)
set_option maxRecDepth 65536 in
theorem w_c4 : (Jvm.Cond.code ({ cls := "java/lang/Object", name := "<init>", desc := "()V" } : Jvm.MethodName) object_method_1_code (1 : Nat) (Option.none : Option Jvm.ClassFile.FieldType)).before args0 about1 = true := code_word (m := ⟨0, 0⟩) (meth := k0m0) (c := k0c0) (by decide +kernel) rfl rfl rfl (by decide +kernel)
set_option maxRecDepth 65536 in
theorem w_c5 : (Jvm.Cond.code ({ cls := "com/example/recourse/recourse/WriteOffActor", name := "recordedAs", desc := "(Ljava/lang/String;)Ljava/util/Optional;" } : Jvm.MethodName) prog_44_method_6_code (5 : Nat) (Option.some (Jvm.ClassFile.FieldType.object "java/util/Optional"))).before args0 about1 = true := code_word (m := ⟨9, 1⟩) (meth := k9m1) (c := k9c1) (by decide +kernel) rfl rfl rfl (by decide +kernel)
set_option maxRecDepth 65536 in
theorem w_c6 : (Jvm.Cond.code ({ cls := "com/example/recourse/recourse/WriteOffActor", name := "values", desc := "()[Lcom/example/recourse/recourse/WriteOffActor;" } : Jvm.MethodName) prog_44_method_1_code (0 : Nat) (Option.some (Jvm.ClassFile.FieldType.array (Jvm.ClassFile.FieldType.object "com/example/recourse/recourse/WriteOffActor")))).before args0 about1 = true := code_word (m := ⟨9, 0⟩) (meth := k9m0) (c := k9c0) (by decide +kernel) rfl rfl rfl (by decide +kernel)
set_option maxRecDepth 65536 in
theorem w_c7 : (Jvm.Cond.code ({ cls := "com/example/recourse/recourse/ReasonCode", name := "code", desc := "()Ljava/lang/String;" } : Jvm.MethodName) prog_34_method_4_code (1 : Nat) (Option.some (Jvm.ClassFile.FieldType.object "java/lang/String"))).before args0 about1 = true := code_word (m := ⟨11, 0⟩) (meth := k11m0) (c := k11c0) (by decide +kernel) rfl rfl rfl (by decide +kernel)
set_option maxRecDepth 65536 in
theorem w_c8 : (Jvm.Cond.code ({ cls := "java/lang/String", name := "equals", desc := "(Ljava/lang/Object;)Z" } : Jvm.MethodName) jdk_42_method_66_code (3 : Nat) (Option.some Jvm.ClassFile.FieldType.boolean)).before args0 about1 = true := code_word (m := ⟨7, 2⟩) (meth := k7m2) (c := k7c2) (by decide +kernel) rfl rfl rfl (by decide +kernel)
set_option maxRecDepth 65536 in
theorem w_c9 : (Jvm.Cond.code ({ cls := "java/lang/StringLatin1", name := "equals", desc := "([B[B)Z" } : Jvm.MethodName) jdk_43_method_13_code (3 : Nat) (Option.some Jvm.ClassFile.FieldType.boolean)).before args0 about1 = true := code_word (m := ⟨12, 1⟩) (meth := k12m1) (c := k12c1) (by decide +kernel) rfl rfl rfl (by decide +kernel)
set_option maxRecDepth 65536 in
theorem w_c10 : (Jvm.Cond.code ({ cls := "java/util/Optional", name := "empty", desc := "()Ljava/util/Optional;" } : Jvm.MethodName) jdk_32_method_1_code (1 : Nat) (Option.some (Jvm.ClassFile.FieldType.object "java/util/Optional"))).before args0 about1 = true := code_word (m := ⟨13, 0⟩) (meth := k13m0) (c := k13c0) (by decide +kernel) rfl rfl rfl (by decide +kernel)
set_option maxRecDepth 65536 in
theorem w_c11 : (Jvm.Cond.code ({ cls := "java/util/Optional", name := "isPresent", desc := "()Z" } : Jvm.MethodName) jdk_32_method_6_code (1 : Nat) (Option.some Jvm.ClassFile.FieldType.boolean)).before args0 about1 = true := code_word (m := ⟨13, 4⟩) (meth := k13m4) (c := k13c4) (by decide +kernel) rfl rfl rfl (by decide +kernel)
set_option maxRecDepth 65536 in
theorem w_c12 : (Jvm.Cond.code ({ cls := "java/lang/StringUTF16", name := "compress", desc := "([CII)[B" } : Jvm.MethodName) jdk_52_method_16_code (6 : Nat) (Option.some (Jvm.ClassFile.FieldType.array Jvm.ClassFile.FieldType.byte))).before args0 about1 = true := code_word (m := ⟨14, 2⟩) (meth := k14m2) (c := k14c2) (by decide +kernel) rfl rfl rfl (by decide +kernel)
set_option maxRecDepth 65536 in
theorem w_c13 : (Jvm.Cond.code ({ cls := "java/lang/StringUTF16", name := "compress", desc := "([CI[BII)I" } : Jvm.MethodName) jdk_52_method_21_code (7 : Nat) (Option.some Jvm.ClassFile.FieldType.int)).before args0 about1 = true := code_word (m := ⟨14, 3⟩) (meth := k14m3) (c := k14c3) (by decide +kernel) rfl rfl rfl (by decide +kernel)
set_option maxRecDepth 65536 in
theorem w_c14 : (Jvm.Cond.code ({ cls := "java/lang/StringUTF16", name := "coderFromArrayLen", desc := "([BI)B" } : Jvm.MethodName) jdk_52_method_15_code (2 : Nat) (Option.some Jvm.ClassFile.FieldType.byte)).before args0 about1 = true := code_word (m := ⟨14, 1⟩) (meth := k14m1) (c := k14c1) (by decide +kernel) rfl rfl rfl (by decide +kernel)
set_option maxRecDepth 65536 in
theorem w_c15 : (Jvm.Cond.code ({ cls := "java/util/Optional", name := "of", desc := "(Ljava/lang/Object;)Ljava/util/Optional;" } : Jvm.MethodName) jdk_32_method_3_code (1 : Nat) (Option.some (Jvm.ClassFile.FieldType.object "java/util/Optional"))).before args0 about1 = true := code_word (m := ⟨13, 2⟩) (meth := k13m2) (c := k13c2) (by decide +kernel) rfl rfl rfl (by decide +kernel)
set_option maxRecDepth 65536 in
theorem w_c16 : (Jvm.Cond.code ({ cls := "java/util/Objects", name := "requireNonNull", desc := "(Ljava/lang/Object;)Ljava/lang/Object;" } : Jvm.MethodName) jdk_31_method_10_code (1 : Nat) (Option.some (Jvm.ClassFile.FieldType.object "java/lang/Object"))).before args0 about1 = true := code_word (m := ⟨15, 1⟩) (meth := k15m1) (c := k15c1) (by decide +kernel) rfl rfl rfl (by decide +kernel)
set_option maxRecDepth 65536 in
theorem w_c17 : (Jvm.Cond.code ({ cls := "java/util/Optional", name := "<init>", desc := "(Ljava/lang/Object;)V" } : Jvm.MethodName) jdk_32_method_2_code (2 : Nat) (Option.none : Option Jvm.ClassFile.FieldType)).before args0 about1 = true := code_word (m := ⟨13, 1⟩) (meth := k13m1) (c := k13c1) (by decide +kernel) rfl rfl rfl (by decide +kernel)
set_option maxRecDepth 65536 in
theorem w_c18 : (Jvm.Cond.code ({ cls := "java/util/Optional", name := "get", desc := "()Ljava/lang/Object;" } : Jvm.MethodName) jdk_32_method_5_code (1 : Nat) (Option.some (Jvm.ClassFile.FieldType.object "java/lang/Object"))).before args0 about1 = true := code_word (m := ⟨13, 3⟩) (meth := k13m3) (c := k13c3) (by decide +kernel) rfl rfl rfl (by decide +kernel)
def codes1 : List Jvm.Cond := [Jvm.Cond.code x code maxLocals ret, Jvm.Cond.code ({ cls := "com/example/recourse/recourse/WriteOffActorRecordedAsPinLaw", name := "draw", desc := "(ZI)C" } : Jvm.MethodName) method_2_code (2 : Nat) (Option.some Jvm.ClassFile.FieldType.char), Jvm.Cond.code ({ cls := "java/lang/String", name := "<init>", desc := "([C)V" } : Jvm.MethodName) jdk_42_method_3_code (2 : Nat) (Option.none : Option Jvm.ClassFile.FieldType), Jvm.Cond.code ({ cls := "java/lang/String", name := "<init>", desc := "([CIILjava/lang/Void;)V" } : Jvm.MethodName) jdk_42_method_149_code (6 : Nat) (Option.none : Option Jvm.ClassFile.FieldType), Jvm.Cond.code ({ cls := "java/lang/Object", name := "<init>", desc := "()V" } : Jvm.MethodName) object_method_1_code (1 : Nat) (Option.none : Option Jvm.ClassFile.FieldType), Jvm.Cond.code ({ cls := "com/example/recourse/recourse/WriteOffActor", name := "recordedAs", desc := "(Ljava/lang/String;)Ljava/util/Optional;" } : Jvm.MethodName) prog_44_method_6_code (5 : Nat) (Option.some (Jvm.ClassFile.FieldType.object "java/util/Optional")), Jvm.Cond.code ({ cls := "com/example/recourse/recourse/WriteOffActor", name := "values", desc := "()[Lcom/example/recourse/recourse/WriteOffActor;" } : Jvm.MethodName) prog_44_method_1_code (0 : Nat) (Option.some (Jvm.ClassFile.FieldType.array (Jvm.ClassFile.FieldType.object "com/example/recourse/recourse/WriteOffActor"))), Jvm.Cond.code ({ cls := "com/example/recourse/recourse/ReasonCode", name := "code", desc := "()Ljava/lang/String;" } : Jvm.MethodName) prog_34_method_4_code (1 : Nat) (Option.some (Jvm.ClassFile.FieldType.object "java/lang/String")), Jvm.Cond.code ({ cls := "java/lang/String", name := "equals", desc := "(Ljava/lang/Object;)Z" } : Jvm.MethodName) jdk_42_method_66_code (3 : Nat) (Option.some Jvm.ClassFile.FieldType.boolean), Jvm.Cond.code ({ cls := "java/lang/StringLatin1", name := "equals", desc := "([B[B)Z" } : Jvm.MethodName) jdk_43_method_13_code (3 : Nat) (Option.some Jvm.ClassFile.FieldType.boolean), Jvm.Cond.code ({ cls := "java/util/Optional", name := "empty", desc := "()Ljava/util/Optional;" } : Jvm.MethodName) jdk_32_method_1_code (1 : Nat) (Option.some (Jvm.ClassFile.FieldType.object "java/util/Optional")), Jvm.Cond.code ({ cls := "java/util/Optional", name := "isPresent", desc := "()Z" } : Jvm.MethodName) jdk_32_method_6_code (1 : Nat) (Option.some Jvm.ClassFile.FieldType.boolean), Jvm.Cond.code ({ cls := "java/lang/StringUTF16", name := "compress", desc := "([CII)[B" } : Jvm.MethodName) jdk_52_method_16_code (6 : Nat) (Option.some (Jvm.ClassFile.FieldType.array Jvm.ClassFile.FieldType.byte)), Jvm.Cond.code ({ cls := "java/lang/StringUTF16", name := "compress", desc := "([CI[BII)I" } : Jvm.MethodName) jdk_52_method_21_code (7 : Nat) (Option.some Jvm.ClassFile.FieldType.int), Jvm.Cond.code ({ cls := "java/lang/StringUTF16", name := "coderFromArrayLen", desc := "([BI)B" } : Jvm.MethodName) jdk_52_method_15_code (2 : Nat) (Option.some Jvm.ClassFile.FieldType.byte), Jvm.Cond.code ({ cls := "java/util/Optional", name := "of", desc := "(Ljava/lang/Object;)Ljava/util/Optional;" } : Jvm.MethodName) jdk_32_method_3_code (1 : Nat) (Option.some (Jvm.ClassFile.FieldType.object "java/util/Optional")), Jvm.Cond.code ({ cls := "java/util/Objects", name := "requireNonNull", desc := "(Ljava/lang/Object;)Ljava/lang/Object;" } : Jvm.MethodName) jdk_31_method_10_code (1 : Nat) (Option.some (Jvm.ClassFile.FieldType.object "java/lang/Object")), Jvm.Cond.code ({ cls := "java/util/Optional", name := "<init>", desc := "(Ljava/lang/Object;)V" } : Jvm.MethodName) jdk_32_method_2_code (2 : Nat) (Option.none : Option Jvm.ClassFile.FieldType), Jvm.Cond.code ({ cls := "java/util/Optional", name := "get", desc := "()Ljava/lang/Object;" } : Jvm.MethodName) jdk_32_method_5_code (1 : Nat) (Option.some (Jvm.ClassFile.FieldType.object "java/lang/Object"))]
set_option maxRecDepth 65536 in
theorem codes_eq : words1.filter isCode = codes1 := rfl
theorem w_codes : ∀ c ∈ words1.filter isCode, c.before args0 about1 = true := by
  rw [codes_eq]
  intro c hc
  simp only [codes1, List.mem_cons, List.not_mem_nil, or_false] at hc
  rcases hc with rfl | rfl | rfl | rfl | rfl | rfl | rfl | rfl | rfl | rfl | rfl | rfl | rfl | rfl | rfl | rfl | rfl | rfl | rfl
  · exact w_c0
  · exact w_c1
  · exact w_c2
  · exact w_c3
  · exact w_c4
  · exact w_c5
  · exact w_c6
  · exact w_c7
  · exact w_c8
  · exact w_c9
  · exact w_c10
  · exact w_c11
  · exact w_c12
  · exact w_c13
  · exact w_c14
  · exact w_c15
  · exact w_c16
  · exact w_c17
  · exact w_c18
set_option maxRecDepth 65536 in
theorem w_t1 : (words1.take 24).all (fun c => isCode c || c.before args0 about1) = true := by decide +kernel
set_option maxRecDepth 65536 in
theorem w_t2 : ((words1.drop 24).take 24).all (fun c => isCode c || c.before args0 about1) = true := by decide +kernel
set_option maxRecDepth 65536 in
theorem w_t3 : (((words1.drop 24).drop 24).take 24).all (fun c => isCode c || c.before args0 about1) = true := by decide +kernel
set_option maxRecDepth 65536 in
theorem w_t4 : ((((words1.drop 24).drop 24).drop 24).take 24).all (fun c => isCode c || c.before args0 about1) = true := by decide +kernel
set_option maxRecDepth 65536 in
theorem w_t5 : ((((words1.drop 24).drop 24).drop 24).drop 24).all (fun c => isCode c || c.before args0 about1) = true := by decide +kernel
theorem w_tables : (allAtoms (Jvm.Cond.code x code maxLocals ret :: tables_1)).before args0 about1 = true := by
  rw [allAtoms_all]
  show words1.all (fun c => c.before args0 about1) = true
  refine all_split ?_ w_codes
  rw [← List.take_append_drop 24 words1, List.all_append, w_t1, ← List.take_append_drop 24 (words1.drop 24), List.all_append, w_t2, ← List.take_append_drop 24 ((words1.drop 24).drop 24), List.all_append, w_t3, ← List.take_append_drop 24 (((words1.drop 24).drop 24).drop 24), List.all_append, w_t4, w_t5]
  rfl
set_option maxRecDepth 65536 in
theorem w_rest : rest_1_c.before args0 about1 = true := by decide +kernel
set_option maxRecDepth 65536 in
theorem w_case : (Jvm.Cond.and given_1 narrow_1).before args0 about1 = true := by decide +kernel
set_option maxRecDepth 65536 in
theorem w_consts : constsHeld consts_1 about1 := Jvm.Lit.constsHeldB_iff.mp (by decide +kernel)
theorem w_applies : (headSpec (Jvm.Cond.code x code maxLocals ret :: tables_1) room_1).applies x e0.platform about1 = true :=
  (Spec.applies_iff w_frames).mpr ⟨w_running, w_runnable, w_alone, w_named, w_hears, w_ripe, w_room, w_tables⟩
theorem atStart : AtStart classFile x code maxLocals ret World_1 tables_1 room_1 Calls_1 rest_1 Pre_1 launch0 p0 e0 about1 theMethod args0 below0 :=
  ⟨lists_1, trivial, launch0.admits_env _ _ _, launch0.least_env, fairChoices_fair.cas, fairChoices_fair.clock, w_frames, w_args, w_heap, w_applies, ⟨w_consts, trivial⟩, w_rest, w_case⟩
end start1
theorem witness_1 : WitnessClaimed_1 := ⟨start1.p0, start1.e0, start1.about1, start1.theMethod, start1.args0, start1.below0, start1.atStart⟩
end Jvm.Pilot.@@N@@
