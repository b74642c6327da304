import JvmDerived
import JvmDerived.Pilot.@@N@@Statement
import JvmDerived.Pilot.@@N@@Code
set_option linter.unusedVariables false
set_option linter.unusedSimpArgs false
namespace Jvm.RoadKit
open Sem ClassFile Op Lib Jvm.Stand Jvm.Free Jvm.LawKit
section New
variable {p : Program} {l : Launch} {e : Env} {R : Room} {s : State} {m : MethodId} {args : Array Value} {below : List Frame} {meth : Method} {c : Code} {T : State} {locs : List Loc} {cells slots : Nat}
theorem retI (X : Stand p l e R s m args below meth c T locs cells slots) (hx : p.tables.exec = Jvm.exec) {pc : Nat} {Ls : Array Slot} {z : Int32} {rest : List Value} (hret : meth.sig.returnType = some .int) (hd : decode c.code pc = .ok (.ireturn, 1)) {fs : List Frame}
    (hl : ∀ (f : JFrame) (acts : List Action), f.method = m → f.locked = none → f.entered = [] → (doReturn e (T.setTop f) acts (some (.int z))).1 = T.setFrames fs) : Steps p.tables e below (T.setTop (mkF m pc Ls (.int z :: rest))) (T.setFrames fs) := by
  have hm' : T.vm.method? m = some meth := X.method'
  have hn : narrow .int (.int z) = .int z := rfl
  show Steps p.tables e below (T.setTop { method := m, pc := pc, locals := Ls, stack := _ :: rest, locked := none }) _
  jvm_step X.here [X.here.top, hx, hd, hm', hret, hn]
  first | (intro acts; rw [hl _ acts rfl rfl rfl]) | rw [hl _ _ rfl rfl rfl]
  exact Steps.refl _
end New
end Jvm.RoadKit
/- laws to paste: Road.backV, Road.eqW, Road.codOf (cut by pick.py; bodies as the Statement names them) -/
namespace Jvm.Pilot.@@N@@
namespace StrChars
open Jvm Sem ClassFile Op Lib Jvm.Stand Jvm.Free.XT Jvm.Free.ALB Jvm.Free.JM Jvm.Free
open Jvm.Lib.Cold (StaticIs)
/-- a char array whose places are chars -/
def Ch (a : Addr) (A : Cell) (U : State) : Prop := Arr .char a A U ∧ Typed .char A
theorem Ch.mv {a : Addr} {A : Cell} {U U' : State} (h : Ch a A U) (hal : U.vm.Alike U'.vm) (hh : U'.heap = U.heap) : Ch a A U' := ⟨h.1.mv hal hh, h.2⟩
theorem Ch.keep {a : Addr} {A : Cell} {U U' : State} (h : Ch a A U) (hal : U.vm.Alike U'.vm) (hk : U'.heap[a]? = some A) : Ch a A U' := ⟨h.1.keep hal hk, h.2⟩
/-- what place i of a char[]'s cell holds -/
def cv (A : Cell) (i : Nat) : Int32 := match A.slots[i]? with | some (.int x) => x | _ => 0
theorem Ch.get {a : Addr} {A : Cell} {U : State} (h : Ch a A U) {i : Nat} (hi : i < A.slots.size) : A.slots[i]? = some (.int (cv A i)) := by
  have e := Array.getElem?_eq_getElem hi
  have f := h.2 i _ e
  unfold cv; rw [e]
  generalize A.slots[i] = v at f
  cases v <;> simp [fits] at f ⊢
/-- the byte that i2b leaves of a char -/
def lo8 (x : Int32) : Int32 := x.toInt8.toInt32
theorem fits_lo8 (y : Int32) : fits .byte (.int (lo8 y)) = true := by
  have h1 := y.toInt8.le_toInt
  have h2 := y.toInt8.toInt_lt
  simp only [lo8, fits, Bool.and_eq_true, decide_eq_true_eq, Int32.le_iff_toInt_le, Int8.toInt_toInt32, show (-128 : Int32).toInt = -128 from by decide, show (127 : Int32).toInt = 127 from by decide]
  omega
/-- A' is A but that each place j of lo .. hi - 1 holds f j -/
def Laid (A A' : Cell) (lo hi : Nat) (f : Nat → Value) : Prop := A'.cls = A.cls ∧ A'.vm = A.vm ∧ A'.slots.size = A.slots.size ∧ ∀ i, A'.slots[i]? = if lo ≤ i ∧ i < hi then some (f i) else A.slots[i]?
theorem Laid.zero (A : Cell) (lo : Nat) (f : Nat → Value) : Laid A A lo (lo + 0) f := ⟨rfl, rfl, rfl, fun i => by rw [if_neg (by omega)]⟩
theorem Laid.step {A Ak : Cell} {lo k : Nat} {f : Nat → Value} {v : Value} (h : Laid A Ak lo k f) (hlo : lo ≤ k) (hk : k < Ak.slots.size) (hv : v = f k) : Laid A (Ak.setSlot k v) lo (k + 1) f := by
  refine ⟨h.1, h.2.1, by simpa [Cell.setSlot] using h.2.2.1, fun i => ?_⟩
  by_cases e : k = i
  · subst e; rw [Cell.slots_setSlot_self v hk, if_pos (by omega), hv]
  · rw [Cell.slots_setSlot_ne v e, h.2.2.2 i]
    by_cases q : lo ≤ i ∧ i < k
    · rw [if_pos q, if_pos (by omega)]
    · rw [if_neg q, if_neg (by omega)]
def U16 : String := "java/lang/StringUTF16"
namespace Cmp5
def yN : MethodName := ⟨"java/lang/StringUTF16", "compress", "([CI[BII)I"⟩
abbrev yB : ByteArray := jdk_52_method_21_code
theorem d0 : decode yB 0 = .ok (.iconst 0, 1) := by decide +kernel
theorem d1 : decode yB 1 = .ok (.istore 5, 2) := by decide +kernel
theorem d3 : decode yB 3 = .ok (.iload 5, 2) := by decide +kernel
theorem d5 : decode yB 5 = .ok (.iload 4, 2) := by decide +kernel
theorem d7 : decode yB 7 = .ok (.if_icmp (.ge) 37, 3) := by decide +kernel
theorem d10 : decode yB 10 = .ok (.aload_n 0, 1) := by decide +kernel
theorem d11 : decode yB 11 = .ok (.iload_n 1, 1) := by decide +kernel
theorem d12 : decode yB 12 = .ok (.caload, 1) := by decide +kernel
theorem d13 : decode yB 13 = .ok (.istore 6, 2) := by decide +kernel
theorem d15 : decode yB 15 = .ok (.iload 6, 2) := by decide +kernel
theorem d17 : decode yB 17 = .ok (.sipush 255, 3) := by decide +kernel
theorem d20 : decode yB 20 = .ok (.if_icmp (.le) 6, 3) := by decide +kernel
theorem d26 : decode yB 26 = .ok (.aload_n 2, 1) := by decide +kernel
theorem d27 : decode yB 27 = .ok (.iload_n 3, 1) := by decide +kernel
theorem d28 : decode yB 28 = .ok (.iload 6, 2) := by decide +kernel
theorem d30 : decode yB 30 = .ok (.i2b, 1) := by decide +kernel
theorem d31 : decode yB 31 = .ok (.bastore, 1) := by decide +kernel
theorem d32 : decode yB 32 = .ok (.iinc 1 1, 3) := by decide +kernel
theorem d35 : decode yB 35 = .ok (.iinc 3 1, 3) := by decide +kernel
theorem d38 : decode yB 38 = .ok (.iinc 5 1, 3) := by decide +kernel
theorem d41 : decode yB 41 = .ok (.goto (-38), 3) := by decide +kernel
theorem d44 : decode yB 44 = .ok (.iload 4, 2) := by decide +kernel
theorem d46 : decode yB 46 = .ok (.ireturn, 1) := by decide +kernel
def site : List Cond := []
def tab : Cond := tabOf yN yB 7 (some .int) site
def P (b : Addr) (A : Cell) (d : Addr) (B : Cell) (o q len : Nat) (args : Array Value) (s : State) : Prop := args = #[.ref b, .int (Int32.ofNat o), .ref d, .int (Int32.ofNat q), .int (Int32.ofNat len)] ∧ Ch b A s ∧ Arr .byte d B s ∧ b ≠ d ∧ o + len ≤ A.slots.size ∧ q + len ≤ B.slots.size ∧ ∀ i, i < len → ¬ 255 < cv A (o + i)
def E (b : Addr) (A : Cell) (d : Addr) (B : Cell) (o q len : Nat) (r : Option Value) (s u : State) : Prop := r = some (.int (Int32.ofNat len)) ∧ ∃ B', Put d B' s u ∧ Laid B B' q (q + len) (fun j => Value.int (lo8 (cv A (o + (j - q)))))
/-- no char of the range above 255: len; the places written hold each char's low byte -/
theorem law (l : Launch) (b : Addr) (A : Cell) (d : Addr) (B : Cell) (o q len : Nat) : Law l yN 5 5 0 0 yB 7 (some .int) site (P b A d B o q len) (E b A d B o q len) (copyLocs d q len) 0 0 := by
  refine Law.of_walk (plainFor_of_name (by decide +kernel)) (by decide +kernel) (by decide +kernel) (by decide) (fun _ _ h => by rw [h.1]; rfl) (fun _ U U' hal hh h => ⟨h.1, h.2.1.mv hal hh, h.2.2.1.mv hal hh, h.2.2.2⟩) (fun r U U' V V' h1 hal h2 h => ⟨h.1, h.2.elim fun B' q => ⟨B', q.1.mv h1 h2, q.2⟩⟩) ?_
  intro p e s m args below meth c s₁ X0 hexec hbytes hml hret hlk hnm hown hh0 W hP
  obtain ⟨rfl, hA, hB, hne, l1, l2, hp⟩ := hP
  have c1 : Steps p.tables e below (s₁.setTop (entryFrame m #[.ref b, .int (Int32.ofNat o), .ref d, .int (Int32.ofNat q), .int (Int32.ofNat len)] 7)) (s₁.setTop (mkF m 0 #[.val (.ref b), .val (.int (Int32.ofNat o)), .val (.ref d), .val (.int (Int32.ofNat q)), .val (.int (Int32.ofNat len)), .unset, .unset] [])) := entry rfl
  have hA0 := hA.1.mv X0.warmed.alike hh0
  have hB0 := hB.mv X0.warmed.alike hh0
  have a31 := hA.1.2.2.2
  have c2 : Steps p.tables e below (s₁.setTop (entryFrame m #[.ref b, .int (Int32.ofNat o), .ref d, .int (Int32.ofNat q), .int (Int32.ofNat len)] 7)) (s₁.setTop (mkF m 3 #[.val (.ref b), .val (.int (Int32.ofNat o)), .val (.ref d), .val (.int (Int32.ofNat q)), .val (.int (Int32.ofNat len)), .val (.int 0), .unset] [])) := c1.trans (by
    refine iconstV X0.here hexec rfl 0 (hb hbytes d0) (by decide) ?_
    refine XS.istore X0.here hexec rfl (hb hbytes d1) rfl rfl ?_
    exact Steps.refl _)
  have loop : ∀ (r i : Nat), i + r = len → ∀ (z : Slot), (z = .unset ∨ ∃ w, z = .val w ∧ w.category = 1) → ∀ (Tl : State) (Bk : Cell), Stand p l e { frames := 0, locals := 0, cells := 0, slots := 0 } s m #[.ref b, .int (Int32.ofNat o), .ref d, .int (Int32.ofNat q), .int (Int32.ofNat len)] below meth c Tl ([] ++ copyLocs d q i) 0 0 → Put d Bk s₁ Tl → Laid B Bk q (q + i) (fun j => Value.int (lo8 (cv A (o + (j - q))))) →
      Steps p.tables e below (s₁.setTop (entryFrame m #[.ref b, .int (Int32.ofNat o), .ref d, .int (Int32.ofNat q), .int (Int32.ofNat len)] 7)) (Tl.setTop (mkF m 3 #[.val (.ref b), .val (.int (Int32.ofNat (o + i))), .val (.ref d), .val (.int (Int32.ofNat (q + i))), .val (.int (Int32.ofNat len)), .val (.int (Int32.ofNat i)), z] [])) → ∃ (T' : State) (B' : Cell) (z' : Slot), Stand p l e { frames := 0, locals := 0, cells := 0, slots := 0 } s m #[.ref b, .int (Int32.ofNat o), .ref d, .int (Int32.ofNat q), .int (Int32.ofNat len)] below meth c T' ([] ++ copyLocs d q len) 0 0 ∧ Put d B' s₁ T' ∧ Laid B B' q (q + len) (fun j => Value.int (lo8 (cv A (o + (j - q))))) ∧
      Steps p.tables e below (s₁.setTop (entryFrame m #[.ref b, .int (Int32.ofNat o), .ref d, .int (Int32.ofNat q), .int (Int32.ofNat len)] 7)) (T'.setTop (mkF m 3 #[.val (.ref b), .val (.int (Int32.ofNat (o + len))), .val (.ref d), .val (.int (Int32.ofNat (q + len))), .val (.int (Int32.ofNat len)), .val (.int (Int32.ofNat len)), z'] [])) := by
    intro r
    induction r with
    | zero =>
      intro i hi z hz Tl Bk Xl pl fl cl
      have hil : i = len := by omega
      rw [hil] at Xl fl cl
      exact ⟨Tl, Bk, z, Xl, pl, fl, cl⟩
    | succ r ih =>
      intro i hi z hz Tl Bk Xl pl fl cl
      have all := X0.warmed.alike.symm.trans Xl.warmed.alike
      have hAl := hA0.keep all (pl.other hne hA0.1)
      have hBk := hB0.like all pl.1 fl.1 fl.2.1 fl.2.2.1
      have hlt : q + i < Bk.slots.size := by rw [fl.2.2.1]; omega
      have c3 : Steps p.tables e below (s₁.setTop (entryFrame m #[.ref b, .int (Int32.ofNat o), .ref d, .int (Int32.ofNat q), .int (Int32.ofNat len)] 7)) (Tl.setTop (mkF m 12 #[.val (.ref b), .val (.int (Int32.ofNat (o + i))), .val (.ref d), .val (.int (Int32.ofNat (q + i))), .val (.int (Int32.ofNat len)), .val (.int (Int32.ofNat i)), z] [.int (Int32.ofNat (o + i)), .ref b])) := cl.trans (by
        refine XS.iload Xl.here hexec rfl (hb hbytes d3) rfl ?_
        refine XS.iload Xl.here hexec rfl (hb hbytes d5) rfl ?_
        refine XS.icmpNo Xl.here hexec rfl (hb hbytes d7) rfl (ii_ge_f (lt32 (by omega) (by omega))) ?_
        refine XS.aloadN Xl.here hexec rfl (hb hbytes d10) rfl rfl ?_
        refine XS.iloadN Xl.here hexec rfl (hb hbytes d11) rfl ?_
        exact Steps.refl _)
      have c4 : Steps p.tables e below (s₁.setTop (entryFrame m #[.ref b, .int (Int32.ofNat o), .ref d, .int (Int32.ofNat q), .int (Int32.ofNat len)] 7)) (Tl.setTop (mkF m 13 #[.val (.ref b), .val (.int (Int32.ofNat (o + i))), .val (.ref d), .val (.int (Int32.ofNat (q + i))), .val (.int (Int32.ofNat len)), .val (.int (Int32.ofNat i)), z] [.int (cv A (o + i))])) := c3.trans (by
        refine Xl.aget hexec hAl rfl (hA.get (i := o + i) (by omega)) rfl rfl (hb hbytes d12) ?_
        exact Steps.refl _)
      have c5 : Steps p.tables e below (s₁.setTop (entryFrame m #[.ref b, .int (Int32.ofNat o), .ref d, .int (Int32.ofNat q), .int (Int32.ofNat len)] 7)) (Tl.setTop (mkF m 15 #[.val (.ref b), .val (.int (Int32.ofNat (o + i))), .val (.ref d), .val (.int (Int32.ofNat (q + i))), .val (.int (Int32.ofNat len)), .val (.int (Int32.ofNat i)), .val (.int (cv A (o + i)))] [])) := c4.trans (by
        refine XS.istoreS Xl.here hexec rfl (hb hbytes d13) rfl rfl hz ?_
        exact Steps.refl _)
      have c6 : Steps p.tables e below (s₁.setTop (entryFrame m #[.ref b, .int (Int32.ofNat o), .ref d, .int (Int32.ofNat q), .int (Int32.ofNat len)] 7)) (Tl.setTop (mkF m 31 #[.val (.ref b), .val (.int (Int32.ofNat (o + i))), .val (.ref d), .val (.int (Int32.ofNat (q + i))), .val (.int (Int32.ofNat len)), .val (.int (Int32.ofNat i)), .val (.int (cv A (o + i)))] [.int (lo8 (cv A (o + i))), .int (Int32.ofNat (q + i)), .ref d])) := c5.trans (by
        refine XS.iload Xl.here hexec rfl (hb hbytes d15) rfl ?_
        refine sipushV Xl.here hexec rfl 255 (hb hbytes d17) (by decide) ?_
        refine XS.icmpYes Xl.here hexec rfl (pc0 := 20) rfl (hb hbytes d20) rfl (ii_le_t (hp i (by omega))) (by decide) rfl ?_
        refine XS.aloadN Xl.here hexec rfl (hb hbytes d26) rfl rfl ?_
        refine XS.iloadN Xl.here hexec rfl (hb hbytes d27) rfl ?_
        refine XS.iload Xl.here hexec rfl (hb hbytes d28) rfl ?_
        refine i2b Xl.here hexec rfl (hb hbytes d30) rfl ?_
        exact Steps.refl _)
      obtain ⟨T7, X7, p7, st7⟩ := Xl.aput hexec hBk rfl hlt rfl (fits_lo8 (cv A (o + i))) (g := (mkF m 31 #[.val (.ref b), .val (.int (Int32.ofNat (o + i))), .val (.ref d), .val (.int (Int32.ofNat (q + i))), .val (.int (Int32.ofNat len)), .val (.int (Int32.ofNat i)), .val (.int (cv A (o + i)))] [.int (lo8 (cv A (o + i))), .int (Int32.ofNat (q + i)), .ref d])) rfl (rest := []) rfl (hb hbytes d31)
      have c8 : Steps p.tables e below (s₁.setTop (entryFrame m #[.ref b, .int (Int32.ofNat o), .ref d, .int (Int32.ofNat q), .int (Int32.ofNat len)] 7)) (T7.setTop (mkF m 32 #[.val (.ref b), .val (.int (Int32.ofNat (o + i))), .val (.ref d), .val (.int (Int32.ofNat (q + i))), .val (.int (Int32.ofNat len)), .val (.int (Int32.ofNat i)), .val (.int (cv A (o + i)))] [])) := c6.trans (st7 _ (Steps.refl _))
      have c9 : Steps p.tables e below (s₁.setTop (entryFrame m #[.ref b, .int (Int32.ofNat o), .ref d, .int (Int32.ofNat q), .int (Int32.ofNat len)] 7)) (T7.setTop (mkF m 3 #[.val (.ref b), .val (.int (Int32.ofNat (o + i) + 1)), .val (.ref d), .val (.int (Int32.ofNat (q + i) + 1)), .val (.int (Int32.ofNat len)), .val (.int (Int32.ofNat i + 1)), .val (.int (cv A (o + i)))] [])) := c8.trans (by
        refine iincV X7.here hexec rfl 1 (hb hbytes d32) (by decide) rfl rfl ?_
        refine iincV X7.here hexec rfl 1 (hb hbytes d35) (by decide) rfl rfl ?_
        refine iincV X7.here hexec rfl 1 (hb hbytes d38) (by decide) rfl rfl ?_
        refine XS.goto X7.here hexec rfl (pc0 := 41) rfl (hb hbytes d41) (by decide) rfl ?_
        exact Steps.refl _)
      have c10 : Steps p.tables e below (s₁.setTop (entryFrame m #[.ref b, .int (Int32.ofNat o), .ref d, .int (Int32.ofNat q), .int (Int32.ofNat len)] 7)) (T7.setTop (mkF m 3 #[.val (.ref b), .val (.int (Int32.ofNat (o + (i + 1)))), .val (.ref d), .val (.int (Int32.ofNat (q + (i + 1)))), .val (.int (Int32.ofNat len)), .val (.int (Int32.ofNat (i + 1))), .val (.int (cv A (o + i)))] [])) := by
        have := c9
        rw [succ32, succ32, succ32] at this
        exact this
      exact ih (i + 1) (by omega) _ (Or.inr ⟨_, rfl, rfl⟩) T7 _ (by rw [copyLocs_step, ← List.append_assoc]; exact X7) (pl.trans p7) (fl.step (by omega) hlt (by simp)) c10
  obtain ⟨T9, B9, z9, X9, p9, f9, g9⟩ := loop len 0 (by omega) .unset (Or.inl rfl) s₁ B (by simpa [copyLocs] using X0) ⟨hB0.1, fun _ _ => rfl, rfl⟩ (Laid.zero _ _ _) c2
  have c11 : Steps p.tables e below (s₁.setTop (entryFrame m #[.ref b, .int (Int32.ofNat o), .ref d, .int (Int32.ofNat q), .int (Int32.ofNat len)] 7)) (T9.setTop (mkF m 46 #[.val (.ref b), .val (.int (Int32.ofNat (o + len))), .val (.ref d), .val (.int (Int32.ofNat (q + len))), .val (.int (Int32.ofNat len)), .val (.int (Int32.ofNat len)), z9] [.int (Int32.ofNat len)])) := g9.trans (by
    refine XS.iload X9.here hexec rfl (hb hbytes d3) rfl ?_
    refine XS.iload X9.here hexec rfl (hb hbytes d5) rfl ?_
    refine XS.icmpYes X9.here hexec rfl (pc0 := 7) rfl (hb hbytes d7) rfl (ii_ge_t (nlt32 (by omega) (Nat.le_refl _))) (by decide) rfl ?_
    refine XS.iload X9.here hexec rfl (hb hbytes d44) rfl ?_
    exact Steps.refl _)
  exact ⟨T9, some (.int (Int32.ofNat len)), _, _, _, X9, by simp, rfl, rfl, (fun h => by cases h), ⟨rfl, B9, p9.from hh0, f9⟩, fun fs hl => c11.trans (X9.ireturnOut hexec hret rfl (Or.inl rfl) (hb hbytes d46) hl)⟩
end Cmp5
namespace Cmp3
def yN : MethodName := ⟨"java/lang/StringUTF16", "compress", "([CII)[B"⟩
abbrev yB : ByteArray := jdk_52_method_16_code
theorem d0 : decode yB 0 = .ok (.iload_n 2, 1) := by decide +kernel
theorem d1 : decode yB 1 = .ok (.newarray .byte, 2) := by decide +kernel
theorem d3 : decode yB 3 = .ok (.astore_n 3, 1) := by decide +kernel
theorem d4 : decode yB 4 = .ok (.aload_n 0, 1) := by decide +kernel
theorem d5 : decode yB 5 = .ok (.iload_n 1, 1) := by decide +kernel
theorem d6 : decode yB 6 = .ok (.aload_n 3, 1) := by decide +kernel
theorem d7 : decode yB 7 = .ok (.iconst 0, 1) := by decide +kernel
theorem d8 : decode yB 8 = .ok (.iload_n 2, 1) := by decide +kernel
theorem d9 : decode yB 9 = .ok (.invokestatic 115, 3) := by decide +kernel
theorem d12 : decode yB 12 = .ok (.istore 4, 2) := by decide +kernel
theorem d14 : decode yB 14 = .ok (.iload 4, 2) := by decide +kernel
theorem d16 : decode yB 16 = .ok (.iload_n 2, 1) := by decide +kernel
theorem d17 : decode yB 17 = .ok (.if_icmp (.eq) 40, 3) := by decide +kernel
theorem d57 : decode yB 57 = .ok (.aload_n 3, 1) := by decide +kernel
theorem d58 : decode yB 58 = .ok (.areturn, 1) := by decide +kernel
def site : List Cond := [.arrayClass .byte, Cmp5.tab] ++ staticW U16 115 Cmp5.yN
def tab : Cond := tabOf yN yB 6 (some (.array .byte)) site
def P (b : Addr) (A : Cell) (o len : Nat) (args : Array Value) (s : State) : Prop := args = #[.ref b, .int (Int32.ofNat o), .int (Int32.ofNat len)] ∧ Ch b A s ∧ o + len ≤ A.slots.size ∧ len ≤ 536870912 ∧ ∀ i, i < len → ¬ 255 < cv A (o + i)
def E (b : Addr) (A : Cell) (o len : Nat) (r : Option Value) (s u : State) : Prop := NewArr .byte "[B" len (fun j => .int (lo8 (cv A (o + j)))) r s u ∧ u.heap.size = s.heap.size + 1
/-- no char of the range above 255: a new byte[] of their low bytes -/
theorem law (l : Launch) (b : Addr) (A : Cell) (o len : Nat) : Law l yN 3 3 1 18 yB 6 (some (.array .byte)) site (P b A o len) (E b A o len) [] 1 len := by
  refine Law.of_walk (plainFor_of_name (by decide +kernel)) (by decide +kernel) (by decide +kernel) (by decide) (fun _ _ h => by rw [h.1]; rfl) (fun _ U U' hal hh h => ⟨h.1, h.2.1.mv hal hh, h.2.2⟩) (fun r U U' V V' h1 hal h2 h => ⟨NewArr.mv r U U' V V' h1 hal h2 h.1, by rw [h1, h2]; exact h.2⟩) ?_
  intro p e s m args below meth c s₁ X0 hexec hbytes hml hret hlk hnm hown hh0 W hP
  obtain ⟨rfl, hA, l1, l2, hp⟩ := hP
  have a31 := hA.1.2.2.2
  have c1 : Steps p.tables e below (s₁.setTop (entryFrame m #[.ref b, .int (Int32.ofNat o), .int (Int32.ofNat len)] 6)) (s₁.setTop (mkF m 0 #[.val (.ref b), .val (.int (Int32.ofNat o)), .val (.int (Int32.ofNat len)), .unset, .unset, .unset] [])) := entry rfl
  have c2 : Steps p.tables e below (s₁.setTop (entryFrame m #[.ref b, .int (Int32.ofNat o), .int (Int32.ofNat len)] 6)) (s₁.setTop (mkF m 1 #[.val (.ref b), .val (.int (Int32.ofNat o)), .val (.int (Int32.ofNat len)), .unset, .unset, .unset] [.int (Int32.ofNat len)])) := c1.trans (by
    refine XS.iloadN X0.here hexec rfl (hb hbytes d0) rfl ?_
    exact Steps.refl _)
  obtain ⟨T3, B3, X3, ba3, bs3, bv3, bh3, bf3, st3⟩ := X0.anew hexec (atype := .byte) (wk W (.arrayClass .byte)) rfl (by show len * 1 ≤ _; omega) (by omega) (g := (mkF m 1 #[.val (.ref b), .val (.int (Int32.ofNat o)), .val (.int (Int32.ofNat len)), .unset, .unset, .unset] [.int (Int32.ofNat len)])) rfl (hb hbytes d1) (rest := []) rfl (Nat.le_refl _) (by show 0 + len ≤ len; omega)
  rw [hh0] at ba3 st3
  have kp3 : XT.Kept s T3 := (XT.Kept.of_eq hh0).push bh3
  have hA3 := hA.keep X3.warmed.alike (kp3 _ _ hA.1.1)
  have hne : b ≠ s.heap.size := hA.1.ne
  have c4 : Steps p.tables e below (s₁.setTop (entryFrame m #[.ref b, .int (Int32.ofNat o), .int (Int32.ofNat len)] 6)) (T3.setTop (mkF m 3 #[.val (.ref b), .val (.int (Int32.ofNat o)), .val (.int (Int32.ofNat len)), .unset, .unset, .unset] [.ref s.heap.size])) := c2.trans (st3 _ (Steps.refl _))
  have c5 : Steps p.tables e below (s₁.setTop (entryFrame m #[.ref b, .int (Int32.ofNat o), .int (Int32.ofNat len)] 6)) (T3.setTop (mkF m 9 #[.val (.ref b), .val (.int (Int32.ofNat o)), .val (.int (Int32.ofNat len)), .val (.ref s.heap.size), .unset, .unset] [.int (Int32.ofNat len), .int 0, .ref s.heap.size, .int (Int32.ofNat o), .ref b])) := c4.trans (by
    refine XS.astoreN X3.here hexec rfl (hb hbytes d3) rfl rfl rfl ?_
    refine XS.aloadN X3.here hexec rfl (hb hbytes d4) rfl rfl ?_
    refine XS.iloadN X3.here hexec rfl (hb hbytes d5) rfl ?_
    refine XS.aloadN X3.here hexec rfl (hb hbytes d6) rfl rfl ?_
    refine iconstV X3.here hexec rfl 0 (hb hbytes d7) (by decide) ?_
    refine XS.iloadN X3.here hexec rfl (hb hbytes d8) rfl ?_
    exact Steps.refl _)
  obtain ⟨v6, T6, X6, E6, g6⟩ := X3.callS hexec (Cmp5.law l b A s.heap.size B3 o 0 len) hown (wks W (staticW U16 115 Cmp5.yN)) (wk W Cmp5.tab) (W := 0) (Nat.le_of_ble_eq_true rfl) (Nat.le_of_ble_eq_true rfl) (Nat.le_refl _) (by show 0 + len + 0 ≤ len; omega) (g := (mkF m 9 #[.val (.ref b), .val (.int (Int32.ofNat o)), .val (.int (Int32.ofNat len)), .val (.ref s.heap.size), .unset, .unset] [.int (Int32.ofNat len), .int (Int32.ofNat 0), .ref s.heap.size, .int (Int32.ofNat o), .ref b])) rfl (by rw [hml]; rfl) c5 (argsL := [.ref b, .int (Int32.ofNat o), .ref s.heap.size, .int (Int32.ofNat 0), .int (Int32.ofNat len)]) (rest := []) rfl rfl (by show 2 * 0 + 0 ≤ _; decide) (hb hbytes d9) (⟨rfl, hA3, ba3, hne, l1, by rw [bs3]; simp, hp⟩)
  obtain ⟨rfl, B6, p6, f6⟩ := E6
  have c7 : Steps p.tables e below (s₁.setTop (entryFrame m #[.ref b, .int (Int32.ofNat o), .int (Int32.ofNat len)] 6)) (T6.setTop (mkF m 12 #[.val (.ref b), .val (.int (Int32.ofNat o)), .val (.int (Int32.ofNat len)), .val (.ref s.heap.size), .unset, .unset] [.int (Int32.ofNat len)])) := g6
  have c8 : Steps p.tables e below (s₁.setTop (entryFrame m #[.ref b, .int (Int32.ofNat o), .int (Int32.ofNat len)] 6)) (T6.setTop (mkF m 58 #[.val (.ref b), .val (.int (Int32.ofNat o)), .val (.int (Int32.ofNat len)), .val (.ref s.heap.size), .val (.int (Int32.ofNat len)), .unset] [.ref s.heap.size])) := c7.trans (by
    refine XS.istore X6.here hexec rfl (hb hbytes d12) rfl rfl ?_
    refine XS.iload X6.here hexec rfl (hb hbytes d14) rfl ?_
    refine XS.iloadN X6.here hexec rfl (hb hbytes d16) rfl ?_
    refine XS.icmpYes X6.here hexec rfl (pc0 := 17) rfl (hb hbytes d17) rfl (ii_eq_t rfl) (by decide) rfl ?_
    refine XS.aloadN X6.here hexec rfl (hb hbytes d57) rfl rfl ?_
    exact Steps.refl _)
  have X8 := X6.wide (L' := []) (cells' := 1) (slots' := len) (fun x hx hlt => by
    simp only [List.nil_append, copyLocs, List.mem_map, List.mem_range] at hx
    obtain ⟨i, -, rfl⟩ := hx
    exact absurd hlt (Nat.lt_irrefl _)) (Nat.le_refl _) (by omega)
  exact ⟨T6, some (.ref s.heap.size), _, _, _, X8, rfl, rfl, rfl, (fun h => by cases h), ⟨⟨rfl, B6, ba3.like (X3.warmed.alike.symm.trans X6.warmed.alike) p6.1 f6.1 f6.2.1 f6.2.2.1, f6.2.1.trans bv3, by rw [X6.warmed.alike.findClass, f6.1]; exact bf3, by rw [f6.2.2.1, bs3]; simp, fun j hj => by rw [f6.2.2.2 j, if_pos (by omega)]; rfl, kp3.put p6 (Nat.le_refl _)⟩, by rw [p6.2.2, bh3, hh0]; simp⟩, fun fs hl => c8.trans (X8.areturnOut hexec rfl hret rfl (hb hbytes d58) hl)⟩
end Cmp3
namespace CodL
def yN : MethodName := ⟨"java/lang/StringUTF16", "coderFromArrayLen", "([BI)B"⟩
abbrev yB : ByteArray := jdk_52_method_15_code
theorem d0 : decode yB 0 = .ok (.iload_n 1, 1) := by decide +kernel
theorem d1 : decode yB 1 = .ok (.aload_n 0, 1) := by decide +kernel
theorem d2 : decode yB 2 = .ok (.arraylength, 1) := by decide +kernel
theorem d3 : decode yB 3 = .ok (.isub, 1) := by decide +kernel
theorem d4 : decode yB 4 = .ok (.bipush 31, 2) := by decide +kernel
theorem d6 : decode yB 6 = .ok (.iushr, 1) := by decide +kernel
theorem d7 : decode yB 7 = .ok (.i2b, 1) := by decide +kernel
theorem d8 : decode yB 8 = .ok (.ireturn, 1) := by decide +kernel
def site : List Cond := []
def tab : Cond := tabOf yN yB 2 (some .byte) site
def P (d : Addr) (B : Cell) (args : Array Value) (s : State) : Prop := args = #[.ref d, .int (Int32.ofNat B.slots.size)] ∧ Arr .byte d B s
def E (r : Option Value) (s u : State) : Prop := XT.PureE (some (.int 0)) r s u
/-- an array as long as the number of chars: LATIN1 -/
theorem law (l : Launch) (d : Addr) (B : Cell) : Law l yN 2 2 0 0 yB 2 (some .byte) site (P d B) E [] 0 0 := by
  refine Law.of_walk (plainFor_of_name (by decide +kernel)) (by decide +kernel) (by decide +kernel) (by decide) (fun _ _ h => by rw [h.1]; rfl) (fun _ U U' hal hh h => ⟨h.1, h.2.mv hal hh⟩) (fun r U U' V V' h1 hal h2 h => XT.PureE.mv r U U' V V' h1 hal h2 h) ?_
  intro p e s m args below meth c s₁ X0 hexec hbytes hml hret hlk hnm hown hh0 W hP
  obtain ⟨rfl, hB⟩ := hP
  have hB0 := hB.mv X0.warmed.alike hh0
  have c1 : Steps p.tables e below (s₁.setTop (entryFrame m #[.ref d, .int (Int32.ofNat B.slots.size)] 2)) (s₁.setTop (mkF m 0 #[.val (.ref d), .val (.int (Int32.ofNat B.slots.size))] [])) := entry rfl
  have c2 : Steps p.tables e below (s₁.setTop (entryFrame m #[.ref d, .int (Int32.ofNat B.slots.size)] 2)) (s₁.setTop (mkF m 2 #[.val (.ref d), .val (.int (Int32.ofNat B.slots.size))] [.ref d, .int (Int32.ofNat B.slots.size)])) := c1.trans (by
    refine XS.iloadN X0.here hexec rfl (hb hbytes d0) rfl ?_
    refine XS.aloadN X0.here hexec rfl (hb hbytes d1) rfl rfl ?_
    exact Steps.refl _)
  have c3 : Steps p.tables e below (s₁.setTop (entryFrame m #[.ref d, .int (Int32.ofNat B.slots.size)] 2)) (s₁.setTop (mkF m 8 #[.val (.ref d), .val (.int (Int32.ofNat B.slots.size))] [.int (lo8 (ushr (Int32.ofNat B.slots.size - Int32.ofNat B.slots.size) 31))])) := c2.trans (by
    refine X0.alen hexec hB0 rfl rfl (hb hbytes d2) ?_
    refine XS.isub X0.here hexec rfl (hb hbytes d3) rfl ?_
    refine bipushV X0.here hexec rfl 31 (hb hbytes d4) (by decide) ?_
    refine iushr X0.here hexec rfl (hb hbytes d6) rfl ?_
    refine i2b X0.here hexec rfl (hb hbytes d7) rfl ?_
    exact Steps.refl _)
  have e0 : lo8 (ushr (Int32.ofNat B.slots.size - Int32.ofNat B.slots.size) 31) = 0 := by rw [Int32.sub_self]; decide
  rw [e0] at c3
  exact ⟨s₁, some (.int 0), _, _, _, X0, rfl, rfl, rfl, (fun h => by cases h), ⟨rfl, hh0⟩, fun fs hl => c3.trans (X0.ireturnOut hexec hret rfl (Or.inr (Or.inr (Or.inl rfl))) (hb hbytes d8) hl)⟩
end CodL
/-- the String at a is Latin-1 over a new byte[] (the heap's one new cell): the low bytes of the len chars of A from o on; every cell but a is kept -/
def Got (a : Addr) (D : Cell) (fV fC : Field) (A : Cell) (o len : Nat) (r : Option Value) (s u : State) : Prop := r = none ∧ ∃ D' V : Cell, Blank "java/lang/String" a D' u ∧ Same D D' [fV.slot, fC.slot] ∧ D'.slots[fV.slot]? = some (.ref s.heap.size) ∧ D'.slots[fC.slot]? = some (.int 0) ∧ Arr .byte s.heap.size V u ∧ V.vm = .none ∧ u.vm.findClass "[B" = some V.cls ∧ V.slots.size = len ∧ (∀ j, j < len → V.slots[j]? = some (.int (lo8 (cv A (o + j))))) ∧ (∀ (y : Addr) (c : Cell), y ≠ a → s.heap[y]? = some c → u.heap[y]? = some c) ∧ u.heap.size = s.heap.size + 1
theorem Got.mv {a : Addr} {D A : Cell} {fV fC : Field} {o len : Nat} : ∀ r (U U' V V' : State), U'.heap = U.heap → V.vm.Alike V'.vm → V'.heap = V.heap → Got a D fV fC A o len r U V → Got a D fV fC A o len r U' V' :=
  fun r U U' V V' h1 hal h2 ⟨e0, D', X, a1, a2, a3, a4, a5, a6, a7, a8, a9, a10, a11⟩ => ⟨e0, D', X, a1.mv hal h2, a2, by rw [h1]; exact a3, a4, by rw [h1]; exact a5.mv hal h2, a6, by rw [hal.findClass]; exact a7, a8, a9, by rw [h1, h2]; exact a10, by rw [h1, h2]; exact a11⟩
namespace New4
def yN : MethodName := ⟨"java/lang/String", "<init>", "([CIILjava/lang/Void;)V"⟩
abbrev yB : ByteArray := jdk_42_method_149_code
theorem d0 : decode yB 0 = .ok (.aload_n 0, 1) := by decide +kernel
theorem d1 : decode yB 1 = .ok (.invokespecial 1, 3) := by decide +kernel
theorem d4 : decode yB 4 = .ok (.iload_n 3, 1) := by decide +kernel
theorem d5 : decode yB 5 = .ok (.ifCond (.ne) 22, 3) := by decide +kernel
theorem d27 : decode yB 27 = .ok (.getstatic 38, 3) := by decide +kernel
theorem d30 : decode yB 30 = .ok (.ifCond (.eq) 28, 3) := by decide +kernel
theorem d33 : decode yB 33 = .ok (.aload_n 1, 1) := by decide +kernel
theorem d34 : decode yB 34 = .ok (.iload_n 2, 1) := by decide +kernel
theorem d35 : decode yB 35 = .ok (.iload_n 3, 1) := by decide +kernel
theorem d36 : decode yB 36 = .ok (.invokestatic 177, 3) := by decide +kernel
theorem d39 : decode yB 39 = .ok (.astore 5, 2) := by decide +kernel
theorem d41 : decode yB 41 = .ok (.aload_n 0, 1) := by decide +kernel
theorem d42 : decode yB 42 = .ok (.aload 5, 2) := by decide +kernel
theorem d44 : decode yB 44 = .ok (.iload_n 3, 1) := by decide +kernel
theorem d45 : decode yB 45 = .ok (.invokestatic 47, 3) := by decide +kernel
theorem d48 : decode yB 48 = .ok (.putfield 15, 3) := by decide +kernel
theorem d51 : decode yB 51 = .ok (.aload_n 0, 1) := by decide +kernel
theorem d52 : decode yB 52 = .ok (.aload 5, 2) := by decide +kernel
theorem d54 : decode yB 54 = .ok (.putfield 9, 3) := by decide +kernel
theorem d57 : decode yB 57 = .ok (.return_, 1) := by decide +kernel
def site : List Cond := [.fieldLink "java/lang/String" 38 "java/lang/String" "COMPACT_STRINGS" "Z", Cmp3.tab, CodL.tab, .laysFinal "java/lang/String" "java/lang/String" "value" "[B", .fieldLink "java/lang/String" 9 "java/lang/String" "value" "[B", .laysFinal "java/lang/String" "java/lang/String" "coder" "B", .fieldLink "java/lang/String" 15 "java/lang/String" "coder" "B"] ++ objW "java/lang/String" 1 ++ staticW "java/lang/String" 177 Cmp3.yN ++ staticW "java/lang/String" 47 CodL.yN
def tab : Cond := tabOf yN yB 6 none site
def P (a : Addr) (D : Cell) (fV fC : Field) (b : Addr) (A : Cell) (z : Int32) (o len : Nat) (args : Array Value) (s : State) : Prop := args = #[.ref a, .ref b, .int (Int32.ofNat o), .int (Int32.ofNat len), .null] ∧ Blank "java/lang/String" a D s ∧ Found "java/lang/String" "value" "[B" fV s ∧ Found "java/lang/String" "coder" "B" fC s ∧ Ch b A s ∧ StaticIs s "java/lang/String" "COMPACT_STRINGS" "Z" (.int z) ∧ ¬ z = 0 ∧ 0 < len ∧ o + len ≤ A.slots.size ∧ len ≤ 536870912 ∧ ∀ i, i < len → ¬ 255 < cv A (o + i)
def E (a : Addr) (D : Cell) (fV fC : Field) (A : Cell) (o len : Nat) (r : Option Value) (s u : State) : Prop := Got a D fV fC A o len r s u
/-- len > 0, no char of the range above 255: a Latin-1 String of their low bytes -/
theorem law (l : Launch) (a : Addr) (D : Cell) (fV fC : Field) (b : Addr) (A : Cell) (z : Int32) (o len : Nat) : Law l yN 5 4 2 35 yB 6 none site (P a D fV fC b A z o len) (E a D fV fC A o len) [⟨a, fC.slot⟩, ⟨a, fV.slot⟩] 1 len := by
  refine Law.of_walk (plainFor_of_name (by decide +kernel)) (by decide +kernel) (by decide +kernel) (by decide) (fun _ _ h => by rw [h.1]; rfl) (fun _ U U' hal hh h => ⟨h.1, h.2.1.mv hal hh, h.2.2.1.al hal, h.2.2.2.1.al hal, h.2.2.2.2.1.mv hal hh, h.2.2.2.2.2.1.there hal hh, h.2.2.2.2.2.2⟩) (fun r U U' V V' h1 hal h2 h => Got.mv r U U' V V' h1 hal h2 h) ?_
  intro p e s m args below meth c s₁ X0 hexec hbytes hml hret hlk hnm hown hh0 W hP
  obtain ⟨rfl, hB, f1, f2, hA, s1, hz, l0, l1, l2, hp⟩ := hP
  have a31 := hA.1.2.2.2
  have c1 : Steps p.tables e below (s₁.setTop (entryFrame m #[.ref a, .ref b, .int (Int32.ofNat o), .int (Int32.ofNat len), .null] 6)) (s₁.setTop (mkF m 0 #[.val (.ref a), .val (.ref b), .val (.int (Int32.ofNat o)), .val (.int (Int32.ofNat len)), .val .null, .unset] [])) := entry rfl
  have c2 : Steps p.tables e below (s₁.setTop (entryFrame m #[.ref a, .ref b, .int (Int32.ofNat o), .int (Int32.ofNat len), .null] 6)) (s₁.setTop (mkF m 1 #[.val (.ref a), .val (.ref b), .val (.int (Int32.ofNat o)), .val (.int (Int32.ofNat len)), .val .null, .unset] [.ref a])) := c1.trans (by
    refine XS.aloadN X0.here hexec rfl (hb hbytes d0) rfl rfl ?_
    exact Steps.refl _)
  obtain ⟨T3, X3, q3, st3⟩ := X0.oinit hexec hown (wks W (objW "java/lang/String" 1)) (g := (mkF m 1 #[.val (.ref a), .val (.ref b), .val (.int (Int32.ofNat o)), .val (.int (Int32.ofNat len)), .val .null, .unset] [.ref a])) rfl (by rw [hml]; rfl) (rest := []) rfl (hb hbytes d1) (W := 0) (by show 2 * 0 + 0 ≤ _; decide) (Nat.le_of_ble_eq_true rfl) (Nat.le_of_ble_eq_true rfl)
  have hh3 := q3.trans hh0
  have c4 : Steps p.tables e below (s₁.setTop (entryFrame m #[.ref a, .ref b, .int (Int32.ofNat o), .int (Int32.ofNat len), .null] 6)) (T3.setTop (mkF m 27 #[.val (.ref a), .val (.ref b), .val (.int (Int32.ofNat o)), .val (.int (Int32.ofNat len)), .val .null, .unset] [])) := (c2.trans (st3 _ (Steps.refl _))).trans (by
    refine XS.iloadN X3.here hexec rfl (hb hbytes d4) rfl ?_
    refine XS.ifYes X3.here hexec rfl (pc0 := 5) rfl (hb hbytes d5) rfl (i0_ne_t (nz32 (by omega) l0)) (by decide) rfl ?_
    exact Steps.refl _)
  obtain ⟨T5, X5, q5, st5⟩ := X3.sget hexec hown (wk W (.fieldLink "java/lang/String" 38 "java/lang/String" "COMPACT_STRINGS" "Z")) s1 (fun _ _ h => by rw [hh3]; exact h) (g := (mkF m 27 #[.val (.ref a), .val (.ref b), .val (.int (Int32.ofNat o)), .val (.int (Int32.ofNat len)), .val .null, .unset] [])) rfl (hb hbytes d27)
  have hh5 := q5.trans hh3
  have c6 : Steps p.tables e below (s₁.setTop (entryFrame m #[.ref a, .ref b, .int (Int32.ofNat o), .int (Int32.ofNat len), .null] 6)) (T5.setTop (mkF m 30 #[.val (.ref a), .val (.ref b), .val (.int (Int32.ofNat o)), .val (.int (Int32.ofNat len)), .val .null, .unset] [.int z])) := c4.trans (st5 _ (Steps.refl _))
  have c7 : Steps p.tables e below (s₁.setTop (entryFrame m #[.ref a, .ref b, .int (Int32.ofNat o), .int (Int32.ofNat len), .null] 6)) (T5.setTop (mkF m 36 #[.val (.ref a), .val (.ref b), .val (.int (Int32.ofNat o)), .val (.int (Int32.ofNat len)), .val .null, .unset] [.int (Int32.ofNat len), .int (Int32.ofNat o), .ref b])) := c6.trans (by
    refine XS.ifNo X5.here hexec rfl (hb hbytes d30) rfl (i0_eq_f hz) ?_
    refine XS.aloadN X5.here hexec rfl (hb hbytes d33) rfl rfl ?_
    refine XS.iloadN X5.here hexec rfl (hb hbytes d34) rfl ?_
    refine XS.iloadN X5.here hexec rfl (hb hbytes d35) rfl ?_
    exact Steps.refl _)
  obtain ⟨v8, T8, X8, E8, g8⟩ := X5.callS hexec (Cmp3.law l b A o len) hown (wks W (staticW "java/lang/String" 177 Cmp3.yN)) (wk W Cmp3.tab) (W := 0) (Nat.le_of_ble_eq_true rfl) (Nat.le_of_ble_eq_true rfl) (Nat.le_refl _) (by show 0 + len ≤ len; omega) (g := (mkF m 36 #[.val (.ref a), .val (.ref b), .val (.int (Int32.ofNat o)), .val (.int (Int32.ofNat len)), .val .null, .unset] [.int (Int32.ofNat len), .int (Int32.ofNat o), .ref b])) rfl (by rw [hml]; rfl) c7 (argsL := [.ref b, .int (Int32.ofNat o), .int (Int32.ofNat len)]) (rest := []) rfl rfl (by show 2 * 0 + 0 ≤ _; decide) (hb hbytes d36) (⟨rfl, hA.mv X5.warmed.alike hh5, l1, l2, hp⟩)
  obtain ⟨e8, z8⟩ := E8
  obtain ⟨rfl, N, n1, n2, n3, n4, n5, n6⟩ := NewArr.mv _ T5 s _ _ hh5.symm (Vm.Alike.refl _) rfl e8
  rw [hh5] at z8
  have hB1 := hB.keep X8.warmed.alike (n6 _ _ hB.1)
  have hne : s.heap.size ≠ a := (Nat.ne_of_lt (Array.getElem?_eq_some_iff.mp hB.1).1).symm
  have c9 : Steps p.tables e below (s₁.setTop (entryFrame m #[.ref a, .ref b, .int (Int32.ofNat o), .int (Int32.ofNat len), .null] 6)) (T8.setTop (mkF m 39 #[.val (.ref a), .val (.ref b), .val (.int (Int32.ofNat o)), .val (.int (Int32.ofNat len)), .val .null, .unset] [.ref s.heap.size])) := g8
  have c10 : Steps p.tables e below (s₁.setTop (entryFrame m #[.ref a, .ref b, .int (Int32.ofNat o), .int (Int32.ofNat len), .null] 6)) (T8.setTop (mkF m 45 #[.val (.ref a), .val (.ref b), .val (.int (Int32.ofNat o)), .val (.int (Int32.ofNat len)), .val .null, .val (.ref s.heap.size)] [.int (Int32.ofNat N.slots.size), .ref s.heap.size, .ref a])) := by
    have hc : Steps p.tables e below (s₁.setTop (entryFrame m #[.ref a, .ref b, .int (Int32.ofNat o), .int (Int32.ofNat len), .null] 6)) (T8.setTop (mkF m 45 #[.val (.ref a), .val (.ref b), .val (.int (Int32.ofNat o)), .val (.int (Int32.ofNat len)), .val .null, .val (.ref s.heap.size)] [.int (Int32.ofNat len), .ref s.heap.size, .ref a])) := c9.trans (by
      refine XS.astore X8.here hexec rfl (hb hbytes d39) rfl rfl rfl ?_
      refine XS.aloadN X8.here hexec rfl (hb hbytes d41) rfl rfl ?_
      refine XS.aload X8.here hexec rfl (hb hbytes d42) rfl rfl ?_
      refine XS.iloadN X8.here hexec rfl (hb hbytes d44) rfl ?_
      exact Steps.refl _)
    rw [n4]; exact hc
  obtain ⟨v11, T11, X11, E11, g11⟩ := X8.callS hexec (CodL.law l s.heap.size N) hown (wks W (staticW "java/lang/String" 47 CodL.yN)) (wk W CodL.tab) (W := 1) (Nat.le_of_ble_eq_true rfl) (Nat.le_of_ble_eq_true rfl) (Nat.le_refl _) (by show 0 + len + 0 ≤ len; omega) (g := (mkF m 45 #[.val (.ref a), .val (.ref b), .val (.int (Int32.ofNat o)), .val (.int (Int32.ofNat len)), .val .null, .val (.ref s.heap.size)] [.int (Int32.ofNat N.slots.size), .ref s.heap.size, .ref a])) rfl (by rw [hml]; rfl) c10 (argsL := [.ref s.heap.size, .int (Int32.ofNat N.slots.size)]) (rest := [.ref a]) rfl rfl (by show 2 * 0 + (1 + 0) ≤ _; decide) (hb hbytes d45) (⟨rfl, n1⟩)
  obtain ⟨rfl, q11⟩ := E11
  have hB11 := hB1.mv (X8.warmed.alike.symm.trans X11.warmed.alike) q11
  have c12 : Steps p.tables e below (s₁.setTop (entryFrame m #[.ref a, .ref b, .int (Int32.ofNat o), .int (Int32.ofNat len), .null] 6)) (T11.setTop (mkF m 48 #[.val (.ref a), .val (.ref b), .val (.int (Int32.ofNat o)), .val (.int (Int32.ofNat len)), .val .null, .val (.ref s.heap.size)] [.int 0, .ref a])) := g11
  obtain ⟨T13, X13, p13, bl13, sl13, st13⟩ := X11.finit hexec hown (wk W (.fieldLink "java/lang/String" 15 "java/lang/String" "coder" "B")) (Or.inr ⟨_, (wk W (.laysFinal "java/lang/String" "java/lang/String" "coder" "B"))⟩) (Or.inl ⟨rfl, hnm⟩) f2 (Or.inl rfl) hB11 (t := .byte) (by decide +kernel) rfl (g := (mkF m 48 #[.val (.ref a), .val (.ref b), .val (.int (Int32.ofNat o)), .val (.int (Int32.ofNat len)), .val .null, .val (.ref s.heap.size)] [.int 0, .ref a])) rfl (rest := []) rfl (hb hbytes d48)
  have c14 : Steps p.tables e below (s₁.setTop (entryFrame m #[.ref a, .ref b, .int (Int32.ofNat o), .int (Int32.ofNat len), .null] 6)) (T13.setTop (mkF m 54 #[.val (.ref a), .val (.ref b), .val (.int (Int32.ofNat o)), .val (.int (Int32.ofNat len)), .val .null, .val (.ref s.heap.size)] [.ref s.heap.size, .ref a])) := (c12.trans (st13 _ (Steps.refl _))).trans (by
    refine XS.aloadN X13.here hexec rfl (hb hbytes d51) rfl rfl ?_
    refine XS.aload X13.here hexec rfl (hb hbytes d52) rfl rfl ?_
    exact Steps.refl _)
  obtain ⟨T15, X15, p15, bl15, sl15, st15⟩ := X13.finit hexec hown (wk W (.fieldLink "java/lang/String" 9 "java/lang/String" "value" "[B")) (Or.inr ⟨_, (wk W (.laysFinal "java/lang/String" "java/lang/String" "value" "[B"))⟩) (Or.inl ⟨rfl, hnm⟩) f1 (Or.inl rfl) bl13 (t := (.array .byte)) (by decide +kernel) rfl (g := (mkF m 54 #[.val (.ref a), .val (.ref b), .val (.int (Int32.ofNat o)), .val (.int (Int32.ofNat len)), .val .null, .val (.ref s.heap.size)] [.ref s.heap.size, .ref a])) rfl (rest := []) rfl (hb hbytes d54)
  have c16 : Steps p.tables e below (s₁.setTop (entryFrame m #[.ref a, .ref b, .int (Int32.ofNat o), .int (Int32.ofNat len), .null] 6)) (T15.setTop (mkF m 57 #[.val (.ref a), .val (.ref b), .val (.int (Int32.ofNat o)), .val (.int (Int32.ofNat len)), .val .null, .val (.ref s.heap.size)] [])) := c14.trans (st15 _ (Steps.refl _))
  have ap := apart (Or.inr ⟨_, (wk W (.laysFinal "java/lang/String" "java/lang/String" "value" "[B"))⟩) (Or.inr ⟨_, (wk W (.laysFinal "java/lang/String" "java/lang/String" "coder" "B"))⟩) f1 f2 (t₁ := .array .byte) (t₂ := .byte) (by decide +kernel) (by decide +kernel) (by decide)
  have al := X8.warmed.alike.symm.trans X15.warmed.alike
  have n7 : T11.heap[s.heap.size]? = some N := by rw [q11]; exact n1.1
  exact ⟨T15, none, _, _, _, X15, by simp, rfl, by omega, (fun _ => rfl), ⟨rfl, _, N, bl15, ((Same.refl D _).set _ (by simp)).set _ (by simp), sl15, (Cell.slots_setSlot_ne _ ap).trans sl13, n1.keep al (p15.other hne (p13.other hne n7)), n2, by rw [al.findClass]; exact n3, n4, n5, fun y c h1 h2 => p15.other h1 (p13.other h1 (by rw [q11]; exact n6 y c h2)), by rw [p15.2.2, p13.2.2, q11]; exact z8⟩, fun fs hl => c16.trans (X15.returnOut hexec hret (hb hbytes d57) hl)⟩
end New4
namespace New1
def yN : MethodName := ⟨"java/lang/String", "<init>", "([C)V"⟩
abbrev yB : ByteArray := jdk_42_method_3_code
theorem d0 : decode yB 0 = .ok (.aload_n 0, 1) := by decide +kernel
theorem d1 : decode yB 1 = .ok (.aload_n 1, 1) := by decide +kernel
theorem d2 : decode yB 2 = .ok (.iconst 0, 1) := by decide +kernel
theorem d3 : decode yB 3 = .ok (.aload_n 1, 1) := by decide +kernel
theorem d4 : decode yB 4 = .ok (.arraylength, 1) := by decide +kernel
theorem d5 : decode yB 5 = .ok (.aconst_null, 1) := by decide +kernel
theorem d6 : decode yB 6 = .ok (.invokespecial 27, 3) := by decide +kernel
theorem d9 : decode yB 9 = .ok (.return_, 1) := by decide +kernel
def site : List Cond := [New4.tab] ++ initW "java/lang/String" 27 New4.yN
def tab : Cond := tabOf yN yB 2 none site
def P (a : Addr) (D : Cell) (fV fC : Field) (b : Addr) (A : Cell) (z : Int32) (args : Array Value) (s : State) : Prop := args = #[.ref a, .ref b] ∧ Blank "java/lang/String" a D s ∧ Found "java/lang/String" "value" "[B" fV s ∧ Found "java/lang/String" "coder" "B" fC s ∧ Ch b A s ∧ StaticIs s "java/lang/String" "COMPACT_STRINGS" "Z" (.int z) ∧ ¬ z = 0 ∧ 0 < A.slots.size ∧ A.slots.size ≤ 536870912 ∧ ∀ i, i < A.slots.size → ¬ 255 < cv A i
def E (a : Addr) (D : Cell) (fV fC : Field) (A : Cell) (r : Option Value) (s u : State) : Prop := Got a D fV fC A 0 A.slots.size r s u
/-- new String(chars), not empty, no char above 255: a Latin-1 String of their low bytes -/
theorem law (l : Launch) (a : Addr) (D : Cell) (fV fC : Field) (b : Addr) (A : Cell) (z : Int32) : Law l yN 2 1 3 52 yB 2 none site (P a D fV fC b A z) (E a D fV fC A) [⟨a, fC.slot⟩, ⟨a, fV.slot⟩] 1 A.slots.size := by
  refine Law.of_walk (plainFor_of_name (by decide +kernel)) (by decide +kernel) (by decide +kernel) (by decide) (fun _ _ h => by rw [h.1]; rfl) (fun _ U U' hal hh h => ⟨h.1, h.2.1.mv hal hh, h.2.2.1.al hal, h.2.2.2.1.al hal, h.2.2.2.2.1.mv hal hh, h.2.2.2.2.2.1.there hal hh, h.2.2.2.2.2.2⟩) (fun r U U' V V' h1 hal h2 h => Got.mv r U U' V V' h1 hal h2 h) ?_
  intro p e s m args below meth c s₁ X0 hexec hbytes hml hret hlk hnm hown hh0 W hP
  obtain ⟨rfl, hB, f1, f2, hA, s1, hz, l0, l2, hp⟩ := hP
  have c1 : Steps p.tables e below (s₁.setTop (entryFrame m #[.ref a, .ref b] 2)) (s₁.setTop (mkF m 0 #[.val (.ref a), .val (.ref b)] [])) := entry rfl
  have c2 : Steps p.tables e below (s₁.setTop (entryFrame m #[.ref a, .ref b] 2)) (s₁.setTop (mkF m 6 #[.val (.ref a), .val (.ref b)] [.null, .int (Int32.ofNat A.slots.size), .int 0, .ref b, .ref a])) := c1.trans (by
    refine XS.aloadN X0.here hexec rfl (hb hbytes d0) rfl rfl ?_
    refine XS.aloadN X0.here hexec rfl (hb hbytes d1) rfl rfl ?_
    refine iconstV X0.here hexec rfl 0 (hb hbytes d2) (by decide) ?_
    refine XS.aloadN X0.here hexec rfl (hb hbytes d3) rfl rfl ?_
    refine X0.alen hexec (hA.1.mv X0.warmed.alike hh0) rfl rfl (hb hbytes d4) ?_
    refine XS.aconstNull X0.here hexec rfl (hb hbytes d5) ?_
    exact Steps.refl _)
  obtain ⟨v3, T3, X3, E3, g3⟩ := X0.callN hexec (New4.law l a D fV fC b A z 0 A.slots.size) rfl hown (wks W (initW "java/lang/String" 27 New4.yN)) (W New4.tab (by simp only [site, List.mem_cons, List.mem_append, true_or, or_true])) (W := 0) (Nat.le_of_ble_eq_true rfl) (Nat.le_of_ble_eq_true rfl) (Nat.le_refl _) (by show 0 + A.slots.size ≤ A.slots.size; omega) (g := (mkF m 6 #[.val (.ref a), .val (.ref b)] [.null, .int (Int32.ofNat A.slots.size), .int (Int32.ofNat 0), .ref b, .ref a])) rfl (by rw [hml]; rfl) c2 (argsL := [.ref b, .int (Int32.ofNat 0), .int (Int32.ofNat A.slots.size), .null]) (rest := []) rfl rfl (by show 2 * 0 + 0 ≤ _; decide) (hb hbytes d6) (⟨rfl, hB.mv X0.warmed.alike hh0, f1.al X0.warmed.alike, f2.al X0.warmed.alike, hA.mv X0.warmed.alike hh0, s1.there X0.warmed.alike hh0, hz, l0, by omega, l2, fun i hi => by rw [Nat.zero_add]; exact hp i hi⟩)
  have e0 := Got.mv _ s₁ s _ _ hh0.symm (Vm.Alike.refl _) rfl E3
  obtain rfl := e0.1
  have c4 : Steps p.tables e below (s₁.setTop (entryFrame m #[.ref a, .ref b] 2)) (T3.setTop (mkF m 9 #[.val (.ref a), .val (.ref b)] [])) := g3
  exact ⟨T3, none, _, _, _, X3, by simp, rfl, by omega, (fun _ => rfl), e0, fun fs hl => c4.trans (X3.returnOut hexec hret (hb hbytes d9) hl)⟩
theorem pays {l : Launch} {R : Room} {p : Program} {e : Env} {below : List Frame} {s : State} {sargs : Array Value} {len W : Nat} (a : Addr) (D : Cell) (fV fC : Field) (b : Addr) (A : Cell) (z : Int32) (htab : tab.before sargs s = true) (hfr : 4 ≤ R.frames) (hlo : W + 65 ≤ R.locals) :
    Back l R p e below s sargs yN len W (fun A₁ a₁ => A₁.cells + 1 ≤ R.cells ∧ A₁.slots + A.slots.size ≤ R.slots ∧ P a D fV fC b A z a₁ A₁.U) (fun A₁ _ v₁ B₁ => E a D fV fC A v₁ A₁.U B₁.U ∧ B₁.locs = A₁.locs ++ [⟨a, fC.slot⟩, ⟨a, fV.slot⟩] ∧ B₁.cells = A₁.cells + 1 ∧ B₁.slots = A₁.slots + A.slots.size) :=
  (law l a D fV fC b A z).pays htab hfr (by omega)
end New1
/-- the byte, read back as charAt reads it, is the char -/
theorem lo8_mask {x : Int32} (h0 : ¬ x < 0) (h1 : ¬ 255 < x) : lo8 x &&& 255 = x := by
  have t : ∀ k : Fin 256, lo8 (Int32.ofNat k.val) &&& 255 = Int32.ofNat k.val := by decide +kernel
  rw [Int32.lt_iff_toInt_lt] at h0 h1
  have e0 : (0 : Int32).toInt = 0 := rfl
  have e1 : (255 : Int32).toInt = 255 := rfl
  obtain ⟨k, hk⟩ : ∃ k : Nat, x.toInt = k := ⟨x.toInt.toNat, by omega⟩
  have hx : x = Int32.ofNat k := Int32.toInt_inj.mp (by rw [hk, Int32.toInt_ofNat_small (by omega)])
  rw [hx]
  exact t ⟨k, by omega⟩
end StrChars
namespace StrChars.Road
open Jvm Sem ClassFile Op Lib Jvm.Stand Jvm.Free Jvm.Free.XT
open Jvm.Lib.Cold (StaticIs)
abbrev ST : String := "java/lang/String"
/-- every table word that New1's law asks, flat -/
abbrev words : List Jvm.Cond := [.code New1.yN New1.yB 2 none, .initialized ST, .methodLink ST 27 New4.yN, .instanceMethod New4.yN,
  .code New4.yN New4.yB 6 none, .fieldLink ST 38 ST "COMPACT_STRINGS" "Z", .laysFinal ST ST "value" "[B", .fieldLink ST 9 ST "value" "[B", .laysFinal ST ST "coder" "B", .fieldLink ST 15 ST "coder" "B",
  .methodLink ST 1 Lib.objectInit, .instanceMethod Lib.objectInit, .code Lib.objectInit ⟨#[0xb1]⟩ 1 none, .methodLink ST 177 Cmp3.yN, .static Cmp3.yN, .methodLink ST 47 CodL.yN, .static CodL.yN,
  .code Cmp3.yN Cmp3.yB 6 (some (.array .byte)), .initialized U16, .arrayClass .byte, .methodLink U16 115 Cmp5.yN, .static Cmp5.yN, .code Cmp5.yN Cmp5.yB 7 (some .int), .code CodL.yN CodL.yB 2 (some .byte)]
theorem tab_of {a : Array Value} {s : State} (h : ∀ w ∈ words, w.before a s = true) : New1.tab.before a s = true := by
  have h5 : Cmp5.tab.before a s = true := unparts (wk h (.code Cmp5.yN Cmp5.yB 7 (some .int))) (wks h (.initialized Cmp5.yN.cls :: Cmp5.site))
  have hc : CodL.tab.before a s = true := unparts (wk h (.code CodL.yN CodL.yB 2 (some .byte))) (wks h (.initialized CodL.yN.cls :: CodL.site))
  have q5 : ∀ w ∈ Cmp5.tab :: words, w.before a s = true := fun w hw => (List.mem_cons.mp hw).elim (fun e => e ▸ h5) (h w)
  have h3 : Cmp3.tab.before a s = true := unparts (wk q5 (.code Cmp3.yN Cmp3.yB 6 (some (.array .byte)))) (wks q5 (.initialized Cmp3.yN.cls :: Cmp3.site))
  have q3 : ∀ w ∈ Cmp3.tab :: CodL.tab :: words, w.before a s = true := fun w hw => (List.mem_cons.mp hw).elim (fun e => e ▸ h3) fun hw => (List.mem_cons.mp hw).elim (fun e => e ▸ hc) (h w)
  have h4 : New4.tab.before a s = true := unparts (wk q3 (.code New4.yN New4.yB 6 none)) (wks q3 (.initialized New4.yN.cls :: New4.site))
  have q4 : ∀ w ∈ New4.tab :: words, w.before a s = true := fun w hw => (List.mem_cons.mp hw).elim (fun e => e ▸ h4) (h w)
  exact unparts (wk q4 (.code New1.yN New1.yB 2 none)) (wks q4 (.initialized New1.yN.cls :: New1.site))
/-- the words ride from the start Z to the walk's own state -/
theorem moved {Z s : State} {a0 args : Array Value} (hZ : Z.Warmed39 s.vm) (hw : ∀ d ∈ words, d.before a0 Z = true) : ∀ d ∈ words, d.before args s = true := fun d hd => by
  have q := hw d hd
  have t : ∀ d ∈ words, d = .arrayClass .byte ∨ (d.onTables && d.keepsFace) = true := by decide +kernel
  rcases t d hd with rfl | t
  · exact RoadKit.mvA hZ q
  · exact RoadKit.mv hZ q t
/-- WHAT COMES BACK, over the tables of the start Z: h the heap at the call, h' behind it -/
def Q (Z : State) (x : Addr) (A : Cell) (h : Heap) (v : Option Value) (h' : Heap) (L : List Loc) : Prop := v = none ∧ (∀ y ∈ L, y.base = x) ∧ RoadKit.Keep h h' [x] ∧ h'.size = h.size + 1 ∧ RoadKit.Exa Z h' x ST ∧ RoadKit.Fld Z h' x ST "value" "[B" (.ref h.size) ∧ RoadKit.Fld Z h' x ST "coder" "B" (.int 0) ∧
  (∃ V : Cell, RoadKit.Arr Z h' h.size V .byte ∧ V.vm = .none ∧ Z.vm.findClass "[B" = some V.cls ∧ V.slots.size = A.slots.size ∧ ∀ j, j < A.slots.size → V.slots[j]? = some (.int (lo8 (cv A j)))) ∧
  ∀ (O n d : String) (w : Value), RoadKit.Fld Z h x O n d w → RoadKit.slotOf Z O n d ≠ RoadKit.slotOf Z ST "value" "[B" → RoadKit.slotOf Z O n d ≠ RoadKit.slotOf Z ST "coder" "B" → RoadKit.Fld Z h' x O n d w
/-- **new String(chars) AT A CALL, IN THE ROAD'S FORM**: for specialBack behind newO: x the fresh String, b the char[] with the cell A -/
theorem back {p : Program} {l : Launch} {e : Env} {R : Room} {s : State} {args : Array Value} {below : List Frame} {len W : Nat} {Z : State} {a0 : Array Value} {h : Heap} (hZ : Z.Warmed39 s.vm) (hw : ∀ d ∈ words, d.before a0 Z = true) {kI : Nat} (wi : (Jvm.Cond.instantiable ST kI).before a0 Z = true)
    {x b : Addr} {A : Cell} {z : Int32} {v0 c0 : Value} (E : RoadKit.Exa Z h x ST) (V : RoadKit.Fld Z h x ST "value" "[B" v0) (C : RoadKit.Fld Z h x ST "coder" "B" c0) (K : RoadKit.Arr Z h b A .char) (hty : Typed .char A) (S : RoadKit.Sta Z h ST "COMPACT_STRINGS" "Z" (.int z)) (hz : ¬ z = 0)
    (l0 : 0 < A.slots.size) (l2 : A.slots.size ≤ 536870912) (hp : ∀ i, i < A.slots.size → ¬ 255 < cv A i) (hfr : 4 ≤ R.frames) (hlo : W + 65 ≤ R.locals) :
    Back l R p e below s args New1.yN len W (fun P a => a = #[.ref x, .ref b] ∧ P.U.heap = h ∧ P.cells + 1 ≤ R.cells ∧ P.slots + A.slots.size ≤ R.slots)
      (fun P _ v B => ∃ L, Q Z x A h v B.U.heap L ∧ B.locs = P.locs ++ L ∧ B.cells = P.cells + 1 ∧ B.slots = P.slots + A.slots.size) := by
  intro m meth c P g ig mk a X hg hsize hdg hW hn hp'
  obtain ⟨rfl, rfl, r1, r2⟩ := hp'
  have al : Z.vm.Alike P.U.vm := hZ.alike.trans X.warmed.alike
  obtain ⟨D, cfV, kV, iV, fV, hD, gV, stV, knV, obV, asV, slV⟩ := id V
  obtain ⟨D', cfC, kC, iC, fC, hD', gC, stC, -, -, asC, slC⟩ := id C
  cases hD.symm.trans hD'
  obtain ⟨D2, kD, e1, e2, e3, e4, e5⟩ := id E
  cases hD.symm.trans e1
  obtain ⟨c2, k2, i1, i2, i3, -⟩ := Cond.instantiable_spec wi
  cases e2.symm.trans i1
  cases e3.symm.trans i2
  obtain ⟨kU, u1, u2⟩ := al.2.2 _ _ e3
  have hB : Blank ST x D P.U := ⟨hD, ⟨knV, fun q hq => by rw [hq] at obV; cases obV⟩, by rw [al.findClass]; exact e2, kU, u1, by rw [u2]; exact i3, by rw [u2]; exact e5 i3⟩
  have F1 : Found ST "value" "[B" fV P.U := ⟨SBG.found_only al ⟨cfV, kV, iV, gV⟩, stV⟩
  have F2 : Found ST "coder" "B" fC P.U := ⟨SBG.found_only al ⟨cfC, kC, iC, gC⟩, stC⟩
  have hA : Ch b A P.U := ⟨⟨K.1, State.isArrayOf_alike al K.2.1, K.2.2, by omega⟩, hty⟩
  have hS : StaticIs P.U ST "COMPACT_STRINGS" "Z" (.int z) := by
    obtain ⟨cfS, iS, kS, fS, st, cS, t1, t2, t3, t4, t5, t6, t7⟩ := S
    exact StaticIs.there (s := { Z with heap := P.U.heap }) ⟨cfS, iS, kS, fS, st, cS, t1, t2, t3, t4, t5, (fun q => by rw [q] at t6; cases t6), t7⟩ al rfl
  obtain ⟨v, B, X', ⟨⟨hv, E', V', q1, q2, q3, q4, q5, q6, q7, q8, q9, q10, q11⟩, hl, hc, hs⟩, st⟩ := New1.pays x D fV fC b A z (tab_of (moved hZ hw)) hfr hlo m meth c P g ig mk _ X hg hsize hdg hW hn ⟨r1, r2, rfl, hB, F1, F2, hA, hS, hz, l0, l2, hp⟩
  have al' : Z.vm.Alike B.U.vm := hZ.alike.trans X'.warmed.alike
  have hsz : E'.slots.size = D.slots.size := by
    obtain ⟨-, -, -, kB, w1, w2, w3⟩ := q1
    obtain ⟨kB', y1, y2⟩ := al'.2.2 _ _ e3
    rw [q2.2.1] at w1
    cases w1.symm.trans y1
    rw [w3, e5 i3, y2]
  refine ⟨v, B, X', ⟨_, ⟨hv, ?_, ⟨by omega, fun y cy hy hn' => q10 y cy (by simpa using hn') hy, fun y cy hy => ?_⟩, q11, ⟨E', _, q1.1, by rw [q2.2.1]; exact e2, by rw [q2.2.1]; exact e3, by rw [q2.1]; exact obV, fun _ => by rw [hsz]; exact e5 i3⟩,
    ⟨E', cfV, kV, iV, fV, q1.1, gV, stV, by rw [q2.1]; exact knV, by rw [q2.1]; exact obV, by rw [q2.2.1]; exact asV, q3⟩, ⟨E', cfC, kC, iC, fC, q1.1, gC, stC, by rw [q2.1]; exact knV, by rw [q2.1]; exact obV, by rw [q2.2.1]; exact asC, q4⟩,
    ⟨V', ⟨q5.1, State.isArrayOf_alike al'.symm q5.2.1, q5.2.2.1⟩, q6, by rw [← al'.findClass]; exact q7, q8, fun j hj => by have := q9 j hj; rwa [Nat.zero_add] at this⟩, fun O n d w F n1 n2 => ?_⟩, hl, hc, hs⟩, st⟩
  · intro y hy
    simp only [List.mem_cons, List.not_mem_nil, or_false] at hy
    rcases hy with rfl | rfl <;> rfl
  · by_cases q : y = x
    · subst q
      cases hD.symm.trans hy
      exact ⟨E', q1.1, q2.2.1, q2.1, hsz⟩
    · exact ⟨cy, q10 y cy q hy, rfl, rfl, rfl⟩
  · obtain ⟨D3, cf, k, i, f, g1, g2, g3, g4, g5, g6, g7⟩ := F
    cases hD.symm.trans g1
    simp only [RoadKit.slotOf, g2, gV, gC, Option.map_some, Option.getD_some] at n1 n2
    exact ⟨E', cf, k, i, f, q1.1, g2, g3, by rw [q2.1]; exact g4, by rw [q2.1]; exact g5, by rw [q2.2.1]; exact g6, by rw [q2.2.2 f.slot (by simp [n1, n2])]; exact g7⟩
end StrChars.Road
namespace StrChars.Road
open Jvm Sem ClassFile Op Lib Jvm.Stand Jvm.Free Jvm.Free.XT
/-- WHAT COMES BACK, the byte[] as a list of values -/
def QA (Z : State) (x : Addr) (zn : Int32) (cs : List Int32) (h : Heap) (v : Option Value) (h' : Heap) (L : List Loc) : Prop := v = none ∧ (∀ y ∈ L, y.base = x) ∧ RoadKit.Keep h h' [x] ∧ h'.size = h.size + 1 ∧ RoadKit.Exa Z h' x ST ∧ RoadKit.Fld Z h' x ST "value" "[B" (.ref h.size) ∧ RoadKit.Fld Z h' x ST "coder" "B" (.int 0) ∧
  (∃ kb, Z.vm.findClass "[B" = some kb ∧ RoadKit.Arv Z h' h.size kb .byte zn (cs.map fun c => .int (lo8 c)) (.int 0)) ∧
  ∀ (O n d : String) (w : Value), RoadKit.Fld Z h x O n d w → RoadKit.slotOf Z O n d ≠ RoadKit.slotOf Z ST "value" "[B" → RoadKit.slotOf Z O n d ≠ RoadKit.slotOf Z ST "coder" "B" → RoadKit.Fld Z h' x O n d w
/-- **new String(chars) AT A CALL, THE ARRAYS AS LISTS**: the char[] at b holds cs, not empty, no char above 255 -/
theorem backArv {p : Program} {l : Launch} {e : Env} {R : Room} {s : State} {args : Array Value} {below : List Frame} {len W : Nat} {Z : State} {a0 : Array Value} {h : Heap} (hZ : Z.Warmed39 s.vm) (hw : ∀ d ∈ words, d.before a0 Z = true) {kI : Nat} (wi : (Jvm.Cond.instantiable ST kI).before a0 Z = true)
    {x b : Addr} {k : ClassId} {zn z : Int32} {cs : List Int32} {dv v0 c0 : Value} (E : RoadKit.Exa Z h x ST) (V : RoadKit.Fld Z h x ST "value" "[B" v0) (C : RoadKit.Fld Z h x ST "coder" "B" c0) (K : RoadKit.Arv Z h b k .char zn (cs.map Value.int) dv) (S : RoadKit.Sta Z h ST "COMPACT_STRINGS" "Z" (.int z)) (hz : ¬ z = 0)
    (hlen : zn.toNatClampNeg = cs.length) (h0 : 0 < cs.length) (hbig : cs.length ≤ 536870912) (hall : ∀ c ∈ cs, ¬ 255 < c) (hfr : 4 ≤ R.frames) (hlo : W + 65 ≤ R.locals) :
    Back l R p e below s args New1.yN len W (fun P a => a = #[.ref x, .ref b] ∧ P.U.heap = h ∧ P.cells + 1 ≤ R.cells ∧ P.slots + cs.length ≤ R.slots)
      (fun P _ v B => ∃ L, QA Z x zn cs h v B.U.heap L ∧ B.locs = P.locs ++ L ∧ B.cells = P.cells + 1 ∧ B.slots = P.slots + cs.length) := by
  obtain ⟨A, K1, K2, K3, K4, K5, K6⟩ := K
  have e : A.slots.size = cs.length := K3.trans hlen
  have hat : ∀ (i : Nat) (hi : i < cs.length), A.slots[i]? = some (.int cs[i]) := fun i hi => by rw [K5 i (by omega)]; simp [List.getD_eq_getElem?_getD, hi]
  have hcv : ∀ (i : Nat) (hi : i < cs.length), cv A i = cs[i] := fun i hi => by unfold cv; rw [hat i hi]
  have hty : Typed .char A := fun i v hv => by
    have hi : i < A.slots.size := (Array.getElem?_eq_some_iff.mp hv).1
    have q := K5 i hi
    rw [hv] at q
    rw [Option.some.inj q]
    exact K6 i hi
  refine Back.mono (back hZ hw wi E V C K1 hty S hz (by omega) (by omega) (fun i hi => by rw [hcv i (by omega)]; exact hall _ (List.getElem_mem _)) hfr hlo) (fun P a hp => ⟨hp.1, hp.2.1, hp.2.2.1, by rw [e]; exact hp.2.2.2⟩) (fun P a v B hp hq => ?_)
  obtain ⟨L, ⟨q1, q2, q3, q4, q5, q6, q7, ⟨V', v1, v2, v3, v4, v5⟩, q9⟩, hl, hc, hs⟩ := hq
  refine ⟨L, ⟨q1, q2, q3, q4, q5, q6, q7, ⟨V'.cls, v3, V', v1, rfl, by rw [v4, e, hlen], K4, fun i hi => ?_, fun i hi => ?_⟩, q9⟩, hl, hc, by rw [hs, e]⟩
  · have hi' : i < cs.length := by omega
    rw [v5 i (by omega), hcv i hi']; simp [List.getD_eq_getElem?_getD, hi']
  · have hi' : i < cs.length := by omega
    simp only [List.getD_eq_getElem?_getD, List.getElem?_map, List.getElem?_eq_getElem hi', Option.map_some, Option.getD_some]
    exact fits_lo8 _
end StrChars.Road
namespace StrChars.Road
open Jvm Sem ClassFile Op Lib Jvm.Stand Jvm.Free Jvm.Free.XT
/-- WHAT COMES BACK, in the writer's own shape -/
def QV (Z : State) (x : Addr) (N : Int32) (bs : List Int32) (h : Heap) (n0 : Nat) (v : Option Value) (h' : Heap) (L : List Loc) : Prop := v = none ∧ RoadKit.Fr n0 L ∧ RoadKit.Keep h h' [x] ∧ RoadKit.Exa Z h' x ST ∧ RoadKit.Fld Z h' x ST "coder" "B" (.int 0) ∧
  ∃ (t : Addr) (kb : ClassId), n0 ≤ t ∧ h.size ≤ t ∧ ¬ t = x ∧ RoadKit.Fld Z h' x ST "value" "[B" (.ref t) ∧ RoadKit.Arv Z h' t kb .byte N (bs.map Value.int) (.int 0)
/-- **new String(chars) AT A CALL, FOR THE WRITER**: a char[] of n known ints, each 0 to 255 -/
theorem backV {p : Program} {l : Launch} {e : Env} {R : Room} {s : State} {args : Array Value} {below : List Frame} {len W : Nat} {Z : State} {a0 : Array Value} {h : Heap} (hZ : Z.Warmed39 s.vm) (hw : ∀ d ∈ words, d.before a0 Z = true) {kI : Nat} (wi : (Jvm.Cond.instantiable ST kI).before a0 Z = true)
    {x b : Addr} {kC : ClassId} {cs bs : List Int32} {d v0 c0 : Value} {z N : Int32} {n n0 : Nat} (hx0 : n0 ≤ x) (hh0 : n0 ≤ h.size) (E : RoadKit.Exa Z h x ST) (V : RoadKit.Fld Z h x ST "value" "[B" v0) (C : RoadKit.Fld Z h x ST "coder" "B" c0) (K : RoadKit.Arv Z h b kC .char N (cs.map Value.int) d) (S : RoadKit.Sta Z h ST "COMPACT_STRINGS" "Z" (.int z)) (hz : ¬ z = 0)
    (hn : cs.length = n) (hN : N = Int32.ofNat n) (l0 : 0 < n) (l2 : n ≤ 4000) (hp : ∀ c ∈ cs, ¬ c < 0 ∧ ¬ (255 : Int32) < c) (hb : bs = cs.map (fun c => c.toInt8.toInt32)) (hfr : 4 ≤ R.frames) (hlo : W + 65 ≤ R.locals) :
    Back l R p e below s args (⟨"java/lang/String", "<init>", "([C)V"⟩ : MethodName) len W (fun P a => a = #[.ref x, .ref b] ∧ P.U.heap = h ∧ P.cells + 1 ≤ R.cells ∧ P.slots + n ≤ R.slots)
      (fun P _ v B => ∃ L, QV Z x N bs h n0 v B.U.heap L ∧ B.locs = P.locs ++ L ∧ B.cells = P.cells + 1 ∧ B.slots = P.slots + n) := by
  subst hn hN hb
  refine Back.mono (backArv hZ hw wi E V C K S hz (n32 (by omega)) l0 (by omega) (fun c hc => (hp c hc).2) hfr hlo) (fun P a hp => hp) (fun P a v B hp hq => ?_)
  obtain ⟨L, ⟨q1, q2, q3, q4, q5, q6, q7, ⟨kb, v1, v2⟩, q9⟩, hl, hc, hs⟩ := hq
  exact ⟨L, ⟨q1, fun y hy => by rw [q2 y hy]; exact hx0, q3, q5, q7, h.size, kb, hh0, Nat.le_refl _, Nat.ne_of_gt E.lt, q6, by rw [List.map_map]; exact v2⟩, hl, hc, hs⟩
end StrChars.Road
namespace StrChars
open Jvm Sem ClassFile Op Lib Jvm.Stand Jvm.Free.XT Jvm.Free.ALB Jvm.Free.JM Jvm.Free
open Jvm.Lib.Cold (StaticIs)
def hi8 (x : Int32) : Int32 := lo8 (x >>> ((8 : Int32) &&& 31))
/-- what StringUTF16.getChar makes of two bytes -/
def pairCh (u v : Int32) : Int32 := (((u &&& 255) <<< ((0 : Int32) &&& 31)) ||| ((v &&& 255) <<< ((8 : Int32) &&& 31))).toUInt32.toUInt16.toUInt32.toInt32
theorem lo8_and (x : Int32) : (lo8 x &&& 255).toBitVec.toNat = x.toBitVec.toNat % 256 := by
  have h : (lo8 x).toBitVec = (x.toBitVec.signExtend 8).signExtend 32 := by rw [lo8, Int8.toBitVec_toInt32, Int32.toBitVec_toInt8]
  rw [Int32.toBitVec_and, BitVec.toNat_and, h]
  have e : ((x.toBitVec.signExtend 8).signExtend 32).toNat % 256 = x.toBitVec.toNat % 256 := by
    rw [BitVec.toNat_signExtend]
    have hlt := x.toBitVec.isLt
    simp only [BitVec.toNat_setWidth, BitVec.toNat_signExtend]
    split <;> split <;> omega
  rw [← e]
  exact Nat.and_two_pow_sub_one_eq_mod _ 8
theorem pair_says {c : Int32} (h0 : ¬ c < 0) (h1 : ¬ 65535 < c) : pairCh (lo8 c) (hi8 c) = c := by
  rw [Int32.lt_iff_toInt_lt] at h0 h1
  have e0 : (0 : Int32).toInt = 0 := rfl
  have e1 : (65535 : Int32).toInt = 65535 := rfl
  have hc : c.toInt = c.toBitVec.toNat := by
    have := c.toBitVec.isLt
    have e : c.toInt = c.toBitVec.toInt := rfl
    rw [e] at h0 h1
    rw [e]
    rw [BitVec.toInt_eq_toNat_cond] at h0 h1 ⊢
    split at h0 <;> split <;> omega
  have hn : c.toBitVec.toNat < 65536 := by omega
  have a1 := lo8_and c
  have a2 : (hi8 c &&& 255).toBitVec.toNat = c.toBitVec.toNat / 256 := by
    rw [hi8, lo8_and]
    have e : ((8 : Int32) &&& 31) = 8 := by decide
    rw [e, Int32.toBitVec_shiftRight]
    have e2 : ((8 : Int32).toBitVec.smod 32) = 8#32 := by decide
    rw [e2, BitVec.sshiftRight_eq', BitVec.toNat_sshiftRight_of_msb_false (by rw [BitVec.msb_eq_false_iff_two_mul_lt]; omega)]
    show c.toBitVec.toNat >>> 8 % 256 = _
    rw [Nat.shiftRight_eq_div_pow]
    omega
  unfold pairCh
  apply Int32.toBitVec_inj.mp
  apply BitVec.eq_of_toNat_eq
  have f0 : ((0 : Int32) &&& 31) = 0 := by decide
  have f8 : ((8 : Int32) &&& 31) = 8 := by decide
  rw [f0, f8]
  have g : (((lo8 c &&& 255) <<< (0 : Int32)) ||| ((hi8 c &&& 255) <<< (8 : Int32))).toBitVec.toNat = c.toBitVec.toNat := by
    rw [Int32.toBitVec_or, Int32.toBitVec_shiftLeft, Int32.toBitVec_shiftLeft]
    have s0 : ((0 : Int32).toBitVec.smod 32) = 0#32 := by decide
    have s8 : ((8 : Int32).toBitVec.smod 32) = 8#32 := by decide
    rw [s0, s8, BitVec.toNat_or]
    simp only [BitVec.shiftLeft_eq', BitVec.toNat_shiftLeft, a1, a2]
    show (c.toBitVec.toNat % 256) <<< 0 % 2 ^ 32 ||| (c.toBitVec.toNat / 256) <<< 8 % 2 ^ 32 = _
    rw [Nat.shiftLeft_zero, Nat.mod_eq_of_lt (show c.toBitVec.toNat % 256 < 2 ^ 32 by omega), Nat.mod_eq_of_lt (show (c.toBitVec.toNat / 256) <<< 8 < 2 ^ 32 by rw [Nat.shiftLeft_eq]; omega), Nat.or_comm, ← Nat.shiftLeft_add_eq_or_of_lt (by omega), Nat.shiftLeft_eq]
    omega
  show BitVec.toNat (((((lo8 c &&& 255) <<< (0 : Int32)) ||| ((hi8 c &&& 255) <<< (8 : Int32))).toBitVec.setWidth 16).setWidth 32) = _
  rw [BitVec.toNat_setWidth, BitVec.toNat_setWidth, g]
  omega
end StrChars
namespace StrChars
open Jvm Sem ClassFile Op Lib Jvm.Stand Jvm.Free.XT Jvm.Free.ALB Jvm.Free.JM Jvm.Free
open Jvm.Lib.Cold (StaticIs)
/-- the array's cell V codes the n chars f 0 .. f (n - 1) by the coder cd, as the JDK does: coder 1 just where some char is above 255 -/
def Cod (cd : Int32) (n : Nat) (f : Nat → Int32) (V : Cell) : Prop := (cd = 0 ∧ V.slots.size = n ∧ ∀ j, j < n → V.slots[j]? = some (.int (lo8 (f j))) ∧ ¬ 255 < f j) ∨ (cd = 1 ∧ V.slots.size = 2 * n ∧ (∀ j, j < n → V.slots[2 * j]? = some (.int (lo8 (f j))) ∧ V.slots[2 * j + 1]? = some (.int (hi8 (f j)))) ∧ ∃ j, j < n ∧ 255 < f j)
/-- **x is a String of the n chars f 0 .. f (n - 1)**, Latin-1 or UTF-16; its array at t has the cell V -/
def Txt (x t : Addr) (V : Cell) (cd : Int32) (n : Nat) (f : Nat → Int32) (U : State) : Prop := Exact "java/lang/String" x U ∧ Has x "java/lang/String" "value" "[B" (.ref t) U ∧ Has x "java/lang/String" "coder" "B" (.int cd) U ∧ XT.Arr .byte t V U ∧ Cod cd n f V ∧ ∀ j, j < n → ¬ f j < 0 ∧ ¬ 65535 < f j
theorem Txt.mv {x t : Addr} {V : Cell} {cd : Int32} {n : Nat} {f : Nat → Int32} {U U' : State} (h : Txt x t V cd n f U) (hal : U.vm.Alike U'.vm) (hh : U'.heap = U.heap) : Txt x t V cd n f U' := ⟨h.1.mv hal hh, h.2.1.mv hal hh, h.2.2.1.mv hal hh, h.2.2.2.1.mv hal hh, h.2.2.2.2⟩
end StrChars
namespace StrChars.Road
open Jvm Sem ClassFile Op Lib Jvm.Stand Jvm.Free Jvm.Free.XT
open Jvm.Lib.Cold (StaticIs)
theorem consq {a : Array Value} {s : State} {c : Jvm.Cond} {L : List Jvm.Cond} (h0 : c.before a s = true) (h : ∀ w ∈ L, w.before a s = true) : ∀ w ∈ c :: L, w.before a s = true := fun w hw => (List.mem_cons.mp hw).elim (fun e => e ▸ h0) (h w)
/-- the bytes of the chars cs, low before high -/
def wideBytes : List Int32 → List Value
  | [] => []
  | c :: cs => .int (lo8 c) :: .int (hi8 c) :: wideBytes cs
theorem wide_lo (d : Value) : ∀ (cs : List Int32) (j : Nat), j < cs.length → (wideBytes cs).getD (2 * j) d = .int (lo8 (cs.getD j 0))
  | [], j, h => absurd h (Nat.not_lt_zero j)
  | c :: cs, 0, _ => rfl
  | c :: cs, j + 1, h => by
    have q := wide_lo d cs j (by simpa using h)
    rw [show 2 * (j + 1) = 2 * j + 1 + 1 from by omega]
    simpa [wideBytes] using q
theorem wide_hi (d : Value) : ∀ (cs : List Int32) (j : Nat), j < cs.length → (wideBytes cs).getD (2 * j + 1) d = .int (hi8 (cs.getD j 0))
  | [], j, h => absurd h (Nat.not_lt_zero j)
  | c :: cs, 0, _ => rfl
  | c :: cs, j + 1, h => by
    have q := wide_hi d cs j (by simpa using h)
    rw [show 2 * (j + 1) + 1 = 2 * j + 1 + 1 + 1 from by omega]
    simpa [wideBytes] using q
theorem low_at (d : Value) (cs : List Int32) (j : Nat) (h : j < cs.length) : (cs.map fun c => Value.int (lo8 c)).getD j d = .int (lo8 (cs.getD j 0)) := by
  simp [List.getD_eq_getElem?_getD, h]
/-- an array of N2 bytes vs codes the chars cs by the coder cd -/
def CodA (cs : List Int32) (cd N2 : Int32) (vs : List Value) : Prop := (cd = 0 ∧ N2 = Int32.ofNat cs.length ∧ vs = (cs.map fun c => Value.int (lo8 c)) ∧ ∀ c ∈ cs, ¬ 255 < c) ∨ (cd = 1 ∧ N2 = Int32.ofNat (2 * cs.length) ∧ vs = wideBytes cs ∧ ∃ c ∈ cs, 255 < c)
theorem CodA.cod {cs : List Int32} {cd N2 : Int32} {vs : List Value} {V : Cell} (h : CodA cs cd N2 vs) (hn : 2 * cs.length < 2 ^ 31) (hs : V.slots.size = N2.toNatClampNeg) (hv : RoadKit.Has V vs (.int 0)) : Cod cd cs.length (fun j => cs.getD j 0) V := by
  rcases h with ⟨rfl, rfl, rfl, h⟩ | ⟨rfl, rfl, rfl, c, hc, hw⟩
  · rw [n32 (by omega)] at hs
    exact Or.inl ⟨rfl, hs, fun j hj => ⟨by rw [hv j (by omega), low_at _ _ _ hj], by
      have e : cs.getD j 0 = cs[j] := by simp [List.getD_eq_getElem?_getD, hj]
      show ¬ 255 < cs.getD j 0
      rw [e]; exact h _ (List.getElem_mem _)⟩⟩
  · rw [n32 (by omega)] at hs
    obtain ⟨j, hj, rfl⟩ := List.getElem_of_mem hc
    exact Or.inr ⟨rfl, hs, fun j hj => ⟨by rw [hv _ (by omega), wide_lo _ _ _ hj], by rw [hv _ (by omega), wide_hi _ _ _ hj]⟩, j, hj, by
      have e : cs.getD j 0 = cs[j] := by simp [List.getD_eq_getElem?_getD, hj]
      show 255 < cs.getD j 0
      rw [e]; exact hw⟩
/-- an object of exactly java/lang/String, its two fields found: as the laws ask it -/
theorem strObj {Z U : State} {a0 : Array Value} {kI : Nat} (wi : (Jvm.Cond.instantiable ST kI).before a0 Z = true) (al : Z.vm.Alike U.vm) {x : Addr} {v0 c0 : Value} (E : RoadKit.Exa Z U.heap x ST) (V : RoadKit.Fld Z U.heap x ST "value" "[B" v0) (C : RoadKit.Fld Z U.heap x ST "coder" "B" c0) :
    ∃ (D : Cell) (fV fC : Field), Blank ST x D U ∧ Found ST "value" "[B" fV U ∧ Found ST "coder" "B" fC U ∧ D.slots[fV.slot]? = some v0 ∧ D.slots[fC.slot]? = some c0 ∧ RoadKit.slotOf Z ST "value" "[B" = fV.slot ∧ RoadKit.slotOf Z ST "coder" "B" = fC.slot := by
  obtain ⟨D, cfV, kV, iV, fV, hD, gV, stV, knV, obV, asV, slV⟩ := V
  obtain ⟨D', cfC, kC, iC, fC, hD', gC, stC, -, -, asC, slC⟩ := C
  cases hD.symm.trans hD'
  obtain ⟨D2, kD, e1, e2, e3, e4, e5⟩ := E
  cases hD.symm.trans e1
  obtain ⟨c2, k2, i1, i2, i3, -⟩ := Cond.instantiable_spec wi
  cases e2.symm.trans i1
  cases e3.symm.trans i2
  obtain ⟨kU, u1, u2⟩ := al.2.2 _ _ e3
  exact ⟨D, fV, fC, ⟨hD, ⟨knV, fun q hq => by rw [hq] at obV; cases obV⟩, by rw [al.findClass]; exact e2, kU, u1, by rw [u2]; exact i3, by rw [u2]; exact e5 i3⟩, ⟨SBG.found_only al ⟨cfV, kV, iV, gV⟩, stV⟩, ⟨SBG.found_only al ⟨cfC, kC, iC, gC⟩, stC⟩, slV, slC, by simp [RoadKit.slotOf, gV], by simp [RoadKit.slotOf, gC]⟩
theorem sta_is {Z U : State} (al : Z.vm.Alike U.vm) {C n d : String} {v : Value} (S : RoadKit.Sta Z U.heap C n d v) : StaticIs U C n d v := by
  obtain ⟨cfS, iS, kS, fS, st, cS, t1, t2, t3, t4, t5, t6, t7⟩ := S
  exact StaticIs.there (s := { Z with heap := U.heap }) ⟨cfS, iS, kS, fS, st, cS, t1, t2, t3, t4, t5, (fun q => by rw [q] at t6; cases t6), t7⟩ al rfl
end StrChars.Road
namespace StrChars
open Jvm Sem ClassFile Op Lib Jvm.Stand Jvm.Free.XT Jvm.Free.ALB Jvm.Free.JM Jvm.Free
open Jvm.Lib.Cold (StaticIs)
/-- what place i of a byte[]'s cell holds -/
def yv (A : Cell) (i : Nat) : Int32 := match A.slots[i]? with | some (.int x) => x | _ => 0
theorem yv_get {a : Addr} {A : Cell} {U : State} (h : XT.Arr .byte a A U) (ht : Typed .byte A) {i : Nat} (hi : i < A.slots.size) : A.slots[i]? = some (.int (yv A i)) := by
  have e := Array.getElem?_eq_getElem hi
  have f := ht i _ e
  unfold yv; rw [e]
  generalize A.slots[i] = v at f
  cases v <;> simp [fits] at f ⊢
/-- the two arrays are equal, place for place -/
def EqC (A B : Cell) : Prop := A.slots.size = B.slots.size ∧ ∀ i, i < A.slots.size → yv A i = yv B i
/-- a boolean that says whether p -/
def Says01 (q : Prop) (r : Option Value) (s u : State) : Prop := ∃ v : Int32, r = some (.int v) ∧ u.heap = s.heap ∧ ((v = 1 ∧ q) ∨ (v = 0 ∧ ¬ q))
theorem Says01.mv {q : Prop} : ∀ r (U U' V V' : State), U'.heap = U.heap → V.vm.Alike V'.vm → V'.heap = V.heap → Says01 q r U V → Says01 q r U' V' :=
  fun r U U' V V' h1 _ h2 ⟨v, a, b, c⟩ => ⟨v, a, by rw [h1, h2]; exact b, c⟩
namespace LEq
def yN : MethodName := ⟨"java/lang/StringLatin1", "equals", "([B[B)Z"⟩
abbrev yB : ByteArray := jdk_43_method_13_code
theorem d0 : decode yB 0 = .ok (.aload_n 0, 1) := by decide +kernel
theorem d1 : decode yB 1 = .ok (.arraylength, 1) := by decide +kernel
theorem d2 : decode yB 2 = .ok (.aload_n 1, 1) := by decide +kernel
theorem d3 : decode yB 3 = .ok (.arraylength, 1) := by decide +kernel
theorem d4 : decode yB 4 = .ok (.if_icmp (.ne) 30, 3) := by decide +kernel
theorem d7 : decode yB 7 = .ok (.iconst 0, 1) := by decide +kernel
theorem d8 : decode yB 8 = .ok (.istore_n 2, 1) := by decide +kernel
theorem d9 : decode yB 9 = .ok (.iload_n 2, 1) := by decide +kernel
theorem d10 : decode yB 10 = .ok (.aload_n 0, 1) := by decide +kernel
theorem d11 : decode yB 11 = .ok (.arraylength, 1) := by decide +kernel
theorem d12 : decode yB 12 = .ok (.if_icmp (.ge) 20, 3) := by decide +kernel
theorem d15 : decode yB 15 = .ok (.aload_n 0, 1) := by decide +kernel
theorem d16 : decode yB 16 = .ok (.iload_n 2, 1) := by decide +kernel
theorem d17 : decode yB 17 = .ok (.baload, 1) := by decide +kernel
theorem d18 : decode yB 18 = .ok (.aload_n 1, 1) := by decide +kernel
theorem d19 : decode yB 19 = .ok (.iload_n 2, 1) := by decide +kernel
theorem d20 : decode yB 20 = .ok (.baload, 1) := by decide +kernel
theorem d21 : decode yB 21 = .ok (.if_icmp (.eq) 5, 3) := by decide +kernel
theorem d24 : decode yB 24 = .ok (.iconst 0, 1) := by decide +kernel
theorem d25 : decode yB 25 = .ok (.ireturn, 1) := by decide +kernel
theorem d26 : decode yB 26 = .ok (.iinc 2 1, 3) := by decide +kernel
theorem d29 : decode yB 29 = .ok (.goto (-20), 3) := by decide +kernel
theorem d32 : decode yB 32 = .ok (.iconst 1, 1) := by decide +kernel
theorem d33 : decode yB 33 = .ok (.ireturn, 1) := by decide +kernel
theorem d34 : decode yB 34 = .ok (.iconst 0, 1) := by decide +kernel
theorem d35 : decode yB 35 = .ok (.ireturn, 1) := by decide +kernel
def site : List Cond := []
def tab : Cond := tabOf yN yB 3 (some .boolean) site
def P (a : Addr) (A : Cell) (b : Addr) (B : Cell) (args : Array Value) (s : State) : Prop := args = #[.ref a, .ref b] ∧ XT.Arr .byte a A s ∧ Typed .byte A ∧ XT.Arr .byte b B s ∧ Typed .byte B
/-- whether two byte[] are equal, place for place -/
theorem law (l : Launch) (a : Addr) (A : Cell) (b : Addr) (B : Cell) : Law l yN 2 2 0 0 yB 3 (some .boolean) site (P a A b B) (Says01 (EqC A B)) [] 0 0 := by
  refine Law.of_walk (plainFor_of_name (by decide +kernel)) (by decide +kernel) (by decide +kernel) (by decide) (fun _ _ h => by rw [h.1]; rfl) (fun _ U U' hal hh h => ⟨h.1, h.2.1.mv hal hh, h.2.2.1, h.2.2.2.1.mv hal hh, h.2.2.2.2⟩) (fun r U U' V V' h1 hal h2 h => Says01.mv r U U' V V' h1 hal h2 h) ?_
  intro p e s m args below meth c s₁ X0 hexec hbytes hml hret hlk hnm hown hh0 W hP
  obtain ⟨rfl, hA, tA, hB, tB⟩ := hP
  have a31 := hA.2.2.2
  have b31 := hB.2.2.2
  have hA0 := hA.mv X0.warmed.alike hh0
  have hB0 := hB.mv X0.warmed.alike hh0
  have c1 : Steps p.tables e below (s₁.setTop (entryFrame m #[.ref a, .ref b] 3)) (s₁.setTop (mkF m 0 #[.val (.ref a), .val (.ref b), .unset] [])) := entry rfl
  have c2 : Steps p.tables e below (s₁.setTop (entryFrame m #[.ref a, .ref b] 3)) (s₁.setTop (mkF m 4 #[.val (.ref a), .val (.ref b), .unset] [.int (Int32.ofNat B.slots.size), .int (Int32.ofNat A.slots.size)])) := c1.trans (by
    refine XS.aloadN X0.here hexec rfl (hb hbytes d0) rfl rfl ?_
    refine X0.alen hexec hA0 rfl rfl (hb hbytes d1) ?_
    refine XS.aloadN X0.here hexec rfl (hb hbytes d2) rfl rfl ?_
    refine X0.alen hexec hB0 rfl rfl (hb hbytes d3) ?_
    exact Steps.refl _)
  by_cases hs : A.slots.size = B.slots.size
  · have c3 : Steps p.tables e below (s₁.setTop (entryFrame m #[.ref a, .ref b] 3)) (s₁.setTop (mkF m 9 #[.val (.ref a), .val (.ref b), .val (.int 0)] [])) := c2.trans (by
      refine XS.icmpNo X0.here hexec rfl (hb hbytes d4) rfl (ii_ne_f (by rw [hs])) ?_
      refine iconstV X0.here hexec rfl 0 (hb hbytes d7) (by decide) ?_
      refine XS.istoreN X0.here hexec rfl (hb hbytes d8) rfl rfl ?_
      exact Steps.refl _)
    have loop : ∀ (r i : Nat), i + r = A.slots.size → (∀ j, j < i → yv A j = yv B j) → Steps p.tables e below (s₁.setTop (entryFrame m #[.ref a, .ref b] 3)) (s₁.setTop (mkF m 9 #[.val (.ref a), .val (.ref b), .val (.int (Int32.ofNat i))] [])) → ∃ (pc : Nat) (Ls : Array Slot) (v : Int32), (pc = 25 ∨ pc = 33) ∧ ((v = 1 ∧ EqC A B) ∨ (v = 0 ∧ ¬ EqC A B)) ∧ Steps p.tables e below (s₁.setTop (entryFrame m #[.ref a, .ref b] 3)) (s₁.setTop (mkF m pc Ls [.int v])) := by
      intro r
      induction r with
      | zero =>
        intro i hi he cl
        exact ⟨33, _, 1, Or.inr rfl, Or.inl ⟨rfl, hs, fun j hj => he j (by omega)⟩, cl.trans (by
          refine XS.iloadN X0.here hexec rfl (hb hbytes d9) rfl ?_
          refine XS.aloadN X0.here hexec rfl (hb hbytes d10) rfl rfl ?_
          refine X0.alen hexec hA0 rfl rfl (hb hbytes d11) ?_
          refine XS.icmpYes X0.here hexec rfl (pc0 := 12) rfl (hb hbytes d12) rfl (ii_ge_t (nlt32 (by omega) (by omega))) (by decide) rfl ?_
          refine iconstV X0.here hexec rfl 1 (hb hbytes d32) (by decide) ?_
          exact Steps.refl _)⟩
      | succ r ih =>
        intro i hi he cl
        have c4 : Steps p.tables e below (s₁.setTop (entryFrame m #[.ref a, .ref b] 3)) (s₁.setTop (mkF m 21 #[.val (.ref a), .val (.ref b), .val (.int (Int32.ofNat i))] [.int (yv B i), .int (yv A i)])) := cl.trans (by
          refine XS.iloadN X0.here hexec rfl (hb hbytes d9) rfl ?_
          refine XS.aloadN X0.here hexec rfl (hb hbytes d10) rfl rfl ?_
          refine X0.alen hexec hA0 rfl rfl (hb hbytes d11) ?_
          refine XS.icmpNo X0.here hexec rfl (hb hbytes d12) rfl (ii_ge_f (lt32 (by omega) (by omega))) ?_
          refine XS.aloadN X0.here hexec rfl (hb hbytes d15) rfl rfl ?_
          refine XS.iloadN X0.here hexec rfl (hb hbytes d16) rfl ?_
          refine X0.aget hexec hA0 rfl (yv_get hA tA (i := i) (by omega)) rfl rfl (hb hbytes d17) ?_
          refine XS.aloadN X0.here hexec rfl (hb hbytes d18) rfl rfl ?_
          refine XS.iloadN X0.here hexec rfl (hb hbytes d19) rfl ?_
          refine X0.aget hexec hB0 rfl (yv_get hB tB (i := i) (by omega)) rfl rfl (hb hbytes d20) ?_
          exact Steps.refl _)
        by_cases hv : yv A i = yv B i
        · have c5 : Steps p.tables e below (s₁.setTop (entryFrame m #[.ref a, .ref b] 3)) (s₁.setTop (mkF m 9 #[.val (.ref a), .val (.ref b), .val (.int (Int32.ofNat i + 1))] [])) := c4.trans (by
            refine XS.icmpYes X0.here hexec rfl (pc0 := 21) rfl (hb hbytes d21) rfl (ii_eq_t hv) (by decide) rfl ?_
            refine iincV X0.here hexec rfl 1 (hb hbytes d26) (by decide) rfl rfl ?_
            refine XS.goto X0.here hexec rfl (pc0 := 29) rfl (hb hbytes d29) (by decide) rfl ?_
            exact Steps.refl _)
          rw [succ32] at c5
          exact ih (i + 1) (by omega) (fun j hj => by
            by_cases e : j = i
            · rw [e]; exact hv
            · exact he j (by omega)) c5
        · exact ⟨25, _, 0, Or.inl rfl, Or.inr ⟨rfl, fun q => hv (q.2 i (by omega))⟩, c4.trans (by
            refine XS.icmpNo X0.here hexec rfl (hb hbytes d21) rfl (ii_eq_f hv) ?_
            refine iconstV X0.here hexec rfl 0 (hb hbytes d24) (by decide) ?_
            exact Steps.refl _)⟩
    obtain ⟨pc, Ls, v, hpc, hv, cz⟩ := loop A.slots.size 0 (by omega) (fun j hj => absurd hj (Nat.not_lt_zero j)) c3
    have nv : narrow .boolean (.int v) = .int v := by rcases hv with ⟨rfl, -⟩ | ⟨rfl, -⟩ <;> rfl
    rcases hpc with rfl | rfl
    · exact ⟨s₁, some (.int v), _, _, _, X0, rfl, rfl, rfl, (fun h => by cases h), ⟨v, rfl, hh0, hv⟩, fun fs hl => cz.trans (X0.ireturnOut hexec hret nv (Or.inr (Or.inl rfl)) (hb hbytes d25) hl)⟩
    · exact ⟨s₁, some (.int v), _, _, _, X0, rfl, rfl, rfl, (fun h => by cases h), ⟨v, rfl, hh0, hv⟩, fun fs hl => cz.trans (X0.ireturnOut hexec hret nv (Or.inr (Or.inl rfl)) (hb hbytes d33) hl)⟩
  · have c3 : Steps p.tables e below (s₁.setTop (entryFrame m #[.ref a, .ref b] 3)) (s₁.setTop (mkF m 35 #[.val (.ref a), .val (.ref b), .unset] [.int 0])) := c2.trans (by
      refine XS.icmpYes X0.here hexec rfl (pc0 := 4) rfl (hb hbytes d4) rfl (ii_ne_t (ne32 a31 b31 hs)) (by decide) rfl ?_
      refine iconstV X0.here hexec rfl 0 (hb hbytes d34) (by decide) ?_
      exact Steps.refl _)
    exact ⟨s₁, some (.int 0), _, _, _, X0, rfl, rfl, rfl, (fun h => by cases h), ⟨0, rfl, hh0, Or.inr ⟨rfl, fun q => hs q.1⟩⟩, fun fs hl => c3.trans (X0.ireturnOut hexec hret rfl (Or.inr (Or.inl rfl)) (hb hbytes d35) hl)⟩
end LEq
theorem Cod.ty {cd : Int32} {n : Nat} {f : Nat → Int32} {V : Cell} (h : Cod cd n f V) : Typed .byte V := fun i v hv => by
  have hi : i < V.slots.size := (Array.getElem?_eq_some_iff.mp hv).1
  rcases h with ⟨-, k1, k2⟩ | ⟨-, k1, k2, -⟩
  · rw [(k2 i (by omega)).1] at hv; cases hv; exact fits_lo8 _
  · rcases Nat.mod_two_eq_zero_or_one i with e | e
    · obtain ⟨j, rfl⟩ : ∃ j, i = 2 * j := ⟨i / 2, by omega⟩
      rw [(k2 j (by omega)).1] at hv; cases hv; exact fits_lo8 _
    · obtain ⟨j, rfl⟩ : ∃ j, i = 2 * j + 1 := ⟨i / 2, by omega⟩
      rw [(k2 j (by omega)).2] at hv; cases hv; exact fits_lo8 _
/-- the same text -/
def SameT (n : Nat) (f : Nat → Int32) (k : Nat) (g : Nat → Int32) : Prop := n = k ∧ ∀ j, j < n → f j = g j
theorem lo8_inj {x y : Int32} (h0 : ¬ x < 0) (h1 : ¬ 255 < x) (k0 : ¬ y < 0) (k1 : ¬ 255 < y) (h : lo8 x = lo8 y) : x = y := by
  rw [← lo8_mask h0 h1, ← lo8_mask k0 k1, h]
/-- arrays coded by one coder are equal just where the texts are -/
theorem Cod.eqv {cd : Int32} {n k : Nat} {f g : Nat → Int32} {V V' : Cell} (h : Cod cd n f V) (h' : Cod cd k g V') (hf : ∀ j, j < n → ¬ f j < 0 ∧ ¬ 65535 < f j) (hg : ∀ j, j < k → ¬ g j < 0 ∧ ¬ 65535 < g j) : EqC V V' ↔ SameT n f k g := by
  have yvv : ∀ {W : Cell} {i : Nat} {x : Int32}, W.slots[i]? = some (.int x) → yv W i = x := fun q => by unfold yv; rw [q]
  rcases h with ⟨rfl, k1, k2⟩ | ⟨rfl, k1, k2, -⟩
  · rcases h' with ⟨-, m1, m2⟩ | ⟨e, -⟩
    · constructor
      · rintro ⟨e1, e2⟩
        refine ⟨by omega, fun j hj => ?_⟩
        have q := e2 j (by omega)
        rw [yvv (k2 j hj).1, yvv (m2 j (by omega)).1] at q
        exact lo8_inj (hf j hj).1 (k2 j hj).2 (hg j (by omega)).1 (m2 j (by omega)).2 q
      · rintro ⟨rfl, e2⟩
        refine ⟨by omega, fun j hj => ?_⟩
        rw [yvv (k2 j (by omega)).1, yvv (m2 j (by omega)).1, e2 j (by omega)]
    · exact absurd e (by decide)
  · rcases h' with ⟨e, -⟩ | ⟨-, m1, m2, -⟩
    · exact absurd e (by decide)
    · constructor
      · rintro ⟨e1, e2⟩
        refine ⟨by omega, fun j hj => ?_⟩
        have q1 := e2 (2 * j) (by omega)
        have q2 := e2 (2 * j + 1) (by omega)
        rw [yvv (k2 j hj).1, yvv (m2 j (by omega)).1] at q1
        rw [yvv (k2 j hj).2, yvv (m2 j (by omega)).2] at q2
        rw [← pair_says (hf j hj).1 (hf j hj).2, ← pair_says (hg j (by omega)).1 (hg j (by omega)).2, q1, q2]
      · rintro ⟨rfl, e2⟩
        refine ⟨by omega, fun i hi => ?_⟩
        rcases Nat.mod_two_eq_zero_or_one i with e | e
        · obtain ⟨j, rfl⟩ : ∃ j, i = 2 * j := ⟨i / 2, by omega⟩
          rw [yvv (k2 j (by omega)).1, yvv (m2 j (by omega)).1, e2 j (by omega)]
        · obtain ⟨j, rfl⟩ : ∃ j, i = 2 * j + 1 := ⟨i / 2, by omega⟩
          rw [yvv (k2 j (by omega)).2, yvv (m2 j (by omega)).2, e2 j (by omega)]
/-- two codings differ: so do the texts -/
theorem Cod.dif {cd cd' : Int32} {n k : Nat} {f g : Nat → Int32} {V V' : Cell} (h : Cod cd n f V) (h' : Cod cd' k g V') (hne : ¬ cd = cd') : ¬ SameT n f k g := by
  rintro ⟨rfl, e⟩
  rcases h with ⟨rfl, -, k2⟩ | ⟨rfl, -, -, j, hj, hw⟩
  · rcases h' with ⟨rfl, -⟩ | ⟨-, -, -, j, hj, hw⟩
    · exact hne rfl
    · exact (k2 j hj).2 (by rw [e j hj]; exact hw)
  · rcases h' with ⟨-, -, m2⟩ | ⟨rfl, -⟩
    · exact (m2 j hj).2 (by rw [← e j hj]; exact hw)
    · exact hne rfl
/-- an object of exactly C is an instance of C -/
theorem cinst {p : Program} {l : Launch} {e : Env} {R : Room} {s : State} {m : MethodId} {args : Array Value} {below : List Frame} {meth : Method} {c : Code} {T : State} {locs : List Loc} {cells slots : Nat} (X : Stand p l e R s m args below meth c T locs cells slots) (hexec : p.tables.exec = Jvm.exec) {own C : String} {index : Nat} (hown : s.vm.findClass own = some m.cls) (hlink : (Cond.classLink own index C).before args s = true) {a : Addr} (hE : Exact C a T)
    {g : JFrame} (hg : g.method = m) {rest : List Value} (hstack : g.stack = .ref a :: rest) (hdg : decode c.code g.pc = .ok (.instanceof index, 3)) :
    ∃ T', Stand p l e R s m args below meth c T' locs cells slots ∧ T'.heap = T.heap ∧ ∀ target, Steps p.tables e below (T'.setTop { g with pc := g.pc + 3, stack := .int 1 :: rest }) target → Steps p.tables e below (T.setTop g) target := by
  obtain ⟨cB, h1, D, h2, h3, h4⟩ := hE
  have h1' : s.vm.findClass C = some cB := by rw [← X.warmed.alike.findClass]; exact h1
  obtain ⟨vm', X', st⟩ := X.instanceofYes hexec hown hlink h2 h4 h1' (by rw [h3]; exact Jvm.Free.SB.assignable_self _ _) hg hstack hdg
  exact ⟨_, X', rfl, st⟩
theorem cself {p : Program} {l : Launch} {e : Env} {R : Room} {s : State} {m : MethodId} {args : Array Value} {below : List Frame} {meth : Method} {c : Code} {T : State} {locs : List Loc} {cells slots : Nat} (X : Stand p l e R s m args below meth c T locs cells slots) (hexec : p.tables.exec = Jvm.exec) {own C : String} {index : Nat} (hown : s.vm.findClass own = some m.cls) (hlink : (Cond.classLink own index C).before args s = true) {a : Addr} (hE : Exact C a T)
    {g : JFrame} (hg : g.method = m) {rest : List Value} (hstack : g.stack = .ref a :: rest) (hdg : decode c.code g.pc = .ok (.checkcast index, 3)) :
    ∃ T', Stand p l e R s m args below meth c T' locs cells slots ∧ T'.heap = T.heap ∧ ∀ target, Steps p.tables e below (T'.setTop { g with pc := g.pc + 3, stack := .ref a :: rest }) target → Steps p.tables e below (T.setTop g) target := by
  obtain ⟨cB, h1, D, h2, h3, h4⟩ := hE
  have h1' : s.vm.findClass C = some cB := by rw [← X.warmed.alike.findClass]; exact h1
  obtain ⟨vm', X', st⟩ := X.checkcastYes hexec hown hlink h2 h4 h1' (by rw [h3]; exact Jvm.Free.SB.assignable_self _ _) hg hstack hdg
  exact ⟨_, X', rfl, fun t h => st t (by rw [← hstack] at h; exact h)⟩
namespace SEq
def yN : MethodName := ⟨"java/lang/String", "equals", "(Ljava/lang/Object;)Z"⟩
abbrev yB : ByteArray := jdk_42_method_66_code
theorem d0 : decode yB 0 = .ok (.aload_n 0, 1) := by decide +kernel
theorem d1 : decode yB 1 = .ok (.aload_n 1, 1) := by decide +kernel
theorem d2 : decode yB 2 = .ok (.if_acmp (.ne) 5, 3) := by decide +kernel
theorem d5 : decode yB 5 = .ok (.iconst 1, 1) := by decide +kernel
theorem d6 : decode yB 6 = .ok (.ireturn, 1) := by decide +kernel
theorem d7 : decode yB 7 = .ok (.aload_n 1, 1) := by decide +kernel
theorem d8 : decode yB 8 = .ok (.instanceof 10, 3) := by decide +kernel
theorem d11 : decode yB 11 = .ok (.ifCond (.eq) 43, 3) := by decide +kernel
theorem d14 : decode yB 14 = .ok (.aload_n 1, 1) := by decide +kernel
theorem d15 : decode yB 15 = .ok (.checkcast 10, 3) := by decide +kernel
theorem d18 : decode yB 18 = .ok (.astore_n 2, 1) := by decide +kernel
theorem d19 : decode yB 19 = .ok (.getstatic 38, 3) := by decide +kernel
theorem d22 : decode yB 22 = .ok (.ifCond (.eq) 14, 3) := by decide +kernel
theorem d25 : decode yB 25 = .ok (.aload_n 0, 1) := by decide +kernel
theorem d26 : decode yB 26 = .ok (.getfield 15, 3) := by decide +kernel
theorem d29 : decode yB 29 = .ok (.aload_n 2, 1) := by decide +kernel
theorem d30 : decode yB 30 = .ok (.getfield 15, 3) := by decide +kernel
theorem d33 : decode yB 33 = .ok (.if_icmp (.ne) 21, 3) := by decide +kernel
theorem d36 : decode yB 36 = .ok (.aload_n 0, 1) := by decide +kernel
theorem d37 : decode yB 37 = .ok (.getfield 9, 3) := by decide +kernel
theorem d40 : decode yB 40 = .ok (.aload_n 2, 1) := by decide +kernel
theorem d41 : decode yB 41 = .ok (.getfield 9, 3) := by decide +kernel
theorem d44 : decode yB 44 = .ok (.invokestatic 541, 3) := by decide +kernel
theorem d47 : decode yB 47 = .ok (.ifCond (.eq) 7, 3) := by decide +kernel
theorem d50 : decode yB 50 = .ok (.iconst 1, 1) := by decide +kernel
theorem d51 : decode yB 51 = .ok (.goto 4, 3) := by decide +kernel
theorem d54 : decode yB 54 = .ok (.iconst 0, 1) := by decide +kernel
theorem d55 : decode yB 55 = .ok (.ireturn, 1) := by decide +kernel
def site : List Cond := [.classLink "java/lang/String" 10 "java/lang/String", .fieldLink "java/lang/String" 38 "java/lang/String" "COMPACT_STRINGS" "Z", .fieldLink "java/lang/String" 15 "java/lang/String" "coder" "B", .fieldLink "java/lang/String" 9 "java/lang/String" "value" "[B", LEq.tab] ++ staticW "java/lang/String" 541 LEq.yN
def tab : Cond := tabOf yN yB 3 (some .boolean) site
def P (x t : Addr) (V : Cell) (cd : Int32) (n : Nat) (f : Nat → Int32) (y t' : Addr) (V' : Cell) (cd' : Int32) (k : Nat) (g : Nat → Int32) (z : Int32) (args : Array Value) (s : State) : Prop := args = #[.ref x, .ref y] ∧ Txt x t V cd n f s ∧ Txt y t' V' cd' k g s ∧ StaticIs s "java/lang/String" "COMPACT_STRINGS" "Z" (.int z) ∧ ¬ z = 0
/-- equals(Object) of two Strings: whether the texts are the same -/
theorem law (l : Launch) (x t : Addr) (V : Cell) (cd : Int32) (n : Nat) (f : Nat → Int32) (y t' : Addr) (V' : Cell) (cd' : Int32) (k : Nat) (g : Nat → Int32) (z : Int32) : Law l yN 2 1 1 14 yB 3 (some .boolean) site (P x t V cd n f y t' V' cd' k g z) (Says01 (SameT n f k g)) [] 0 0 := by
  refine Law.of_walk (plainFor_of_name (by decide +kernel)) (by decide +kernel) (by decide +kernel) (by decide) (fun _ _ h => by rw [h.1]; rfl) (fun _ U U' hal hh h => ⟨h.1, h.2.1.mv hal hh, h.2.2.1.mv hal hh, h.2.2.2.1.there hal hh, h.2.2.2.2⟩) (fun r U U' V V' h1 hal h2 h => Says01.mv r U U' V V' h1 hal h2 h) ?_
  intro p e s m args below meth c s₁ X0 hexec hbytes hml hret hlk hnm hown hh0 W hP
  obtain ⟨rfl, hx, hy, s1, hz⟩ := hP
  have c1 : Steps p.tables e below (s₁.setTop (entryFrame m #[.ref x, .ref y] 3)) (s₁.setTop (mkF m 2 #[.val (.ref x), .val (.ref y), .unset] [.ref y, .ref x])) := Steps.trans (entry rfl) (by
    show Steps p.tables e below (s₁.setTop (mkF m 0 #[.val (.ref x), .val (.ref y), .unset] [])) _
    refine XS.aloadN X0.here hexec rfl (hb hbytes d0) rfl rfl ?_
    refine XS.aloadN X0.here hexec rfl (hb hbytes d1) rfl rfl ?_
    exact Steps.refl _)
  by_cases hxy : x = y
  · have c2 : Steps p.tables e below (s₁.setTop (entryFrame m #[.ref x, .ref y] 3)) (s₁.setTop (mkF m 6 #[.val (.ref x), .val (.ref y), .unset] [.int 1])) := c1.trans (by
      refine acmpNo X0.here hexec rfl (hb hbytes d2) rfl rfl rfl (by simp [acmp, hxy]) ?_
      refine iconstV X0.here hexec rfl 1 (hb hbytes d5) (by decide) ?_
      exact Steps.refl _)
    subst hxy
    have ec : cd = cd' := by
      obtain ⟨D, fd, a1, a2, a3⟩ := hx.2.2.1
      obtain ⟨D', fd', b1, b2, b3⟩ := hy.2.2.1
      cases a1.symm.trans b1
      obtain ⟨q1, q2, q3, q4⟩ := a2.1
      obtain ⟨r1, r2, r3, r4⟩ := b2.1
      cases q4.symm.trans r4
      cases a3.symm.trans b3; rfl
    have et : t = t' := by
      obtain ⟨D, fd, a1, a2, a3⟩ := hx.2.1
      obtain ⟨D', fd', b1, b2, b3⟩ := hy.2.1
      cases a1.symm.trans b1
      obtain ⟨q1, q2, q3, q4⟩ := a2.1
      obtain ⟨r1, r2, r3, r4⟩ := b2.1
      cases q4.symm.trans r4
      cases a3.symm.trans b3; rfl
    subst ec et
    have ev : V = V' := by cases hx.2.2.2.1.1.symm.trans hy.2.2.2.1.1; rfl
    subst ev
    have hs : SameT n f k g := (Cod.eqv hx.2.2.2.2.1 hy.2.2.2.2.1 hx.2.2.2.2.2 hy.2.2.2.2.2).mp ⟨rfl, fun _ _ => rfl⟩
    exact ⟨s₁, some (.int 1), _, _, _, X0, rfl, rfl, rfl, (fun h => by cases h), ⟨1, rfl, hh0, Or.inl ⟨rfl, hs⟩⟩, fun fs hl => c2.trans (X0.ireturnOut hexec hret rfl (Or.inr (Or.inl rfl)) (hb hbytes d6) hl)⟩
  · have c2 : Steps p.tables e below (s₁.setTop (entryFrame m #[.ref x, .ref y] 3)) (s₁.setTop (mkF m 8 #[.val (.ref x), .val (.ref y), .unset] [.ref y])) := c1.trans (by
      refine acmpYes X0.here hexec rfl (pc0 := 2) rfl (hb hbytes d2) rfl rfl rfl (by simp [acmp, hxy]) (by decide) rfl ?_
      refine XS.aloadN X0.here hexec rfl (hb hbytes d7) rfl rfl ?_
      exact Steps.refl _)
    obtain ⟨T3, X3, q3, st3⟩ := cinst X0 hexec hown (wk W (.classLink "java/lang/String" 10 "java/lang/String")) (hy.mv X0.warmed.alike hh0).1 (g := (mkF m 8 #[.val (.ref x), .val (.ref y), .unset] [.ref y])) rfl (rest := []) rfl (hb hbytes d8)
    have hh3 := q3.trans hh0
    have c4 : Steps p.tables e below (s₁.setTop (entryFrame m #[.ref x, .ref y] 3)) (T3.setTop (mkF m 15 #[.val (.ref x), .val (.ref y), .unset] [.ref y])) := (c2.trans (st3 _ (Steps.refl _))).trans (by
      refine XS.ifNo X3.here hexec rfl (hb hbytes d11) rfl (i0_eq_f (by decide)) ?_
      refine XS.aloadN X3.here hexec rfl (hb hbytes d14) rfl rfl ?_
      exact Steps.refl _)
    obtain ⟨T5, X5, q5, st5⟩ := cself X3 hexec hown (wk W (.classLink "java/lang/String" 10 "java/lang/String")) (hy.mv X3.warmed.alike hh3).1 (g := (mkF m 15 #[.val (.ref x), .val (.ref y), .unset] [.ref y])) rfl (rest := []) rfl (hb hbytes d15)
    have hh5 := q5.trans hh3
    have c6 : Steps p.tables e below (s₁.setTop (entryFrame m #[.ref x, .ref y] 3)) (T5.setTop (mkF m 19 #[.val (.ref x), .val (.ref y), .val (.ref y)] [])) := (c4.trans (st5 _ (Steps.refl _))).trans (by
      refine XS.astoreN X5.here hexec rfl (hb hbytes d18) rfl rfl rfl ?_
      exact Steps.refl _)
    obtain ⟨T7, X7, q7, st7⟩ := X5.sget hexec hown (wk W (.fieldLink "java/lang/String" 38 "java/lang/String" "COMPACT_STRINGS" "Z")) s1 (fun _ _ h => by rw [hh5]; exact h) (g := (mkF m 19 #[.val (.ref x), .val (.ref y), .val (.ref y)] [])) rfl (hb hbytes d19)
    have hh7 := q7.trans hh5
    have c8 : Steps p.tables e below (s₁.setTop (entryFrame m #[.ref x, .ref y] 3)) (T7.setTop (mkF m 26 #[.val (.ref x), .val (.ref y), .val (.ref y)] [.ref x])) := (c6.trans (st7 _ (Steps.refl _))).trans (by
      refine XS.ifNo X7.here hexec rfl (hb hbytes d22) rfl (i0_eq_f hz) ?_
      refine XS.aloadN X7.here hexec rfl (hb hbytes d25) rfl rfl ?_
      exact Steps.refl _)
    obtain ⟨T9, X9, q9, st9⟩ := X7.hget hexec hown (wk W (.fieldLink "java/lang/String" 15 "java/lang/String" "coder" "B")) (hx.mv X7.warmed.alike hh7).2.2.1 (g := (mkF m 26 #[.val (.ref x), .val (.ref y), .val (.ref y)] [.ref x])) rfl (rest := []) rfl (hb hbytes d26)
    have hh9 := q9.trans hh7
    have c10 : Steps p.tables e below (s₁.setTop (entryFrame m #[.ref x, .ref y] 3)) (T9.setTop (mkF m 30 #[.val (.ref x), .val (.ref y), .val (.ref y)] [.ref y, .int cd])) := (c8.trans (st9 _ (Steps.refl _))).trans (by
      refine XS.aloadN X9.here hexec rfl (hb hbytes d29) rfl rfl ?_
      exact Steps.refl _)
    obtain ⟨T11, X11, q11, st11⟩ := X9.hget hexec hown (wk W (.fieldLink "java/lang/String" 15 "java/lang/String" "coder" "B")) (hy.mv X9.warmed.alike hh9).2.2.1 (g := (mkF m 30 #[.val (.ref x), .val (.ref y), .val (.ref y)] [.ref y, .int cd])) rfl (rest := [.int cd]) rfl (hb hbytes d30)
    have hh11 := q11.trans hh9
    have c12 : Steps p.tables e below (s₁.setTop (entryFrame m #[.ref x, .ref y] 3)) (T11.setTop (mkF m 33 #[.val (.ref x), .val (.ref y), .val (.ref y)] [.int cd', .int cd])) := c10.trans (st11 _ (Steps.refl _))
    by_cases hcd : cd = cd'
    · subst hcd
      have c13 : Steps p.tables e below (s₁.setTop (entryFrame m #[.ref x, .ref y] 3)) (T11.setTop (mkF m 37 #[.val (.ref x), .val (.ref y), .val (.ref y)] [.ref x])) := c12.trans (by
        refine XS.icmpNo X11.here hexec rfl (hb hbytes d33) rfl (ii_ne_f rfl) ?_
        refine XS.aloadN X11.here hexec rfl (hb hbytes d36) rfl rfl ?_
        exact Steps.refl _)
      obtain ⟨T14, X14, q14, st14⟩ := X11.hget hexec hown (wk W (.fieldLink "java/lang/String" 9 "java/lang/String" "value" "[B")) (hx.mv X11.warmed.alike hh11).2.1 (g := (mkF m 37 #[.val (.ref x), .val (.ref y), .val (.ref y)] [.ref x])) rfl (rest := []) rfl (hb hbytes d37)
      have hh14 := q14.trans hh11
      have c15 : Steps p.tables e below (s₁.setTop (entryFrame m #[.ref x, .ref y] 3)) (T14.setTop (mkF m 41 #[.val (.ref x), .val (.ref y), .val (.ref y)] [.ref y, .ref t])) := (c13.trans (st14 _ (Steps.refl _))).trans (by
        refine XS.aloadN X14.here hexec rfl (hb hbytes d40) rfl rfl ?_
        exact Steps.refl _)
      obtain ⟨T16, X16, q16, st16⟩ := X14.hget hexec hown (wk W (.fieldLink "java/lang/String" 9 "java/lang/String" "value" "[B")) (hy.mv X14.warmed.alike hh14).2.1 (g := (mkF m 41 #[.val (.ref x), .val (.ref y), .val (.ref y)] [.ref y, .ref t])) rfl (rest := [.ref t]) rfl (hb hbytes d41)
      have hh16 := q16.trans hh14
      have c17 : Steps p.tables e below (s₁.setTop (entryFrame m #[.ref x, .ref y] 3)) (T16.setTop (mkF m 44 #[.val (.ref x), .val (.ref y), .val (.ref y)] [.ref t', .ref t])) := c15.trans (st16 _ (Steps.refl _))
      obtain ⟨v18, T18, X18, E18, g18⟩ := X16.callS hexec (LEq.law l t V t' V') hown (wks W (staticW "java/lang/String" 541 LEq.yN)) (wk W LEq.tab) (W := 0) (Nat.le_of_ble_eq_true rfl) (Nat.le_of_ble_eq_true rfl) (Nat.le_refl _) (Nat.le_refl _) (g := (mkF m 44 #[.val (.ref x), .val (.ref y), .val (.ref y)] [.ref t', .ref t])) rfl (by rw [hml]; rfl) c17 (argsL := [.ref t, .ref t']) (rest := []) rfl rfl (by show 2 * 0 + 0 ≤ _; decide) (hb hbytes d44) (⟨rfl, hx.2.2.2.1.mv X16.warmed.alike hh16, hx.2.2.2.2.1.ty, hy.2.2.2.1.mv X16.warmed.alike hh16, hy.2.2.2.2.1.ty⟩)
      obtain ⟨v, rfl, q18, hv⟩ := E18
      have iff := Cod.eqv hx.2.2.2.2.1 hy.2.2.2.2.1 hx.2.2.2.2.2 hy.2.2.2.2.2
      rcases hv with ⟨rfl, he⟩ | ⟨rfl, he⟩
      · have c19 : Steps p.tables e below (s₁.setTop (entryFrame m #[.ref x, .ref y] 3)) (T18.setTop (mkF m 55 #[.val (.ref x), .val (.ref y), .val (.ref y)] [.int 1])) := Steps.trans g18 (by
          refine XS.ifNo X18.here hexec rfl (hb hbytes d47) rfl (i0_eq_f (by decide)) ?_
          refine iconstV X18.here hexec rfl 1 (hb hbytes d50) (by decide) ?_
          refine XS.goto X18.here hexec rfl (pc0 := 51) rfl (hb hbytes d51) (by decide) rfl ?_
          exact Steps.refl _)
        exact ⟨T18, some (.int 1), _, _, _, X18, rfl, rfl, rfl, (fun h => by cases h), ⟨1, rfl, q18.trans hh16, Or.inl ⟨rfl, iff.mp he⟩⟩, fun fs hl => c19.trans (X18.ireturnOut hexec hret rfl (Or.inr (Or.inl rfl)) (hb hbytes d55) hl)⟩
      · have c19 : Steps p.tables e below (s₁.setTop (entryFrame m #[.ref x, .ref y] 3)) (T18.setTop (mkF m 55 #[.val (.ref x), .val (.ref y), .val (.ref y)] [.int 0])) := Steps.trans g18 (by
          refine XS.ifYes X18.here hexec rfl (pc0 := 47) rfl (hb hbytes d47) rfl (i0_eq_t rfl) (by decide) rfl ?_
          refine iconstV X18.here hexec rfl 0 (hb hbytes d54) (by decide) ?_
          exact Steps.refl _)
        exact ⟨T18, some (.int 0), _, _, _, X18, rfl, rfl, rfl, (fun h => by cases h), ⟨0, rfl, q18.trans hh16, Or.inr ⟨rfl, fun q => he (iff.mpr q)⟩⟩, fun fs hl => c19.trans (X18.ireturnOut hexec hret rfl (Or.inr (Or.inl rfl)) (hb hbytes d55) hl)⟩
    · have c13 : Steps p.tables e below (s₁.setTop (entryFrame m #[.ref x, .ref y] 3)) (T11.setTop (mkF m 55 #[.val (.ref x), .val (.ref y), .val (.ref y)] [.int 0])) := c12.trans (by
        refine XS.icmpYes X11.here hexec rfl (pc0 := 33) rfl (hb hbytes d33) rfl (ii_ne_t hcd) (by decide) rfl ?_
        refine iconstV X11.here hexec rfl 0 (hb hbytes d54) (by decide) ?_
        exact Steps.refl _)
      exact ⟨T11, some (.int 0), _, _, _, X11, rfl, rfl, rfl, (fun h => by cases h), ⟨0, rfl, hh11, Or.inr ⟨rfl, Cod.dif hx.2.2.2.2.1 hy.2.2.2.2.1 hcd⟩⟩, fun fs hl => c13.trans (X11.ireturnOut hexec hret rfl (Or.inr (Or.inl rfl)) (hb hbytes d55) hl)⟩
theorem pays {l : Launch} {R : Room} {p : Program} {e : Env} {below : List Frame} {s : State} {sargs : Array Value} {len W : Nat} (x t : Addr) (V : Cell) (cd : Int32) (n : Nat) (f : Nat → Int32) (y t' : Addr) (V' : Cell) (cd' : Int32) (k : Nat) (g : Nat → Int32) (z : Int32) (htab : tab.before sargs s = true) (hfr : 2 ≤ R.frames) (hlo : W + 28 ≤ R.locals) :
    Back l R p e below s sargs yN len W (fun A₁ a₁ => A₁.cells + 0 ≤ R.cells ∧ A₁.slots + 0 ≤ R.slots ∧ P x t V cd n f y t' V' cd' k g z a₁ A₁.U) (fun A₁ _ v₁ B₁ => Says01 (SameT n f k g) v₁ A₁.U B₁.U ∧ B₁.locs = A₁.locs ++ [] ∧ B₁.cells = A₁.cells + 0 ∧ B₁.slots = A₁.slots + 0) :=
  (law l x t V cd n f y t' V' cd' k g z).pays htab hfr (by omega)
end SEq
end StrChars
namespace StrChars.Road
open Jvm Sem ClassFile Op Lib Jvm.Stand Jvm.Free Jvm.Free.XT
open Jvm.Lib.Cold (StaticIs)
/-- the words of String.equals(Object) -/
abbrev wordsEq : List Jvm.Cond := [.code SEq.yN SEq.yB 3 (some .boolean), .initialized ST, .classLink ST 10 ST, .fieldLink ST 38 ST "COMPACT_STRINGS" "Z", .fieldLink ST 15 ST "coder" "B", .fieldLink ST 9 ST "value" "[B", .methodLink ST 541 LEq.yN, .static LEq.yN, .code LEq.yN LEq.yB 3 (some .boolean), .initialized "java/lang/StringLatin1"]
theorem tabEq_of {a : Array Value} {s : State} (h : ∀ w ∈ wordsEq, w.before a s = true) : SEq.tab.before a s = true := by
  have hl : LEq.tab.before a s = true := unparts (wk h (.code LEq.yN LEq.yB 3 (some .boolean))) (wks h (.initialized LEq.yN.cls :: LEq.site))
  have q := consq hl h
  exact unparts (wk q (.code SEq.yN SEq.yB 3 (some .boolean))) (wks q (.initialized SEq.yN.cls :: SEq.site))
theorem movedEq {Z s : State} {a0 args : Array Value} (hZ : Z.Warmed39 s.vm) (hw : ∀ d ∈ wordsEq, d.before a0 Z = true) : ∀ d ∈ wordsEq, d.before args s = true := fun d hd => by
  have t : ∀ d ∈ wordsEq, (d.onTables && d.keepsFace) = true := by decide +kernel
  exact RoadKit.mv hZ (hw d hd) (t d hd)
/-- the road's facts of a String, as the laws ask it -/
theorem txt_of {Z U : State} {a0 : Array Value} {kI : Nat} (wi : (Jvm.Cond.instantiable ST kI).before a0 Z = true) (al : Z.vm.Alike U.vm) {x t : Addr} {kb : ClassId} {cs : List Int32} {cd N2 : Int32} {vs : List Value} (E : RoadKit.Exa Z U.heap x ST) (V : RoadKit.Fld Z U.heap x ST "value" "[B" (.ref t)) (C : RoadKit.Fld Z U.heap x ST "coder" "B" (.int cd)) (K : RoadKit.Arv Z U.heap t kb .byte N2 vs (.int 0)) (hc : CodA cs cd N2 vs) (hb : ∀ c ∈ cs, ¬ c < 0 ∧ ¬ (65535 : Int32) < c) (l2 : cs.length ≤ 4000) :
    ∃ A, Txt x t A cd cs.length (fun j => cs.getD j 0) U := by
  obtain ⟨A, K1, K2, K3, K4, K5, K6⟩ := K
  have hcod := hc.cod (by omega) K3 K5
  obtain ⟨D, fV, fC, hB, F1, F2, g1, g2, -, -⟩ := strObj wi al E V C
  exact ⟨A, ⟨_, hB.2.2.1, D, hB.1, rfl, by cases q : D.vm <;> first | rfl | exact absurd q (hB.2.1.2 _)⟩, Has.of hB F1 g1, Has.of hB F2 g2, ⟨K1.1, State.isArrayOf_alike al K1.2.1, K1.2.2, by rcases hcod with ⟨-, q, -⟩ | ⟨-, q, -⟩ <;> omega⟩, hcod, fun j hj => by
    have e : cs.getD j 0 = cs[j] := by simp [List.getD_eq_getElem?_getD, hj]
    show ¬ cs.getD j 0 < 0 ∧ ¬ 65535 < cs.getD j 0
    rw [e]; exact hb _ (List.getElem_mem _)⟩
theorem same_list (cs ds : List Int32) : SameT cs.length (fun j => cs.getD j 0) ds.length (fun j => ds.getD j 0) ↔ cs = ds := by
  constructor
  · rintro ⟨e, q⟩
    refine List.ext_getElem e fun j h1 h2 => ?_
    have := q j h1
    simpa [List.getD_eq_getElem?_getD, h1, h2] using this
  · rintro rfl
    exact ⟨rfl, fun _ _ => rfl⟩
/-- **equals(Object) OF TWO SUCH STRINGS**: 1 just where the chars are the same -/
theorem eqW {p : Program} {l : Launch} {e : Env} {R : Room} {s : State} {args : Array Value} {below : List Frame} {len W : Nat} {Z : State} {a0 : Array Value} {h : Heap} (hZ : Z.Warmed39 s.vm) (hw : ∀ d ∈ wordsEq, d.before a0 Z = true) {kI : Nat} (wi : (Jvm.Cond.instantiable ST kI).before a0 Z = true)
    {x t : Addr} {kb : ClassId} {cs : List Int32} {cd N2 : Int32} {vs : List Value} (E : RoadKit.Exa Z h x ST) (V : RoadKit.Fld Z h x ST "value" "[B" (.ref t)) (C : RoadKit.Fld Z h x ST "coder" "B" (.int cd)) (K : RoadKit.Arv Z h t kb .byte N2 vs (.int 0)) (hc : CodA cs cd N2 vs) (hb : ∀ c ∈ cs, ¬ c < 0 ∧ ¬ (65535 : Int32) < c) (l2 : cs.length ≤ 4000)
    {y t' : Addr} {kb' : ClassId} {ds : List Int32} {cd' N2' : Int32} {vs' : List Value} (E' : RoadKit.Exa Z h y ST) (V' : RoadKit.Fld Z h y ST "value" "[B" (.ref t')) (C' : RoadKit.Fld Z h y ST "coder" "B" (.int cd')) (K' : RoadKit.Arv Z h t' kb' .byte N2' vs' (.int 0)) (hc' : CodA ds cd' N2' vs') (hb' : ∀ c ∈ ds, ¬ c < 0 ∧ ¬ (65535 : Int32) < c) (l2' : ds.length ≤ 4000)
    {z : Int32} (S : RoadKit.Sta Z h ST "COMPACT_STRINGS" "Z" (.int z)) (hz : ¬ z = 0) (hfr : 2 ≤ R.frames) (hlo : W + 28 ≤ R.locals) :
    Back l R p e below s args (⟨"java/lang/String", "equals", "(Ljava/lang/Object;)Z"⟩ : MethodName) len W (fun P a => a = #[.ref x, .ref y] ∧ P.U.heap = h ∧ P.cells + 0 ≤ R.cells ∧ P.slots + 0 ≤ R.slots)
      (fun P _ v B => ∃ L, (((v = some (.int 1) ∧ cs = ds) ∨ (v = some (.int 0) ∧ ¬ cs = ds)) ∧ L = [] ∧ B.U.heap = h) ∧ B.locs = P.locs ++ L ∧ B.cells = P.cells + 0 ∧ B.slots = P.slots + 0) := by
  intro m meth c P g ig mk a X hg hsize hdg hW hn hp'
  obtain ⟨rfl, rfl, r1, r2⟩ := hp'
  have al : Z.vm.Alike P.U.vm := hZ.alike.trans X.warmed.alike
  obtain ⟨A, hx⟩ := txt_of wi al E V C K hc hb l2
  obtain ⟨A', hy⟩ := txt_of wi al E' V' C' K' hc' hb' l2'
  obtain ⟨v, B, X', ⟨⟨w, hv, hh, hq⟩, hl, hk, hs⟩, st⟩ := SEq.pays x t A cd cs.length (fun j => cs.getD j 0) y t' A' cd' ds.length (fun j => ds.getD j 0) z (tabEq_of (movedEq hZ hw)) hfr hlo m meth c P g ig mk _ X hg hsize hdg hW hn ⟨r1, r2, rfl, hx, hy, sta_is al S, hz⟩
  refine ⟨v, B, X', ⟨[], ⟨?_, rfl, hh⟩, hl, hk, hs⟩, st⟩
  rcases hq with ⟨rfl, q⟩ | ⟨rfl, q⟩
  · exact Or.inl ⟨hv, (same_list cs ds).mp q⟩
  · exact Or.inr ⟨hv, fun e => q ((same_list cs ds).mpr e)⟩
end StrChars.Road
namespace StrChars.Road
open Jvm Sem ClassFile Op Lib Jvm.Stand Jvm.Free Jvm.Free.XT
open Jvm.Lib.Cold (StaticIs)
/-- what backV says of its String, as the contracts of this text ask it: cs's low bytes, coder 0 -/
theorem codOf {cs : List Int32} {n : Nat} (hn : cs.length = n) (hb : ∀ c ∈ cs, ¬ 255 < c) : CodA cs 0 (Int32.ofNat n) ((cs.map lo8).map Value.int) := Or.inl ⟨rfl, by rw [hn], by simp [List.map_map, Function.comp_def], hb⟩
end StrChars.Road
end Jvm.Pilot.@@N@@
namespace Jvm.Pilot.@@N@@
open Jvm Jvm.ClassFile Sem Op Lib Jvm.Free Jvm.Stand Jvm.LawKit Jvm.RoadKit Bundle Jvm.Pilot.@@N@@.Jvm.D
/-- what is left to run from S0 is what is left from T with the frame g on top -/
abbrev own_Pr (tb : Tables) (e : Env) (below : List Frame) (S0 T : State) (g : JFrame) : Prop := ∀ t, Steps tb e below (T.setTop g) t → Steps tb e below S0 t
/-- it returns the int r, the heap as it was -/
def own_QI (h0 : Heap) (n0 : Nat) (r : Int32) (v : Option Value) (h : Heap) (L : List Loc) : Prop := ∃ z, v = some (.int z) ∧ z = r ∧ Fr n0 L ∧ h = h0
def own_QJ (h0 : Heap) (n0 : Nat) (r : Int64) (v : Option Value) (h : Heap) (L : List Loc) : Prop := ∃ z, v = some (.long z) ∧ z = r ∧ Fr n0 L ∧ h = h0
def own_QR (h0 : Heap) (n0 : Nat) (r : Addr) (v : Option Value) (h : Heap) (L : List Loc) : Prop := ∃ z, v = some (.ref z) ∧ z = r ∧ Fr n0 L ∧ h = h0
def own_QL (n0 : Nat) (v : Option Value) (L : List Loc) : Prop := ∃ z : Int32, v = some (.int z) ∧ z = 1 ∧ Fr n0 L
def own_QV (h0 : Heap) (n0 : Nat) (v : Option Value) (h : Heap) (L : List Loc) : Prop := v = none ∧ Fr n0 L ∧ h = h0
theorem own_tab_other {Z : State} {h h' : Heap} {a b : Addr} {sl : Nat} {v : Value} {cl : Cell} {ty : FieldType} {n : Int32} (F : Tab Z h b cl ty n) (W : Wr h h' a sl v) (q : b ≠ a) : Tab Z h' b cl ty n := ⟨F.1.other W q, F.2⟩
theorem own_tab_keep {Z : State} {h h' : Heap} {b : Addr} {ws : List Addr} {cl : Cell} {ty : FieldType} {n : Int32} (F : Tab Z h b cl ty n) (K : Keep h h' ws) (q : b ∉ ws) : Tab Z h' b cl ty n := ⟨⟨K.2.1 b cl F.1.1 q, F.1.2⟩, F.2⟩
theorem own_tab {Z : State} {h : Heap} {a : Addr} {k : ClassId} {ty : FieldType} {n : Int32} {xs : List Int32} (F : Arv Z h a k ty n (xs.map Value.int) (.int 0)) : ∃ cl, Tab Z h a cl ty n ∧ ∀ j : Int32, ¬ j < 0 → j < n → atv cl j = xs.getD j.toNatClampNeg 0 := by
  obtain ⟨cl, A, -, S, hn, H, -⟩ := F
  have key : ∀ i, i < cl.slots.size → cl.slots[i]? = some (.int (xs.getD i 0)) := fun i hi => by
    rw [H i hi]; simp only [List.getD_eq_getElem?_getD, List.getElem?_map]
    cases xs[i]? <;> rfl
  have at' : ∀ j : Int32, ¬ (j < 0 ∨ cl.slots.size ≤ j.toNatClampNeg) → atv cl j = xs.getD j.toNatClampNeg 0 := fun j hj => atv_of (key _ (Nat.lt_of_not_le fun q => hj (Or.inr q)))
  exact ⟨cl, ⟨A, S, hn, fun j hj => by rw [at' j hj]; exact key _ (Nat.lt_of_not_le fun q => hj (Or.inr q))⟩, fun j h1 h2 => at' j (inb_of S ⟨h1, h2⟩)⟩
theorem own_lremM {p : Program} {l : Launch} {e : Env} {R : Room} {s : State} {m : MethodId} {args : Array Value} {below : List Frame} {meth : Method} {c : Code} {T : State} {locs : List Loc} {cells slots : Nat} {g : JFrame} {target : State} (X : Stand p l e R s m args below meth c T locs cells slots) (hx : p.tables.exec = Jvm.exec) (hg : g.method = m) {x y : Int64} {rest : List Value} (hd : decode c.code g.pc = .ok (.lrem, 1)) (hs : g.stack = .long y :: .long x :: rest) (hy : y ≠ 0)
    (hr : Steps p.tables e below (T.setTop { g with pc := g.pc + 1, stack := .long (x % y) :: rest }) target) : Steps p.tables e below (T.setTop g) target :=
  XS.lrem X.here hx hg hd hs hy (by rw [lrem_mod x y]; exact hr)
theorem own_wS {a0 : Array Value} {Z : State} (hw : ∀ d ∈ tables_1, d.before a0 Z = true) : ∀ a ∈ Bundle.stringAtoms, a.before a0 Z = true := fun a ha => by
  simp only [Bundle.stringAtoms, List.mem_cons, List.not_mem_nil, or_false] at ha
  rcases ha with rfl | rfl | rfl | rfl | rfl | rfl | rfl
  · exact (hw _ (List.mem_of_getElem? (i := 6) rfl))
  · exact (hw _ (List.mem_of_getElem? (i := 7) rfl))
  · exact (hw _ (List.mem_of_getElem? (i := 8) rfl))
  · exact (hw _ (List.mem_of_getElem? (i := 9) rfl))
  · exact (hw _ (List.mem_of_getElem? (i := 10) rfl))
  · exact (hw _ (List.mem_of_getElem? (i := 11) rfl))
  · exact (hw _ (List.mem_of_getElem? (i := 12) rfl))
theorem own_EW {a0 : Array Value} {Z : State} (hw : ∀ d ∈ tables_1, d.before a0 Z = true) : EW Z a0 consts_1 := (EW.cons (hw _ (List.mem_of_getElem? (i := 5) rfl)) (by decide) EW.nil)
/-- a String of n signs, all below 256; xs: its bytes -/
def own_Sc (Z : State) (h : Heap) (a : Addr) (n : Int32) (xs : List Int32) : Prop := ∃ (b : Addr) (k : ClassId), Exa Z h a "java/lang/String" ∧ Fld Z h a "java/lang/String" "coder" "B" (.int 0) ∧ Fld Z h a "java/lang/String" "value" "[B" (.ref b) ∧ Arv Z h b k .byte n (xs.map Value.int) (.int 0)
theorem own_Sc.exa {Z : State} {h : Heap} {a : Addr} {n : Int32} {xs : List Int32} (S : own_Sc Z h a n xs) : Exa Z h a "java/lang/String" := by obtain ⟨_, _, E, -⟩ := S; exact E
theorem own_Sc.ext {Z : State} {h h' : Heap} {a : Addr} {n : Int32} {xs : List Int32} (S : own_Sc Z h a n xs) (E : Ext h h') : own_Sc Z h' a n xs := by
  obtain ⟨b, k, e, c, v, A⟩ := S; exact ⟨b, k, e.ext E, c.ext E, v.ext E, A.ext E⟩
theorem own_Sc.keep0 {Z : State} {h h' : Heap} {a : Addr} {n : Int32} {xs : List Int32} (S : own_Sc Z h a n xs) (K : Keep h h' []) : own_Sc Z h' a n xs := by
  obtain ⟨b, k, e, c, v, A⟩ := S; exact ⟨b, k, e.keep K, c.keep K nin0, v.keep K nin0, A.keep K nin0⟩
/-- over a write to a place made since: both its cells are older -/
theorem own_Sc.keepN {Z : State} {h h' : Heap} {a x : Addr} {n : Int32} {xs : List Int32} {k0 : Nat} (S : own_Sc Z h a n xs) (L : ∃ b, Fld Z h a "java/lang/String" "value" "[B" (.ref b) ∧ a < k0 ∧ b < k0) (K : Keep h h' [x]) (q : k0 ≤ x) : own_Sc Z h' a n xs := by
  obtain ⟨b, k, e, c, v, A⟩ := S
  obtain ⟨b', v', l1, l2⟩ := L
  have eb : b' = b := by
    obtain ⟨c1, _, _, _, _, h1, h2, -, -, -, -, h7⟩ := v
    obtain ⟨c2, _, _, _, _, g1, g2, -, -, -, -, g7⟩ := v'
    cases h1.symm.trans g1; cases h2.symm.trans g2
    exact Value.ref.inj (Option.some.inj (g7.symm.trans h7))
  subst eb
  have n1 : a ≠ x := Nat.ne_of_lt (Nat.lt_of_lt_of_le l1 q)
  have n2 : b' ≠ x := Nat.ne_of_lt (Nat.lt_of_lt_of_le l2 q)
  exact ⟨b', k, e.keep K, c.keep K (ninS n1 nin0), v.keep K (ninS n1 nin0), A.keep K (ninS n2 nin0)⟩
theorem own_sta_keep0 {Z : State} {h h' : Heap} {C n d : String} {v : Value} (F : Sta Z h C n d v) (K : Keep h h' []) : Sta Z h' C n d v := by
  obtain ⟨cf, i, k, f, st, cell, h1, h2, h3, h4, h5, r⟩ := F; exact ⟨cf, i, k, f, st, cell, h1, h2, h3, h4, K.2.1 _ _ h5 nin0, r⟩
theorem own_sta_keep {Z : State} {h h' : Heap} {C n d D : String} {v : Value} {x : Addr} (F : Sta Z h C n d v) (K : Keep h h' [x]) (E : Exa Z h x D) : Sta Z h' C n d v := by
  obtain ⟨cf, i, k, f, st, cell, h1, h2, h3, h4, h5, h6, r⟩ := F
  obtain ⟨cx, _, g1, -, -, g4, -⟩ := E
  refine ⟨cf, i, k, f, st, cell, h1, h2, h3, h4, K.2.1 _ _ h5 (ninS (fun e => ?_) nin0), h6, r⟩
  subst e; cases h5.symm.trans g1; rw [g4] at h6; cases h6
theorem own_narC (y : Int32) : nar .char (y.toUInt32.toUInt16.toUInt32.toInt32) = y.toUInt32.toUInt16.toUInt32.toInt32 := by
  show (y.toUInt32.toUInt16.toUInt32.toInt32).toUInt32.toUInt16.toUInt32.toInt32 = _
  apply Int32.toBitVec_inj.mp
  show ((((y.toBitVec.setWidth 16).setWidth 32).setWidth 16).setWidth 32) = (y.toBitVec.setWidth 16).setWidth 32
  congr 1
  generalize y.toBitVec.setWidth 16 = w
  apply BitVec.eq_of_toNat_eq
  simp only [BitVec.toNat_setWidth]
  have := w.isLt
  omega
theorem own_narB (y : Int32) : nar .byte (y.toInt8.toInt32) = y.toInt8.toInt32 := by
  show (y.toInt8.toInt32).toInt8.toInt32 = _
  simp
theorem own_nar255 (x : Int32) : nar .char (x &&& 255) = x &&& 255 := by rw [← i2c_mask x]; exact own_narC _
section BackG
variable {p : Program} {l : Launch} {e : Env} {R : Room} {s : State} {m : MethodId} {args : Array Value} {below : List Frame} {Z : State} {a0 : Array Value} {EL : List (String × Nat)} {h : Heap} {vm0 : Vm}
theorem own_backL {y : MethodName} {bytes : ByteArray} {maxL : Nat} {ret : Option FieldType} {rm : Room} {len W : Nat} {as' : Array Value} {Q : Option Value → Heap → List Loc → Prop} {G : Vm → Prop}
    (hM : MetFree l y (head1 [Cond.code y bytes maxL ret] rm) (fun a U => a = as' ∧ Z.Warmed39 U.vm ∧ U.heap = h ∧ G U.vm) (fun _ _ _ _ _ => True) (fun _ U o U' => ∃ v L, o = .returned v ∧ Q v U'.heap L ∧ FrameEnd U o U' L rm.cells rm.slots))
    (hZ : Z.Warmed39 s.vm) (wc : (Cond.code y bytes maxL ret).before a0 Z = true) (wz : (Cond.initialized y.cls).before a0 Z = true) (hf : rm.frames + 1 ≤ R.frames) (hl : W + (maxL + 11) + rm.locals ≤ R.locals) (hG : ∀ vm, s.Warmed39 vm → G vm) :
    Back l R p e below s args y len W (fun A a => a = as' ∧ A.U.heap = h ∧ A.cells + rm.cells ≤ R.cells ∧ A.slots + rm.slots ≤ R.slots)
      (fun A _ v B => ∃ L, Q v B.U.heap L ∧ B.locs = A.locs ++ L ∧ B.cells = A.cells + rm.cells ∧ B.slots = A.slots + rm.slots) :=
  Back.of_free (bytes := bytes) (maxL := maxL) (ret := ret) (E := fun _ _ o t L k n => k = rm.cells ∧ n = rm.slots ∧ ∃ v, o = .returned v ∧ Q v t.heap L) hM hf hl
    (fun m meth c A a Y hp => have hU : Z.Warmed39 A.U.vm := wtrans hZ Y.warmed
      ⟨by show (Cond.and _ .tt).before a A.U = true; rw [Cond.before_and, mv hU wc]; rfl, mv hU wc, mv hU wz, hp.2.2.1, hp.2.2.2⟩)
    (fun m meth c A a g mk Y hp => ⟨hp.1, wtrans hZ Y.warmed, hp.2.1, hG _ Y.warmed.wide⟩) (fun _ _ _ _ _ _ _ _ _ => trivial)
    (fun _ _ _ _ ⟨v, L, h1, h2, h3⟩ => ⟨L, _, _, h3, rfl, rfl, v, h1, h2⟩)
    (fun m meth c A a g mk v t L k n Y hp _ _ ⟨e1, e2, v', e3, e4⟩ => by cases e3; subst e1 e2; exact ⟨L, e4, rfl, rfl, rfl⟩)
theorem own_backG {y : MethodName} {bytes : ByteArray} {maxL : Nat} {ret : Option FieldType} {rm : Room} {len W : Nat} {as' : Array Value} {Q : Option Value → Heap → List Loc → Vm → Prop}
    (hM : MetFree l y (head1 [Cond.code y bytes maxL ret] rm) (fun a U => a = as' ∧ Z.Warmed39 U.vm ∧ U.heap = h ∧ CHv Z EL U.vm h) (fun _ _ _ _ _ => True) (fun _ U o U' => ∃ v L, o = .returned v ∧ Q v U'.heap L U'.vm ∧ CHr Z EL U.vm U.heap U'.vm U'.heap ∧ ReturnedEndW U o U' L rm.cells rm.slots))
    (hZ : Z.Warmed39 vm0) (wc : (Cond.code y bytes maxL ret).before a0 Z = true) (wz : (Cond.initialized y.cls).before a0 Z = true) (hf : rm.frames + 1 ≤ R.frames) (hl : W + (maxL + 11) + rm.locals ≤ R.locals) (hEL : EW Z a0 EL) (H : CHv Z EL vm0 h) :
    BackS l R p e below (s.setVm vm0) args y len W (fun A a => a = as' ∧ A.U.heap = h ∧ A.cells + rm.cells ≤ R.cells ∧ A.slots + rm.slots ≤ R.slots)
      (fun A _ v B => ∃ L, Q v B.U.heap L B.U.vm ∧ B.locs = A.locs ++ L ∧ B.cells = A.cells + rm.cells ∧ B.slots = A.slots + rm.slots ∧ CHr Z EL vm0 h B.U.vm B.U.heap) :=
  BackS.of_freeW (bytes := bytes) (maxL := maxL) (ret := ret) (E := fun _ first o t L k n => k = rm.cells ∧ n = rm.slots ∧ (∃ v, o = .returned v ∧ Q v t.heap L t.vm) ∧ CHr Z EL first.vm first.heap t.vm t.heap) hM hf hl
    (fun m meth c A a Y hp => have hU : Z.Warmed39 A.U.vm := wtrans (s := s.setVm vm0) hZ Y.warmed
      ⟨by show (Cond.and _ .tt).before a A.U = true; rw [Cond.before_and, mv hU wc]; rfl, mv hU wc, mv hU wz, hp.2.2.1, hp.2.2.2⟩)
    (fun m meth c A a g mk Y hp => ⟨hp.1, wtrans (s := s.setVm vm0) hZ Y.warmed, hp.2.1, (CHv.at Y hZ hEL H).1⟩) (fun _ _ _ _ _ _ _ _ _ => trivial)
    (fun _ _ _ _ ⟨v, L, h1, h2, h3, h4⟩ => ⟨L, _, _, h4, rfl, rfl, ⟨v, h1, h2⟩, h3⟩)
    (fun m meth c A a g mk v t L k n Y hp _ _ ⟨e1, e2, ⟨v', e3, e4⟩, e5⟩ => by
      cases e3; subst e1 e2
      refine ⟨L, e4, rfl, rfl, rfl, (CHv.at Y hZ hEL H).trans ?_⟩
      rw [← hp.2.1]; exact e5)
end BackG
/-- the law's constant is loaded: at lt -/
def own_Lt (Z : State) (vm : Vm) (lt : Addr) : Prop := Lit (Z.setVm vm) "com/example/firmhold/firmhold/PermissionNamedPinLaw" 7 lt
def own_XS : List Int32 := [98, 121, 112, 97, 115, 115, 45, 103, 111, 118, 101, 114, 110, 97, 110, 99, 101]
def own_nm (i : Int32) : Int32 := if i < (0 : Int32) then 63 else if i < (17 : Int32) then (own_XS.getD i.toNatClampNeg 0) &&& 255 else 63
def own_at (m i p c q d : Int32) : Int32 :=
  if m = 1 then (if i < p then own_nm i else if i = p then c else own_nm (i - 1)) else
  if m = 2 then (if i < p then own_nm i else own_nm (i + 1)) else
  if m = 3 then (if i = q then d else if i = p then c else own_nm i) else
  if i = p then c else own_nm i
/-- a call that may load the constant: r, and where it stands -/
def own_QN (Z : State) (r : Int32) (G : Prop) (h0 : Heap) (n0 : Nat) (v : Option Value) (h : Heap) (L : List Loc) (vm : Vm) : Prop := v = some (.int r) ∧ Fr n0 L ∧ Keep h0 h [] ∧ (G → ∃ lt, own_Sc Z h lt 17 own_XS ∧ own_Lt Z vm lt)
theorem d3_0 : decode jdk_42_method_152_code 0 = .ok (.getstatic 38, 3) := by decide +kernel
theorem d3_3 : decode jdk_42_method_152_code 3 = .ok (.ifCond .eq 10, 3) := by decide +kernel
theorem d3_6 : decode jdk_42_method_152_code 6 = .ok (.aload_n 0, 1) := by decide +kernel
theorem d3_7 : decode jdk_42_method_152_code 7 = .ok (.getfield 15, 3) := by decide +kernel
theorem d3_10 : decode jdk_42_method_152_code 10 = .ok (.goto 4, 3) := by decide +kernel
theorem d3_14 : decode jdk_42_method_152_code 14 = .ok (.ireturn, 1) := by decide +kernel
theorem pn_3 : plainName "java/lang/String" = true := by first | (simp [plainName, overriddenIn]; done) | decide +kernel
theorem ef_3 (m : MethodId) (a1 : Addr) : entryFrame m #[(.ref a1)] 1 = mkF m 0 #[.val (.ref a1)] [] := by first | (simp [entryFrame, mkF, argsToLocals, Value.category]; done) | rfl
def own_f3 (cs : Int32) : Int32 := (0 : Int32)
set_option maxRecDepth 65536 in
set_option maxHeartbeats 40000000 in
theorem rm3 (l : Launch) (Z : State) (a0 : Array Value) (hw : ∀ d ∈ tables_1, d.before a0 Z = true) (ws : List Jvm.Cond) (a1 : Addr) (cs : Int32) (h0 : Heap) (n0 : Nat) (Z0 : n0 ≤ h0.size) (Fc : Fld Z h0 a1 "java/lang/String" "coder" "B" (.int (0 : Int32))) (CS : Sta Z h0 "java/lang/String" "COMPACT_STRINGS" "Z" (.int cs)) (hcs : ¬ cs = (0 : Int32)) :
    MetFree l (⟨"java/lang/String", "coder", "()B"⟩ : MethodName) (head1 (Jvm.Cond.code (⟨"java/lang/String", "coder", "()B"⟩ : MethodName) jdk_42_method_152_code 1 (some .byte) :: ws) ({ frames := 0, cells := 0, slots := 0, locals := 0 } : Room)) (fun a U => a = #[(.ref a1)] ∧ Z.Warmed39 U.vm ∧ U.heap = h0) (fun _ _ _ _ _ => True) (fun _ U o U' => ∃ v L, o = .returned v ∧ own_QI h0 n0 (own_f3 cs) v U'.heap L ∧ FrameEnd U o U' L ({ frames := 0, cells := 0, slots := 0, locals := 0 } : Room).cells ({ frames := 0, cells := 0, slots := 0, locals := 0 } : Room).slots) := by
  refine MetFree.of_bodySF (plainFor_of_name pn_3) hisR ?_
  intro p e s m args below meth c s₁ Bd hml0 hP hK
  obtain ⟨rfl, hZ, hh⟩ := hP
  have hx := Bd.exec
  have hby := Bd.bytes
  have hml : c.maxLocals = 1 := hml0
  have hown : s.vm.findClass "java/lang/String" = some m.cls := findClass_of_methodNamed Bd.named
  have hnm := (name_of_methodNamed Bd.named Bd.method).1
  have X0 : Stand p l e ({ frames := 0, cells := 0, slots := 0, locals := 0 } : Room) s m #[(.ref a1)] below meth c s₁ [] 0 0 := Stand.of_body Bd
  have e0 : s₁.heap = h0 := by rw [← hh, Bd.state]; rfl
  have N0 := Fr.nil n0
  obtain ⟨S0, hS0⟩ : ∃ z, z = s₁.setTop (entryFrame m #[(.ref a1)] 1) := ⟨_, rfl⟩
  have P0 : own_Pr p.tables e below S0 s₁ (mkF m 0 #[.val (.ref a1)] []) := fun t k => hS0 ▸ castTop (ef_3 m a1) k
  obtain ⟨T21, X21, e21, st21⟩ := getS2 X0 hx hZ hown (host := "") (Or.inl (hw _ (List.mem_of_getElem? (i := 24) rfl))) Via.refl e0 CS (g := (mkF m 0 #[.val (.ref a1)] [])) rfl (hb hby d3_0)
  have P22 : own_Pr p.tables e below S0 T21 (mkF m 3 #[.val (.ref a1)] [(.int cs)]) := fun t k => P0 t (st21 _ k)
  have P23 : own_Pr p.tables e below S0 T21 (mkF m 7 #[.val (.ref a1)] [(.ref a1)]) := fun t k => P22 t (by
    refine XS.ifNo X21.here hx rfl (hb hby d3_3) rfl (XT.i0_eq_f hcs) ?_
    refine XS.aloadN X21.here hx rfl (hb hby d3_6) rfl rfl ?_
    exact k)
  obtain ⟨T24, X24, e24, st24⟩ := getF X21 hx hZ hown (host := "") (Or.inl (hw _ (List.mem_of_getElem? (i := 25) rfl))) Via.refl e21 Fc (g := (mkF m 7 #[.val (.ref a1)] [(.ref a1)])) rfl rfl (hb hby d3_7)
  have P25 : own_Pr p.tables e below S0 T24 (mkF m 10 #[.val (.ref a1)] [(.int 0)]) := fun t k => P23 t (st24 _ k)
  have P26 : own_Pr p.tables e below S0 T24 (mkF m 14 #[.val (.ref a1)] [(.int 0)]) := fun t k => P25 t (by
    refine XS.goto X24.here hx rfl (pc0 := 10) (pc' := 14) rfl (hb hby d3_10) (by decide) (by decide) ?_
    exact k)
  obtain ⟨fs, hr, hrun, hended, hW, hsame⟩ := X24.leave (v := some (.int 0)) (fun h => by rw [Bd.returns] at h; cases h)
  have fin : Steps p.tables e below S0 (T24.setFrames fs) := P26 _ (retN X24 hx (t := .byte) Bd.returns (by simp) (hb hby d3_14) hr)
  rw [hS0] at fin
  refine ⟨_, _, fin, hrun, hended, _, _, rfl, ?_, ⟨_, rfl⟩, hW, hsame.mono (by decide) (by decide)⟩
  show own_QI h0 n0 (own_f3 cs) _ T24.heap _
  rw [e24]
  exact ⟨_, rfl, (by unfold own_f3; rfl), N0, rfl⟩
theorem d5_0 : decode jdk_42_method_154_code 0 = .ok (.getstatic 38, 3) := by decide +kernel
theorem d5_3 : decode jdk_42_method_154_code 3 = .ok (.ifCond .eq 14, 3) := by decide +kernel
theorem d5_6 : decode jdk_42_method_154_code 6 = .ok (.aload_n 0, 1) := by decide +kernel
theorem d5_7 : decode jdk_42_method_154_code 7 = .ok (.getfield 15, 3) := by decide +kernel
theorem d5_10 : decode jdk_42_method_154_code 10 = .ok (.ifCond .ne 7, 3) := by decide +kernel
theorem d5_13 : decode jdk_42_method_154_code 13 = .ok (.iconst 1, 1) := by decide +kernel
theorem d5_14 : decode jdk_42_method_154_code 14 = .ok (.goto 4, 3) := by decide +kernel
theorem d5_18 : decode jdk_42_method_154_code 18 = .ok (.ireturn, 1) := by decide +kernel
theorem ef_5 (m : MethodId) (a1 : Addr) : entryFrame m #[(.ref a1)] 1 = mkF m 0 #[.val (.ref a1)] [] := by first | (simp [entryFrame, mkF, argsToLocals, Value.category]; done) | rfl
set_option maxRecDepth 65536 in
set_option maxHeartbeats 40000000 in
theorem rm5 (l : Launch) (Z : State) (a0 : Array Value) (hw : ∀ d ∈ tables_1, d.before a0 Z = true) (ws : List Jvm.Cond) (a1 : Addr) (cs : Int32) (h0 : Heap) (n0 : Nat) (Z0 : n0 ≤ h0.size) (Fc : Fld Z h0 a1 "java/lang/String" "coder" "B" (.int (0 : Int32))) (CS : Sta Z h0 "java/lang/String" "COMPACT_STRINGS" "Z" (.int cs)) (hcs : ¬ cs = (0 : Int32)) :
    MetFree l (⟨"java/lang/String", "isLatin1", "()Z"⟩ : MethodName) (head1 (Jvm.Cond.code (⟨"java/lang/String", "isLatin1", "()Z"⟩ : MethodName) jdk_42_method_154_code 1 (some .boolean) :: ws) ({ frames := 0, cells := 0, slots := 0, locals := 0 } : Room)) (fun a U => a = #[(.ref a1)] ∧ Z.Warmed39 U.vm ∧ U.heap = h0) (fun _ _ _ _ _ => True) (fun _ U o U' => ∃ v L, o = .returned v ∧ own_QI h0 n0 1 v U'.heap L ∧ FrameEnd U o U' L ({ frames := 0, cells := 0, slots := 0, locals := 0 } : Room).cells ({ frames := 0, cells := 0, slots := 0, locals := 0 } : Room).slots) := by
  refine MetFree.of_bodySF (plainFor_of_name pn_3) hisR ?_
  intro p e s m args below meth c s₁ Bd hml0 hP hK
  obtain ⟨rfl, hZ, hh⟩ := hP
  have hx := Bd.exec
  have hby := Bd.bytes
  have hml : c.maxLocals = 1 := hml0
  have hown : s.vm.findClass "java/lang/String" = some m.cls := findClass_of_methodNamed Bd.named
  have hnm := (name_of_methodNamed Bd.named Bd.method).1
  have X0 : Stand p l e ({ frames := 0, cells := 0, slots := 0, locals := 0 } : Room) s m #[(.ref a1)] below meth c s₁ [] 0 0 := Stand.of_body Bd
  have e0 : s₁.heap = h0 := by rw [← hh, Bd.state]; rfl
  have N0 := Fr.nil n0
  obtain ⟨S0, hS0⟩ : ∃ z, z = s₁.setTop (entryFrame m #[(.ref a1)] 1) := ⟨_, rfl⟩
  have P0 : own_Pr p.tables e below S0 s₁ (mkF m 0 #[.val (.ref a1)] []) := fun t k => hS0 ▸ castTop (ef_5 m a1) k
  obtain ⟨T21, X21, e21, st21⟩ := getS2 X0 hx hZ hown (host := "") (Or.inl (hw _ (List.mem_of_getElem? (i := 24) rfl))) Via.refl e0 CS (g := (mkF m 0 #[.val (.ref a1)] [])) rfl (hb hby d5_0)
  have P22 : own_Pr p.tables e below S0 T21 (mkF m 3 #[.val (.ref a1)] [(.int cs)]) := fun t k => P0 t (st21 _ k)
  have P23 : own_Pr p.tables e below S0 T21 (mkF m 7 #[.val (.ref a1)] [(.ref a1)]) := fun t k => P22 t (by
    refine XS.ifNo X21.here hx rfl (hb hby d5_3) rfl (XT.i0_eq_f hcs) ?_
    refine XS.aloadN X21.here hx rfl (hb hby d5_6) rfl rfl ?_
    exact k)
  obtain ⟨T24, X24, e24, st24⟩ := getF X21 hx hZ hown (host := "") (Or.inl (hw _ (List.mem_of_getElem? (i := 25) rfl))) Via.refl e21 Fc (g := (mkF m 7 #[.val (.ref a1)] [(.ref a1)])) rfl rfl (hb hby d5_7)
  have P25 : own_Pr p.tables e below S0 T24 (mkF m 10 #[.val (.ref a1)] [(.int 0)]) := fun t k => P23 t (st24 _ k)
  have P26 : own_Pr p.tables e below S0 T24 (mkF m 18 #[.val (.ref a1)] [(.int 1)]) := fun t k => P25 t (by
    refine XS.ifNo X24.here hx rfl (hb hby d5_10) rfl (by decide) ?_
    refine XS.iconst X24.here hx rfl (hb hby d5_13) ?_
    refine XS.goto X24.here hx rfl (pc0 := 14) (pc' := 18) rfl (hb hby d5_14) (by decide) (by decide) ?_
    exact k)
  obtain ⟨fs, hr, hrun, hended, hW, hsame⟩ := X24.leave (v := some (.int 1)) (fun h => by rw [Bd.returns] at h; cases h)
  have fin : Steps p.tables e below S0 (T24.setFrames fs) := P26 _ (retN X24 hx (t := .boolean) Bd.returns (by simp) (hb hby d5_18) hr)
  rw [hS0] at fin
  refine ⟨_, _, fin, hrun, hended, _, _, rfl, ?_, ⟨_, rfl⟩, hW, hsame.mono (by decide) (by decide)⟩
  show own_QI h0 n0 1 _ T24.heap _
  rw [e24]
  exact ⟨_, rfl, rfl, N0, rfl⟩
theorem own_len_eq (n : Int32) : n >>> ((0 : Int32) &&& 31) = n := by
  have e : (0 : Int32) &&& 31 = 0 := by decide
  rw [e]; simp
theorem d2_0 : decode jdk_42_method_54_code 0 = .ok (.aload_n 0, 1) := by decide +kernel
theorem d2_1 : decode jdk_42_method_54_code 1 = .ok (.getfield 9, 3) := by decide +kernel
theorem d2_4 : decode jdk_42_method_54_code 4 = .ok (.arraylength, 1) := by decide +kernel
theorem d2_5 : decode jdk_42_method_54_code 5 = .ok (.aload_n 0, 1) := by decide +kernel
theorem d2_6 : decode jdk_42_method_54_code 6 = .ok (.invokevirtual 335, 3) := by decide +kernel
theorem d2_9 : decode jdk_42_method_54_code 9 = .ok (.ishr, 1) := by decide +kernel
theorem d2_10 : decode jdk_42_method_54_code 10 = .ok (.ireturn, 1) := by decide +kernel
theorem pd_0 : parseMethodDescriptor "()B" = some ⟨[], some .byte⟩ := by decide +kernel
theorem ef_2 (m : MethodId) (a1 : Addr) : entryFrame m #[(.ref a1)] 1 = mkF m 0 #[.val (.ref a1)] [] := by first | (simp [entryFrame, mkF, argsToLocals, Value.category]; done) | rfl
set_option maxRecDepth 65536 in
set_option maxHeartbeats 40000000 in
theorem rm2 (l : Launch) (Z : State) (a0 : Array Value) (hw : ∀ d ∈ tables_1, d.before a0 Z = true) (ws : List Jvm.Cond) (a1 : Addr) (n : Int32) (xs : List Int32) (cs : Int32) (h0 : Heap) (n0 : Nat) (Z0 : n0 ≤ h0.size) (Sa : own_Sc Z h0 a1 n xs) (CS : Sta Z h0 "java/lang/String" "COMPACT_STRINGS" "Z" (.int cs)) (hcs : ¬ cs = (0 : Int32)) :
    MetFree l (⟨"java/lang/String", "length", "()I"⟩ : MethodName) (head1 (Jvm.Cond.code (⟨"java/lang/String", "length", "()I"⟩ : MethodName) jdk_42_method_54_code 1 (some .int) :: ws) ({ frames := 1, cells := 0, slots := 0, locals := 13 } : Room)) (fun a U => a = #[(.ref a1)] ∧ Z.Warmed39 U.vm ∧ U.heap = h0) (fun _ _ _ _ _ => True) (fun _ U o U' => ∃ v L, o = .returned v ∧ own_QI h0 n0 n v U'.heap L ∧ FrameEnd U o U' L ({ frames := 1, cells := 0, slots := 0, locals := 13 } : Room).cells ({ frames := 1, cells := 0, slots := 0, locals := 13 } : Room).slots) := by
  refine MetFree.of_bodySF (plainFor_of_name pn_3) hisR ?_
  intro p e s m args below meth c s₁ Bd hml0 hP hK
  obtain ⟨rfl, hZ, hh⟩ := hP
  have hx := Bd.exec
  have hby := Bd.bytes
  have hml : c.maxLocals = 1 := hml0
  have hown : s.vm.findClass "java/lang/String" = some m.cls := findClass_of_methodNamed Bd.named
  have hnm := (name_of_methodNamed Bd.named Bd.method).1
  have X0 : Stand p l e ({ frames := 1, cells := 0, slots := 0, locals := 13 } : Room) s m #[(.ref a1)] below meth c s₁ [] 0 0 := Stand.of_body Bd
  have e0 : s₁.heap = h0 := by rw [← hh, Bd.state]; rfl
  have N0 := Fr.nil n0
  obtain ⟨S0, hS0⟩ : ∃ z, z = s₁.setTop (entryFrame m #[(.ref a1)] 1) := ⟨_, rfl⟩
  have P0 : own_Pr p.tables e below S0 s₁ (mkF m 0 #[.val (.ref a1)] []) := fun t k => hS0 ▸ castTop (ef_2 m a1) k
  obtain ⟨vb, kb, Es, Fc, Fv, Av⟩ := Sa
  have P21 : own_Pr p.tables e below S0 s₁ (mkF m 1 #[.val (.ref a1)] [(.ref a1)]) := fun t k => P0 t (by
    refine XS.aloadN X0.here hx rfl (hb hby d2_0) rfl rfl ?_
    exact k)
  obtain ⟨T22, X22, e22, st22⟩ := getF X0 hx hZ hown (host := "") (Or.inl (hw _ (List.mem_of_getElem? (i := 18) rfl))) Via.refl e0 Fv (g := (mkF m 1 #[.val (.ref a1)] [(.ref a1)])) rfl rfl (hb hby d2_1)
  have P23 : own_Pr p.tables e below S0 T22 (mkF m 4 #[.val (.ref a1)] [(.ref vb)]) := fun t k => P21 t (st22 _ k)
  obtain ⟨cl24, Ar24, q24, S24, N24, H24, G24⟩ := id Av
  have P25 : own_Pr p.tables e below S0 T22 (mkF m 6 #[.val (.ref a1)] [(.ref a1), (.int n)]) := fun t k => P23 t (by
    refine X22.arraylength hx (by rw [e22]; exact Ar24.1) (State.isArrayOf_alike hZ.alike Ar24.2.1) (g := (mkF m 4 #[.val (.ref a1)] [(.ref vb)])) rfl rfl (hb hby d2_4) _ ?_
    rw [len_of S24 N24]
    show Steps p.tables e below (T22.setTop (mkF m 5 #[.val (.ref a1)] [(.int n)])) _
    refine XS.aloadN X22.here hx rfl (hb hby d2_5) rfl rfl ?_
    exact k)
  obtain ⟨cq26, kq26, q26a, q26b, q26c⟩ := isOf hZ e22 Es
  obtain ⟨_, _, ⟨T26, L26, k26, n26⟩, -, X26, ⟨Lc26, hQ26, l26, y26, z26⟩, st26⟩ := X22.virtualBack hx (y := (⟨"java/lang/String", "coder", "()B"⟩ : MethodName)) (z := (⟨"java/lang/String", "coder", "()B"⟩ : MethodName)) hown (mvT hZ (hw _ (List.mem_of_getElem? (i := 19) rfl))) (mvT hZ (hw _ (List.mem_of_getElem? (i := 20) rfl))) (notFace_of_selects (args := #[]) (mvT hZ (hw _ (List.mem_of_getElem? (i := 22) rfl)))) (mvT hZ (hw _ (List.mem_of_getElem? (i := 22) rfl))) (mvT hZ (hw _ (List.mem_of_getElem? (i := 21) rfl))) (by decide) (backOf (W := 1) (rm3 l Z a0 hw [] a1 cs h0 n0 Z0 Fc CS hcs) hZ (hw _ (List.mem_of_getElem? (i := 23) rfl)) (hw _ (List.mem_of_getElem? (i := 6) rfl)) (by decide) (by decide)) q26a q26c (g := (mkF m 6 #[.val (.ref a1)] [(.ref a1), (.int n)])) rfl (by rw [hml]; rfl) (Steps.refl _) (argsL := []) (rest := [(.int n)]) (lenOf pd_0 rfl) rfl (by show 2 * 0 + _ ≤ _; exact Nat.le_of_eq rfl) (hb hby d2_6) (fun _ _ => ⟨rfl, e22, (by decide : 0 + 0 ≤ _), (by decide : 0 + 0 ≤ _)⟩)
  dsimp only [Pt.U, Pt.locs, Pt.cells, Pt.slots] at X26 l26 y26 z26 st26 hQ26
  rw [l26, y26, z26] at X26
  have X26 := X26.mono (cells' := 0) (slots' := 0) (by decide) (by decide)
  obtain ⟨z26v, rfl, hz26v, Nq26, eq26⟩ := hQ26
  have N26n := Fr.app N0 Nq26
  have P27 : own_Pr p.tables e below S0 T26 (mkF m 9 #[.val (.ref a1)] [(.int z26v), (.int n)]) := fun t k => P25 t (st26.trans k)
  have P28 : own_Pr p.tables e below S0 T26 (mkF m 10 #[.val (.ref a1)] [(.int (n >>> (z26v &&& 31)))]) := fun t k => P27 t (by
    refine XS.ishr X26.here hx rfl (hb hby d2_9) rfl ?_
    exact k)
  obtain ⟨fs, hr, hrun, hended, hW, hsame⟩ := X26.leave (v := some (.int (n >>> (z26v &&& 31)))) (fun h => by rw [Bd.returns] at h; cases h)
  have fin : Steps p.tables e below S0 (T26.setFrames fs) := P28 _ (retI X26 hx Bd.returns (hb hby d2_10) hr)
  rw [hS0] at fin
  refine ⟨_, _, fin, hrun, hended, _, _, rfl, ?_, ⟨_, rfl⟩, hW, hsame.mono (by decide) (by decide)⟩
  show own_QI h0 n0 n _ T26.heap _
  rw [eq26]
  exact ⟨_, rfl, (by rw [hz26v]; exact own_len_eq n), N26n, rfl⟩
theorem d8_0 : decode jdk_41_method_11_code 0 = .ok (.iload_n 0, 1) := by decide +kernel
theorem d8_1 : decode jdk_41_method_11_code 1 = .ok (.ifCond .lt 8, 3) := by decide +kernel
theorem d8_4 : decode jdk_41_method_11_code 4 = .ok (.iload_n 0, 1) := by decide +kernel
theorem d8_5 : decode jdk_41_method_11_code 5 = .ok (.iload_n 1, 1) := by decide +kernel
theorem d8_6 : decode jdk_41_method_11_code 6 = .ok (.if_icmp .lt 10, 3) := by decide +kernel
theorem d8_16 : decode jdk_41_method_11_code 16 = .ok (.iload_n 0, 1) := by decide +kernel
theorem d8_17 : decode jdk_41_method_11_code 17 = .ok (.ireturn, 1) := by decide +kernel
theorem pn_8 : plainName "jdk/internal/util/Preconditions" = true := by first | (simp [plainName, overriddenIn]; done) | decide +kernel
theorem ef_8 (m : MethodId) (p1 : Int32) (p2 : Int32) (fm : Value) (hr_fm : fm.isRef = true) : entryFrame m #[(.int p1), (.int p2), fm] 3 = mkF m 0 #[.val (.int p1), .val (.int p2), .val fm] [] := by
  cases fm
  all_goals first | (simp [Value.isRef] at hr_fm; done) | rfl | (simp [entryFrame, mkF, argsToLocals, Value.category]; done)
def own_f8 (p1 : Int32) : Int32 := p1
set_option maxRecDepth 65536 in
set_option maxHeartbeats 40000000 in
theorem rm8 (l : Launch) (Z : State) (a0 : Array Value) (hw : ∀ d ∈ tables_1, d.before a0 Z = true) (ws : List Jvm.Cond) (p1 : Int32) (p2 : Int32) (fm : Value)  (h0 : Heap) (n0 : Nat) (Z0 : n0 ≤ h0.size) (hr_fm : fm.isRef = true) (h1 : ¬ p1 < (0 : Int32)) (h2 : p1 < p2) :
    MetFree l (⟨"jdk/internal/util/Preconditions", "checkIndex", "(IILjava/util/function/BiFunction;)I"⟩ : MethodName) (head1 (Jvm.Cond.code (⟨"jdk/internal/util/Preconditions", "checkIndex", "(IILjava/util/function/BiFunction;)I"⟩ : MethodName) jdk_41_method_11_code 3 (some .int) :: ws) ({ frames := 0, cells := 0, slots := 0, locals := 0 } : Room)) (fun a U => a = #[(.int p1), (.int p2), fm] ∧ Z.Warmed39 U.vm ∧ U.heap = h0) (fun _ _ _ _ _ => True) (fun _ U o U' => ∃ v L, o = .returned v ∧ own_QI h0 n0 (own_f8 p1) v U'.heap L ∧ FrameEnd U o U' L ({ frames := 0, cells := 0, slots := 0, locals := 0 } : Room).cells ({ frames := 0, cells := 0, slots := 0, locals := 0 } : Room).slots) := by
  refine MetFree.of_bodySF (plainFor_of_name pn_8) hisR ?_
  intro p e s m args below meth c s₁ Bd hml0 hP hK
  obtain ⟨rfl, hZ, hh⟩ := hP
  have hx := Bd.exec
  have hby := Bd.bytes
  have hml : c.maxLocals = 3 := hml0
  have hown : s.vm.findClass "jdk/internal/util/Preconditions" = some m.cls := findClass_of_methodNamed Bd.named
  have hnm := (name_of_methodNamed Bd.named Bd.method).1
  have X0 : Stand p l e ({ frames := 0, cells := 0, slots := 0, locals := 0 } : Room) s m #[(.int p1), (.int p2), fm] below meth c s₁ [] 0 0 := Stand.of_body Bd
  have e0 : s₁.heap = h0 := by rw [← hh, Bd.state]; rfl
  have N0 := Fr.nil n0
  obtain ⟨S0, hS0⟩ : ∃ z, z = s₁.setTop (entryFrame m #[(.int p1), (.int p2), fm] 3) := ⟨_, rfl⟩
  have P0 : own_Pr p.tables e below S0 s₁ (mkF m 0 #[.val (.int p1), .val (.int p2), .val fm] []) := fun t k => hS0 ▸ castTop (ef_8 m p1 p2 fm hr_fm) k
  have P21 : own_Pr p.tables e below S0 s₁ (mkF m 17 #[.val (.int p1), .val (.int p2), .val fm] [(.int p1)]) := fun t k => P0 t (by
    refine XS.iloadN X0.here hx rfl (hb hby d8_0) rfl ?_
    refine XS.ifNo X0.here hx rfl (hb hby d8_1) rfl (XT.i0_lt_f h1) ?_
    refine XS.iloadN X0.here hx rfl (hb hby d8_4) rfl ?_
    refine XS.iloadN X0.here hx rfl (hb hby d8_5) rfl ?_
    refine XS.icmpYes X0.here hx rfl (pc0 := 6) (pc' := 16) rfl (hb hby d8_6) rfl (XT.ii_lt_t h2) (by decide) (by decide) ?_
    refine XS.iloadN X0.here hx rfl (hb hby d8_16) rfl ?_
    exact k)
  obtain ⟨fs, hr, hrun, hended, hW, hsame⟩ := X0.leave (v := some (.int p1)) (fun h => by rw [Bd.returns] at h; cases h)
  have fin : Steps p.tables e below S0 (s₁.setFrames fs) := P21 _ (retI X0 hx Bd.returns (hb hby d8_17) hr)
  rw [hS0] at fin
  refine ⟨_, _, fin, hrun, hended, _, _, rfl, ?_, ⟨_, rfl⟩, hW, hsame.mono (by decide) (by decide)⟩
  show own_QI h0 n0 (own_f8 p1) _ s₁.heap _
  rw [e0]
  exact ⟨_, rfl, (by unfold own_f8; rfl), N0, rfl⟩
theorem d7_0 : decode jdk_42_method_155_code 0 = .ok (.iload_n 0, 1) := by decide +kernel
theorem d7_1 : decode jdk_42_method_155_code 1 = .ok (.iload_n 1, 1) := by decide +kernel
theorem d7_2 : decode jdk_42_method_155_code 2 = .ok (.getstatic 1053, 3) := by decide +kernel
theorem d7_5 : decode jdk_42_method_155_code 5 = .ok (.invokestatic 1059, 3) := by decide +kernel
theorem d7_8 : decode jdk_42_method_155_code 8 = .ok (.pop, 1) := by decide +kernel
theorem d7_9 : decode jdk_42_method_155_code 9 = .ok (.return_, 1) := by decide +kernel
theorem pd_1 : parseMethodDescriptor "(IILjava/util/function/BiFunction;)I" = some ⟨[.int, .int, (.object "java/util/function/BiFunction")], some .int⟩ := by decide +kernel
theorem ef_7 (m : MethodId) (p1 : Int32) (p2 : Int32) : entryFrame m #[(.int p1), (.int p2)] 2 = mkF m 0 #[.val (.int p1), .val (.int p2)] [] := by first | (simp [entryFrame, mkF, argsToLocals, Value.category]; done) | rfl
set_option maxRecDepth 65536 in
set_option maxHeartbeats 40000000 in
theorem rm7 (l : Launch) (Z : State) (a0 : Array Value) (hw : ∀ d ∈ tables_1, d.before a0 Z = true) (ws : List Jvm.Cond) (p1 : Int32) (p2 : Int32) (fm : Value) (h0 : Heap) (n0 : Nat) (Z0 : n0 ≤ h0.size) (FM : Sta Z h0 "jdk/internal/util/Preconditions" "SIOOBE_FORMATTER" "Ljava/util/function/BiFunction;" fm) (hr_fm : fm.isRef = true) (h1 : ¬ p1 < (0 : Int32)) (h2 : p1 < p2) :
    MetFree l (⟨"java/lang/String", "checkIndex", "(II)V"⟩ : MethodName) (head1 (Jvm.Cond.code (⟨"java/lang/String", "checkIndex", "(II)V"⟩ : MethodName) jdk_42_method_155_code 2 none :: ws) ({ frames := 1, cells := 0, slots := 0, locals := 14 } : Room)) (fun a U => a = #[(.int p1), (.int p2)] ∧ Z.Warmed39 U.vm ∧ U.heap = h0) (fun _ _ _ _ _ => True) (fun _ U o U' => ∃ v L, o = .returned v ∧ own_QV h0 n0 v U'.heap L ∧ FrameEnd U o U' L ({ frames := 1, cells := 0, slots := 0, locals := 14 } : Room).cells ({ frames := 1, cells := 0, slots := 0, locals := 14 } : Room).slots) := by
  refine MetFree.of_bodySF (plainFor_of_name pn_3) hisR ?_
  intro p e s m args below meth c s₁ Bd hml0 hP hK
  obtain ⟨rfl, hZ, hh⟩ := hP
  have hx := Bd.exec
  have hby := Bd.bytes
  have hml : c.maxLocals = 2 := hml0
  have hown : s.vm.findClass "java/lang/String" = some m.cls := findClass_of_methodNamed Bd.named
  have hnm := (name_of_methodNamed Bd.named Bd.method).1
  have X0 : Stand p l e ({ frames := 1, cells := 0, slots := 0, locals := 14 } : Room) s m #[(.int p1), (.int p2)] below meth c s₁ [] 0 0 := Stand.of_body Bd
  have e0 : s₁.heap = h0 := by rw [← hh, Bd.state]; rfl
  have N0 := Fr.nil n0
  obtain ⟨S0, hS0⟩ : ∃ z, z = s₁.setTop (entryFrame m #[(.int p1), (.int p2)] 2) := ⟨_, rfl⟩
  have P0 : own_Pr p.tables e below S0 s₁ (mkF m 0 #[.val (.int p1), .val (.int p2)] []) := fun t k => hS0 ▸ castTop (ef_7 m p1 p2) k
  have P21 : own_Pr p.tables e below S0 s₁ (mkF m 2 #[.val (.int p1), .val (.int p2)] [(.int p2), (.int p1)]) := fun t k => P0 t (by
    refine XS.iloadN X0.here hx rfl (hb hby d7_0) rfl ?_
    refine XS.iloadN X0.here hx rfl (hb hby d7_1) rfl ?_
    exact k)
  obtain ⟨T22, X22, e22, st22⟩ := getS2 X0 hx hZ hown (host := "") (Or.inl (hw _ (List.mem_of_getElem? (i := 43) rfl))) Via.refl e0 FM (g := (mkF m 2 #[.val (.int p1), .val (.int p2)] [(.int p2), (.int p1)])) rfl (hb hby d7_2)
  have P23 : own_Pr p.tables e below S0 T22 (mkF m 5 #[.val (.int p1), .val (.int p2)] [fm, (.int p2), (.int p1)]) := fun t k => P21 t (st22 _ k)
  obtain ⟨_, _, ⟨T24, L24, k24, n24⟩, -, X24, ⟨Lc24, hQ24, l24, y24, z24⟩, st24⟩ := Jvm.LawKit.callS X22 hx (y := (⟨"jdk/internal/util/Preconditions", "checkIndex", "(IILjava/util/function/BiFunction;)I"⟩ : MethodName)) hown (mvT hZ (hw _ (List.mem_of_getElem? (i := 45) rfl))) (mvT hZ (hw _ (List.mem_of_getElem? (i := 46) rfl))) (mvT hZ (hw _ (List.mem_of_getElem? (i := 44) rfl))) (mvT hZ (hw _ (List.mem_of_getElem? (i := 47) rfl))) (by decide) (backOf (W := 0) (rm8 l Z a0 hw [] p1 p2 fm h0 n0 Z0 hr_fm h1 h2) hZ (hw _ (List.mem_of_getElem? (i := 47) rfl)) (hw _ (List.mem_of_getElem? (i := 44) rfl)) (by decide) (by decide)) (g := (mkF m 5 #[.val (.int p1), .val (.int p2)] [fm, (.int p2), (.int p1)])) rfl (by rw [hml]; rfl) (argsL := [(.int p1), (.int p2), fm]) (rest := []) (lenOf pd_1 rfl) rfl (by show 2 * 0 + _ ≤ _; exact Nat.le_of_eq rfl) (hb hby d7_5) (fun _ _ => ⟨rfl, e22, (by decide : 0 + 0 ≤ _), (by decide : 0 + 0 ≤ _)⟩)
  dsimp only [Pt.U, Pt.locs, Pt.cells, Pt.slots] at X24 l24 y24 z24 st24 hQ24
  rw [l24, y24, z24] at X24
  have X24 := X24.mono (cells' := 0) (slots' := 0) (by decide) (by decide)
  obtain ⟨z24v, rfl, hz24v, Nq24, eq24⟩ := hQ24
  have N24n := Fr.app N0 Nq24
  have P25 : own_Pr p.tables e below S0 T24 (mkF m 8 #[.val (.int p1), .val (.int p2)] [(.int z24v)]) := fun t k => P23 t (st24 _ k)
  have P26 : own_Pr p.tables e below S0 T24 (mkF m 9 #[.val (.int p1), .val (.int p2)] []) := fun t k => P25 t (by
    refine XS.pop X24.here hx rfl (hb hby d7_8) rfl rfl ?_
    exact k)
  obtain ⟨fs, hr, hrun, hended, hW, hsame⟩ := X24.leave (v := none) (fun _ => rfl)
  have fin : Steps p.tables e below S0 (T24.setFrames fs) := P26 _ (X24.returnOut hx Bd.returns (hb hby d7_9) hr)
  rw [hS0] at fin
  refine ⟨_, _, fin, hrun, hended, _, _, rfl, ?_, ⟨_, rfl⟩, hW, hsame.mono (by decide) (by decide)⟩
  show own_QV h0 n0 _ T24.heap _
  rw [eq24]
  exact ⟨rfl, N24n, rfl⟩
theorem d6_0 : decode jdk_43_method_2_code 0 = .ok (.iload_n 1, 1) := by decide +kernel
theorem d6_1 : decode jdk_43_method_2_code 1 = .ok (.aload_n 0, 1) := by decide +kernel
theorem d6_2 : decode jdk_43_method_2_code 2 = .ok (.arraylength, 1) := by decide +kernel
theorem d6_3 : decode jdk_43_method_2_code 3 = .ok (.invokestatic 9, 3) := by decide +kernel
theorem d6_6 : decode jdk_43_method_2_code 6 = .ok (.aload_n 0, 1) := by decide +kernel
theorem d6_7 : decode jdk_43_method_2_code 7 = .ok (.iload_n 1, 1) := by decide +kernel
theorem d6_8 : decode jdk_43_method_2_code 8 = .ok (.baload, 1) := by decide +kernel
theorem d6_9 : decode jdk_43_method_2_code 9 = .ok (.sipush 255, 3) := by decide +kernel
theorem d6_12 : decode jdk_43_method_2_code 12 = .ok (.iand, 1) := by decide +kernel
theorem d6_13 : decode jdk_43_method_2_code 13 = .ok (.i2c, 1) := by decide +kernel
theorem d6_14 : decode jdk_43_method_2_code 14 = .ok (.ireturn, 1) := by decide +kernel
theorem pn_6 : plainName "java/lang/StringLatin1" = true := by first | (simp [plainName, overriddenIn]; done) | decide +kernel
theorem pd_2 : parseMethodDescriptor "(II)V" = some ⟨[.int, .int], none⟩ := by decide +kernel
theorem ef_6 (m : MethodId) (a1 : Addr) (p2 : Int32) : entryFrame m #[(.ref a1), (.int p2)] 2 = mkF m 0 #[.val (.ref a1), .val (.int p2)] [] := by first | (simp [entryFrame, mkF, argsToLocals, Value.category]; done) | rfl
set_option maxRecDepth 65536 in
set_option maxHeartbeats 40000000 in
theorem rm6 (l : Launch) (Z : State) (a0 : Array Value) (hw : ∀ d ∈ tables_1, d.before a0 Z = true) (ws : List Jvm.Cond) (a1 : Addr) (p2 : Int32) (n : Int32) (xs : List Int32) (kb : ClassId) (fm : Value) (h0 : Heap) (n0 : Nat) (Z0 : n0 ≤ h0.size) (Av : Arv Z h0 a1 kb .byte n (xs.map Value.int) (.int 0)) (FM : Sta Z h0 "jdk/internal/util/Preconditions" "SIOOBE_FORMATTER" "Ljava/util/function/BiFunction;" fm) (hr_fm : fm.isRef = true) (h1 : ¬ p2 < (0 : Int32)) (h2 : p2 < n) :
    MetFree l (⟨"java/lang/StringLatin1", "charAt", "([BI)C"⟩ : MethodName) (head1 (Jvm.Cond.code (⟨"java/lang/StringLatin1", "charAt", "([BI)C"⟩ : MethodName) jdk_43_method_2_code 2 (some .char) :: ws) ({ frames := 2, cells := 0, slots := 0, locals := 27 } : Room)) (fun a U => a = #[(.ref a1), (.int p2)] ∧ Z.Warmed39 U.vm ∧ U.heap = h0) (fun _ _ _ _ _ => True) (fun _ U o U' => ∃ v L, o = .returned v ∧ own_QI h0 n0 ((xs.getD p2.toNatClampNeg 0) &&& 255) v U'.heap L ∧ FrameEnd U o U' L ({ frames := 2, cells := 0, slots := 0, locals := 27 } : Room).cells ({ frames := 2, cells := 0, slots := 0, locals := 27 } : Room).slots) := by
  refine MetFree.of_bodySF (plainFor_of_name pn_6) hisR ?_
  intro p e s m args below meth c s₁ Bd hml0 hP hK
  obtain ⟨rfl, hZ, hh⟩ := hP
  have hx := Bd.exec
  have hby := Bd.bytes
  have hml : c.maxLocals = 2 := hml0
  have hown : s.vm.findClass "java/lang/StringLatin1" = some m.cls := findClass_of_methodNamed Bd.named
  have hnm := (name_of_methodNamed Bd.named Bd.method).1
  have X0 : Stand p l e ({ frames := 2, cells := 0, slots := 0, locals := 27 } : Room) s m #[(.ref a1), (.int p2)] below meth c s₁ [] 0 0 := Stand.of_body Bd
  have e0 : s₁.heap = h0 := by rw [← hh, Bd.state]; rfl
  have N0 := Fr.nil n0
  obtain ⟨S0, hS0⟩ : ∃ z, z = s₁.setTop (entryFrame m #[(.ref a1), (.int p2)] 2) := ⟨_, rfl⟩
  have P0 : own_Pr p.tables e below S0 s₁ (mkF m 0 #[.val (.ref a1), .val (.int p2)] []) := fun t k => hS0 ▸ castTop (ef_6 m a1 p2) k
  obtain ⟨cl, Tc, At⟩ := own_tab Av
  have P21 : own_Pr p.tables e below S0 s₁ (mkF m 3 #[.val (.ref a1), .val (.int p2)] [(.int n), (.int p2)]) := fun t k => P0 t (by
    refine XS.iloadN X0.here hx rfl (hb hby d6_0) rfl ?_
    refine XS.aloadN X0.here hx rfl (hb hby d6_1) rfl rfl ?_
    refine X0.arraylength hx (by rw [e0]; exact Tc.1.1) (State.isArrayOf_alike hZ.alike Tc.1.2.1) (g := (mkF m 2 #[.val (.ref a1), .val (.int p2)] [(.ref a1), (.int p2)])) rfl rfl (hb hby d6_2) _ ?_
    rw [len_of Tc.2.1 Tc.2.2.1]
    show Steps p.tables e below (s₁.setTop (mkF m 3 #[.val (.ref a1), .val (.int p2)] [(.int n), (.int p2)])) _
    exact k)
  obtain ⟨_, _, ⟨T22, L22, k22, n22⟩, -, X22, ⟨Lc22, hQ22, l22, y22, z22⟩, st22⟩ := Jvm.LawKit.callS X0 hx (y := (⟨"java/lang/String", "checkIndex", "(II)V"⟩ : MethodName)) hown (mvT hZ (hw _ (List.mem_of_getElem? (i := 40) rfl))) (mvT hZ (hw _ (List.mem_of_getElem? (i := 41) rfl))) (mvT hZ (hw _ (List.mem_of_getElem? (i := 6) rfl))) (mvT hZ (hw _ (List.mem_of_getElem? (i := 42) rfl))) (by decide) (backOf (W := 0) (rm7 l Z a0 hw [] p2 n fm h0 n0 Z0 FM hr_fm h1 h2) hZ (hw _ (List.mem_of_getElem? (i := 42) rfl)) (hw _ (List.mem_of_getElem? (i := 6) rfl)) (by decide) (by decide)) (g := (mkF m 3 #[.val (.ref a1), .val (.int p2)] [(.int n), (.int p2)])) rfl (by rw [hml]; rfl) (argsL := [(.int p2), (.int n)]) (rest := []) (lenOf pd_2 rfl) rfl (by show 2 * 0 + _ ≤ _; exact Nat.le_of_eq rfl) (hb hby d6_3) (fun _ _ => ⟨rfl, e0, (by decide : 0 + 0 ≤ _), (by decide : 0 + 0 ≤ _)⟩)
  dsimp only [Pt.U, Pt.locs, Pt.cells, Pt.slots] at X22 l22 y22 z22 st22 hQ22
  rw [l22, y22, z22] at X22
  have X22 := X22.mono (cells' := 0) (slots' := 0) (by decide) (by decide)
  obtain ⟨rfl, Nq22, eq22⟩ := hQ22
  have N22n := Fr.app N0 Nq22
  have P23 : own_Pr p.tables e below S0 T22 (mkF m 6 #[.val (.ref a1), .val (.int p2)] []) := fun t k => P21 t (st22 _ k)
  have hin8_24 : ¬ (p2 < 0 ∨ cl.slots.size ≤ (p2).toNatClampNeg) := inb_of Tc.2.1 ⟨h1, h2⟩
  have P25 : own_Pr p.tables e below S0 T22 (mkF m 14 #[.val (.ref a1), .val (.int p2)] [(.int (((atv cl p2) &&& (255 : Int32)).toUInt32.toUInt16.toUInt32.toInt32))]) := fun t k => P23 t (by
    refine XS.aloadN X22.here hx rfl (hb hby d6_6) rfl rfl ?_
    refine XS.iloadN X22.here hx rfl (hb hby d6_7) rfl ?_
    refine X22.baloadBytes hx (j := p2) (v := .int (atv cl p2)) (by rw [eq22]; exact Tc.1.1) (State.isArrayOf_alike hZ.alike Tc.1.2.1) Tc.1.2.2 hin8_24 (Tc.2.2.2 _ hin8_24) (g := (mkF m 8 #[.val (.ref a1), .val (.int p2)] [(.int p2), (.ref a1)])) rfl rfl (hb hby d6_8) _ ?_
    refine XS.sipush X22.here hx rfl (hb hby d6_9) ?_
    refine XS.iand X22.here hx rfl (hb hby d6_12) rfl ?_
    refine XS.i2c X22.here hx rfl (hb hby d6_13) rfl ?_
    exact k)
  obtain ⟨fs, hr, hrun, hended, hW, hsame⟩ := X22.leave (v := some (.int (((atv cl p2) &&& (255 : Int32)).toUInt32.toUInt16.toUInt32.toInt32))) (fun h => by rw [Bd.returns] at h; cases h)
  have fin : Steps p.tables e below S0 (T22.setFrames fs) := P25 _ (retN X22 hx (t := .char) Bd.returns (by simp) (hb hby d6_14) (by rw [(own_narC _)]; exact hr))
  rw [hS0] at fin
  refine ⟨_, _, fin, hrun, hended, _, _, rfl, ?_, ⟨_, rfl⟩, hW, hsame.mono (by decide) (by decide)⟩
  show own_QI h0 n0 ((xs.getD p2.toNatClampNeg 0) &&& 255) _ T22.heap _
  rw [eq22]
  exact ⟨_, rfl, (by rw [i2c_mask, At _ h1 h2]), N22n, rfl⟩
theorem d4_0 : decode jdk_42_method_56_code 0 = .ok (.aload_n 0, 1) := by decide +kernel
theorem d4_1 : decode jdk_42_method_56_code 1 = .ok (.invokevirtual 492, 3) := by decide +kernel
theorem d4_4 : decode jdk_42_method_56_code 4 = .ok (.ifCond .eq 12, 3) := by decide +kernel
theorem d4_7 : decode jdk_42_method_56_code 7 = .ok (.aload_n 0, 1) := by decide +kernel
theorem d4_8 : decode jdk_42_method_56_code 8 = .ok (.getfield 9, 3) := by decide +kernel
theorem d4_11 : decode jdk_42_method_56_code 11 = .ok (.iload_n 1, 1) := by decide +kernel
theorem d4_12 : decode jdk_42_method_56_code 12 = .ok (.invokestatic 495, 3) := by decide +kernel
theorem d4_15 : decode jdk_42_method_56_code 15 = .ok (.ireturn, 1) := by decide +kernel
theorem pd_3 : parseMethodDescriptor "()Z" = some ⟨[], some .boolean⟩ := by decide +kernel
theorem pd_4 : parseMethodDescriptor "([BI)C" = some ⟨[(.array .byte), .int], some .char⟩ := by decide +kernel
theorem ef_4 (m : MethodId) (a1 : Addr) (p2 : Int32) : entryFrame m #[(.ref a1), (.int p2)] 2 = mkF m 0 #[.val (.ref a1), .val (.int p2)] [] := by first | (simp [entryFrame, mkF, argsToLocals, Value.category]; done) | rfl
set_option maxRecDepth 65536 in
set_option maxHeartbeats 40000000 in
theorem rm4 (l : Launch) (Z : State) (a0 : Array Value) (hw : ∀ d ∈ tables_1, d.before a0 Z = true) (ws : List Jvm.Cond) (a1 : Addr) (p2 : Int32) (n : Int32) (xs : List Int32) (cs : Int32) (fm : Value) (h0 : Heap) (n0 : Nat) (Z0 : n0 ≤ h0.size) (Sa : own_Sc Z h0 a1 n xs) (CS : Sta Z h0 "java/lang/String" "COMPACT_STRINGS" "Z" (.int cs)) (hcs : ¬ cs = (0 : Int32)) (FM : Sta Z h0 "jdk/internal/util/Preconditions" "SIOOBE_FORMATTER" "Ljava/util/function/BiFunction;" fm) (hr_fm : fm.isRef = true) (h1 : ¬ p2 < (0 : Int32)) (h2 : p2 < n) :
    MetFree l (⟨"java/lang/String", "charAt", "(I)C"⟩ : MethodName) (head1 (Jvm.Cond.code (⟨"java/lang/String", "charAt", "(I)C"⟩ : MethodName) jdk_42_method_56_code 2 (some .char) :: ws) ({ frames := 3, cells := 0, slots := 0, locals := 40 } : Room)) (fun a U => a = #[(.ref a1), (.int p2)] ∧ Z.Warmed39 U.vm ∧ U.heap = h0) (fun _ _ _ _ _ => True) (fun _ U o U' => ∃ v L, o = .returned v ∧ own_QI h0 n0 ((xs.getD p2.toNatClampNeg 0) &&& 255) v U'.heap L ∧ FrameEnd U o U' L ({ frames := 3, cells := 0, slots := 0, locals := 40 } : Room).cells ({ frames := 3, cells := 0, slots := 0, locals := 40 } : Room).slots) := by
  refine MetFree.of_bodySF (plainFor_of_name pn_3) hisR ?_
  intro p e s m args below meth c s₁ Bd hml0 hP hK
  obtain ⟨rfl, hZ, hh⟩ := hP
  have hx := Bd.exec
  have hby := Bd.bytes
  have hml : c.maxLocals = 2 := hml0
  have hown : s.vm.findClass "java/lang/String" = some m.cls := findClass_of_methodNamed Bd.named
  have hnm := (name_of_methodNamed Bd.named Bd.method).1
  have X0 : Stand p l e ({ frames := 3, cells := 0, slots := 0, locals := 40 } : Room) s m #[(.ref a1), (.int p2)] below meth c s₁ [] 0 0 := Stand.of_body Bd
  have e0 : s₁.heap = h0 := by rw [← hh, Bd.state]; rfl
  have N0 := Fr.nil n0
  obtain ⟨S0, hS0⟩ : ∃ z, z = s₁.setTop (entryFrame m #[(.ref a1), (.int p2)] 2) := ⟨_, rfl⟩
  have P0 : own_Pr p.tables e below S0 s₁ (mkF m 0 #[.val (.ref a1), .val (.int p2)] []) := fun t k => hS0 ▸ castTop (ef_4 m a1 p2) k
  obtain ⟨vb, kb, Es, Fc, Fv, Av⟩ := Sa
  have P21 : own_Pr p.tables e below S0 s₁ (mkF m 1 #[.val (.ref a1), .val (.int p2)] [(.ref a1)]) := fun t k => P0 t (by
    refine XS.aloadN X0.here hx rfl (hb hby d4_0) rfl rfl ?_
    exact k)
  obtain ⟨cq22, kq22, q22a, q22b, q22c⟩ := isOf hZ e0 Es
  obtain ⟨_, _, ⟨T22, L22, k22, n22⟩, -, X22, ⟨Lc22, hQ22, l22, y22, z22⟩, st22⟩ := X0.virtualBack hx (y := (⟨"java/lang/String", "isLatin1", "()Z"⟩ : MethodName)) (z := (⟨"java/lang/String", "isLatin1", "()Z"⟩ : MethodName)) hown (mvT hZ (hw _ (List.mem_of_getElem? (i := 31) rfl))) (mvT hZ (hw _ (List.mem_of_getElem? (i := 32) rfl))) (notFace_of_selects (args := #[]) (mvT hZ (hw _ (List.mem_of_getElem? (i := 34) rfl)))) (mvT hZ (hw _ (List.mem_of_getElem? (i := 34) rfl))) (mvT hZ (hw _ (List.mem_of_getElem? (i := 33) rfl))) (by decide) (backOf (W := 0) (rm5 l Z a0 hw [] a1 cs h0 n0 Z0 Fc CS hcs) hZ (hw _ (List.mem_of_getElem? (i := 35) rfl)) (hw _ (List.mem_of_getElem? (i := 6) rfl)) (by decide) (by decide)) q22a q22c (g := (mkF m 1 #[.val (.ref a1), .val (.int p2)] [(.ref a1)])) rfl (by rw [hml]; rfl) (Steps.refl _) (argsL := []) (rest := []) (lenOf pd_3 rfl) rfl (by show 2 * 0 + _ ≤ _; exact Nat.le_of_eq rfl) (hb hby d4_1) (fun _ _ => ⟨rfl, e0, (by decide : 0 + 0 ≤ _), (by decide : 0 + 0 ≤ _)⟩)
  dsimp only [Pt.U, Pt.locs, Pt.cells, Pt.slots] at X22 l22 y22 z22 st22 hQ22
  rw [l22, y22, z22] at X22
  have X22 := X22.mono (cells' := 0) (slots' := 0) (by decide) (by decide)
  obtain ⟨z22v, rfl, hz22v, Nq22, eq22⟩ := hQ22
  have N22n := Fr.app N0 Nq22
  have hy22 := hz22v.symm; subst hy22
  have P23 : own_Pr p.tables e below S0 T22 (mkF m 4 #[.val (.ref a1), .val (.int p2)] [(.int 1)]) := fun t k => P21 t (st22.trans k)
  have P24 : own_Pr p.tables e below S0 T22 (mkF m 8 #[.val (.ref a1), .val (.int p2)] [(.ref a1)]) := fun t k => P23 t (by
    refine XS.ifNo X22.here hx rfl (hb hby d4_4) rfl (by decide) ?_
    refine XS.aloadN X22.here hx rfl (hb hby d4_7) rfl rfl ?_
    exact k)
  obtain ⟨T25, X25, e25, st25⟩ := getF X22 hx hZ hown (host := "") (Or.inl (hw _ (List.mem_of_getElem? (i := 18) rfl))) Via.refl eq22 Fv (g := (mkF m 8 #[.val (.ref a1), .val (.int p2)] [(.ref a1)])) rfl rfl (hb hby d4_8)
  have P26 : own_Pr p.tables e below S0 T25 (mkF m 11 #[.val (.ref a1), .val (.int p2)] [(.ref vb)]) := fun t k => P24 t (st25 _ k)
  have P27 : own_Pr p.tables e below S0 T25 (mkF m 12 #[.val (.ref a1), .val (.int p2)] [(.int p2), (.ref vb)]) := fun t k => P26 t (by
    refine XS.iloadN X25.here hx rfl (hb hby d4_11) rfl ?_
    exact k)
  obtain ⟨_, _, ⟨T28, L28, k28, n28⟩, -, X28, ⟨Lc28, hQ28, l28, y28, z28⟩, st28⟩ := Jvm.LawKit.callS X25 hx (y := (⟨"java/lang/StringLatin1", "charAt", "([BI)C"⟩ : MethodName)) hown (mvT hZ (hw _ (List.mem_of_getElem? (i := 36) rfl))) (mvT hZ (hw _ (List.mem_of_getElem? (i := 37) rfl))) (mvT hZ (hw _ (List.mem_of_getElem? (i := 38) rfl))) (mvT hZ (hw _ (List.mem_of_getElem? (i := 39) rfl))) (by decide) (backOf (W := 0) (rm6 l Z a0 hw [] vb p2 n xs kb fm h0 n0 Z0 Av FM hr_fm h1 h2) hZ (hw _ (List.mem_of_getElem? (i := 39) rfl)) (hw _ (List.mem_of_getElem? (i := 38) rfl)) (by decide) (by decide)) (g := (mkF m 12 #[.val (.ref a1), .val (.int p2)] [(.int p2), (.ref vb)])) rfl (by rw [hml]; rfl) (argsL := [(.ref vb), (.int p2)]) (rest := []) (lenOf pd_4 rfl) rfl (by show 2 * 0 + _ ≤ _; exact Nat.le_of_eq rfl) (hb hby d4_12) (fun _ _ => ⟨rfl, e25, (by decide : 0 + 0 ≤ _), (by decide : 0 + 0 ≤ _)⟩)
  dsimp only [Pt.U, Pt.locs, Pt.cells, Pt.slots] at X28 l28 y28 z28 st28 hQ28
  rw [l28, y28, z28] at X28
  have X28 := X28.mono (cells' := 0) (slots' := 0) (by decide) (by decide)
  obtain ⟨z28v, rfl, hz28v, Nq28, eq28⟩ := hQ28
  have N28n := Fr.app N22n Nq28
  have P29 : own_Pr p.tables e below S0 T28 (mkF m 15 #[.val (.ref a1), .val (.int p2)] [(.int z28v)]) := fun t k => P27 t (st28 _ k)
  obtain ⟨fs, hr, hrun, hended, hW, hsame⟩ := X28.leave (v := some (.int z28v)) (fun h => by rw [Bd.returns] at h; cases h)
  have fin : Steps p.tables e below S0 (T28.setFrames fs) := P29 _ (retN X28 hx (t := .char) Bd.returns (by simp) (hb hby d4_15) (by rw [(by rw [hz28v]; exact own_nar255 _ : nar .char z28v = z28v)]; exact hr))
  rw [hS0] at fin
  refine ⟨_, _, fin, hrun, hended, _, _, rfl, ?_, ⟨_, rfl⟩, hW, hsame.mono (by decide) (by decide)⟩
  show own_QI h0 n0 ((xs.getD p2.toNatClampNeg 0) &&& 255) _ T28.heap _
  rw [eq28]
  exact ⟨_, rfl, hz28v, N28n, rfl⟩
theorem d1_0 : decode method_2_code 0 = .ok (.ldc 7, 2) := by decide +kernel
theorem d1_2 : decode method_2_code 2 = .ok (.astore_n 1, 1) := by decide +kernel
theorem d1_3 : decode method_2_code 3 = .ok (.iload_n 0, 1) := by decide +kernel
theorem d1_4 : decode method_2_code 4 = .ok (.ifCond .lt 19, 3) := by decide +kernel
theorem d1_7 : decode method_2_code 7 = .ok (.iload_n 0, 1) := by decide +kernel
theorem d1_8 : decode method_2_code 8 = .ok (.aload_n 1, 1) := by decide +kernel
theorem d1_9 : decode method_2_code 9 = .ok (.invokevirtual 9, 3) := by decide +kernel
theorem d1_12 : decode method_2_code 12 = .ok (.if_icmp .ge 11, 3) := by decide +kernel
theorem d1_15 : decode method_2_code 15 = .ok (.aload_n 1, 1) := by decide +kernel
theorem d1_16 : decode method_2_code 16 = .ok (.iload_n 0, 1) := by decide +kernel
theorem d1_17 : decode method_2_code 17 = .ok (.invokevirtual 15, 3) := by decide +kernel
theorem d1_20 : decode method_2_code 20 = .ok (.goto 5, 3) := by decide +kernel
theorem d1_23 : decode method_2_code 23 = .ok (.bipush 63, 2) := by decide +kernel
theorem d1_25 : decode method_2_code 25 = .ok (.ireturn, 1) := by decide +kernel
theorem pn_1 : plainName "com/example/firmhold/firmhold/PermissionNamedPinLaw" = true := by first | (simp [plainName, overriddenIn]; done) | decide +kernel
theorem pd_5 : parseMethodDescriptor "()I" = some ⟨[], some .int⟩ := by decide +kernel
theorem pd_6 : parseMethodDescriptor "(I)C" = some ⟨[.int], some .char⟩ := by decide +kernel
theorem ef_1 (m : MethodId) (p1 : Int32) : entryFrame m #[(.int p1)] 2 = mkF m 0 #[.val (.int p1), .unset] [] := by first | (simp [entryFrame, mkF, argsToLocals, Value.category]; done) | rfl
set_option maxRecDepth 65536 in
set_option maxHeartbeats 40000000 in
theorem rm1 (l : Launch) (Z : State) (a0 : Array Value) (hw : ∀ d ∈ tables_1, d.before a0 Z = true) (ws : List Jvm.Cond) (p1 : Int32) (cs : Int32) (fm : Value) (h0 : Heap) (n0 : Nat) (Z0 : n0 ≤ h0.size) (CS : Sta Z h0 "java/lang/String" "COMPACT_STRINGS" "Z" (.int cs)) (hcs : ¬ cs = (0 : Int32)) (FM : Sta Z h0 "jdk/internal/util/Preconditions" "SIOOBE_FORMATTER" "Ljava/util/function/BiFunction;" fm) (hr_fm : fm.isRef = true) :
    MetFree l (⟨"com/example/firmhold/firmhold/PermissionNamedPinLaw", "nm", "(I)C"⟩ : MethodName) (head1 (Jvm.Cond.code (⟨"com/example/firmhold/firmhold/PermissionNamedPinLaw", "nm", "(I)C"⟩ : MethodName) method_2_code 2 (some .char) :: ws) ({ frames := 4, cells := 2, slots := 72, locals := 53 } : Room)) (fun a U => a = #[(.int p1)] ∧ Z.Warmed39 U.vm ∧ U.heap = h0 ∧ CHv Z consts_1 U.vm h0) (fun _ _ _ _ _ => True) (fun _ U o U' => ∃ v L, o = .returned v ∧ own_QN Z (own_nm p1) True h0 n0 v U'.heap L U'.vm ∧ CHr Z consts_1 U.vm U.heap U'.vm U'.heap ∧ ReturnedEndW U o U' L ({ frames := 4, cells := 2, slots := 72, locals := 53 } : Room).cells ({ frames := 4, cells := 2, slots := 72, locals := 53 } : Room).slots) := by
  refine MetFree.of_bodySF (plainFor_of_name pn_1) hisR ?_
  intro p e s m args below meth c s₁ Bd hml0 hP hK
  obtain ⟨rfl, hZ, hh, hCH⟩ := hP
  have hx := Bd.exec
  have hby := Bd.bytes
  have hml : c.maxLocals = 2 := hml0
  have hown : s.vm.findClass "com/example/firmhold/firmhold/PermissionNamedPinLaw" = some m.cls := findClass_of_methodNamed Bd.named
  have hnm := (name_of_methodNamed Bd.named Bd.method).1
  have X0 : Stand p l e ({ frames := 4, cells := 2, slots := 72, locals := 53 } : Room) (s.setVm s.vm) m #[(.int p1)] below meth c s₁ [] 0 0 := Stand.of_body Bd
  have e0 : s₁.heap = h0 := by rw [← hh, Bd.state]; rfl
  have N0 := Fr.nil n0
  obtain ⟨S0, hS0⟩ : ∃ z, z = s₁.setTop (entryFrame m #[(.int p1)] 2) := ⟨_, rfl⟩
  have P0 : own_Pr p.tables e below S0 s₁ (mkF m 0 #[.val (.int p1), .unset] []) := fun t k => hS0 ▸ castTop (ef_1 m p1) k
  have hSn : s.Since s.vm 0 := (State.WarmedH.refl s).since 0
  have kS0 : 0 ≤ h0.size := Nat.zero_le _
  have CR0 := CHr.refl hCH
  have K0 := Keep.refl h0 []
  obtain ⟨b21, T21, h21, k21, v21, kb21, X21, e21, E21, hSn, kS21, hZ, hown, Es21, Fc21, Fv21, Av21, -, -, CRl21, Lq21, -, st21⟩ := ldcCH X0 hx hZ hown (hw _ (List.mem_of_getElem? (i := 5) rfl)) (own_wS hw) e0 hSn kS0 (own_EW hw) (List.mem_of_getElem? (i := 0) rfl) CR0.1 (vs := [.int (98 : Int32), .int (121 : Int32), .int (112 : Int32), .int (97 : Int32), .int (115 : Int32), .int (115 : Int32), .int (45 : Int32), .int (103 : Int32), .int (111 : Int32), .int (118 : Int32), .int (101 : Int32), .int (114 : Int32), .int (110 : Int32), .int (97 : Int32), .int (110 : Int32), .int (99 : Int32), .int (101 : Int32)]) (z := 17) ⟨by decide, by decide⟩ (by decide) (by decide) (g := (mkF m 0 #[.val (.int p1), .unset] [])) rfl (hb hby d1_0) (n := 68) (by decide) (by decide) (by decide) (by decide)
  have F22 := CS.ext E21
  have F23 := FM.ext E21
  have Z24 : n0 ≤ h21.size := Nat.le_trans Z0 E21.1
  have K25 := K0.ext E21
  have CR21 := CR0.trans CRl21
  have P26 : own_Pr p.tables e below S0 T21 (mkF m 2 #[.val (.int p1), .unset] [(.ref b21)]) := fun t k => P0 t (st21 _ k)
  have Sc21 : own_Sc Z h21 b21 17 own_XS := ⟨_, _, Es21, Fc21, Fv21, Av21⟩
  have P27 : own_Pr p.tables e below S0 T21 (mkF m 4 #[.val (.int p1), .val (.ref b21)] [(.int p1)]) := fun t k => P26 t (by
    refine XS.astoreN X21.here hx rfl (hb hby d1_2) rfl rfl (l' := #[.val (.int p1), .val (.ref b21)]) rfl ?_
    refine XS.iloadN X21.here hx rfl (hb hby d1_3) rfl ?_
    exact k)
  by_cases hc4_28 : p1 < (0 : Int32)
  · have P29 : own_Pr p.tables e below S0 T21 (mkF m 25 #[.val (.int p1), .val (.ref b21)] [(.int 63)]) := fun t k => P27 t (by
      refine XS.ifYes X21.here hx rfl (pc0 := 4) (pc' := 23) rfl (hb hby d1_4) rfl (XT.i0_lt_t hc4_28) (by decide) (by decide) ?_
      refine XS.bipush X21.here hx rfl (hb hby d1_23) ?_
      exact k)
    obtain ⟨fs, hr, hrun, hended, hend⟩ := X21.leaveW hSn (by rw [e21]; exact kS21) (v := some (.int 63)) (fun h => by rw [Bd.returns] at h; cases h)
    have fin : Steps p.tables e below S0 (T21.setFrames fs) := P29 _ (retN X21 hx (t := .char) Bd.returns (by simp) (hb hby d1_25) hr)
    rw [hS0] at fin
    refine ⟨_, _, fin, hrun, hended, _, _, rfl, ?_, (show CHr Z consts_1 s.vm s.heap T21.vm T21.heap by rw [hh, e21]; exact CR21.trans (CHv.at X21 hZ (own_EW hw) CR21.1)), hend.1, hend.2.1, hend.2.2.1, hend.2.2.2.mono (by decide) (by decide)⟩
    show own_QN Z (own_nm p1) True h0 n0 _ T21.heap _ T21.vm
    rw [e21]
    exact ⟨congrArg (fun r => some (Value.int r)) (by unfold own_nm; rw [if_pos hc4_28]), N0, K25, fun _ => ⟨_, Sc21, Lit.stays (s := s) Lq21 X21.warmed.wide⟩⟩
  · have P30 : own_Pr p.tables e below S0 T21 (mkF m 9 #[.val (.int p1), .val (.ref b21)] [(.ref b21), (.int p1)]) := fun t k => P27 t (by
      refine XS.ifNo X21.here hx rfl (hb hby d1_4) rfl (XT.i0_lt_f hc4_28) ?_
      refine XS.iloadN X21.here hx rfl (hb hby d1_7) rfl ?_
      refine XS.aloadN X21.here hx rfl (hb hby d1_8) rfl rfl ?_
      exact k)
    obtain ⟨cq31, kq31, q31a, q31b, q31c⟩ := isOf hZ e21 Es21
    obtain ⟨_, _, ⟨T31, L31, k31, n31⟩, -, X31, ⟨Lc31, hQ31, l31, y31, z31⟩, st31⟩ := X21.virtualBack hx (y := (⟨"java/lang/String", "length", "()I"⟩ : MethodName)) (z := (⟨"java/lang/String", "length", "()I"⟩ : MethodName)) hown (mvT hZ (hw _ (List.mem_of_getElem? (i := 13) rfl))) (mvT hZ (hw _ (List.mem_of_getElem? (i := 14) rfl))) (notFace_of_selects (args := #[]) (mvT hZ (hw _ (List.mem_of_getElem? (i := 16) rfl)))) (mvT hZ (hw _ (List.mem_of_getElem? (i := 16) rfl))) (mvT hZ (hw _ (List.mem_of_getElem? (i := 15) rfl))) (by decide) (backOf (W := 1) (rm2 l Z a0 hw [] b21 (17 : Int32) own_XS cs h21 n0 Z24 Sc21 F22 hcs) hZ (hw _ (List.mem_of_getElem? (i := 17) rfl)) (hw _ (List.mem_of_getElem? (i := 6) rfl)) (by decide) (by decide)) q31a q31c (g := (mkF m 9 #[.val (.int p1), .val (.ref b21)] [(.ref b21), (.int p1)])) rfl (by rw [hml]; rfl) (Steps.refl _) (argsL := []) (rest := [(.int p1)]) (lenOf pd_5 rfl) rfl (by show 2 * 0 + _ ≤ _; exact Nat.le_of_eq rfl) (hb hby d1_9) (fun _ _ => ⟨rfl, e21, (by decide : 2 + 0 ≤ _), (by decide : 72 + 0 ≤ _)⟩)
    dsimp only [Pt.U, Pt.locs, Pt.cells, Pt.slots] at X31 l31 y31 z31 st31 hQ31
    rw [l31, y31, z31] at X31
    have X31 := X31.mono (cells' := 2) (slots' := 72) (by decide) (by decide)
    obtain ⟨z31v, rfl, hz31v, Nq31, eq31⟩ := hQ31
    have N31n := Fr.app N0 Nq31
    have hy31 := hz31v.symm; subst hy31
    have P32 : own_Pr p.tables e below S0 T31 (mkF m 12 #[.val (.int p1), .val (.ref b21)] [(.int 17), (.int p1)]) := fun t k => P30 t (st31.trans k)
    by_cases hc12_33 : p1 < (17 : Int32)
    · have P34 : own_Pr p.tables e below S0 T31 (mkF m 17 #[.val (.int p1), .val (.ref b21)] [(.int p1), (.ref b21)]) := fun t k => P32 t (by
        refine XS.icmpNo X31.here hx rfl (hb hby d1_12) rfl (XT.ii_ge_f hc12_33) ?_
        refine XS.aloadN X31.here hx rfl (hb hby d1_15) rfl rfl ?_
        refine XS.iloadN X31.here hx rfl (hb hby d1_16) rfl ?_
        exact k)
      obtain ⟨cq35, kq35, q35a, q35b, q35c⟩ := isOf hZ eq31 Es21
      obtain ⟨_, _, ⟨T35, L35, k35, n35⟩, -, X35, ⟨Lc35, hQ35, l35, y35, z35⟩, st35⟩ := X31.virtualBack hx (y := (⟨"java/lang/String", "charAt", "(I)C"⟩ : MethodName)) (z := (⟨"java/lang/String", "charAt", "(I)C"⟩ : MethodName)) hown (mvT hZ (hw _ (List.mem_of_getElem? (i := 26) rfl))) (mvT hZ (hw _ (List.mem_of_getElem? (i := 27) rfl))) (notFace_of_selects (args := #[]) (mvT hZ (hw _ (List.mem_of_getElem? (i := 29) rfl)))) (mvT hZ (hw _ (List.mem_of_getElem? (i := 29) rfl))) (mvT hZ (hw _ (List.mem_of_getElem? (i := 28) rfl))) (by decide) (backOf (W := 0) (rm4 l Z a0 hw [] b21 p1 (17 : Int32) own_XS cs fm h21 n0 Z24 Sc21 F22 hcs F23 hr_fm (⟨hc4_28, hc12_33⟩ : ¬ p1 < (0 : Int32) ∧ p1 < (17 : Int32)).1 (⟨hc4_28, hc12_33⟩ : ¬ p1 < (0 : Int32) ∧ p1 < (17 : Int32)).2) hZ (hw _ (List.mem_of_getElem? (i := 30) rfl)) (hw _ (List.mem_of_getElem? (i := 6) rfl)) (by decide) (by decide)) q35a q35c (g := (mkF m 17 #[.val (.int p1), .val (.ref b21)] [(.int p1), (.ref b21)])) rfl (by rw [hml]; rfl) (Steps.refl _) (argsL := [(.int p1)]) (rest := []) (lenOf pd_6 rfl) rfl (by show 2 * 0 + _ ≤ _; exact Nat.le_of_eq rfl) (hb hby d1_17) (fun _ _ => ⟨rfl, eq31, (by decide : 2 + 0 ≤ _), (by decide : 72 + 0 ≤ _)⟩)
      dsimp only [Pt.U, Pt.locs, Pt.cells, Pt.slots] at X35 l35 y35 z35 st35 hQ35
      rw [l35, y35, z35] at X35
      have X35 := X35.mono (cells' := 2) (slots' := 72) (by decide) (by decide)
      obtain ⟨z35v, rfl, hz35v, Nq35, eq35⟩ := hQ35
      have N35n := Fr.app N31n Nq35
      have P36 : own_Pr p.tables e below S0 T35 (mkF m 20 #[.val (.int p1), .val (.ref b21)] [(.int z35v)]) := fun t k => P34 t (st35.trans k)
      have P37 : own_Pr p.tables e below S0 T35 (mkF m 25 #[.val (.int p1), .val (.ref b21)] [(.int z35v)]) := fun t k => P36 t (by
        refine XS.goto X35.here hx rfl (pc0 := 20) (pc' := 25) rfl (hb hby d1_20) (by decide) (by decide) ?_
        exact k)
      obtain ⟨fs, hr, hrun, hended, hend⟩ := X35.leaveW hSn (by rw [eq35]; exact kS21) (v := some (.int z35v)) (fun h => by rw [Bd.returns] at h; cases h)
      have fin : Steps p.tables e below S0 (T35.setFrames fs) := P37 _ (retN X35 hx (t := .char) Bd.returns (by simp) (hb hby d1_25) (by rw [(by rw [hz35v]; exact own_nar255 _ : nar .char z35v = z35v)]; exact hr))
      rw [hS0] at fin
      refine ⟨_, _, fin, hrun, hended, _, _, rfl, ?_, (show CHr Z consts_1 s.vm s.heap T35.vm T35.heap by rw [hh, eq35]; exact CR21.trans (CHv.at X35 hZ (own_EW hw) CR21.1)), hend.1, hend.2.1, hend.2.2.1, hend.2.2.2.mono (by decide) (by decide)⟩
      show own_QN Z (own_nm p1) True h0 n0 _ T35.heap _ T35.vm
      rw [eq35]
      exact ⟨congrArg (fun r => some (Value.int r)) (by rw [hz35v]; unfold own_nm; rw [if_neg hc4_28, if_pos hc12_33]), N35n, K25, fun _ => ⟨_, Sc21, Lit.stays (s := s) Lq21 X35.warmed.wide⟩⟩
    · have P38 : own_Pr p.tables e below S0 T31 (mkF m 25 #[.val (.int p1), .val (.ref b21)] [(.int 63)]) := fun t k => P32 t (by
        refine XS.icmpYes X31.here hx rfl (pc0 := 12) (pc' := 23) rfl (hb hby d1_12) rfl (XT.ii_ge_t hc12_33) (by decide) (by decide) ?_
        refine XS.bipush X31.here hx rfl (hb hby d1_23) ?_
        exact k)
      obtain ⟨fs, hr, hrun, hended, hend⟩ := X31.leaveW hSn (by rw [eq31]; exact kS21) (v := some (.int 63)) (fun h => by rw [Bd.returns] at h; cases h)
      have fin : Steps p.tables e below S0 (T31.setFrames fs) := P38 _ (retN X31 hx (t := .char) Bd.returns (by simp) (hb hby d1_25) hr)
      rw [hS0] at fin
      refine ⟨_, _, fin, hrun, hended, _, _, rfl, ?_, (show CHr Z consts_1 s.vm s.heap T31.vm T31.heap by rw [hh, eq31]; exact CR21.trans (CHv.at X31 hZ (own_EW hw) CR21.1)), hend.1, hend.2.1, hend.2.2.1, hend.2.2.2.mono (by decide) (by decide)⟩
      show own_QN Z (own_nm p1) True h0 n0 _ T31.heap _ T31.vm
      rw [eq31]
      exact ⟨congrArg (fun r => some (Value.int r)) (by unfold own_nm; rw [if_neg hc4_28, if_neg hc12_33]), N31n, K25, fun _ => ⟨_, Sc21, Lit.stays (s := s) Lq21 X31.warmed.wide⟩⟩
theorem ef_1_b (m : MethodId) (p1 : Int32) : entryFrame m #[(.int p1)] 2 = mkF m 0 #[.val (.int p1), .unset] [] := by first | (simp [entryFrame, mkF, argsToLocals, Value.category]; done) | rfl
set_option maxRecDepth 65536 in
set_option maxHeartbeats 40000000 in
theorem rm1_b (l : Launch) (Z : State) (a0 : Array Value) (hw : ∀ d ∈ tables_1, d.before a0 Z = true) (ws : List Jvm.Cond) (p1 : Int32) (lt : Addr) (cs : Int32) (fm : Value) (h0 : Heap) (n0 : Nat) (Z0 : n0 ≤ h0.size) (Sl : own_Sc Z h0 lt 17 own_XS) (CS : Sta Z h0 "java/lang/String" "COMPACT_STRINGS" "Z" (.int cs)) (hcs : ¬ cs = (0 : Int32)) (FM : Sta Z h0 "jdk/internal/util/Preconditions" "SIOOBE_FORMATTER" "Ljava/util/function/BiFunction;" fm) (hr_fm : fm.isRef = true) :
    MetFree l (⟨"com/example/firmhold/firmhold/PermissionNamedPinLaw", "nm", "(I)C"⟩ : MethodName) (head1 (Jvm.Cond.code (⟨"com/example/firmhold/firmhold/PermissionNamedPinLaw", "nm", "(I)C"⟩ : MethodName) method_2_code 2 (some .char) :: ws) ({ frames := 4, cells := 0, slots := 0, locals := 53 } : Room)) (fun a U => a = #[(.int p1)] ∧ Z.Warmed39 U.vm ∧ U.heap = h0 ∧ own_Lt Z U.vm lt) (fun _ _ _ _ _ => True) (fun _ U o U' => ∃ v L, o = .returned v ∧ own_QI h0 n0 (own_nm p1) v U'.heap L ∧ FrameEnd U o U' L ({ frames := 4, cells := 0, slots := 0, locals := 53 } : Room).cells ({ frames := 4, cells := 0, slots := 0, locals := 53 } : Room).slots) := by
  refine MetFree.of_bodySF (plainFor_of_name pn_1) hisR ?_
  intro p e s m args below meth c s₁ Bd hml0 hP hK
  obtain ⟨rfl, hZ, hh, hLt⟩ := hP
  have hx := Bd.exec
  have hby := Bd.bytes
  have hml : c.maxLocals = 2 := hml0
  have hown : s.vm.findClass "com/example/firmhold/firmhold/PermissionNamedPinLaw" = some m.cls := findClass_of_methodNamed Bd.named
  have hnm := (name_of_methodNamed Bd.named Bd.method).1
  have X0 : Stand p l e ({ frames := 4, cells := 0, slots := 0, locals := 53 } : Room) s m #[(.int p1)] below meth c s₁ [] 0 0 := Stand.of_body Bd
  have e0 : s₁.heap = h0 := by rw [← hh, Bd.state]; rfl
  have N0 := Fr.nil n0
  obtain ⟨S0, hS0⟩ : ∃ z, z = s₁.setTop (entryFrame m #[(.int p1)] 2) := ⟨_, rfl⟩
  have P0 : own_Pr p.tables e below S0 s₁ (mkF m 0 #[.val (.int p1), .unset] []) := fun t k => hS0 ▸ castTop (ef_1_b m p1) k
  have El := Sl.exa
  have P22 : own_Pr p.tables e below S0 s₁ (mkF m 4 #[.val (.int p1), .val (.ref lt)] [(.int p1)]) := fun t k => P0 t (by
    refine ldcR (Z := s) (a0 := #[]) X0 hx (State.Warmed39.refl _) hown (refOfLit (mvS hZ (hw _ (List.mem_of_getElem? (i := 5) rfl))) (show Lit s "com/example/firmhold/firmhold/PermissionNamedPinLaw" 7 lt from hLt)) (show Lit s "com/example/firmhold/firmhold/PermissionNamedPinLaw" 7 lt from hLt) (g := (mkF m 0 #[.val (.int p1), .unset] [])) rfl (hb hby d1_0) _ ?_
    refine XS.astoreN X0.here hx rfl (hb hby d1_2) rfl rfl (l' := #[.val (.int p1), .val (.ref lt)]) rfl ?_
    refine XS.iloadN X0.here hx rfl (hb hby d1_3) rfl ?_
    exact k)
  by_cases hc4_23 : p1 < (0 : Int32)
  · have P24 : own_Pr p.tables e below S0 s₁ (mkF m 25 #[.val (.int p1), .val (.ref lt)] [(.int 63)]) := fun t k => P22 t (by
      refine XS.ifYes X0.here hx rfl (pc0 := 4) (pc' := 23) rfl (hb hby d1_4) rfl (XT.i0_lt_t hc4_23) (by decide) (by decide) ?_
      refine XS.bipush X0.here hx rfl (hb hby d1_23) ?_
      exact k)
    obtain ⟨fs, hr, hrun, hended, hW, hsame⟩ := X0.leave (v := some (.int 63)) (fun h => by rw [Bd.returns] at h; cases h)
    have fin : Steps p.tables e below S0 (s₁.setFrames fs) := P24 _ (retN X0 hx (t := .char) Bd.returns (by simp) (hb hby d1_25) hr)
    rw [hS0] at fin
    refine ⟨_, _, fin, hrun, hended, _, _, rfl, ?_, ⟨_, rfl⟩, hW, hsame.mono (by decide) (by decide)⟩
    show own_QI h0 n0 (own_nm p1) _ s₁.heap _
    rw [e0]
    exact ⟨_, rfl, (by unfold own_nm; rw [if_pos hc4_23]), N0, rfl⟩
  · have P25 : own_Pr p.tables e below S0 s₁ (mkF m 9 #[.val (.int p1), .val (.ref lt)] [(.ref lt), (.int p1)]) := fun t k => P22 t (by
      refine XS.ifNo X0.here hx rfl (hb hby d1_4) rfl (XT.i0_lt_f hc4_23) ?_
      refine XS.iloadN X0.here hx rfl (hb hby d1_7) rfl ?_
      refine XS.aloadN X0.here hx rfl (hb hby d1_8) rfl rfl ?_
      exact k)
    obtain ⟨cq26, kq26, q26a, q26b, q26c⟩ := isOf hZ e0 El
    obtain ⟨_, _, ⟨T26, L26, k26, n26⟩, -, X26, ⟨Lc26, hQ26, l26, y26, z26⟩, st26⟩ := X0.virtualBack hx (y := (⟨"java/lang/String", "length", "()I"⟩ : MethodName)) (z := (⟨"java/lang/String", "length", "()I"⟩ : MethodName)) hown (mvT hZ (hw _ (List.mem_of_getElem? (i := 13) rfl))) (mvT hZ (hw _ (List.mem_of_getElem? (i := 14) rfl))) (notFace_of_selects (args := #[]) (mvT hZ (hw _ (List.mem_of_getElem? (i := 16) rfl)))) (mvT hZ (hw _ (List.mem_of_getElem? (i := 16) rfl))) (mvT hZ (hw _ (List.mem_of_getElem? (i := 15) rfl))) (by decide) (backOf (W := 1) (rm2 l Z a0 hw [] lt (17 : Int32) own_XS cs h0 n0 Z0 Sl CS hcs) hZ (hw _ (List.mem_of_getElem? (i := 17) rfl)) (hw _ (List.mem_of_getElem? (i := 6) rfl)) (by decide) (by decide)) q26a q26c (g := (mkF m 9 #[.val (.int p1), .val (.ref lt)] [(.ref lt), (.int p1)])) rfl (by rw [hml]; rfl) (Steps.refl _) (argsL := []) (rest := [(.int p1)]) (lenOf pd_5 rfl) rfl (by show 2 * 0 + _ ≤ _; exact Nat.le_of_eq rfl) (hb hby d1_9) (fun _ _ => ⟨rfl, e0, (by decide : 0 + 0 ≤ _), (by decide : 0 + 0 ≤ _)⟩)
    dsimp only [Pt.U, Pt.locs, Pt.cells, Pt.slots] at X26 l26 y26 z26 st26 hQ26
    rw [l26, y26, z26] at X26
    have X26 := X26.mono (cells' := 0) (slots' := 0) (by decide) (by decide)
    obtain ⟨z26v, rfl, hz26v, Nq26, eq26⟩ := hQ26
    have N26n := Fr.app N0 Nq26
    have hy26 := hz26v.symm; subst hy26
    have P27 : own_Pr p.tables e below S0 T26 (mkF m 12 #[.val (.int p1), .val (.ref lt)] [(.int 17), (.int p1)]) := fun t k => P25 t (st26.trans k)
    by_cases hc12_28 : p1 < (17 : Int32)
    · have P29 : own_Pr p.tables e below S0 T26 (mkF m 17 #[.val (.int p1), .val (.ref lt)] [(.int p1), (.ref lt)]) := fun t k => P27 t (by
        refine XS.icmpNo X26.here hx rfl (hb hby d1_12) rfl (XT.ii_ge_f hc12_28) ?_
        refine XS.aloadN X26.here hx rfl (hb hby d1_15) rfl rfl ?_
        refine XS.iloadN X26.here hx rfl (hb hby d1_16) rfl ?_
        exact k)
      obtain ⟨cq30, kq30, q30a, q30b, q30c⟩ := isOf hZ eq26 El
      obtain ⟨_, _, ⟨T30, L30, k30, n30⟩, -, X30, ⟨Lc30, hQ30, l30, y30, z30⟩, st30⟩ := X26.virtualBack hx (y := (⟨"java/lang/String", "charAt", "(I)C"⟩ : MethodName)) (z := (⟨"java/lang/String", "charAt", "(I)C"⟩ : MethodName)) hown (mvT hZ (hw _ (List.mem_of_getElem? (i := 26) rfl))) (mvT hZ (hw _ (List.mem_of_getElem? (i := 27) rfl))) (notFace_of_selects (args := #[]) (mvT hZ (hw _ (List.mem_of_getElem? (i := 29) rfl)))) (mvT hZ (hw _ (List.mem_of_getElem? (i := 29) rfl))) (mvT hZ (hw _ (List.mem_of_getElem? (i := 28) rfl))) (by decide) (backOf (W := 0) (rm4 l Z a0 hw [] lt p1 (17 : Int32) own_XS cs fm h0 n0 Z0 Sl CS hcs FM hr_fm (⟨hc4_23, hc12_28⟩ : ¬ p1 < (0 : Int32) ∧ p1 < (17 : Int32)).1 (⟨hc4_23, hc12_28⟩ : ¬ p1 < (0 : Int32) ∧ p1 < (17 : Int32)).2) hZ (hw _ (List.mem_of_getElem? (i := 30) rfl)) (hw _ (List.mem_of_getElem? (i := 6) rfl)) (by decide) (by decide)) q30a q30c (g := (mkF m 17 #[.val (.int p1), .val (.ref lt)] [(.int p1), (.ref lt)])) rfl (by rw [hml]; rfl) (Steps.refl _) (argsL := [(.int p1)]) (rest := []) (lenOf pd_6 rfl) rfl (by show 2 * 0 + _ ≤ _; exact Nat.le_of_eq rfl) (hb hby d1_17) (fun _ _ => ⟨rfl, eq26, (by decide : 0 + 0 ≤ _), (by decide : 0 + 0 ≤ _)⟩)
      dsimp only [Pt.U, Pt.locs, Pt.cells, Pt.slots] at X30 l30 y30 z30 st30 hQ30
      rw [l30, y30, z30] at X30
      have X30 := X30.mono (cells' := 0) (slots' := 0) (by decide) (by decide)
      obtain ⟨z30v, rfl, hz30v, Nq30, eq30⟩ := hQ30
      have N30n := Fr.app N26n Nq30
      have P31 : own_Pr p.tables e below S0 T30 (mkF m 20 #[.val (.int p1), .val (.ref lt)] [(.int z30v)]) := fun t k => P29 t (st30.trans k)
      have P32 : own_Pr p.tables e below S0 T30 (mkF m 25 #[.val (.int p1), .val (.ref lt)] [(.int z30v)]) := fun t k => P31 t (by
        refine XS.goto X30.here hx rfl (pc0 := 20) (pc' := 25) rfl (hb hby d1_20) (by decide) (by decide) ?_
        exact k)
      obtain ⟨fs, hr, hrun, hended, hW, hsame⟩ := X30.leave (v := some (.int z30v)) (fun h => by rw [Bd.returns] at h; cases h)
      have fin : Steps p.tables e below S0 (T30.setFrames fs) := P32 _ (retN X30 hx (t := .char) Bd.returns (by simp) (hb hby d1_25) (by rw [(by rw [hz30v]; exact own_nar255 _ : nar .char z30v = z30v)]; exact hr))
      rw [hS0] at fin
      refine ⟨_, _, fin, hrun, hended, _, _, rfl, ?_, ⟨_, rfl⟩, hW, hsame.mono (by decide) (by decide)⟩
      show own_QI h0 n0 (own_nm p1) _ T30.heap _
      rw [eq30]
      exact ⟨_, rfl, (by rw [hz30v]; unfold own_nm; rw [if_neg hc4_23, if_pos hc12_28]), N30n, rfl⟩
    · have P33 : own_Pr p.tables e below S0 T26 (mkF m 25 #[.val (.int p1), .val (.ref lt)] [(.int 63)]) := fun t k => P27 t (by
        refine XS.icmpYes X26.here hx rfl (pc0 := 12) (pc' := 23) rfl (hb hby d1_12) rfl (XT.ii_ge_t hc12_28) (by decide) (by decide) ?_
        refine XS.bipush X26.here hx rfl (hb hby d1_23) ?_
        exact k)
      obtain ⟨fs, hr, hrun, hended, hW, hsame⟩ := X26.leave (v := some (.int 63)) (fun h => by rw [Bd.returns] at h; cases h)
      have fin : Steps p.tables e below S0 (T26.setFrames fs) := P33 _ (retN X26 hx (t := .char) Bd.returns (by simp) (hb hby d1_25) hr)
      rw [hS0] at fin
      refine ⟨_, _, fin, hrun, hended, _, _, rfl, ?_, ⟨_, rfl⟩, hW, hsame.mono (by decide) (by decide)⟩
      show own_QI h0 n0 (own_nm p1) _ T26.heap _
      rw [eq26]
      exact ⟨_, rfl, (by unfold own_nm; rw [if_neg hc4_23, if_neg hc12_28]), N26n, rfl⟩
theorem own_nmN (i : Int32) : nar .char (own_nm i) = own_nm i := by
  unfold own_nm
  by_cases h : i < (0 : Int32)
  · rw [if_pos h]; decide
  · rw [if_neg h]
    by_cases h' : i < (17 : Int32)
    · rw [if_pos h']; exact own_nar255 _
    · rw [if_neg h']; decide
theorem d9_0 : decode method_3_code 0 = .ok (.iload_n 0, 1) := by decide +kernel
theorem d9_1 : decode method_3_code 1 = .ok (.iconst 1, 1) := by decide +kernel
theorem d9_2 : decode method_3_code 2 = .ok (.if_icmp .ne 31, 3) := by decide +kernel
theorem d9_5 : decode method_3_code 5 = .ok (.iload_n 1, 1) := by decide +kernel
theorem d9_6 : decode method_3_code 6 = .ok (.iload_n 2, 1) := by decide +kernel
theorem d9_7 : decode method_3_code 7 = .ok (.if_icmp .ge 10, 3) := by decide +kernel
theorem d9_10 : decode method_3_code 10 = .ok (.iload_n 1, 1) := by decide +kernel
theorem d9_11 : decode method_3_code 11 = .ok (.invokestatic 19, 3) := by decide +kernel
theorem d9_14 : decode method_3_code 14 = .ok (.goto 18, 3) := by decide +kernel
theorem d9_17 : decode method_3_code 17 = .ok (.iload_n 1, 1) := by decide +kernel
theorem d9_18 : decode method_3_code 18 = .ok (.iload_n 2, 1) := by decide +kernel
theorem d9_19 : decode method_3_code 19 = .ok (.if_icmp .ne 7, 3) := by decide +kernel
theorem d9_22 : decode method_3_code 22 = .ok (.iload_n 3, 1) := by decide +kernel
theorem d9_23 : decode method_3_code 23 = .ok (.goto 9, 3) := by decide +kernel
theorem d9_26 : decode method_3_code 26 = .ok (.iload_n 1, 1) := by decide +kernel
theorem d9_27 : decode method_3_code 27 = .ok (.iconst 1, 1) := by decide +kernel
theorem d9_28 : decode method_3_code 28 = .ok (.isub, 1) := by decide +kernel
theorem d9_29 : decode method_3_code 29 = .ok (.invokestatic 19, 3) := by decide +kernel
theorem d9_32 : decode method_3_code 32 = .ok (.ireturn, 1) := by decide +kernel
theorem d9_33 : decode method_3_code 33 = .ok (.iload_n 0, 1) := by decide +kernel
theorem d9_34 : decode method_3_code 34 = .ok (.iconst 2, 1) := by decide +kernel
theorem d9_35 : decode method_3_code 35 = .ok (.if_icmp .ne 22, 3) := by decide +kernel
theorem d9_38 : decode method_3_code 38 = .ok (.iload_n 1, 1) := by decide +kernel
theorem d9_39 : decode method_3_code 39 = .ok (.iload_n 2, 1) := by decide +kernel
theorem d9_40 : decode method_3_code 40 = .ok (.if_icmp .ge 10, 3) := by decide +kernel
theorem d9_43 : decode method_3_code 43 = .ok (.iload_n 1, 1) := by decide +kernel
theorem d9_44 : decode method_3_code 44 = .ok (.invokestatic 19, 3) := by decide +kernel
theorem d9_47 : decode method_3_code 47 = .ok (.goto 9, 3) := by decide +kernel
theorem d9_50 : decode method_3_code 50 = .ok (.iload_n 1, 1) := by decide +kernel
theorem d9_51 : decode method_3_code 51 = .ok (.iconst 1, 1) := by decide +kernel
theorem d9_52 : decode method_3_code 52 = .ok (.iadd, 1) := by decide +kernel
theorem d9_53 : decode method_3_code 53 = .ok (.invokestatic 19, 3) := by decide +kernel
theorem d9_56 : decode method_3_code 56 = .ok (.ireturn, 1) := by decide +kernel
theorem d9_57 : decode method_3_code 57 = .ok (.iload_n 0, 1) := by decide +kernel
theorem d9_58 : decode method_3_code 58 = .ok (.iconst 3, 1) := by decide +kernel
theorem d9_59 : decode method_3_code 59 = .ok (.if_icmp .ne 28, 3) := by decide +kernel
theorem d9_62 : decode method_3_code 62 = .ok (.iload_n 1, 1) := by decide +kernel
theorem d9_63 : decode method_3_code 63 = .ok (.iload 4, 2) := by decide +kernel
theorem d9_65 : decode method_3_code 65 = .ok (.if_icmp .ne 8, 3) := by decide +kernel
theorem d9_68 : decode method_3_code 68 = .ok (.iload 5, 2) := by decide +kernel
theorem d9_70 : decode method_3_code 70 = .ok (.goto 16, 3) := by decide +kernel
theorem d9_73 : decode method_3_code 73 = .ok (.iload_n 1, 1) := by decide +kernel
theorem d9_74 : decode method_3_code 74 = .ok (.iload_n 2, 1) := by decide +kernel
theorem d9_75 : decode method_3_code 75 = .ok (.if_icmp .ne 7, 3) := by decide +kernel
theorem d9_78 : decode method_3_code 78 = .ok (.iload_n 3, 1) := by decide +kernel
theorem d9_79 : decode method_3_code 79 = .ok (.goto 7, 3) := by decide +kernel
theorem d9_82 : decode method_3_code 82 = .ok (.iload_n 1, 1) := by decide +kernel
theorem d9_83 : decode method_3_code 83 = .ok (.invokestatic 19, 3) := by decide +kernel
theorem d9_86 : decode method_3_code 86 = .ok (.ireturn, 1) := by decide +kernel
theorem d9_87 : decode method_3_code 87 = .ok (.iload_n 1, 1) := by decide +kernel
theorem d9_88 : decode method_3_code 88 = .ok (.iload_n 2, 1) := by decide +kernel
theorem d9_89 : decode method_3_code 89 = .ok (.if_icmp .ne 7, 3) := by decide +kernel
theorem d9_92 : decode method_3_code 92 = .ok (.iload_n 3, 1) := by decide +kernel
theorem d9_93 : decode method_3_code 93 = .ok (.goto 7, 3) := by decide +kernel
theorem d9_96 : decode method_3_code 96 = .ok (.iload_n 1, 1) := by decide +kernel
theorem d9_97 : decode method_3_code 97 = .ok (.invokestatic 19, 3) := by decide +kernel
theorem d9_100 : decode method_3_code 100 = .ok (.ireturn, 1) := by decide +kernel
theorem ef_9_b (m : MethodId) (p1 : Int32) (p2 : Int32) (p3 : Int32) (p4 : Int32) (p5 : Int32) (p6 : Int32) : entryFrame m #[(.int p1), (.int p2), (.int p3), (.int p4), (.int p5), (.int p6)] 6 = mkF m 0 #[.val (.int p1), .val (.int p2), .val (.int p3), .val (.int p4), .val (.int p5), .val (.int p6)] [] := by first | (simp [entryFrame, mkF, argsToLocals, Value.category]; done) | rfl
set_option maxRecDepth 65536 in
set_option maxHeartbeats 40000000 in
theorem rm9_b (l : Launch) (Z : State) (a0 : Array Value) (hw : ∀ d ∈ tables_1, d.before a0 Z = true) (ws : List Jvm.Cond) (p1 : Int32) (p2 : Int32) (p3 : Int32) (p4 : Int32) (p5 : Int32) (p6 : Int32) (lt : Addr) (cs : Int32) (fm : Value) (h0 : Heap) (n0 : Nat) (Z0 : n0 ≤ h0.size) (Sl : own_Sc Z h0 lt 17 own_XS) (CS : Sta Z h0 "java/lang/String" "COMPACT_STRINGS" "Z" (.int cs)) (hcs : ¬ cs = (0 : Int32)) (FM : Sta Z h0 "jdk/internal/util/Preconditions" "SIOOBE_FORMATTER" "Ljava/util/function/BiFunction;" fm) (hr_fm : fm.isRef = true) (hc : nar .char p4 = p4) (hd : nar .char p6 = p6) :
    MetFree l (⟨"com/example/firmhold/firmhold/PermissionNamedPinLaw", "at", "(IIICIC)C"⟩ : MethodName) (head1 (Jvm.Cond.code (⟨"com/example/firmhold/firmhold/PermissionNamedPinLaw", "at", "(IIICIC)C"⟩ : MethodName) method_3_code 6 (some .char) :: ws) ({ frames := 5, cells := 0, slots := 0, locals := 66 } : Room)) (fun a U => a = #[(.int p1), (.int p2), (.int p3), (.int p4), (.int p5), (.int p6)] ∧ Z.Warmed39 U.vm ∧ U.heap = h0 ∧ own_Lt Z U.vm lt) (fun _ _ _ _ _ => True) (fun _ U o U' => ∃ v L, o = .returned v ∧ own_QI h0 n0 (own_at p1 p2 p3 p4 p5 p6) v U'.heap L ∧ FrameEnd U o U' L ({ frames := 5, cells := 0, slots := 0, locals := 66 } : Room).cells ({ frames := 5, cells := 0, slots := 0, locals := 66 } : Room).slots) := by
  refine MetFree.of_bodySF (plainFor_of_name pn_1) hisR ?_
  intro p e s m args below meth c s₁ Bd hml0 hP hK
  obtain ⟨rfl, hZ, hh, hLt⟩ := hP
  have hx := Bd.exec
  have hby := Bd.bytes
  have hml : c.maxLocals = 6 := hml0
  have hown : s.vm.findClass "com/example/firmhold/firmhold/PermissionNamedPinLaw" = some m.cls := findClass_of_methodNamed Bd.named
  have hnm := (name_of_methodNamed Bd.named Bd.method).1
  have X0 : Stand p l e ({ frames := 5, cells := 0, slots := 0, locals := 66 } : Room) s m #[(.int p1), (.int p2), (.int p3), (.int p4), (.int p5), (.int p6)] below meth c s₁ [] 0 0 := Stand.of_body Bd
  have e0 : s₁.heap = h0 := by rw [← hh, Bd.state]; rfl
  have N0 := Fr.nil n0
  obtain ⟨S0, hS0⟩ : ∃ z, z = s₁.setTop (entryFrame m #[(.int p1), (.int p2), (.int p3), (.int p4), (.int p5), (.int p6)] 6) := ⟨_, rfl⟩
  have P0 : own_Pr p.tables e below S0 s₁ (mkF m 0 #[.val (.int p1), .val (.int p2), .val (.int p3), .val (.int p4), .val (.int p5), .val (.int p6)] []) := fun t k => hS0 ▸ castTop (ef_9_b m p1 p2 p3 p4 p5 p6) k
  have P21 : own_Pr p.tables e below S0 s₁ (mkF m 2 #[.val (.int p1), .val (.int p2), .val (.int p3), .val (.int p4), .val (.int p5), .val (.int p6)] [(.int 1), (.int p1)]) := fun t k => P0 t (by
    refine XS.iloadN X0.here hx rfl (hb hby d9_0) rfl ?_
    refine XS.iconst X0.here hx rfl (hb hby d9_1) ?_
    exact k)
  by_cases hc2_22 : p1 = (1 : Int32)
  · have P23 : own_Pr p.tables e below S0 s₁ (mkF m 7 #[.val (.int p1), .val (.int p2), .val (.int p3), .val (.int p4), .val (.int p5), .val (.int p6)] [(.int p3), (.int p2)]) := fun t k => P21 t (by
      refine XS.icmpNo X0.here hx rfl (hb hby d9_2) rfl (XT.ii_ne_f hc2_22) ?_
      refine XS.iloadN X0.here hx rfl (hb hby d9_5) rfl ?_
      refine XS.iloadN X0.here hx rfl (hb hby d9_6) rfl ?_
      exact k)
    by_cases hc7_24 : p2 < p3
    · have P25 : own_Pr p.tables e below S0 s₁ (mkF m 11 #[.val (.int p1), .val (.int p2), .val (.int p3), .val (.int p4), .val (.int p5), .val (.int p6)] [(.int p2)]) := fun t k => P23 t (by
        refine XS.icmpNo X0.here hx rfl (hb hby d9_7) rfl (XT.ii_ge_f hc7_24) ?_
        refine XS.iloadN X0.here hx rfl (hb hby d9_10) rfl ?_
        exact k)
      obtain ⟨_, _, ⟨T26, L26, k26, n26⟩, -, X26, ⟨Lc26, hQ26, l26, y26, z26⟩, st26⟩ := Jvm.LawKit.callS X0 hx (y := (⟨"com/example/firmhold/firmhold/PermissionNamedPinLaw", "nm", "(I)C"⟩ : MethodName)) hown (mvT hZ (hw _ (List.mem_of_getElem? (i := 1) rfl))) (mvT hZ (hw _ (List.mem_of_getElem? (i := 2) rfl))) (mvT hZ (hw _ (List.mem_of_getElem? (i := 3) rfl))) (mvT hZ (hw _ (List.mem_of_getElem? (i := 4) rfl))) (by decide) (own_backL (W := 0) (rm1_b l Z a0 hw [] p2 lt cs fm h0 n0 Z0 Sl CS hcs FM hr_fm) hZ (hw _ (List.mem_of_getElem? (i := 4) rfl)) (hw _ (List.mem_of_getElem? (i := 3) rfl)) (by decide) (by decide) (fun vm hv => (State.resolvedAt?_warmed39 (s := s) hv hLt))) (g := (mkF m 11 #[.val (.int p1), .val (.int p2), .val (.int p3), .val (.int p4), .val (.int p5), .val (.int p6)] [(.int p2)])) rfl (by rw [hml]; rfl) (argsL := [(.int p2)]) (rest := []) (lenOf pd_6 rfl) rfl (by show 2 * 0 + _ ≤ _; exact Nat.le_of_eq rfl) (hb hby d9_11) (fun _ _ => ⟨rfl, e0, (by decide : 0 + 0 ≤ _), (by decide : 0 + 0 ≤ _)⟩)
      dsimp only [Pt.U, Pt.locs, Pt.cells, Pt.slots] at X26 l26 y26 z26 st26 hQ26
      rw [l26, y26, z26] at X26
      have X26 := X26.mono (cells' := 0) (slots' := 0) (by decide) (by decide)
      obtain ⟨z26v, rfl, hz26v, Nq26, eq26⟩ := hQ26
      have N26n := Fr.app N0 Nq26
      have P27 : own_Pr p.tables e below S0 T26 (mkF m 14 #[.val (.int p1), .val (.int p2), .val (.int p3), .val (.int p4), .val (.int p5), .val (.int p6)] [(.int z26v)]) := fun t k => P25 t (st26 _ k)
      have P28 : own_Pr p.tables e below S0 T26 (mkF m 32 #[.val (.int p1), .val (.int p2), .val (.int p3), .val (.int p4), .val (.int p5), .val (.int p6)] [(.int z26v)]) := fun t k => P27 t (by
        refine XS.goto X26.here hx rfl (pc0 := 14) (pc' := 32) rfl (hb hby d9_14) (by decide) (by decide) ?_
        exact k)
      obtain ⟨fs, hr, hrun, hended, hW, hsame⟩ := X26.leave (v := some (.int z26v)) (fun h => by rw [Bd.returns] at h; cases h)
      have fin : Steps p.tables e below S0 (T26.setFrames fs) := P28 _ (retN X26 hx (t := .char) Bd.returns (by simp) (hb hby d9_32) (by rw [(by rw [hz26v]; exact own_nmN _ : nar .char z26v = z26v)]; exact hr))
      rw [hS0] at fin
      refine ⟨_, _, fin, hrun, hended, _, _, rfl, ?_, ⟨_, rfl⟩, hW, hsame.mono (by decide) (by decide)⟩
      show own_QI h0 n0 (own_at p1 p2 p3 p4 p5 p6) _ T26.heap _
      rw [eq26]
      exact ⟨_, rfl, (by subst hz26v; unfold own_at; rw [if_pos hc2_22, if_pos hc7_24]), N26n, rfl⟩
    · have P29 : own_Pr p.tables e below S0 s₁ (mkF m 19 #[.val (.int p1), .val (.int p2), .val (.int p3), .val (.int p4), .val (.int p5), .val (.int p6)] [(.int p3), (.int p2)]) := fun t k => P23 t (by
        refine XS.icmpYes X0.here hx rfl (pc0 := 7) (pc' := 17) rfl (hb hby d9_7) rfl (XT.ii_ge_t hc7_24) (by decide) (by decide) ?_
        refine XS.iloadN X0.here hx rfl (hb hby d9_17) rfl ?_
        refine XS.iloadN X0.here hx rfl (hb hby d9_18) rfl ?_
        exact k)
      by_cases hc19_30 : p2 = p3
      · have P31 : own_Pr p.tables e below S0 s₁ (mkF m 32 #[.val (.int p1), .val (.int p2), .val (.int p3), .val (.int p4), .val (.int p5), .val (.int p6)] [(.int p4)]) := fun t k => P29 t (by
          refine XS.icmpNo X0.here hx rfl (hb hby d9_19) rfl (XT.ii_ne_f hc19_30) ?_
          refine XS.iloadN X0.here hx rfl (hb hby d9_22) rfl ?_
          refine XS.goto X0.here hx rfl (pc0 := 23) (pc' := 32) rfl (hb hby d9_23) (by decide) (by decide) ?_
          exact k)
        obtain ⟨fs, hr, hrun, hended, hW, hsame⟩ := X0.leave (v := some (.int p4)) (fun h => by rw [Bd.returns] at h; cases h)
        have fin : Steps p.tables e below S0 (s₁.setFrames fs) := P31 _ (retN X0 hx (t := .char) Bd.returns (by simp) (hb hby d9_32) (by rw [hc]; exact hr))
        rw [hS0] at fin
        refine ⟨_, _, fin, hrun, hended, _, _, rfl, ?_, ⟨_, rfl⟩, hW, hsame.mono (by decide) (by decide)⟩
        show own_QI h0 n0 (own_at p1 p2 p3 p4 p5 p6) _ s₁.heap _
        rw [e0]
        exact ⟨_, rfl, (by unfold own_at; rw [if_pos hc2_22, if_neg hc7_24, if_pos hc19_30]), N0, rfl⟩
      · have P32 : own_Pr p.tables e below S0 s₁ (mkF m 29 #[.val (.int p1), .val (.int p2), .val (.int p3), .val (.int p4), .val (.int p5), .val (.int p6)] [(.int (p2 - (1 : Int32)))]) := fun t k => P29 t (by
          refine XS.icmpYes X0.here hx rfl (pc0 := 19) (pc' := 26) rfl (hb hby d9_19) rfl (XT.ii_ne_t hc19_30) (by decide) (by decide) ?_
          refine XS.iloadN X0.here hx rfl (hb hby d9_26) rfl ?_
          refine XS.iconst X0.here hx rfl (hb hby d9_27) ?_
          refine XS.isub X0.here hx rfl (hb hby d9_28) rfl ?_
          exact k)
        obtain ⟨_, _, ⟨T33, L33, k33, n33⟩, -, X33, ⟨Lc33, hQ33, l33, y33, z33⟩, st33⟩ := Jvm.LawKit.callS X0 hx (y := (⟨"com/example/firmhold/firmhold/PermissionNamedPinLaw", "nm", "(I)C"⟩ : MethodName)) hown (mvT hZ (hw _ (List.mem_of_getElem? (i := 1) rfl))) (mvT hZ (hw _ (List.mem_of_getElem? (i := 2) rfl))) (mvT hZ (hw _ (List.mem_of_getElem? (i := 3) rfl))) (mvT hZ (hw _ (List.mem_of_getElem? (i := 4) rfl))) (by decide) (own_backL (W := 0) (rm1_b l Z a0 hw [] (p2 - (1 : Int32)) lt cs fm h0 n0 Z0 Sl CS hcs FM hr_fm) hZ (hw _ (List.mem_of_getElem? (i := 4) rfl)) (hw _ (List.mem_of_getElem? (i := 3) rfl)) (by decide) (by decide) (fun vm hv => (State.resolvedAt?_warmed39 (s := s) hv hLt))) (g := (mkF m 29 #[.val (.int p1), .val (.int p2), .val (.int p3), .val (.int p4), .val (.int p5), .val (.int p6)] [(.int (p2 - (1 : Int32)))])) rfl (by rw [hml]; rfl) (argsL := [(.int (p2 - (1 : Int32)))]) (rest := []) (lenOf pd_6 rfl) rfl (by show 2 * 0 + _ ≤ _; exact Nat.le_of_eq rfl) (hb hby d9_29) (fun _ _ => ⟨rfl, e0, (by decide : 0 + 0 ≤ _), (by decide : 0 + 0 ≤ _)⟩)
        dsimp only [Pt.U, Pt.locs, Pt.cells, Pt.slots] at X33 l33 y33 z33 st33 hQ33
        rw [l33, y33, z33] at X33
        have X33 := X33.mono (cells' := 0) (slots' := 0) (by decide) (by decide)
        obtain ⟨z33v, rfl, hz33v, Nq33, eq33⟩ := hQ33
        have N33n := Fr.app N0 Nq33
        have P34 : own_Pr p.tables e below S0 T33 (mkF m 32 #[.val (.int p1), .val (.int p2), .val (.int p3), .val (.int p4), .val (.int p5), .val (.int p6)] [(.int z33v)]) := fun t k => P32 t (st33 _ k)
        obtain ⟨fs, hr, hrun, hended, hW, hsame⟩ := X33.leave (v := some (.int z33v)) (fun h => by rw [Bd.returns] at h; cases h)
        have fin : Steps p.tables e below S0 (T33.setFrames fs) := P34 _ (retN X33 hx (t := .char) Bd.returns (by simp) (hb hby d9_32) (by rw [(by rw [hz33v]; exact own_nmN _ : nar .char z33v = z33v)]; exact hr))
        rw [hS0] at fin
        refine ⟨_, _, fin, hrun, hended, _, _, rfl, ?_, ⟨_, rfl⟩, hW, hsame.mono (by decide) (by decide)⟩
        show own_QI h0 n0 (own_at p1 p2 p3 p4 p5 p6) _ T33.heap _
        rw [eq33]
        exact ⟨_, rfl, (by subst hz33v; unfold own_at; rw [if_pos hc2_22, if_neg hc7_24, if_neg hc19_30]), N33n, rfl⟩
  · have P35 : own_Pr p.tables e below S0 s₁ (mkF m 35 #[.val (.int p1), .val (.int p2), .val (.int p3), .val (.int p4), .val (.int p5), .val (.int p6)] [(.int 2), (.int p1)]) := fun t k => P21 t (by
      refine XS.icmpYes X0.here hx rfl (pc0 := 2) (pc' := 33) rfl (hb hby d9_2) rfl (XT.ii_ne_t hc2_22) (by decide) (by decide) ?_
      refine XS.iloadN X0.here hx rfl (hb hby d9_33) rfl ?_
      refine XS.iconst X0.here hx rfl (hb hby d9_34) ?_
      exact k)
    by_cases hc35_36 : p1 = (2 : Int32)
    · have P37 : own_Pr p.tables e below S0 s₁ (mkF m 40 #[.val (.int p1), .val (.int p2), .val (.int p3), .val (.int p4), .val (.int p5), .val (.int p6)] [(.int p3), (.int p2)]) := fun t k => P35 t (by
        refine XS.icmpNo X0.here hx rfl (hb hby d9_35) rfl (XT.ii_ne_f hc35_36) ?_
        refine XS.iloadN X0.here hx rfl (hb hby d9_38) rfl ?_
        refine XS.iloadN X0.here hx rfl (hb hby d9_39) rfl ?_
        exact k)
      by_cases hc40_38 : p2 < p3
      · have P39 : own_Pr p.tables e below S0 s₁ (mkF m 44 #[.val (.int p1), .val (.int p2), .val (.int p3), .val (.int p4), .val (.int p5), .val (.int p6)] [(.int p2)]) := fun t k => P37 t (by
          refine XS.icmpNo X0.here hx rfl (hb hby d9_40) rfl (XT.ii_ge_f hc40_38) ?_
          refine XS.iloadN X0.here hx rfl (hb hby d9_43) rfl ?_
          exact k)
        obtain ⟨_, _, ⟨T40, L40, k40, n40⟩, -, X40, ⟨Lc40, hQ40, l40, y40, z40⟩, st40⟩ := Jvm.LawKit.callS X0 hx (y := (⟨"com/example/firmhold/firmhold/PermissionNamedPinLaw", "nm", "(I)C"⟩ : MethodName)) hown (mvT hZ (hw _ (List.mem_of_getElem? (i := 1) rfl))) (mvT hZ (hw _ (List.mem_of_getElem? (i := 2) rfl))) (mvT hZ (hw _ (List.mem_of_getElem? (i := 3) rfl))) (mvT hZ (hw _ (List.mem_of_getElem? (i := 4) rfl))) (by decide) (own_backL (W := 0) (rm1_b l Z a0 hw [] p2 lt cs fm h0 n0 Z0 Sl CS hcs FM hr_fm) hZ (hw _ (List.mem_of_getElem? (i := 4) rfl)) (hw _ (List.mem_of_getElem? (i := 3) rfl)) (by decide) (by decide) (fun vm hv => (State.resolvedAt?_warmed39 (s := s) hv hLt))) (g := (mkF m 44 #[.val (.int p1), .val (.int p2), .val (.int p3), .val (.int p4), .val (.int p5), .val (.int p6)] [(.int p2)])) rfl (by rw [hml]; rfl) (argsL := [(.int p2)]) (rest := []) (lenOf pd_6 rfl) rfl (by show 2 * 0 + _ ≤ _; exact Nat.le_of_eq rfl) (hb hby d9_44) (fun _ _ => ⟨rfl, e0, (by decide : 0 + 0 ≤ _), (by decide : 0 + 0 ≤ _)⟩)
        dsimp only [Pt.U, Pt.locs, Pt.cells, Pt.slots] at X40 l40 y40 z40 st40 hQ40
        rw [l40, y40, z40] at X40
        have X40 := X40.mono (cells' := 0) (slots' := 0) (by decide) (by decide)
        obtain ⟨z40v, rfl, hz40v, Nq40, eq40⟩ := hQ40
        have N40n := Fr.app N0 Nq40
        have P41 : own_Pr p.tables e below S0 T40 (mkF m 47 #[.val (.int p1), .val (.int p2), .val (.int p3), .val (.int p4), .val (.int p5), .val (.int p6)] [(.int z40v)]) := fun t k => P39 t (st40 _ k)
        have P42 : own_Pr p.tables e below S0 T40 (mkF m 56 #[.val (.int p1), .val (.int p2), .val (.int p3), .val (.int p4), .val (.int p5), .val (.int p6)] [(.int z40v)]) := fun t k => P41 t (by
          refine XS.goto X40.here hx rfl (pc0 := 47) (pc' := 56) rfl (hb hby d9_47) (by decide) (by decide) ?_
          exact k)
        obtain ⟨fs, hr, hrun, hended, hW, hsame⟩ := X40.leave (v := some (.int z40v)) (fun h => by rw [Bd.returns] at h; cases h)
        have fin : Steps p.tables e below S0 (T40.setFrames fs) := P42 _ (retN X40 hx (t := .char) Bd.returns (by simp) (hb hby d9_56) (by rw [(by rw [hz40v]; exact own_nmN _ : nar .char z40v = z40v)]; exact hr))
        rw [hS0] at fin
        refine ⟨_, _, fin, hrun, hended, _, _, rfl, ?_, ⟨_, rfl⟩, hW, hsame.mono (by decide) (by decide)⟩
        show own_QI h0 n0 (own_at p1 p2 p3 p4 p5 p6) _ T40.heap _
        rw [eq40]
        exact ⟨_, rfl, (by subst hz40v; unfold own_at; rw [if_neg hc2_22, if_pos hc35_36, if_pos hc40_38]), N40n, rfl⟩
      · have P43 : own_Pr p.tables e below S0 s₁ (mkF m 53 #[.val (.int p1), .val (.int p2), .val (.int p3), .val (.int p4), .val (.int p5), .val (.int p6)] [(.int (p2 + (1 : Int32)))]) := fun t k => P37 t (by
          refine XS.icmpYes X0.here hx rfl (pc0 := 40) (pc' := 50) rfl (hb hby d9_40) rfl (XT.ii_ge_t hc40_38) (by decide) (by decide) ?_
          refine XS.iloadN X0.here hx rfl (hb hby d9_50) rfl ?_
          refine XS.iconst X0.here hx rfl (hb hby d9_51) ?_
          refine XS.iadd X0.here hx rfl (hb hby d9_52) rfl ?_
          exact k)
        obtain ⟨_, _, ⟨T44, L44, k44, n44⟩, -, X44, ⟨Lc44, hQ44, l44, y44, z44⟩, st44⟩ := Jvm.LawKit.callS X0 hx (y := (⟨"com/example/firmhold/firmhold/PermissionNamedPinLaw", "nm", "(I)C"⟩ : MethodName)) hown (mvT hZ (hw _ (List.mem_of_getElem? (i := 1) rfl))) (mvT hZ (hw _ (List.mem_of_getElem? (i := 2) rfl))) (mvT hZ (hw _ (List.mem_of_getElem? (i := 3) rfl))) (mvT hZ (hw _ (List.mem_of_getElem? (i := 4) rfl))) (by decide) (own_backL (W := 0) (rm1_b l Z a0 hw [] (p2 + (1 : Int32)) lt cs fm h0 n0 Z0 Sl CS hcs FM hr_fm) hZ (hw _ (List.mem_of_getElem? (i := 4) rfl)) (hw _ (List.mem_of_getElem? (i := 3) rfl)) (by decide) (by decide) (fun vm hv => (State.resolvedAt?_warmed39 (s := s) hv hLt))) (g := (mkF m 53 #[.val (.int p1), .val (.int p2), .val (.int p3), .val (.int p4), .val (.int p5), .val (.int p6)] [(.int (p2 + (1 : Int32)))])) rfl (by rw [hml]; rfl) (argsL := [(.int (p2 + (1 : Int32)))]) (rest := []) (lenOf pd_6 rfl) rfl (by show 2 * 0 + _ ≤ _; exact Nat.le_of_eq rfl) (hb hby d9_53) (fun _ _ => ⟨rfl, e0, (by decide : 0 + 0 ≤ _), (by decide : 0 + 0 ≤ _)⟩)
        dsimp only [Pt.U, Pt.locs, Pt.cells, Pt.slots] at X44 l44 y44 z44 st44 hQ44
        rw [l44, y44, z44] at X44
        have X44 := X44.mono (cells' := 0) (slots' := 0) (by decide) (by decide)
        obtain ⟨z44v, rfl, hz44v, Nq44, eq44⟩ := hQ44
        have N44n := Fr.app N0 Nq44
        have P45 : own_Pr p.tables e below S0 T44 (mkF m 56 #[.val (.int p1), .val (.int p2), .val (.int p3), .val (.int p4), .val (.int p5), .val (.int p6)] [(.int z44v)]) := fun t k => P43 t (st44 _ k)
        obtain ⟨fs, hr, hrun, hended, hW, hsame⟩ := X44.leave (v := some (.int z44v)) (fun h => by rw [Bd.returns] at h; cases h)
        have fin : Steps p.tables e below S0 (T44.setFrames fs) := P45 _ (retN X44 hx (t := .char) Bd.returns (by simp) (hb hby d9_56) (by rw [(by rw [hz44v]; exact own_nmN _ : nar .char z44v = z44v)]; exact hr))
        rw [hS0] at fin
        refine ⟨_, _, fin, hrun, hended, _, _, rfl, ?_, ⟨_, rfl⟩, hW, hsame.mono (by decide) (by decide)⟩
        show own_QI h0 n0 (own_at p1 p2 p3 p4 p5 p6) _ T44.heap _
        rw [eq44]
        exact ⟨_, rfl, (by subst hz44v; unfold own_at; rw [if_neg hc2_22, if_pos hc35_36, if_neg hc40_38]), N44n, rfl⟩
    · have P46 : own_Pr p.tables e below S0 s₁ (mkF m 59 #[.val (.int p1), .val (.int p2), .val (.int p3), .val (.int p4), .val (.int p5), .val (.int p6)] [(.int 3), (.int p1)]) := fun t k => P35 t (by
        refine XS.icmpYes X0.here hx rfl (pc0 := 35) (pc' := 57) rfl (hb hby d9_35) rfl (XT.ii_ne_t hc35_36) (by decide) (by decide) ?_
        refine XS.iloadN X0.here hx rfl (hb hby d9_57) rfl ?_
        refine XS.iconst X0.here hx rfl (hb hby d9_58) ?_
        exact k)
      by_cases hc59_47 : p1 = (3 : Int32)
      · have P48 : own_Pr p.tables e below S0 s₁ (mkF m 65 #[.val (.int p1), .val (.int p2), .val (.int p3), .val (.int p4), .val (.int p5), .val (.int p6)] [(.int p5), (.int p2)]) := fun t k => P46 t (by
          refine XS.icmpNo X0.here hx rfl (hb hby d9_59) rfl (XT.ii_ne_f hc59_47) ?_
          refine XS.iloadN X0.here hx rfl (hb hby d9_62) rfl ?_
          refine XS.iload X0.here hx rfl (hb hby d9_63) rfl ?_
          exact k)
        by_cases hc65_49 : p2 = p5
        · have P50 : own_Pr p.tables e below S0 s₁ (mkF m 86 #[.val (.int p1), .val (.int p2), .val (.int p3), .val (.int p4), .val (.int p5), .val (.int p6)] [(.int p6)]) := fun t k => P48 t (by
            refine XS.icmpNo X0.here hx rfl (hb hby d9_65) rfl (XT.ii_ne_f hc65_49) ?_
            refine XS.iload X0.here hx rfl (hb hby d9_68) rfl ?_
            refine XS.goto X0.here hx rfl (pc0 := 70) (pc' := 86) rfl (hb hby d9_70) (by decide) (by decide) ?_
            exact k)
          obtain ⟨fs, hr, hrun, hended, hW, hsame⟩ := X0.leave (v := some (.int p6)) (fun h => by rw [Bd.returns] at h; cases h)
          have fin : Steps p.tables e below S0 (s₁.setFrames fs) := P50 _ (retN X0 hx (t := .char) Bd.returns (by simp) (hb hby d9_86) (by rw [hd]; exact hr))
          rw [hS0] at fin
          refine ⟨_, _, fin, hrun, hended, _, _, rfl, ?_, ⟨_, rfl⟩, hW, hsame.mono (by decide) (by decide)⟩
          show own_QI h0 n0 (own_at p1 p2 p3 p4 p5 p6) _ s₁.heap _
          rw [e0]
          exact ⟨_, rfl, (by unfold own_at; rw [if_neg hc2_22, if_neg hc35_36, if_pos hc59_47, if_pos hc65_49]), N0, rfl⟩
        · have P51 : own_Pr p.tables e below S0 s₁ (mkF m 75 #[.val (.int p1), .val (.int p2), .val (.int p3), .val (.int p4), .val (.int p5), .val (.int p6)] [(.int p3), (.int p2)]) := fun t k => P48 t (by
            refine XS.icmpYes X0.here hx rfl (pc0 := 65) (pc' := 73) rfl (hb hby d9_65) rfl (XT.ii_ne_t hc65_49) (by decide) (by decide) ?_
            refine XS.iloadN X0.here hx rfl (hb hby d9_73) rfl ?_
            refine XS.iloadN X0.here hx rfl (hb hby d9_74) rfl ?_
            exact k)
          by_cases hc75_52 : p2 = p3
          · have P53 : own_Pr p.tables e below S0 s₁ (mkF m 86 #[.val (.int p1), .val (.int p2), .val (.int p3), .val (.int p4), .val (.int p5), .val (.int p6)] [(.int p4)]) := fun t k => P51 t (by
              refine XS.icmpNo X0.here hx rfl (hb hby d9_75) rfl (XT.ii_ne_f hc75_52) ?_
              refine XS.iloadN X0.here hx rfl (hb hby d9_78) rfl ?_
              refine XS.goto X0.here hx rfl (pc0 := 79) (pc' := 86) rfl (hb hby d9_79) (by decide) (by decide) ?_
              exact k)
            obtain ⟨fs, hr, hrun, hended, hW, hsame⟩ := X0.leave (v := some (.int p4)) (fun h => by rw [Bd.returns] at h; cases h)
            have fin : Steps p.tables e below S0 (s₁.setFrames fs) := P53 _ (retN X0 hx (t := .char) Bd.returns (by simp) (hb hby d9_86) (by rw [hc]; exact hr))
            rw [hS0] at fin
            refine ⟨_, _, fin, hrun, hended, _, _, rfl, ?_, ⟨_, rfl⟩, hW, hsame.mono (by decide) (by decide)⟩
            show own_QI h0 n0 (own_at p1 p2 p3 p4 p5 p6) _ s₁.heap _
            rw [e0]
            exact ⟨_, rfl, (by unfold own_at; rw [if_neg hc2_22, if_neg hc35_36, if_pos hc59_47, if_neg hc65_49, if_pos hc75_52]), N0, rfl⟩
          · have P54 : own_Pr p.tables e below S0 s₁ (mkF m 83 #[.val (.int p1), .val (.int p2), .val (.int p3), .val (.int p4), .val (.int p5), .val (.int p6)] [(.int p2)]) := fun t k => P51 t (by
              refine XS.icmpYes X0.here hx rfl (pc0 := 75) (pc' := 82) rfl (hb hby d9_75) rfl (XT.ii_ne_t hc75_52) (by decide) (by decide) ?_
              refine XS.iloadN X0.here hx rfl (hb hby d9_82) rfl ?_
              exact k)
            obtain ⟨_, _, ⟨T55, L55, k55, n55⟩, -, X55, ⟨Lc55, hQ55, l55, y55, z55⟩, st55⟩ := Jvm.LawKit.callS X0 hx (y := (⟨"com/example/firmhold/firmhold/PermissionNamedPinLaw", "nm", "(I)C"⟩ : MethodName)) hown (mvT hZ (hw _ (List.mem_of_getElem? (i := 1) rfl))) (mvT hZ (hw _ (List.mem_of_getElem? (i := 2) rfl))) (mvT hZ (hw _ (List.mem_of_getElem? (i := 3) rfl))) (mvT hZ (hw _ (List.mem_of_getElem? (i := 4) rfl))) (by decide) (own_backL (W := 0) (rm1_b l Z a0 hw [] p2 lt cs fm h0 n0 Z0 Sl CS hcs FM hr_fm) hZ (hw _ (List.mem_of_getElem? (i := 4) rfl)) (hw _ (List.mem_of_getElem? (i := 3) rfl)) (by decide) (by decide) (fun vm hv => (State.resolvedAt?_warmed39 (s := s) hv hLt))) (g := (mkF m 83 #[.val (.int p1), .val (.int p2), .val (.int p3), .val (.int p4), .val (.int p5), .val (.int p6)] [(.int p2)])) rfl (by rw [hml]; rfl) (argsL := [(.int p2)]) (rest := []) (lenOf pd_6 rfl) rfl (by show 2 * 0 + _ ≤ _; exact Nat.le_of_eq rfl) (hb hby d9_83) (fun _ _ => ⟨rfl, e0, (by decide : 0 + 0 ≤ _), (by decide : 0 + 0 ≤ _)⟩)
            dsimp only [Pt.U, Pt.locs, Pt.cells, Pt.slots] at X55 l55 y55 z55 st55 hQ55
            rw [l55, y55, z55] at X55
            have X55 := X55.mono (cells' := 0) (slots' := 0) (by decide) (by decide)
            obtain ⟨z55v, rfl, hz55v, Nq55, eq55⟩ := hQ55
            have N55n := Fr.app N0 Nq55
            have P56 : own_Pr p.tables e below S0 T55 (mkF m 86 #[.val (.int p1), .val (.int p2), .val (.int p3), .val (.int p4), .val (.int p5), .val (.int p6)] [(.int z55v)]) := fun t k => P54 t (st55 _ k)
            obtain ⟨fs, hr, hrun, hended, hW, hsame⟩ := X55.leave (v := some (.int z55v)) (fun h => by rw [Bd.returns] at h; cases h)
            have fin : Steps p.tables e below S0 (T55.setFrames fs) := P56 _ (retN X55 hx (t := .char) Bd.returns (by simp) (hb hby d9_86) (by rw [(by rw [hz55v]; exact own_nmN _ : nar .char z55v = z55v)]; exact hr))
            rw [hS0] at fin
            refine ⟨_, _, fin, hrun, hended, _, _, rfl, ?_, ⟨_, rfl⟩, hW, hsame.mono (by decide) (by decide)⟩
            show own_QI h0 n0 (own_at p1 p2 p3 p4 p5 p6) _ T55.heap _
            rw [eq55]
            exact ⟨_, rfl, (by subst hz55v; unfold own_at; rw [if_neg hc2_22, if_neg hc35_36, if_pos hc59_47, if_neg hc65_49, if_neg hc75_52]), N55n, rfl⟩
      · have P57 : own_Pr p.tables e below S0 s₁ (mkF m 89 #[.val (.int p1), .val (.int p2), .val (.int p3), .val (.int p4), .val (.int p5), .val (.int p6)] [(.int p3), (.int p2)]) := fun t k => P46 t (by
          refine XS.icmpYes X0.here hx rfl (pc0 := 59) (pc' := 87) rfl (hb hby d9_59) rfl (XT.ii_ne_t hc59_47) (by decide) (by decide) ?_
          refine XS.iloadN X0.here hx rfl (hb hby d9_87) rfl ?_
          refine XS.iloadN X0.here hx rfl (hb hby d9_88) rfl ?_
          exact k)
        by_cases hc89_58 : p2 = p3
        · have P59 : own_Pr p.tables e below S0 s₁ (mkF m 100 #[.val (.int p1), .val (.int p2), .val (.int p3), .val (.int p4), .val (.int p5), .val (.int p6)] [(.int p4)]) := fun t k => P57 t (by
            refine XS.icmpNo X0.here hx rfl (hb hby d9_89) rfl (XT.ii_ne_f hc89_58) ?_
            refine XS.iloadN X0.here hx rfl (hb hby d9_92) rfl ?_
            refine XS.goto X0.here hx rfl (pc0 := 93) (pc' := 100) rfl (hb hby d9_93) (by decide) (by decide) ?_
            exact k)
          obtain ⟨fs, hr, hrun, hended, hW, hsame⟩ := X0.leave (v := some (.int p4)) (fun h => by rw [Bd.returns] at h; cases h)
          have fin : Steps p.tables e below S0 (s₁.setFrames fs) := P59 _ (retN X0 hx (t := .char) Bd.returns (by simp) (hb hby d9_100) (by rw [hc]; exact hr))
          rw [hS0] at fin
          refine ⟨_, _, fin, hrun, hended, _, _, rfl, ?_, ⟨_, rfl⟩, hW, hsame.mono (by decide) (by decide)⟩
          show own_QI h0 n0 (own_at p1 p2 p3 p4 p5 p6) _ s₁.heap _
          rw [e0]
          exact ⟨_, rfl, (by unfold own_at; rw [if_neg hc2_22, if_neg hc35_36, if_neg hc59_47, if_pos hc89_58]), N0, rfl⟩
        · have P60 : own_Pr p.tables e below S0 s₁ (mkF m 97 #[.val (.int p1), .val (.int p2), .val (.int p3), .val (.int p4), .val (.int p5), .val (.int p6)] [(.int p2)]) := fun t k => P57 t (by
            refine XS.icmpYes X0.here hx rfl (pc0 := 89) (pc' := 96) rfl (hb hby d9_89) rfl (XT.ii_ne_t hc89_58) (by decide) (by decide) ?_
            refine XS.iloadN X0.here hx rfl (hb hby d9_96) rfl ?_
            exact k)
          obtain ⟨_, _, ⟨T61, L61, k61, n61⟩, -, X61, ⟨Lc61, hQ61, l61, y61, z61⟩, st61⟩ := Jvm.LawKit.callS X0 hx (y := (⟨"com/example/firmhold/firmhold/PermissionNamedPinLaw", "nm", "(I)C"⟩ : MethodName)) hown (mvT hZ (hw _ (List.mem_of_getElem? (i := 1) rfl))) (mvT hZ (hw _ (List.mem_of_getElem? (i := 2) rfl))) (mvT hZ (hw _ (List.mem_of_getElem? (i := 3) rfl))) (mvT hZ (hw _ (List.mem_of_getElem? (i := 4) rfl))) (by decide) (own_backL (W := 0) (rm1_b l Z a0 hw [] p2 lt cs fm h0 n0 Z0 Sl CS hcs FM hr_fm) hZ (hw _ (List.mem_of_getElem? (i := 4) rfl)) (hw _ (List.mem_of_getElem? (i := 3) rfl)) (by decide) (by decide) (fun vm hv => (State.resolvedAt?_warmed39 (s := s) hv hLt))) (g := (mkF m 97 #[.val (.int p1), .val (.int p2), .val (.int p3), .val (.int p4), .val (.int p5), .val (.int p6)] [(.int p2)])) rfl (by rw [hml]; rfl) (argsL := [(.int p2)]) (rest := []) (lenOf pd_6 rfl) rfl (by show 2 * 0 + _ ≤ _; exact Nat.le_of_eq rfl) (hb hby d9_97) (fun _ _ => ⟨rfl, e0, (by decide : 0 + 0 ≤ _), (by decide : 0 + 0 ≤ _)⟩)
          dsimp only [Pt.U, Pt.locs, Pt.cells, Pt.slots] at X61 l61 y61 z61 st61 hQ61
          rw [l61, y61, z61] at X61
          have X61 := X61.mono (cells' := 0) (slots' := 0) (by decide) (by decide)
          obtain ⟨z61v, rfl, hz61v, Nq61, eq61⟩ := hQ61
          have N61n := Fr.app N0 Nq61
          have P62 : own_Pr p.tables e below S0 T61 (mkF m 100 #[.val (.int p1), .val (.int p2), .val (.int p3), .val (.int p4), .val (.int p5), .val (.int p6)] [(.int z61v)]) := fun t k => P60 t (st61 _ k)
          obtain ⟨fs, hr, hrun, hended, hW, hsame⟩ := X61.leave (v := some (.int z61v)) (fun h => by rw [Bd.returns] at h; cases h)
          have fin : Steps p.tables e below S0 (T61.setFrames fs) := P62 _ (retN X61 hx (t := .char) Bd.returns (by simp) (hb hby d9_100) (by rw [(by rw [hz61v]; exact own_nmN _ : nar .char z61v = z61v)]; exact hr))
          rw [hS0] at fin
          refine ⟨_, _, fin, hrun, hended, _, _, rfl, ?_, ⟨_, rfl⟩, hW, hsame.mono (by decide) (by decide)⟩
          show own_QI h0 n0 (own_at p1 p2 p3 p4 p5 p6) _ T61.heap _
          rw [eq61]
          exact ⟨_, rfl, (by subst hz61v; unfold own_at; rw [if_neg hc2_22, if_neg hc35_36, if_neg hc59_47, if_neg hc89_58]), N61n, rfl⟩
theorem ef_9 (m : MethodId) (p1 : Int32) (p2 : Int32) (p3 : Int32) (p4 : Int32) (p5 : Int32) (p6 : Int32) : entryFrame m #[(.int p1), (.int p2), (.int p3), (.int p4), (.int p5), (.int p6)] 6 = mkF m 0 #[.val (.int p1), .val (.int p2), .val (.int p3), .val (.int p4), .val (.int p5), .val (.int p6)] [] := by first | (simp [entryFrame, mkF, argsToLocals, Value.category]; done) | rfl
set_option maxRecDepth 65536 in
set_option maxHeartbeats 40000000 in
theorem rm9 (l : Launch) (Z : State) (a0 : Array Value) (hw : ∀ d ∈ tables_1, d.before a0 Z = true) (ws : List Jvm.Cond) (p1 : Int32) (p2 : Int32) (p3 : Int32) (p4 : Int32) (p5 : Int32) (p6 : Int32) (cs : Int32) (fm : Value) (h0 : Heap) (n0 : Nat) (Z0 : n0 ≤ h0.size) (CS : Sta Z h0 "java/lang/String" "COMPACT_STRINGS" "Z" (.int cs)) (hcs : ¬ cs = (0 : Int32)) (FM : Sta Z h0 "jdk/internal/util/Preconditions" "SIOOBE_FORMATTER" "Ljava/util/function/BiFunction;" fm) (hr_fm : fm.isRef = true) (hc : nar .char p4 = p4) (hd : nar .char p6 = p6) :
    MetFree l (⟨"com/example/firmhold/firmhold/PermissionNamedPinLaw", "at", "(IIICIC)C"⟩ : MethodName) (head1 (Jvm.Cond.code (⟨"com/example/firmhold/firmhold/PermissionNamedPinLaw", "at", "(IIICIC)C"⟩ : MethodName) method_3_code 6 (some .char) :: ws) ({ frames := 5, cells := 2, slots := 72, locals := 66 } : Room)) (fun a U => a = #[(.int p1), (.int p2), (.int p3), (.int p4), (.int p5), (.int p6)] ∧ Z.Warmed39 U.vm ∧ U.heap = h0 ∧ CHv Z consts_1 U.vm h0) (fun _ _ _ _ _ => True) (fun _ U o U' => ∃ v L, o = .returned v ∧ own_QN Z (own_at p1 p2 p3 p4 p5 p6) (¬ p2 = p3 ∧ ¬ p2 = p5) h0 n0 v U'.heap L U'.vm ∧ CHr Z consts_1 U.vm U.heap U'.vm U'.heap ∧ ReturnedEndW U o U' L ({ frames := 5, cells := 2, slots := 72, locals := 66 } : Room).cells ({ frames := 5, cells := 2, slots := 72, locals := 66 } : Room).slots) := by
  refine MetFree.of_bodySF (plainFor_of_name pn_1) hisR ?_
  intro p e s m args below meth c s₁ Bd hml0 hP hK
  obtain ⟨rfl, hZ, hh, hCH⟩ := hP
  have hx := Bd.exec
  have hby := Bd.bytes
  have hml : c.maxLocals = 6 := hml0
  have hown : s.vm.findClass "com/example/firmhold/firmhold/PermissionNamedPinLaw" = some m.cls := findClass_of_methodNamed Bd.named
  have hnm := (name_of_methodNamed Bd.named Bd.method).1
  have X0 : Stand p l e ({ frames := 5, cells := 2, slots := 72, locals := 66 } : Room) (s.setVm s.vm) m #[(.int p1), (.int p2), (.int p3), (.int p4), (.int p5), (.int p6)] below meth c s₁ [] 0 0 := Stand.of_body Bd
  have e0 : s₁.heap = h0 := by rw [← hh, Bd.state]; rfl
  have N0 := Fr.nil n0
  obtain ⟨S0, hS0⟩ : ∃ z, z = s₁.setTop (entryFrame m #[(.int p1), (.int p2), (.int p3), (.int p4), (.int p5), (.int p6)] 6) := ⟨_, rfl⟩
  have P0 : own_Pr p.tables e below S0 s₁ (mkF m 0 #[.val (.int p1), .val (.int p2), .val (.int p3), .val (.int p4), .val (.int p5), .val (.int p6)] []) := fun t k => hS0 ▸ castTop (ef_9 m p1 p2 p3 p4 p5 p6) k
  have hSn : s.Since s.vm 0 := (State.WarmedH.refl s).since 0
  have kS0 : 0 ≤ h0.size := Nat.zero_le _
  have CR0 := CHr.refl hCH
  have K0 := Keep.refl h0 []
  have P21 : own_Pr p.tables e below S0 s₁ (mkF m 2 #[.val (.int p1), .val (.int p2), .val (.int p3), .val (.int p4), .val (.int p5), .val (.int p6)] [(.int 1), (.int p1)]) := fun t k => P0 t (by
    refine XS.iloadN X0.here hx rfl (hb hby d9_0) rfl ?_
    refine XS.iconst X0.here hx rfl (hb hby d9_1) ?_
    exact k)
  by_cases hc2_22 : p1 = (1 : Int32)
  · have P23 : own_Pr p.tables e below S0 s₁ (mkF m 7 #[.val (.int p1), .val (.int p2), .val (.int p3), .val (.int p4), .val (.int p5), .val (.int p6)] [(.int p3), (.int p2)]) := fun t k => P21 t (by
      refine XS.icmpNo X0.here hx rfl (hb hby d9_2) rfl (XT.ii_ne_f hc2_22) ?_
      refine XS.iloadN X0.here hx rfl (hb hby d9_5) rfl ?_
      refine XS.iloadN X0.here hx rfl (hb hby d9_6) rfl ?_
      exact k)
    by_cases hc7_24 : p2 < p3
    · have P25 : own_Pr p.tables e below S0 s₁ (mkF m 11 #[.val (.int p1), .val (.int p2), .val (.int p3), .val (.int p4), .val (.int p5), .val (.int p6)] [(.int p2)]) := fun t k => P23 t (by
        refine XS.icmpNo X0.here hx rfl (hb hby d9_7) rfl (XT.ii_ge_f hc7_24) ?_
        refine XS.iloadN X0.here hx rfl (hb hby d9_10) rfl ?_
        exact k)
      obtain ⟨_, _, ⟨T26, L26, k26, n26⟩, -, X26, hSq26, gq26, ⟨Lc26, hQ26, l26, y26, z26, CRq26⟩, st26⟩ := callSS X0 hx (y := (⟨"com/example/firmhold/firmhold/PermissionNamedPinLaw", "nm", "(I)C"⟩ : MethodName)) hown (mvT hZ (hw _ (List.mem_of_getElem? (i := 1) rfl))) (mvT hZ (hw _ (List.mem_of_getElem? (i := 2) rfl))) (mvT hZ (hw _ (List.mem_of_getElem? (i := 3) rfl))) (mvT hZ (hw _ (List.mem_of_getElem? (i := 4) rfl))) (by decide) (own_backG (W := 0) (rm1 l Z a0 hw [] p2 cs fm h0 n0 Z0 CS hcs FM hr_fm) hZ (hw _ (List.mem_of_getElem? (i := 4) rfl)) (hw _ (List.mem_of_getElem? (i := 3) rfl)) (by decide) (by decide) (own_EW hw) CR0.1) (g := (mkF m 11 #[.val (.int p1), .val (.int p2), .val (.int p3), .val (.int p4), .val (.int p5), .val (.int p6)] [(.int p2)])) rfl (by rw [hml]; rfl) (argsL := [(.int p2)]) (rest := []) (lenOf pd_6 rfl) rfl (by show 2 * 0 + _ ≤ _; exact Nat.le_of_eq rfl) (hb hby d9_11) (fun _ _ => ⟨rfl, e0, (by decide : 0 + 2 ≤ _), (by decide : 0 + 72 ≤ _)⟩)
      dsimp only [Pt.U, Pt.locs, Pt.cells, Pt.slots] at X26 l26 y26 z26 st26 hQ26 hSq26 gq26 CRq26
      rw [l26, y26, z26] at X26
      have X26 := X26.mono (cells' := 2) (slots' := 72) (by decide) (by decide)
      obtain ⟨X26, hSn, hZ, hown⟩ := rebS hSn (by rw [e0]; exact kS0) X26 hSq26 gq26 hZ hown
      have kS26 := Nat.le_refl T26.heap.size
      have CR26q := CR0.trans CRq26
      obtain ⟨rfl, Nq26, Kq26, Gq26⟩ := hQ26
      have N26n := Fr.app N0 Nq26
      have F27 := own_sta_keep0 CS Kq26
      have F28 := own_sta_keep0 FM Kq26
      have Z29 := Nat.le_trans Z0 Kq26.1
      have K30 := K0.trans Kq26 all0
      have P31 : own_Pr p.tables e below S0 T26 (mkF m 14 #[.val (.int p1), .val (.int p2), .val (.int p3), .val (.int p4), .val (.int p5), .val (.int p6)] [(.int (own_nm p2))]) := fun t k => P25 t (st26.trans k)
      have P32 : own_Pr p.tables e below S0 T26 (mkF m 32 #[.val (.int p1), .val (.int p2), .val (.int p3), .val (.int p4), .val (.int p5), .val (.int p6)] [(.int (own_nm p2))]) := fun t k => P31 t (by
        refine XS.goto X26.here hx rfl (pc0 := 14) (pc' := 32) rfl (hb hby d9_14) (by decide) (by decide) ?_
        exact k)
      obtain ⟨fs, hr, hrun, hended, hend⟩ := X26.leaveW hSn kS26 (v := some (.int (own_nm p2))) (fun h => by rw [Bd.returns] at h; cases h)
      have fin : Steps p.tables e below S0 (T26.setFrames fs) := P32 _ (retN X26 hx (t := .char) Bd.returns (by simp) (hb hby d9_32) (by rw [(own_nmN _)]; exact hr))
      rw [hS0] at fin
      refine ⟨_, _, fin, hrun, hended, _, _, rfl, ?_, (show CHr Z consts_1 s.vm s.heap T26.vm T26.heap by rw [hh]; exact CR26q.trans (CHv.at X26 hZ (own_EW hw) CR26q.1)), hend.1, hend.2.1, hend.2.2.1, hend.2.2.2.mono (by decide) (by decide)⟩
      show own_QN Z (own_at p1 p2 p3 p4 p5 p6) (¬ p2 = p3 ∧ ¬ p2 = p5) h0 n0 _ T26.heap _ T26.vm
      exact ⟨congrArg (fun r => some (Value.int r)) (by unfold own_at; rw [if_pos hc2_22, if_pos hc7_24]), N26n, K30, fun _ => Gq26 trivial⟩
    · have P33 : own_Pr p.tables e below S0 s₁ (mkF m 19 #[.val (.int p1), .val (.int p2), .val (.int p3), .val (.int p4), .val (.int p5), .val (.int p6)] [(.int p3), (.int p2)]) := fun t k => P23 t (by
        refine XS.icmpYes X0.here hx rfl (pc0 := 7) (pc' := 17) rfl (hb hby d9_7) rfl (XT.ii_ge_t hc7_24) (by decide) (by decide) ?_
        refine XS.iloadN X0.here hx rfl (hb hby d9_17) rfl ?_
        refine XS.iloadN X0.here hx rfl (hb hby d9_18) rfl ?_
        exact k)
      by_cases hc19_34 : p2 = p3
      · have P35 : own_Pr p.tables e below S0 s₁ (mkF m 32 #[.val (.int p1), .val (.int p2), .val (.int p3), .val (.int p4), .val (.int p5), .val (.int p6)] [(.int p4)]) := fun t k => P33 t (by
          refine XS.icmpNo X0.here hx rfl (hb hby d9_19) rfl (XT.ii_ne_f hc19_34) ?_
          refine XS.iloadN X0.here hx rfl (hb hby d9_22) rfl ?_
          refine XS.goto X0.here hx rfl (pc0 := 23) (pc' := 32) rfl (hb hby d9_23) (by decide) (by decide) ?_
          exact k)
        obtain ⟨fs, hr, hrun, hended, hend⟩ := X0.leaveW hSn (by rw [e0]; exact kS0) (v := some (.int p4)) (fun h => by rw [Bd.returns] at h; cases h)
        have fin : Steps p.tables e below S0 (s₁.setFrames fs) := P35 _ (retN X0 hx (t := .char) Bd.returns (by simp) (hb hby d9_32) (by rw [hc]; exact hr))
        rw [hS0] at fin
        refine ⟨_, _, fin, hrun, hended, _, _, rfl, ?_, (show CHr Z consts_1 s.vm s.heap s₁.vm s₁.heap by rw [hh, e0]; exact CR0.trans (CHv.at X0 hZ (own_EW hw) CR0.1)), hend.1, hend.2.1, hend.2.2.1, hend.2.2.2.mono (by decide) (by decide)⟩
        show own_QN Z (own_at p1 p2 p3 p4 p5 p6) (¬ p2 = p3 ∧ ¬ p2 = p5) h0 n0 _ s₁.heap _ s₁.vm
        rw [e0]
        exact ⟨congrArg (fun r => some (Value.int r)) (by unfold own_at; rw [if_pos hc2_22, if_neg hc7_24, if_pos hc19_34]), N0, K0, fun g => absurd hc19_34 g.1⟩
      · have P36 : own_Pr p.tables e below S0 s₁ (mkF m 29 #[.val (.int p1), .val (.int p2), .val (.int p3), .val (.int p4), .val (.int p5), .val (.int p6)] [(.int (p2 - (1 : Int32)))]) := fun t k => P33 t (by
          refine XS.icmpYes X0.here hx rfl (pc0 := 19) (pc' := 26) rfl (hb hby d9_19) rfl (XT.ii_ne_t hc19_34) (by decide) (by decide) ?_
          refine XS.iloadN X0.here hx rfl (hb hby d9_26) rfl ?_
          refine XS.iconst X0.here hx rfl (hb hby d9_27) ?_
          refine XS.isub X0.here hx rfl (hb hby d9_28) rfl ?_
          exact k)
        obtain ⟨_, _, ⟨T37, L37, k37, n37⟩, -, X37, hSq37, gq37, ⟨Lc37, hQ37, l37, y37, z37, CRq37⟩, st37⟩ := callSS X0 hx (y := (⟨"com/example/firmhold/firmhold/PermissionNamedPinLaw", "nm", "(I)C"⟩ : MethodName)) hown (mvT hZ (hw _ (List.mem_of_getElem? (i := 1) rfl))) (mvT hZ (hw _ (List.mem_of_getElem? (i := 2) rfl))) (mvT hZ (hw _ (List.mem_of_getElem? (i := 3) rfl))) (mvT hZ (hw _ (List.mem_of_getElem? (i := 4) rfl))) (by decide) (own_backG (W := 0) (rm1 l Z a0 hw [] (p2 - (1 : Int32)) cs fm h0 n0 Z0 CS hcs FM hr_fm) hZ (hw _ (List.mem_of_getElem? (i := 4) rfl)) (hw _ (List.mem_of_getElem? (i := 3) rfl)) (by decide) (by decide) (own_EW hw) CR0.1) (g := (mkF m 29 #[.val (.int p1), .val (.int p2), .val (.int p3), .val (.int p4), .val (.int p5), .val (.int p6)] [(.int (p2 - (1 : Int32)))])) rfl (by rw [hml]; rfl) (argsL := [(.int (p2 - (1 : Int32)))]) (rest := []) (lenOf pd_6 rfl) rfl (by show 2 * 0 + _ ≤ _; exact Nat.le_of_eq rfl) (hb hby d9_29) (fun _ _ => ⟨rfl, e0, (by decide : 0 + 2 ≤ _), (by decide : 0 + 72 ≤ _)⟩)
        dsimp only [Pt.U, Pt.locs, Pt.cells, Pt.slots] at X37 l37 y37 z37 st37 hQ37 hSq37 gq37 CRq37
        rw [l37, y37, z37] at X37
        have X37 := X37.mono (cells' := 2) (slots' := 72) (by decide) (by decide)
        obtain ⟨X37, hSn, hZ, hown⟩ := rebS hSn (by rw [e0]; exact kS0) X37 hSq37 gq37 hZ hown
        have kS37 := Nat.le_refl T37.heap.size
        have CR37q := CR0.trans CRq37
        obtain ⟨rfl, Nq37, Kq37, Gq37⟩ := hQ37
        have N37n := Fr.app N0 Nq37
        have F38 := own_sta_keep0 CS Kq37
        have F39 := own_sta_keep0 FM Kq37
        have Z40 := Nat.le_trans Z0 Kq37.1
        have K41 := K0.trans Kq37 all0
        have P42 : own_Pr p.tables e below S0 T37 (mkF m 32 #[.val (.int p1), .val (.int p2), .val (.int p3), .val (.int p4), .val (.int p5), .val (.int p6)] [(.int (own_nm (p2 - (1 : Int32))))]) := fun t k => P36 t (st37.trans k)
        obtain ⟨fs, hr, hrun, hended, hend⟩ := X37.leaveW hSn kS37 (v := some (.int (own_nm (p2 - (1 : Int32))))) (fun h => by rw [Bd.returns] at h; cases h)
        have fin : Steps p.tables e below S0 (T37.setFrames fs) := P42 _ (retN X37 hx (t := .char) Bd.returns (by simp) (hb hby d9_32) (by rw [(own_nmN _)]; exact hr))
        rw [hS0] at fin
        refine ⟨_, _, fin, hrun, hended, _, _, rfl, ?_, (show CHr Z consts_1 s.vm s.heap T37.vm T37.heap by rw [hh]; exact CR37q.trans (CHv.at X37 hZ (own_EW hw) CR37q.1)), hend.1, hend.2.1, hend.2.2.1, hend.2.2.2.mono (by decide) (by decide)⟩
        show own_QN Z (own_at p1 p2 p3 p4 p5 p6) (¬ p2 = p3 ∧ ¬ p2 = p5) h0 n0 _ T37.heap _ T37.vm
        exact ⟨congrArg (fun r => some (Value.int r)) (by unfold own_at; rw [if_pos hc2_22, if_neg hc7_24, if_neg hc19_34]), N37n, K41, fun _ => Gq37 trivial⟩
  · have P43 : own_Pr p.tables e below S0 s₁ (mkF m 35 #[.val (.int p1), .val (.int p2), .val (.int p3), .val (.int p4), .val (.int p5), .val (.int p6)] [(.int 2), (.int p1)]) := fun t k => P21 t (by
      refine XS.icmpYes X0.here hx rfl (pc0 := 2) (pc' := 33) rfl (hb hby d9_2) rfl (XT.ii_ne_t hc2_22) (by decide) (by decide) ?_
      refine XS.iloadN X0.here hx rfl (hb hby d9_33) rfl ?_
      refine XS.iconst X0.here hx rfl (hb hby d9_34) ?_
      exact k)
    by_cases hc35_44 : p1 = (2 : Int32)
    · have P45 : own_Pr p.tables e below S0 s₁ (mkF m 40 #[.val (.int p1), .val (.int p2), .val (.int p3), .val (.int p4), .val (.int p5), .val (.int p6)] [(.int p3), (.int p2)]) := fun t k => P43 t (by
        refine XS.icmpNo X0.here hx rfl (hb hby d9_35) rfl (XT.ii_ne_f hc35_44) ?_
        refine XS.iloadN X0.here hx rfl (hb hby d9_38) rfl ?_
        refine XS.iloadN X0.here hx rfl (hb hby d9_39) rfl ?_
        exact k)
      by_cases hc40_46 : p2 < p3
      · have P47 : own_Pr p.tables e below S0 s₁ (mkF m 44 #[.val (.int p1), .val (.int p2), .val (.int p3), .val (.int p4), .val (.int p5), .val (.int p6)] [(.int p2)]) := fun t k => P45 t (by
          refine XS.icmpNo X0.here hx rfl (hb hby d9_40) rfl (XT.ii_ge_f hc40_46) ?_
          refine XS.iloadN X0.here hx rfl (hb hby d9_43) rfl ?_
          exact k)
        obtain ⟨_, _, ⟨T48, L48, k48, n48⟩, -, X48, hSq48, gq48, ⟨Lc48, hQ48, l48, y48, z48, CRq48⟩, st48⟩ := callSS X0 hx (y := (⟨"com/example/firmhold/firmhold/PermissionNamedPinLaw", "nm", "(I)C"⟩ : MethodName)) hown (mvT hZ (hw _ (List.mem_of_getElem? (i := 1) rfl))) (mvT hZ (hw _ (List.mem_of_getElem? (i := 2) rfl))) (mvT hZ (hw _ (List.mem_of_getElem? (i := 3) rfl))) (mvT hZ (hw _ (List.mem_of_getElem? (i := 4) rfl))) (by decide) (own_backG (W := 0) (rm1 l Z a0 hw [] p2 cs fm h0 n0 Z0 CS hcs FM hr_fm) hZ (hw _ (List.mem_of_getElem? (i := 4) rfl)) (hw _ (List.mem_of_getElem? (i := 3) rfl)) (by decide) (by decide) (own_EW hw) CR0.1) (g := (mkF m 44 #[.val (.int p1), .val (.int p2), .val (.int p3), .val (.int p4), .val (.int p5), .val (.int p6)] [(.int p2)])) rfl (by rw [hml]; rfl) (argsL := [(.int p2)]) (rest := []) (lenOf pd_6 rfl) rfl (by show 2 * 0 + _ ≤ _; exact Nat.le_of_eq rfl) (hb hby d9_44) (fun _ _ => ⟨rfl, e0, (by decide : 0 + 2 ≤ _), (by decide : 0 + 72 ≤ _)⟩)
        dsimp only [Pt.U, Pt.locs, Pt.cells, Pt.slots] at X48 l48 y48 z48 st48 hQ48 hSq48 gq48 CRq48
        rw [l48, y48, z48] at X48
        have X48 := X48.mono (cells' := 2) (slots' := 72) (by decide) (by decide)
        obtain ⟨X48, hSn, hZ, hown⟩ := rebS hSn (by rw [e0]; exact kS0) X48 hSq48 gq48 hZ hown
        have kS48 := Nat.le_refl T48.heap.size
        have CR48q := CR0.trans CRq48
        obtain ⟨rfl, Nq48, Kq48, Gq48⟩ := hQ48
        have N48n := Fr.app N0 Nq48
        have F49 := own_sta_keep0 CS Kq48
        have F50 := own_sta_keep0 FM Kq48
        have Z51 := Nat.le_trans Z0 Kq48.1
        have K52 := K0.trans Kq48 all0
        have P53 : own_Pr p.tables e below S0 T48 (mkF m 47 #[.val (.int p1), .val (.int p2), .val (.int p3), .val (.int p4), .val (.int p5), .val (.int p6)] [(.int (own_nm p2))]) := fun t k => P47 t (st48.trans k)
        have P54 : own_Pr p.tables e below S0 T48 (mkF m 56 #[.val (.int p1), .val (.int p2), .val (.int p3), .val (.int p4), .val (.int p5), .val (.int p6)] [(.int (own_nm p2))]) := fun t k => P53 t (by
          refine XS.goto X48.here hx rfl (pc0 := 47) (pc' := 56) rfl (hb hby d9_47) (by decide) (by decide) ?_
          exact k)
        obtain ⟨fs, hr, hrun, hended, hend⟩ := X48.leaveW hSn kS48 (v := some (.int (own_nm p2))) (fun h => by rw [Bd.returns] at h; cases h)
        have fin : Steps p.tables e below S0 (T48.setFrames fs) := P54 _ (retN X48 hx (t := .char) Bd.returns (by simp) (hb hby d9_56) (by rw [(own_nmN _)]; exact hr))
        rw [hS0] at fin
        refine ⟨_, _, fin, hrun, hended, _, _, rfl, ?_, (show CHr Z consts_1 s.vm s.heap T48.vm T48.heap by rw [hh]; exact CR48q.trans (CHv.at X48 hZ (own_EW hw) CR48q.1)), hend.1, hend.2.1, hend.2.2.1, hend.2.2.2.mono (by decide) (by decide)⟩
        show own_QN Z (own_at p1 p2 p3 p4 p5 p6) (¬ p2 = p3 ∧ ¬ p2 = p5) h0 n0 _ T48.heap _ T48.vm
        exact ⟨congrArg (fun r => some (Value.int r)) (by unfold own_at; rw [if_neg hc2_22, if_pos hc35_44, if_pos hc40_46]), N48n, K52, fun _ => Gq48 trivial⟩
      · have P55 : own_Pr p.tables e below S0 s₁ (mkF m 53 #[.val (.int p1), .val (.int p2), .val (.int p3), .val (.int p4), .val (.int p5), .val (.int p6)] [(.int (p2 + (1 : Int32)))]) := fun t k => P45 t (by
          refine XS.icmpYes X0.here hx rfl (pc0 := 40) (pc' := 50) rfl (hb hby d9_40) rfl (XT.ii_ge_t hc40_46) (by decide) (by decide) ?_
          refine XS.iloadN X0.here hx rfl (hb hby d9_50) rfl ?_
          refine XS.iconst X0.here hx rfl (hb hby d9_51) ?_
          refine XS.iadd X0.here hx rfl (hb hby d9_52) rfl ?_
          exact k)
        obtain ⟨_, _, ⟨T56, L56, k56, n56⟩, -, X56, hSq56, gq56, ⟨Lc56, hQ56, l56, y56, z56, CRq56⟩, st56⟩ := callSS X0 hx (y := (⟨"com/example/firmhold/firmhold/PermissionNamedPinLaw", "nm", "(I)C"⟩ : MethodName)) hown (mvT hZ (hw _ (List.mem_of_getElem? (i := 1) rfl))) (mvT hZ (hw _ (List.mem_of_getElem? (i := 2) rfl))) (mvT hZ (hw _ (List.mem_of_getElem? (i := 3) rfl))) (mvT hZ (hw _ (List.mem_of_getElem? (i := 4) rfl))) (by decide) (own_backG (W := 0) (rm1 l Z a0 hw [] (p2 + (1 : Int32)) cs fm h0 n0 Z0 CS hcs FM hr_fm) hZ (hw _ (List.mem_of_getElem? (i := 4) rfl)) (hw _ (List.mem_of_getElem? (i := 3) rfl)) (by decide) (by decide) (own_EW hw) CR0.1) (g := (mkF m 53 #[.val (.int p1), .val (.int p2), .val (.int p3), .val (.int p4), .val (.int p5), .val (.int p6)] [(.int (p2 + (1 : Int32)))])) rfl (by rw [hml]; rfl) (argsL := [(.int (p2 + (1 : Int32)))]) (rest := []) (lenOf pd_6 rfl) rfl (by show 2 * 0 + _ ≤ _; exact Nat.le_of_eq rfl) (hb hby d9_53) (fun _ _ => ⟨rfl, e0, (by decide : 0 + 2 ≤ _), (by decide : 0 + 72 ≤ _)⟩)
        dsimp only [Pt.U, Pt.locs, Pt.cells, Pt.slots] at X56 l56 y56 z56 st56 hQ56 hSq56 gq56 CRq56
        rw [l56, y56, z56] at X56
        have X56 := X56.mono (cells' := 2) (slots' := 72) (by decide) (by decide)
        obtain ⟨X56, hSn, hZ, hown⟩ := rebS hSn (by rw [e0]; exact kS0) X56 hSq56 gq56 hZ hown
        have kS56 := Nat.le_refl T56.heap.size
        have CR56q := CR0.trans CRq56
        obtain ⟨rfl, Nq56, Kq56, Gq56⟩ := hQ56
        have N56n := Fr.app N0 Nq56
        have F57 := own_sta_keep0 CS Kq56
        have F58 := own_sta_keep0 FM Kq56
        have Z59 := Nat.le_trans Z0 Kq56.1
        have K60 := K0.trans Kq56 all0
        have P61 : own_Pr p.tables e below S0 T56 (mkF m 56 #[.val (.int p1), .val (.int p2), .val (.int p3), .val (.int p4), .val (.int p5), .val (.int p6)] [(.int (own_nm (p2 + (1 : Int32))))]) := fun t k => P55 t (st56.trans k)
        obtain ⟨fs, hr, hrun, hended, hend⟩ := X56.leaveW hSn kS56 (v := some (.int (own_nm (p2 + (1 : Int32))))) (fun h => by rw [Bd.returns] at h; cases h)
        have fin : Steps p.tables e below S0 (T56.setFrames fs) := P61 _ (retN X56 hx (t := .char) Bd.returns (by simp) (hb hby d9_56) (by rw [(own_nmN _)]; exact hr))
        rw [hS0] at fin
        refine ⟨_, _, fin, hrun, hended, _, _, rfl, ?_, (show CHr Z consts_1 s.vm s.heap T56.vm T56.heap by rw [hh]; exact CR56q.trans (CHv.at X56 hZ (own_EW hw) CR56q.1)), hend.1, hend.2.1, hend.2.2.1, hend.2.2.2.mono (by decide) (by decide)⟩
        show own_QN Z (own_at p1 p2 p3 p4 p5 p6) (¬ p2 = p3 ∧ ¬ p2 = p5) h0 n0 _ T56.heap _ T56.vm
        exact ⟨congrArg (fun r => some (Value.int r)) (by unfold own_at; rw [if_neg hc2_22, if_pos hc35_44, if_neg hc40_46]), N56n, K60, fun _ => Gq56 trivial⟩
    · have P62 : own_Pr p.tables e below S0 s₁ (mkF m 59 #[.val (.int p1), .val (.int p2), .val (.int p3), .val (.int p4), .val (.int p5), .val (.int p6)] [(.int 3), (.int p1)]) := fun t k => P43 t (by
        refine XS.icmpYes X0.here hx rfl (pc0 := 35) (pc' := 57) rfl (hb hby d9_35) rfl (XT.ii_ne_t hc35_44) (by decide) (by decide) ?_
        refine XS.iloadN X0.here hx rfl (hb hby d9_57) rfl ?_
        refine XS.iconst X0.here hx rfl (hb hby d9_58) ?_
        exact k)
      by_cases hc59_63 : p1 = (3 : Int32)
      · have P64 : own_Pr p.tables e below S0 s₁ (mkF m 65 #[.val (.int p1), .val (.int p2), .val (.int p3), .val (.int p4), .val (.int p5), .val (.int p6)] [(.int p5), (.int p2)]) := fun t k => P62 t (by
          refine XS.icmpNo X0.here hx rfl (hb hby d9_59) rfl (XT.ii_ne_f hc59_63) ?_
          refine XS.iloadN X0.here hx rfl (hb hby d9_62) rfl ?_
          refine XS.iload X0.here hx rfl (hb hby d9_63) rfl ?_
          exact k)
        by_cases hc65_65 : p2 = p5
        · have P66 : own_Pr p.tables e below S0 s₁ (mkF m 86 #[.val (.int p1), .val (.int p2), .val (.int p3), .val (.int p4), .val (.int p5), .val (.int p6)] [(.int p6)]) := fun t k => P64 t (by
            refine XS.icmpNo X0.here hx rfl (hb hby d9_65) rfl (XT.ii_ne_f hc65_65) ?_
            refine XS.iload X0.here hx rfl (hb hby d9_68) rfl ?_
            refine XS.goto X0.here hx rfl (pc0 := 70) (pc' := 86) rfl (hb hby d9_70) (by decide) (by decide) ?_
            exact k)
          obtain ⟨fs, hr, hrun, hended, hend⟩ := X0.leaveW hSn (by rw [e0]; exact kS0) (v := some (.int p6)) (fun h => by rw [Bd.returns] at h; cases h)
          have fin : Steps p.tables e below S0 (s₁.setFrames fs) := P66 _ (retN X0 hx (t := .char) Bd.returns (by simp) (hb hby d9_86) (by rw [hd]; exact hr))
          rw [hS0] at fin
          refine ⟨_, _, fin, hrun, hended, _, _, rfl, ?_, (show CHr Z consts_1 s.vm s.heap s₁.vm s₁.heap by rw [hh, e0]; exact CR0.trans (CHv.at X0 hZ (own_EW hw) CR0.1)), hend.1, hend.2.1, hend.2.2.1, hend.2.2.2.mono (by decide) (by decide)⟩
          show own_QN Z (own_at p1 p2 p3 p4 p5 p6) (¬ p2 = p3 ∧ ¬ p2 = p5) h0 n0 _ s₁.heap _ s₁.vm
          rw [e0]
          exact ⟨congrArg (fun r => some (Value.int r)) (by unfold own_at; rw [if_neg hc2_22, if_neg hc35_44, if_pos hc59_63, if_pos hc65_65]), N0, K0, fun g => absurd hc65_65 g.2⟩
        · have P67 : own_Pr p.tables e below S0 s₁ (mkF m 75 #[.val (.int p1), .val (.int p2), .val (.int p3), .val (.int p4), .val (.int p5), .val (.int p6)] [(.int p3), (.int p2)]) := fun t k => P64 t (by
            refine XS.icmpYes X0.here hx rfl (pc0 := 65) (pc' := 73) rfl (hb hby d9_65) rfl (XT.ii_ne_t hc65_65) (by decide) (by decide) ?_
            refine XS.iloadN X0.here hx rfl (hb hby d9_73) rfl ?_
            refine XS.iloadN X0.here hx rfl (hb hby d9_74) rfl ?_
            exact k)
          by_cases hc75_68 : p2 = p3
          · have P69 : own_Pr p.tables e below S0 s₁ (mkF m 86 #[.val (.int p1), .val (.int p2), .val (.int p3), .val (.int p4), .val (.int p5), .val (.int p6)] [(.int p4)]) := fun t k => P67 t (by
              refine XS.icmpNo X0.here hx rfl (hb hby d9_75) rfl (XT.ii_ne_f hc75_68) ?_
              refine XS.iloadN X0.here hx rfl (hb hby d9_78) rfl ?_
              refine XS.goto X0.here hx rfl (pc0 := 79) (pc' := 86) rfl (hb hby d9_79) (by decide) (by decide) ?_
              exact k)
            obtain ⟨fs, hr, hrun, hended, hend⟩ := X0.leaveW hSn (by rw [e0]; exact kS0) (v := some (.int p4)) (fun h => by rw [Bd.returns] at h; cases h)
            have fin : Steps p.tables e below S0 (s₁.setFrames fs) := P69 _ (retN X0 hx (t := .char) Bd.returns (by simp) (hb hby d9_86) (by rw [hc]; exact hr))
            rw [hS0] at fin
            refine ⟨_, _, fin, hrun, hended, _, _, rfl, ?_, (show CHr Z consts_1 s.vm s.heap s₁.vm s₁.heap by rw [hh, e0]; exact CR0.trans (CHv.at X0 hZ (own_EW hw) CR0.1)), hend.1, hend.2.1, hend.2.2.1, hend.2.2.2.mono (by decide) (by decide)⟩
            show own_QN Z (own_at p1 p2 p3 p4 p5 p6) (¬ p2 = p3 ∧ ¬ p2 = p5) h0 n0 _ s₁.heap _ s₁.vm
            rw [e0]
            exact ⟨congrArg (fun r => some (Value.int r)) (by unfold own_at; rw [if_neg hc2_22, if_neg hc35_44, if_pos hc59_63, if_neg hc65_65, if_pos hc75_68]), N0, K0, fun g => absurd hc75_68 g.1⟩
          · have P70 : own_Pr p.tables e below S0 s₁ (mkF m 83 #[.val (.int p1), .val (.int p2), .val (.int p3), .val (.int p4), .val (.int p5), .val (.int p6)] [(.int p2)]) := fun t k => P67 t (by
              refine XS.icmpYes X0.here hx rfl (pc0 := 75) (pc' := 82) rfl (hb hby d9_75) rfl (XT.ii_ne_t hc75_68) (by decide) (by decide) ?_
              refine XS.iloadN X0.here hx rfl (hb hby d9_82) rfl ?_
              exact k)
            obtain ⟨_, _, ⟨T71, L71, k71, n71⟩, -, X71, hSq71, gq71, ⟨Lc71, hQ71, l71, y71, z71, CRq71⟩, st71⟩ := callSS X0 hx (y := (⟨"com/example/firmhold/firmhold/PermissionNamedPinLaw", "nm", "(I)C"⟩ : MethodName)) hown (mvT hZ (hw _ (List.mem_of_getElem? (i := 1) rfl))) (mvT hZ (hw _ (List.mem_of_getElem? (i := 2) rfl))) (mvT hZ (hw _ (List.mem_of_getElem? (i := 3) rfl))) (mvT hZ (hw _ (List.mem_of_getElem? (i := 4) rfl))) (by decide) (own_backG (W := 0) (rm1 l Z a0 hw [] p2 cs fm h0 n0 Z0 CS hcs FM hr_fm) hZ (hw _ (List.mem_of_getElem? (i := 4) rfl)) (hw _ (List.mem_of_getElem? (i := 3) rfl)) (by decide) (by decide) (own_EW hw) CR0.1) (g := (mkF m 83 #[.val (.int p1), .val (.int p2), .val (.int p3), .val (.int p4), .val (.int p5), .val (.int p6)] [(.int p2)])) rfl (by rw [hml]; rfl) (argsL := [(.int p2)]) (rest := []) (lenOf pd_6 rfl) rfl (by show 2 * 0 + _ ≤ _; exact Nat.le_of_eq rfl) (hb hby d9_83) (fun _ _ => ⟨rfl, e0, (by decide : 0 + 2 ≤ _), (by decide : 0 + 72 ≤ _)⟩)
            dsimp only [Pt.U, Pt.locs, Pt.cells, Pt.slots] at X71 l71 y71 z71 st71 hQ71 hSq71 gq71 CRq71
            rw [l71, y71, z71] at X71
            have X71 := X71.mono (cells' := 2) (slots' := 72) (by decide) (by decide)
            obtain ⟨X71, hSn, hZ, hown⟩ := rebS hSn (by rw [e0]; exact kS0) X71 hSq71 gq71 hZ hown
            have kS71 := Nat.le_refl T71.heap.size
            have CR71q := CR0.trans CRq71
            obtain ⟨rfl, Nq71, Kq71, Gq71⟩ := hQ71
            have N71n := Fr.app N0 Nq71
            have F72 := own_sta_keep0 CS Kq71
            have F73 := own_sta_keep0 FM Kq71
            have Z74 := Nat.le_trans Z0 Kq71.1
            have K75 := K0.trans Kq71 all0
            have P76 : own_Pr p.tables e below S0 T71 (mkF m 86 #[.val (.int p1), .val (.int p2), .val (.int p3), .val (.int p4), .val (.int p5), .val (.int p6)] [(.int (own_nm p2))]) := fun t k => P70 t (st71.trans k)
            obtain ⟨fs, hr, hrun, hended, hend⟩ := X71.leaveW hSn kS71 (v := some (.int (own_nm p2))) (fun h => by rw [Bd.returns] at h; cases h)
            have fin : Steps p.tables e below S0 (T71.setFrames fs) := P76 _ (retN X71 hx (t := .char) Bd.returns (by simp) (hb hby d9_86) (by rw [(own_nmN _)]; exact hr))
            rw [hS0] at fin
            refine ⟨_, _, fin, hrun, hended, _, _, rfl, ?_, (show CHr Z consts_1 s.vm s.heap T71.vm T71.heap by rw [hh]; exact CR71q.trans (CHv.at X71 hZ (own_EW hw) CR71q.1)), hend.1, hend.2.1, hend.2.2.1, hend.2.2.2.mono (by decide) (by decide)⟩
            show own_QN Z (own_at p1 p2 p3 p4 p5 p6) (¬ p2 = p3 ∧ ¬ p2 = p5) h0 n0 _ T71.heap _ T71.vm
            exact ⟨congrArg (fun r => some (Value.int r)) (by unfold own_at; rw [if_neg hc2_22, if_neg hc35_44, if_pos hc59_63, if_neg hc65_65, if_neg hc75_68]), N71n, K75, fun _ => Gq71 trivial⟩
      · have P77 : own_Pr p.tables e below S0 s₁ (mkF m 89 #[.val (.int p1), .val (.int p2), .val (.int p3), .val (.int p4), .val (.int p5), .val (.int p6)] [(.int p3), (.int p2)]) := fun t k => P62 t (by
          refine XS.icmpYes X0.here hx rfl (pc0 := 59) (pc' := 87) rfl (hb hby d9_59) rfl (XT.ii_ne_t hc59_63) (by decide) (by decide) ?_
          refine XS.iloadN X0.here hx rfl (hb hby d9_87) rfl ?_
          refine XS.iloadN X0.here hx rfl (hb hby d9_88) rfl ?_
          exact k)
        by_cases hc89_78 : p2 = p3
        · have P79 : own_Pr p.tables e below S0 s₁ (mkF m 100 #[.val (.int p1), .val (.int p2), .val (.int p3), .val (.int p4), .val (.int p5), .val (.int p6)] [(.int p4)]) := fun t k => P77 t (by
            refine XS.icmpNo X0.here hx rfl (hb hby d9_89) rfl (XT.ii_ne_f hc89_78) ?_
            refine XS.iloadN X0.here hx rfl (hb hby d9_92) rfl ?_
            refine XS.goto X0.here hx rfl (pc0 := 93) (pc' := 100) rfl (hb hby d9_93) (by decide) (by decide) ?_
            exact k)
          obtain ⟨fs, hr, hrun, hended, hend⟩ := X0.leaveW hSn (by rw [e0]; exact kS0) (v := some (.int p4)) (fun h => by rw [Bd.returns] at h; cases h)
          have fin : Steps p.tables e below S0 (s₁.setFrames fs) := P79 _ (retN X0 hx (t := .char) Bd.returns (by simp) (hb hby d9_100) (by rw [hc]; exact hr))
          rw [hS0] at fin
          refine ⟨_, _, fin, hrun, hended, _, _, rfl, ?_, (show CHr Z consts_1 s.vm s.heap s₁.vm s₁.heap by rw [hh, e0]; exact CR0.trans (CHv.at X0 hZ (own_EW hw) CR0.1)), hend.1, hend.2.1, hend.2.2.1, hend.2.2.2.mono (by decide) (by decide)⟩
          show own_QN Z (own_at p1 p2 p3 p4 p5 p6) (¬ p2 = p3 ∧ ¬ p2 = p5) h0 n0 _ s₁.heap _ s₁.vm
          rw [e0]
          exact ⟨congrArg (fun r => some (Value.int r)) (by unfold own_at; rw [if_neg hc2_22, if_neg hc35_44, if_neg hc59_63, if_pos hc89_78]), N0, K0, fun g => absurd hc89_78 g.1⟩
        · have P80 : own_Pr p.tables e below S0 s₁ (mkF m 97 #[.val (.int p1), .val (.int p2), .val (.int p3), .val (.int p4), .val (.int p5), .val (.int p6)] [(.int p2)]) := fun t k => P77 t (by
            refine XS.icmpYes X0.here hx rfl (pc0 := 89) (pc' := 96) rfl (hb hby d9_89) rfl (XT.ii_ne_t hc89_78) (by decide) (by decide) ?_
            refine XS.iloadN X0.here hx rfl (hb hby d9_96) rfl ?_
            exact k)
          obtain ⟨_, _, ⟨T81, L81, k81, n81⟩, -, X81, hSq81, gq81, ⟨Lc81, hQ81, l81, y81, z81, CRq81⟩, st81⟩ := callSS X0 hx (y := (⟨"com/example/firmhold/firmhold/PermissionNamedPinLaw", "nm", "(I)C"⟩ : MethodName)) hown (mvT hZ (hw _ (List.mem_of_getElem? (i := 1) rfl))) (mvT hZ (hw _ (List.mem_of_getElem? (i := 2) rfl))) (mvT hZ (hw _ (List.mem_of_getElem? (i := 3) rfl))) (mvT hZ (hw _ (List.mem_of_getElem? (i := 4) rfl))) (by decide) (own_backG (W := 0) (rm1 l Z a0 hw [] p2 cs fm h0 n0 Z0 CS hcs FM hr_fm) hZ (hw _ (List.mem_of_getElem? (i := 4) rfl)) (hw _ (List.mem_of_getElem? (i := 3) rfl)) (by decide) (by decide) (own_EW hw) CR0.1) (g := (mkF m 97 #[.val (.int p1), .val (.int p2), .val (.int p3), .val (.int p4), .val (.int p5), .val (.int p6)] [(.int p2)])) rfl (by rw [hml]; rfl) (argsL := [(.int p2)]) (rest := []) (lenOf pd_6 rfl) rfl (by show 2 * 0 + _ ≤ _; exact Nat.le_of_eq rfl) (hb hby d9_97) (fun _ _ => ⟨rfl, e0, (by decide : 0 + 2 ≤ _), (by decide : 0 + 72 ≤ _)⟩)
          dsimp only [Pt.U, Pt.locs, Pt.cells, Pt.slots] at X81 l81 y81 z81 st81 hQ81 hSq81 gq81 CRq81
          rw [l81, y81, z81] at X81
          have X81 := X81.mono (cells' := 2) (slots' := 72) (by decide) (by decide)
          obtain ⟨X81, hSn, hZ, hown⟩ := rebS hSn (by rw [e0]; exact kS0) X81 hSq81 gq81 hZ hown
          have kS81 := Nat.le_refl T81.heap.size
          have CR81q := CR0.trans CRq81
          obtain ⟨rfl, Nq81, Kq81, Gq81⟩ := hQ81
          have N81n := Fr.app N0 Nq81
          have F82 := own_sta_keep0 CS Kq81
          have F83 := own_sta_keep0 FM Kq81
          have Z84 := Nat.le_trans Z0 Kq81.1
          have K85 := K0.trans Kq81 all0
          have P86 : own_Pr p.tables e below S0 T81 (mkF m 100 #[.val (.int p1), .val (.int p2), .val (.int p3), .val (.int p4), .val (.int p5), .val (.int p6)] [(.int (own_nm p2))]) := fun t k => P80 t (st81.trans k)
          obtain ⟨fs, hr, hrun, hended, hend⟩ := X81.leaveW hSn kS81 (v := some (.int (own_nm p2))) (fun h => by rw [Bd.returns] at h; cases h)
          have fin : Steps p.tables e below S0 (T81.setFrames fs) := P86 _ (retN X81 hx (t := .char) Bd.returns (by simp) (hb hby d9_100) (by rw [(own_nmN _)]; exact hr))
          rw [hS0] at fin
          refine ⟨_, _, fin, hrun, hended, _, _, rfl, ?_, (show CHr Z consts_1 s.vm s.heap T81.vm T81.heap by rw [hh]; exact CR81q.trans (CHv.at X81 hZ (own_EW hw) CR81q.1)), hend.1, hend.2.1, hend.2.2.1, hend.2.2.2.mono (by decide) (by decide)⟩
          show own_QN Z (own_at p1 p2 p3 p4 p5 p6) (¬ p2 = p3 ∧ ¬ p2 = p5) h0 n0 _ T81.heap _ T81.vm
          exact ⟨congrArg (fun r => some (Value.int r)) (by unfold own_at; rw [if_neg hc2_22, if_neg hc35_44, if_neg hc59_63, if_neg hc89_78]), N81n, K85, fun _ => Gq81 trivial⟩
theorem own_wV {a0 : Array Value} {Z : State} (hw : ∀ d ∈ tables_1, d.before a0 Z = true) : ∀ d ∈ StrChars.Road.words, d.before a0 Z = true := fun d hd => hw d ((by decide +kernel : ∀ d ∈ StrChars.Road.words, d ∈ tables_1) d hd)
theorem own_wE {a0 : Array Value} {Z : State} (hw : ∀ d ∈ tables_1, d.before a0 Z = true) : ∀ d ∈ StrChars.Road.wordsEq, d.before a0 Z = true := fun d hd => hw d ((by decide +kernel : ∀ d ∈ StrChars.Road.wordsEq, d ∈ tables_1) d hd)
theorem own_cXS : StrChars.Road.CodA own_XS 0 17 (own_XS.map Value.int) := Or.inl ⟨rfl, rfl, rfl, by decide⟩
def own_QO (Z : State) (a b : Addr) (h0 : Heap) (n0 : Nat) (v : Option Value) (h : Heap) (L : List Loc) : Prop := v = none ∧ Fr n0 L ∧ Keep h0 h [a] ∧ Exa Z h a "java/util/Optional" ∧ Fld Z h a "java/util/Optional" "value" "Ljava/lang/Object;" (.ref b)
def own_QP (Z : State) (w : Value) (h0 : Heap) (n0 : Nat) (v : Option Value) (h : Heap) (L : List Loc) : Prop := ∃ a, v = some (.ref a) ∧ Fr n0 L ∧ Keep h0 h [] ∧ Exa Z h a "java/util/Optional" ∧ Fld Z h a "java/util/Optional" "value" "Ljava/lang/Object;" w
theorem d21_0 : decode jdk_31_method_10_code 0 = .ok (.aload_n 0, 1) := by decide +kernel
theorem d21_1 : decode jdk_31_method_10_code 1 = .ok (.ifnonnull 11, 3) := by decide +kernel
theorem d21_12 : decode jdk_31_method_10_code 12 = .ok (.aload_n 0, 1) := by decide +kernel
theorem d21_13 : decode jdk_31_method_10_code 13 = .ok (.areturn, 1) := by decide +kernel
theorem pn_21 : plainName "java/util/Objects" = true := by first | (simp [plainName, overriddenIn]; done) | decide +kernel
theorem ef_21 (m : MethodId) (a1 : Addr) : entryFrame m #[(.ref a1)] 1 = mkF m 0 #[.val (.ref a1)] [] := by first | (simp [entryFrame, mkF, argsToLocals, Value.category]; done) | rfl
def own_f21 (a1 : Addr) : Addr := a1
set_option maxRecDepth 65536 in
set_option maxHeartbeats 40000000 in
theorem rm21 (l : Launch) (Z : State) (a0 : Array Value) (hw : ∀ d ∈ tables_1, d.before a0 Z = true) (ws : List Jvm.Cond) (a1 : Addr)  (h0 : Heap) (n0 : Nat) (Z0 : n0 ≤ h0.size) :
    MetFree l (⟨"java/util/Objects", "requireNonNull", "(Ljava/lang/Object;)Ljava/lang/Object;"⟩ : MethodName) (head1 (Jvm.Cond.code (⟨"java/util/Objects", "requireNonNull", "(Ljava/lang/Object;)Ljava/lang/Object;"⟩ : MethodName) jdk_31_method_10_code 1 (some (.object "java/lang/Object")) :: ws) ({ frames := 0, cells := 0, slots := 0, locals := 0 } : Room)) (fun a U => a = #[(.ref a1)] ∧ Z.Warmed39 U.vm ∧ U.heap = h0) (fun _ _ _ _ _ => True) (fun _ U o U' => ∃ v L, o = .returned v ∧ own_QR h0 n0 (own_f21 a1) v U'.heap L ∧ FrameEnd U o U' L ({ frames := 0, cells := 0, slots := 0, locals := 0 } : Room).cells ({ frames := 0, cells := 0, slots := 0, locals := 0 } : Room).slots) := by
  refine MetFree.of_bodySF (plainFor_of_name pn_21) hisR ?_
  intro p e s m args below meth c s₁ Bd hml0 hP hK
  obtain ⟨rfl, hZ, hh⟩ := hP
  have hx := Bd.exec
  have hby := Bd.bytes
  have hml : c.maxLocals = 1 := hml0
  have hown : s.vm.findClass "java/util/Objects" = some m.cls := findClass_of_methodNamed Bd.named
  have hnm := (name_of_methodNamed Bd.named Bd.method).1
  have X0 : Stand p l e ({ frames := 0, cells := 0, slots := 0, locals := 0 } : Room) s m #[(.ref a1)] below meth c s₁ [] 0 0 := Stand.of_body Bd
  have e0 : s₁.heap = h0 := by rw [← hh, Bd.state]; rfl
  have N0 := Fr.nil n0
  obtain ⟨S0, hS0⟩ : ∃ z, z = s₁.setTop (entryFrame m #[(.ref a1)] 1) := ⟨_, rfl⟩
  have P0 : own_Pr p.tables e below S0 s₁ (mkF m 0 #[.val (.ref a1)] []) := fun t k => hS0 ▸ castTop (ef_21 m a1) k
  have P21 : own_Pr p.tables e below S0 s₁ (mkF m 13 #[.val (.ref a1)] [(.ref a1)]) := fun t k => P0 t (by
    refine XS.aloadN X0.here hx rfl (hb hby d21_0) rfl rfl ?_
    refine XS.ifnonnullYes X0.here hx rfl (pc0 := 1) (pc' := 12) rfl (hb hby d21_1) rfl (by decide) (by decide) ?_
    refine XS.aloadN X0.here hx rfl (hb hby d21_12) rfl rfl ?_
    exact k)
  obtain ⟨fs, hr, hrun, hended, hW, hsame⟩ := X0.leave (v := some (.ref a1)) (fun h => by rw [Bd.returns] at h; cases h)
  have fin : Steps p.tables e below S0 (s₁.setFrames fs) := P21 _ (by
    jvm_step X0.here [X0.here.top, hx, (hb hby d21_13), X0.method', Bd.returns, Value.isRef, FieldType.isReference]
    first | (intro acts; rw [hr _ acts rfl rfl rfl]) | rw [hr _ _ rfl rfl rfl]
    exact Steps.refl _)
  rw [hS0] at fin
  refine ⟨_, _, fin, hrun, hended, _, _, rfl, ?_, ⟨_, rfl⟩, hW, hsame.mono (by decide) (by decide)⟩
  show own_QR h0 n0 (own_f21 a1) _ s₁.heap _
  rw [e0]
  exact ⟨_, rfl, (by unfold own_f21; rfl), N0, rfl⟩
theorem d22_0 : decode jdk_32_method_2_code 0 = .ok (.aload_n 0, 1) := by decide +kernel
theorem d22_1 : decode jdk_32_method_2_code 1 = .ok (.invokespecial 7, 3) := by decide +kernel
theorem d22_4 : decode jdk_32_method_2_code 4 = .ok (.aload_n 0, 1) := by decide +kernel
theorem d22_5 : decode jdk_32_method_2_code 5 = .ok (.aload_n 1, 1) := by decide +kernel
theorem d22_6 : decode jdk_32_method_2_code 6 = .ok (.putfield 13, 3) := by decide +kernel
theorem d22_9 : decode jdk_32_method_2_code 9 = .ok (.return_, 1) := by decide +kernel
theorem pn_22 : plainName "java/util/Optional" = true := by first | (simp [plainName, overriddenIn]; done) | decide +kernel
theorem ef_22 (m : MethodId) (a1 : Addr) (a2 : Addr) : entryFrame m #[(.ref a1), (.ref a2)] 2 = mkF m 0 #[.val (.ref a1), .val (.ref a2)] [] := by first | (simp [entryFrame, mkF, argsToLocals, Value.category]; done) | rfl
set_option maxRecDepth 65536 in
set_option maxHeartbeats 40000000 in
theorem rm22 (l : Launch) (Z : State) (a0 : Array Value) (hw : ∀ d ∈ tables_1, d.before a0 Z = true) (ws : List Jvm.Cond) (a1 : Addr) (a2 : Addr)  (h0 : Heap) (n0 : Nat) (Z0 : n0 ≤ h0.size) (E1 : Exa Z h0 a1 "java/util/Optional") (F1 : Fld Z h0 a1 "java/util/Optional" "value" "Ljava/lang/Object;" .null) (g_a1 : n0 ≤ a1) :
    MetFree l (⟨"java/util/Optional", "<init>", "(Ljava/lang/Object;)V"⟩ : MethodName) (head1 (Jvm.Cond.code (⟨"java/util/Optional", "<init>", "(Ljava/lang/Object;)V"⟩ : MethodName) jdk_32_method_2_code 2 none :: ws) ({ frames := 1, cells := 0, slots := 0, locals := 12 } : Room)) (fun a U => a = #[(.ref a1), (.ref a2)] ∧ Z.Warmed39 U.vm ∧ U.heap = h0) (fun _ _ _ _ _ => True) (fun _ U o U' => ∃ v L, o = .returned v ∧ own_QO Z a1 a2 h0 n0 v U'.heap L ∧ FrameEnd U o U' L ({ frames := 1, cells := 0, slots := 0, locals := 12 } : Room).cells ({ frames := 1, cells := 0, slots := 0, locals := 12 } : Room).slots) := by
  refine MetFree.of_bodySF (plainFor_of_name pn_22) hisR ?_
  intro p e s m args below meth c s₁ Bd hml0 hP hK
  obtain ⟨rfl, hZ, hh⟩ := hP
  have hx := Bd.exec
  have hby := Bd.bytes
  have hml : c.maxLocals = 2 := hml0
  have hown : s.vm.findClass "java/util/Optional" = some m.cls := findClass_of_methodNamed Bd.named
  have hnm := (name_of_methodNamed Bd.named Bd.method).1
  have X0 : Stand p l e ({ frames := 1, cells := 0, slots := 0, locals := 12 } : Room) s m #[(.ref a1), (.ref a2)] below meth c s₁ [] 0 0 := Stand.of_body Bd
  have e0 : s₁.heap = h0 := by rw [← hh, Bd.state]; rfl
  have N0 := Fr.nil n0
  obtain ⟨S0, hS0⟩ : ∃ z, z = s₁.setTop (entryFrame m #[(.ref a1), (.ref a2)] 2) := ⟨_, rfl⟩
  have P0 : own_Pr p.tables e below S0 s₁ (mkF m 0 #[.val (.ref a1), .val (.ref a2)] []) := fun t k => hS0 ▸ castTop (ef_22 m a1 a2) k
  have K0 := Keep.refl h0 [a1]
  have P21 : own_Pr p.tables e below S0 s₁ (mkF m 1 #[.val (.ref a1), .val (.ref a2)] [(.ref a1)]) := fun t k => P0 t (by
    refine XS.aloadN X0.here hx rfl (hb hby d22_0) rfl rfl ?_
    exact k)
  obtain ⟨T22, X22, e22, st22⟩ := initO X0 hx hZ hown (hw _ (List.mem_of_getElem? (i := 118) rfl)) (hw _ (List.mem_of_getElem? (i := 61) rfl)) (hw _ (List.mem_of_getElem? (i := 62) rfl)) e0 (g := (mkF m 1 #[.val (.ref a1), .val (.ref a2)] [(.ref a1)])) rfl (by rw [hml]; rfl) rfl (hb hby d22_1) (by decide) (W := 0) (by show 2 * 0 + _ ≤ _; exact Nat.le_of_eq rfl) (by decide)
  have P23 : own_Pr p.tables e below S0 T22 (mkF m 4 #[.val (.ref a1), .val (.ref a2)] []) := fun t k => P21 t (st22 _ k)
  have P24 : own_Pr p.tables e below S0 T22 (mkF m 6 #[.val (.ref a1), .val (.ref a2)] [(.ref a2), (.ref a1)]) := fun t k => P23 t (by
    refine XS.aloadN X22.here hx rfl (hb hby d22_4) rfl rfl ?_
    refine XS.aloadN X22.here hx rfl (hb hby d22_5) rfl rfl ?_
    exact k)
  obtain ⟨T25, h25, X25, e25, W25, st25⟩ := putF X22 hx hZ hown (host := "") (Or.inl (hw _ (List.mem_of_getElem? (i := 119) rfl))) Via.refl e22 F1 E1 (Or.inr ⟨(hw _ (List.mem_of_getElem? (i := 120) rfl)), rfl, hnm⟩) (hw _ (List.mem_of_getElem? (i := 109) rfl)) (ty := (.object "java/lang/Object")) (by decide) rfl rfl (g := (mkF m 6 #[.val (.ref a1), .val (.ref a2)] [(.ref a2), (.ref a1)])) rfl rfl (hb hby d22_6)
  have F25 := F1.same W25
  have F26 := E1.wr W25
  have Z27 : n0 ≤ h25.size := by rw [W25.size]; exact Z0
  have NF25 := Fr.snoc X25 N0 g_a1
  have K28 := K0.wr W25 (Or.inl (List.mem_of_getElem? (i := 0) rfl))
  have P29 : own_Pr p.tables e below S0 T25 (mkF m 9 #[.val (.ref a1), .val (.ref a2)] []) := fun t k => P24 t (st25 _ k)
  obtain ⟨fs, hr, hrun, hended, hW, hsame⟩ := X25.leave (v := none) (fun _ => rfl)
  have fin : Steps p.tables e below S0 (T25.setFrames fs) := P29 _ (X25.returnOut hx Bd.returns (hb hby d22_9) hr)
  rw [hS0] at fin
  refine ⟨_, _, fin, hrun, hended, _, _, rfl, ?_, ⟨_, rfl⟩, hW, hsame.mono (by decide) (by decide)⟩
  show own_QO Z a1 a2 h0 n0 _ T25.heap _
  rw [e25]
  exact ⟨rfl, NF25, K28, F26, F25⟩
theorem d20_0 : decode jdk_32_method_3_code 0 = .ok (.new 2, 3) := by decide +kernel
theorem d20_3 : decode jdk_32_method_3_code 3 = .ok (.dup, 1) := by decide +kernel
theorem d20_4 : decode jdk_32_method_3_code 4 = .ok (.aload_n 0, 1) := by decide +kernel
theorem d20_5 : decode jdk_32_method_3_code 5 = .ok (.invokestatic 17, 3) := by decide +kernel
theorem d20_8 : decode jdk_32_method_3_code 8 = .ok (.invokespecial 23, 3) := by decide +kernel
theorem d20_11 : decode jdk_32_method_3_code 11 = .ok (.areturn, 1) := by decide +kernel
theorem pd_7 : parseMethodDescriptor "(Ljava/lang/Object;)Ljava/lang/Object;" = some ⟨[(.object "java/lang/Object")], some (.object "java/lang/Object")⟩ := by decide +kernel
theorem pd_8 : parseMethodDescriptor "(Ljava/lang/Object;)V" = some ⟨[(.object "java/lang/Object")], none⟩ := by decide +kernel
theorem ef_20 (m : MethodId) (a1 : Addr) : entryFrame m #[(.ref a1)] 1 = mkF m 0 #[.val (.ref a1)] [] := by first | (simp [entryFrame, mkF, argsToLocals, Value.category]; done) | rfl
set_option maxRecDepth 65536 in
set_option maxHeartbeats 40000000 in
theorem rm20 (l : Launch) (Z : State) (a0 : Array Value) (hw : ∀ d ∈ tables_1, d.before a0 Z = true) (ws : List Jvm.Cond) (a1 : Addr)  (h0 : Heap) (n0 : Nat) (Z0 : n0 ≤ h0.size) :
    MetFree l (⟨"java/util/Optional", "of", "(Ljava/lang/Object;)Ljava/util/Optional;"⟩ : MethodName) (head1 (Jvm.Cond.code (⟨"java/util/Optional", "of", "(Ljava/lang/Object;)Ljava/util/Optional;"⟩ : MethodName) jdk_32_method_3_code 1 (some (.object "java/util/Optional")) :: ws) ({ frames := 2, cells := 1, slots := 1, locals := 26 } : Room)) (fun a U => a = #[(.ref a1)] ∧ Z.Warmed39 U.vm ∧ U.heap = h0) (fun _ _ _ _ _ => True) (fun _ U o U' => ∃ v L, o = .returned v ∧ own_QP Z (.ref a1) h0 n0 v U'.heap L ∧ FrameEnd U o U' L ({ frames := 2, cells := 1, slots := 1, locals := 26 } : Room).cells ({ frames := 2, cells := 1, slots := 1, locals := 26 } : Room).slots) := by
  refine MetFree.of_bodySF (plainFor_of_name pn_22) hisR ?_
  intro p e s m args below meth c s₁ Bd hml0 hP hK
  obtain ⟨rfl, hZ, hh⟩ := hP
  have hx := Bd.exec
  have hby := Bd.bytes
  have hml : c.maxLocals = 1 := hml0
  have hown : s.vm.findClass "java/util/Optional" = some m.cls := findClass_of_methodNamed Bd.named
  have hnm := (name_of_methodNamed Bd.named Bd.method).1
  have X0 : Stand p l e ({ frames := 2, cells := 1, slots := 1, locals := 26 } : Room) s m #[(.ref a1)] below meth c s₁ [] 0 0 := Stand.of_body Bd
  have e0 : s₁.heap = h0 := by rw [← hh, Bd.state]; rfl
  have N0 := Fr.nil n0
  obtain ⟨S0, hS0⟩ : ∃ z, z = s₁.setTop (entryFrame m #[(.ref a1)] 1) := ⟨_, rfl⟩
  have P0 : own_Pr p.tables e below S0 s₁ (mkF m 0 #[.val (.ref a1)] []) := fun t k => hS0 ▸ castTop (ef_20 m a1) k
  have K0 := Keep.refl h0 []
  obtain ⟨T21, h21, X21, e21, E21, A21, D21, -, st21⟩ := newO X0 hx hZ hown (hw _ (List.mem_of_getElem? (i := 108) rfl)) (hw _ (List.mem_of_getElem? (i := 109) rfl)) (hw _ (List.mem_of_getElem? (i := 106) rfl)) e0 (g := (mkF m 0 #[.val (.ref a1)] [])) rfl (hb hby d20_0) (by decide) (by decide)
  obtain ⟨b21, g21⟩ : ∃ z, z = h0.size := ⟨_, rfl⟩
  rw [← g21] at A21 D21 st21
  have g_b21 : n0 ≤ b21 := Nat.le_trans Z0 (Nat.le_of_eq g21.symm)
  have sz_b21 : h0.size ≤ b21 := Nat.le_trans K0.1 (Nat.le_of_eq g21.symm)
  have Z22 : n0 ≤ h21.size := Nat.le_trans Z0 E21.1
  have K23 := K0.ext E21
  have F24 : Fld Z h21 b21 "java/util/Optional" "value" "Ljava/lang/Object;" .null := D21 (Or.inr (hw _ (List.mem_of_getElem? (i := 120) rfl))) (ty := (.object "java/lang/Object")) (by decide)
  have P25 : own_Pr p.tables e below S0 T21 (mkF m 3 #[.val (.ref a1)] [(.ref b21)]) := fun t k => P0 t (st21 _ k)
  have P26 : own_Pr p.tables e below S0 T21 (mkF m 5 #[.val (.ref a1)] [(.ref a1), (.ref b21), (.ref b21)]) := fun t k => P25 t (by
    refine XS.dup X21.here hx rfl (hb hby d20_3) rfl rfl ?_
    refine XS.aloadN X21.here hx rfl (hb hby d20_4) rfl rfl ?_
    exact k)
  obtain ⟨_, _, ⟨T27, L27, k27, n27⟩, -, X27, ⟨Lc27, hQ27, l27, y27, z27⟩, st27⟩ := Jvm.LawKit.callS X21 hx (y := (⟨"java/util/Objects", "requireNonNull", "(Ljava/lang/Object;)Ljava/lang/Object;"⟩ : MethodName)) hown (mvT hZ (hw _ (List.mem_of_getElem? (i := 110) rfl))) (mvT hZ (hw _ (List.mem_of_getElem? (i := 111) rfl))) (mvT hZ (hw _ (List.mem_of_getElem? (i := 112) rfl))) (mvT hZ (hw _ (List.mem_of_getElem? (i := 113) rfl))) (by decide) (backOf (W := 2) (rm21 l Z a0 hw [] a1 h21 n0 Z22) hZ (hw _ (List.mem_of_getElem? (i := 113) rfl)) (hw _ (List.mem_of_getElem? (i := 112) rfl)) (by decide) (by decide)) (g := (mkF m 5 #[.val (.ref a1)] [(.ref a1), (.ref b21), (.ref b21)])) rfl (by rw [hml]; rfl) (argsL := [(.ref a1)]) (rest := [(.ref b21), (.ref b21)]) (lenOf pd_7 rfl) rfl (by show 2 * 0 + _ ≤ _; exact Nat.le_of_eq rfl) (hb hby d20_5) (fun _ _ => ⟨rfl, e21, (by decide : 1 + 0 ≤ _), (by decide : 1 + 0 ≤ _)⟩)
  dsimp only [Pt.U, Pt.locs, Pt.cells, Pt.slots] at X27 l27 y27 z27 st27 hQ27
  rw [l27, y27, z27] at X27
  have X27 := X27.mono (cells' := 1) (slots' := 1) (by decide) (by decide)
  obtain ⟨z27v, rfl, hz27v, Nq27, eq27⟩ := hQ27
  have N27n := Fr.app N0 Nq27
  have hy27 := hz27v.symm; subst hy27
  have P28 : own_Pr p.tables e below S0 T27 (mkF m 8 #[.val (.ref a1)] [(.ref a1), (.ref b21), (.ref b21)]) := fun t k => P26 t (st27 _ k)
  obtain ⟨_, _, ⟨T29, L29, k29, n29⟩, -, X29, ⟨Lc29, hQ29, l29, y29, z29⟩, st29⟩ := X27.specialBack hx (y := (⟨"java/util/Optional", "<init>", "(Ljava/lang/Object;)V"⟩ : MethodName)) rfl hown (mvT hZ (hw _ (List.mem_of_getElem? (i := 114) rfl))) (mvT hZ (hw _ (List.mem_of_getElem? (i := 115) rfl))) (mvT hZ (hw _ (List.mem_of_getElem? (i := 117) rfl))) (by decide) (backOf (W := 1) (rm22 l Z a0 hw [] b21 a1 h21 n0 Z22 A21 F24 g_b21) hZ (hw _ (List.mem_of_getElem? (i := 117) rfl)) (hw _ (List.mem_of_getElem? (i := 106) rfl)) (by decide) (by decide)) (g := (mkF m 8 #[.val (.ref a1)] [(.ref a1), (.ref b21), (.ref b21)])) rfl (by rw [hml]; rfl) (Steps.refl _) (a := b21) (argsL := [(.ref a1)]) (rest := [(.ref b21)]) (lenOf pd_8 rfl) rfl (by show 2 * 0 + _ ≤ _; exact Nat.le_of_eq rfl) (hb hby d20_8) (fun _ _ => ⟨rfl, eq27, (by decide : 1 + 0 ≤ _), (by decide : 1 + 0 ≤ _)⟩)
  dsimp only [Pt.U, Pt.locs, Pt.cells, Pt.slots] at X29 l29 y29 z29 st29 hQ29
  rw [l29, y29, z29] at X29
  have X29 := X29.mono (cells' := 1) (slots' := 1) (by decide) (by decide)
  obtain ⟨rfl, Nq29, Kq29, Eq29, Fq29⟩ := hQ29
  have N29n := Fr.app N27n Nq29
  have K29n := K23.trans Kq29 (allS (Or.inr sz_b21) all0)
  have Z29n := Nat.le_trans Z22 Kq29.1
  have P30 : own_Pr p.tables e below S0 T29 (mkF m 11 #[.val (.ref a1)] [(.ref b21)]) := fun t k => P28 t (st29.trans k)
  obtain ⟨fs, hr, hrun, hended, hW, hsame⟩ := X29.leave (v := some (.ref b21)) (fun h => by rw [Bd.returns] at h; cases h)
  have fin : Steps p.tables e below S0 (T29.setFrames fs) := P30 _ (by
    jvm_step X29.here [X29.here.top, hx, (hb hby d20_11), X29.method', Bd.returns, Value.isRef, FieldType.isReference]
    first | (intro acts; rw [hr _ acts rfl rfl rfl]) | rw [hr _ _ rfl rfl rfl]
    exact Steps.refl _)
  rw [hS0] at fin
  refine ⟨_, _, fin, hrun, hended, _, _, rfl, ?_, ⟨_, rfl⟩, hW, hsame.mono (by decide) (by decide)⟩
  show own_QP Z (.ref a1) h0 n0 _ T29.heap _
  exact ⟨_, rfl, N29n, K29n, Eq29, Fq29⟩
theorem d25_0 : decode jdk_32_method_1_code 0 = .ok (.getstatic 1, 3) := by decide +kernel
theorem d25_3 : decode jdk_32_method_1_code 3 = .ok (.astore_n 0, 1) := by decide +kernel
theorem d25_4 : decode jdk_32_method_1_code 4 = .ok (.aload_n 0, 1) := by decide +kernel
theorem d25_5 : decode jdk_32_method_1_code 5 = .ok (.areturn, 1) := by decide +kernel
theorem ef_25 (m : MethodId)  : entryFrame m #[] 1 = mkF m 0 #[.unset] [] := by first | (simp [entryFrame, mkF, argsToLocals, Value.category]; done) | rfl
set_option maxRecDepth 65536 in
set_option maxHeartbeats 40000000 in
theorem rm25 (l : Launch) (Z : State) (a0 : Array Value) (hw : ∀ d ∈ tables_1, d.before a0 Z = true) (ws : List Jvm.Cond)  (em : Addr) (h0 : Heap) (n0 : Nat) (Z0 : n0 ≤ h0.size) (SE : Sta Z h0 "java/util/Optional" "EMPTY" "Ljava/util/Optional;" (.ref em)) :
    MetFree l (⟨"java/util/Optional", "empty", "()Ljava/util/Optional;"⟩ : MethodName) (head1 (Jvm.Cond.code (⟨"java/util/Optional", "empty", "()Ljava/util/Optional;"⟩ : MethodName) jdk_32_method_1_code 1 (some (.object "java/util/Optional")) :: ws) ({ frames := 0, cells := 0, slots := 0, locals := 0 } : Room)) (fun a U => a = #[] ∧ Z.Warmed39 U.vm ∧ U.heap = h0) (fun _ _ _ _ _ => True) (fun _ U o U' => ∃ v L, o = .returned v ∧ own_QR h0 n0 em v U'.heap L ∧ FrameEnd U o U' L ({ frames := 0, cells := 0, slots := 0, locals := 0 } : Room).cells ({ frames := 0, cells := 0, slots := 0, locals := 0 } : Room).slots) := by
  refine MetFree.of_bodySF (plainFor_of_name pn_22) hisR ?_
  intro p e s m args below meth c s₁ Bd hml0 hP hK
  obtain ⟨rfl, hZ, hh⟩ := hP
  have hx := Bd.exec
  have hby := Bd.bytes
  have hml : c.maxLocals = 1 := hml0
  have hown : s.vm.findClass "java/util/Optional" = some m.cls := findClass_of_methodNamed Bd.named
  have hnm := (name_of_methodNamed Bd.named Bd.method).1
  have X0 : Stand p l e ({ frames := 0, cells := 0, slots := 0, locals := 0 } : Room) s m #[] below meth c s₁ [] 0 0 := Stand.of_body Bd
  have e0 : s₁.heap = h0 := by rw [← hh, Bd.state]; rfl
  have N0 := Fr.nil n0
  obtain ⟨S0, hS0⟩ : ∃ z, z = s₁.setTop (entryFrame m #[] 1) := ⟨_, rfl⟩
  have P0 : own_Pr p.tables e below S0 s₁ (mkF m 0 #[.unset] []) := fun t k => hS0 ▸ castTop (ef_25 m ) k
  obtain ⟨T21, X21, e21, st21⟩ := getS2 X0 hx hZ hown (host := "") (Or.inl (hw _ (List.mem_of_getElem? (i := 135) rfl))) Via.refl e0 SE (g := (mkF m 0 #[.unset] [])) rfl (hb hby d25_0)
  have P22 : own_Pr p.tables e below S0 T21 (mkF m 3 #[.unset] [(.ref em)]) := fun t k => P0 t (st21 _ k)
  have P23 : own_Pr p.tables e below S0 T21 (mkF m 5 #[.val (.ref em)] [(.ref em)]) := fun t k => P22 t (by
    refine XS.astoreN X21.here hx rfl (hb hby d25_3) rfl rfl (l' := #[.val (.ref em)]) rfl ?_
    refine XS.aloadN X21.here hx rfl (hb hby d25_4) rfl rfl ?_
    exact k)
  obtain ⟨fs, hr, hrun, hended, hW, hsame⟩ := X21.leave (v := some (.ref em)) (fun h => by rw [Bd.returns] at h; cases h)
  have fin : Steps p.tables e below S0 (T21.setFrames fs) := P23 _ (by
    jvm_step X21.here [X21.here.top, hx, (hb hby d25_5), X21.method', Bd.returns, Value.isRef, FieldType.isReference]
    first | (intro acts; rw [hr _ acts rfl rfl rfl]) | rw [hr _ _ rfl rfl rfl]
    exact Steps.refl _)
  rw [hS0] at fin
  refine ⟨_, _, fin, hrun, hended, _, _, rfl, ?_, ⟨_, rfl⟩, hW, hsame.mono (by decide) (by decide)⟩
  show own_QR h0 n0 em _ T21.heap _
  rw [e21]
  exact ⟨_, rfl, rfl, N0, rfl⟩
theorem d23_0 : decode jdk_32_method_6_code 0 = .ok (.aload_n 0, 1) := by decide +kernel
theorem d23_1 : decode jdk_32_method_6_code 1 = .ok (.getfield 13, 3) := by decide +kernel
theorem d23_4 : decode jdk_32_method_6_code 4 = .ok (.ifnull 7, 3) := by decide +kernel
theorem d23_11 : decode jdk_32_method_6_code 11 = .ok (.iconst 0, 1) := by decide +kernel
theorem d23_12 : decode jdk_32_method_6_code 12 = .ok (.ireturn, 1) := by decide +kernel
theorem ef_23_n (m : MethodId) (a1 : Addr) : entryFrame m #[(.ref a1)] 1 = mkF m 0 #[.val (.ref a1)] [] := by first | (simp [entryFrame, mkF, argsToLocals, Value.category]; done) | rfl
set_option maxRecDepth 65536 in
set_option maxHeartbeats 40000000 in
theorem rm23_n (l : Launch) (Z : State) (a0 : Array Value) (hw : ∀ d ∈ tables_1, d.before a0 Z = true) (ws : List Jvm.Cond) (a1 : Addr) (bp : Addr) (h0 : Heap) (n0 : Nat) (Z0 : n0 ≤ h0.size) (F1 : Fld Z h0 a1 "java/util/Optional" "value" "Ljava/lang/Object;" .null) :
    MetFree l (⟨"java/util/Optional", "isPresent", "()Z"⟩ : MethodName) (head1 (Jvm.Cond.code (⟨"java/util/Optional", "isPresent", "()Z"⟩ : MethodName) jdk_32_method_6_code 1 (some .boolean) :: ws) ({ frames := 0, cells := 0, slots := 0, locals := 0 } : Room)) (fun a U => a = #[(.ref a1)] ∧ Z.Warmed39 U.vm ∧ U.heap = h0) (fun _ _ _ _ _ => True) (fun _ U o U' => ∃ v L, o = .returned v ∧ own_QI h0 n0 0 v U'.heap L ∧ FrameEnd U o U' L ({ frames := 0, cells := 0, slots := 0, locals := 0 } : Room).cells ({ frames := 0, cells := 0, slots := 0, locals := 0 } : Room).slots) := by
  refine MetFree.of_bodySF (plainFor_of_name pn_22) hisR ?_
  intro p e s m args below meth c s₁ Bd hml0 hP hK
  obtain ⟨rfl, hZ, hh⟩ := hP
  have hx := Bd.exec
  have hby := Bd.bytes
  have hml : c.maxLocals = 1 := hml0
  have hown : s.vm.findClass "java/util/Optional" = some m.cls := findClass_of_methodNamed Bd.named
  have hnm := (name_of_methodNamed Bd.named Bd.method).1
  have X0 : Stand p l e ({ frames := 0, cells := 0, slots := 0, locals := 0 } : Room) s m #[(.ref a1)] below meth c s₁ [] 0 0 := Stand.of_body Bd
  have e0 : s₁.heap = h0 := by rw [← hh, Bd.state]; rfl
  have N0 := Fr.nil n0
  obtain ⟨S0, hS0⟩ : ∃ z, z = s₁.setTop (entryFrame m #[(.ref a1)] 1) := ⟨_, rfl⟩
  have P0 : own_Pr p.tables e below S0 s₁ (mkF m 0 #[.val (.ref a1)] []) := fun t k => hS0 ▸ castTop (ef_23_n m a1) k
  have P21 : own_Pr p.tables e below S0 s₁ (mkF m 1 #[.val (.ref a1)] [(.ref a1)]) := fun t k => P0 t (by
    refine XS.aloadN X0.here hx rfl (hb hby d23_0) rfl rfl ?_
    exact k)
  obtain ⟨T22, X22, e22, st22⟩ := getF X0 hx hZ hown (host := "") (Or.inl (hw _ (List.mem_of_getElem? (i := 119) rfl))) Via.refl e0 F1 (g := (mkF m 1 #[.val (.ref a1)] [(.ref a1)])) rfl rfl (hb hby d23_1)
  have P23 : own_Pr p.tables e below S0 T22 (mkF m 4 #[.val (.ref a1)] [.null]) := fun t k => P21 t (st22 _ k)
  have P24 : own_Pr p.tables e below S0 T22 (mkF m 12 #[.val (.ref a1)] [(.int 0)]) := fun t k => P23 t (by
    refine XS.ifnullYes X22.here hx rfl (pc0 := 4) (pc' := 11) rfl (hb hby d23_4) rfl (by decide) (by decide) ?_
    refine XS.iconst X22.here hx rfl (hb hby d23_11) ?_
    exact k)
  obtain ⟨fs, hr, hrun, hended, hW, hsame⟩ := X22.leave (v := some (.int 0)) (fun h => by rw [Bd.returns] at h; cases h)
  have fin : Steps p.tables e below S0 (T22.setFrames fs) := P24 _ (retN X22 hx (t := .boolean) Bd.returns (by simp) (hb hby d23_12) hr)
  rw [hS0] at fin
  refine ⟨_, _, fin, hrun, hended, _, _, rfl, ?_, ⟨_, rfl⟩, hW, hsame.mono (by decide) (by decide)⟩
  show own_QI h0 n0 0 _ T22.heap _
  rw [e22]
  exact ⟨_, rfl, rfl, N0, rfl⟩
theorem d23_7 : decode jdk_32_method_6_code 7 = .ok (.iconst 1, 1) := by decide +kernel
theorem d23_8 : decode jdk_32_method_6_code 8 = .ok (.goto 4, 3) := by decide +kernel
theorem ef_23_p (m : MethodId) (a1 : Addr) : entryFrame m #[(.ref a1)] 1 = mkF m 0 #[.val (.ref a1)] [] := by first | (simp [entryFrame, mkF, argsToLocals, Value.category]; done) | rfl
set_option maxRecDepth 65536 in
set_option maxHeartbeats 40000000 in
theorem rm23_p (l : Launch) (Z : State) (a0 : Array Value) (hw : ∀ d ∈ tables_1, d.before a0 Z = true) (ws : List Jvm.Cond) (a1 : Addr) (bp : Addr) (h0 : Heap) (n0 : Nat) (Z0 : n0 ≤ h0.size) (F1 : Fld Z h0 a1 "java/util/Optional" "value" "Ljava/lang/Object;" (.ref bp)) :
    MetFree l (⟨"java/util/Optional", "isPresent", "()Z"⟩ : MethodName) (head1 (Jvm.Cond.code (⟨"java/util/Optional", "isPresent", "()Z"⟩ : MethodName) jdk_32_method_6_code 1 (some .boolean) :: ws) ({ frames := 0, cells := 0, slots := 0, locals := 0 } : Room)) (fun a U => a = #[(.ref a1)] ∧ Z.Warmed39 U.vm ∧ U.heap = h0) (fun _ _ _ _ _ => True) (fun _ U o U' => ∃ v L, o = .returned v ∧ own_QI h0 n0 1 v U'.heap L ∧ FrameEnd U o U' L ({ frames := 0, cells := 0, slots := 0, locals := 0 } : Room).cells ({ frames := 0, cells := 0, slots := 0, locals := 0 } : Room).slots) := by
  refine MetFree.of_bodySF (plainFor_of_name pn_22) hisR ?_
  intro p e s m args below meth c s₁ Bd hml0 hP hK
  obtain ⟨rfl, hZ, hh⟩ := hP
  have hx := Bd.exec
  have hby := Bd.bytes
  have hml : c.maxLocals = 1 := hml0
  have hown : s.vm.findClass "java/util/Optional" = some m.cls := findClass_of_methodNamed Bd.named
  have hnm := (name_of_methodNamed Bd.named Bd.method).1
  have X0 : Stand p l e ({ frames := 0, cells := 0, slots := 0, locals := 0 } : Room) s m #[(.ref a1)] below meth c s₁ [] 0 0 := Stand.of_body Bd
  have e0 : s₁.heap = h0 := by rw [← hh, Bd.state]; rfl
  have N0 := Fr.nil n0
  obtain ⟨S0, hS0⟩ : ∃ z, z = s₁.setTop (entryFrame m #[(.ref a1)] 1) := ⟨_, rfl⟩
  have P0 : own_Pr p.tables e below S0 s₁ (mkF m 0 #[.val (.ref a1)] []) := fun t k => hS0 ▸ castTop (ef_23_p m a1) k
  have P21 : own_Pr p.tables e below S0 s₁ (mkF m 1 #[.val (.ref a1)] [(.ref a1)]) := fun t k => P0 t (by
    refine XS.aloadN X0.here hx rfl (hb hby d23_0) rfl rfl ?_
    exact k)
  obtain ⟨T22, X22, e22, st22⟩ := getF X0 hx hZ hown (host := "") (Or.inl (hw _ (List.mem_of_getElem? (i := 119) rfl))) Via.refl e0 F1 (g := (mkF m 1 #[.val (.ref a1)] [(.ref a1)])) rfl rfl (hb hby d23_1)
  have P23 : own_Pr p.tables e below S0 T22 (mkF m 4 #[.val (.ref a1)] [(.ref bp)]) := fun t k => P21 t (st22 _ k)
  have P24 : own_Pr p.tables e below S0 T22 (mkF m 12 #[.val (.ref a1)] [(.int 1)]) := fun t k => P23 t (by
    refine XS.ifnullNo X22.here hx rfl (hb hby d23_4) rfl ?_
    refine XS.iconst X22.here hx rfl (hb hby d23_7) ?_
    refine XS.goto X22.here hx rfl (pc0 := 8) (pc' := 12) rfl (hb hby d23_8) (by decide) (by decide) ?_
    exact k)
  obtain ⟨fs, hr, hrun, hended, hW, hsame⟩ := X22.leave (v := some (.int 1)) (fun h => by rw [Bd.returns] at h; cases h)
  have fin : Steps p.tables e below S0 (T22.setFrames fs) := P24 _ (retN X22 hx (t := .boolean) Bd.returns (by simp) (hb hby d23_12) hr)
  rw [hS0] at fin
  refine ⟨_, _, fin, hrun, hended, _, _, rfl, ?_, ⟨_, rfl⟩, hW, hsame.mono (by decide) (by decide)⟩
  show own_QI h0 n0 1 _ T22.heap _
  rw [e22]
  exact ⟨_, rfl, rfl, N0, rfl⟩
theorem d24_0 : decode jdk_32_method_5_code 0 = .ok (.aload_n 0, 1) := by decide +kernel
theorem d24_1 : decode jdk_32_method_5_code 1 = .ok (.getfield 13, 3) := by decide +kernel
theorem d24_4 : decode jdk_32_method_5_code 4 = .ok (.ifnonnull 13, 3) := by decide +kernel
theorem d24_17 : decode jdk_32_method_5_code 17 = .ok (.aload_n 0, 1) := by decide +kernel
theorem d24_18 : decode jdk_32_method_5_code 18 = .ok (.getfield 13, 3) := by decide +kernel
theorem d24_21 : decode jdk_32_method_5_code 21 = .ok (.areturn, 1) := by decide +kernel
theorem ef_24 (m : MethodId) (a1 : Addr) : entryFrame m #[(.ref a1)] 1 = mkF m 0 #[.val (.ref a1)] [] := by first | (simp [entryFrame, mkF, argsToLocals, Value.category]; done) | rfl
set_option maxRecDepth 65536 in
set_option maxHeartbeats 40000000 in
theorem rm24 (l : Launch) (Z : State) (a0 : Array Value) (hw : ∀ d ∈ tables_1, d.before a0 Z = true) (ws : List Jvm.Cond) (a1 : Addr) (bp : Addr) (h0 : Heap) (n0 : Nat) (Z0 : n0 ≤ h0.size) (F1 : Fld Z h0 a1 "java/util/Optional" "value" "Ljava/lang/Object;" (.ref bp)) :
    MetFree l (⟨"java/util/Optional", "get", "()Ljava/lang/Object;"⟩ : MethodName) (head1 (Jvm.Cond.code (⟨"java/util/Optional", "get", "()Ljava/lang/Object;"⟩ : MethodName) jdk_32_method_5_code 1 (some (.object "java/lang/Object")) :: ws) ({ frames := 0, cells := 0, slots := 0, locals := 0 } : Room)) (fun a U => a = #[(.ref a1)] ∧ Z.Warmed39 U.vm ∧ U.heap = h0) (fun _ _ _ _ _ => True) (fun _ U o U' => ∃ v L, o = .returned v ∧ own_QR h0 n0 bp v U'.heap L ∧ FrameEnd U o U' L ({ frames := 0, cells := 0, slots := 0, locals := 0 } : Room).cells ({ frames := 0, cells := 0, slots := 0, locals := 0 } : Room).slots) := by
  refine MetFree.of_bodySF (plainFor_of_name pn_22) hisR ?_
  intro p e s m args below meth c s₁ Bd hml0 hP hK
  obtain ⟨rfl, hZ, hh⟩ := hP
  have hx := Bd.exec
  have hby := Bd.bytes
  have hml : c.maxLocals = 1 := hml0
  have hown : s.vm.findClass "java/util/Optional" = some m.cls := findClass_of_methodNamed Bd.named
  have hnm := (name_of_methodNamed Bd.named Bd.method).1
  have X0 : Stand p l e ({ frames := 0, cells := 0, slots := 0, locals := 0 } : Room) s m #[(.ref a1)] below meth c s₁ [] 0 0 := Stand.of_body Bd
  have e0 : s₁.heap = h0 := by rw [← hh, Bd.state]; rfl
  have N0 := Fr.nil n0
  obtain ⟨S0, hS0⟩ : ∃ z, z = s₁.setTop (entryFrame m #[(.ref a1)] 1) := ⟨_, rfl⟩
  have P0 : own_Pr p.tables e below S0 s₁ (mkF m 0 #[.val (.ref a1)] []) := fun t k => hS0 ▸ castTop (ef_24 m a1) k
  have P21 : own_Pr p.tables e below S0 s₁ (mkF m 1 #[.val (.ref a1)] [(.ref a1)]) := fun t k => P0 t (by
    refine XS.aloadN X0.here hx rfl (hb hby d24_0) rfl rfl ?_
    exact k)
  obtain ⟨T22, X22, e22, st22⟩ := getF X0 hx hZ hown (host := "") (Or.inl (hw _ (List.mem_of_getElem? (i := 119) rfl))) Via.refl e0 F1 (g := (mkF m 1 #[.val (.ref a1)] [(.ref a1)])) rfl rfl (hb hby d24_1)
  have P23 : own_Pr p.tables e below S0 T22 (mkF m 4 #[.val (.ref a1)] [(.ref bp)]) := fun t k => P21 t (st22 _ k)
  have P24 : own_Pr p.tables e below S0 T22 (mkF m 18 #[.val (.ref a1)] [(.ref a1)]) := fun t k => P23 t (by
    refine XS.ifnonnullYes X22.here hx rfl (pc0 := 4) (pc' := 17) rfl (hb hby d24_4) rfl (by decide) (by decide) ?_
    refine XS.aloadN X22.here hx rfl (hb hby d24_17) rfl rfl ?_
    exact k)
  obtain ⟨T25, X25, e25, st25⟩ := getF X22 hx hZ hown (host := "") (Or.inl (hw _ (List.mem_of_getElem? (i := 119) rfl))) Via.refl e22 F1 (g := (mkF m 18 #[.val (.ref a1)] [(.ref a1)])) rfl rfl (hb hby d24_18)
  have P26 : own_Pr p.tables e below S0 T25 (mkF m 21 #[.val (.ref a1)] [(.ref bp)]) := fun t k => P24 t (st25 _ k)
  obtain ⟨fs, hr, hrun, hended, hW, hsame⟩ := X25.leave (v := some (.ref bp)) (fun h => by rw [Bd.returns] at h; cases h)
  have fin : Steps p.tables e below S0 (T25.setFrames fs) := P26 _ (by
    jvm_step X25.here [X25.here.top, hx, (hb hby d24_21), X25.method', Bd.returns, Value.isRef, FieldType.isReference]
    first | (intro acts; rw [hr _ acts rfl rfl rfl]) | rw [hr _ _ rfl rfl rfl]
    exact Steps.refl _)
  rw [hS0] at fin
  refine ⟨_, _, fin, hrun, hended, _, _, rfl, ?_, ⟨_, rfl⟩, hW, hsame.mono (by decide) (by decide)⟩
  show own_QR h0 n0 bp _ T25.heap _
  rw [e25]
  exact ⟨_, rfl, rfl, N0, rfl⟩
def own_QV2 (Z : State) (cv : Cell) (h0 : Heap) (n0 : Nat) (v : Option Value) (h : Heap) (L : List Loc) : Prop := ∃ a, v = some (.ref a) ∧ Fr n0 L ∧ Keep h0 h [] ∧ Arr Z h a (cloneOf cv) (.object "com/example/firmhold/firmhold/Credentials$Permission")
theorem d17_0 : decode prog_13_method_1_code 0 = .ok (.getstatic 7, 3) := by decide +kernel
theorem d17_3 : decode prog_13_method_1_code 3 = .ok (.invokevirtual 11, 3) := by decide +kernel
theorem d17_6 : decode prog_13_method_1_code 6 = .ok (.checkcast 12, 3) := by decide +kernel
theorem d17_9 : decode prog_13_method_1_code 9 = .ok (.areturn, 1) := by decide +kernel
theorem pn_17 : plainName "com/example/firmhold/firmhold/Credentials$Permission" = true := by first | (simp [plainName, overriddenIn]; done) | decide +kernel
theorem ef_17 (m : MethodId)  : entryFrame m #[] 0 = mkF m 0 #[] [] := by first | (simp [entryFrame, mkF, argsToLocals, Value.category]; done) | rfl
set_option maxRecDepth 65536 in
set_option maxHeartbeats 40000000 in
theorem rm17 (l : Launch) (Z : State) (a0 : Array Value) (hw : ∀ d ∈ tables_1, d.before a0 Z = true) (ws : List Jvm.Cond)  (va : Addr) (cv : Cell) (h0 : Heap) (n0 : Nat) (Z0 : n0 ≤ h0.size) (SV : Sta Z h0 "com/example/firmhold/firmhold/Credentials$Permission" "$VALUES" "[Lcom/example/firmhold/firmhold/Credentials$Permission;" (.ref va)) (Aa : Arr Z h0 va cv (.object "com/example/firmhold/firmhold/Credentials$Permission")) (Ea : Exa Z h0 va "[Lcom/example/firmhold/firmhold/Credentials$Permission;") (Fa : FitC Z cv) (hsz : cv.slots.size = (1 : Int32).toNatClampNeg) :
    MetFree l (⟨"com/example/firmhold/firmhold/Credentials$Permission", "values", "()[Lcom/example/firmhold/firmhold/Credentials$Permission;"⟩ : MethodName) (head1 (Jvm.Cond.code (⟨"com/example/firmhold/firmhold/Credentials$Permission", "values", "()[Lcom/example/firmhold/firmhold/Credentials$Permission;"⟩ : MethodName) prog_13_method_1_code 0 (some (.array (.object "com/example/firmhold/firmhold/Credentials$Permission"))) :: ws) ({ frames := 1, cells := 1, slots := 1, locals := 14 } : Room)) (fun a U => a = #[] ∧ Z.Warmed39 U.vm ∧ U.heap = h0) (fun _ _ _ _ _ => True) (fun _ U o U' => ∃ v L, o = .returned v ∧ own_QV2 Z cv h0 n0 v U'.heap L ∧ FrameEnd U o U' L ({ frames := 1, cells := 1, slots := 1, locals := 14 } : Room).cells ({ frames := 1, cells := 1, slots := 1, locals := 14 } : Room).slots) := by
  refine MetFree.of_bodySF (plainFor_of_name pn_17) hisR ?_
  intro p e s m args below meth c s₁ Bd hml0 hP hK
  obtain ⟨rfl, hZ, hh⟩ := hP
  have hx := Bd.exec
  have hby := Bd.bytes
  have hml : c.maxLocals = 0 := hml0
  have hown : s.vm.findClass "com/example/firmhold/firmhold/Credentials$Permission" = some m.cls := findClass_of_methodNamed Bd.named
  have hnm := (name_of_methodNamed Bd.named Bd.method).1
  have X0 : Stand p l e ({ frames := 1, cells := 1, slots := 1, locals := 14 } : Room) s m #[] below meth c s₁ [] 0 0 := Stand.of_body Bd
  have e0 : s₁.heap = h0 := by rw [← hh, Bd.state]; rfl
  have N0 := Fr.nil n0
  obtain ⟨S0, hS0⟩ : ∃ z, z = s₁.setTop (entryFrame m #[] 0) := ⟨_, rfl⟩
  have P0 : own_Pr p.tables e below S0 s₁ (mkF m 0 #[] []) := fun t k => hS0 ▸ castTop (ef_17 m ) k
  have K0 := Keep.refl h0 []
  obtain ⟨T21, X21, e21, st21⟩ := getS2 X0 hx hZ hown (host := "") (Or.inl (hw _ (List.mem_of_getElem? (i := 80) rfl))) Via.refl e0 SV (g := (mkF m 0 #[] [])) rfl (hb hby d17_0)
  have P22 : own_Pr p.tables e below S0 T21 (mkF m 3 #[] [(.ref va)]) := fun t k => P0 t (st21 _ k)
  obtain ⟨T23, h23, X23, e23, E23, A23, Ex23, st23⟩ := cloneA X21 hx hZ hown (hw _ (List.mem_of_getElem? (i := 82) rfl)) (hw _ (List.mem_of_getElem? (i := 83) rfl)) (hw _ (List.mem_of_getElem? (i := 87) rfl)) (hw _ (List.mem_of_getElem? (i := 85) rfl)) (hw _ (List.mem_of_getElem? (i := 86) rfl)) (hw _ (List.mem_of_getElem? (i := 88) rfl)) e21 Aa Ea Fa (g := (mkF m 3 #[] [(.ref va)])) rfl (by rw [hml]; rfl) rfl (hb hby d17_3) (by decide) (W := 0) (by show 2 * 0 + _ ≤ _; exact Nat.le_of_eq rfl) (by decide) (cap := 1) (by rw [hsz]; decide) (by decide) (by decide)
  obtain ⟨b23, g23⟩ : ∃ z, z = h0.size := ⟨_, rfl⟩
  rw [← g23] at A23 Ex23 st23
  have K23n := K0.ext E23
  have P24 : own_Pr p.tables e below S0 T23 (mkF m 6 #[] [(.ref b23)]) := fun t k => P22 t (st23 _ k)
  obtain ⟨T25, X25, e25, st25⟩ := castY X23 hx hZ hown (hw _ (List.mem_of_getElem? (i := 91) rfl)) e23 (Ins.self Ex23) (g := (mkF m 6 #[] [(.ref b23)])) rfl rfl (hb hby d17_6)
  have P26 : own_Pr p.tables e below S0 T25 (mkF m 9 #[] [(.ref b23)]) := fun t k => P24 t (st25 _ k)
  obtain ⟨fs, hr, hrun, hended, hW, hsame⟩ := X25.leave (v := some (.ref b23)) (fun h => by rw [Bd.returns] at h; cases h)
  have fin : Steps p.tables e below S0 (T25.setFrames fs) := P26 _ (by
    jvm_step X25.here [X25.here.top, hx, (hb hby d17_9), X25.method', Bd.returns, Value.isRef, FieldType.isReference]
    first | (intro acts; rw [hr _ acts rfl rfl rfl]) | rw [hr _ _ rfl rfl rfl]
    exact Steps.refl _)
  rw [hS0] at fin
  refine ⟨_, _, fin, hrun, hended, _, _, rfl, ?_, ⟨_, rfl⟩, hW, hsame.mono (by decide) (by decide)⟩
  show own_QV2 Z cv h0 n0 _ T25.heap _
  rw [e25]
  exact ⟨_, rfl, N0, K23n, A23⟩
theorem own_bXS : ∀ c ∈ own_XS, ¬ c < 0 ∧ ¬ (65535 : Int32) < c := by decide
theorem d16_0 : decode prog_13_method_4_code 0 = .ok (.invokestatic 30, 3) := by decide +kernel
theorem d16_3 : decode prog_13_method_4_code 3 = .ok (.astore_n 1, 1) := by decide +kernel
theorem d16_4 : decode prog_13_method_4_code 4 = .ok (.aload_n 1, 1) := by decide +kernel
theorem d16_5 : decode prog_13_method_4_code 5 = .ok (.arraylength, 1) := by decide +kernel
theorem d16_6 : decode prog_13_method_4_code 6 = .ok (.istore_n 2, 1) := by decide +kernel
theorem d16_7 : decode prog_13_method_4_code 7 = .ok (.iconst 0, 1) := by decide +kernel
theorem d16_8 : decode prog_13_method_4_code 8 = .ok (.istore_n 3, 1) := by decide +kernel
theorem d16_9 : decode prog_13_method_4_code 9 = .ok (.iload_n 3, 1) := by decide +kernel
theorem d16_10 : decode prog_13_method_4_code 10 = .ok (.iload_n 2, 1) := by decide +kernel
theorem d16_11 : decode prog_13_method_4_code 11 = .ok (.if_icmp .ge 32, 3) := by decide +kernel
theorem d16_14 : decode prog_13_method_4_code 14 = .ok (.aload_n 1, 1) := by decide +kernel
theorem d16_15 : decode prog_13_method_4_code 15 = .ok (.iload_n 3, 1) := by decide +kernel
theorem d16_16 : decode prog_13_method_4_code 16 = .ok (.aaload, 1) := by decide +kernel
theorem d16_17 : decode prog_13_method_4_code 17 = .ok (.astore 4, 2) := by decide +kernel
theorem d16_19 : decode prog_13_method_4_code 19 = .ok (.aload 4, 2) := by decide +kernel
theorem d16_21 : decode prog_13_method_4_code 21 = .ok (.getfield 26, 3) := by decide +kernel
theorem d16_24 : decode prog_13_method_4_code 24 = .ok (.aload_n 0, 1) := by decide +kernel
theorem d16_25 : decode prog_13_method_4_code 25 = .ok (.invokevirtual 34, 3) := by decide +kernel
theorem d16_28 : decode prog_13_method_4_code 28 = .ok (.ifCond .eq 9, 3) := by decide +kernel
theorem d16_31 : decode prog_13_method_4_code 31 = .ok (.aload 4, 2) := by decide +kernel
theorem d16_33 : decode prog_13_method_4_code 33 = .ok (.invokestatic 40, 3) := by decide +kernel
theorem d16_36 : decode prog_13_method_4_code 36 = .ok (.areturn, 1) := by decide +kernel
theorem d16_37 : decode prog_13_method_4_code 37 = .ok (.iinc 3 1, 3) := by decide +kernel
theorem d16_40 : decode prog_13_method_4_code 40 = .ok (.goto (-31), 3) := by decide +kernel
theorem d16_43 : decode prog_13_method_4_code 43 = .ok (.invokestatic 46, 3) := by decide +kernel
theorem d16_46 : decode prog_13_method_4_code 46 = .ok (.areturn, 1) := by decide +kernel
theorem pd_9 : parseMethodDescriptor "()[Lcom/example/firmhold/firmhold/Credentials$Permission;" = some ⟨[], some (.array (.object "com/example/firmhold/firmhold/Credentials$Permission"))⟩ := by decide +kernel
theorem pd_10 : parseMethodDescriptor "(Ljava/lang/Object;)Z" = some ⟨[(.object "java/lang/Object")], some .boolean⟩ := by decide +kernel
theorem pd_11 : parseMethodDescriptor "(Ljava/lang/Object;)Ljava/util/Optional;" = some ⟨[(.object "java/lang/Object")], some (.object "java/util/Optional")⟩ := by decide +kernel
theorem pd_12 : parseMethodDescriptor "()Ljava/util/Optional;" = some ⟨[], some (.object "java/util/Optional")⟩ := by decide +kernel
theorem ef_16 (m : MethodId) (a1 : Addr) : entryFrame m #[(.ref a1)] 5 = mkF m 0 #[.val (.ref a1), .unset, .unset, .unset, .unset] [] := by first | (simp [entryFrame, mkF, argsToLocals, Value.category]; done) | rfl
set_option maxRecDepth 65536 in
set_option maxHeartbeats 40000000 in
theorem rm16 (l : Launch) (Z : State) (a0 : Array Value) (hw : ∀ d ∈ tables_1, d.before a0 Z = true) (ws : List Jvm.Cond) (a1 : Addr) (va bp fs em : Addr) (cv : Cell) (cs : Int32) (n : Int32) (us : List Int32) (h0 : Heap) (n0 : Nat) (Z0 : n0 ≤ h0.size) (SV : Sta Z h0 "com/example/firmhold/firmhold/Credentials$Permission" "$VALUES" "[Lcom/example/firmhold/firmhold/Credentials$Permission;" (.ref va)) (Aa : Arr Z h0 va cv (.object "com/example/firmhold/firmhold/Credentials$Permission")) (Ea : Exa Z h0 va "[Lcom/example/firmhold/firmhold/Credentials$Permission;") (Fa : FitC Z cv) (hsz : cv.slots.size = (1 : Int32).toNatClampNeg) (hel : cv.slots[(0 : Int32).toNatClampNeg]? = some (.ref bp)) (Eb : Exa Z h0 bp "com/example/firmhold/firmhold/Credentials$Permission") (Fb : Fld Z h0 bp "com/example/firmhold/firmhold/Credentials$Permission" "fileName" "Ljava/lang/String;" (.ref fs)) (Sf : own_Sc Z h0 fs 17 own_XS) (Ee : Exa Z h0 em "java/util/Optional") (Fe : Fld Z h0 em "java/util/Optional" "value" "Ljava/lang/Object;" .null) (SE : Sta Z h0 "java/util/Optional" "EMPTY" "Ljava/util/Optional;" (.ref em)) (Sb : own_Sc Z h0 a1 n (us.map StrChars.lo8)) (hnn : Int32.ofNat us.length = n) (hbb : ∀ c ∈ us, ¬ (255 : Int32) < c) (hbw : ∀ c ∈ us, ¬ c < 0 ∧ ¬ (65535 : Int32) < c) (hlen : us.length ≤ 4000) (CS : Sta Z h0 "java/lang/String" "COMPACT_STRINGS" "Z" (.int cs)) (hcs : ¬ cs = (0 : Int32)) :
    MetFree l (⟨"com/example/firmhold/firmhold/Credentials$Permission", "named", "(Ljava/lang/String;)Ljava/util/Optional;"⟩ : MethodName) (head1 (Jvm.Cond.code (⟨"com/example/firmhold/firmhold/Credentials$Permission", "named", "(Ljava/lang/String;)Ljava/util/Optional;"⟩ : MethodName) prog_13_method_4_code 5 (some (.object "java/util/Optional")) :: ws) ({ frames := 3, cells := 2, slots := 2, locals := 38 } : Room)) (fun a U => a = #[(.ref a1)] ∧ Z.Warmed39 U.vm ∧ U.heap = h0) (fun _ _ _ _ _ => True) (fun _ U o U' => ∃ v L, o = .returned v ∧ own_QP Z (if own_XS = us then .ref bp else .null) h0 n0 v U'.heap L ∧ FrameEnd U o U' L ({ frames := 3, cells := 2, slots := 2, locals := 38 } : Room).cells ({ frames := 3, cells := 2, slots := 2, locals := 38 } : Room).slots) := by
  refine MetFree.of_bodySF (plainFor_of_name pn_17) hisR ?_
  intro p e s m args below meth c s₁ Bd hml0 hP hK
  obtain ⟨rfl, hZ, hh⟩ := hP
  have hx := Bd.exec
  have hby := Bd.bytes
  have hml : c.maxLocals = 5 := hml0
  have hown : s.vm.findClass "com/example/firmhold/firmhold/Credentials$Permission" = some m.cls := findClass_of_methodNamed Bd.named
  have hnm := (name_of_methodNamed Bd.named Bd.method).1
  have X0 : Stand p l e ({ frames := 3, cells := 2, slots := 2, locals := 38 } : Room) s m #[(.ref a1)] below meth c s₁ [] 0 0 := Stand.of_body Bd
  have e0 : s₁.heap = h0 := by rw [← hh, Bd.state]; rfl
  have N0 := Fr.nil n0
  obtain ⟨S0, hS0⟩ : ∃ z, z = s₁.setTop (entryFrame m #[(.ref a1)] 5) := ⟨_, rfl⟩
  have P0 : own_Pr p.tables e below S0 s₁ (mkF m 0 #[.val (.ref a1), .unset, .unset, .unset, .unset] []) := fun t k => hS0 ▸ castTop (ef_16 m a1) k
  have K0 := Keep.refl h0 []
  have Ef := Sf.exa
  obtain ⟨_, _, ⟨T21, L21, k21, n21⟩, -, X21, ⟨Lc21, hQ21, l21, y21, z21⟩, st21⟩ := Jvm.LawKit.callS X0 hx (y := (⟨"com/example/firmhold/firmhold/Credentials$Permission", "values", "()[Lcom/example/firmhold/firmhold/Credentials$Permission;"⟩ : MethodName)) hown (mvT hZ (hw _ (List.mem_of_getElem? (i := 77) rfl))) (mvT hZ (hw _ (List.mem_of_getElem? (i := 78) rfl))) (mvT hZ (hw _ (List.mem_of_getElem? (i := 75) rfl))) (mvT hZ (hw _ (List.mem_of_getElem? (i := 79) rfl))) (by decide) (backOf (W := 0) (rm17 l Z a0 hw [] va cv h0 n0 Z0 SV Aa Ea Fa hsz) hZ (hw _ (List.mem_of_getElem? (i := 79) rfl)) (hw _ (List.mem_of_getElem? (i := 75) rfl)) (by decide) (by decide)) (g := (mkF m 0 #[.val (.ref a1), .unset, .unset, .unset, .unset] [])) rfl (by rw [hml]; rfl) (argsL := []) (rest := []) (lenOf pd_9 rfl) rfl (by show 2 * 0 + _ ≤ _; exact Nat.le_of_eq rfl) (hb hby d16_0) (fun _ _ => ⟨rfl, e0, (by decide : 0 + 1 ≤ _), (by decide : 0 + 1 ≤ _)⟩)
  dsimp only [Pt.U, Pt.locs, Pt.cells, Pt.slots] at X21 l21 y21 z21 st21 hQ21
  rw [l21, y21, z21] at X21
  have X21 := X21.mono (cells' := 1) (slots' := 1) (by decide) (by decide)
  obtain ⟨s21, rfl, Nq21, Kq21, Aq21⟩ := hQ21
  have N21n := Fr.app N0 Nq21
  have F22 := own_sta_keep0 CS Kq21
  have F23 := own_sta_keep0 SE Kq21
  have F24 := Eb.keep Kq21
  have F25 := Fb.keep Kq21 nin0
  have F26 := Ef.keep Kq21
  have F27 := Sf.keep0 Kq21
  have F28 := Sb.keep0 Kq21
  have F29 := Ee.keep Kq21
  have F30 := Fe.keep Kq21 nin0
  have Z31 := Nat.le_trans Z0 Kq21.1
  have K32 := K0.trans Kq21 all0
  have P33 : own_Pr p.tables e below S0 T21 (mkF m 3 #[.val (.ref a1), .unset, .unset, .unset, .unset] [(.ref s21)]) := fun t k => P0 t (st21 _ k)
  have P34 : own_Pr p.tables e below S0 T21 (mkF m 5 #[.val (.ref a1), .val (.ref s21), .unset, .unset, .unset] [(.ref s21)]) := fun t k => P33 t (by
    refine XS.astoreN X21.here hx rfl (hb hby d16_3) rfl rfl (l' := #[.val (.ref a1), .val (.ref s21), .unset, .unset, .unset]) rfl ?_
    refine XS.aloadN X21.here hx rfl (hb hby d16_4) rfl rfl ?_
    exact k)
  have P36 : own_Pr p.tables e below S0 T21 (mkF m 16 #[.val (.ref a1), .val (.ref s21), .val (.int 1), .val (.int 0), .unset] [(.int 0), (.ref s21)]) := fun t k => P34 t (by
    refine X21.arraylength hx (by exact Aq21.1) (State.isArrayOf_alike hZ.alike Aq21.2.1) (g := (mkF m 5 #[.val (.ref a1), .val (.ref s21), .unset, .unset, .unset] [(.ref s21)])) rfl rfl (hb hby d16_5) _ ?_
    rw [len_of (z := (1 : Int32)) hsz (by decide)]
    show Steps p.tables e below (T21.setTop (mkF m 6 #[.val (.ref a1), .val (.ref s21), .unset, .unset, .unset] [(.int 1)])) _
    refine XS.istoreN X21.here hx rfl (hb hby d16_6) rfl (l' := #[.val (.ref a1), .val (.ref s21), .val (.int 1), .unset, .unset]) rfl ?_
    refine XS.iconst X21.here hx rfl (hb hby d16_7) ?_
    refine XS.istoreN X21.here hx rfl (hb hby d16_8) rfl (l' := #[.val (.ref a1), .val (.ref s21), .val (.int 1), .val (.int 0), .unset]) rfl ?_
    refine XS.iloadN X21.here hx rfl (hb hby d16_9) rfl ?_
    refine XS.iloadN X21.here hx rfl (hb hby d16_10) rfl ?_
    refine XS.icmpNo X21.here hx rfl (hb hby d16_11) rfl (by decide) ?_
    refine XS.aloadN X21.here hx rfl (hb hby d16_14) rfl rfl ?_
    refine XS.iloadN X21.here hx rfl (hb hby d16_15) rfl ?_
    exact k)
  have hin37 := inb_of (j := (0 : Int32)) (z := (1 : Int32)) hsz ⟨by decide, by decide⟩
  have P38 : own_Pr p.tables e below S0 T21 (mkF m 21 #[.val (.ref a1), .val (.ref s21), .val (.int 1), .val (.int 0), .val (.ref bp)] [(.ref bp)]) := fun t k => P36 t (by
    refine X21.aaload hx (j := (0 : Int32)) (v := (.ref bp)) (by exact Aq21.1) (State.isArrayOf_alike hZ.alike Aq21.2.1) rfl Aq21.2.2 hin37 hel (g := (mkF m 16 #[.val (.ref a1), .val (.ref s21), .val (.int 1), .val (.int 0), .unset] [(.int 0), (.ref s21)])) rfl rfl (hb hby d16_16) _ ?_
    refine XS.astore X21.here hx rfl (hb hby d16_17) rfl rfl (l' := #[.val (.ref a1), .val (.ref s21), .val (.int 1), .val (.int 0), .val (.ref bp)]) rfl ?_
    refine XS.aload X21.here hx rfl (hb hby d16_19) rfl rfl ?_
    exact k)
  obtain ⟨T39, X39, e39, st39⟩ := getF X21 hx hZ hown (host := "") (Or.inl (hw _ (List.mem_of_getElem? (i := 93) rfl))) Via.refl rfl F25 (g := (mkF m 21 #[.val (.ref a1), .val (.ref s21), .val (.int 1), .val (.int 0), .val (.ref bp)] [(.ref bp)])) rfl rfl (hb hby d16_21)
  have P40 : own_Pr p.tables e below S0 T39 (mkF m 24 #[.val (.ref a1), .val (.ref s21), .val (.int 1), .val (.int 0), .val (.ref bp)] [(.ref fs)]) := fun t k => P38 t (st39 _ k)
  have P41 : own_Pr p.tables e below S0 T39 (mkF m 25 #[.val (.ref a1), .val (.ref s21), .val (.int 1), .val (.int 0), .val (.ref bp)] [(.ref a1), (.ref fs)]) := fun t k => P40 t (by
    refine XS.aloadN X39.here hx rfl (hb hby d16_24) rfl rfl ?_
    exact k)
  obtain ⟨fb43, fk43, fE43, fC43, fV43, fA43⟩ := id F27
  obtain ⟨gb43, gk43, gE43, gC43, gV43, gA43⟩ := id F28
  obtain ⟨cq42, kq42, q42a, q42b, q42c⟩ := isOf hZ e39 F26
  obtain ⟨_, _, ⟨T42, L42, k42, n42⟩, -, X42, ⟨Lc42, hQ42, l42, y42, z42⟩, st42⟩ := X39.virtualBack hx (y := (⟨"java/lang/String", "equals", "(Ljava/lang/Object;)Z"⟩ : MethodName)) (z := (⟨"java/lang/String", "equals", "(Ljava/lang/Object;)Z"⟩ : MethodName)) hown (mvT hZ (hw _ (List.mem_of_getElem? (i := 95) rfl))) (mvT hZ (hw _ (List.mem_of_getElem? (i := 96) rfl))) (notFace_of_selects (args := #[]) (mvT hZ (hw _ (List.mem_of_getElem? (i := 98) rfl)))) (mvT hZ (hw _ (List.mem_of_getElem? (i := 98) rfl))) (mvT hZ (hw _ (List.mem_of_getElem? (i := 97) rfl))) (by decide) (StrChars.Road.eqW (W := 0) hZ (own_wE hw) (hw _ (List.mem_of_getElem? (i := 7) rfl)) fE43 fV43 fC43 fA43 own_cXS own_bXS (by decide) gE43 gV43 gC43 gA43 (hnn ▸ StrChars.Road.codOf rfl hbb) hbw hlen F22 hcs (by decide) (by decide)) q42a q42c (g := (mkF m 25 #[.val (.ref a1), .val (.ref s21), .val (.int 1), .val (.int 0), .val (.ref bp)] [(.ref a1), (.ref fs)])) rfl (by rw [hml]; rfl) (Steps.refl _) (argsL := [(.ref a1)]) (rest := []) (lenOf pd_10 rfl) rfl (by show 2 * 0 + _ ≤ _; exact Nat.le_of_eq rfl) (hb hby d16_25) (fun _ _ => ⟨rfl, e39, (by decide : 1 + 0 ≤ _), (by decide : 1 + 0 ≤ _)⟩)
  dsimp only [Pt.U, Pt.locs, Pt.cells, Pt.slots] at X42 l42 y42 z42 st42 hQ42
  rw [l42, y42, z42] at X42
  have X42 := X42.mono (cells' := 1) (slots' := 1) (by decide) (by decide)
  obtain ⟨hq42, rfl, eq42⟩ := hQ42
  have N42n := Fr.app N21n (Fr.nil n0)
  rcases hq42 with ⟨rfl, hE⟩ | ⟨rfl, hE⟩
  · have _u := hE
    have P44 : own_Pr p.tables e below S0 T42 (mkF m 28 #[.val (.ref a1), .val (.ref s21), .val (.int 1), .val (.int 0), .val (.ref bp)] [(.int 1)]) := fun t k => P41 t (st42.trans k)
    have P45 : own_Pr p.tables e below S0 T42 (mkF m 33 #[.val (.ref a1), .val (.ref s21), .val (.int 1), .val (.int 0), .val (.ref bp)] [(.ref bp)]) := fun t k => P44 t (by
      refine XS.ifNo X42.here hx rfl (hb hby d16_28) rfl (by decide) ?_
      refine XS.aload X42.here hx rfl (hb hby d16_31) rfl rfl ?_
      exact k)
    obtain ⟨_, _, ⟨T46, L46, k46, n46⟩, -, X46, ⟨Lc46, hQ46, l46, y46, z46⟩, st46⟩ := Jvm.LawKit.callS X42 hx (y := (⟨"java/util/Optional", "of", "(Ljava/lang/Object;)Ljava/util/Optional;"⟩ : MethodName)) hown (mvT hZ (hw _ (List.mem_of_getElem? (i := 104) rfl))) (mvT hZ (hw _ (List.mem_of_getElem? (i := 105) rfl))) (mvT hZ (hw _ (List.mem_of_getElem? (i := 106) rfl))) (mvT hZ (hw _ (List.mem_of_getElem? (i := 107) rfl))) (by decide) (backOf (W := 0) (rm20 l Z a0 hw [] bp T21.heap n0 Z31) hZ (hw _ (List.mem_of_getElem? (i := 107) rfl)) (hw _ (List.mem_of_getElem? (i := 106) rfl)) (by decide) (by decide)) (g := (mkF m 33 #[.val (.ref a1), .val (.ref s21), .val (.int 1), .val (.int 0), .val (.ref bp)] [(.ref bp)])) rfl (by rw [hml]; rfl) (argsL := [(.ref bp)]) (rest := []) (lenOf pd_11 rfl) rfl (by show 2 * 0 + _ ≤ _; exact Nat.le_of_eq rfl) (hb hby d16_33) (fun _ _ => ⟨rfl, eq42, (by decide : 1 + 1 ≤ _), (by decide : 1 + 1 ≤ _)⟩)
    dsimp only [Pt.U, Pt.locs, Pt.cells, Pt.slots] at X46 l46 y46 z46 st46 hQ46
    rw [l46, y46, z46] at X46
    have X46 := X46.mono (cells' := 2) (slots' := 2) (by decide) (by decide)
    obtain ⟨s46, rfl, Nq46, Kq46, Eq46, Fq46⟩ := hQ46
    have N46n := Fr.app N42n Nq46
    have F47 := own_sta_keep0 F22 Kq46
    have F48 := own_sta_keep0 F23 Kq46
    have F49 := F24.keep Kq46
    have F50 := F25.keep Kq46 nin0
    have F51 := F26.keep Kq46
    have F52 := F27.keep0 Kq46
    have F53 := F28.keep0 Kq46
    have F54 := F29.keep Kq46
    have F55 := F30.keep Kq46 nin0
    have F56 : Arr Z _ s21 (cloneOf cv) _ := ⟨Kq46.2.1 _ _ Aq21.1 nin0, Aq21.2⟩
    have Z57 := Nat.le_trans Z31 Kq46.1
    have K58 := K32.trans Kq46 all0
    have P59 : own_Pr p.tables e below S0 T46 (mkF m 36 #[.val (.ref a1), .val (.ref s21), .val (.int 1), .val (.int 0), .val (.ref bp)] [(.ref s46)]) := fun t k => P45 t (st46 _ k)
    obtain ⟨fs, hr, hrun, hended, hW, hsame⟩ := X46.leave (v := some (.ref s46)) (fun h => by rw [Bd.returns] at h; cases h)
    have fin : Steps p.tables e below S0 (T46.setFrames fs) := P59 _ (by
      jvm_step X46.here [X46.here.top, hx, (hb hby d16_36), X46.method', Bd.returns, Value.isRef, FieldType.isReference]
      first | (intro acts; rw [hr _ acts rfl rfl rfl]) | rw [hr _ _ rfl rfl rfl]
      exact Steps.refl _)
    rw [hS0] at fin
    refine ⟨_, _, fin, hrun, hended, _, _, rfl, ?_, ⟨_, rfl⟩, hW, hsame.mono (by decide) (by decide)⟩
    show own_QP Z (if own_XS = us then .ref bp else .null) h0 n0 _ T46.heap _
    exact ⟨_, rfl, N46n, K58, Eq46, by rw [if_pos hE]; exact Fq46⟩
  · have _u := hE
    have P60 : own_Pr p.tables e below S0 T42 (mkF m 28 #[.val (.ref a1), .val (.ref s21), .val (.int 1), .val (.int 0), .val (.ref bp)] [(.int 0)]) := fun t k => P41 t (st42.trans k)
    have P61 : own_Pr p.tables e below S0 T42 (mkF m 43 #[.val (.ref a1), .val (.ref s21), .val (.int 1), .val (.int 1), .val (.ref bp)] []) := fun t k => P60 t (by
      refine XS.ifYes X42.here hx rfl (pc0 := 28) (pc' := 37) rfl (hb hby d16_28) rfl (by decide) (by decide) (by decide) ?_
      refine XS.iinc X42.here hx rfl (hb hby d16_37) rfl (l' := #[.val (.ref a1), .val (.ref s21), .val (.int 1), .val (.int 1), .val (.ref bp)]) rfl ?_
      refine XS.goto X42.here hx rfl (pc0 := 40) (pc' := 9) rfl (hb hby d16_40) (by decide) (by decide) ?_
      refine XS.iloadN X42.here hx rfl (hb hby d16_9) rfl ?_
      refine XS.iloadN X42.here hx rfl (hb hby d16_10) rfl ?_
      refine XS.icmpYes X42.here hx rfl (pc0 := 11) (pc' := 43) rfl (hb hby d16_11) rfl (by decide) (by decide) (by decide) ?_
      exact k)
    obtain ⟨_, _, ⟨T62, L62, k62, n62⟩, -, X62, ⟨Lc62, hQ62, l62, y62, z62⟩, st62⟩ := Jvm.LawKit.callS X42 hx (y := (⟨"java/util/Optional", "empty", "()Ljava/util/Optional;"⟩ : MethodName)) hown (mvT hZ (hw _ (List.mem_of_getElem? (i := 132) rfl))) (mvT hZ (hw _ (List.mem_of_getElem? (i := 133) rfl))) (mvT hZ (hw _ (List.mem_of_getElem? (i := 106) rfl))) (mvT hZ (hw _ (List.mem_of_getElem? (i := 134) rfl))) (by decide) (backOf (W := 0) (rm25 l Z a0 hw [] em T21.heap n0 Z31 F23) hZ (hw _ (List.mem_of_getElem? (i := 134) rfl)) (hw _ (List.mem_of_getElem? (i := 106) rfl)) (by decide) (by decide)) (g := (mkF m 43 #[.val (.ref a1), .val (.ref s21), .val (.int 1), .val (.int 1), .val (.ref bp)] [])) rfl (by rw [hml]; rfl) (argsL := []) (rest := []) (lenOf pd_12 rfl) rfl (by show 2 * 0 + _ ≤ _; exact Nat.le_of_eq rfl) (hb hby d16_43) (fun _ _ => ⟨rfl, eq42, (by decide : 1 + 0 ≤ _), (by decide : 1 + 0 ≤ _)⟩)
    dsimp only [Pt.U, Pt.locs, Pt.cells, Pt.slots] at X62 l62 y62 z62 st62 hQ62
    rw [l62, y62, z62] at X62
    have X62 := X62.mono (cells' := 1) (slots' := 1) (by decide) (by decide)
    obtain ⟨z62v, rfl, hz62v, Nq62, eq62⟩ := hQ62
    have N62n := Fr.app N42n Nq62
    have hy62 := hz62v.symm; subst hy62
    have P63 : own_Pr p.tables e below S0 T62 (mkF m 46 #[.val (.ref a1), .val (.ref s21), .val (.int 1), .val (.int 1), .val (.ref bp)] [(.ref em)]) := fun t k => P61 t (st62 _ k)
    obtain ⟨fs, hr, hrun, hended, hW, hsame⟩ := X62.leave (v := some (.ref em)) (fun h => by rw [Bd.returns] at h; cases h)
    have fin : Steps p.tables e below S0 (T62.setFrames fs) := P63 _ (by
      jvm_step X62.here [X62.here.top, hx, (hb hby d16_46), X62.method', Bd.returns, Value.isRef, FieldType.isReference]
      first | (intro acts; rw [hr _ acts rfl rfl rfl]) | rw [hr _ _ rfl rfl rfl]
      exact Steps.refl _)
    rw [hS0] at fin
    refine ⟨_, _, fin, hrun, hended, _, _, rfl, ?_, ⟨_, rfl⟩, hW, hsame.mono (by decide) (by decide)⟩
    show own_QP Z (if own_XS = us then .ref bp else .null) h0 n0 _ T62.heap _
    rw [eq62]
    exact ⟨_, rfl, N62n, K32, F29, by rw [if_neg hE]; exact F30⟩
theorem own_safeNull {Z : State} {EL : List (String × Nat)} {vm : Vm} {h : Heap} {x : Addr} (hal : Z.vm.Alike vm) (E : Exa Z h x "java/lang/String") (F : Fld Z h x "java/lang/String" "value" "[B" .null) : Safe Z EL vm h x := fun B => by
  obtain ⟨p, -, u, a, -, q, -, G, rfl | rfl⟩ := B
  · obtain ⟨cS, ⟨⟨s1, s2, s3, ⟨cv, kv, iv, s4, s4'⟩, s5, s6, s7, s8, -⟩, -, -⟩, -⟩ := G
    obtain ⟨kv', z4⟩ := ff_back (U := Wst Z vm h) hal s4
    obtain ⟨c1, _, _, _, f1, g1, g2, -, -, -, -, g7⟩ := F
    cases (show h[q.sa]? = some q.sC from s1).symm.trans g1
    cases z4.symm.trans g2
    have t := s8.symm.trans g7
    cases (Option.some.inj t)
  · obtain ⟨cell, k, e1, e2, e3, -, -⟩ := E
    cases (show h[q.sd]? = some q.SA from G.hd).symm.trans e1
    obtain ⟨cS, -, -, f, -⟩ := G
    have f' : vm.findClass "[B" = some q.SA.cls := f
    rw [hal.findClass] at f'
    obtain ⟨k1, q1, q2⟩ := Vm.findClass_spec f'
    obtain ⟨k2, q3, q4⟩ := Vm.findClass_spec e2
    cases q1.symm.trans q3
    exact absurd (q2.symm.trans q4) (by decide)
theorem own_nn {u : Int32} (h : nar .char u = u) : ¬ u < 0 := by
  have q := c_i2c u
  have e : (u.toUInt32.toUInt16.toUInt32.toInt32) = u := h
  have e0 : (0 : Int32).toInt = 0 := rfl
  rw [e] at q
  rw [Int32.lt_iff_toInt_lt, e0]; omega
theorem own_255 {c : Int32} (h : ¬ (255 : Int32) < c) : ¬ (65535 : Int32) < c := by
  have e : (255 : Int32).toInt = 255 := rfl
  have e2 : (65535 : Int32).toInt = 65535 := rfl
  rw [Int32.lt_iff_toInt_lt, e] at h; rw [Int32.lt_iff_toInt_lt, e2]; omega
theorem own_lenNe {us : List Int32} {n : Nat} (e : us.length = n) (h : ¬ 17 = n) : ¬ own_XS = us := fun q => h ((congrArg List.length q).trans e)
theorem own_al {P : Int32 → Prop} {a : Int32} {l : List Int32} (h : P a) (t : ∀ c ∈ l, P c) : ∀ c ∈ a :: l, P c := List.forall_mem_cons.mpr ⟨h, t⟩
theorem own_neArv {Z : State} {h : Heap} {a b : Addr} {k k' : ClassId} {n n' : Int32} {vs vs' : List Value} {d d' : Value} (A : Arv Z h a k .byte n vs d) (A' : Arv Z h b k' .char n' vs' d') : a ≠ b := fun e => by
  subst e
  obtain ⟨c1, ⟨g1, g2, -⟩, -⟩ := A
  obtain ⟨c2, ⟨g3, g4, -⟩, -⟩ := A'
  cases g1.symm.trans g3
  obtain ⟨-, k1, hk1, c1', hkind1⟩ := g2
  obtain ⟨-, k2, hk2, c2', hkind2⟩ := g4
  cases hk1.symm.trans hk2
  have t := hkind1.symm.trans hkind2
  injection t with _ t
  cases t
theorem own_Sc.wrC {Z : State} {h h' : Heap} {a x : Addr} {n m : Int32} {xs : List Int32} {k : ClassId} {j sl : Nat} {u d : Value} {vs : List Value} {a0 : Array Value} (S : own_Sc Z h a n xs) (W : Wr h h' x sl u) (A : Arv Z h x k .char m vs d) (w : (Cond.instantiable "java/lang/String" j).before a0 Z = true) : own_Sc Z h' a n xs := by
  obtain ⟨b, kb, e, c, v, B⟩ := S
  have n1 : a ≠ x := Exa.neArv e A w
  have n2 : b ≠ x := own_neArv B A
  exact ⟨b, kb, e.wr W, c.other W (Or.inl n1), v.other W (Or.inl n1), B.other W n2⟩
theorem own_nz {m z : Int32} (h : z = if m = (1 : Int32) then (18 : Int32) else (17 : Int32)) : z ≠ 0 := by
  rw [h]; split <;> decide
theorem own_012 (p q : Int32) : (¬ (0 : Int32) = p ∧ ¬ (0 : Int32) = q) ∨ (¬ (1 : Int32) = p ∧ ¬ (1 : Int32) = q) ∨ (¬ (2 : Int32) = p ∧ ¬ (2 : Int32) = q) := by
  by_cases a : (0 : Int32) = p
  · subst a
    by_cases b : (1 : Int32) = q
    · subst b; exact Or.inr (Or.inr ⟨by decide, by decide⟩)
    · exact Or.inr (Or.inl ⟨by decide, b⟩)
  · by_cases b : (0 : Int32) = q
    · subst b
      by_cases c : (1 : Int32) = p
      · subst c; exact Or.inr (Or.inr ⟨by decide, by decide⟩)
      · exact Or.inr (Or.inl ⟨c, by decide⟩)
    · exact Or.inl ⟨a, b⟩
theorem own_atN {m i p c q d : Int32} (hc : nar .char c = c) (hd : nar .char d = d) : nar .char (own_at m i p c q d) = own_at m i p c q d := by
  unfold own_at
  repeat' split
  all_goals first | exact hc | exact hd | exact own_nmN _
theorem own_nmL (i : Int32) : ¬ (255 : Int32) < own_nm i := by
  have e : (255 : Int32).toInt = 255 := rfl
  unfold own_nm
  by_cases h : i < (0 : Int32)
  · rw [if_pos h]; decide
  · rw [if_neg h]
    by_cases h' : i < (17 : Int32)
    · rw [if_pos h']
      have q := c_and (own_XS.getD i.toNatClampNeg 0) 255 (by decide)
      rw [Int32.lt_iff_toInt_lt, e]; rw [e] at q; omega
    · rw [if_neg h']; decide
theorem own_atL {m i p c q d : Int32} (hc : ¬ (255 : Int32) < c) (hd : ¬ (255 : Int32) < d) : ¬ (255 : Int32) < own_at m i p c q d := by
  unfold own_at
  repeat' split
  all_goals first | exact hc | exact hd | exact own_nmL _
theorem own_cch {x p z : Int32} (h : z = if (x &&& (256 : Int32)) = (0 : Int32) then own_nm p else ((x &&& (255 : Int32)).toUInt32.toUInt16.toUInt32.toInt32)) : nar .char z = z ∧ ¬ (255 : Int32) < z := by
  rw [h]
  split
  · exact ⟨own_nmN _, own_nmL _⟩
  · refine ⟨own_narC _, ?_⟩
    have e : (255 : Int32).toInt = 255 := rfl
    rw [show ((x &&& (255 : Int32)).toUInt32.toUInt16.toUInt32.toInt32) = nar .char (x &&& 255) from rfl, own_nar255]
    have q := c_and x 255 (by decide)
    rw [Int32.lt_iff_toInt_lt, e]; rw [e] at q; omega
theorem own_Sc.lts {Z : State} {h : Heap} {a : Addr} {n : Int32} {xs : List Int32} (S : own_Sc Z h a n xs) : ∃ b, Fld Z h a "java/lang/String" "value" "[B" (.ref b) ∧ a < h.size ∧ b < h.size := by
  obtain ⟨b, k, e, c, v, A⟩ := S
  exact ⟨b, v, e.lt, A.lt⟩
theorem own_m4 {x m : Int32} (hm : m = (x &&& (3 : Int32))) (h0 : ¬ m = (0 : Int32)) (h1 : ¬ m = (1 : Int32)) (h2 : ¬ m = (2 : Int32)) (h3 : ¬ m = (3 : Int32)) : False := by
  have q := c_and x 3 (by decide)
  rw [← hm] at q
  have e : (3 : Int32).toInt = 3 := rfl
  rw [e] at q
  have n0 : ¬ m.toInt = 0 := fun k => h0 (Int32.toInt_inj.mp (k.trans rfl))
  have n1 : ¬ m.toInt = 1 := fun k => h1 (Int32.toInt_inj.mp (k.trans rfl))
  have n2 : ¬ m.toInt = 2 := fun k => h2 (Int32.toInt_inj.mp (k.trans rfl))
  have n3 : ¬ m.toInt = 3 := fun k => h3 (Int32.toInt_inj.mp (k.trans rfl))
  omega
/-- a rest by 17 is one of 17 -/
theorem own_17 {x p : Int32} (hp : p = (x &&& (2147483647 : Int32)) % (17 : Int32)) : p = (0 : Int32) ∨ p = (1 : Int32) ∨ p = (2 : Int32) ∨ p = (3 : Int32) ∨ p = (4 : Int32) ∨ p = (5 : Int32) ∨ p = (6 : Int32) ∨ p = (7 : Int32) ∨ p = (8 : Int32) ∨ p = (9 : Int32) ∨ p = (10 : Int32) ∨ p = (11 : Int32) ∨ p = (12 : Int32) ∨ p = (13 : Int32) ∨ p = (14 : Int32) ∨ p = (15 : Int32) ∨ p = (16 : Int32) := by
  have q := c_and x 2147483647 (by decide)
  have e : p.toInt = (x &&& (2147483647 : Int32)).toInt.tmod 17 := by rw [hp, Int32.toInt_mod]; rfl
  have t := Int.tmod_eq_emod_of_nonneg (a := (x &&& (2147483647 : Int32)).toInt) (b := 17) q.1
  rw [t] at e
  have : p.toInt = 0 ∨ p.toInt = 1 ∨ p.toInt = 2 ∨ p.toInt = 3 ∨ p.toInt = 4 ∨ p.toInt = 5 ∨ p.toInt = 6 ∨ p.toInt = 7 ∨ p.toInt = 8 ∨ p.toInt = 9 ∨ p.toInt = 10 ∨ p.toInt = 11 ∨ p.toInt = 12 ∨ p.toInt = 13 ∨ p.toInt = 14 ∨ p.toInt = 15 ∨ p.toInt = 16 := by omega
  rcases this with k0 | k1 | k2 | k3 | k4 | k5 | k6 | k7 | k8 | k9 | k10 | k11 | k12 | k13 | k14 | k15 | k16
  · exact Or.inl (Int32.toInt_inj.mp (k0.trans rfl))
  · exact Or.inr (Or.inl (Int32.toInt_inj.mp (k1.trans rfl)))
  · exact Or.inr (Or.inr (Or.inl (Int32.toInt_inj.mp (k2.trans rfl))))
  · exact Or.inr (Or.inr (Or.inr (Or.inl (Int32.toInt_inj.mp (k3.trans rfl)))))
  · exact Or.inr (Or.inr (Or.inr (Or.inr (Or.inl (Int32.toInt_inj.mp (k4.trans rfl))))))
  · exact Or.inr (Or.inr (Or.inr (Or.inr (Or.inr (Or.inl (Int32.toInt_inj.mp (k5.trans rfl)))))))
  · exact Or.inr (Or.inr (Or.inr (Or.inr (Or.inr (Or.inr (Or.inl (Int32.toInt_inj.mp (k6.trans rfl))))))))
  · exact Or.inr (Or.inr (Or.inr (Or.inr (Or.inr (Or.inr (Or.inr (Or.inl (Int32.toInt_inj.mp (k7.trans rfl)))))))))
  · exact Or.inr (Or.inr (Or.inr (Or.inr (Or.inr (Or.inr (Or.inr (Or.inr (Or.inl (Int32.toInt_inj.mp (k8.trans rfl))))))))))
  · exact Or.inr (Or.inr (Or.inr (Or.inr (Or.inr (Or.inr (Or.inr (Or.inr (Or.inr (Or.inl (Int32.toInt_inj.mp (k9.trans rfl)))))))))))
  · exact Or.inr (Or.inr (Or.inr (Or.inr (Or.inr (Or.inr (Or.inr (Or.inr (Or.inr (Or.inr (Or.inl (Int32.toInt_inj.mp (k10.trans rfl))))))))))))
  · exact Or.inr (Or.inr (Or.inr (Or.inr (Or.inr (Or.inr (Or.inr (Or.inr (Or.inr (Or.inr (Or.inr (Or.inl (Int32.toInt_inj.mp (k11.trans rfl)))))))))))))
  · exact Or.inr (Or.inr (Or.inr (Or.inr (Or.inr (Or.inr (Or.inr (Or.inr (Or.inr (Or.inr (Or.inr (Or.inr (Or.inl (Int32.toInt_inj.mp (k12.trans rfl))))))))))))))
  · exact Or.inr (Or.inr (Or.inr (Or.inr (Or.inr (Or.inr (Or.inr (Or.inr (Or.inr (Or.inr (Or.inr (Or.inr (Or.inr (Or.inl (Int32.toInt_inj.mp (k13.trans rfl)))))))))))))))
  · exact Or.inr (Or.inr (Or.inr (Or.inr (Or.inr (Or.inr (Or.inr (Or.inr (Or.inr (Or.inr (Or.inr (Or.inr (Or.inr (Or.inr (Or.inl (Int32.toInt_inj.mp (k14.trans rfl))))))))))))))))
  · exact Or.inr (Or.inr (Or.inr (Or.inr (Or.inr (Or.inr (Or.inr (Or.inr (Or.inr (Or.inr (Or.inr (Or.inr (Or.inr (Or.inr (Or.inr (Or.inl (Int32.toInt_inj.mp (k15.trans rfl)))))))))))))))))
  · exact Or.inr (Or.inr (Or.inr (Or.inr (Or.inr (Or.inr (Or.inr (Or.inr (Or.inr (Or.inr (Or.inr (Or.inr (Or.inr (Or.inr (Or.inr (Or.inr ((Int32.toInt_inj.mp (k16.trans rfl))))))))))))))))))
theorem own_get {m p c q d u0 u1 u2 u3 u4 u5 u6 u7 u8 u9 u10 u11 u12 u13 u14 u15 u16 : Int32} (hu0 : u0 = own_at m (0 : Int32) p c q d) (hu1 : u1 = own_at m (1 : Int32) p c q d) (hu2 : u2 = own_at m (2 : Int32) p c q d) (hu3 : u3 = own_at m (3 : Int32) p c q d) (hu4 : u4 = own_at m (4 : Int32) p c q d) (hu5 : u5 = own_at m (5 : Int32) p c q d) (hu6 : u6 = own_at m (6 : Int32) p c q d) (hu7 : u7 = own_at m (7 : Int32) p c q d) (hu8 : u8 = own_at m (8 : Int32) p c q d) (hu9 : u9 = own_at m (9 : Int32) p c q d) (hu10 : u10 = own_at m (10 : Int32) p c q d) (hu11 : u11 = own_at m (11 : Int32) p c q d) (hu12 : u12 = own_at m (12 : Int32) p c q d) (hu13 : u13 = own_at m (13 : Int32) p c q d) (hu14 : u14 = own_at m (14 : Int32) p c q d) (hu15 : u15 = own_at m (15 : Int32) p c q d) (hu16 : u16 = own_at m (16 : Int32) p c q d) (hE : own_XS = [u0, u1, u2, u3, u4, u5, u6, u7, u8, u9, u10, u11, u12, u13, u14, u15, u16]) {i : Int32} (hi : i = (0 : Int32) ∨ i = (1 : Int32) ∨ i = (2 : Int32) ∨ i = (3 : Int32) ∨ i = (4 : Int32) ∨ i = (5 : Int32) ∨ i = (6 : Int32) ∨ i = (7 : Int32) ∨ i = (8 : Int32) ∨ i = (9 : Int32) ∨ i = (10 : Int32) ∨ i = (11 : Int32) ∨ i = (12 : Int32) ∨ i = (13 : Int32) ∨ i = (14 : Int32) ∨ i = (15 : Int32) ∨ i = (16 : Int32)) : own_nm i = own_at m i p c q d := by
  unfold own_XS at hE
  injection hE with e0 hE
  injection hE with e1 hE
  injection hE with e2 hE
  injection hE with e3 hE
  injection hE with e4 hE
  injection hE with e5 hE
  injection hE with e6 hE
  injection hE with e7 hE
  injection hE with e8 hE
  injection hE with e9 hE
  injection hE with e10 hE
  injection hE with e11 hE
  injection hE with e12 hE
  injection hE with e13 hE
  injection hE with e14 hE
  injection hE with e15 hE
  injection hE with e16 hE
  rcases hi with rfl | rfl | rfl | rfl | rfl | rfl | rfl | rfl | rfl | rfl | rfl | rfl | rfl | rfl | rfl | rfl | rfl
  · exact (show own_nm 0 = _ from (by decide : own_nm 0 = 98)).trans (e0.trans hu0)
  · exact (show own_nm 1 = _ from (by decide : own_nm 1 = 121)).trans (e1.trans hu1)
  · exact (show own_nm 2 = _ from (by decide : own_nm 2 = 112)).trans (e2.trans hu2)
  · exact (show own_nm 3 = _ from (by decide : own_nm 3 = 97)).trans (e3.trans hu3)
  · exact (show own_nm 4 = _ from (by decide : own_nm 4 = 115)).trans (e4.trans hu4)
  · exact (show own_nm 5 = _ from (by decide : own_nm 5 = 115)).trans (e5.trans hu5)
  · exact (show own_nm 6 = _ from (by decide : own_nm 6 = 45)).trans (e6.trans hu6)
  · exact (show own_nm 7 = _ from (by decide : own_nm 7 = 103)).trans (e7.trans hu7)
  · exact (show own_nm 8 = _ from (by decide : own_nm 8 = 111)).trans (e8.trans hu8)
  · exact (show own_nm 9 = _ from (by decide : own_nm 9 = 118)).trans (e9.trans hu9)
  · exact (show own_nm 10 = _ from (by decide : own_nm 10 = 101)).trans (e10.trans hu10)
  · exact (show own_nm 11 = _ from (by decide : own_nm 11 = 114)).trans (e11.trans hu11)
  · exact (show own_nm 12 = _ from (by decide : own_nm 12 = 110)).trans (e12.trans hu12)
  · exact (show own_nm 13 = _ from (by decide : own_nm 13 = 97)).trans (e13.trans hu13)
  · exact (show own_nm 14 = _ from (by decide : own_nm 14 = 110)).trans (e14.trans hu14)
  · exact (show own_nm 15 = _ from (by decide : own_nm 15 = 99)).trans (e15.trans hu15)
  · exact (show own_nm 16 = _ from (by decide : own_nm 16 = 101)).trans (e16.trans hu16)
theorem own_put {m p c q d u0 u1 u2 u3 u4 u5 u6 u7 u8 u9 u10 u11 u12 u13 u14 u15 u16 : Int32} (hu0 : u0 = own_at m (0 : Int32) p c q d) (hu1 : u1 = own_at m (1 : Int32) p c q d) (hu2 : u2 = own_at m (2 : Int32) p c q d) (hu3 : u3 = own_at m (3 : Int32) p c q d) (hu4 : u4 = own_at m (4 : Int32) p c q d) (hu5 : u5 = own_at m (5 : Int32) p c q d) (hu6 : u6 = own_at m (6 : Int32) p c q d) (hu7 : u7 = own_at m (7 : Int32) p c q d) (hu8 : u8 = own_at m (8 : Int32) p c q d) (hu9 : u9 = own_at m (9 : Int32) p c q d) (hu10 : u10 = own_at m (10 : Int32) p c q d) (hu11 : u11 = own_at m (11 : Int32) p c q d) (hu12 : u12 = own_at m (12 : Int32) p c q d) (hu13 : u13 = own_at m (13 : Int32) p c q d) (hu14 : u14 = own_at m (14 : Int32) p c q d) (hu15 : u15 = own_at m (15 : Int32) p c q d) (hu16 : u16 = own_at m (16 : Int32) p c q d) (H : ∀ i, own_at m i p c q d = own_nm i) : own_XS = [u0, u1, u2, u3, u4, u5, u6, u7, u8, u9, u10, u11, u12, u13, u14, u15, u16] := by
  rw [hu0, hu1, hu2, hu3, hu4, hu5, hu6, hu7, hu8, hu9, hu10, hu11, hu12, hu13, hu14, hu15, hu16]; simp only [H]; decide
theorem own_a0 {m i p c q d : Int32} (hm : m = (0 : Int32)) : own_at m i p c q d = if i = p then c else own_nm i := by
  unfold own_at; rw [if_neg (by rw [hm]; decide), if_neg (by rw [hm]; decide), if_neg (by rw [hm]; decide)]
theorem own_a3 {m i p c q d : Int32} (hm : m = (3 : Int32)) : own_at m i p c q d = if i = q then d else if i = p then c else own_nm i := by
  unfold own_at; rw [if_neg (by rw [hm]; decide), if_neg (by rw [hm]; decide), if_pos hm]
theorem own_p0 {x m p z : Int32} (hz : z = if m = (1 : Int32) then (18 : Int32) else (17 : Int32)) (hp : p = (x &&& (2147483647 : Int32)) % z) (hm : ¬ m = (1 : Int32)) : p = (0 : Int32) ∨ p = (1 : Int32) ∨ p = (2 : Int32) ∨ p = (3 : Int32) ∨ p = (4 : Int32) ∨ p = (5 : Int32) ∨ p = (6 : Int32) ∨ p = (7 : Int32) ∨ p = (8 : Int32) ∨ p = (9 : Int32) ∨ p = (10 : Int32) ∨ p = (11 : Int32) ∨ p = (12 : Int32) ∨ p = (13 : Int32) ∨ p = (14 : Int32) ∨ p = (15 : Int32) ∨ p = (16 : Int32) := own_17 (by rw [hp, hz, if_neg hm])
theorem own_bad0n {m p c q d u0 u1 u2 u3 u4 u5 u6 u7 u8 u9 u10 u11 u12 u13 u14 u15 u16 : Int32} {x z : Int32} (hu0 : u0 = own_at m (0 : Int32) p c q d) (hu1 : u1 = own_at m (1 : Int32) p c q d) (hu2 : u2 = own_at m (2 : Int32) p c q d) (hu3 : u3 = own_at m (3 : Int32) p c q d) (hu4 : u4 = own_at m (4 : Int32) p c q d) (hu5 : u5 = own_at m (5 : Int32) p c q d) (hu6 : u6 = own_at m (6 : Int32) p c q d) (hu7 : u7 = own_at m (7 : Int32) p c q d) (hu8 : u8 = own_at m (8 : Int32) p c q d) (hu9 : u9 = own_at m (9 : Int32) p c q d) (hu10 : u10 = own_at m (10 : Int32) p c q d) (hu11 : u11 = own_at m (11 : Int32) p c q d) (hu12 : u12 = own_at m (12 : Int32) p c q d) (hu13 : u13 = own_at m (13 : Int32) p c q d) (hu14 : u14 = own_at m (14 : Int32) p c q d) (hu15 : u15 = own_at m (15 : Int32) p c q d) (hu16 : u16 = own_at m (16 : Int32) p c q d) (hE : own_XS = [u0, u1, u2, u3, u4, u5, u6, u7, u8, u9, u10, u11, u12, u13, u14, u15, u16]) (hm : m = (0 : Int32)) (hz : z = if m = (1 : Int32) then (18 : Int32) else (17 : Int32)) (hp : p = (x &&& (2147483647 : Int32)) % z) (h : ¬ c = own_nm p) : False := by
  have g := own_get hu0 hu1 hu2 hu3 hu4 hu5 hu6 hu7 hu8 hu9 hu10 hu11 hu12 hu13 hu14 hu15 hu16 hE (own_p0 hz hp (by rw [hm]; decide))
  rw [own_a0 hm, if_pos rfl] at g
  exact h g.symm
theorem own_bad0p {m p c q d u0 u1 u2 u3 u4 u5 u6 u7 u8 u9 u10 u11 u12 u13 u14 u15 u16 : Int32} (hu0 : u0 = own_at m (0 : Int32) p c q d) (hu1 : u1 = own_at m (1 : Int32) p c q d) (hu2 : u2 = own_at m (2 : Int32) p c q d) (hu3 : u3 = own_at m (3 : Int32) p c q d) (hu4 : u4 = own_at m (4 : Int32) p c q d) (hu5 : u5 = own_at m (5 : Int32) p c q d) (hu6 : u6 = own_at m (6 : Int32) p c q d) (hu7 : u7 = own_at m (7 : Int32) p c q d) (hu8 : u8 = own_at m (8 : Int32) p c q d) (hu9 : u9 = own_at m (9 : Int32) p c q d) (hu10 : u10 = own_at m (10 : Int32) p c q d) (hu11 : u11 = own_at m (11 : Int32) p c q d) (hu12 : u12 = own_at m (12 : Int32) p c q d) (hu13 : u13 = own_at m (13 : Int32) p c q d) (hu14 : u14 = own_at m (14 : Int32) p c q d) (hu15 : u15 = own_at m (15 : Int32) p c q d) (hu16 : u16 = own_at m (16 : Int32) p c q d) (hE : ¬ own_XS = [u0, u1, u2, u3, u4, u5, u6, u7, u8, u9, u10, u11, u12, u13, u14, u15, u16]) (hm : m = (0 : Int32)) (h : c = own_nm p) : False := hE (own_put hu0 hu1 hu2 hu3 hu4 hu5 hu6 hu7 hu8 hu9 hu10 hu11 hu12 hu13 hu14 hu15 hu16 fun i => by
  rw [own_a0 hm]; split
  · next e => rw [h, e]
  · rfl)
theorem own_bad3en {m p c q d u0 u1 u2 u3 u4 u5 u6 u7 u8 u9 u10 u11 u12 u13 u14 u15 u16 : Int32} {x z : Int32} (hu0 : u0 = own_at m (0 : Int32) p c q d) (hu1 : u1 = own_at m (1 : Int32) p c q d) (hu2 : u2 = own_at m (2 : Int32) p c q d) (hu3 : u3 = own_at m (3 : Int32) p c q d) (hu4 : u4 = own_at m (4 : Int32) p c q d) (hu5 : u5 = own_at m (5 : Int32) p c q d) (hu6 : u6 = own_at m (6 : Int32) p c q d) (hu7 : u7 = own_at m (7 : Int32) p c q d) (hu8 : u8 = own_at m (8 : Int32) p c q d) (hu9 : u9 = own_at m (9 : Int32) p c q d) (hu10 : u10 = own_at m (10 : Int32) p c q d) (hu11 : u11 = own_at m (11 : Int32) p c q d) (hu12 : u12 = own_at m (12 : Int32) p c q d) (hu13 : u13 = own_at m (13 : Int32) p c q d) (hu14 : u14 = own_at m (14 : Int32) p c q d) (hu15 : u15 = own_at m (15 : Int32) p c q d) (hu16 : u16 = own_at m (16 : Int32) p c q d) (hE : own_XS = [u0, u1, u2, u3, u4, u5, u6, u7, u8, u9, u10, u11, u12, u13, u14, u15, u16]) (hm : m = (3 : Int32)) (hz : z = if m = (1 : Int32) then (18 : Int32) else (17 : Int32)) (hp : p = (x &&& (2147483647 : Int32)) % z) (hpq : p = q) (h : ¬ d = own_nm p) : False := by
  have g := own_get hu0 hu1 hu2 hu3 hu4 hu5 hu6 hu7 hu8 hu9 hu10 hu11 hu12 hu13 hu14 hu15 hu16 hE (own_p0 hz hp (by rw [hm]; decide))
  rw [own_a3 hm, if_pos hpq] at g
  exact h g.symm
theorem own_bad3ep {m p c q d u0 u1 u2 u3 u4 u5 u6 u7 u8 u9 u10 u11 u12 u13 u14 u15 u16 : Int32} (hu0 : u0 = own_at m (0 : Int32) p c q d) (hu1 : u1 = own_at m (1 : Int32) p c q d) (hu2 : u2 = own_at m (2 : Int32) p c q d) (hu3 : u3 = own_at m (3 : Int32) p c q d) (hu4 : u4 = own_at m (4 : Int32) p c q d) (hu5 : u5 = own_at m (5 : Int32) p c q d) (hu6 : u6 = own_at m (6 : Int32) p c q d) (hu7 : u7 = own_at m (7 : Int32) p c q d) (hu8 : u8 = own_at m (8 : Int32) p c q d) (hu9 : u9 = own_at m (9 : Int32) p c q d) (hu10 : u10 = own_at m (10 : Int32) p c q d) (hu11 : u11 = own_at m (11 : Int32) p c q d) (hu12 : u12 = own_at m (12 : Int32) p c q d) (hu13 : u13 = own_at m (13 : Int32) p c q d) (hu14 : u14 = own_at m (14 : Int32) p c q d) (hu15 : u15 = own_at m (15 : Int32) p c q d) (hu16 : u16 = own_at m (16 : Int32) p c q d) (hE : ¬ own_XS = [u0, u1, u2, u3, u4, u5, u6, u7, u8, u9, u10, u11, u12, u13, u14, u15, u16]) (hm : m = (3 : Int32)) (hpq : p = q) (h : d = own_nm p) : False := hE (own_put hu0 hu1 hu2 hu3 hu4 hu5 hu6 hu7 hu8 hu9 hu10 hu11 hu12 hu13 hu14 hu15 hu16 fun i => by
  rw [own_a3 hm]; split
  · next e => rw [h, e, hpq]
  · next e => rw [if_neg (by rw [hpq]; exact e)])
theorem own_bad3c {m p c q d u0 u1 u2 u3 u4 u5 u6 u7 u8 u9 u10 u11 u12 u13 u14 u15 u16 : Int32} {x z : Int32} (hu0 : u0 = own_at m (0 : Int32) p c q d) (hu1 : u1 = own_at m (1 : Int32) p c q d) (hu2 : u2 = own_at m (2 : Int32) p c q d) (hu3 : u3 = own_at m (3 : Int32) p c q d) (hu4 : u4 = own_at m (4 : Int32) p c q d) (hu5 : u5 = own_at m (5 : Int32) p c q d) (hu6 : u6 = own_at m (6 : Int32) p c q d) (hu7 : u7 = own_at m (7 : Int32) p c q d) (hu8 : u8 = own_at m (8 : Int32) p c q d) (hu9 : u9 = own_at m (9 : Int32) p c q d) (hu10 : u10 = own_at m (10 : Int32) p c q d) (hu11 : u11 = own_at m (11 : Int32) p c q d) (hu12 : u12 = own_at m (12 : Int32) p c q d) (hu13 : u13 = own_at m (13 : Int32) p c q d) (hu14 : u14 = own_at m (14 : Int32) p c q d) (hu15 : u15 = own_at m (15 : Int32) p c q d) (hu16 : u16 = own_at m (16 : Int32) p c q d) (hE : own_XS = [u0, u1, u2, u3, u4, u5, u6, u7, u8, u9, u10, u11, u12, u13, u14, u15, u16]) (hm : m = (3 : Int32)) (hz : z = if m = (1 : Int32) then (18 : Int32) else (17 : Int32)) (hp : p = (x &&& (2147483647 : Int32)) % z) (hpq : ¬ p = q) (h : ¬ c = own_nm p) : False := by
  have g := own_get hu0 hu1 hu2 hu3 hu4 hu5 hu6 hu7 hu8 hu9 hu10 hu11 hu12 hu13 hu14 hu15 hu16 hE (own_p0 hz hp (by rw [hm]; decide))
  rw [own_a3 hm, if_neg hpq, if_pos rfl] at g
  exact h g.symm
theorem own_bad3d {m p c q d u0 u1 u2 u3 u4 u5 u6 u7 u8 u9 u10 u11 u12 u13 u14 u15 u16 : Int32} {y : Int32} (hu0 : u0 = own_at m (0 : Int32) p c q d) (hu1 : u1 = own_at m (1 : Int32) p c q d) (hu2 : u2 = own_at m (2 : Int32) p c q d) (hu3 : u3 = own_at m (3 : Int32) p c q d) (hu4 : u4 = own_at m (4 : Int32) p c q d) (hu5 : u5 = own_at m (5 : Int32) p c q d) (hu6 : u6 = own_at m (6 : Int32) p c q d) (hu7 : u7 = own_at m (7 : Int32) p c q d) (hu8 : u8 = own_at m (8 : Int32) p c q d) (hu9 : u9 = own_at m (9 : Int32) p c q d) (hu10 : u10 = own_at m (10 : Int32) p c q d) (hu11 : u11 = own_at m (11 : Int32) p c q d) (hu12 : u12 = own_at m (12 : Int32) p c q d) (hu13 : u13 = own_at m (13 : Int32) p c q d) (hu14 : u14 = own_at m (14 : Int32) p c q d) (hu15 : u15 = own_at m (15 : Int32) p c q d) (hu16 : u16 = own_at m (16 : Int32) p c q d) (hE : own_XS = [u0, u1, u2, u3, u4, u5, u6, u7, u8, u9, u10, u11, u12, u13, u14, u15, u16]) (hm : m = (3 : Int32)) (hq : q = (y &&& (2147483647 : Int32)) % (17 : Int32)) (h : ¬ d = own_nm q) : False := by
  have g := own_get hu0 hu1 hu2 hu3 hu4 hu5 hu6 hu7 hu8 hu9 hu10 hu11 hu12 hu13 hu14 hu15 hu16 hE (own_17 hq)
  rw [own_a3 hm, if_pos rfl] at g
  exact h g.symm
theorem own_bad3p {m p c q d u0 u1 u2 u3 u4 u5 u6 u7 u8 u9 u10 u11 u12 u13 u14 u15 u16 : Int32} (hu0 : u0 = own_at m (0 : Int32) p c q d) (hu1 : u1 = own_at m (1 : Int32) p c q d) (hu2 : u2 = own_at m (2 : Int32) p c q d) (hu3 : u3 = own_at m (3 : Int32) p c q d) (hu4 : u4 = own_at m (4 : Int32) p c q d) (hu5 : u5 = own_at m (5 : Int32) p c q d) (hu6 : u6 = own_at m (6 : Int32) p c q d) (hu7 : u7 = own_at m (7 : Int32) p c q d) (hu8 : u8 = own_at m (8 : Int32) p c q d) (hu9 : u9 = own_at m (9 : Int32) p c q d) (hu10 : u10 = own_at m (10 : Int32) p c q d) (hu11 : u11 = own_at m (11 : Int32) p c q d) (hu12 : u12 = own_at m (12 : Int32) p c q d) (hu13 : u13 = own_at m (13 : Int32) p c q d) (hu14 : u14 = own_at m (14 : Int32) p c q d) (hu15 : u15 = own_at m (15 : Int32) p c q d) (hu16 : u16 = own_at m (16 : Int32) p c q d) (hE : ¬ own_XS = [u0, u1, u2, u3, u4, u5, u6, u7, u8, u9, u10, u11, u12, u13, u14, u15, u16]) (hm : m = (3 : Int32)) (hc : c = own_nm p) (hd : d = own_nm q) : False := hE (own_put hu0 hu1 hu2 hu3 hu4 hu5 hu6 hu7 hu8 hu9 hu10 hu11 hu12 hu13 hu14 hu15 hu16 fun i => by
  rw [own_a3 hm]; split
  · next e => rw [hd, e]
  · split
    · next e => rw [hc, e]
    · rfl)
theorem own_eqk {args : Array Value} {s : State} {t : Term} {k : Int32} (h : (Cond.eq t (.int k)).value args s none s [] = some true) : t.eval args s none [] s = some (.int k) := by
  obtain ⟨x, y, hx, hy, k1, k2⟩ := cmp_v (Or.inl h)
  have ey : y = .int k := Option.some.inj (hy.symm.trans rfl)
  subst ey
  obtain ⟨z, rfl⟩ := k2
  have e := gotT (Cond.eq_ints hx rfl) h
  rw [e] at hx; exact hx
theorem own_len {args : Array Value} {s : State} {t : Term} {a : Addr} {cl : Cell} {n : Int32} (ht : t.eval args s none [] s = some (.ref a)) (hA : s.arrayAt? a = some cl) (h : (Cond.eq (.length t) (.int n)).value args s none s [] = some true) : cl.slots.size < 2 ^ 31 ∧ cl.slots.size.toInt32 = n := by
  obtain ⟨x, y, hx, hy, -, -⟩ := cmp_v (Or.inl h)
  by_cases q : cl.slots.size < 2 ^ 31
  · have e := len_f ht hA q
    exact ⟨q, gotT (Cond.eq_ints e (Term.int_eval n)) h⟩
  · simp [Term.eval, ht, hA, q] at hx
theorem own_szOf {cl : Cell} {z : Int32} (q : cl.slots.size < 2 ^ 31) (e : cl.slots.size.toInt32 = z) : cl.slots.size = z.toNatClampNeg := by
  rw [← e]; simp only [Int32.toNatClampNeg, len_toInt q]; rfl
theorem own_elR {args : Array Value} {s : State} {t b : Term} {a x : Addr} {cl : Cell} {j : Int32} (ht : t.eval args s none [] s = some (.ref a)) (hc : s.heap[a]? = some cl) (hb : b.eval args s none [] s = some (.ref x)) (h : (Cond.eq (.elem t (.int j)) b).value args s none s [] = some true) : cl.slots[j.toNatClampNeg]? = some (.ref x) := by
  obtain ⟨y, z, hy, hz, k1, k2⟩ := cmp_v (Or.inl h)
  have ez : z = .ref x := Option.some.inj (hz.symm.trans hb)
  subst ez
  have k3 : (Value.ref x).isRef = true ∧ y.isRef = true := k2
  have e := gotT (eq_R hy hb k3.2 rfl) h
  rw [e] at hy
  exact (elem_in hy ht (Term.int_eval j) hc).2
theorem own_elI {args : Array Value} {s : State} {t : Term} {a : Addr} {cl : Cell} {j k : Int32} {n : Nat} (ht : t.eval args s none [] s = some (.ref a)) (hc : s.heap[a]? = some cl) (h : (Cond.eq (.elem t (.int j)) (.int k)).value args s none s [] = some true) (hj : j.toNatClampNeg = n) : cl.slots[n]? = some (.int k) := hj ▸ (elem_in (own_eqk h) ht (Term.int_eval j) hc).2
theorem own_ord {args : Array Value} {s : State} {t : Term} {C n d : String} {k : Int32} {a : Addr} (ht : t.eval args s none [] s = some (.ref a)) (h : (Cond.eq (.field t C n d) (.int k)).value args s none s [] = some true) : Fld s s.heap a C n d (.int k) := Fld.start ((fld_at ht).symm.trans (own_eqk h))
theorem own_HasL17 {c : Cell} (h0 : c.slots[0]? = some (.int 98)) (h1 : c.slots[1]? = some (.int 121)) (h2 : c.slots[2]? = some (.int 112)) (h3 : c.slots[3]? = some (.int 97)) (h4 : c.slots[4]? = some (.int 115)) (h5 : c.slots[5]? = some (.int 115)) (h6 : c.slots[6]? = some (.int 45)) (h7 : c.slots[7]? = some (.int 103)) (h8 : c.slots[8]? = some (.int 111)) (h9 : c.slots[9]? = some (.int 118)) (h10 : c.slots[10]? = some (.int 101)) (h11 : c.slots[11]? = some (.int 114)) (h12 : c.slots[12]? = some (.int 110)) (h13 : c.slots[13]? = some (.int 97)) (h14 : c.slots[14]? = some (.int 110)) (h15 : c.slots[15]? = some (.int 99)) (h16 : c.slots[16]? = some (.int 101)) : HasL c 0 (own_XS.map Value.int) := And.intro h0 (And.intro h1 (And.intro h2 (And.intro h3 (And.intro h4 (And.intro h5 (And.intro h6 (And.intro h7 (And.intro h8 (And.intro h9 (And.intro h10 (And.intro h11 (And.intro h12 (And.intro h13 (And.intro h14 (And.intro h15 (And.intro h16 (trivial)))))))))))))))))
theorem pd_13 : parseMethodDescriptor "(IIICIC)C" = some ⟨[.int, .int, .int, .char, .int, .char], some .char⟩ := by decide +kernel
theorem pd_14 : parseMethodDescriptor "([C)V" = some ⟨[(.array .char)], none⟩ := by decide +kernel
theorem pd_15 : parseMethodDescriptor "(Ljava/lang/String;)Ljava/util/Optional;" = some ⟨[(.object "java/lang/String")], some (.object "java/util/Optional")⟩ := by decide +kernel
theorem pd_16 : parseMethodDescriptor "()Ljava/lang/Object;" = some ⟨[], some (.object "java/lang/Object")⟩ := by decide +kernel
theorem ef_0 (m : MethodId) (p1 : Int32) (p2 : Int32) (p3 : Int32) (p4 : Int32) (p5 : Int32) : entryFrame m #[(.int p1), (.int p2), (.int p3), (.int p4), (.int p5)] maxLocals = mkF m 0 #[.val (.int p1), .val (.int p2), .val (.int p3), .val (.int p4), .val (.int p5), .unset, .unset, .unset, .unset, .unset, .unset, .unset, .unset, .unset, .unset, .unset] [] := by first | (simp [entryFrame, mkF, argsToLocals, Value.category, maxLocals]; done) | rfl
set_option maxRecDepth 65536 in
set_option maxHeartbeats 40000000 in
theorem rm0 (l : Launch) (Z : State) (a0 : Array Value) (hw : ∀ d ∈ tables_1, d.before a0 Z = true) (ws : List Jvm.Cond) (p1 : Int32) (p2 : Int32) (p3 : Int32) (p4 : Int32) (p5 : Int32) (cs : Int32) (fm : Value) (va bp fs em : Addr) (cv : Cell) (h0 : Heap) (n0 : Nat) (Z0 : n0 ≤ h0.size) (CS : Sta Z h0 "java/lang/String" "COMPACT_STRINGS" "Z" (.int cs)) (hcs : ¬ cs = (0 : Int32)) (FM : Sta Z h0 "jdk/internal/util/Preconditions" "SIOOBE_FORMATTER" "Ljava/util/function/BiFunction;" fm) (hr_fm : fm.isRef = true) (SV : Sta Z h0 "com/example/firmhold/firmhold/Credentials$Permission" "$VALUES" "[Lcom/example/firmhold/firmhold/Credentials$Permission;" (.ref va)) (Aa : Arr Z h0 va cv (.object "com/example/firmhold/firmhold/Credentials$Permission")) (Ea : Exa Z h0 va "[Lcom/example/firmhold/firmhold/Credentials$Permission;") (Fa : FitC Z cv) (hsz : cv.slots.size = (1 : Int32).toNatClampNeg) (hel : cv.slots[(0 : Int32).toNatClampNeg]? = some (.ref bp)) (Eb : Exa Z h0 bp "com/example/firmhold/firmhold/Credentials$Permission") (Fb : Fld Z h0 bp "com/example/firmhold/firmhold/Credentials$Permission" "fileName" "Ljava/lang/String;" (.ref fs)) (Sf : own_Sc Z h0 fs 17 own_XS) (Ee : Exa Z h0 em "java/util/Optional") (Fe : Fld Z h0 em "java/util/Optional" "value" "Ljava/lang/Object;" .null) (SE : Sta Z h0 "java/util/Optional" "EMPTY" "Ljava/util/Optional;" (.ref em)) (SB : Sta Z h0 "com/example/firmhold/firmhold/Credentials$Permission" "BYPASS_GOVERNANCE" "Lcom/example/firmhold/firmhold/Credentials$Permission;" (.ref bp)) :
    MetFree l x (head1 (Jvm.Cond.code x code maxLocals ret :: ws) room_1) (fun a U => a = #[(.int p1), (.int p2), (.int p3), (.int p4), (.int p5)] ∧ Z.Warmed39 U.vm ∧ U.heap = h0 ∧ CHv Z consts_1 U.vm h0) (fun _ _ _ _ _ => True) (fun _ U o U' => ∃ v L, o = .returned v ∧ own_QL n0 v L ∧ CHr Z consts_1 U.vm U.heap U'.vm U'.heap ∧ ReturnedEndW U o U' L room_1.cells room_1.slots) := by
  refine MetFree.of_bodySF (plainFor_of_name pn_1) hisR ?_
  intro p e s m args below meth c s₁ Bd hml0 hP hK
  obtain ⟨rfl, hZ, hh, hCH⟩ := hP
  have hx := Bd.exec
  have hby := Bd.bytes
  have hml : c.maxLocals = 16 := hml0
  have hown : s.vm.findClass "com/example/firmhold/firmhold/PermissionNamedPinLaw" = some m.cls := findClass_of_methodNamed Bd.named
  have hnm := (name_of_methodNamed Bd.named Bd.method).1
  have X0 : Stand p l e room_1 (s.setVm s.vm) m #[(.int p1), (.int p2), (.int p3), (.int p4), (.int p5)] below meth c s₁ [] 0 0 := Stand.of_body Bd
  have e0 : s₁.heap = h0 := by rw [← hh, Bd.state]; rfl
  have N0 := Fr.nil n0
  obtain ⟨S0, hS0⟩ : ∃ z, z = s₁.setTop (entryFrame m #[(.int p1), (.int p2), (.int p3), (.int p4), (.int p5)] maxLocals) := ⟨_, rfl⟩
  have P0 : own_Pr p.tables e below S0 s₁ (mkF m 0 #[.val (.int p1), .val (.int p2), .val (.int p3), .val (.int p4), .val (.int p5), .unset, .unset, .unset, .unset, .unset, .unset, .unset, .unset, .unset, .unset, .unset] []) := fun t k => hS0 ▸ castTop (ef_0 m p1 p2 p3 p4 p5) k
  have hSn : s.Since s.vm 0 := (State.WarmedH.refl s).since 0
  have kS0 : 0 ≤ h0.size := Nat.zero_le _
  have CR0 := CHr.refl hCH
  have K0 := Keep.refl h0 []
  have P21 : own_Pr p.tables e below S0 s₁ (mkF m 5 #[.val (.int p1), .val (.int p2), .val (.int p3), .val (.int p4), .val (.int p5), .val (.int (p1 &&& (3 : Int32))), .unset, .unset, .unset, .unset, .unset, .unset, .unset, .unset, .unset, .unset] []) := fun t k => P0 t (by
    refine XS.iloadN X0.here hx rfl (hb hby at_0) rfl ?_
    refine XS.iconst X0.here hx rfl (hb hby at_1) ?_
    refine XS.iand X0.here hx rfl (hb hby at_2) rfl ?_
    refine XS.istore X0.here hx rfl (hb hby at_3) rfl (l' := #[.val (.int p1), .val (.int p2), .val (.int p3), .val (.int p4), .val (.int p5), .val (.int (p1 &&& (3 : Int32))), .unset, .unset, .unset, .unset, .unset, .unset, .unset, .unset, .unset, .unset]) rfl ?_
    exact k)
  obtain ⟨z22, hz22⟩ : ∃ z, z = (p1 &&& (3 : Int32)) := ⟨_, rfl⟩
  rw [← hz22] at P21
  have P23 : own_Pr p.tables e below S0 s₁ (mkF m 12 #[.val (.int p1), .val (.int p2), .val (.int p3), .val (.int p4), .val (.int p5), .val (.int z22), .unset, .unset, .unset, .unset, .unset, .unset, .unset, .unset, .unset, .unset] [(.int 1), (.int z22), (.int (p2 &&& (2147483647 : Int32)))]) := fun t k => P21 t (by
    refine XS.iloadN X0.here hx rfl (hb hby at_5) rfl ?_
    refine X0.ldcInt hx hown (mvT hZ (hw _ (List.mem_of_getElem? (i := 0) rfl))) (g := (mkF m 6 #[.val (.int p1), .val (.int p2), .val (.int p3), .val (.int p4), .val (.int p5), .val (.int z22), .unset, .unset, .unset, .unset, .unset, .unset, .unset, .unset, .unset, .unset] [(.int p2)])) rfl (hb hby at_6) _ ?_
    refine XS.iand X0.here hx rfl (hb hby at_8) rfl ?_
    refine XS.iload X0.here hx rfl (hb hby at_9) rfl ?_
    refine XS.iconst X0.here hx rfl (hb hby at_11) ?_
    exact k)
  have P25 : own_Pr p.tables e below S0 s₁ (mkF m 22 #[.val (.int p1), .val (.int p2), .val (.int p3), .val (.int p4), .val (.int p5), .val (.int z22), .unset, .unset, .unset, .unset, .unset, .unset, .unset, .unset, .unset, .unset] [(.int (if z22 = (1 : Int32) then (18 : Int32) else (17 : Int32))), (.int (p2 &&& (2147483647 : Int32)))]) := fun t k => P23 t (by
    by_cases hq12_24 : z22 = (1 : Int32)
    · rw [if_pos hq12_24] at k
      refine XS.icmpNo X0.here hx rfl (hb hby at_12) rfl (XT.ii_ne_f hq12_24) ?_
      show Steps p.tables e below (s₁.setTop (mkF m 15 #[.val (.int p1), .val (.int p2), .val (.int p3), .val (.int p4), .val (.int p5), .val (.int z22), .unset, .unset, .unset, .unset, .unset, .unset, .unset, .unset, .unset, .unset] [(.int (p2 &&& (2147483647 : Int32)))])) _
      refine XS.bipush X0.here hx rfl (hb hby at_15) ?_
      show Steps p.tables e below (s₁.setTop (mkF m 17 #[.val (.int p1), .val (.int p2), .val (.int p3), .val (.int p4), .val (.int p5), .val (.int z22), .unset, .unset, .unset, .unset, .unset, .unset, .unset, .unset, .unset, .unset] [(.int 18), (.int (p2 &&& (2147483647 : Int32)))])) _
      refine XS.goto X0.here hx rfl (pc0 := 17) (pc' := 22) rfl (hb hby at_17) (by decide) (by decide) ?_
      show Steps p.tables e below (s₁.setTop (mkF m 22 #[.val (.int p1), .val (.int p2), .val (.int p3), .val (.int p4), .val (.int p5), .val (.int z22), .unset, .unset, .unset, .unset, .unset, .unset, .unset, .unset, .unset, .unset] [(.int 18), (.int (p2 &&& (2147483647 : Int32)))])) _
      exact k
    · rw [if_neg hq12_24] at k
      refine XS.icmpYes X0.here hx rfl (pc0 := 12) (pc' := 20) rfl (hb hby at_12) rfl (XT.ii_ne_t hq12_24) (by decide) (by decide) ?_
      show Steps p.tables e below (s₁.setTop (mkF m 20 #[.val (.int p1), .val (.int p2), .val (.int p3), .val (.int p4), .val (.int p5), .val (.int z22), .unset, .unset, .unset, .unset, .unset, .unset, .unset, .unset, .unset, .unset] [(.int (p2 &&& (2147483647 : Int32)))])) _
      refine XS.bipush X0.here hx rfl (hb hby at_20) ?_
      show Steps p.tables e below (s₁.setTop (mkF m 22 #[.val (.int p1), .val (.int p2), .val (.int p3), .val (.int p4), .val (.int p5), .val (.int z22), .unset, .unset, .unset, .unset, .unset, .unset, .unset, .unset, .unset, .unset] [(.int 17), (.int (p2 &&& (2147483647 : Int32)))])) _
      exact k)
  obtain ⟨z26, hz26⟩ : ∃ z, z = (if z22 = (1 : Int32) then (18 : Int32) else (17 : Int32)) := ⟨_, rfl⟩
  rw [← hz26] at P25
  have P27 : own_Pr p.tables e below S0 s₁ (mkF m 25 #[.val (.int p1), .val (.int p2), .val (.int p3), .val (.int p4), .val (.int p5), .val (.int z22), .val (.int ((p2 &&& (2147483647 : Int32)) % z26)), .unset, .unset, .unset, .unset, .unset, .unset, .unset, .unset, .unset] []) := fun t k => P25 t (by
    refine iremM X0 hx rfl (hb hby at_22) rfl (own_nz hz26) ?_
    refine XS.istore X0.here hx rfl (hb hby at_23) rfl (l' := #[.val (.int p1), .val (.int p2), .val (.int p3), .val (.int p4), .val (.int p5), .val (.int z22), .val (.int ((p2 &&& (2147483647 : Int32)) % z26)), .unset, .unset, .unset, .unset, .unset, .unset, .unset, .unset, .unset]) rfl ?_
    exact k)
  obtain ⟨z28, hz28⟩ : ∃ z, z = ((p2 &&& (2147483647 : Int32)) % z26) := ⟨_, rfl⟩
  rw [← hz28] at P27
  have P29 : own_Pr p.tables e below S0 s₁ (mkF m 34 #[.val (.int p1), .val (.int p2), .val (.int p3), .val (.int p4), .val (.int p5), .val (.int z22), .val (.int z28), .val (.int ((p4 &&& (2147483647 : Int32)) % (17 : Int32))), .unset, .unset, .unset, .unset, .unset, .unset, .unset, .unset] []) := fun t k => P27 t (by
    refine XS.iloadN X0.here hx rfl (hb hby at_25) rfl ?_
    refine X0.ldcInt hx hown (mvT hZ (hw _ (List.mem_of_getElem? (i := 0) rfl))) (g := (mkF m 26 #[.val (.int p1), .val (.int p2), .val (.int p3), .val (.int p4), .val (.int p5), .val (.int z22), .val (.int z28), .unset, .unset, .unset, .unset, .unset, .unset, .unset, .unset, .unset] [(.int p4)])) rfl (hb hby at_26) _ ?_
    refine XS.iand X0.here hx rfl (hb hby at_28) rfl ?_
    refine XS.bipush X0.here hx rfl (hb hby at_29) ?_
    refine iremM X0 hx rfl (hb hby at_31) rfl (by decide) ?_
    refine XS.istore X0.here hx rfl (hb hby at_32) rfl (l' := #[.val (.int p1), .val (.int p2), .val (.int p3), .val (.int p4), .val (.int p5), .val (.int z22), .val (.int z28), .val (.int ((p4 &&& (2147483647 : Int32)) % (17 : Int32))), .unset, .unset, .unset, .unset, .unset, .unset, .unset, .unset]) rfl ?_
    exact k)
  obtain ⟨z30, hz30⟩ : ∃ z, z = ((p4 &&& (2147483647 : Int32)) % (17 : Int32)) := ⟨_, rfl⟩
  rw [← hz30] at P29
  have P31 : own_Pr p.tables e below S0 s₁ (mkF m 39 #[.val (.int p1), .val (.int p2), .val (.int p3), .val (.int p4), .val (.int p5), .val (.int z22), .val (.int z28), .val (.int z30), .unset, .unset, .unset, .unset, .unset, .unset, .unset, .unset] [(.int (p3 &&& (256 : Int32)))]) := fun t k => P29 t (by
    refine XS.iloadN X0.here hx rfl (hb hby at_34) rfl ?_
    refine XS.sipush X0.here hx rfl (hb hby at_35) ?_
    refine XS.iand X0.here hx rfl (hb hby at_38) rfl ?_
    exact k)
  obtain ⟨T32, locs32, h32, vm32, kk32, z32, X32, N32, e32, K32, hSn, kS32, hZ, hown, CR32, hz32, P32⟩ : ∃ (T' : State) (locs' : List Loc) (h' : Heap) (vm' : Vm) (k' : Nat) (z : Int32), Stand p l e room_1 (s.setVm vm') m #[(.int p1), (.int p2), (.int p3), (.int p4), (.int p5)] below meth c T' locs' 2 72 ∧ Fr n0 locs' ∧ T'.heap = h' ∧ Keep h0 h' [] ∧ s.Since vm' k' ∧ k' ≤ h'.size ∧ Z.Warmed39 vm' ∧ vm'.findClass "com/example/firmhold/firmhold/PermissionNamedPinLaw" = some m.cls ∧ CHr Z consts_1 s.vm h0 vm' h' ∧ z = (if (p3 &&& (256 : Int32)) = (0 : Int32) then own_nm z28 else ((p3 &&& (255 : Int32)).toUInt32.toUInt16.toUInt32.toInt32)) ∧ own_Pr p.tables e below S0 T' (mkF m 56 #[.val (.int p1), .val (.int p2), .val (.int p3), .val (.int p4), .val (.int p5), .val (.int z22), .val (.int z28), .val (.int z30), .unset, .unset, .unset, .unset, .unset, .unset, .unset, .unset] [(.int z)]) := by
    by_cases hc39_33 : (p3 &&& (256 : Int32)) = (0 : Int32)
    · have P34 : own_Pr p.tables e below S0 s₁ (mkF m 53 #[.val (.int p1), .val (.int p2), .val (.int p3), .val (.int p4), .val (.int p5), .val (.int z22), .val (.int z28), .val (.int z30), .unset, .unset, .unset, .unset, .unset, .unset, .unset, .unset] [(.int z28)]) := fun t k => P31 t (by
        refine XS.ifYes X0.here hx rfl (pc0 := 39) (pc' := 51) rfl (hb hby at_39) rfl (XT.i0_eq_t hc39_33) (by decide) (by decide) ?_
        refine XS.iload X0.here hx rfl (hb hby at_51) rfl ?_
        exact k)
      obtain ⟨_, _, ⟨T35, L35, k35, n35⟩, -, X35, hSq35, gq35, ⟨Lc35, hQ35, l35, y35, z35, CRq35⟩, st35⟩ := callSS X0 hx (y := (⟨"com/example/firmhold/firmhold/PermissionNamedPinLaw", "nm", "(I)C"⟩ : MethodName)) hown (mvT hZ (hw _ (List.mem_of_getElem? (i := 1) rfl))) (mvT hZ (hw _ (List.mem_of_getElem? (i := 2) rfl))) (mvT hZ (hw _ (List.mem_of_getElem? (i := 3) rfl))) (mvT hZ (hw _ (List.mem_of_getElem? (i := 4) rfl))) (by decide) (own_backG (W := 0) (rm1 l Z a0 hw [] z28 cs fm h0 n0 Z0 (own_sta_keep0 CS K0) hcs (own_sta_keep0 FM K0) hr_fm) hZ (hw _ (List.mem_of_getElem? (i := 4) rfl)) (hw _ (List.mem_of_getElem? (i := 3) rfl)) (by decide) (by decide) (own_EW hw) CR0.1) (g := (mkF m 53 #[.val (.int p1), .val (.int p2), .val (.int p3), .val (.int p4), .val (.int p5), .val (.int z22), .val (.int z28), .val (.int z30), .unset, .unset, .unset, .unset, .unset, .unset, .unset, .unset] [(.int z28)])) rfl (by rw [hml]; rfl) (argsL := [(.int z28)]) (rest := []) (lenOf pd_6 rfl) rfl (by show 2 * 0 + _ ≤ _; exact Nat.le_of_eq rfl) (hb hby at_53) (fun _ _ => ⟨rfl, e0, (by decide : 0 + 2 ≤ _), (by decide : 0 + 72 ≤ _)⟩)
      dsimp only [Pt.U, Pt.locs, Pt.cells, Pt.slots] at X35 l35 y35 z35 st35 hQ35 hSq35 gq35 CRq35
      rw [l35, y35, z35] at X35
      have X35 := X35.mono (cells' := 2) (slots' := 72) (by decide) (by decide)
      obtain ⟨X35, hSn, hZ, hown⟩ := rebS hSn (by rw [e0]; exact kS0) X35 hSq35 gq35 hZ hown
      have kS35 := Nat.le_refl T35.heap.size
      have CR35q := CR0.trans CRq35
      obtain ⟨rfl, Nq35, Kq35, Gq35⟩ := hQ35
      have N35n := Fr.app N0 Nq35
      have Z36 := Nat.le_trans Z0 Kq35.1
      have K37 := K0.trans Kq35 all0
      have P38 : own_Pr p.tables e below S0 T35 (mkF m 56 #[.val (.int p1), .val (.int p2), .val (.int p3), .val (.int p4), .val (.int p5), .val (.int z22), .val (.int z28), .val (.int z30), .unset, .unset, .unset, .unset, .unset, .unset, .unset, .unset] [(.int (own_nm z28))]) := fun t k => P34 t (st35.trans k)
      exact ⟨T35, _, T35.heap, _, _, (own_nm z28), X35.mono (by decide) (by decide), N35n, rfl, K37, hSn, kS35, hZ, hown, CR35q, (if_pos hc39_33).symm, P38⟩
    · have P39 : own_Pr p.tables e below S0 s₁ (mkF m 56 #[.val (.int p1), .val (.int p2), .val (.int p3), .val (.int p4), .val (.int p5), .val (.int z22), .val (.int z28), .val (.int z30), .unset, .unset, .unset, .unset, .unset, .unset, .unset, .unset] [(.int ((p3 &&& (255 : Int32)).toUInt32.toUInt16.toUInt32.toInt32))]) := fun t k => P31 t (by
        refine XS.ifNo X0.here hx rfl (hb hby at_39) rfl (XT.i0_eq_f hc39_33) ?_
        refine XS.iloadN X0.here hx rfl (hb hby at_42) rfl ?_
        refine XS.sipush X0.here hx rfl (hb hby at_43) ?_
        refine XS.iand X0.here hx rfl (hb hby at_46) rfl ?_
        refine XS.i2c X0.here hx rfl (hb hby at_47) rfl ?_
        refine XS.goto X0.here hx rfl (pc0 := 48) (pc' := 56) rfl (hb hby at_48) (by decide) (by decide) ?_
        exact k)
      exact ⟨s₁, _, h0, _, _, ((p3 &&& (255 : Int32)).toUInt32.toUInt16.toUInt32.toInt32), X0.mono (by decide) (by decide), N0, e0, K0, hSn, kS0, hZ, hown, CR0, (if_neg hc39_33).symm, P39⟩
  have Z32m : n0 ≤ h32.size := Nat.le_trans Z0 K32.1
  have hZ : Z.Warmed39 (s.setVm vm32).vm := hZ
  have hcc32 := own_cch hz32
  have P40 : own_Pr p.tables e below S0 T32 (mkF m 64 #[.val (.int p1), .val (.int p2), .val (.int p3), .val (.int p4), .val (.int p5), .val (.int z22), .val (.int z28), .val (.int z30), .val (.int z32), .unset, .unset, .unset, .unset, .unset, .unset, .unset] [(.int (p5 &&& (256 : Int32)))]) := fun t k => P32 t (by
    refine XS.istore X32.here hx rfl (hb hby at_56) rfl (l' := #[.val (.int p1), .val (.int p2), .val (.int p3), .val (.int p4), .val (.int p5), .val (.int z22), .val (.int z28), .val (.int z30), .val (.int z32), .unset, .unset, .unset, .unset, .unset, .unset, .unset]) rfl ?_
    refine XS.iload X32.here hx rfl (hb hby at_58) rfl ?_
    refine XS.sipush X32.here hx rfl (hb hby at_60) ?_
    refine XS.iand X32.here hx rfl (hb hby at_63) rfl ?_
    exact k)
  obtain ⟨T41, locs41, h41, vm41, kk41, z41, X41, N41, e41, K41, hSn, kS41, hZ, hown, CR41, hz41, P41⟩ : ∃ (T' : State) (locs' : List Loc) (h' : Heap) (vm' : Vm) (k' : Nat) (z : Int32), Stand p l e room_1 (s.setVm vm') m #[(.int p1), (.int p2), (.int p3), (.int p4), (.int p5)] below meth c T' locs' 4 144 ∧ Fr n0 locs' ∧ T'.heap = h' ∧ Keep h0 h' [] ∧ s.Since vm' k' ∧ k' ≤ h'.size ∧ Z.Warmed39 vm' ∧ vm'.findClass "com/example/firmhold/firmhold/PermissionNamedPinLaw" = some m.cls ∧ CHr Z consts_1 s.vm h0 vm' h' ∧ z = (if (p5 &&& (256 : Int32)) = (0 : Int32) then own_nm z30 else ((p5 &&& (255 : Int32)).toUInt32.toUInt16.toUInt32.toInt32)) ∧ own_Pr p.tables e below S0 T' (mkF m 82 #[.val (.int p1), .val (.int p2), .val (.int p3), .val (.int p4), .val (.int p5), .val (.int z22), .val (.int z28), .val (.int z30), .val (.int z32), .unset, .unset, .unset, .unset, .unset, .unset, .unset] [(.int z)]) := by
    by_cases hc64_42 : (p5 &&& (256 : Int32)) = (0 : Int32)
    · have P43 : own_Pr p.tables e below S0 T32 (mkF m 79 #[.val (.int p1), .val (.int p2), .val (.int p3), .val (.int p4), .val (.int p5), .val (.int z22), .val (.int z28), .val (.int z30), .val (.int z32), .unset, .unset, .unset, .unset, .unset, .unset, .unset] [(.int z30)]) := fun t k => P40 t (by
        refine XS.ifYes X32.here hx rfl (pc0 := 64) (pc' := 77) rfl (hb hby at_64) rfl (XT.i0_eq_t hc64_42) (by decide) (by decide) ?_
        refine XS.iload X32.here hx rfl (hb hby at_77) rfl ?_
        exact k)
      obtain ⟨_, _, ⟨T44, L44, k44, n44⟩, -, X44, hSq44, gq44, ⟨Lc44, hQ44, l44, y44, z44, CRq44⟩, st44⟩ := callSS X32 hx (y := (⟨"com/example/firmhold/firmhold/PermissionNamedPinLaw", "nm", "(I)C"⟩ : MethodName)) hown (mvT hZ (hw _ (List.mem_of_getElem? (i := 1) rfl))) (mvT hZ (hw _ (List.mem_of_getElem? (i := 2) rfl))) (mvT hZ (hw _ (List.mem_of_getElem? (i := 3) rfl))) (mvT hZ (hw _ (List.mem_of_getElem? (i := 4) rfl))) (by decide) (own_backG (W := 0) (rm1 l Z a0 hw [] z30 cs fm h32 n0 Z32m (own_sta_keep0 CS K32) hcs (own_sta_keep0 FM K32) hr_fm) hZ (hw _ (List.mem_of_getElem? (i := 4) rfl)) (hw _ (List.mem_of_getElem? (i := 3) rfl)) (by decide) (by decide) (own_EW hw) CR32.1) (g := (mkF m 79 #[.val (.int p1), .val (.int p2), .val (.int p3), .val (.int p4), .val (.int p5), .val (.int z22), .val (.int z28), .val (.int z30), .val (.int z32), .unset, .unset, .unset, .unset, .unset, .unset, .unset] [(.int z30)])) rfl (by rw [hml]; rfl) (argsL := [(.int z30)]) (rest := []) (lenOf pd_6 rfl) rfl (by show 2 * 0 + _ ≤ _; exact Nat.le_of_eq rfl) (hb hby at_79) (fun _ _ => ⟨rfl, e32, (by decide : 2 + 2 ≤ _), (by decide : 72 + 72 ≤ _)⟩)
      dsimp only [Pt.U, Pt.locs, Pt.cells, Pt.slots] at X44 l44 y44 z44 st44 hQ44 hSq44 gq44 CRq44
      rw [l44, y44, z44] at X44
      have X44 := X44.mono (cells' := 4) (slots' := 144) (by decide) (by decide)
      obtain ⟨X44, hSn, hZ, hown⟩ := rebS hSn (by rw [e32]; exact kS32) X44 hSq44 gq44 hZ hown
      have kS44 := Nat.le_refl T44.heap.size
      have CR44q := CR32.trans CRq44
      obtain ⟨rfl, Nq44, Kq44, Gq44⟩ := hQ44
      have N44n := Fr.app N32 Nq44
      have Z45 := Nat.le_trans Z32m Kq44.1
      have K46 := K32.trans Kq44 all0
      have P47 : own_Pr p.tables e below S0 T44 (mkF m 82 #[.val (.int p1), .val (.int p2), .val (.int p3), .val (.int p4), .val (.int p5), .val (.int z22), .val (.int z28), .val (.int z30), .val (.int z32), .unset, .unset, .unset, .unset, .unset, .unset, .unset] [(.int (own_nm z30))]) := fun t k => P43 t (st44.trans k)
      exact ⟨T44, _, T44.heap, _, _, (own_nm z30), X44.mono (by decide) (by decide), N44n, rfl, K46, hSn, kS44, hZ, hown, CR44q, (if_pos hc64_42).symm, P47⟩
    · have P48 : own_Pr p.tables e below S0 T32 (mkF m 82 #[.val (.int p1), .val (.int p2), .val (.int p3), .val (.int p4), .val (.int p5), .val (.int z22), .val (.int z28), .val (.int z30), .val (.int z32), .unset, .unset, .unset, .unset, .unset, .unset, .unset] [(.int ((p5 &&& (255 : Int32)).toUInt32.toUInt16.toUInt32.toInt32))]) := fun t k => P40 t (by
        refine XS.ifNo X32.here hx rfl (hb hby at_64) rfl (XT.i0_eq_f hc64_42) ?_
        refine XS.iload X32.here hx rfl (hb hby at_67) rfl ?_
        refine XS.sipush X32.here hx rfl (hb hby at_69) ?_
        refine XS.iand X32.here hx rfl (hb hby at_72) rfl ?_
        refine XS.i2c X32.here hx rfl (hb hby at_73) rfl ?_
        refine XS.goto X32.here hx rfl (pc0 := 74) (pc' := 82) rfl (hb hby at_74) (by decide) (by decide) ?_
        exact k)
      exact ⟨T32, _, h32, _, _, ((p5 &&& (255 : Int32)).toUInt32.toUInt16.toUInt32.toInt32), X32.mono (by decide) (by decide), N32, e32, K32, hSn, kS32, hZ, hown, CR32, (if_neg hc64_42).symm, P48⟩
  have Z41m : n0 ≤ h41.size := Nat.le_trans Z0 K41.1
  have hZ : Z.Warmed39 (s.setVm vm41).vm := hZ
  have hcc41 := own_cch hz41
  have P49 : own_Pr p.tables e below S0 T41 (mkF m 86 #[.val (.int p1), .val (.int p2), .val (.int p3), .val (.int p4), .val (.int p5), .val (.int z22), .val (.int z28), .val (.int z30), .val (.int z32), .val (.int z41), .unset, .unset, .unset, .unset, .unset, .unset] [(.int 18)]) := fun t k => P41 t (by
    refine XS.istore X41.here hx rfl (hb hby at_82) rfl (l' := #[.val (.int p1), .val (.int p2), .val (.int p3), .val (.int p4), .val (.int p5), .val (.int z22), .val (.int z28), .val (.int z30), .val (.int z32), .val (.int z41), .unset, .unset, .unset, .unset, .unset, .unset]) rfl ?_
    refine XS.bipush X41.here hx rfl (hb hby at_84) ?_
    exact k)
  obtain ⟨T50, h50, k50, X50, e50, E50, A50, st50⟩ := newP X41 hx hZ (hw _ (List.mem_of_getElem? (i := 48) rfl)) e41 (g := (mkF m 86 #[.val (.int p1), .val (.int p2), .val (.int p3), .val (.int p4), .val (.int p5), .val (.int z22), .val (.int z28), .val (.int z30), .val (.int z32), .val (.int z41), .unset, .unset, .unset, .unset, .unset, .unset] [(.int 18)])) rfl (hb hby at_86) rfl (by decide) (cap := 18) (by decide) (by decide) (by decide) (by decide)
  obtain ⟨b50, g50⟩ : ∃ z, z = h41.size := ⟨_, rfl⟩
  rw [← g50] at A50 st50
  have g_b50 : n0 ≤ b50 := Nat.le_trans Z41m (Nat.le_of_eq g50.symm)
  have sz_b50 : h0.size ≤ b50 := Nat.le_trans K41.1 (Nat.le_of_eq g50.symm)
  have Z51 : n0 ≤ h50.size := Nat.le_trans Z41m E50.1
  have K52 := K41.ext E50
  have CR53 := CR41.trans (CHr.ext E50 CR41.1)
  have kS54 := Nat.le_trans kS41 E50.1
  have F55 : Arv Z h50 b50 k50 .char (18 : Int32) [(.int (0 : Int32)), (.int (0 : Int32)), (.int (0 : Int32)), (.int (0 : Int32)), (.int (0 : Int32)), (.int (0 : Int32)), (.int (0 : Int32)), (.int (0 : Int32)), (.int (0 : Int32)), (.int (0 : Int32)), (.int (0 : Int32)), (.int (0 : Int32)), (.int (0 : Int32)), (.int (0 : Int32)), (.int (0 : Int32)), (.int (0 : Int32)), (.int (0 : Int32)), (.int (0 : Int32))] (.int (0 : Int32)) := (Arv.new A50 (by decide)).pad (pad_rep [] (.int (0 : Int32)) 18)
  have P56 : own_Pr p.tables e below S0 T50 (mkF m 88 #[.val (.int p1), .val (.int p2), .val (.int p3), .val (.int p4), .val (.int p5), .val (.int z22), .val (.int z28), .val (.int z30), .val (.int z32), .val (.int z41), .unset, .unset, .unset, .unset, .unset, .unset] [(.ref b50)]) := fun t k => P49 t (st50 _ k)
  obtain ⟨T57, locs57, h57, vm57, kk57, lt, X57, N57, e57, K57, hSn, kS57, hZ, hown, CR57, V57, Sl, Lt, P57⟩ : ∃ (T' : State) (locs' : List Loc) (h' : Heap) (vm' : Vm) (k' : Nat) (lt : Addr), Stand p l e room_1 (s.setVm vm') m #[(.int p1), (.int p2), (.int p3), (.int p4), (.int p5)] below meth c T' locs' 11 378 ∧ Fr n0 locs' ∧ T'.heap = h' ∧ Keep h0 h' [] ∧ s.Since vm' k' ∧ k' ≤ h'.size ∧ Z.Warmed39 vm' ∧ vm'.findClass "com/example/firmhold/firmhold/PermissionNamedPinLaw" = some m.cls ∧ CHr Z consts_1 s.vm h0 vm' h' ∧ Arv Z h' b50 k50 .char (18 : Int32) [(.int (nar .char (own_at z22 (0 : Int32) z28 z32 z30 z41))), (.int (nar .char (own_at z22 (1 : Int32) z28 z32 z30 z41))), (.int (nar .char (own_at z22 (2 : Int32) z28 z32 z30 z41))), (.int 0), (.int 0), (.int 0), (.int 0), (.int 0), (.int 0), (.int 0), (.int 0), (.int 0), (.int 0), (.int 0), (.int 0), (.int 0), (.int 0), (.int 0)] (.int (0 : Int32)) ∧ own_Sc Z h' lt 17 own_XS ∧ own_Lt Z vm' lt ∧ own_Pr p.tables e below S0 T' (mkF m 139 #[.val (.int p1), .val (.int p2), .val (.int p3), .val (.int p4), .val (.int p5), .val (.int z22), .val (.int z28), .val (.int z30), .val (.int z32), .val (.int z41), .unset, .unset, .unset, .unset, .unset, .unset] [(.ref b50)]) := by
    rcases own_012 z28 z30 with hA | hA | hA
    · have _u := hA
      have P58 : own_Pr p.tables e below S0 T50 (mkF m 101 #[.val (.int p1), .val (.int p2), .val (.int p3), .val (.int p4), .val (.int p5), .val (.int z22), .val (.int z28), .val (.int z30), .val (.int z32), .val (.int z41), .unset, .unset, .unset, .unset, .unset, .unset] [(.int z41), (.int z30), (.int z32), (.int z28), (.int 0), (.int z22), (.int 0), (.ref b50), (.ref b50)]) := fun t k => P56 t (by
        refine XS.dup X50.here hx rfl (hb hby at_88) rfl rfl ?_
        refine XS.iconst X50.here hx rfl (hb hby at_89) ?_
        refine XS.iload X50.here hx rfl (hb hby at_90) rfl ?_
        refine XS.iconst X50.here hx rfl (hb hby at_92) ?_
        refine XS.iload X50.here hx rfl (hb hby at_93) rfl ?_
        refine XS.iload X50.here hx rfl (hb hby at_95) rfl ?_
        refine XS.iload X50.here hx rfl (hb hby at_97) rfl ?_
        refine XS.iload X50.here hx rfl (hb hby at_99) rfl ?_
        exact k)
      obtain ⟨_, _, ⟨T59, L59, k59, n59⟩, -, X59, hSq59, gq59, ⟨Lc59, hQ59, l59, y59, z59, CRq59⟩, st59⟩ := callSS X50 hx (y := (⟨"com/example/firmhold/firmhold/PermissionNamedPinLaw", "at", "(IIICIC)C"⟩ : MethodName)) hown (mvT hZ (hw _ (List.mem_of_getElem? (i := 49) rfl))) (mvT hZ (hw _ (List.mem_of_getElem? (i := 50) rfl))) (mvT hZ (hw _ (List.mem_of_getElem? (i := 3) rfl))) (mvT hZ (hw _ (List.mem_of_getElem? (i := 51) rfl))) (by decide) (own_backG (W := 3) (rm9 l Z a0 hw [] z22 (0 : Int32) z28 z32 z30 z41 cs fm h50 n0 Z51 (own_sta_keep0 CS K52) hcs (own_sta_keep0 FM K52) hr_fm hcc32.1 hcc41.1) hZ (hw _ (List.mem_of_getElem? (i := 51) rfl)) (hw _ (List.mem_of_getElem? (i := 3) rfl)) (by decide) (by decide) (own_EW hw) CR53.1) (g := (mkF m 101 #[.val (.int p1), .val (.int p2), .val (.int p3), .val (.int p4), .val (.int p5), .val (.int z22), .val (.int z28), .val (.int z30), .val (.int z32), .val (.int z41), .unset, .unset, .unset, .unset, .unset, .unset] [(.int z41), (.int z30), (.int z32), (.int z28), (.int 0), (.int z22), (.int 0), (.ref b50), (.ref b50)])) rfl (by rw [hml]; rfl) (argsL := [(.int z22), (.int 0), (.int z28), (.int z32), (.int z30), (.int z41)]) (rest := [(.int 0), (.ref b50), (.ref b50)]) (lenOf pd_13 rfl) rfl (by show 2 * 0 + _ ≤ _; exact Nat.le_of_eq rfl) (hb hby at_101) (fun _ _ => ⟨rfl, e50, (by decide : 5 + 2 ≤ _), (by decide : 162 + 72 ≤ _)⟩)
      dsimp only [Pt.U, Pt.locs, Pt.cells, Pt.slots] at X59 l59 y59 z59 st59 hQ59 hSq59 gq59 CRq59
      rw [l59, y59, z59] at X59
      have X59 := X59.mono (cells' := 7) (slots' := 234) (by decide) (by decide)
      obtain ⟨X59, hSn, hZ, hown⟩ := rebS hSn (by rw [e50]; exact kS54) X59 hSq59 gq59 hZ hown
      have kS59 := Nat.le_refl T59.heap.size
      have CR59q := CR53.trans CRq59
      obtain ⟨rfl, Nq59, Kq59, Gq59⟩ := hQ59
      have N59n := Fr.app N41 Nq59
      have F60 := F55.keep Kq59 nin0
      have Z61 := Nat.le_trans Z51 Kq59.1
      have K62 := K52.trans Kq59 all0
      obtain ⟨lt, Sl59, Lt59⟩ := Gq59 hA
      have P63 : own_Pr p.tables e below S0 T59 (mkF m 104 #[.val (.int p1), .val (.int p2), .val (.int p3), .val (.int p4), .val (.int p5), .val (.int z22), .val (.int z28), .val (.int z30), .val (.int z32), .val (.int z41), .unset, .unset, .unset, .unset, .unset, .unset] [(.int (own_at z22 (0 : Int32) z28 z32 z30 z41)), (.int 0), (.ref b50), (.ref b50)]) := fun t k => P58 t (st59.trans k)
      obtain ⟨cl64, Ar64, q64, S64, N64, H64, G64⟩ := id F60
      have hin64 : ¬ ((0 : Int32) < 0 ∨ cl64.slots.size ≤ ((0 : Int32)).toNatClampNeg) := inb_of S64 ⟨by decide, by decide⟩
      obtain ⟨T64, h64, X64, e64, W64, st64⟩ := stC X59 hx hZ rfl Ar64 (j := (0 : Int32)) hin64 (g := (mkF m 104 #[.val (.int p1), .val (.int p2), .val (.int p3), .val (.int p4), .val (.int p5), .val (.int z22), .val (.int z28), .val (.int z30), .val (.int z32), .val (.int z41), .unset, .unset, .unset, .unset, .unset, .unset] [(.int (own_at z22 (0 : Int32) z28 z32 z30 z41)), (.int 0), (.ref b50), (.ref b50)])) rfl rfl (hb hby at_104)
      have V64 : Arv Z h64 b50 k50 .char (18 : Int32) [(.int (nar .char (own_at z22 (0 : Int32) z28 z32 z30 z41))), (.int 0), (.int 0), (.int 0), (.int 0), (.int 0), (.int 0), (.int 0), (.int 0), (.int 0), (.int 0), (.int 0), (.int 0), (.int 0), (.int 0), (.int 0), (.int 0), (.int 0)] (.int (0 : Int32)) := Arv.set Ar64 q64 S64 N64 H64 G64 (fits_nar_char _) W64 0 rfl (Nat.le_of_ble_eq_true rfl)
      have CR65 := CR59q.trans (CHr.wr W64 (Safe.arv hZ.alike F60 (by decide)) CR59q.1)
      have F66 := own_Sc.wrC Sl59 W64 F60 (hw _ (List.mem_of_getElem? (i := 7) rfl))
      have Z67 : n0 ≤ h64.size := by rw [W64.size]; exact Z61
      have kS68 := Nat.le_trans kS59 (Nat.le_of_eq W64.size.symm)
      have NF64 := Fr.snoc X64 N59n g_b50
      have K69 := K62.wr W64 (Or.inr sz_b50)
      have P70 : own_Pr p.tables e below S0 T64 (mkF m 105 #[.val (.int p1), .val (.int p2), .val (.int p3), .val (.int p4), .val (.int p5), .val (.int z22), .val (.int z28), .val (.int z30), .val (.int z32), .val (.int z41), .unset, .unset, .unset, .unset, .unset, .unset] [(.ref b50)]) := fun t k => P63 t (st64 _ k)
      have P71 : own_Pr p.tables e below S0 T64 (mkF m 118 #[.val (.int p1), .val (.int p2), .val (.int p3), .val (.int p4), .val (.int p5), .val (.int z22), .val (.int z28), .val (.int z30), .val (.int z32), .val (.int z41), .unset, .unset, .unset, .unset, .unset, .unset] [(.int z41), (.int z30), (.int z32), (.int z28), (.int 1), (.int z22), (.int 1), (.ref b50), (.ref b50)]) := fun t k => P70 t (by
        refine XS.dup X64.here hx rfl (hb hby at_105) rfl rfl ?_
        refine XS.iconst X64.here hx rfl (hb hby at_106) ?_
        refine XS.iload X64.here hx rfl (hb hby at_107) rfl ?_
        refine XS.iconst X64.here hx rfl (hb hby at_109) ?_
        refine XS.iload X64.here hx rfl (hb hby at_110) rfl ?_
        refine XS.iload X64.here hx rfl (hb hby at_112) rfl ?_
        refine XS.iload X64.here hx rfl (hb hby at_114) rfl ?_
        refine XS.iload X64.here hx rfl (hb hby at_116) rfl ?_
        exact k)
      obtain ⟨_, _, ⟨T72, L72, k72, n72⟩, -, X72, ⟨Lc72, hQ72, l72, y72, z72⟩, st72⟩ := Jvm.LawKit.callS X64 hx (y := (⟨"com/example/firmhold/firmhold/PermissionNamedPinLaw", "at", "(IIICIC)C"⟩ : MethodName)) hown (mvT hZ (hw _ (List.mem_of_getElem? (i := 49) rfl))) (mvT hZ (hw _ (List.mem_of_getElem? (i := 50) rfl))) (mvT hZ (hw _ (List.mem_of_getElem? (i := 3) rfl))) (mvT hZ (hw _ (List.mem_of_getElem? (i := 51) rfl))) (by decide) (own_backL (W := 3) (rm9_b l Z a0 hw [] z22 (1 : Int32) z28 z32 z30 z41 lt cs fm h64 n0 Z67 F66 (own_sta_keep0 CS K69) hcs (own_sta_keep0 FM K69) hr_fm hcc32.1 hcc41.1) hZ (hw _ (List.mem_of_getElem? (i := 51) rfl)) (hw _ (List.mem_of_getElem? (i := 3) rfl)) (by decide) (by decide) (fun vm hv => (State.resolvedAt?_warmed39 hv Lt59))) (g := (mkF m 118 #[.val (.int p1), .val (.int p2), .val (.int p3), .val (.int p4), .val (.int p5), .val (.int z22), .val (.int z28), .val (.int z30), .val (.int z32), .val (.int z41), .unset, .unset, .unset, .unset, .unset, .unset] [(.int z41), (.int z30), (.int z32), (.int z28), (.int 1), (.int z22), (.int 1), (.ref b50), (.ref b50)])) rfl (by rw [hml]; rfl) (argsL := [(.int z22), (.int 1), (.int z28), (.int z32), (.int z30), (.int z41)]) (rest := [(.int 1), (.ref b50), (.ref b50)]) (lenOf pd_13 rfl) rfl (by show 2 * 0 + _ ≤ _; exact Nat.le_of_eq rfl) (hb hby at_118) (fun _ _ => ⟨rfl, e64, (by decide : 7 + 0 ≤ _), (by decide : 234 + 0 ≤ _)⟩)
      dsimp only [Pt.U, Pt.locs, Pt.cells, Pt.slots] at X72 l72 y72 z72 st72 hQ72
      rw [l72, y72, z72] at X72
      have X72 := X72.mono (cells' := 7) (slots' := 234) (by decide) (by decide)
      obtain ⟨z72v, rfl, hz72v, Nq72, eq72⟩ := hQ72
      have N72n := Fr.app NF64 Nq72
      have hy72 := hz72v.symm; subst hy72
      have P73 : own_Pr p.tables e below S0 T72 (mkF m 121 #[.val (.int p1), .val (.int p2), .val (.int p3), .val (.int p4), .val (.int p5), .val (.int z22), .val (.int z28), .val (.int z30), .val (.int z32), .val (.int z41), .unset, .unset, .unset, .unset, .unset, .unset] [(.int (own_at z22 (1 : Int32) z28 z32 z30 z41)), (.int 1), (.ref b50), (.ref b50)]) := fun t k => P71 t (st72 _ k)
      obtain ⟨cl74, Ar74, q74, S74, N74, H74, G74⟩ := id V64
      have hin74 : ¬ ((1 : Int32) < 0 ∨ cl74.slots.size ≤ ((1 : Int32)).toNatClampNeg) := inb_of S74 ⟨by decide, by decide⟩
      obtain ⟨T74, h74, X74, e74, W74, st74⟩ := stC X72 hx hZ eq72 Ar74 (j := (1 : Int32)) hin74 (g := (mkF m 121 #[.val (.int p1), .val (.int p2), .val (.int p3), .val (.int p4), .val (.int p5), .val (.int z22), .val (.int z28), .val (.int z30), .val (.int z32), .val (.int z41), .unset, .unset, .unset, .unset, .unset, .unset] [(.int (own_at z22 (1 : Int32) z28 z32 z30 z41)), (.int 1), (.ref b50), (.ref b50)])) rfl rfl (hb hby at_121)
      have V74 : Arv Z h74 b50 k50 .char (18 : Int32) [(.int (nar .char (own_at z22 (0 : Int32) z28 z32 z30 z41))), (.int (nar .char (own_at z22 (1 : Int32) z28 z32 z30 z41))), (.int 0), (.int 0), (.int 0), (.int 0), (.int 0), (.int 0), (.int 0), (.int 0), (.int 0), (.int 0), (.int 0), (.int 0), (.int 0), (.int 0), (.int 0), (.int 0)] (.int (0 : Int32)) := Arv.set Ar74 q74 S74 N74 H74 G74 (fits_nar_char _) W74 1 rfl (Nat.le_of_ble_eq_true rfl)
      have CR75 := CR65.trans (CHr.wr W74 (Safe.arv hZ.alike V64 (by decide)) CR65.1)
      have F76 := own_Sc.wrC F66 W74 V64 (hw _ (List.mem_of_getElem? (i := 7) rfl))
      have Z77 : n0 ≤ h74.size := by rw [W74.size]; exact Z67
      have kS78 := Nat.le_trans kS68 (Nat.le_of_eq W74.size.symm)
      have NF74 := Fr.snoc X74 N72n g_b50
      have K79 := K69.wr W74 (Or.inr sz_b50)
      have P80 : own_Pr p.tables e below S0 T74 (mkF m 122 #[.val (.int p1), .val (.int p2), .val (.int p3), .val (.int p4), .val (.int p5), .val (.int z22), .val (.int z28), .val (.int z30), .val (.int z32), .val (.int z41), .unset, .unset, .unset, .unset, .unset, .unset] [(.ref b50)]) := fun t k => P73 t (st74 _ k)
      have P81 : own_Pr p.tables e below S0 T74 (mkF m 135 #[.val (.int p1), .val (.int p2), .val (.int p3), .val (.int p4), .val (.int p5), .val (.int z22), .val (.int z28), .val (.int z30), .val (.int z32), .val (.int z41), .unset, .unset, .unset, .unset, .unset, .unset] [(.int z41), (.int z30), (.int z32), (.int z28), (.int 2), (.int z22), (.int 2), (.ref b50), (.ref b50)]) := fun t k => P80 t (by
        refine XS.dup X74.here hx rfl (hb hby at_122) rfl rfl ?_
        refine XS.iconst X74.here hx rfl (hb hby at_123) ?_
        refine XS.iload X74.here hx rfl (hb hby at_124) rfl ?_
        refine XS.iconst X74.here hx rfl (hb hby at_126) ?_
        refine XS.iload X74.here hx rfl (hb hby at_127) rfl ?_
        refine XS.iload X74.here hx rfl (hb hby at_129) rfl ?_
        refine XS.iload X74.here hx rfl (hb hby at_131) rfl ?_
        refine XS.iload X74.here hx rfl (hb hby at_133) rfl ?_
        exact k)
      obtain ⟨_, _, ⟨T82, L82, k82, n82⟩, -, X82, ⟨Lc82, hQ82, l82, y82, z82⟩, st82⟩ := Jvm.LawKit.callS X74 hx (y := (⟨"com/example/firmhold/firmhold/PermissionNamedPinLaw", "at", "(IIICIC)C"⟩ : MethodName)) hown (mvT hZ (hw _ (List.mem_of_getElem? (i := 49) rfl))) (mvT hZ (hw _ (List.mem_of_getElem? (i := 50) rfl))) (mvT hZ (hw _ (List.mem_of_getElem? (i := 3) rfl))) (mvT hZ (hw _ (List.mem_of_getElem? (i := 51) rfl))) (by decide) (own_backL (W := 3) (rm9_b l Z a0 hw [] z22 (2 : Int32) z28 z32 z30 z41 lt cs fm h74 n0 Z77 F76 (own_sta_keep0 CS K79) hcs (own_sta_keep0 FM K79) hr_fm hcc32.1 hcc41.1) hZ (hw _ (List.mem_of_getElem? (i := 51) rfl)) (hw _ (List.mem_of_getElem? (i := 3) rfl)) (by decide) (by decide) (fun vm hv => (State.resolvedAt?_warmed39 hv Lt59))) (g := (mkF m 135 #[.val (.int p1), .val (.int p2), .val (.int p3), .val (.int p4), .val (.int p5), .val (.int z22), .val (.int z28), .val (.int z30), .val (.int z32), .val (.int z41), .unset, .unset, .unset, .unset, .unset, .unset] [(.int z41), (.int z30), (.int z32), (.int z28), (.int 2), (.int z22), (.int 2), (.ref b50), (.ref b50)])) rfl (by rw [hml]; rfl) (argsL := [(.int z22), (.int 2), (.int z28), (.int z32), (.int z30), (.int z41)]) (rest := [(.int 2), (.ref b50), (.ref b50)]) (lenOf pd_13 rfl) rfl (by show 2 * 0 + _ ≤ _; exact Nat.le_of_eq rfl) (hb hby at_135) (fun _ _ => ⟨rfl, e74, (by decide : 7 + 0 ≤ _), (by decide : 234 + 0 ≤ _)⟩)
      dsimp only [Pt.U, Pt.locs, Pt.cells, Pt.slots] at X82 l82 y82 z82 st82 hQ82
      rw [l82, y82, z82] at X82
      have X82 := X82.mono (cells' := 7) (slots' := 234) (by decide) (by decide)
      obtain ⟨z82v, rfl, hz82v, Nq82, eq82⟩ := hQ82
      have N82n := Fr.app NF74 Nq82
      have hy82 := hz82v.symm; subst hy82
      have P83 : own_Pr p.tables e below S0 T82 (mkF m 138 #[.val (.int p1), .val (.int p2), .val (.int p3), .val (.int p4), .val (.int p5), .val (.int z22), .val (.int z28), .val (.int z30), .val (.int z32), .val (.int z41), .unset, .unset, .unset, .unset, .unset, .unset] [(.int (own_at z22 (2 : Int32) z28 z32 z30 z41)), (.int 2), (.ref b50), (.ref b50)]) := fun t k => P81 t (st82 _ k)
      obtain ⟨cl84, Ar84, q84, S84, N84, H84, G84⟩ := id V74
      have hin84 : ¬ ((2 : Int32) < 0 ∨ cl84.slots.size ≤ ((2 : Int32)).toNatClampNeg) := inb_of S84 ⟨by decide, by decide⟩
      obtain ⟨T84, h84, X84, e84, W84, st84⟩ := stC X82 hx hZ eq82 Ar84 (j := (2 : Int32)) hin84 (g := (mkF m 138 #[.val (.int p1), .val (.int p2), .val (.int p3), .val (.int p4), .val (.int p5), .val (.int z22), .val (.int z28), .val (.int z30), .val (.int z32), .val (.int z41), .unset, .unset, .unset, .unset, .unset, .unset] [(.int (own_at z22 (2 : Int32) z28 z32 z30 z41)), (.int 2), (.ref b50), (.ref b50)])) rfl rfl (hb hby at_138)
      have V84 : Arv Z h84 b50 k50 .char (18 : Int32) [(.int (nar .char (own_at z22 (0 : Int32) z28 z32 z30 z41))), (.int (nar .char (own_at z22 (1 : Int32) z28 z32 z30 z41))), (.int (nar .char (own_at z22 (2 : Int32) z28 z32 z30 z41))), (.int 0), (.int 0), (.int 0), (.int 0), (.int 0), (.int 0), (.int 0), (.int 0), (.int 0), (.int 0), (.int 0), (.int 0), (.int 0), (.int 0), (.int 0)] (.int (0 : Int32)) := Arv.set Ar84 q84 S84 N84 H84 G84 (fits_nar_char _) W84 2 rfl (Nat.le_of_ble_eq_true rfl)
      have CR85 := CR75.trans (CHr.wr W84 (Safe.arv hZ.alike V74 (by decide)) CR75.1)
      have F86 := own_Sc.wrC F76 W84 V74 (hw _ (List.mem_of_getElem? (i := 7) rfl))
      have Z87 : n0 ≤ h84.size := by rw [W84.size]; exact Z77
      have kS88 := Nat.le_trans kS78 (Nat.le_of_eq W84.size.symm)
      have NF84 := Fr.snoc X84 N82n g_b50
      have K89 := K79.wr W84 (Or.inr sz_b50)
      have P90 : own_Pr p.tables e below S0 T84 (mkF m 139 #[.val (.int p1), .val (.int p2), .val (.int p3), .val (.int p4), .val (.int p5), .val (.int z22), .val (.int z28), .val (.int z30), .val (.int z32), .val (.int z41), .unset, .unset, .unset, .unset, .unset, .unset] [(.ref b50)]) := fun t k => P83 t (st84 _ k)
      exact ⟨T84, _, h84, _, _, _, X84.mono (by decide) (by decide), NF84, e84, K89, hSn, kS88, hZ, hown, CR85, V84, F86, Lt59, P90⟩
    · have _u := hA
      have P91 : own_Pr p.tables e below S0 T50 (mkF m 101 #[.val (.int p1), .val (.int p2), .val (.int p3), .val (.int p4), .val (.int p5), .val (.int z22), .val (.int z28), .val (.int z30), .val (.int z32), .val (.int z41), .unset, .unset, .unset, .unset, .unset, .unset] [(.int z41), (.int z30), (.int z32), (.int z28), (.int 0), (.int z22), (.int 0), (.ref b50), (.ref b50)]) := fun t k => P56 t (by
        refine XS.dup X50.here hx rfl (hb hby at_88) rfl rfl ?_
        refine XS.iconst X50.here hx rfl (hb hby at_89) ?_
        refine XS.iload X50.here hx rfl (hb hby at_90) rfl ?_
        refine XS.iconst X50.here hx rfl (hb hby at_92) ?_
        refine XS.iload X50.here hx rfl (hb hby at_93) rfl ?_
        refine XS.iload X50.here hx rfl (hb hby at_95) rfl ?_
        refine XS.iload X50.here hx rfl (hb hby at_97) rfl ?_
        refine XS.iload X50.here hx rfl (hb hby at_99) rfl ?_
        exact k)
      obtain ⟨_, _, ⟨T92, L92, k92, n92⟩, -, X92, hSq92, gq92, ⟨Lc92, hQ92, l92, y92, z92, CRq92⟩, st92⟩ := callSS X50 hx (y := (⟨"com/example/firmhold/firmhold/PermissionNamedPinLaw", "at", "(IIICIC)C"⟩ : MethodName)) hown (mvT hZ (hw _ (List.mem_of_getElem? (i := 49) rfl))) (mvT hZ (hw _ (List.mem_of_getElem? (i := 50) rfl))) (mvT hZ (hw _ (List.mem_of_getElem? (i := 3) rfl))) (mvT hZ (hw _ (List.mem_of_getElem? (i := 51) rfl))) (by decide) (own_backG (W := 3) (rm9 l Z a0 hw [] z22 (0 : Int32) z28 z32 z30 z41 cs fm h50 n0 Z51 (own_sta_keep0 CS K52) hcs (own_sta_keep0 FM K52) hr_fm hcc32.1 hcc41.1) hZ (hw _ (List.mem_of_getElem? (i := 51) rfl)) (hw _ (List.mem_of_getElem? (i := 3) rfl)) (by decide) (by decide) (own_EW hw) CR53.1) (g := (mkF m 101 #[.val (.int p1), .val (.int p2), .val (.int p3), .val (.int p4), .val (.int p5), .val (.int z22), .val (.int z28), .val (.int z30), .val (.int z32), .val (.int z41), .unset, .unset, .unset, .unset, .unset, .unset] [(.int z41), (.int z30), (.int z32), (.int z28), (.int 0), (.int z22), (.int 0), (.ref b50), (.ref b50)])) rfl (by rw [hml]; rfl) (argsL := [(.int z22), (.int 0), (.int z28), (.int z32), (.int z30), (.int z41)]) (rest := [(.int 0), (.ref b50), (.ref b50)]) (lenOf pd_13 rfl) rfl (by show 2 * 0 + _ ≤ _; exact Nat.le_of_eq rfl) (hb hby at_101) (fun _ _ => ⟨rfl, e50, (by decide : 5 + 2 ≤ _), (by decide : 162 + 72 ≤ _)⟩)
      dsimp only [Pt.U, Pt.locs, Pt.cells, Pt.slots] at X92 l92 y92 z92 st92 hQ92 hSq92 gq92 CRq92
      rw [l92, y92, z92] at X92
      have X92 := X92.mono (cells' := 7) (slots' := 234) (by decide) (by decide)
      obtain ⟨X92, hSn, hZ, hown⟩ := rebS hSn (by rw [e50]; exact kS54) X92 hSq92 gq92 hZ hown
      have kS92 := Nat.le_refl T92.heap.size
      have CR92q := CR53.trans CRq92
      obtain ⟨rfl, Nq92, Kq92, Gq92⟩ := hQ92
      have N92n := Fr.app N41 Nq92
      have F93 := F55.keep Kq92 nin0
      have Z94 := Nat.le_trans Z51 Kq92.1
      have K95 := K52.trans Kq92 all0
      have P96 : own_Pr p.tables e below S0 T92 (mkF m 104 #[.val (.int p1), .val (.int p2), .val (.int p3), .val (.int p4), .val (.int p5), .val (.int z22), .val (.int z28), .val (.int z30), .val (.int z32), .val (.int z41), .unset, .unset, .unset, .unset, .unset, .unset] [(.int (own_at z22 (0 : Int32) z28 z32 z30 z41)), (.int 0), (.ref b50), (.ref b50)]) := fun t k => P91 t (st92.trans k)
      obtain ⟨cl97, Ar97, q97, S97, N97, H97, G97⟩ := id F93
      have hin97 : ¬ ((0 : Int32) < 0 ∨ cl97.slots.size ≤ ((0 : Int32)).toNatClampNeg) := inb_of S97 ⟨by decide, by decide⟩
      obtain ⟨T97, h97, X97, e97, W97, st97⟩ := stC X92 hx hZ rfl Ar97 (j := (0 : Int32)) hin97 (g := (mkF m 104 #[.val (.int p1), .val (.int p2), .val (.int p3), .val (.int p4), .val (.int p5), .val (.int z22), .val (.int z28), .val (.int z30), .val (.int z32), .val (.int z41), .unset, .unset, .unset, .unset, .unset, .unset] [(.int (own_at z22 (0 : Int32) z28 z32 z30 z41)), (.int 0), (.ref b50), (.ref b50)])) rfl rfl (hb hby at_104)
      have V97 : Arv Z h97 b50 k50 .char (18 : Int32) [(.int (nar .char (own_at z22 (0 : Int32) z28 z32 z30 z41))), (.int 0), (.int 0), (.int 0), (.int 0), (.int 0), (.int 0), (.int 0), (.int 0), (.int 0), (.int 0), (.int 0), (.int 0), (.int 0), (.int 0), (.int 0), (.int 0), (.int 0)] (.int (0 : Int32)) := Arv.set Ar97 q97 S97 N97 H97 G97 (fits_nar_char _) W97 0 rfl (Nat.le_of_ble_eq_true rfl)
      have CR98 := CR92q.trans (CHr.wr W97 (Safe.arv hZ.alike F93 (by decide)) CR92q.1)
      have Z99 : n0 ≤ h97.size := by rw [W97.size]; exact Z94
      have kS100 := Nat.le_trans kS92 (Nat.le_of_eq W97.size.symm)
      have NF97 := Fr.snoc X97 N92n g_b50
      have K101 := K95.wr W97 (Or.inr sz_b50)
      have P102 : own_Pr p.tables e below S0 T97 (mkF m 105 #[.val (.int p1), .val (.int p2), .val (.int p3), .val (.int p4), .val (.int p5), .val (.int z22), .val (.int z28), .val (.int z30), .val (.int z32), .val (.int z41), .unset, .unset, .unset, .unset, .unset, .unset] [(.ref b50)]) := fun t k => P96 t (st97 _ k)
      have P103 : own_Pr p.tables e below S0 T97 (mkF m 118 #[.val (.int p1), .val (.int p2), .val (.int p3), .val (.int p4), .val (.int p5), .val (.int z22), .val (.int z28), .val (.int z30), .val (.int z32), .val (.int z41), .unset, .unset, .unset, .unset, .unset, .unset] [(.int z41), (.int z30), (.int z32), (.int z28), (.int 1), (.int z22), (.int 1), (.ref b50), (.ref b50)]) := fun t k => P102 t (by
        refine XS.dup X97.here hx rfl (hb hby at_105) rfl rfl ?_
        refine XS.iconst X97.here hx rfl (hb hby at_106) ?_
        refine XS.iload X97.here hx rfl (hb hby at_107) rfl ?_
        refine XS.iconst X97.here hx rfl (hb hby at_109) ?_
        refine XS.iload X97.here hx rfl (hb hby at_110) rfl ?_
        refine XS.iload X97.here hx rfl (hb hby at_112) rfl ?_
        refine XS.iload X97.here hx rfl (hb hby at_114) rfl ?_
        refine XS.iload X97.here hx rfl (hb hby at_116) rfl ?_
        exact k)
      obtain ⟨_, _, ⟨T104, L104, k104, n104⟩, -, X104, hSq104, gq104, ⟨Lc104, hQ104, l104, y104, z104, CRq104⟩, st104⟩ := callSS X97 hx (y := (⟨"com/example/firmhold/firmhold/PermissionNamedPinLaw", "at", "(IIICIC)C"⟩ : MethodName)) hown (mvT hZ (hw _ (List.mem_of_getElem? (i := 49) rfl))) (mvT hZ (hw _ (List.mem_of_getElem? (i := 50) rfl))) (mvT hZ (hw _ (List.mem_of_getElem? (i := 3) rfl))) (mvT hZ (hw _ (List.mem_of_getElem? (i := 51) rfl))) (by decide) (own_backG (W := 3) (rm9 l Z a0 hw [] z22 (1 : Int32) z28 z32 z30 z41 cs fm h97 n0 Z99 (own_sta_keep0 CS K101) hcs (own_sta_keep0 FM K101) hr_fm hcc32.1 hcc41.1) hZ (hw _ (List.mem_of_getElem? (i := 51) rfl)) (hw _ (List.mem_of_getElem? (i := 3) rfl)) (by decide) (by decide) (own_EW hw) CR98.1) (g := (mkF m 118 #[.val (.int p1), .val (.int p2), .val (.int p3), .val (.int p4), .val (.int p5), .val (.int z22), .val (.int z28), .val (.int z30), .val (.int z32), .val (.int z41), .unset, .unset, .unset, .unset, .unset, .unset] [(.int z41), (.int z30), (.int z32), (.int z28), (.int 1), (.int z22), (.int 1), (.ref b50), (.ref b50)])) rfl (by rw [hml]; rfl) (argsL := [(.int z22), (.int 1), (.int z28), (.int z32), (.int z30), (.int z41)]) (rest := [(.int 1), (.ref b50), (.ref b50)]) (lenOf pd_13 rfl) rfl (by show 2 * 0 + _ ≤ _; exact Nat.le_of_eq rfl) (hb hby at_118) (fun _ _ => ⟨rfl, e97, (by decide : 7 + 2 ≤ _), (by decide : 234 + 72 ≤ _)⟩)
      dsimp only [Pt.U, Pt.locs, Pt.cells, Pt.slots] at X104 l104 y104 z104 st104 hQ104 hSq104 gq104 CRq104
      rw [l104, y104, z104] at X104
      have X104 := X104.mono (cells' := 9) (slots' := 306) (by decide) (by decide)
      obtain ⟨X104, hSn, hZ, hown⟩ := rebS hSn (by rw [e97]; exact kS100) X104 hSq104 gq104 hZ hown
      have kS104 := Nat.le_refl T104.heap.size
      have CR104q := CR98.trans CRq104
      obtain ⟨rfl, Nq104, Kq104, Gq104⟩ := hQ104
      have N104n := Fr.app NF97 Nq104
      have F105 := V97.keep Kq104 nin0
      have Z106 := Nat.le_trans Z99 Kq104.1
      have K107 := K101.trans Kq104 all0
      obtain ⟨lt, Sl104, Lt104⟩ := Gq104 hA
      have P108 : own_Pr p.tables e below S0 T104 (mkF m 121 #[.val (.int p1), .val (.int p2), .val (.int p3), .val (.int p4), .val (.int p5), .val (.int z22), .val (.int z28), .val (.int z30), .val (.int z32), .val (.int z41), .unset, .unset, .unset, .unset, .unset, .unset] [(.int (own_at z22 (1 : Int32) z28 z32 z30 z41)), (.int 1), (.ref b50), (.ref b50)]) := fun t k => P103 t (st104.trans k)
      obtain ⟨cl109, Ar109, q109, S109, N109, H109, G109⟩ := id F105
      have hin109 : ¬ ((1 : Int32) < 0 ∨ cl109.slots.size ≤ ((1 : Int32)).toNatClampNeg) := inb_of S109 ⟨by decide, by decide⟩
      obtain ⟨T109, h109, X109, e109, W109, st109⟩ := stC X104 hx hZ rfl Ar109 (j := (1 : Int32)) hin109 (g := (mkF m 121 #[.val (.int p1), .val (.int p2), .val (.int p3), .val (.int p4), .val (.int p5), .val (.int z22), .val (.int z28), .val (.int z30), .val (.int z32), .val (.int z41), .unset, .unset, .unset, .unset, .unset, .unset] [(.int (own_at z22 (1 : Int32) z28 z32 z30 z41)), (.int 1), (.ref b50), (.ref b50)])) rfl rfl (hb hby at_121)
      have V109 : Arv Z h109 b50 k50 .char (18 : Int32) [(.int (nar .char (own_at z22 (0 : Int32) z28 z32 z30 z41))), (.int (nar .char (own_at z22 (1 : Int32) z28 z32 z30 z41))), (.int 0), (.int 0), (.int 0), (.int 0), (.int 0), (.int 0), (.int 0), (.int 0), (.int 0), (.int 0), (.int 0), (.int 0), (.int 0), (.int 0), (.int 0), (.int 0)] (.int (0 : Int32)) := Arv.set Ar109 q109 S109 N109 H109 G109 (fits_nar_char _) W109 1 rfl (Nat.le_of_ble_eq_true rfl)
      have CR110 := CR104q.trans (CHr.wr W109 (Safe.arv hZ.alike F105 (by decide)) CR104q.1)
      have F111 := own_Sc.wrC Sl104 W109 F105 (hw _ (List.mem_of_getElem? (i := 7) rfl))
      have Z112 : n0 ≤ h109.size := by rw [W109.size]; exact Z106
      have kS113 := Nat.le_trans kS104 (Nat.le_of_eq W109.size.symm)
      have NF109 := Fr.snoc X109 N104n g_b50
      have K114 := K107.wr W109 (Or.inr sz_b50)
      have P115 : own_Pr p.tables e below S0 T109 (mkF m 122 #[.val (.int p1), .val (.int p2), .val (.int p3), .val (.int p4), .val (.int p5), .val (.int z22), .val (.int z28), .val (.int z30), .val (.int z32), .val (.int z41), .unset, .unset, .unset, .unset, .unset, .unset] [(.ref b50)]) := fun t k => P108 t (st109 _ k)
      have P116 : own_Pr p.tables e below S0 T109 (mkF m 135 #[.val (.int p1), .val (.int p2), .val (.int p3), .val (.int p4), .val (.int p5), .val (.int z22), .val (.int z28), .val (.int z30), .val (.int z32), .val (.int z41), .unset, .unset, .unset, .unset, .unset, .unset] [(.int z41), (.int z30), (.int z32), (.int z28), (.int 2), (.int z22), (.int 2), (.ref b50), (.ref b50)]) := fun t k => P115 t (by
        refine XS.dup X109.here hx rfl (hb hby at_122) rfl rfl ?_
        refine XS.iconst X109.here hx rfl (hb hby at_123) ?_
        refine XS.iload X109.here hx rfl (hb hby at_124) rfl ?_
        refine XS.iconst X109.here hx rfl (hb hby at_126) ?_
        refine XS.iload X109.here hx rfl (hb hby at_127) rfl ?_
        refine XS.iload X109.here hx rfl (hb hby at_129) rfl ?_
        refine XS.iload X109.here hx rfl (hb hby at_131) rfl ?_
        refine XS.iload X109.here hx rfl (hb hby at_133) rfl ?_
        exact k)
      obtain ⟨_, _, ⟨T117, L117, k117, n117⟩, -, X117, ⟨Lc117, hQ117, l117, y117, z117⟩, st117⟩ := Jvm.LawKit.callS X109 hx (y := (⟨"com/example/firmhold/firmhold/PermissionNamedPinLaw", "at", "(IIICIC)C"⟩ : MethodName)) hown (mvT hZ (hw _ (List.mem_of_getElem? (i := 49) rfl))) (mvT hZ (hw _ (List.mem_of_getElem? (i := 50) rfl))) (mvT hZ (hw _ (List.mem_of_getElem? (i := 3) rfl))) (mvT hZ (hw _ (List.mem_of_getElem? (i := 51) rfl))) (by decide) (own_backL (W := 3) (rm9_b l Z a0 hw [] z22 (2 : Int32) z28 z32 z30 z41 lt cs fm h109 n0 Z112 F111 (own_sta_keep0 CS K114) hcs (own_sta_keep0 FM K114) hr_fm hcc32.1 hcc41.1) hZ (hw _ (List.mem_of_getElem? (i := 51) rfl)) (hw _ (List.mem_of_getElem? (i := 3) rfl)) (by decide) (by decide) (fun vm hv => (State.resolvedAt?_warmed39 hv Lt104))) (g := (mkF m 135 #[.val (.int p1), .val (.int p2), .val (.int p3), .val (.int p4), .val (.int p5), .val (.int z22), .val (.int z28), .val (.int z30), .val (.int z32), .val (.int z41), .unset, .unset, .unset, .unset, .unset, .unset] [(.int z41), (.int z30), (.int z32), (.int z28), (.int 2), (.int z22), (.int 2), (.ref b50), (.ref b50)])) rfl (by rw [hml]; rfl) (argsL := [(.int z22), (.int 2), (.int z28), (.int z32), (.int z30), (.int z41)]) (rest := [(.int 2), (.ref b50), (.ref b50)]) (lenOf pd_13 rfl) rfl (by show 2 * 0 + _ ≤ _; exact Nat.le_of_eq rfl) (hb hby at_135) (fun _ _ => ⟨rfl, e109, (by decide : 9 + 0 ≤ _), (by decide : 306 + 0 ≤ _)⟩)
      dsimp only [Pt.U, Pt.locs, Pt.cells, Pt.slots] at X117 l117 y117 z117 st117 hQ117
      rw [l117, y117, z117] at X117
      have X117 := X117.mono (cells' := 9) (slots' := 306) (by decide) (by decide)
      obtain ⟨z117v, rfl, hz117v, Nq117, eq117⟩ := hQ117
      have N117n := Fr.app NF109 Nq117
      have hy117 := hz117v.symm; subst hy117
      have P118 : own_Pr p.tables e below S0 T117 (mkF m 138 #[.val (.int p1), .val (.int p2), .val (.int p3), .val (.int p4), .val (.int p5), .val (.int z22), .val (.int z28), .val (.int z30), .val (.int z32), .val (.int z41), .unset, .unset, .unset, .unset, .unset, .unset] [(.int (own_at z22 (2 : Int32) z28 z32 z30 z41)), (.int 2), (.ref b50), (.ref b50)]) := fun t k => P116 t (st117 _ k)
      obtain ⟨cl119, Ar119, q119, S119, N119, H119, G119⟩ := id V109
      have hin119 : ¬ ((2 : Int32) < 0 ∨ cl119.slots.size ≤ ((2 : Int32)).toNatClampNeg) := inb_of S119 ⟨by decide, by decide⟩
      obtain ⟨T119, h119, X119, e119, W119, st119⟩ := stC X117 hx hZ eq117 Ar119 (j := (2 : Int32)) hin119 (g := (mkF m 138 #[.val (.int p1), .val (.int p2), .val (.int p3), .val (.int p4), .val (.int p5), .val (.int z22), .val (.int z28), .val (.int z30), .val (.int z32), .val (.int z41), .unset, .unset, .unset, .unset, .unset, .unset] [(.int (own_at z22 (2 : Int32) z28 z32 z30 z41)), (.int 2), (.ref b50), (.ref b50)])) rfl rfl (hb hby at_138)
      have V119 : Arv Z h119 b50 k50 .char (18 : Int32) [(.int (nar .char (own_at z22 (0 : Int32) z28 z32 z30 z41))), (.int (nar .char (own_at z22 (1 : Int32) z28 z32 z30 z41))), (.int (nar .char (own_at z22 (2 : Int32) z28 z32 z30 z41))), (.int 0), (.int 0), (.int 0), (.int 0), (.int 0), (.int 0), (.int 0), (.int 0), (.int 0), (.int 0), (.int 0), (.int 0), (.int 0), (.int 0), (.int 0)] (.int (0 : Int32)) := Arv.set Ar119 q119 S119 N119 H119 G119 (fits_nar_char _) W119 2 rfl (Nat.le_of_ble_eq_true rfl)
      have CR120 := CR110.trans (CHr.wr W119 (Safe.arv hZ.alike V109 (by decide)) CR110.1)
      have F121 := own_Sc.wrC F111 W119 V109 (hw _ (List.mem_of_getElem? (i := 7) rfl))
      have Z122 : n0 ≤ h119.size := by rw [W119.size]; exact Z112
      have kS123 := Nat.le_trans kS113 (Nat.le_of_eq W119.size.symm)
      have NF119 := Fr.snoc X119 N117n g_b50
      have K124 := K114.wr W119 (Or.inr sz_b50)
      have P125 : own_Pr p.tables e below S0 T119 (mkF m 139 #[.val (.int p1), .val (.int p2), .val (.int p3), .val (.int p4), .val (.int p5), .val (.int z22), .val (.int z28), .val (.int z30), .val (.int z32), .val (.int z41), .unset, .unset, .unset, .unset, .unset, .unset] [(.ref b50)]) := fun t k => P118 t (st119 _ k)
      exact ⟨T119, _, h119, _, _, _, X119.mono (by decide) (by decide), NF119, e119, K124, hSn, kS123, hZ, hown, CR120, V119, F121, Lt104, P125⟩
    · have _u := hA
      have P126 : own_Pr p.tables e below S0 T50 (mkF m 101 #[.val (.int p1), .val (.int p2), .val (.int p3), .val (.int p4), .val (.int p5), .val (.int z22), .val (.int z28), .val (.int z30), .val (.int z32), .val (.int z41), .unset, .unset, .unset, .unset, .unset, .unset] [(.int z41), (.int z30), (.int z32), (.int z28), (.int 0), (.int z22), (.int 0), (.ref b50), (.ref b50)]) := fun t k => P56 t (by
        refine XS.dup X50.here hx rfl (hb hby at_88) rfl rfl ?_
        refine XS.iconst X50.here hx rfl (hb hby at_89) ?_
        refine XS.iload X50.here hx rfl (hb hby at_90) rfl ?_
        refine XS.iconst X50.here hx rfl (hb hby at_92) ?_
        refine XS.iload X50.here hx rfl (hb hby at_93) rfl ?_
        refine XS.iload X50.here hx rfl (hb hby at_95) rfl ?_
        refine XS.iload X50.here hx rfl (hb hby at_97) rfl ?_
        refine XS.iload X50.here hx rfl (hb hby at_99) rfl ?_
        exact k)
      obtain ⟨_, _, ⟨T127, L127, k127, n127⟩, -, X127, hSq127, gq127, ⟨Lc127, hQ127, l127, y127, z127, CRq127⟩, st127⟩ := callSS X50 hx (y := (⟨"com/example/firmhold/firmhold/PermissionNamedPinLaw", "at", "(IIICIC)C"⟩ : MethodName)) hown (mvT hZ (hw _ (List.mem_of_getElem? (i := 49) rfl))) (mvT hZ (hw _ (List.mem_of_getElem? (i := 50) rfl))) (mvT hZ (hw _ (List.mem_of_getElem? (i := 3) rfl))) (mvT hZ (hw _ (List.mem_of_getElem? (i := 51) rfl))) (by decide) (own_backG (W := 3) (rm9 l Z a0 hw [] z22 (0 : Int32) z28 z32 z30 z41 cs fm h50 n0 Z51 (own_sta_keep0 CS K52) hcs (own_sta_keep0 FM K52) hr_fm hcc32.1 hcc41.1) hZ (hw _ (List.mem_of_getElem? (i := 51) rfl)) (hw _ (List.mem_of_getElem? (i := 3) rfl)) (by decide) (by decide) (own_EW hw) CR53.1) (g := (mkF m 101 #[.val (.int p1), .val (.int p2), .val (.int p3), .val (.int p4), .val (.int p5), .val (.int z22), .val (.int z28), .val (.int z30), .val (.int z32), .val (.int z41), .unset, .unset, .unset, .unset, .unset, .unset] [(.int z41), (.int z30), (.int z32), (.int z28), (.int 0), (.int z22), (.int 0), (.ref b50), (.ref b50)])) rfl (by rw [hml]; rfl) (argsL := [(.int z22), (.int 0), (.int z28), (.int z32), (.int z30), (.int z41)]) (rest := [(.int 0), (.ref b50), (.ref b50)]) (lenOf pd_13 rfl) rfl (by show 2 * 0 + _ ≤ _; exact Nat.le_of_eq rfl) (hb hby at_101) (fun _ _ => ⟨rfl, e50, (by decide : 5 + 2 ≤ _), (by decide : 162 + 72 ≤ _)⟩)
      dsimp only [Pt.U, Pt.locs, Pt.cells, Pt.slots] at X127 l127 y127 z127 st127 hQ127 hSq127 gq127 CRq127
      rw [l127, y127, z127] at X127
      have X127 := X127.mono (cells' := 7) (slots' := 234) (by decide) (by decide)
      obtain ⟨X127, hSn, hZ, hown⟩ := rebS hSn (by rw [e50]; exact kS54) X127 hSq127 gq127 hZ hown
      have kS127 := Nat.le_refl T127.heap.size
      have CR127q := CR53.trans CRq127
      obtain ⟨rfl, Nq127, Kq127, Gq127⟩ := hQ127
      have N127n := Fr.app N41 Nq127
      have F128 := F55.keep Kq127 nin0
      have Z129 := Nat.le_trans Z51 Kq127.1
      have K130 := K52.trans Kq127 all0
      have P131 : own_Pr p.tables e below S0 T127 (mkF m 104 #[.val (.int p1), .val (.int p2), .val (.int p3), .val (.int p4), .val (.int p5), .val (.int z22), .val (.int z28), .val (.int z30), .val (.int z32), .val (.int z41), .unset, .unset, .unset, .unset, .unset, .unset] [(.int (own_at z22 (0 : Int32) z28 z32 z30 z41)), (.int 0), (.ref b50), (.ref b50)]) := fun t k => P126 t (st127.trans k)
      obtain ⟨cl132, Ar132, q132, S132, N132, H132, G132⟩ := id F128
      have hin132 : ¬ ((0 : Int32) < 0 ∨ cl132.slots.size ≤ ((0 : Int32)).toNatClampNeg) := inb_of S132 ⟨by decide, by decide⟩
      obtain ⟨T132, h132, X132, e132, W132, st132⟩ := stC X127 hx hZ rfl Ar132 (j := (0 : Int32)) hin132 (g := (mkF m 104 #[.val (.int p1), .val (.int p2), .val (.int p3), .val (.int p4), .val (.int p5), .val (.int z22), .val (.int z28), .val (.int z30), .val (.int z32), .val (.int z41), .unset, .unset, .unset, .unset, .unset, .unset] [(.int (own_at z22 (0 : Int32) z28 z32 z30 z41)), (.int 0), (.ref b50), (.ref b50)])) rfl rfl (hb hby at_104)
      have V132 : Arv Z h132 b50 k50 .char (18 : Int32) [(.int (nar .char (own_at z22 (0 : Int32) z28 z32 z30 z41))), (.int 0), (.int 0), (.int 0), (.int 0), (.int 0), (.int 0), (.int 0), (.int 0), (.int 0), (.int 0), (.int 0), (.int 0), (.int 0), (.int 0), (.int 0), (.int 0), (.int 0)] (.int (0 : Int32)) := Arv.set Ar132 q132 S132 N132 H132 G132 (fits_nar_char _) W132 0 rfl (Nat.le_of_ble_eq_true rfl)
      have CR133 := CR127q.trans (CHr.wr W132 (Safe.arv hZ.alike F128 (by decide)) CR127q.1)
      have Z134 : n0 ≤ h132.size := by rw [W132.size]; exact Z129
      have kS135 := Nat.le_trans kS127 (Nat.le_of_eq W132.size.symm)
      have NF132 := Fr.snoc X132 N127n g_b50
      have K136 := K130.wr W132 (Or.inr sz_b50)
      have P137 : own_Pr p.tables e below S0 T132 (mkF m 105 #[.val (.int p1), .val (.int p2), .val (.int p3), .val (.int p4), .val (.int p5), .val (.int z22), .val (.int z28), .val (.int z30), .val (.int z32), .val (.int z41), .unset, .unset, .unset, .unset, .unset, .unset] [(.ref b50)]) := fun t k => P131 t (st132 _ k)
      have P138 : own_Pr p.tables e below S0 T132 (mkF m 118 #[.val (.int p1), .val (.int p2), .val (.int p3), .val (.int p4), .val (.int p5), .val (.int z22), .val (.int z28), .val (.int z30), .val (.int z32), .val (.int z41), .unset, .unset, .unset, .unset, .unset, .unset] [(.int z41), (.int z30), (.int z32), (.int z28), (.int 1), (.int z22), (.int 1), (.ref b50), (.ref b50)]) := fun t k => P137 t (by
        refine XS.dup X132.here hx rfl (hb hby at_105) rfl rfl ?_
        refine XS.iconst X132.here hx rfl (hb hby at_106) ?_
        refine XS.iload X132.here hx rfl (hb hby at_107) rfl ?_
        refine XS.iconst X132.here hx rfl (hb hby at_109) ?_
        refine XS.iload X132.here hx rfl (hb hby at_110) rfl ?_
        refine XS.iload X132.here hx rfl (hb hby at_112) rfl ?_
        refine XS.iload X132.here hx rfl (hb hby at_114) rfl ?_
        refine XS.iload X132.here hx rfl (hb hby at_116) rfl ?_
        exact k)
      obtain ⟨_, _, ⟨T139, L139, k139, n139⟩, -, X139, hSq139, gq139, ⟨Lc139, hQ139, l139, y139, z139, CRq139⟩, st139⟩ := callSS X132 hx (y := (⟨"com/example/firmhold/firmhold/PermissionNamedPinLaw", "at", "(IIICIC)C"⟩ : MethodName)) hown (mvT hZ (hw _ (List.mem_of_getElem? (i := 49) rfl))) (mvT hZ (hw _ (List.mem_of_getElem? (i := 50) rfl))) (mvT hZ (hw _ (List.mem_of_getElem? (i := 3) rfl))) (mvT hZ (hw _ (List.mem_of_getElem? (i := 51) rfl))) (by decide) (own_backG (W := 3) (rm9 l Z a0 hw [] z22 (1 : Int32) z28 z32 z30 z41 cs fm h132 n0 Z134 (own_sta_keep0 CS K136) hcs (own_sta_keep0 FM K136) hr_fm hcc32.1 hcc41.1) hZ (hw _ (List.mem_of_getElem? (i := 51) rfl)) (hw _ (List.mem_of_getElem? (i := 3) rfl)) (by decide) (by decide) (own_EW hw) CR133.1) (g := (mkF m 118 #[.val (.int p1), .val (.int p2), .val (.int p3), .val (.int p4), .val (.int p5), .val (.int z22), .val (.int z28), .val (.int z30), .val (.int z32), .val (.int z41), .unset, .unset, .unset, .unset, .unset, .unset] [(.int z41), (.int z30), (.int z32), (.int z28), (.int 1), (.int z22), (.int 1), (.ref b50), (.ref b50)])) rfl (by rw [hml]; rfl) (argsL := [(.int z22), (.int 1), (.int z28), (.int z32), (.int z30), (.int z41)]) (rest := [(.int 1), (.ref b50), (.ref b50)]) (lenOf pd_13 rfl) rfl (by show 2 * 0 + _ ≤ _; exact Nat.le_of_eq rfl) (hb hby at_118) (fun _ _ => ⟨rfl, e132, (by decide : 7 + 2 ≤ _), (by decide : 234 + 72 ≤ _)⟩)
      dsimp only [Pt.U, Pt.locs, Pt.cells, Pt.slots] at X139 l139 y139 z139 st139 hQ139 hSq139 gq139 CRq139
      rw [l139, y139, z139] at X139
      have X139 := X139.mono (cells' := 9) (slots' := 306) (by decide) (by decide)
      obtain ⟨X139, hSn, hZ, hown⟩ := rebS hSn (by rw [e132]; exact kS135) X139 hSq139 gq139 hZ hown
      have kS139 := Nat.le_refl T139.heap.size
      have CR139q := CR133.trans CRq139
      obtain ⟨rfl, Nq139, Kq139, Gq139⟩ := hQ139
      have N139n := Fr.app NF132 Nq139
      have F140 := V132.keep Kq139 nin0
      have Z141 := Nat.le_trans Z134 Kq139.1
      have K142 := K136.trans Kq139 all0
      have P143 : own_Pr p.tables e below S0 T139 (mkF m 121 #[.val (.int p1), .val (.int p2), .val (.int p3), .val (.int p4), .val (.int p5), .val (.int z22), .val (.int z28), .val (.int z30), .val (.int z32), .val (.int z41), .unset, .unset, .unset, .unset, .unset, .unset] [(.int (own_at z22 (1 : Int32) z28 z32 z30 z41)), (.int 1), (.ref b50), (.ref b50)]) := fun t k => P138 t (st139.trans k)
      obtain ⟨cl144, Ar144, q144, S144, N144, H144, G144⟩ := id F140
      have hin144 : ¬ ((1 : Int32) < 0 ∨ cl144.slots.size ≤ ((1 : Int32)).toNatClampNeg) := inb_of S144 ⟨by decide, by decide⟩
      obtain ⟨T144, h144, X144, e144, W144, st144⟩ := stC X139 hx hZ rfl Ar144 (j := (1 : Int32)) hin144 (g := (mkF m 121 #[.val (.int p1), .val (.int p2), .val (.int p3), .val (.int p4), .val (.int p5), .val (.int z22), .val (.int z28), .val (.int z30), .val (.int z32), .val (.int z41), .unset, .unset, .unset, .unset, .unset, .unset] [(.int (own_at z22 (1 : Int32) z28 z32 z30 z41)), (.int 1), (.ref b50), (.ref b50)])) rfl rfl (hb hby at_121)
      have V144 : Arv Z h144 b50 k50 .char (18 : Int32) [(.int (nar .char (own_at z22 (0 : Int32) z28 z32 z30 z41))), (.int (nar .char (own_at z22 (1 : Int32) z28 z32 z30 z41))), (.int 0), (.int 0), (.int 0), (.int 0), (.int 0), (.int 0), (.int 0), (.int 0), (.int 0), (.int 0), (.int 0), (.int 0), (.int 0), (.int 0), (.int 0), (.int 0)] (.int (0 : Int32)) := Arv.set Ar144 q144 S144 N144 H144 G144 (fits_nar_char _) W144 1 rfl (Nat.le_of_ble_eq_true rfl)
      have CR145 := CR139q.trans (CHr.wr W144 (Safe.arv hZ.alike F140 (by decide)) CR139q.1)
      have Z146 : n0 ≤ h144.size := by rw [W144.size]; exact Z141
      have kS147 := Nat.le_trans kS139 (Nat.le_of_eq W144.size.symm)
      have NF144 := Fr.snoc X144 N139n g_b50
      have K148 := K142.wr W144 (Or.inr sz_b50)
      have P149 : own_Pr p.tables e below S0 T144 (mkF m 122 #[.val (.int p1), .val (.int p2), .val (.int p3), .val (.int p4), .val (.int p5), .val (.int z22), .val (.int z28), .val (.int z30), .val (.int z32), .val (.int z41), .unset, .unset, .unset, .unset, .unset, .unset] [(.ref b50)]) := fun t k => P143 t (st144 _ k)
      have P150 : own_Pr p.tables e below S0 T144 (mkF m 135 #[.val (.int p1), .val (.int p2), .val (.int p3), .val (.int p4), .val (.int p5), .val (.int z22), .val (.int z28), .val (.int z30), .val (.int z32), .val (.int z41), .unset, .unset, .unset, .unset, .unset, .unset] [(.int z41), (.int z30), (.int z32), (.int z28), (.int 2), (.int z22), (.int 2), (.ref b50), (.ref b50)]) := fun t k => P149 t (by
        refine XS.dup X144.here hx rfl (hb hby at_122) rfl rfl ?_
        refine XS.iconst X144.here hx rfl (hb hby at_123) ?_
        refine XS.iload X144.here hx rfl (hb hby at_124) rfl ?_
        refine XS.iconst X144.here hx rfl (hb hby at_126) ?_
        refine XS.iload X144.here hx rfl (hb hby at_127) rfl ?_
        refine XS.iload X144.here hx rfl (hb hby at_129) rfl ?_
        refine XS.iload X144.here hx rfl (hb hby at_131) rfl ?_
        refine XS.iload X144.here hx rfl (hb hby at_133) rfl ?_
        exact k)
      obtain ⟨_, _, ⟨T151, L151, k151, n151⟩, -, X151, hSq151, gq151, ⟨Lc151, hQ151, l151, y151, z151, CRq151⟩, st151⟩ := callSS X144 hx (y := (⟨"com/example/firmhold/firmhold/PermissionNamedPinLaw", "at", "(IIICIC)C"⟩ : MethodName)) hown (mvT hZ (hw _ (List.mem_of_getElem? (i := 49) rfl))) (mvT hZ (hw _ (List.mem_of_getElem? (i := 50) rfl))) (mvT hZ (hw _ (List.mem_of_getElem? (i := 3) rfl))) (mvT hZ (hw _ (List.mem_of_getElem? (i := 51) rfl))) (by decide) (own_backG (W := 3) (rm9 l Z a0 hw [] z22 (2 : Int32) z28 z32 z30 z41 cs fm h144 n0 Z146 (own_sta_keep0 CS K148) hcs (own_sta_keep0 FM K148) hr_fm hcc32.1 hcc41.1) hZ (hw _ (List.mem_of_getElem? (i := 51) rfl)) (hw _ (List.mem_of_getElem? (i := 3) rfl)) (by decide) (by decide) (own_EW hw) CR145.1) (g := (mkF m 135 #[.val (.int p1), .val (.int p2), .val (.int p3), .val (.int p4), .val (.int p5), .val (.int z22), .val (.int z28), .val (.int z30), .val (.int z32), .val (.int z41), .unset, .unset, .unset, .unset, .unset, .unset] [(.int z41), (.int z30), (.int z32), (.int z28), (.int 2), (.int z22), (.int 2), (.ref b50), (.ref b50)])) rfl (by rw [hml]; rfl) (argsL := [(.int z22), (.int 2), (.int z28), (.int z32), (.int z30), (.int z41)]) (rest := [(.int 2), (.ref b50), (.ref b50)]) (lenOf pd_13 rfl) rfl (by show 2 * 0 + _ ≤ _; exact Nat.le_of_eq rfl) (hb hby at_135) (fun _ _ => ⟨rfl, e144, (by decide : 9 + 2 ≤ _), (by decide : 306 + 72 ≤ _)⟩)
      dsimp only [Pt.U, Pt.locs, Pt.cells, Pt.slots] at X151 l151 y151 z151 st151 hQ151 hSq151 gq151 CRq151
      rw [l151, y151, z151] at X151
      have X151 := X151.mono (cells' := 11) (slots' := 378) (by decide) (by decide)
      obtain ⟨X151, hSn, hZ, hown⟩ := rebS hSn (by rw [e144]; exact kS147) X151 hSq151 gq151 hZ hown
      have kS151 := Nat.le_refl T151.heap.size
      have CR151q := CR145.trans CRq151
      obtain ⟨rfl, Nq151, Kq151, Gq151⟩ := hQ151
      have N151n := Fr.app NF144 Nq151
      have F152 := V144.keep Kq151 nin0
      have Z153 := Nat.le_trans Z146 Kq151.1
      have K154 := K148.trans Kq151 all0
      obtain ⟨lt, Sl151, Lt151⟩ := Gq151 hA
      have P155 : own_Pr p.tables e below S0 T151 (mkF m 138 #[.val (.int p1), .val (.int p2), .val (.int p3), .val (.int p4), .val (.int p5), .val (.int z22), .val (.int z28), .val (.int z30), .val (.int z32), .val (.int z41), .unset, .unset, .unset, .unset, .unset, .unset] [(.int (own_at z22 (2 : Int32) z28 z32 z30 z41)), (.int 2), (.ref b50), (.ref b50)]) := fun t k => P150 t (st151.trans k)
      obtain ⟨cl156, Ar156, q156, S156, N156, H156, G156⟩ := id F152
      have hin156 : ¬ ((2 : Int32) < 0 ∨ cl156.slots.size ≤ ((2 : Int32)).toNatClampNeg) := inb_of S156 ⟨by decide, by decide⟩
      obtain ⟨T156, h156, X156, e156, W156, st156⟩ := stC X151 hx hZ rfl Ar156 (j := (2 : Int32)) hin156 (g := (mkF m 138 #[.val (.int p1), .val (.int p2), .val (.int p3), .val (.int p4), .val (.int p5), .val (.int z22), .val (.int z28), .val (.int z30), .val (.int z32), .val (.int z41), .unset, .unset, .unset, .unset, .unset, .unset] [(.int (own_at z22 (2 : Int32) z28 z32 z30 z41)), (.int 2), (.ref b50), (.ref b50)])) rfl rfl (hb hby at_138)
      have V156 : Arv Z h156 b50 k50 .char (18 : Int32) [(.int (nar .char (own_at z22 (0 : Int32) z28 z32 z30 z41))), (.int (nar .char (own_at z22 (1 : Int32) z28 z32 z30 z41))), (.int (nar .char (own_at z22 (2 : Int32) z28 z32 z30 z41))), (.int 0), (.int 0), (.int 0), (.int 0), (.int 0), (.int 0), (.int 0), (.int 0), (.int 0), (.int 0), (.int 0), (.int 0), (.int 0), (.int 0), (.int 0)] (.int (0 : Int32)) := Arv.set Ar156 q156 S156 N156 H156 G156 (fits_nar_char _) W156 2 rfl (Nat.le_of_ble_eq_true rfl)
      have CR157 := CR151q.trans (CHr.wr W156 (Safe.arv hZ.alike F152 (by decide)) CR151q.1)
      have F158 := own_Sc.wrC Sl151 W156 F152 (hw _ (List.mem_of_getElem? (i := 7) rfl))
      have Z159 : n0 ≤ h156.size := by rw [W156.size]; exact Z153
      have kS160 := Nat.le_trans kS151 (Nat.le_of_eq W156.size.symm)
      have NF156 := Fr.snoc X156 N151n g_b50
      have K161 := K154.wr W156 (Or.inr sz_b50)
      have P162 : own_Pr p.tables e below S0 T156 (mkF m 139 #[.val (.int p1), .val (.int p2), .val (.int p3), .val (.int p4), .val (.int p5), .val (.int z22), .val (.int z28), .val (.int z30), .val (.int z32), .val (.int z41), .unset, .unset, .unset, .unset, .unset, .unset] [(.ref b50)]) := fun t k => P155 t (st156 _ k)
      exact ⟨T156, _, h156, _, _, _, X156.mono (by decide) (by decide), NF156, e156, K161, hSn, kS160, hZ, hown, CR157, V156, F158, Lt151, P162⟩
  have Z57m : n0 ≤ h57.size := Nat.le_trans Z0 K57.1
  have hZ : Z.Warmed39 (s.setVm vm57).vm := hZ
  obtain ⟨u0, hu0⟩ : ∃ z, z = (own_at z22 (0 : Int32) z28 z32 z30 z41) := ⟨_, rfl⟩
  rw [← hu0] at V57
  obtain ⟨u1, hu1⟩ : ∃ z, z = (own_at z22 (1 : Int32) z28 z32 z30 z41) := ⟨_, rfl⟩
  rw [← hu1] at V57
  obtain ⟨u2, hu2⟩ : ∃ z, z = (own_at z22 (2 : Int32) z28 z32 z30 z41) := ⟨_, rfl⟩
  rw [← hu2] at V57
  have P163 : own_Pr p.tables e below S0 T57 (mkF m 152 #[.val (.int p1), .val (.int p2), .val (.int p3), .val (.int p4), .val (.int p5), .val (.int z22), .val (.int z28), .val (.int z30), .val (.int z32), .val (.int z41), .unset, .unset, .unset, .unset, .unset, .unset] [(.int z41), (.int z30), (.int z32), (.int z28), (.int 3), (.int z22), (.int 3), (.ref b50), (.ref b50)]) := fun t k => P57 t (by
    refine XS.dup X57.here hx rfl (hb hby at_139) rfl rfl ?_
    refine XS.iconst X57.here hx rfl (hb hby at_140) ?_
    refine XS.iload X57.here hx rfl (hb hby at_141) rfl ?_
    refine XS.iconst X57.here hx rfl (hb hby at_143) ?_
    refine XS.iload X57.here hx rfl (hb hby at_144) rfl ?_
    refine XS.iload X57.here hx rfl (hb hby at_146) rfl ?_
    refine XS.iload X57.here hx rfl (hb hby at_148) rfl ?_
    refine XS.iload X57.here hx rfl (hb hby at_150) rfl ?_
    exact k)
  obtain ⟨_, _, ⟨T164, L164, k164, n164⟩, -, X164, ⟨Lc164, hQ164, l164, y164, z164⟩, st164⟩ := Jvm.LawKit.callS X57 hx (y := (⟨"com/example/firmhold/firmhold/PermissionNamedPinLaw", "at", "(IIICIC)C"⟩ : MethodName)) hown (mvT hZ (hw _ (List.mem_of_getElem? (i := 49) rfl))) (mvT hZ (hw _ (List.mem_of_getElem? (i := 50) rfl))) (mvT hZ (hw _ (List.mem_of_getElem? (i := 3) rfl))) (mvT hZ (hw _ (List.mem_of_getElem? (i := 51) rfl))) (by decide) (own_backL (W := 3) (rm9_b l Z a0 hw [] z22 (3 : Int32) z28 z32 z30 z41 lt cs fm h57 n0 Z57m Sl (own_sta_keep0 CS K57) hcs (own_sta_keep0 FM K57) hr_fm hcc32.1 hcc41.1) hZ (hw _ (List.mem_of_getElem? (i := 51) rfl)) (hw _ (List.mem_of_getElem? (i := 3) rfl)) (by decide) (by decide) (fun vm hv => (State.resolvedAt?_warmed39 hv Lt))) (g := (mkF m 152 #[.val (.int p1), .val (.int p2), .val (.int p3), .val (.int p4), .val (.int p5), .val (.int z22), .val (.int z28), .val (.int z30), .val (.int z32), .val (.int z41), .unset, .unset, .unset, .unset, .unset, .unset] [(.int z41), (.int z30), (.int z32), (.int z28), (.int 3), (.int z22), (.int 3), (.ref b50), (.ref b50)])) rfl (by rw [hml]; rfl) (argsL := [(.int z22), (.int 3), (.int z28), (.int z32), (.int z30), (.int z41)]) (rest := [(.int 3), (.ref b50), (.ref b50)]) (lenOf pd_13 rfl) rfl (by show 2 * 0 + _ ≤ _; exact Nat.le_of_eq rfl) (hb hby at_152) (fun _ _ => ⟨rfl, e57, (by decide : 11 + 0 ≤ _), (by decide : 378 + 0 ≤ _)⟩)
  dsimp only [Pt.U, Pt.locs, Pt.cells, Pt.slots] at X164 l164 y164 z164 st164 hQ164
  rw [l164, y164, z164] at X164
  have X164 := X164.mono (cells' := 11) (slots' := 378) (by decide) (by decide)
  obtain ⟨z164v, rfl, hz164v, Nq164, eq164⟩ := hQ164
  have N164n := Fr.app N57 Nq164
  have P165 : own_Pr p.tables e below S0 T164 (mkF m 155 #[.val (.int p1), .val (.int p2), .val (.int p3), .val (.int p4), .val (.int p5), .val (.int z22), .val (.int z28), .val (.int z30), .val (.int z32), .val (.int z41), .unset, .unset, .unset, .unset, .unset, .unset] [(.int z164v), (.int 3), (.ref b50), (.ref b50)]) := fun t k => P163 t (st164 _ k)
  obtain ⟨cl166, Ar166, q166, S166, N166, H166, G166⟩ := id V57
  have hin166 : ¬ ((3 : Int32) < 0 ∨ cl166.slots.size ≤ ((3 : Int32)).toNatClampNeg) := inb_of S166 ⟨by decide, by decide⟩
  obtain ⟨T166, h166, X166, e166, W166, st166⟩ := stC X164 hx hZ eq164 Ar166 (j := (3 : Int32)) hin166 (g := (mkF m 155 #[.val (.int p1), .val (.int p2), .val (.int p3), .val (.int p4), .val (.int p5), .val (.int z22), .val (.int z28), .val (.int z30), .val (.int z32), .val (.int z41), .unset, .unset, .unset, .unset, .unset, .unset] [(.int z164v), (.int 3), (.ref b50), (.ref b50)])) rfl rfl (hb hby at_155)
  have V166 : Arv Z h166 b50 k50 .char (18 : Int32) [(.int (nar .char u0)), (.int (nar .char u1)), (.int (nar .char u2)), (.int (nar .char z164v)), (.int 0), (.int 0), (.int 0), (.int 0), (.int 0), (.int 0), (.int 0), (.int 0), (.int 0), (.int 0), (.int 0), (.int 0), (.int 0), (.int 0)] (.int (0 : Int32)) := Arv.set Ar166 q166 S166 N166 H166 G166 (fits_nar_char _) W166 3 rfl (Nat.le_of_ble_eq_true rfl)
  have CR167 := CR57.trans (CHr.wr W166 (Safe.arv hZ.alike V57 (by decide)) CR57.1)
  have F168 := own_Sc.wrC Sl W166 V57 (hw _ (List.mem_of_getElem? (i := 7) rfl))
  have Z169 : n0 ≤ h166.size := by rw [W166.size]; exact Z57m
  have kS170 := Nat.le_trans kS57 (Nat.le_of_eq W166.size.symm)
  have NF166 := Fr.snoc X166 N164n g_b50
  have K171 := K57.wr W166 (Or.inr sz_b50)
  have P172 : own_Pr p.tables e below S0 T166 (mkF m 156 #[.val (.int p1), .val (.int p2), .val (.int p3), .val (.int p4), .val (.int p5), .val (.int z22), .val (.int z28), .val (.int z30), .val (.int z32), .val (.int z41), .unset, .unset, .unset, .unset, .unset, .unset] [(.ref b50)]) := fun t k => P165 t (st166 _ k)
  have P173 : own_Pr p.tables e below S0 T166 (mkF m 169 #[.val (.int p1), .val (.int p2), .val (.int p3), .val (.int p4), .val (.int p5), .val (.int z22), .val (.int z28), .val (.int z30), .val (.int z32), .val (.int z41), .unset, .unset, .unset, .unset, .unset, .unset] [(.int z41), (.int z30), (.int z32), (.int z28), (.int 4), (.int z22), (.int 4), (.ref b50), (.ref b50)]) := fun t k => P172 t (by
    refine XS.dup X166.here hx rfl (hb hby at_156) rfl rfl ?_
    refine XS.iconst X166.here hx rfl (hb hby at_157) ?_
    refine XS.iload X166.here hx rfl (hb hby at_158) rfl ?_
    refine XS.iconst X166.here hx rfl (hb hby at_160) ?_
    refine XS.iload X166.here hx rfl (hb hby at_161) rfl ?_
    refine XS.iload X166.here hx rfl (hb hby at_163) rfl ?_
    refine XS.iload X166.here hx rfl (hb hby at_165) rfl ?_
    refine XS.iload X166.here hx rfl (hb hby at_167) rfl ?_
    exact k)
  obtain ⟨_, _, ⟨T174, L174, k174, n174⟩, -, X174, ⟨Lc174, hQ174, l174, y174, z174⟩, st174⟩ := Jvm.LawKit.callS X166 hx (y := (⟨"com/example/firmhold/firmhold/PermissionNamedPinLaw", "at", "(IIICIC)C"⟩ : MethodName)) hown (mvT hZ (hw _ (List.mem_of_getElem? (i := 49) rfl))) (mvT hZ (hw _ (List.mem_of_getElem? (i := 50) rfl))) (mvT hZ (hw _ (List.mem_of_getElem? (i := 3) rfl))) (mvT hZ (hw _ (List.mem_of_getElem? (i := 51) rfl))) (by decide) (own_backL (W := 3) (rm9_b l Z a0 hw [] z22 (4 : Int32) z28 z32 z30 z41 lt cs fm h166 n0 Z169 F168 (own_sta_keep0 CS K171) hcs (own_sta_keep0 FM K171) hr_fm hcc32.1 hcc41.1) hZ (hw _ (List.mem_of_getElem? (i := 51) rfl)) (hw _ (List.mem_of_getElem? (i := 3) rfl)) (by decide) (by decide) (fun vm hv => (State.resolvedAt?_warmed39 hv Lt))) (g := (mkF m 169 #[.val (.int p1), .val (.int p2), .val (.int p3), .val (.int p4), .val (.int p5), .val (.int z22), .val (.int z28), .val (.int z30), .val (.int z32), .val (.int z41), .unset, .unset, .unset, .unset, .unset, .unset] [(.int z41), (.int z30), (.int z32), (.int z28), (.int 4), (.int z22), (.int 4), (.ref b50), (.ref b50)])) rfl (by rw [hml]; rfl) (argsL := [(.int z22), (.int 4), (.int z28), (.int z32), (.int z30), (.int z41)]) (rest := [(.int 4), (.ref b50), (.ref b50)]) (lenOf pd_13 rfl) rfl (by show 2 * 0 + _ ≤ _; exact Nat.le_of_eq rfl) (hb hby at_169) (fun _ _ => ⟨rfl, e166, (by decide : 11 + 0 ≤ _), (by decide : 378 + 0 ≤ _)⟩)
  dsimp only [Pt.U, Pt.locs, Pt.cells, Pt.slots] at X174 l174 y174 z174 st174 hQ174
  rw [l174, y174, z174] at X174
  have X174 := X174.mono (cells' := 11) (slots' := 378) (by decide) (by decide)
  obtain ⟨z174v, rfl, hz174v, Nq174, eq174⟩ := hQ174
  have N174n := Fr.app NF166 Nq174
  have P175 : own_Pr p.tables e below S0 T174 (mkF m 172 #[.val (.int p1), .val (.int p2), .val (.int p3), .val (.int p4), .val (.int p5), .val (.int z22), .val (.int z28), .val (.int z30), .val (.int z32), .val (.int z41), .unset, .unset, .unset, .unset, .unset, .unset] [(.int z174v), (.int 4), (.ref b50), (.ref b50)]) := fun t k => P173 t (st174 _ k)
  obtain ⟨cl176, Ar176, q176, S176, N176, H176, G176⟩ := id V166
  have hin176 : ¬ ((4 : Int32) < 0 ∨ cl176.slots.size ≤ ((4 : Int32)).toNatClampNeg) := inb_of S176 ⟨by decide, by decide⟩
  obtain ⟨T176, h176, X176, e176, W176, st176⟩ := stC X174 hx hZ eq174 Ar176 (j := (4 : Int32)) hin176 (g := (mkF m 172 #[.val (.int p1), .val (.int p2), .val (.int p3), .val (.int p4), .val (.int p5), .val (.int z22), .val (.int z28), .val (.int z30), .val (.int z32), .val (.int z41), .unset, .unset, .unset, .unset, .unset, .unset] [(.int z174v), (.int 4), (.ref b50), (.ref b50)])) rfl rfl (hb hby at_172)
  have V176 : Arv Z h176 b50 k50 .char (18 : Int32) [(.int (nar .char u0)), (.int (nar .char u1)), (.int (nar .char u2)), (.int (nar .char z164v)), (.int (nar .char z174v)), (.int 0), (.int 0), (.int 0), (.int 0), (.int 0), (.int 0), (.int 0), (.int 0), (.int 0), (.int 0), (.int 0), (.int 0), (.int 0)] (.int (0 : Int32)) := Arv.set Ar176 q176 S176 N176 H176 G176 (fits_nar_char _) W176 4 rfl (Nat.le_of_ble_eq_true rfl)
  have CR177 := CR167.trans (CHr.wr W176 (Safe.arv hZ.alike V166 (by decide)) CR167.1)
  have F178 := own_Sc.wrC F168 W176 V166 (hw _ (List.mem_of_getElem? (i := 7) rfl))
  have Z179 : n0 ≤ h176.size := by rw [W176.size]; exact Z169
  have kS180 := Nat.le_trans kS170 (Nat.le_of_eq W176.size.symm)
  have NF176 := Fr.snoc X176 N174n g_b50
  have K181 := K171.wr W176 (Or.inr sz_b50)
  have P182 : own_Pr p.tables e below S0 T176 (mkF m 173 #[.val (.int p1), .val (.int p2), .val (.int p3), .val (.int p4), .val (.int p5), .val (.int z22), .val (.int z28), .val (.int z30), .val (.int z32), .val (.int z41), .unset, .unset, .unset, .unset, .unset, .unset] [(.ref b50)]) := fun t k => P175 t (st176 _ k)
  have P183 : own_Pr p.tables e below S0 T176 (mkF m 186 #[.val (.int p1), .val (.int p2), .val (.int p3), .val (.int p4), .val (.int p5), .val (.int z22), .val (.int z28), .val (.int z30), .val (.int z32), .val (.int z41), .unset, .unset, .unset, .unset, .unset, .unset] [(.int z41), (.int z30), (.int z32), (.int z28), (.int 5), (.int z22), (.int 5), (.ref b50), (.ref b50)]) := fun t k => P182 t (by
    refine XS.dup X176.here hx rfl (hb hby at_173) rfl rfl ?_
    refine XS.iconst X176.here hx rfl (hb hby at_174) ?_
    refine XS.iload X176.here hx rfl (hb hby at_175) rfl ?_
    refine XS.iconst X176.here hx rfl (hb hby at_177) ?_
    refine XS.iload X176.here hx rfl (hb hby at_178) rfl ?_
    refine XS.iload X176.here hx rfl (hb hby at_180) rfl ?_
    refine XS.iload X176.here hx rfl (hb hby at_182) rfl ?_
    refine XS.iload X176.here hx rfl (hb hby at_184) rfl ?_
    exact k)
  obtain ⟨_, _, ⟨T184, L184, k184, n184⟩, -, X184, ⟨Lc184, hQ184, l184, y184, z184⟩, st184⟩ := Jvm.LawKit.callS X176 hx (y := (⟨"com/example/firmhold/firmhold/PermissionNamedPinLaw", "at", "(IIICIC)C"⟩ : MethodName)) hown (mvT hZ (hw _ (List.mem_of_getElem? (i := 49) rfl))) (mvT hZ (hw _ (List.mem_of_getElem? (i := 50) rfl))) (mvT hZ (hw _ (List.mem_of_getElem? (i := 3) rfl))) (mvT hZ (hw _ (List.mem_of_getElem? (i := 51) rfl))) (by decide) (own_backL (W := 3) (rm9_b l Z a0 hw [] z22 (5 : Int32) z28 z32 z30 z41 lt cs fm h176 n0 Z179 F178 (own_sta_keep0 CS K181) hcs (own_sta_keep0 FM K181) hr_fm hcc32.1 hcc41.1) hZ (hw _ (List.mem_of_getElem? (i := 51) rfl)) (hw _ (List.mem_of_getElem? (i := 3) rfl)) (by decide) (by decide) (fun vm hv => (State.resolvedAt?_warmed39 hv Lt))) (g := (mkF m 186 #[.val (.int p1), .val (.int p2), .val (.int p3), .val (.int p4), .val (.int p5), .val (.int z22), .val (.int z28), .val (.int z30), .val (.int z32), .val (.int z41), .unset, .unset, .unset, .unset, .unset, .unset] [(.int z41), (.int z30), (.int z32), (.int z28), (.int 5), (.int z22), (.int 5), (.ref b50), (.ref b50)])) rfl (by rw [hml]; rfl) (argsL := [(.int z22), (.int 5), (.int z28), (.int z32), (.int z30), (.int z41)]) (rest := [(.int 5), (.ref b50), (.ref b50)]) (lenOf pd_13 rfl) rfl (by show 2 * 0 + _ ≤ _; exact Nat.le_of_eq rfl) (hb hby at_186) (fun _ _ => ⟨rfl, e176, (by decide : 11 + 0 ≤ _), (by decide : 378 + 0 ≤ _)⟩)
  dsimp only [Pt.U, Pt.locs, Pt.cells, Pt.slots] at X184 l184 y184 z184 st184 hQ184
  rw [l184, y184, z184] at X184
  have X184 := X184.mono (cells' := 11) (slots' := 378) (by decide) (by decide)
  obtain ⟨z184v, rfl, hz184v, Nq184, eq184⟩ := hQ184
  have N184n := Fr.app NF176 Nq184
  have P185 : own_Pr p.tables e below S0 T184 (mkF m 189 #[.val (.int p1), .val (.int p2), .val (.int p3), .val (.int p4), .val (.int p5), .val (.int z22), .val (.int z28), .val (.int z30), .val (.int z32), .val (.int z41), .unset, .unset, .unset, .unset, .unset, .unset] [(.int z184v), (.int 5), (.ref b50), (.ref b50)]) := fun t k => P183 t (st184 _ k)
  obtain ⟨cl186, Ar186, q186, S186, N186, H186, G186⟩ := id V176
  have hin186 : ¬ ((5 : Int32) < 0 ∨ cl186.slots.size ≤ ((5 : Int32)).toNatClampNeg) := inb_of S186 ⟨by decide, by decide⟩
  obtain ⟨T186, h186, X186, e186, W186, st186⟩ := stC X184 hx hZ eq184 Ar186 (j := (5 : Int32)) hin186 (g := (mkF m 189 #[.val (.int p1), .val (.int p2), .val (.int p3), .val (.int p4), .val (.int p5), .val (.int z22), .val (.int z28), .val (.int z30), .val (.int z32), .val (.int z41), .unset, .unset, .unset, .unset, .unset, .unset] [(.int z184v), (.int 5), (.ref b50), (.ref b50)])) rfl rfl (hb hby at_189)
  have V186 : Arv Z h186 b50 k50 .char (18 : Int32) [(.int (nar .char u0)), (.int (nar .char u1)), (.int (nar .char u2)), (.int (nar .char z164v)), (.int (nar .char z174v)), (.int (nar .char z184v)), (.int 0), (.int 0), (.int 0), (.int 0), (.int 0), (.int 0), (.int 0), (.int 0), (.int 0), (.int 0), (.int 0), (.int 0)] (.int (0 : Int32)) := Arv.set Ar186 q186 S186 N186 H186 G186 (fits_nar_char _) W186 5 rfl (Nat.le_of_ble_eq_true rfl)
  have CR187 := CR177.trans (CHr.wr W186 (Safe.arv hZ.alike V176 (by decide)) CR177.1)
  have F188 := own_Sc.wrC F178 W186 V176 (hw _ (List.mem_of_getElem? (i := 7) rfl))
  have Z189 : n0 ≤ h186.size := by rw [W186.size]; exact Z179
  have kS190 := Nat.le_trans kS180 (Nat.le_of_eq W186.size.symm)
  have NF186 := Fr.snoc X186 N184n g_b50
  have K191 := K181.wr W186 (Or.inr sz_b50)
  have P192 : own_Pr p.tables e below S0 T186 (mkF m 190 #[.val (.int p1), .val (.int p2), .val (.int p3), .val (.int p4), .val (.int p5), .val (.int z22), .val (.int z28), .val (.int z30), .val (.int z32), .val (.int z41), .unset, .unset, .unset, .unset, .unset, .unset] [(.ref b50)]) := fun t k => P185 t (st186 _ k)
  have P193 : own_Pr p.tables e below S0 T186 (mkF m 205 #[.val (.int p1), .val (.int p2), .val (.int p3), .val (.int p4), .val (.int p5), .val (.int z22), .val (.int z28), .val (.int z30), .val (.int z32), .val (.int z41), .unset, .unset, .unset, .unset, .unset, .unset] [(.int z41), (.int z30), (.int z32), (.int z28), (.int 6), (.int z22), (.int 6), (.ref b50), (.ref b50)]) := fun t k => P192 t (by
    refine XS.dup X186.here hx rfl (hb hby at_190) rfl rfl ?_
    refine XS.bipush X186.here hx rfl (hb hby at_191) ?_
    refine XS.iload X186.here hx rfl (hb hby at_193) rfl ?_
    refine XS.bipush X186.here hx rfl (hb hby at_195) ?_
    refine XS.iload X186.here hx rfl (hb hby at_197) rfl ?_
    refine XS.iload X186.here hx rfl (hb hby at_199) rfl ?_
    refine XS.iload X186.here hx rfl (hb hby at_201) rfl ?_
    refine XS.iload X186.here hx rfl (hb hby at_203) rfl ?_
    exact k)
  obtain ⟨_, _, ⟨T194, L194, k194, n194⟩, -, X194, ⟨Lc194, hQ194, l194, y194, z194⟩, st194⟩ := Jvm.LawKit.callS X186 hx (y := (⟨"com/example/firmhold/firmhold/PermissionNamedPinLaw", "at", "(IIICIC)C"⟩ : MethodName)) hown (mvT hZ (hw _ (List.mem_of_getElem? (i := 49) rfl))) (mvT hZ (hw _ (List.mem_of_getElem? (i := 50) rfl))) (mvT hZ (hw _ (List.mem_of_getElem? (i := 3) rfl))) (mvT hZ (hw _ (List.mem_of_getElem? (i := 51) rfl))) (by decide) (own_backL (W := 3) (rm9_b l Z a0 hw [] z22 (6 : Int32) z28 z32 z30 z41 lt cs fm h186 n0 Z189 F188 (own_sta_keep0 CS K191) hcs (own_sta_keep0 FM K191) hr_fm hcc32.1 hcc41.1) hZ (hw _ (List.mem_of_getElem? (i := 51) rfl)) (hw _ (List.mem_of_getElem? (i := 3) rfl)) (by decide) (by decide) (fun vm hv => (State.resolvedAt?_warmed39 hv Lt))) (g := (mkF m 205 #[.val (.int p1), .val (.int p2), .val (.int p3), .val (.int p4), .val (.int p5), .val (.int z22), .val (.int z28), .val (.int z30), .val (.int z32), .val (.int z41), .unset, .unset, .unset, .unset, .unset, .unset] [(.int z41), (.int z30), (.int z32), (.int z28), (.int 6), (.int z22), (.int 6), (.ref b50), (.ref b50)])) rfl (by rw [hml]; rfl) (argsL := [(.int z22), (.int 6), (.int z28), (.int z32), (.int z30), (.int z41)]) (rest := [(.int 6), (.ref b50), (.ref b50)]) (lenOf pd_13 rfl) rfl (by show 2 * 0 + _ ≤ _; exact Nat.le_of_eq rfl) (hb hby at_205) (fun _ _ => ⟨rfl, e186, (by decide : 11 + 0 ≤ _), (by decide : 378 + 0 ≤ _)⟩)
  dsimp only [Pt.U, Pt.locs, Pt.cells, Pt.slots] at X194 l194 y194 z194 st194 hQ194
  rw [l194, y194, z194] at X194
  have X194 := X194.mono (cells' := 11) (slots' := 378) (by decide) (by decide)
  obtain ⟨z194v, rfl, hz194v, Nq194, eq194⟩ := hQ194
  have N194n := Fr.app NF186 Nq194
  have P195 : own_Pr p.tables e below S0 T194 (mkF m 208 #[.val (.int p1), .val (.int p2), .val (.int p3), .val (.int p4), .val (.int p5), .val (.int z22), .val (.int z28), .val (.int z30), .val (.int z32), .val (.int z41), .unset, .unset, .unset, .unset, .unset, .unset] [(.int z194v), (.int 6), (.ref b50), (.ref b50)]) := fun t k => P193 t (st194 _ k)
  obtain ⟨cl196, Ar196, q196, S196, N196, H196, G196⟩ := id V186
  have hin196 : ¬ ((6 : Int32) < 0 ∨ cl196.slots.size ≤ ((6 : Int32)).toNatClampNeg) := inb_of S196 ⟨by decide, by decide⟩
  obtain ⟨T196, h196, X196, e196, W196, st196⟩ := stC X194 hx hZ eq194 Ar196 (j := (6 : Int32)) hin196 (g := (mkF m 208 #[.val (.int p1), .val (.int p2), .val (.int p3), .val (.int p4), .val (.int p5), .val (.int z22), .val (.int z28), .val (.int z30), .val (.int z32), .val (.int z41), .unset, .unset, .unset, .unset, .unset, .unset] [(.int z194v), (.int 6), (.ref b50), (.ref b50)])) rfl rfl (hb hby at_208)
  have V196 : Arv Z h196 b50 k50 .char (18 : Int32) [(.int (nar .char u0)), (.int (nar .char u1)), (.int (nar .char u2)), (.int (nar .char z164v)), (.int (nar .char z174v)), (.int (nar .char z184v)), (.int (nar .char z194v)), (.int 0), (.int 0), (.int 0), (.int 0), (.int 0), (.int 0), (.int 0), (.int 0), (.int 0), (.int 0), (.int 0)] (.int (0 : Int32)) := Arv.set Ar196 q196 S196 N196 H196 G196 (fits_nar_char _) W196 6 rfl (Nat.le_of_ble_eq_true rfl)
  have CR197 := CR187.trans (CHr.wr W196 (Safe.arv hZ.alike V186 (by decide)) CR187.1)
  have F198 := own_Sc.wrC F188 W196 V186 (hw _ (List.mem_of_getElem? (i := 7) rfl))
  have Z199 : n0 ≤ h196.size := by rw [W196.size]; exact Z189
  have kS200 := Nat.le_trans kS190 (Nat.le_of_eq W196.size.symm)
  have NF196 := Fr.snoc X196 N194n g_b50
  have K201 := K191.wr W196 (Or.inr sz_b50)
  have P202 : own_Pr p.tables e below S0 T196 (mkF m 209 #[.val (.int p1), .val (.int p2), .val (.int p3), .val (.int p4), .val (.int p5), .val (.int z22), .val (.int z28), .val (.int z30), .val (.int z32), .val (.int z41), .unset, .unset, .unset, .unset, .unset, .unset] [(.ref b50)]) := fun t k => P195 t (st196 _ k)
  have P203 : own_Pr p.tables e below S0 T196 (mkF m 224 #[.val (.int p1), .val (.int p2), .val (.int p3), .val (.int p4), .val (.int p5), .val (.int z22), .val (.int z28), .val (.int z30), .val (.int z32), .val (.int z41), .unset, .unset, .unset, .unset, .unset, .unset] [(.int z41), (.int z30), (.int z32), (.int z28), (.int 7), (.int z22), (.int 7), (.ref b50), (.ref b50)]) := fun t k => P202 t (by
    refine XS.dup X196.here hx rfl (hb hby at_209) rfl rfl ?_
    refine XS.bipush X196.here hx rfl (hb hby at_210) ?_
    refine XS.iload X196.here hx rfl (hb hby at_212) rfl ?_
    refine XS.bipush X196.here hx rfl (hb hby at_214) ?_
    refine XS.iload X196.here hx rfl (hb hby at_216) rfl ?_
    refine XS.iload X196.here hx rfl (hb hby at_218) rfl ?_
    refine XS.iload X196.here hx rfl (hb hby at_220) rfl ?_
    refine XS.iload X196.here hx rfl (hb hby at_222) rfl ?_
    exact k)
  obtain ⟨_, _, ⟨T204, L204, k204, n204⟩, -, X204, ⟨Lc204, hQ204, l204, y204, z204⟩, st204⟩ := Jvm.LawKit.callS X196 hx (y := (⟨"com/example/firmhold/firmhold/PermissionNamedPinLaw", "at", "(IIICIC)C"⟩ : MethodName)) hown (mvT hZ (hw _ (List.mem_of_getElem? (i := 49) rfl))) (mvT hZ (hw _ (List.mem_of_getElem? (i := 50) rfl))) (mvT hZ (hw _ (List.mem_of_getElem? (i := 3) rfl))) (mvT hZ (hw _ (List.mem_of_getElem? (i := 51) rfl))) (by decide) (own_backL (W := 3) (rm9_b l Z a0 hw [] z22 (7 : Int32) z28 z32 z30 z41 lt cs fm h196 n0 Z199 F198 (own_sta_keep0 CS K201) hcs (own_sta_keep0 FM K201) hr_fm hcc32.1 hcc41.1) hZ (hw _ (List.mem_of_getElem? (i := 51) rfl)) (hw _ (List.mem_of_getElem? (i := 3) rfl)) (by decide) (by decide) (fun vm hv => (State.resolvedAt?_warmed39 hv Lt))) (g := (mkF m 224 #[.val (.int p1), .val (.int p2), .val (.int p3), .val (.int p4), .val (.int p5), .val (.int z22), .val (.int z28), .val (.int z30), .val (.int z32), .val (.int z41), .unset, .unset, .unset, .unset, .unset, .unset] [(.int z41), (.int z30), (.int z32), (.int z28), (.int 7), (.int z22), (.int 7), (.ref b50), (.ref b50)])) rfl (by rw [hml]; rfl) (argsL := [(.int z22), (.int 7), (.int z28), (.int z32), (.int z30), (.int z41)]) (rest := [(.int 7), (.ref b50), (.ref b50)]) (lenOf pd_13 rfl) rfl (by show 2 * 0 + _ ≤ _; exact Nat.le_of_eq rfl) (hb hby at_224) (fun _ _ => ⟨rfl, e196, (by decide : 11 + 0 ≤ _), (by decide : 378 + 0 ≤ _)⟩)
  dsimp only [Pt.U, Pt.locs, Pt.cells, Pt.slots] at X204 l204 y204 z204 st204 hQ204
  rw [l204, y204, z204] at X204
  have X204 := X204.mono (cells' := 11) (slots' := 378) (by decide) (by decide)
  obtain ⟨z204v, rfl, hz204v, Nq204, eq204⟩ := hQ204
  have N204n := Fr.app NF196 Nq204
  have P205 : own_Pr p.tables e below S0 T204 (mkF m 227 #[.val (.int p1), .val (.int p2), .val (.int p3), .val (.int p4), .val (.int p5), .val (.int z22), .val (.int z28), .val (.int z30), .val (.int z32), .val (.int z41), .unset, .unset, .unset, .unset, .unset, .unset] [(.int z204v), (.int 7), (.ref b50), (.ref b50)]) := fun t k => P203 t (st204 _ k)
  obtain ⟨cl206, Ar206, q206, S206, N206, H206, G206⟩ := id V196
  have hin206 : ¬ ((7 : Int32) < 0 ∨ cl206.slots.size ≤ ((7 : Int32)).toNatClampNeg) := inb_of S206 ⟨by decide, by decide⟩
  obtain ⟨T206, h206, X206, e206, W206, st206⟩ := stC X204 hx hZ eq204 Ar206 (j := (7 : Int32)) hin206 (g := (mkF m 227 #[.val (.int p1), .val (.int p2), .val (.int p3), .val (.int p4), .val (.int p5), .val (.int z22), .val (.int z28), .val (.int z30), .val (.int z32), .val (.int z41), .unset, .unset, .unset, .unset, .unset, .unset] [(.int z204v), (.int 7), (.ref b50), (.ref b50)])) rfl rfl (hb hby at_227)
  have V206 : Arv Z h206 b50 k50 .char (18 : Int32) [(.int (nar .char u0)), (.int (nar .char u1)), (.int (nar .char u2)), (.int (nar .char z164v)), (.int (nar .char z174v)), (.int (nar .char z184v)), (.int (nar .char z194v)), (.int (nar .char z204v)), (.int 0), (.int 0), (.int 0), (.int 0), (.int 0), (.int 0), (.int 0), (.int 0), (.int 0), (.int 0)] (.int (0 : Int32)) := Arv.set Ar206 q206 S206 N206 H206 G206 (fits_nar_char _) W206 7 rfl (Nat.le_of_ble_eq_true rfl)
  have CR207 := CR197.trans (CHr.wr W206 (Safe.arv hZ.alike V196 (by decide)) CR197.1)
  have F208 := own_Sc.wrC F198 W206 V196 (hw _ (List.mem_of_getElem? (i := 7) rfl))
  have Z209 : n0 ≤ h206.size := by rw [W206.size]; exact Z199
  have kS210 := Nat.le_trans kS200 (Nat.le_of_eq W206.size.symm)
  have NF206 := Fr.snoc X206 N204n g_b50
  have K211 := K201.wr W206 (Or.inr sz_b50)
  have P212 : own_Pr p.tables e below S0 T206 (mkF m 228 #[.val (.int p1), .val (.int p2), .val (.int p3), .val (.int p4), .val (.int p5), .val (.int z22), .val (.int z28), .val (.int z30), .val (.int z32), .val (.int z41), .unset, .unset, .unset, .unset, .unset, .unset] [(.ref b50)]) := fun t k => P205 t (st206 _ k)
  have P213 : own_Pr p.tables e below S0 T206 (mkF m 243 #[.val (.int p1), .val (.int p2), .val (.int p3), .val (.int p4), .val (.int p5), .val (.int z22), .val (.int z28), .val (.int z30), .val (.int z32), .val (.int z41), .unset, .unset, .unset, .unset, .unset, .unset] [(.int z41), (.int z30), (.int z32), (.int z28), (.int 8), (.int z22), (.int 8), (.ref b50), (.ref b50)]) := fun t k => P212 t (by
    refine XS.dup X206.here hx rfl (hb hby at_228) rfl rfl ?_
    refine XS.bipush X206.here hx rfl (hb hby at_229) ?_
    refine XS.iload X206.here hx rfl (hb hby at_231) rfl ?_
    refine XS.bipush X206.here hx rfl (hb hby at_233) ?_
    refine XS.iload X206.here hx rfl (hb hby at_235) rfl ?_
    refine XS.iload X206.here hx rfl (hb hby at_237) rfl ?_
    refine XS.iload X206.here hx rfl (hb hby at_239) rfl ?_
    refine XS.iload X206.here hx rfl (hb hby at_241) rfl ?_
    exact k)
  obtain ⟨_, _, ⟨T214, L214, k214, n214⟩, -, X214, ⟨Lc214, hQ214, l214, y214, z214⟩, st214⟩ := Jvm.LawKit.callS X206 hx (y := (⟨"com/example/firmhold/firmhold/PermissionNamedPinLaw", "at", "(IIICIC)C"⟩ : MethodName)) hown (mvT hZ (hw _ (List.mem_of_getElem? (i := 49) rfl))) (mvT hZ (hw _ (List.mem_of_getElem? (i := 50) rfl))) (mvT hZ (hw _ (List.mem_of_getElem? (i := 3) rfl))) (mvT hZ (hw _ (List.mem_of_getElem? (i := 51) rfl))) (by decide) (own_backL (W := 3) (rm9_b l Z a0 hw [] z22 (8 : Int32) z28 z32 z30 z41 lt cs fm h206 n0 Z209 F208 (own_sta_keep0 CS K211) hcs (own_sta_keep0 FM K211) hr_fm hcc32.1 hcc41.1) hZ (hw _ (List.mem_of_getElem? (i := 51) rfl)) (hw _ (List.mem_of_getElem? (i := 3) rfl)) (by decide) (by decide) (fun vm hv => (State.resolvedAt?_warmed39 hv Lt))) (g := (mkF m 243 #[.val (.int p1), .val (.int p2), .val (.int p3), .val (.int p4), .val (.int p5), .val (.int z22), .val (.int z28), .val (.int z30), .val (.int z32), .val (.int z41), .unset, .unset, .unset, .unset, .unset, .unset] [(.int z41), (.int z30), (.int z32), (.int z28), (.int 8), (.int z22), (.int 8), (.ref b50), (.ref b50)])) rfl (by rw [hml]; rfl) (argsL := [(.int z22), (.int 8), (.int z28), (.int z32), (.int z30), (.int z41)]) (rest := [(.int 8), (.ref b50), (.ref b50)]) (lenOf pd_13 rfl) rfl (by show 2 * 0 + _ ≤ _; exact Nat.le_of_eq rfl) (hb hby at_243) (fun _ _ => ⟨rfl, e206, (by decide : 11 + 0 ≤ _), (by decide : 378 + 0 ≤ _)⟩)
  dsimp only [Pt.U, Pt.locs, Pt.cells, Pt.slots] at X214 l214 y214 z214 st214 hQ214
  rw [l214, y214, z214] at X214
  have X214 := X214.mono (cells' := 11) (slots' := 378) (by decide) (by decide)
  obtain ⟨z214v, rfl, hz214v, Nq214, eq214⟩ := hQ214
  have N214n := Fr.app NF206 Nq214
  have P215 : own_Pr p.tables e below S0 T214 (mkF m 246 #[.val (.int p1), .val (.int p2), .val (.int p3), .val (.int p4), .val (.int p5), .val (.int z22), .val (.int z28), .val (.int z30), .val (.int z32), .val (.int z41), .unset, .unset, .unset, .unset, .unset, .unset] [(.int z214v), (.int 8), (.ref b50), (.ref b50)]) := fun t k => P213 t (st214 _ k)
  obtain ⟨cl216, Ar216, q216, S216, N216, H216, G216⟩ := id V206
  have hin216 : ¬ ((8 : Int32) < 0 ∨ cl216.slots.size ≤ ((8 : Int32)).toNatClampNeg) := inb_of S216 ⟨by decide, by decide⟩
  obtain ⟨T216, h216, X216, e216, W216, st216⟩ := stC X214 hx hZ eq214 Ar216 (j := (8 : Int32)) hin216 (g := (mkF m 246 #[.val (.int p1), .val (.int p2), .val (.int p3), .val (.int p4), .val (.int p5), .val (.int z22), .val (.int z28), .val (.int z30), .val (.int z32), .val (.int z41), .unset, .unset, .unset, .unset, .unset, .unset] [(.int z214v), (.int 8), (.ref b50), (.ref b50)])) rfl rfl (hb hby at_246)
  have V216 : Arv Z h216 b50 k50 .char (18 : Int32) [(.int (nar .char u0)), (.int (nar .char u1)), (.int (nar .char u2)), (.int (nar .char z164v)), (.int (nar .char z174v)), (.int (nar .char z184v)), (.int (nar .char z194v)), (.int (nar .char z204v)), (.int (nar .char z214v)), (.int 0), (.int 0), (.int 0), (.int 0), (.int 0), (.int 0), (.int 0), (.int 0), (.int 0)] (.int (0 : Int32)) := Arv.set Ar216 q216 S216 N216 H216 G216 (fits_nar_char _) W216 8 rfl (Nat.le_of_ble_eq_true rfl)
  have CR217 := CR207.trans (CHr.wr W216 (Safe.arv hZ.alike V206 (by decide)) CR207.1)
  have F218 := own_Sc.wrC F208 W216 V206 (hw _ (List.mem_of_getElem? (i := 7) rfl))
  have Z219 : n0 ≤ h216.size := by rw [W216.size]; exact Z209
  have kS220 := Nat.le_trans kS210 (Nat.le_of_eq W216.size.symm)
  have NF216 := Fr.snoc X216 N214n g_b50
  have K221 := K211.wr W216 (Or.inr sz_b50)
  have P222 : own_Pr p.tables e below S0 T216 (mkF m 247 #[.val (.int p1), .val (.int p2), .val (.int p3), .val (.int p4), .val (.int p5), .val (.int z22), .val (.int z28), .val (.int z30), .val (.int z32), .val (.int z41), .unset, .unset, .unset, .unset, .unset, .unset] [(.ref b50)]) := fun t k => P215 t (st216 _ k)
  have P223 : own_Pr p.tables e below S0 T216 (mkF m 262 #[.val (.int p1), .val (.int p2), .val (.int p3), .val (.int p4), .val (.int p5), .val (.int z22), .val (.int z28), .val (.int z30), .val (.int z32), .val (.int z41), .unset, .unset, .unset, .unset, .unset, .unset] [(.int z41), (.int z30), (.int z32), (.int z28), (.int 9), (.int z22), (.int 9), (.ref b50), (.ref b50)]) := fun t k => P222 t (by
    refine XS.dup X216.here hx rfl (hb hby at_247) rfl rfl ?_
    refine XS.bipush X216.here hx rfl (hb hby at_248) ?_
    refine XS.iload X216.here hx rfl (hb hby at_250) rfl ?_
    refine XS.bipush X216.here hx rfl (hb hby at_252) ?_
    refine XS.iload X216.here hx rfl (hb hby at_254) rfl ?_
    refine XS.iload X216.here hx rfl (hb hby at_256) rfl ?_
    refine XS.iload X216.here hx rfl (hb hby at_258) rfl ?_
    refine XS.iload X216.here hx rfl (hb hby at_260) rfl ?_
    exact k)
  obtain ⟨_, _, ⟨T224, L224, k224, n224⟩, -, X224, ⟨Lc224, hQ224, l224, y224, z224⟩, st224⟩ := Jvm.LawKit.callS X216 hx (y := (⟨"com/example/firmhold/firmhold/PermissionNamedPinLaw", "at", "(IIICIC)C"⟩ : MethodName)) hown (mvT hZ (hw _ (List.mem_of_getElem? (i := 49) rfl))) (mvT hZ (hw _ (List.mem_of_getElem? (i := 50) rfl))) (mvT hZ (hw _ (List.mem_of_getElem? (i := 3) rfl))) (mvT hZ (hw _ (List.mem_of_getElem? (i := 51) rfl))) (by decide) (own_backL (W := 3) (rm9_b l Z a0 hw [] z22 (9 : Int32) z28 z32 z30 z41 lt cs fm h216 n0 Z219 F218 (own_sta_keep0 CS K221) hcs (own_sta_keep0 FM K221) hr_fm hcc32.1 hcc41.1) hZ (hw _ (List.mem_of_getElem? (i := 51) rfl)) (hw _ (List.mem_of_getElem? (i := 3) rfl)) (by decide) (by decide) (fun vm hv => (State.resolvedAt?_warmed39 hv Lt))) (g := (mkF m 262 #[.val (.int p1), .val (.int p2), .val (.int p3), .val (.int p4), .val (.int p5), .val (.int z22), .val (.int z28), .val (.int z30), .val (.int z32), .val (.int z41), .unset, .unset, .unset, .unset, .unset, .unset] [(.int z41), (.int z30), (.int z32), (.int z28), (.int 9), (.int z22), (.int 9), (.ref b50), (.ref b50)])) rfl (by rw [hml]; rfl) (argsL := [(.int z22), (.int 9), (.int z28), (.int z32), (.int z30), (.int z41)]) (rest := [(.int 9), (.ref b50), (.ref b50)]) (lenOf pd_13 rfl) rfl (by show 2 * 0 + _ ≤ _; exact Nat.le_of_eq rfl) (hb hby at_262) (fun _ _ => ⟨rfl, e216, (by decide : 11 + 0 ≤ _), (by decide : 378 + 0 ≤ _)⟩)
  dsimp only [Pt.U, Pt.locs, Pt.cells, Pt.slots] at X224 l224 y224 z224 st224 hQ224
  rw [l224, y224, z224] at X224
  have X224 := X224.mono (cells' := 11) (slots' := 378) (by decide) (by decide)
  obtain ⟨z224v, rfl, hz224v, Nq224, eq224⟩ := hQ224
  have N224n := Fr.app NF216 Nq224
  have P225 : own_Pr p.tables e below S0 T224 (mkF m 265 #[.val (.int p1), .val (.int p2), .val (.int p3), .val (.int p4), .val (.int p5), .val (.int z22), .val (.int z28), .val (.int z30), .val (.int z32), .val (.int z41), .unset, .unset, .unset, .unset, .unset, .unset] [(.int z224v), (.int 9), (.ref b50), (.ref b50)]) := fun t k => P223 t (st224 _ k)
  obtain ⟨cl226, Ar226, q226, S226, N226, H226, G226⟩ := id V216
  have hin226 : ¬ ((9 : Int32) < 0 ∨ cl226.slots.size ≤ ((9 : Int32)).toNatClampNeg) := inb_of S226 ⟨by decide, by decide⟩
  obtain ⟨T226, h226, X226, e226, W226, st226⟩ := stC X224 hx hZ eq224 Ar226 (j := (9 : Int32)) hin226 (g := (mkF m 265 #[.val (.int p1), .val (.int p2), .val (.int p3), .val (.int p4), .val (.int p5), .val (.int z22), .val (.int z28), .val (.int z30), .val (.int z32), .val (.int z41), .unset, .unset, .unset, .unset, .unset, .unset] [(.int z224v), (.int 9), (.ref b50), (.ref b50)])) rfl rfl (hb hby at_265)
  have V226 : Arv Z h226 b50 k50 .char (18 : Int32) [(.int (nar .char u0)), (.int (nar .char u1)), (.int (nar .char u2)), (.int (nar .char z164v)), (.int (nar .char z174v)), (.int (nar .char z184v)), (.int (nar .char z194v)), (.int (nar .char z204v)), (.int (nar .char z214v)), (.int (nar .char z224v)), (.int 0), (.int 0), (.int 0), (.int 0), (.int 0), (.int 0), (.int 0), (.int 0)] (.int (0 : Int32)) := Arv.set Ar226 q226 S226 N226 H226 G226 (fits_nar_char _) W226 9 rfl (Nat.le_of_ble_eq_true rfl)
  have CR227 := CR217.trans (CHr.wr W226 (Safe.arv hZ.alike V216 (by decide)) CR217.1)
  have F228 := own_Sc.wrC F218 W226 V216 (hw _ (List.mem_of_getElem? (i := 7) rfl))
  have Z229 : n0 ≤ h226.size := by rw [W226.size]; exact Z219
  have kS230 := Nat.le_trans kS220 (Nat.le_of_eq W226.size.symm)
  have NF226 := Fr.snoc X226 N224n g_b50
  have K231 := K221.wr W226 (Or.inr sz_b50)
  have P232 : own_Pr p.tables e below S0 T226 (mkF m 266 #[.val (.int p1), .val (.int p2), .val (.int p3), .val (.int p4), .val (.int p5), .val (.int z22), .val (.int z28), .val (.int z30), .val (.int z32), .val (.int z41), .unset, .unset, .unset, .unset, .unset, .unset] [(.ref b50)]) := fun t k => P225 t (st226 _ k)
  have P233 : own_Pr p.tables e below S0 T226 (mkF m 281 #[.val (.int p1), .val (.int p2), .val (.int p3), .val (.int p4), .val (.int p5), .val (.int z22), .val (.int z28), .val (.int z30), .val (.int z32), .val (.int z41), .unset, .unset, .unset, .unset, .unset, .unset] [(.int z41), (.int z30), (.int z32), (.int z28), (.int 10), (.int z22), (.int 10), (.ref b50), (.ref b50)]) := fun t k => P232 t (by
    refine XS.dup X226.here hx rfl (hb hby at_266) rfl rfl ?_
    refine XS.bipush X226.here hx rfl (hb hby at_267) ?_
    refine XS.iload X226.here hx rfl (hb hby at_269) rfl ?_
    refine XS.bipush X226.here hx rfl (hb hby at_271) ?_
    refine XS.iload X226.here hx rfl (hb hby at_273) rfl ?_
    refine XS.iload X226.here hx rfl (hb hby at_275) rfl ?_
    refine XS.iload X226.here hx rfl (hb hby at_277) rfl ?_
    refine XS.iload X226.here hx rfl (hb hby at_279) rfl ?_
    exact k)
  obtain ⟨_, _, ⟨T234, L234, k234, n234⟩, -, X234, ⟨Lc234, hQ234, l234, y234, z234⟩, st234⟩ := Jvm.LawKit.callS X226 hx (y := (⟨"com/example/firmhold/firmhold/PermissionNamedPinLaw", "at", "(IIICIC)C"⟩ : MethodName)) hown (mvT hZ (hw _ (List.mem_of_getElem? (i := 49) rfl))) (mvT hZ (hw _ (List.mem_of_getElem? (i := 50) rfl))) (mvT hZ (hw _ (List.mem_of_getElem? (i := 3) rfl))) (mvT hZ (hw _ (List.mem_of_getElem? (i := 51) rfl))) (by decide) (own_backL (W := 3) (rm9_b l Z a0 hw [] z22 (10 : Int32) z28 z32 z30 z41 lt cs fm h226 n0 Z229 F228 (own_sta_keep0 CS K231) hcs (own_sta_keep0 FM K231) hr_fm hcc32.1 hcc41.1) hZ (hw _ (List.mem_of_getElem? (i := 51) rfl)) (hw _ (List.mem_of_getElem? (i := 3) rfl)) (by decide) (by decide) (fun vm hv => (State.resolvedAt?_warmed39 hv Lt))) (g := (mkF m 281 #[.val (.int p1), .val (.int p2), .val (.int p3), .val (.int p4), .val (.int p5), .val (.int z22), .val (.int z28), .val (.int z30), .val (.int z32), .val (.int z41), .unset, .unset, .unset, .unset, .unset, .unset] [(.int z41), (.int z30), (.int z32), (.int z28), (.int 10), (.int z22), (.int 10), (.ref b50), (.ref b50)])) rfl (by rw [hml]; rfl) (argsL := [(.int z22), (.int 10), (.int z28), (.int z32), (.int z30), (.int z41)]) (rest := [(.int 10), (.ref b50), (.ref b50)]) (lenOf pd_13 rfl) rfl (by show 2 * 0 + _ ≤ _; exact Nat.le_of_eq rfl) (hb hby at_281) (fun _ _ => ⟨rfl, e226, (by decide : 11 + 0 ≤ _), (by decide : 378 + 0 ≤ _)⟩)
  dsimp only [Pt.U, Pt.locs, Pt.cells, Pt.slots] at X234 l234 y234 z234 st234 hQ234
  rw [l234, y234, z234] at X234
  have X234 := X234.mono (cells' := 11) (slots' := 378) (by decide) (by decide)
  obtain ⟨z234v, rfl, hz234v, Nq234, eq234⟩ := hQ234
  have N234n := Fr.app NF226 Nq234
  have P235 : own_Pr p.tables e below S0 T234 (mkF m 284 #[.val (.int p1), .val (.int p2), .val (.int p3), .val (.int p4), .val (.int p5), .val (.int z22), .val (.int z28), .val (.int z30), .val (.int z32), .val (.int z41), .unset, .unset, .unset, .unset, .unset, .unset] [(.int z234v), (.int 10), (.ref b50), (.ref b50)]) := fun t k => P233 t (st234 _ k)
  obtain ⟨cl236, Ar236, q236, S236, N236, H236, G236⟩ := id V226
  have hin236 : ¬ ((10 : Int32) < 0 ∨ cl236.slots.size ≤ ((10 : Int32)).toNatClampNeg) := inb_of S236 ⟨by decide, by decide⟩
  obtain ⟨T236, h236, X236, e236, W236, st236⟩ := stC X234 hx hZ eq234 Ar236 (j := (10 : Int32)) hin236 (g := (mkF m 284 #[.val (.int p1), .val (.int p2), .val (.int p3), .val (.int p4), .val (.int p5), .val (.int z22), .val (.int z28), .val (.int z30), .val (.int z32), .val (.int z41), .unset, .unset, .unset, .unset, .unset, .unset] [(.int z234v), (.int 10), (.ref b50), (.ref b50)])) rfl rfl (hb hby at_284)
  have V236 : Arv Z h236 b50 k50 .char (18 : Int32) [(.int (nar .char u0)), (.int (nar .char u1)), (.int (nar .char u2)), (.int (nar .char z164v)), (.int (nar .char z174v)), (.int (nar .char z184v)), (.int (nar .char z194v)), (.int (nar .char z204v)), (.int (nar .char z214v)), (.int (nar .char z224v)), (.int (nar .char z234v)), (.int 0), (.int 0), (.int 0), (.int 0), (.int 0), (.int 0), (.int 0)] (.int (0 : Int32)) := Arv.set Ar236 q236 S236 N236 H236 G236 (fits_nar_char _) W236 10 rfl (Nat.le_of_ble_eq_true rfl)
  have CR237 := CR227.trans (CHr.wr W236 (Safe.arv hZ.alike V226 (by decide)) CR227.1)
  have F238 := own_Sc.wrC F228 W236 V226 (hw _ (List.mem_of_getElem? (i := 7) rfl))
  have Z239 : n0 ≤ h236.size := by rw [W236.size]; exact Z229
  have kS240 := Nat.le_trans kS230 (Nat.le_of_eq W236.size.symm)
  have NF236 := Fr.snoc X236 N234n g_b50
  have K241 := K231.wr W236 (Or.inr sz_b50)
  have P242 : own_Pr p.tables e below S0 T236 (mkF m 285 #[.val (.int p1), .val (.int p2), .val (.int p3), .val (.int p4), .val (.int p5), .val (.int z22), .val (.int z28), .val (.int z30), .val (.int z32), .val (.int z41), .unset, .unset, .unset, .unset, .unset, .unset] [(.ref b50)]) := fun t k => P235 t (st236 _ k)
  have P243 : own_Pr p.tables e below S0 T236 (mkF m 300 #[.val (.int p1), .val (.int p2), .val (.int p3), .val (.int p4), .val (.int p5), .val (.int z22), .val (.int z28), .val (.int z30), .val (.int z32), .val (.int z41), .unset, .unset, .unset, .unset, .unset, .unset] [(.int z41), (.int z30), (.int z32), (.int z28), (.int 11), (.int z22), (.int 11), (.ref b50), (.ref b50)]) := fun t k => P242 t (by
    refine XS.dup X236.here hx rfl (hb hby at_285) rfl rfl ?_
    refine XS.bipush X236.here hx rfl (hb hby at_286) ?_
    refine XS.iload X236.here hx rfl (hb hby at_288) rfl ?_
    refine XS.bipush X236.here hx rfl (hb hby at_290) ?_
    refine XS.iload X236.here hx rfl (hb hby at_292) rfl ?_
    refine XS.iload X236.here hx rfl (hb hby at_294) rfl ?_
    refine XS.iload X236.here hx rfl (hb hby at_296) rfl ?_
    refine XS.iload X236.here hx rfl (hb hby at_298) rfl ?_
    exact k)
  obtain ⟨_, _, ⟨T244, L244, k244, n244⟩, -, X244, ⟨Lc244, hQ244, l244, y244, z244⟩, st244⟩ := Jvm.LawKit.callS X236 hx (y := (⟨"com/example/firmhold/firmhold/PermissionNamedPinLaw", "at", "(IIICIC)C"⟩ : MethodName)) hown (mvT hZ (hw _ (List.mem_of_getElem? (i := 49) rfl))) (mvT hZ (hw _ (List.mem_of_getElem? (i := 50) rfl))) (mvT hZ (hw _ (List.mem_of_getElem? (i := 3) rfl))) (mvT hZ (hw _ (List.mem_of_getElem? (i := 51) rfl))) (by decide) (own_backL (W := 3) (rm9_b l Z a0 hw [] z22 (11 : Int32) z28 z32 z30 z41 lt cs fm h236 n0 Z239 F238 (own_sta_keep0 CS K241) hcs (own_sta_keep0 FM K241) hr_fm hcc32.1 hcc41.1) hZ (hw _ (List.mem_of_getElem? (i := 51) rfl)) (hw _ (List.mem_of_getElem? (i := 3) rfl)) (by decide) (by decide) (fun vm hv => (State.resolvedAt?_warmed39 hv Lt))) (g := (mkF m 300 #[.val (.int p1), .val (.int p2), .val (.int p3), .val (.int p4), .val (.int p5), .val (.int z22), .val (.int z28), .val (.int z30), .val (.int z32), .val (.int z41), .unset, .unset, .unset, .unset, .unset, .unset] [(.int z41), (.int z30), (.int z32), (.int z28), (.int 11), (.int z22), (.int 11), (.ref b50), (.ref b50)])) rfl (by rw [hml]; rfl) (argsL := [(.int z22), (.int 11), (.int z28), (.int z32), (.int z30), (.int z41)]) (rest := [(.int 11), (.ref b50), (.ref b50)]) (lenOf pd_13 rfl) rfl (by show 2 * 0 + _ ≤ _; exact Nat.le_of_eq rfl) (hb hby at_300) (fun _ _ => ⟨rfl, e236, (by decide : 11 + 0 ≤ _), (by decide : 378 + 0 ≤ _)⟩)
  dsimp only [Pt.U, Pt.locs, Pt.cells, Pt.slots] at X244 l244 y244 z244 st244 hQ244
  rw [l244, y244, z244] at X244
  have X244 := X244.mono (cells' := 11) (slots' := 378) (by decide) (by decide)
  obtain ⟨z244v, rfl, hz244v, Nq244, eq244⟩ := hQ244
  have N244n := Fr.app NF236 Nq244
  have P245 : own_Pr p.tables e below S0 T244 (mkF m 303 #[.val (.int p1), .val (.int p2), .val (.int p3), .val (.int p4), .val (.int p5), .val (.int z22), .val (.int z28), .val (.int z30), .val (.int z32), .val (.int z41), .unset, .unset, .unset, .unset, .unset, .unset] [(.int z244v), (.int 11), (.ref b50), (.ref b50)]) := fun t k => P243 t (st244 _ k)
  obtain ⟨cl246, Ar246, q246, S246, N246, H246, G246⟩ := id V236
  have hin246 : ¬ ((11 : Int32) < 0 ∨ cl246.slots.size ≤ ((11 : Int32)).toNatClampNeg) := inb_of S246 ⟨by decide, by decide⟩
  obtain ⟨T246, h246, X246, e246, W246, st246⟩ := stC X244 hx hZ eq244 Ar246 (j := (11 : Int32)) hin246 (g := (mkF m 303 #[.val (.int p1), .val (.int p2), .val (.int p3), .val (.int p4), .val (.int p5), .val (.int z22), .val (.int z28), .val (.int z30), .val (.int z32), .val (.int z41), .unset, .unset, .unset, .unset, .unset, .unset] [(.int z244v), (.int 11), (.ref b50), (.ref b50)])) rfl rfl (hb hby at_303)
  have V246 : Arv Z h246 b50 k50 .char (18 : Int32) [(.int (nar .char u0)), (.int (nar .char u1)), (.int (nar .char u2)), (.int (nar .char z164v)), (.int (nar .char z174v)), (.int (nar .char z184v)), (.int (nar .char z194v)), (.int (nar .char z204v)), (.int (nar .char z214v)), (.int (nar .char z224v)), (.int (nar .char z234v)), (.int (nar .char z244v)), (.int 0), (.int 0), (.int 0), (.int 0), (.int 0), (.int 0)] (.int (0 : Int32)) := Arv.set Ar246 q246 S246 N246 H246 G246 (fits_nar_char _) W246 11 rfl (Nat.le_of_ble_eq_true rfl)
  have CR247 := CR237.trans (CHr.wr W246 (Safe.arv hZ.alike V236 (by decide)) CR237.1)
  have F248 := own_Sc.wrC F238 W246 V236 (hw _ (List.mem_of_getElem? (i := 7) rfl))
  have Z249 : n0 ≤ h246.size := by rw [W246.size]; exact Z239
  have kS250 := Nat.le_trans kS240 (Nat.le_of_eq W246.size.symm)
  have NF246 := Fr.snoc X246 N244n g_b50
  have K251 := K241.wr W246 (Or.inr sz_b50)
  have P252 : own_Pr p.tables e below S0 T246 (mkF m 304 #[.val (.int p1), .val (.int p2), .val (.int p3), .val (.int p4), .val (.int p5), .val (.int z22), .val (.int z28), .val (.int z30), .val (.int z32), .val (.int z41), .unset, .unset, .unset, .unset, .unset, .unset] [(.ref b50)]) := fun t k => P245 t (st246 _ k)
  have P253 : own_Pr p.tables e below S0 T246 (mkF m 319 #[.val (.int p1), .val (.int p2), .val (.int p3), .val (.int p4), .val (.int p5), .val (.int z22), .val (.int z28), .val (.int z30), .val (.int z32), .val (.int z41), .unset, .unset, .unset, .unset, .unset, .unset] [(.int z41), (.int z30), (.int z32), (.int z28), (.int 12), (.int z22), (.int 12), (.ref b50), (.ref b50)]) := fun t k => P252 t (by
    refine XS.dup X246.here hx rfl (hb hby at_304) rfl rfl ?_
    refine XS.bipush X246.here hx rfl (hb hby at_305) ?_
    refine XS.iload X246.here hx rfl (hb hby at_307) rfl ?_
    refine XS.bipush X246.here hx rfl (hb hby at_309) ?_
    refine XS.iload X246.here hx rfl (hb hby at_311) rfl ?_
    refine XS.iload X246.here hx rfl (hb hby at_313) rfl ?_
    refine XS.iload X246.here hx rfl (hb hby at_315) rfl ?_
    refine XS.iload X246.here hx rfl (hb hby at_317) rfl ?_
    exact k)
  obtain ⟨_, _, ⟨T254, L254, k254, n254⟩, -, X254, ⟨Lc254, hQ254, l254, y254, z254⟩, st254⟩ := Jvm.LawKit.callS X246 hx (y := (⟨"com/example/firmhold/firmhold/PermissionNamedPinLaw", "at", "(IIICIC)C"⟩ : MethodName)) hown (mvT hZ (hw _ (List.mem_of_getElem? (i := 49) rfl))) (mvT hZ (hw _ (List.mem_of_getElem? (i := 50) rfl))) (mvT hZ (hw _ (List.mem_of_getElem? (i := 3) rfl))) (mvT hZ (hw _ (List.mem_of_getElem? (i := 51) rfl))) (by decide) (own_backL (W := 3) (rm9_b l Z a0 hw [] z22 (12 : Int32) z28 z32 z30 z41 lt cs fm h246 n0 Z249 F248 (own_sta_keep0 CS K251) hcs (own_sta_keep0 FM K251) hr_fm hcc32.1 hcc41.1) hZ (hw _ (List.mem_of_getElem? (i := 51) rfl)) (hw _ (List.mem_of_getElem? (i := 3) rfl)) (by decide) (by decide) (fun vm hv => (State.resolvedAt?_warmed39 hv Lt))) (g := (mkF m 319 #[.val (.int p1), .val (.int p2), .val (.int p3), .val (.int p4), .val (.int p5), .val (.int z22), .val (.int z28), .val (.int z30), .val (.int z32), .val (.int z41), .unset, .unset, .unset, .unset, .unset, .unset] [(.int z41), (.int z30), (.int z32), (.int z28), (.int 12), (.int z22), (.int 12), (.ref b50), (.ref b50)])) rfl (by rw [hml]; rfl) (argsL := [(.int z22), (.int 12), (.int z28), (.int z32), (.int z30), (.int z41)]) (rest := [(.int 12), (.ref b50), (.ref b50)]) (lenOf pd_13 rfl) rfl (by show 2 * 0 + _ ≤ _; exact Nat.le_of_eq rfl) (hb hby at_319) (fun _ _ => ⟨rfl, e246, (by decide : 11 + 0 ≤ _), (by decide : 378 + 0 ≤ _)⟩)
  dsimp only [Pt.U, Pt.locs, Pt.cells, Pt.slots] at X254 l254 y254 z254 st254 hQ254
  rw [l254, y254, z254] at X254
  have X254 := X254.mono (cells' := 11) (slots' := 378) (by decide) (by decide)
  obtain ⟨z254v, rfl, hz254v, Nq254, eq254⟩ := hQ254
  have N254n := Fr.app NF246 Nq254
  have P255 : own_Pr p.tables e below S0 T254 (mkF m 322 #[.val (.int p1), .val (.int p2), .val (.int p3), .val (.int p4), .val (.int p5), .val (.int z22), .val (.int z28), .val (.int z30), .val (.int z32), .val (.int z41), .unset, .unset, .unset, .unset, .unset, .unset] [(.int z254v), (.int 12), (.ref b50), (.ref b50)]) := fun t k => P253 t (st254 _ k)
  obtain ⟨cl256, Ar256, q256, S256, N256, H256, G256⟩ := id V246
  have hin256 : ¬ ((12 : Int32) < 0 ∨ cl256.slots.size ≤ ((12 : Int32)).toNatClampNeg) := inb_of S256 ⟨by decide, by decide⟩
  obtain ⟨T256, h256, X256, e256, W256, st256⟩ := stC X254 hx hZ eq254 Ar256 (j := (12 : Int32)) hin256 (g := (mkF m 322 #[.val (.int p1), .val (.int p2), .val (.int p3), .val (.int p4), .val (.int p5), .val (.int z22), .val (.int z28), .val (.int z30), .val (.int z32), .val (.int z41), .unset, .unset, .unset, .unset, .unset, .unset] [(.int z254v), (.int 12), (.ref b50), (.ref b50)])) rfl rfl (hb hby at_322)
  have V256 : Arv Z h256 b50 k50 .char (18 : Int32) [(.int (nar .char u0)), (.int (nar .char u1)), (.int (nar .char u2)), (.int (nar .char z164v)), (.int (nar .char z174v)), (.int (nar .char z184v)), (.int (nar .char z194v)), (.int (nar .char z204v)), (.int (nar .char z214v)), (.int (nar .char z224v)), (.int (nar .char z234v)), (.int (nar .char z244v)), (.int (nar .char z254v)), (.int 0), (.int 0), (.int 0), (.int 0), (.int 0)] (.int (0 : Int32)) := Arv.set Ar256 q256 S256 N256 H256 G256 (fits_nar_char _) W256 12 rfl (Nat.le_of_ble_eq_true rfl)
  have CR257 := CR247.trans (CHr.wr W256 (Safe.arv hZ.alike V246 (by decide)) CR247.1)
  have F258 := own_Sc.wrC F248 W256 V246 (hw _ (List.mem_of_getElem? (i := 7) rfl))
  have Z259 : n0 ≤ h256.size := by rw [W256.size]; exact Z249
  have kS260 := Nat.le_trans kS250 (Nat.le_of_eq W256.size.symm)
  have NF256 := Fr.snoc X256 N254n g_b50
  have K261 := K251.wr W256 (Or.inr sz_b50)
  have P262 : own_Pr p.tables e below S0 T256 (mkF m 323 #[.val (.int p1), .val (.int p2), .val (.int p3), .val (.int p4), .val (.int p5), .val (.int z22), .val (.int z28), .val (.int z30), .val (.int z32), .val (.int z41), .unset, .unset, .unset, .unset, .unset, .unset] [(.ref b50)]) := fun t k => P255 t (st256 _ k)
  have P263 : own_Pr p.tables e below S0 T256 (mkF m 338 #[.val (.int p1), .val (.int p2), .val (.int p3), .val (.int p4), .val (.int p5), .val (.int z22), .val (.int z28), .val (.int z30), .val (.int z32), .val (.int z41), .unset, .unset, .unset, .unset, .unset, .unset] [(.int z41), (.int z30), (.int z32), (.int z28), (.int 13), (.int z22), (.int 13), (.ref b50), (.ref b50)]) := fun t k => P262 t (by
    refine XS.dup X256.here hx rfl (hb hby at_323) rfl rfl ?_
    refine XS.bipush X256.here hx rfl (hb hby at_324) ?_
    refine XS.iload X256.here hx rfl (hb hby at_326) rfl ?_
    refine XS.bipush X256.here hx rfl (hb hby at_328) ?_
    refine XS.iload X256.here hx rfl (hb hby at_330) rfl ?_
    refine XS.iload X256.here hx rfl (hb hby at_332) rfl ?_
    refine XS.iload X256.here hx rfl (hb hby at_334) rfl ?_
    refine XS.iload X256.here hx rfl (hb hby at_336) rfl ?_
    exact k)
  obtain ⟨_, _, ⟨T264, L264, k264, n264⟩, -, X264, ⟨Lc264, hQ264, l264, y264, z264⟩, st264⟩ := Jvm.LawKit.callS X256 hx (y := (⟨"com/example/firmhold/firmhold/PermissionNamedPinLaw", "at", "(IIICIC)C"⟩ : MethodName)) hown (mvT hZ (hw _ (List.mem_of_getElem? (i := 49) rfl))) (mvT hZ (hw _ (List.mem_of_getElem? (i := 50) rfl))) (mvT hZ (hw _ (List.mem_of_getElem? (i := 3) rfl))) (mvT hZ (hw _ (List.mem_of_getElem? (i := 51) rfl))) (by decide) (own_backL (W := 3) (rm9_b l Z a0 hw [] z22 (13 : Int32) z28 z32 z30 z41 lt cs fm h256 n0 Z259 F258 (own_sta_keep0 CS K261) hcs (own_sta_keep0 FM K261) hr_fm hcc32.1 hcc41.1) hZ (hw _ (List.mem_of_getElem? (i := 51) rfl)) (hw _ (List.mem_of_getElem? (i := 3) rfl)) (by decide) (by decide) (fun vm hv => (State.resolvedAt?_warmed39 hv Lt))) (g := (mkF m 338 #[.val (.int p1), .val (.int p2), .val (.int p3), .val (.int p4), .val (.int p5), .val (.int z22), .val (.int z28), .val (.int z30), .val (.int z32), .val (.int z41), .unset, .unset, .unset, .unset, .unset, .unset] [(.int z41), (.int z30), (.int z32), (.int z28), (.int 13), (.int z22), (.int 13), (.ref b50), (.ref b50)])) rfl (by rw [hml]; rfl) (argsL := [(.int z22), (.int 13), (.int z28), (.int z32), (.int z30), (.int z41)]) (rest := [(.int 13), (.ref b50), (.ref b50)]) (lenOf pd_13 rfl) rfl (by show 2 * 0 + _ ≤ _; exact Nat.le_of_eq rfl) (hb hby at_338) (fun _ _ => ⟨rfl, e256, (by decide : 11 + 0 ≤ _), (by decide : 378 + 0 ≤ _)⟩)
  dsimp only [Pt.U, Pt.locs, Pt.cells, Pt.slots] at X264 l264 y264 z264 st264 hQ264
  rw [l264, y264, z264] at X264
  have X264 := X264.mono (cells' := 11) (slots' := 378) (by decide) (by decide)
  obtain ⟨z264v, rfl, hz264v, Nq264, eq264⟩ := hQ264
  have N264n := Fr.app NF256 Nq264
  have P265 : own_Pr p.tables e below S0 T264 (mkF m 341 #[.val (.int p1), .val (.int p2), .val (.int p3), .val (.int p4), .val (.int p5), .val (.int z22), .val (.int z28), .val (.int z30), .val (.int z32), .val (.int z41), .unset, .unset, .unset, .unset, .unset, .unset] [(.int z264v), (.int 13), (.ref b50), (.ref b50)]) := fun t k => P263 t (st264 _ k)
  obtain ⟨cl266, Ar266, q266, S266, N266, H266, G266⟩ := id V256
  have hin266 : ¬ ((13 : Int32) < 0 ∨ cl266.slots.size ≤ ((13 : Int32)).toNatClampNeg) := inb_of S266 ⟨by decide, by decide⟩
  obtain ⟨T266, h266, X266, e266, W266, st266⟩ := stC X264 hx hZ eq264 Ar266 (j := (13 : Int32)) hin266 (g := (mkF m 341 #[.val (.int p1), .val (.int p2), .val (.int p3), .val (.int p4), .val (.int p5), .val (.int z22), .val (.int z28), .val (.int z30), .val (.int z32), .val (.int z41), .unset, .unset, .unset, .unset, .unset, .unset] [(.int z264v), (.int 13), (.ref b50), (.ref b50)])) rfl rfl (hb hby at_341)
  have V266 : Arv Z h266 b50 k50 .char (18 : Int32) [(.int (nar .char u0)), (.int (nar .char u1)), (.int (nar .char u2)), (.int (nar .char z164v)), (.int (nar .char z174v)), (.int (nar .char z184v)), (.int (nar .char z194v)), (.int (nar .char z204v)), (.int (nar .char z214v)), (.int (nar .char z224v)), (.int (nar .char z234v)), (.int (nar .char z244v)), (.int (nar .char z254v)), (.int (nar .char z264v)), (.int 0), (.int 0), (.int 0), (.int 0)] (.int (0 : Int32)) := Arv.set Ar266 q266 S266 N266 H266 G266 (fits_nar_char _) W266 13 rfl (Nat.le_of_ble_eq_true rfl)
  have CR267 := CR257.trans (CHr.wr W266 (Safe.arv hZ.alike V256 (by decide)) CR257.1)
  have F268 := own_Sc.wrC F258 W266 V256 (hw _ (List.mem_of_getElem? (i := 7) rfl))
  have Z269 : n0 ≤ h266.size := by rw [W266.size]; exact Z259
  have kS270 := Nat.le_trans kS260 (Nat.le_of_eq W266.size.symm)
  have NF266 := Fr.snoc X266 N264n g_b50
  have K271 := K261.wr W266 (Or.inr sz_b50)
  have P272 : own_Pr p.tables e below S0 T266 (mkF m 342 #[.val (.int p1), .val (.int p2), .val (.int p3), .val (.int p4), .val (.int p5), .val (.int z22), .val (.int z28), .val (.int z30), .val (.int z32), .val (.int z41), .unset, .unset, .unset, .unset, .unset, .unset] [(.ref b50)]) := fun t k => P265 t (st266 _ k)
  have P273 : own_Pr p.tables e below S0 T266 (mkF m 357 #[.val (.int p1), .val (.int p2), .val (.int p3), .val (.int p4), .val (.int p5), .val (.int z22), .val (.int z28), .val (.int z30), .val (.int z32), .val (.int z41), .unset, .unset, .unset, .unset, .unset, .unset] [(.int z41), (.int z30), (.int z32), (.int z28), (.int 14), (.int z22), (.int 14), (.ref b50), (.ref b50)]) := fun t k => P272 t (by
    refine XS.dup X266.here hx rfl (hb hby at_342) rfl rfl ?_
    refine XS.bipush X266.here hx rfl (hb hby at_343) ?_
    refine XS.iload X266.here hx rfl (hb hby at_345) rfl ?_
    refine XS.bipush X266.here hx rfl (hb hby at_347) ?_
    refine XS.iload X266.here hx rfl (hb hby at_349) rfl ?_
    refine XS.iload X266.here hx rfl (hb hby at_351) rfl ?_
    refine XS.iload X266.here hx rfl (hb hby at_353) rfl ?_
    refine XS.iload X266.here hx rfl (hb hby at_355) rfl ?_
    exact k)
  obtain ⟨_, _, ⟨T274, L274, k274, n274⟩, -, X274, ⟨Lc274, hQ274, l274, y274, z274⟩, st274⟩ := Jvm.LawKit.callS X266 hx (y := (⟨"com/example/firmhold/firmhold/PermissionNamedPinLaw", "at", "(IIICIC)C"⟩ : MethodName)) hown (mvT hZ (hw _ (List.mem_of_getElem? (i := 49) rfl))) (mvT hZ (hw _ (List.mem_of_getElem? (i := 50) rfl))) (mvT hZ (hw _ (List.mem_of_getElem? (i := 3) rfl))) (mvT hZ (hw _ (List.mem_of_getElem? (i := 51) rfl))) (by decide) (own_backL (W := 3) (rm9_b l Z a0 hw [] z22 (14 : Int32) z28 z32 z30 z41 lt cs fm h266 n0 Z269 F268 (own_sta_keep0 CS K271) hcs (own_sta_keep0 FM K271) hr_fm hcc32.1 hcc41.1) hZ (hw _ (List.mem_of_getElem? (i := 51) rfl)) (hw _ (List.mem_of_getElem? (i := 3) rfl)) (by decide) (by decide) (fun vm hv => (State.resolvedAt?_warmed39 hv Lt))) (g := (mkF m 357 #[.val (.int p1), .val (.int p2), .val (.int p3), .val (.int p4), .val (.int p5), .val (.int z22), .val (.int z28), .val (.int z30), .val (.int z32), .val (.int z41), .unset, .unset, .unset, .unset, .unset, .unset] [(.int z41), (.int z30), (.int z32), (.int z28), (.int 14), (.int z22), (.int 14), (.ref b50), (.ref b50)])) rfl (by rw [hml]; rfl) (argsL := [(.int z22), (.int 14), (.int z28), (.int z32), (.int z30), (.int z41)]) (rest := [(.int 14), (.ref b50), (.ref b50)]) (lenOf pd_13 rfl) rfl (by show 2 * 0 + _ ≤ _; exact Nat.le_of_eq rfl) (hb hby at_357) (fun _ _ => ⟨rfl, e266, (by decide : 11 + 0 ≤ _), (by decide : 378 + 0 ≤ _)⟩)
  dsimp only [Pt.U, Pt.locs, Pt.cells, Pt.slots] at X274 l274 y274 z274 st274 hQ274
  rw [l274, y274, z274] at X274
  have X274 := X274.mono (cells' := 11) (slots' := 378) (by decide) (by decide)
  obtain ⟨z274v, rfl, hz274v, Nq274, eq274⟩ := hQ274
  have N274n := Fr.app NF266 Nq274
  have P275 : own_Pr p.tables e below S0 T274 (mkF m 360 #[.val (.int p1), .val (.int p2), .val (.int p3), .val (.int p4), .val (.int p5), .val (.int z22), .val (.int z28), .val (.int z30), .val (.int z32), .val (.int z41), .unset, .unset, .unset, .unset, .unset, .unset] [(.int z274v), (.int 14), (.ref b50), (.ref b50)]) := fun t k => P273 t (st274 _ k)
  obtain ⟨cl276, Ar276, q276, S276, N276, H276, G276⟩ := id V266
  have hin276 : ¬ ((14 : Int32) < 0 ∨ cl276.slots.size ≤ ((14 : Int32)).toNatClampNeg) := inb_of S276 ⟨by decide, by decide⟩
  obtain ⟨T276, h276, X276, e276, W276, st276⟩ := stC X274 hx hZ eq274 Ar276 (j := (14 : Int32)) hin276 (g := (mkF m 360 #[.val (.int p1), .val (.int p2), .val (.int p3), .val (.int p4), .val (.int p5), .val (.int z22), .val (.int z28), .val (.int z30), .val (.int z32), .val (.int z41), .unset, .unset, .unset, .unset, .unset, .unset] [(.int z274v), (.int 14), (.ref b50), (.ref b50)])) rfl rfl (hb hby at_360)
  have V276 : Arv Z h276 b50 k50 .char (18 : Int32) [(.int (nar .char u0)), (.int (nar .char u1)), (.int (nar .char u2)), (.int (nar .char z164v)), (.int (nar .char z174v)), (.int (nar .char z184v)), (.int (nar .char z194v)), (.int (nar .char z204v)), (.int (nar .char z214v)), (.int (nar .char z224v)), (.int (nar .char z234v)), (.int (nar .char z244v)), (.int (nar .char z254v)), (.int (nar .char z264v)), (.int (nar .char z274v)), (.int 0), (.int 0), (.int 0)] (.int (0 : Int32)) := Arv.set Ar276 q276 S276 N276 H276 G276 (fits_nar_char _) W276 14 rfl (Nat.le_of_ble_eq_true rfl)
  have CR277 := CR267.trans (CHr.wr W276 (Safe.arv hZ.alike V266 (by decide)) CR267.1)
  have F278 := own_Sc.wrC F268 W276 V266 (hw _ (List.mem_of_getElem? (i := 7) rfl))
  have Z279 : n0 ≤ h276.size := by rw [W276.size]; exact Z269
  have kS280 := Nat.le_trans kS270 (Nat.le_of_eq W276.size.symm)
  have NF276 := Fr.snoc X276 N274n g_b50
  have K281 := K271.wr W276 (Or.inr sz_b50)
  have P282 : own_Pr p.tables e below S0 T276 (mkF m 361 #[.val (.int p1), .val (.int p2), .val (.int p3), .val (.int p4), .val (.int p5), .val (.int z22), .val (.int z28), .val (.int z30), .val (.int z32), .val (.int z41), .unset, .unset, .unset, .unset, .unset, .unset] [(.ref b50)]) := fun t k => P275 t (st276 _ k)
  have P283 : own_Pr p.tables e below S0 T276 (mkF m 376 #[.val (.int p1), .val (.int p2), .val (.int p3), .val (.int p4), .val (.int p5), .val (.int z22), .val (.int z28), .val (.int z30), .val (.int z32), .val (.int z41), .unset, .unset, .unset, .unset, .unset, .unset] [(.int z41), (.int z30), (.int z32), (.int z28), (.int 15), (.int z22), (.int 15), (.ref b50), (.ref b50)]) := fun t k => P282 t (by
    refine XS.dup X276.here hx rfl (hb hby at_361) rfl rfl ?_
    refine XS.bipush X276.here hx rfl (hb hby at_362) ?_
    refine XS.iload X276.here hx rfl (hb hby at_364) rfl ?_
    refine XS.bipush X276.here hx rfl (hb hby at_366) ?_
    refine XS.iload X276.here hx rfl (hb hby at_368) rfl ?_
    refine XS.iload X276.here hx rfl (hb hby at_370) rfl ?_
    refine XS.iload X276.here hx rfl (hb hby at_372) rfl ?_
    refine XS.iload X276.here hx rfl (hb hby at_374) rfl ?_
    exact k)
  obtain ⟨_, _, ⟨T284, L284, k284, n284⟩, -, X284, ⟨Lc284, hQ284, l284, y284, z284⟩, st284⟩ := Jvm.LawKit.callS X276 hx (y := (⟨"com/example/firmhold/firmhold/PermissionNamedPinLaw", "at", "(IIICIC)C"⟩ : MethodName)) hown (mvT hZ (hw _ (List.mem_of_getElem? (i := 49) rfl))) (mvT hZ (hw _ (List.mem_of_getElem? (i := 50) rfl))) (mvT hZ (hw _ (List.mem_of_getElem? (i := 3) rfl))) (mvT hZ (hw _ (List.mem_of_getElem? (i := 51) rfl))) (by decide) (own_backL (W := 3) (rm9_b l Z a0 hw [] z22 (15 : Int32) z28 z32 z30 z41 lt cs fm h276 n0 Z279 F278 (own_sta_keep0 CS K281) hcs (own_sta_keep0 FM K281) hr_fm hcc32.1 hcc41.1) hZ (hw _ (List.mem_of_getElem? (i := 51) rfl)) (hw _ (List.mem_of_getElem? (i := 3) rfl)) (by decide) (by decide) (fun vm hv => (State.resolvedAt?_warmed39 hv Lt))) (g := (mkF m 376 #[.val (.int p1), .val (.int p2), .val (.int p3), .val (.int p4), .val (.int p5), .val (.int z22), .val (.int z28), .val (.int z30), .val (.int z32), .val (.int z41), .unset, .unset, .unset, .unset, .unset, .unset] [(.int z41), (.int z30), (.int z32), (.int z28), (.int 15), (.int z22), (.int 15), (.ref b50), (.ref b50)])) rfl (by rw [hml]; rfl) (argsL := [(.int z22), (.int 15), (.int z28), (.int z32), (.int z30), (.int z41)]) (rest := [(.int 15), (.ref b50), (.ref b50)]) (lenOf pd_13 rfl) rfl (by show 2 * 0 + _ ≤ _; exact Nat.le_of_eq rfl) (hb hby at_376) (fun _ _ => ⟨rfl, e276, (by decide : 11 + 0 ≤ _), (by decide : 378 + 0 ≤ _)⟩)
  dsimp only [Pt.U, Pt.locs, Pt.cells, Pt.slots] at X284 l284 y284 z284 st284 hQ284
  rw [l284, y284, z284] at X284
  have X284 := X284.mono (cells' := 11) (slots' := 378) (by decide) (by decide)
  obtain ⟨z284v, rfl, hz284v, Nq284, eq284⟩ := hQ284
  have N284n := Fr.app NF276 Nq284
  have P285 : own_Pr p.tables e below S0 T284 (mkF m 379 #[.val (.int p1), .val (.int p2), .val (.int p3), .val (.int p4), .val (.int p5), .val (.int z22), .val (.int z28), .val (.int z30), .val (.int z32), .val (.int z41), .unset, .unset, .unset, .unset, .unset, .unset] [(.int z284v), (.int 15), (.ref b50), (.ref b50)]) := fun t k => P283 t (st284 _ k)
  obtain ⟨cl286, Ar286, q286, S286, N286, H286, G286⟩ := id V276
  have hin286 : ¬ ((15 : Int32) < 0 ∨ cl286.slots.size ≤ ((15 : Int32)).toNatClampNeg) := inb_of S286 ⟨by decide, by decide⟩
  obtain ⟨T286, h286, X286, e286, W286, st286⟩ := stC X284 hx hZ eq284 Ar286 (j := (15 : Int32)) hin286 (g := (mkF m 379 #[.val (.int p1), .val (.int p2), .val (.int p3), .val (.int p4), .val (.int p5), .val (.int z22), .val (.int z28), .val (.int z30), .val (.int z32), .val (.int z41), .unset, .unset, .unset, .unset, .unset, .unset] [(.int z284v), (.int 15), (.ref b50), (.ref b50)])) rfl rfl (hb hby at_379)
  have V286 : Arv Z h286 b50 k50 .char (18 : Int32) [(.int (nar .char u0)), (.int (nar .char u1)), (.int (nar .char u2)), (.int (nar .char z164v)), (.int (nar .char z174v)), (.int (nar .char z184v)), (.int (nar .char z194v)), (.int (nar .char z204v)), (.int (nar .char z214v)), (.int (nar .char z224v)), (.int (nar .char z234v)), (.int (nar .char z244v)), (.int (nar .char z254v)), (.int (nar .char z264v)), (.int (nar .char z274v)), (.int (nar .char z284v)), (.int 0), (.int 0)] (.int (0 : Int32)) := Arv.set Ar286 q286 S286 N286 H286 G286 (fits_nar_char _) W286 15 rfl (Nat.le_of_ble_eq_true rfl)
  have CR287 := CR277.trans (CHr.wr W286 (Safe.arv hZ.alike V276 (by decide)) CR277.1)
  have F288 := own_Sc.wrC F278 W286 V276 (hw _ (List.mem_of_getElem? (i := 7) rfl))
  have Z289 : n0 ≤ h286.size := by rw [W286.size]; exact Z279
  have kS290 := Nat.le_trans kS280 (Nat.le_of_eq W286.size.symm)
  have NF286 := Fr.snoc X286 N284n g_b50
  have K291 := K281.wr W286 (Or.inr sz_b50)
  have P292 : own_Pr p.tables e below S0 T286 (mkF m 380 #[.val (.int p1), .val (.int p2), .val (.int p3), .val (.int p4), .val (.int p5), .val (.int z22), .val (.int z28), .val (.int z30), .val (.int z32), .val (.int z41), .unset, .unset, .unset, .unset, .unset, .unset] [(.ref b50)]) := fun t k => P285 t (st286 _ k)
  have P293 : own_Pr p.tables e below S0 T286 (mkF m 395 #[.val (.int p1), .val (.int p2), .val (.int p3), .val (.int p4), .val (.int p5), .val (.int z22), .val (.int z28), .val (.int z30), .val (.int z32), .val (.int z41), .unset, .unset, .unset, .unset, .unset, .unset] [(.int z41), (.int z30), (.int z32), (.int z28), (.int 16), (.int z22), (.int 16), (.ref b50), (.ref b50)]) := fun t k => P292 t (by
    refine XS.dup X286.here hx rfl (hb hby at_380) rfl rfl ?_
    refine XS.bipush X286.here hx rfl (hb hby at_381) ?_
    refine XS.iload X286.here hx rfl (hb hby at_383) rfl ?_
    refine XS.bipush X286.here hx rfl (hb hby at_385) ?_
    refine XS.iload X286.here hx rfl (hb hby at_387) rfl ?_
    refine XS.iload X286.here hx rfl (hb hby at_389) rfl ?_
    refine XS.iload X286.here hx rfl (hb hby at_391) rfl ?_
    refine XS.iload X286.here hx rfl (hb hby at_393) rfl ?_
    exact k)
  obtain ⟨_, _, ⟨T294, L294, k294, n294⟩, -, X294, ⟨Lc294, hQ294, l294, y294, z294⟩, st294⟩ := Jvm.LawKit.callS X286 hx (y := (⟨"com/example/firmhold/firmhold/PermissionNamedPinLaw", "at", "(IIICIC)C"⟩ : MethodName)) hown (mvT hZ (hw _ (List.mem_of_getElem? (i := 49) rfl))) (mvT hZ (hw _ (List.mem_of_getElem? (i := 50) rfl))) (mvT hZ (hw _ (List.mem_of_getElem? (i := 3) rfl))) (mvT hZ (hw _ (List.mem_of_getElem? (i := 51) rfl))) (by decide) (own_backL (W := 3) (rm9_b l Z a0 hw [] z22 (16 : Int32) z28 z32 z30 z41 lt cs fm h286 n0 Z289 F288 (own_sta_keep0 CS K291) hcs (own_sta_keep0 FM K291) hr_fm hcc32.1 hcc41.1) hZ (hw _ (List.mem_of_getElem? (i := 51) rfl)) (hw _ (List.mem_of_getElem? (i := 3) rfl)) (by decide) (by decide) (fun vm hv => (State.resolvedAt?_warmed39 hv Lt))) (g := (mkF m 395 #[.val (.int p1), .val (.int p2), .val (.int p3), .val (.int p4), .val (.int p5), .val (.int z22), .val (.int z28), .val (.int z30), .val (.int z32), .val (.int z41), .unset, .unset, .unset, .unset, .unset, .unset] [(.int z41), (.int z30), (.int z32), (.int z28), (.int 16), (.int z22), (.int 16), (.ref b50), (.ref b50)])) rfl (by rw [hml]; rfl) (argsL := [(.int z22), (.int 16), (.int z28), (.int z32), (.int z30), (.int z41)]) (rest := [(.int 16), (.ref b50), (.ref b50)]) (lenOf pd_13 rfl) rfl (by show 2 * 0 + _ ≤ _; exact Nat.le_of_eq rfl) (hb hby at_395) (fun _ _ => ⟨rfl, e286, (by decide : 11 + 0 ≤ _), (by decide : 378 + 0 ≤ _)⟩)
  dsimp only [Pt.U, Pt.locs, Pt.cells, Pt.slots] at X294 l294 y294 z294 st294 hQ294
  rw [l294, y294, z294] at X294
  have X294 := X294.mono (cells' := 11) (slots' := 378) (by decide) (by decide)
  obtain ⟨z294v, rfl, hz294v, Nq294, eq294⟩ := hQ294
  have N294n := Fr.app NF286 Nq294
  have P295 : own_Pr p.tables e below S0 T294 (mkF m 398 #[.val (.int p1), .val (.int p2), .val (.int p3), .val (.int p4), .val (.int p5), .val (.int z22), .val (.int z28), .val (.int z30), .val (.int z32), .val (.int z41), .unset, .unset, .unset, .unset, .unset, .unset] [(.int z294v), (.int 16), (.ref b50), (.ref b50)]) := fun t k => P293 t (st294 _ k)
  obtain ⟨cl296, Ar296, q296, S296, N296, H296, G296⟩ := id V286
  have hin296 : ¬ ((16 : Int32) < 0 ∨ cl296.slots.size ≤ ((16 : Int32)).toNatClampNeg) := inb_of S296 ⟨by decide, by decide⟩
  obtain ⟨T296, h296, X296, e296, W296, st296⟩ := stC X294 hx hZ eq294 Ar296 (j := (16 : Int32)) hin296 (g := (mkF m 398 #[.val (.int p1), .val (.int p2), .val (.int p3), .val (.int p4), .val (.int p5), .val (.int z22), .val (.int z28), .val (.int z30), .val (.int z32), .val (.int z41), .unset, .unset, .unset, .unset, .unset, .unset] [(.int z294v), (.int 16), (.ref b50), (.ref b50)])) rfl rfl (hb hby at_398)
  have V296 : Arv Z h296 b50 k50 .char (18 : Int32) [(.int (nar .char u0)), (.int (nar .char u1)), (.int (nar .char u2)), (.int (nar .char z164v)), (.int (nar .char z174v)), (.int (nar .char z184v)), (.int (nar .char z194v)), (.int (nar .char z204v)), (.int (nar .char z214v)), (.int (nar .char z224v)), (.int (nar .char z234v)), (.int (nar .char z244v)), (.int (nar .char z254v)), (.int (nar .char z264v)), (.int (nar .char z274v)), (.int (nar .char z284v)), (.int (nar .char z294v)), (.int 0)] (.int (0 : Int32)) := Arv.set Ar296 q296 S296 N296 H296 G296 (fits_nar_char _) W296 16 rfl (Nat.le_of_ble_eq_true rfl)
  have CR297 := CR287.trans (CHr.wr W296 (Safe.arv hZ.alike V286 (by decide)) CR287.1)
  have F298 := own_Sc.wrC F288 W296 V286 (hw _ (List.mem_of_getElem? (i := 7) rfl))
  have Z299 : n0 ≤ h296.size := by rw [W296.size]; exact Z289
  have kS300 := Nat.le_trans kS290 (Nat.le_of_eq W296.size.symm)
  have NF296 := Fr.snoc X296 N294n g_b50
  have K301 := K291.wr W296 (Or.inr sz_b50)
  have P302 : own_Pr p.tables e below S0 T296 (mkF m 399 #[.val (.int p1), .val (.int p2), .val (.int p3), .val (.int p4), .val (.int p5), .val (.int z22), .val (.int z28), .val (.int z30), .val (.int z32), .val (.int z41), .unset, .unset, .unset, .unset, .unset, .unset] [(.ref b50)]) := fun t k => P295 t (st296 _ k)
  have P303 : own_Pr p.tables e below S0 T296 (mkF m 414 #[.val (.int p1), .val (.int p2), .val (.int p3), .val (.int p4), .val (.int p5), .val (.int z22), .val (.int z28), .val (.int z30), .val (.int z32), .val (.int z41), .unset, .unset, .unset, .unset, .unset, .unset] [(.int z41), (.int z30), (.int z32), (.int z28), (.int 17), (.int z22), (.int 17), (.ref b50), (.ref b50)]) := fun t k => P302 t (by
    refine XS.dup X296.here hx rfl (hb hby at_399) rfl rfl ?_
    refine XS.bipush X296.here hx rfl (hb hby at_400) ?_
    refine XS.iload X296.here hx rfl (hb hby at_402) rfl ?_
    refine XS.bipush X296.here hx rfl (hb hby at_404) ?_
    refine XS.iload X296.here hx rfl (hb hby at_406) rfl ?_
    refine XS.iload X296.here hx rfl (hb hby at_408) rfl ?_
    refine XS.iload X296.here hx rfl (hb hby at_410) rfl ?_
    refine XS.iload X296.here hx rfl (hb hby at_412) rfl ?_
    exact k)
  obtain ⟨_, _, ⟨T304, L304, k304, n304⟩, -, X304, ⟨Lc304, hQ304, l304, y304, z304⟩, st304⟩ := Jvm.LawKit.callS X296 hx (y := (⟨"com/example/firmhold/firmhold/PermissionNamedPinLaw", "at", "(IIICIC)C"⟩ : MethodName)) hown (mvT hZ (hw _ (List.mem_of_getElem? (i := 49) rfl))) (mvT hZ (hw _ (List.mem_of_getElem? (i := 50) rfl))) (mvT hZ (hw _ (List.mem_of_getElem? (i := 3) rfl))) (mvT hZ (hw _ (List.mem_of_getElem? (i := 51) rfl))) (by decide) (own_backL (W := 3) (rm9_b l Z a0 hw [] z22 (17 : Int32) z28 z32 z30 z41 lt cs fm h296 n0 Z299 F298 (own_sta_keep0 CS K301) hcs (own_sta_keep0 FM K301) hr_fm hcc32.1 hcc41.1) hZ (hw _ (List.mem_of_getElem? (i := 51) rfl)) (hw _ (List.mem_of_getElem? (i := 3) rfl)) (by decide) (by decide) (fun vm hv => (State.resolvedAt?_warmed39 hv Lt))) (g := (mkF m 414 #[.val (.int p1), .val (.int p2), .val (.int p3), .val (.int p4), .val (.int p5), .val (.int z22), .val (.int z28), .val (.int z30), .val (.int z32), .val (.int z41), .unset, .unset, .unset, .unset, .unset, .unset] [(.int z41), (.int z30), (.int z32), (.int z28), (.int 17), (.int z22), (.int 17), (.ref b50), (.ref b50)])) rfl (by rw [hml]; rfl) (argsL := [(.int z22), (.int 17), (.int z28), (.int z32), (.int z30), (.int z41)]) (rest := [(.int 17), (.ref b50), (.ref b50)]) (lenOf pd_13 rfl) rfl (by show 2 * 0 + _ ≤ _; exact Nat.le_of_eq rfl) (hb hby at_414) (fun _ _ => ⟨rfl, e296, (by decide : 11 + 0 ≤ _), (by decide : 378 + 0 ≤ _)⟩)
  dsimp only [Pt.U, Pt.locs, Pt.cells, Pt.slots] at X304 l304 y304 z304 st304 hQ304
  rw [l304, y304, z304] at X304
  have X304 := X304.mono (cells' := 11) (slots' := 378) (by decide) (by decide)
  obtain ⟨z304v, rfl, hz304v, Nq304, eq304⟩ := hQ304
  have N304n := Fr.app NF296 Nq304
  have P305 : own_Pr p.tables e below S0 T304 (mkF m 417 #[.val (.int p1), .val (.int p2), .val (.int p3), .val (.int p4), .val (.int p5), .val (.int z22), .val (.int z28), .val (.int z30), .val (.int z32), .val (.int z41), .unset, .unset, .unset, .unset, .unset, .unset] [(.int z304v), (.int 17), (.ref b50), (.ref b50)]) := fun t k => P303 t (st304 _ k)
  obtain ⟨cl306, Ar306, q306, S306, N306, H306, G306⟩ := id V296
  have hin306 : ¬ ((17 : Int32) < 0 ∨ cl306.slots.size ≤ ((17 : Int32)).toNatClampNeg) := inb_of S306 ⟨by decide, by decide⟩
  obtain ⟨T306, h306, X306, e306, W306, st306⟩ := stC X304 hx hZ eq304 Ar306 (j := (17 : Int32)) hin306 (g := (mkF m 417 #[.val (.int p1), .val (.int p2), .val (.int p3), .val (.int p4), .val (.int p5), .val (.int z22), .val (.int z28), .val (.int z30), .val (.int z32), .val (.int z41), .unset, .unset, .unset, .unset, .unset, .unset] [(.int z304v), (.int 17), (.ref b50), (.ref b50)])) rfl rfl (hb hby at_417)
  have V306 : Arv Z h306 b50 k50 .char (18 : Int32) [(.int (nar .char u0)), (.int (nar .char u1)), (.int (nar .char u2)), (.int (nar .char z164v)), (.int (nar .char z174v)), (.int (nar .char z184v)), (.int (nar .char z194v)), (.int (nar .char z204v)), (.int (nar .char z214v)), (.int (nar .char z224v)), (.int (nar .char z234v)), (.int (nar .char z244v)), (.int (nar .char z254v)), (.int (nar .char z264v)), (.int (nar .char z274v)), (.int (nar .char z284v)), (.int (nar .char z294v)), (.int (nar .char z304v))] (.int (0 : Int32)) := Arv.set Ar306 q306 S306 N306 H306 G306 (fits_nar_char _) W306 17 rfl (Nat.le_of_ble_eq_true rfl)
  have CR307 := CR297.trans (CHr.wr W306 (Safe.arv hZ.alike V296 (by decide)) CR297.1)
  have F308 := own_Sc.wrC F298 W306 V296 (hw _ (List.mem_of_getElem? (i := 7) rfl))
  have Z309 : n0 ≤ h306.size := by rw [W306.size]; exact Z299
  have kS310 := Nat.le_trans kS300 (Nat.le_of_eq W306.size.symm)
  have NF306 := Fr.snoc X306 N304n g_b50
  have K311 := K301.wr W306 (Or.inr sz_b50)
  have P312 : own_Pr p.tables e below S0 T306 (mkF m 418 #[.val (.int p1), .val (.int p2), .val (.int p3), .val (.int p4), .val (.int p5), .val (.int z22), .val (.int z28), .val (.int z30), .val (.int z32), .val (.int z41), .unset, .unset, .unset, .unset, .unset, .unset] [(.ref b50)]) := fun t k => P305 t (st306 _ k)
  have P313 : own_Pr p.tables e below S0 T306 (mkF m 420 #[.val (.int p1), .val (.int p2), .val (.int p3), .val (.int p4), .val (.int p5), .val (.int z22), .val (.int z28), .val (.int z30), .val (.int z32), .val (.int z41), .val (.ref b50), .unset, .unset, .unset, .unset, .unset] []) := fun t k => P312 t (by
    refine XS.astore X306.here hx rfl (hb hby at_418) rfl rfl (l' := #[.val (.int p1), .val (.int p2), .val (.int p3), .val (.int p4), .val (.int p5), .val (.int z22), .val (.int z28), .val (.int z30), .val (.int z32), .val (.int z41), .val (.ref b50), .unset, .unset, .unset, .unset, .unset]) rfl ?_
    exact k)
  have hn0 : nar .char u0 = u0 := by rw [hu0]; exact own_atN hcc32.1 hcc41.1
  have hL0 : ¬ (255 : Int32) < u0 := by rw [hu0]; exact own_atL hcc32.2 hcc41.2
  have hn1 : nar .char u1 = u1 := by rw [hu1]; exact own_atN hcc32.1 hcc41.1
  have hL1 : ¬ (255 : Int32) < u1 := by rw [hu1]; exact own_atL hcc32.2 hcc41.2
  have hn2 : nar .char u2 = u2 := by rw [hu2]; exact own_atN hcc32.1 hcc41.1
  have hL2 : ¬ (255 : Int32) < u2 := by rw [hu2]; exact own_atL hcc32.2 hcc41.2
  have hn3 : nar .char z164v = z164v := by rw [hz164v]; exact own_atN hcc32.1 hcc41.1
  have hL3 : ¬ (255 : Int32) < z164v := by rw [hz164v]; exact own_atL hcc32.2 hcc41.2
  have hn4 : nar .char z174v = z174v := by rw [hz174v]; exact own_atN hcc32.1 hcc41.1
  have hL4 : ¬ (255 : Int32) < z174v := by rw [hz174v]; exact own_atL hcc32.2 hcc41.2
  have hn5 : nar .char z184v = z184v := by rw [hz184v]; exact own_atN hcc32.1 hcc41.1
  have hL5 : ¬ (255 : Int32) < z184v := by rw [hz184v]; exact own_atL hcc32.2 hcc41.2
  have hn6 : nar .char z194v = z194v := by rw [hz194v]; exact own_atN hcc32.1 hcc41.1
  have hL6 : ¬ (255 : Int32) < z194v := by rw [hz194v]; exact own_atL hcc32.2 hcc41.2
  have hn7 : nar .char z204v = z204v := by rw [hz204v]; exact own_atN hcc32.1 hcc41.1
  have hL7 : ¬ (255 : Int32) < z204v := by rw [hz204v]; exact own_atL hcc32.2 hcc41.2
  have hn8 : nar .char z214v = z214v := by rw [hz214v]; exact own_atN hcc32.1 hcc41.1
  have hL8 : ¬ (255 : Int32) < z214v := by rw [hz214v]; exact own_atL hcc32.2 hcc41.2
  have hn9 : nar .char z224v = z224v := by rw [hz224v]; exact own_atN hcc32.1 hcc41.1
  have hL9 : ¬ (255 : Int32) < z224v := by rw [hz224v]; exact own_atL hcc32.2 hcc41.2
  have hn10 : nar .char z234v = z234v := by rw [hz234v]; exact own_atN hcc32.1 hcc41.1
  have hL10 : ¬ (255 : Int32) < z234v := by rw [hz234v]; exact own_atL hcc32.2 hcc41.2
  have hn11 : nar .char z244v = z244v := by rw [hz244v]; exact own_atN hcc32.1 hcc41.1
  have hL11 : ¬ (255 : Int32) < z244v := by rw [hz244v]; exact own_atL hcc32.2 hcc41.2
  have hn12 : nar .char z254v = z254v := by rw [hz254v]; exact own_atN hcc32.1 hcc41.1
  have hL12 : ¬ (255 : Int32) < z254v := by rw [hz254v]; exact own_atL hcc32.2 hcc41.2
  have hn13 : nar .char z264v = z264v := by rw [hz264v]; exact own_atN hcc32.1 hcc41.1
  have hL13 : ¬ (255 : Int32) < z264v := by rw [hz264v]; exact own_atL hcc32.2 hcc41.2
  have hn14 : nar .char z274v = z274v := by rw [hz274v]; exact own_atN hcc32.1 hcc41.1
  have hL14 : ¬ (255 : Int32) < z274v := by rw [hz274v]; exact own_atL hcc32.2 hcc41.2
  have hn15 : nar .char z284v = z284v := by rw [hz284v]; exact own_atN hcc32.1 hcc41.1
  have hL15 : ¬ (255 : Int32) < z284v := by rw [hz284v]; exact own_atL hcc32.2 hcc41.2
  have hn16 : nar .char z294v = z294v := by rw [hz294v]; exact own_atN hcc32.1 hcc41.1
  have hL16 : ¬ (255 : Int32) < z294v := by rw [hz294v]; exact own_atL hcc32.2 hcc41.2
  have hn17 : nar .char z304v = z304v := by rw [hz304v]; exact own_atN hcc32.1 hcc41.1
  have hL17 : ¬ (255 : Int32) < z304v := by rw [hz304v]; exact own_atL hcc32.2 hcc41.2
  have hpp18 : ∀ c ∈ ([u0, u1, u2, z164v, z174v, z184v, z194v, z204v, z214v, z224v, z234v, z244v, z254v, z264v, z274v, z284v, z294v, z304v] : List Int32), ¬ c < 0 ∧ ¬ (255 : Int32) < c := own_al ⟨own_nn hn0, hL0⟩ (own_al ⟨own_nn hn1, hL1⟩ (own_al ⟨own_nn hn2, hL2⟩ (own_al ⟨own_nn hn3, hL3⟩ (own_al ⟨own_nn hn4, hL4⟩ (own_al ⟨own_nn hn5, hL5⟩ (own_al ⟨own_nn hn6, hL6⟩ (own_al ⟨own_nn hn7, hL7⟩ (own_al ⟨own_nn hn8, hL8⟩ (own_al ⟨own_nn hn9, hL9⟩ (own_al ⟨own_nn hn10, hL10⟩ (own_al ⟨own_nn hn11, hL11⟩ (own_al ⟨own_nn hn12, hL12⟩ (own_al ⟨own_nn hn13, hL13⟩ (own_al ⟨own_nn hn14, hL14⟩ (own_al ⟨own_nn hn15, hL15⟩ (own_al ⟨own_nn hn16, hL16⟩ (own_al ⟨own_nn hn17, hL17⟩ (fun _ h => nomatch h))))))))))))))))))
  rw [hn0, hn1, hn2, hn3, hn4, hn5, hn6, hn7, hn8, hn9, hn10, hn11, hn12, hn13, hn14, hn15, hn16, hn17] at V306
  have P314 : own_Pr p.tables e below S0 T306 (mkF m 422 #[.val (.int p1), .val (.int p2), .val (.int p3), .val (.int p4), .val (.int p5), .val (.int z22), .val (.int z28), .val (.int z30), .val (.int z32), .val (.int z41), .val (.ref b50), .unset, .unset, .unset, .unset, .unset] [(.int 17)]) := fun t k => P313 t (by
    refine XS.bipush X306.here hx rfl (hb hby at_420) ?_
    exact k)
  obtain ⟨T315, h315, k315, X315, e315, E315, A315, st315⟩ := newP X306 hx hZ (hw _ (List.mem_of_getElem? (i := 48) rfl)) e306 (g := (mkF m 422 #[.val (.int p1), .val (.int p2), .val (.int p3), .val (.int p4), .val (.int p5), .val (.int z22), .val (.int z28), .val (.int z30), .val (.int z32), .val (.int z41), .val (.ref b50), .unset, .unset, .unset, .unset, .unset] [(.int 17)])) rfl (hb hby at_422) rfl (by decide) (cap := 17) (by decide) (by decide) (by decide) (by decide)
  obtain ⟨b315, g315⟩ : ∃ z, z = h306.size := ⟨_, rfl⟩
  rw [← g315] at A315 st315
  have g_b315 : n0 ≤ b315 := Nat.le_trans Z309 (Nat.le_of_eq g315.symm)
  have sz_b315 : h0.size ≤ b315 := Nat.le_trans K311.1 (Nat.le_of_eq g315.symm)
  have ne_b50_b315 : b50 ≠ b315 := Nat.ne_of_lt (Nat.lt_of_lt_of_le V306.lt (Nat.le_of_eq g315.symm))
  have F316 := V306.ext E315
  have F317 := F308.ext E315
  have Z318 : n0 ≤ h315.size := Nat.le_trans Z309 E315.1
  have K319 := K311.ext E315
  have CR320 := CR307.trans (CHr.ext E315 CR307.1)
  have kS321 := Nat.le_trans kS310 E315.1
  have F322 : Arv Z h315 b315 k315 .char (17 : Int32) [(.int (0 : Int32)), (.int (0 : Int32)), (.int (0 : Int32)), (.int (0 : Int32)), (.int (0 : Int32)), (.int (0 : Int32)), (.int (0 : Int32)), (.int (0 : Int32)), (.int (0 : Int32)), (.int (0 : Int32)), (.int (0 : Int32)), (.int (0 : Int32)), (.int (0 : Int32)), (.int (0 : Int32)), (.int (0 : Int32)), (.int (0 : Int32)), (.int (0 : Int32))] (.int (0 : Int32)) := (Arv.new A315 (by decide)).pad (pad_rep [] (.int (0 : Int32)) 17)
  have P323 : own_Pr p.tables e below S0 T315 (mkF m 424 #[.val (.int p1), .val (.int p2), .val (.int p3), .val (.int p4), .val (.int p5), .val (.int z22), .val (.int z28), .val (.int z30), .val (.int z32), .val (.int z41), .val (.ref b50), .unset, .unset, .unset, .unset, .unset] [(.ref b315)]) := fun t k => P314 t (st315 _ k)
  have P324 : own_Pr p.tables e below S0 T315 (mkF m 429 #[.val (.int p1), .val (.int p2), .val (.int p3), .val (.int p4), .val (.int p5), .val (.int z22), .val (.int z28), .val (.int z30), .val (.int z32), .val (.int z41), .val (.ref b50), .unset, .unset, .unset, .unset, .unset] [(.int 0), (.ref b50), (.int 0), (.ref b315), (.ref b315)]) := fun t k => P323 t (by
    refine XS.dup X315.here hx rfl (hb hby at_424) rfl rfl ?_
    refine XS.iconst X315.here hx rfl (hb hby at_425) ?_
    refine XS.aload X315.here hx rfl (hb hby at_426) rfl rfl ?_
    refine XS.iconst X315.here hx rfl (hb hby at_428) ?_
    exact k)
  obtain ⟨cl325, Ar325, q325, S325, N325, H325, G325⟩ := id F316
  have hin325 : ¬ ((0 : Int32) < 0 ∨ cl325.slots.size ≤ ((0 : Int32)).toNatClampNeg) := inb_of S325 ⟨by decide, by decide⟩
  have P326 : own_Pr p.tables e below S0 T315 (mkF m 430 #[.val (.int p1), .val (.int p2), .val (.int p3), .val (.int p4), .val (.int p5), .val (.int z22), .val (.int z28), .val (.int z30), .val (.int z32), .val (.int z41), .val (.ref b50), .unset, .unset, .unset, .unset, .unset] [(.int u0), (.int 0), (.ref b315), (.ref b315)]) := fun t k => P324 t (by
    refine X315.caload hx (j := (0 : Int32)) (v := (.int u0)) (by rw [e315]; exact Ar325.1) (State.isArrayOf_alike hZ.alike Ar325.2.1) Ar325.2.2 hin325 (H325.at hin325 rfl) (g := (mkF m 429 #[.val (.int p1), .val (.int p2), .val (.int p3), .val (.int p4), .val (.int p5), .val (.int z22), .val (.int z28), .val (.int z30), .val (.int z32), .val (.int z41), .val (.ref b50), .unset, .unset, .unset, .unset, .unset] [(.int 0), (.ref b50), (.int 0), (.ref b315), (.ref b315)])) rfl rfl (hb hby at_429) _ ?_
    exact k)
  obtain ⟨cl327, Ar327, q327, S327, N327, H327, G327⟩ := id F322
  have hin327 : ¬ ((0 : Int32) < 0 ∨ cl327.slots.size ≤ ((0 : Int32)).toNatClampNeg) := inb_of S327 ⟨by decide, by decide⟩
  obtain ⟨T327, h327, X327, e327, W327, st327⟩ := stC X315 hx hZ e315 Ar327 (j := (0 : Int32)) hin327 (g := (mkF m 430 #[.val (.int p1), .val (.int p2), .val (.int p3), .val (.int p4), .val (.int p5), .val (.int z22), .val (.int z28), .val (.int z30), .val (.int z32), .val (.int z41), .val (.ref b50), .unset, .unset, .unset, .unset, .unset] [(.int u0), (.int 0), (.ref b315), (.ref b315)])) rfl rfl (hb hby at_430)
  have V327 : Arv Z h327 b315 k315 .char (17 : Int32) [(.int (nar .char u0)), (.int 0), (.int 0), (.int 0), (.int 0), (.int 0), (.int 0), (.int 0), (.int 0), (.int 0), (.int 0), (.int 0), (.int 0), (.int 0), (.int 0), (.int 0), (.int 0)] (.int (0 : Int32)) := Arv.set Ar327 q327 S327 N327 H327 G327 (fits_nar_char _) W327 0 rfl (Nat.le_of_ble_eq_true rfl)
  have CR328 := CR320.trans (CHr.wr W327 (Safe.arv hZ.alike F322 (by decide)) CR320.1)
  have F329 := F316.other W327 ne_b50_b315
  have F330 := own_Sc.wrC F317 W327 F322 (hw _ (List.mem_of_getElem? (i := 7) rfl))
  have Z331 : n0 ≤ h327.size := by rw [W327.size]; exact Z318
  have kS332 := Nat.le_trans kS321 (Nat.le_of_eq W327.size.symm)
  have NF327 := Fr.snoc X327 NF306 g_b315
  have K333 := K319.wr W327 (Or.inr sz_b315)
  have P334 : own_Pr p.tables e below S0 T327 (mkF m 431 #[.val (.int p1), .val (.int p2), .val (.int p3), .val (.int p4), .val (.int p5), .val (.int z22), .val (.int z28), .val (.int z30), .val (.int z32), .val (.int z41), .val (.ref b50), .unset, .unset, .unset, .unset, .unset] [(.ref b315)]) := fun t k => P326 t (st327 _ k)
  have P335 : own_Pr p.tables e below S0 T327 (mkF m 436 #[.val (.int p1), .val (.int p2), .val (.int p3), .val (.int p4), .val (.int p5), .val (.int z22), .val (.int z28), .val (.int z30), .val (.int z32), .val (.int z41), .val (.ref b50), .unset, .unset, .unset, .unset, .unset] [(.int 1), (.ref b50), (.int 1), (.ref b315), (.ref b315)]) := fun t k => P334 t (by
    refine XS.dup X327.here hx rfl (hb hby at_431) rfl rfl ?_
    refine XS.iconst X327.here hx rfl (hb hby at_432) ?_
    refine XS.aload X327.here hx rfl (hb hby at_433) rfl rfl ?_
    refine XS.iconst X327.here hx rfl (hb hby at_435) ?_
    exact k)
  obtain ⟨cl336, Ar336, q336, S336, N336, H336, G336⟩ := id F329
  have hin336 : ¬ ((1 : Int32) < 0 ∨ cl336.slots.size ≤ ((1 : Int32)).toNatClampNeg) := inb_of S336 ⟨by decide, by decide⟩
  have P337 : own_Pr p.tables e below S0 T327 (mkF m 437 #[.val (.int p1), .val (.int p2), .val (.int p3), .val (.int p4), .val (.int p5), .val (.int z22), .val (.int z28), .val (.int z30), .val (.int z32), .val (.int z41), .val (.ref b50), .unset, .unset, .unset, .unset, .unset] [(.int u1), (.int 1), (.ref b315), (.ref b315)]) := fun t k => P335 t (by
    refine X327.caload hx (j := (1 : Int32)) (v := (.int u1)) (by rw [e327]; exact Ar336.1) (State.isArrayOf_alike hZ.alike Ar336.2.1) Ar336.2.2 hin336 (H336.at hin336 rfl) (g := (mkF m 436 #[.val (.int p1), .val (.int p2), .val (.int p3), .val (.int p4), .val (.int p5), .val (.int z22), .val (.int z28), .val (.int z30), .val (.int z32), .val (.int z41), .val (.ref b50), .unset, .unset, .unset, .unset, .unset] [(.int 1), (.ref b50), (.int 1), (.ref b315), (.ref b315)])) rfl rfl (hb hby at_436) _ ?_
    exact k)
  obtain ⟨cl338, Ar338, q338, S338, N338, H338, G338⟩ := id V327
  have hin338 : ¬ ((1 : Int32) < 0 ∨ cl338.slots.size ≤ ((1 : Int32)).toNatClampNeg) := inb_of S338 ⟨by decide, by decide⟩
  obtain ⟨T338, h338, X338, e338, W338, st338⟩ := stC X327 hx hZ e327 Ar338 (j := (1 : Int32)) hin338 (g := (mkF m 437 #[.val (.int p1), .val (.int p2), .val (.int p3), .val (.int p4), .val (.int p5), .val (.int z22), .val (.int z28), .val (.int z30), .val (.int z32), .val (.int z41), .val (.ref b50), .unset, .unset, .unset, .unset, .unset] [(.int u1), (.int 1), (.ref b315), (.ref b315)])) rfl rfl (hb hby at_437)
  have V338 : Arv Z h338 b315 k315 .char (17 : Int32) [(.int (nar .char u0)), (.int (nar .char u1)), (.int 0), (.int 0), (.int 0), (.int 0), (.int 0), (.int 0), (.int 0), (.int 0), (.int 0), (.int 0), (.int 0), (.int 0), (.int 0), (.int 0), (.int 0)] (.int (0 : Int32)) := Arv.set Ar338 q338 S338 N338 H338 G338 (fits_nar_char _) W338 1 rfl (Nat.le_of_ble_eq_true rfl)
  have CR339 := CR328.trans (CHr.wr W338 (Safe.arv hZ.alike V327 (by decide)) CR328.1)
  have F340 := F329.other W338 ne_b50_b315
  have F341 := own_Sc.wrC F330 W338 V327 (hw _ (List.mem_of_getElem? (i := 7) rfl))
  have Z342 : n0 ≤ h338.size := by rw [W338.size]; exact Z331
  have kS343 := Nat.le_trans kS332 (Nat.le_of_eq W338.size.symm)
  have NF338 := Fr.snoc X338 NF327 g_b315
  have K344 := K333.wr W338 (Or.inr sz_b315)
  have P345 : own_Pr p.tables e below S0 T338 (mkF m 438 #[.val (.int p1), .val (.int p2), .val (.int p3), .val (.int p4), .val (.int p5), .val (.int z22), .val (.int z28), .val (.int z30), .val (.int z32), .val (.int z41), .val (.ref b50), .unset, .unset, .unset, .unset, .unset] [(.ref b315)]) := fun t k => P337 t (st338 _ k)
  have P346 : own_Pr p.tables e below S0 T338 (mkF m 443 #[.val (.int p1), .val (.int p2), .val (.int p3), .val (.int p4), .val (.int p5), .val (.int z22), .val (.int z28), .val (.int z30), .val (.int z32), .val (.int z41), .val (.ref b50), .unset, .unset, .unset, .unset, .unset] [(.int 2), (.ref b50), (.int 2), (.ref b315), (.ref b315)]) := fun t k => P345 t (by
    refine XS.dup X338.here hx rfl (hb hby at_438) rfl rfl ?_
    refine XS.iconst X338.here hx rfl (hb hby at_439) ?_
    refine XS.aload X338.here hx rfl (hb hby at_440) rfl rfl ?_
    refine XS.iconst X338.here hx rfl (hb hby at_442) ?_
    exact k)
  obtain ⟨cl347, Ar347, q347, S347, N347, H347, G347⟩ := id F340
  have hin347 : ¬ ((2 : Int32) < 0 ∨ cl347.slots.size ≤ ((2 : Int32)).toNatClampNeg) := inb_of S347 ⟨by decide, by decide⟩
  have P348 : own_Pr p.tables e below S0 T338 (mkF m 444 #[.val (.int p1), .val (.int p2), .val (.int p3), .val (.int p4), .val (.int p5), .val (.int z22), .val (.int z28), .val (.int z30), .val (.int z32), .val (.int z41), .val (.ref b50), .unset, .unset, .unset, .unset, .unset] [(.int u2), (.int 2), (.ref b315), (.ref b315)]) := fun t k => P346 t (by
    refine X338.caload hx (j := (2 : Int32)) (v := (.int u2)) (by rw [e338]; exact Ar347.1) (State.isArrayOf_alike hZ.alike Ar347.2.1) Ar347.2.2 hin347 (H347.at hin347 rfl) (g := (mkF m 443 #[.val (.int p1), .val (.int p2), .val (.int p3), .val (.int p4), .val (.int p5), .val (.int z22), .val (.int z28), .val (.int z30), .val (.int z32), .val (.int z41), .val (.ref b50), .unset, .unset, .unset, .unset, .unset] [(.int 2), (.ref b50), (.int 2), (.ref b315), (.ref b315)])) rfl rfl (hb hby at_443) _ ?_
    exact k)
  obtain ⟨cl349, Ar349, q349, S349, N349, H349, G349⟩ := id V338
  have hin349 : ¬ ((2 : Int32) < 0 ∨ cl349.slots.size ≤ ((2 : Int32)).toNatClampNeg) := inb_of S349 ⟨by decide, by decide⟩
  obtain ⟨T349, h349, X349, e349, W349, st349⟩ := stC X338 hx hZ e338 Ar349 (j := (2 : Int32)) hin349 (g := (mkF m 444 #[.val (.int p1), .val (.int p2), .val (.int p3), .val (.int p4), .val (.int p5), .val (.int z22), .val (.int z28), .val (.int z30), .val (.int z32), .val (.int z41), .val (.ref b50), .unset, .unset, .unset, .unset, .unset] [(.int u2), (.int 2), (.ref b315), (.ref b315)])) rfl rfl (hb hby at_444)
  have V349 : Arv Z h349 b315 k315 .char (17 : Int32) [(.int (nar .char u0)), (.int (nar .char u1)), (.int (nar .char u2)), (.int 0), (.int 0), (.int 0), (.int 0), (.int 0), (.int 0), (.int 0), (.int 0), (.int 0), (.int 0), (.int 0), (.int 0), (.int 0), (.int 0)] (.int (0 : Int32)) := Arv.set Ar349 q349 S349 N349 H349 G349 (fits_nar_char _) W349 2 rfl (Nat.le_of_ble_eq_true rfl)
  have CR350 := CR339.trans (CHr.wr W349 (Safe.arv hZ.alike V338 (by decide)) CR339.1)
  have F351 := F340.other W349 ne_b50_b315
  have F352 := own_Sc.wrC F341 W349 V338 (hw _ (List.mem_of_getElem? (i := 7) rfl))
  have Z353 : n0 ≤ h349.size := by rw [W349.size]; exact Z342
  have kS354 := Nat.le_trans kS343 (Nat.le_of_eq W349.size.symm)
  have NF349 := Fr.snoc X349 NF338 g_b315
  have K355 := K344.wr W349 (Or.inr sz_b315)
  have P356 : own_Pr p.tables e below S0 T349 (mkF m 445 #[.val (.int p1), .val (.int p2), .val (.int p3), .val (.int p4), .val (.int p5), .val (.int z22), .val (.int z28), .val (.int z30), .val (.int z32), .val (.int z41), .val (.ref b50), .unset, .unset, .unset, .unset, .unset] [(.ref b315)]) := fun t k => P348 t (st349 _ k)
  have P357 : own_Pr p.tables e below S0 T349 (mkF m 450 #[.val (.int p1), .val (.int p2), .val (.int p3), .val (.int p4), .val (.int p5), .val (.int z22), .val (.int z28), .val (.int z30), .val (.int z32), .val (.int z41), .val (.ref b50), .unset, .unset, .unset, .unset, .unset] [(.int 3), (.ref b50), (.int 3), (.ref b315), (.ref b315)]) := fun t k => P356 t (by
    refine XS.dup X349.here hx rfl (hb hby at_445) rfl rfl ?_
    refine XS.iconst X349.here hx rfl (hb hby at_446) ?_
    refine XS.aload X349.here hx rfl (hb hby at_447) rfl rfl ?_
    refine XS.iconst X349.here hx rfl (hb hby at_449) ?_
    exact k)
  obtain ⟨cl358, Ar358, q358, S358, N358, H358, G358⟩ := id F351
  have hin358 : ¬ ((3 : Int32) < 0 ∨ cl358.slots.size ≤ ((3 : Int32)).toNatClampNeg) := inb_of S358 ⟨by decide, by decide⟩
  have P359 : own_Pr p.tables e below S0 T349 (mkF m 451 #[.val (.int p1), .val (.int p2), .val (.int p3), .val (.int p4), .val (.int p5), .val (.int z22), .val (.int z28), .val (.int z30), .val (.int z32), .val (.int z41), .val (.ref b50), .unset, .unset, .unset, .unset, .unset] [(.int z164v), (.int 3), (.ref b315), (.ref b315)]) := fun t k => P357 t (by
    refine X349.caload hx (j := (3 : Int32)) (v := (.int z164v)) (by rw [e349]; exact Ar358.1) (State.isArrayOf_alike hZ.alike Ar358.2.1) Ar358.2.2 hin358 (H358.at hin358 rfl) (g := (mkF m 450 #[.val (.int p1), .val (.int p2), .val (.int p3), .val (.int p4), .val (.int p5), .val (.int z22), .val (.int z28), .val (.int z30), .val (.int z32), .val (.int z41), .val (.ref b50), .unset, .unset, .unset, .unset, .unset] [(.int 3), (.ref b50), (.int 3), (.ref b315), (.ref b315)])) rfl rfl (hb hby at_450) _ ?_
    exact k)
  obtain ⟨cl360, Ar360, q360, S360, N360, H360, G360⟩ := id V349
  have hin360 : ¬ ((3 : Int32) < 0 ∨ cl360.slots.size ≤ ((3 : Int32)).toNatClampNeg) := inb_of S360 ⟨by decide, by decide⟩
  obtain ⟨T360, h360, X360, e360, W360, st360⟩ := stC X349 hx hZ e349 Ar360 (j := (3 : Int32)) hin360 (g := (mkF m 451 #[.val (.int p1), .val (.int p2), .val (.int p3), .val (.int p4), .val (.int p5), .val (.int z22), .val (.int z28), .val (.int z30), .val (.int z32), .val (.int z41), .val (.ref b50), .unset, .unset, .unset, .unset, .unset] [(.int z164v), (.int 3), (.ref b315), (.ref b315)])) rfl rfl (hb hby at_451)
  have V360 : Arv Z h360 b315 k315 .char (17 : Int32) [(.int (nar .char u0)), (.int (nar .char u1)), (.int (nar .char u2)), (.int (nar .char z164v)), (.int 0), (.int 0), (.int 0), (.int 0), (.int 0), (.int 0), (.int 0), (.int 0), (.int 0), (.int 0), (.int 0), (.int 0), (.int 0)] (.int (0 : Int32)) := Arv.set Ar360 q360 S360 N360 H360 G360 (fits_nar_char _) W360 3 rfl (Nat.le_of_ble_eq_true rfl)
  have CR361 := CR350.trans (CHr.wr W360 (Safe.arv hZ.alike V349 (by decide)) CR350.1)
  have F362 := F351.other W360 ne_b50_b315
  have F363 := own_Sc.wrC F352 W360 V349 (hw _ (List.mem_of_getElem? (i := 7) rfl))
  have Z364 : n0 ≤ h360.size := by rw [W360.size]; exact Z353
  have kS365 := Nat.le_trans kS354 (Nat.le_of_eq W360.size.symm)
  have NF360 := Fr.snoc X360 NF349 g_b315
  have K366 := K355.wr W360 (Or.inr sz_b315)
  have P367 : own_Pr p.tables e below S0 T360 (mkF m 452 #[.val (.int p1), .val (.int p2), .val (.int p3), .val (.int p4), .val (.int p5), .val (.int z22), .val (.int z28), .val (.int z30), .val (.int z32), .val (.int z41), .val (.ref b50), .unset, .unset, .unset, .unset, .unset] [(.ref b315)]) := fun t k => P359 t (st360 _ k)
  have P368 : own_Pr p.tables e below S0 T360 (mkF m 457 #[.val (.int p1), .val (.int p2), .val (.int p3), .val (.int p4), .val (.int p5), .val (.int z22), .val (.int z28), .val (.int z30), .val (.int z32), .val (.int z41), .val (.ref b50), .unset, .unset, .unset, .unset, .unset] [(.int 4), (.ref b50), (.int 4), (.ref b315), (.ref b315)]) := fun t k => P367 t (by
    refine XS.dup X360.here hx rfl (hb hby at_452) rfl rfl ?_
    refine XS.iconst X360.here hx rfl (hb hby at_453) ?_
    refine XS.aload X360.here hx rfl (hb hby at_454) rfl rfl ?_
    refine XS.iconst X360.here hx rfl (hb hby at_456) ?_
    exact k)
  obtain ⟨cl369, Ar369, q369, S369, N369, H369, G369⟩ := id F362
  have hin369 : ¬ ((4 : Int32) < 0 ∨ cl369.slots.size ≤ ((4 : Int32)).toNatClampNeg) := inb_of S369 ⟨by decide, by decide⟩
  have P370 : own_Pr p.tables e below S0 T360 (mkF m 458 #[.val (.int p1), .val (.int p2), .val (.int p3), .val (.int p4), .val (.int p5), .val (.int z22), .val (.int z28), .val (.int z30), .val (.int z32), .val (.int z41), .val (.ref b50), .unset, .unset, .unset, .unset, .unset] [(.int z174v), (.int 4), (.ref b315), (.ref b315)]) := fun t k => P368 t (by
    refine X360.caload hx (j := (4 : Int32)) (v := (.int z174v)) (by rw [e360]; exact Ar369.1) (State.isArrayOf_alike hZ.alike Ar369.2.1) Ar369.2.2 hin369 (H369.at hin369 rfl) (g := (mkF m 457 #[.val (.int p1), .val (.int p2), .val (.int p3), .val (.int p4), .val (.int p5), .val (.int z22), .val (.int z28), .val (.int z30), .val (.int z32), .val (.int z41), .val (.ref b50), .unset, .unset, .unset, .unset, .unset] [(.int 4), (.ref b50), (.int 4), (.ref b315), (.ref b315)])) rfl rfl (hb hby at_457) _ ?_
    exact k)
  obtain ⟨cl371, Ar371, q371, S371, N371, H371, G371⟩ := id V360
  have hin371 : ¬ ((4 : Int32) < 0 ∨ cl371.slots.size ≤ ((4 : Int32)).toNatClampNeg) := inb_of S371 ⟨by decide, by decide⟩
  obtain ⟨T371, h371, X371, e371, W371, st371⟩ := stC X360 hx hZ e360 Ar371 (j := (4 : Int32)) hin371 (g := (mkF m 458 #[.val (.int p1), .val (.int p2), .val (.int p3), .val (.int p4), .val (.int p5), .val (.int z22), .val (.int z28), .val (.int z30), .val (.int z32), .val (.int z41), .val (.ref b50), .unset, .unset, .unset, .unset, .unset] [(.int z174v), (.int 4), (.ref b315), (.ref b315)])) rfl rfl (hb hby at_458)
  have V371 : Arv Z h371 b315 k315 .char (17 : Int32) [(.int (nar .char u0)), (.int (nar .char u1)), (.int (nar .char u2)), (.int (nar .char z164v)), (.int (nar .char z174v)), (.int 0), (.int 0), (.int 0), (.int 0), (.int 0), (.int 0), (.int 0), (.int 0), (.int 0), (.int 0), (.int 0), (.int 0)] (.int (0 : Int32)) := Arv.set Ar371 q371 S371 N371 H371 G371 (fits_nar_char _) W371 4 rfl (Nat.le_of_ble_eq_true rfl)
  have CR372 := CR361.trans (CHr.wr W371 (Safe.arv hZ.alike V360 (by decide)) CR361.1)
  have F373 := F362.other W371 ne_b50_b315
  have F374 := own_Sc.wrC F363 W371 V360 (hw _ (List.mem_of_getElem? (i := 7) rfl))
  have Z375 : n0 ≤ h371.size := by rw [W371.size]; exact Z364
  have kS376 := Nat.le_trans kS365 (Nat.le_of_eq W371.size.symm)
  have NF371 := Fr.snoc X371 NF360 g_b315
  have K377 := K366.wr W371 (Or.inr sz_b315)
  have P378 : own_Pr p.tables e below S0 T371 (mkF m 459 #[.val (.int p1), .val (.int p2), .val (.int p3), .val (.int p4), .val (.int p5), .val (.int z22), .val (.int z28), .val (.int z30), .val (.int z32), .val (.int z41), .val (.ref b50), .unset, .unset, .unset, .unset, .unset] [(.ref b315)]) := fun t k => P370 t (st371 _ k)
  have P379 : own_Pr p.tables e below S0 T371 (mkF m 464 #[.val (.int p1), .val (.int p2), .val (.int p3), .val (.int p4), .val (.int p5), .val (.int z22), .val (.int z28), .val (.int z30), .val (.int z32), .val (.int z41), .val (.ref b50), .unset, .unset, .unset, .unset, .unset] [(.int 5), (.ref b50), (.int 5), (.ref b315), (.ref b315)]) := fun t k => P378 t (by
    refine XS.dup X371.here hx rfl (hb hby at_459) rfl rfl ?_
    refine XS.iconst X371.here hx rfl (hb hby at_460) ?_
    refine XS.aload X371.here hx rfl (hb hby at_461) rfl rfl ?_
    refine XS.iconst X371.here hx rfl (hb hby at_463) ?_
    exact k)
  obtain ⟨cl380, Ar380, q380, S380, N380, H380, G380⟩ := id F373
  have hin380 : ¬ ((5 : Int32) < 0 ∨ cl380.slots.size ≤ ((5 : Int32)).toNatClampNeg) := inb_of S380 ⟨by decide, by decide⟩
  have P381 : own_Pr p.tables e below S0 T371 (mkF m 465 #[.val (.int p1), .val (.int p2), .val (.int p3), .val (.int p4), .val (.int p5), .val (.int z22), .val (.int z28), .val (.int z30), .val (.int z32), .val (.int z41), .val (.ref b50), .unset, .unset, .unset, .unset, .unset] [(.int z184v), (.int 5), (.ref b315), (.ref b315)]) := fun t k => P379 t (by
    refine X371.caload hx (j := (5 : Int32)) (v := (.int z184v)) (by rw [e371]; exact Ar380.1) (State.isArrayOf_alike hZ.alike Ar380.2.1) Ar380.2.2 hin380 (H380.at hin380 rfl) (g := (mkF m 464 #[.val (.int p1), .val (.int p2), .val (.int p3), .val (.int p4), .val (.int p5), .val (.int z22), .val (.int z28), .val (.int z30), .val (.int z32), .val (.int z41), .val (.ref b50), .unset, .unset, .unset, .unset, .unset] [(.int 5), (.ref b50), (.int 5), (.ref b315), (.ref b315)])) rfl rfl (hb hby at_464) _ ?_
    exact k)
  obtain ⟨cl382, Ar382, q382, S382, N382, H382, G382⟩ := id V371
  have hin382 : ¬ ((5 : Int32) < 0 ∨ cl382.slots.size ≤ ((5 : Int32)).toNatClampNeg) := inb_of S382 ⟨by decide, by decide⟩
  obtain ⟨T382, h382, X382, e382, W382, st382⟩ := stC X371 hx hZ e371 Ar382 (j := (5 : Int32)) hin382 (g := (mkF m 465 #[.val (.int p1), .val (.int p2), .val (.int p3), .val (.int p4), .val (.int p5), .val (.int z22), .val (.int z28), .val (.int z30), .val (.int z32), .val (.int z41), .val (.ref b50), .unset, .unset, .unset, .unset, .unset] [(.int z184v), (.int 5), (.ref b315), (.ref b315)])) rfl rfl (hb hby at_465)
  have V382 : Arv Z h382 b315 k315 .char (17 : Int32) [(.int (nar .char u0)), (.int (nar .char u1)), (.int (nar .char u2)), (.int (nar .char z164v)), (.int (nar .char z174v)), (.int (nar .char z184v)), (.int 0), (.int 0), (.int 0), (.int 0), (.int 0), (.int 0), (.int 0), (.int 0), (.int 0), (.int 0), (.int 0)] (.int (0 : Int32)) := Arv.set Ar382 q382 S382 N382 H382 G382 (fits_nar_char _) W382 5 rfl (Nat.le_of_ble_eq_true rfl)
  have CR383 := CR372.trans (CHr.wr W382 (Safe.arv hZ.alike V371 (by decide)) CR372.1)
  have F384 := F373.other W382 ne_b50_b315
  have F385 := own_Sc.wrC F374 W382 V371 (hw _ (List.mem_of_getElem? (i := 7) rfl))
  have Z386 : n0 ≤ h382.size := by rw [W382.size]; exact Z375
  have kS387 := Nat.le_trans kS376 (Nat.le_of_eq W382.size.symm)
  have NF382 := Fr.snoc X382 NF371 g_b315
  have K388 := K377.wr W382 (Or.inr sz_b315)
  have P389 : own_Pr p.tables e below S0 T382 (mkF m 466 #[.val (.int p1), .val (.int p2), .val (.int p3), .val (.int p4), .val (.int p5), .val (.int z22), .val (.int z28), .val (.int z30), .val (.int z32), .val (.int z41), .val (.ref b50), .unset, .unset, .unset, .unset, .unset] [(.ref b315)]) := fun t k => P381 t (st382 _ k)
  have P390 : own_Pr p.tables e below S0 T382 (mkF m 473 #[.val (.int p1), .val (.int p2), .val (.int p3), .val (.int p4), .val (.int p5), .val (.int z22), .val (.int z28), .val (.int z30), .val (.int z32), .val (.int z41), .val (.ref b50), .unset, .unset, .unset, .unset, .unset] [(.int 6), (.ref b50), (.int 6), (.ref b315), (.ref b315)]) := fun t k => P389 t (by
    refine XS.dup X382.here hx rfl (hb hby at_466) rfl rfl ?_
    refine XS.bipush X382.here hx rfl (hb hby at_467) ?_
    refine XS.aload X382.here hx rfl (hb hby at_469) rfl rfl ?_
    refine XS.bipush X382.here hx rfl (hb hby at_471) ?_
    exact k)
  obtain ⟨cl391, Ar391, q391, S391, N391, H391, G391⟩ := id F384
  have hin391 : ¬ ((6 : Int32) < 0 ∨ cl391.slots.size ≤ ((6 : Int32)).toNatClampNeg) := inb_of S391 ⟨by decide, by decide⟩
  have P392 : own_Pr p.tables e below S0 T382 (mkF m 474 #[.val (.int p1), .val (.int p2), .val (.int p3), .val (.int p4), .val (.int p5), .val (.int z22), .val (.int z28), .val (.int z30), .val (.int z32), .val (.int z41), .val (.ref b50), .unset, .unset, .unset, .unset, .unset] [(.int z194v), (.int 6), (.ref b315), (.ref b315)]) := fun t k => P390 t (by
    refine X382.caload hx (j := (6 : Int32)) (v := (.int z194v)) (by rw [e382]; exact Ar391.1) (State.isArrayOf_alike hZ.alike Ar391.2.1) Ar391.2.2 hin391 (H391.at hin391 rfl) (g := (mkF m 473 #[.val (.int p1), .val (.int p2), .val (.int p3), .val (.int p4), .val (.int p5), .val (.int z22), .val (.int z28), .val (.int z30), .val (.int z32), .val (.int z41), .val (.ref b50), .unset, .unset, .unset, .unset, .unset] [(.int 6), (.ref b50), (.int 6), (.ref b315), (.ref b315)])) rfl rfl (hb hby at_473) _ ?_
    exact k)
  obtain ⟨cl393, Ar393, q393, S393, N393, H393, G393⟩ := id V382
  have hin393 : ¬ ((6 : Int32) < 0 ∨ cl393.slots.size ≤ ((6 : Int32)).toNatClampNeg) := inb_of S393 ⟨by decide, by decide⟩
  obtain ⟨T393, h393, X393, e393, W393, st393⟩ := stC X382 hx hZ e382 Ar393 (j := (6 : Int32)) hin393 (g := (mkF m 474 #[.val (.int p1), .val (.int p2), .val (.int p3), .val (.int p4), .val (.int p5), .val (.int z22), .val (.int z28), .val (.int z30), .val (.int z32), .val (.int z41), .val (.ref b50), .unset, .unset, .unset, .unset, .unset] [(.int z194v), (.int 6), (.ref b315), (.ref b315)])) rfl rfl (hb hby at_474)
  have V393 : Arv Z h393 b315 k315 .char (17 : Int32) [(.int (nar .char u0)), (.int (nar .char u1)), (.int (nar .char u2)), (.int (nar .char z164v)), (.int (nar .char z174v)), (.int (nar .char z184v)), (.int (nar .char z194v)), (.int 0), (.int 0), (.int 0), (.int 0), (.int 0), (.int 0), (.int 0), (.int 0), (.int 0), (.int 0)] (.int (0 : Int32)) := Arv.set Ar393 q393 S393 N393 H393 G393 (fits_nar_char _) W393 6 rfl (Nat.le_of_ble_eq_true rfl)
  have CR394 := CR383.trans (CHr.wr W393 (Safe.arv hZ.alike V382 (by decide)) CR383.1)
  have F395 := F384.other W393 ne_b50_b315
  have F396 := own_Sc.wrC F385 W393 V382 (hw _ (List.mem_of_getElem? (i := 7) rfl))
  have Z397 : n0 ≤ h393.size := by rw [W393.size]; exact Z386
  have kS398 := Nat.le_trans kS387 (Nat.le_of_eq W393.size.symm)
  have NF393 := Fr.snoc X393 NF382 g_b315
  have K399 := K388.wr W393 (Or.inr sz_b315)
  have P400 : own_Pr p.tables e below S0 T393 (mkF m 475 #[.val (.int p1), .val (.int p2), .val (.int p3), .val (.int p4), .val (.int p5), .val (.int z22), .val (.int z28), .val (.int z30), .val (.int z32), .val (.int z41), .val (.ref b50), .unset, .unset, .unset, .unset, .unset] [(.ref b315)]) := fun t k => P392 t (st393 _ k)
  have P401 : own_Pr p.tables e below S0 T393 (mkF m 482 #[.val (.int p1), .val (.int p2), .val (.int p3), .val (.int p4), .val (.int p5), .val (.int z22), .val (.int z28), .val (.int z30), .val (.int z32), .val (.int z41), .val (.ref b50), .unset, .unset, .unset, .unset, .unset] [(.int 7), (.ref b50), (.int 7), (.ref b315), (.ref b315)]) := fun t k => P400 t (by
    refine XS.dup X393.here hx rfl (hb hby at_475) rfl rfl ?_
    refine XS.bipush X393.here hx rfl (hb hby at_476) ?_
    refine XS.aload X393.here hx rfl (hb hby at_478) rfl rfl ?_
    refine XS.bipush X393.here hx rfl (hb hby at_480) ?_
    exact k)
  obtain ⟨cl402, Ar402, q402, S402, N402, H402, G402⟩ := id F395
  have hin402 : ¬ ((7 : Int32) < 0 ∨ cl402.slots.size ≤ ((7 : Int32)).toNatClampNeg) := inb_of S402 ⟨by decide, by decide⟩
  have P403 : own_Pr p.tables e below S0 T393 (mkF m 483 #[.val (.int p1), .val (.int p2), .val (.int p3), .val (.int p4), .val (.int p5), .val (.int z22), .val (.int z28), .val (.int z30), .val (.int z32), .val (.int z41), .val (.ref b50), .unset, .unset, .unset, .unset, .unset] [(.int z204v), (.int 7), (.ref b315), (.ref b315)]) := fun t k => P401 t (by
    refine X393.caload hx (j := (7 : Int32)) (v := (.int z204v)) (by rw [e393]; exact Ar402.1) (State.isArrayOf_alike hZ.alike Ar402.2.1) Ar402.2.2 hin402 (H402.at hin402 rfl) (g := (mkF m 482 #[.val (.int p1), .val (.int p2), .val (.int p3), .val (.int p4), .val (.int p5), .val (.int z22), .val (.int z28), .val (.int z30), .val (.int z32), .val (.int z41), .val (.ref b50), .unset, .unset, .unset, .unset, .unset] [(.int 7), (.ref b50), (.int 7), (.ref b315), (.ref b315)])) rfl rfl (hb hby at_482) _ ?_
    exact k)
  obtain ⟨cl404, Ar404, q404, S404, N404, H404, G404⟩ := id V393
  have hin404 : ¬ ((7 : Int32) < 0 ∨ cl404.slots.size ≤ ((7 : Int32)).toNatClampNeg) := inb_of S404 ⟨by decide, by decide⟩
  obtain ⟨T404, h404, X404, e404, W404, st404⟩ := stC X393 hx hZ e393 Ar404 (j := (7 : Int32)) hin404 (g := (mkF m 483 #[.val (.int p1), .val (.int p2), .val (.int p3), .val (.int p4), .val (.int p5), .val (.int z22), .val (.int z28), .val (.int z30), .val (.int z32), .val (.int z41), .val (.ref b50), .unset, .unset, .unset, .unset, .unset] [(.int z204v), (.int 7), (.ref b315), (.ref b315)])) rfl rfl (hb hby at_483)
  have V404 : Arv Z h404 b315 k315 .char (17 : Int32) [(.int (nar .char u0)), (.int (nar .char u1)), (.int (nar .char u2)), (.int (nar .char z164v)), (.int (nar .char z174v)), (.int (nar .char z184v)), (.int (nar .char z194v)), (.int (nar .char z204v)), (.int 0), (.int 0), (.int 0), (.int 0), (.int 0), (.int 0), (.int 0), (.int 0), (.int 0)] (.int (0 : Int32)) := Arv.set Ar404 q404 S404 N404 H404 G404 (fits_nar_char _) W404 7 rfl (Nat.le_of_ble_eq_true rfl)
  have CR405 := CR394.trans (CHr.wr W404 (Safe.arv hZ.alike V393 (by decide)) CR394.1)
  have F406 := F395.other W404 ne_b50_b315
  have F407 := own_Sc.wrC F396 W404 V393 (hw _ (List.mem_of_getElem? (i := 7) rfl))
  have Z408 : n0 ≤ h404.size := by rw [W404.size]; exact Z397
  have kS409 := Nat.le_trans kS398 (Nat.le_of_eq W404.size.symm)
  have NF404 := Fr.snoc X404 NF393 g_b315
  have K410 := K399.wr W404 (Or.inr sz_b315)
  have P411 : own_Pr p.tables e below S0 T404 (mkF m 484 #[.val (.int p1), .val (.int p2), .val (.int p3), .val (.int p4), .val (.int p5), .val (.int z22), .val (.int z28), .val (.int z30), .val (.int z32), .val (.int z41), .val (.ref b50), .unset, .unset, .unset, .unset, .unset] [(.ref b315)]) := fun t k => P403 t (st404 _ k)
  have P412 : own_Pr p.tables e below S0 T404 (mkF m 491 #[.val (.int p1), .val (.int p2), .val (.int p3), .val (.int p4), .val (.int p5), .val (.int z22), .val (.int z28), .val (.int z30), .val (.int z32), .val (.int z41), .val (.ref b50), .unset, .unset, .unset, .unset, .unset] [(.int 8), (.ref b50), (.int 8), (.ref b315), (.ref b315)]) := fun t k => P411 t (by
    refine XS.dup X404.here hx rfl (hb hby at_484) rfl rfl ?_
    refine XS.bipush X404.here hx rfl (hb hby at_485) ?_
    refine XS.aload X404.here hx rfl (hb hby at_487) rfl rfl ?_
    refine XS.bipush X404.here hx rfl (hb hby at_489) ?_
    exact k)
  obtain ⟨cl413, Ar413, q413, S413, N413, H413, G413⟩ := id F406
  have hin413 : ¬ ((8 : Int32) < 0 ∨ cl413.slots.size ≤ ((8 : Int32)).toNatClampNeg) := inb_of S413 ⟨by decide, by decide⟩
  have P414 : own_Pr p.tables e below S0 T404 (mkF m 492 #[.val (.int p1), .val (.int p2), .val (.int p3), .val (.int p4), .val (.int p5), .val (.int z22), .val (.int z28), .val (.int z30), .val (.int z32), .val (.int z41), .val (.ref b50), .unset, .unset, .unset, .unset, .unset] [(.int z214v), (.int 8), (.ref b315), (.ref b315)]) := fun t k => P412 t (by
    refine X404.caload hx (j := (8 : Int32)) (v := (.int z214v)) (by rw [e404]; exact Ar413.1) (State.isArrayOf_alike hZ.alike Ar413.2.1) Ar413.2.2 hin413 (H413.at hin413 rfl) (g := (mkF m 491 #[.val (.int p1), .val (.int p2), .val (.int p3), .val (.int p4), .val (.int p5), .val (.int z22), .val (.int z28), .val (.int z30), .val (.int z32), .val (.int z41), .val (.ref b50), .unset, .unset, .unset, .unset, .unset] [(.int 8), (.ref b50), (.int 8), (.ref b315), (.ref b315)])) rfl rfl (hb hby at_491) _ ?_
    exact k)
  obtain ⟨cl415, Ar415, q415, S415, N415, H415, G415⟩ := id V404
  have hin415 : ¬ ((8 : Int32) < 0 ∨ cl415.slots.size ≤ ((8 : Int32)).toNatClampNeg) := inb_of S415 ⟨by decide, by decide⟩
  obtain ⟨T415, h415, X415, e415, W415, st415⟩ := stC X404 hx hZ e404 Ar415 (j := (8 : Int32)) hin415 (g := (mkF m 492 #[.val (.int p1), .val (.int p2), .val (.int p3), .val (.int p4), .val (.int p5), .val (.int z22), .val (.int z28), .val (.int z30), .val (.int z32), .val (.int z41), .val (.ref b50), .unset, .unset, .unset, .unset, .unset] [(.int z214v), (.int 8), (.ref b315), (.ref b315)])) rfl rfl (hb hby at_492)
  have V415 : Arv Z h415 b315 k315 .char (17 : Int32) [(.int (nar .char u0)), (.int (nar .char u1)), (.int (nar .char u2)), (.int (nar .char z164v)), (.int (nar .char z174v)), (.int (nar .char z184v)), (.int (nar .char z194v)), (.int (nar .char z204v)), (.int (nar .char z214v)), (.int 0), (.int 0), (.int 0), (.int 0), (.int 0), (.int 0), (.int 0), (.int 0)] (.int (0 : Int32)) := Arv.set Ar415 q415 S415 N415 H415 G415 (fits_nar_char _) W415 8 rfl (Nat.le_of_ble_eq_true rfl)
  have CR416 := CR405.trans (CHr.wr W415 (Safe.arv hZ.alike V404 (by decide)) CR405.1)
  have F417 := F406.other W415 ne_b50_b315
  have F418 := own_Sc.wrC F407 W415 V404 (hw _ (List.mem_of_getElem? (i := 7) rfl))
  have Z419 : n0 ≤ h415.size := by rw [W415.size]; exact Z408
  have kS420 := Nat.le_trans kS409 (Nat.le_of_eq W415.size.symm)
  have NF415 := Fr.snoc X415 NF404 g_b315
  have K421 := K410.wr W415 (Or.inr sz_b315)
  have P422 : own_Pr p.tables e below S0 T415 (mkF m 493 #[.val (.int p1), .val (.int p2), .val (.int p3), .val (.int p4), .val (.int p5), .val (.int z22), .val (.int z28), .val (.int z30), .val (.int z32), .val (.int z41), .val (.ref b50), .unset, .unset, .unset, .unset, .unset] [(.ref b315)]) := fun t k => P414 t (st415 _ k)
  have P423 : own_Pr p.tables e below S0 T415 (mkF m 500 #[.val (.int p1), .val (.int p2), .val (.int p3), .val (.int p4), .val (.int p5), .val (.int z22), .val (.int z28), .val (.int z30), .val (.int z32), .val (.int z41), .val (.ref b50), .unset, .unset, .unset, .unset, .unset] [(.int 9), (.ref b50), (.int 9), (.ref b315), (.ref b315)]) := fun t k => P422 t (by
    refine XS.dup X415.here hx rfl (hb hby at_493) rfl rfl ?_
    refine XS.bipush X415.here hx rfl (hb hby at_494) ?_
    refine XS.aload X415.here hx rfl (hb hby at_496) rfl rfl ?_
    refine XS.bipush X415.here hx rfl (hb hby at_498) ?_
    exact k)
  obtain ⟨cl424, Ar424, q424, S424, N424, H424, G424⟩ := id F417
  have hin424 : ¬ ((9 : Int32) < 0 ∨ cl424.slots.size ≤ ((9 : Int32)).toNatClampNeg) := inb_of S424 ⟨by decide, by decide⟩
  have P425 : own_Pr p.tables e below S0 T415 (mkF m 501 #[.val (.int p1), .val (.int p2), .val (.int p3), .val (.int p4), .val (.int p5), .val (.int z22), .val (.int z28), .val (.int z30), .val (.int z32), .val (.int z41), .val (.ref b50), .unset, .unset, .unset, .unset, .unset] [(.int z224v), (.int 9), (.ref b315), (.ref b315)]) := fun t k => P423 t (by
    refine X415.caload hx (j := (9 : Int32)) (v := (.int z224v)) (by rw [e415]; exact Ar424.1) (State.isArrayOf_alike hZ.alike Ar424.2.1) Ar424.2.2 hin424 (H424.at hin424 rfl) (g := (mkF m 500 #[.val (.int p1), .val (.int p2), .val (.int p3), .val (.int p4), .val (.int p5), .val (.int z22), .val (.int z28), .val (.int z30), .val (.int z32), .val (.int z41), .val (.ref b50), .unset, .unset, .unset, .unset, .unset] [(.int 9), (.ref b50), (.int 9), (.ref b315), (.ref b315)])) rfl rfl (hb hby at_500) _ ?_
    exact k)
  obtain ⟨cl426, Ar426, q426, S426, N426, H426, G426⟩ := id V415
  have hin426 : ¬ ((9 : Int32) < 0 ∨ cl426.slots.size ≤ ((9 : Int32)).toNatClampNeg) := inb_of S426 ⟨by decide, by decide⟩
  obtain ⟨T426, h426, X426, e426, W426, st426⟩ := stC X415 hx hZ e415 Ar426 (j := (9 : Int32)) hin426 (g := (mkF m 501 #[.val (.int p1), .val (.int p2), .val (.int p3), .val (.int p4), .val (.int p5), .val (.int z22), .val (.int z28), .val (.int z30), .val (.int z32), .val (.int z41), .val (.ref b50), .unset, .unset, .unset, .unset, .unset] [(.int z224v), (.int 9), (.ref b315), (.ref b315)])) rfl rfl (hb hby at_501)
  have V426 : Arv Z h426 b315 k315 .char (17 : Int32) [(.int (nar .char u0)), (.int (nar .char u1)), (.int (nar .char u2)), (.int (nar .char z164v)), (.int (nar .char z174v)), (.int (nar .char z184v)), (.int (nar .char z194v)), (.int (nar .char z204v)), (.int (nar .char z214v)), (.int (nar .char z224v)), (.int 0), (.int 0), (.int 0), (.int 0), (.int 0), (.int 0), (.int 0)] (.int (0 : Int32)) := Arv.set Ar426 q426 S426 N426 H426 G426 (fits_nar_char _) W426 9 rfl (Nat.le_of_ble_eq_true rfl)
  have CR427 := CR416.trans (CHr.wr W426 (Safe.arv hZ.alike V415 (by decide)) CR416.1)
  have F428 := F417.other W426 ne_b50_b315
  have F429 := own_Sc.wrC F418 W426 V415 (hw _ (List.mem_of_getElem? (i := 7) rfl))
  have Z430 : n0 ≤ h426.size := by rw [W426.size]; exact Z419
  have kS431 := Nat.le_trans kS420 (Nat.le_of_eq W426.size.symm)
  have NF426 := Fr.snoc X426 NF415 g_b315
  have K432 := K421.wr W426 (Or.inr sz_b315)
  have P433 : own_Pr p.tables e below S0 T426 (mkF m 502 #[.val (.int p1), .val (.int p2), .val (.int p3), .val (.int p4), .val (.int p5), .val (.int z22), .val (.int z28), .val (.int z30), .val (.int z32), .val (.int z41), .val (.ref b50), .unset, .unset, .unset, .unset, .unset] [(.ref b315)]) := fun t k => P425 t (st426 _ k)
  have P434 : own_Pr p.tables e below S0 T426 (mkF m 509 #[.val (.int p1), .val (.int p2), .val (.int p3), .val (.int p4), .val (.int p5), .val (.int z22), .val (.int z28), .val (.int z30), .val (.int z32), .val (.int z41), .val (.ref b50), .unset, .unset, .unset, .unset, .unset] [(.int 10), (.ref b50), (.int 10), (.ref b315), (.ref b315)]) := fun t k => P433 t (by
    refine XS.dup X426.here hx rfl (hb hby at_502) rfl rfl ?_
    refine XS.bipush X426.here hx rfl (hb hby at_503) ?_
    refine XS.aload X426.here hx rfl (hb hby at_505) rfl rfl ?_
    refine XS.bipush X426.here hx rfl (hb hby at_507) ?_
    exact k)
  obtain ⟨cl435, Ar435, q435, S435, N435, H435, G435⟩ := id F428
  have hin435 : ¬ ((10 : Int32) < 0 ∨ cl435.slots.size ≤ ((10 : Int32)).toNatClampNeg) := inb_of S435 ⟨by decide, by decide⟩
  have P436 : own_Pr p.tables e below S0 T426 (mkF m 510 #[.val (.int p1), .val (.int p2), .val (.int p3), .val (.int p4), .val (.int p5), .val (.int z22), .val (.int z28), .val (.int z30), .val (.int z32), .val (.int z41), .val (.ref b50), .unset, .unset, .unset, .unset, .unset] [(.int z234v), (.int 10), (.ref b315), (.ref b315)]) := fun t k => P434 t (by
    refine X426.caload hx (j := (10 : Int32)) (v := (.int z234v)) (by rw [e426]; exact Ar435.1) (State.isArrayOf_alike hZ.alike Ar435.2.1) Ar435.2.2 hin435 (H435.at hin435 rfl) (g := (mkF m 509 #[.val (.int p1), .val (.int p2), .val (.int p3), .val (.int p4), .val (.int p5), .val (.int z22), .val (.int z28), .val (.int z30), .val (.int z32), .val (.int z41), .val (.ref b50), .unset, .unset, .unset, .unset, .unset] [(.int 10), (.ref b50), (.int 10), (.ref b315), (.ref b315)])) rfl rfl (hb hby at_509) _ ?_
    exact k)
  obtain ⟨cl437, Ar437, q437, S437, N437, H437, G437⟩ := id V426
  have hin437 : ¬ ((10 : Int32) < 0 ∨ cl437.slots.size ≤ ((10 : Int32)).toNatClampNeg) := inb_of S437 ⟨by decide, by decide⟩
  obtain ⟨T437, h437, X437, e437, W437, st437⟩ := stC X426 hx hZ e426 Ar437 (j := (10 : Int32)) hin437 (g := (mkF m 510 #[.val (.int p1), .val (.int p2), .val (.int p3), .val (.int p4), .val (.int p5), .val (.int z22), .val (.int z28), .val (.int z30), .val (.int z32), .val (.int z41), .val (.ref b50), .unset, .unset, .unset, .unset, .unset] [(.int z234v), (.int 10), (.ref b315), (.ref b315)])) rfl rfl (hb hby at_510)
  have V437 : Arv Z h437 b315 k315 .char (17 : Int32) [(.int (nar .char u0)), (.int (nar .char u1)), (.int (nar .char u2)), (.int (nar .char z164v)), (.int (nar .char z174v)), (.int (nar .char z184v)), (.int (nar .char z194v)), (.int (nar .char z204v)), (.int (nar .char z214v)), (.int (nar .char z224v)), (.int (nar .char z234v)), (.int 0), (.int 0), (.int 0), (.int 0), (.int 0), (.int 0)] (.int (0 : Int32)) := Arv.set Ar437 q437 S437 N437 H437 G437 (fits_nar_char _) W437 10 rfl (Nat.le_of_ble_eq_true rfl)
  have CR438 := CR427.trans (CHr.wr W437 (Safe.arv hZ.alike V426 (by decide)) CR427.1)
  have F439 := F428.other W437 ne_b50_b315
  have F440 := own_Sc.wrC F429 W437 V426 (hw _ (List.mem_of_getElem? (i := 7) rfl))
  have Z441 : n0 ≤ h437.size := by rw [W437.size]; exact Z430
  have kS442 := Nat.le_trans kS431 (Nat.le_of_eq W437.size.symm)
  have NF437 := Fr.snoc X437 NF426 g_b315
  have K443 := K432.wr W437 (Or.inr sz_b315)
  have P444 : own_Pr p.tables e below S0 T437 (mkF m 511 #[.val (.int p1), .val (.int p2), .val (.int p3), .val (.int p4), .val (.int p5), .val (.int z22), .val (.int z28), .val (.int z30), .val (.int z32), .val (.int z41), .val (.ref b50), .unset, .unset, .unset, .unset, .unset] [(.ref b315)]) := fun t k => P436 t (st437 _ k)
  have P445 : own_Pr p.tables e below S0 T437 (mkF m 518 #[.val (.int p1), .val (.int p2), .val (.int p3), .val (.int p4), .val (.int p5), .val (.int z22), .val (.int z28), .val (.int z30), .val (.int z32), .val (.int z41), .val (.ref b50), .unset, .unset, .unset, .unset, .unset] [(.int 11), (.ref b50), (.int 11), (.ref b315), (.ref b315)]) := fun t k => P444 t (by
    refine XS.dup X437.here hx rfl (hb hby at_511) rfl rfl ?_
    refine XS.bipush X437.here hx rfl (hb hby at_512) ?_
    refine XS.aload X437.here hx rfl (hb hby at_514) rfl rfl ?_
    refine XS.bipush X437.here hx rfl (hb hby at_516) ?_
    exact k)
  obtain ⟨cl446, Ar446, q446, S446, N446, H446, G446⟩ := id F439
  have hin446 : ¬ ((11 : Int32) < 0 ∨ cl446.slots.size ≤ ((11 : Int32)).toNatClampNeg) := inb_of S446 ⟨by decide, by decide⟩
  have P447 : own_Pr p.tables e below S0 T437 (mkF m 519 #[.val (.int p1), .val (.int p2), .val (.int p3), .val (.int p4), .val (.int p5), .val (.int z22), .val (.int z28), .val (.int z30), .val (.int z32), .val (.int z41), .val (.ref b50), .unset, .unset, .unset, .unset, .unset] [(.int z244v), (.int 11), (.ref b315), (.ref b315)]) := fun t k => P445 t (by
    refine X437.caload hx (j := (11 : Int32)) (v := (.int z244v)) (by rw [e437]; exact Ar446.1) (State.isArrayOf_alike hZ.alike Ar446.2.1) Ar446.2.2 hin446 (H446.at hin446 rfl) (g := (mkF m 518 #[.val (.int p1), .val (.int p2), .val (.int p3), .val (.int p4), .val (.int p5), .val (.int z22), .val (.int z28), .val (.int z30), .val (.int z32), .val (.int z41), .val (.ref b50), .unset, .unset, .unset, .unset, .unset] [(.int 11), (.ref b50), (.int 11), (.ref b315), (.ref b315)])) rfl rfl (hb hby at_518) _ ?_
    exact k)
  obtain ⟨cl448, Ar448, q448, S448, N448, H448, G448⟩ := id V437
  have hin448 : ¬ ((11 : Int32) < 0 ∨ cl448.slots.size ≤ ((11 : Int32)).toNatClampNeg) := inb_of S448 ⟨by decide, by decide⟩
  obtain ⟨T448, h448, X448, e448, W448, st448⟩ := stC X437 hx hZ e437 Ar448 (j := (11 : Int32)) hin448 (g := (mkF m 519 #[.val (.int p1), .val (.int p2), .val (.int p3), .val (.int p4), .val (.int p5), .val (.int z22), .val (.int z28), .val (.int z30), .val (.int z32), .val (.int z41), .val (.ref b50), .unset, .unset, .unset, .unset, .unset] [(.int z244v), (.int 11), (.ref b315), (.ref b315)])) rfl rfl (hb hby at_519)
  have V448 : Arv Z h448 b315 k315 .char (17 : Int32) [(.int (nar .char u0)), (.int (nar .char u1)), (.int (nar .char u2)), (.int (nar .char z164v)), (.int (nar .char z174v)), (.int (nar .char z184v)), (.int (nar .char z194v)), (.int (nar .char z204v)), (.int (nar .char z214v)), (.int (nar .char z224v)), (.int (nar .char z234v)), (.int (nar .char z244v)), (.int 0), (.int 0), (.int 0), (.int 0), (.int 0)] (.int (0 : Int32)) := Arv.set Ar448 q448 S448 N448 H448 G448 (fits_nar_char _) W448 11 rfl (Nat.le_of_ble_eq_true rfl)
  have CR449 := CR438.trans (CHr.wr W448 (Safe.arv hZ.alike V437 (by decide)) CR438.1)
  have F450 := F439.other W448 ne_b50_b315
  have F451 := own_Sc.wrC F440 W448 V437 (hw _ (List.mem_of_getElem? (i := 7) rfl))
  have Z452 : n0 ≤ h448.size := by rw [W448.size]; exact Z441
  have kS453 := Nat.le_trans kS442 (Nat.le_of_eq W448.size.symm)
  have NF448 := Fr.snoc X448 NF437 g_b315
  have K454 := K443.wr W448 (Or.inr sz_b315)
  have P455 : own_Pr p.tables e below S0 T448 (mkF m 520 #[.val (.int p1), .val (.int p2), .val (.int p3), .val (.int p4), .val (.int p5), .val (.int z22), .val (.int z28), .val (.int z30), .val (.int z32), .val (.int z41), .val (.ref b50), .unset, .unset, .unset, .unset, .unset] [(.ref b315)]) := fun t k => P447 t (st448 _ k)
  have P456 : own_Pr p.tables e below S0 T448 (mkF m 527 #[.val (.int p1), .val (.int p2), .val (.int p3), .val (.int p4), .val (.int p5), .val (.int z22), .val (.int z28), .val (.int z30), .val (.int z32), .val (.int z41), .val (.ref b50), .unset, .unset, .unset, .unset, .unset] [(.int 12), (.ref b50), (.int 12), (.ref b315), (.ref b315)]) := fun t k => P455 t (by
    refine XS.dup X448.here hx rfl (hb hby at_520) rfl rfl ?_
    refine XS.bipush X448.here hx rfl (hb hby at_521) ?_
    refine XS.aload X448.here hx rfl (hb hby at_523) rfl rfl ?_
    refine XS.bipush X448.here hx rfl (hb hby at_525) ?_
    exact k)
  obtain ⟨cl457, Ar457, q457, S457, N457, H457, G457⟩ := id F450
  have hin457 : ¬ ((12 : Int32) < 0 ∨ cl457.slots.size ≤ ((12 : Int32)).toNatClampNeg) := inb_of S457 ⟨by decide, by decide⟩
  have P458 : own_Pr p.tables e below S0 T448 (mkF m 528 #[.val (.int p1), .val (.int p2), .val (.int p3), .val (.int p4), .val (.int p5), .val (.int z22), .val (.int z28), .val (.int z30), .val (.int z32), .val (.int z41), .val (.ref b50), .unset, .unset, .unset, .unset, .unset] [(.int z254v), (.int 12), (.ref b315), (.ref b315)]) := fun t k => P456 t (by
    refine X448.caload hx (j := (12 : Int32)) (v := (.int z254v)) (by rw [e448]; exact Ar457.1) (State.isArrayOf_alike hZ.alike Ar457.2.1) Ar457.2.2 hin457 (H457.at hin457 rfl) (g := (mkF m 527 #[.val (.int p1), .val (.int p2), .val (.int p3), .val (.int p4), .val (.int p5), .val (.int z22), .val (.int z28), .val (.int z30), .val (.int z32), .val (.int z41), .val (.ref b50), .unset, .unset, .unset, .unset, .unset] [(.int 12), (.ref b50), (.int 12), (.ref b315), (.ref b315)])) rfl rfl (hb hby at_527) _ ?_
    exact k)
  obtain ⟨cl459, Ar459, q459, S459, N459, H459, G459⟩ := id V448
  have hin459 : ¬ ((12 : Int32) < 0 ∨ cl459.slots.size ≤ ((12 : Int32)).toNatClampNeg) := inb_of S459 ⟨by decide, by decide⟩
  obtain ⟨T459, h459, X459, e459, W459, st459⟩ := stC X448 hx hZ e448 Ar459 (j := (12 : Int32)) hin459 (g := (mkF m 528 #[.val (.int p1), .val (.int p2), .val (.int p3), .val (.int p4), .val (.int p5), .val (.int z22), .val (.int z28), .val (.int z30), .val (.int z32), .val (.int z41), .val (.ref b50), .unset, .unset, .unset, .unset, .unset] [(.int z254v), (.int 12), (.ref b315), (.ref b315)])) rfl rfl (hb hby at_528)
  have V459 : Arv Z h459 b315 k315 .char (17 : Int32) [(.int (nar .char u0)), (.int (nar .char u1)), (.int (nar .char u2)), (.int (nar .char z164v)), (.int (nar .char z174v)), (.int (nar .char z184v)), (.int (nar .char z194v)), (.int (nar .char z204v)), (.int (nar .char z214v)), (.int (nar .char z224v)), (.int (nar .char z234v)), (.int (nar .char z244v)), (.int (nar .char z254v)), (.int 0), (.int 0), (.int 0), (.int 0)] (.int (0 : Int32)) := Arv.set Ar459 q459 S459 N459 H459 G459 (fits_nar_char _) W459 12 rfl (Nat.le_of_ble_eq_true rfl)
  have CR460 := CR449.trans (CHr.wr W459 (Safe.arv hZ.alike V448 (by decide)) CR449.1)
  have F461 := F450.other W459 ne_b50_b315
  have F462 := own_Sc.wrC F451 W459 V448 (hw _ (List.mem_of_getElem? (i := 7) rfl))
  have Z463 : n0 ≤ h459.size := by rw [W459.size]; exact Z452
  have kS464 := Nat.le_trans kS453 (Nat.le_of_eq W459.size.symm)
  have NF459 := Fr.snoc X459 NF448 g_b315
  have K465 := K454.wr W459 (Or.inr sz_b315)
  have P466 : own_Pr p.tables e below S0 T459 (mkF m 529 #[.val (.int p1), .val (.int p2), .val (.int p3), .val (.int p4), .val (.int p5), .val (.int z22), .val (.int z28), .val (.int z30), .val (.int z32), .val (.int z41), .val (.ref b50), .unset, .unset, .unset, .unset, .unset] [(.ref b315)]) := fun t k => P458 t (st459 _ k)
  have P467 : own_Pr p.tables e below S0 T459 (mkF m 536 #[.val (.int p1), .val (.int p2), .val (.int p3), .val (.int p4), .val (.int p5), .val (.int z22), .val (.int z28), .val (.int z30), .val (.int z32), .val (.int z41), .val (.ref b50), .unset, .unset, .unset, .unset, .unset] [(.int 13), (.ref b50), (.int 13), (.ref b315), (.ref b315)]) := fun t k => P466 t (by
    refine XS.dup X459.here hx rfl (hb hby at_529) rfl rfl ?_
    refine XS.bipush X459.here hx rfl (hb hby at_530) ?_
    refine XS.aload X459.here hx rfl (hb hby at_532) rfl rfl ?_
    refine XS.bipush X459.here hx rfl (hb hby at_534) ?_
    exact k)
  obtain ⟨cl468, Ar468, q468, S468, N468, H468, G468⟩ := id F461
  have hin468 : ¬ ((13 : Int32) < 0 ∨ cl468.slots.size ≤ ((13 : Int32)).toNatClampNeg) := inb_of S468 ⟨by decide, by decide⟩
  have P469 : own_Pr p.tables e below S0 T459 (mkF m 537 #[.val (.int p1), .val (.int p2), .val (.int p3), .val (.int p4), .val (.int p5), .val (.int z22), .val (.int z28), .val (.int z30), .val (.int z32), .val (.int z41), .val (.ref b50), .unset, .unset, .unset, .unset, .unset] [(.int z264v), (.int 13), (.ref b315), (.ref b315)]) := fun t k => P467 t (by
    refine X459.caload hx (j := (13 : Int32)) (v := (.int z264v)) (by rw [e459]; exact Ar468.1) (State.isArrayOf_alike hZ.alike Ar468.2.1) Ar468.2.2 hin468 (H468.at hin468 rfl) (g := (mkF m 536 #[.val (.int p1), .val (.int p2), .val (.int p3), .val (.int p4), .val (.int p5), .val (.int z22), .val (.int z28), .val (.int z30), .val (.int z32), .val (.int z41), .val (.ref b50), .unset, .unset, .unset, .unset, .unset] [(.int 13), (.ref b50), (.int 13), (.ref b315), (.ref b315)])) rfl rfl (hb hby at_536) _ ?_
    exact k)
  obtain ⟨cl470, Ar470, q470, S470, N470, H470, G470⟩ := id V459
  have hin470 : ¬ ((13 : Int32) < 0 ∨ cl470.slots.size ≤ ((13 : Int32)).toNatClampNeg) := inb_of S470 ⟨by decide, by decide⟩
  obtain ⟨T470, h470, X470, e470, W470, st470⟩ := stC X459 hx hZ e459 Ar470 (j := (13 : Int32)) hin470 (g := (mkF m 537 #[.val (.int p1), .val (.int p2), .val (.int p3), .val (.int p4), .val (.int p5), .val (.int z22), .val (.int z28), .val (.int z30), .val (.int z32), .val (.int z41), .val (.ref b50), .unset, .unset, .unset, .unset, .unset] [(.int z264v), (.int 13), (.ref b315), (.ref b315)])) rfl rfl (hb hby at_537)
  have V470 : Arv Z h470 b315 k315 .char (17 : Int32) [(.int (nar .char u0)), (.int (nar .char u1)), (.int (nar .char u2)), (.int (nar .char z164v)), (.int (nar .char z174v)), (.int (nar .char z184v)), (.int (nar .char z194v)), (.int (nar .char z204v)), (.int (nar .char z214v)), (.int (nar .char z224v)), (.int (nar .char z234v)), (.int (nar .char z244v)), (.int (nar .char z254v)), (.int (nar .char z264v)), (.int 0), (.int 0), (.int 0)] (.int (0 : Int32)) := Arv.set Ar470 q470 S470 N470 H470 G470 (fits_nar_char _) W470 13 rfl (Nat.le_of_ble_eq_true rfl)
  have CR471 := CR460.trans (CHr.wr W470 (Safe.arv hZ.alike V459 (by decide)) CR460.1)
  have F472 := F461.other W470 ne_b50_b315
  have F473 := own_Sc.wrC F462 W470 V459 (hw _ (List.mem_of_getElem? (i := 7) rfl))
  have Z474 : n0 ≤ h470.size := by rw [W470.size]; exact Z463
  have kS475 := Nat.le_trans kS464 (Nat.le_of_eq W470.size.symm)
  have NF470 := Fr.snoc X470 NF459 g_b315
  have K476 := K465.wr W470 (Or.inr sz_b315)
  have P477 : own_Pr p.tables e below S0 T470 (mkF m 538 #[.val (.int p1), .val (.int p2), .val (.int p3), .val (.int p4), .val (.int p5), .val (.int z22), .val (.int z28), .val (.int z30), .val (.int z32), .val (.int z41), .val (.ref b50), .unset, .unset, .unset, .unset, .unset] [(.ref b315)]) := fun t k => P469 t (st470 _ k)
  have P478 : own_Pr p.tables e below S0 T470 (mkF m 545 #[.val (.int p1), .val (.int p2), .val (.int p3), .val (.int p4), .val (.int p5), .val (.int z22), .val (.int z28), .val (.int z30), .val (.int z32), .val (.int z41), .val (.ref b50), .unset, .unset, .unset, .unset, .unset] [(.int 14), (.ref b50), (.int 14), (.ref b315), (.ref b315)]) := fun t k => P477 t (by
    refine XS.dup X470.here hx rfl (hb hby at_538) rfl rfl ?_
    refine XS.bipush X470.here hx rfl (hb hby at_539) ?_
    refine XS.aload X470.here hx rfl (hb hby at_541) rfl rfl ?_
    refine XS.bipush X470.here hx rfl (hb hby at_543) ?_
    exact k)
  obtain ⟨cl479, Ar479, q479, S479, N479, H479, G479⟩ := id F472
  have hin479 : ¬ ((14 : Int32) < 0 ∨ cl479.slots.size ≤ ((14 : Int32)).toNatClampNeg) := inb_of S479 ⟨by decide, by decide⟩
  have P480 : own_Pr p.tables e below S0 T470 (mkF m 546 #[.val (.int p1), .val (.int p2), .val (.int p3), .val (.int p4), .val (.int p5), .val (.int z22), .val (.int z28), .val (.int z30), .val (.int z32), .val (.int z41), .val (.ref b50), .unset, .unset, .unset, .unset, .unset] [(.int z274v), (.int 14), (.ref b315), (.ref b315)]) := fun t k => P478 t (by
    refine X470.caload hx (j := (14 : Int32)) (v := (.int z274v)) (by rw [e470]; exact Ar479.1) (State.isArrayOf_alike hZ.alike Ar479.2.1) Ar479.2.2 hin479 (H479.at hin479 rfl) (g := (mkF m 545 #[.val (.int p1), .val (.int p2), .val (.int p3), .val (.int p4), .val (.int p5), .val (.int z22), .val (.int z28), .val (.int z30), .val (.int z32), .val (.int z41), .val (.ref b50), .unset, .unset, .unset, .unset, .unset] [(.int 14), (.ref b50), (.int 14), (.ref b315), (.ref b315)])) rfl rfl (hb hby at_545) _ ?_
    exact k)
  obtain ⟨cl481, Ar481, q481, S481, N481, H481, G481⟩ := id V470
  have hin481 : ¬ ((14 : Int32) < 0 ∨ cl481.slots.size ≤ ((14 : Int32)).toNatClampNeg) := inb_of S481 ⟨by decide, by decide⟩
  obtain ⟨T481, h481, X481, e481, W481, st481⟩ := stC X470 hx hZ e470 Ar481 (j := (14 : Int32)) hin481 (g := (mkF m 546 #[.val (.int p1), .val (.int p2), .val (.int p3), .val (.int p4), .val (.int p5), .val (.int z22), .val (.int z28), .val (.int z30), .val (.int z32), .val (.int z41), .val (.ref b50), .unset, .unset, .unset, .unset, .unset] [(.int z274v), (.int 14), (.ref b315), (.ref b315)])) rfl rfl (hb hby at_546)
  have V481 : Arv Z h481 b315 k315 .char (17 : Int32) [(.int (nar .char u0)), (.int (nar .char u1)), (.int (nar .char u2)), (.int (nar .char z164v)), (.int (nar .char z174v)), (.int (nar .char z184v)), (.int (nar .char z194v)), (.int (nar .char z204v)), (.int (nar .char z214v)), (.int (nar .char z224v)), (.int (nar .char z234v)), (.int (nar .char z244v)), (.int (nar .char z254v)), (.int (nar .char z264v)), (.int (nar .char z274v)), (.int 0), (.int 0)] (.int (0 : Int32)) := Arv.set Ar481 q481 S481 N481 H481 G481 (fits_nar_char _) W481 14 rfl (Nat.le_of_ble_eq_true rfl)
  have CR482 := CR471.trans (CHr.wr W481 (Safe.arv hZ.alike V470 (by decide)) CR471.1)
  have F483 := F472.other W481 ne_b50_b315
  have F484 := own_Sc.wrC F473 W481 V470 (hw _ (List.mem_of_getElem? (i := 7) rfl))
  have Z485 : n0 ≤ h481.size := by rw [W481.size]; exact Z474
  have kS486 := Nat.le_trans kS475 (Nat.le_of_eq W481.size.symm)
  have NF481 := Fr.snoc X481 NF470 g_b315
  have K487 := K476.wr W481 (Or.inr sz_b315)
  have P488 : own_Pr p.tables e below S0 T481 (mkF m 547 #[.val (.int p1), .val (.int p2), .val (.int p3), .val (.int p4), .val (.int p5), .val (.int z22), .val (.int z28), .val (.int z30), .val (.int z32), .val (.int z41), .val (.ref b50), .unset, .unset, .unset, .unset, .unset] [(.ref b315)]) := fun t k => P480 t (st481 _ k)
  have P489 : own_Pr p.tables e below S0 T481 (mkF m 554 #[.val (.int p1), .val (.int p2), .val (.int p3), .val (.int p4), .val (.int p5), .val (.int z22), .val (.int z28), .val (.int z30), .val (.int z32), .val (.int z41), .val (.ref b50), .unset, .unset, .unset, .unset, .unset] [(.int 15), (.ref b50), (.int 15), (.ref b315), (.ref b315)]) := fun t k => P488 t (by
    refine XS.dup X481.here hx rfl (hb hby at_547) rfl rfl ?_
    refine XS.bipush X481.here hx rfl (hb hby at_548) ?_
    refine XS.aload X481.here hx rfl (hb hby at_550) rfl rfl ?_
    refine XS.bipush X481.here hx rfl (hb hby at_552) ?_
    exact k)
  obtain ⟨cl490, Ar490, q490, S490, N490, H490, G490⟩ := id F483
  have hin490 : ¬ ((15 : Int32) < 0 ∨ cl490.slots.size ≤ ((15 : Int32)).toNatClampNeg) := inb_of S490 ⟨by decide, by decide⟩
  have P491 : own_Pr p.tables e below S0 T481 (mkF m 555 #[.val (.int p1), .val (.int p2), .val (.int p3), .val (.int p4), .val (.int p5), .val (.int z22), .val (.int z28), .val (.int z30), .val (.int z32), .val (.int z41), .val (.ref b50), .unset, .unset, .unset, .unset, .unset] [(.int z284v), (.int 15), (.ref b315), (.ref b315)]) := fun t k => P489 t (by
    refine X481.caload hx (j := (15 : Int32)) (v := (.int z284v)) (by rw [e481]; exact Ar490.1) (State.isArrayOf_alike hZ.alike Ar490.2.1) Ar490.2.2 hin490 (H490.at hin490 rfl) (g := (mkF m 554 #[.val (.int p1), .val (.int p2), .val (.int p3), .val (.int p4), .val (.int p5), .val (.int z22), .val (.int z28), .val (.int z30), .val (.int z32), .val (.int z41), .val (.ref b50), .unset, .unset, .unset, .unset, .unset] [(.int 15), (.ref b50), (.int 15), (.ref b315), (.ref b315)])) rfl rfl (hb hby at_554) _ ?_
    exact k)
  obtain ⟨cl492, Ar492, q492, S492, N492, H492, G492⟩ := id V481
  have hin492 : ¬ ((15 : Int32) < 0 ∨ cl492.slots.size ≤ ((15 : Int32)).toNatClampNeg) := inb_of S492 ⟨by decide, by decide⟩
  obtain ⟨T492, h492, X492, e492, W492, st492⟩ := stC X481 hx hZ e481 Ar492 (j := (15 : Int32)) hin492 (g := (mkF m 555 #[.val (.int p1), .val (.int p2), .val (.int p3), .val (.int p4), .val (.int p5), .val (.int z22), .val (.int z28), .val (.int z30), .val (.int z32), .val (.int z41), .val (.ref b50), .unset, .unset, .unset, .unset, .unset] [(.int z284v), (.int 15), (.ref b315), (.ref b315)])) rfl rfl (hb hby at_555)
  have V492 : Arv Z h492 b315 k315 .char (17 : Int32) [(.int (nar .char u0)), (.int (nar .char u1)), (.int (nar .char u2)), (.int (nar .char z164v)), (.int (nar .char z174v)), (.int (nar .char z184v)), (.int (nar .char z194v)), (.int (nar .char z204v)), (.int (nar .char z214v)), (.int (nar .char z224v)), (.int (nar .char z234v)), (.int (nar .char z244v)), (.int (nar .char z254v)), (.int (nar .char z264v)), (.int (nar .char z274v)), (.int (nar .char z284v)), (.int 0)] (.int (0 : Int32)) := Arv.set Ar492 q492 S492 N492 H492 G492 (fits_nar_char _) W492 15 rfl (Nat.le_of_ble_eq_true rfl)
  have CR493 := CR482.trans (CHr.wr W492 (Safe.arv hZ.alike V481 (by decide)) CR482.1)
  have F494 := F483.other W492 ne_b50_b315
  have F495 := own_Sc.wrC F484 W492 V481 (hw _ (List.mem_of_getElem? (i := 7) rfl))
  have Z496 : n0 ≤ h492.size := by rw [W492.size]; exact Z485
  have kS497 := Nat.le_trans kS486 (Nat.le_of_eq W492.size.symm)
  have NF492 := Fr.snoc X492 NF481 g_b315
  have K498 := K487.wr W492 (Or.inr sz_b315)
  have P499 : own_Pr p.tables e below S0 T492 (mkF m 556 #[.val (.int p1), .val (.int p2), .val (.int p3), .val (.int p4), .val (.int p5), .val (.int z22), .val (.int z28), .val (.int z30), .val (.int z32), .val (.int z41), .val (.ref b50), .unset, .unset, .unset, .unset, .unset] [(.ref b315)]) := fun t k => P491 t (st492 _ k)
  have P500 : own_Pr p.tables e below S0 T492 (mkF m 563 #[.val (.int p1), .val (.int p2), .val (.int p3), .val (.int p4), .val (.int p5), .val (.int z22), .val (.int z28), .val (.int z30), .val (.int z32), .val (.int z41), .val (.ref b50), .unset, .unset, .unset, .unset, .unset] [(.int 16), (.ref b50), (.int 16), (.ref b315), (.ref b315)]) := fun t k => P499 t (by
    refine XS.dup X492.here hx rfl (hb hby at_556) rfl rfl ?_
    refine XS.bipush X492.here hx rfl (hb hby at_557) ?_
    refine XS.aload X492.here hx rfl (hb hby at_559) rfl rfl ?_
    refine XS.bipush X492.here hx rfl (hb hby at_561) ?_
    exact k)
  obtain ⟨cl501, Ar501, q501, S501, N501, H501, G501⟩ := id F494
  have hin501 : ¬ ((16 : Int32) < 0 ∨ cl501.slots.size ≤ ((16 : Int32)).toNatClampNeg) := inb_of S501 ⟨by decide, by decide⟩
  have P502 : own_Pr p.tables e below S0 T492 (mkF m 564 #[.val (.int p1), .val (.int p2), .val (.int p3), .val (.int p4), .val (.int p5), .val (.int z22), .val (.int z28), .val (.int z30), .val (.int z32), .val (.int z41), .val (.ref b50), .unset, .unset, .unset, .unset, .unset] [(.int z294v), (.int 16), (.ref b315), (.ref b315)]) := fun t k => P500 t (by
    refine X492.caload hx (j := (16 : Int32)) (v := (.int z294v)) (by rw [e492]; exact Ar501.1) (State.isArrayOf_alike hZ.alike Ar501.2.1) Ar501.2.2 hin501 (H501.at hin501 rfl) (g := (mkF m 563 #[.val (.int p1), .val (.int p2), .val (.int p3), .val (.int p4), .val (.int p5), .val (.int z22), .val (.int z28), .val (.int z30), .val (.int z32), .val (.int z41), .val (.ref b50), .unset, .unset, .unset, .unset, .unset] [(.int 16), (.ref b50), (.int 16), (.ref b315), (.ref b315)])) rfl rfl (hb hby at_563) _ ?_
    exact k)
  obtain ⟨cl503, Ar503, q503, S503, N503, H503, G503⟩ := id V492
  have hin503 : ¬ ((16 : Int32) < 0 ∨ cl503.slots.size ≤ ((16 : Int32)).toNatClampNeg) := inb_of S503 ⟨by decide, by decide⟩
  obtain ⟨T503, h503, X503, e503, W503, st503⟩ := stC X492 hx hZ e492 Ar503 (j := (16 : Int32)) hin503 (g := (mkF m 564 #[.val (.int p1), .val (.int p2), .val (.int p3), .val (.int p4), .val (.int p5), .val (.int z22), .val (.int z28), .val (.int z30), .val (.int z32), .val (.int z41), .val (.ref b50), .unset, .unset, .unset, .unset, .unset] [(.int z294v), (.int 16), (.ref b315), (.ref b315)])) rfl rfl (hb hby at_564)
  have V503 : Arv Z h503 b315 k315 .char (17 : Int32) [(.int (nar .char u0)), (.int (nar .char u1)), (.int (nar .char u2)), (.int (nar .char z164v)), (.int (nar .char z174v)), (.int (nar .char z184v)), (.int (nar .char z194v)), (.int (nar .char z204v)), (.int (nar .char z214v)), (.int (nar .char z224v)), (.int (nar .char z234v)), (.int (nar .char z244v)), (.int (nar .char z254v)), (.int (nar .char z264v)), (.int (nar .char z274v)), (.int (nar .char z284v)), (.int (nar .char z294v))] (.int (0 : Int32)) := Arv.set Ar503 q503 S503 N503 H503 G503 (fits_nar_char _) W503 16 rfl (Nat.le_of_ble_eq_true rfl)
  have CR504 := CR493.trans (CHr.wr W503 (Safe.arv hZ.alike V492 (by decide)) CR493.1)
  have F505 := F494.other W503 ne_b50_b315
  have F506 := own_Sc.wrC F495 W503 V492 (hw _ (List.mem_of_getElem? (i := 7) rfl))
  have Z507 : n0 ≤ h503.size := by rw [W503.size]; exact Z496
  have kS508 := Nat.le_trans kS497 (Nat.le_of_eq W503.size.symm)
  have NF503 := Fr.snoc X503 NF492 g_b315
  have K509 := K498.wr W503 (Or.inr sz_b315)
  have P510 : own_Pr p.tables e below S0 T503 (mkF m 565 #[.val (.int p1), .val (.int p2), .val (.int p3), .val (.int p4), .val (.int p5), .val (.int z22), .val (.int z28), .val (.int z30), .val (.int z32), .val (.int z41), .val (.ref b50), .unset, .unset, .unset, .unset, .unset] [(.ref b315)]) := fun t k => P502 t (st503 _ k)
  have P511 : own_Pr p.tables e below S0 T503 (mkF m 567 #[.val (.int p1), .val (.int p2), .val (.int p3), .val (.int p4), .val (.int p5), .val (.int z22), .val (.int z28), .val (.int z30), .val (.int z32), .val (.int z41), .val (.ref b50), .val (.ref b315), .unset, .unset, .unset, .unset] []) := fun t k => P510 t (by
    refine XS.astore X503.here hx rfl (hb hby at_565) rfl rfl (l' := #[.val (.int p1), .val (.int p2), .val (.int p3), .val (.int p4), .val (.int p5), .val (.int z22), .val (.int z28), .val (.int z30), .val (.int z32), .val (.int z41), .val (.ref b50), .val (.ref b315), .unset, .unset, .unset, .unset]) rfl ?_
    exact k)
  have hpp17 : ∀ c ∈ ([u0, u1, u2, z164v, z174v, z184v, z194v, z204v, z214v, z224v, z234v, z244v, z254v, z264v, z274v, z284v, z294v] : List Int32), ¬ c < 0 ∧ ¬ (255 : Int32) < c := own_al ⟨own_nn hn0, hL0⟩ (own_al ⟨own_nn hn1, hL1⟩ (own_al ⟨own_nn hn2, hL2⟩ (own_al ⟨own_nn hn3, hL3⟩ (own_al ⟨own_nn hn4, hL4⟩ (own_al ⟨own_nn hn5, hL5⟩ (own_al ⟨own_nn hn6, hL6⟩ (own_al ⟨own_nn hn7, hL7⟩ (own_al ⟨own_nn hn8, hL8⟩ (own_al ⟨own_nn hn9, hL9⟩ (own_al ⟨own_nn hn10, hL10⟩ (own_al ⟨own_nn hn11, hL11⟩ (own_al ⟨own_nn hn12, hL12⟩ (own_al ⟨own_nn hn13, hL13⟩ (own_al ⟨own_nn hn14, hL14⟩ (own_al ⟨own_nn hn15, hL15⟩ (own_al ⟨own_nn hn16, hL16⟩ (fun _ h => nomatch h)))))))))))))))))
  rw [hn0, hn1, hn2, hn3, hn4, hn5, hn6, hn7, hn8, hn9, hn10, hn11, hn12, hn13, hn14, hn15, hn16] at V503
  have P512 : own_Pr p.tables e below S0 T503 (mkF m 569 #[.val (.int p1), .val (.int p2), .val (.int p3), .val (.int p4), .val (.int p5), .val (.int z22), .val (.int z28), .val (.int z30), .val (.int z32), .val (.int z41), .val (.ref b50), .val (.ref b315), .unset, .unset, .unset, .unset] [(.int 16)]) := fun t k => P511 t (by
    refine XS.bipush X503.here hx rfl (hb hby at_567) ?_
    exact k)
  obtain ⟨T513, h513, k513, X513, e513, E513, A513, st513⟩ := newP X503 hx hZ (hw _ (List.mem_of_getElem? (i := 48) rfl)) e503 (g := (mkF m 569 #[.val (.int p1), .val (.int p2), .val (.int p3), .val (.int p4), .val (.int p5), .val (.int z22), .val (.int z28), .val (.int z30), .val (.int z32), .val (.int z41), .val (.ref b50), .val (.ref b315), .unset, .unset, .unset, .unset] [(.int 16)])) rfl (hb hby at_569) rfl (by decide) (cap := 16) (by decide) (by decide) (by decide) (by decide)
  obtain ⟨b513, g513⟩ : ∃ z, z = h503.size := ⟨_, rfl⟩
  rw [← g513] at A513 st513
  have g_b513 : n0 ≤ b513 := Nat.le_trans Z507 (Nat.le_of_eq g513.symm)
  have sz_b513 : h0.size ≤ b513 := Nat.le_trans K509.1 (Nat.le_of_eq g513.symm)
  have ne_b50_b513 : b50 ≠ b513 := Nat.ne_of_lt (Nat.lt_of_lt_of_le F505.lt (Nat.le_of_eq g513.symm))
  have ne_b315_b513 : b315 ≠ b513 := Nat.ne_of_lt (Nat.lt_of_lt_of_le V503.lt (Nat.le_of_eq g513.symm))
  have F514 := F505.ext E513
  have F515 := F506.ext E513
  have F516 := V503.ext E513
  have Z517 : n0 ≤ h513.size := Nat.le_trans Z507 E513.1
  have K518 := K509.ext E513
  have CR519 := CR504.trans (CHr.ext E513 CR504.1)
  have kS520 := Nat.le_trans kS508 E513.1
  have F521 : Arv Z h513 b513 k513 .char (16 : Int32) [(.int (0 : Int32)), (.int (0 : Int32)), (.int (0 : Int32)), (.int (0 : Int32)), (.int (0 : Int32)), (.int (0 : Int32)), (.int (0 : Int32)), (.int (0 : Int32)), (.int (0 : Int32)), (.int (0 : Int32)), (.int (0 : Int32)), (.int (0 : Int32)), (.int (0 : Int32)), (.int (0 : Int32)), (.int (0 : Int32)), (.int (0 : Int32))] (.int (0 : Int32)) := (Arv.new A513 (by decide)).pad (pad_rep [] (.int (0 : Int32)) 16)
  have P522 : own_Pr p.tables e below S0 T513 (mkF m 571 #[.val (.int p1), .val (.int p2), .val (.int p3), .val (.int p4), .val (.int p5), .val (.int z22), .val (.int z28), .val (.int z30), .val (.int z32), .val (.int z41), .val (.ref b50), .val (.ref b315), .unset, .unset, .unset, .unset] [(.ref b513)]) := fun t k => P512 t (st513 _ k)
  have P523 : own_Pr p.tables e below S0 T513 (mkF m 576 #[.val (.int p1), .val (.int p2), .val (.int p3), .val (.int p4), .val (.int p5), .val (.int z22), .val (.int z28), .val (.int z30), .val (.int z32), .val (.int z41), .val (.ref b50), .val (.ref b315), .unset, .unset, .unset, .unset] [(.int 0), (.ref b50), (.int 0), (.ref b513), (.ref b513)]) := fun t k => P522 t (by
    refine XS.dup X513.here hx rfl (hb hby at_571) rfl rfl ?_
    refine XS.iconst X513.here hx rfl (hb hby at_572) ?_
    refine XS.aload X513.here hx rfl (hb hby at_573) rfl rfl ?_
    refine XS.iconst X513.here hx rfl (hb hby at_575) ?_
    exact k)
  obtain ⟨cl524, Ar524, q524, S524, N524, H524, G524⟩ := id F514
  have hin524 : ¬ ((0 : Int32) < 0 ∨ cl524.slots.size ≤ ((0 : Int32)).toNatClampNeg) := inb_of S524 ⟨by decide, by decide⟩
  have P525 : own_Pr p.tables e below S0 T513 (mkF m 577 #[.val (.int p1), .val (.int p2), .val (.int p3), .val (.int p4), .val (.int p5), .val (.int z22), .val (.int z28), .val (.int z30), .val (.int z32), .val (.int z41), .val (.ref b50), .val (.ref b315), .unset, .unset, .unset, .unset] [(.int u0), (.int 0), (.ref b513), (.ref b513)]) := fun t k => P523 t (by
    refine X513.caload hx (j := (0 : Int32)) (v := (.int u0)) (by rw [e513]; exact Ar524.1) (State.isArrayOf_alike hZ.alike Ar524.2.1) Ar524.2.2 hin524 (H524.at hin524 rfl) (g := (mkF m 576 #[.val (.int p1), .val (.int p2), .val (.int p3), .val (.int p4), .val (.int p5), .val (.int z22), .val (.int z28), .val (.int z30), .val (.int z32), .val (.int z41), .val (.ref b50), .val (.ref b315), .unset, .unset, .unset, .unset] [(.int 0), (.ref b50), (.int 0), (.ref b513), (.ref b513)])) rfl rfl (hb hby at_576) _ ?_
    exact k)
  obtain ⟨cl526, Ar526, q526, S526, N526, H526, G526⟩ := id F521
  have hin526 : ¬ ((0 : Int32) < 0 ∨ cl526.slots.size ≤ ((0 : Int32)).toNatClampNeg) := inb_of S526 ⟨by decide, by decide⟩
  obtain ⟨T526, h526, X526, e526, W526, st526⟩ := stC X513 hx hZ e513 Ar526 (j := (0 : Int32)) hin526 (g := (mkF m 577 #[.val (.int p1), .val (.int p2), .val (.int p3), .val (.int p4), .val (.int p5), .val (.int z22), .val (.int z28), .val (.int z30), .val (.int z32), .val (.int z41), .val (.ref b50), .val (.ref b315), .unset, .unset, .unset, .unset] [(.int u0), (.int 0), (.ref b513), (.ref b513)])) rfl rfl (hb hby at_577)
  have V526 : Arv Z h526 b513 k513 .char (16 : Int32) [(.int (nar .char u0)), (.int 0), (.int 0), (.int 0), (.int 0), (.int 0), (.int 0), (.int 0), (.int 0), (.int 0), (.int 0), (.int 0), (.int 0), (.int 0), (.int 0), (.int 0)] (.int (0 : Int32)) := Arv.set Ar526 q526 S526 N526 H526 G526 (fits_nar_char _) W526 0 rfl (Nat.le_of_ble_eq_true rfl)
  have CR527 := CR519.trans (CHr.wr W526 (Safe.arv hZ.alike F521 (by decide)) CR519.1)
  have F528 := F514.other W526 ne_b50_b513
  have F529 := own_Sc.wrC F515 W526 F521 (hw _ (List.mem_of_getElem? (i := 7) rfl))
  have F530 := F516.other W526 ne_b315_b513
  have Z531 : n0 ≤ h526.size := by rw [W526.size]; exact Z517
  have kS532 := Nat.le_trans kS520 (Nat.le_of_eq W526.size.symm)
  have NF526 := Fr.snoc X526 NF503 g_b513
  have K533 := K518.wr W526 (Or.inr sz_b513)
  have P534 : own_Pr p.tables e below S0 T526 (mkF m 578 #[.val (.int p1), .val (.int p2), .val (.int p3), .val (.int p4), .val (.int p5), .val (.int z22), .val (.int z28), .val (.int z30), .val (.int z32), .val (.int z41), .val (.ref b50), .val (.ref b315), .unset, .unset, .unset, .unset] [(.ref b513)]) := fun t k => P525 t (st526 _ k)
  have P535 : own_Pr p.tables e below S0 T526 (mkF m 583 #[.val (.int p1), .val (.int p2), .val (.int p3), .val (.int p4), .val (.int p5), .val (.int z22), .val (.int z28), .val (.int z30), .val (.int z32), .val (.int z41), .val (.ref b50), .val (.ref b315), .unset, .unset, .unset, .unset] [(.int 1), (.ref b50), (.int 1), (.ref b513), (.ref b513)]) := fun t k => P534 t (by
    refine XS.dup X526.here hx rfl (hb hby at_578) rfl rfl ?_
    refine XS.iconst X526.here hx rfl (hb hby at_579) ?_
    refine XS.aload X526.here hx rfl (hb hby at_580) rfl rfl ?_
    refine XS.iconst X526.here hx rfl (hb hby at_582) ?_
    exact k)
  obtain ⟨cl536, Ar536, q536, S536, N536, H536, G536⟩ := id F528
  have hin536 : ¬ ((1 : Int32) < 0 ∨ cl536.slots.size ≤ ((1 : Int32)).toNatClampNeg) := inb_of S536 ⟨by decide, by decide⟩
  have P537 : own_Pr p.tables e below S0 T526 (mkF m 584 #[.val (.int p1), .val (.int p2), .val (.int p3), .val (.int p4), .val (.int p5), .val (.int z22), .val (.int z28), .val (.int z30), .val (.int z32), .val (.int z41), .val (.ref b50), .val (.ref b315), .unset, .unset, .unset, .unset] [(.int u1), (.int 1), (.ref b513), (.ref b513)]) := fun t k => P535 t (by
    refine X526.caload hx (j := (1 : Int32)) (v := (.int u1)) (by rw [e526]; exact Ar536.1) (State.isArrayOf_alike hZ.alike Ar536.2.1) Ar536.2.2 hin536 (H536.at hin536 rfl) (g := (mkF m 583 #[.val (.int p1), .val (.int p2), .val (.int p3), .val (.int p4), .val (.int p5), .val (.int z22), .val (.int z28), .val (.int z30), .val (.int z32), .val (.int z41), .val (.ref b50), .val (.ref b315), .unset, .unset, .unset, .unset] [(.int 1), (.ref b50), (.int 1), (.ref b513), (.ref b513)])) rfl rfl (hb hby at_583) _ ?_
    exact k)
  obtain ⟨cl538, Ar538, q538, S538, N538, H538, G538⟩ := id V526
  have hin538 : ¬ ((1 : Int32) < 0 ∨ cl538.slots.size ≤ ((1 : Int32)).toNatClampNeg) := inb_of S538 ⟨by decide, by decide⟩
  obtain ⟨T538, h538, X538, e538, W538, st538⟩ := stC X526 hx hZ e526 Ar538 (j := (1 : Int32)) hin538 (g := (mkF m 584 #[.val (.int p1), .val (.int p2), .val (.int p3), .val (.int p4), .val (.int p5), .val (.int z22), .val (.int z28), .val (.int z30), .val (.int z32), .val (.int z41), .val (.ref b50), .val (.ref b315), .unset, .unset, .unset, .unset] [(.int u1), (.int 1), (.ref b513), (.ref b513)])) rfl rfl (hb hby at_584)
  have V538 : Arv Z h538 b513 k513 .char (16 : Int32) [(.int (nar .char u0)), (.int (nar .char u1)), (.int 0), (.int 0), (.int 0), (.int 0), (.int 0), (.int 0), (.int 0), (.int 0), (.int 0), (.int 0), (.int 0), (.int 0), (.int 0), (.int 0)] (.int (0 : Int32)) := Arv.set Ar538 q538 S538 N538 H538 G538 (fits_nar_char _) W538 1 rfl (Nat.le_of_ble_eq_true rfl)
  have CR539 := CR527.trans (CHr.wr W538 (Safe.arv hZ.alike V526 (by decide)) CR527.1)
  have F540 := F528.other W538 ne_b50_b513
  have F541 := own_Sc.wrC F529 W538 V526 (hw _ (List.mem_of_getElem? (i := 7) rfl))
  have F542 := F530.other W538 ne_b315_b513
  have Z543 : n0 ≤ h538.size := by rw [W538.size]; exact Z531
  have kS544 := Nat.le_trans kS532 (Nat.le_of_eq W538.size.symm)
  have NF538 := Fr.snoc X538 NF526 g_b513
  have K545 := K533.wr W538 (Or.inr sz_b513)
  have P546 : own_Pr p.tables e below S0 T538 (mkF m 585 #[.val (.int p1), .val (.int p2), .val (.int p3), .val (.int p4), .val (.int p5), .val (.int z22), .val (.int z28), .val (.int z30), .val (.int z32), .val (.int z41), .val (.ref b50), .val (.ref b315), .unset, .unset, .unset, .unset] [(.ref b513)]) := fun t k => P537 t (st538 _ k)
  have P547 : own_Pr p.tables e below S0 T538 (mkF m 590 #[.val (.int p1), .val (.int p2), .val (.int p3), .val (.int p4), .val (.int p5), .val (.int z22), .val (.int z28), .val (.int z30), .val (.int z32), .val (.int z41), .val (.ref b50), .val (.ref b315), .unset, .unset, .unset, .unset] [(.int 2), (.ref b50), (.int 2), (.ref b513), (.ref b513)]) := fun t k => P546 t (by
    refine XS.dup X538.here hx rfl (hb hby at_585) rfl rfl ?_
    refine XS.iconst X538.here hx rfl (hb hby at_586) ?_
    refine XS.aload X538.here hx rfl (hb hby at_587) rfl rfl ?_
    refine XS.iconst X538.here hx rfl (hb hby at_589) ?_
    exact k)
  obtain ⟨cl548, Ar548, q548, S548, N548, H548, G548⟩ := id F540
  have hin548 : ¬ ((2 : Int32) < 0 ∨ cl548.slots.size ≤ ((2 : Int32)).toNatClampNeg) := inb_of S548 ⟨by decide, by decide⟩
  have P549 : own_Pr p.tables e below S0 T538 (mkF m 591 #[.val (.int p1), .val (.int p2), .val (.int p3), .val (.int p4), .val (.int p5), .val (.int z22), .val (.int z28), .val (.int z30), .val (.int z32), .val (.int z41), .val (.ref b50), .val (.ref b315), .unset, .unset, .unset, .unset] [(.int u2), (.int 2), (.ref b513), (.ref b513)]) := fun t k => P547 t (by
    refine X538.caload hx (j := (2 : Int32)) (v := (.int u2)) (by rw [e538]; exact Ar548.1) (State.isArrayOf_alike hZ.alike Ar548.2.1) Ar548.2.2 hin548 (H548.at hin548 rfl) (g := (mkF m 590 #[.val (.int p1), .val (.int p2), .val (.int p3), .val (.int p4), .val (.int p5), .val (.int z22), .val (.int z28), .val (.int z30), .val (.int z32), .val (.int z41), .val (.ref b50), .val (.ref b315), .unset, .unset, .unset, .unset] [(.int 2), (.ref b50), (.int 2), (.ref b513), (.ref b513)])) rfl rfl (hb hby at_590) _ ?_
    exact k)
  obtain ⟨cl550, Ar550, q550, S550, N550, H550, G550⟩ := id V538
  have hin550 : ¬ ((2 : Int32) < 0 ∨ cl550.slots.size ≤ ((2 : Int32)).toNatClampNeg) := inb_of S550 ⟨by decide, by decide⟩
  obtain ⟨T550, h550, X550, e550, W550, st550⟩ := stC X538 hx hZ e538 Ar550 (j := (2 : Int32)) hin550 (g := (mkF m 591 #[.val (.int p1), .val (.int p2), .val (.int p3), .val (.int p4), .val (.int p5), .val (.int z22), .val (.int z28), .val (.int z30), .val (.int z32), .val (.int z41), .val (.ref b50), .val (.ref b315), .unset, .unset, .unset, .unset] [(.int u2), (.int 2), (.ref b513), (.ref b513)])) rfl rfl (hb hby at_591)
  have V550 : Arv Z h550 b513 k513 .char (16 : Int32) [(.int (nar .char u0)), (.int (nar .char u1)), (.int (nar .char u2)), (.int 0), (.int 0), (.int 0), (.int 0), (.int 0), (.int 0), (.int 0), (.int 0), (.int 0), (.int 0), (.int 0), (.int 0), (.int 0)] (.int (0 : Int32)) := Arv.set Ar550 q550 S550 N550 H550 G550 (fits_nar_char _) W550 2 rfl (Nat.le_of_ble_eq_true rfl)
  have CR551 := CR539.trans (CHr.wr W550 (Safe.arv hZ.alike V538 (by decide)) CR539.1)
  have F552 := F540.other W550 ne_b50_b513
  have F553 := own_Sc.wrC F541 W550 V538 (hw _ (List.mem_of_getElem? (i := 7) rfl))
  have F554 := F542.other W550 ne_b315_b513
  have Z555 : n0 ≤ h550.size := by rw [W550.size]; exact Z543
  have kS556 := Nat.le_trans kS544 (Nat.le_of_eq W550.size.symm)
  have NF550 := Fr.snoc X550 NF538 g_b513
  have K557 := K545.wr W550 (Or.inr sz_b513)
  have P558 : own_Pr p.tables e below S0 T550 (mkF m 592 #[.val (.int p1), .val (.int p2), .val (.int p3), .val (.int p4), .val (.int p5), .val (.int z22), .val (.int z28), .val (.int z30), .val (.int z32), .val (.int z41), .val (.ref b50), .val (.ref b315), .unset, .unset, .unset, .unset] [(.ref b513)]) := fun t k => P549 t (st550 _ k)
  have P559 : own_Pr p.tables e below S0 T550 (mkF m 597 #[.val (.int p1), .val (.int p2), .val (.int p3), .val (.int p4), .val (.int p5), .val (.int z22), .val (.int z28), .val (.int z30), .val (.int z32), .val (.int z41), .val (.ref b50), .val (.ref b315), .unset, .unset, .unset, .unset] [(.int 3), (.ref b50), (.int 3), (.ref b513), (.ref b513)]) := fun t k => P558 t (by
    refine XS.dup X550.here hx rfl (hb hby at_592) rfl rfl ?_
    refine XS.iconst X550.here hx rfl (hb hby at_593) ?_
    refine XS.aload X550.here hx rfl (hb hby at_594) rfl rfl ?_
    refine XS.iconst X550.here hx rfl (hb hby at_596) ?_
    exact k)
  obtain ⟨cl560, Ar560, q560, S560, N560, H560, G560⟩ := id F552
  have hin560 : ¬ ((3 : Int32) < 0 ∨ cl560.slots.size ≤ ((3 : Int32)).toNatClampNeg) := inb_of S560 ⟨by decide, by decide⟩
  have P561 : own_Pr p.tables e below S0 T550 (mkF m 598 #[.val (.int p1), .val (.int p2), .val (.int p3), .val (.int p4), .val (.int p5), .val (.int z22), .val (.int z28), .val (.int z30), .val (.int z32), .val (.int z41), .val (.ref b50), .val (.ref b315), .unset, .unset, .unset, .unset] [(.int z164v), (.int 3), (.ref b513), (.ref b513)]) := fun t k => P559 t (by
    refine X550.caload hx (j := (3 : Int32)) (v := (.int z164v)) (by rw [e550]; exact Ar560.1) (State.isArrayOf_alike hZ.alike Ar560.2.1) Ar560.2.2 hin560 (H560.at hin560 rfl) (g := (mkF m 597 #[.val (.int p1), .val (.int p2), .val (.int p3), .val (.int p4), .val (.int p5), .val (.int z22), .val (.int z28), .val (.int z30), .val (.int z32), .val (.int z41), .val (.ref b50), .val (.ref b315), .unset, .unset, .unset, .unset] [(.int 3), (.ref b50), (.int 3), (.ref b513), (.ref b513)])) rfl rfl (hb hby at_597) _ ?_
    exact k)
  obtain ⟨cl562, Ar562, q562, S562, N562, H562, G562⟩ := id V550
  have hin562 : ¬ ((3 : Int32) < 0 ∨ cl562.slots.size ≤ ((3 : Int32)).toNatClampNeg) := inb_of S562 ⟨by decide, by decide⟩
  obtain ⟨T562, h562, X562, e562, W562, st562⟩ := stC X550 hx hZ e550 Ar562 (j := (3 : Int32)) hin562 (g := (mkF m 598 #[.val (.int p1), .val (.int p2), .val (.int p3), .val (.int p4), .val (.int p5), .val (.int z22), .val (.int z28), .val (.int z30), .val (.int z32), .val (.int z41), .val (.ref b50), .val (.ref b315), .unset, .unset, .unset, .unset] [(.int z164v), (.int 3), (.ref b513), (.ref b513)])) rfl rfl (hb hby at_598)
  have V562 : Arv Z h562 b513 k513 .char (16 : Int32) [(.int (nar .char u0)), (.int (nar .char u1)), (.int (nar .char u2)), (.int (nar .char z164v)), (.int 0), (.int 0), (.int 0), (.int 0), (.int 0), (.int 0), (.int 0), (.int 0), (.int 0), (.int 0), (.int 0), (.int 0)] (.int (0 : Int32)) := Arv.set Ar562 q562 S562 N562 H562 G562 (fits_nar_char _) W562 3 rfl (Nat.le_of_ble_eq_true rfl)
  have CR563 := CR551.trans (CHr.wr W562 (Safe.arv hZ.alike V550 (by decide)) CR551.1)
  have F564 := F552.other W562 ne_b50_b513
  have F565 := own_Sc.wrC F553 W562 V550 (hw _ (List.mem_of_getElem? (i := 7) rfl))
  have F566 := F554.other W562 ne_b315_b513
  have Z567 : n0 ≤ h562.size := by rw [W562.size]; exact Z555
  have kS568 := Nat.le_trans kS556 (Nat.le_of_eq W562.size.symm)
  have NF562 := Fr.snoc X562 NF550 g_b513
  have K569 := K557.wr W562 (Or.inr sz_b513)
  have P570 : own_Pr p.tables e below S0 T562 (mkF m 599 #[.val (.int p1), .val (.int p2), .val (.int p3), .val (.int p4), .val (.int p5), .val (.int z22), .val (.int z28), .val (.int z30), .val (.int z32), .val (.int z41), .val (.ref b50), .val (.ref b315), .unset, .unset, .unset, .unset] [(.ref b513)]) := fun t k => P561 t (st562 _ k)
  have P571 : own_Pr p.tables e below S0 T562 (mkF m 604 #[.val (.int p1), .val (.int p2), .val (.int p3), .val (.int p4), .val (.int p5), .val (.int z22), .val (.int z28), .val (.int z30), .val (.int z32), .val (.int z41), .val (.ref b50), .val (.ref b315), .unset, .unset, .unset, .unset] [(.int 4), (.ref b50), (.int 4), (.ref b513), (.ref b513)]) := fun t k => P570 t (by
    refine XS.dup X562.here hx rfl (hb hby at_599) rfl rfl ?_
    refine XS.iconst X562.here hx rfl (hb hby at_600) ?_
    refine XS.aload X562.here hx rfl (hb hby at_601) rfl rfl ?_
    refine XS.iconst X562.here hx rfl (hb hby at_603) ?_
    exact k)
  obtain ⟨cl572, Ar572, q572, S572, N572, H572, G572⟩ := id F564
  have hin572 : ¬ ((4 : Int32) < 0 ∨ cl572.slots.size ≤ ((4 : Int32)).toNatClampNeg) := inb_of S572 ⟨by decide, by decide⟩
  have P573 : own_Pr p.tables e below S0 T562 (mkF m 605 #[.val (.int p1), .val (.int p2), .val (.int p3), .val (.int p4), .val (.int p5), .val (.int z22), .val (.int z28), .val (.int z30), .val (.int z32), .val (.int z41), .val (.ref b50), .val (.ref b315), .unset, .unset, .unset, .unset] [(.int z174v), (.int 4), (.ref b513), (.ref b513)]) := fun t k => P571 t (by
    refine X562.caload hx (j := (4 : Int32)) (v := (.int z174v)) (by rw [e562]; exact Ar572.1) (State.isArrayOf_alike hZ.alike Ar572.2.1) Ar572.2.2 hin572 (H572.at hin572 rfl) (g := (mkF m 604 #[.val (.int p1), .val (.int p2), .val (.int p3), .val (.int p4), .val (.int p5), .val (.int z22), .val (.int z28), .val (.int z30), .val (.int z32), .val (.int z41), .val (.ref b50), .val (.ref b315), .unset, .unset, .unset, .unset] [(.int 4), (.ref b50), (.int 4), (.ref b513), (.ref b513)])) rfl rfl (hb hby at_604) _ ?_
    exact k)
  obtain ⟨cl574, Ar574, q574, S574, N574, H574, G574⟩ := id V562
  have hin574 : ¬ ((4 : Int32) < 0 ∨ cl574.slots.size ≤ ((4 : Int32)).toNatClampNeg) := inb_of S574 ⟨by decide, by decide⟩
  obtain ⟨T574, h574, X574, e574, W574, st574⟩ := stC X562 hx hZ e562 Ar574 (j := (4 : Int32)) hin574 (g := (mkF m 605 #[.val (.int p1), .val (.int p2), .val (.int p3), .val (.int p4), .val (.int p5), .val (.int z22), .val (.int z28), .val (.int z30), .val (.int z32), .val (.int z41), .val (.ref b50), .val (.ref b315), .unset, .unset, .unset, .unset] [(.int z174v), (.int 4), (.ref b513), (.ref b513)])) rfl rfl (hb hby at_605)
  have V574 : Arv Z h574 b513 k513 .char (16 : Int32) [(.int (nar .char u0)), (.int (nar .char u1)), (.int (nar .char u2)), (.int (nar .char z164v)), (.int (nar .char z174v)), (.int 0), (.int 0), (.int 0), (.int 0), (.int 0), (.int 0), (.int 0), (.int 0), (.int 0), (.int 0), (.int 0)] (.int (0 : Int32)) := Arv.set Ar574 q574 S574 N574 H574 G574 (fits_nar_char _) W574 4 rfl (Nat.le_of_ble_eq_true rfl)
  have CR575 := CR563.trans (CHr.wr W574 (Safe.arv hZ.alike V562 (by decide)) CR563.1)
  have F576 := F564.other W574 ne_b50_b513
  have F577 := own_Sc.wrC F565 W574 V562 (hw _ (List.mem_of_getElem? (i := 7) rfl))
  have F578 := F566.other W574 ne_b315_b513
  have Z579 : n0 ≤ h574.size := by rw [W574.size]; exact Z567
  have kS580 := Nat.le_trans kS568 (Nat.le_of_eq W574.size.symm)
  have NF574 := Fr.snoc X574 NF562 g_b513
  have K581 := K569.wr W574 (Or.inr sz_b513)
  have P582 : own_Pr p.tables e below S0 T574 (mkF m 606 #[.val (.int p1), .val (.int p2), .val (.int p3), .val (.int p4), .val (.int p5), .val (.int z22), .val (.int z28), .val (.int z30), .val (.int z32), .val (.int z41), .val (.ref b50), .val (.ref b315), .unset, .unset, .unset, .unset] [(.ref b513)]) := fun t k => P573 t (st574 _ k)
  have P583 : own_Pr p.tables e below S0 T574 (mkF m 611 #[.val (.int p1), .val (.int p2), .val (.int p3), .val (.int p4), .val (.int p5), .val (.int z22), .val (.int z28), .val (.int z30), .val (.int z32), .val (.int z41), .val (.ref b50), .val (.ref b315), .unset, .unset, .unset, .unset] [(.int 5), (.ref b50), (.int 5), (.ref b513), (.ref b513)]) := fun t k => P582 t (by
    refine XS.dup X574.here hx rfl (hb hby at_606) rfl rfl ?_
    refine XS.iconst X574.here hx rfl (hb hby at_607) ?_
    refine XS.aload X574.here hx rfl (hb hby at_608) rfl rfl ?_
    refine XS.iconst X574.here hx rfl (hb hby at_610) ?_
    exact k)
  obtain ⟨cl584, Ar584, q584, S584, N584, H584, G584⟩ := id F576
  have hin584 : ¬ ((5 : Int32) < 0 ∨ cl584.slots.size ≤ ((5 : Int32)).toNatClampNeg) := inb_of S584 ⟨by decide, by decide⟩
  have P585 : own_Pr p.tables e below S0 T574 (mkF m 612 #[.val (.int p1), .val (.int p2), .val (.int p3), .val (.int p4), .val (.int p5), .val (.int z22), .val (.int z28), .val (.int z30), .val (.int z32), .val (.int z41), .val (.ref b50), .val (.ref b315), .unset, .unset, .unset, .unset] [(.int z184v), (.int 5), (.ref b513), (.ref b513)]) := fun t k => P583 t (by
    refine X574.caload hx (j := (5 : Int32)) (v := (.int z184v)) (by rw [e574]; exact Ar584.1) (State.isArrayOf_alike hZ.alike Ar584.2.1) Ar584.2.2 hin584 (H584.at hin584 rfl) (g := (mkF m 611 #[.val (.int p1), .val (.int p2), .val (.int p3), .val (.int p4), .val (.int p5), .val (.int z22), .val (.int z28), .val (.int z30), .val (.int z32), .val (.int z41), .val (.ref b50), .val (.ref b315), .unset, .unset, .unset, .unset] [(.int 5), (.ref b50), (.int 5), (.ref b513), (.ref b513)])) rfl rfl (hb hby at_611) _ ?_
    exact k)
  obtain ⟨cl586, Ar586, q586, S586, N586, H586, G586⟩ := id V574
  have hin586 : ¬ ((5 : Int32) < 0 ∨ cl586.slots.size ≤ ((5 : Int32)).toNatClampNeg) := inb_of S586 ⟨by decide, by decide⟩
  obtain ⟨T586, h586, X586, e586, W586, st586⟩ := stC X574 hx hZ e574 Ar586 (j := (5 : Int32)) hin586 (g := (mkF m 612 #[.val (.int p1), .val (.int p2), .val (.int p3), .val (.int p4), .val (.int p5), .val (.int z22), .val (.int z28), .val (.int z30), .val (.int z32), .val (.int z41), .val (.ref b50), .val (.ref b315), .unset, .unset, .unset, .unset] [(.int z184v), (.int 5), (.ref b513), (.ref b513)])) rfl rfl (hb hby at_612)
  have V586 : Arv Z h586 b513 k513 .char (16 : Int32) [(.int (nar .char u0)), (.int (nar .char u1)), (.int (nar .char u2)), (.int (nar .char z164v)), (.int (nar .char z174v)), (.int (nar .char z184v)), (.int 0), (.int 0), (.int 0), (.int 0), (.int 0), (.int 0), (.int 0), (.int 0), (.int 0), (.int 0)] (.int (0 : Int32)) := Arv.set Ar586 q586 S586 N586 H586 G586 (fits_nar_char _) W586 5 rfl (Nat.le_of_ble_eq_true rfl)
  have CR587 := CR575.trans (CHr.wr W586 (Safe.arv hZ.alike V574 (by decide)) CR575.1)
  have F588 := F576.other W586 ne_b50_b513
  have F589 := own_Sc.wrC F577 W586 V574 (hw _ (List.mem_of_getElem? (i := 7) rfl))
  have F590 := F578.other W586 ne_b315_b513
  have Z591 : n0 ≤ h586.size := by rw [W586.size]; exact Z579
  have kS592 := Nat.le_trans kS580 (Nat.le_of_eq W586.size.symm)
  have NF586 := Fr.snoc X586 NF574 g_b513
  have K593 := K581.wr W586 (Or.inr sz_b513)
  have P594 : own_Pr p.tables e below S0 T586 (mkF m 613 #[.val (.int p1), .val (.int p2), .val (.int p3), .val (.int p4), .val (.int p5), .val (.int z22), .val (.int z28), .val (.int z30), .val (.int z32), .val (.int z41), .val (.ref b50), .val (.ref b315), .unset, .unset, .unset, .unset] [(.ref b513)]) := fun t k => P585 t (st586 _ k)
  have P595 : own_Pr p.tables e below S0 T586 (mkF m 620 #[.val (.int p1), .val (.int p2), .val (.int p3), .val (.int p4), .val (.int p5), .val (.int z22), .val (.int z28), .val (.int z30), .val (.int z32), .val (.int z41), .val (.ref b50), .val (.ref b315), .unset, .unset, .unset, .unset] [(.int 6), (.ref b50), (.int 6), (.ref b513), (.ref b513)]) := fun t k => P594 t (by
    refine XS.dup X586.here hx rfl (hb hby at_613) rfl rfl ?_
    refine XS.bipush X586.here hx rfl (hb hby at_614) ?_
    refine XS.aload X586.here hx rfl (hb hby at_616) rfl rfl ?_
    refine XS.bipush X586.here hx rfl (hb hby at_618) ?_
    exact k)
  obtain ⟨cl596, Ar596, q596, S596, N596, H596, G596⟩ := id F588
  have hin596 : ¬ ((6 : Int32) < 0 ∨ cl596.slots.size ≤ ((6 : Int32)).toNatClampNeg) := inb_of S596 ⟨by decide, by decide⟩
  have P597 : own_Pr p.tables e below S0 T586 (mkF m 621 #[.val (.int p1), .val (.int p2), .val (.int p3), .val (.int p4), .val (.int p5), .val (.int z22), .val (.int z28), .val (.int z30), .val (.int z32), .val (.int z41), .val (.ref b50), .val (.ref b315), .unset, .unset, .unset, .unset] [(.int z194v), (.int 6), (.ref b513), (.ref b513)]) := fun t k => P595 t (by
    refine X586.caload hx (j := (6 : Int32)) (v := (.int z194v)) (by rw [e586]; exact Ar596.1) (State.isArrayOf_alike hZ.alike Ar596.2.1) Ar596.2.2 hin596 (H596.at hin596 rfl) (g := (mkF m 620 #[.val (.int p1), .val (.int p2), .val (.int p3), .val (.int p4), .val (.int p5), .val (.int z22), .val (.int z28), .val (.int z30), .val (.int z32), .val (.int z41), .val (.ref b50), .val (.ref b315), .unset, .unset, .unset, .unset] [(.int 6), (.ref b50), (.int 6), (.ref b513), (.ref b513)])) rfl rfl (hb hby at_620) _ ?_
    exact k)
  obtain ⟨cl598, Ar598, q598, S598, N598, H598, G598⟩ := id V586
  have hin598 : ¬ ((6 : Int32) < 0 ∨ cl598.slots.size ≤ ((6 : Int32)).toNatClampNeg) := inb_of S598 ⟨by decide, by decide⟩
  obtain ⟨T598, h598, X598, e598, W598, st598⟩ := stC X586 hx hZ e586 Ar598 (j := (6 : Int32)) hin598 (g := (mkF m 621 #[.val (.int p1), .val (.int p2), .val (.int p3), .val (.int p4), .val (.int p5), .val (.int z22), .val (.int z28), .val (.int z30), .val (.int z32), .val (.int z41), .val (.ref b50), .val (.ref b315), .unset, .unset, .unset, .unset] [(.int z194v), (.int 6), (.ref b513), (.ref b513)])) rfl rfl (hb hby at_621)
  have V598 : Arv Z h598 b513 k513 .char (16 : Int32) [(.int (nar .char u0)), (.int (nar .char u1)), (.int (nar .char u2)), (.int (nar .char z164v)), (.int (nar .char z174v)), (.int (nar .char z184v)), (.int (nar .char z194v)), (.int 0), (.int 0), (.int 0), (.int 0), (.int 0), (.int 0), (.int 0), (.int 0), (.int 0)] (.int (0 : Int32)) := Arv.set Ar598 q598 S598 N598 H598 G598 (fits_nar_char _) W598 6 rfl (Nat.le_of_ble_eq_true rfl)
  have CR599 := CR587.trans (CHr.wr W598 (Safe.arv hZ.alike V586 (by decide)) CR587.1)
  have F600 := F588.other W598 ne_b50_b513
  have F601 := own_Sc.wrC F589 W598 V586 (hw _ (List.mem_of_getElem? (i := 7) rfl))
  have F602 := F590.other W598 ne_b315_b513
  have Z603 : n0 ≤ h598.size := by rw [W598.size]; exact Z591
  have kS604 := Nat.le_trans kS592 (Nat.le_of_eq W598.size.symm)
  have NF598 := Fr.snoc X598 NF586 g_b513
  have K605 := K593.wr W598 (Or.inr sz_b513)
  have P606 : own_Pr p.tables e below S0 T598 (mkF m 622 #[.val (.int p1), .val (.int p2), .val (.int p3), .val (.int p4), .val (.int p5), .val (.int z22), .val (.int z28), .val (.int z30), .val (.int z32), .val (.int z41), .val (.ref b50), .val (.ref b315), .unset, .unset, .unset, .unset] [(.ref b513)]) := fun t k => P597 t (st598 _ k)
  have P607 : own_Pr p.tables e below S0 T598 (mkF m 629 #[.val (.int p1), .val (.int p2), .val (.int p3), .val (.int p4), .val (.int p5), .val (.int z22), .val (.int z28), .val (.int z30), .val (.int z32), .val (.int z41), .val (.ref b50), .val (.ref b315), .unset, .unset, .unset, .unset] [(.int 7), (.ref b50), (.int 7), (.ref b513), (.ref b513)]) := fun t k => P606 t (by
    refine XS.dup X598.here hx rfl (hb hby at_622) rfl rfl ?_
    refine XS.bipush X598.here hx rfl (hb hby at_623) ?_
    refine XS.aload X598.here hx rfl (hb hby at_625) rfl rfl ?_
    refine XS.bipush X598.here hx rfl (hb hby at_627) ?_
    exact k)
  obtain ⟨cl608, Ar608, q608, S608, N608, H608, G608⟩ := id F600
  have hin608 : ¬ ((7 : Int32) < 0 ∨ cl608.slots.size ≤ ((7 : Int32)).toNatClampNeg) := inb_of S608 ⟨by decide, by decide⟩
  have P609 : own_Pr p.tables e below S0 T598 (mkF m 630 #[.val (.int p1), .val (.int p2), .val (.int p3), .val (.int p4), .val (.int p5), .val (.int z22), .val (.int z28), .val (.int z30), .val (.int z32), .val (.int z41), .val (.ref b50), .val (.ref b315), .unset, .unset, .unset, .unset] [(.int z204v), (.int 7), (.ref b513), (.ref b513)]) := fun t k => P607 t (by
    refine X598.caload hx (j := (7 : Int32)) (v := (.int z204v)) (by rw [e598]; exact Ar608.1) (State.isArrayOf_alike hZ.alike Ar608.2.1) Ar608.2.2 hin608 (H608.at hin608 rfl) (g := (mkF m 629 #[.val (.int p1), .val (.int p2), .val (.int p3), .val (.int p4), .val (.int p5), .val (.int z22), .val (.int z28), .val (.int z30), .val (.int z32), .val (.int z41), .val (.ref b50), .val (.ref b315), .unset, .unset, .unset, .unset] [(.int 7), (.ref b50), (.int 7), (.ref b513), (.ref b513)])) rfl rfl (hb hby at_629) _ ?_
    exact k)
  obtain ⟨cl610, Ar610, q610, S610, N610, H610, G610⟩ := id V598
  have hin610 : ¬ ((7 : Int32) < 0 ∨ cl610.slots.size ≤ ((7 : Int32)).toNatClampNeg) := inb_of S610 ⟨by decide, by decide⟩
  obtain ⟨T610, h610, X610, e610, W610, st610⟩ := stC X598 hx hZ e598 Ar610 (j := (7 : Int32)) hin610 (g := (mkF m 630 #[.val (.int p1), .val (.int p2), .val (.int p3), .val (.int p4), .val (.int p5), .val (.int z22), .val (.int z28), .val (.int z30), .val (.int z32), .val (.int z41), .val (.ref b50), .val (.ref b315), .unset, .unset, .unset, .unset] [(.int z204v), (.int 7), (.ref b513), (.ref b513)])) rfl rfl (hb hby at_630)
  have V610 : Arv Z h610 b513 k513 .char (16 : Int32) [(.int (nar .char u0)), (.int (nar .char u1)), (.int (nar .char u2)), (.int (nar .char z164v)), (.int (nar .char z174v)), (.int (nar .char z184v)), (.int (nar .char z194v)), (.int (nar .char z204v)), (.int 0), (.int 0), (.int 0), (.int 0), (.int 0), (.int 0), (.int 0), (.int 0)] (.int (0 : Int32)) := Arv.set Ar610 q610 S610 N610 H610 G610 (fits_nar_char _) W610 7 rfl (Nat.le_of_ble_eq_true rfl)
  have CR611 := CR599.trans (CHr.wr W610 (Safe.arv hZ.alike V598 (by decide)) CR599.1)
  have F612 := F600.other W610 ne_b50_b513
  have F613 := own_Sc.wrC F601 W610 V598 (hw _ (List.mem_of_getElem? (i := 7) rfl))
  have F614 := F602.other W610 ne_b315_b513
  have Z615 : n0 ≤ h610.size := by rw [W610.size]; exact Z603
  have kS616 := Nat.le_trans kS604 (Nat.le_of_eq W610.size.symm)
  have NF610 := Fr.snoc X610 NF598 g_b513
  have K617 := K605.wr W610 (Or.inr sz_b513)
  have P618 : own_Pr p.tables e below S0 T610 (mkF m 631 #[.val (.int p1), .val (.int p2), .val (.int p3), .val (.int p4), .val (.int p5), .val (.int z22), .val (.int z28), .val (.int z30), .val (.int z32), .val (.int z41), .val (.ref b50), .val (.ref b315), .unset, .unset, .unset, .unset] [(.ref b513)]) := fun t k => P609 t (st610 _ k)
  have P619 : own_Pr p.tables e below S0 T610 (mkF m 638 #[.val (.int p1), .val (.int p2), .val (.int p3), .val (.int p4), .val (.int p5), .val (.int z22), .val (.int z28), .val (.int z30), .val (.int z32), .val (.int z41), .val (.ref b50), .val (.ref b315), .unset, .unset, .unset, .unset] [(.int 8), (.ref b50), (.int 8), (.ref b513), (.ref b513)]) := fun t k => P618 t (by
    refine XS.dup X610.here hx rfl (hb hby at_631) rfl rfl ?_
    refine XS.bipush X610.here hx rfl (hb hby at_632) ?_
    refine XS.aload X610.here hx rfl (hb hby at_634) rfl rfl ?_
    refine XS.bipush X610.here hx rfl (hb hby at_636) ?_
    exact k)
  obtain ⟨cl620, Ar620, q620, S620, N620, H620, G620⟩ := id F612
  have hin620 : ¬ ((8 : Int32) < 0 ∨ cl620.slots.size ≤ ((8 : Int32)).toNatClampNeg) := inb_of S620 ⟨by decide, by decide⟩
  have P621 : own_Pr p.tables e below S0 T610 (mkF m 639 #[.val (.int p1), .val (.int p2), .val (.int p3), .val (.int p4), .val (.int p5), .val (.int z22), .val (.int z28), .val (.int z30), .val (.int z32), .val (.int z41), .val (.ref b50), .val (.ref b315), .unset, .unset, .unset, .unset] [(.int z214v), (.int 8), (.ref b513), (.ref b513)]) := fun t k => P619 t (by
    refine X610.caload hx (j := (8 : Int32)) (v := (.int z214v)) (by rw [e610]; exact Ar620.1) (State.isArrayOf_alike hZ.alike Ar620.2.1) Ar620.2.2 hin620 (H620.at hin620 rfl) (g := (mkF m 638 #[.val (.int p1), .val (.int p2), .val (.int p3), .val (.int p4), .val (.int p5), .val (.int z22), .val (.int z28), .val (.int z30), .val (.int z32), .val (.int z41), .val (.ref b50), .val (.ref b315), .unset, .unset, .unset, .unset] [(.int 8), (.ref b50), (.int 8), (.ref b513), (.ref b513)])) rfl rfl (hb hby at_638) _ ?_
    exact k)
  obtain ⟨cl622, Ar622, q622, S622, N622, H622, G622⟩ := id V610
  have hin622 : ¬ ((8 : Int32) < 0 ∨ cl622.slots.size ≤ ((8 : Int32)).toNatClampNeg) := inb_of S622 ⟨by decide, by decide⟩
  obtain ⟨T622, h622, X622, e622, W622, st622⟩ := stC X610 hx hZ e610 Ar622 (j := (8 : Int32)) hin622 (g := (mkF m 639 #[.val (.int p1), .val (.int p2), .val (.int p3), .val (.int p4), .val (.int p5), .val (.int z22), .val (.int z28), .val (.int z30), .val (.int z32), .val (.int z41), .val (.ref b50), .val (.ref b315), .unset, .unset, .unset, .unset] [(.int z214v), (.int 8), (.ref b513), (.ref b513)])) rfl rfl (hb hby at_639)
  have V622 : Arv Z h622 b513 k513 .char (16 : Int32) [(.int (nar .char u0)), (.int (nar .char u1)), (.int (nar .char u2)), (.int (nar .char z164v)), (.int (nar .char z174v)), (.int (nar .char z184v)), (.int (nar .char z194v)), (.int (nar .char z204v)), (.int (nar .char z214v)), (.int 0), (.int 0), (.int 0), (.int 0), (.int 0), (.int 0), (.int 0)] (.int (0 : Int32)) := Arv.set Ar622 q622 S622 N622 H622 G622 (fits_nar_char _) W622 8 rfl (Nat.le_of_ble_eq_true rfl)
  have CR623 := CR611.trans (CHr.wr W622 (Safe.arv hZ.alike V610 (by decide)) CR611.1)
  have F624 := F612.other W622 ne_b50_b513
  have F625 := own_Sc.wrC F613 W622 V610 (hw _ (List.mem_of_getElem? (i := 7) rfl))
  have F626 := F614.other W622 ne_b315_b513
  have Z627 : n0 ≤ h622.size := by rw [W622.size]; exact Z615
  have kS628 := Nat.le_trans kS616 (Nat.le_of_eq W622.size.symm)
  have NF622 := Fr.snoc X622 NF610 g_b513
  have K629 := K617.wr W622 (Or.inr sz_b513)
  have P630 : own_Pr p.tables e below S0 T622 (mkF m 640 #[.val (.int p1), .val (.int p2), .val (.int p3), .val (.int p4), .val (.int p5), .val (.int z22), .val (.int z28), .val (.int z30), .val (.int z32), .val (.int z41), .val (.ref b50), .val (.ref b315), .unset, .unset, .unset, .unset] [(.ref b513)]) := fun t k => P621 t (st622 _ k)
  have P631 : own_Pr p.tables e below S0 T622 (mkF m 647 #[.val (.int p1), .val (.int p2), .val (.int p3), .val (.int p4), .val (.int p5), .val (.int z22), .val (.int z28), .val (.int z30), .val (.int z32), .val (.int z41), .val (.ref b50), .val (.ref b315), .unset, .unset, .unset, .unset] [(.int 9), (.ref b50), (.int 9), (.ref b513), (.ref b513)]) := fun t k => P630 t (by
    refine XS.dup X622.here hx rfl (hb hby at_640) rfl rfl ?_
    refine XS.bipush X622.here hx rfl (hb hby at_641) ?_
    refine XS.aload X622.here hx rfl (hb hby at_643) rfl rfl ?_
    refine XS.bipush X622.here hx rfl (hb hby at_645) ?_
    exact k)
  obtain ⟨cl632, Ar632, q632, S632, N632, H632, G632⟩ := id F624
  have hin632 : ¬ ((9 : Int32) < 0 ∨ cl632.slots.size ≤ ((9 : Int32)).toNatClampNeg) := inb_of S632 ⟨by decide, by decide⟩
  have P633 : own_Pr p.tables e below S0 T622 (mkF m 648 #[.val (.int p1), .val (.int p2), .val (.int p3), .val (.int p4), .val (.int p5), .val (.int z22), .val (.int z28), .val (.int z30), .val (.int z32), .val (.int z41), .val (.ref b50), .val (.ref b315), .unset, .unset, .unset, .unset] [(.int z224v), (.int 9), (.ref b513), (.ref b513)]) := fun t k => P631 t (by
    refine X622.caload hx (j := (9 : Int32)) (v := (.int z224v)) (by rw [e622]; exact Ar632.1) (State.isArrayOf_alike hZ.alike Ar632.2.1) Ar632.2.2 hin632 (H632.at hin632 rfl) (g := (mkF m 647 #[.val (.int p1), .val (.int p2), .val (.int p3), .val (.int p4), .val (.int p5), .val (.int z22), .val (.int z28), .val (.int z30), .val (.int z32), .val (.int z41), .val (.ref b50), .val (.ref b315), .unset, .unset, .unset, .unset] [(.int 9), (.ref b50), (.int 9), (.ref b513), (.ref b513)])) rfl rfl (hb hby at_647) _ ?_
    exact k)
  obtain ⟨cl634, Ar634, q634, S634, N634, H634, G634⟩ := id V622
  have hin634 : ¬ ((9 : Int32) < 0 ∨ cl634.slots.size ≤ ((9 : Int32)).toNatClampNeg) := inb_of S634 ⟨by decide, by decide⟩
  obtain ⟨T634, h634, X634, e634, W634, st634⟩ := stC X622 hx hZ e622 Ar634 (j := (9 : Int32)) hin634 (g := (mkF m 648 #[.val (.int p1), .val (.int p2), .val (.int p3), .val (.int p4), .val (.int p5), .val (.int z22), .val (.int z28), .val (.int z30), .val (.int z32), .val (.int z41), .val (.ref b50), .val (.ref b315), .unset, .unset, .unset, .unset] [(.int z224v), (.int 9), (.ref b513), (.ref b513)])) rfl rfl (hb hby at_648)
  have V634 : Arv Z h634 b513 k513 .char (16 : Int32) [(.int (nar .char u0)), (.int (nar .char u1)), (.int (nar .char u2)), (.int (nar .char z164v)), (.int (nar .char z174v)), (.int (nar .char z184v)), (.int (nar .char z194v)), (.int (nar .char z204v)), (.int (nar .char z214v)), (.int (nar .char z224v)), (.int 0), (.int 0), (.int 0), (.int 0), (.int 0), (.int 0)] (.int (0 : Int32)) := Arv.set Ar634 q634 S634 N634 H634 G634 (fits_nar_char _) W634 9 rfl (Nat.le_of_ble_eq_true rfl)
  have CR635 := CR623.trans (CHr.wr W634 (Safe.arv hZ.alike V622 (by decide)) CR623.1)
  have F636 := F624.other W634 ne_b50_b513
  have F637 := own_Sc.wrC F625 W634 V622 (hw _ (List.mem_of_getElem? (i := 7) rfl))
  have F638 := F626.other W634 ne_b315_b513
  have Z639 : n0 ≤ h634.size := by rw [W634.size]; exact Z627
  have kS640 := Nat.le_trans kS628 (Nat.le_of_eq W634.size.symm)
  have NF634 := Fr.snoc X634 NF622 g_b513
  have K641 := K629.wr W634 (Or.inr sz_b513)
  have P642 : own_Pr p.tables e below S0 T634 (mkF m 649 #[.val (.int p1), .val (.int p2), .val (.int p3), .val (.int p4), .val (.int p5), .val (.int z22), .val (.int z28), .val (.int z30), .val (.int z32), .val (.int z41), .val (.ref b50), .val (.ref b315), .unset, .unset, .unset, .unset] [(.ref b513)]) := fun t k => P633 t (st634 _ k)
  have P643 : own_Pr p.tables e below S0 T634 (mkF m 656 #[.val (.int p1), .val (.int p2), .val (.int p3), .val (.int p4), .val (.int p5), .val (.int z22), .val (.int z28), .val (.int z30), .val (.int z32), .val (.int z41), .val (.ref b50), .val (.ref b315), .unset, .unset, .unset, .unset] [(.int 10), (.ref b50), (.int 10), (.ref b513), (.ref b513)]) := fun t k => P642 t (by
    refine XS.dup X634.here hx rfl (hb hby at_649) rfl rfl ?_
    refine XS.bipush X634.here hx rfl (hb hby at_650) ?_
    refine XS.aload X634.here hx rfl (hb hby at_652) rfl rfl ?_
    refine XS.bipush X634.here hx rfl (hb hby at_654) ?_
    exact k)
  obtain ⟨cl644, Ar644, q644, S644, N644, H644, G644⟩ := id F636
  have hin644 : ¬ ((10 : Int32) < 0 ∨ cl644.slots.size ≤ ((10 : Int32)).toNatClampNeg) := inb_of S644 ⟨by decide, by decide⟩
  have P645 : own_Pr p.tables e below S0 T634 (mkF m 657 #[.val (.int p1), .val (.int p2), .val (.int p3), .val (.int p4), .val (.int p5), .val (.int z22), .val (.int z28), .val (.int z30), .val (.int z32), .val (.int z41), .val (.ref b50), .val (.ref b315), .unset, .unset, .unset, .unset] [(.int z234v), (.int 10), (.ref b513), (.ref b513)]) := fun t k => P643 t (by
    refine X634.caload hx (j := (10 : Int32)) (v := (.int z234v)) (by rw [e634]; exact Ar644.1) (State.isArrayOf_alike hZ.alike Ar644.2.1) Ar644.2.2 hin644 (H644.at hin644 rfl) (g := (mkF m 656 #[.val (.int p1), .val (.int p2), .val (.int p3), .val (.int p4), .val (.int p5), .val (.int z22), .val (.int z28), .val (.int z30), .val (.int z32), .val (.int z41), .val (.ref b50), .val (.ref b315), .unset, .unset, .unset, .unset] [(.int 10), (.ref b50), (.int 10), (.ref b513), (.ref b513)])) rfl rfl (hb hby at_656) _ ?_
    exact k)
  obtain ⟨cl646, Ar646, q646, S646, N646, H646, G646⟩ := id V634
  have hin646 : ¬ ((10 : Int32) < 0 ∨ cl646.slots.size ≤ ((10 : Int32)).toNatClampNeg) := inb_of S646 ⟨by decide, by decide⟩
  obtain ⟨T646, h646, X646, e646, W646, st646⟩ := stC X634 hx hZ e634 Ar646 (j := (10 : Int32)) hin646 (g := (mkF m 657 #[.val (.int p1), .val (.int p2), .val (.int p3), .val (.int p4), .val (.int p5), .val (.int z22), .val (.int z28), .val (.int z30), .val (.int z32), .val (.int z41), .val (.ref b50), .val (.ref b315), .unset, .unset, .unset, .unset] [(.int z234v), (.int 10), (.ref b513), (.ref b513)])) rfl rfl (hb hby at_657)
  have V646 : Arv Z h646 b513 k513 .char (16 : Int32) [(.int (nar .char u0)), (.int (nar .char u1)), (.int (nar .char u2)), (.int (nar .char z164v)), (.int (nar .char z174v)), (.int (nar .char z184v)), (.int (nar .char z194v)), (.int (nar .char z204v)), (.int (nar .char z214v)), (.int (nar .char z224v)), (.int (nar .char z234v)), (.int 0), (.int 0), (.int 0), (.int 0), (.int 0)] (.int (0 : Int32)) := Arv.set Ar646 q646 S646 N646 H646 G646 (fits_nar_char _) W646 10 rfl (Nat.le_of_ble_eq_true rfl)
  have CR647 := CR635.trans (CHr.wr W646 (Safe.arv hZ.alike V634 (by decide)) CR635.1)
  have F648 := F636.other W646 ne_b50_b513
  have F649 := own_Sc.wrC F637 W646 V634 (hw _ (List.mem_of_getElem? (i := 7) rfl))
  have F650 := F638.other W646 ne_b315_b513
  have Z651 : n0 ≤ h646.size := by rw [W646.size]; exact Z639
  have kS652 := Nat.le_trans kS640 (Nat.le_of_eq W646.size.symm)
  have NF646 := Fr.snoc X646 NF634 g_b513
  have K653 := K641.wr W646 (Or.inr sz_b513)
  have P654 : own_Pr p.tables e below S0 T646 (mkF m 658 #[.val (.int p1), .val (.int p2), .val (.int p3), .val (.int p4), .val (.int p5), .val (.int z22), .val (.int z28), .val (.int z30), .val (.int z32), .val (.int z41), .val (.ref b50), .val (.ref b315), .unset, .unset, .unset, .unset] [(.ref b513)]) := fun t k => P645 t (st646 _ k)
  have P655 : own_Pr p.tables e below S0 T646 (mkF m 665 #[.val (.int p1), .val (.int p2), .val (.int p3), .val (.int p4), .val (.int p5), .val (.int z22), .val (.int z28), .val (.int z30), .val (.int z32), .val (.int z41), .val (.ref b50), .val (.ref b315), .unset, .unset, .unset, .unset] [(.int 11), (.ref b50), (.int 11), (.ref b513), (.ref b513)]) := fun t k => P654 t (by
    refine XS.dup X646.here hx rfl (hb hby at_658) rfl rfl ?_
    refine XS.bipush X646.here hx rfl (hb hby at_659) ?_
    refine XS.aload X646.here hx rfl (hb hby at_661) rfl rfl ?_
    refine XS.bipush X646.here hx rfl (hb hby at_663) ?_
    exact k)
  obtain ⟨cl656, Ar656, q656, S656, N656, H656, G656⟩ := id F648
  have hin656 : ¬ ((11 : Int32) < 0 ∨ cl656.slots.size ≤ ((11 : Int32)).toNatClampNeg) := inb_of S656 ⟨by decide, by decide⟩
  have P657 : own_Pr p.tables e below S0 T646 (mkF m 666 #[.val (.int p1), .val (.int p2), .val (.int p3), .val (.int p4), .val (.int p5), .val (.int z22), .val (.int z28), .val (.int z30), .val (.int z32), .val (.int z41), .val (.ref b50), .val (.ref b315), .unset, .unset, .unset, .unset] [(.int z244v), (.int 11), (.ref b513), (.ref b513)]) := fun t k => P655 t (by
    refine X646.caload hx (j := (11 : Int32)) (v := (.int z244v)) (by rw [e646]; exact Ar656.1) (State.isArrayOf_alike hZ.alike Ar656.2.1) Ar656.2.2 hin656 (H656.at hin656 rfl) (g := (mkF m 665 #[.val (.int p1), .val (.int p2), .val (.int p3), .val (.int p4), .val (.int p5), .val (.int z22), .val (.int z28), .val (.int z30), .val (.int z32), .val (.int z41), .val (.ref b50), .val (.ref b315), .unset, .unset, .unset, .unset] [(.int 11), (.ref b50), (.int 11), (.ref b513), (.ref b513)])) rfl rfl (hb hby at_665) _ ?_
    exact k)
  obtain ⟨cl658, Ar658, q658, S658, N658, H658, G658⟩ := id V646
  have hin658 : ¬ ((11 : Int32) < 0 ∨ cl658.slots.size ≤ ((11 : Int32)).toNatClampNeg) := inb_of S658 ⟨by decide, by decide⟩
  obtain ⟨T658, h658, X658, e658, W658, st658⟩ := stC X646 hx hZ e646 Ar658 (j := (11 : Int32)) hin658 (g := (mkF m 666 #[.val (.int p1), .val (.int p2), .val (.int p3), .val (.int p4), .val (.int p5), .val (.int z22), .val (.int z28), .val (.int z30), .val (.int z32), .val (.int z41), .val (.ref b50), .val (.ref b315), .unset, .unset, .unset, .unset] [(.int z244v), (.int 11), (.ref b513), (.ref b513)])) rfl rfl (hb hby at_666)
  have V658 : Arv Z h658 b513 k513 .char (16 : Int32) [(.int (nar .char u0)), (.int (nar .char u1)), (.int (nar .char u2)), (.int (nar .char z164v)), (.int (nar .char z174v)), (.int (nar .char z184v)), (.int (nar .char z194v)), (.int (nar .char z204v)), (.int (nar .char z214v)), (.int (nar .char z224v)), (.int (nar .char z234v)), (.int (nar .char z244v)), (.int 0), (.int 0), (.int 0), (.int 0)] (.int (0 : Int32)) := Arv.set Ar658 q658 S658 N658 H658 G658 (fits_nar_char _) W658 11 rfl (Nat.le_of_ble_eq_true rfl)
  have CR659 := CR647.trans (CHr.wr W658 (Safe.arv hZ.alike V646 (by decide)) CR647.1)
  have F660 := F648.other W658 ne_b50_b513
  have F661 := own_Sc.wrC F649 W658 V646 (hw _ (List.mem_of_getElem? (i := 7) rfl))
  have F662 := F650.other W658 ne_b315_b513
  have Z663 : n0 ≤ h658.size := by rw [W658.size]; exact Z651
  have kS664 := Nat.le_trans kS652 (Nat.le_of_eq W658.size.symm)
  have NF658 := Fr.snoc X658 NF646 g_b513
  have K665 := K653.wr W658 (Or.inr sz_b513)
  have P666 : own_Pr p.tables e below S0 T658 (mkF m 667 #[.val (.int p1), .val (.int p2), .val (.int p3), .val (.int p4), .val (.int p5), .val (.int z22), .val (.int z28), .val (.int z30), .val (.int z32), .val (.int z41), .val (.ref b50), .val (.ref b315), .unset, .unset, .unset, .unset] [(.ref b513)]) := fun t k => P657 t (st658 _ k)
  have P667 : own_Pr p.tables e below S0 T658 (mkF m 674 #[.val (.int p1), .val (.int p2), .val (.int p3), .val (.int p4), .val (.int p5), .val (.int z22), .val (.int z28), .val (.int z30), .val (.int z32), .val (.int z41), .val (.ref b50), .val (.ref b315), .unset, .unset, .unset, .unset] [(.int 12), (.ref b50), (.int 12), (.ref b513), (.ref b513)]) := fun t k => P666 t (by
    refine XS.dup X658.here hx rfl (hb hby at_667) rfl rfl ?_
    refine XS.bipush X658.here hx rfl (hb hby at_668) ?_
    refine XS.aload X658.here hx rfl (hb hby at_670) rfl rfl ?_
    refine XS.bipush X658.here hx rfl (hb hby at_672) ?_
    exact k)
  obtain ⟨cl668, Ar668, q668, S668, N668, H668, G668⟩ := id F660
  have hin668 : ¬ ((12 : Int32) < 0 ∨ cl668.slots.size ≤ ((12 : Int32)).toNatClampNeg) := inb_of S668 ⟨by decide, by decide⟩
  have P669 : own_Pr p.tables e below S0 T658 (mkF m 675 #[.val (.int p1), .val (.int p2), .val (.int p3), .val (.int p4), .val (.int p5), .val (.int z22), .val (.int z28), .val (.int z30), .val (.int z32), .val (.int z41), .val (.ref b50), .val (.ref b315), .unset, .unset, .unset, .unset] [(.int z254v), (.int 12), (.ref b513), (.ref b513)]) := fun t k => P667 t (by
    refine X658.caload hx (j := (12 : Int32)) (v := (.int z254v)) (by rw [e658]; exact Ar668.1) (State.isArrayOf_alike hZ.alike Ar668.2.1) Ar668.2.2 hin668 (H668.at hin668 rfl) (g := (mkF m 674 #[.val (.int p1), .val (.int p2), .val (.int p3), .val (.int p4), .val (.int p5), .val (.int z22), .val (.int z28), .val (.int z30), .val (.int z32), .val (.int z41), .val (.ref b50), .val (.ref b315), .unset, .unset, .unset, .unset] [(.int 12), (.ref b50), (.int 12), (.ref b513), (.ref b513)])) rfl rfl (hb hby at_674) _ ?_
    exact k)
  obtain ⟨cl670, Ar670, q670, S670, N670, H670, G670⟩ := id V658
  have hin670 : ¬ ((12 : Int32) < 0 ∨ cl670.slots.size ≤ ((12 : Int32)).toNatClampNeg) := inb_of S670 ⟨by decide, by decide⟩
  obtain ⟨T670, h670, X670, e670, W670, st670⟩ := stC X658 hx hZ e658 Ar670 (j := (12 : Int32)) hin670 (g := (mkF m 675 #[.val (.int p1), .val (.int p2), .val (.int p3), .val (.int p4), .val (.int p5), .val (.int z22), .val (.int z28), .val (.int z30), .val (.int z32), .val (.int z41), .val (.ref b50), .val (.ref b315), .unset, .unset, .unset, .unset] [(.int z254v), (.int 12), (.ref b513), (.ref b513)])) rfl rfl (hb hby at_675)
  have V670 : Arv Z h670 b513 k513 .char (16 : Int32) [(.int (nar .char u0)), (.int (nar .char u1)), (.int (nar .char u2)), (.int (nar .char z164v)), (.int (nar .char z174v)), (.int (nar .char z184v)), (.int (nar .char z194v)), (.int (nar .char z204v)), (.int (nar .char z214v)), (.int (nar .char z224v)), (.int (nar .char z234v)), (.int (nar .char z244v)), (.int (nar .char z254v)), (.int 0), (.int 0), (.int 0)] (.int (0 : Int32)) := Arv.set Ar670 q670 S670 N670 H670 G670 (fits_nar_char _) W670 12 rfl (Nat.le_of_ble_eq_true rfl)
  have CR671 := CR659.trans (CHr.wr W670 (Safe.arv hZ.alike V658 (by decide)) CR659.1)
  have F672 := F660.other W670 ne_b50_b513
  have F673 := own_Sc.wrC F661 W670 V658 (hw _ (List.mem_of_getElem? (i := 7) rfl))
  have F674 := F662.other W670 ne_b315_b513
  have Z675 : n0 ≤ h670.size := by rw [W670.size]; exact Z663
  have kS676 := Nat.le_trans kS664 (Nat.le_of_eq W670.size.symm)
  have NF670 := Fr.snoc X670 NF658 g_b513
  have K677 := K665.wr W670 (Or.inr sz_b513)
  have P678 : own_Pr p.tables e below S0 T670 (mkF m 676 #[.val (.int p1), .val (.int p2), .val (.int p3), .val (.int p4), .val (.int p5), .val (.int z22), .val (.int z28), .val (.int z30), .val (.int z32), .val (.int z41), .val (.ref b50), .val (.ref b315), .unset, .unset, .unset, .unset] [(.ref b513)]) := fun t k => P669 t (st670 _ k)
  have P679 : own_Pr p.tables e below S0 T670 (mkF m 683 #[.val (.int p1), .val (.int p2), .val (.int p3), .val (.int p4), .val (.int p5), .val (.int z22), .val (.int z28), .val (.int z30), .val (.int z32), .val (.int z41), .val (.ref b50), .val (.ref b315), .unset, .unset, .unset, .unset] [(.int 13), (.ref b50), (.int 13), (.ref b513), (.ref b513)]) := fun t k => P678 t (by
    refine XS.dup X670.here hx rfl (hb hby at_676) rfl rfl ?_
    refine XS.bipush X670.here hx rfl (hb hby at_677) ?_
    refine XS.aload X670.here hx rfl (hb hby at_679) rfl rfl ?_
    refine XS.bipush X670.here hx rfl (hb hby at_681) ?_
    exact k)
  obtain ⟨cl680, Ar680, q680, S680, N680, H680, G680⟩ := id F672
  have hin680 : ¬ ((13 : Int32) < 0 ∨ cl680.slots.size ≤ ((13 : Int32)).toNatClampNeg) := inb_of S680 ⟨by decide, by decide⟩
  have P681 : own_Pr p.tables e below S0 T670 (mkF m 684 #[.val (.int p1), .val (.int p2), .val (.int p3), .val (.int p4), .val (.int p5), .val (.int z22), .val (.int z28), .val (.int z30), .val (.int z32), .val (.int z41), .val (.ref b50), .val (.ref b315), .unset, .unset, .unset, .unset] [(.int z264v), (.int 13), (.ref b513), (.ref b513)]) := fun t k => P679 t (by
    refine X670.caload hx (j := (13 : Int32)) (v := (.int z264v)) (by rw [e670]; exact Ar680.1) (State.isArrayOf_alike hZ.alike Ar680.2.1) Ar680.2.2 hin680 (H680.at hin680 rfl) (g := (mkF m 683 #[.val (.int p1), .val (.int p2), .val (.int p3), .val (.int p4), .val (.int p5), .val (.int z22), .val (.int z28), .val (.int z30), .val (.int z32), .val (.int z41), .val (.ref b50), .val (.ref b315), .unset, .unset, .unset, .unset] [(.int 13), (.ref b50), (.int 13), (.ref b513), (.ref b513)])) rfl rfl (hb hby at_683) _ ?_
    exact k)
  obtain ⟨cl682, Ar682, q682, S682, N682, H682, G682⟩ := id V670
  have hin682 : ¬ ((13 : Int32) < 0 ∨ cl682.slots.size ≤ ((13 : Int32)).toNatClampNeg) := inb_of S682 ⟨by decide, by decide⟩
  obtain ⟨T682, h682, X682, e682, W682, st682⟩ := stC X670 hx hZ e670 Ar682 (j := (13 : Int32)) hin682 (g := (mkF m 684 #[.val (.int p1), .val (.int p2), .val (.int p3), .val (.int p4), .val (.int p5), .val (.int z22), .val (.int z28), .val (.int z30), .val (.int z32), .val (.int z41), .val (.ref b50), .val (.ref b315), .unset, .unset, .unset, .unset] [(.int z264v), (.int 13), (.ref b513), (.ref b513)])) rfl rfl (hb hby at_684)
  have V682 : Arv Z h682 b513 k513 .char (16 : Int32) [(.int (nar .char u0)), (.int (nar .char u1)), (.int (nar .char u2)), (.int (nar .char z164v)), (.int (nar .char z174v)), (.int (nar .char z184v)), (.int (nar .char z194v)), (.int (nar .char z204v)), (.int (nar .char z214v)), (.int (nar .char z224v)), (.int (nar .char z234v)), (.int (nar .char z244v)), (.int (nar .char z254v)), (.int (nar .char z264v)), (.int 0), (.int 0)] (.int (0 : Int32)) := Arv.set Ar682 q682 S682 N682 H682 G682 (fits_nar_char _) W682 13 rfl (Nat.le_of_ble_eq_true rfl)
  have CR683 := CR671.trans (CHr.wr W682 (Safe.arv hZ.alike V670 (by decide)) CR671.1)
  have F684 := F672.other W682 ne_b50_b513
  have F685 := own_Sc.wrC F673 W682 V670 (hw _ (List.mem_of_getElem? (i := 7) rfl))
  have F686 := F674.other W682 ne_b315_b513
  have Z687 : n0 ≤ h682.size := by rw [W682.size]; exact Z675
  have kS688 := Nat.le_trans kS676 (Nat.le_of_eq W682.size.symm)
  have NF682 := Fr.snoc X682 NF670 g_b513
  have K689 := K677.wr W682 (Or.inr sz_b513)
  have P690 : own_Pr p.tables e below S0 T682 (mkF m 685 #[.val (.int p1), .val (.int p2), .val (.int p3), .val (.int p4), .val (.int p5), .val (.int z22), .val (.int z28), .val (.int z30), .val (.int z32), .val (.int z41), .val (.ref b50), .val (.ref b315), .unset, .unset, .unset, .unset] [(.ref b513)]) := fun t k => P681 t (st682 _ k)
  have P691 : own_Pr p.tables e below S0 T682 (mkF m 692 #[.val (.int p1), .val (.int p2), .val (.int p3), .val (.int p4), .val (.int p5), .val (.int z22), .val (.int z28), .val (.int z30), .val (.int z32), .val (.int z41), .val (.ref b50), .val (.ref b315), .unset, .unset, .unset, .unset] [(.int 14), (.ref b50), (.int 14), (.ref b513), (.ref b513)]) := fun t k => P690 t (by
    refine XS.dup X682.here hx rfl (hb hby at_685) rfl rfl ?_
    refine XS.bipush X682.here hx rfl (hb hby at_686) ?_
    refine XS.aload X682.here hx rfl (hb hby at_688) rfl rfl ?_
    refine XS.bipush X682.here hx rfl (hb hby at_690) ?_
    exact k)
  obtain ⟨cl692, Ar692, q692, S692, N692, H692, G692⟩ := id F684
  have hin692 : ¬ ((14 : Int32) < 0 ∨ cl692.slots.size ≤ ((14 : Int32)).toNatClampNeg) := inb_of S692 ⟨by decide, by decide⟩
  have P693 : own_Pr p.tables e below S0 T682 (mkF m 693 #[.val (.int p1), .val (.int p2), .val (.int p3), .val (.int p4), .val (.int p5), .val (.int z22), .val (.int z28), .val (.int z30), .val (.int z32), .val (.int z41), .val (.ref b50), .val (.ref b315), .unset, .unset, .unset, .unset] [(.int z274v), (.int 14), (.ref b513), (.ref b513)]) := fun t k => P691 t (by
    refine X682.caload hx (j := (14 : Int32)) (v := (.int z274v)) (by rw [e682]; exact Ar692.1) (State.isArrayOf_alike hZ.alike Ar692.2.1) Ar692.2.2 hin692 (H692.at hin692 rfl) (g := (mkF m 692 #[.val (.int p1), .val (.int p2), .val (.int p3), .val (.int p4), .val (.int p5), .val (.int z22), .val (.int z28), .val (.int z30), .val (.int z32), .val (.int z41), .val (.ref b50), .val (.ref b315), .unset, .unset, .unset, .unset] [(.int 14), (.ref b50), (.int 14), (.ref b513), (.ref b513)])) rfl rfl (hb hby at_692) _ ?_
    exact k)
  obtain ⟨cl694, Ar694, q694, S694, N694, H694, G694⟩ := id V682
  have hin694 : ¬ ((14 : Int32) < 0 ∨ cl694.slots.size ≤ ((14 : Int32)).toNatClampNeg) := inb_of S694 ⟨by decide, by decide⟩
  obtain ⟨T694, h694, X694, e694, W694, st694⟩ := stC X682 hx hZ e682 Ar694 (j := (14 : Int32)) hin694 (g := (mkF m 693 #[.val (.int p1), .val (.int p2), .val (.int p3), .val (.int p4), .val (.int p5), .val (.int z22), .val (.int z28), .val (.int z30), .val (.int z32), .val (.int z41), .val (.ref b50), .val (.ref b315), .unset, .unset, .unset, .unset] [(.int z274v), (.int 14), (.ref b513), (.ref b513)])) rfl rfl (hb hby at_693)
  have V694 : Arv Z h694 b513 k513 .char (16 : Int32) [(.int (nar .char u0)), (.int (nar .char u1)), (.int (nar .char u2)), (.int (nar .char z164v)), (.int (nar .char z174v)), (.int (nar .char z184v)), (.int (nar .char z194v)), (.int (nar .char z204v)), (.int (nar .char z214v)), (.int (nar .char z224v)), (.int (nar .char z234v)), (.int (nar .char z244v)), (.int (nar .char z254v)), (.int (nar .char z264v)), (.int (nar .char z274v)), (.int 0)] (.int (0 : Int32)) := Arv.set Ar694 q694 S694 N694 H694 G694 (fits_nar_char _) W694 14 rfl (Nat.le_of_ble_eq_true rfl)
  have CR695 := CR683.trans (CHr.wr W694 (Safe.arv hZ.alike V682 (by decide)) CR683.1)
  have F696 := F684.other W694 ne_b50_b513
  have F697 := own_Sc.wrC F685 W694 V682 (hw _ (List.mem_of_getElem? (i := 7) rfl))
  have F698 := F686.other W694 ne_b315_b513
  have Z699 : n0 ≤ h694.size := by rw [W694.size]; exact Z687
  have kS700 := Nat.le_trans kS688 (Nat.le_of_eq W694.size.symm)
  have NF694 := Fr.snoc X694 NF682 g_b513
  have K701 := K689.wr W694 (Or.inr sz_b513)
  have P702 : own_Pr p.tables e below S0 T694 (mkF m 694 #[.val (.int p1), .val (.int p2), .val (.int p3), .val (.int p4), .val (.int p5), .val (.int z22), .val (.int z28), .val (.int z30), .val (.int z32), .val (.int z41), .val (.ref b50), .val (.ref b315), .unset, .unset, .unset, .unset] [(.ref b513)]) := fun t k => P693 t (st694 _ k)
  have P703 : own_Pr p.tables e below S0 T694 (mkF m 701 #[.val (.int p1), .val (.int p2), .val (.int p3), .val (.int p4), .val (.int p5), .val (.int z22), .val (.int z28), .val (.int z30), .val (.int z32), .val (.int z41), .val (.ref b50), .val (.ref b315), .unset, .unset, .unset, .unset] [(.int 15), (.ref b50), (.int 15), (.ref b513), (.ref b513)]) := fun t k => P702 t (by
    refine XS.dup X694.here hx rfl (hb hby at_694) rfl rfl ?_
    refine XS.bipush X694.here hx rfl (hb hby at_695) ?_
    refine XS.aload X694.here hx rfl (hb hby at_697) rfl rfl ?_
    refine XS.bipush X694.here hx rfl (hb hby at_699) ?_
    exact k)
  obtain ⟨cl704, Ar704, q704, S704, N704, H704, G704⟩ := id F696
  have hin704 : ¬ ((15 : Int32) < 0 ∨ cl704.slots.size ≤ ((15 : Int32)).toNatClampNeg) := inb_of S704 ⟨by decide, by decide⟩
  have P705 : own_Pr p.tables e below S0 T694 (mkF m 702 #[.val (.int p1), .val (.int p2), .val (.int p3), .val (.int p4), .val (.int p5), .val (.int z22), .val (.int z28), .val (.int z30), .val (.int z32), .val (.int z41), .val (.ref b50), .val (.ref b315), .unset, .unset, .unset, .unset] [(.int z284v), (.int 15), (.ref b513), (.ref b513)]) := fun t k => P703 t (by
    refine X694.caload hx (j := (15 : Int32)) (v := (.int z284v)) (by rw [e694]; exact Ar704.1) (State.isArrayOf_alike hZ.alike Ar704.2.1) Ar704.2.2 hin704 (H704.at hin704 rfl) (g := (mkF m 701 #[.val (.int p1), .val (.int p2), .val (.int p3), .val (.int p4), .val (.int p5), .val (.int z22), .val (.int z28), .val (.int z30), .val (.int z32), .val (.int z41), .val (.ref b50), .val (.ref b315), .unset, .unset, .unset, .unset] [(.int 15), (.ref b50), (.int 15), (.ref b513), (.ref b513)])) rfl rfl (hb hby at_701) _ ?_
    exact k)
  obtain ⟨cl706, Ar706, q706, S706, N706, H706, G706⟩ := id V694
  have hin706 : ¬ ((15 : Int32) < 0 ∨ cl706.slots.size ≤ ((15 : Int32)).toNatClampNeg) := inb_of S706 ⟨by decide, by decide⟩
  obtain ⟨T706, h706, X706, e706, W706, st706⟩ := stC X694 hx hZ e694 Ar706 (j := (15 : Int32)) hin706 (g := (mkF m 702 #[.val (.int p1), .val (.int p2), .val (.int p3), .val (.int p4), .val (.int p5), .val (.int z22), .val (.int z28), .val (.int z30), .val (.int z32), .val (.int z41), .val (.ref b50), .val (.ref b315), .unset, .unset, .unset, .unset] [(.int z284v), (.int 15), (.ref b513), (.ref b513)])) rfl rfl (hb hby at_702)
  have V706 : Arv Z h706 b513 k513 .char (16 : Int32) [(.int (nar .char u0)), (.int (nar .char u1)), (.int (nar .char u2)), (.int (nar .char z164v)), (.int (nar .char z174v)), (.int (nar .char z184v)), (.int (nar .char z194v)), (.int (nar .char z204v)), (.int (nar .char z214v)), (.int (nar .char z224v)), (.int (nar .char z234v)), (.int (nar .char z244v)), (.int (nar .char z254v)), (.int (nar .char z264v)), (.int (nar .char z274v)), (.int (nar .char z284v))] (.int (0 : Int32)) := Arv.set Ar706 q706 S706 N706 H706 G706 (fits_nar_char _) W706 15 rfl (Nat.le_of_ble_eq_true rfl)
  have CR707 := CR695.trans (CHr.wr W706 (Safe.arv hZ.alike V694 (by decide)) CR695.1)
  have F708 := F696.other W706 ne_b50_b513
  have F709 := own_Sc.wrC F697 W706 V694 (hw _ (List.mem_of_getElem? (i := 7) rfl))
  have F710 := F698.other W706 ne_b315_b513
  have Z711 : n0 ≤ h706.size := by rw [W706.size]; exact Z699
  have kS712 := Nat.le_trans kS700 (Nat.le_of_eq W706.size.symm)
  have NF706 := Fr.snoc X706 NF694 g_b513
  have K713 := K701.wr W706 (Or.inr sz_b513)
  have P714 : own_Pr p.tables e below S0 T706 (mkF m 703 #[.val (.int p1), .val (.int p2), .val (.int p3), .val (.int p4), .val (.int p5), .val (.int z22), .val (.int z28), .val (.int z30), .val (.int z32), .val (.int z41), .val (.ref b50), .val (.ref b315), .unset, .unset, .unset, .unset] [(.ref b513)]) := fun t k => P705 t (st706 _ k)
  have P715 : own_Pr p.tables e below S0 T706 (mkF m 705 #[.val (.int p1), .val (.int p2), .val (.int p3), .val (.int p4), .val (.int p5), .val (.int z22), .val (.int z28), .val (.int z30), .val (.int z32), .val (.int z41), .val (.ref b50), .val (.ref b315), .val (.ref b513), .unset, .unset, .unset] []) := fun t k => P714 t (by
    refine XS.astore X706.here hx rfl (hb hby at_703) rfl rfl (l' := #[.val (.int p1), .val (.int p2), .val (.int p3), .val (.int p4), .val (.int p5), .val (.int z22), .val (.int z28), .val (.int z30), .val (.int z32), .val (.int z41), .val (.ref b50), .val (.ref b315), .val (.ref b513), .unset, .unset, .unset]) rfl ?_
    exact k)
  have hpp16 : ∀ c ∈ ([u0, u1, u2, z164v, z174v, z184v, z194v, z204v, z214v, z224v, z234v, z244v, z254v, z264v, z274v, z284v] : List Int32), ¬ c < 0 ∧ ¬ (255 : Int32) < c := own_al ⟨own_nn hn0, hL0⟩ (own_al ⟨own_nn hn1, hL1⟩ (own_al ⟨own_nn hn2, hL2⟩ (own_al ⟨own_nn hn3, hL3⟩ (own_al ⟨own_nn hn4, hL4⟩ (own_al ⟨own_nn hn5, hL5⟩ (own_al ⟨own_nn hn6, hL6⟩ (own_al ⟨own_nn hn7, hL7⟩ (own_al ⟨own_nn hn8, hL8⟩ (own_al ⟨own_nn hn9, hL9⟩ (own_al ⟨own_nn hn10, hL10⟩ (own_al ⟨own_nn hn11, hL11⟩ (own_al ⟨own_nn hn12, hL12⟩ (own_al ⟨own_nn hn13, hL13⟩ (own_al ⟨own_nn hn14, hL14⟩ (own_al ⟨own_nn hn15, hL15⟩ (fun _ h => nomatch h))))))))))))))))
  rw [hn0, hn1, hn2, hn3, hn4, hn5, hn6, hn7, hn8, hn9, hn10, hn11, hn12, hn13, hn14, hn15] at V706
  have P716 : own_Pr p.tables e below S0 T706 (mkF m 708 #[.val (.int p1), .val (.int p2), .val (.int p3), .val (.int p4), .val (.int p5), .val (.int z22), .val (.int z28), .val (.int z30), .val (.int z32), .val (.int z41), .val (.ref b50), .val (.ref b315), .val (.ref b513), .unset, .unset, .unset] [(.int 1), (.int z22)]) := fun t k => P715 t (by
    refine XS.iload X706.here hx rfl (hb hby at_705) rfl ?_
    refine XS.iconst X706.here hx rfl (hb hby at_707) ?_
    exact k)
  by_cases hc708_717 : z22 = (1 : Int32)
  · have P718 : own_Pr p.tables e below S0 T706 (mkF m 711 #[.val (.int p1), .val (.int p2), .val (.int p3), .val (.int p4), .val (.int p5), .val (.int z22), .val (.int z28), .val (.int z30), .val (.int z32), .val (.int z41), .val (.ref b50), .val (.ref b315), .val (.ref b513), .unset, .unset, .unset] []) := fun t k => P716 t (by
      refine XS.icmpNo X706.here hx rfl (hb hby at_708) rfl (XT.ii_ne_f hc708_717) ?_
      exact k)
    obtain ⟨vbl, Fvb, l1b, l2b⟩ := own_Sc.lts F709
    obtain ⟨T719, h719, X719, e719, E719, A719, D719, -, st719⟩ := newO X706 hx hZ hown (hw _ (List.mem_of_getElem? (i := 52) rfl)) (hw _ (List.mem_of_getElem? (i := 7) rfl)) (hw _ (List.mem_of_getElem? (i := 6) rfl)) e706 (g := (mkF m 711 #[.val (.int p1), .val (.int p2), .val (.int p3), .val (.int p4), .val (.int p5), .val (.int z22), .val (.int z28), .val (.int z30), .val (.int z32), .val (.int z41), .val (.ref b50), .val (.ref b315), .val (.ref b513), .unset, .unset, .unset] [])) rfl (hb hby at_711) (by decide) (by decide)
    obtain ⟨b719, g719⟩ : ∃ z, z = h706.size := ⟨_, rfl⟩
    rw [← g719] at A719 D719 st719
    have g_b719 : n0 ≤ b719 := Nat.le_trans Z711 (Nat.le_of_eq g719.symm)
    have sz_b719 : h0.size ≤ b719 := Nat.le_trans K713.1 (Nat.le_of_eq g719.symm)
    have ne_b50_b719 : b50 ≠ b719 := Nat.ne_of_lt (Nat.lt_of_lt_of_le F708.lt (Nat.le_of_eq g719.symm))
    have ne_b315_b719 : b315 ≠ b719 := Nat.ne_of_lt (Nat.lt_of_lt_of_le F710.lt (Nat.le_of_eq g719.symm))
    have ne_b513_b719 : b513 ≠ b719 := Nat.ne_of_lt (Nat.lt_of_lt_of_le V706.lt (Nat.le_of_eq g719.symm))
    have ne_lt_b719 : lt ≠ b719 := Nat.ne_of_lt (Nat.lt_of_lt_of_le Fvb.lt (Nat.le_of_eq g719.symm))
    have F720 := F708.ext E719
    have F721 := F709.ext E719
    have F722 := F710.ext E719
    have F723 := V706.ext E719
    have F724 := Fvb.ext E719
    have Z725 : n0 ≤ h719.size := Nat.le_trans Z711 E719.1
    have K726 := K713.ext E719
    have CR727 := CR707.trans (CHr.ext E719 CR707.1)
    have kS728 := Nat.le_trans kS712 E719.1
    have F729 : Fld Z h719 b719 "java/lang/String" "value" "[B" .null := D719 (Or.inr (hw _ (List.mem_of_getElem? (i := 9) rfl))) (ty := (.array .byte)) (by decide)
    have F730 : Fld Z h719 b719 "java/lang/String" "coder" "B" (.int (0 : Int32)) := D719 (Or.inr (hw _ (List.mem_of_getElem? (i := 10) rfl))) (ty := .byte) (by decide)
    have P731 : own_Pr p.tables e below S0 T719 (mkF m 714 #[.val (.int p1), .val (.int p2), .val (.int p3), .val (.int p4), .val (.int p5), .val (.int z22), .val (.int z28), .val (.int z30), .val (.int z32), .val (.int z41), .val (.ref b50), .val (.ref b315), .val (.ref b513), .unset, .unset, .unset] [(.ref b719)]) := fun t k => P718 t (st719 _ k)
    have P732 : own_Pr p.tables e below S0 T719 (mkF m 717 #[.val (.int p1), .val (.int p2), .val (.int p3), .val (.int p4), .val (.int p5), .val (.int z22), .val (.int z28), .val (.int z30), .val (.int z32), .val (.int z41), .val (.ref b50), .val (.ref b315), .val (.ref b513), .unset, .unset, .unset] [(.ref b50), (.ref b719), (.ref b719)]) := fun t k => P731 t (by
      refine XS.dup X719.here hx rfl (hb hby at_714) rfl rfl ?_
      refine XS.aload X719.here hx rfl (hb hby at_715) rfl rfl ?_
      exact k)
    obtain ⟨_, _, ⟨T733, L733, k733, n733⟩, -, X733, ⟨Lc733, hQ733, l733, y733, z733⟩, st733⟩ := X719.specialBack hx (y := (⟨"java/lang/String", "<init>", "([C)V"⟩ : MethodName)) rfl hown (mvT hZ (hw _ (List.mem_of_getElem? (i := 53) rfl))) (mvT hZ (hw _ (List.mem_of_getElem? (i := 54) rfl))) (mvT hZ (hw _ (List.mem_of_getElem? (i := 55) rfl))) (by decide) (StrChars.Road.backV (W := 1) hZ (own_wV hw) (hw _ (List.mem_of_getElem? (i := 7) rfl)) (cs := [u0, u1, u2, z164v, z174v, z184v, z194v, z204v, z214v, z224v, z234v, z244v, z254v, z264v, z274v, z284v, z294v, z304v]) (n := 18) (n0 := n0) g_b719 Z725 A719 F729 F730 F720 (own_sta_keep0 CS K726) hcs rfl rfl (by decide) (by decide) hpp18 rfl (by decide) (by decide)) (g := (mkF m 717 #[.val (.int p1), .val (.int p2), .val (.int p3), .val (.int p4), .val (.int p5), .val (.int z22), .val (.int z28), .val (.int z30), .val (.int z32), .val (.int z41), .val (.ref b50), .val (.ref b315), .val (.ref b513), .unset, .unset, .unset] [(.ref b50), (.ref b719), (.ref b719)])) rfl (by rw [hml]; rfl) (Steps.refl _) (a := b719) (argsL := [(.ref b50)]) (rest := [(.ref b719)]) (lenOf pd_14 rfl) rfl (by show 2 * 0 + _ ≤ _; exact Nat.le_of_eq rfl) (hb hby at_717) (fun _ _ => ⟨rfl, e719, (by decide : 14 + 1 ≤ _), (by decide : 415 + 18 ≤ _)⟩)
    dsimp only [Pt.U, Pt.locs, Pt.cells, Pt.slots] at X733 l733 y733 z733 st733 hQ733
    rw [l733, y733, z733] at X733
    have X733 := X733.mono (cells' := 15) (slots' := 433) (by decide) (by decide)
    obtain ⟨rfl, Nq733, Kq733, Eq733, Cq733, tq733, kq733, -, zq733, -, Fq733, Aq733⟩ := hQ733
    have N733n := Fr.app NF706 Nq733
    have CR734 := CR727.trans (CHr.keep Kq733 (sfS (own_safeNull hZ.alike A719 F729) sf0) CR727.1)
    have F735 := A719.keep Kq733
    have Z738 := Nat.le_trans Z725 Kq733.1
    have K739 := K726.trans Kq733 (allS (Or.inr sz_b719) all0)
    have kS740 := Nat.le_trans kS728 Kq733.1
    have Sl733 := own_Sc.keepN F721 ⟨vbl, F724, l1b, l2b⟩ Kq733 (Nat.le_of_eq g719.symm)
    have Ss733 : own_Sc Z _ b719 18 (([u0, u1, u2, z164v, z174v, z184v, z194v, z204v, z214v, z224v, z234v, z244v, z254v, z264v, z274v, z284v, z294v, z304v] : List Int32).map StrChars.lo8) := ⟨_, _, Eq733, Cq733, Fq733, Aq733⟩
    have P741 : own_Pr p.tables e below S0 T733 (mkF m 720 #[.val (.int p1), .val (.int p2), .val (.int p3), .val (.int p4), .val (.int p5), .val (.int z22), .val (.int z28), .val (.int z30), .val (.int z32), .val (.int z41), .val (.ref b50), .val (.ref b315), .val (.ref b513), .unset, .unset, .unset] [(.ref b719)]) := fun t k => P732 t (st733.trans k)
    have P742 : own_Pr p.tables e below S0 T733 (mkF m 754 #[.val (.int p1), .val (.int p2), .val (.int p3), .val (.int p4), .val (.int p5), .val (.int z22), .val (.int z28), .val (.int z30), .val (.int z32), .val (.int z41), .val (.ref b50), .val (.ref b315), .val (.ref b513), .val (.ref b719), .unset, .unset] [(.ref b719)]) := fun t k => P741 t (by
      refine XS.goto X733.here hx rfl (pc0 := 720) (pc' := 750) rfl (hb hby at_720) (by decide) (by decide) ?_
      refine XS.astore X733.here hx rfl (hb hby at_750) rfl rfl (l' := #[.val (.int p1), .val (.int p2), .val (.int p3), .val (.int p4), .val (.int p5), .val (.int z22), .val (.int z28), .val (.int z30), .val (.int z32), .val (.int z41), .val (.ref b50), .val (.ref b315), .val (.ref b513), .val (.ref b719), .unset, .unset]) rfl ?_
      refine XS.aload X733.here hx rfl (hb hby at_752) rfl rfl ?_
      exact k)
    obtain ⟨_, _, ⟨T743, L743, k743, n743⟩, -, X743, ⟨Lc743, hQ743, l743, y743, z743⟩, st743⟩ := Jvm.LawKit.callS X733 hx (y := (⟨"com/example/firmhold/firmhold/Credentials$Permission", "named", "(Ljava/lang/String;)Ljava/util/Optional;"⟩ : MethodName)) hown (mvT hZ (hw _ (List.mem_of_getElem? (i := 73) rfl))) (mvT hZ (hw _ (List.mem_of_getElem? (i := 74) rfl))) (mvT hZ (hw _ (List.mem_of_getElem? (i := 75) rfl))) (mvT hZ (hw _ (List.mem_of_getElem? (i := 76) rfl))) (by decide) (backOf (W := 0) (rm16 l Z a0 hw [] b719 va bp fs em cv cs 18 [u0, u1, u2, z164v, z174v, z184v, z194v, z204v, z214v, z224v, z234v, z244v, z254v, z264v, z274v, z284v, z294v, z304v] T733.heap n0 Z738 (own_sta_keep0 SV K739) ⟨K739.2.1 _ _ Aa.1 nin0, Aa.2⟩ (Ea.keep K739) Fa hsz hel (Eb.keep K739) (Fb.keep K739 nin0) (Sf.keep0 K739) (Ee.keep K739) (Fe.keep K739 nin0) (own_sta_keep0 SE K739) Ss733 rfl (fun c hc => (hpp18 c hc).2) (fun c hc => ⟨(hpp18 c hc).1, own_255 (hpp18 c hc).2⟩) (Nat.le_of_ble_eq_true rfl) (own_sta_keep0 CS K739) hcs) hZ (hw _ (List.mem_of_getElem? (i := 76) rfl)) (hw _ (List.mem_of_getElem? (i := 75) rfl)) (by decide) (by decide)) (g := (mkF m 754 #[.val (.int p1), .val (.int p2), .val (.int p3), .val (.int p4), .val (.int p5), .val (.int z22), .val (.int z28), .val (.int z30), .val (.int z32), .val (.int z41), .val (.ref b50), .val (.ref b315), .val (.ref b513), .val (.ref b719), .unset, .unset] [(.ref b719)])) rfl (by rw [hml]; rfl) (argsL := [(.ref b719)]) (rest := []) (lenOf pd_15 rfl) rfl (by show 2 * 0 + _ ≤ _; exact Nat.le_of_eq rfl) (hb hby at_754) (fun _ _ => ⟨rfl, rfl, (by decide : 15 + 2 ≤ _), (by decide : 433 + 2 ≤ _)⟩)
    dsimp only [Pt.U, Pt.locs, Pt.cells, Pt.slots] at X743 l743 y743 z743 st743 hQ743
    rw [l743, y743, z743] at X743
    have X743 := X743.mono (cells' := 17) (slots' := 435) (by decide) (by decide)
    obtain ⟨s743, rfl, Nq743, Kq743, Eq743, Fq743⟩ := hQ743
    have N743n := Fr.app N733n Nq743
    have CR744 := CR734.trans (CHr.keep Kq743 sf0 CR734.1)
    have F745 := Sl733.keep0 Kq743
    have Z746 := Nat.le_trans Z738 Kq743.1
    have K747 := K739.trans Kq743 all0
    have kS748 := Nat.le_trans kS740 Kq743.1
    rw [if_neg (own_lenNe (us := [u0, u1, u2, z164v, z174v, z184v, z194v, z204v, z214v, z224v, z234v, z244v, z254v, z264v, z274v, z284v, z294v, z304v]) (n := 18) rfl (by decide))] at Fq743
    have P749 : own_Pr p.tables e below S0 T743 (mkF m 757 #[.val (.int p1), .val (.int p2), .val (.int p3), .val (.int p4), .val (.int p5), .val (.int z22), .val (.int z28), .val (.int z30), .val (.int z32), .val (.int z41), .val (.ref b50), .val (.ref b315), .val (.ref b513), .val (.ref b719), .unset, .unset] [(.ref s743)]) := fun t k => P742 t (st743 _ k)
    have P750 : own_Pr p.tables e below S0 T743 (mkF m 850 #[.val (.int p1), .val (.int p2), .val (.int p3), .val (.int p4), .val (.int p5), .val (.int z22), .val (.int z28), .val (.int z30), .val (.int z32), .val (.int z41), .val (.ref b50), .val (.ref b315), .val (.ref b513), .val (.ref b719), .val (.ref s743), .val (.int 0)] [(.ref s743)]) := fun t k => P749 t (by
      refine XS.astore X743.here hx rfl (hb hby at_757) rfl rfl (l' := #[.val (.int p1), .val (.int p2), .val (.int p3), .val (.int p4), .val (.int p5), .val (.int z22), .val (.int z28), .val (.int z30), .val (.int z32), .val (.int z41), .val (.ref b50), .val (.ref b315), .val (.ref b513), .val (.ref b719), .val (.ref s743), .unset]) rfl ?_
      refine XS.iload X743.here hx rfl (hb hby at_759) rfl ?_
      refine XS.ifYes X743.here hx rfl (pc0 := 761) (pc' := 784) rfl (hb hby at_761) rfl (XT.i0_ne_t (by rw [hc708_717]; decide)) (by decide) (by decide) ?_
      refine XS.iload X743.here hx rfl (hb hby at_784) rfl ?_
      refine XS.iconst X743.here hx rfl (hb hby at_786) ?_
      refine XS.icmpYes X743.here hx rfl (pc0 := 787) (pc' := 845) rfl (hb hby at_787) rfl (XT.ii_ne_t (by rw [hc708_717]; decide)) (by decide) (by decide) ?_
      refine XS.iconst X743.here hx rfl (hb hby at_845) ?_
      refine XS.istore X743.here hx rfl (hb hby at_846) rfl (l' := #[.val (.int p1), .val (.int p2), .val (.int p3), .val (.int p4), .val (.int p5), .val (.int z22), .val (.int z28), .val (.int z30), .val (.int z32), .val (.int z41), .val (.ref b50), .val (.ref b315), .val (.ref b513), .val (.ref b719), .val (.ref s743), .val (.int 0)]) rfl ?_
      refine XS.aload X743.here hx rfl (hb hby at_848) rfl rfl ?_
      exact k)
    obtain ⟨cq751, kq751, q751a, q751b, q751c⟩ := isOf hZ rfl Eq743
    obtain ⟨_, _, ⟨T751, L751, k751, n751⟩, -, X751, ⟨Lc751, hQ751, l751, y751, z751⟩, st751⟩ := X743.virtualBack hx (y := (⟨"java/util/Optional", "isPresent", "()Z"⟩ : MethodName)) (z := (⟨"java/util/Optional", "isPresent", "()Z"⟩ : MethodName)) hown (mvT hZ (hw _ (List.mem_of_getElem? (i := 121) rfl))) (mvT hZ (hw _ (List.mem_of_getElem? (i := 122) rfl))) (notFace_of_selects (args := #[]) (mvT hZ (hw _ (List.mem_of_getElem? (i := 124) rfl)))) (mvT hZ (hw _ (List.mem_of_getElem? (i := 124) rfl))) (mvT hZ (hw _ (List.mem_of_getElem? (i := 123) rfl))) (by decide) (backOf (W := 0) (rm23_n l Z a0 hw [] s743 bp T743.heap n0 Z746 Fq743) hZ (hw _ (List.mem_of_getElem? (i := 125) rfl)) (hw _ (List.mem_of_getElem? (i := 106) rfl)) (by decide) (by decide)) q751a q751c (g := (mkF m 850 #[.val (.int p1), .val (.int p2), .val (.int p3), .val (.int p4), .val (.int p5), .val (.int z22), .val (.int z28), .val (.int z30), .val (.int z32), .val (.int z41), .val (.ref b50), .val (.ref b315), .val (.ref b513), .val (.ref b719), .val (.ref s743), .val (.int 0)] [(.ref s743)])) rfl (by rw [hml]; rfl) (Steps.refl _) (argsL := []) (rest := []) (lenOf pd_3 rfl) rfl (by show 2 * 0 + _ ≤ _; exact Nat.le_of_eq rfl) (hb hby at_850) (fun _ _ => ⟨rfl, rfl, (by decide : 17 + 0 ≤ _), (by decide : 435 + 0 ≤ _)⟩)
    dsimp only [Pt.U, Pt.locs, Pt.cells, Pt.slots] at X751 l751 y751 z751 st751 hQ751
    rw [l751, y751, z751] at X751
    have X751 := X751.mono (cells' := 17) (slots' := 435) (by decide) (by decide)
    obtain ⟨z751v, rfl, hz751v, Nq751, eq751⟩ := hQ751
    have N751n := Fr.app N743n Nq751
    have hy751 := hz751v.symm; subst hy751
    have P752 : own_Pr p.tables e below S0 T751 (mkF m 853 #[.val (.int p1), .val (.int p2), .val (.int p3), .val (.int p4), .val (.int p5), .val (.int z22), .val (.int z28), .val (.int z30), .val (.int z32), .val (.int z41), .val (.ref b50), .val (.ref b315), .val (.ref b513), .val (.ref b719), .val (.ref s743), .val (.int 0)] [(.int 0)]) := fun t k => P750 t (st751.trans k)
    have P753 : own_Pr p.tables e below S0 T751 (mkF m 860 #[.val (.int p1), .val (.int p2), .val (.int p3), .val (.int p4), .val (.int p5), .val (.int z22), .val (.int z28), .val (.int z30), .val (.int z32), .val (.int z41), .val (.ref b50), .val (.ref b315), .val (.ref b513), .val (.ref b719), .val (.ref s743), .val (.int 0)] [(.ref s743)]) := fun t k => P752 t (by
      refine XS.iload X751.here hx rfl (hb hby at_853) rfl ?_
      refine XS.icmpNo X751.here hx rfl (hb hby at_855) rfl (by decide) ?_
      refine XS.aload X751.here hx rfl (hb hby at_858) rfl rfl ?_
      exact k)
    obtain ⟨cq754, kq754, q754a, q754b, q754c⟩ := isOf hZ eq751 Eq743
    obtain ⟨_, _, ⟨T754, L754, k754, n754⟩, -, X754, ⟨Lc754, hQ754, l754, y754, z754⟩, st754⟩ := X751.virtualBack hx (y := (⟨"java/util/Optional", "isPresent", "()Z"⟩ : MethodName)) (z := (⟨"java/util/Optional", "isPresent", "()Z"⟩ : MethodName)) hown (mvT hZ (hw _ (List.mem_of_getElem? (i := 121) rfl))) (mvT hZ (hw _ (List.mem_of_getElem? (i := 122) rfl))) (notFace_of_selects (args := #[]) (mvT hZ (hw _ (List.mem_of_getElem? (i := 124) rfl)))) (mvT hZ (hw _ (List.mem_of_getElem? (i := 124) rfl))) (mvT hZ (hw _ (List.mem_of_getElem? (i := 123) rfl))) (by decide) (backOf (W := 0) (rm23_n l Z a0 hw [] s743 bp T743.heap n0 Z746 Fq743) hZ (hw _ (List.mem_of_getElem? (i := 125) rfl)) (hw _ (List.mem_of_getElem? (i := 106) rfl)) (by decide) (by decide)) q754a q754c (g := (mkF m 860 #[.val (.int p1), .val (.int p2), .val (.int p3), .val (.int p4), .val (.int p5), .val (.int z22), .val (.int z28), .val (.int z30), .val (.int z32), .val (.int z41), .val (.ref b50), .val (.ref b315), .val (.ref b513), .val (.ref b719), .val (.ref s743), .val (.int 0)] [(.ref s743)])) rfl (by rw [hml]; rfl) (Steps.refl _) (argsL := []) (rest := []) (lenOf pd_3 rfl) rfl (by show 2 * 0 + _ ≤ _; exact Nat.le_of_eq rfl) (hb hby at_860) (fun _ _ => ⟨rfl, eq751, (by decide : 17 + 0 ≤ _), (by decide : 435 + 0 ≤ _)⟩)
    dsimp only [Pt.U, Pt.locs, Pt.cells, Pt.slots] at X754 l754 y754 z754 st754 hQ754
    rw [l754, y754, z754] at X754
    have X754 := X754.mono (cells' := 17) (slots' := 435) (by decide) (by decide)
    obtain ⟨z754v, rfl, hz754v, Nq754, eq754⟩ := hQ754
    have N754n := Fr.app N751n Nq754
    have hy754 := hz754v.symm; subst hy754
    have P755 : own_Pr p.tables e below S0 T754 (mkF m 863 #[.val (.int p1), .val (.int p2), .val (.int p3), .val (.int p4), .val (.int p5), .val (.int z22), .val (.int z28), .val (.int z30), .val (.int z32), .val (.int z41), .val (.ref b50), .val (.ref b315), .val (.ref b513), .val (.ref b719), .val (.ref s743), .val (.int 0)] [(.int 0)]) := fun t k => P753 t (st754.trans k)
    have P756 : own_Pr p.tables e below S0 T754 (mkF m 882 #[.val (.int p1), .val (.int p2), .val (.int p3), .val (.int p4), .val (.int p5), .val (.int z22), .val (.int z28), .val (.int z30), .val (.int z32), .val (.int z41), .val (.ref b50), .val (.ref b315), .val (.ref b513), .val (.ref b719), .val (.ref s743), .val (.int 0)] [(.int 1)]) := fun t k => P755 t (by
      refine XS.ifYes X754.here hx rfl (pc0 := 863) (pc' := 877) rfl (hb hby at_863) rfl (by decide) (by decide) (by decide) ?_
      refine XS.iconst X754.here hx rfl (hb hby at_877) ?_
      refine XS.goto X754.here hx rfl (pc0 := 878) (pc' := 882) rfl (hb hby at_878) (by decide) (by decide) ?_
      exact k)
    obtain ⟨fs, hr, hrun, hended, hend⟩ := X754.leaveW hSn (by rw [eq754]; exact kS748) (v := some (.int 1)) (fun h => by rw [Bd.returns] at h; cases h)
    have fin : Steps p.tables e below S0 (T754.setFrames fs) := P756 _ (retN X754 hx (t := .boolean) Bd.returns (by simp) (hb hby at_882) hr)
    rw [hS0] at fin
    refine ⟨_, _, fin, hrun, hended, _, _, rfl, ?_, (show CHr Z consts_1 s.vm s.heap T754.vm T754.heap by rw [hh, eq754]; exact CR744.trans (CHv.at X754 hZ (own_EW hw) CR744.1)), hend.1, hend.2.1, hend.2.2.1, hend.2.2.2.mono (by decide) (by decide)⟩
    show own_QL n0 _ _
    exact ⟨_, rfl, rfl, N754n⟩
  · have P757 : own_Pr p.tables e below S0 T706 (mkF m 726 #[.val (.int p1), .val (.int p2), .val (.int p3), .val (.int p4), .val (.int p5), .val (.int z22), .val (.int z28), .val (.int z30), .val (.int z32), .val (.int z41), .val (.ref b50), .val (.ref b315), .val (.ref b513), .unset, .unset, .unset] [(.int 2), (.int z22)]) := fun t k => P716 t (by
      refine XS.icmpYes X706.here hx rfl (pc0 := 708) (pc' := 723) rfl (hb hby at_708) rfl (XT.ii_ne_t hc708_717) (by decide) (by decide) ?_
      refine XS.iload X706.here hx rfl (hb hby at_723) rfl ?_
      refine XS.iconst X706.here hx rfl (hb hby at_725) ?_
      exact k)
    by_cases hc726_758 : z22 = (2 : Int32)
    · have P759 : own_Pr p.tables e below S0 T706 (mkF m 729 #[.val (.int p1), .val (.int p2), .val (.int p3), .val (.int p4), .val (.int p5), .val (.int z22), .val (.int z28), .val (.int z30), .val (.int z32), .val (.int z41), .val (.ref b50), .val (.ref b315), .val (.ref b513), .unset, .unset, .unset] []) := fun t k => P757 t (by
        refine XS.icmpNo X706.here hx rfl (hb hby at_726) rfl (XT.ii_ne_f hc726_758) ?_
        exact k)
      obtain ⟨vbl, Fvb, l1b, l2b⟩ := own_Sc.lts F709
      obtain ⟨T760, h760, X760, e760, E760, A760, D760, -, st760⟩ := newO X706 hx hZ hown (hw _ (List.mem_of_getElem? (i := 52) rfl)) (hw _ (List.mem_of_getElem? (i := 7) rfl)) (hw _ (List.mem_of_getElem? (i := 6) rfl)) e706 (g := (mkF m 729 #[.val (.int p1), .val (.int p2), .val (.int p3), .val (.int p4), .val (.int p5), .val (.int z22), .val (.int z28), .val (.int z30), .val (.int z32), .val (.int z41), .val (.ref b50), .val (.ref b315), .val (.ref b513), .unset, .unset, .unset] [])) rfl (hb hby at_729) (by decide) (by decide)
      obtain ⟨b760, g760⟩ : ∃ z, z = h706.size := ⟨_, rfl⟩
      rw [← g760] at A760 D760 st760
      have g_b760 : n0 ≤ b760 := Nat.le_trans Z711 (Nat.le_of_eq g760.symm)
      have sz_b760 : h0.size ≤ b760 := Nat.le_trans K713.1 (Nat.le_of_eq g760.symm)
      have ne_b50_b760 : b50 ≠ b760 := Nat.ne_of_lt (Nat.lt_of_lt_of_le F708.lt (Nat.le_of_eq g760.symm))
      have ne_b315_b760 : b315 ≠ b760 := Nat.ne_of_lt (Nat.lt_of_lt_of_le F710.lt (Nat.le_of_eq g760.symm))
      have ne_b513_b760 : b513 ≠ b760 := Nat.ne_of_lt (Nat.lt_of_lt_of_le V706.lt (Nat.le_of_eq g760.symm))
      have ne_lt_b760 : lt ≠ b760 := Nat.ne_of_lt (Nat.lt_of_lt_of_le Fvb.lt (Nat.le_of_eq g760.symm))
      have F761 := F708.ext E760
      have F762 := F709.ext E760
      have F763 := F710.ext E760
      have F764 := V706.ext E760
      have F765 := Fvb.ext E760
      have Z766 : n0 ≤ h760.size := Nat.le_trans Z711 E760.1
      have K767 := K713.ext E760
      have CR768 := CR707.trans (CHr.ext E760 CR707.1)
      have kS769 := Nat.le_trans kS712 E760.1
      have F770 : Fld Z h760 b760 "java/lang/String" "value" "[B" .null := D760 (Or.inr (hw _ (List.mem_of_getElem? (i := 9) rfl))) (ty := (.array .byte)) (by decide)
      have F771 : Fld Z h760 b760 "java/lang/String" "coder" "B" (.int (0 : Int32)) := D760 (Or.inr (hw _ (List.mem_of_getElem? (i := 10) rfl))) (ty := .byte) (by decide)
      have P772 : own_Pr p.tables e below S0 T760 (mkF m 732 #[.val (.int p1), .val (.int p2), .val (.int p3), .val (.int p4), .val (.int p5), .val (.int z22), .val (.int z28), .val (.int z30), .val (.int z32), .val (.int z41), .val (.ref b50), .val (.ref b315), .val (.ref b513), .unset, .unset, .unset] [(.ref b760)]) := fun t k => P759 t (st760 _ k)
      have P773 : own_Pr p.tables e below S0 T760 (mkF m 735 #[.val (.int p1), .val (.int p2), .val (.int p3), .val (.int p4), .val (.int p5), .val (.int z22), .val (.int z28), .val (.int z30), .val (.int z32), .val (.int z41), .val (.ref b50), .val (.ref b315), .val (.ref b513), .unset, .unset, .unset] [(.ref b513), (.ref b760), (.ref b760)]) := fun t k => P772 t (by
        refine XS.dup X760.here hx rfl (hb hby at_732) rfl rfl ?_
        refine XS.aload X760.here hx rfl (hb hby at_733) rfl rfl ?_
        exact k)
      obtain ⟨_, _, ⟨T774, L774, k774, n774⟩, -, X774, ⟨Lc774, hQ774, l774, y774, z774⟩, st774⟩ := X760.specialBack hx (y := (⟨"java/lang/String", "<init>", "([C)V"⟩ : MethodName)) rfl hown (mvT hZ (hw _ (List.mem_of_getElem? (i := 53) rfl))) (mvT hZ (hw _ (List.mem_of_getElem? (i := 54) rfl))) (mvT hZ (hw _ (List.mem_of_getElem? (i := 55) rfl))) (by decide) (StrChars.Road.backV (W := 1) hZ (own_wV hw) (hw _ (List.mem_of_getElem? (i := 7) rfl)) (cs := [u0, u1, u2, z164v, z174v, z184v, z194v, z204v, z214v, z224v, z234v, z244v, z254v, z264v, z274v, z284v]) (n := 16) (n0 := n0) g_b760 Z766 A760 F770 F771 F764 (own_sta_keep0 CS K767) hcs rfl rfl (by decide) (by decide) hpp16 rfl (by decide) (by decide)) (g := (mkF m 735 #[.val (.int p1), .val (.int p2), .val (.int p3), .val (.int p4), .val (.int p5), .val (.int z22), .val (.int z28), .val (.int z30), .val (.int z32), .val (.int z41), .val (.ref b50), .val (.ref b315), .val (.ref b513), .unset, .unset, .unset] [(.ref b513), (.ref b760), (.ref b760)])) rfl (by rw [hml]; rfl) (Steps.refl _) (a := b760) (argsL := [(.ref b513)]) (rest := [(.ref b760)]) (lenOf pd_14 rfl) rfl (by show 2 * 0 + _ ≤ _; exact Nat.le_of_eq rfl) (hb hby at_735) (fun _ _ => ⟨rfl, e760, (by decide : 14 + 1 ≤ _), (by decide : 415 + 16 ≤ _)⟩)
      dsimp only [Pt.U, Pt.locs, Pt.cells, Pt.slots] at X774 l774 y774 z774 st774 hQ774
      rw [l774, y774, z774] at X774
      have X774 := X774.mono (cells' := 15) (slots' := 431) (by decide) (by decide)
      obtain ⟨rfl, Nq774, Kq774, Eq774, Cq774, tq774, kq774, -, zq774, -, Fq774, Aq774⟩ := hQ774
      have N774n := Fr.app NF706 Nq774
      have CR775 := CR768.trans (CHr.keep Kq774 (sfS (own_safeNull hZ.alike A760 F770) sf0) CR768.1)
      have F776 := A760.keep Kq774
      have Z779 := Nat.le_trans Z766 Kq774.1
      have K780 := K767.trans Kq774 (allS (Or.inr sz_b760) all0)
      have kS781 := Nat.le_trans kS769 Kq774.1
      have Sl774 := own_Sc.keepN F762 ⟨vbl, F765, l1b, l2b⟩ Kq774 (Nat.le_of_eq g760.symm)
      have Ss774 : own_Sc Z _ b760 16 (([u0, u1, u2, z164v, z174v, z184v, z194v, z204v, z214v, z224v, z234v, z244v, z254v, z264v, z274v, z284v] : List Int32).map StrChars.lo8) := ⟨_, _, Eq774, Cq774, Fq774, Aq774⟩
      have P782 : own_Pr p.tables e below S0 T774 (mkF m 738 #[.val (.int p1), .val (.int p2), .val (.int p3), .val (.int p4), .val (.int p5), .val (.int z22), .val (.int z28), .val (.int z30), .val (.int z32), .val (.int z41), .val (.ref b50), .val (.ref b315), .val (.ref b513), .unset, .unset, .unset] [(.ref b760)]) := fun t k => P773 t (st774.trans k)
      have P783 : own_Pr p.tables e below S0 T774 (mkF m 754 #[.val (.int p1), .val (.int p2), .val (.int p3), .val (.int p4), .val (.int p5), .val (.int z22), .val (.int z28), .val (.int z30), .val (.int z32), .val (.int z41), .val (.ref b50), .val (.ref b315), .val (.ref b513), .val (.ref b760), .unset, .unset] [(.ref b760)]) := fun t k => P782 t (by
        refine XS.goto X774.here hx rfl (pc0 := 738) (pc' := 750) rfl (hb hby at_738) (by decide) (by decide) ?_
        refine XS.astore X774.here hx rfl (hb hby at_750) rfl rfl (l' := #[.val (.int p1), .val (.int p2), .val (.int p3), .val (.int p4), .val (.int p5), .val (.int z22), .val (.int z28), .val (.int z30), .val (.int z32), .val (.int z41), .val (.ref b50), .val (.ref b315), .val (.ref b513), .val (.ref b760), .unset, .unset]) rfl ?_
        refine XS.aload X774.here hx rfl (hb hby at_752) rfl rfl ?_
        exact k)
      obtain ⟨_, _, ⟨T784, L784, k784, n784⟩, -, X784, ⟨Lc784, hQ784, l784, y784, z784⟩, st784⟩ := Jvm.LawKit.callS X774 hx (y := (⟨"com/example/firmhold/firmhold/Credentials$Permission", "named", "(Ljava/lang/String;)Ljava/util/Optional;"⟩ : MethodName)) hown (mvT hZ (hw _ (List.mem_of_getElem? (i := 73) rfl))) (mvT hZ (hw _ (List.mem_of_getElem? (i := 74) rfl))) (mvT hZ (hw _ (List.mem_of_getElem? (i := 75) rfl))) (mvT hZ (hw _ (List.mem_of_getElem? (i := 76) rfl))) (by decide) (backOf (W := 0) (rm16 l Z a0 hw [] b760 va bp fs em cv cs 16 [u0, u1, u2, z164v, z174v, z184v, z194v, z204v, z214v, z224v, z234v, z244v, z254v, z264v, z274v, z284v] T774.heap n0 Z779 (own_sta_keep0 SV K780) ⟨K780.2.1 _ _ Aa.1 nin0, Aa.2⟩ (Ea.keep K780) Fa hsz hel (Eb.keep K780) (Fb.keep K780 nin0) (Sf.keep0 K780) (Ee.keep K780) (Fe.keep K780 nin0) (own_sta_keep0 SE K780) Ss774 rfl (fun c hc => (hpp16 c hc).2) (fun c hc => ⟨(hpp16 c hc).1, own_255 (hpp16 c hc).2⟩) (Nat.le_of_ble_eq_true rfl) (own_sta_keep0 CS K780) hcs) hZ (hw _ (List.mem_of_getElem? (i := 76) rfl)) (hw _ (List.mem_of_getElem? (i := 75) rfl)) (by decide) (by decide)) (g := (mkF m 754 #[.val (.int p1), .val (.int p2), .val (.int p3), .val (.int p4), .val (.int p5), .val (.int z22), .val (.int z28), .val (.int z30), .val (.int z32), .val (.int z41), .val (.ref b50), .val (.ref b315), .val (.ref b513), .val (.ref b760), .unset, .unset] [(.ref b760)])) rfl (by rw [hml]; rfl) (argsL := [(.ref b760)]) (rest := []) (lenOf pd_15 rfl) rfl (by show 2 * 0 + _ ≤ _; exact Nat.le_of_eq rfl) (hb hby at_754) (fun _ _ => ⟨rfl, rfl, (by decide : 15 + 2 ≤ _), (by decide : 431 + 2 ≤ _)⟩)
      dsimp only [Pt.U, Pt.locs, Pt.cells, Pt.slots] at X784 l784 y784 z784 st784 hQ784
      rw [l784, y784, z784] at X784
      have X784 := X784.mono (cells' := 17) (slots' := 433) (by decide) (by decide)
      obtain ⟨s784, rfl, Nq784, Kq784, Eq784, Fq784⟩ := hQ784
      have N784n := Fr.app N774n Nq784
      have CR785 := CR775.trans (CHr.keep Kq784 sf0 CR775.1)
      have F786 := Sl774.keep0 Kq784
      have Z787 := Nat.le_trans Z779 Kq784.1
      have K788 := K780.trans Kq784 all0
      have kS789 := Nat.le_trans kS781 Kq784.1
      rw [if_neg (own_lenNe (us := [u0, u1, u2, z164v, z174v, z184v, z194v, z204v, z214v, z224v, z234v, z244v, z254v, z264v, z274v, z284v]) (n := 16) rfl (by decide))] at Fq784
      have P790 : own_Pr p.tables e below S0 T784 (mkF m 757 #[.val (.int p1), .val (.int p2), .val (.int p3), .val (.int p4), .val (.int p5), .val (.int z22), .val (.int z28), .val (.int z30), .val (.int z32), .val (.int z41), .val (.ref b50), .val (.ref b315), .val (.ref b513), .val (.ref b760), .unset, .unset] [(.ref s784)]) := fun t k => P783 t (st784 _ k)
      have P791 : own_Pr p.tables e below S0 T784 (mkF m 850 #[.val (.int p1), .val (.int p2), .val (.int p3), .val (.int p4), .val (.int p5), .val (.int z22), .val (.int z28), .val (.int z30), .val (.int z32), .val (.int z41), .val (.ref b50), .val (.ref b315), .val (.ref b513), .val (.ref b760), .val (.ref s784), .val (.int 0)] [(.ref s784)]) := fun t k => P790 t (by
        refine XS.astore X784.here hx rfl (hb hby at_757) rfl rfl (l' := #[.val (.int p1), .val (.int p2), .val (.int p3), .val (.int p4), .val (.int p5), .val (.int z22), .val (.int z28), .val (.int z30), .val (.int z32), .val (.int z41), .val (.ref b50), .val (.ref b315), .val (.ref b513), .val (.ref b760), .val (.ref s784), .unset]) rfl ?_
        refine XS.iload X784.here hx rfl (hb hby at_759) rfl ?_
        refine XS.ifYes X784.here hx rfl (pc0 := 761) (pc' := 784) rfl (hb hby at_761) rfl (XT.i0_ne_t (by rw [hc726_758]; decide)) (by decide) (by decide) ?_
        refine XS.iload X784.here hx rfl (hb hby at_784) rfl ?_
        refine XS.iconst X784.here hx rfl (hb hby at_786) ?_
        refine XS.icmpYes X784.here hx rfl (pc0 := 787) (pc' := 845) rfl (hb hby at_787) rfl (XT.ii_ne_t (by rw [hc726_758]; decide)) (by decide) (by decide) ?_
        refine XS.iconst X784.here hx rfl (hb hby at_845) ?_
        refine XS.istore X784.here hx rfl (hb hby at_846) rfl (l' := #[.val (.int p1), .val (.int p2), .val (.int p3), .val (.int p4), .val (.int p5), .val (.int z22), .val (.int z28), .val (.int z30), .val (.int z32), .val (.int z41), .val (.ref b50), .val (.ref b315), .val (.ref b513), .val (.ref b760), .val (.ref s784), .val (.int 0)]) rfl ?_
        refine XS.aload X784.here hx rfl (hb hby at_848) rfl rfl ?_
        exact k)
      obtain ⟨cq792, kq792, q792a, q792b, q792c⟩ := isOf hZ rfl Eq784
      obtain ⟨_, _, ⟨T792, L792, k792, n792⟩, -, X792, ⟨Lc792, hQ792, l792, y792, z792⟩, st792⟩ := X784.virtualBack hx (y := (⟨"java/util/Optional", "isPresent", "()Z"⟩ : MethodName)) (z := (⟨"java/util/Optional", "isPresent", "()Z"⟩ : MethodName)) hown (mvT hZ (hw _ (List.mem_of_getElem? (i := 121) rfl))) (mvT hZ (hw _ (List.mem_of_getElem? (i := 122) rfl))) (notFace_of_selects (args := #[]) (mvT hZ (hw _ (List.mem_of_getElem? (i := 124) rfl)))) (mvT hZ (hw _ (List.mem_of_getElem? (i := 124) rfl))) (mvT hZ (hw _ (List.mem_of_getElem? (i := 123) rfl))) (by decide) (backOf (W := 0) (rm23_n l Z a0 hw [] s784 bp T784.heap n0 Z787 Fq784) hZ (hw _ (List.mem_of_getElem? (i := 125) rfl)) (hw _ (List.mem_of_getElem? (i := 106) rfl)) (by decide) (by decide)) q792a q792c (g := (mkF m 850 #[.val (.int p1), .val (.int p2), .val (.int p3), .val (.int p4), .val (.int p5), .val (.int z22), .val (.int z28), .val (.int z30), .val (.int z32), .val (.int z41), .val (.ref b50), .val (.ref b315), .val (.ref b513), .val (.ref b760), .val (.ref s784), .val (.int 0)] [(.ref s784)])) rfl (by rw [hml]; rfl) (Steps.refl _) (argsL := []) (rest := []) (lenOf pd_3 rfl) rfl (by show 2 * 0 + _ ≤ _; exact Nat.le_of_eq rfl) (hb hby at_850) (fun _ _ => ⟨rfl, rfl, (by decide : 17 + 0 ≤ _), (by decide : 433 + 0 ≤ _)⟩)
      dsimp only [Pt.U, Pt.locs, Pt.cells, Pt.slots] at X792 l792 y792 z792 st792 hQ792
      rw [l792, y792, z792] at X792
      have X792 := X792.mono (cells' := 17) (slots' := 433) (by decide) (by decide)
      obtain ⟨z792v, rfl, hz792v, Nq792, eq792⟩ := hQ792
      have N792n := Fr.app N784n Nq792
      have hy792 := hz792v.symm; subst hy792
      have P793 : own_Pr p.tables e below S0 T792 (mkF m 853 #[.val (.int p1), .val (.int p2), .val (.int p3), .val (.int p4), .val (.int p5), .val (.int z22), .val (.int z28), .val (.int z30), .val (.int z32), .val (.int z41), .val (.ref b50), .val (.ref b315), .val (.ref b513), .val (.ref b760), .val (.ref s784), .val (.int 0)] [(.int 0)]) := fun t k => P791 t (st792.trans k)
      have P794 : own_Pr p.tables e below S0 T792 (mkF m 860 #[.val (.int p1), .val (.int p2), .val (.int p3), .val (.int p4), .val (.int p5), .val (.int z22), .val (.int z28), .val (.int z30), .val (.int z32), .val (.int z41), .val (.ref b50), .val (.ref b315), .val (.ref b513), .val (.ref b760), .val (.ref s784), .val (.int 0)] [(.ref s784)]) := fun t k => P793 t (by
        refine XS.iload X792.here hx rfl (hb hby at_853) rfl ?_
        refine XS.icmpNo X792.here hx rfl (hb hby at_855) rfl (by decide) ?_
        refine XS.aload X792.here hx rfl (hb hby at_858) rfl rfl ?_
        exact k)
      obtain ⟨cq795, kq795, q795a, q795b, q795c⟩ := isOf hZ eq792 Eq784
      obtain ⟨_, _, ⟨T795, L795, k795, n795⟩, -, X795, ⟨Lc795, hQ795, l795, y795, z795⟩, st795⟩ := X792.virtualBack hx (y := (⟨"java/util/Optional", "isPresent", "()Z"⟩ : MethodName)) (z := (⟨"java/util/Optional", "isPresent", "()Z"⟩ : MethodName)) hown (mvT hZ (hw _ (List.mem_of_getElem? (i := 121) rfl))) (mvT hZ (hw _ (List.mem_of_getElem? (i := 122) rfl))) (notFace_of_selects (args := #[]) (mvT hZ (hw _ (List.mem_of_getElem? (i := 124) rfl)))) (mvT hZ (hw _ (List.mem_of_getElem? (i := 124) rfl))) (mvT hZ (hw _ (List.mem_of_getElem? (i := 123) rfl))) (by decide) (backOf (W := 0) (rm23_n l Z a0 hw [] s784 bp T784.heap n0 Z787 Fq784) hZ (hw _ (List.mem_of_getElem? (i := 125) rfl)) (hw _ (List.mem_of_getElem? (i := 106) rfl)) (by decide) (by decide)) q795a q795c (g := (mkF m 860 #[.val (.int p1), .val (.int p2), .val (.int p3), .val (.int p4), .val (.int p5), .val (.int z22), .val (.int z28), .val (.int z30), .val (.int z32), .val (.int z41), .val (.ref b50), .val (.ref b315), .val (.ref b513), .val (.ref b760), .val (.ref s784), .val (.int 0)] [(.ref s784)])) rfl (by rw [hml]; rfl) (Steps.refl _) (argsL := []) (rest := []) (lenOf pd_3 rfl) rfl (by show 2 * 0 + _ ≤ _; exact Nat.le_of_eq rfl) (hb hby at_860) (fun _ _ => ⟨rfl, eq792, (by decide : 17 + 0 ≤ _), (by decide : 433 + 0 ≤ _)⟩)
      dsimp only [Pt.U, Pt.locs, Pt.cells, Pt.slots] at X795 l795 y795 z795 st795 hQ795
      rw [l795, y795, z795] at X795
      have X795 := X795.mono (cells' := 17) (slots' := 433) (by decide) (by decide)
      obtain ⟨z795v, rfl, hz795v, Nq795, eq795⟩ := hQ795
      have N795n := Fr.app N792n Nq795
      have hy795 := hz795v.symm; subst hy795
      have P796 : own_Pr p.tables e below S0 T795 (mkF m 863 #[.val (.int p1), .val (.int p2), .val (.int p3), .val (.int p4), .val (.int p5), .val (.int z22), .val (.int z28), .val (.int z30), .val (.int z32), .val (.int z41), .val (.ref b50), .val (.ref b315), .val (.ref b513), .val (.ref b760), .val (.ref s784), .val (.int 0)] [(.int 0)]) := fun t k => P794 t (st795.trans k)
      have P797 : own_Pr p.tables e below S0 T795 (mkF m 882 #[.val (.int p1), .val (.int p2), .val (.int p3), .val (.int p4), .val (.int p5), .val (.int z22), .val (.int z28), .val (.int z30), .val (.int z32), .val (.int z41), .val (.ref b50), .val (.ref b315), .val (.ref b513), .val (.ref b760), .val (.ref s784), .val (.int 0)] [(.int 1)]) := fun t k => P796 t (by
        refine XS.ifYes X795.here hx rfl (pc0 := 863) (pc' := 877) rfl (hb hby at_863) rfl (by decide) (by decide) (by decide) ?_
        refine XS.iconst X795.here hx rfl (hb hby at_877) ?_
        refine XS.goto X795.here hx rfl (pc0 := 878) (pc' := 882) rfl (hb hby at_878) (by decide) (by decide) ?_
        exact k)
      obtain ⟨fs, hr, hrun, hended, hend⟩ := X795.leaveW hSn (by rw [eq795]; exact kS789) (v := some (.int 1)) (fun h => by rw [Bd.returns] at h; cases h)
      have fin : Steps p.tables e below S0 (T795.setFrames fs) := P797 _ (retN X795 hx (t := .boolean) Bd.returns (by simp) (hb hby at_882) hr)
      rw [hS0] at fin
      refine ⟨_, _, fin, hrun, hended, _, _, rfl, ?_, (show CHr Z consts_1 s.vm s.heap T795.vm T795.heap by rw [hh, eq795]; exact CR785.trans (CHv.at X795 hZ (own_EW hw) CR785.1)), hend.1, hend.2.1, hend.2.2.1, hend.2.2.2.mono (by decide) (by decide)⟩
      show own_QL n0 _ _
      exact ⟨_, rfl, rfl, N795n⟩
    · have P798 : own_Pr p.tables e below S0 T706 (mkF m 741 #[.val (.int p1), .val (.int p2), .val (.int p3), .val (.int p4), .val (.int p5), .val (.int z22), .val (.int z28), .val (.int z30), .val (.int z32), .val (.int z41), .val (.ref b50), .val (.ref b315), .val (.ref b513), .unset, .unset, .unset] []) := fun t k => P757 t (by
        refine XS.icmpYes X706.here hx rfl (pc0 := 726) (pc' := 741) rfl (hb hby at_726) rfl (XT.ii_ne_t hc726_758) (by decide) (by decide) ?_
        exact k)
      obtain ⟨vbl, Fvb, l1b, l2b⟩ := own_Sc.lts F709
      obtain ⟨T799, h799, X799, e799, E799, A799, D799, -, st799⟩ := newO X706 hx hZ hown (hw _ (List.mem_of_getElem? (i := 52) rfl)) (hw _ (List.mem_of_getElem? (i := 7) rfl)) (hw _ (List.mem_of_getElem? (i := 6) rfl)) e706 (g := (mkF m 741 #[.val (.int p1), .val (.int p2), .val (.int p3), .val (.int p4), .val (.int p5), .val (.int z22), .val (.int z28), .val (.int z30), .val (.int z32), .val (.int z41), .val (.ref b50), .val (.ref b315), .val (.ref b513), .unset, .unset, .unset] [])) rfl (hb hby at_741) (by decide) (by decide)
      obtain ⟨b799, g799⟩ : ∃ z, z = h706.size := ⟨_, rfl⟩
      rw [← g799] at A799 D799 st799
      have g_b799 : n0 ≤ b799 := Nat.le_trans Z711 (Nat.le_of_eq g799.symm)
      have sz_b799 : h0.size ≤ b799 := Nat.le_trans K713.1 (Nat.le_of_eq g799.symm)
      have ne_b50_b799 : b50 ≠ b799 := Nat.ne_of_lt (Nat.lt_of_lt_of_le F708.lt (Nat.le_of_eq g799.symm))
      have ne_b315_b799 : b315 ≠ b799 := Nat.ne_of_lt (Nat.lt_of_lt_of_le F710.lt (Nat.le_of_eq g799.symm))
      have ne_b513_b799 : b513 ≠ b799 := Nat.ne_of_lt (Nat.lt_of_lt_of_le V706.lt (Nat.le_of_eq g799.symm))
      have ne_lt_b799 : lt ≠ b799 := Nat.ne_of_lt (Nat.lt_of_lt_of_le Fvb.lt (Nat.le_of_eq g799.symm))
      have F800 := F708.ext E799
      have F801 := F709.ext E799
      have F802 := F710.ext E799
      have F803 := V706.ext E799
      have F804 := Fvb.ext E799
      have Z805 : n0 ≤ h799.size := Nat.le_trans Z711 E799.1
      have K806 := K713.ext E799
      have CR807 := CR707.trans (CHr.ext E799 CR707.1)
      have kS808 := Nat.le_trans kS712 E799.1
      have F809 : Fld Z h799 b799 "java/lang/String" "value" "[B" .null := D799 (Or.inr (hw _ (List.mem_of_getElem? (i := 9) rfl))) (ty := (.array .byte)) (by decide)
      have F810 : Fld Z h799 b799 "java/lang/String" "coder" "B" (.int (0 : Int32)) := D799 (Or.inr (hw _ (List.mem_of_getElem? (i := 10) rfl))) (ty := .byte) (by decide)
      have P811 : own_Pr p.tables e below S0 T799 (mkF m 744 #[.val (.int p1), .val (.int p2), .val (.int p3), .val (.int p4), .val (.int p5), .val (.int z22), .val (.int z28), .val (.int z30), .val (.int z32), .val (.int z41), .val (.ref b50), .val (.ref b315), .val (.ref b513), .unset, .unset, .unset] [(.ref b799)]) := fun t k => P798 t (st799 _ k)
      have P812 : own_Pr p.tables e below S0 T799 (mkF m 747 #[.val (.int p1), .val (.int p2), .val (.int p3), .val (.int p4), .val (.int p5), .val (.int z22), .val (.int z28), .val (.int z30), .val (.int z32), .val (.int z41), .val (.ref b50), .val (.ref b315), .val (.ref b513), .unset, .unset, .unset] [(.ref b315), (.ref b799), (.ref b799)]) := fun t k => P811 t (by
        refine XS.dup X799.here hx rfl (hb hby at_744) rfl rfl ?_
        refine XS.aload X799.here hx rfl (hb hby at_745) rfl rfl ?_
        exact k)
      obtain ⟨_, _, ⟨T813, L813, k813, n813⟩, -, X813, ⟨Lc813, hQ813, l813, y813, z813⟩, st813⟩ := X799.specialBack hx (y := (⟨"java/lang/String", "<init>", "([C)V"⟩ : MethodName)) rfl hown (mvT hZ (hw _ (List.mem_of_getElem? (i := 53) rfl))) (mvT hZ (hw _ (List.mem_of_getElem? (i := 54) rfl))) (mvT hZ (hw _ (List.mem_of_getElem? (i := 55) rfl))) (by decide) (StrChars.Road.backV (W := 1) hZ (own_wV hw) (hw _ (List.mem_of_getElem? (i := 7) rfl)) (cs := [u0, u1, u2, z164v, z174v, z184v, z194v, z204v, z214v, z224v, z234v, z244v, z254v, z264v, z274v, z284v, z294v]) (n := 17) (n0 := n0) g_b799 Z805 A799 F809 F810 F802 (own_sta_keep0 CS K806) hcs rfl rfl (by decide) (by decide) hpp17 rfl (by decide) (by decide)) (g := (mkF m 747 #[.val (.int p1), .val (.int p2), .val (.int p3), .val (.int p4), .val (.int p5), .val (.int z22), .val (.int z28), .val (.int z30), .val (.int z32), .val (.int z41), .val (.ref b50), .val (.ref b315), .val (.ref b513), .unset, .unset, .unset] [(.ref b315), (.ref b799), (.ref b799)])) rfl (by rw [hml]; rfl) (Steps.refl _) (a := b799) (argsL := [(.ref b315)]) (rest := [(.ref b799)]) (lenOf pd_14 rfl) rfl (by show 2 * 0 + _ ≤ _; exact Nat.le_of_eq rfl) (hb hby at_747) (fun _ _ => ⟨rfl, e799, (by decide : 14 + 1 ≤ _), (by decide : 415 + 17 ≤ _)⟩)
      dsimp only [Pt.U, Pt.locs, Pt.cells, Pt.slots] at X813 l813 y813 z813 st813 hQ813
      rw [l813, y813, z813] at X813
      have X813 := X813.mono (cells' := 15) (slots' := 432) (by decide) (by decide)
      obtain ⟨rfl, Nq813, Kq813, Eq813, Cq813, tq813, kq813, -, zq813, -, Fq813, Aq813⟩ := hQ813
      have N813n := Fr.app NF706 Nq813
      have CR814 := CR807.trans (CHr.keep Kq813 (sfS (own_safeNull hZ.alike A799 F809) sf0) CR807.1)
      have F815 := A799.keep Kq813
      have Z818 := Nat.le_trans Z805 Kq813.1
      have K819 := K806.trans Kq813 (allS (Or.inr sz_b799) all0)
      have kS820 := Nat.le_trans kS808 Kq813.1
      have Sl813 := own_Sc.keepN F801 ⟨vbl, F804, l1b, l2b⟩ Kq813 (Nat.le_of_eq g799.symm)
      have Ss813 : own_Sc Z _ b799 17 (([u0, u1, u2, z164v, z174v, z184v, z194v, z204v, z214v, z224v, z234v, z244v, z254v, z264v, z274v, z284v, z294v] : List Int32).map StrChars.lo8) := ⟨_, _, Eq813, Cq813, Fq813, Aq813⟩
      have P821 : own_Pr p.tables e below S0 T813 (mkF m 750 #[.val (.int p1), .val (.int p2), .val (.int p3), .val (.int p4), .val (.int p5), .val (.int z22), .val (.int z28), .val (.int z30), .val (.int z32), .val (.int z41), .val (.ref b50), .val (.ref b315), .val (.ref b513), .unset, .unset, .unset] [(.ref b799)]) := fun t k => P812 t (st813.trans k)
      have P822 : own_Pr p.tables e below S0 T813 (mkF m 754 #[.val (.int p1), .val (.int p2), .val (.int p3), .val (.int p4), .val (.int p5), .val (.int z22), .val (.int z28), .val (.int z30), .val (.int z32), .val (.int z41), .val (.ref b50), .val (.ref b315), .val (.ref b513), .val (.ref b799), .unset, .unset] [(.ref b799)]) := fun t k => P821 t (by
        refine XS.astore X813.here hx rfl (hb hby at_750) rfl rfl (l' := #[.val (.int p1), .val (.int p2), .val (.int p3), .val (.int p4), .val (.int p5), .val (.int z22), .val (.int z28), .val (.int z30), .val (.int z32), .val (.int z41), .val (.ref b50), .val (.ref b315), .val (.ref b513), .val (.ref b799), .unset, .unset]) rfl ?_
        refine XS.aload X813.here hx rfl (hb hby at_752) rfl rfl ?_
        exact k)
      obtain ⟨_, _, ⟨T823, L823, k823, n823⟩, -, X823, ⟨Lc823, hQ823, l823, y823, z823⟩, st823⟩ := Jvm.LawKit.callS X813 hx (y := (⟨"com/example/firmhold/firmhold/Credentials$Permission", "named", "(Ljava/lang/String;)Ljava/util/Optional;"⟩ : MethodName)) hown (mvT hZ (hw _ (List.mem_of_getElem? (i := 73) rfl))) (mvT hZ (hw _ (List.mem_of_getElem? (i := 74) rfl))) (mvT hZ (hw _ (List.mem_of_getElem? (i := 75) rfl))) (mvT hZ (hw _ (List.mem_of_getElem? (i := 76) rfl))) (by decide) (backOf (W := 0) (rm16 l Z a0 hw [] b799 va bp fs em cv cs 17 [u0, u1, u2, z164v, z174v, z184v, z194v, z204v, z214v, z224v, z234v, z244v, z254v, z264v, z274v, z284v, z294v] T813.heap n0 Z818 (own_sta_keep0 SV K819) ⟨K819.2.1 _ _ Aa.1 nin0, Aa.2⟩ (Ea.keep K819) Fa hsz hel (Eb.keep K819) (Fb.keep K819 nin0) (Sf.keep0 K819) (Ee.keep K819) (Fe.keep K819 nin0) (own_sta_keep0 SE K819) Ss813 rfl (fun c hc => (hpp17 c hc).2) (fun c hc => ⟨(hpp17 c hc).1, own_255 (hpp17 c hc).2⟩) (Nat.le_of_ble_eq_true rfl) (own_sta_keep0 CS K819) hcs) hZ (hw _ (List.mem_of_getElem? (i := 76) rfl)) (hw _ (List.mem_of_getElem? (i := 75) rfl)) (by decide) (by decide)) (g := (mkF m 754 #[.val (.int p1), .val (.int p2), .val (.int p3), .val (.int p4), .val (.int p5), .val (.int z22), .val (.int z28), .val (.int z30), .val (.int z32), .val (.int z41), .val (.ref b50), .val (.ref b315), .val (.ref b513), .val (.ref b799), .unset, .unset] [(.ref b799)])) rfl (by rw [hml]; rfl) (argsL := [(.ref b799)]) (rest := []) (lenOf pd_15 rfl) rfl (by show 2 * 0 + _ ≤ _; exact Nat.le_of_eq rfl) (hb hby at_754) (fun _ _ => ⟨rfl, rfl, (by decide : 15 + 2 ≤ _), (by decide : 432 + 2 ≤ _)⟩)
      dsimp only [Pt.U, Pt.locs, Pt.cells, Pt.slots] at X823 l823 y823 z823 st823 hQ823
      rw [l823, y823, z823] at X823
      have X823 := X823.mono (cells' := 17) (slots' := 434) (by decide) (by decide)
      obtain ⟨s823, rfl, Nq823, Kq823, Eq823, Fq823⟩ := hQ823
      have N823n := Fr.app N813n Nq823
      have CR824 := CR814.trans (CHr.keep Kq823 sf0 CR814.1)
      have F825 := Sl813.keep0 Kq823
      have Z826 := Nat.le_trans Z818 Kq823.1
      have K827 := K819.trans Kq823 all0
      have kS828 := Nat.le_trans kS820 Kq823.1
      by_cases hE : own_XS = [u0, u1, u2, z164v, z174v, z184v, z194v, z204v, z214v, z224v, z234v, z244v, z254v, z264v, z274v, z284v, z294v]
      · have _u := hE
        rw [if_pos hE] at Fq823
        have P829 : own_Pr p.tables e below S0 T823 (mkF m 757 #[.val (.int p1), .val (.int p2), .val (.int p3), .val (.int p4), .val (.int p5), .val (.int z22), .val (.int z28), .val (.int z30), .val (.int z32), .val (.int z41), .val (.ref b50), .val (.ref b315), .val (.ref b513), .val (.ref b799), .unset, .unset] [(.ref s823)]) := fun t k => P822 t (st823 _ k)
        have P830 : own_Pr p.tables e below S0 T823 (mkF m 761 #[.val (.int p1), .val (.int p2), .val (.int p3), .val (.int p4), .val (.int p5), .val (.int z22), .val (.int z28), .val (.int z30), .val (.int z32), .val (.int z41), .val (.ref b50), .val (.ref b315), .val (.ref b513), .val (.ref b799), .val (.ref s823), .unset] [(.int z22)]) := fun t k => P829 t (by
          refine XS.astore X823.here hx rfl (hb hby at_757) rfl rfl (l' := #[.val (.int p1), .val (.int p2), .val (.int p3), .val (.int p4), .val (.int p5), .val (.int z22), .val (.int z28), .val (.int z30), .val (.int z32), .val (.int z41), .val (.ref b50), .val (.ref b315), .val (.ref b513), .val (.ref b799), .val (.ref s823), .unset]) rfl ?_
          refine XS.iload X823.here hx rfl (hb hby at_759) rfl ?_
          exact k)
        by_cases hc761_831 : z22 = (0 : Int32)
        · have P832 : own_Pr p.tables e below S0 T823 (mkF m 768 #[.val (.int p1), .val (.int p2), .val (.int p3), .val (.int p4), .val (.int p5), .val (.int z22), .val (.int z28), .val (.int z30), .val (.int z32), .val (.int z41), .val (.ref b50), .val (.ref b315), .val (.ref b513), .val (.ref b799), .val (.ref s823), .unset] [(.int z28), (.int z32)]) := fun t k => P830 t (by
            refine XS.ifNo X823.here hx rfl (hb hby at_761) rfl (XT.i0_ne_f hc761_831) ?_
            refine XS.iload X823.here hx rfl (hb hby at_764) rfl ?_
            refine XS.iload X823.here hx rfl (hb hby at_766) rfl ?_
            exact k)
          obtain ⟨_, _, ⟨T833, L833, k833, n833⟩, -, X833, ⟨Lc833, hQ833, l833, y833, z833⟩, st833⟩ := Jvm.LawKit.callS X823 hx (y := (⟨"com/example/firmhold/firmhold/PermissionNamedPinLaw", "nm", "(I)C"⟩ : MethodName)) hown (mvT hZ (hw _ (List.mem_of_getElem? (i := 1) rfl))) (mvT hZ (hw _ (List.mem_of_getElem? (i := 2) rfl))) (mvT hZ (hw _ (List.mem_of_getElem? (i := 3) rfl))) (mvT hZ (hw _ (List.mem_of_getElem? (i := 4) rfl))) (by decide) (own_backL (W := 1) (rm1_b l Z a0 hw [] z28 lt cs fm T823.heap n0 Z826 F825 (own_sta_keep0 CS K827) hcs (own_sta_keep0 FM K827) hr_fm) hZ (hw _ (List.mem_of_getElem? (i := 4) rfl)) (hw _ (List.mem_of_getElem? (i := 3) rfl)) (by decide) (by decide) (fun vm hv => (State.resolvedAt?_warmed39 hv Lt))) (g := (mkF m 768 #[.val (.int p1), .val (.int p2), .val (.int p3), .val (.int p4), .val (.int p5), .val (.int z22), .val (.int z28), .val (.int z30), .val (.int z32), .val (.int z41), .val (.ref b50), .val (.ref b315), .val (.ref b513), .val (.ref b799), .val (.ref s823), .unset] [(.int z28), (.int z32)])) rfl (by rw [hml]; rfl) (argsL := [(.int z28)]) (rest := [(.int z32)]) (lenOf pd_6 rfl) rfl (by show 2 * 0 + _ ≤ _; exact Nat.le_of_eq rfl) (hb hby at_768) (fun _ _ => ⟨rfl, rfl, (by decide : 17 + 0 ≤ _), (by decide : 434 + 0 ≤ _)⟩)
          dsimp only [Pt.U, Pt.locs, Pt.cells, Pt.slots] at X833 l833 y833 z833 st833 hQ833
          rw [l833, y833, z833] at X833
          have X833 := X833.mono (cells' := 17) (slots' := 434) (by decide) (by decide)
          obtain ⟨z833v, rfl, hz833v, Nq833, eq833⟩ := hQ833
          have N833n := Fr.app N823n Nq833
          have hy833 := hz833v.symm; subst hy833
          have P834 : own_Pr p.tables e below S0 T833 (mkF m 771 #[.val (.int p1), .val (.int p2), .val (.int p3), .val (.int p4), .val (.int p5), .val (.int z22), .val (.int z28), .val (.int z30), .val (.int z32), .val (.int z41), .val (.ref b50), .val (.ref b315), .val (.ref b513), .val (.ref b799), .val (.ref s823), .unset] [(.int (own_nm z28)), (.int z32)]) := fun t k => P832 t (st833 _ k)
          by_cases hc771_835 : z32 = (own_nm z28)
          · have P836 : own_Pr p.tables e below S0 T833 (mkF m 850 #[.val (.int p1), .val (.int p2), .val (.int p3), .val (.int p4), .val (.int p5), .val (.int z22), .val (.int z28), .val (.int z30), .val (.int z32), .val (.int z41), .val (.ref b50), .val (.ref b315), .val (.ref b513), .val (.ref b799), .val (.ref s823), .val (.int 1)] [(.ref s823)]) := fun t k => P834 t (by
              refine XS.icmpNo X833.here hx rfl (hb hby at_771) rfl (XT.ii_ne_f hc771_835) ?_
              refine XS.iconst X833.here hx rfl (hb hby at_774) ?_
              refine XS.goto X833.here hx rfl (pc0 := 775) (pc' := 779) rfl (hb hby at_775) (by decide) (by decide) ?_
              refine XS.istore X833.here hx rfl (hb hby at_779) rfl (l' := #[.val (.int p1), .val (.int p2), .val (.int p3), .val (.int p4), .val (.int p5), .val (.int z22), .val (.int z28), .val (.int z30), .val (.int z32), .val (.int z41), .val (.ref b50), .val (.ref b315), .val (.ref b513), .val (.ref b799), .val (.ref s823), .val (.int 1)]) rfl ?_
              refine XS.goto X833.here hx rfl (pc0 := 781) (pc' := 848) rfl (hb hby at_781) (by decide) (by decide) ?_
              refine XS.aload X833.here hx rfl (hb hby at_848) rfl rfl ?_
              exact k)
            obtain ⟨cq837, kq837, q837a, q837b, q837c⟩ := isOf hZ eq833 Eq823
            obtain ⟨_, _, ⟨T837, L837, k837, n837⟩, -, X837, ⟨Lc837, hQ837, l837, y837, z837⟩, st837⟩ := X833.virtualBack hx (y := (⟨"java/util/Optional", "isPresent", "()Z"⟩ : MethodName)) (z := (⟨"java/util/Optional", "isPresent", "()Z"⟩ : MethodName)) hown (mvT hZ (hw _ (List.mem_of_getElem? (i := 121) rfl))) (mvT hZ (hw _ (List.mem_of_getElem? (i := 122) rfl))) (notFace_of_selects (args := #[]) (mvT hZ (hw _ (List.mem_of_getElem? (i := 124) rfl)))) (mvT hZ (hw _ (List.mem_of_getElem? (i := 124) rfl))) (mvT hZ (hw _ (List.mem_of_getElem? (i := 123) rfl))) (by decide) (backOf (W := 0) (rm23_p l Z a0 hw [] s823 bp T823.heap n0 Z826 Fq823) hZ (hw _ (List.mem_of_getElem? (i := 125) rfl)) (hw _ (List.mem_of_getElem? (i := 106) rfl)) (by decide) (by decide)) q837a q837c (g := (mkF m 850 #[.val (.int p1), .val (.int p2), .val (.int p3), .val (.int p4), .val (.int p5), .val (.int z22), .val (.int z28), .val (.int z30), .val (.int z32), .val (.int z41), .val (.ref b50), .val (.ref b315), .val (.ref b513), .val (.ref b799), .val (.ref s823), .val (.int 1)] [(.ref s823)])) rfl (by rw [hml]; rfl) (Steps.refl _) (argsL := []) (rest := []) (lenOf pd_3 rfl) rfl (by show 2 * 0 + _ ≤ _; exact Nat.le_of_eq rfl) (hb hby at_850) (fun _ _ => ⟨rfl, eq833, (by decide : 17 + 0 ≤ _), (by decide : 434 + 0 ≤ _)⟩)
            dsimp only [Pt.U, Pt.locs, Pt.cells, Pt.slots] at X837 l837 y837 z837 st837 hQ837
            rw [l837, y837, z837] at X837
            have X837 := X837.mono (cells' := 17) (slots' := 434) (by decide) (by decide)
            obtain ⟨z837v, rfl, hz837v, Nq837, eq837⟩ := hQ837
            have N837n := Fr.app N833n Nq837
            have hy837 := hz837v.symm; subst hy837
            have P838 : own_Pr p.tables e below S0 T837 (mkF m 853 #[.val (.int p1), .val (.int p2), .val (.int p3), .val (.int p4), .val (.int p5), .val (.int z22), .val (.int z28), .val (.int z30), .val (.int z32), .val (.int z41), .val (.ref b50), .val (.ref b315), .val (.ref b513), .val (.ref b799), .val (.ref s823), .val (.int 1)] [(.int 1)]) := fun t k => P836 t (st837.trans k)
            have P839 : own_Pr p.tables e below S0 T837 (mkF m 860 #[.val (.int p1), .val (.int p2), .val (.int p3), .val (.int p4), .val (.int p5), .val (.int z22), .val (.int z28), .val (.int z30), .val (.int z32), .val (.int z41), .val (.ref b50), .val (.ref b315), .val (.ref b513), .val (.ref b799), .val (.ref s823), .val (.int 1)] [(.ref s823)]) := fun t k => P838 t (by
              refine XS.iload X837.here hx rfl (hb hby at_853) rfl ?_
              refine XS.icmpNo X837.here hx rfl (hb hby at_855) rfl (by decide) ?_
              refine XS.aload X837.here hx rfl (hb hby at_858) rfl rfl ?_
              exact k)
            obtain ⟨cq840, kq840, q840a, q840b, q840c⟩ := isOf hZ eq837 Eq823
            obtain ⟨_, _, ⟨T840, L840, k840, n840⟩, -, X840, ⟨Lc840, hQ840, l840, y840, z840⟩, st840⟩ := X837.virtualBack hx (y := (⟨"java/util/Optional", "isPresent", "()Z"⟩ : MethodName)) (z := (⟨"java/util/Optional", "isPresent", "()Z"⟩ : MethodName)) hown (mvT hZ (hw _ (List.mem_of_getElem? (i := 121) rfl))) (mvT hZ (hw _ (List.mem_of_getElem? (i := 122) rfl))) (notFace_of_selects (args := #[]) (mvT hZ (hw _ (List.mem_of_getElem? (i := 124) rfl)))) (mvT hZ (hw _ (List.mem_of_getElem? (i := 124) rfl))) (mvT hZ (hw _ (List.mem_of_getElem? (i := 123) rfl))) (by decide) (backOf (W := 0) (rm23_p l Z a0 hw [] s823 bp T823.heap n0 Z826 Fq823) hZ (hw _ (List.mem_of_getElem? (i := 125) rfl)) (hw _ (List.mem_of_getElem? (i := 106) rfl)) (by decide) (by decide)) q840a q840c (g := (mkF m 860 #[.val (.int p1), .val (.int p2), .val (.int p3), .val (.int p4), .val (.int p5), .val (.int z22), .val (.int z28), .val (.int z30), .val (.int z32), .val (.int z41), .val (.ref b50), .val (.ref b315), .val (.ref b513), .val (.ref b799), .val (.ref s823), .val (.int 1)] [(.ref s823)])) rfl (by rw [hml]; rfl) (Steps.refl _) (argsL := []) (rest := []) (lenOf pd_3 rfl) rfl (by show 2 * 0 + _ ≤ _; exact Nat.le_of_eq rfl) (hb hby at_860) (fun _ _ => ⟨rfl, eq837, (by decide : 17 + 0 ≤ _), (by decide : 434 + 0 ≤ _)⟩)
            dsimp only [Pt.U, Pt.locs, Pt.cells, Pt.slots] at X840 l840 y840 z840 st840 hQ840
            rw [l840, y840, z840] at X840
            have X840 := X840.mono (cells' := 17) (slots' := 434) (by decide) (by decide)
            obtain ⟨z840v, rfl, hz840v, Nq840, eq840⟩ := hQ840
            have N840n := Fr.app N837n Nq840
            have hy840 := hz840v.symm; subst hy840
            have P841 : own_Pr p.tables e below S0 T840 (mkF m 863 #[.val (.int p1), .val (.int p2), .val (.int p3), .val (.int p4), .val (.int p5), .val (.int z22), .val (.int z28), .val (.int z30), .val (.int z32), .val (.int z41), .val (.ref b50), .val (.ref b315), .val (.ref b513), .val (.ref b799), .val (.ref s823), .val (.int 1)] [(.int 1)]) := fun t k => P839 t (st840.trans k)
            have P842 : own_Pr p.tables e below S0 T840 (mkF m 868 #[.val (.int p1), .val (.int p2), .val (.int p3), .val (.int p4), .val (.int p5), .val (.int z22), .val (.int z28), .val (.int z30), .val (.int z32), .val (.int z41), .val (.ref b50), .val (.ref b315), .val (.ref b513), .val (.ref b799), .val (.ref s823), .val (.int 1)] [(.ref s823)]) := fun t k => P841 t (by
              refine XS.ifNo X840.here hx rfl (hb hby at_863) rfl (by decide) ?_
              refine XS.aload X840.here hx rfl (hb hby at_866) rfl rfl ?_
              exact k)
            obtain ⟨cq843, kq843, q843a, q843b, q843c⟩ := isOf hZ eq840 Eq823
            obtain ⟨_, _, ⟨T843, L843, k843, n843⟩, -, X843, ⟨Lc843, hQ843, l843, y843, z843⟩, st843⟩ := X840.virtualBack hx (y := (⟨"java/util/Optional", "get", "()Ljava/lang/Object;"⟩ : MethodName)) (z := (⟨"java/util/Optional", "get", "()Ljava/lang/Object;"⟩ : MethodName)) hown (mvT hZ (hw _ (List.mem_of_getElem? (i := 126) rfl))) (mvT hZ (hw _ (List.mem_of_getElem? (i := 127) rfl))) (notFace_of_selects (args := #[]) (mvT hZ (hw _ (List.mem_of_getElem? (i := 129) rfl)))) (mvT hZ (hw _ (List.mem_of_getElem? (i := 129) rfl))) (mvT hZ (hw _ (List.mem_of_getElem? (i := 128) rfl))) (by decide) (backOf (W := 0) (rm24 l Z a0 hw [] s823 bp T823.heap n0 Z826 Fq823) hZ (hw _ (List.mem_of_getElem? (i := 130) rfl)) (hw _ (List.mem_of_getElem? (i := 106) rfl)) (by decide) (by decide)) q843a q843c (g := (mkF m 868 #[.val (.int p1), .val (.int p2), .val (.int p3), .val (.int p4), .val (.int p5), .val (.int z22), .val (.int z28), .val (.int z30), .val (.int z32), .val (.int z41), .val (.ref b50), .val (.ref b315), .val (.ref b513), .val (.ref b799), .val (.ref s823), .val (.int 1)] [(.ref s823)])) rfl (by rw [hml]; rfl) (Steps.refl _) (argsL := []) (rest := []) (lenOf pd_16 rfl) rfl (by show 2 * 0 + _ ≤ _; exact Nat.le_of_eq rfl) (hb hby at_868) (fun _ _ => ⟨rfl, eq840, (by decide : 17 + 0 ≤ _), (by decide : 434 + 0 ≤ _)⟩)
            dsimp only [Pt.U, Pt.locs, Pt.cells, Pt.slots] at X843 l843 y843 z843 st843 hQ843
            rw [l843, y843, z843] at X843
            have X843 := X843.mono (cells' := 17) (slots' := 434) (by decide) (by decide)
            obtain ⟨z843v, rfl, hz843v, Nq843, eq843⟩ := hQ843
            have N843n := Fr.app N840n Nq843
            have hy843 := hz843v.symm; subst hy843
            have P844 : own_Pr p.tables e below S0 T843 (mkF m 871 #[.val (.int p1), .val (.int p2), .val (.int p3), .val (.int p4), .val (.int p5), .val (.int z22), .val (.int z28), .val (.int z30), .val (.int z32), .val (.int z41), .val (.ref b50), .val (.ref b315), .val (.ref b513), .val (.ref b799), .val (.ref s823), .val (.int 1)] [(.ref bp)]) := fun t k => P842 t (st843.trans k)
            have SBn := own_sta_keep0 SB K827
            obtain ⟨T845, X845, e845, st845⟩ := getS2 X843 hx hZ hown (host := "") (Or.inl (hw _ (List.mem_of_getElem? (i := 131) rfl))) Via.refl eq843 SBn (g := (mkF m 871 #[.val (.int p1), .val (.int p2), .val (.int p3), .val (.int p4), .val (.int p5), .val (.int z22), .val (.int z28), .val (.int z30), .val (.int z32), .val (.int z41), .val (.ref b50), .val (.ref b315), .val (.ref b513), .val (.ref b799), .val (.ref s823), .val (.int 1)] [(.ref bp)])) rfl (hb hby at_871)
            have P846 : own_Pr p.tables e below S0 T845 (mkF m 874 #[.val (.int p1), .val (.int p2), .val (.int p3), .val (.int p4), .val (.int p5), .val (.int z22), .val (.int z28), .val (.int z30), .val (.int z32), .val (.int z41), .val (.ref b50), .val (.ref b315), .val (.ref b513), .val (.ref b799), .val (.ref s823), .val (.int 1)] [(.ref bp), (.ref bp)]) := fun t k => P844 t (st845 _ k)
            have P847 : own_Pr p.tables e below S0 T845 (mkF m 882 #[.val (.int p1), .val (.int p2), .val (.int p3), .val (.int p4), .val (.int p5), .val (.int z22), .val (.int z28), .val (.int z30), .val (.int z32), .val (.int z41), .val (.ref b50), .val (.ref b315), .val (.ref b513), .val (.ref b799), .val (.ref s823), .val (.int 1)] [(.int 1)]) := fun t k => P846 t (by
              refine Jvm.RoadKit.acmp (g := (mkF m 874 #[.val (.int p1), .val (.int p2), .val (.int p3), .val (.int p4), .val (.int p5), .val (.int z22), .val (.int z28), .val (.int z30), .val (.int z32), .val (.int z41), .val (.ref b50), .val (.ref b315), .val (.ref b513), .val (.ref b799), .val (.ref s823), .val (.int 1)] [(.ref bp), (.ref bp)])) X845 hx rfl rfl rfl (pc0 := 874) (pc' := 877) (same := true) rfl (hb hby at_874) rfl (decide_eq_true (congrArg Value.ref rfl)) (by decide) (by decide) ?_
              refine XS.iconst X845.here hx rfl (hb hby at_877) ?_
              refine XS.goto X845.here hx rfl (pc0 := 878) (pc' := 882) rfl (hb hby at_878) (by decide) (by decide) ?_
              exact k)
            obtain ⟨fs, hr, hrun, hended, hend⟩ := X845.leaveW hSn (by rw [e845]; exact kS828) (v := some (.int 1)) (fun h => by rw [Bd.returns] at h; cases h)
            have fin : Steps p.tables e below S0 (T845.setFrames fs) := P847 _ (retN X845 hx (t := .boolean) Bd.returns (by simp) (hb hby at_882) hr)
            rw [hS0] at fin
            refine ⟨_, _, fin, hrun, hended, _, _, rfl, ?_, (show CHr Z consts_1 s.vm s.heap T845.vm T845.heap by rw [hh, e845]; exact CR824.trans (CHv.at X845 hZ (own_EW hw) CR824.1)), hend.1, hend.2.1, hend.2.2.1, hend.2.2.2.mono (by decide) (by decide)⟩
            show own_QL n0 _ _
            exact ⟨_, rfl, rfl, N843n⟩
          · have P848 : own_Pr p.tables e below S0 T833 (mkF m 850 #[.val (.int p1), .val (.int p2), .val (.int p3), .val (.int p4), .val (.int p5), .val (.int z22), .val (.int z28), .val (.int z30), .val (.int z32), .val (.int z41), .val (.ref b50), .val (.ref b315), .val (.ref b513), .val (.ref b799), .val (.ref s823), .val (.int 0)] [(.ref s823)]) := fun t k => P834 t (by
              refine XS.icmpYes X833.here hx rfl (pc0 := 771) (pc' := 778) rfl (hb hby at_771) rfl (XT.ii_ne_t hc771_835) (by decide) (by decide) ?_
              refine XS.iconst X833.here hx rfl (hb hby at_778) ?_
              refine XS.istore X833.here hx rfl (hb hby at_779) rfl (l' := #[.val (.int p1), .val (.int p2), .val (.int p3), .val (.int p4), .val (.int p5), .val (.int z22), .val (.int z28), .val (.int z30), .val (.int z32), .val (.int z41), .val (.ref b50), .val (.ref b315), .val (.ref b513), .val (.ref b799), .val (.ref s823), .val (.int 0)]) rfl ?_
              refine XS.goto X833.here hx rfl (pc0 := 781) (pc' := 848) rfl (hb hby at_781) (by decide) (by decide) ?_
              refine XS.aload X833.here hx rfl (hb hby at_848) rfl rfl ?_
              exact k)
            obtain ⟨cq849, kq849, q849a, q849b, q849c⟩ := isOf hZ eq833 Eq823
            obtain ⟨_, _, ⟨T849, L849, k849, n849⟩, -, X849, ⟨Lc849, hQ849, l849, y849, z849⟩, st849⟩ := X833.virtualBack hx (y := (⟨"java/util/Optional", "isPresent", "()Z"⟩ : MethodName)) (z := (⟨"java/util/Optional", "isPresent", "()Z"⟩ : MethodName)) hown (mvT hZ (hw _ (List.mem_of_getElem? (i := 121) rfl))) (mvT hZ (hw _ (List.mem_of_getElem? (i := 122) rfl))) (notFace_of_selects (args := #[]) (mvT hZ (hw _ (List.mem_of_getElem? (i := 124) rfl)))) (mvT hZ (hw _ (List.mem_of_getElem? (i := 124) rfl))) (mvT hZ (hw _ (List.mem_of_getElem? (i := 123) rfl))) (by decide) (backOf (W := 0) (rm23_p l Z a0 hw [] s823 bp T823.heap n0 Z826 Fq823) hZ (hw _ (List.mem_of_getElem? (i := 125) rfl)) (hw _ (List.mem_of_getElem? (i := 106) rfl)) (by decide) (by decide)) q849a q849c (g := (mkF m 850 #[.val (.int p1), .val (.int p2), .val (.int p3), .val (.int p4), .val (.int p5), .val (.int z22), .val (.int z28), .val (.int z30), .val (.int z32), .val (.int z41), .val (.ref b50), .val (.ref b315), .val (.ref b513), .val (.ref b799), .val (.ref s823), .val (.int 0)] [(.ref s823)])) rfl (by rw [hml]; rfl) (Steps.refl _) (argsL := []) (rest := []) (lenOf pd_3 rfl) rfl (by show 2 * 0 + _ ≤ _; exact Nat.le_of_eq rfl) (hb hby at_850) (fun _ _ => ⟨rfl, eq833, (by decide : 17 + 0 ≤ _), (by decide : 434 + 0 ≤ _)⟩)
            dsimp only [Pt.U, Pt.locs, Pt.cells, Pt.slots] at X849 l849 y849 z849 st849 hQ849
            rw [l849, y849, z849] at X849
            have X849 := X849.mono (cells' := 17) (slots' := 434) (by decide) (by decide)
            obtain ⟨z849v, rfl, hz849v, Nq849, eq849⟩ := hQ849
            have N849n := Fr.app N833n Nq849
            have hy849 := hz849v.symm; subst hy849
            have P850 : own_Pr p.tables e below S0 T849 (mkF m 853 #[.val (.int p1), .val (.int p2), .val (.int p3), .val (.int p4), .val (.int p5), .val (.int z22), .val (.int z28), .val (.int z30), .val (.int z32), .val (.int z41), .val (.ref b50), .val (.ref b315), .val (.ref b513), .val (.ref b799), .val (.ref s823), .val (.int 0)] [(.int 1)]) := fun t k => P848 t (st849.trans k)
            exact (own_bad0n hu0 hu1 hu2 hz164v hz174v hz184v hz194v hz204v hz214v hz224v hz234v hz244v hz254v hz264v hz274v hz284v hz294v hE hc761_831 hz26 hz28 hc771_835).elim
        · have P851 : own_Pr p.tables e below S0 T823 (mkF m 787 #[.val (.int p1), .val (.int p2), .val (.int p3), .val (.int p4), .val (.int p5), .val (.int z22), .val (.int z28), .val (.int z30), .val (.int z32), .val (.int z41), .val (.ref b50), .val (.ref b315), .val (.ref b513), .val (.ref b799), .val (.ref s823), .unset] [(.int 3), (.int z22)]) := fun t k => P830 t (by
            refine XS.ifYes X823.here hx rfl (pc0 := 761) (pc' := 784) rfl (hb hby at_761) rfl (XT.i0_ne_t hc761_831) (by decide) (by decide) ?_
            refine XS.iload X823.here hx rfl (hb hby at_784) rfl ?_
            refine XS.iconst X823.here hx rfl (hb hby at_786) ?_
            exact k)
          by_cases hc787_852 : z22 = (3 : Int32)
          · have P853 : own_Pr p.tables e below S0 T823 (mkF m 794 #[.val (.int p1), .val (.int p2), .val (.int p3), .val (.int p4), .val (.int p5), .val (.int z22), .val (.int z28), .val (.int z30), .val (.int z32), .val (.int z41), .val (.ref b50), .val (.ref b315), .val (.ref b513), .val (.ref b799), .val (.ref s823), .unset] [(.int z30), (.int z28)]) := fun t k => P851 t (by
              refine XS.icmpNo X823.here hx rfl (hb hby at_787) rfl (XT.ii_ne_f hc787_852) ?_
              refine XS.iload X823.here hx rfl (hb hby at_790) rfl ?_
              refine XS.iload X823.here hx rfl (hb hby at_792) rfl ?_
              exact k)
            by_cases hc794_854 : z28 = z30
            · have P855 : own_Pr p.tables e below S0 T823 (mkF m 801 #[.val (.int p1), .val (.int p2), .val (.int p3), .val (.int p4), .val (.int p5), .val (.int z22), .val (.int z28), .val (.int z30), .val (.int z32), .val (.int z41), .val (.ref b50), .val (.ref b315), .val (.ref b513), .val (.ref b799), .val (.ref s823), .unset] [(.int z28), (.int z41)]) := fun t k => P853 t (by
                refine XS.icmpNo X823.here hx rfl (hb hby at_794) rfl (XT.ii_ne_f hc794_854) ?_
                refine XS.iload X823.here hx rfl (hb hby at_797) rfl ?_
                refine XS.iload X823.here hx rfl (hb hby at_799) rfl ?_
                exact k)
              obtain ⟨_, _, ⟨T856, L856, k856, n856⟩, -, X856, ⟨Lc856, hQ856, l856, y856, z856⟩, st856⟩ := Jvm.LawKit.callS X823 hx (y := (⟨"com/example/firmhold/firmhold/PermissionNamedPinLaw", "nm", "(I)C"⟩ : MethodName)) hown (mvT hZ (hw _ (List.mem_of_getElem? (i := 1) rfl))) (mvT hZ (hw _ (List.mem_of_getElem? (i := 2) rfl))) (mvT hZ (hw _ (List.mem_of_getElem? (i := 3) rfl))) (mvT hZ (hw _ (List.mem_of_getElem? (i := 4) rfl))) (by decide) (own_backL (W := 1) (rm1_b l Z a0 hw [] z28 lt cs fm T823.heap n0 Z826 F825 (own_sta_keep0 CS K827) hcs (own_sta_keep0 FM K827) hr_fm) hZ (hw _ (List.mem_of_getElem? (i := 4) rfl)) (hw _ (List.mem_of_getElem? (i := 3) rfl)) (by decide) (by decide) (fun vm hv => (State.resolvedAt?_warmed39 hv Lt))) (g := (mkF m 801 #[.val (.int p1), .val (.int p2), .val (.int p3), .val (.int p4), .val (.int p5), .val (.int z22), .val (.int z28), .val (.int z30), .val (.int z32), .val (.int z41), .val (.ref b50), .val (.ref b315), .val (.ref b513), .val (.ref b799), .val (.ref s823), .unset] [(.int z28), (.int z41)])) rfl (by rw [hml]; rfl) (argsL := [(.int z28)]) (rest := [(.int z41)]) (lenOf pd_6 rfl) rfl (by show 2 * 0 + _ ≤ _; exact Nat.le_of_eq rfl) (hb hby at_801) (fun _ _ => ⟨rfl, rfl, (by decide : 17 + 0 ≤ _), (by decide : 434 + 0 ≤ _)⟩)
              dsimp only [Pt.U, Pt.locs, Pt.cells, Pt.slots] at X856 l856 y856 z856 st856 hQ856
              rw [l856, y856, z856] at X856
              have X856 := X856.mono (cells' := 17) (slots' := 434) (by decide) (by decide)
              obtain ⟨z856v, rfl, hz856v, Nq856, eq856⟩ := hQ856
              have N856n := Fr.app N823n Nq856
              have hy856 := hz856v.symm; subst hy856
              have P857 : own_Pr p.tables e below S0 T856 (mkF m 804 #[.val (.int p1), .val (.int p2), .val (.int p3), .val (.int p4), .val (.int p5), .val (.int z22), .val (.int z28), .val (.int z30), .val (.int z32), .val (.int z41), .val (.ref b50), .val (.ref b315), .val (.ref b513), .val (.ref b799), .val (.ref s823), .unset] [(.int (own_nm z28)), (.int z41)]) := fun t k => P855 t (st856 _ k)
              by_cases hc804_858 : z41 = (own_nm z28)
              · have P859 : own_Pr p.tables e below S0 T856 (mkF m 850 #[.val (.int p1), .val (.int p2), .val (.int p3), .val (.int p4), .val (.int p5), .val (.int z22), .val (.int z28), .val (.int z30), .val (.int z32), .val (.int z41), .val (.ref b50), .val (.ref b315), .val (.ref b513), .val (.ref b799), .val (.ref s823), .val (.int 1)] [(.ref s823)]) := fun t k => P857 t (by
                  refine XS.icmpNo X856.here hx rfl (hb hby at_804) rfl (XT.ii_ne_f hc804_858) ?_
                  refine XS.iconst X856.here hx rfl (hb hby at_807) ?_
                  refine XS.goto X856.here hx rfl (pc0 := 808) (pc' := 840) rfl (hb hby at_808) (by decide) (by decide) ?_
                  refine XS.istore X856.here hx rfl (hb hby at_840) rfl (l' := #[.val (.int p1), .val (.int p2), .val (.int p3), .val (.int p4), .val (.int p5), .val (.int z22), .val (.int z28), .val (.int z30), .val (.int z32), .val (.int z41), .val (.ref b50), .val (.ref b315), .val (.ref b513), .val (.ref b799), .val (.ref s823), .val (.int 1)]) rfl ?_
                  refine XS.goto X856.here hx rfl (pc0 := 842) (pc' := 848) rfl (hb hby at_842) (by decide) (by decide) ?_
                  refine XS.aload X856.here hx rfl (hb hby at_848) rfl rfl ?_
                  exact k)
                obtain ⟨cq860, kq860, q860a, q860b, q860c⟩ := isOf hZ eq856 Eq823
                obtain ⟨_, _, ⟨T860, L860, k860, n860⟩, -, X860, ⟨Lc860, hQ860, l860, y860, z860⟩, st860⟩ := X856.virtualBack hx (y := (⟨"java/util/Optional", "isPresent", "()Z"⟩ : MethodName)) (z := (⟨"java/util/Optional", "isPresent", "()Z"⟩ : MethodName)) hown (mvT hZ (hw _ (List.mem_of_getElem? (i := 121) rfl))) (mvT hZ (hw _ (List.mem_of_getElem? (i := 122) rfl))) (notFace_of_selects (args := #[]) (mvT hZ (hw _ (List.mem_of_getElem? (i := 124) rfl)))) (mvT hZ (hw _ (List.mem_of_getElem? (i := 124) rfl))) (mvT hZ (hw _ (List.mem_of_getElem? (i := 123) rfl))) (by decide) (backOf (W := 0) (rm23_p l Z a0 hw [] s823 bp T823.heap n0 Z826 Fq823) hZ (hw _ (List.mem_of_getElem? (i := 125) rfl)) (hw _ (List.mem_of_getElem? (i := 106) rfl)) (by decide) (by decide)) q860a q860c (g := (mkF m 850 #[.val (.int p1), .val (.int p2), .val (.int p3), .val (.int p4), .val (.int p5), .val (.int z22), .val (.int z28), .val (.int z30), .val (.int z32), .val (.int z41), .val (.ref b50), .val (.ref b315), .val (.ref b513), .val (.ref b799), .val (.ref s823), .val (.int 1)] [(.ref s823)])) rfl (by rw [hml]; rfl) (Steps.refl _) (argsL := []) (rest := []) (lenOf pd_3 rfl) rfl (by show 2 * 0 + _ ≤ _; exact Nat.le_of_eq rfl) (hb hby at_850) (fun _ _ => ⟨rfl, eq856, (by decide : 17 + 0 ≤ _), (by decide : 434 + 0 ≤ _)⟩)
                dsimp only [Pt.U, Pt.locs, Pt.cells, Pt.slots] at X860 l860 y860 z860 st860 hQ860
                rw [l860, y860, z860] at X860
                have X860 := X860.mono (cells' := 17) (slots' := 434) (by decide) (by decide)
                obtain ⟨z860v, rfl, hz860v, Nq860, eq860⟩ := hQ860
                have N860n := Fr.app N856n Nq860
                have hy860 := hz860v.symm; subst hy860
                have P861 : own_Pr p.tables e below S0 T860 (mkF m 853 #[.val (.int p1), .val (.int p2), .val (.int p3), .val (.int p4), .val (.int p5), .val (.int z22), .val (.int z28), .val (.int z30), .val (.int z32), .val (.int z41), .val (.ref b50), .val (.ref b315), .val (.ref b513), .val (.ref b799), .val (.ref s823), .val (.int 1)] [(.int 1)]) := fun t k => P859 t (st860.trans k)
                have P862 : own_Pr p.tables e below S0 T860 (mkF m 860 #[.val (.int p1), .val (.int p2), .val (.int p3), .val (.int p4), .val (.int p5), .val (.int z22), .val (.int z28), .val (.int z30), .val (.int z32), .val (.int z41), .val (.ref b50), .val (.ref b315), .val (.ref b513), .val (.ref b799), .val (.ref s823), .val (.int 1)] [(.ref s823)]) := fun t k => P861 t (by
                  refine XS.iload X860.here hx rfl (hb hby at_853) rfl ?_
                  refine XS.icmpNo X860.here hx rfl (hb hby at_855) rfl (by decide) ?_
                  refine XS.aload X860.here hx rfl (hb hby at_858) rfl rfl ?_
                  exact k)
                obtain ⟨cq863, kq863, q863a, q863b, q863c⟩ := isOf hZ eq860 Eq823
                obtain ⟨_, _, ⟨T863, L863, k863, n863⟩, -, X863, ⟨Lc863, hQ863, l863, y863, z863⟩, st863⟩ := X860.virtualBack hx (y := (⟨"java/util/Optional", "isPresent", "()Z"⟩ : MethodName)) (z := (⟨"java/util/Optional", "isPresent", "()Z"⟩ : MethodName)) hown (mvT hZ (hw _ (List.mem_of_getElem? (i := 121) rfl))) (mvT hZ (hw _ (List.mem_of_getElem? (i := 122) rfl))) (notFace_of_selects (args := #[]) (mvT hZ (hw _ (List.mem_of_getElem? (i := 124) rfl)))) (mvT hZ (hw _ (List.mem_of_getElem? (i := 124) rfl))) (mvT hZ (hw _ (List.mem_of_getElem? (i := 123) rfl))) (by decide) (backOf (W := 0) (rm23_p l Z a0 hw [] s823 bp T823.heap n0 Z826 Fq823) hZ (hw _ (List.mem_of_getElem? (i := 125) rfl)) (hw _ (List.mem_of_getElem? (i := 106) rfl)) (by decide) (by decide)) q863a q863c (g := (mkF m 860 #[.val (.int p1), .val (.int p2), .val (.int p3), .val (.int p4), .val (.int p5), .val (.int z22), .val (.int z28), .val (.int z30), .val (.int z32), .val (.int z41), .val (.ref b50), .val (.ref b315), .val (.ref b513), .val (.ref b799), .val (.ref s823), .val (.int 1)] [(.ref s823)])) rfl (by rw [hml]; rfl) (Steps.refl _) (argsL := []) (rest := []) (lenOf pd_3 rfl) rfl (by show 2 * 0 + _ ≤ _; exact Nat.le_of_eq rfl) (hb hby at_860) (fun _ _ => ⟨rfl, eq860, (by decide : 17 + 0 ≤ _), (by decide : 434 + 0 ≤ _)⟩)
                dsimp only [Pt.U, Pt.locs, Pt.cells, Pt.slots] at X863 l863 y863 z863 st863 hQ863
                rw [l863, y863, z863] at X863
                have X863 := X863.mono (cells' := 17) (slots' := 434) (by decide) (by decide)
                obtain ⟨z863v, rfl, hz863v, Nq863, eq863⟩ := hQ863
                have N863n := Fr.app N860n Nq863
                have hy863 := hz863v.symm; subst hy863
                have P864 : own_Pr p.tables e below S0 T863 (mkF m 863 #[.val (.int p1), .val (.int p2), .val (.int p3), .val (.int p4), .val (.int p5), .val (.int z22), .val (.int z28), .val (.int z30), .val (.int z32), .val (.int z41), .val (.ref b50), .val (.ref b315), .val (.ref b513), .val (.ref b799), .val (.ref s823), .val (.int 1)] [(.int 1)]) := fun t k => P862 t (st863.trans k)
                have P865 : own_Pr p.tables e below S0 T863 (mkF m 868 #[.val (.int p1), .val (.int p2), .val (.int p3), .val (.int p4), .val (.int p5), .val (.int z22), .val (.int z28), .val (.int z30), .val (.int z32), .val (.int z41), .val (.ref b50), .val (.ref b315), .val (.ref b513), .val (.ref b799), .val (.ref s823), .val (.int 1)] [(.ref s823)]) := fun t k => P864 t (by
                  refine XS.ifNo X863.here hx rfl (hb hby at_863) rfl (by decide) ?_
                  refine XS.aload X863.here hx rfl (hb hby at_866) rfl rfl ?_
                  exact k)
                obtain ⟨cq866, kq866, q866a, q866b, q866c⟩ := isOf hZ eq863 Eq823
                obtain ⟨_, _, ⟨T866, L866, k866, n866⟩, -, X866, ⟨Lc866, hQ866, l866, y866, z866⟩, st866⟩ := X863.virtualBack hx (y := (⟨"java/util/Optional", "get", "()Ljava/lang/Object;"⟩ : MethodName)) (z := (⟨"java/util/Optional", "get", "()Ljava/lang/Object;"⟩ : MethodName)) hown (mvT hZ (hw _ (List.mem_of_getElem? (i := 126) rfl))) (mvT hZ (hw _ (List.mem_of_getElem? (i := 127) rfl))) (notFace_of_selects (args := #[]) (mvT hZ (hw _ (List.mem_of_getElem? (i := 129) rfl)))) (mvT hZ (hw _ (List.mem_of_getElem? (i := 129) rfl))) (mvT hZ (hw _ (List.mem_of_getElem? (i := 128) rfl))) (by decide) (backOf (W := 0) (rm24 l Z a0 hw [] s823 bp T823.heap n0 Z826 Fq823) hZ (hw _ (List.mem_of_getElem? (i := 130) rfl)) (hw _ (List.mem_of_getElem? (i := 106) rfl)) (by decide) (by decide)) q866a q866c (g := (mkF m 868 #[.val (.int p1), .val (.int p2), .val (.int p3), .val (.int p4), .val (.int p5), .val (.int z22), .val (.int z28), .val (.int z30), .val (.int z32), .val (.int z41), .val (.ref b50), .val (.ref b315), .val (.ref b513), .val (.ref b799), .val (.ref s823), .val (.int 1)] [(.ref s823)])) rfl (by rw [hml]; rfl) (Steps.refl _) (argsL := []) (rest := []) (lenOf pd_16 rfl) rfl (by show 2 * 0 + _ ≤ _; exact Nat.le_of_eq rfl) (hb hby at_868) (fun _ _ => ⟨rfl, eq863, (by decide : 17 + 0 ≤ _), (by decide : 434 + 0 ≤ _)⟩)
                dsimp only [Pt.U, Pt.locs, Pt.cells, Pt.slots] at X866 l866 y866 z866 st866 hQ866
                rw [l866, y866, z866] at X866
                have X866 := X866.mono (cells' := 17) (slots' := 434) (by decide) (by decide)
                obtain ⟨z866v, rfl, hz866v, Nq866, eq866⟩ := hQ866
                have N866n := Fr.app N863n Nq866
                have hy866 := hz866v.symm; subst hy866
                have P867 : own_Pr p.tables e below S0 T866 (mkF m 871 #[.val (.int p1), .val (.int p2), .val (.int p3), .val (.int p4), .val (.int p5), .val (.int z22), .val (.int z28), .val (.int z30), .val (.int z32), .val (.int z41), .val (.ref b50), .val (.ref b315), .val (.ref b513), .val (.ref b799), .val (.ref s823), .val (.int 1)] [(.ref bp)]) := fun t k => P865 t (st866.trans k)
                have SBn := own_sta_keep0 SB K827
                obtain ⟨T868, X868, e868, st868⟩ := getS2 X866 hx hZ hown (host := "") (Or.inl (hw _ (List.mem_of_getElem? (i := 131) rfl))) Via.refl eq866 SBn (g := (mkF m 871 #[.val (.int p1), .val (.int p2), .val (.int p3), .val (.int p4), .val (.int p5), .val (.int z22), .val (.int z28), .val (.int z30), .val (.int z32), .val (.int z41), .val (.ref b50), .val (.ref b315), .val (.ref b513), .val (.ref b799), .val (.ref s823), .val (.int 1)] [(.ref bp)])) rfl (hb hby at_871)
                have P869 : own_Pr p.tables e below S0 T868 (mkF m 874 #[.val (.int p1), .val (.int p2), .val (.int p3), .val (.int p4), .val (.int p5), .val (.int z22), .val (.int z28), .val (.int z30), .val (.int z32), .val (.int z41), .val (.ref b50), .val (.ref b315), .val (.ref b513), .val (.ref b799), .val (.ref s823), .val (.int 1)] [(.ref bp), (.ref bp)]) := fun t k => P867 t (st868 _ k)
                have P870 : own_Pr p.tables e below S0 T868 (mkF m 882 #[.val (.int p1), .val (.int p2), .val (.int p3), .val (.int p4), .val (.int p5), .val (.int z22), .val (.int z28), .val (.int z30), .val (.int z32), .val (.int z41), .val (.ref b50), .val (.ref b315), .val (.ref b513), .val (.ref b799), .val (.ref s823), .val (.int 1)] [(.int 1)]) := fun t k => P869 t (by
                  refine Jvm.RoadKit.acmp (g := (mkF m 874 #[.val (.int p1), .val (.int p2), .val (.int p3), .val (.int p4), .val (.int p5), .val (.int z22), .val (.int z28), .val (.int z30), .val (.int z32), .val (.int z41), .val (.ref b50), .val (.ref b315), .val (.ref b513), .val (.ref b799), .val (.ref s823), .val (.int 1)] [(.ref bp), (.ref bp)])) X868 hx rfl rfl rfl (pc0 := 874) (pc' := 877) (same := true) rfl (hb hby at_874) rfl (decide_eq_true (congrArg Value.ref rfl)) (by decide) (by decide) ?_
                  refine XS.iconst X868.here hx rfl (hb hby at_877) ?_
                  refine XS.goto X868.here hx rfl (pc0 := 878) (pc' := 882) rfl (hb hby at_878) (by decide) (by decide) ?_
                  exact k)
                obtain ⟨fs, hr, hrun, hended, hend⟩ := X868.leaveW hSn (by rw [e868]; exact kS828) (v := some (.int 1)) (fun h => by rw [Bd.returns] at h; cases h)
                have fin : Steps p.tables e below S0 (T868.setFrames fs) := P870 _ (retN X868 hx (t := .boolean) Bd.returns (by simp) (hb hby at_882) hr)
                rw [hS0] at fin
                refine ⟨_, _, fin, hrun, hended, _, _, rfl, ?_, (show CHr Z consts_1 s.vm s.heap T868.vm T868.heap by rw [hh, e868]; exact CR824.trans (CHv.at X868 hZ (own_EW hw) CR824.1)), hend.1, hend.2.1, hend.2.2.1, hend.2.2.2.mono (by decide) (by decide)⟩
                show own_QL n0 _ _
                exact ⟨_, rfl, rfl, N866n⟩
              · have P871 : own_Pr p.tables e below S0 T856 (mkF m 850 #[.val (.int p1), .val (.int p2), .val (.int p3), .val (.int p4), .val (.int p5), .val (.int z22), .val (.int z28), .val (.int z30), .val (.int z32), .val (.int z41), .val (.ref b50), .val (.ref b315), .val (.ref b513), .val (.ref b799), .val (.ref s823), .val (.int 0)] [(.ref s823)]) := fun t k => P857 t (by
                  refine XS.icmpYes X856.here hx rfl (pc0 := 804) (pc' := 811) rfl (hb hby at_804) rfl (XT.ii_ne_t hc804_858) (by decide) (by decide) ?_
                  refine XS.iconst X856.here hx rfl (hb hby at_811) ?_
                  refine XS.goto X856.here hx rfl (pc0 := 812) (pc' := 840) rfl (hb hby at_812) (by decide) (by decide) ?_
                  refine XS.istore X856.here hx rfl (hb hby at_840) rfl (l' := #[.val (.int p1), .val (.int p2), .val (.int p3), .val (.int p4), .val (.int p5), .val (.int z22), .val (.int z28), .val (.int z30), .val (.int z32), .val (.int z41), .val (.ref b50), .val (.ref b315), .val (.ref b513), .val (.ref b799), .val (.ref s823), .val (.int 0)]) rfl ?_
                  refine XS.goto X856.here hx rfl (pc0 := 842) (pc' := 848) rfl (hb hby at_842) (by decide) (by decide) ?_
                  refine XS.aload X856.here hx rfl (hb hby at_848) rfl rfl ?_
                  exact k)
                obtain ⟨cq872, kq872, q872a, q872b, q872c⟩ := isOf hZ eq856 Eq823
                obtain ⟨_, _, ⟨T872, L872, k872, n872⟩, -, X872, ⟨Lc872, hQ872, l872, y872, z872⟩, st872⟩ := X856.virtualBack hx (y := (⟨"java/util/Optional", "isPresent", "()Z"⟩ : MethodName)) (z := (⟨"java/util/Optional", "isPresent", "()Z"⟩ : MethodName)) hown (mvT hZ (hw _ (List.mem_of_getElem? (i := 121) rfl))) (mvT hZ (hw _ (List.mem_of_getElem? (i := 122) rfl))) (notFace_of_selects (args := #[]) (mvT hZ (hw _ (List.mem_of_getElem? (i := 124) rfl)))) (mvT hZ (hw _ (List.mem_of_getElem? (i := 124) rfl))) (mvT hZ (hw _ (List.mem_of_getElem? (i := 123) rfl))) (by decide) (backOf (W := 0) (rm23_p l Z a0 hw [] s823 bp T823.heap n0 Z826 Fq823) hZ (hw _ (List.mem_of_getElem? (i := 125) rfl)) (hw _ (List.mem_of_getElem? (i := 106) rfl)) (by decide) (by decide)) q872a q872c (g := (mkF m 850 #[.val (.int p1), .val (.int p2), .val (.int p3), .val (.int p4), .val (.int p5), .val (.int z22), .val (.int z28), .val (.int z30), .val (.int z32), .val (.int z41), .val (.ref b50), .val (.ref b315), .val (.ref b513), .val (.ref b799), .val (.ref s823), .val (.int 0)] [(.ref s823)])) rfl (by rw [hml]; rfl) (Steps.refl _) (argsL := []) (rest := []) (lenOf pd_3 rfl) rfl (by show 2 * 0 + _ ≤ _; exact Nat.le_of_eq rfl) (hb hby at_850) (fun _ _ => ⟨rfl, eq856, (by decide : 17 + 0 ≤ _), (by decide : 434 + 0 ≤ _)⟩)
                dsimp only [Pt.U, Pt.locs, Pt.cells, Pt.slots] at X872 l872 y872 z872 st872 hQ872
                rw [l872, y872, z872] at X872
                have X872 := X872.mono (cells' := 17) (slots' := 434) (by decide) (by decide)
                obtain ⟨z872v, rfl, hz872v, Nq872, eq872⟩ := hQ872
                have N872n := Fr.app N856n Nq872
                have hy872 := hz872v.symm; subst hy872
                have P873 : own_Pr p.tables e below S0 T872 (mkF m 853 #[.val (.int p1), .val (.int p2), .val (.int p3), .val (.int p4), .val (.int p5), .val (.int z22), .val (.int z28), .val (.int z30), .val (.int z32), .val (.int z41), .val (.ref b50), .val (.ref b315), .val (.ref b513), .val (.ref b799), .val (.ref s823), .val (.int 0)] [(.int 1)]) := fun t k => P871 t (st872.trans k)
                exact (own_bad3en hu0 hu1 hu2 hz164v hz174v hz184v hz194v hz204v hz214v hz224v hz234v hz244v hz254v hz264v hz274v hz284v hz294v hE hc787_852 hz26 hz28 hc794_854 hc804_858).elim
            · have P874 : own_Pr p.tables e below S0 T823 (mkF m 819 #[.val (.int p1), .val (.int p2), .val (.int p3), .val (.int p4), .val (.int p5), .val (.int z22), .val (.int z28), .val (.int z30), .val (.int z32), .val (.int z41), .val (.ref b50), .val (.ref b315), .val (.ref b513), .val (.ref b799), .val (.ref s823), .unset] [(.int z28), (.int z32)]) := fun t k => P853 t (by
                refine XS.icmpYes X823.here hx rfl (pc0 := 794) (pc' := 815) rfl (hb hby at_794) rfl (XT.ii_ne_t hc794_854) (by decide) (by decide) ?_
                refine XS.iload X823.here hx rfl (hb hby at_815) rfl ?_
                refine XS.iload X823.here hx rfl (hb hby at_817) rfl ?_
                exact k)
              obtain ⟨_, _, ⟨T875, L875, k875, n875⟩, -, X875, ⟨Lc875, hQ875, l875, y875, z875⟩, st875⟩ := Jvm.LawKit.callS X823 hx (y := (⟨"com/example/firmhold/firmhold/PermissionNamedPinLaw", "nm", "(I)C"⟩ : MethodName)) hown (mvT hZ (hw _ (List.mem_of_getElem? (i := 1) rfl))) (mvT hZ (hw _ (List.mem_of_getElem? (i := 2) rfl))) (mvT hZ (hw _ (List.mem_of_getElem? (i := 3) rfl))) (mvT hZ (hw _ (List.mem_of_getElem? (i := 4) rfl))) (by decide) (own_backL (W := 1) (rm1_b l Z a0 hw [] z28 lt cs fm T823.heap n0 Z826 F825 (own_sta_keep0 CS K827) hcs (own_sta_keep0 FM K827) hr_fm) hZ (hw _ (List.mem_of_getElem? (i := 4) rfl)) (hw _ (List.mem_of_getElem? (i := 3) rfl)) (by decide) (by decide) (fun vm hv => (State.resolvedAt?_warmed39 hv Lt))) (g := (mkF m 819 #[.val (.int p1), .val (.int p2), .val (.int p3), .val (.int p4), .val (.int p5), .val (.int z22), .val (.int z28), .val (.int z30), .val (.int z32), .val (.int z41), .val (.ref b50), .val (.ref b315), .val (.ref b513), .val (.ref b799), .val (.ref s823), .unset] [(.int z28), (.int z32)])) rfl (by rw [hml]; rfl) (argsL := [(.int z28)]) (rest := [(.int z32)]) (lenOf pd_6 rfl) rfl (by show 2 * 0 + _ ≤ _; exact Nat.le_of_eq rfl) (hb hby at_819) (fun _ _ => ⟨rfl, rfl, (by decide : 17 + 0 ≤ _), (by decide : 434 + 0 ≤ _)⟩)
              dsimp only [Pt.U, Pt.locs, Pt.cells, Pt.slots] at X875 l875 y875 z875 st875 hQ875
              rw [l875, y875, z875] at X875
              have X875 := X875.mono (cells' := 17) (slots' := 434) (by decide) (by decide)
              obtain ⟨z875v, rfl, hz875v, Nq875, eq875⟩ := hQ875
              have N875n := Fr.app N823n Nq875
              have hy875 := hz875v.symm; subst hy875
              have P876 : own_Pr p.tables e below S0 T875 (mkF m 822 #[.val (.int p1), .val (.int p2), .val (.int p3), .val (.int p4), .val (.int p5), .val (.int z22), .val (.int z28), .val (.int z30), .val (.int z32), .val (.int z41), .val (.ref b50), .val (.ref b315), .val (.ref b513), .val (.ref b799), .val (.ref s823), .unset] [(.int (own_nm z28)), (.int z32)]) := fun t k => P874 t (st875 _ k)
              by_cases hc822_877 : z32 = (own_nm z28)
              · have P878 : own_Pr p.tables e below S0 T875 (mkF m 829 #[.val (.int p1), .val (.int p2), .val (.int p3), .val (.int p4), .val (.int p5), .val (.int z22), .val (.int z28), .val (.int z30), .val (.int z32), .val (.int z41), .val (.ref b50), .val (.ref b315), .val (.ref b513), .val (.ref b799), .val (.ref s823), .unset] [(.int z30), (.int z41)]) := fun t k => P876 t (by
                  refine XS.icmpNo X875.here hx rfl (hb hby at_822) rfl (XT.ii_ne_f hc822_877) ?_
                  refine XS.iload X875.here hx rfl (hb hby at_825) rfl ?_
                  refine XS.iload X875.here hx rfl (hb hby at_827) rfl ?_
                  exact k)
                obtain ⟨_, _, ⟨T879, L879, k879, n879⟩, -, X879, ⟨Lc879, hQ879, l879, y879, z879⟩, st879⟩ := Jvm.LawKit.callS X875 hx (y := (⟨"com/example/firmhold/firmhold/PermissionNamedPinLaw", "nm", "(I)C"⟩ : MethodName)) hown (mvT hZ (hw _ (List.mem_of_getElem? (i := 1) rfl))) (mvT hZ (hw _ (List.mem_of_getElem? (i := 2) rfl))) (mvT hZ (hw _ (List.mem_of_getElem? (i := 3) rfl))) (mvT hZ (hw _ (List.mem_of_getElem? (i := 4) rfl))) (by decide) (own_backL (W := 1) (rm1_b l Z a0 hw [] z30 lt cs fm T823.heap n0 Z826 F825 (own_sta_keep0 CS K827) hcs (own_sta_keep0 FM K827) hr_fm) hZ (hw _ (List.mem_of_getElem? (i := 4) rfl)) (hw _ (List.mem_of_getElem? (i := 3) rfl)) (by decide) (by decide) (fun vm hv => (State.resolvedAt?_warmed39 hv Lt))) (g := (mkF m 829 #[.val (.int p1), .val (.int p2), .val (.int p3), .val (.int p4), .val (.int p5), .val (.int z22), .val (.int z28), .val (.int z30), .val (.int z32), .val (.int z41), .val (.ref b50), .val (.ref b315), .val (.ref b513), .val (.ref b799), .val (.ref s823), .unset] [(.int z30), (.int z41)])) rfl (by rw [hml]; rfl) (argsL := [(.int z30)]) (rest := [(.int z41)]) (lenOf pd_6 rfl) rfl (by show 2 * 0 + _ ≤ _; exact Nat.le_of_eq rfl) (hb hby at_829) (fun _ _ => ⟨rfl, eq875, (by decide : 17 + 0 ≤ _), (by decide : 434 + 0 ≤ _)⟩)
                dsimp only [Pt.U, Pt.locs, Pt.cells, Pt.slots] at X879 l879 y879 z879 st879 hQ879
                rw [l879, y879, z879] at X879
                have X879 := X879.mono (cells' := 17) (slots' := 434) (by decide) (by decide)
                obtain ⟨z879v, rfl, hz879v, Nq879, eq879⟩ := hQ879
                have N879n := Fr.app N875n Nq879
                have hy879 := hz879v.symm; subst hy879
                have P880 : own_Pr p.tables e below S0 T879 (mkF m 832 #[.val (.int p1), .val (.int p2), .val (.int p3), .val (.int p4), .val (.int p5), .val (.int z22), .val (.int z28), .val (.int z30), .val (.int z32), .val (.int z41), .val (.ref b50), .val (.ref b315), .val (.ref b513), .val (.ref b799), .val (.ref s823), .unset] [(.int (own_nm z30)), (.int z41)]) := fun t k => P878 t (st879 _ k)
                by_cases hc832_881 : z41 = (own_nm z30)
                · have P882 : own_Pr p.tables e below S0 T879 (mkF m 850 #[.val (.int p1), .val (.int p2), .val (.int p3), .val (.int p4), .val (.int p5), .val (.int z22), .val (.int z28), .val (.int z30), .val (.int z32), .val (.int z41), .val (.ref b50), .val (.ref b315), .val (.ref b513), .val (.ref b799), .val (.ref s823), .val (.int 1)] [(.ref s823)]) := fun t k => P880 t (by
                    refine XS.icmpNo X879.here hx rfl (hb hby at_832) rfl (XT.ii_ne_f hc832_881) ?_
                    refine XS.iconst X879.here hx rfl (hb hby at_835) ?_
                    refine XS.goto X879.here hx rfl (pc0 := 836) (pc' := 840) rfl (hb hby at_836) (by decide) (by decide) ?_
                    refine XS.istore X879.here hx rfl (hb hby at_840) rfl (l' := #[.val (.int p1), .val (.int p2), .val (.int p3), .val (.int p4), .val (.int p5), .val (.int z22), .val (.int z28), .val (.int z30), .val (.int z32), .val (.int z41), .val (.ref b50), .val (.ref b315), .val (.ref b513), .val (.ref b799), .val (.ref s823), .val (.int 1)]) rfl ?_
                    refine XS.goto X879.here hx rfl (pc0 := 842) (pc' := 848) rfl (hb hby at_842) (by decide) (by decide) ?_
                    refine XS.aload X879.here hx rfl (hb hby at_848) rfl rfl ?_
                    exact k)
                  obtain ⟨cq883, kq883, q883a, q883b, q883c⟩ := isOf hZ eq879 Eq823
                  obtain ⟨_, _, ⟨T883, L883, k883, n883⟩, -, X883, ⟨Lc883, hQ883, l883, y883, z883⟩, st883⟩ := X879.virtualBack hx (y := (⟨"java/util/Optional", "isPresent", "()Z"⟩ : MethodName)) (z := (⟨"java/util/Optional", "isPresent", "()Z"⟩ : MethodName)) hown (mvT hZ (hw _ (List.mem_of_getElem? (i := 121) rfl))) (mvT hZ (hw _ (List.mem_of_getElem? (i := 122) rfl))) (notFace_of_selects (args := #[]) (mvT hZ (hw _ (List.mem_of_getElem? (i := 124) rfl)))) (mvT hZ (hw _ (List.mem_of_getElem? (i := 124) rfl))) (mvT hZ (hw _ (List.mem_of_getElem? (i := 123) rfl))) (by decide) (backOf (W := 0) (rm23_p l Z a0 hw [] s823 bp T823.heap n0 Z826 Fq823) hZ (hw _ (List.mem_of_getElem? (i := 125) rfl)) (hw _ (List.mem_of_getElem? (i := 106) rfl)) (by decide) (by decide)) q883a q883c (g := (mkF m 850 #[.val (.int p1), .val (.int p2), .val (.int p3), .val (.int p4), .val (.int p5), .val (.int z22), .val (.int z28), .val (.int z30), .val (.int z32), .val (.int z41), .val (.ref b50), .val (.ref b315), .val (.ref b513), .val (.ref b799), .val (.ref s823), .val (.int 1)] [(.ref s823)])) rfl (by rw [hml]; rfl) (Steps.refl _) (argsL := []) (rest := []) (lenOf pd_3 rfl) rfl (by show 2 * 0 + _ ≤ _; exact Nat.le_of_eq rfl) (hb hby at_850) (fun _ _ => ⟨rfl, eq879, (by decide : 17 + 0 ≤ _), (by decide : 434 + 0 ≤ _)⟩)
                  dsimp only [Pt.U, Pt.locs, Pt.cells, Pt.slots] at X883 l883 y883 z883 st883 hQ883
                  rw [l883, y883, z883] at X883
                  have X883 := X883.mono (cells' := 17) (slots' := 434) (by decide) (by decide)
                  obtain ⟨z883v, rfl, hz883v, Nq883, eq883⟩ := hQ883
                  have N883n := Fr.app N879n Nq883
                  have hy883 := hz883v.symm; subst hy883
                  have P884 : own_Pr p.tables e below S0 T883 (mkF m 853 #[.val (.int p1), .val (.int p2), .val (.int p3), .val (.int p4), .val (.int p5), .val (.int z22), .val (.int z28), .val (.int z30), .val (.int z32), .val (.int z41), .val (.ref b50), .val (.ref b315), .val (.ref b513), .val (.ref b799), .val (.ref s823), .val (.int 1)] [(.int 1)]) := fun t k => P882 t (st883.trans k)
                  have P885 : own_Pr p.tables e below S0 T883 (mkF m 860 #[.val (.int p1), .val (.int p2), .val (.int p3), .val (.int p4), .val (.int p5), .val (.int z22), .val (.int z28), .val (.int z30), .val (.int z32), .val (.int z41), .val (.ref b50), .val (.ref b315), .val (.ref b513), .val (.ref b799), .val (.ref s823), .val (.int 1)] [(.ref s823)]) := fun t k => P884 t (by
                    refine XS.iload X883.here hx rfl (hb hby at_853) rfl ?_
                    refine XS.icmpNo X883.here hx rfl (hb hby at_855) rfl (by decide) ?_
                    refine XS.aload X883.here hx rfl (hb hby at_858) rfl rfl ?_
                    exact k)
                  obtain ⟨cq886, kq886, q886a, q886b, q886c⟩ := isOf hZ eq883 Eq823
                  obtain ⟨_, _, ⟨T886, L886, k886, n886⟩, -, X886, ⟨Lc886, hQ886, l886, y886, z886⟩, st886⟩ := X883.virtualBack hx (y := (⟨"java/util/Optional", "isPresent", "()Z"⟩ : MethodName)) (z := (⟨"java/util/Optional", "isPresent", "()Z"⟩ : MethodName)) hown (mvT hZ (hw _ (List.mem_of_getElem? (i := 121) rfl))) (mvT hZ (hw _ (List.mem_of_getElem? (i := 122) rfl))) (notFace_of_selects (args := #[]) (mvT hZ (hw _ (List.mem_of_getElem? (i := 124) rfl)))) (mvT hZ (hw _ (List.mem_of_getElem? (i := 124) rfl))) (mvT hZ (hw _ (List.mem_of_getElem? (i := 123) rfl))) (by decide) (backOf (W := 0) (rm23_p l Z a0 hw [] s823 bp T823.heap n0 Z826 Fq823) hZ (hw _ (List.mem_of_getElem? (i := 125) rfl)) (hw _ (List.mem_of_getElem? (i := 106) rfl)) (by decide) (by decide)) q886a q886c (g := (mkF m 860 #[.val (.int p1), .val (.int p2), .val (.int p3), .val (.int p4), .val (.int p5), .val (.int z22), .val (.int z28), .val (.int z30), .val (.int z32), .val (.int z41), .val (.ref b50), .val (.ref b315), .val (.ref b513), .val (.ref b799), .val (.ref s823), .val (.int 1)] [(.ref s823)])) rfl (by rw [hml]; rfl) (Steps.refl _) (argsL := []) (rest := []) (lenOf pd_3 rfl) rfl (by show 2 * 0 + _ ≤ _; exact Nat.le_of_eq rfl) (hb hby at_860) (fun _ _ => ⟨rfl, eq883, (by decide : 17 + 0 ≤ _), (by decide : 434 + 0 ≤ _)⟩)
                  dsimp only [Pt.U, Pt.locs, Pt.cells, Pt.slots] at X886 l886 y886 z886 st886 hQ886
                  rw [l886, y886, z886] at X886
                  have X886 := X886.mono (cells' := 17) (slots' := 434) (by decide) (by decide)
                  obtain ⟨z886v, rfl, hz886v, Nq886, eq886⟩ := hQ886
                  have N886n := Fr.app N883n Nq886
                  have hy886 := hz886v.symm; subst hy886
                  have P887 : own_Pr p.tables e below S0 T886 (mkF m 863 #[.val (.int p1), .val (.int p2), .val (.int p3), .val (.int p4), .val (.int p5), .val (.int z22), .val (.int z28), .val (.int z30), .val (.int z32), .val (.int z41), .val (.ref b50), .val (.ref b315), .val (.ref b513), .val (.ref b799), .val (.ref s823), .val (.int 1)] [(.int 1)]) := fun t k => P885 t (st886.trans k)
                  have P888 : own_Pr p.tables e below S0 T886 (mkF m 868 #[.val (.int p1), .val (.int p2), .val (.int p3), .val (.int p4), .val (.int p5), .val (.int z22), .val (.int z28), .val (.int z30), .val (.int z32), .val (.int z41), .val (.ref b50), .val (.ref b315), .val (.ref b513), .val (.ref b799), .val (.ref s823), .val (.int 1)] [(.ref s823)]) := fun t k => P887 t (by
                    refine XS.ifNo X886.here hx rfl (hb hby at_863) rfl (by decide) ?_
                    refine XS.aload X886.here hx rfl (hb hby at_866) rfl rfl ?_
                    exact k)
                  obtain ⟨cq889, kq889, q889a, q889b, q889c⟩ := isOf hZ eq886 Eq823
                  obtain ⟨_, _, ⟨T889, L889, k889, n889⟩, -, X889, ⟨Lc889, hQ889, l889, y889, z889⟩, st889⟩ := X886.virtualBack hx (y := (⟨"java/util/Optional", "get", "()Ljava/lang/Object;"⟩ : MethodName)) (z := (⟨"java/util/Optional", "get", "()Ljava/lang/Object;"⟩ : MethodName)) hown (mvT hZ (hw _ (List.mem_of_getElem? (i := 126) rfl))) (mvT hZ (hw _ (List.mem_of_getElem? (i := 127) rfl))) (notFace_of_selects (args := #[]) (mvT hZ (hw _ (List.mem_of_getElem? (i := 129) rfl)))) (mvT hZ (hw _ (List.mem_of_getElem? (i := 129) rfl))) (mvT hZ (hw _ (List.mem_of_getElem? (i := 128) rfl))) (by decide) (backOf (W := 0) (rm24 l Z a0 hw [] s823 bp T823.heap n0 Z826 Fq823) hZ (hw _ (List.mem_of_getElem? (i := 130) rfl)) (hw _ (List.mem_of_getElem? (i := 106) rfl)) (by decide) (by decide)) q889a q889c (g := (mkF m 868 #[.val (.int p1), .val (.int p2), .val (.int p3), .val (.int p4), .val (.int p5), .val (.int z22), .val (.int z28), .val (.int z30), .val (.int z32), .val (.int z41), .val (.ref b50), .val (.ref b315), .val (.ref b513), .val (.ref b799), .val (.ref s823), .val (.int 1)] [(.ref s823)])) rfl (by rw [hml]; rfl) (Steps.refl _) (argsL := []) (rest := []) (lenOf pd_16 rfl) rfl (by show 2 * 0 + _ ≤ _; exact Nat.le_of_eq rfl) (hb hby at_868) (fun _ _ => ⟨rfl, eq886, (by decide : 17 + 0 ≤ _), (by decide : 434 + 0 ≤ _)⟩)
                  dsimp only [Pt.U, Pt.locs, Pt.cells, Pt.slots] at X889 l889 y889 z889 st889 hQ889
                  rw [l889, y889, z889] at X889
                  have X889 := X889.mono (cells' := 17) (slots' := 434) (by decide) (by decide)
                  obtain ⟨z889v, rfl, hz889v, Nq889, eq889⟩ := hQ889
                  have N889n := Fr.app N886n Nq889
                  have hy889 := hz889v.symm; subst hy889
                  have P890 : own_Pr p.tables e below S0 T889 (mkF m 871 #[.val (.int p1), .val (.int p2), .val (.int p3), .val (.int p4), .val (.int p5), .val (.int z22), .val (.int z28), .val (.int z30), .val (.int z32), .val (.int z41), .val (.ref b50), .val (.ref b315), .val (.ref b513), .val (.ref b799), .val (.ref s823), .val (.int 1)] [(.ref bp)]) := fun t k => P888 t (st889.trans k)
                  have SBn := own_sta_keep0 SB K827
                  obtain ⟨T891, X891, e891, st891⟩ := getS2 X889 hx hZ hown (host := "") (Or.inl (hw _ (List.mem_of_getElem? (i := 131) rfl))) Via.refl eq889 SBn (g := (mkF m 871 #[.val (.int p1), .val (.int p2), .val (.int p3), .val (.int p4), .val (.int p5), .val (.int z22), .val (.int z28), .val (.int z30), .val (.int z32), .val (.int z41), .val (.ref b50), .val (.ref b315), .val (.ref b513), .val (.ref b799), .val (.ref s823), .val (.int 1)] [(.ref bp)])) rfl (hb hby at_871)
                  have P892 : own_Pr p.tables e below S0 T891 (mkF m 874 #[.val (.int p1), .val (.int p2), .val (.int p3), .val (.int p4), .val (.int p5), .val (.int z22), .val (.int z28), .val (.int z30), .val (.int z32), .val (.int z41), .val (.ref b50), .val (.ref b315), .val (.ref b513), .val (.ref b799), .val (.ref s823), .val (.int 1)] [(.ref bp), (.ref bp)]) := fun t k => P890 t (st891 _ k)
                  have P893 : own_Pr p.tables e below S0 T891 (mkF m 882 #[.val (.int p1), .val (.int p2), .val (.int p3), .val (.int p4), .val (.int p5), .val (.int z22), .val (.int z28), .val (.int z30), .val (.int z32), .val (.int z41), .val (.ref b50), .val (.ref b315), .val (.ref b513), .val (.ref b799), .val (.ref s823), .val (.int 1)] [(.int 1)]) := fun t k => P892 t (by
                    refine Jvm.RoadKit.acmp (g := (mkF m 874 #[.val (.int p1), .val (.int p2), .val (.int p3), .val (.int p4), .val (.int p5), .val (.int z22), .val (.int z28), .val (.int z30), .val (.int z32), .val (.int z41), .val (.ref b50), .val (.ref b315), .val (.ref b513), .val (.ref b799), .val (.ref s823), .val (.int 1)] [(.ref bp), (.ref bp)])) X891 hx rfl rfl rfl (pc0 := 874) (pc' := 877) (same := true) rfl (hb hby at_874) rfl (decide_eq_true (congrArg Value.ref rfl)) (by decide) (by decide) ?_
                    refine XS.iconst X891.here hx rfl (hb hby at_877) ?_
                    refine XS.goto X891.here hx rfl (pc0 := 878) (pc' := 882) rfl (hb hby at_878) (by decide) (by decide) ?_
                    exact k)
                  obtain ⟨fs, hr, hrun, hended, hend⟩ := X891.leaveW hSn (by rw [e891]; exact kS828) (v := some (.int 1)) (fun h => by rw [Bd.returns] at h; cases h)
                  have fin : Steps p.tables e below S0 (T891.setFrames fs) := P893 _ (retN X891 hx (t := .boolean) Bd.returns (by simp) (hb hby at_882) hr)
                  rw [hS0] at fin
                  refine ⟨_, _, fin, hrun, hended, _, _, rfl, ?_, (show CHr Z consts_1 s.vm s.heap T891.vm T891.heap by rw [hh, e891]; exact CR824.trans (CHv.at X891 hZ (own_EW hw) CR824.1)), hend.1, hend.2.1, hend.2.2.1, hend.2.2.2.mono (by decide) (by decide)⟩
                  show own_QL n0 _ _
                  exact ⟨_, rfl, rfl, N889n⟩
                · have P894 : own_Pr p.tables e below S0 T879 (mkF m 850 #[.val (.int p1), .val (.int p2), .val (.int p3), .val (.int p4), .val (.int p5), .val (.int z22), .val (.int z28), .val (.int z30), .val (.int z32), .val (.int z41), .val (.ref b50), .val (.ref b315), .val (.ref b513), .val (.ref b799), .val (.ref s823), .val (.int 0)] [(.ref s823)]) := fun t k => P880 t (by
                    refine XS.icmpYes X879.here hx rfl (pc0 := 832) (pc' := 839) rfl (hb hby at_832) rfl (XT.ii_ne_t hc832_881) (by decide) (by decide) ?_
                    refine XS.iconst X879.here hx rfl (hb hby at_839) ?_
                    refine XS.istore X879.here hx rfl (hb hby at_840) rfl (l' := #[.val (.int p1), .val (.int p2), .val (.int p3), .val (.int p4), .val (.int p5), .val (.int z22), .val (.int z28), .val (.int z30), .val (.int z32), .val (.int z41), .val (.ref b50), .val (.ref b315), .val (.ref b513), .val (.ref b799), .val (.ref s823), .val (.int 0)]) rfl ?_
                    refine XS.goto X879.here hx rfl (pc0 := 842) (pc' := 848) rfl (hb hby at_842) (by decide) (by decide) ?_
                    refine XS.aload X879.here hx rfl (hb hby at_848) rfl rfl ?_
                    exact k)
                  obtain ⟨cq895, kq895, q895a, q895b, q895c⟩ := isOf hZ eq879 Eq823
                  obtain ⟨_, _, ⟨T895, L895, k895, n895⟩, -, X895, ⟨Lc895, hQ895, l895, y895, z895⟩, st895⟩ := X879.virtualBack hx (y := (⟨"java/util/Optional", "isPresent", "()Z"⟩ : MethodName)) (z := (⟨"java/util/Optional", "isPresent", "()Z"⟩ : MethodName)) hown (mvT hZ (hw _ (List.mem_of_getElem? (i := 121) rfl))) (mvT hZ (hw _ (List.mem_of_getElem? (i := 122) rfl))) (notFace_of_selects (args := #[]) (mvT hZ (hw _ (List.mem_of_getElem? (i := 124) rfl)))) (mvT hZ (hw _ (List.mem_of_getElem? (i := 124) rfl))) (mvT hZ (hw _ (List.mem_of_getElem? (i := 123) rfl))) (by decide) (backOf (W := 0) (rm23_p l Z a0 hw [] s823 bp T823.heap n0 Z826 Fq823) hZ (hw _ (List.mem_of_getElem? (i := 125) rfl)) (hw _ (List.mem_of_getElem? (i := 106) rfl)) (by decide) (by decide)) q895a q895c (g := (mkF m 850 #[.val (.int p1), .val (.int p2), .val (.int p3), .val (.int p4), .val (.int p5), .val (.int z22), .val (.int z28), .val (.int z30), .val (.int z32), .val (.int z41), .val (.ref b50), .val (.ref b315), .val (.ref b513), .val (.ref b799), .val (.ref s823), .val (.int 0)] [(.ref s823)])) rfl (by rw [hml]; rfl) (Steps.refl _) (argsL := []) (rest := []) (lenOf pd_3 rfl) rfl (by show 2 * 0 + _ ≤ _; exact Nat.le_of_eq rfl) (hb hby at_850) (fun _ _ => ⟨rfl, eq879, (by decide : 17 + 0 ≤ _), (by decide : 434 + 0 ≤ _)⟩)
                  dsimp only [Pt.U, Pt.locs, Pt.cells, Pt.slots] at X895 l895 y895 z895 st895 hQ895
                  rw [l895, y895, z895] at X895
                  have X895 := X895.mono (cells' := 17) (slots' := 434) (by decide) (by decide)
                  obtain ⟨z895v, rfl, hz895v, Nq895, eq895⟩ := hQ895
                  have N895n := Fr.app N879n Nq895
                  have hy895 := hz895v.symm; subst hy895
                  have P896 : own_Pr p.tables e below S0 T895 (mkF m 853 #[.val (.int p1), .val (.int p2), .val (.int p3), .val (.int p4), .val (.int p5), .val (.int z22), .val (.int z28), .val (.int z30), .val (.int z32), .val (.int z41), .val (.ref b50), .val (.ref b315), .val (.ref b513), .val (.ref b799), .val (.ref s823), .val (.int 0)] [(.int 1)]) := fun t k => P894 t (st895.trans k)
                  exact (own_bad3d hu0 hu1 hu2 hz164v hz174v hz184v hz194v hz204v hz214v hz224v hz234v hz244v hz254v hz264v hz274v hz284v hz294v hE hc787_852 hz30 hc832_881).elim
              · have P897 : own_Pr p.tables e below S0 T875 (mkF m 850 #[.val (.int p1), .val (.int p2), .val (.int p3), .val (.int p4), .val (.int p5), .val (.int z22), .val (.int z28), .val (.int z30), .val (.int z32), .val (.int z41), .val (.ref b50), .val (.ref b315), .val (.ref b513), .val (.ref b799), .val (.ref s823), .val (.int 0)] [(.ref s823)]) := fun t k => P876 t (by
                  refine XS.icmpYes X875.here hx rfl (pc0 := 822) (pc' := 839) rfl (hb hby at_822) rfl (XT.ii_ne_t hc822_877) (by decide) (by decide) ?_
                  refine XS.iconst X875.here hx rfl (hb hby at_839) ?_
                  refine XS.istore X875.here hx rfl (hb hby at_840) rfl (l' := #[.val (.int p1), .val (.int p2), .val (.int p3), .val (.int p4), .val (.int p5), .val (.int z22), .val (.int z28), .val (.int z30), .val (.int z32), .val (.int z41), .val (.ref b50), .val (.ref b315), .val (.ref b513), .val (.ref b799), .val (.ref s823), .val (.int 0)]) rfl ?_
                  refine XS.goto X875.here hx rfl (pc0 := 842) (pc' := 848) rfl (hb hby at_842) (by decide) (by decide) ?_
                  refine XS.aload X875.here hx rfl (hb hby at_848) rfl rfl ?_
                  exact k)
                obtain ⟨cq898, kq898, q898a, q898b, q898c⟩ := isOf hZ eq875 Eq823
                obtain ⟨_, _, ⟨T898, L898, k898, n898⟩, -, X898, ⟨Lc898, hQ898, l898, y898, z898⟩, st898⟩ := X875.virtualBack hx (y := (⟨"java/util/Optional", "isPresent", "()Z"⟩ : MethodName)) (z := (⟨"java/util/Optional", "isPresent", "()Z"⟩ : MethodName)) hown (mvT hZ (hw _ (List.mem_of_getElem? (i := 121) rfl))) (mvT hZ (hw _ (List.mem_of_getElem? (i := 122) rfl))) (notFace_of_selects (args := #[]) (mvT hZ (hw _ (List.mem_of_getElem? (i := 124) rfl)))) (mvT hZ (hw _ (List.mem_of_getElem? (i := 124) rfl))) (mvT hZ (hw _ (List.mem_of_getElem? (i := 123) rfl))) (by decide) (backOf (W := 0) (rm23_p l Z a0 hw [] s823 bp T823.heap n0 Z826 Fq823) hZ (hw _ (List.mem_of_getElem? (i := 125) rfl)) (hw _ (List.mem_of_getElem? (i := 106) rfl)) (by decide) (by decide)) q898a q898c (g := (mkF m 850 #[.val (.int p1), .val (.int p2), .val (.int p3), .val (.int p4), .val (.int p5), .val (.int z22), .val (.int z28), .val (.int z30), .val (.int z32), .val (.int z41), .val (.ref b50), .val (.ref b315), .val (.ref b513), .val (.ref b799), .val (.ref s823), .val (.int 0)] [(.ref s823)])) rfl (by rw [hml]; rfl) (Steps.refl _) (argsL := []) (rest := []) (lenOf pd_3 rfl) rfl (by show 2 * 0 + _ ≤ _; exact Nat.le_of_eq rfl) (hb hby at_850) (fun _ _ => ⟨rfl, eq875, (by decide : 17 + 0 ≤ _), (by decide : 434 + 0 ≤ _)⟩)
                dsimp only [Pt.U, Pt.locs, Pt.cells, Pt.slots] at X898 l898 y898 z898 st898 hQ898
                rw [l898, y898, z898] at X898
                have X898 := X898.mono (cells' := 17) (slots' := 434) (by decide) (by decide)
                obtain ⟨z898v, rfl, hz898v, Nq898, eq898⟩ := hQ898
                have N898n := Fr.app N875n Nq898
                have hy898 := hz898v.symm; subst hy898
                have P899 : own_Pr p.tables e below S0 T898 (mkF m 853 #[.val (.int p1), .val (.int p2), .val (.int p3), .val (.int p4), .val (.int p5), .val (.int z22), .val (.int z28), .val (.int z30), .val (.int z32), .val (.int z41), .val (.ref b50), .val (.ref b315), .val (.ref b513), .val (.ref b799), .val (.ref s823), .val (.int 0)] [(.int 1)]) := fun t k => P897 t (st898.trans k)
                exact (own_bad3c hu0 hu1 hu2 hz164v hz174v hz184v hz194v hz204v hz214v hz224v hz234v hz244v hz254v hz264v hz274v hz284v hz294v hE hc787_852 hz26 hz28 hc794_854 hc822_877).elim
          · have P900 : own_Pr p.tables e below S0 T823 (mkF m 845 #[.val (.int p1), .val (.int p2), .val (.int p3), .val (.int p4), .val (.int p5), .val (.int z22), .val (.int z28), .val (.int z30), .val (.int z32), .val (.int z41), .val (.ref b50), .val (.ref b315), .val (.ref b513), .val (.ref b799), .val (.ref s823), .unset] []) := fun t k => P851 t (by
              refine XS.icmpYes X823.here hx rfl (pc0 := 787) (pc' := 845) rfl (hb hby at_787) rfl (XT.ii_ne_t hc787_852) (by decide) (by decide) ?_
              exact k)
            exact (own_m4 hz22 hc761_831 hc708_717 hc726_758 hc787_852).elim
      · have _u := hE
        rw [if_neg hE] at Fq823
        have P901 : own_Pr p.tables e below S0 T823 (mkF m 757 #[.val (.int p1), .val (.int p2), .val (.int p3), .val (.int p4), .val (.int p5), .val (.int z22), .val (.int z28), .val (.int z30), .val (.int z32), .val (.int z41), .val (.ref b50), .val (.ref b315), .val (.ref b513), .val (.ref b799), .unset, .unset] [(.ref s823)]) := fun t k => P822 t (st823 _ k)
        have P902 : own_Pr p.tables e below S0 T823 (mkF m 761 #[.val (.int p1), .val (.int p2), .val (.int p3), .val (.int p4), .val (.int p5), .val (.int z22), .val (.int z28), .val (.int z30), .val (.int z32), .val (.int z41), .val (.ref b50), .val (.ref b315), .val (.ref b513), .val (.ref b799), .val (.ref s823), .unset] [(.int z22)]) := fun t k => P901 t (by
          refine XS.astore X823.here hx rfl (hb hby at_757) rfl rfl (l' := #[.val (.int p1), .val (.int p2), .val (.int p3), .val (.int p4), .val (.int p5), .val (.int z22), .val (.int z28), .val (.int z30), .val (.int z32), .val (.int z41), .val (.ref b50), .val (.ref b315), .val (.ref b513), .val (.ref b799), .val (.ref s823), .unset]) rfl ?_
          refine XS.iload X823.here hx rfl (hb hby at_759) rfl ?_
          exact k)
        by_cases hc761_903 : z22 = (0 : Int32)
        · have P904 : own_Pr p.tables e below S0 T823 (mkF m 768 #[.val (.int p1), .val (.int p2), .val (.int p3), .val (.int p4), .val (.int p5), .val (.int z22), .val (.int z28), .val (.int z30), .val (.int z32), .val (.int z41), .val (.ref b50), .val (.ref b315), .val (.ref b513), .val (.ref b799), .val (.ref s823), .unset] [(.int z28), (.int z32)]) := fun t k => P902 t (by
            refine XS.ifNo X823.here hx rfl (hb hby at_761) rfl (XT.i0_ne_f hc761_903) ?_
            refine XS.iload X823.here hx rfl (hb hby at_764) rfl ?_
            refine XS.iload X823.here hx rfl (hb hby at_766) rfl ?_
            exact k)
          obtain ⟨_, _, ⟨T905, L905, k905, n905⟩, -, X905, ⟨Lc905, hQ905, l905, y905, z905⟩, st905⟩ := Jvm.LawKit.callS X823 hx (y := (⟨"com/example/firmhold/firmhold/PermissionNamedPinLaw", "nm", "(I)C"⟩ : MethodName)) hown (mvT hZ (hw _ (List.mem_of_getElem? (i := 1) rfl))) (mvT hZ (hw _ (List.mem_of_getElem? (i := 2) rfl))) (mvT hZ (hw _ (List.mem_of_getElem? (i := 3) rfl))) (mvT hZ (hw _ (List.mem_of_getElem? (i := 4) rfl))) (by decide) (own_backL (W := 1) (rm1_b l Z a0 hw [] z28 lt cs fm T823.heap n0 Z826 F825 (own_sta_keep0 CS K827) hcs (own_sta_keep0 FM K827) hr_fm) hZ (hw _ (List.mem_of_getElem? (i := 4) rfl)) (hw _ (List.mem_of_getElem? (i := 3) rfl)) (by decide) (by decide) (fun vm hv => (State.resolvedAt?_warmed39 hv Lt))) (g := (mkF m 768 #[.val (.int p1), .val (.int p2), .val (.int p3), .val (.int p4), .val (.int p5), .val (.int z22), .val (.int z28), .val (.int z30), .val (.int z32), .val (.int z41), .val (.ref b50), .val (.ref b315), .val (.ref b513), .val (.ref b799), .val (.ref s823), .unset] [(.int z28), (.int z32)])) rfl (by rw [hml]; rfl) (argsL := [(.int z28)]) (rest := [(.int z32)]) (lenOf pd_6 rfl) rfl (by show 2 * 0 + _ ≤ _; exact Nat.le_of_eq rfl) (hb hby at_768) (fun _ _ => ⟨rfl, rfl, (by decide : 17 + 0 ≤ _), (by decide : 434 + 0 ≤ _)⟩)
          dsimp only [Pt.U, Pt.locs, Pt.cells, Pt.slots] at X905 l905 y905 z905 st905 hQ905
          rw [l905, y905, z905] at X905
          have X905 := X905.mono (cells' := 17) (slots' := 434) (by decide) (by decide)
          obtain ⟨z905v, rfl, hz905v, Nq905, eq905⟩ := hQ905
          have N905n := Fr.app N823n Nq905
          have hy905 := hz905v.symm; subst hy905
          have P906 : own_Pr p.tables e below S0 T905 (mkF m 771 #[.val (.int p1), .val (.int p2), .val (.int p3), .val (.int p4), .val (.int p5), .val (.int z22), .val (.int z28), .val (.int z30), .val (.int z32), .val (.int z41), .val (.ref b50), .val (.ref b315), .val (.ref b513), .val (.ref b799), .val (.ref s823), .unset] [(.int (own_nm z28)), (.int z32)]) := fun t k => P904 t (st905 _ k)
          by_cases hc771_907 : z32 = (own_nm z28)
          · have P908 : own_Pr p.tables e below S0 T905 (mkF m 850 #[.val (.int p1), .val (.int p2), .val (.int p3), .val (.int p4), .val (.int p5), .val (.int z22), .val (.int z28), .val (.int z30), .val (.int z32), .val (.int z41), .val (.ref b50), .val (.ref b315), .val (.ref b513), .val (.ref b799), .val (.ref s823), .val (.int 1)] [(.ref s823)]) := fun t k => P906 t (by
              refine XS.icmpNo X905.here hx rfl (hb hby at_771) rfl (XT.ii_ne_f hc771_907) ?_
              refine XS.iconst X905.here hx rfl (hb hby at_774) ?_
              refine XS.goto X905.here hx rfl (pc0 := 775) (pc' := 779) rfl (hb hby at_775) (by decide) (by decide) ?_
              refine XS.istore X905.here hx rfl (hb hby at_779) rfl (l' := #[.val (.int p1), .val (.int p2), .val (.int p3), .val (.int p4), .val (.int p5), .val (.int z22), .val (.int z28), .val (.int z30), .val (.int z32), .val (.int z41), .val (.ref b50), .val (.ref b315), .val (.ref b513), .val (.ref b799), .val (.ref s823), .val (.int 1)]) rfl ?_
              refine XS.goto X905.here hx rfl (pc0 := 781) (pc' := 848) rfl (hb hby at_781) (by decide) (by decide) ?_
              refine XS.aload X905.here hx rfl (hb hby at_848) rfl rfl ?_
              exact k)
            obtain ⟨cq909, kq909, q909a, q909b, q909c⟩ := isOf hZ eq905 Eq823
            obtain ⟨_, _, ⟨T909, L909, k909, n909⟩, -, X909, ⟨Lc909, hQ909, l909, y909, z909⟩, st909⟩ := X905.virtualBack hx (y := (⟨"java/util/Optional", "isPresent", "()Z"⟩ : MethodName)) (z := (⟨"java/util/Optional", "isPresent", "()Z"⟩ : MethodName)) hown (mvT hZ (hw _ (List.mem_of_getElem? (i := 121) rfl))) (mvT hZ (hw _ (List.mem_of_getElem? (i := 122) rfl))) (notFace_of_selects (args := #[]) (mvT hZ (hw _ (List.mem_of_getElem? (i := 124) rfl)))) (mvT hZ (hw _ (List.mem_of_getElem? (i := 124) rfl))) (mvT hZ (hw _ (List.mem_of_getElem? (i := 123) rfl))) (by decide) (backOf (W := 0) (rm23_n l Z a0 hw [] s823 bp T823.heap n0 Z826 Fq823) hZ (hw _ (List.mem_of_getElem? (i := 125) rfl)) (hw _ (List.mem_of_getElem? (i := 106) rfl)) (by decide) (by decide)) q909a q909c (g := (mkF m 850 #[.val (.int p1), .val (.int p2), .val (.int p3), .val (.int p4), .val (.int p5), .val (.int z22), .val (.int z28), .val (.int z30), .val (.int z32), .val (.int z41), .val (.ref b50), .val (.ref b315), .val (.ref b513), .val (.ref b799), .val (.ref s823), .val (.int 1)] [(.ref s823)])) rfl (by rw [hml]; rfl) (Steps.refl _) (argsL := []) (rest := []) (lenOf pd_3 rfl) rfl (by show 2 * 0 + _ ≤ _; exact Nat.le_of_eq rfl) (hb hby at_850) (fun _ _ => ⟨rfl, eq905, (by decide : 17 + 0 ≤ _), (by decide : 434 + 0 ≤ _)⟩)
            dsimp only [Pt.U, Pt.locs, Pt.cells, Pt.slots] at X909 l909 y909 z909 st909 hQ909
            rw [l909, y909, z909] at X909
            have X909 := X909.mono (cells' := 17) (slots' := 434) (by decide) (by decide)
            obtain ⟨z909v, rfl, hz909v, Nq909, eq909⟩ := hQ909
            have N909n := Fr.app N905n Nq909
            have hy909 := hz909v.symm; subst hy909
            have P910 : own_Pr p.tables e below S0 T909 (mkF m 853 #[.val (.int p1), .val (.int p2), .val (.int p3), .val (.int p4), .val (.int p5), .val (.int z22), .val (.int z28), .val (.int z30), .val (.int z32), .val (.int z41), .val (.ref b50), .val (.ref b315), .val (.ref b513), .val (.ref b799), .val (.ref s823), .val (.int 1)] [(.int 0)]) := fun t k => P908 t (st909.trans k)
            exact (own_bad0p hu0 hu1 hu2 hz164v hz174v hz184v hz194v hz204v hz214v hz224v hz234v hz244v hz254v hz264v hz274v hz284v hz294v hE hc761_903 hc771_907).elim
          · have P911 : own_Pr p.tables e below S0 T905 (mkF m 850 #[.val (.int p1), .val (.int p2), .val (.int p3), .val (.int p4), .val (.int p5), .val (.int z22), .val (.int z28), .val (.int z30), .val (.int z32), .val (.int z41), .val (.ref b50), .val (.ref b315), .val (.ref b513), .val (.ref b799), .val (.ref s823), .val (.int 0)] [(.ref s823)]) := fun t k => P906 t (by
              refine XS.icmpYes X905.here hx rfl (pc0 := 771) (pc' := 778) rfl (hb hby at_771) rfl (XT.ii_ne_t hc771_907) (by decide) (by decide) ?_
              refine XS.iconst X905.here hx rfl (hb hby at_778) ?_
              refine XS.istore X905.here hx rfl (hb hby at_779) rfl (l' := #[.val (.int p1), .val (.int p2), .val (.int p3), .val (.int p4), .val (.int p5), .val (.int z22), .val (.int z28), .val (.int z30), .val (.int z32), .val (.int z41), .val (.ref b50), .val (.ref b315), .val (.ref b513), .val (.ref b799), .val (.ref s823), .val (.int 0)]) rfl ?_
              refine XS.goto X905.here hx rfl (pc0 := 781) (pc' := 848) rfl (hb hby at_781) (by decide) (by decide) ?_
              refine XS.aload X905.here hx rfl (hb hby at_848) rfl rfl ?_
              exact k)
            obtain ⟨cq912, kq912, q912a, q912b, q912c⟩ := isOf hZ eq905 Eq823
            obtain ⟨_, _, ⟨T912, L912, k912, n912⟩, -, X912, ⟨Lc912, hQ912, l912, y912, z912⟩, st912⟩ := X905.virtualBack hx (y := (⟨"java/util/Optional", "isPresent", "()Z"⟩ : MethodName)) (z := (⟨"java/util/Optional", "isPresent", "()Z"⟩ : MethodName)) hown (mvT hZ (hw _ (List.mem_of_getElem? (i := 121) rfl))) (mvT hZ (hw _ (List.mem_of_getElem? (i := 122) rfl))) (notFace_of_selects (args := #[]) (mvT hZ (hw _ (List.mem_of_getElem? (i := 124) rfl)))) (mvT hZ (hw _ (List.mem_of_getElem? (i := 124) rfl))) (mvT hZ (hw _ (List.mem_of_getElem? (i := 123) rfl))) (by decide) (backOf (W := 0) (rm23_n l Z a0 hw [] s823 bp T823.heap n0 Z826 Fq823) hZ (hw _ (List.mem_of_getElem? (i := 125) rfl)) (hw _ (List.mem_of_getElem? (i := 106) rfl)) (by decide) (by decide)) q912a q912c (g := (mkF m 850 #[.val (.int p1), .val (.int p2), .val (.int p3), .val (.int p4), .val (.int p5), .val (.int z22), .val (.int z28), .val (.int z30), .val (.int z32), .val (.int z41), .val (.ref b50), .val (.ref b315), .val (.ref b513), .val (.ref b799), .val (.ref s823), .val (.int 0)] [(.ref s823)])) rfl (by rw [hml]; rfl) (Steps.refl _) (argsL := []) (rest := []) (lenOf pd_3 rfl) rfl (by show 2 * 0 + _ ≤ _; exact Nat.le_of_eq rfl) (hb hby at_850) (fun _ _ => ⟨rfl, eq905, (by decide : 17 + 0 ≤ _), (by decide : 434 + 0 ≤ _)⟩)
            dsimp only [Pt.U, Pt.locs, Pt.cells, Pt.slots] at X912 l912 y912 z912 st912 hQ912
            rw [l912, y912, z912] at X912
            have X912 := X912.mono (cells' := 17) (slots' := 434) (by decide) (by decide)
            obtain ⟨z912v, rfl, hz912v, Nq912, eq912⟩ := hQ912
            have N912n := Fr.app N905n Nq912
            have hy912 := hz912v.symm; subst hy912
            have P913 : own_Pr p.tables e below S0 T912 (mkF m 853 #[.val (.int p1), .val (.int p2), .val (.int p3), .val (.int p4), .val (.int p5), .val (.int z22), .val (.int z28), .val (.int z30), .val (.int z32), .val (.int z41), .val (.ref b50), .val (.ref b315), .val (.ref b513), .val (.ref b799), .val (.ref s823), .val (.int 0)] [(.int 0)]) := fun t k => P911 t (st912.trans k)
            have P914 : own_Pr p.tables e below S0 T912 (mkF m 860 #[.val (.int p1), .val (.int p2), .val (.int p3), .val (.int p4), .val (.int p5), .val (.int z22), .val (.int z28), .val (.int z30), .val (.int z32), .val (.int z41), .val (.ref b50), .val (.ref b315), .val (.ref b513), .val (.ref b799), .val (.ref s823), .val (.int 0)] [(.ref s823)]) := fun t k => P913 t (by
              refine XS.iload X912.here hx rfl (hb hby at_853) rfl ?_
              refine XS.icmpNo X912.here hx rfl (hb hby at_855) rfl (by decide) ?_
              refine XS.aload X912.here hx rfl (hb hby at_858) rfl rfl ?_
              exact k)
            obtain ⟨cq915, kq915, q915a, q915b, q915c⟩ := isOf hZ eq912 Eq823
            obtain ⟨_, _, ⟨T915, L915, k915, n915⟩, -, X915, ⟨Lc915, hQ915, l915, y915, z915⟩, st915⟩ := X912.virtualBack hx (y := (⟨"java/util/Optional", "isPresent", "()Z"⟩ : MethodName)) (z := (⟨"java/util/Optional", "isPresent", "()Z"⟩ : MethodName)) hown (mvT hZ (hw _ (List.mem_of_getElem? (i := 121) rfl))) (mvT hZ (hw _ (List.mem_of_getElem? (i := 122) rfl))) (notFace_of_selects (args := #[]) (mvT hZ (hw _ (List.mem_of_getElem? (i := 124) rfl)))) (mvT hZ (hw _ (List.mem_of_getElem? (i := 124) rfl))) (mvT hZ (hw _ (List.mem_of_getElem? (i := 123) rfl))) (by decide) (backOf (W := 0) (rm23_n l Z a0 hw [] s823 bp T823.heap n0 Z826 Fq823) hZ (hw _ (List.mem_of_getElem? (i := 125) rfl)) (hw _ (List.mem_of_getElem? (i := 106) rfl)) (by decide) (by decide)) q915a q915c (g := (mkF m 860 #[.val (.int p1), .val (.int p2), .val (.int p3), .val (.int p4), .val (.int p5), .val (.int z22), .val (.int z28), .val (.int z30), .val (.int z32), .val (.int z41), .val (.ref b50), .val (.ref b315), .val (.ref b513), .val (.ref b799), .val (.ref s823), .val (.int 0)] [(.ref s823)])) rfl (by rw [hml]; rfl) (Steps.refl _) (argsL := []) (rest := []) (lenOf pd_3 rfl) rfl (by show 2 * 0 + _ ≤ _; exact Nat.le_of_eq rfl) (hb hby at_860) (fun _ _ => ⟨rfl, eq912, (by decide : 17 + 0 ≤ _), (by decide : 434 + 0 ≤ _)⟩)
            dsimp only [Pt.U, Pt.locs, Pt.cells, Pt.slots] at X915 l915 y915 z915 st915 hQ915
            rw [l915, y915, z915] at X915
            have X915 := X915.mono (cells' := 17) (slots' := 434) (by decide) (by decide)
            obtain ⟨z915v, rfl, hz915v, Nq915, eq915⟩ := hQ915
            have N915n := Fr.app N912n Nq915
            have hy915 := hz915v.symm; subst hy915
            have P916 : own_Pr p.tables e below S0 T915 (mkF m 863 #[.val (.int p1), .val (.int p2), .val (.int p3), .val (.int p4), .val (.int p5), .val (.int z22), .val (.int z28), .val (.int z30), .val (.int z32), .val (.int z41), .val (.ref b50), .val (.ref b315), .val (.ref b513), .val (.ref b799), .val (.ref s823), .val (.int 0)] [(.int 0)]) := fun t k => P914 t (st915.trans k)
            have P917 : own_Pr p.tables e below S0 T915 (mkF m 882 #[.val (.int p1), .val (.int p2), .val (.int p3), .val (.int p4), .val (.int p5), .val (.int z22), .val (.int z28), .val (.int z30), .val (.int z32), .val (.int z41), .val (.ref b50), .val (.ref b315), .val (.ref b513), .val (.ref b799), .val (.ref s823), .val (.int 0)] [(.int 1)]) := fun t k => P916 t (by
              refine XS.ifYes X915.here hx rfl (pc0 := 863) (pc' := 877) rfl (hb hby at_863) rfl (by decide) (by decide) (by decide) ?_
              refine XS.iconst X915.here hx rfl (hb hby at_877) ?_
              refine XS.goto X915.here hx rfl (pc0 := 878) (pc' := 882) rfl (hb hby at_878) (by decide) (by decide) ?_
              exact k)
            obtain ⟨fs, hr, hrun, hended, hend⟩ := X915.leaveW hSn (by rw [eq915]; exact kS828) (v := some (.int 1)) (fun h => by rw [Bd.returns] at h; cases h)
            have fin : Steps p.tables e below S0 (T915.setFrames fs) := P917 _ (retN X915 hx (t := .boolean) Bd.returns (by simp) (hb hby at_882) hr)
            rw [hS0] at fin
            refine ⟨_, _, fin, hrun, hended, _, _, rfl, ?_, (show CHr Z consts_1 s.vm s.heap T915.vm T915.heap by rw [hh, eq915]; exact CR824.trans (CHv.at X915 hZ (own_EW hw) CR824.1)), hend.1, hend.2.1, hend.2.2.1, hend.2.2.2.mono (by decide) (by decide)⟩
            show own_QL n0 _ _
            exact ⟨_, rfl, rfl, N915n⟩
        · have P918 : own_Pr p.tables e below S0 T823 (mkF m 787 #[.val (.int p1), .val (.int p2), .val (.int p3), .val (.int p4), .val (.int p5), .val (.int z22), .val (.int z28), .val (.int z30), .val (.int z32), .val (.int z41), .val (.ref b50), .val (.ref b315), .val (.ref b513), .val (.ref b799), .val (.ref s823), .unset] [(.int 3), (.int z22)]) := fun t k => P902 t (by
            refine XS.ifYes X823.here hx rfl (pc0 := 761) (pc' := 784) rfl (hb hby at_761) rfl (XT.i0_ne_t hc761_903) (by decide) (by decide) ?_
            refine XS.iload X823.here hx rfl (hb hby at_784) rfl ?_
            refine XS.iconst X823.here hx rfl (hb hby at_786) ?_
            exact k)
          by_cases hc787_919 : z22 = (3 : Int32)
          · have P920 : own_Pr p.tables e below S0 T823 (mkF m 794 #[.val (.int p1), .val (.int p2), .val (.int p3), .val (.int p4), .val (.int p5), .val (.int z22), .val (.int z28), .val (.int z30), .val (.int z32), .val (.int z41), .val (.ref b50), .val (.ref b315), .val (.ref b513), .val (.ref b799), .val (.ref s823), .unset] [(.int z30), (.int z28)]) := fun t k => P918 t (by
              refine XS.icmpNo X823.here hx rfl (hb hby at_787) rfl (XT.ii_ne_f hc787_919) ?_
              refine XS.iload X823.here hx rfl (hb hby at_790) rfl ?_
              refine XS.iload X823.here hx rfl (hb hby at_792) rfl ?_
              exact k)
            by_cases hc794_921 : z28 = z30
            · have P922 : own_Pr p.tables e below S0 T823 (mkF m 801 #[.val (.int p1), .val (.int p2), .val (.int p3), .val (.int p4), .val (.int p5), .val (.int z22), .val (.int z28), .val (.int z30), .val (.int z32), .val (.int z41), .val (.ref b50), .val (.ref b315), .val (.ref b513), .val (.ref b799), .val (.ref s823), .unset] [(.int z28), (.int z41)]) := fun t k => P920 t (by
                refine XS.icmpNo X823.here hx rfl (hb hby at_794) rfl (XT.ii_ne_f hc794_921) ?_
                refine XS.iload X823.here hx rfl (hb hby at_797) rfl ?_
                refine XS.iload X823.here hx rfl (hb hby at_799) rfl ?_
                exact k)
              obtain ⟨_, _, ⟨T923, L923, k923, n923⟩, -, X923, ⟨Lc923, hQ923, l923, y923, z923⟩, st923⟩ := Jvm.LawKit.callS X823 hx (y := (⟨"com/example/firmhold/firmhold/PermissionNamedPinLaw", "nm", "(I)C"⟩ : MethodName)) hown (mvT hZ (hw _ (List.mem_of_getElem? (i := 1) rfl))) (mvT hZ (hw _ (List.mem_of_getElem? (i := 2) rfl))) (mvT hZ (hw _ (List.mem_of_getElem? (i := 3) rfl))) (mvT hZ (hw _ (List.mem_of_getElem? (i := 4) rfl))) (by decide) (own_backL (W := 1) (rm1_b l Z a0 hw [] z28 lt cs fm T823.heap n0 Z826 F825 (own_sta_keep0 CS K827) hcs (own_sta_keep0 FM K827) hr_fm) hZ (hw _ (List.mem_of_getElem? (i := 4) rfl)) (hw _ (List.mem_of_getElem? (i := 3) rfl)) (by decide) (by decide) (fun vm hv => (State.resolvedAt?_warmed39 hv Lt))) (g := (mkF m 801 #[.val (.int p1), .val (.int p2), .val (.int p3), .val (.int p4), .val (.int p5), .val (.int z22), .val (.int z28), .val (.int z30), .val (.int z32), .val (.int z41), .val (.ref b50), .val (.ref b315), .val (.ref b513), .val (.ref b799), .val (.ref s823), .unset] [(.int z28), (.int z41)])) rfl (by rw [hml]; rfl) (argsL := [(.int z28)]) (rest := [(.int z41)]) (lenOf pd_6 rfl) rfl (by show 2 * 0 + _ ≤ _; exact Nat.le_of_eq rfl) (hb hby at_801) (fun _ _ => ⟨rfl, rfl, (by decide : 17 + 0 ≤ _), (by decide : 434 + 0 ≤ _)⟩)
              dsimp only [Pt.U, Pt.locs, Pt.cells, Pt.slots] at X923 l923 y923 z923 st923 hQ923
              rw [l923, y923, z923] at X923
              have X923 := X923.mono (cells' := 17) (slots' := 434) (by decide) (by decide)
              obtain ⟨z923v, rfl, hz923v, Nq923, eq923⟩ := hQ923
              have N923n := Fr.app N823n Nq923
              have hy923 := hz923v.symm; subst hy923
              have P924 : own_Pr p.tables e below S0 T923 (mkF m 804 #[.val (.int p1), .val (.int p2), .val (.int p3), .val (.int p4), .val (.int p5), .val (.int z22), .val (.int z28), .val (.int z30), .val (.int z32), .val (.int z41), .val (.ref b50), .val (.ref b315), .val (.ref b513), .val (.ref b799), .val (.ref s823), .unset] [(.int (own_nm z28)), (.int z41)]) := fun t k => P922 t (st923 _ k)
              by_cases hc804_925 : z41 = (own_nm z28)
              · have P926 : own_Pr p.tables e below S0 T923 (mkF m 850 #[.val (.int p1), .val (.int p2), .val (.int p3), .val (.int p4), .val (.int p5), .val (.int z22), .val (.int z28), .val (.int z30), .val (.int z32), .val (.int z41), .val (.ref b50), .val (.ref b315), .val (.ref b513), .val (.ref b799), .val (.ref s823), .val (.int 1)] [(.ref s823)]) := fun t k => P924 t (by
                  refine XS.icmpNo X923.here hx rfl (hb hby at_804) rfl (XT.ii_ne_f hc804_925) ?_
                  refine XS.iconst X923.here hx rfl (hb hby at_807) ?_
                  refine XS.goto X923.here hx rfl (pc0 := 808) (pc' := 840) rfl (hb hby at_808) (by decide) (by decide) ?_
                  refine XS.istore X923.here hx rfl (hb hby at_840) rfl (l' := #[.val (.int p1), .val (.int p2), .val (.int p3), .val (.int p4), .val (.int p5), .val (.int z22), .val (.int z28), .val (.int z30), .val (.int z32), .val (.int z41), .val (.ref b50), .val (.ref b315), .val (.ref b513), .val (.ref b799), .val (.ref s823), .val (.int 1)]) rfl ?_
                  refine XS.goto X923.here hx rfl (pc0 := 842) (pc' := 848) rfl (hb hby at_842) (by decide) (by decide) ?_
                  refine XS.aload X923.here hx rfl (hb hby at_848) rfl rfl ?_
                  exact k)
                obtain ⟨cq927, kq927, q927a, q927b, q927c⟩ := isOf hZ eq923 Eq823
                obtain ⟨_, _, ⟨T927, L927, k927, n927⟩, -, X927, ⟨Lc927, hQ927, l927, y927, z927⟩, st927⟩ := X923.virtualBack hx (y := (⟨"java/util/Optional", "isPresent", "()Z"⟩ : MethodName)) (z := (⟨"java/util/Optional", "isPresent", "()Z"⟩ : MethodName)) hown (mvT hZ (hw _ (List.mem_of_getElem? (i := 121) rfl))) (mvT hZ (hw _ (List.mem_of_getElem? (i := 122) rfl))) (notFace_of_selects (args := #[]) (mvT hZ (hw _ (List.mem_of_getElem? (i := 124) rfl)))) (mvT hZ (hw _ (List.mem_of_getElem? (i := 124) rfl))) (mvT hZ (hw _ (List.mem_of_getElem? (i := 123) rfl))) (by decide) (backOf (W := 0) (rm23_n l Z a0 hw [] s823 bp T823.heap n0 Z826 Fq823) hZ (hw _ (List.mem_of_getElem? (i := 125) rfl)) (hw _ (List.mem_of_getElem? (i := 106) rfl)) (by decide) (by decide)) q927a q927c (g := (mkF m 850 #[.val (.int p1), .val (.int p2), .val (.int p3), .val (.int p4), .val (.int p5), .val (.int z22), .val (.int z28), .val (.int z30), .val (.int z32), .val (.int z41), .val (.ref b50), .val (.ref b315), .val (.ref b513), .val (.ref b799), .val (.ref s823), .val (.int 1)] [(.ref s823)])) rfl (by rw [hml]; rfl) (Steps.refl _) (argsL := []) (rest := []) (lenOf pd_3 rfl) rfl (by show 2 * 0 + _ ≤ _; exact Nat.le_of_eq rfl) (hb hby at_850) (fun _ _ => ⟨rfl, eq923, (by decide : 17 + 0 ≤ _), (by decide : 434 + 0 ≤ _)⟩)
                dsimp only [Pt.U, Pt.locs, Pt.cells, Pt.slots] at X927 l927 y927 z927 st927 hQ927
                rw [l927, y927, z927] at X927
                have X927 := X927.mono (cells' := 17) (slots' := 434) (by decide) (by decide)
                obtain ⟨z927v, rfl, hz927v, Nq927, eq927⟩ := hQ927
                have N927n := Fr.app N923n Nq927
                have hy927 := hz927v.symm; subst hy927
                have P928 : own_Pr p.tables e below S0 T927 (mkF m 853 #[.val (.int p1), .val (.int p2), .val (.int p3), .val (.int p4), .val (.int p5), .val (.int z22), .val (.int z28), .val (.int z30), .val (.int z32), .val (.int z41), .val (.ref b50), .val (.ref b315), .val (.ref b513), .val (.ref b799), .val (.ref s823), .val (.int 1)] [(.int 0)]) := fun t k => P926 t (st927.trans k)
                exact (own_bad3ep hu0 hu1 hu2 hz164v hz174v hz184v hz194v hz204v hz214v hz224v hz234v hz244v hz254v hz264v hz274v hz284v hz294v hE hc787_919 hc794_921 hc804_925).elim
              · have P929 : own_Pr p.tables e below S0 T923 (mkF m 850 #[.val (.int p1), .val (.int p2), .val (.int p3), .val (.int p4), .val (.int p5), .val (.int z22), .val (.int z28), .val (.int z30), .val (.int z32), .val (.int z41), .val (.ref b50), .val (.ref b315), .val (.ref b513), .val (.ref b799), .val (.ref s823), .val (.int 0)] [(.ref s823)]) := fun t k => P924 t (by
                  refine XS.icmpYes X923.here hx rfl (pc0 := 804) (pc' := 811) rfl (hb hby at_804) rfl (XT.ii_ne_t hc804_925) (by decide) (by decide) ?_
                  refine XS.iconst X923.here hx rfl (hb hby at_811) ?_
                  refine XS.goto X923.here hx rfl (pc0 := 812) (pc' := 840) rfl (hb hby at_812) (by decide) (by decide) ?_
                  refine XS.istore X923.here hx rfl (hb hby at_840) rfl (l' := #[.val (.int p1), .val (.int p2), .val (.int p3), .val (.int p4), .val (.int p5), .val (.int z22), .val (.int z28), .val (.int z30), .val (.int z32), .val (.int z41), .val (.ref b50), .val (.ref b315), .val (.ref b513), .val (.ref b799), .val (.ref s823), .val (.int 0)]) rfl ?_
                  refine XS.goto X923.here hx rfl (pc0 := 842) (pc' := 848) rfl (hb hby at_842) (by decide) (by decide) ?_
                  refine XS.aload X923.here hx rfl (hb hby at_848) rfl rfl ?_
                  exact k)
                obtain ⟨cq930, kq930, q930a, q930b, q930c⟩ := isOf hZ eq923 Eq823
                obtain ⟨_, _, ⟨T930, L930, k930, n930⟩, -, X930, ⟨Lc930, hQ930, l930, y930, z930⟩, st930⟩ := X923.virtualBack hx (y := (⟨"java/util/Optional", "isPresent", "()Z"⟩ : MethodName)) (z := (⟨"java/util/Optional", "isPresent", "()Z"⟩ : MethodName)) hown (mvT hZ (hw _ (List.mem_of_getElem? (i := 121) rfl))) (mvT hZ (hw _ (List.mem_of_getElem? (i := 122) rfl))) (notFace_of_selects (args := #[]) (mvT hZ (hw _ (List.mem_of_getElem? (i := 124) rfl)))) (mvT hZ (hw _ (List.mem_of_getElem? (i := 124) rfl))) (mvT hZ (hw _ (List.mem_of_getElem? (i := 123) rfl))) (by decide) (backOf (W := 0) (rm23_n l Z a0 hw [] s823 bp T823.heap n0 Z826 Fq823) hZ (hw _ (List.mem_of_getElem? (i := 125) rfl)) (hw _ (List.mem_of_getElem? (i := 106) rfl)) (by decide) (by decide)) q930a q930c (g := (mkF m 850 #[.val (.int p1), .val (.int p2), .val (.int p3), .val (.int p4), .val (.int p5), .val (.int z22), .val (.int z28), .val (.int z30), .val (.int z32), .val (.int z41), .val (.ref b50), .val (.ref b315), .val (.ref b513), .val (.ref b799), .val (.ref s823), .val (.int 0)] [(.ref s823)])) rfl (by rw [hml]; rfl) (Steps.refl _) (argsL := []) (rest := []) (lenOf pd_3 rfl) rfl (by show 2 * 0 + _ ≤ _; exact Nat.le_of_eq rfl) (hb hby at_850) (fun _ _ => ⟨rfl, eq923, (by decide : 17 + 0 ≤ _), (by decide : 434 + 0 ≤ _)⟩)
                dsimp only [Pt.U, Pt.locs, Pt.cells, Pt.slots] at X930 l930 y930 z930 st930 hQ930
                rw [l930, y930, z930] at X930
                have X930 := X930.mono (cells' := 17) (slots' := 434) (by decide) (by decide)
                obtain ⟨z930v, rfl, hz930v, Nq930, eq930⟩ := hQ930
                have N930n := Fr.app N923n Nq930
                have hy930 := hz930v.symm; subst hy930
                have P931 : own_Pr p.tables e below S0 T930 (mkF m 853 #[.val (.int p1), .val (.int p2), .val (.int p3), .val (.int p4), .val (.int p5), .val (.int z22), .val (.int z28), .val (.int z30), .val (.int z32), .val (.int z41), .val (.ref b50), .val (.ref b315), .val (.ref b513), .val (.ref b799), .val (.ref s823), .val (.int 0)] [(.int 0)]) := fun t k => P929 t (st930.trans k)
                have P932 : own_Pr p.tables e below S0 T930 (mkF m 860 #[.val (.int p1), .val (.int p2), .val (.int p3), .val (.int p4), .val (.int p5), .val (.int z22), .val (.int z28), .val (.int z30), .val (.int z32), .val (.int z41), .val (.ref b50), .val (.ref b315), .val (.ref b513), .val (.ref b799), .val (.ref s823), .val (.int 0)] [(.ref s823)]) := fun t k => P931 t (by
                  refine XS.iload X930.here hx rfl (hb hby at_853) rfl ?_
                  refine XS.icmpNo X930.here hx rfl (hb hby at_855) rfl (by decide) ?_
                  refine XS.aload X930.here hx rfl (hb hby at_858) rfl rfl ?_
                  exact k)
                obtain ⟨cq933, kq933, q933a, q933b, q933c⟩ := isOf hZ eq930 Eq823
                obtain ⟨_, _, ⟨T933, L933, k933, n933⟩, -, X933, ⟨Lc933, hQ933, l933, y933, z933⟩, st933⟩ := X930.virtualBack hx (y := (⟨"java/util/Optional", "isPresent", "()Z"⟩ : MethodName)) (z := (⟨"java/util/Optional", "isPresent", "()Z"⟩ : MethodName)) hown (mvT hZ (hw _ (List.mem_of_getElem? (i := 121) rfl))) (mvT hZ (hw _ (List.mem_of_getElem? (i := 122) rfl))) (notFace_of_selects (args := #[]) (mvT hZ (hw _ (List.mem_of_getElem? (i := 124) rfl)))) (mvT hZ (hw _ (List.mem_of_getElem? (i := 124) rfl))) (mvT hZ (hw _ (List.mem_of_getElem? (i := 123) rfl))) (by decide) (backOf (W := 0) (rm23_n l Z a0 hw [] s823 bp T823.heap n0 Z826 Fq823) hZ (hw _ (List.mem_of_getElem? (i := 125) rfl)) (hw _ (List.mem_of_getElem? (i := 106) rfl)) (by decide) (by decide)) q933a q933c (g := (mkF m 860 #[.val (.int p1), .val (.int p2), .val (.int p3), .val (.int p4), .val (.int p5), .val (.int z22), .val (.int z28), .val (.int z30), .val (.int z32), .val (.int z41), .val (.ref b50), .val (.ref b315), .val (.ref b513), .val (.ref b799), .val (.ref s823), .val (.int 0)] [(.ref s823)])) rfl (by rw [hml]; rfl) (Steps.refl _) (argsL := []) (rest := []) (lenOf pd_3 rfl) rfl (by show 2 * 0 + _ ≤ _; exact Nat.le_of_eq rfl) (hb hby at_860) (fun _ _ => ⟨rfl, eq930, (by decide : 17 + 0 ≤ _), (by decide : 434 + 0 ≤ _)⟩)
                dsimp only [Pt.U, Pt.locs, Pt.cells, Pt.slots] at X933 l933 y933 z933 st933 hQ933
                rw [l933, y933, z933] at X933
                have X933 := X933.mono (cells' := 17) (slots' := 434) (by decide) (by decide)
                obtain ⟨z933v, rfl, hz933v, Nq933, eq933⟩ := hQ933
                have N933n := Fr.app N930n Nq933
                have hy933 := hz933v.symm; subst hy933
                have P934 : own_Pr p.tables e below S0 T933 (mkF m 863 #[.val (.int p1), .val (.int p2), .val (.int p3), .val (.int p4), .val (.int p5), .val (.int z22), .val (.int z28), .val (.int z30), .val (.int z32), .val (.int z41), .val (.ref b50), .val (.ref b315), .val (.ref b513), .val (.ref b799), .val (.ref s823), .val (.int 0)] [(.int 0)]) := fun t k => P932 t (st933.trans k)
                have P935 : own_Pr p.tables e below S0 T933 (mkF m 882 #[.val (.int p1), .val (.int p2), .val (.int p3), .val (.int p4), .val (.int p5), .val (.int z22), .val (.int z28), .val (.int z30), .val (.int z32), .val (.int z41), .val (.ref b50), .val (.ref b315), .val (.ref b513), .val (.ref b799), .val (.ref s823), .val (.int 0)] [(.int 1)]) := fun t k => P934 t (by
                  refine XS.ifYes X933.here hx rfl (pc0 := 863) (pc' := 877) rfl (hb hby at_863) rfl (by decide) (by decide) (by decide) ?_
                  refine XS.iconst X933.here hx rfl (hb hby at_877) ?_
                  refine XS.goto X933.here hx rfl (pc0 := 878) (pc' := 882) rfl (hb hby at_878) (by decide) (by decide) ?_
                  exact k)
                obtain ⟨fs, hr, hrun, hended, hend⟩ := X933.leaveW hSn (by rw [eq933]; exact kS828) (v := some (.int 1)) (fun h => by rw [Bd.returns] at h; cases h)
                have fin : Steps p.tables e below S0 (T933.setFrames fs) := P935 _ (retN X933 hx (t := .boolean) Bd.returns (by simp) (hb hby at_882) hr)
                rw [hS0] at fin
                refine ⟨_, _, fin, hrun, hended, _, _, rfl, ?_, (show CHr Z consts_1 s.vm s.heap T933.vm T933.heap by rw [hh, eq933]; exact CR824.trans (CHv.at X933 hZ (own_EW hw) CR824.1)), hend.1, hend.2.1, hend.2.2.1, hend.2.2.2.mono (by decide) (by decide)⟩
                show own_QL n0 _ _
                exact ⟨_, rfl, rfl, N933n⟩
            · have P936 : own_Pr p.tables e below S0 T823 (mkF m 819 #[.val (.int p1), .val (.int p2), .val (.int p3), .val (.int p4), .val (.int p5), .val (.int z22), .val (.int z28), .val (.int z30), .val (.int z32), .val (.int z41), .val (.ref b50), .val (.ref b315), .val (.ref b513), .val (.ref b799), .val (.ref s823), .unset] [(.int z28), (.int z32)]) := fun t k => P920 t (by
                refine XS.icmpYes X823.here hx rfl (pc0 := 794) (pc' := 815) rfl (hb hby at_794) rfl (XT.ii_ne_t hc794_921) (by decide) (by decide) ?_
                refine XS.iload X823.here hx rfl (hb hby at_815) rfl ?_
                refine XS.iload X823.here hx rfl (hb hby at_817) rfl ?_
                exact k)
              obtain ⟨_, _, ⟨T937, L937, k937, n937⟩, -, X937, ⟨Lc937, hQ937, l937, y937, z937⟩, st937⟩ := Jvm.LawKit.callS X823 hx (y := (⟨"com/example/firmhold/firmhold/PermissionNamedPinLaw", "nm", "(I)C"⟩ : MethodName)) hown (mvT hZ (hw _ (List.mem_of_getElem? (i := 1) rfl))) (mvT hZ (hw _ (List.mem_of_getElem? (i := 2) rfl))) (mvT hZ (hw _ (List.mem_of_getElem? (i := 3) rfl))) (mvT hZ (hw _ (List.mem_of_getElem? (i := 4) rfl))) (by decide) (own_backL (W := 1) (rm1_b l Z a0 hw [] z28 lt cs fm T823.heap n0 Z826 F825 (own_sta_keep0 CS K827) hcs (own_sta_keep0 FM K827) hr_fm) hZ (hw _ (List.mem_of_getElem? (i := 4) rfl)) (hw _ (List.mem_of_getElem? (i := 3) rfl)) (by decide) (by decide) (fun vm hv => (State.resolvedAt?_warmed39 hv Lt))) (g := (mkF m 819 #[.val (.int p1), .val (.int p2), .val (.int p3), .val (.int p4), .val (.int p5), .val (.int z22), .val (.int z28), .val (.int z30), .val (.int z32), .val (.int z41), .val (.ref b50), .val (.ref b315), .val (.ref b513), .val (.ref b799), .val (.ref s823), .unset] [(.int z28), (.int z32)])) rfl (by rw [hml]; rfl) (argsL := [(.int z28)]) (rest := [(.int z32)]) (lenOf pd_6 rfl) rfl (by show 2 * 0 + _ ≤ _; exact Nat.le_of_eq rfl) (hb hby at_819) (fun _ _ => ⟨rfl, rfl, (by decide : 17 + 0 ≤ _), (by decide : 434 + 0 ≤ _)⟩)
              dsimp only [Pt.U, Pt.locs, Pt.cells, Pt.slots] at X937 l937 y937 z937 st937 hQ937
              rw [l937, y937, z937] at X937
              have X937 := X937.mono (cells' := 17) (slots' := 434) (by decide) (by decide)
              obtain ⟨z937v, rfl, hz937v, Nq937, eq937⟩ := hQ937
              have N937n := Fr.app N823n Nq937
              have hy937 := hz937v.symm; subst hy937
              have P938 : own_Pr p.tables e below S0 T937 (mkF m 822 #[.val (.int p1), .val (.int p2), .val (.int p3), .val (.int p4), .val (.int p5), .val (.int z22), .val (.int z28), .val (.int z30), .val (.int z32), .val (.int z41), .val (.ref b50), .val (.ref b315), .val (.ref b513), .val (.ref b799), .val (.ref s823), .unset] [(.int (own_nm z28)), (.int z32)]) := fun t k => P936 t (st937 _ k)
              by_cases hc822_939 : z32 = (own_nm z28)
              · have P940 : own_Pr p.tables e below S0 T937 (mkF m 829 #[.val (.int p1), .val (.int p2), .val (.int p3), .val (.int p4), .val (.int p5), .val (.int z22), .val (.int z28), .val (.int z30), .val (.int z32), .val (.int z41), .val (.ref b50), .val (.ref b315), .val (.ref b513), .val (.ref b799), .val (.ref s823), .unset] [(.int z30), (.int z41)]) := fun t k => P938 t (by
                  refine XS.icmpNo X937.here hx rfl (hb hby at_822) rfl (XT.ii_ne_f hc822_939) ?_
                  refine XS.iload X937.here hx rfl (hb hby at_825) rfl ?_
                  refine XS.iload X937.here hx rfl (hb hby at_827) rfl ?_
                  exact k)
                obtain ⟨_, _, ⟨T941, L941, k941, n941⟩, -, X941, ⟨Lc941, hQ941, l941, y941, z941⟩, st941⟩ := Jvm.LawKit.callS X937 hx (y := (⟨"com/example/firmhold/firmhold/PermissionNamedPinLaw", "nm", "(I)C"⟩ : MethodName)) hown (mvT hZ (hw _ (List.mem_of_getElem? (i := 1) rfl))) (mvT hZ (hw _ (List.mem_of_getElem? (i := 2) rfl))) (mvT hZ (hw _ (List.mem_of_getElem? (i := 3) rfl))) (mvT hZ (hw _ (List.mem_of_getElem? (i := 4) rfl))) (by decide) (own_backL (W := 1) (rm1_b l Z a0 hw [] z30 lt cs fm T823.heap n0 Z826 F825 (own_sta_keep0 CS K827) hcs (own_sta_keep0 FM K827) hr_fm) hZ (hw _ (List.mem_of_getElem? (i := 4) rfl)) (hw _ (List.mem_of_getElem? (i := 3) rfl)) (by decide) (by decide) (fun vm hv => (State.resolvedAt?_warmed39 hv Lt))) (g := (mkF m 829 #[.val (.int p1), .val (.int p2), .val (.int p3), .val (.int p4), .val (.int p5), .val (.int z22), .val (.int z28), .val (.int z30), .val (.int z32), .val (.int z41), .val (.ref b50), .val (.ref b315), .val (.ref b513), .val (.ref b799), .val (.ref s823), .unset] [(.int z30), (.int z41)])) rfl (by rw [hml]; rfl) (argsL := [(.int z30)]) (rest := [(.int z41)]) (lenOf pd_6 rfl) rfl (by show 2 * 0 + _ ≤ _; exact Nat.le_of_eq rfl) (hb hby at_829) (fun _ _ => ⟨rfl, eq937, (by decide : 17 + 0 ≤ _), (by decide : 434 + 0 ≤ _)⟩)
                dsimp only [Pt.U, Pt.locs, Pt.cells, Pt.slots] at X941 l941 y941 z941 st941 hQ941
                rw [l941, y941, z941] at X941
                have X941 := X941.mono (cells' := 17) (slots' := 434) (by decide) (by decide)
                obtain ⟨z941v, rfl, hz941v, Nq941, eq941⟩ := hQ941
                have N941n := Fr.app N937n Nq941
                have hy941 := hz941v.symm; subst hy941
                have P942 : own_Pr p.tables e below S0 T941 (mkF m 832 #[.val (.int p1), .val (.int p2), .val (.int p3), .val (.int p4), .val (.int p5), .val (.int z22), .val (.int z28), .val (.int z30), .val (.int z32), .val (.int z41), .val (.ref b50), .val (.ref b315), .val (.ref b513), .val (.ref b799), .val (.ref s823), .unset] [(.int (own_nm z30)), (.int z41)]) := fun t k => P940 t (st941 _ k)
                by_cases hc832_943 : z41 = (own_nm z30)
                · have P944 : own_Pr p.tables e below S0 T941 (mkF m 850 #[.val (.int p1), .val (.int p2), .val (.int p3), .val (.int p4), .val (.int p5), .val (.int z22), .val (.int z28), .val (.int z30), .val (.int z32), .val (.int z41), .val (.ref b50), .val (.ref b315), .val (.ref b513), .val (.ref b799), .val (.ref s823), .val (.int 1)] [(.ref s823)]) := fun t k => P942 t (by
                    refine XS.icmpNo X941.here hx rfl (hb hby at_832) rfl (XT.ii_ne_f hc832_943) ?_
                    refine XS.iconst X941.here hx rfl (hb hby at_835) ?_
                    refine XS.goto X941.here hx rfl (pc0 := 836) (pc' := 840) rfl (hb hby at_836) (by decide) (by decide) ?_
                    refine XS.istore X941.here hx rfl (hb hby at_840) rfl (l' := #[.val (.int p1), .val (.int p2), .val (.int p3), .val (.int p4), .val (.int p5), .val (.int z22), .val (.int z28), .val (.int z30), .val (.int z32), .val (.int z41), .val (.ref b50), .val (.ref b315), .val (.ref b513), .val (.ref b799), .val (.ref s823), .val (.int 1)]) rfl ?_
                    refine XS.goto X941.here hx rfl (pc0 := 842) (pc' := 848) rfl (hb hby at_842) (by decide) (by decide) ?_
                    refine XS.aload X941.here hx rfl (hb hby at_848) rfl rfl ?_
                    exact k)
                  obtain ⟨cq945, kq945, q945a, q945b, q945c⟩ := isOf hZ eq941 Eq823
                  obtain ⟨_, _, ⟨T945, L945, k945, n945⟩, -, X945, ⟨Lc945, hQ945, l945, y945, z945⟩, st945⟩ := X941.virtualBack hx (y := (⟨"java/util/Optional", "isPresent", "()Z"⟩ : MethodName)) (z := (⟨"java/util/Optional", "isPresent", "()Z"⟩ : MethodName)) hown (mvT hZ (hw _ (List.mem_of_getElem? (i := 121) rfl))) (mvT hZ (hw _ (List.mem_of_getElem? (i := 122) rfl))) (notFace_of_selects (args := #[]) (mvT hZ (hw _ (List.mem_of_getElem? (i := 124) rfl)))) (mvT hZ (hw _ (List.mem_of_getElem? (i := 124) rfl))) (mvT hZ (hw _ (List.mem_of_getElem? (i := 123) rfl))) (by decide) (backOf (W := 0) (rm23_n l Z a0 hw [] s823 bp T823.heap n0 Z826 Fq823) hZ (hw _ (List.mem_of_getElem? (i := 125) rfl)) (hw _ (List.mem_of_getElem? (i := 106) rfl)) (by decide) (by decide)) q945a q945c (g := (mkF m 850 #[.val (.int p1), .val (.int p2), .val (.int p3), .val (.int p4), .val (.int p5), .val (.int z22), .val (.int z28), .val (.int z30), .val (.int z32), .val (.int z41), .val (.ref b50), .val (.ref b315), .val (.ref b513), .val (.ref b799), .val (.ref s823), .val (.int 1)] [(.ref s823)])) rfl (by rw [hml]; rfl) (Steps.refl _) (argsL := []) (rest := []) (lenOf pd_3 rfl) rfl (by show 2 * 0 + _ ≤ _; exact Nat.le_of_eq rfl) (hb hby at_850) (fun _ _ => ⟨rfl, eq941, (by decide : 17 + 0 ≤ _), (by decide : 434 + 0 ≤ _)⟩)
                  dsimp only [Pt.U, Pt.locs, Pt.cells, Pt.slots] at X945 l945 y945 z945 st945 hQ945
                  rw [l945, y945, z945] at X945
                  have X945 := X945.mono (cells' := 17) (slots' := 434) (by decide) (by decide)
                  obtain ⟨z945v, rfl, hz945v, Nq945, eq945⟩ := hQ945
                  have N945n := Fr.app N941n Nq945
                  have hy945 := hz945v.symm; subst hy945
                  have P946 : own_Pr p.tables e below S0 T945 (mkF m 853 #[.val (.int p1), .val (.int p2), .val (.int p3), .val (.int p4), .val (.int p5), .val (.int z22), .val (.int z28), .val (.int z30), .val (.int z32), .val (.int z41), .val (.ref b50), .val (.ref b315), .val (.ref b513), .val (.ref b799), .val (.ref s823), .val (.int 1)] [(.int 0)]) := fun t k => P944 t (st945.trans k)
                  exact (own_bad3p hu0 hu1 hu2 hz164v hz174v hz184v hz194v hz204v hz214v hz224v hz234v hz244v hz254v hz264v hz274v hz284v hz294v hE hc787_919 hc822_939 hc832_943).elim
                · have P947 : own_Pr p.tables e below S0 T941 (mkF m 850 #[.val (.int p1), .val (.int p2), .val (.int p3), .val (.int p4), .val (.int p5), .val (.int z22), .val (.int z28), .val (.int z30), .val (.int z32), .val (.int z41), .val (.ref b50), .val (.ref b315), .val (.ref b513), .val (.ref b799), .val (.ref s823), .val (.int 0)] [(.ref s823)]) := fun t k => P942 t (by
                    refine XS.icmpYes X941.here hx rfl (pc0 := 832) (pc' := 839) rfl (hb hby at_832) rfl (XT.ii_ne_t hc832_943) (by decide) (by decide) ?_
                    refine XS.iconst X941.here hx rfl (hb hby at_839) ?_
                    refine XS.istore X941.here hx rfl (hb hby at_840) rfl (l' := #[.val (.int p1), .val (.int p2), .val (.int p3), .val (.int p4), .val (.int p5), .val (.int z22), .val (.int z28), .val (.int z30), .val (.int z32), .val (.int z41), .val (.ref b50), .val (.ref b315), .val (.ref b513), .val (.ref b799), .val (.ref s823), .val (.int 0)]) rfl ?_
                    refine XS.goto X941.here hx rfl (pc0 := 842) (pc' := 848) rfl (hb hby at_842) (by decide) (by decide) ?_
                    refine XS.aload X941.here hx rfl (hb hby at_848) rfl rfl ?_
                    exact k)
                  obtain ⟨cq948, kq948, q948a, q948b, q948c⟩ := isOf hZ eq941 Eq823
                  obtain ⟨_, _, ⟨T948, L948, k948, n948⟩, -, X948, ⟨Lc948, hQ948, l948, y948, z948⟩, st948⟩ := X941.virtualBack hx (y := (⟨"java/util/Optional", "isPresent", "()Z"⟩ : MethodName)) (z := (⟨"java/util/Optional", "isPresent", "()Z"⟩ : MethodName)) hown (mvT hZ (hw _ (List.mem_of_getElem? (i := 121) rfl))) (mvT hZ (hw _ (List.mem_of_getElem? (i := 122) rfl))) (notFace_of_selects (args := #[]) (mvT hZ (hw _ (List.mem_of_getElem? (i := 124) rfl)))) (mvT hZ (hw _ (List.mem_of_getElem? (i := 124) rfl))) (mvT hZ (hw _ (List.mem_of_getElem? (i := 123) rfl))) (by decide) (backOf (W := 0) (rm23_n l Z a0 hw [] s823 bp T823.heap n0 Z826 Fq823) hZ (hw _ (List.mem_of_getElem? (i := 125) rfl)) (hw _ (List.mem_of_getElem? (i := 106) rfl)) (by decide) (by decide)) q948a q948c (g := (mkF m 850 #[.val (.int p1), .val (.int p2), .val (.int p3), .val (.int p4), .val (.int p5), .val (.int z22), .val (.int z28), .val (.int z30), .val (.int z32), .val (.int z41), .val (.ref b50), .val (.ref b315), .val (.ref b513), .val (.ref b799), .val (.ref s823), .val (.int 0)] [(.ref s823)])) rfl (by rw [hml]; rfl) (Steps.refl _) (argsL := []) (rest := []) (lenOf pd_3 rfl) rfl (by show 2 * 0 + _ ≤ _; exact Nat.le_of_eq rfl) (hb hby at_850) (fun _ _ => ⟨rfl, eq941, (by decide : 17 + 0 ≤ _), (by decide : 434 + 0 ≤ _)⟩)
                  dsimp only [Pt.U, Pt.locs, Pt.cells, Pt.slots] at X948 l948 y948 z948 st948 hQ948
                  rw [l948, y948, z948] at X948
                  have X948 := X948.mono (cells' := 17) (slots' := 434) (by decide) (by decide)
                  obtain ⟨z948v, rfl, hz948v, Nq948, eq948⟩ := hQ948
                  have N948n := Fr.app N941n Nq948
                  have hy948 := hz948v.symm; subst hy948
                  have P949 : own_Pr p.tables e below S0 T948 (mkF m 853 #[.val (.int p1), .val (.int p2), .val (.int p3), .val (.int p4), .val (.int p5), .val (.int z22), .val (.int z28), .val (.int z30), .val (.int z32), .val (.int z41), .val (.ref b50), .val (.ref b315), .val (.ref b513), .val (.ref b799), .val (.ref s823), .val (.int 0)] [(.int 0)]) := fun t k => P947 t (st948.trans k)
                  have P950 : own_Pr p.tables e below S0 T948 (mkF m 860 #[.val (.int p1), .val (.int p2), .val (.int p3), .val (.int p4), .val (.int p5), .val (.int z22), .val (.int z28), .val (.int z30), .val (.int z32), .val (.int z41), .val (.ref b50), .val (.ref b315), .val (.ref b513), .val (.ref b799), .val (.ref s823), .val (.int 0)] [(.ref s823)]) := fun t k => P949 t (by
                    refine XS.iload X948.here hx rfl (hb hby at_853) rfl ?_
                    refine XS.icmpNo X948.here hx rfl (hb hby at_855) rfl (by decide) ?_
                    refine XS.aload X948.here hx rfl (hb hby at_858) rfl rfl ?_
                    exact k)
                  obtain ⟨cq951, kq951, q951a, q951b, q951c⟩ := isOf hZ eq948 Eq823
                  obtain ⟨_, _, ⟨T951, L951, k951, n951⟩, -, X951, ⟨Lc951, hQ951, l951, y951, z951⟩, st951⟩ := X948.virtualBack hx (y := (⟨"java/util/Optional", "isPresent", "()Z"⟩ : MethodName)) (z := (⟨"java/util/Optional", "isPresent", "()Z"⟩ : MethodName)) hown (mvT hZ (hw _ (List.mem_of_getElem? (i := 121) rfl))) (mvT hZ (hw _ (List.mem_of_getElem? (i := 122) rfl))) (notFace_of_selects (args := #[]) (mvT hZ (hw _ (List.mem_of_getElem? (i := 124) rfl)))) (mvT hZ (hw _ (List.mem_of_getElem? (i := 124) rfl))) (mvT hZ (hw _ (List.mem_of_getElem? (i := 123) rfl))) (by decide) (backOf (W := 0) (rm23_n l Z a0 hw [] s823 bp T823.heap n0 Z826 Fq823) hZ (hw _ (List.mem_of_getElem? (i := 125) rfl)) (hw _ (List.mem_of_getElem? (i := 106) rfl)) (by decide) (by decide)) q951a q951c (g := (mkF m 860 #[.val (.int p1), .val (.int p2), .val (.int p3), .val (.int p4), .val (.int p5), .val (.int z22), .val (.int z28), .val (.int z30), .val (.int z32), .val (.int z41), .val (.ref b50), .val (.ref b315), .val (.ref b513), .val (.ref b799), .val (.ref s823), .val (.int 0)] [(.ref s823)])) rfl (by rw [hml]; rfl) (Steps.refl _) (argsL := []) (rest := []) (lenOf pd_3 rfl) rfl (by show 2 * 0 + _ ≤ _; exact Nat.le_of_eq rfl) (hb hby at_860) (fun _ _ => ⟨rfl, eq948, (by decide : 17 + 0 ≤ _), (by decide : 434 + 0 ≤ _)⟩)
                  dsimp only [Pt.U, Pt.locs, Pt.cells, Pt.slots] at X951 l951 y951 z951 st951 hQ951
                  rw [l951, y951, z951] at X951
                  have X951 := X951.mono (cells' := 17) (slots' := 434) (by decide) (by decide)
                  obtain ⟨z951v, rfl, hz951v, Nq951, eq951⟩ := hQ951
                  have N951n := Fr.app N948n Nq951
                  have hy951 := hz951v.symm; subst hy951
                  have P952 : own_Pr p.tables e below S0 T951 (mkF m 863 #[.val (.int p1), .val (.int p2), .val (.int p3), .val (.int p4), .val (.int p5), .val (.int z22), .val (.int z28), .val (.int z30), .val (.int z32), .val (.int z41), .val (.ref b50), .val (.ref b315), .val (.ref b513), .val (.ref b799), .val (.ref s823), .val (.int 0)] [(.int 0)]) := fun t k => P950 t (st951.trans k)
                  have P953 : own_Pr p.tables e below S0 T951 (mkF m 882 #[.val (.int p1), .val (.int p2), .val (.int p3), .val (.int p4), .val (.int p5), .val (.int z22), .val (.int z28), .val (.int z30), .val (.int z32), .val (.int z41), .val (.ref b50), .val (.ref b315), .val (.ref b513), .val (.ref b799), .val (.ref s823), .val (.int 0)] [(.int 1)]) := fun t k => P952 t (by
                    refine XS.ifYes X951.here hx rfl (pc0 := 863) (pc' := 877) rfl (hb hby at_863) rfl (by decide) (by decide) (by decide) ?_
                    refine XS.iconst X951.here hx rfl (hb hby at_877) ?_
                    refine XS.goto X951.here hx rfl (pc0 := 878) (pc' := 882) rfl (hb hby at_878) (by decide) (by decide) ?_
                    exact k)
                  obtain ⟨fs, hr, hrun, hended, hend⟩ := X951.leaveW hSn (by rw [eq951]; exact kS828) (v := some (.int 1)) (fun h => by rw [Bd.returns] at h; cases h)
                  have fin : Steps p.tables e below S0 (T951.setFrames fs) := P953 _ (retN X951 hx (t := .boolean) Bd.returns (by simp) (hb hby at_882) hr)
                  rw [hS0] at fin
                  refine ⟨_, _, fin, hrun, hended, _, _, rfl, ?_, (show CHr Z consts_1 s.vm s.heap T951.vm T951.heap by rw [hh, eq951]; exact CR824.trans (CHv.at X951 hZ (own_EW hw) CR824.1)), hend.1, hend.2.1, hend.2.2.1, hend.2.2.2.mono (by decide) (by decide)⟩
                  show own_QL n0 _ _
                  exact ⟨_, rfl, rfl, N951n⟩
              · have P954 : own_Pr p.tables e below S0 T937 (mkF m 850 #[.val (.int p1), .val (.int p2), .val (.int p3), .val (.int p4), .val (.int p5), .val (.int z22), .val (.int z28), .val (.int z30), .val (.int z32), .val (.int z41), .val (.ref b50), .val (.ref b315), .val (.ref b513), .val (.ref b799), .val (.ref s823), .val (.int 0)] [(.ref s823)]) := fun t k => P938 t (by
                  refine XS.icmpYes X937.here hx rfl (pc0 := 822) (pc' := 839) rfl (hb hby at_822) rfl (XT.ii_ne_t hc822_939) (by decide) (by decide) ?_
                  refine XS.iconst X937.here hx rfl (hb hby at_839) ?_
                  refine XS.istore X937.here hx rfl (hb hby at_840) rfl (l' := #[.val (.int p1), .val (.int p2), .val (.int p3), .val (.int p4), .val (.int p5), .val (.int z22), .val (.int z28), .val (.int z30), .val (.int z32), .val (.int z41), .val (.ref b50), .val (.ref b315), .val (.ref b513), .val (.ref b799), .val (.ref s823), .val (.int 0)]) rfl ?_
                  refine XS.goto X937.here hx rfl (pc0 := 842) (pc' := 848) rfl (hb hby at_842) (by decide) (by decide) ?_
                  refine XS.aload X937.here hx rfl (hb hby at_848) rfl rfl ?_
                  exact k)
                obtain ⟨cq955, kq955, q955a, q955b, q955c⟩ := isOf hZ eq937 Eq823
                obtain ⟨_, _, ⟨T955, L955, k955, n955⟩, -, X955, ⟨Lc955, hQ955, l955, y955, z955⟩, st955⟩ := X937.virtualBack hx (y := (⟨"java/util/Optional", "isPresent", "()Z"⟩ : MethodName)) (z := (⟨"java/util/Optional", "isPresent", "()Z"⟩ : MethodName)) hown (mvT hZ (hw _ (List.mem_of_getElem? (i := 121) rfl))) (mvT hZ (hw _ (List.mem_of_getElem? (i := 122) rfl))) (notFace_of_selects (args := #[]) (mvT hZ (hw _ (List.mem_of_getElem? (i := 124) rfl)))) (mvT hZ (hw _ (List.mem_of_getElem? (i := 124) rfl))) (mvT hZ (hw _ (List.mem_of_getElem? (i := 123) rfl))) (by decide) (backOf (W := 0) (rm23_n l Z a0 hw [] s823 bp T823.heap n0 Z826 Fq823) hZ (hw _ (List.mem_of_getElem? (i := 125) rfl)) (hw _ (List.mem_of_getElem? (i := 106) rfl)) (by decide) (by decide)) q955a q955c (g := (mkF m 850 #[.val (.int p1), .val (.int p2), .val (.int p3), .val (.int p4), .val (.int p5), .val (.int z22), .val (.int z28), .val (.int z30), .val (.int z32), .val (.int z41), .val (.ref b50), .val (.ref b315), .val (.ref b513), .val (.ref b799), .val (.ref s823), .val (.int 0)] [(.ref s823)])) rfl (by rw [hml]; rfl) (Steps.refl _) (argsL := []) (rest := []) (lenOf pd_3 rfl) rfl (by show 2 * 0 + _ ≤ _; exact Nat.le_of_eq rfl) (hb hby at_850) (fun _ _ => ⟨rfl, eq937, (by decide : 17 + 0 ≤ _), (by decide : 434 + 0 ≤ _)⟩)
                dsimp only [Pt.U, Pt.locs, Pt.cells, Pt.slots] at X955 l955 y955 z955 st955 hQ955
                rw [l955, y955, z955] at X955
                have X955 := X955.mono (cells' := 17) (slots' := 434) (by decide) (by decide)
                obtain ⟨z955v, rfl, hz955v, Nq955, eq955⟩ := hQ955
                have N955n := Fr.app N937n Nq955
                have hy955 := hz955v.symm; subst hy955
                have P956 : own_Pr p.tables e below S0 T955 (mkF m 853 #[.val (.int p1), .val (.int p2), .val (.int p3), .val (.int p4), .val (.int p5), .val (.int z22), .val (.int z28), .val (.int z30), .val (.int z32), .val (.int z41), .val (.ref b50), .val (.ref b315), .val (.ref b513), .val (.ref b799), .val (.ref s823), .val (.int 0)] [(.int 0)]) := fun t k => P954 t (st955.trans k)
                have P957 : own_Pr p.tables e below S0 T955 (mkF m 860 #[.val (.int p1), .val (.int p2), .val (.int p3), .val (.int p4), .val (.int p5), .val (.int z22), .val (.int z28), .val (.int z30), .val (.int z32), .val (.int z41), .val (.ref b50), .val (.ref b315), .val (.ref b513), .val (.ref b799), .val (.ref s823), .val (.int 0)] [(.ref s823)]) := fun t k => P956 t (by
                  refine XS.iload X955.here hx rfl (hb hby at_853) rfl ?_
                  refine XS.icmpNo X955.here hx rfl (hb hby at_855) rfl (by decide) ?_
                  refine XS.aload X955.here hx rfl (hb hby at_858) rfl rfl ?_
                  exact k)
                obtain ⟨cq958, kq958, q958a, q958b, q958c⟩ := isOf hZ eq955 Eq823
                obtain ⟨_, _, ⟨T958, L958, k958, n958⟩, -, X958, ⟨Lc958, hQ958, l958, y958, z958⟩, st958⟩ := X955.virtualBack hx (y := (⟨"java/util/Optional", "isPresent", "()Z"⟩ : MethodName)) (z := (⟨"java/util/Optional", "isPresent", "()Z"⟩ : MethodName)) hown (mvT hZ (hw _ (List.mem_of_getElem? (i := 121) rfl))) (mvT hZ (hw _ (List.mem_of_getElem? (i := 122) rfl))) (notFace_of_selects (args := #[]) (mvT hZ (hw _ (List.mem_of_getElem? (i := 124) rfl)))) (mvT hZ (hw _ (List.mem_of_getElem? (i := 124) rfl))) (mvT hZ (hw _ (List.mem_of_getElem? (i := 123) rfl))) (by decide) (backOf (W := 0) (rm23_n l Z a0 hw [] s823 bp T823.heap n0 Z826 Fq823) hZ (hw _ (List.mem_of_getElem? (i := 125) rfl)) (hw _ (List.mem_of_getElem? (i := 106) rfl)) (by decide) (by decide)) q958a q958c (g := (mkF m 860 #[.val (.int p1), .val (.int p2), .val (.int p3), .val (.int p4), .val (.int p5), .val (.int z22), .val (.int z28), .val (.int z30), .val (.int z32), .val (.int z41), .val (.ref b50), .val (.ref b315), .val (.ref b513), .val (.ref b799), .val (.ref s823), .val (.int 0)] [(.ref s823)])) rfl (by rw [hml]; rfl) (Steps.refl _) (argsL := []) (rest := []) (lenOf pd_3 rfl) rfl (by show 2 * 0 + _ ≤ _; exact Nat.le_of_eq rfl) (hb hby at_860) (fun _ _ => ⟨rfl, eq955, (by decide : 17 + 0 ≤ _), (by decide : 434 + 0 ≤ _)⟩)
                dsimp only [Pt.U, Pt.locs, Pt.cells, Pt.slots] at X958 l958 y958 z958 st958 hQ958
                rw [l958, y958, z958] at X958
                have X958 := X958.mono (cells' := 17) (slots' := 434) (by decide) (by decide)
                obtain ⟨z958v, rfl, hz958v, Nq958, eq958⟩ := hQ958
                have N958n := Fr.app N955n Nq958
                have hy958 := hz958v.symm; subst hy958
                have P959 : own_Pr p.tables e below S0 T958 (mkF m 863 #[.val (.int p1), .val (.int p2), .val (.int p3), .val (.int p4), .val (.int p5), .val (.int z22), .val (.int z28), .val (.int z30), .val (.int z32), .val (.int z41), .val (.ref b50), .val (.ref b315), .val (.ref b513), .val (.ref b799), .val (.ref s823), .val (.int 0)] [(.int 0)]) := fun t k => P957 t (st958.trans k)
                have P960 : own_Pr p.tables e below S0 T958 (mkF m 882 #[.val (.int p1), .val (.int p2), .val (.int p3), .val (.int p4), .val (.int p5), .val (.int z22), .val (.int z28), .val (.int z30), .val (.int z32), .val (.int z41), .val (.ref b50), .val (.ref b315), .val (.ref b513), .val (.ref b799), .val (.ref s823), .val (.int 0)] [(.int 1)]) := fun t k => P959 t (by
                  refine XS.ifYes X958.here hx rfl (pc0 := 863) (pc' := 877) rfl (hb hby at_863) rfl (by decide) (by decide) (by decide) ?_
                  refine XS.iconst X958.here hx rfl (hb hby at_877) ?_
                  refine XS.goto X958.here hx rfl (pc0 := 878) (pc' := 882) rfl (hb hby at_878) (by decide) (by decide) ?_
                  exact k)
                obtain ⟨fs, hr, hrun, hended, hend⟩ := X958.leaveW hSn (by rw [eq958]; exact kS828) (v := some (.int 1)) (fun h => by rw [Bd.returns] at h; cases h)
                have fin : Steps p.tables e below S0 (T958.setFrames fs) := P960 _ (retN X958 hx (t := .boolean) Bd.returns (by simp) (hb hby at_882) hr)
                rw [hS0] at fin
                refine ⟨_, _, fin, hrun, hended, _, _, rfl, ?_, (show CHr Z consts_1 s.vm s.heap T958.vm T958.heap by rw [hh, eq958]; exact CR824.trans (CHv.at X958 hZ (own_EW hw) CR824.1)), hend.1, hend.2.1, hend.2.2.1, hend.2.2.2.mono (by decide) (by decide)⟩
                show own_QL n0 _ _
                exact ⟨_, rfl, rfl, N958n⟩
          · have P961 : own_Pr p.tables e below S0 T823 (mkF m 845 #[.val (.int p1), .val (.int p2), .val (.int p3), .val (.int p4), .val (.int p5), .val (.int z22), .val (.int z28), .val (.int z30), .val (.int z32), .val (.int z41), .val (.ref b50), .val (.ref b315), .val (.ref b513), .val (.ref b799), .val (.ref s823), .unset] []) := fun t k => P918 t (by
              refine XS.icmpYes X823.here hx rfl (pc0 := 787) (pc' := 845) rfl (hb hby at_787) rfl (XT.ii_ne_t hc787_919) (by decide) (by decide) ?_
              exact k)
            exact (own_m4 hz22 hc761_903 hc708_717 hc726_758 hc787_919).elim
set_option maxRecDepth 65536 in
set_option maxHeartbeats 40000000 in
theorem comes_1 {Post : Tables → Env → Array Value → State → Outcome → State → Prop} (hpost : ∀ tb e args s v u, (limb_1_1.after args s (.returned v) u = true ∧ limb_1_2.after args s (.returned v) u = true ∧ True) → ReturnedEndW s (.returned v) u (Jvm.fieldLocs frame_1_writes args s ++ Jvm.arrayLocs frame_1_arrays args s ++ Jvm.staticLocs frame_1_statics s) 24 1280 → Post tb e args s (.returned v) u) :
    ArmFor flags0 classFile x code maxLocals ret World_1 tables_1 room_1 Calls_1 rest_1 Pre_1 Post := by
  intro l hfl _ _ p e ha hc hk s m args below hf hA hF happ hP
  obtain ⟨hcalls, hrest, hpre⟩ := hP
  obtain ⟨-, -, -, hnamed, -, -, -, hat⟩ := (Spec.applies_iff hf).mp happ
  obtain ⟨hg, hn⟩ := and_e (Cond.before_iff.mp (show (Jvm.Cond.and given_1 narrow_1).before args s = true from hpre))
  obtain ⟨gg1, gg2⟩ := and_e hg
  obtain ⟨gg3, gg4⟩ := and_e gg2
  obtain ⟨gg5, gg6⟩ := and_e gg4
  obtain ⟨gg7, gg8⟩ := and_e gg6
  obtain ⟨gg9, gg10⟩ := and_e gg8
  obtain ⟨w0, w1, w2, w3, w4, rfl⟩ : ∃ w0 w1 w2 w3 w4 : Value, args = #[w0, w1, w2, w3, w4] := by
    have hs : args.size = 5 := by simpa [Cond.value, given_1] using gg1
    obtain ⟨L⟩ := args
    match L, hs with
    | [w0, w1, w2, w3, w4], _ => exact ⟨w0, w1, w2, w3, w4, rfl⟩
  have hw := fun d (hd : d ∈ tables_1) => atoms_spec (ws := Jvm.Cond.code x code maxLocals ret :: tables_1) hat d (List.mem_cons_of_mem _ hd)
  have hfit : Fit s := fun {y c} hc i hi => by
    obtain ⟨ha, rfl⟩ := Array.getElem?_eq_some_iff.mp hc
    have q := List.all_eq_true.mp ((Array.all_eq_true_iff_forall_mem.mp hF) _ (Array.getElem_mem ha)) i (List.mem_range.mpr hi)
    simpa [Array.getElem?_eq_getElem hi] using q
  obtain ⟨i0, ei0⟩ := is_v gg3
  obtain rfl : w0 = (.int i0) := Option.some.inj ei0
  obtain ⟨i1, ei1⟩ := is_v gg5
  obtain rfl : w1 = (.int i1) := Option.some.inj ei1
  obtain ⟨i2, ei2⟩ := is_v gg7
  obtain rfl : w2 = (.int i2) := Option.some.inj ei2
  obtain ⟨i3, ei3⟩ := is_v gg9
  obtain rfl : w3 = (.int i3) := Option.some.inj ei3
  obtain ⟨i4, ei4⟩ := is_v gg10
  obtain rfl : w4 = (.int i4) := Option.some.inj ei4
  obtain ⟨hsets, hown0⟩ := atoms_of _ (rest_1_c_eq ▸ (show rest_1_c.before _ s = true from hrest))
  obtain ⟨cs, ecs⟩ := is_v (Cond.before_iff.mp (hsets _ (List.mem_of_getElem? (i := 1) rfl)))
  have CS := Sta.start ecs (Or.inl (hsets _ (List.mem_of_getElem? (i := 0) rfl)))
  have hcs : ¬ cs = (0 : Int32) := gotF (Cond.eq_ints ecs (Term.int_eval 0)) (not_v (Cond.before_iff.mp (hsets _ (List.mem_of_getElem? (i := 2) rfl))))
  obtain ⟨fm, efm, hr_fm⟩ := isR_v (Cond.before_iff.mp (hsets _ (List.mem_of_getElem? (i := 8) rfl)))
  have FM := Sta.start efm (Or.inl (hsets _ (List.mem_of_getElem? (i := 7) rfl)))
  have xem := Cond.before_iff.mp (hsets _ (List.mem_of_getElem? (i := 11) rfl))
  obtain ⟨em, eem⟩ := exa_v xem
  have Ee := Exa.start eem xem
  have Fe := Fld.start ((fld_at eem).symm.trans (null_v (Cond.before_iff.mp (hsets _ (List.mem_of_getElem? (i := 12) rfl)))))
  have SE := Sta.start eem (Or.inl (hsets _ (List.mem_of_getElem? (i := 10) rfl)))
  obtain ⟨nA, hn0⟩ := and_e hn
  obtain ⟨nX, hn1⟩ := and_e hn0
  obtain ⟨nL, hn2⟩ := and_e hn1
  obtain ⟨bX, hn3⟩ := and_e hn2
  obtain ⟨nE, hn4⟩ := and_e hn3
  obtain ⟨fX, hn5⟩ := and_e hn4
  obtain ⟨fC, hn6⟩ := and_e hn5
  obtain ⟨vA, hn7⟩ := and_e hn6
  obtain ⟨vL, hn8⟩ := and_e hn7
  obtain ⟨v0, hn9⟩ := and_e hn8
  obtain ⟨v1, hn10⟩ := and_e hn9
  obtain ⟨v2, hn11⟩ := and_e hn10
  obtain ⟨v3, hn12⟩ := and_e hn11
  obtain ⟨v4, hn13⟩ := and_e hn12
  obtain ⟨v5, hn14⟩ := and_e hn13
  obtain ⟨v6, hn15⟩ := and_e hn14
  obtain ⟨v7, hn16⟩ := and_e hn15
  obtain ⟨v8, hn17⟩ := and_e hn16
  obtain ⟨v9, hn18⟩ := and_e hn17
  obtain ⟨v10, hn19⟩ := and_e hn18
  obtain ⟨v11, hn20⟩ := and_e hn19
  obtain ⟨v12, hn21⟩ := and_e hn20
  obtain ⟨v13, hn22⟩ := and_e hn21
  obtain ⟨v14, hn23⟩ := and_e hn22
  obtain ⟨v15, v16⟩ := and_e hn23
  obtain ⟨va, eva⟩ := arr_v nA
  obtain ⟨cv, Aa⟩ := Arr.start eva nA
  have Ea := Exa.start eva nX
  have Fa := FitC.start hfit Aa
  obtain ⟨qs1, ql1⟩ := own_len eva (Aa.fin (Vm.Alike.refl _)) nL
  have hsz := own_szOf qs1 ql1
  obtain ⟨bp, ebp⟩ := exa_v bX
  have Eb := Exa.start ebp bX
  have hel := own_elR eva Aa.1 ebp nE
  obtain ⟨fs, efs⟩ := exa_v fX
  have Fb := Fld.start ((fld_at ebp).symm.trans efs)
  have Ef := Exa.start efs fX
  have Fc := own_ord efs fC
  obtain ⟨vb, evb⟩ := arr_v vA
  have Fv := Fld.start ((fld_at efs).symm.trans evb)
  obtain ⟨cb, Ab⟩ := Arr.start evb vA
  obtain ⟨qs2, ql2⟩ := own_len evb (Ab.fin (Vm.Alike.refl _)) vL
  have Av : Arv s s.heap vb cb.cls .byte 17 (own_XS.map Value.int) (.int 0) := Arv.start hfit Ab qs2 ql2 (by decide) (by decide) (own_HasL17 (own_elI evb Ab.1 v0 rfl) (own_elI evb Ab.1 v1 rfl) (own_elI evb Ab.1 v2 rfl) (own_elI evb Ab.1 v3 rfl) (own_elI evb Ab.1 v4 rfl) (own_elI evb Ab.1 v5 rfl) (own_elI evb Ab.1 v6 rfl) (own_elI evb Ab.1 v7 rfl) (own_elI evb Ab.1 v8 rfl) (own_elI evb Ab.1 v9 rfl) (own_elI evb Ab.1 v10 rfl) (own_elI evb Ab.1 v11 rfl) (own_elI evb Ab.1 v12 rfl) (own_elI evb Ab.1 v13 rfl) (own_elI evb Ab.1 v14 rfl) (own_elI evb Ab.1 v15 rfl) (own_elI evb Ab.1 v16 rfl))
  have Sf : own_Sc s s.heap fs 17 own_XS := ⟨vb, cb.cls, Ef, Fc, Fv, Av⟩
  have SV := Sta.start eva (Or.inr ⟨(hw _ (List.mem_of_getElem? (i := 75) rfl)), (hw _ (List.mem_of_getElem? (i := 81) rfl))⟩)
  have SB := Sta.start ebp (Or.inr ⟨(hw _ (List.mem_of_getElem? (i := 75) rfl)), (hw _ (List.mem_of_getElem? (i := 89) rfl))⟩)
  have hCH0 := CHv.start (own_EW hw) hcalls.1 (show Jvm.Lit.compactW.before _ s = true from hsets _ (List.mem_of_getElem? (i := 2) rfl)) (hw _ (List.mem_of_getElem? (i := 8) rfl)) (hw _ (List.mem_of_getElem? (i := 7) rfl))
  obtain ⟨n, o, h1, h2, h3, _, L, rfl, ⟨z, rfl, rfl, N⟩, -, hq⟩ := rm0 l s _ hw tables_1 i0 i1 i2 i3 i4 cs fm va bp fs em cv s.heap s.heap.size (Nat.le_refl _) CS hcs FM hr_fm SV Aa Ea Fa hsz hel Eb Fb Sf Ee Fe SE SB p e ha hc hk s m _ below hf ((Spec.applies_iff_loose hf).mp happ).1 ⟨rfl, State.Warmed39.refl s, rfl, hCH0⟩ trivial
  refine ⟨n, _, h1, h2, h3, hpost _ _ _ _ _ _ ⟨Cond.after_iff.mpr rfl, Cond.after_iff.mpr (eq_i res_at (Term.int_eval (1)) rfl), trivial⟩ ⟨hq.1, hq.2.1, hq.2.2.1, (hq.2.2.2.sift fun y hy => Or.inr (N y hy)).mono (by decide) (by decide)⟩⟩
theorem main_1_1 : Claimed_1_1 := comes_1 fun _ _ _ _ _ _ h hF => ⟨h.1, hF⟩
theorem main_1_2 : Claimed_1_2 := comes_1 fun _ _ _ _ _ _ h hF => ⟨h.2.1, hF⟩
end Jvm.Pilot.@@N@@
namespace Jvm.Pilot.@@N@@
open Jvm Jvm.ClassFile Sem Op Lib Jvm.Free Jvm.Stand Jvm.Pilot.@@N@@.Jvm.D
/-! MADE BY PROGRAM (witnessworld.py) out of the Statement's table words and the real class files: 24 classes; the members and pool entries that the words name. The judged class is class 1, her method 3. -/
namespace start1
open Jvm.ClassFile
def u (s : String) : CpInfo := .utf8 (stringToUtf16 s)
/-- a pool by its gaps: so many unusable entries, then the entry; so many at the end -/
def gap : Nat → List CpInfo → List CpInfo
  | 0, r => r
  | n + 1, r => .unusable :: gap n r
def poolList (es : List (Nat × CpInfo)) (last : Nat) : List CpInfo := es.foldr (fun e r => gap e.1 (e.2 :: r)) (gap last [])
def pool (es : List (Nat × CpInfo)) (last : Nat) : Array CpInfo := ⟨poolList es last⟩
def fileOf (pool : Array CpInfo) (this : Nat) (attrs : Array Attribute := #[]) (ms : Array MethodInfo := #[]) (fl : Nat := 33) (sup : Nat := 0) (ifs : Array Nat := #[]) (fds : Array FieldInfo := #[]) : ClassFile where
  minorVersion := 0
  majorVersion := 65
  constantPool := pool
  accessFlags := fl
  thisClass := this
  superClass := sup
  interfaces := ifs
  fields := fds
  methods := ms
  attributes := attrs
def plain (name : String) (sup : Option ClassId) : Class where
  name := name
  kind := .ordinary
  loader := none
  accessFlags := 33
  super := sup
  interfaces := #[]
  cf := none
  fields := #[]
  methods := #[]
  instanceTypes := #[]
  staticTypes := #[]
  resolved := #[]
  callSites := []
  init := .initialized
  statics := none
  mirror := none

def pool0 : Array CpInfo := pool [(5, u "<init>"), (0, u "()V"), (1, .class_ 10), (1, u "java/lang/Object"), (85, u "clone"), (0, u "()Ljava/lang/Object;")] 26

def k0c0 : Code := { maxStack := 0, maxLocals := 1, code := object_method_1_code, exceptionTable := #[], attributes := #[] }
def k0m0 : Method := { name := "<init>", desc := "()V", sig := { parameters := [], returnType := none }, accessFlags := 1, code := some k0c0 }
def k0m1 : Method := { name := "clone", desc := "()Ljava/lang/Object;", sig := { parameters := [], returnType := some (.object "java/lang/Object") }, accessFlags := 260, code := none }
/-- java/lang/Object -/
def k0 : Class := { plain "java/lang/Object" none with
  accessFlags := 33
  interfaces := #[]
  cf := some (fileOf pool0 8 #[] #[{ accessFlags := 1, nameIndex := 5, descriptorIndex := 6, attributes := #[] }, { accessFlags := 260, nameIndex := 96, descriptorIndex := 97, attributes := #[] }] 33 0 #[] #[])
  fields := #[]
  methods := #[k0m0, k0m1]
  instanceTypes := #[]
  staticTypes := #[]
  resolved := Array.replicate 124 none
  statics := none }

def pool1 : Array CpInfo := pool [(2, .class_ 4), (1, u "java/lang/Object"), (0, u "<init>"), (0, u "()V"), (0, .string 8), (0, u "bypass-governance"), (0, .methodref 10 11), (0, .class_ 12), (0, .nameAndType 13 14), (0, u "java/lang/String"), (0, u "length"), (0, u "()I"), (0, .methodref 10 16), (0, .nameAndType 17 18), (0, u "charAt"), (0, u "(I)C"), (0, .methodref 20 21), (0, .class_ 22), (0, .nameAndType 23 18), (0, u "com/example/firmhold/firmhold/PermissionNamedPinLaw"), (0, u "nm"), (0, .integer 2147483647), (0, .methodref 20 26), (0, .nameAndType 27 28), (0, u "at"), (0, u "(IIICIC)C"), (0, .methodref 10 30), (0, .nameAndType 5 31), (0, u "([C)V"), (0, .methodref 33 34), (0, .class_ 35), (0, .nameAndType 36 37), (0, u "com/example/firmhold/firmhold/Credentials$Permission"), (0, u "named"), (0, u "(Ljava/lang/String;)Ljava/util/Optional;"), (0, .methodref 39 40), (0, .class_ 41), (0, .nameAndType 42 43), (0, u "java/util/Optional"), (0, u "isPresent"), (0, u "()Z"), (0, .methodref 39 45), (0, .nameAndType 46 47), (0, u "get"), (0, u "()Ljava/lang/Object;"), (0, .fieldref 33 49), (0, .nameAndType 50 51), (0, u "BYPASS_GOVERNANCE"), (0, u "Lcom/example/firmhold/firmhold/Credentials$Permission;"), (3, u "law"), (0, u "(IIIII)Z")] 8

def k1m0 : Method := { name := "<init>", desc := "()V", sig := { parameters := [], returnType := none }, accessFlags := 2, code := none }
def k1c1 : Code := { maxStack := 2, maxLocals := 2, code := method_2_code, exceptionTable := #[], attributes := #[] }
def k1m1 : Method := { name := "nm", desc := "(I)C", sig := { parameters := [.int], returnType := some .char }, accessFlags := 10, code := some k1c1 }
def k1c2 : Code := { maxStack := 2, maxLocals := 6, code := method_3_code, exceptionTable := #[], attributes := #[] }
def k1m2 : Method := { name := "at", desc := "(IIICIC)C", sig := { parameters := [.int, .int, .int, .char, .int, .char], returnType := some .char }, accessFlags := 10, code := some k1c2 }
def k1c3 : Code := { maxStack := 9, maxLocals := 16, code := code, exceptionTable := #[], attributes := #[] }
def k1m3 : Method := { name := "law", desc := "(IIIII)Z", sig := { parameters := [.int, .int, .int, .int, .int], returnType := some .boolean }, accessFlags := 9, code := some k1c3 }
/-- com/example/firmhold/firmhold/PermissionNamedPinLaw -/
def k1 : Class := { plain "com/example/firmhold/firmhold/PermissionNamedPinLaw" (some 0) with
  accessFlags := 49
  interfaces := #[]
  cf := some (fileOf pool1 20 #[] #[{ accessFlags := 2, nameIndex := 5, descriptorIndex := 6, attributes := #[] }, { accessFlags := 10, nameIndex := 23, descriptorIndex := 18, attributes := #[] }, { accessFlags := 10, nameIndex := 27, descriptorIndex := 28, attributes := #[] }, { accessFlags := 9, nameIndex := 55, descriptorIndex := 56, attributes := #[] }] 49 2 #[] #[])
  fields := #[]
  methods := #[k1m0, k1m1, k1m2, k1m3]
  instanceTypes := #[]
  staticTypes := #[]
  resolved := Array.replicate 65 none
  statics := none }

def pool2 : Array CpInfo := pool [(1, .class_ 2), (0, u "java/io/Serializable"), (0, .class_ 4), (0, u "java/lang/Object")] 2

/-- java/io/Serializable -/
def k2 : Class := { plain "java/io/Serializable" (some 0) with
  accessFlags := 1537
  interfaces := #[]
  cf := some (fileOf pool2 1 #[] #[] 1537 3 #[] #[])
  fields := #[]
  methods := #[]
  instanceTypes := #[]
  staticTypes := #[]
  resolved := Array.replicate 7 none
  statics := none }

def pool3 : Array CpInfo := pool [(1, .class_ 2), (0, u "java/lang/Comparable"), (0, .class_ 4), (0, u "java/lang/Object")] 7

/-- java/lang/Comparable -/
def k3 : Class := { plain "java/lang/Comparable" (some 0) with
  accessFlags := 1537
  interfaces := #[]
  cf := some (fileOf pool3 1 #[] #[] 1537 3 #[] #[])
  fields := #[]
  methods := #[]
  instanceTypes := #[]
  staticTypes := #[]
  resolved := Array.replicate 12 none
  statics := none }

def pool4 : Array CpInfo := pool [(2, .class_ 4), (1, u "java/lang/CharSequence"), (42, .class_ 48), (0, u "java/lang/CharSequence$1CodePointIterator"), (10, .class_ 60), (0, u "java/lang/CharSequence$1CharIterator"), (5, .class_ 67), (0, u "java/lang/Object")] 63

/-- java/lang/CharSequence -/
def k4 : Class := { plain "java/lang/CharSequence" (some 0) with
  accessFlags := 1537
  interfaces := #[]
  cf := some (fileOf pool4 2 #[.nestMembers #[47, 59]] #[] 1537 66 #[] #[])
  fields := #[]
  methods := #[]
  instanceTypes := #[]
  staticTypes := #[]
  resolved := Array.replicate 131 none
  statics := none }

def pool5 : Array CpInfo := pool [(1, .class_ 2), (0, u "java/lang/constant/Constable"), (0, .class_ 4), (0, u "java/lang/Object")] 6

/-- java/lang/constant/Constable -/
def k5 : Class := { plain "java/lang/constant/Constable" (some 0) with
  accessFlags := 1537
  interfaces := #[]
  cf := some (fileOf pool5 1 #[] #[] 1537 3 #[] #[])
  fields := #[]
  methods := #[]
  instanceTypes := #[]
  staticTypes := #[]
  resolved := Array.replicate 11 none
  statics := none }

def pool6 : Array CpInfo := pool [(1, .class_ 2), (0, u "java/lang/constant/ConstantDesc"), (0, .class_ 4), (0, u "java/lang/Object")] 32

/-- java/lang/constant/ConstantDesc -/
def k6 : Class := { plain "java/lang/constant/ConstantDesc" (some 0) with
  accessFlags := 1537
  interfaces := #[]
  cf := some (fileOf pool6 1 #[] #[] 1537 3 #[] #[])
  fields := #[]
  methods := #[]
  instanceTypes := #[]
  staticTypes := #[]
  resolved := Array.replicate 37 none
  statics := none }

def pool7 : Array CpInfo := pool [(1, .methodref 2 3), (0, .class_ 4), (0, .nameAndType 5 6), (0, u "java/lang/Object"), (0, u "<init>"), (0, u "()V"), (2, .fieldref 10 11), (0, .class_ 12), (0, .nameAndType 13 14), (0, u "java/lang/String"), (0, u "value"), (0, u "[B"), (0, .fieldref 10 16), (0, .nameAndType 17 18), (0, u "coder"), (0, u "B"), (2, u "hash"), (0, u "I"), (2, u "hashIsZero"), (0, u "Z"), (0, .methodref 10 28), (0, .nameAndType 5 29), (0, u "([CIILjava/lang/Void;)V"), (8, .fieldref 10 39), (0, .nameAndType 40 26), (0, u "COMPACT_STRINGS"), (1, .class_ 44), (1, u "java/lang/StringUTF16"), (0, u "compress"), (1, .methodref 42 48), (0, .nameAndType 49 50), (0, u "coderFromArrayLen"), (0, u "([BI)B"), (56, .class_ 109), (1, u "java/lang/StringLatin1"), (32, u "()Z"), (34, .methodref 42 178), (0, .nameAndType 45 179), (0, u "([CII)[B"), (154, u "()I"), (0, .methodref 10 336), (0, .nameAndType 17 337), (0, u "()B"), (25, u "([BI)C"), (27, u "(II)V"), (35, u "(I)C"), (64, .methodref 10 493), (0, .nameAndType 494 142), (0, u "isLatin1"), (0, .methodref 107 496), (0, .nameAndType 497 363), (0, u "charAt"), (3, u "checkIndex"), (5, u "length"), (33, .methodref 107 542), (0, .nameAndType 543 544), (0, u "equals"), (0, u "([B[B)Z"), (28, u "(Ljava/lang/Object;)Z"), (1, .class_ 576), (0, u "java/lang/CharSequence"), (22, u "CASE_INSENSITIVE_ORDER"), (0, u "Ljava/util/Comparator;"), (409, u "([C)V"), (42, .fieldref 1054 1055), (0, .class_ 1056), (0, .nameAndType 1057 1058), (0, u "jdk/internal/util/Preconditions"), (0, u "SIOOBE_FORMATTER"), (0, u "Ljava/util/function/BiFunction;"), (0, .methodref 1054 1060), (0, .nameAndType 501 1061), (0, u "(IILjava/util/function/BiFunction;)I"), (39, u "serialPersistentFields"), (0, u "[Ljava/io/ObjectStreamField;"), (0, .class_ 1104), (0, u "java/lang/String$CaseInsensitiveComparator"), (1, .class_ 1107), (0, u "java/io/Serializable"), (0, .class_ 1109), (0, u "java/lang/Comparable"), (0, .class_ 1111), (0, u "java/lang/constant/Constable"), (0, .class_ 1113), (0, u "java/lang/constant/ConstantDesc"), (2, u "serialVersionUID"), (0, u "J"), (3, u "REPL"), (0, u "C"), (2, u "LATIN1"), (1, u "UTF16")] 323

def k7m0 : Method := { name := "<init>", desc := "()V", sig := { parameters := [], returnType := none }, accessFlags := 1, code := none }
def k7c1 : Code := { maxStack := 5, maxLocals := 2, code := jdk_42_method_3_code, exceptionTable := #[], attributes := #[] }
def k7m1 : Method := { name := "<init>", desc := "([C)V", sig := { parameters := [(.array .char)], returnType := none }, accessFlags := 1, code := some k7c1 }
def k7c2 : Code := { maxStack := 2, maxLocals := 1, code := jdk_42_method_54_code, exceptionTable := #[], attributes := #[] }
def k7m2 : Method := { name := "length", desc := "()I", sig := { parameters := [], returnType := some .int }, accessFlags := 1, code := some k7c2 }
def k7c3 : Code := { maxStack := 2, maxLocals := 2, code := jdk_42_method_56_code, exceptionTable := #[], attributes := #[] }
def k7m3 : Method := { name := "charAt", desc := "(I)C", sig := { parameters := [.int], returnType := some .char }, accessFlags := 1, code := some k7c3 }
def k7c4 : Code := { maxStack := 2, maxLocals := 3, code := jdk_42_method_66_code, exceptionTable := #[], attributes := #[] }
def k7m4 : Method := { name := "equals", desc := "(Ljava/lang/Object;)Z", sig := { parameters := [(.object "java/lang/Object")], returnType := some .boolean }, accessFlags := 1, code := some k7c4 }
def k7c5 : Code := { maxStack := 4, maxLocals := 6, code := jdk_42_method_149_code, exceptionTable := #[], attributes := #[] }
def k7m5 : Method := { name := "<init>", desc := "([CIILjava/lang/Void;)V", sig := { parameters := [(.array .char), .int, .int, (.object "java/lang/Void")], returnType := none }, accessFlags := 2, code := some k7c5 }
def k7c6 : Code := { maxStack := 1, maxLocals := 1, code := jdk_42_method_152_code, exceptionTable := #[], attributes := #[] }
def k7m6 : Method := { name := "coder", desc := "()B", sig := { parameters := [], returnType := some .byte }, accessFlags := 0, code := some k7c6 }
def k7c7 : Code := { maxStack := 1, maxLocals := 1, code := jdk_42_method_154_code, exceptionTable := #[], attributes := #[] }
def k7m7 : Method := { name := "isLatin1", desc := "()Z", sig := { parameters := [], returnType := some .boolean }, accessFlags := 0, code := some k7c7 }
def k7c8 : Code := { maxStack := 3, maxLocals := 2, code := jdk_42_method_155_code, exceptionTable := #[], attributes := #[] }
def k7m8 : Method := { name := "checkIndex", desc := "(II)V", sig := { parameters := [.int, .int], returnType := none }, accessFlags := 8, code := some k7c8 }
/-- java/lang/String -/
def k7 : Class := { plain "java/lang/String" (some 0) with
  accessFlags := 49
  interfaces := #[2, 3, 4, 5, 6]
  cf := some (fileOf pool7 10 #[.nestMembers #[1103]] #[{ accessFlags := 1, nameIndex := 5, descriptorIndex := 6, attributes := #[] }, { accessFlags := 1, nameIndex := 5, descriptorIndex := 1010, attributes := #[] }, { accessFlags := 1, nameIndex := 507, descriptorIndex := 334, attributes := #[] }, { accessFlags := 1, nameIndex := 497, descriptorIndex := 427, attributes := #[] }, { accessFlags := 1, nameIndex := 543, descriptorIndex := 573, attributes := #[] }, { accessFlags := 2, nameIndex := 5, descriptorIndex := 29, attributes := #[] }, { accessFlags := 0, nameIndex := 17, descriptorIndex := 337, attributes := #[] }, { accessFlags := 0, nameIndex := 494, descriptorIndex := 142, attributes := #[] }, { accessFlags := 8, nameIndex := 501, descriptorIndex := 391, attributes := #[] }] 49 2 #[1106, 1108, 575, 1110, 1112] #[{ accessFlags := 18, nameIndex := 13, descriptorIndex := 14, attributes := #[] }, { accessFlags := 18, nameIndex := 17, descriptorIndex := 18, attributes := #[] }, { accessFlags := 2, nameIndex := 21, descriptorIndex := 22, attributes := #[] }, { accessFlags := 2, nameIndex := 25, descriptorIndex := 26, attributes := #[] }, { accessFlags := 26, nameIndex := 1116, descriptorIndex := 1117, attributes := #[] }, { accessFlags := 24, nameIndex := 40, descriptorIndex := 26, attributes := #[] }, { accessFlags := 26, nameIndex := 1101, descriptorIndex := 1102, attributes := #[] }, { accessFlags := 26, nameIndex := 1121, descriptorIndex := 1122, attributes := #[] }, { accessFlags := 25, nameIndex := 599, descriptorIndex := 600, attributes := #[] }, { accessFlags := 24, nameIndex := 1125, descriptorIndex := 18, attributes := #[] }, { accessFlags := 24, nameIndex := 1127, descriptorIndex := 18, attributes := #[] }])
  fields := #[{ name := "value", type := (.array .byte), accessFlags := 18, slot := 0, constantValue := 0 }, { name := "coder", type := .byte, accessFlags := 18, slot := 1, constantValue := 0 }, { name := "hash", type := .int, accessFlags := 2, slot := 2, constantValue := 0 }, { name := "hashIsZero", type := .boolean, accessFlags := 2, slot := 3, constantValue := 0 }, { name := "serialVersionUID", type := .long, accessFlags := 26, slot := 0, constantValue := 0 }, { name := "COMPACT_STRINGS", type := .boolean, accessFlags := 24, slot := 1, constantValue := 0 }, { name := "serialPersistentFields", type := (.array (.object "java/io/ObjectStreamField")), accessFlags := 26, slot := 2, constantValue := 0 }, { name := "REPL", type := .char, accessFlags := 26, slot := 3, constantValue := 0 }, { name := "CASE_INSENSITIVE_ORDER", type := (.object "java/util/Comparator"), accessFlags := 25, slot := 4, constantValue := 0 }, { name := "LATIN1", type := .byte, accessFlags := 24, slot := 5, constantValue := 0 }, { name := "UTF16", type := .byte, accessFlags := 24, slot := 6, constantValue := 0 }]
  methods := #[k7m0, k7m1, k7m2, k7m3, k7m4, k7m5, k7m6, k7m7, k7m8]
  instanceTypes := #[(.array .byte), .byte, .int, .boolean]
  staticTypes := #[.long, .boolean, (.array (.object "java/io/ObjectStreamField")), .char, (.object "java/util/Comparator"), .byte, .byte]
  resolved := Array.replicate 1451 none
  statics := some 0 }

def pool8 : Array CpInfo := pool [(1, .class_ 2), (0, u "java/lang/String"), (1, .class_ 6), (1, u "java/lang/Object"), (0, u "<init>"), (0, u "()V"), (0, .methodref 1 10), (0, .nameAndType 11 12), (0, u "checkIndex"), (0, u "(II)V"), (1, .class_ 16), (1, u "java/lang/StringLatin1"), (36, u "([BI)C"), (67, u "$assertionsDisabled"), (0, u "Z"), (98, .class_ 223), (1, u "java/lang/StringLatin1$LinesSpliterator"), (28, u "charAt"), (28, u "equals"), (0, u "([B[B)Z"), (107, .class_ 391), (0, u "java/lang/StringLatin1$CharsSpliterator")] 3

def k8m0 : Method := { name := "<init>", desc := "()V", sig := { parameters := [], returnType := none }, accessFlags := 0, code := none }
def k8c1 : Code := { maxStack := 2, maxLocals := 2, code := jdk_43_method_2_code, exceptionTable := #[], attributes := #[] }
def k8m1 : Method := { name := "charAt", desc := "([BI)C", sig := { parameters := [(.array .byte), .int], returnType := some .char }, accessFlags := 9, code := some k8c1 }
def k8c2 : Code := { maxStack := 3, maxLocals := 3, code := jdk_43_method_13_code, exceptionTable := #[], attributes := #[] }
def k8m2 : Method := { name := "equals", desc := "([B[B)Z", sig := { parameters := [(.array .byte), (.array .byte)], returnType := some .boolean }, accessFlags := 9, code := some k8c2 }
/-- java/lang/StringLatin1 -/
def k8 : Class := { plain "java/lang/StringLatin1" (some 0) with
  accessFlags := 48
  interfaces := #[]
  cf := some (fileOf pool8 14 #[.nestMembers #[390, 221]] #[{ accessFlags := 0, nameIndex := 7, descriptorIndex := 8, attributes := #[] }, { accessFlags := 9, nameIndex := 252, descriptorIndex := 53, attributes := #[] }, { accessFlags := 9, nameIndex := 281, descriptorIndex := 282, attributes := #[] }] 48 4 #[] #[{ accessFlags := 4120, nameIndex := 121, descriptorIndex := 122, attributes := #[] }])
  fields := #[{ name := "$assertionsDisabled", type := .boolean, accessFlags := 4120, slot := 0, constantValue := 0 }]
  methods := #[k8m0, k8m1, k8m2]
  instanceTypes := #[]
  staticTypes := #[.boolean]
  resolved := Array.replicate 395 none
  statics := none }

def pool9 : Array CpInfo := pool [(2, .class_ 4), (1, u "java/lang/Object"), (0, u "<init>"), (0, u "()V"), (17, .class_ 26), (1, u "jdk/internal/util/Preconditions"), (6, u "checkIndex"), (21, .class_ 56), (0, u "jdk/internal/util/Preconditions$4"), (57, .class_ 115), (0, u "jdk/internal/util/Preconditions$1"), (7, u "SIOOBE_FORMATTER"), (0, u "Ljava/util/function/BiFunction;"), (0, .class_ 126), (0, u "jdk/internal/util/Preconditions$2"), (3, u "AIOOBE_FORMATTER"), (0, .class_ 132), (0, u "jdk/internal/util/Preconditions$3"), (3, u "IOOBE_FORMATTER"), (41, u "(IILjava/util/function/BiFunction;)I")] 15

def k9m0 : Method := { name := "<init>", desc := "()V", sig := { parameters := [], returnType := none }, accessFlags := 1, code := none }
def k9c1 : Code := { maxStack := 3, maxLocals := 3, code := jdk_41_method_11_code, exceptionTable := #[], attributes := #[] }
def k9m1 : Method := { name := "checkIndex", desc := "(IILjava/util/function/BiFunction;)I", sig := { parameters := [.int, .int, (.object "java/util/function/BiFunction")], returnType := some .int }, accessFlags := 9, code := some k9c1 }
/-- jdk/internal/util/Preconditions -/
def k9 : Class := { plain "jdk/internal/util/Preconditions" (some 0) with
  accessFlags := 33
  interfaces := #[]
  cf := some (fileOf pool9 24 #[.nestMembers #[55, 131, 125, 114]] #[{ accessFlags := 1, nameIndex := 5, descriptorIndex := 6, attributes := #[] }, { accessFlags := 9, nameIndex := 33, descriptorIndex := 178, attributes := #[] }] 33 2 #[] #[{ accessFlags := 25, nameIndex := 123, descriptorIndex := 124, attributes := #[] }, { accessFlags := 25, nameIndex := 130, descriptorIndex := 124, attributes := #[] }, { accessFlags := 25, nameIndex := 136, descriptorIndex := 124, attributes := #[] }])
  fields := #[{ name := "SIOOBE_FORMATTER", type := (.object "java/util/function/BiFunction"), accessFlags := 25, slot := 0, constantValue := 0 }, { name := "AIOOBE_FORMATTER", type := (.object "java/util/function/BiFunction"), accessFlags := 25, slot := 1, constantValue := 0 }, { name := "IOOBE_FORMATTER", type := (.object "java/util/function/BiFunction"), accessFlags := 25, slot := 2, constantValue := 0 }]
  methods := #[k9m0, k9m1]
  instanceTypes := #[]
  staticTypes := #[(.object "java/util/function/BiFunction"), (.object "java/util/function/BiFunction"), (.object "java/util/function/BiFunction")]
  resolved := Array.replicate 194 none
  statics := some 1 }

def pool10 : Array CpInfo := pool [(6, .class_ 8), (1, u "java/lang/Object"), (0, u "<init>"), (0, u "()V"), (1, .class_ 14), (1, u "java/lang/StringUTF16"), (31, u "$assertionsDisabled"), (0, u "Z"), (13, u "HI_BYTE_SHIFT"), (0, u "I"), (2, u "LO_BYTE_SHIFT"), (49, .methodref 12 116), (0, .nameAndType 117 118), (0, u "compress"), (0, u "([CI[BII)I"), (3, u "([CII)[B"), (138, u "coderFromArrayLen"), (0, u "([BI)B"), (106, .class_ 371), (1, u "java/lang/StringUTF16$LinesSpliterator"), (58, u "MAX_LENGTH"), (196, .class_ 628), (0, u "java/lang/StringUTF16$CodePointsSpliterator"), (0, .class_ 630), (0, u "java/lang/StringUTF16$CharsSpliterator")] 4

def k10m0 : Method := { name := "<init>", desc := "()V", sig := { parameters := [], returnType := none }, accessFlags := 0, code := none }
def k10c1 : Code := { maxStack := 2, maxLocals := 2, code := jdk_52_method_15_code, exceptionTable := #[], attributes := #[] }
def k10m1 : Method := { name := "coderFromArrayLen", desc := "([BI)B", sig := { parameters := [(.array .byte), .int], returnType := some .byte }, accessFlags := 8, code := some k10c1 }
def k10c2 : Code := { maxStack := 5, maxLocals := 6, code := jdk_52_method_16_code, exceptionTable := #[], attributes := #[] }
def k10m2 : Method := { name := "compress", desc := "([CII)[B", sig := { parameters := [(.array .char), .int, .int], returnType := some (.array .byte) }, accessFlags := 9, code := some k10c2 }
def k10c3 : Code := { maxStack := 3, maxLocals := 7, code := jdk_52_method_21_code, exceptionTable := #[], attributes := #[] }
def k10m3 : Method := { name := "compress", desc := "([CI[BII)I", sig := { parameters := [(.array .char), .int, (.array .byte), .int, .int], returnType := some .int }, accessFlags := 9, code := some k10c3 }
/-- java/lang/StringUTF16 -/
def k10 : Class := { plain "java/lang/StringUTF16" (some 0) with
  accessFlags := 48
  interfaces := #[]
  cf := some (fileOf pool10 12 #[.nestMembers #[627, 629, 369]] #[{ accessFlags := 0, nameIndex := 9, descriptorIndex := 10, attributes := #[] }, { accessFlags := 8, nameIndex := 261, descriptorIndex := 262, attributes := #[] }, { accessFlags := 9, nameIndex := 117, descriptorIndex := 122, attributes := #[] }, { accessFlags := 9, nameIndex := 117, descriptorIndex := 118, attributes := #[] }] 48 6 #[] #[{ accessFlags := 26, nameIndex := 61, descriptorIndex := 62, attributes := #[] }, { accessFlags := 26, nameIndex := 65, descriptorIndex := 62, attributes := #[] }, { accessFlags := 24, nameIndex := 430, descriptorIndex := 62, attributes := #[] }, { accessFlags := 4120, nameIndex := 46, descriptorIndex := 47, attributes := #[] }])
  fields := #[{ name := "HI_BYTE_SHIFT", type := .int, accessFlags := 26, slot := 0, constantValue := 0 }, { name := "LO_BYTE_SHIFT", type := .int, accessFlags := 26, slot := 1, constantValue := 0 }, { name := "MAX_LENGTH", type := .int, accessFlags := 24, slot := 2, constantValue := 0 }, { name := "$assertionsDisabled", type := .boolean, accessFlags := 4120, slot := 3, constantValue := 0 }]
  methods := #[k10m0, k10m1, k10m2, k10m3]
  instanceTypes := #[]
  staticTypes := #[.int, .int, .int, .boolean]
  resolved := Array.replicate 635 none
  statics := none }

def pool11 : Array CpInfo := pool [(2, .class_ 4), (1, u "java/lang/Enum"), (0, u "name"), (0, u "Ljava/lang/String;"), (2, u "ordinal"), (0, u "I"), (1, .class_ 14), (1, u "java/lang/Object"), (4, u "hash"), (86, .class_ 108), (1, u "java/lang/Enum$EnumDesc"), (2, .class_ 112), (0, u "java/lang/constant/Constable"), (0, .class_ 114), (0, u "java/lang/Comparable"), (0, .class_ 116), (0, u "java/io/Serializable")] 87

/-- java/lang/Enum -/
def k11 : Class := { plain "java/lang/Enum" (some 0) with
  accessFlags := 1057
  interfaces := #[5, 3, 2]
  cf := some (fileOf pool11 2 #[.nestMembers #[106]] #[] 1057 12 #[111, 113, 115] #[{ accessFlags := 18, nameIndex := 5, descriptorIndex := 6, attributes := #[] }, { accessFlags := 18, nameIndex := 9, descriptorIndex := 10, attributes := #[] }, { accessFlags := 2, nameIndex := 19, descriptorIndex := 10, attributes := #[] }])
  fields := #[{ name := "name", type := (.object "java/lang/String"), accessFlags := 18, slot := 0, constantValue := 0 }, { name := "ordinal", type := .int, accessFlags := 18, slot := 1, constantValue := 0 }, { name := "hash", type := .int, accessFlags := 2, slot := 2, constantValue := 0 }]
  methods := #[]
  instanceTypes := #[(.object "java/lang/String"), .int, .int]
  staticTypes := #[]
  resolved := Array.replicate 204 none
  statics := none }

def pool12 : Array CpInfo := pool [(1, .class_ 2), (0, u "com/example/firmhold/firmhold/Credentials$Permission"), (2, u "BYPASS_GOVERNANCE"), (0, u "Lcom/example/firmhold/firmhold/Credentials$Permission;"), (0, .fieldref 1 8), (0, .nameAndType 9 10), (0, u "$VALUES"), (0, u "[Lcom/example/firmhold/firmhold/Credentials$Permission;"), (0, .methodref 12 13), (0, .class_ 10), (0, .nameAndType 14 15), (0, u "clone"), (0, u "()Ljava/lang/Object;"), (1, .class_ 19), (1, u "java/lang/Enum"), (6, .fieldref 1 27), (0, .nameAndType 28 29), (0, u "fileName"), (0, u "Ljava/lang/String;"), (0, .methodref 1 31), (0, .nameAndType 32 33), (0, u "values"), (0, u "()[Lcom/example/firmhold/firmhold/Credentials$Permission;"), (0, .methodref 35 36), (0, .class_ 37), (0, .nameAndType 38 39), (0, u "java/lang/String"), (0, u "equals"), (0, u "(Ljava/lang/Object;)Z"), (0, .methodref 41 42), (0, .class_ 43), (0, .nameAndType 44 45), (0, u "java/util/Optional"), (0, u "of"), (0, u "(Ljava/lang/Object;)Ljava/util/Optional;"), (0, .methodref 41 47), (0, .nameAndType 48 49), (0, u "empty"), (0, u "()Ljava/util/Optional;"), (43, u "named"), (0, u "(Ljava/lang/String;)Ljava/util/Optional;"), (12, .class_ 108), (0, u "com/example/firmhold/firmhold/Credentials")] 21

def k12c0 : Code := { maxStack := 1, maxLocals := 0, code := prog_13_method_1_code, exceptionTable := #[], attributes := #[] }
def k12m0 : Method := { name := "values", desc := "()[Lcom/example/firmhold/firmhold/Credentials$Permission;", sig := { parameters := [], returnType := some (.array (.object "com/example/firmhold/firmhold/Credentials$Permission")) }, accessFlags := 9, code := some k12c0 }
def k12c1 : Code := { maxStack := 2, maxLocals := 5, code := prog_13_method_4_code, exceptionTable := #[], attributes := #[] }
def k12m1 : Method := { name := "named", desc := "(Ljava/lang/String;)Ljava/util/Optional;", sig := { parameters := [(.object "java/lang/String")], returnType := some (.object "java/util/Optional") }, accessFlags := 8, code := some k12c1 }
/-- com/example/firmhold/firmhold/Credentials$Permission -/
def k12 : Class := { plain "com/example/firmhold/firmhold/Credentials$Permission" (some 11) with
  accessFlags := 16432
  interfaces := #[]
  cf := some (fileOf pool12 1 #[.nestHost 107] #[{ accessFlags := 9, nameIndex := 32, descriptorIndex := 33, attributes := #[] }, { accessFlags := 8, nameIndex := 93, descriptorIndex := 94, attributes := #[] }] 16432 17 #[] #[{ accessFlags := 16409, nameIndex := 5, descriptorIndex := 6, attributes := #[] }, { accessFlags := 18, nameIndex := 28, descriptorIndex := 29, attributes := #[] }, { accessFlags := 4122, nameIndex := 9, descriptorIndex := 10, attributes := #[] }])
  fields := #[{ name := "BYPASS_GOVERNANCE", type := (.object "com/example/firmhold/firmhold/Credentials$Permission"), accessFlags := 16409, slot := 0, constantValue := 0 }, { name := "fileName", type := (.object "java/lang/String"), accessFlags := 18, slot := 3, constantValue := 0 }, { name := "$VALUES", type := (.array (.object "com/example/firmhold/firmhold/Credentials$Permission")), accessFlags := 4122, slot := 1, constantValue := 0 }]
  methods := #[k12m0, k12m1]
  instanceTypes := #[(.object "java/lang/String"), .int, .int, (.object "java/lang/String")]
  staticTypes := #[(.object "com/example/firmhold/firmhold/Credentials$Permission"), (.array (.object "com/example/firmhold/firmhold/Credentials$Permission"))]
  resolved := Array.replicate 130 none
  statics := some 2 }

def pool13 : Array CpInfo := pool [(1, .class_ 2), (0, u "java/lang/Cloneable"), (0, .class_ 4), (0, u "java/lang/Object")] 2

/-- java/lang/Cloneable -/
def k13 : Class := { plain "java/lang/Cloneable" (some 0) with
  accessFlags := 1537
  interfaces := #[]
  cf := some (fileOf pool13 1 #[] #[] 1537 3 #[] #[])
  fields := #[]
  methods := #[]
  instanceTypes := #[]
  staticTypes := #[]
  resolved := Array.replicate 7 none
  statics := none }

def pool14 : Array CpInfo := pool [(1, .fieldref 2 3), (0, .class_ 4), (0, .nameAndType 5 6), (0, u "java/util/Optional"), (0, u "EMPTY"), (0, u "Ljava/util/Optional;"), (0, .methodref 8 9), (0, .class_ 10), (0, .nameAndType 11 12), (0, u "java/lang/Object"), (0, u "<init>"), (0, u "()V"), (0, .fieldref 2 14), (0, .nameAndType 15 16), (0, u "value"), (0, u "Ljava/lang/Object;"), (0, .methodref 18 19), (0, .class_ 20), (0, .nameAndType 21 22), (0, u "java/util/Objects"), (0, u "requireNonNull"), (0, u "(Ljava/lang/Object;)Ljava/lang/Object;"), (0, .methodref 2 24), (0, .nameAndType 11 25), (0, u "(Ljava/lang/Object;)V"), (20, u "()Z"), (8, u "empty"), (0, u "()Ljava/util/Optional;"), (8, u "(Ljava/lang/Object;)Ljava/util/Optional;"), (2, u "isPresent"), (4, u "get"), (0, u "()Ljava/lang/Object;"), (7, u "of")] 104

def k14c0 : Code := { maxStack := 1, maxLocals := 1, code := jdk_32_method_1_code, exceptionTable := #[], attributes := #[] }
def k14m0 : Method := { name := "empty", desc := "()Ljava/util/Optional;", sig := { parameters := [], returnType := some (.object "java/util/Optional") }, accessFlags := 9, code := some k14c0 }
def k14c1 : Code := { maxStack := 2, maxLocals := 2, code := jdk_32_method_2_code, exceptionTable := #[], attributes := #[] }
def k14m1 : Method := { name := "<init>", desc := "(Ljava/lang/Object;)V", sig := { parameters := [(.object "java/lang/Object")], returnType := none }, accessFlags := 2, code := some k14c1 }
def k14c2 : Code := { maxStack := 3, maxLocals := 1, code := jdk_32_method_3_code, exceptionTable := #[], attributes := #[] }
def k14m2 : Method := { name := "of", desc := "(Ljava/lang/Object;)Ljava/util/Optional;", sig := { parameters := [(.object "java/lang/Object")], returnType := some (.object "java/util/Optional") }, accessFlags := 9, code := some k14c2 }
def k14c3 : Code := { maxStack := 3, maxLocals := 1, code := jdk_32_method_5_code, exceptionTable := #[], attributes := #[] }
def k14m3 : Method := { name := "get", desc := "()Ljava/lang/Object;", sig := { parameters := [], returnType := some (.object "java/lang/Object") }, accessFlags := 1, code := some k14c3 }
def k14c4 : Code := { maxStack := 1, maxLocals := 1, code := jdk_32_method_6_code, exceptionTable := #[], attributes := #[] }
def k14m4 : Method := { name := "isPresent", desc := "()Z", sig := { parameters := [], returnType := some .boolean }, accessFlags := 1, code := some k14c4 }
/-- java/util/Optional -/
def k14 : Class := { plain "java/util/Optional" (some 0) with
  accessFlags := 49
  interfaces := #[]
  cf := some (fileOf pool14 2 #[] #[{ accessFlags := 9, nameIndex := 55, descriptorIndex := 56, attributes := #[] }, { accessFlags := 2, nameIndex := 11, descriptorIndex := 25, attributes := #[] }, { accessFlags := 9, nameIndex := 82, descriptorIndex := 65, attributes := #[] }, { accessFlags := 1, nameIndex := 73, descriptorIndex := 74, attributes := #[] }, { accessFlags := 1, nameIndex := 68, descriptorIndex := 46, attributes := #[] }] 49 8 #[] #[{ accessFlags := 26, nameIndex := 5, descriptorIndex := 6, attributes := #[] }, { accessFlags := 18, nameIndex := 15, descriptorIndex := 16, attributes := #[] }])
  fields := #[{ name := "EMPTY", type := (.object "java/util/Optional"), accessFlags := 26, slot := 0, constantValue := 0 }, { name := "value", type := (.object "java/lang/Object"), accessFlags := 18, slot := 0, constantValue := 0 }]
  methods := #[k14m0, k14m1, k14m2, k14m3, k14m4]
  instanceTypes := #[(.object "java/lang/Object")]
  staticTypes := #[(.object "java/util/Optional")]
  resolved := Array.replicate 187 none
  statics := some 3 }

def pool15 : Array CpInfo := pool [(2, .class_ 4), (1, u "java/lang/Object"), (0, u "<init>"), (0, u "()V"), (35, .class_ 44), (1, u "java/util/Objects"), (0, u "requireNonNull"), (0, u "(Ljava/lang/Object;)Ljava/lang/Object;")] 137

def k15m0 : Method := { name := "<init>", desc := "()V", sig := { parameters := [], returnType := none }, accessFlags := 2, code := none }
def k15c1 : Code := { maxStack := 2, maxLocals := 1, code := jdk_31_method_10_code, exceptionTable := #[], attributes := #[] }
def k15m1 : Method := { name := "requireNonNull", desc := "(Ljava/lang/Object;)Ljava/lang/Object;", sig := { parameters := [(.object "java/lang/Object")], returnType := some (.object "java/lang/Object") }, accessFlags := 9, code := some k15c1 }
/-- java/util/Objects -/
def k15 : Class := { plain "java/util/Objects" (some 0) with
  accessFlags := 49
  interfaces := #[]
  cf := some (fileOf pool15 42 #[] #[{ accessFlags := 2, nameIndex := 5, descriptorIndex := 6, attributes := #[] }, { accessFlags := 9, nameIndex := 45, descriptorIndex := 46, attributes := #[] }] 49 2 #[] #[])
  fields := #[]
  methods := #[k15m0, k15m1]
  instanceTypes := #[]
  staticTypes := #[]
  resolved := Array.replicate 184 none
  statics := none }

def pool16 : Array CpInfo := pool [(9, u "<init>"), (6, .class_ 18), (1, u "java/lang/Object"), (0, u "()V"), (1, .class_ 23), (1, u "jdk/internal/util/ArraysSupport"), (0, u "LOG2_ARRAY_LONG_INDEX_SCALE"), (0, u "I"), (2, u "U"), (0, u "Ljdk/internal/misc/Unsafe;"), (8, u "BIG_ENDIAN"), (0, u "Z"), (8, u "LOG2_BYTE_BIT_SIZE"), (4, u "LOG2_ARRAY_INT_INDEX_SCALE"), (54, u "JLA"), (0, u "Ljdk/internal/access/JavaLangAccess;"), (11, u "LOG2_ARRAY_BOOLEAN_INDEX_SCALE"), (9, u "LOG2_ARRAY_BYTE_INDEX_SCALE"), (5, u "LOG2_ARRAY_CHAR_INDEX_SCALE"), (5, u "LOG2_ARRAY_SHORT_INDEX_SCALE"), (18, u "LOG2_ARRAY_FLOAT_INDEX_SCALE"), (24, u "LOG2_ARRAY_DOUBLE_INDEX_SCALE"), (89, u "T_BOOLEAN"), (2, u "T_CHAR"), (1, u "T_FLOAT"), (1, u "T_DOUBLE"), (1, u "T_BYTE"), (1, u "T_SHORT"), (1, u "T_INT"), (1, u "T_LONG"), (1, u "SOFT_MAX_ARRAY_LENGTH")] 83

def k16m0 : Method := { name := "<init>", desc := "()V", sig := { parameters := [], returnType := none }, accessFlags := 2, code := none }
/-- jdk/internal/util/ArraysSupport -/
def k16 : Class := { plain "jdk/internal/util/ArraysSupport" (some 0) with
  accessFlags := 33
  interfaces := #[]
  cf := some (fileOf pool16 21 #[] #[{ accessFlags := 2, nameIndex := 9, descriptorIndex := 19, attributes := #[] }] 33 16 #[] #[{ accessFlags := 24, nameIndex := 28, descriptorIndex := 29, attributes := #[] }, { accessFlags := 26, nameIndex := 38, descriptorIndex := 39, attributes := #[] }, { accessFlags := 25, nameIndex := 121, descriptorIndex := 25, attributes := #[] }, { accessFlags := 25, nameIndex := 131, descriptorIndex := 25, attributes := #[] }, { accessFlags := 25, nameIndex := 137, descriptorIndex := 25, attributes := #[] }, { accessFlags := 25, nameIndex := 143, descriptorIndex := 25, attributes := #[] }, { accessFlags := 25, nameIndex := 53, descriptorIndex := 25, attributes := #[] }, { accessFlags := 25, nameIndex := 24, descriptorIndex := 25, attributes := #[] }, { accessFlags := 25, nameIndex := 162, descriptorIndex := 25, attributes := #[] }, { accessFlags := 25, nameIndex := 187, descriptorIndex := 25, attributes := #[] }, { accessFlags := 26, nameIndex := 48, descriptorIndex := 25, attributes := #[] }, { accessFlags := 25, nameIndex := 277, descriptorIndex := 25, attributes := #[] }, { accessFlags := 25, nameIndex := 280, descriptorIndex := 25, attributes := #[] }, { accessFlags := 25, nameIndex := 282, descriptorIndex := 25, attributes := #[] }, { accessFlags := 25, nameIndex := 284, descriptorIndex := 25, attributes := #[] }, { accessFlags := 25, nameIndex := 286, descriptorIndex := 25, attributes := #[] }, { accessFlags := 25, nameIndex := 288, descriptorIndex := 25, attributes := #[] }, { accessFlags := 25, nameIndex := 290, descriptorIndex := 25, attributes := #[] }, { accessFlags := 25, nameIndex := 292, descriptorIndex := 25, attributes := #[] }, { accessFlags := 26, nameIndex := 108, descriptorIndex := 109, attributes := #[] }, { accessFlags := 25, nameIndex := 294, descriptorIndex := 25, attributes := #[] }])
  fields := #[{ name := "U", type := (.object "jdk/internal/misc/Unsafe"), accessFlags := 24, slot := 0, constantValue := 0 }, { name := "BIG_ENDIAN", type := .boolean, accessFlags := 26, slot := 1, constantValue := 0 }, { name := "LOG2_ARRAY_BOOLEAN_INDEX_SCALE", type := .int, accessFlags := 25, slot := 2, constantValue := 0 }, { name := "LOG2_ARRAY_BYTE_INDEX_SCALE", type := .int, accessFlags := 25, slot := 3, constantValue := 0 }, { name := "LOG2_ARRAY_CHAR_INDEX_SCALE", type := .int, accessFlags := 25, slot := 4, constantValue := 0 }, { name := "LOG2_ARRAY_SHORT_INDEX_SCALE", type := .int, accessFlags := 25, slot := 5, constantValue := 0 }, { name := "LOG2_ARRAY_INT_INDEX_SCALE", type := .int, accessFlags := 25, slot := 6, constantValue := 0 }, { name := "LOG2_ARRAY_LONG_INDEX_SCALE", type := .int, accessFlags := 25, slot := 7, constantValue := 0 }, { name := "LOG2_ARRAY_FLOAT_INDEX_SCALE", type := .int, accessFlags := 25, slot := 8, constantValue := 0 }, { name := "LOG2_ARRAY_DOUBLE_INDEX_SCALE", type := .int, accessFlags := 25, slot := 9, constantValue := 0 }, { name := "LOG2_BYTE_BIT_SIZE", type := .int, accessFlags := 26, slot := 10, constantValue := 0 }, { name := "T_BOOLEAN", type := .int, accessFlags := 25, slot := 11, constantValue := 0 }, { name := "T_CHAR", type := .int, accessFlags := 25, slot := 12, constantValue := 0 }, { name := "T_FLOAT", type := .int, accessFlags := 25, slot := 13, constantValue := 0 }, { name := "T_DOUBLE", type := .int, accessFlags := 25, slot := 14, constantValue := 0 }, { name := "T_BYTE", type := .int, accessFlags := 25, slot := 15, constantValue := 0 }, { name := "T_SHORT", type := .int, accessFlags := 25, slot := 16, constantValue := 0 }, { name := "T_INT", type := .int, accessFlags := 25, slot := 17, constantValue := 0 }, { name := "T_LONG", type := .int, accessFlags := 25, slot := 18, constantValue := 0 }, { name := "JLA", type := (.object "jdk/internal/access/JavaLangAccess"), accessFlags := 26, slot := 19, constantValue := 0 }, { name := "SOFT_MAX_ARRAY_LENGTH", type := .int, accessFlags := 25, slot := 20, constantValue := 0 }]
  methods := #[k16m0]
  instanceTypes := #[]
  staticTypes := #[(.object "jdk/internal/misc/Unsafe"), .boolean, .int, .int, .int, .int, .int, .int, .int, .int, .int, .int, .int, .int, .int, .int, .int, .int, .int, (.object "jdk/internal/access/JavaLangAccess"), .int]
  resolved := Array.replicate 378 none
  statics := none }

/-- the primitive byte -/
def k17 : Class := { plain "byte" none with kind := .primitive 'B', accessFlags := 0x411 }
/-- [B -/
def k18 : Class := { plain "[B" (some 0) with kind := .array 17 .byte, interfaces := #[13, 2], accessFlags := 1041 }

/-- the primitive char -/
def k19 : Class := { plain "char" none with kind := .primitive 'C', accessFlags := 0x411 }
/-- [C -/
def k20 : Class := { plain "[C" (some 0) with kind := .array 19 .char, interfaces := #[13, 2], accessFlags := 1041 }

/-- the primitive int -/
def k21 : Class := { plain "int" none with kind := .primitive 'I', accessFlags := 0x411 }
/-- [I -/
def k22 : Class := { plain "[I" (some 0) with kind := .array 21 .int, interfaces := #[13, 2], accessFlags := 1041 }

/-- [Lcom/example/firmhold/firmhold/Credentials$Permission; -/
def k23 : Class := { plain "[Lcom/example/firmhold/firmhold/Credentials$Permission;" (some 0) with kind := .array 12 (.object "com/example/firmhold/firmhold/Credentials$Permission"), interfaces := #[13, 2], accessFlags := 1041 }

def heap : Heap := #[{ cls := 7, slots := #[.long 0, .int 1, .null, .int 0, .null, .int 0, .int 0], vm := .statics 7 },
  { cls := 9, slots := #[.null, .null, .null], vm := .statics 9 },
  { cls := 12, slots := #[.ref 5, .ref 4], vm := .statics 12 },
  { cls := 14, slots := #[.ref 8], vm := .statics 14 },
  { cls := 23, slots := #[.ref 5], vm := .none },
  { cls := 12, slots := #[.null, .int 0, .int 0, .ref 6], vm := .none },
  { cls := 7, slots := #[.ref 7, .int 0, .int 0, .int 0], vm := .none },
  { cls := 18, slots := #[.int 98, .int 121, .int 112, .int 97, .int 115, .int 115, .int 45, .int 103, .int 111, .int 118, .int 101, .int 114, .int 110, .int 97, .int 110, .int 99, .int 101], vm := .none },
  { cls := 14, slots := #[.null], vm := .none }]
def classes : Array Class := #[k0, k1, k2, k3, k4, k5, k6, k7, k8, k9, k10, k11, k12, k13, k14, k15, k16, k17, k18, k19, k20, k21, k22, k23]
def interned : List (Array UInt16 × Addr) := []
def slotsUsed : Nat := 40
def theMethod : MethodId := ⟨1, 3⟩
def args0 : Array Value := #[.int 5, .int 5, .int 5, .int 5, .int 5]
def aboutOver (below : List Frame) : State where
  vm := { classes := classes, interned := interned.toArray }
  heap := heap
  slotsUsed := slotsUsed
  threads := #[{ frames := .invoking theMethod args0 :: below }]
def below0 : List Frame := [.native { method := ⟨0, 0⟩, args := #[] }]
def about1 : State := aboutOver below0
def p0 : Program := .bare "" "" ""
def e0 : Env := launch0.env 0 0 0
theorem w_frames : about1.frames = Frame.invoking theMethod args0 :: below0 := rfl
set_option maxRecDepth 65536 in
theorem w_args : argsFit about1.vm theMethod args0 = true := by decide +kernel
set_option maxRecDepth 65536 in
theorem w_heap : heapFits about1 = true := by decide +kernel
set_option maxRecDepth 65536 in
theorem w_runnable : about1.curStatus? = some .runnable := by decide +kernel
set_option maxRecDepth 65536 in
theorem w_alone : about1.alone = true := by decide +kernel
set_option maxRecDepth 65536 in
theorem w_named : about1.methodNamed? x = some theMethod := by decide +kernel
set_option maxRecDepth 65536 in
theorem w_hears : about1.hears theMethod below0 = true := by decide +kernel
set_option maxRecDepth 65536 in
theorem w_ripe : about1.ripe theMethod args0 below0 = true := by decide +kernel
theorem w_running : about1.status = .running := rfl
set_option maxRecDepth 65536 in
theorem w_room : about1.hasRoom e0.platform room_1 = true :=
  launch0.hasRoom_least _ room_1 (by decide +kernel) (by decide +kernel) (by decide +kernel) (by decide +kernel) (by decide +kernel) (by decide +kernel)
theorem allAtoms_all (ts : List Jvm.Cond) (a : Array Jvm.Value) (st : Jvm.State) : (allAtoms ts).before a st = ts.all (fun c => c.before a st) := by
  induction ts with
  | nil => rfl
  | cons c t ih =>
    show (Jvm.Cond.and c (allAtoms t)).before a st = _
    rw [Jvm.Cond.before_and, ih, List.all_cons]
def words1 : List Jvm.Cond := Jvm.Cond.code x code maxLocals ret :: tables_1
/-- a 'code' word, met by the world's own term for the bytes: nothing is compared byte by byte -/
theorem code_word {y : MethodName} {bytes : ByteArray} {mx : Nat} {rt : Option FieldType} {a : Array Value} {s : State} {m : MethodId} {meth : Method} {c : Code} (h1 : s.methodNamed? y = some m) (h2 : s.vm.method? m = some meth) (h3 : meth.code = some c) (h4 : c.code = bytes)
    (h5 : (c.maxLocals == mx && c.exceptionTable.isEmpty && decide (c.maxStack ≤ mostOperands) && decide (meth.sig.returnType = rt) && !meth.locks && decide (parseMethodDescriptor y.desc = some meth.sig)) = true) : (Jvm.Cond.code y bytes mx rt).before a s = true := by
  simp only [Bool.and_eq_true, beq_iff_eq, Bool.not_eq_true', decide_eq_true_eq] at h5
  obtain ⟨⟨⟨⟨⟨g1, g2⟩, g3⟩, g4⟩, g5⟩, g6⟩ := h5
  simp [Cond.before, Cond.holds, Cond.value, h1, h2, h3, h4, g1, g2, g3, g4, g5, g6]
def isCode : Jvm.Cond → Bool
  | .code _ _ _ _ => true
  | _ => false
theorem all_split {L : List Jvm.Cond} {P : Jvm.Cond → Bool} (h1 : L.all (fun c => isCode c || P c) = true) (h2 : ∀ c ∈ L.filter isCode, P c = true) : L.all P = true := by
  refine List.all_eq_true.mpr fun c hc => ?_
  have h := List.all_eq_true.mp h1 c hc
  rcases Bool.eq_false_or_eq_true (isCode c) with hi | hi
  · exact h2 c (List.mem_filter.mpr ⟨hc, hi⟩)
  · simpa [hi] using h
set_option maxRecDepth 65536 in
theorem w_c0 : (Jvm.Cond.code x code maxLocals ret).before args0 about1 = true := code_word (m := ⟨1, 3⟩) (meth := k1m3) (c := k1c3) (by decide +kernel) rfl rfl rfl (by decide +kernel)
set_option maxRecDepth 65536 in
theorem w_c1 : (Jvm.Cond.code ({ cls := "com/example/firmhold/firmhold/PermissionNamedPinLaw", name := "nm", desc := "(I)C" } : Jvm.MethodName) method_2_code (2 : Nat) (Option.some Jvm.ClassFile.FieldType.char)).before args0 about1 = true := code_word (m := ⟨1, 1⟩) (meth := k1m1) (c := k1c1) (by decide +kernel) rfl rfl rfl (by decide +kernel)
set_option maxRecDepth 65536 in
theorem w_c2 : (Jvm.Cond.code ({ cls := "java/lang/String", name := "length", desc := "()I" } : Jvm.MethodName) jdk_42_method_54_code (1 : Nat) (Option.some Jvm.ClassFile.FieldType.int)).before args0 about1 = true := code_word (m := ⟨7, 2⟩) (meth := k7m2) (c := k7c2) (by decide +kernel) rfl rfl rfl (by decide +kernel)
set_option maxRecDepth 65536 in
theorem w_c3 : (Jvm.Cond.code ({ cls := "java/lang/String", name := "coder", desc := "()B" } : Jvm.MethodName) jdk_42_method_152_code (1 : Nat) (Option.some Jvm.ClassFile.FieldType.byte)).before args0 about1 = true := code_word (m := ⟨7, 6⟩) (meth := k7m6) (c := k7c6) (by decide +kernel) rfl rfl rfl (by decide +kernel)
set_option maxRecDepth 65536 in
theorem w_c4 : (Jvm.Cond.code ({ cls := "java/lang/String", name := "charAt", desc := "(I)C" } : Jvm.MethodName) jdk_42_method_56_code (2 : Nat) (Option.some Jvm.ClassFile.FieldType.char)).before args0 about1 = true := code_word (m := ⟨7, 3⟩) (meth := k7m3) (c := k7c3) (by decide +kernel) rfl rfl rfl (by decide +kernel)
set_option maxRecDepth 65536 in
theorem w_c5 : (Jvm.Cond.code ({ cls := "java/lang/String", name := "isLatin1", desc := "()Z" } : Jvm.MethodName) jdk_42_method_154_code (1 : Nat) (Option.some Jvm.ClassFile.FieldType.boolean)).before args0 about1 = true := code_word (m := ⟨7, 7⟩) (meth := k7m7) (c := k7c7) (by decide +kernel) rfl rfl rfl (by decide +kernel)
set_option maxRecDepth 65536 in
theorem w_c6 : (Jvm.Cond.code ({ cls := "java/lang/StringLatin1", name := "charAt", desc := "([BI)C" } : Jvm.MethodName) jdk_43_method_2_code (2 : Nat) (Option.some Jvm.ClassFile.FieldType.char)).before args0 about1 = true := code_word (m := ⟨8, 1⟩) (meth := k8m1) (c := k8c1) (by decide +kernel) rfl rfl rfl (by decide +kernel)
set_option maxRecDepth 65536 in
theorem w_c7 : (Jvm.Cond.code ({ cls := "java/lang/String", name := "checkIndex", desc := "(II)V" } : Jvm.MethodName) jdk_42_method_155_code (2 : Nat) (Option.none : Option Jvm.ClassFile.FieldType)).before args0 about1 = true := code_word (m := ⟨7, 8⟩) (meth := k7m8) (c := k7c8) (by decide +kernel) rfl rfl rfl (by decide +kernel)
set_option maxRecDepth 65536 in
theorem w_c8 : (Jvm.Cond.code ({ cls := "jdk/internal/util/Preconditions", name := "checkIndex", desc := "(IILjava/util/function/BiFunction;)I" } : Jvm.MethodName) jdk_41_method_11_code (3 : Nat) (Option.some Jvm.ClassFile.FieldType.int)).before args0 about1 = true := code_word (m := ⟨9, 1⟩) (meth := k9m1) (c := k9c1) (by decide +kernel) rfl rfl rfl (by decide +kernel)
set_option maxRecDepth 65536 in
theorem w_c9 : (Jvm.Cond.code ({ cls := "com/example/firmhold/firmhold/PermissionNamedPinLaw", name := "at", desc := "(IIICIC)C" } : Jvm.MethodName) method_3_code (6 : Nat) (Option.some Jvm.ClassFile.FieldType.char)).before args0 about1 = true := code_word (m := ⟨1, 2⟩) (meth := k1m2) (c := k1c2) (by decide +kernel) rfl rfl rfl (by decide +kernel)
set_option maxRecDepth 65536 in
theorem w_c10 : (Jvm.Cond.code ({ cls := "java/lang/String", name := "<init>", desc := "([C)V" } : Jvm.MethodName) jdk_42_method_3_code (2 : Nat) (Option.none : Option Jvm.ClassFile.FieldType)).before args0 about1 = true := code_word (m := ⟨7, 1⟩) (meth := k7m1) (c := k7c1) (by decide +kernel) rfl rfl rfl (by decide +kernel)
set_option maxRecDepth 65536 in
theorem w_c11 : (Jvm.Cond.code ({ cls := "java/lang/String", name := "<init>", desc := "([CIILjava/lang/Void;)V" } : Jvm.MethodName) jdk_42_method_149_code (6 : Nat) (Option.none : Option Jvm.ClassFile.FieldType)).before args0 about1 = true := code_word (m := ⟨7, 5⟩) (meth := k7m5) (c := k7c5) (by decide +kernel) rfl rfl rfl (by decide +kernel)
set_option maxRecDepth 65536 in
theorem w_c12 : (Jvm.Cond.code ({ cls := "java/lang/Object", name := "<init>", desc := "()V" } : Jvm.MethodName) object_method_1_code (1 : Nat) (Option.none : Option Jvm.ClassFile.FieldType)).before args0 about1 = true := code_word (m := ⟨0, 0⟩) (meth := k0m0) (c := k0c0) (by decide +kernel) rfl rfl rfl (by decide +kernel)
set_option maxRecDepth 65536 in
theorem w_c13 : (Jvm.Cond.code ({ cls := "java/lang/StringUTF16", name := "compress", desc := "([CII)[B" } : Jvm.MethodName) jdk_52_method_16_code (6 : Nat) (Option.some (Jvm.ClassFile.FieldType.array Jvm.ClassFile.FieldType.byte))).before args0 about1 = true := code_word (m := ⟨10, 2⟩) (meth := k10m2) (c := k10c2) (by decide +kernel) rfl rfl rfl (by decide +kernel)
set_option maxRecDepth 65536 in
theorem w_c14 : (Jvm.Cond.code ({ cls := "java/lang/StringUTF16", name := "compress", desc := "([CI[BII)I" } : Jvm.MethodName) jdk_52_method_21_code (7 : Nat) (Option.some Jvm.ClassFile.FieldType.int)).before args0 about1 = true := code_word (m := ⟨10, 3⟩) (meth := k10m3) (c := k10c3) (by decide +kernel) rfl rfl rfl (by decide +kernel)
set_option maxRecDepth 65536 in
theorem w_c15 : (Jvm.Cond.code ({ cls := "java/lang/StringUTF16", name := "coderFromArrayLen", desc := "([BI)B" } : Jvm.MethodName) jdk_52_method_15_code (2 : Nat) (Option.some Jvm.ClassFile.FieldType.byte)).before args0 about1 = true := code_word (m := ⟨10, 1⟩) (meth := k10m1) (c := k10c1) (by decide +kernel) rfl rfl rfl (by decide +kernel)
set_option maxRecDepth 65536 in
theorem w_c16 : (Jvm.Cond.code ({ cls := "com/example/firmhold/firmhold/Credentials$Permission", name := "named", desc := "(Ljava/lang/String;)Ljava/util/Optional;" } : Jvm.MethodName) prog_13_method_4_code (5 : Nat) (Option.some (Jvm.ClassFile.FieldType.object "java/util/Optional"))).before args0 about1 = true := code_word (m := ⟨12, 1⟩) (meth := k12m1) (c := k12c1) (by decide +kernel) rfl rfl rfl (by decide +kernel)
set_option maxRecDepth 65536 in
theorem w_c17 : (Jvm.Cond.code ({ cls := "com/example/firmhold/firmhold/Credentials$Permission", name := "values", desc := "()[Lcom/example/firmhold/firmhold/Credentials$Permission;" } : Jvm.MethodName) prog_13_method_1_code (0 : Nat) (Option.some (Jvm.ClassFile.FieldType.array (Jvm.ClassFile.FieldType.object "com/example/firmhold/firmhold/Credentials$Permission")))).before args0 about1 = true := code_word (m := ⟨12, 0⟩) (meth := k12m0) (c := k12c0) (by decide +kernel) rfl rfl rfl (by decide +kernel)
set_option maxRecDepth 65536 in
theorem w_c18 : (Jvm.Cond.code ({ cls := "java/lang/String", name := "equals", desc := "(Ljava/lang/Object;)Z" } : Jvm.MethodName) jdk_42_method_66_code (3 : Nat) (Option.some Jvm.ClassFile.FieldType.boolean)).before args0 about1 = true := code_word (m := ⟨7, 4⟩) (meth := k7m4) (c := k7c4) (by decide +kernel) rfl rfl rfl (by decide +kernel)
set_option maxRecDepth 65536 in
theorem w_c19 : (Jvm.Cond.code ({ cls := "java/lang/StringLatin1", name := "equals", desc := "([B[B)Z" } : Jvm.MethodName) jdk_43_method_13_code (3 : Nat) (Option.some Jvm.ClassFile.FieldType.boolean)).before args0 about1 = true := code_word (m := ⟨8, 2⟩) (meth := k8m2) (c := k8c2) (by decide +kernel) rfl rfl rfl (by decide +kernel)
set_option maxRecDepth 65536 in
theorem w_c20 : (Jvm.Cond.code ({ cls := "java/util/Optional", name := "of", desc := "(Ljava/lang/Object;)Ljava/util/Optional;" } : Jvm.MethodName) jdk_32_method_3_code (1 : Nat) (Option.some (Jvm.ClassFile.FieldType.object "java/util/Optional"))).before args0 about1 = true := code_word (m := ⟨14, 2⟩) (meth := k14m2) (c := k14c2) (by decide +kernel) rfl rfl rfl (by decide +kernel)
set_option maxRecDepth 65536 in
theorem w_c21 : (Jvm.Cond.code ({ cls := "java/util/Objects", name := "requireNonNull", desc := "(Ljava/lang/Object;)Ljava/lang/Object;" } : Jvm.MethodName) jdk_31_method_10_code (1 : Nat) (Option.some (Jvm.ClassFile.FieldType.object "java/lang/Object"))).before args0 about1 = true := code_word (m := ⟨15, 1⟩) (meth := k15m1) (c := k15c1) (by decide +kernel) rfl rfl rfl (by decide +kernel)
set_option maxRecDepth 65536 in
theorem w_c22 : (Jvm.Cond.code ({ cls := "java/util/Optional", name := "<init>", desc := "(Ljava/lang/Object;)V" } : Jvm.MethodName) jdk_32_method_2_code (2 : Nat) (Option.none : Option Jvm.ClassFile.FieldType)).before args0 about1 = true := code_word (m := ⟨14, 1⟩) (meth := k14m1) (c := k14c1) (by decide +kernel) rfl rfl rfl (by decide +kernel)
set_option maxRecDepth 65536 in
theorem w_c23 : (Jvm.Cond.code ({ cls := "java/util/Optional", name := "isPresent", desc := "()Z" } : Jvm.MethodName) jdk_32_method_6_code (1 : Nat) (Option.some Jvm.ClassFile.FieldType.boolean)).before args0 about1 = true := code_word (m := ⟨14, 4⟩) (meth := k14m4) (c := k14c4) (by decide +kernel) rfl rfl rfl (by decide +kernel)
set_option maxRecDepth 65536 in
theorem w_c24 : (Jvm.Cond.code ({ cls := "java/util/Optional", name := "get", desc := "()Ljava/lang/Object;" } : Jvm.MethodName) jdk_32_method_5_code (1 : Nat) (Option.some (Jvm.ClassFile.FieldType.object "java/lang/Object"))).before args0 about1 = true := code_word (m := ⟨14, 3⟩) (meth := k14m3) (c := k14c3) (by decide +kernel) rfl rfl rfl (by decide +kernel)
set_option maxRecDepth 65536 in
theorem w_c25 : (Jvm.Cond.code ({ cls := "java/util/Optional", name := "empty", desc := "()Ljava/util/Optional;" } : Jvm.MethodName) jdk_32_method_1_code (1 : Nat) (Option.some (Jvm.ClassFile.FieldType.object "java/util/Optional"))).before args0 about1 = true := code_word (m := ⟨14, 0⟩) (meth := k14m0) (c := k14c0) (by decide +kernel) rfl rfl rfl (by decide +kernel)
def codes1 : List Jvm.Cond := [Jvm.Cond.code x code maxLocals ret, Jvm.Cond.code ({ cls := "com/example/firmhold/firmhold/PermissionNamedPinLaw", name := "nm", desc := "(I)C" } : Jvm.MethodName) method_2_code (2 : Nat) (Option.some Jvm.ClassFile.FieldType.char), Jvm.Cond.code ({ cls := "java/lang/String", name := "length", desc := "()I" } : Jvm.MethodName) jdk_42_method_54_code (1 : Nat) (Option.some Jvm.ClassFile.FieldType.int), Jvm.Cond.code ({ cls := "java/lang/String", name := "coder", desc := "()B" } : Jvm.MethodName) jdk_42_method_152_code (1 : Nat) (Option.some Jvm.ClassFile.FieldType.byte), Jvm.Cond.code ({ cls := "java/lang/String", name := "charAt", desc := "(I)C" } : Jvm.MethodName) jdk_42_method_56_code (2 : Nat) (Option.some Jvm.ClassFile.FieldType.char), Jvm.Cond.code ({ cls := "java/lang/String", name := "isLatin1", desc := "()Z" } : Jvm.MethodName) jdk_42_method_154_code (1 : Nat) (Option.some Jvm.ClassFile.FieldType.boolean), Jvm.Cond.code ({ cls := "java/lang/StringLatin1", name := "charAt", desc := "([BI)C" } : Jvm.MethodName) jdk_43_method_2_code (2 : Nat) (Option.some Jvm.ClassFile.FieldType.char), Jvm.Cond.code ({ cls := "java/lang/String", name := "checkIndex", desc := "(II)V" } : Jvm.MethodName) jdk_42_method_155_code (2 : Nat) (Option.none : Option Jvm.ClassFile.FieldType), Jvm.Cond.code ({ cls := "jdk/internal/util/Preconditions", name := "checkIndex", desc := "(IILjava/util/function/BiFunction;)I" } : Jvm.MethodName) jdk_41_method_11_code (3 : Nat) (Option.some Jvm.ClassFile.FieldType.int), Jvm.Cond.code ({ cls := "com/example/firmhold/firmhold/PermissionNamedPinLaw", name := "at", desc := "(IIICIC)C" } : Jvm.MethodName) method_3_code (6 : Nat) (Option.some Jvm.ClassFile.FieldType.char), Jvm.Cond.code ({ cls := "java/lang/String", name := "<init>", desc := "([C)V" } : Jvm.MethodName) jdk_42_method_3_code (2 : Nat) (Option.none : Option Jvm.ClassFile.FieldType), Jvm.Cond.code ({ cls := "java/lang/String", name := "<init>", desc := "([CIILjava/lang/Void;)V" } : Jvm.MethodName) jdk_42_method_149_code (6 : Nat) (Option.none : Option Jvm.ClassFile.FieldType), Jvm.Cond.code ({ cls := "java/lang/Object", name := "<init>", desc := "()V" } : Jvm.MethodName) object_method_1_code (1 : Nat) (Option.none : Option Jvm.ClassFile.FieldType), Jvm.Cond.code ({ cls := "java/lang/StringUTF16", name := "compress", desc := "([CII)[B" } : Jvm.MethodName) jdk_52_method_16_code (6 : Nat) (Option.some (Jvm.ClassFile.FieldType.array Jvm.ClassFile.FieldType.byte)), Jvm.Cond.code ({ cls := "java/lang/StringUTF16", name := "compress", desc := "([CI[BII)I" } : Jvm.MethodName) jdk_52_method_21_code (7 : Nat) (Option.some Jvm.ClassFile.FieldType.int), Jvm.Cond.code ({ cls := "java/lang/StringUTF16", name := "coderFromArrayLen", desc := "([BI)B" } : Jvm.MethodName) jdk_52_method_15_code (2 : Nat) (Option.some Jvm.ClassFile.FieldType.byte), Jvm.Cond.code ({ cls := "com/example/firmhold/firmhold/Credentials$Permission", name := "named", desc := "(Ljava/lang/String;)Ljava/util/Optional;" } : Jvm.MethodName) prog_13_method_4_code (5 : Nat) (Option.some (Jvm.ClassFile.FieldType.object "java/util/Optional")), Jvm.Cond.code ({ cls := "com/example/firmhold/firmhold/Credentials$Permission", name := "values", desc := "()[Lcom/example/firmhold/firmhold/Credentials$Permission;" } : Jvm.MethodName) prog_13_method_1_code (0 : Nat) (Option.some (Jvm.ClassFile.FieldType.array (Jvm.ClassFile.FieldType.object "com/example/firmhold/firmhold/Credentials$Permission"))), Jvm.Cond.code ({ cls := "java/lang/String", name := "equals", desc := "(Ljava/lang/Object;)Z" } : Jvm.MethodName) jdk_42_method_66_code (3 : Nat) (Option.some Jvm.ClassFile.FieldType.boolean), Jvm.Cond.code ({ cls := "java/lang/StringLatin1", name := "equals", desc := "([B[B)Z" } : Jvm.MethodName) jdk_43_method_13_code (3 : Nat) (Option.some Jvm.ClassFile.FieldType.boolean), Jvm.Cond.code ({ cls := "java/util/Optional", name := "of", desc := "(Ljava/lang/Object;)Ljava/util/Optional;" } : Jvm.MethodName) jdk_32_method_3_code (1 : Nat) (Option.some (Jvm.ClassFile.FieldType.object "java/util/Optional")), Jvm.Cond.code ({ cls := "java/util/Objects", name := "requireNonNull", desc := "(Ljava/lang/Object;)Ljava/lang/Object;" } : Jvm.MethodName) jdk_31_method_10_code (1 : Nat) (Option.some (Jvm.ClassFile.FieldType.object "java/lang/Object")), Jvm.Cond.code ({ cls := "java/util/Optional", name := "<init>", desc := "(Ljava/lang/Object;)V" } : Jvm.MethodName) jdk_32_method_2_code (2 : Nat) (Option.none : Option Jvm.ClassFile.FieldType), Jvm.Cond.code ({ cls := "java/util/Optional", name := "isPresent", desc := "()Z" } : Jvm.MethodName) jdk_32_method_6_code (1 : Nat) (Option.some Jvm.ClassFile.FieldType.boolean), Jvm.Cond.code ({ cls := "java/util/Optional", name := "get", desc := "()Ljava/lang/Object;" } : Jvm.MethodName) jdk_32_method_5_code (1 : Nat) (Option.some (Jvm.ClassFile.FieldType.object "java/lang/Object")), Jvm.Cond.code ({ cls := "java/util/Optional", name := "empty", desc := "()Ljava/util/Optional;" } : Jvm.MethodName) jdk_32_method_1_code (1 : Nat) (Option.some (Jvm.ClassFile.FieldType.object "java/util/Optional"))]
set_option maxRecDepth 65536 in
theorem codes_eq : words1.filter isCode = codes1 := rfl
theorem w_codes : ∀ c ∈ words1.filter isCode, c.before args0 about1 = true := by
  rw [codes_eq]
  intro c hc
  simp only [codes1, List.mem_cons, List.not_mem_nil, or_false] at hc
  rcases hc with rfl | rfl | rfl | rfl | rfl | rfl | rfl | rfl | rfl | rfl | rfl | rfl | rfl | rfl | rfl | rfl | rfl | rfl | rfl | rfl | rfl | rfl | rfl | rfl | rfl | rfl
  · exact w_c0
  · exact w_c1
  · exact w_c2
  · exact w_c3
  · exact w_c4
  · exact w_c5
  · exact w_c6
  · exact w_c7
  · exact w_c8
  · exact w_c9
  · exact w_c10
  · exact w_c11
  · exact w_c12
  · exact w_c13
  · exact w_c14
  · exact w_c15
  · exact w_c16
  · exact w_c17
  · exact w_c18
  · exact w_c19
  · exact w_c20
  · exact w_c21
  · exact w_c22
  · exact w_c23
  · exact w_c24
  · exact w_c25
set_option maxRecDepth 65536 in
theorem w_t1 : (words1.take 24).all (fun c => isCode c || c.before args0 about1) = true := by decide +kernel
set_option maxRecDepth 65536 in
theorem w_t2 : ((words1.drop 24).take 24).all (fun c => isCode c || c.before args0 about1) = true := by decide +kernel
set_option maxRecDepth 65536 in
theorem w_t3 : (((words1.drop 24).drop 24).take 24).all (fun c => isCode c || c.before args0 about1) = true := by decide +kernel
set_option maxRecDepth 65536 in
theorem w_t4 : ((((words1.drop 24).drop 24).drop 24).take 24).all (fun c => isCode c || c.before args0 about1) = true := by decide +kernel
set_option maxRecDepth 65536 in
theorem w_t5 : (((((words1.drop 24).drop 24).drop 24).drop 24).take 24).all (fun c => isCode c || c.before args0 about1) = true := by decide +kernel
set_option maxRecDepth 65536 in
theorem w_t6 : (((((words1.drop 24).drop 24).drop 24).drop 24).drop 24).all (fun c => isCode c || c.before args0 about1) = true := by decide +kernel
theorem w_tables : (allAtoms (Jvm.Cond.code x code maxLocals ret :: tables_1)).before args0 about1 = true := by
  rw [allAtoms_all]
  show words1.all (fun c => c.before args0 about1) = true
  refine all_split ?_ w_codes
  rw [← List.take_append_drop 24 words1, List.all_append, w_t1, ← List.take_append_drop 24 (words1.drop 24), List.all_append, w_t2, ← List.take_append_drop 24 ((words1.drop 24).drop 24), List.all_append, w_t3, ← List.take_append_drop 24 (((words1.drop 24).drop 24).drop 24), List.all_append, w_t4, ← List.take_append_drop 24 ((((words1.drop 24).drop 24).drop 24).drop 24), List.all_append, w_t5, w_t6]
  rfl
set_option maxRecDepth 65536 in
theorem w_rest : rest_1_c.before args0 about1 = true := by decide +kernel
set_option maxRecDepth 65536 in
theorem w_case : (Jvm.Cond.and given_1 narrow_1).before args0 about1 = true := by decide +kernel
set_option maxRecDepth 65536 in
theorem w_consts : constsHeld consts_1 about1 := Jvm.Lit.constsHeldB_iff.mp (by decide +kernel)
theorem w_applies : (headSpec (Jvm.Cond.code x code maxLocals ret :: tables_1) room_1).applies x e0.platform about1 = true :=
  (Spec.applies_iff w_frames).mpr ⟨w_running, w_runnable, w_alone, w_named, w_hears, w_ripe, w_room, w_tables⟩
theorem atStart : AtStart classFile x code maxLocals ret World_1 tables_1 room_1 Calls_1 rest_1 Pre_1 launch0 p0 e0 about1 theMethod args0 below0 :=
  ⟨lists_1, trivial, launch0.admits_env _ _ _, launch0.least_env, fairChoices_fair.cas, fairChoices_fair.clock, w_frames, w_args, w_heap, w_applies, ⟨w_consts, trivial⟩, w_rest, w_case⟩
end start1
theorem witness_1 : WitnessClaimed_1 := ⟨start1.p0, start1.e0, start1.about1, start1.theMethod, start1.args0, start1.below0, start1.atStart⟩
end Jvm.Pilot.@@N@@
