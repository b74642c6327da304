import JvmDerived
import JvmDerived.Pilot.@@N@@Statement
import JvmDerived.Pilot.@@N@@Code
set_option linter.unusedVariables false
set_option linter.unusedSimpArgs false
namespace Jvm.RoadKit
open Sem ClassFile Op Lib Jvm.Stand Jvm.Free Jvm.LawKit
section New
variable {p : Program} {l : Launch} {e : Env} {R : Room} {s : State} {m : MethodId} {args : Array Value} {below : List Frame} {meth : Method} {c : Code} {T : State} {locs : List Loc} {cells slots : Nat}
theorem retI (X : Stand p l e R s m args below meth c T locs cells slots) (hx : p.tables.exec = Jvm.exec) {pc : Nat} {Ls : Array Slot} {z : Int32} {rest : List Value} (hret : meth.sig.returnType = some .int) (hd : decode c.code pc = .ok (.ireturn, 1)) {fs : List Frame}
    (hl : ∀ (f : JFrame) (acts : List Action), f.method = m → f.locked = none → f.entered = [] → (doReturn e (T.setTop f) acts (some (.int z))).1 = T.setFrames fs) : Steps p.tables e below (T.setTop (mkF m pc Ls (.int z :: rest))) (T.setFrames fs) := by
  have hm' : T.vm.method? m = some meth := X.method'
  have hn : narrow .int (.int z) = .int z := rfl
  show Steps p.tables e below (T.setTop { method := m, pc := pc, locals := Ls, stack := _ :: rest, locked := none }) _
  jvm_step X.here [X.here.top, hx, hd, hm', hret, hn]
  first | (intro acts; rw [hl _ acts rfl rfl rfl]) | rw [hl _ _ rfl rfl rfl]
  exact Steps.refl _
end New
end Jvm.RoadKit
namespace Jvm.Pilot.@@N@@
open Jvm Jvm.ClassFile Sem Op Lib Jvm.Free Jvm.Stand Jvm.LawKit Jvm.RoadKit Bundle Jvm.Pilot.@@N@@.Jvm.D
/-- what is left to run from S0 is what is left from T with the frame g on top -/
abbrev own_Pr (tb : Tables) (e : Env) (below : List Frame) (S0 T : State) (g : JFrame) : Prop := ∀ t, Steps tb e below (T.setTop g) t → Steps tb e below S0 t
/-- it returns the int r, the heap as it was -/
def own_QI (h0 : Heap) (n0 : Nat) (r : Int32) (v : Option Value) (h : Heap) (L : List Loc) : Prop := ∃ z, v = some (.int z) ∧ z = r ∧ Fr n0 L ∧ h = h0
def own_QJ (h0 : Heap) (n0 : Nat) (r : Int64) (v : Option Value) (h : Heap) (L : List Loc) : Prop := ∃ z, v = some (.long z) ∧ z = r ∧ Fr n0 L ∧ h = h0
def own_QR (h0 : Heap) (n0 : Nat) (r : Addr) (v : Option Value) (h : Heap) (L : List Loc) : Prop := ∃ z, v = some (.ref z) ∧ z = r ∧ Fr n0 L ∧ h = h0
def own_QL (n0 : Nat) (v : Option Value) (L : List Loc) : Prop := ∃ z : Int32, v = some (.int z) ∧ z = 1 ∧ Fr n0 L
def own_QV (h0 : Heap) (n0 : Nat) (v : Option Value) (h : Heap) (L : List Loc) : Prop := v = none ∧ Fr n0 L ∧ h = h0
theorem own_tab_other {Z : State} {h h' : Heap} {a b : Addr} {sl : Nat} {v : Value} {cl : Cell} {ty : FieldType} {n : Int32} (F : Tab Z h b cl ty n) (W : Wr h h' a sl v) (q : b ≠ a) : Tab Z h' b cl ty n := ⟨F.1.other W q, F.2⟩
theorem own_tab_keep {Z : State} {h h' : Heap} {b : Addr} {ws : List Addr} {cl : Cell} {ty : FieldType} {n : Int32} (F : Tab Z h b cl ty n) (K : Keep h h' ws) (q : b ∉ ws) : Tab Z h' b cl ty n := ⟨⟨K.2.1 b cl F.1.1 q, F.1.2⟩, F.2⟩
theorem own_tab {Z : State} {h : Heap} {a : Addr} {k : ClassId} {ty : FieldType} {n : Int32} {xs : List Int32} (F : Arv Z h a k ty n (xs.map Value.int) (.int 0)) : ∃ cl, Tab Z h a cl ty n ∧ ∀ j : Int32, ¬ j < 0 → j < n → atv cl j = xs.getD j.toNatClampNeg 0 := by
  obtain ⟨cl, A, -, S, hn, H, -⟩ := F
  have key : ∀ i, i < cl.slots.size → cl.slots[i]? = some (.int (xs.getD i 0)) := fun i hi => by
    rw [H i hi]; simp only [List.getD_eq_getElem?_getD, List.getElem?_map]
    cases xs[i]? <;> rfl
  have at' : ∀ j : Int32, ¬ (j < 0 ∨ cl.slots.size ≤ j.toNatClampNeg) → atv cl j = xs.getD j.toNatClampNeg 0 := fun j hj => atv_of (key _ (Nat.lt_of_not_le fun q => hj (Or.inr q)))
  exact ⟨cl, ⟨A, S, hn, fun j hj => by rw [at' j hj]; exact key _ (Nat.lt_of_not_le fun q => hj (Or.inr q))⟩, fun j h1 h2 => at' j (inb_of S ⟨h1, h2⟩)⟩
theorem own_lremM {p : Program} {l : Launch} {e : Env} {R : Room} {s : State} {m : MethodId} {args : Array Value} {below : List Frame} {meth : Method} {c : Code} {T : State} {locs : List Loc} {cells slots : Nat} {g : JFrame} {target : State} (X : Stand p l e R s m args below meth c T locs cells slots) (hx : p.tables.exec = Jvm.exec) (hg : g.method = m) {x y : Int64} {rest : List Value} (hd : decode c.code g.pc = .ok (.lrem, 1)) (hs : g.stack = .long y :: .long x :: rest) (hy : y ≠ 0)
    (hr : Steps p.tables e below (T.setTop { g with pc := g.pc + 1, stack := .long (x % y) :: rest }) target) : Steps p.tables e below (T.setTop g) target :=
  XS.lrem X.here hx hg hd hs hy (by rw [lrem_mod x y]; exact hr)
theorem own_b1 {c : Int32} (h : ¬ c < 0 ∧ c < 5) : ¬ c < 0 ∧ c < 6 := ⟨h.1, Int32.lt_trans h.2 (by decide)⟩
theorem own_b2 {c z : Int32} (hz : z = c + 1) (h : ¬ c < 0 ∧ c < 5) : ¬ z < 0 ∧ z < 7 := by
  subst hz
  have h3 := c_iadd c 1
  have h4 := rng32 (c + 1)
  have e0 : (0 : Int32).toInt = 0 := rfl
  have e1 : (1 : Int32).toInt = 1 := rfl
  have e5 : (5 : Int32).toInt = 5 := rfl
  have e7 : (7 : Int32).toInt = 7 := rfl
  simp only [Int32.lt_iff_toInt_lt, e0, e1, e5, e7] at *
  omega
theorem own_some {α : Type} {x : Option α} {d : α} (h : x.isSome = true) : x = some (x.getD d) := by cases x with | none => cases h | some v => rfl
theorem d3_0 : decode method_4_code 0 = .ok (.iload_n 3, 1) := by decide +kernel
theorem d3_1 : decode method_4_code 1 = .ok (.iload_n 1, 1) := by decide +kernel
theorem d3_2 : decode method_4_code 2 = .ok (.if_icmp .le 17, 3) := by decide +kernel
theorem d3_5 : decode method_4_code 5 = .ok (.iload_n 3, 1) := by decide +kernel
theorem d3_6 : decode method_4_code 6 = .ok (.iload_n 2, 1) := by decide +kernel
theorem d3_7 : decode method_4_code 7 = .ok (.if_icmp .ge 12, 3) := by decide +kernel
theorem d3_10 : decode method_4_code 10 = .ok (.aload_n 0, 1) := by decide +kernel
theorem d3_11 : decode method_4_code 11 = .ok (.iload_n 3, 1) := by decide +kernel
theorem d3_12 : decode method_4_code 12 = .ok (.iaload, 1) := by decide +kernel
theorem d3_13 : decode method_4_code 13 = .ok (.aload_n 0, 1) := by decide +kernel
theorem d3_14 : decode method_4_code 14 = .ok (.iload_n 1, 1) := by decide +kernel
theorem d3_15 : decode method_4_code 15 = .ok (.iaload, 1) := by decide +kernel
theorem d3_16 : decode method_4_code 16 = .ok (.if_icmp .lt 7, 3) := by decide +kernel
theorem d3_19 : decode method_4_code 19 = .ok (.iconst 1, 1) := by decide +kernel
theorem d3_20 : decode method_4_code 20 = .ok (.goto 4, 3) := by decide +kernel
theorem d3_23 : decode method_4_code 23 = .ok (.iconst 0, 1) := by decide +kernel
theorem d3_24 : decode method_4_code 24 = .ok (.ireturn, 1) := by decide +kernel
theorem pn_3 : plainName "com/example/compact_concepts/compactconcepts/TreeShapesSecondParentPinLaw" = true := by first | (simp [plainName, overriddenIn]; done) | decide +kernel
theorem ef_3 (m : MethodId) (a1 : Addr) (p2 : Int32) (p3 : Int32) (p4 : Int32) : entryFrame m #[(.ref a1), (.int p2), (.int p3), (.int p4)] 4 = mkF m 0 #[.val (.ref a1), .val (.int p2), .val (.int p3), .val (.int p4)] [] := by first | (simp [entryFrame, mkF, argsToLocals, Value.category]; done) | rfl
def own_f3 (cl : Cell) (p2 p3 p4 : Int32) : Int32 := (if p2 < p4 then (if p4 < p3 then (if (atv cl p4) < (atv cl p2) then (0 : Int32) else (1 : Int32)) else (1 : Int32)) else (1 : Int32))
set_option maxRecDepth 65536 in
set_option maxHeartbeats 40000000 in
theorem rm3 (l : Launch) (Z : State) (a0 : Array Value) (hw : ∀ d ∈ tables_1, d.before a0 Z = true) (ws : List Jvm.Cond) (a1 : Addr) (p2 : Int32) (p3 : Int32) (p4 : Int32) (cl : Cell) (h0 : Heap) (n0 : Nat) (Z0 : n0 ≤ h0.size) (T_a1 : Tab Z h0 a1 cl .int 7) (hs : ¬ p2 < 0 ∧ p2 < 7) (hj : ¬ p4 < 0 ∧ p4 < 7) :
    MetFree l (⟨"com/example/compact_concepts/compactconcepts/TreeShapesSecondParentPinLaw", "stays", "([IIII)Z"⟩ : MethodName) (head1 (Jvm.Cond.code (⟨"com/example/compact_concepts/compactconcepts/TreeShapesSecondParentPinLaw", "stays", "([IIII)Z"⟩ : MethodName) method_4_code 4 (some .boolean) :: ws) ({ frames := 0, cells := 0, slots := 0, locals := 0 } : Room)) (fun a U => a = #[(.ref a1), (.int p2), (.int p3), (.int p4)] ∧ Z.Warmed39 U.vm ∧ U.heap = h0) (fun _ _ _ _ _ => True) (fun _ U o U' => ∃ v L, o = .returned v ∧ own_QI h0 n0 (own_f3 cl p2 p3 p4) v U'.heap L ∧ FrameEnd U o U' L ({ frames := 0, cells := 0, slots := 0, locals := 0 } : Room).cells ({ frames := 0, cells := 0, slots := 0, locals := 0 } : Room).slots) := by
  refine MetFree.of_bodySF (plainFor_of_name pn_3) hisR ?_
  intro p e s m args below meth c s₁ Bd hml0 hP hK
  obtain ⟨rfl, hZ, hh⟩ := hP
  have hx := Bd.exec
  have hby := Bd.bytes
  have hml : c.maxLocals = 4 := hml0
  have hown : s.vm.findClass "com/example/compact_concepts/compactconcepts/TreeShapesSecondParentPinLaw" = some m.cls := findClass_of_methodNamed Bd.named
  have hnm := (name_of_methodNamed Bd.named Bd.method).1
  have X0 : Stand p l e ({ frames := 0, cells := 0, slots := 0, locals := 0 } : Room) s m #[(.ref a1), (.int p2), (.int p3), (.int p4)] below meth c s₁ [] 0 0 := Stand.of_body Bd
  have e0 : s₁.heap = h0 := by rw [← hh, Bd.state]; rfl
  have N0 := Fr.nil n0
  obtain ⟨S0, hS0⟩ : ∃ z, z = s₁.setTop (entryFrame m #[(.ref a1), (.int p2), (.int p3), (.int p4)] 4) := ⟨_, rfl⟩
  have P0 : own_Pr p.tables e below S0 s₁ (mkF m 0 #[.val (.ref a1), .val (.int p2), .val (.int p3), .val (.int p4)] []) := fun t k => hS0 ▸ castTop (ef_3 m a1 p2 p3 p4) k
  have P1 : own_Pr p.tables e below S0 s₁ (mkF m 2 #[.val (.ref a1), .val (.int p2), .val (.int p3), .val (.int p4)] [(.int p2), (.int p4)]) := fun t k => P0 t (by
    refine XS.iloadN X0.here hx rfl (hb hby d3_0) rfl ?_
    show Steps p.tables e below (s₁.setTop (mkF m 1 #[.val (.ref a1), .val (.int p2), .val (.int p3), .val (.int p4)] [(.int p4)])) _
    refine XS.iloadN X0.here hx rfl (hb hby d3_1) rfl ?_
    show Steps p.tables e below (s₁.setTop (mkF m 2 #[.val (.ref a1), .val (.int p2), .val (.int p3), .val (.int p4)] [(.int p2), (.int p4)])) _
    exact k)
  by_cases hc2_2 : p2 < p4
  · have P3 : own_Pr p.tables e below S0 s₁ (mkF m 7 #[.val (.ref a1), .val (.int p2), .val (.int p3), .val (.int p4)] [(.int p3), (.int p4)]) := fun t k => P1 t (by
      refine XS.icmpNo X0.here hx rfl (hb hby d3_2) rfl (XT.ii_le_f hc2_2) ?_
      show Steps p.tables e below (s₁.setTop (mkF m 5 #[.val (.ref a1), .val (.int p2), .val (.int p3), .val (.int p4)] [])) _
      refine XS.iloadN X0.here hx rfl (hb hby d3_5) rfl ?_
      show Steps p.tables e below (s₁.setTop (mkF m 6 #[.val (.ref a1), .val (.int p2), .val (.int p3), .val (.int p4)] [(.int p4)])) _
      refine XS.iloadN X0.here hx rfl (hb hby d3_6) rfl ?_
      show Steps p.tables e below (s₁.setTop (mkF m 7 #[.val (.ref a1), .val (.int p2), .val (.int p3), .val (.int p4)] [(.int p3), (.int p4)])) _
      exact k)
    by_cases hc7_4 : p4 < p3
    · have hin12_5 : ¬ (p4 < 0 ∨ cl.slots.size ≤ (p4).toNatClampNeg) := inb_of T_a1.2.1 hj
      have hin15_6 : ¬ (p2 < 0 ∨ cl.slots.size ≤ (p2).toNatClampNeg) := inb_of T_a1.2.1 hs
      have P7 : own_Pr p.tables e below S0 s₁ (mkF m 16 #[.val (.ref a1), .val (.int p2), .val (.int p3), .val (.int p4)] [(.int (atv cl p2)), (.int (atv cl p4))]) := fun t k => P3 t (by
        refine XS.icmpNo X0.here hx rfl (hb hby d3_7) rfl (XT.ii_ge_f hc7_4) ?_
        show Steps p.tables e below (s₁.setTop (mkF m 10 #[.val (.ref a1), .val (.int p2), .val (.int p3), .val (.int p4)] [])) _
        refine XS.aloadN X0.here hx rfl (hb hby d3_10) rfl rfl ?_
        show Steps p.tables e below (s₁.setTop (mkF m 11 #[.val (.ref a1), .val (.int p2), .val (.int p3), .val (.int p4)] [(.ref a1)])) _
        refine XS.iloadN X0.here hx rfl (hb hby d3_11) rfl ?_
        show Steps p.tables e below (s₁.setTop (mkF m 12 #[.val (.ref a1), .val (.int p2), .val (.int p3), .val (.int p4)] [(.int p4), (.ref a1)])) _
        refine X0.iaload hx (j := p4) (v := .int (atv cl p4)) (by rw [e0]; exact T_a1.1.1) (State.isArrayOf_alike hZ.alike T_a1.1.2.1) T_a1.1.2.2 hin12_5 (T_a1.2.2.2 _ hin12_5) (g := (mkF m 12 #[.val (.ref a1), .val (.int p2), .val (.int p3), .val (.int p4)] [(.int p4), (.ref a1)])) rfl rfl (hb hby d3_12) _ ?_
        show Steps p.tables e below (s₁.setTop (mkF m 13 #[.val (.ref a1), .val (.int p2), .val (.int p3), .val (.int p4)] [(.int (atv cl p4))])) _
        refine XS.aloadN X0.here hx rfl (hb hby d3_13) rfl rfl ?_
        show Steps p.tables e below (s₁.setTop (mkF m 14 #[.val (.ref a1), .val (.int p2), .val (.int p3), .val (.int p4)] [(.ref a1), (.int (atv cl p4))])) _
        refine XS.iloadN X0.here hx rfl (hb hby d3_14) rfl ?_
        show Steps p.tables e below (s₁.setTop (mkF m 15 #[.val (.ref a1), .val (.int p2), .val (.int p3), .val (.int p4)] [(.int p2), (.ref a1), (.int (atv cl p4))])) _
        refine X0.iaload hx (j := p2) (v := .int (atv cl p2)) (by rw [e0]; exact T_a1.1.1) (State.isArrayOf_alike hZ.alike T_a1.1.2.1) T_a1.1.2.2 hin15_6 (T_a1.2.2.2 _ hin15_6) (g := (mkF m 15 #[.val (.ref a1), .val (.int p2), .val (.int p3), .val (.int p4)] [(.int p2), (.ref a1), (.int (atv cl p4))])) rfl rfl (hb hby d3_15) _ ?_
        show Steps p.tables e below (s₁.setTop (mkF m 16 #[.val (.ref a1), .val (.int p2), .val (.int p3), .val (.int p4)] [(.int (atv cl p2)), (.int (atv cl p4))])) _
        exact k)
      by_cases hc16_8 : (atv cl p4) < (atv cl p2)
      · have P9 : own_Pr p.tables e below S0 s₁ (mkF m 24 #[.val (.ref a1), .val (.int p2), .val (.int p3), .val (.int p4)] [(.int (0 : Int32))]) := fun t k => P7 t (by
          refine XS.icmpYes X0.here hx rfl (pc0 := 16) (pc' := 23) rfl (hb hby d3_16) rfl (XT.ii_lt_t hc16_8) (by decide) (by decide) ?_
          show Steps p.tables e below (s₁.setTop (mkF m 23 #[.val (.ref a1), .val (.int p2), .val (.int p3), .val (.int p4)] [])) _
          refine XS.iconst X0.here hx rfl (hb hby d3_23) ?_
          show Steps p.tables e below (s₁.setTop (mkF m 24 #[.val (.ref a1), .val (.int p2), .val (.int p3), .val (.int p4)] [(.int (0 : Int32))])) _
          exact k)
        obtain ⟨fs, hr, hrun, hended, hW, hsame⟩ := X0.leave (v := some (.int (0 : Int32))) (fun h => by rw [Bd.returns] at h; cases h)
        have fin : Steps p.tables e below S0 (s₁.setFrames fs) := P9 _ (retN X0 hx (t := .boolean) Bd.returns (by simp) (hb hby d3_24) hr)
        rw [hS0] at fin
        refine ⟨_, _, fin, hrun, hended, _, _, rfl, ?_, ⟨_, rfl⟩, hW, hsame.mono (by decide) (by decide)⟩
        show own_QI h0 n0 (own_f3 cl p2 p3 p4) _ s₁.heap _
        rw [e0]
        exact ⟨_, rfl, (by unfold own_f3; rw [if_pos hc2_2, if_pos hc7_4, if_pos hc16_8]), N0, rfl⟩
      · have P10 : own_Pr p.tables e below S0 s₁ (mkF m 24 #[.val (.ref a1), .val (.int p2), .val (.int p3), .val (.int p4)] [(.int (1 : Int32))]) := fun t k => P7 t (by
          refine XS.icmpNo X0.here hx rfl (hb hby d3_16) rfl (XT.ii_lt_f hc16_8) ?_
          show Steps p.tables e below (s₁.setTop (mkF m 19 #[.val (.ref a1), .val (.int p2), .val (.int p3), .val (.int p4)] [])) _
          refine XS.iconst X0.here hx rfl (hb hby d3_19) ?_
          show Steps p.tables e below (s₁.setTop (mkF m 20 #[.val (.ref a1), .val (.int p2), .val (.int p3), .val (.int p4)] [(.int (1 : Int32))])) _
          refine XS.goto X0.here hx rfl (pc0 := 20) (pc' := 24) rfl (hb hby d3_20) (by decide) (by decide) ?_
          show Steps p.tables e below (s₁.setTop (mkF m 24 #[.val (.ref a1), .val (.int p2), .val (.int p3), .val (.int p4)] [(.int (1 : Int32))])) _
          exact k)
        obtain ⟨fs, hr, hrun, hended, hW, hsame⟩ := X0.leave (v := some (.int (1 : Int32))) (fun h => by rw [Bd.returns] at h; cases h)
        have fin : Steps p.tables e below S0 (s₁.setFrames fs) := P10 _ (retN X0 hx (t := .boolean) Bd.returns (by simp) (hb hby d3_24) hr)
        rw [hS0] at fin
        refine ⟨_, _, fin, hrun, hended, _, _, rfl, ?_, ⟨_, rfl⟩, hW, hsame.mono (by decide) (by decide)⟩
        show own_QI h0 n0 (own_f3 cl p2 p3 p4) _ s₁.heap _
        rw [e0]
        exact ⟨_, rfl, (by unfold own_f3; rw [if_pos hc2_2, if_pos hc7_4, if_neg hc16_8]), N0, rfl⟩
    · have P11 : own_Pr p.tables e below S0 s₁ (mkF m 24 #[.val (.ref a1), .val (.int p2), .val (.int p3), .val (.int p4)] [(.int (1 : Int32))]) := fun t k => P3 t (by
        refine XS.icmpYes X0.here hx rfl (pc0 := 7) (pc' := 19) rfl (hb hby d3_7) rfl (XT.ii_ge_t hc7_4) (by decide) (by decide) ?_
        show Steps p.tables e below (s₁.setTop (mkF m 19 #[.val (.ref a1), .val (.int p2), .val (.int p3), .val (.int p4)] [])) _
        refine XS.iconst X0.here hx rfl (hb hby d3_19) ?_
        show Steps p.tables e below (s₁.setTop (mkF m 20 #[.val (.ref a1), .val (.int p2), .val (.int p3), .val (.int p4)] [(.int (1 : Int32))])) _
        refine XS.goto X0.here hx rfl (pc0 := 20) (pc' := 24) rfl (hb hby d3_20) (by decide) (by decide) ?_
        show Steps p.tables e below (s₁.setTop (mkF m 24 #[.val (.ref a1), .val (.int p2), .val (.int p3), .val (.int p4)] [(.int (1 : Int32))])) _
        exact k)
      obtain ⟨fs, hr, hrun, hended, hW, hsame⟩ := X0.leave (v := some (.int (1 : Int32))) (fun h => by rw [Bd.returns] at h; cases h)
      have fin : Steps p.tables e below S0 (s₁.setFrames fs) := P11 _ (retN X0 hx (t := .boolean) Bd.returns (by simp) (hb hby d3_24) hr)
      rw [hS0] at fin
      refine ⟨_, _, fin, hrun, hended, _, _, rfl, ?_, ⟨_, rfl⟩, hW, hsame.mono (by decide) (by decide)⟩
      show own_QI h0 n0 (own_f3 cl p2 p3 p4) _ s₁.heap _
      rw [e0]
      exact ⟨_, rfl, (by unfold own_f3; rw [if_pos hc2_2, if_neg hc7_4]), N0, rfl⟩
  · have P12 : own_Pr p.tables e below S0 s₁ (mkF m 24 #[.val (.ref a1), .val (.int p2), .val (.int p3), .val (.int p4)] [(.int (1 : Int32))]) := fun t k => P1 t (by
      refine XS.icmpYes X0.here hx rfl (pc0 := 2) (pc' := 19) rfl (hb hby d3_2) rfl (XT.ii_le_t hc2_2) (by decide) (by decide) ?_
      show Steps p.tables e below (s₁.setTop (mkF m 19 #[.val (.ref a1), .val (.int p2), .val (.int p3), .val (.int p4)] [])) _
      refine XS.iconst X0.here hx rfl (hb hby d3_19) ?_
      show Steps p.tables e below (s₁.setTop (mkF m 20 #[.val (.ref a1), .val (.int p2), .val (.int p3), .val (.int p4)] [(.int (1 : Int32))])) _
      refine XS.goto X0.here hx rfl (pc0 := 20) (pc' := 24) rfl (hb hby d3_20) (by decide) (by decide) ?_
      show Steps p.tables e below (s₁.setTop (mkF m 24 #[.val (.ref a1), .val (.int p2), .val (.int p3), .val (.int p4)] [(.int (1 : Int32))])) _
      exact k)
    obtain ⟨fs, hr, hrun, hended, hW, hsame⟩ := X0.leave (v := some (.int (1 : Int32))) (fun h => by rw [Bd.returns] at h; cases h)
    have fin : Steps p.tables e below S0 (s₁.setFrames fs) := P12 _ (retN X0 hx (t := .boolean) Bd.returns (by simp) (hb hby d3_24) hr)
    rw [hS0] at fin
    refine ⟨_, _, fin, hrun, hended, _, _, rfl, ?_, ⟨_, rfl⟩, hW, hsame.mono (by decide) (by decide)⟩
    show own_QI h0 n0 (own_f3 cl p2 p3 p4) _ s₁.heap _
    rw [e0]
    exact ⟨_, rfl, (by unfold own_f3; rw [if_neg hc2_2]), N0, rfl⟩
theorem d1_0 : decode method_3_code 0 = .ok (.iload_n 2, 1) := by decide +kernel
theorem d1_1 : decode method_3_code 1 = .ok (.iconst 1, 1) := by decide +kernel
theorem d1_2 : decode method_3_code 2 = .ok (.iadd, 1) := by decide +kernel
theorem d1_3 : decode method_3_code 3 = .ok (.istore 4, 2) := by decide +kernel
theorem d1_5 : decode method_3_code 5 = .ok (.aload_n 0, 1) := by decide +kernel
theorem d1_6 : decode method_3_code 6 = .ok (.iload_n 2, 1) := by decide +kernel
theorem d1_7 : decode method_3_code 7 = .ok (.iaload, 1) := by decide +kernel
theorem d1_8 : decode method_3_code 8 = .ok (.iconst 2, 1) := by decide +kernel
theorem d1_9 : decode method_3_code 9 = .ok (.if_icmp .ne 9, 3) := by decide +kernel
theorem d1_12 : decode method_3_code 12 = .ok (.iload 4, 2) := by decide +kernel
theorem d1_14 : decode method_3_code 14 = .ok (.iload_n 3, 1) := by decide +kernel
theorem d1_15 : decode method_3_code 15 = .ok (.if_icmp .lt 5, 3) := by decide +kernel
theorem d1_18 : decode method_3_code 18 = .ok (.iconst 0, 1) := by decide +kernel
theorem d1_19 : decode method_3_code 19 = .ok (.ireturn, 1) := by decide +kernel
theorem d1_20 : decode method_3_code 20 = .ok (.aload_n 1, 1) := by decide +kernel
theorem d1_21 : decode method_3_code 21 = .ok (.iload_n 3, 1) := by decide +kernel
theorem d1_22 : decode method_3_code 22 = .ok (.iaload, 1) := by decide +kernel
theorem d1_23 : decode method_3_code 23 = .ok (.aload_n 1, 1) := by decide +kernel
theorem d1_24 : decode method_3_code 24 = .ok (.iload 4, 2) := by decide +kernel
theorem d1_26 : decode method_3_code 26 = .ok (.iaload, 1) := by decide +kernel
theorem d1_27 : decode method_3_code 27 = .ok (.iconst 1, 1) := by decide +kernel
theorem d1_28 : decode method_3_code 28 = .ok (.isub, 1) := by decide +kernel
theorem d1_29 : decode method_3_code 29 = .ok (.if_icmp .eq 5, 3) := by decide +kernel
theorem d1_32 : decode method_3_code 32 = .ok (.iconst 0, 1) := by decide +kernel
theorem d1_33 : decode method_3_code 33 = .ok (.ireturn, 1) := by decide +kernel
theorem d1_34 : decode method_3_code 34 = .ok (.aload_n 1, 1) := by decide +kernel
theorem d1_35 : decode method_3_code 35 = .ok (.iload 4, 2) := by decide +kernel
theorem d1_37 : decode method_3_code 37 = .ok (.iload_n 3, 1) := by decide +kernel
theorem d1_38 : decode method_3_code 38 = .ok (.iconst 2, 1) := by decide +kernel
theorem d1_39 : decode method_3_code 39 = .ok (.invokestatic 20, 3) := by decide +kernel
theorem d1_42 : decode method_3_code 42 = .ok (.ifCond .eq 40, 3) := by decide +kernel
theorem d1_45 : decode method_3_code 45 = .ok (.aload_n 1, 1) := by decide +kernel
theorem d1_46 : decode method_3_code 46 = .ok (.iload 4, 2) := by decide +kernel
theorem d1_48 : decode method_3_code 48 = .ok (.iload_n 3, 1) := by decide +kernel
theorem d1_49 : decode method_3_code 49 = .ok (.iconst 3, 1) := by decide +kernel
theorem d1_50 : decode method_3_code 50 = .ok (.invokestatic 20, 3) := by decide +kernel
theorem d1_53 : decode method_3_code 53 = .ok (.ifCond .eq 29, 3) := by decide +kernel
theorem d1_56 : decode method_3_code 56 = .ok (.aload_n 1, 1) := by decide +kernel
theorem d1_57 : decode method_3_code 57 = .ok (.iload 4, 2) := by decide +kernel
theorem d1_59 : decode method_3_code 59 = .ok (.iload_n 3, 1) := by decide +kernel
theorem d1_60 : decode method_3_code 60 = .ok (.iconst 4, 1) := by decide +kernel
theorem d1_61 : decode method_3_code 61 = .ok (.invokestatic 20, 3) := by decide +kernel
theorem d1_64 : decode method_3_code 64 = .ok (.ifCond .eq 18, 3) := by decide +kernel
theorem d1_67 : decode method_3_code 67 = .ok (.aload_n 1, 1) := by decide +kernel
theorem d1_68 : decode method_3_code 68 = .ok (.iload 4, 2) := by decide +kernel
theorem d1_70 : decode method_3_code 70 = .ok (.iload_n 3, 1) := by decide +kernel
theorem d1_71 : decode method_3_code 71 = .ok (.iconst 5, 1) := by decide +kernel
theorem d1_72 : decode method_3_code 72 = .ok (.invokestatic 20, 3) := by decide +kernel
theorem d1_75 : decode method_3_code 75 = .ok (.ifCond .eq 7, 3) := by decide +kernel
theorem d1_78 : decode method_3_code 78 = .ok (.iconst 1, 1) := by decide +kernel
theorem d1_79 : decode method_3_code 79 = .ok (.goto 4, 3) := by decide +kernel
theorem d1_82 : decode method_3_code 82 = .ok (.iconst 0, 1) := by decide +kernel
theorem d1_83 : decode method_3_code 83 = .ok (.ireturn, 1) := by decide +kernel
theorem pd_0 : parseMethodDescriptor "([IIII)Z" = some ⟨[(.array .int), .int, .int, .int], some .boolean⟩ := by decide +kernel
theorem ef_1 (m : MethodId) (a1 : Addr) (a2 : Addr) (p3 : Int32) (p4 : Int32) : entryFrame m #[(.ref a1), (.ref a2), (.int p3), (.int p4)] 5 = mkF m 0 #[.val (.ref a1), .val (.ref a2), .val (.int p3), .val (.int p4), .unset] [] := by first | (simp [entryFrame, mkF, argsToLocals, Value.category]; done) | rfl
def own_f1 (ca cp : Cell) (p3 p4 : Int32) : Int32 := (if (atv ca p3) = (2 : Int32) then (if (p3 + (1 : Int32)) < p4 then (if (atv cp p4) = ((atv cp (p3 + (1 : Int32))) - (1 : Int32)) then (if (own_f3 cp (p3 + (1 : Int32)) p4 (2 : Int32)) = (0 : Int32) then (0 : Int32) else (if (own_f3 cp (p3 + (1 : Int32)) p4 (3 : Int32)) = (0 : Int32) then (0 : Int32) else (if (own_f3 cp (p3 + (1 : Int32)) p4 (4 : Int32)) = (0 : Int32) then (0 : Int32) else (if (own_f3 cp (p3 + (1 : Int32)) p4 (5 : Int32)) = (0 : Int32) then (0 : Int32) else (1 : Int32))))) else (0 : Int32)) else (0 : Int32)) else (0 : Int32))
set_option maxRecDepth 65536 in
set_option maxHeartbeats 40000000 in
theorem rm1 (l : Launch) (Z : State) (a0 : Array Value) (hw : ∀ d ∈ tables_1, d.before a0 Z = true) (ws : List Jvm.Cond) (a1 : Addr) (a2 : Addr) (p3 : Int32) (p4 : Int32) (ca cp : Cell) (h0 : Heap) (n0 : Nat) (Z0 : n0 ≤ h0.size) (T_a1 : Tab Z h0 a1 ca .int 6) (T_a2 : Tab Z h0 a2 cp .int 7) (hc : ¬ p3 < 0 ∧ p3 < 5) (hv : ¬ p4 < 0 ∧ p4 < 7) :
    MetFree l (⟨"com/example/compact_concepts/compactconcepts/TreeShapesSecondParentPinLaw", "closesAt", "([I[III)Z"⟩ : MethodName) (head1 (Jvm.Cond.code (⟨"com/example/compact_concepts/compactconcepts/TreeShapesSecondParentPinLaw", "closesAt", "([I[III)Z"⟩ : MethodName) method_3_code 5 (some .boolean) :: ws) ({ frames := 1, cells := 0, slots := 0, locals := 15 } : Room)) (fun a U => a = #[(.ref a1), (.ref a2), (.int p3), (.int p4)] ∧ Z.Warmed39 U.vm ∧ U.heap = h0) (fun _ _ _ _ _ => True) (fun _ U o U' => ∃ v L, o = .returned v ∧ own_QI h0 n0 (own_f1 ca cp p3 p4) v U'.heap L ∧ FrameEnd U o U' L ({ frames := 1, cells := 0, slots := 0, locals := 15 } : Room).cells ({ frames := 1, cells := 0, slots := 0, locals := 15 } : Room).slots) := by
  refine MetFree.of_bodySF (plainFor_of_name pn_3) hisR ?_
  intro p e s m args below meth c s₁ Bd hml0 hP hK
  obtain ⟨rfl, hZ, hh⟩ := hP
  have hx := Bd.exec
  have hby := Bd.bytes
  have hml : c.maxLocals = 5 := hml0
  have hown : s.vm.findClass "com/example/compact_concepts/compactconcepts/TreeShapesSecondParentPinLaw" = some m.cls := findClass_of_methodNamed Bd.named
  have hnm := (name_of_methodNamed Bd.named Bd.method).1
  have X0 : Stand p l e ({ frames := 1, cells := 0, slots := 0, locals := 15 } : Room) s m #[(.ref a1), (.ref a2), (.int p3), (.int p4)] below meth c s₁ [] 0 0 := Stand.of_body Bd
  have e0 : s₁.heap = h0 := by rw [← hh, Bd.state]; rfl
  have N0 := Fr.nil n0
  obtain ⟨S0, hS0⟩ : ∃ z, z = s₁.setTop (entryFrame m #[(.ref a1), (.ref a2), (.int p3), (.int p4)] 5) := ⟨_, rfl⟩
  have P0 : own_Pr p.tables e below S0 s₁ (mkF m 0 #[.val (.ref a1), .val (.ref a2), .val (.int p3), .val (.int p4), .unset] []) := fun t k => hS0 ▸ castTop (ef_1 m a1 a2 p3 p4) k
  have P1 : own_Pr p.tables e below S0 s₁ (mkF m 5 #[.val (.ref a1), .val (.ref a2), .val (.int p3), .val (.int p4), .val (.int (p3 + (1 : Int32)))] []) := fun t k => P0 t (by
    refine XS.iloadN X0.here hx rfl (hb hby d1_0) rfl ?_
    show Steps p.tables e below (s₁.setTop (mkF m 1 #[.val (.ref a1), .val (.ref a2), .val (.int p3), .val (.int p4), .unset] [(.int p3)])) _
    refine XS.iconst X0.here hx rfl (hb hby d1_1) ?_
    show Steps p.tables e below (s₁.setTop (mkF m 2 #[.val (.ref a1), .val (.ref a2), .val (.int p3), .val (.int p4), .unset] [(.int (1 : Int32)), (.int p3)])) _
    refine XS.iadd X0.here hx rfl (hb hby d1_2) rfl ?_
    show Steps p.tables e below (s₁.setTop (mkF m 3 #[.val (.ref a1), .val (.ref a2), .val (.int p3), .val (.int p4), .unset] [(.int (p3 + (1 : Int32)))])) _
    refine XS.istore X0.here hx rfl (hb hby d1_3) rfl (l' := #[.val (.ref a1), .val (.ref a2), .val (.int p3), .val (.int p4), .val (.int (p3 + (1 : Int32)))]) rfl ?_
    show Steps p.tables e below (s₁.setTop (mkF m 5 #[.val (.ref a1), .val (.ref a2), .val (.int p3), .val (.int p4), .val (.int (p3 + (1 : Int32)))] [])) _
    exact k)
  obtain ⟨z2, hz2⟩ : ∃ z, z = (p3 + (1 : Int32)) := ⟨_, rfl⟩
  rw [← hz2] at P1
  have hin7_3 : ¬ (p3 < 0 ∨ ca.slots.size ≤ (p3).toNatClampNeg) := inb_of T_a1.2.1 (own_b1 hc)
  have P4 : own_Pr p.tables e below S0 s₁ (mkF m 9 #[.val (.ref a1), .val (.ref a2), .val (.int p3), .val (.int p4), .val (.int z2)] [(.int (2 : Int32)), (.int (atv ca p3))]) := fun t k => P1 t (by
    refine XS.aloadN X0.here hx rfl (hb hby d1_5) rfl rfl ?_
    show Steps p.tables e below (s₁.setTop (mkF m 6 #[.val (.ref a1), .val (.ref a2), .val (.int p3), .val (.int p4), .val (.int z2)] [(.ref a1)])) _
    refine XS.iloadN X0.here hx rfl (hb hby d1_6) rfl ?_
    show Steps p.tables e below (s₁.setTop (mkF m 7 #[.val (.ref a1), .val (.ref a2), .val (.int p3), .val (.int p4), .val (.int z2)] [(.int p3), (.ref a1)])) _
    refine X0.iaload hx (j := p3) (v := .int (atv ca p3)) (by rw [e0]; exact T_a1.1.1) (State.isArrayOf_alike hZ.alike T_a1.1.2.1) T_a1.1.2.2 hin7_3 (T_a1.2.2.2 _ hin7_3) (g := (mkF m 7 #[.val (.ref a1), .val (.ref a2), .val (.int p3), .val (.int p4), .val (.int z2)] [(.int p3), (.ref a1)])) rfl rfl (hb hby d1_7) _ ?_
    show Steps p.tables e below (s₁.setTop (mkF m 8 #[.val (.ref a1), .val (.ref a2), .val (.int p3), .val (.int p4), .val (.int z2)] [(.int (atv ca p3))])) _
    refine XS.iconst X0.here hx rfl (hb hby d1_8) ?_
    show Steps p.tables e below (s₁.setTop (mkF m 9 #[.val (.ref a1), .val (.ref a2), .val (.int p3), .val (.int p4), .val (.int z2)] [(.int (2 : Int32)), (.int (atv ca p3))])) _
    exact k)
  by_cases hc9_5 : (atv ca p3) = (2 : Int32)
  · have P6 : own_Pr p.tables e below S0 s₁ (mkF m 15 #[.val (.ref a1), .val (.ref a2), .val (.int p3), .val (.int p4), .val (.int z2)] [(.int p4), (.int z2)]) := fun t k => P4 t (by
      refine XS.icmpNo X0.here hx rfl (hb hby d1_9) rfl (XT.ii_ne_f hc9_5) ?_
      show Steps p.tables e below (s₁.setTop (mkF m 12 #[.val (.ref a1), .val (.ref a2), .val (.int p3), .val (.int p4), .val (.int z2)] [])) _
      refine XS.iload X0.here hx rfl (hb hby d1_12) rfl ?_
      show Steps p.tables e below (s₁.setTop (mkF m 14 #[.val (.ref a1), .val (.ref a2), .val (.int p3), .val (.int p4), .val (.int z2)] [(.int z2)])) _
      refine XS.iloadN X0.here hx rfl (hb hby d1_14) rfl ?_
      show Steps p.tables e below (s₁.setTop (mkF m 15 #[.val (.ref a1), .val (.ref a2), .val (.int p3), .val (.int p4), .val (.int z2)] [(.int p4), (.int z2)])) _
      exact k)
    by_cases hc15_7 : z2 < p4
    · have hin22_8 : ¬ (p4 < 0 ∨ cp.slots.size ≤ (p4).toNatClampNeg) := inb_of T_a2.2.1 hv
      have hin26_9 : ¬ (z2 < 0 ∨ cp.slots.size ≤ (z2).toNatClampNeg) := inb_of T_a2.2.1 (own_b2 hz2 hc)
      have P10 : own_Pr p.tables e below S0 s₁ (mkF m 29 #[.val (.ref a1), .val (.ref a2), .val (.int p3), .val (.int p4), .val (.int z2)] [(.int ((atv cp z2) - (1 : Int32))), (.int (atv cp p4))]) := fun t k => P6 t (by
        refine XS.icmpYes X0.here hx rfl (pc0 := 15) (pc' := 20) rfl (hb hby d1_15) rfl (XT.ii_lt_t hc15_7) (by decide) (by decide) ?_
        show Steps p.tables e below (s₁.setTop (mkF m 20 #[.val (.ref a1), .val (.ref a2), .val (.int p3), .val (.int p4), .val (.int z2)] [])) _
        refine XS.aloadN X0.here hx rfl (hb hby d1_20) rfl rfl ?_
        show Steps p.tables e below (s₁.setTop (mkF m 21 #[.val (.ref a1), .val (.ref a2), .val (.int p3), .val (.int p4), .val (.int z2)] [(.ref a2)])) _
        refine XS.iloadN X0.here hx rfl (hb hby d1_21) rfl ?_
        show Steps p.tables e below (s₁.setTop (mkF m 22 #[.val (.ref a1), .val (.ref a2), .val (.int p3), .val (.int p4), .val (.int z2)] [(.int p4), (.ref a2)])) _
        refine X0.iaload hx (j := p4) (v := .int (atv cp p4)) (by rw [e0]; exact T_a2.1.1) (State.isArrayOf_alike hZ.alike T_a2.1.2.1) T_a2.1.2.2 hin22_8 (T_a2.2.2.2 _ hin22_8) (g := (mkF m 22 #[.val (.ref a1), .val (.ref a2), .val (.int p3), .val (.int p4), .val (.int z2)] [(.int p4), (.ref a2)])) rfl rfl (hb hby d1_22) _ ?_
        show Steps p.tables e below (s₁.setTop (mkF m 23 #[.val (.ref a1), .val (.ref a2), .val (.int p3), .val (.int p4), .val (.int z2)] [(.int (atv cp p4))])) _
        refine XS.aloadN X0.here hx rfl (hb hby d1_23) rfl rfl ?_
        show Steps p.tables e below (s₁.setTop (mkF m 24 #[.val (.ref a1), .val (.ref a2), .val (.int p3), .val (.int p4), .val (.int z2)] [(.ref a2), (.int (atv cp p4))])) _
        refine XS.iload X0.here hx rfl (hb hby d1_24) rfl ?_
        show Steps p.tables e below (s₁.setTop (mkF m 26 #[.val (.ref a1), .val (.ref a2), .val (.int p3), .val (.int p4), .val (.int z2)] [(.int z2), (.ref a2), (.int (atv cp p4))])) _
        refine X0.iaload hx (j := z2) (v := .int (atv cp z2)) (by rw [e0]; exact T_a2.1.1) (State.isArrayOf_alike hZ.alike T_a2.1.2.1) T_a2.1.2.2 hin26_9 (T_a2.2.2.2 _ hin26_9) (g := (mkF m 26 #[.val (.ref a1), .val (.ref a2), .val (.int p3), .val (.int p4), .val (.int z2)] [(.int z2), (.ref a2), (.int (atv cp p4))])) rfl rfl (hb hby d1_26) _ ?_
        show Steps p.tables e below (s₁.setTop (mkF m 27 #[.val (.ref a1), .val (.ref a2), .val (.int p3), .val (.int p4), .val (.int z2)] [(.int (atv cp z2)), (.int (atv cp p4))])) _
        refine XS.iconst X0.here hx rfl (hb hby d1_27) ?_
        show Steps p.tables e below (s₁.setTop (mkF m 28 #[.val (.ref a1), .val (.ref a2), .val (.int p3), .val (.int p4), .val (.int z2)] [(.int (1 : Int32)), (.int (atv cp z2)), (.int (atv cp p4))])) _
        refine XS.isub X0.here hx rfl (hb hby d1_28) rfl ?_
        show Steps p.tables e below (s₁.setTop (mkF m 29 #[.val (.ref a1), .val (.ref a2), .val (.int p3), .val (.int p4), .val (.int z2)] [(.int ((atv cp z2) - (1 : Int32))), (.int (atv cp p4))])) _
        exact k)
      by_cases hc29_11 : (atv cp p4) = ((atv cp z2) - (1 : Int32))
      · have P12 : own_Pr p.tables e below S0 s₁ (mkF m 39 #[.val (.ref a1), .val (.ref a2), .val (.int p3), .val (.int p4), .val (.int z2)] [(.int (2 : Int32)), (.int p4), (.int z2), (.ref a2)]) := fun t k => P10 t (by
          refine XS.icmpYes X0.here hx rfl (pc0 := 29) (pc' := 34) rfl (hb hby d1_29) rfl (XT.ii_eq_t hc29_11) (by decide) (by decide) ?_
          show Steps p.tables e below (s₁.setTop (mkF m 34 #[.val (.ref a1), .val (.ref a2), .val (.int p3), .val (.int p4), .val (.int z2)] [])) _
          refine XS.aloadN X0.here hx rfl (hb hby d1_34) rfl rfl ?_
          show Steps p.tables e below (s₁.setTop (mkF m 35 #[.val (.ref a1), .val (.ref a2), .val (.int p3), .val (.int p4), .val (.int z2)] [(.ref a2)])) _
          refine XS.iload X0.here hx rfl (hb hby d1_35) rfl ?_
          show Steps p.tables e below (s₁.setTop (mkF m 37 #[.val (.ref a1), .val (.ref a2), .val (.int p3), .val (.int p4), .val (.int z2)] [(.int z2), (.ref a2)])) _
          refine XS.iloadN X0.here hx rfl (hb hby d1_37) rfl ?_
          show Steps p.tables e below (s₁.setTop (mkF m 38 #[.val (.ref a1), .val (.ref a2), .val (.int p3), .val (.int p4), .val (.int z2)] [(.int p4), (.int z2), (.ref a2)])) _
          refine XS.iconst X0.here hx rfl (hb hby d1_38) ?_
          show Steps p.tables e below (s₁.setTop (mkF m 39 #[.val (.ref a1), .val (.ref a2), .val (.int p3), .val (.int p4), .val (.int z2)] [(.int (2 : Int32)), (.int p4), (.int z2), (.ref a2)])) _
          exact k)
        obtain ⟨_, _, ⟨T13, L13, k13, n13⟩, -, X13, ⟨Lc13, hQ13, l13, y13, z13⟩, st13⟩ := Jvm.LawKit.callS X0 hx (y := (⟨"com/example/compact_concepts/compactconcepts/TreeShapesSecondParentPinLaw", "stays", "([IIII)Z"⟩ : MethodName)) hown (mvT hZ (hw _ (List.mem_of_getElem? (i := 10) rfl))) (mvT hZ (hw _ (List.mem_of_getElem? (i := 11) rfl))) (mvT hZ (hw _ (List.mem_of_getElem? (i := 4) rfl))) (mvT hZ (hw _ (List.mem_of_getElem? (i := 12) rfl))) (by decide) (backOf (W := 0) (rm3 l Z a0 hw [] a2 z2 p4 (2 : Int32) cp h0 n0 Z0 T_a2 (own_b2 hz2 hc) ⟨by decide, by decide⟩) hZ (hw _ (List.mem_of_getElem? (i := 12) rfl)) (hw _ (List.mem_of_getElem? (i := 4) rfl)) (by decide) (by decide)) (g := (mkF m 39 #[.val (.ref a1), .val (.ref a2), .val (.int p3), .val (.int p4), .val (.int z2)] [(.int (2 : Int32)), (.int p4), (.int z2), (.ref a2)])) rfl (by rw [hml]; rfl) (argsL := [(.ref a2), (.int z2), (.int p4), (.int (2 : Int32))]) (rest := []) (lenOf pd_0 rfl) rfl (by show 2 * 0 + _ ≤ _; exact Nat.le_of_eq rfl) (hb hby d1_39) (fun _ _ => ⟨rfl, e0, (by decide : 0 + 0 ≤ _), (by decide : 0 + 0 ≤ _)⟩)
        dsimp only [Pt.U, Pt.locs, Pt.cells, Pt.slots] at X13 l13 y13 z13 st13 hQ13
        subst l13 y13 z13
        obtain ⟨z13v, rfl, hz13v, Nq13, eq13⟩ := hQ13
        have N13n := Fr.app N0 Nq13
        have P14 : own_Pr p.tables e below S0 T13 (mkF m 42 #[.val (.ref a1), .val (.ref a2), .val (.int p3), .val (.int p4), .val (.int z2)] [(.int z13v)]) := fun t k => P12 t (st13 _ k)
        by_cases hc42_15 : z13v = (0 : Int32)
        · have P16 : own_Pr p.tables e below S0 T13 (mkF m 83 #[.val (.ref a1), .val (.ref a2), .val (.int p3), .val (.int p4), .val (.int z2)] [(.int (0 : Int32))]) := fun t k => P14 t (by
            refine XS.ifYes X13.here hx rfl (pc0 := 42) (pc' := 82) rfl (hb hby d1_42) rfl (XT.i0_eq_t hc42_15) (by decide) (by decide) ?_
            show Steps p.tables e below (T13.setTop (mkF m 82 #[.val (.ref a1), .val (.ref a2), .val (.int p3), .val (.int p4), .val (.int z2)] [])) _
            refine XS.iconst X13.here hx rfl (hb hby d1_82) ?_
            show Steps p.tables e below (T13.setTop (mkF m 83 #[.val (.ref a1), .val (.ref a2), .val (.int p3), .val (.int p4), .val (.int z2)] [(.int (0 : Int32))])) _
            exact k)
          obtain ⟨fs, hr, hrun, hended, hW, hsame⟩ := X13.leave (v := some (.int (0 : Int32))) (fun h => by rw [Bd.returns] at h; cases h)
          have fin : Steps p.tables e below S0 (T13.setFrames fs) := P16 _ (retN X13 hx (t := .boolean) Bd.returns (by simp) (hb hby d1_83) hr)
          rw [hS0] at fin
          refine ⟨_, _, fin, hrun, hended, _, _, rfl, ?_, ⟨_, rfl⟩, hW, hsame.mono (by decide) (by decide)⟩
          show own_QI h0 n0 (own_f1 ca cp p3 p4) _ T13.heap _
          rw [eq13]
          exact ⟨_, rfl, (by subst hz13v; subst hz2; unfold own_f1; rw [if_pos hc9_5, if_pos hc15_7, if_pos hc29_11, if_pos hc42_15]), N13n, rfl⟩
        · have P17 : own_Pr p.tables e below S0 T13 (mkF m 50 #[.val (.ref a1), .val (.ref a2), .val (.int p3), .val (.int p4), .val (.int z2)] [(.int (3 : Int32)), (.int p4), (.int z2), (.ref a2)]) := fun t k => P14 t (by
            refine XS.ifNo X13.here hx rfl (hb hby d1_42) rfl (XT.i0_eq_f hc42_15) ?_
            show Steps p.tables e below (T13.setTop (mkF m 45 #[.val (.ref a1), .val (.ref a2), .val (.int p3), .val (.int p4), .val (.int z2)] [])) _
            refine XS.aloadN X13.here hx rfl (hb hby d1_45) rfl rfl ?_
            show Steps p.tables e below (T13.setTop (mkF m 46 #[.val (.ref a1), .val (.ref a2), .val (.int p3), .val (.int p4), .val (.int z2)] [(.ref a2)])) _
            refine XS.iload X13.here hx rfl (hb hby d1_46) rfl ?_
            show Steps p.tables e below (T13.setTop (mkF m 48 #[.val (.ref a1), .val (.ref a2), .val (.int p3), .val (.int p4), .val (.int z2)] [(.int z2), (.ref a2)])) _
            refine XS.iloadN X13.here hx rfl (hb hby d1_48) rfl ?_
            show Steps p.tables e below (T13.setTop (mkF m 49 #[.val (.ref a1), .val (.ref a2), .val (.int p3), .val (.int p4), .val (.int z2)] [(.int p4), (.int z2), (.ref a2)])) _
            refine XS.iconst X13.here hx rfl (hb hby d1_49) ?_
            show Steps p.tables e below (T13.setTop (mkF m 50 #[.val (.ref a1), .val (.ref a2), .val (.int p3), .val (.int p4), .val (.int z2)] [(.int (3 : Int32)), (.int p4), (.int z2), (.ref a2)])) _
            exact k)
          obtain ⟨_, _, ⟨T18, L18, k18, n18⟩, -, X18, ⟨Lc18, hQ18, l18, y18, z18⟩, st18⟩ := Jvm.LawKit.callS X13 hx (y := (⟨"com/example/compact_concepts/compactconcepts/TreeShapesSecondParentPinLaw", "stays", "([IIII)Z"⟩ : MethodName)) hown (mvT hZ (hw _ (List.mem_of_getElem? (i := 10) rfl))) (mvT hZ (hw _ (List.mem_of_getElem? (i := 11) rfl))) (mvT hZ (hw _ (List.mem_of_getElem? (i := 4) rfl))) (mvT hZ (hw _ (List.mem_of_getElem? (i := 12) rfl))) (by decide) (backOf (W := 0) (rm3 l Z a0 hw [] a2 z2 p4 (3 : Int32) cp h0 n0 Z0 T_a2 (own_b2 hz2 hc) ⟨by decide, by decide⟩) hZ (hw _ (List.mem_of_getElem? (i := 12) rfl)) (hw _ (List.mem_of_getElem? (i := 4) rfl)) (by decide) (by decide)) (g := (mkF m 50 #[.val (.ref a1), .val (.ref a2), .val (.int p3), .val (.int p4), .val (.int z2)] [(.int (3 : Int32)), (.int p4), (.int z2), (.ref a2)])) rfl (by rw [hml]; rfl) (argsL := [(.ref a2), (.int z2), (.int p4), (.int (3 : Int32))]) (rest := []) (lenOf pd_0 rfl) rfl (by show 2 * 0 + _ ≤ _; exact Nat.le_of_eq rfl) (hb hby d1_50) (fun _ _ => ⟨rfl, eq13, (by decide : 0 + 0 ≤ _), (by decide : 0 + 0 ≤ _)⟩)
          dsimp only [Pt.U, Pt.locs, Pt.cells, Pt.slots] at X18 l18 y18 z18 st18 hQ18
          subst l18 y18 z18
          obtain ⟨z18v, rfl, hz18v, Nq18, eq18⟩ := hQ18
          have N18n := Fr.app N13n Nq18
          have P19 : own_Pr p.tables e below S0 T18 (mkF m 53 #[.val (.ref a1), .val (.ref a2), .val (.int p3), .val (.int p4), .val (.int z2)] [(.int z18v)]) := fun t k => P17 t (st18 _ k)
          by_cases hc53_20 : z18v = (0 : Int32)
          · have P21 : own_Pr p.tables e below S0 T18 (mkF m 83 #[.val (.ref a1), .val (.ref a2), .val (.int p3), .val (.int p4), .val (.int z2)] [(.int (0 : Int32))]) := fun t k => P19 t (by
              refine XS.ifYes X18.here hx rfl (pc0 := 53) (pc' := 82) rfl (hb hby d1_53) rfl (XT.i0_eq_t hc53_20) (by decide) (by decide) ?_
              show Steps p.tables e below (T18.setTop (mkF m 82 #[.val (.ref a1), .val (.ref a2), .val (.int p3), .val (.int p4), .val (.int z2)] [])) _
              refine XS.iconst X18.here hx rfl (hb hby d1_82) ?_
              show Steps p.tables e below (T18.setTop (mkF m 83 #[.val (.ref a1), .val (.ref a2), .val (.int p3), .val (.int p4), .val (.int z2)] [(.int (0 : Int32))])) _
              exact k)
            obtain ⟨fs, hr, hrun, hended, hW, hsame⟩ := X18.leave (v := some (.int (0 : Int32))) (fun h => by rw [Bd.returns] at h; cases h)
            have fin : Steps p.tables e below S0 (T18.setFrames fs) := P21 _ (retN X18 hx (t := .boolean) Bd.returns (by simp) (hb hby d1_83) hr)
            rw [hS0] at fin
            refine ⟨_, _, fin, hrun, hended, _, _, rfl, ?_, ⟨_, rfl⟩, hW, hsame.mono (by decide) (by decide)⟩
            show own_QI h0 n0 (own_f1 ca cp p3 p4) _ T18.heap _
            rw [eq18]
            exact ⟨_, rfl, (by subst hz18v; subst hz13v; subst hz2; unfold own_f1; rw [if_pos hc9_5, if_pos hc15_7, if_pos hc29_11, if_neg hc42_15, if_pos hc53_20]), N18n, rfl⟩
          · have P22 : own_Pr p.tables e below S0 T18 (mkF m 61 #[.val (.ref a1), .val (.ref a2), .val (.int p3), .val (.int p4), .val (.int z2)] [(.int (4 : Int32)), (.int p4), (.int z2), (.ref a2)]) := fun t k => P19 t (by
              refine XS.ifNo X18.here hx rfl (hb hby d1_53) rfl (XT.i0_eq_f hc53_20) ?_
              show Steps p.tables e below (T18.setTop (mkF m 56 #[.val (.ref a1), .val (.ref a2), .val (.int p3), .val (.int p4), .val (.int z2)] [])) _
              refine XS.aloadN X18.here hx rfl (hb hby d1_56) rfl rfl ?_
              show Steps p.tables e below (T18.setTop (mkF m 57 #[.val (.ref a1), .val (.ref a2), .val (.int p3), .val (.int p4), .val (.int z2)] [(.ref a2)])) _
              refine XS.iload X18.here hx rfl (hb hby d1_57) rfl ?_
              show Steps p.tables e below (T18.setTop (mkF m 59 #[.val (.ref a1), .val (.ref a2), .val (.int p3), .val (.int p4), .val (.int z2)] [(.int z2), (.ref a2)])) _
              refine XS.iloadN X18.here hx rfl (hb hby d1_59) rfl ?_
              show Steps p.tables e below (T18.setTop (mkF m 60 #[.val (.ref a1), .val (.ref a2), .val (.int p3), .val (.int p4), .val (.int z2)] [(.int p4), (.int z2), (.ref a2)])) _
              refine XS.iconst X18.here hx rfl (hb hby d1_60) ?_
              show Steps p.tables e below (T18.setTop (mkF m 61 #[.val (.ref a1), .val (.ref a2), .val (.int p3), .val (.int p4), .val (.int z2)] [(.int (4 : Int32)), (.int p4), (.int z2), (.ref a2)])) _
              exact k)
            obtain ⟨_, _, ⟨T23, L23, k23, n23⟩, -, X23, ⟨Lc23, hQ23, l23, y23, z23⟩, st23⟩ := Jvm.LawKit.callS X18 hx (y := (⟨"com/example/compact_concepts/compactconcepts/TreeShapesSecondParentPinLaw", "stays", "([IIII)Z"⟩ : MethodName)) hown (mvT hZ (hw _ (List.mem_of_getElem? (i := 10) rfl))) (mvT hZ (hw _ (List.mem_of_getElem? (i := 11) rfl))) (mvT hZ (hw _ (List.mem_of_getElem? (i := 4) rfl))) (mvT hZ (hw _ (List.mem_of_getElem? (i := 12) rfl))) (by decide) (backOf (W := 0) (rm3 l Z a0 hw [] a2 z2 p4 (4 : Int32) cp h0 n0 Z0 T_a2 (own_b2 hz2 hc) ⟨by decide, by decide⟩) hZ (hw _ (List.mem_of_getElem? (i := 12) rfl)) (hw _ (List.mem_of_getElem? (i := 4) rfl)) (by decide) (by decide)) (g := (mkF m 61 #[.val (.ref a1), .val (.ref a2), .val (.int p3), .val (.int p4), .val (.int z2)] [(.int (4 : Int32)), (.int p4), (.int z2), (.ref a2)])) rfl (by rw [hml]; rfl) (argsL := [(.ref a2), (.int z2), (.int p4), (.int (4 : Int32))]) (rest := []) (lenOf pd_0 rfl) rfl (by show 2 * 0 + _ ≤ _; exact Nat.le_of_eq rfl) (hb hby d1_61) (fun _ _ => ⟨rfl, eq18, (by decide : 0 + 0 ≤ _), (by decide : 0 + 0 ≤ _)⟩)
            dsimp only [Pt.U, Pt.locs, Pt.cells, Pt.slots] at X23 l23 y23 z23 st23 hQ23
            subst l23 y23 z23
            obtain ⟨z23v, rfl, hz23v, Nq23, eq23⟩ := hQ23
            have N23n := Fr.app N18n Nq23
            have P24 : own_Pr p.tables e below S0 T23 (mkF m 64 #[.val (.ref a1), .val (.ref a2), .val (.int p3), .val (.int p4), .val (.int z2)] [(.int z23v)]) := fun t k => P22 t (st23 _ k)
            by_cases hc64_25 : z23v = (0 : Int32)
            · have P26 : own_Pr p.tables e below S0 T23 (mkF m 83 #[.val (.ref a1), .val (.ref a2), .val (.int p3), .val (.int p4), .val (.int z2)] [(.int (0 : Int32))]) := fun t k => P24 t (by
                refine XS.ifYes X23.here hx rfl (pc0 := 64) (pc' := 82) rfl (hb hby d1_64) rfl (XT.i0_eq_t hc64_25) (by decide) (by decide) ?_
                show Steps p.tables e below (T23.setTop (mkF m 82 #[.val (.ref a1), .val (.ref a2), .val (.int p3), .val (.int p4), .val (.int z2)] [])) _
                refine XS.iconst X23.here hx rfl (hb hby d1_82) ?_
                show Steps p.tables e below (T23.setTop (mkF m 83 #[.val (.ref a1), .val (.ref a2), .val (.int p3), .val (.int p4), .val (.int z2)] [(.int (0 : Int32))])) _
                exact k)
              obtain ⟨fs, hr, hrun, hended, hW, hsame⟩ := X23.leave (v := some (.int (0 : Int32))) (fun h => by rw [Bd.returns] at h; cases h)
              have fin : Steps p.tables e below S0 (T23.setFrames fs) := P26 _ (retN X23 hx (t := .boolean) Bd.returns (by simp) (hb hby d1_83) hr)
              rw [hS0] at fin
              refine ⟨_, _, fin, hrun, hended, _, _, rfl, ?_, ⟨_, rfl⟩, hW, hsame.mono (by decide) (by decide)⟩
              show own_QI h0 n0 (own_f1 ca cp p3 p4) _ T23.heap _
              rw [eq23]
              exact ⟨_, rfl, (by subst hz23v; subst hz18v; subst hz13v; subst hz2; unfold own_f1; rw [if_pos hc9_5, if_pos hc15_7, if_pos hc29_11, if_neg hc42_15, if_neg hc53_20, if_pos hc64_25]), N23n, rfl⟩
            · have P27 : own_Pr p.tables e below S0 T23 (mkF m 72 #[.val (.ref a1), .val (.ref a2), .val (.int p3), .val (.int p4), .val (.int z2)] [(.int (5 : Int32)), (.int p4), (.int z2), (.ref a2)]) := fun t k => P24 t (by
                refine XS.ifNo X23.here hx rfl (hb hby d1_64) rfl (XT.i0_eq_f hc64_25) ?_
                show Steps p.tables e below (T23.setTop (mkF m 67 #[.val (.ref a1), .val (.ref a2), .val (.int p3), .val (.int p4), .val (.int z2)] [])) _
                refine XS.aloadN X23.here hx rfl (hb hby d1_67) rfl rfl ?_
                show Steps p.tables e below (T23.setTop (mkF m 68 #[.val (.ref a1), .val (.ref a2), .val (.int p3), .val (.int p4), .val (.int z2)] [(.ref a2)])) _
                refine XS.iload X23.here hx rfl (hb hby d1_68) rfl ?_
                show Steps p.tables e below (T23.setTop (mkF m 70 #[.val (.ref a1), .val (.ref a2), .val (.int p3), .val (.int p4), .val (.int z2)] [(.int z2), (.ref a2)])) _
                refine XS.iloadN X23.here hx rfl (hb hby d1_70) rfl ?_
                show Steps p.tables e below (T23.setTop (mkF m 71 #[.val (.ref a1), .val (.ref a2), .val (.int p3), .val (.int p4), .val (.int z2)] [(.int p4), (.int z2), (.ref a2)])) _
                refine XS.iconst X23.here hx rfl (hb hby d1_71) ?_
                show Steps p.tables e below (T23.setTop (mkF m 72 #[.val (.ref a1), .val (.ref a2), .val (.int p3), .val (.int p4), .val (.int z2)] [(.int (5 : Int32)), (.int p4), (.int z2), (.ref a2)])) _
                exact k)
              obtain ⟨_, _, ⟨T28, L28, k28, n28⟩, -, X28, ⟨Lc28, hQ28, l28, y28, z28⟩, st28⟩ := Jvm.LawKit.callS X23 hx (y := (⟨"com/example/compact_concepts/compactconcepts/TreeShapesSecondParentPinLaw", "stays", "([IIII)Z"⟩ : MethodName)) hown (mvT hZ (hw _ (List.mem_of_getElem? (i := 10) rfl))) (mvT hZ (hw _ (List.mem_of_getElem? (i := 11) rfl))) (mvT hZ (hw _ (List.mem_of_getElem? (i := 4) rfl))) (mvT hZ (hw _ (List.mem_of_getElem? (i := 12) rfl))) (by decide) (backOf (W := 0) (rm3 l Z a0 hw [] a2 z2 p4 (5 : Int32) cp h0 n0 Z0 T_a2 (own_b2 hz2 hc) ⟨by decide, by decide⟩) hZ (hw _ (List.mem_of_getElem? (i := 12) rfl)) (hw _ (List.mem_of_getElem? (i := 4) rfl)) (by decide) (by decide)) (g := (mkF m 72 #[.val (.ref a1), .val (.ref a2), .val (.int p3), .val (.int p4), .val (.int z2)] [(.int (5 : Int32)), (.int p4), (.int z2), (.ref a2)])) rfl (by rw [hml]; rfl) (argsL := [(.ref a2), (.int z2), (.int p4), (.int (5 : Int32))]) (rest := []) (lenOf pd_0 rfl) rfl (by show 2 * 0 + _ ≤ _; exact Nat.le_of_eq rfl) (hb hby d1_72) (fun _ _ => ⟨rfl, eq23, (by decide : 0 + 0 ≤ _), (by decide : 0 + 0 ≤ _)⟩)
              dsimp only [Pt.U, Pt.locs, Pt.cells, Pt.slots] at X28 l28 y28 z28 st28 hQ28
              subst l28 y28 z28
              obtain ⟨z28v, rfl, hz28v, Nq28, eq28⟩ := hQ28
              have N28n := Fr.app N23n Nq28
              have P29 : own_Pr p.tables e below S0 T28 (mkF m 75 #[.val (.ref a1), .val (.ref a2), .val (.int p3), .val (.int p4), .val (.int z2)] [(.int z28v)]) := fun t k => P27 t (st28 _ k)
              by_cases hc75_30 : z28v = (0 : Int32)
              · have P31 : own_Pr p.tables e below S0 T28 (mkF m 83 #[.val (.ref a1), .val (.ref a2), .val (.int p3), .val (.int p4), .val (.int z2)] [(.int (0 : Int32))]) := fun t k => P29 t (by
                  refine XS.ifYes X28.here hx rfl (pc0 := 75) (pc' := 82) rfl (hb hby d1_75) rfl (XT.i0_eq_t hc75_30) (by decide) (by decide) ?_
                  show Steps p.tables e below (T28.setTop (mkF m 82 #[.val (.ref a1), .val (.ref a2), .val (.int p3), .val (.int p4), .val (.int z2)] [])) _
                  refine XS.iconst X28.here hx rfl (hb hby d1_82) ?_
                  show Steps p.tables e below (T28.setTop (mkF m 83 #[.val (.ref a1), .val (.ref a2), .val (.int p3), .val (.int p4), .val (.int z2)] [(.int (0 : Int32))])) _
                  exact k)
                obtain ⟨fs, hr, hrun, hended, hW, hsame⟩ := X28.leave (v := some (.int (0 : Int32))) (fun h => by rw [Bd.returns] at h; cases h)
                have fin : Steps p.tables e below S0 (T28.setFrames fs) := P31 _ (retN X28 hx (t := .boolean) Bd.returns (by simp) (hb hby d1_83) hr)
                rw [hS0] at fin
                refine ⟨_, _, fin, hrun, hended, _, _, rfl, ?_, ⟨_, rfl⟩, hW, hsame.mono (by decide) (by decide)⟩
                show own_QI h0 n0 (own_f1 ca cp p3 p4) _ T28.heap _
                rw [eq28]
                exact ⟨_, rfl, (by subst hz28v; subst hz23v; subst hz18v; subst hz13v; subst hz2; unfold own_f1; rw [if_pos hc9_5, if_pos hc15_7, if_pos hc29_11, if_neg hc42_15, if_neg hc53_20, if_neg hc64_25, if_pos hc75_30]), N28n, rfl⟩
              · have P32 : own_Pr p.tables e below S0 T28 (mkF m 83 #[.val (.ref a1), .val (.ref a2), .val (.int p3), .val (.int p4), .val (.int z2)] [(.int (1 : Int32))]) := fun t k => P29 t (by
                  refine XS.ifNo X28.here hx rfl (hb hby d1_75) rfl (XT.i0_eq_f hc75_30) ?_
                  show Steps p.tables e below (T28.setTop (mkF m 78 #[.val (.ref a1), .val (.ref a2), .val (.int p3), .val (.int p4), .val (.int z2)] [])) _
                  refine XS.iconst X28.here hx rfl (hb hby d1_78) ?_
                  show Steps p.tables e below (T28.setTop (mkF m 79 #[.val (.ref a1), .val (.ref a2), .val (.int p3), .val (.int p4), .val (.int z2)] [(.int (1 : Int32))])) _
                  refine XS.goto X28.here hx rfl (pc0 := 79) (pc' := 83) rfl (hb hby d1_79) (by decide) (by decide) ?_
                  show Steps p.tables e below (T28.setTop (mkF m 83 #[.val (.ref a1), .val (.ref a2), .val (.int p3), .val (.int p4), .val (.int z2)] [(.int (1 : Int32))])) _
                  exact k)
                obtain ⟨fs, hr, hrun, hended, hW, hsame⟩ := X28.leave (v := some (.int (1 : Int32))) (fun h => by rw [Bd.returns] at h; cases h)
                have fin : Steps p.tables e below S0 (T28.setFrames fs) := P32 _ (retN X28 hx (t := .boolean) Bd.returns (by simp) (hb hby d1_83) hr)
                rw [hS0] at fin
                refine ⟨_, _, fin, hrun, hended, _, _, rfl, ?_, ⟨_, rfl⟩, hW, hsame.mono (by decide) (by decide)⟩
                show own_QI h0 n0 (own_f1 ca cp p3 p4) _ T28.heap _
                rw [eq28]
                exact ⟨_, rfl, (by subst hz28v; subst hz23v; subst hz18v; subst hz13v; subst hz2; unfold own_f1; rw [if_pos hc9_5, if_pos hc15_7, if_pos hc29_11, if_neg hc42_15, if_neg hc53_20, if_neg hc64_25, if_neg hc75_30]), N28n, rfl⟩
      · have P33 : own_Pr p.tables e below S0 s₁ (mkF m 33 #[.val (.ref a1), .val (.ref a2), .val (.int p3), .val (.int p4), .val (.int z2)] [(.int (0 : Int32))]) := fun t k => P10 t (by
          refine XS.icmpNo X0.here hx rfl (hb hby d1_29) rfl (XT.ii_eq_f hc29_11) ?_
          show Steps p.tables e below (s₁.setTop (mkF m 32 #[.val (.ref a1), .val (.ref a2), .val (.int p3), .val (.int p4), .val (.int z2)] [])) _
          refine XS.iconst X0.here hx rfl (hb hby d1_32) ?_
          show Steps p.tables e below (s₁.setTop (mkF m 33 #[.val (.ref a1), .val (.ref a2), .val (.int p3), .val (.int p4), .val (.int z2)] [(.int (0 : Int32))])) _
          exact k)
        obtain ⟨fs, hr, hrun, hended, hW, hsame⟩ := X0.leave (v := some (.int (0 : Int32))) (fun h => by rw [Bd.returns] at h; cases h)
        have fin : Steps p.tables e below S0 (s₁.setFrames fs) := P33 _ (retN X0 hx (t := .boolean) Bd.returns (by simp) (hb hby d1_33) hr)
        rw [hS0] at fin
        refine ⟨_, _, fin, hrun, hended, _, _, rfl, ?_, ⟨_, rfl⟩, hW, hsame.mono (by decide) (by decide)⟩
        show own_QI h0 n0 (own_f1 ca cp p3 p4) _ s₁.heap _
        rw [e0]
        exact ⟨_, rfl, (by subst hz2; unfold own_f1; rw [if_pos hc9_5, if_pos hc15_7, if_neg hc29_11]), N0, rfl⟩
    · have P34 : own_Pr p.tables e below S0 s₁ (mkF m 19 #[.val (.ref a1), .val (.ref a2), .val (.int p3), .val (.int p4), .val (.int z2)] [(.int (0 : Int32))]) := fun t k => P6 t (by
        refine XS.icmpNo X0.here hx rfl (hb hby d1_15) rfl (XT.ii_lt_f hc15_7) ?_
        show Steps p.tables e below (s₁.setTop (mkF m 18 #[.val (.ref a1), .val (.ref a2), .val (.int p3), .val (.int p4), .val (.int z2)] [])) _
        refine XS.iconst X0.here hx rfl (hb hby d1_18) ?_
        show Steps p.tables e below (s₁.setTop (mkF m 19 #[.val (.ref a1), .val (.ref a2), .val (.int p3), .val (.int p4), .val (.int z2)] [(.int (0 : Int32))])) _
        exact k)
      obtain ⟨fs, hr, hrun, hended, hW, hsame⟩ := X0.leave (v := some (.int (0 : Int32))) (fun h => by rw [Bd.returns] at h; cases h)
      have fin : Steps p.tables e below S0 (s₁.setFrames fs) := P34 _ (retN X0 hx (t := .boolean) Bd.returns (by simp) (hb hby d1_19) hr)
      rw [hS0] at fin
      refine ⟨_, _, fin, hrun, hended, _, _, rfl, ?_, ⟨_, rfl⟩, hW, hsame.mono (by decide) (by decide)⟩
      show own_QI h0 n0 (own_f1 ca cp p3 p4) _ s₁.heap _
      rw [e0]
      exact ⟨_, rfl, (by subst hz2; unfold own_f1; rw [if_pos hc9_5, if_neg hc15_7]), N0, rfl⟩
  · have P35 : own_Pr p.tables e below S0 s₁ (mkF m 19 #[.val (.ref a1), .val (.ref a2), .val (.int p3), .val (.int p4), .val (.int z2)] [(.int (0 : Int32))]) := fun t k => P4 t (by
      refine XS.icmpYes X0.here hx rfl (pc0 := 9) (pc' := 18) rfl (hb hby d1_9) rfl (XT.ii_ne_t hc9_5) (by decide) (by decide) ?_
      show Steps p.tables e below (s₁.setTop (mkF m 18 #[.val (.ref a1), .val (.ref a2), .val (.int p3), .val (.int p4), .val (.int z2)] [])) _
      refine XS.iconst X0.here hx rfl (hb hby d1_18) ?_
      show Steps p.tables e below (s₁.setTop (mkF m 19 #[.val (.ref a1), .val (.ref a2), .val (.int p3), .val (.int p4), .val (.int z2)] [(.int (0 : Int32))])) _
      exact k)
    obtain ⟨fs, hr, hrun, hended, hW, hsame⟩ := X0.leave (v := some (.int (0 : Int32))) (fun h => by rw [Bd.returns] at h; cases h)
    have fin : Steps p.tables e below S0 (s₁.setFrames fs) := P35 _ (retN X0 hx (t := .boolean) Bd.returns (by simp) (hb hby d1_19) hr)
    rw [hS0] at fin
    refine ⟨_, _, fin, hrun, hended, _, _, rfl, ?_, ⟨_, rfl⟩, hW, hsame.mono (by decide) (by decide)⟩
    show own_QI h0 n0 (own_f1 ca cp p3 p4) _ s₁.heap _
    rw [e0]
    exact ⟨_, rfl, (by subst hz2; unfold own_f1; rw [if_neg hc9_5]), N0, rfl⟩
theorem d4_4 : decode prog_14_method_5_code 4 = .ok (.iload_n 2, 1) := by decide +kernel
theorem d4_5 : decode prog_14_method_5_code 5 = .ok (.ifCond .le 23, 3) := by decide +kernel
theorem d4_8 : decode prog_14_method_5_code 8 = .ok (.iload_n 3, 1) := by decide +kernel
theorem d4_9 : decode prog_14_method_5_code 9 = .ok (.aload_n 0, 1) := by decide +kernel
theorem d4_10 : decode prog_14_method_5_code 10 = .ok (.arraylength, 1) := by decide +kernel
theorem d4_11 : decode prog_14_method_5_code 11 = .ok (.if_icmp .ge 17, 3) := by decide +kernel
theorem d4_14 : decode prog_14_method_5_code 14 = .ok (.iload_n 2, 1) := by decide +kernel
theorem d4_15 : decode prog_14_method_5_code 15 = .ok (.aload_n 0, 1) := by decide +kernel
theorem d4_16 : decode prog_14_method_5_code 16 = .ok (.iload_n 3, 1) := by decide +kernel
theorem d4_17 : decode prog_14_method_5_code 17 = .ok (.iaload, 1) := by decide +kernel
theorem d4_18 : decode prog_14_method_5_code 18 = .ok (.iconst 1, 1) := by decide +kernel
theorem d4_19 : decode prog_14_method_5_code 19 = .ok (.isub, 1) := by decide +kernel
theorem d4_20 : decode prog_14_method_5_code 20 = .ok (.iadd, 1) := by decide +kernel
theorem d4_21 : decode prog_14_method_5_code 21 = .ok (.istore_n 2, 1) := by decide +kernel
theorem d4_22 : decode prog_14_method_5_code 22 = .ok (.iinc 3 1, 3) := by decide +kernel
theorem d4_25 : decode prog_14_method_5_code 25 = .ok (.goto (-21), 3) := by decide +kernel
theorem d4_28 : decode prog_14_method_5_code 28 = .ok (.iload_n 2, 1) := by decide +kernel
theorem d4_29 : decode prog_14_method_5_code 29 = .ok (.ifCond .ne 7, 3) := by decide +kernel
theorem d4_32 : decode prog_14_method_5_code 32 = .ok (.iload_n 3, 1) := by decide +kernel
theorem d4_33 : decode prog_14_method_5_code 33 = .ok (.goto 4, 3) := by decide +kernel
theorem d4_36 : decode prog_14_method_5_code 36 = .ok (.iconst (-1), 1) := by decide +kernel
theorem d4_37 : decode prog_14_method_5_code 37 = .ok (.ireturn, 1) := by decide +kernel
def own_L4_4 : Nat → Cell → Int32 → Int32 → Int32 → Option Int32
  | 0, _, _, _, _ => none
  | k + 1, cl, n, o, x => (if (0 : Int32) < o then (if x < n then (if ¬ (x < 0) ∧ x < n then own_L4_4 k cl n (o + ((atv cl x) - (1 : Int32))) (x + (1 : Int32)) else none) else (if o = (0 : Int32) then some x else some (-1 : Int32))) else (if o = (0 : Int32) then some x else some (-1 : Int32)))
theorem own_L4_4_s (k : Nat) (cl : Cell) (n : Int32) (o : Int32) (x : Int32) : own_L4_4 (k + 1) cl n o x = (if (0 : Int32) < o then (if x < n then (if ¬ (x < 0) ∧ x < n then own_L4_4 k cl n (o + ((atv cl x) - (1 : Int32))) (x + (1 : Int32)) else none) else (if o = (0 : Int32) then some x else some (-1 : Int32))) else (if o = (0 : Int32) then some x else some (-1 : Int32))) := rfl
set_option maxRecDepth 65536 in
set_option maxHeartbeats 40000000 in
theorem lp4_4 {p : Program} {l : Launch} {e : Env} {R : Room} {s : State} {m : MethodId} {args : Array Value} {below : List Frame} {meth : Method} {c : Code} {cells slots : Nat} {Z : State} {a0 : Array Value} {h0 : Heap} {S0 : State} {n0 : Nat}
    (hx : p.tables.exec = Jvm.exec) (hZ : Z.Warmed39 s.vm) (hw : ∀ d ∈ tables_1, d.before a0 Z = true) (hby : c.code = prog_14_method_5_code) (hml : c.maxLocals = 4) (hown : s.vm.findClass "com/example/compact_concepts/compactconcepts/TreeShapes" = some m.cls) (a1 : Addr) (p2 : Int32) (cl : Cell) (n : Int32) (T_a1 : Tab Z h0 a1 cl .int n) :
    ∀ (k : Nat) (o : Int32) (x : Int32) (T0 : State) (locs0 : List Loc) (X0 : Stand p l e R s m args below meth c T0 locs0 cells slots) (N0 : Fr n0 locs0) (e0 : T0.heap = h0) (P0 : own_Pr p.tables e below S0 T0 (mkF m 4 #[.val (.ref a1), .val (.int p2), .val (.int o), .val (.int x)] [])) {r : Int32} (hr : own_L4_4 k cl n o x = some r),
    ∃ (T' : State) (locs' : List Loc) (pc' : Nat) (Ls' : Array Slot), Stand p l e R s m args below meth c T' locs' cells slots ∧ Fr n0 locs' ∧ T'.heap = h0 ∧ own_Pr p.tables e below S0 T' (mkF m pc' Ls' [.int r]) ∧ decode c.code pc' = .ok (.ireturn, 1) := by
  intro k
  induction k with
  | zero => intro o x T0 locs0 X0 N0 e0 P0 r hr; exact nomatch hr
  | succ k ih =>
    intro o x T0 locs0 X0 N0 e0 P0 r hr
    rw [own_L4_4_s] at hr
    have P1 : own_Pr p.tables e below S0 T0 (mkF m 5 #[.val (.ref a1), .val (.int p2), .val (.int o), .val (.int x)] [(.int o)]) := fun t k => P0 t (by
      refine XS.iloadN X0.here hx rfl (hb hby d4_4) rfl ?_
      show Steps p.tables e below (T0.setTop (mkF m 5 #[.val (.ref a1), .val (.int p2), .val (.int o), .val (.int x)] [(.int o)])) _
      exact k)
    by_cases hc5_2 : (0 : Int32) < o
    · rw [if_pos hc5_2] at hr
      have P3 : own_Pr p.tables e below S0 T0 (mkF m 11 #[.val (.ref a1), .val (.int p2), .val (.int o), .val (.int x)] [(.int n), (.int x)]) := fun t k => P1 t (by
        refine XS.ifNo X0.here hx rfl (hb hby d4_5) rfl (XT.i0_le_f hc5_2) ?_
        show Steps p.tables e below (T0.setTop (mkF m 8 #[.val (.ref a1), .val (.int p2), .val (.int o), .val (.int x)] [])) _
        refine XS.iloadN X0.here hx rfl (hb hby d4_8) rfl ?_
        show Steps p.tables e below (T0.setTop (mkF m 9 #[.val (.ref a1), .val (.int p2), .val (.int o), .val (.int x)] [(.int x)])) _
        refine XS.aloadN X0.here hx rfl (hb hby d4_9) rfl rfl ?_
        show Steps p.tables e below (T0.setTop (mkF m 10 #[.val (.ref a1), .val (.int p2), .val (.int o), .val (.int x)] [(.ref a1), (.int x)])) _
        refine X0.arraylength hx (by rw [e0]; exact T_a1.1.1) (State.isArrayOf_alike hZ.alike T_a1.1.2.1) (g := (mkF m 10 #[.val (.ref a1), .val (.int p2), .val (.int o), .val (.int x)] [(.ref a1), (.int x)])) rfl rfl (hb hby d4_10) _ ?_
        rw [len_of T_a1.2.1 T_a1.2.2.1]
        show Steps p.tables e below (T0.setTop (mkF m 11 #[.val (.ref a1), .val (.int p2), .val (.int o), .val (.int x)] [(.int n), (.int x)])) _
        exact k)
      by_cases hc11_4 : x < n
      · rw [if_pos hc11_4] at hr
        have P5 : own_Pr p.tables e below S0 T0 (mkF m 17 #[.val (.ref a1), .val (.int p2), .val (.int o), .val (.int x)] [(.int x), (.ref a1), (.int o)]) := fun t k => P3 t (by
          refine XS.icmpNo X0.here hx rfl (hb hby d4_11) rfl (XT.ii_ge_f hc11_4) ?_
          show Steps p.tables e below (T0.setTop (mkF m 14 #[.val (.ref a1), .val (.int p2), .val (.int o), .val (.int x)] [])) _
          refine XS.iloadN X0.here hx rfl (hb hby d4_14) rfl ?_
          show Steps p.tables e below (T0.setTop (mkF m 15 #[.val (.ref a1), .val (.int p2), .val (.int o), .val (.int x)] [(.int o)])) _
          refine XS.aloadN X0.here hx rfl (hb hby d4_15) rfl rfl ?_
          show Steps p.tables e below (T0.setTop (mkF m 16 #[.val (.ref a1), .val (.int p2), .val (.int o), .val (.int x)] [(.ref a1), (.int o)])) _
          refine XS.iloadN X0.here hx rfl (hb hby d4_16) rfl ?_
          show Steps p.tables e below (T0.setTop (mkF m 17 #[.val (.ref a1), .val (.int p2), .val (.int o), .val (.int x)] [(.int x), (.ref a1), (.int o)])) _
          exact k)
        by_cases hg17_6 : ¬ (x < 0) ∧ x < n
        · rw [if_pos hg17_6] at hr
          have hin17_7 : ¬ (x < 0 ∨ cl.slots.size ≤ (x).toNatClampNeg) := inb_of T_a1.2.1 hg17_6
          have P8 : own_Pr p.tables e below S0 T0 (mkF m 4 #[.val (.ref a1), .val (.int p2), .val (.int (o + ((atv cl x) - (1 : Int32)))), .val (.int (x + (1 : Int32)))] []) := fun t k => P5 t (by
            refine X0.iaload hx (j := x) (v := .int (atv cl x)) (by rw [e0]; exact T_a1.1.1) (State.isArrayOf_alike hZ.alike T_a1.1.2.1) T_a1.1.2.2 hin17_7 (T_a1.2.2.2 _ hin17_7) (g := (mkF m 17 #[.val (.ref a1), .val (.int p2), .val (.int o), .val (.int x)] [(.int x), (.ref a1), (.int o)])) rfl rfl (hb hby d4_17) _ ?_
            show Steps p.tables e below (T0.setTop (mkF m 18 #[.val (.ref a1), .val (.int p2), .val (.int o), .val (.int x)] [(.int (atv cl x)), (.int o)])) _
            refine XS.iconst X0.here hx rfl (hb hby d4_18) ?_
            show Steps p.tables e below (T0.setTop (mkF m 19 #[.val (.ref a1), .val (.int p2), .val (.int o), .val (.int x)] [(.int (1 : Int32)), (.int (atv cl x)), (.int o)])) _
            refine XS.isub X0.here hx rfl (hb hby d4_19) rfl ?_
            show Steps p.tables e below (T0.setTop (mkF m 20 #[.val (.ref a1), .val (.int p2), .val (.int o), .val (.int x)] [(.int ((atv cl x) - (1 : Int32))), (.int o)])) _
            refine XS.iadd X0.here hx rfl (hb hby d4_20) rfl ?_
            show Steps p.tables e below (T0.setTop (mkF m 21 #[.val (.ref a1), .val (.int p2), .val (.int o), .val (.int x)] [(.int (o + ((atv cl x) - (1 : Int32))))])) _
            refine XS.istoreN X0.here hx rfl (hb hby d4_21) rfl (l' := #[.val (.ref a1), .val (.int p2), .val (.int (o + ((atv cl x) - (1 : Int32)))), .val (.int x)]) rfl ?_
            show Steps p.tables e below (T0.setTop (mkF m 22 #[.val (.ref a1), .val (.int p2), .val (.int (o + ((atv cl x) - (1 : Int32)))), .val (.int x)] [])) _
            refine XS.iinc X0.here hx rfl (hb hby d4_22) rfl (l' := #[.val (.ref a1), .val (.int p2), .val (.int (o + ((atv cl x) - (1 : Int32)))), .val (.int (x + (1 : Int32)))]) rfl ?_
            show Steps p.tables e below (T0.setTop (mkF m 25 #[.val (.ref a1), .val (.int p2), .val (.int (o + ((atv cl x) - (1 : Int32)))), .val (.int (x + (1 : Int32)))] [])) _
            refine XS.goto X0.here hx rfl (pc0 := 25) (pc' := 4) rfl (hb hby d4_25) (by decide) (by decide) ?_
            show Steps p.tables e below (T0.setTop (mkF m 4 #[.val (.ref a1), .val (.int p2), .val (.int (o + ((atv cl x) - (1 : Int32)))), .val (.int (x + (1 : Int32)))] [])) _
            exact k)
          exact ih (o + ((atv cl x) - (1 : Int32))) (x + (1 : Int32)) T0 _ X0 N0 e0 P8 hr
        · rw [if_neg hg17_6] at hr; exact nomatch hr
      · rw [if_neg hc11_4] at hr
        have P9 : own_Pr p.tables e below S0 T0 (mkF m 29 #[.val (.ref a1), .val (.int p2), .val (.int o), .val (.int x)] [(.int o)]) := fun t k => P3 t (by
          refine XS.icmpYes X0.here hx rfl (pc0 := 11) (pc' := 28) rfl (hb hby d4_11) rfl (XT.ii_ge_t hc11_4) (by decide) (by decide) ?_
          show Steps p.tables e below (T0.setTop (mkF m 28 #[.val (.ref a1), .val (.int p2), .val (.int o), .val (.int x)] [])) _
          refine XS.iloadN X0.here hx rfl (hb hby d4_28) rfl ?_
          show Steps p.tables e below (T0.setTop (mkF m 29 #[.val (.ref a1), .val (.int p2), .val (.int o), .val (.int x)] [(.int o)])) _
          exact k)
        by_cases hc29_10 : o = (0 : Int32)
        · rw [if_pos hc29_10] at hr
          have P11 : own_Pr p.tables e below S0 T0 (mkF m 37 #[.val (.ref a1), .val (.int p2), .val (.int o), .val (.int x)] [(.int x)]) := fun t k => P9 t (by
            refine XS.ifNo X0.here hx rfl (hb hby d4_29) rfl (XT.i0_ne_f hc29_10) ?_
            show Steps p.tables e below (T0.setTop (mkF m 32 #[.val (.ref a1), .val (.int p2), .val (.int o), .val (.int x)] [])) _
            refine XS.iloadN X0.here hx rfl (hb hby d4_32) rfl ?_
            show Steps p.tables e below (T0.setTop (mkF m 33 #[.val (.ref a1), .val (.int p2), .val (.int o), .val (.int x)] [(.int x)])) _
            refine XS.goto X0.here hx rfl (pc0 := 33) (pc' := 37) rfl (hb hby d4_33) (by decide) (by decide) ?_
            show Steps p.tables e below (T0.setTop (mkF m 37 #[.val (.ref a1), .val (.int p2), .val (.int o), .val (.int x)] [(.int x)])) _
            exact k)
          obtain rfl := Option.some.inj hr
          exact ⟨T0, _, 37, _, X0, N0, e0, P11, (hb hby d4_37)⟩
        · rw [if_neg hc29_10] at hr
          have P12 : own_Pr p.tables e below S0 T0 (mkF m 37 #[.val (.ref a1), .val (.int p2), .val (.int o), .val (.int x)] [(.int (-1 : Int32))]) := fun t k => P9 t (by
            refine XS.ifYes X0.here hx rfl (pc0 := 29) (pc' := 36) rfl (hb hby d4_29) rfl (XT.i0_ne_t hc29_10) (by decide) (by decide) ?_
            show Steps p.tables e below (T0.setTop (mkF m 36 #[.val (.ref a1), .val (.int p2), .val (.int o), .val (.int x)] [])) _
            refine XS.iconst X0.here hx rfl (hb hby d4_36) ?_
            show Steps p.tables e below (T0.setTop (mkF m 37 #[.val (.ref a1), .val (.int p2), .val (.int o), .val (.int x)] [(.int (-1 : Int32))])) _
            exact k)
          obtain rfl := Option.some.inj hr
          exact ⟨T0, _, 37, _, X0, N0, e0, P12, (hb hby d4_37)⟩
    · rw [if_neg hc5_2] at hr
      have P13 : own_Pr p.tables e below S0 T0 (mkF m 29 #[.val (.ref a1), .val (.int p2), .val (.int o), .val (.int x)] [(.int o)]) := fun t k => P1 t (by
        refine XS.ifYes X0.here hx rfl (pc0 := 5) (pc' := 28) rfl (hb hby d4_5) rfl (XT.i0_le_t hc5_2) (by decide) (by decide) ?_
        show Steps p.tables e below (T0.setTop (mkF m 28 #[.val (.ref a1), .val (.int p2), .val (.int o), .val (.int x)] [])) _
        refine XS.iloadN X0.here hx rfl (hb hby d4_28) rfl ?_
        show Steps p.tables e below (T0.setTop (mkF m 29 #[.val (.ref a1), .val (.int p2), .val (.int o), .val (.int x)] [(.int o)])) _
        exact k)
      by_cases hc29_14 : o = (0 : Int32)
      · rw [if_pos hc29_14] at hr
        have P15 : own_Pr p.tables e below S0 T0 (mkF m 37 #[.val (.ref a1), .val (.int p2), .val (.int o), .val (.int x)] [(.int x)]) := fun t k => P13 t (by
          refine XS.ifNo X0.here hx rfl (hb hby d4_29) rfl (XT.i0_ne_f hc29_14) ?_
          show Steps p.tables e below (T0.setTop (mkF m 32 #[.val (.ref a1), .val (.int p2), .val (.int o), .val (.int x)] [])) _
          refine XS.iloadN X0.here hx rfl (hb hby d4_32) rfl ?_
          show Steps p.tables e below (T0.setTop (mkF m 33 #[.val (.ref a1), .val (.int p2), .val (.int o), .val (.int x)] [(.int x)])) _
          refine XS.goto X0.here hx rfl (pc0 := 33) (pc' := 37) rfl (hb hby d4_33) (by decide) (by decide) ?_
          show Steps p.tables e below (T0.setTop (mkF m 37 #[.val (.ref a1), .val (.int p2), .val (.int o), .val (.int x)] [(.int x)])) _
          exact k)
        obtain rfl := Option.some.inj hr
        exact ⟨T0, _, 37, _, X0, N0, e0, P15, (hb hby d4_37)⟩
      · rw [if_neg hc29_14] at hr
        have P16 : own_Pr p.tables e below S0 T0 (mkF m 37 #[.val (.ref a1), .val (.int p2), .val (.int o), .val (.int x)] [(.int (-1 : Int32))]) := fun t k => P13 t (by
          refine XS.ifYes X0.here hx rfl (pc0 := 29) (pc' := 36) rfl (hb hby d4_29) rfl (XT.i0_ne_t hc29_14) (by decide) (by decide) ?_
          show Steps p.tables e below (T0.setTop (mkF m 36 #[.val (.ref a1), .val (.int p2), .val (.int o), .val (.int x)] [])) _
          refine XS.iconst X0.here hx rfl (hb hby d4_36) ?_
          show Steps p.tables e below (T0.setTop (mkF m 37 #[.val (.ref a1), .val (.int p2), .val (.int o), .val (.int x)] [(.int (-1 : Int32))])) _
          exact k)
        obtain rfl := Option.some.inj hr
        exact ⟨T0, _, 37, _, X0, N0, e0, P16, (hb hby d4_37)⟩
theorem d4_0 : decode prog_14_method_5_code 0 = .ok (.iconst 1, 1) := by decide +kernel
theorem d4_1 : decode prog_14_method_5_code 1 = .ok (.istore_n 2, 1) := by decide +kernel
theorem d4_2 : decode prog_14_method_5_code 2 = .ok (.iload_n 1, 1) := by decide +kernel
theorem d4_3 : decode prog_14_method_5_code 3 = .ok (.istore_n 3, 1) := by decide +kernel
theorem pn_4 : plainName "com/example/compact_concepts/compactconcepts/TreeShapes" = true := by first | (simp [plainName, overriddenIn]; done) | decide +kernel
theorem ef_4 (m : MethodId) (a1 : Addr) (p2 : Int32) : entryFrame m #[(.ref a1), (.int p2)] 4 = mkF m 0 #[.val (.ref a1), .val (.int p2), .unset, .unset] [] := by first | (simp [entryFrame, mkF, argsToLocals, Value.category]; done) | rfl
set_option maxRecDepth 65536 in
set_option maxHeartbeats 40000000 in
theorem rm4 (l : Launch) (Z : State) (a0 : Array Value) (hw : ∀ d ∈ tables_1, d.before a0 Z = true) (ws : List Jvm.Cond) (a1 : Addr) (p2 : Int32) (cl : Cell) (n r : Int32) (h0 : Heap) (n0 : Nat) (Z0 : n0 ≤ h0.size) (T_a1 : Tab Z h0 a1 cl .int n) (hr : own_L4_4 10 cl n 1 p2 = some r) :
    MetFree l (⟨"com/example/compact_concepts/compactconcepts/TreeShapes", "end", "([II)I"⟩ : MethodName) (head1 (Jvm.Cond.code (⟨"com/example/compact_concepts/compactconcepts/TreeShapes", "end", "([II)I"⟩ : MethodName) prog_14_method_5_code 4 (some .int) :: ws) ({ frames := 0, cells := 0, slots := 0, locals := 0 } : Room)) (fun a U => a = #[(.ref a1), (.int p2)] ∧ Z.Warmed39 U.vm ∧ U.heap = h0) (fun _ _ _ _ _ => True) (fun _ U o U' => ∃ v L, o = .returned v ∧ own_QI h0 n0 r v U'.heap L ∧ FrameEnd U o U' L ({ frames := 0, cells := 0, slots := 0, locals := 0 } : Room).cells ({ frames := 0, cells := 0, slots := 0, locals := 0 } : Room).slots) := by
  refine MetFree.of_bodySF (plainFor_of_name pn_4) hisR ?_
  intro p e s m args below meth c s₁ Bd hml0 hP hK
  obtain ⟨rfl, hZ, hh⟩ := hP
  have hx := Bd.exec
  have hby := Bd.bytes
  have hml : c.maxLocals = 4 := hml0
  have hown : s.vm.findClass "com/example/compact_concepts/compactconcepts/TreeShapes" = some m.cls := findClass_of_methodNamed Bd.named
  have hnm := (name_of_methodNamed Bd.named Bd.method).1
  have X0 : Stand p l e ({ frames := 0, cells := 0, slots := 0, locals := 0 } : Room) s m #[(.ref a1), (.int p2)] below meth c s₁ [] 0 0 := Stand.of_body Bd
  have e0 : s₁.heap = h0 := by rw [← hh, Bd.state]; rfl
  have N0 := Fr.nil n0
  obtain ⟨S0, hS0⟩ : ∃ z, z = s₁.setTop (entryFrame m #[(.ref a1), (.int p2)] 4) := ⟨_, rfl⟩
  have P0 : own_Pr p.tables e below S0 s₁ (mkF m 0 #[.val (.ref a1), .val (.int p2), .unset, .unset] []) := fun t k => hS0 ▸ castTop (ef_4 m a1 p2) k
  have P1 : own_Pr p.tables e below S0 s₁ (mkF m 4 #[.val (.ref a1), .val (.int p2), .val (.int (1 : Int32)), .val (.int p2)] []) := fun t k => P0 t (by
    refine XS.iconst X0.here hx rfl (hb hby d4_0) ?_
    show Steps p.tables e below (s₁.setTop (mkF m 1 #[.val (.ref a1), .val (.int p2), .unset, .unset] [(.int (1 : Int32))])) _
    refine XS.istoreN X0.here hx rfl (hb hby d4_1) rfl (l' := #[.val (.ref a1), .val (.int p2), .val (.int (1 : Int32)), .unset]) rfl ?_
    show Steps p.tables e below (s₁.setTop (mkF m 2 #[.val (.ref a1), .val (.int p2), .val (.int (1 : Int32)), .unset] [])) _
    refine XS.iloadN X0.here hx rfl (hb hby d4_2) rfl ?_
    show Steps p.tables e below (s₁.setTop (mkF m 3 #[.val (.ref a1), .val (.int p2), .val (.int (1 : Int32)), .unset] [(.int p2)])) _
    refine XS.istoreN X0.here hx rfl (hb hby d4_3) rfl (l' := #[.val (.ref a1), .val (.int p2), .val (.int (1 : Int32)), .val (.int p2)]) rfl ?_
    show Steps p.tables e below (s₁.setTop (mkF m 4 #[.val (.ref a1), .val (.int p2), .val (.int (1 : Int32)), .val (.int p2)] [])) _
    exact k)
  obtain ⟨T2, locs2, pc2, Ls2, X2, N2, e2, P2, hd2⟩ := lp4_4 hx hZ hw hby hml hown a1 p2 cl n T_a1 10 (1 : Int32) p2 s₁ _ X0 N0 e0 P1 hr
  obtain ⟨fs, hl, hrun, hended, hW, hsame⟩ := X2.leave (v := some (.int r)) (fun h => by rw [Bd.returns] at h; cases h)
  have fin : Steps p.tables e below S0 (T2.setFrames fs) := P2 _ (retI X2 hx Bd.returns hd2 hl)
  rw [hS0] at fin
  refine ⟨_, _, fin, hrun, hended, _, _, rfl, ?_, ⟨_, rfl⟩, hW, hsame.mono (by decide) (by decide)⟩
  show own_QI h0 n0 r _ T2.heap _
  rw [e2]
  exact ⟨_, rfl, rfl, N2, rfl⟩
theorem d2_18 : decode prog_14_method_6_code 18 = .ok (.iload_n 3, 1) := by decide +kernel
theorem d2_19 : decode prog_14_method_6_code 19 = .ok (.ifCond .lt 33, 3) := by decide +kernel
theorem d2_22 : decode prog_14_method_6_code 22 = .ok (.iload_n 2, 1) := by decide +kernel
theorem d2_23 : decode prog_14_method_6_code 23 = .ok (.ifCond .ge 29, 3) := by decide +kernel
theorem d2_26 : decode prog_14_method_6_code 26 = .ok (.aload_n 0, 1) := by decide +kernel
theorem d2_27 : decode prog_14_method_6_code 27 = .ok (.iload_n 3, 1) := by decide +kernel
theorem d2_28 : decode prog_14_method_6_code 28 = .ok (.iaload, 1) := by decide +kernel
theorem d2_29 : decode prog_14_method_6_code 29 = .ok (.iconst 2, 1) := by decide +kernel
theorem d2_30 : decode prog_14_method_6_code 30 = .ok (.if_icmp .ne 16, 3) := by decide +kernel
theorem d2_33 : decode prog_14_method_6_code 33 = .ok (.aload_n 0, 1) := by decide +kernel
theorem d2_34 : decode prog_14_method_6_code 34 = .ok (.iload_n 3, 1) := by decide +kernel
theorem d2_35 : decode prog_14_method_6_code 35 = .ok (.iconst 1, 1) := by decide +kernel
theorem d2_36 : decode prog_14_method_6_code 36 = .ok (.iadd, 1) := by decide +kernel
theorem d2_37 : decode prog_14_method_6_code 37 = .ok (.invokestatic 47, 3) := by decide +kernel
theorem d2_40 : decode prog_14_method_6_code 40 = .ok (.iload_n 1, 1) := by decide +kernel
theorem d2_41 : decode prog_14_method_6_code 41 = .ok (.if_icmp .ne 5, 3) := by decide +kernel
theorem d2_44 : decode prog_14_method_6_code 44 = .ok (.iload_n 3, 1) := by decide +kernel
theorem d2_45 : decode prog_14_method_6_code 45 = .ok (.istore_n 2, 1) := by decide +kernel
theorem d2_46 : decode prog_14_method_6_code 46 = .ok (.iinc 3 (-1), 3) := by decide +kernel
theorem d2_49 : decode prog_14_method_6_code 49 = .ok (.goto (-31), 3) := by decide +kernel
theorem d2_52 : decode prog_14_method_6_code 52 = .ok (.iload_n 2, 1) := by decide +kernel
theorem d2_53 : decode prog_14_method_6_code 53 = .ok (.ireturn, 1) := by decide +kernel
theorem pd_1 : parseMethodDescriptor "([II)I" = some ⟨[(.array .int), .int], some .int⟩ := by decide +kernel
def own_L2_18 : Nat → Cell → Int32 → Int32 → Int32 → Int32 → Option Int32
  | 0, _, _, _, _, _ => none
  | k + 1, cl, n, p2, q, d => (if d < (0 : Int32) then some q else (if q < (0 : Int32) then (if ¬ (d < 0) ∧ d < n then (if (atv cl d) = (2 : Int32) then (if (own_L4_4 10 cl n 1 (d + (1 : Int32))).isSome = true then (if ((own_L4_4 10 cl n 1 (d + (1 : Int32))).getD (-1)) = p2 then own_L2_18 k cl n p2 d (d + (-1 : Int32)) else own_L2_18 k cl n p2 q (d + (-1 : Int32))) else none) else own_L2_18 k cl n p2 q (d + (-1 : Int32))) else none) else some q))
theorem own_L2_18_s (k : Nat) (cl : Cell) (n : Int32) (p2 : Int32) (q : Int32) (d : Int32) : own_L2_18 (k + 1) cl n p2 q d = (if d < (0 : Int32) then some q else (if q < (0 : Int32) then (if ¬ (d < 0) ∧ d < n then (if (atv cl d) = (2 : Int32) then (if (own_L4_4 10 cl n 1 (d + (1 : Int32))).isSome = true then (if ((own_L4_4 10 cl n 1 (d + (1 : Int32))).getD (-1)) = p2 then own_L2_18 k cl n p2 d (d + (-1 : Int32)) else own_L2_18 k cl n p2 q (d + (-1 : Int32))) else none) else own_L2_18 k cl n p2 q (d + (-1 : Int32))) else none) else some q)) := rfl
set_option maxRecDepth 65536 in
set_option maxHeartbeats 40000000 in
theorem lp2_18 {p : Program} {l : Launch} {e : Env} {R : Room} {s : State} {m : MethodId} {args : Array Value} {below : List Frame} {meth : Method} {c : Code} {cells slots : Nat} {Z : State} {a0 : Array Value} {h0 : Heap} {S0 : State} {n0 : Nat}
    (hx : p.tables.exec = Jvm.exec) (hZ : Z.Warmed39 s.vm) (hw : ∀ d ∈ tables_1, d.before a0 Z = true) (hby : c.code = prog_14_method_6_code) (hml : c.maxLocals = 4) (hown : s.vm.findClass "com/example/compact_concepts/compactconcepts/TreeShapes" = some m.cls) (a1 : Addr) (cl : Cell) (n p2 : Int32) (T_a1 : Tab Z h0 a1 cl .int n) (Z0 : n0 ≤ h0.size) (hce : cells ≤ R.cells) (hsl : slots ≤ R.slots) (hRf : 1 ≤ R.frames) (hRl : 20 ≤ R.locals) :
    ∀ (k : Nat) (q : Int32) (d : Int32) (T0 : State) (locs0 : List Loc) (X0 : Stand p l e R s m args below meth c T0 locs0 cells slots) (N0 : Fr n0 locs0) (e0 : T0.heap = h0) (P0 : own_Pr p.tables e below S0 T0 (mkF m 18 #[.val (.ref a1), .val (.int p2), .val (.int q), .val (.int d)] [])) {r : Int32} (hr : own_L2_18 k cl n p2 q d = some r),
    ∃ (T' : State) (locs' : List Loc) (pc' : Nat) (Ls' : Array Slot), Stand p l e R s m args below meth c T' locs' cells slots ∧ Fr n0 locs' ∧ T'.heap = h0 ∧ own_Pr p.tables e below S0 T' (mkF m pc' Ls' [.int r]) ∧ decode c.code pc' = .ok (.ireturn, 1) := by
  intro k
  induction k with
  | zero => intro q d T0 locs0 X0 N0 e0 P0 r hr; exact nomatch hr
  | succ k ih =>
    intro q d T0 locs0 X0 N0 e0 P0 r hr
    rw [own_L2_18_s] at hr
    have P1 : own_Pr p.tables e below S0 T0 (mkF m 19 #[.val (.ref a1), .val (.int p2), .val (.int q), .val (.int d)] [(.int d)]) := fun t k => P0 t (by
      refine XS.iloadN X0.here hx rfl (hb hby d2_18) rfl ?_
      show Steps p.tables e below (T0.setTop (mkF m 19 #[.val (.ref a1), .val (.int p2), .val (.int q), .val (.int d)] [(.int d)])) _
      exact k)
    by_cases hc19_2 : d < (0 : Int32)
    · rw [if_pos hc19_2] at hr
      have P3 : own_Pr p.tables e below S0 T0 (mkF m 53 #[.val (.ref a1), .val (.int p2), .val (.int q), .val (.int d)] [(.int q)]) := fun t k => P1 t (by
        refine XS.ifYes X0.here hx rfl (pc0 := 19) (pc' := 52) rfl (hb hby d2_19) rfl (XT.i0_lt_t hc19_2) (by decide) (by decide) ?_
        show Steps p.tables e below (T0.setTop (mkF m 52 #[.val (.ref a1), .val (.int p2), .val (.int q), .val (.int d)] [])) _
        refine XS.iloadN X0.here hx rfl (hb hby d2_52) rfl ?_
        show Steps p.tables e below (T0.setTop (mkF m 53 #[.val (.ref a1), .val (.int p2), .val (.int q), .val (.int d)] [(.int q)])) _
        exact k)
      obtain rfl := Option.some.inj hr
      exact ⟨T0, _, 53, _, X0, N0, e0, P3, (hb hby d2_53)⟩
    · rw [if_neg hc19_2] at hr
      have P4 : own_Pr p.tables e below S0 T0 (mkF m 23 #[.val (.ref a1), .val (.int p2), .val (.int q), .val (.int d)] [(.int q)]) := fun t k => P1 t (by
        refine XS.ifNo X0.here hx rfl (hb hby d2_19) rfl (XT.i0_lt_f hc19_2) ?_
        show Steps p.tables e below (T0.setTop (mkF m 22 #[.val (.ref a1), .val (.int p2), .val (.int q), .val (.int d)] [])) _
        refine XS.iloadN X0.here hx rfl (hb hby d2_22) rfl ?_
        show Steps p.tables e below (T0.setTop (mkF m 23 #[.val (.ref a1), .val (.int p2), .val (.int q), .val (.int d)] [(.int q)])) _
        exact k)
      by_cases hc23_5 : q < (0 : Int32)
      · rw [if_pos hc23_5] at hr
        have P6 : own_Pr p.tables e below S0 T0 (mkF m 28 #[.val (.ref a1), .val (.int p2), .val (.int q), .val (.int d)] [(.int d), (.ref a1)]) := fun t k => P4 t (by
          refine XS.ifNo X0.here hx rfl (hb hby d2_23) rfl (XT.i0_ge_f hc23_5) ?_
          show Steps p.tables e below (T0.setTop (mkF m 26 #[.val (.ref a1), .val (.int p2), .val (.int q), .val (.int d)] [])) _
          refine XS.aloadN X0.here hx rfl (hb hby d2_26) rfl rfl ?_
          show Steps p.tables e below (T0.setTop (mkF m 27 #[.val (.ref a1), .val (.int p2), .val (.int q), .val (.int d)] [(.ref a1)])) _
          refine XS.iloadN X0.here hx rfl (hb hby d2_27) rfl ?_
          show Steps p.tables e below (T0.setTop (mkF m 28 #[.val (.ref a1), .val (.int p2), .val (.int q), .val (.int d)] [(.int d), (.ref a1)])) _
          exact k)
        by_cases hg28_7 : ¬ (d < 0) ∧ d < n
        · rw [if_pos hg28_7] at hr
          have hin28_8 : ¬ (d < 0 ∨ cl.slots.size ≤ (d).toNatClampNeg) := inb_of T_a1.2.1 hg28_7
          have P9 : own_Pr p.tables e below S0 T0 (mkF m 30 #[.val (.ref a1), .val (.int p2), .val (.int q), .val (.int d)] [(.int (2 : Int32)), (.int (atv cl d))]) := fun t k => P6 t (by
            refine X0.iaload hx (j := d) (v := .int (atv cl d)) (by rw [e0]; exact T_a1.1.1) (State.isArrayOf_alike hZ.alike T_a1.1.2.1) T_a1.1.2.2 hin28_8 (T_a1.2.2.2 _ hin28_8) (g := (mkF m 28 #[.val (.ref a1), .val (.int p2), .val (.int q), .val (.int d)] [(.int d), (.ref a1)])) rfl rfl (hb hby d2_28) _ ?_
            show Steps p.tables e below (T0.setTop (mkF m 29 #[.val (.ref a1), .val (.int p2), .val (.int q), .val (.int d)] [(.int (atv cl d))])) _
            refine XS.iconst X0.here hx rfl (hb hby d2_29) ?_
            show Steps p.tables e below (T0.setTop (mkF m 30 #[.val (.ref a1), .val (.int p2), .val (.int q), .val (.int d)] [(.int (2 : Int32)), (.int (atv cl d))])) _
            exact k)
          by_cases hc30_10 : (atv cl d) = (2 : Int32)
          · rw [if_pos hc30_10] at hr
            have P11 : own_Pr p.tables e below S0 T0 (mkF m 37 #[.val (.ref a1), .val (.int p2), .val (.int q), .val (.int d)] [(.int (d + (1 : Int32))), (.ref a1)]) := fun t k => P9 t (by
              refine XS.icmpNo X0.here hx rfl (hb hby d2_30) rfl (XT.ii_ne_f hc30_10) ?_
              show Steps p.tables e below (T0.setTop (mkF m 33 #[.val (.ref a1), .val (.int p2), .val (.int q), .val (.int d)] [])) _
              refine XS.aloadN X0.here hx rfl (hb hby d2_33) rfl rfl ?_
              show Steps p.tables e below (T0.setTop (mkF m 34 #[.val (.ref a1), .val (.int p2), .val (.int q), .val (.int d)] [(.ref a1)])) _
              refine XS.iloadN X0.here hx rfl (hb hby d2_34) rfl ?_
              show Steps p.tables e below (T0.setTop (mkF m 35 #[.val (.ref a1), .val (.int p2), .val (.int q), .val (.int d)] [(.int d), (.ref a1)])) _
              refine XS.iconst X0.here hx rfl (hb hby d2_35) ?_
              show Steps p.tables e below (T0.setTop (mkF m 36 #[.val (.ref a1), .val (.int p2), .val (.int q), .val (.int d)] [(.int (1 : Int32)), (.int d), (.ref a1)])) _
              refine XS.iadd X0.here hx rfl (hb hby d2_36) rfl ?_
              show Steps p.tables e below (T0.setTop (mkF m 37 #[.val (.ref a1), .val (.int p2), .val (.int q), .val (.int d)] [(.int (d + (1 : Int32))), (.ref a1)])) _
              exact k)
            by_cases hg37_12 : (own_L4_4 10 cl n 1 (d + (1 : Int32))).isSome = true
            · rw [if_pos hg37_12] at hr
              obtain ⟨_, _, ⟨T13, L13, k13, n13⟩, -, X13, ⟨Lc13, hQ13, l13, y13, z13⟩, st13⟩ := Jvm.LawKit.callS X0 hx (y := (⟨"com/example/compact_concepts/compactconcepts/TreeShapes", "end", "([II)I"⟩ : MethodName)) hown (mvT hZ (hw _ (List.mem_of_getElem? (i := 13) rfl))) (mvT hZ (hw _ (List.mem_of_getElem? (i := 14) rfl))) (mvT hZ (hw _ (List.mem_of_getElem? (i := 8) rfl))) (mvT hZ (hw _ (List.mem_of_getElem? (i := 15) rfl))) (by decide) (backOf (W := 0) (rm4 l Z a0 hw [] a1 (d + (1 : Int32)) cl n ((own_L4_4 10 cl n 1 (d + (1 : Int32))).getD (-1)) h0 n0 Z0 T_a1 (own_some hg37_12)) hZ (hw _ (List.mem_of_getElem? (i := 15) rfl)) (hw _ (List.mem_of_getElem? (i := 8) rfl)) (Nat.le_trans (by decide) hRf) (Nat.le_trans (by decide) hRl)) (g := (mkF m 37 #[.val (.ref a1), .val (.int p2), .val (.int q), .val (.int d)] [(.int (d + (1 : Int32))), (.ref a1)])) rfl (by rw [hml]; rfl) (argsL := [(.ref a1), (.int (d + (1 : Int32)))]) (rest := []) (lenOf pd_1 rfl) rfl (by show 2 * 0 + _ ≤ _; exact Nat.le_of_eq rfl) (hb hby d2_37) (fun _ _ => ⟨rfl, e0, Nat.le_trans (Nat.le_of_eq (Nat.add_zero _)) hce, Nat.le_trans (Nat.le_of_eq (Nat.add_zero _)) hsl⟩)
              dsimp only [Pt.U, Pt.locs, Pt.cells, Pt.slots] at X13 l13 y13 z13 st13 hQ13
              subst l13 y13 z13
              obtain ⟨z13v, rfl, hz13v, Nq13, eq13⟩ := hQ13
              have N13n := Fr.app N0 Nq13
              rw [← hz13v] at hr
              have P14 : own_Pr p.tables e below S0 T13 (mkF m 40 #[.val (.ref a1), .val (.int p2), .val (.int q), .val (.int d)] [(.int z13v)]) := fun t k => P11 t (st13 _ k)
              have P15 : own_Pr p.tables e below S0 T13 (mkF m 41 #[.val (.ref a1), .val (.int p2), .val (.int q), .val (.int d)] [(.int p2), (.int z13v)]) := fun t k => P14 t (by
                refine XS.iloadN X13.here hx rfl (hb hby d2_40) rfl ?_
                show Steps p.tables e below (T13.setTop (mkF m 41 #[.val (.ref a1), .val (.int p2), .val (.int q), .val (.int d)] [(.int p2), (.int z13v)])) _
                exact k)
              by_cases hc41_16 : z13v = p2
              · rw [if_pos hc41_16] at hr
                have P17 : own_Pr p.tables e below S0 T13 (mkF m 18 #[.val (.ref a1), .val (.int p2), .val (.int d), .val (.int (d + (-1 : Int32)))] []) := fun t k => P15 t (by
                  refine XS.icmpNo X13.here hx rfl (hb hby d2_41) rfl (XT.ii_ne_f hc41_16) ?_
                  show Steps p.tables e below (T13.setTop (mkF m 44 #[.val (.ref a1), .val (.int p2), .val (.int q), .val (.int d)] [])) _
                  refine XS.iloadN X13.here hx rfl (hb hby d2_44) rfl ?_
                  show Steps p.tables e below (T13.setTop (mkF m 45 #[.val (.ref a1), .val (.int p2), .val (.int q), .val (.int d)] [(.int d)])) _
                  refine XS.istoreN X13.here hx rfl (hb hby d2_45) rfl (l' := #[.val (.ref a1), .val (.int p2), .val (.int d), .val (.int d)]) rfl ?_
                  show Steps p.tables e below (T13.setTop (mkF m 46 #[.val (.ref a1), .val (.int p2), .val (.int d), .val (.int d)] [])) _
                  refine XS.iinc X13.here hx rfl (hb hby d2_46) rfl (l' := #[.val (.ref a1), .val (.int p2), .val (.int d), .val (.int (d + (-1 : Int32)))]) rfl ?_
                  show Steps p.tables e below (T13.setTop (mkF m 49 #[.val (.ref a1), .val (.int p2), .val (.int d), .val (.int (d + (-1 : Int32)))] [])) _
                  refine XS.goto X13.here hx rfl (pc0 := 49) (pc' := 18) rfl (hb hby d2_49) (by decide) (by decide) ?_
                  show Steps p.tables e below (T13.setTop (mkF m 18 #[.val (.ref a1), .val (.int p2), .val (.int d), .val (.int (d + (-1 : Int32)))] [])) _
                  exact k)
                exact ih d (d + (-1 : Int32)) T13 _ X13 N13n eq13 P17 hr
              · rw [if_neg hc41_16] at hr
                have P18 : own_Pr p.tables e below S0 T13 (mkF m 18 #[.val (.ref a1), .val (.int p2), .val (.int q), .val (.int (d + (-1 : Int32)))] []) := fun t k => P15 t (by
                  refine XS.icmpYes X13.here hx rfl (pc0 := 41) (pc' := 46) rfl (hb hby d2_41) rfl (XT.ii_ne_t hc41_16) (by decide) (by decide) ?_
                  show Steps p.tables e below (T13.setTop (mkF m 46 #[.val (.ref a1), .val (.int p2), .val (.int q), .val (.int d)] [])) _
                  refine XS.iinc X13.here hx rfl (hb hby d2_46) rfl (l' := #[.val (.ref a1), .val (.int p2), .val (.int q), .val (.int (d + (-1 : Int32)))]) rfl ?_
                  show Steps p.tables e below (T13.setTop (mkF m 49 #[.val (.ref a1), .val (.int p2), .val (.int q), .val (.int (d + (-1 : Int32)))] [])) _
                  refine XS.goto X13.here hx rfl (pc0 := 49) (pc' := 18) rfl (hb hby d2_49) (by decide) (by decide) ?_
                  show Steps p.tables e below (T13.setTop (mkF m 18 #[.val (.ref a1), .val (.int p2), .val (.int q), .val (.int (d + (-1 : Int32)))] [])) _
                  exact k)
                exact ih q (d + (-1 : Int32)) T13 _ X13 N13n eq13 P18 hr
            · rw [if_neg hg37_12] at hr; exact nomatch hr
          · rw [if_neg hc30_10] at hr
            have P19 : own_Pr p.tables e below S0 T0 (mkF m 18 #[.val (.ref a1), .val (.int p2), .val (.int q), .val (.int (d + (-1 : Int32)))] []) := fun t k => P9 t (by
              refine XS.icmpYes X0.here hx rfl (pc0 := 30) (pc' := 46) rfl (hb hby d2_30) rfl (XT.ii_ne_t hc30_10) (by decide) (by decide) ?_
              show Steps p.tables e below (T0.setTop (mkF m 46 #[.val (.ref a1), .val (.int p2), .val (.int q), .val (.int d)] [])) _
              refine XS.iinc X0.here hx rfl (hb hby d2_46) rfl (l' := #[.val (.ref a1), .val (.int p2), .val (.int q), .val (.int (d + (-1 : Int32)))]) rfl ?_
              show Steps p.tables e below (T0.setTop (mkF m 49 #[.val (.ref a1), .val (.int p2), .val (.int q), .val (.int (d + (-1 : Int32)))] [])) _
              refine XS.goto X0.here hx rfl (pc0 := 49) (pc' := 18) rfl (hb hby d2_49) (by decide) (by decide) ?_
              show Steps p.tables e below (T0.setTop (mkF m 18 #[.val (.ref a1), .val (.int p2), .val (.int q), .val (.int (d + (-1 : Int32)))] [])) _
              exact k)
            exact ih q (d + (-1 : Int32)) T0 _ X0 N0 e0 P19 hr
        · rw [if_neg hg28_7] at hr; exact nomatch hr
      · rw [if_neg hc23_5] at hr
        have P20 : own_Pr p.tables e below S0 T0 (mkF m 53 #[.val (.ref a1), .val (.int p2), .val (.int q), .val (.int d)] [(.int q)]) := fun t k => P4 t (by
          refine XS.ifYes X0.here hx rfl (pc0 := 23) (pc' := 52) rfl (hb hby d2_23) rfl (XT.i0_ge_t hc23_5) (by decide) (by decide) ?_
          show Steps p.tables e below (T0.setTop (mkF m 52 #[.val (.ref a1), .val (.int p2), .val (.int q), .val (.int d)] [])) _
          refine XS.iloadN X0.here hx rfl (hb hby d2_52) rfl ?_
          show Steps p.tables e below (T0.setTop (mkF m 53 #[.val (.ref a1), .val (.int p2), .val (.int q), .val (.int d)] [(.int q)])) _
          exact k)
        obtain rfl := Option.some.inj hr
        exact ⟨T0, _, 53, _, X0, N0, e0, P20, (hb hby d2_53)⟩
theorem d2_0 : decode prog_14_method_6_code 0 = .ok (.iconst (-1), 1) := by decide +kernel
theorem d2_1 : decode prog_14_method_6_code 1 = .ok (.istore_n 2, 1) := by decide +kernel
theorem d2_2 : decode prog_14_method_6_code 2 = .ok (.iload_n 1, 1) := by decide +kernel
theorem d2_3 : decode prog_14_method_6_code 3 = .ok (.ifCond .le 49, 3) := by decide +kernel
theorem d2_6 : decode prog_14_method_6_code 6 = .ok (.aload_n 0, 1) := by decide +kernel
theorem d2_7 : decode prog_14_method_6_code 7 = .ok (.iload_n 1, 1) := by decide +kernel
theorem d2_8 : decode prog_14_method_6_code 8 = .ok (.iconst 1, 1) := by decide +kernel
theorem d2_9 : decode prog_14_method_6_code 9 = .ok (.isub, 1) := by decide +kernel
theorem d2_10 : decode prog_14_method_6_code 10 = .ok (.iaload, 1) := by decide +kernel
theorem d2_11 : decode prog_14_method_6_code 11 = .ok (.ifCond .ne 41, 3) := by decide +kernel
theorem d2_14 : decode prog_14_method_6_code 14 = .ok (.iload_n 1, 1) := by decide +kernel
theorem d2_15 : decode prog_14_method_6_code 15 = .ok (.iconst 2, 1) := by decide +kernel
theorem d2_16 : decode prog_14_method_6_code 16 = .ok (.isub, 1) := by decide +kernel
theorem d2_17 : decode prog_14_method_6_code 17 = .ok (.istore_n 3, 1) := by decide +kernel
def own_L2_0 : Nat → Cell → Int32 → Int32 → Option Int32
  | 0, _, _, _ => none
  | k + 1, cl, n, p2 => (if (0 : Int32) < p2 then (if ¬ ((p2 - (1 : Int32)) < 0) ∧ (p2 - (1 : Int32)) < n then (if (atv cl (p2 - (1 : Int32))) = (0 : Int32) then own_L2_18 k cl n p2 (-1 : Int32) (p2 - (2 : Int32)) else some (-1 : Int32)) else none) else some (-1 : Int32))
theorem own_L2_0_s (k : Nat) (cl : Cell) (n : Int32) (p2 : Int32)  : own_L2_0 (k + 1) cl n p2  = (if (0 : Int32) < p2 then (if ¬ ((p2 - (1 : Int32)) < 0) ∧ (p2 - (1 : Int32)) < n then (if (atv cl (p2 - (1 : Int32))) = (0 : Int32) then own_L2_18 k cl n p2 (-1 : Int32) (p2 - (2 : Int32)) else some (-1 : Int32)) else none) else some (-1 : Int32)) := rfl
set_option maxRecDepth 65536 in
set_option maxHeartbeats 40000000 in
theorem lp2_0 {p : Program} {l : Launch} {e : Env} {R : Room} {s : State} {m : MethodId} {args : Array Value} {below : List Frame} {meth : Method} {c : Code} {cells slots : Nat} {Z : State} {a0 : Array Value} {h0 : Heap} {S0 : State} {n0 : Nat}
    (hx : p.tables.exec = Jvm.exec) (hZ : Z.Warmed39 s.vm) (hw : ∀ d ∈ tables_1, d.before a0 Z = true) (hby : c.code = prog_14_method_6_code) (hml : c.maxLocals = 4) (hown : s.vm.findClass "com/example/compact_concepts/compactconcepts/TreeShapes" = some m.cls) (a1 : Addr) (cl : Cell) (n p2 : Int32) (T_a1 : Tab Z h0 a1 cl .int n) (Z0 : n0 ≤ h0.size) (hce : cells ≤ R.cells) (hsl : slots ≤ R.slots) (hRf : 1 ≤ R.frames) (hRl : 20 ≤ R.locals) :
    ∀ (k : Nat)  (T0 : State) (locs0 : List Loc) (X0 : Stand p l e R s m args below meth c T0 locs0 cells slots) (N0 : Fr n0 locs0) (e0 : T0.heap = h0) (P0 : own_Pr p.tables e below S0 T0 (mkF m 0 #[.val (.ref a1), .val (.int p2), .unset, .unset] [])) {r : Int32} (hr : own_L2_0 k cl n p2  = some r),
    ∃ (T' : State) (locs' : List Loc) (pc' : Nat) (Ls' : Array Slot), Stand p l e R s m args below meth c T' locs' cells slots ∧ Fr n0 locs' ∧ T'.heap = h0 ∧ own_Pr p.tables e below S0 T' (mkF m pc' Ls' [.int r]) ∧ decode c.code pc' = .ok (.ireturn, 1) := by
  intro k
  induction k with
  | zero => intro  T0 locs0 X0 N0 e0 P0 r hr; exact nomatch hr
  | succ k ih =>
    intro  T0 locs0 X0 N0 e0 P0 r hr
    rw [own_L2_0_s] at hr
    have P1 : own_Pr p.tables e below S0 T0 (mkF m 3 #[.val (.ref a1), .val (.int p2), .val (.int (-1 : Int32)), .unset] [(.int p2)]) := fun t k => P0 t (by
      refine XS.iconst X0.here hx rfl (hb hby d2_0) ?_
      show Steps p.tables e below (T0.setTop (mkF m 1 #[.val (.ref a1), .val (.int p2), .unset, .unset] [(.int (-1 : Int32))])) _
      refine XS.istoreN X0.here hx rfl (hb hby d2_1) rfl (l' := #[.val (.ref a1), .val (.int p2), .val (.int (-1 : Int32)), .unset]) rfl ?_
      show Steps p.tables e below (T0.setTop (mkF m 2 #[.val (.ref a1), .val (.int p2), .val (.int (-1 : Int32)), .unset] [])) _
      refine XS.iloadN X0.here hx rfl (hb hby d2_2) rfl ?_
      show Steps p.tables e below (T0.setTop (mkF m 3 #[.val (.ref a1), .val (.int p2), .val (.int (-1 : Int32)), .unset] [(.int p2)])) _
      exact k)
    by_cases hc3_2 : (0 : Int32) < p2
    · rw [if_pos hc3_2] at hr
      have P3 : own_Pr p.tables e below S0 T0 (mkF m 10 #[.val (.ref a1), .val (.int p2), .val (.int (-1 : Int32)), .unset] [(.int (p2 - (1 : Int32))), (.ref a1)]) := fun t k => P1 t (by
        refine XS.ifNo X0.here hx rfl (hb hby d2_3) rfl (XT.i0_le_f hc3_2) ?_
        show Steps p.tables e below (T0.setTop (mkF m 6 #[.val (.ref a1), .val (.int p2), .val (.int (-1 : Int32)), .unset] [])) _
        refine XS.aloadN X0.here hx rfl (hb hby d2_6) rfl rfl ?_
        show Steps p.tables e below (T0.setTop (mkF m 7 #[.val (.ref a1), .val (.int p2), .val (.int (-1 : Int32)), .unset] [(.ref a1)])) _
        refine XS.iloadN X0.here hx rfl (hb hby d2_7) rfl ?_
        show Steps p.tables e below (T0.setTop (mkF m 8 #[.val (.ref a1), .val (.int p2), .val (.int (-1 : Int32)), .unset] [(.int p2), (.ref a1)])) _
        refine XS.iconst X0.here hx rfl (hb hby d2_8) ?_
        show Steps p.tables e below (T0.setTop (mkF m 9 #[.val (.ref a1), .val (.int p2), .val (.int (-1 : Int32)), .unset] [(.int (1 : Int32)), (.int p2), (.ref a1)])) _
        refine XS.isub X0.here hx rfl (hb hby d2_9) rfl ?_
        show Steps p.tables e below (T0.setTop (mkF m 10 #[.val (.ref a1), .val (.int p2), .val (.int (-1 : Int32)), .unset] [(.int (p2 - (1 : Int32))), (.ref a1)])) _
        exact k)
      by_cases hg10_4 : ¬ ((p2 - (1 : Int32)) < 0) ∧ (p2 - (1 : Int32)) < n
      · rw [if_pos hg10_4] at hr
        have hin10_5 : ¬ ((p2 - (1 : Int32)) < 0 ∨ cl.slots.size ≤ ((p2 - (1 : Int32))).toNatClampNeg) := inb_of T_a1.2.1 hg10_4
        have P6 : own_Pr p.tables e below S0 T0 (mkF m 11 #[.val (.ref a1), .val (.int p2), .val (.int (-1 : Int32)), .unset] [(.int (atv cl (p2 - (1 : Int32))))]) := fun t k => P3 t (by
          refine X0.iaload hx (j := (p2 - (1 : Int32))) (v := .int (atv cl (p2 - (1 : Int32)))) (by rw [e0]; exact T_a1.1.1) (State.isArrayOf_alike hZ.alike T_a1.1.2.1) T_a1.1.2.2 hin10_5 (T_a1.2.2.2 _ hin10_5) (g := (mkF m 10 #[.val (.ref a1), .val (.int p2), .val (.int (-1 : Int32)), .unset] [(.int (p2 - (1 : Int32))), (.ref a1)])) rfl rfl (hb hby d2_10) _ ?_
          show Steps p.tables e below (T0.setTop (mkF m 11 #[.val (.ref a1), .val (.int p2), .val (.int (-1 : Int32)), .unset] [(.int (atv cl (p2 - (1 : Int32))))])) _
          exact k)
        by_cases hc11_7 : (atv cl (p2 - (1 : Int32))) = (0 : Int32)
        · rw [if_pos hc11_7] at hr
          have P8 : own_Pr p.tables e below S0 T0 (mkF m 18 #[.val (.ref a1), .val (.int p2), .val (.int (-1 : Int32)), .val (.int (p2 - (2 : Int32)))] []) := fun t k => P6 t (by
            refine XS.ifNo X0.here hx rfl (hb hby d2_11) rfl (XT.i0_ne_f hc11_7) ?_
            show Steps p.tables e below (T0.setTop (mkF m 14 #[.val (.ref a1), .val (.int p2), .val (.int (-1 : Int32)), .unset] [])) _
            refine XS.iloadN X0.here hx rfl (hb hby d2_14) rfl ?_
            show Steps p.tables e below (T0.setTop (mkF m 15 #[.val (.ref a1), .val (.int p2), .val (.int (-1 : Int32)), .unset] [(.int p2)])) _
            refine XS.iconst X0.here hx rfl (hb hby d2_15) ?_
            show Steps p.tables e below (T0.setTop (mkF m 16 #[.val (.ref a1), .val (.int p2), .val (.int (-1 : Int32)), .unset] [(.int (2 : Int32)), (.int p2)])) _
            refine XS.isub X0.here hx rfl (hb hby d2_16) rfl ?_
            show Steps p.tables e below (T0.setTop (mkF m 17 #[.val (.ref a1), .val (.int p2), .val (.int (-1 : Int32)), .unset] [(.int (p2 - (2 : Int32)))])) _
            refine XS.istoreN X0.here hx rfl (hb hby d2_17) rfl (l' := #[.val (.ref a1), .val (.int p2), .val (.int (-1 : Int32)), .val (.int (p2 - (2 : Int32)))]) rfl ?_
            show Steps p.tables e below (T0.setTop (mkF m 18 #[.val (.ref a1), .val (.int p2), .val (.int (-1 : Int32)), .val (.int (p2 - (2 : Int32)))] [])) _
            exact k)
          exact lp2_18 hx hZ hw hby hml hown a1 cl n p2 T_a1 Z0 hce hsl hRf hRl k (-1 : Int32) (p2 - (2 : Int32)) T0 _ X0 N0 e0 P8 hr
        · rw [if_neg hc11_7] at hr
          have P9 : own_Pr p.tables e below S0 T0 (mkF m 53 #[.val (.ref a1), .val (.int p2), .val (.int (-1 : Int32)), .unset] [(.int (-1 : Int32))]) := fun t k => P6 t (by
            refine XS.ifYes X0.here hx rfl (pc0 := 11) (pc' := 52) rfl (hb hby d2_11) rfl (XT.i0_ne_t hc11_7) (by decide) (by decide) ?_
            show Steps p.tables e below (T0.setTop (mkF m 52 #[.val (.ref a1), .val (.int p2), .val (.int (-1 : Int32)), .unset] [])) _
            refine XS.iloadN X0.here hx rfl (hb hby d2_52) rfl ?_
            show Steps p.tables e below (T0.setTop (mkF m 53 #[.val (.ref a1), .val (.int p2), .val (.int (-1 : Int32)), .unset] [(.int (-1 : Int32))])) _
            exact k)
          obtain rfl := Option.some.inj hr
          exact ⟨T0, _, 53, _, X0, N0, e0, P9, (hb hby d2_53)⟩
      · rw [if_neg hg10_4] at hr; exact nomatch hr
    · rw [if_neg hc3_2] at hr
      have P10 : own_Pr p.tables e below S0 T0 (mkF m 53 #[.val (.ref a1), .val (.int p2), .val (.int (-1 : Int32)), .unset] [(.int (-1 : Int32))]) := fun t k => P1 t (by
        refine XS.ifYes X0.here hx rfl (pc0 := 3) (pc' := 52) rfl (hb hby d2_3) rfl (XT.i0_le_t hc3_2) (by decide) (by decide) ?_
        show Steps p.tables e below (T0.setTop (mkF m 52 #[.val (.ref a1), .val (.int p2), .val (.int (-1 : Int32)), .unset] [])) _
        refine XS.iloadN X0.here hx rfl (hb hby d2_52) rfl ?_
        show Steps p.tables e below (T0.setTop (mkF m 53 #[.val (.ref a1), .val (.int p2), .val (.int (-1 : Int32)), .unset] [(.int (-1 : Int32))])) _
        exact k)
      obtain rfl := Option.some.inj hr
      exact ⟨T0, _, 53, _, X0, N0, e0, P10, (hb hby d2_53)⟩
theorem ef_2 (m : MethodId) (a1 : Addr) (p2 : Int32) : entryFrame m #[(.ref a1), (.int p2)] 4 = mkF m 0 #[.val (.ref a1), .val (.int p2), .unset, .unset] [] := by first | (simp [entryFrame, mkF, argsToLocals, Value.category]; done) | rfl
set_option maxRecDepth 65536 in
set_option maxHeartbeats 40000000 in
theorem rm2 (l : Launch) (Z : State) (a0 : Array Value) (hw : ∀ d ∈ tables_1, d.before a0 Z = true) (ws : List Jvm.Cond) (a1 : Addr) (p2 : Int32) (cl : Cell) (n r : Int32) (h0 : Heap) (n0 : Nat) (Z0 : n0 ≤ h0.size) (T_a1 : Tab Z h0 a1 cl .int n) (hr : own_L2_0 12 cl n p2 = some r) :
    MetFree l (⟨"com/example/compact_concepts/compactconcepts/TreeShapes", "secondParent", "([II)I"⟩ : MethodName) (head1 (Jvm.Cond.code (⟨"com/example/compact_concepts/compactconcepts/TreeShapes", "secondParent", "([II)I"⟩ : MethodName) prog_14_method_6_code 4 (some .int) :: ws) ({ frames := 1, cells := 0, slots := 0, locals := 20 } : Room)) (fun a U => a = #[(.ref a1), (.int p2)] ∧ Z.Warmed39 U.vm ∧ U.heap = h0) (fun _ _ _ _ _ => True) (fun _ U o U' => ∃ v L, o = .returned v ∧ own_QI h0 n0 r v U'.heap L ∧ FrameEnd U o U' L ({ frames := 1, cells := 0, slots := 0, locals := 20 } : Room).cells ({ frames := 1, cells := 0, slots := 0, locals := 20 } : Room).slots) := by
  refine MetFree.of_bodySF (plainFor_of_name pn_4) hisR ?_
  intro p e s m args below meth c s₁ Bd hml0 hP hK
  obtain ⟨rfl, hZ, hh⟩ := hP
  have hx := Bd.exec
  have hby := Bd.bytes
  have hml : c.maxLocals = 4 := hml0
  have hown : s.vm.findClass "com/example/compact_concepts/compactconcepts/TreeShapes" = some m.cls := findClass_of_methodNamed Bd.named
  have hnm := (name_of_methodNamed Bd.named Bd.method).1
  have X0 : Stand p l e ({ frames := 1, cells := 0, slots := 0, locals := 20 } : Room) s m #[(.ref a1), (.int p2)] below meth c s₁ [] 0 0 := Stand.of_body Bd
  have e0 : s₁.heap = h0 := by rw [← hh, Bd.state]; rfl
  have N0 := Fr.nil n0
  obtain ⟨S0, hS0⟩ : ∃ z, z = s₁.setTop (entryFrame m #[(.ref a1), (.int p2)] 4) := ⟨_, rfl⟩
  have P0 : own_Pr p.tables e below S0 s₁ (mkF m 0 #[.val (.ref a1), .val (.int p2), .unset, .unset] []) := fun t k => hS0 ▸ castTop (ef_2 m a1 p2) k
  obtain ⟨T1, locs1, pc1, Ls1, X1, N1, e1, P1, hd1⟩ := lp2_0 hx hZ hw hby hml hown a1 cl n p2 T_a1 Z0 (Nat.le_refl _) (Nat.le_refl _) (by decide) (by decide) 12  s₁ _ X0 N0 e0 P0 hr
  obtain ⟨fs, hl, hrun, hended, hW, hsame⟩ := X1.leave (v := some (.int r)) (fun h => by rw [Bd.returns] at h; cases h)
  have fin : Steps p.tables e below S0 (T1.setFrames fs) := P1 _ (retI X1 hx Bd.returns hd1 hl)
  rw [hS0] at fin
  refine ⟨_, _, fin, hrun, hended, _, _, rfl, ?_, ⟨_, rfl⟩, hW, hsame.mono (by decide) (by decide)⟩
  show own_QI h0 n0 r _ T1.heap _
  rw [e1]
  exact ⟨_, rfl, rfl, N1, rfl⟩
def own_exp (ca cp : Cell) (v : Int32) : Int32 := if own_f1 ca cp 4 v = 0 then (if own_f1 ca cp 3 v = 0 then (if own_f1 ca cp 2 v = 0 then (if own_f1 ca cp 1 v = 0 then (if own_f1 ca cp 0 v = 0 then -1 else 0) else 1) else 2) else 3) else 4
def own_at (c : Cell) (i : Nat) : Int := (atv c (Int32.ofNat i)).toInt
/-- arities of 0 to 2 and their running sums -/
def own_Tree (ca cp : Cell) : Prop := (∀ i, i < 6 → 0 ≤ own_at ca i ∧ own_at ca i ≤ 2) ∧ own_at cp 0 = 0 ∧ ∀ i, i < 6 → own_at cp (i + 1) = own_at cp i + own_at ca i - 1
theorem own_small {z : Int} (h : -1000 ≤ z) (h' : z ≤ 1000) : z.bmod (2 ^ 32) = z := Int.bmod_eq_of_le (by omega) (by omega)
theorem own_addI {x y : Int32} (h : -400 ≤ x.toInt ∧ x.toInt ≤ 400) (h' : -400 ≤ y.toInt ∧ y.toInt ≤ 400) : (x + y).toInt = x.toInt + y.toInt := by
  rw [Int32.toInt_add]; exact own_small (by omega) (by omega)
theorem own_subI {x y : Int32} (h : -400 ≤ x.toInt ∧ x.toInt ≤ 400) (h' : -400 ≤ y.toInt ∧ y.toInt ≤ 400) : (x - y).toInt = x.toInt - y.toInt := by
  rw [Int32.toInt_sub]; exact own_small (by omega) (by omega)
theorem own_nat {i : Nat} (h : i ≤ 400) : (Int32.ofNat i).toInt = i := Int32.toInt_ofNat_of_lt (by omega)
theorem own_ltI {x y : Int32} : x < y ↔ x.toInt < y.toInt := Int32.lt_iff_toInt_lt
theorem own_eqI {x y : Int32} : x = y ↔ x.toInt = y.toInt := Int32.toInt_inj.symm
theorem own_t0 : (0 : Int32).toInt = 0 := rfl
theorem own_t1 : (1 : Int32).toInt = 1 := rfl
theorem own_t2 : (2 : Int32).toInt = 2 := rfl
theorem own_t6 : (6 : Int32).toInt = 6 := rfl
theorem own_tm : (-1 : Int32).toInt = -1 := rfl
theorem own_bnd {ca cp : Cell} (T : own_Tree ca cp) : ∀ i : Nat, i ≤ 6 → -(i : Int) ≤ own_at cp i ∧ own_at cp i ≤ i
  | 0, _ => by rw [T.2.1]; omega
  | i + 1, h => by
    have := own_bnd T i (by omega); have h1 := T.1 i (by omega); have h2 := T.2.2 i (by omega); omega
theorem own_end_ok {ca cp : Cell} (T : own_Tree ca cp) {s v : Nat} (hsv : s < v) (hv : v ≤ 6) : ∀ (k x : Nat) (o : Int32), 6 - x < k → s ≤ x → x ≤ 6 → 0 ≤ o.toInt → o.toInt = own_at cp x - own_at cp s + 1 →
    ∃ r, own_L4_4 k ca 6 o (Int32.ofNat x) = some r ∧ (r = Int32.ofNat v ↔ (x ≤ v ∧ own_at cp v = own_at cp s - 1 ∧ ∀ j, x ≤ j → j < v → own_at cp s ≤ own_at cp j))
  | 0, _, _, h, _, _, _, _ => absurd h (Nat.not_lt_zero _)
  | k + 1, x, o, hk, hs, hx, h0, ho => by
    have b1 := own_bnd T x hx; have b2 := own_bnd T s (by omega)
    rw [own_L4_4]
    by_cases q : (0 : Int32) < o
    · rw [if_pos q]
      rw [own_ltI, own_t0] at q
      by_cases w : x < 6
      · have w' : Int32.ofNat x < 6 := by rw [own_ltI, own_nat (by omega), own_t6]; omega
        have w0 : ¬ Int32.ofNat x < 0 := by rw [own_ltI, own_nat (by omega), own_t0]; omega
        rw [if_pos w', if_pos ⟨w0, w'⟩]
        have a1 := T.1 x w
        have s1 : ((atv ca (Int32.ofNat x)) - (1 : Int32)).toInt = own_at ca x - 1 := by
          rw [own_subI (by show _ ≤ own_at ca x ∧ own_at ca x ≤ _; omega) (by rw [own_t1]; omega), own_t1]; rfl
        have s2 : (o + ((atv ca (Int32.ofNat x)) - (1 : Int32))).toInt = o.toInt + (own_at ca x - 1) := by
          rw [own_addI (by omega) (by rw [s1]; omega), s1]
        have s3 : Int32.ofNat x + 1 = Int32.ofNat (x + 1) := by
          rw [own_eqI, own_addI (by rw [own_nat (by omega)]; omega) (by rw [own_t1]; omega), own_nat (by omega), own_nat (by omega), own_t1]; omega
        have n1 := T.2.2 x w
        rw [s3]
        obtain ⟨r, h1, h2⟩ := own_end_ok T hsv hv k (x + 1) _ (by omega) (by omega) (by omega) (by rw [s2]; omega) (by rw [s2]; omega)
        refine ⟨r, h1, h2.trans ⟨fun ⟨u1, u2, u3⟩ => ⟨by omega, u2, fun j j1 j2 => ?_⟩, fun ⟨u1, u2, u3⟩ => ⟨?_, u2, fun j j1 j2 => u3 j (by omega) j2⟩⟩⟩
        · rcases Nat.lt_or_ge x j with y | y
          · exact u3 j y j2
          · obtain rfl : j = x := by omega
            omega
        · rcases Nat.lt_or_ge x v with y | y
          · exact y
          · obtain rfl : x = v := by omega
            omega
      · have w' : ¬ Int32.ofNat x < 6 := by rw [own_ltI, own_nat (by omega), own_t6]; omega
        have z : ¬ o = 0 := by rw [own_eqI, own_t0]; omega
        rw [if_neg w', if_neg z]
        refine ⟨_, rfl, ⟨fun h => ?_, fun ⟨u1, u2, u3⟩ => ?_⟩⟩
        · rw [own_eqI, own_tm, own_nat (by omega)] at h; omega
        · obtain rfl : x = v := by omega
          omega
    · rw [if_neg q]
      rw [own_ltI, own_t0] at q
      have z : o = 0 := by rw [own_eqI, own_t0]; omega
      rw [if_pos z]
      refine ⟨_, rfl, ⟨fun h => ?_, fun ⟨u1, u2, u3⟩ => ?_⟩⟩
      · rw [own_eqI, own_nat (by omega), own_nat (by omega)] at h
        obtain rfl : x = v := by omega
        exact ⟨Nat.le_refl _, by omega, fun j j1 j2 => by omega⟩
      · rcases Nat.lt_or_ge x v with y | y
        · have := u3 x (Nat.le_refl _) y; omega
        · obtain rfl : x = v := by omega
          rfl
/-- the node's second subtree ends at v -/
def own_G (ca cp : Cell) (c v : Nat) : Prop := own_at ca c = 2 ∧ own_at cp v = own_at cp (c + 1) - 1 ∧ ∀ j, c + 1 ≤ j → j < v → own_at cp (c + 1) ≤ own_at cp j
theorem own_stay {cp : Cell} {s v j : Nat} (h1 : s ≤ 6) (h2 : v ≤ 6) (h3 : j ≤ 6) : own_f3 cp (Int32.ofNat s) (Int32.ofNat v) (Int32.ofNat j) = 0 ↔ ¬ (s < j → j < v → own_at cp s ≤ own_at cp j) := by
  unfold own_f3
  simp only [own_ltI, own_nat (show s ≤ 400 by omega), own_nat (show v ≤ 400 by omega), own_nat (show j ≤ 400 by omega)]
  have f1 : ¬ (1 : Int32) = 0 := by decide
  by_cases q1 : (s : Int) < j
  · rw [if_pos q1]
    by_cases q2 : (j : Int) < v
    · rw [if_pos q2]
      by_cases q3 : (atv cp (Int32.ofNat j)).toInt < (atv cp (Int32.ofNat s)).toInt
      · rw [if_pos q3]
        exact ⟨fun _ h => by have := h (by omega) (by omega); unfold own_at at this; omega, fun _ => rfl⟩
      · rw [if_neg q3]
        exact ⟨fun h => absurd h f1, fun h => absurd (fun _ _ => by unfold own_at; omega) h⟩
    · rw [if_neg q2]
      exact ⟨fun h => absurd h f1, fun h => absurd (fun _ _ => by omega) h⟩
  · rw [if_neg q1]
    exact ⟨fun h => absurd h f1, fun h => absurd (fun _ _ => by omega) h⟩
theorem own_close_ok {ca cp : Cell} (T : own_Tree ca cp) {c v : Nat} (hc : c ≤ 4) (hv : v ≤ 6) : own_f1 ca cp (Int32.ofNat c) (Int32.ofNat v) = 0 ↔ ¬ (c + 1 < v ∧ own_G ca cp c v) := by
  have e1 : Int32.ofNat c + 1 = Int32.ofNat (c + 1) := by
    rw [own_eqI, own_addI (by rw [own_nat (by omega)]; omega) (by rw [own_t1]; omega), own_nat (by omega), own_nat (by omega), own_t1]; omega
  have f1 : ¬ (1 : Int32) = 0 := by decide
  have b1 := own_bnd T (c + 1) (by omega)
  unfold own_f1
  rw [e1]
  by_cases q1 : atv ca (Int32.ofNat c) = 2
  · rw [if_pos q1]
    have a1 : own_at ca c = 2 := by unfold own_at; rw [q1]; rfl
    by_cases q2 : Int32.ofNat (c + 1) < Int32.ofNat v
    · rw [if_pos q2]
      rw [own_ltI, own_nat (by omega), own_nat (by omega)] at q2
      have s1 : (atv cp (Int32.ofNat (c + 1)) - 1).toInt = own_at cp (c + 1) - 1 := by
        rw [own_subI (by show _ ≤ own_at cp (c + 1) ∧ own_at cp (c + 1) ≤ _; omega) (by rw [own_t1]; omega), own_t1]; rfl
      by_cases q3 : atv cp (Int32.ofNat v) = atv cp (Int32.ofNat (c + 1)) - 1
      · rw [if_pos q3]
        have a2 : own_at cp v = own_at cp (c + 1) - 1 := by rw [own_eqI, s1] at q3; exact q3
        have st := fun j (h : j ≤ 6) => own_stay (cp := cp) (s := c + 1) (v := v) (j := j) (by omega) hv h
        have fin : (c + 1 < v ∧ own_G ca cp c v) ↔ ((c + 1 < 2 → 2 < v → own_at cp (c + 1) ≤ own_at cp 2) ∧ (c + 1 < 3 → 3 < v → own_at cp (c + 1) ≤ own_at cp 3) ∧ (c + 1 < 4 → 4 < v → own_at cp (c + 1) ≤ own_at cp 4) ∧ (c + 1 < 5 → 5 < v → own_at cp (c + 1) ≤ own_at cp 5)) := by
          constructor
          · rintro ⟨_, _, _, h⟩; exact ⟨fun u w => h 2 (by omega) w, fun u w => h 3 (by omega) w, fun u w => h 4 (by omega) w, fun u w => h 5 (by omega) w⟩
          · rintro ⟨h2, h3, h4, h5⟩
            refine ⟨by omega, a1, a2, fun j j1 j2 => ?_⟩
            rcases Nat.lt_or_ge (c + 1) j with y | y
            · rcases (by omega : j = 2 ∨ j = 3 ∨ j = 4 ∨ j = 5) with rfl | rfl | rfl | rfl
              · exact h2 y j2
              · exact h3 y j2
              · exact h4 y j2
              · exact h5 y j2
            · obtain rfl : j = c + 1 := by omega
              exact Int.le_refl _
        rw [fin]
        by_cases z2 : own_f3 cp (Int32.ofNat (c + 1)) (Int32.ofNat v) 2 = 0
        · rw [if_pos z2]; exact ⟨fun _ h => (st 2 (by omega)).mp z2 h.1, fun _ => rfl⟩
        rw [if_neg z2]
        by_cases z3 : own_f3 cp (Int32.ofNat (c + 1)) (Int32.ofNat v) 3 = 0
        · rw [if_pos z3]; exact ⟨fun _ h => (st 3 (by omega)).mp z3 h.2.1, fun _ => rfl⟩
        rw [if_neg z3]
        by_cases z4 : own_f3 cp (Int32.ofNat (c + 1)) (Int32.ofNat v) 4 = 0
        · rw [if_pos z4]; exact ⟨fun _ h => (st 4 (by omega)).mp z4 h.2.2.1, fun _ => rfl⟩
        rw [if_neg z4]
        by_cases z5 : own_f3 cp (Int32.ofNat (c + 1)) (Int32.ofNat v) 5 = 0
        · rw [if_pos z5]; exact ⟨fun _ h => (st 5 (by omega)).mp z5 h.2.2.2, fun _ => rfl⟩
        rw [if_neg z5]
        refine ⟨fun h => absurd h f1, fun h => absurd ⟨?_, ?_, ?_, ?_⟩ h⟩
        · exact Classical.byContradiction fun u => z2 ((st 2 (by omega)).mpr u)
        · exact Classical.byContradiction fun u => z3 ((st 3 (by omega)).mpr u)
        · exact Classical.byContradiction fun u => z4 ((st 4 (by omega)).mpr u)
        · exact Classical.byContradiction fun u => z5 ((st 5 (by omega)).mpr u)
      · rw [if_neg q3]
        exact ⟨fun _ h => q3 (by rw [own_eqI, s1]; exact h.2.2.1), fun _ => rfl⟩
    · rw [if_neg q2]
      rw [own_ltI, own_nat (by omega), own_nat (by omega)] at q2
      exact ⟨fun _ h => by omega, fun _ => rfl⟩
  · rw [if_neg q1]
    exact ⟨fun _ h => q1 (by rw [own_eqI]; exact h.2.1), fun _ => rfl⟩
def own_D : Nat → Int32
  | 0 => -1
  | n + 1 => Int32.ofNat n
def own_max (ca cp : Cell) (v : Nat) : Nat → Int32
  | 0 => -1
  | n + 1 => if own_f1 ca cp (Int32.ofNat n) (Int32.ofNat v) = 0 then own_max ca cp v n else Int32.ofNat n
theorem own_D_step (n : Nat) (h : n ≤ 10) : Int32.ofNat n + (-1) = own_D n := by
  rw [own_eqI, own_addI (by rw [own_nat (by omega)]; omega) (by rw [own_tm]; omega), own_nat (by omega), own_tm]
  cases n with
  | zero => rfl
  | succ n => show _ = (Int32.ofNat n).toInt; rw [own_nat (by omega)]; omega
theorem own_loop_ok {ca cp : Cell} (T : own_Tree ca cp) {v : Nat} (hv : v ≤ 6) : ∀ (k n : Nat), n + 1 ≤ v → n + 1 < k → own_L2_18 k ca 6 (Int32.ofNat v) (-1) (own_D n) = some (own_max ca cp v n)
  | 0, _, _, h => absurd h (Nat.not_lt_zero _)
  | k + 1, 0, _, _ => by rw [own_L2_18, if_pos (by decide)]; rfl
  | k + 1, n + 1, hn, hk => by
    rw [own_L2_18]
    have w0 : ¬ Int32.ofNat n < 0 := by rw [own_ltI, own_nat (by omega), own_t0]; omega
    have w6 : Int32.ofNat n < 6 := by rw [own_ltI, own_nat (by omega), own_t6]; omega
    have e1 : Int32.ofNat n + 1 = Int32.ofNat (n + 1) := by
      rw [own_eqI, own_addI (by rw [own_nat (by omega)]; omega) (by rw [own_t1]; omega), own_nat (by omega), own_nat (by omega), own_t1]; omega
    have ih := own_loop_ok T hv k n (by omega) (by omega)
    have cl := own_close_ok T (c := n) (v := v) (by omega) hv
    show (if Int32.ofNat n < 0 then _ else _) = _
    rw [if_neg w0, if_pos (by decide), if_pos ⟨w0, w6⟩]
    show (if atv ca (Int32.ofNat n) = 2 then (if (own_L4_4 10 ca 6 1 (Int32.ofNat n + 1)).isSome = true then (if (own_L4_4 10 ca 6 1 (Int32.ofNat n + 1)).getD (-1) = Int32.ofNat v then own_L2_18 k ca 6 (Int32.ofNat v) (Int32.ofNat n) (Int32.ofNat n + (-1)) else own_L2_18 k ca 6 (Int32.ofNat v) (-1) (Int32.ofNat n + (-1))) else none) else own_L2_18 k ca 6 (Int32.ofNat v) (-1) (Int32.ofNat n + (-1))) = some (if own_f1 ca cp (Int32.ofNat n) (Int32.ofNat v) = 0 then own_max ca cp v n else Int32.ofNat n)
    rw [own_D_step n (by omega), ih, e1]
    obtain ⟨r, h1, h2⟩ := own_end_ok T (s := n + 1) (v := v) (by omega) hv 10 (n + 1) 1 (by omega) (Nat.le_refl _) (by omega) (by decide) (by rw [own_t1]; omega)
    rw [h1]
    by_cases q1 : atv ca (Int32.ofNat n) = 2
    · rw [if_pos q1, if_pos (show (some r).isSome = true from rfl), show (some r).getD (-1) = r from rfl]
      by_cases q2 : r = Int32.ofNat v
      · rw [if_pos q2]
        obtain ⟨-, u2, u3⟩ := h2.mp q2
        rw [if_neg fun z => cl.mp z ⟨by omega, by unfold own_at; rw [q1]; rfl, u2, u3⟩]
        cases k with
        | zero => omega
        | succ k =>
          rw [own_L2_18]
          by_cases q3 : own_D n < 0
          · rw [if_pos q3]
          · rw [if_neg q3, if_neg w0]
      · rw [if_neg q2, if_pos]
        exact cl.mpr fun ⟨_, _, u2, u3⟩ => q2 (h2.mpr ⟨by omega, u2, u3⟩)
    · rw [if_neg q1, if_pos]
      exact cl.mpr fun ⟨_, u, _⟩ => q1 (by rw [own_eqI]; exact u)
theorem own_max_none {ca cp : Cell} {v : Nat} : ∀ n, (∀ c, c < n → own_f1 ca cp (Int32.ofNat c) (Int32.ofNat v) = 0) → own_max ca cp v n = -1
  | 0, _ => rfl
  | n + 1, h => by rw [own_max, if_pos (h n (by omega))]; exact own_max_none n fun c hc => h c (by omega)
theorem own_exp_ok {ca cp : Cell} (T : own_Tree ca cp) {v : Nat} (hv : v ≤ 6) : own_exp ca cp (Int32.ofNat v) = own_max ca cp v (v - 1) := by
  have far : ∀ c, c ≤ 4 → v ≤ c + 1 → own_f1 ca cp (Int32.ofNat c) (Int32.ofNat v) = 0 := fun c hc h => (own_close_ok T hc hv).mpr fun q => by omega
  have f0 : v ≤ 0 + 1 → own_f1 ca cp 0 (Int32.ofNat v) = 0 := far 0 (by omega)
  have f1 : v ≤ 1 + 1 → own_f1 ca cp 1 (Int32.ofNat v) = 0 := far 1 (by omega)
  have f2 : v ≤ 2 + 1 → own_f1 ca cp 2 (Int32.ofNat v) = 0 := far 2 (by omega)
  have f3 : v ≤ 3 + 1 → own_f1 ca cp 3 (Int32.ofNat v) = 0 := far 3 (by omega)
  have f4 : v ≤ 4 + 1 → own_f1 ca cp 4 (Int32.ofNat v) = 0 := far 4 (by omega)
  unfold own_exp
  rcases (by omega : v = 0 ∨ v = 1 ∨ v = 2 ∨ v = 3 ∨ v = 4 ∨ v = 5 ∨ v = 6) with rfl | rfl | rfl | rfl | rfl | rfl | rfl
  · rw [if_pos (f4 (by omega)), if_pos (f3 (by omega)), if_pos (f2 (by omega)), if_pos (f1 (by omega)), if_pos (f0 (by omega))]; rfl
  · rw [if_pos (f4 (by omega)), if_pos (f3 (by omega)), if_pos (f2 (by omega)), if_pos (f1 (by omega)), if_pos (f0 (by omega))]; rfl
  · rw [if_pos (f4 (by omega)), if_pos (f3 (by omega)), if_pos (f2 (by omega)), if_pos (f1 (by omega))]; rfl
  · rw [if_pos (f4 (by omega)), if_pos (f3 (by omega)), if_pos (f2 (by omega))]; rfl
  · rw [if_pos (f4 (by omega)), if_pos (f3 (by omega))]; rfl
  · rw [if_pos (f4 (by omega))]; rfl
  · rfl
theorem own_sp_nat {ca cp : Cell} (T : own_Tree ca cp) {v : Nat} (hv : v ≤ 6) : own_L2_0 12 ca 6 (Int32.ofNat v) = some (own_exp ca cp (Int32.ofNat v)) := by
  rw [own_L2_0, own_exp_ok T hv]
  by_cases q : v = 0
  · subst q; rw [if_neg (by decide)]; rfl
  · have p0 : (0 : Int32) < Int32.ofNat v := by rw [own_ltI, own_nat (by omega), own_t0]; omega
    have e1 : Int32.ofNat v - 1 = Int32.ofNat (v - 1) := by
      rw [own_eqI, own_subI (by rw [own_nat (by omega)]; omega) (by rw [own_t1]; omega), own_nat (by omega), own_nat (by omega), own_t1]; omega
    have e2 : Int32.ofNat v - 2 = own_D (v - 1) := by
      rw [own_eqI, own_subI (by rw [own_nat (by omega)]; omega) (by rw [own_t2]; omega), own_nat (by omega), own_t2]
      rcases (by omega : v = 1 ∨ 2 ≤ v) with rfl | w
      · rfl
      · obtain ⟨u, rfl⟩ : ∃ u, v = u + 2 := ⟨v - 2, by omega⟩
        show _ = (Int32.ofNat u).toInt
        rw [own_nat (by omega)]; omega
    have w0 : ¬ Int32.ofNat (v - 1) < 0 := by rw [own_ltI, own_nat (by omega), own_t0]; omega
    have w6 : Int32.ofNat (v - 1) < 6 := by rw [own_ltI, own_nat (by omega), own_t6]; omega
    rw [if_pos p0, e1, e2, if_pos ⟨w0, w6⟩]
    by_cases z : atv ca (Int32.ofNat (v - 1)) = 0
    · rw [if_pos z]; exact own_loop_ok T hv 11 (v - 1) (by omega) (by omega)
    · rw [if_neg z, own_max_none (v - 1)]
      intro c hc
      refine (own_close_ok T (by omega) hv).mpr fun ⟨h1, h2, h3, h4⟩ => z ?_
      have h5 := h4 (v - 1) (by omega) (by omega)
      have h6 := T.2.2 (v - 1) (by omega)
      have h7 := T.1 (v - 1) (by omega)
      rw [show v - 1 + 1 = v by omega] at h6
      rw [own_eqI, own_t0]
      show own_at ca (v - 1) = 0
      omega
theorem own_v7 {x z : Int32} (h : z = (x &&& 2147483647) % 7) : ¬ z < 0 ∧ z < 7 := by
  have h1 := c_and x 2147483647 (by decide)
  have h2 := c_irem (x &&& 2147483647) 7 7 (by decide)
  have e7 : (7 : Int32).toInt = 7 := rfl
  rw [h, own_ltI, own_ltI, own_t0, e7]; omega
theorem own_sp_ok {ca cp : Cell} {v : Int32} (hv : ¬ v < 0 ∧ v < 7) (T : own_Tree ca cp) : own_L2_0 12 ca 6 v = some (own_exp ca cp v) := by
  have e7 : (7 : Int32).toInt = 7 := rfl
  rw [own_ltI, own_ltI, own_t0, e7] at hv
  have e : v = Int32.ofNat v.toInt.toNat := by rw [own_eqI, own_nat (by omega)]; omega
  rw [e]; exact own_sp_nat T (by omega)
theorem own_dig {t d z : Int32} (D : Int) (ht : 0 ≤ t.toInt) (hd : d.toInt = D) (hD : 0 < D) (hz : z = (t / d) % 3) : 0 ≤ z.toInt ∧ z.toInt ≤ 2 := by
  have h1 := c_idiv t d D hd (by rw [Ne, own_eqI, own_tm, hd]; omega)
  have h0 : 0 ≤ t.toInt / D := Int.ediv_nonneg ht (by omega)
  have h2 := c_irem (t / d) 3 3 (by decide)
  rw [hz]; omega
theorem own_dig0 {t z : Int32} (ht : 0 ≤ t.toInt) (hz : z = t % 3) : 0 ≤ z.toInt ∧ z.toInt ≤ 2 := by
  have h2 := c_irem t 3 3 (by decide)
  rw [hz]; omega
theorem own_run {p a z : Int32} {b : Int} (hb : 0 ≤ b ∧ b ≤ 100) (hp : -b ≤ p.toInt ∧ p.toInt ≤ b) (ha : 0 ≤ a.toInt ∧ a.toInt ≤ 2) (hz : z = p + a - 1) : z.toInt = p.toInt + a.toInt - 1 ∧ -(b + 1) ≤ z.toInt ∧ z.toInt ≤ b + 1 := by
  have e : (p + a).toInt = p.toInt + a.toInt := own_addI (by omega) (by omega)
  have e2 : z.toInt = p.toInt + a.toInt - 1 := by rw [hz, own_subI (by omega) (by rw [own_t1]; omega), e, own_t1]
  omega
theorem own_tree {ca cp : Cell} {s t z0 z1 z2 z3 z4 z5 p1 p2 p3 p4 p5 p6 : Int32} (ht : t = (s &&& 2147483647) % 729)
    (A : ∀ j : Int32, ¬ j < 0 → j < 6 → atv ca j = [z0, z1, z2, z3, z4, z5].getD j.toNatClampNeg 0) (P : ∀ j : Int32, ¬ j < 0 → j < 7 → atv cp j = [0, p1, p2, p3, p4, p5, p6].getD j.toNatClampNeg 0)
    (h0 : z0 = t % 3) (h1 : z1 = (t / 3) % 3) (h2 : z2 = (t / 9) % 3) (h3 : z3 = (t / 27) % 3) (h4 : z4 = (t / 81) % 3) (h5 : z5 = (t / 243) % 3)
    (q1 : p1 = 0 + z0 - 1) (q2 : p2 = p1 + z1 - 1) (q3 : p3 = p2 + z2 - 1) (q4 : p4 = p3 + z3 - 1) (q5 : p5 = p4 + z4 - 1) (q6 : p6 = p5 + z5 - 1) : own_Tree ca cp := by
  have ht0 : 0 ≤ t.toInt := by
    have h1 := c_and s 2147483647 (by decide)
    have h2 := c_irem (s &&& 2147483647) 729 729 (by decide)
    rw [ht]; omega
  have d0 := own_dig0 ht0 h0
  have d1 := own_dig 3 ht0 rfl (by omega) h1
  have d2 := own_dig 9 ht0 rfl (by omega) h2
  have d3 := own_dig 27 ht0 rfl (by omega) h3
  have d4 := own_dig 81 ht0 rfl (by omega) h4
  have d5 := own_dig 243 ht0 rfl (by omega) h5
  have r1 := own_run (b := 0) (by omega) (by rw [own_t0]; omega) d0 q1
  have r2 := own_run (b := 1) (by omega) (by omega) d1 q2
  have r3 := own_run (b := 2) (by omega) (by omega) d2 q3
  have r4 := own_run (b := 3) (by omega) (by omega) d3 q4
  have r5 := own_run (b := 4) (by omega) (by omega) d4 q5
  have r6 := own_run (b := 5) (by omega) (by omega) d5 q6
  have a0 : own_at ca 0 = z0.toInt := by unfold own_at; rw [A _ (by decide) (by decide)]; rfl
  have a1 : own_at ca 1 = z1.toInt := by unfold own_at; rw [A _ (by decide) (by decide)]; rfl
  have a2 : own_at ca 2 = z2.toInt := by unfold own_at; rw [A _ (by decide) (by decide)]; rfl
  have a3 : own_at ca 3 = z3.toInt := by unfold own_at; rw [A _ (by decide) (by decide)]; rfl
  have a4 : own_at ca 4 = z4.toInt := by unfold own_at; rw [A _ (by decide) (by decide)]; rfl
  have a5 : own_at ca 5 = z5.toInt := by unfold own_at; rw [A _ (by decide) (by decide)]; rfl
  have b0 : own_at cp 0 = 0 := by unfold own_at; rw [P _ (by decide) (by decide)]; rfl
  have b1 : own_at cp 1 = p1.toInt := by unfold own_at; rw [P _ (by decide) (by decide)]; rfl
  have b2 : own_at cp 2 = p2.toInt := by unfold own_at; rw [P _ (by decide) (by decide)]; rfl
  have b3 : own_at cp 3 = p3.toInt := by unfold own_at; rw [P _ (by decide) (by decide)]; rfl
  have b4 : own_at cp 4 = p4.toInt := by unfold own_at; rw [P _ (by decide) (by decide)]; rfl
  have b5 : own_at cp 5 = p5.toInt := by unfold own_at; rw [P _ (by decide) (by decide)]; rfl
  have b6 : own_at cp 6 = p6.toInt := by unfold own_at; rw [P _ (by decide) (by decide)]; rfl
  rw [own_t0] at r1
  refine ⟨fun i hi => ?_, b0, fun i hi => ?_⟩
  · rcases (by omega : i = 0 ∨ i = 1 ∨ i = 2 ∨ i = 3 ∨ i = 4 ∨ i = 5) with rfl | rfl | rfl | rfl | rfl | rfl <;> omega
  · rcases (by omega : i = 0 ∨ i = 1 ∨ i = 2 ∨ i = 3 ∨ i = 4 ∨ i = 5) with rfl | rfl | rfl | rfl | rfl | rfl <;> simp only [Nat.zero_add, Nat.reduceAdd] <;> omega
theorem pd_2 : parseMethodDescriptor "([I[III)Z" = some ⟨[(.array .int), (.array .int), .int, .int], some .boolean⟩ := by decide +kernel
theorem ef_0 (m : MethodId) (p1 : Int32) (p2 : Int32) : entryFrame m #[(.int p1), (.int p2)] maxLocals = mkF m 0 #[.val (.int p1), .val (.int p2), .unset, .unset, .unset, .unset, .unset] [] := by first | (simp [entryFrame, mkF, argsToLocals, Value.category, maxLocals]; done) | rfl
set_option maxRecDepth 65536 in
set_option maxHeartbeats 40000000 in
theorem rm0 (l : Launch) (Z : State) (a0 : Array Value) (hw : ∀ d ∈ tables_1, d.before a0 Z = true) (ws : List Jvm.Cond) (p1 : Int32) (p2 : Int32)  (h0 : Heap) (n0 : Nat) (Z0 : n0 ≤ h0.size) :
    MetFree l x (head1 (Jvm.Cond.code x code maxLocals ret :: ws) room_1) (fun a U => a = #[(.int p1), (.int p2)] ∧ Z.Warmed39 U.vm ∧ U.heap = h0) (fun _ _ _ _ _ => True) (fun _ U o U' => ∃ v L, o = .returned v ∧ own_QL n0 v L ∧ FrameEnd U o U' L room_1.cells room_1.slots) := by
  refine MetFree.of_bodySF (plainFor_of_name pn_3) hisR ?_
  intro p e s m args below meth c s₁ Bd hml0 hP hK
  obtain ⟨rfl, hZ, hh⟩ := hP
  have hx := Bd.exec
  have hby := Bd.bytes
  have hml : c.maxLocals = 7 := hml0
  have hown : s.vm.findClass "com/example/compact_concepts/compactconcepts/TreeShapesSecondParentPinLaw" = some m.cls := findClass_of_methodNamed Bd.named
  have hnm := (name_of_methodNamed Bd.named Bd.method).1
  have X0 : Stand p l e room_1 s m #[(.int p1), (.int p2)] below meth c s₁ [] 0 0 := Stand.of_body Bd
  have e0 : s₁.heap = h0 := by rw [← hh, Bd.state]; rfl
  have N0 := Fr.nil n0
  obtain ⟨S0, hS0⟩ : ∃ z, z = s₁.setTop (entryFrame m #[(.int p1), (.int p2)] maxLocals) := ⟨_, rfl⟩
  have P0 : own_Pr p.tables e below S0 s₁ (mkF m 0 #[.val (.int p1), .val (.int p2), .unset, .unset, .unset, .unset, .unset] []) := fun t k => hS0 ▸ castTop (ef_0 m p1 p2) k
  have P1 : own_Pr p.tables e below S0 s₁ (mkF m 9 #[.val (.int p1), .val (.int p2), .val (.int ((p1 &&& (2147483647 : Int32)) % (729 : Int32))), .unset, .unset, .unset, .unset] []) := fun t k => P0 t (by
    refine XS.iloadN X0.here hx rfl (hb hby at_0) rfl ?_
    show Steps p.tables e below (s₁.setTop (mkF m 1 #[.val (.int p1), .val (.int p2), .unset, .unset, .unset, .unset, .unset] [(.int p1)])) _
    refine X0.ldcInt hx hown (mvT hZ (hw _ (List.mem_of_getElem? (i := 0) rfl))) (g := (mkF m 1 #[.val (.int p1), .val (.int p2), .unset, .unset, .unset, .unset, .unset] [(.int p1)])) rfl (hb hby at_1) _ ?_
    show Steps p.tables e below (s₁.setTop (mkF m 3 #[.val (.int p1), .val (.int p2), .unset, .unset, .unset, .unset, .unset] [(.int (2147483647 : Int32)), (.int p1)])) _
    refine XS.iand X0.here hx rfl (hb hby at_3) rfl ?_
    show Steps p.tables e below (s₁.setTop (mkF m 4 #[.val (.int p1), .val (.int p2), .unset, .unset, .unset, .unset, .unset] [(.int (p1 &&& (2147483647 : Int32)))])) _
    refine XS.sipush X0.here hx rfl (hb hby at_4) ?_
    show Steps p.tables e below (s₁.setTop (mkF m 7 #[.val (.int p1), .val (.int p2), .unset, .unset, .unset, .unset, .unset] [(.int (729 : Int32)), (.int (p1 &&& (2147483647 : Int32)))])) _
    refine iremM X0 hx rfl (hb hby at_7) rfl (by decide) ?_
    show Steps p.tables e below (s₁.setTop (mkF m 8 #[.val (.int p1), .val (.int p2), .unset, .unset, .unset, .unset, .unset] [(.int ((p1 &&& (2147483647 : Int32)) % (729 : Int32)))])) _
    refine XS.istoreN X0.here hx rfl (hb hby at_8) rfl (l' := #[.val (.int p1), .val (.int p2), .val (.int ((p1 &&& (2147483647 : Int32)) % (729 : Int32))), .unset, .unset, .unset, .unset]) rfl ?_
    show Steps p.tables e below (s₁.setTop (mkF m 9 #[.val (.int p1), .val (.int p2), .val (.int ((p1 &&& (2147483647 : Int32)) % (729 : Int32))), .unset, .unset, .unset, .unset] [])) _
    exact k)
  obtain ⟨z2, hz2⟩ : ∃ z, z = ((p1 &&& (2147483647 : Int32)) % (729 : Int32)) := ⟨_, rfl⟩
  rw [← hz2] at P1
  have P3 : own_Pr p.tables e below S0 s₁ (mkF m 11 #[.val (.int p1), .val (.int p2), .val (.int z2), .unset, .unset, .unset, .unset] [(.int (6 : Int32))]) := fun t k => P1 t (by
    refine XS.bipush X0.here hx rfl (hb hby at_9) ?_
    show Steps p.tables e below (s₁.setTop (mkF m 11 #[.val (.int p1), .val (.int p2), .val (.int z2), .unset, .unset, .unset, .unset] [(.int (6 : Int32))])) _
    exact k)
  obtain ⟨T4, h4, k4, X4, e4, E4, A4, st4⟩ := newP X0 hx hZ (hw _ (List.mem_of_getElem? (i := 1) rfl)) e0 (g := (mkF m 11 #[.val (.int p1), .val (.int p2), .val (.int z2), .unset, .unset, .unset, .unset] [(.int (6 : Int32))])) rfl (hb hby at_11) rfl (by decide) (cap := 6) (by decide) (by decide) (by decide) (by decide)
  obtain ⟨b4, g4⟩ : ∃ z, z = h0.size := ⟨_, rfl⟩
  rw [← g4] at A4 st4
  have g_b4 : n0 ≤ b4 := Nat.le_trans Z0 (Nat.le_of_eq g4.symm)
  have Z5 : n0 ≤ h4.size := Nat.le_trans Z0 E4.1
  have F6 : Arv Z h4 b4 k4 .int (6 : Int32) [(.int (0 : Int32)), (.int (0 : Int32)), (.int (0 : Int32)), (.int (0 : Int32)), (.int (0 : Int32)), (.int (0 : Int32))] (.int (0 : Int32)) := (Arv.new A4 (by decide)).pad (pad_rep [] (.int (0 : Int32)) 6)
  have P7 : own_Pr p.tables e below S0 T4 (mkF m 13 #[.val (.int p1), .val (.int p2), .val (.int z2), .unset, .unset, .unset, .unset] [(.ref b4)]) := fun t k => P3 t (st4 _ k)
  have P8 : own_Pr p.tables e below S0 T4 (mkF m 19 #[.val (.int p1), .val (.int p2), .val (.int z2), .val (.ref b4), .unset, .unset, .unset] [(.int (z2 % (3 : Int32))), (.int (0 : Int32)), (.ref b4)]) := fun t k => P7 t (by
    refine XS.astoreN X4.here hx rfl (hb hby at_13) rfl rfl (l' := #[.val (.int p1), .val (.int p2), .val (.int z2), .val (.ref b4), .unset, .unset, .unset]) rfl ?_
    show Steps p.tables e below (T4.setTop (mkF m 14 #[.val (.int p1), .val (.int p2), .val (.int z2), .val (.ref b4), .unset, .unset, .unset] [])) _
    refine XS.aloadN X4.here hx rfl (hb hby at_14) rfl rfl ?_
    show Steps p.tables e below (T4.setTop (mkF m 15 #[.val (.int p1), .val (.int p2), .val (.int z2), .val (.ref b4), .unset, .unset, .unset] [(.ref b4)])) _
    refine XS.iconst X4.here hx rfl (hb hby at_15) ?_
    show Steps p.tables e below (T4.setTop (mkF m 16 #[.val (.int p1), .val (.int p2), .val (.int z2), .val (.ref b4), .unset, .unset, .unset] [(.int (0 : Int32)), (.ref b4)])) _
    refine XS.iloadN X4.here hx rfl (hb hby at_16) rfl ?_
    show Steps p.tables e below (T4.setTop (mkF m 17 #[.val (.int p1), .val (.int p2), .val (.int z2), .val (.ref b4), .unset, .unset, .unset] [(.int z2), (.int (0 : Int32)), (.ref b4)])) _
    refine XS.iconst X4.here hx rfl (hb hby at_17) ?_
    show Steps p.tables e below (T4.setTop (mkF m 18 #[.val (.int p1), .val (.int p2), .val (.int z2), .val (.ref b4), .unset, .unset, .unset] [(.int (3 : Int32)), (.int z2), (.int (0 : Int32)), (.ref b4)])) _
    refine iremM X4 hx rfl (hb hby at_18) rfl (by decide) ?_
    show Steps p.tables e below (T4.setTop (mkF m 19 #[.val (.int p1), .val (.int p2), .val (.int z2), .val (.ref b4), .unset, .unset, .unset] [(.int (z2 % (3 : Int32))), (.int (0 : Int32)), (.ref b4)])) _
    exact k)
  obtain ⟨z9, hz9⟩ : ∃ z, z = (z2 % (3 : Int32)) := ⟨_, rfl⟩
  rw [← hz9] at P8
  obtain ⟨cl10, Ar10, q10, S10, N10, H10, G10⟩ := id F6
  have hin10 : ¬ ((0 : Int32) < 0 ∨ cl10.slots.size ≤ ((0 : Int32)).toNatClampNeg) := inb_of S10 ⟨by decide, by decide⟩
  obtain ⟨T10, h10, X10, e10, W10, st10⟩ := stI X4 hx hZ e4 Ar10 (j := (0 : Int32)) hin10 (g := (mkF m 19 #[.val (.int p1), .val (.int p2), .val (.int z2), .val (.ref b4), .unset, .unset, .unset] [(.int z9), (.int (0 : Int32)), (.ref b4)])) rfl rfl (hb hby at_19)
  have V10 : Arv Z h10 b4 k4 .int (6 : Int32) [(.int z9), (.int (0 : Int32)), (.int (0 : Int32)), (.int (0 : Int32)), (.int (0 : Int32)), (.int (0 : Int32))] (.int (0 : Int32)) := Arv.set Ar10 q10 S10 N10 H10 G10 rfl W10 0 rfl (Nat.le_of_ble_eq_true rfl)
  have Z11 : n0 ≤ h10.size := by rw [W10.size]; exact Z5
  have NF10 := Fr.snoc X10 N0 g_b4
  have P12 : own_Pr p.tables e below S0 T10 (mkF m 20 #[.val (.int p1), .val (.int p2), .val (.int z2), .val (.ref b4), .unset, .unset, .unset] []) := fun t k => P8 t (st10 _ k)
  have P13 : own_Pr p.tables e below S0 T10 (mkF m 27 #[.val (.int p1), .val (.int p2), .val (.int z2), .val (.ref b4), .unset, .unset, .unset] [(.int ((z2 / (3 : Int32)) % (3 : Int32))), (.int (1 : Int32)), (.ref b4)]) := fun t k => P12 t (by
    refine XS.aloadN X10.here hx rfl (hb hby at_20) rfl rfl ?_
    show Steps p.tables e below (T10.setTop (mkF m 21 #[.val (.int p1), .val (.int p2), .val (.int z2), .val (.ref b4), .unset, .unset, .unset] [(.ref b4)])) _
    refine XS.iconst X10.here hx rfl (hb hby at_21) ?_
    show Steps p.tables e below (T10.setTop (mkF m 22 #[.val (.int p1), .val (.int p2), .val (.int z2), .val (.ref b4), .unset, .unset, .unset] [(.int (1 : Int32)), (.ref b4)])) _
    refine XS.iloadN X10.here hx rfl (hb hby at_22) rfl ?_
    show Steps p.tables e below (T10.setTop (mkF m 23 #[.val (.int p1), .val (.int p2), .val (.int z2), .val (.ref b4), .unset, .unset, .unset] [(.int z2), (.int (1 : Int32)), (.ref b4)])) _
    refine XS.iconst X10.here hx rfl (hb hby at_23) ?_
    show Steps p.tables e below (T10.setTop (mkF m 24 #[.val (.int p1), .val (.int p2), .val (.int z2), .val (.ref b4), .unset, .unset, .unset] [(.int (3 : Int32)), (.int z2), (.int (1 : Int32)), (.ref b4)])) _
    refine XS.idiv X10.here hx rfl (hb hby at_24) rfl (by decide) ?_
    show Steps p.tables e below (T10.setTop (mkF m 25 #[.val (.int p1), .val (.int p2), .val (.int z2), .val (.ref b4), .unset, .unset, .unset] [(.int (z2 / (3 : Int32))), (.int (1 : Int32)), (.ref b4)])) _
    refine XS.iconst X10.here hx rfl (hb hby at_25) ?_
    show Steps p.tables e below (T10.setTop (mkF m 26 #[.val (.int p1), .val (.int p2), .val (.int z2), .val (.ref b4), .unset, .unset, .unset] [(.int (3 : Int32)), (.int (z2 / (3 : Int32))), (.int (1 : Int32)), (.ref b4)])) _
    refine iremM X10 hx rfl (hb hby at_26) rfl (by decide) ?_
    show Steps p.tables e below (T10.setTop (mkF m 27 #[.val (.int p1), .val (.int p2), .val (.int z2), .val (.ref b4), .unset, .unset, .unset] [(.int ((z2 / (3 : Int32)) % (3 : Int32))), (.int (1 : Int32)), (.ref b4)])) _
    exact k)
  obtain ⟨z14, hz14⟩ : ∃ z, z = ((z2 / (3 : Int32)) % (3 : Int32)) := ⟨_, rfl⟩
  rw [← hz14] at P13
  obtain ⟨cl15, Ar15, q15, S15, N15, H15, G15⟩ := id V10
  have hin15 : ¬ ((1 : Int32) < 0 ∨ cl15.slots.size ≤ ((1 : Int32)).toNatClampNeg) := inb_of S15 ⟨by decide, by decide⟩
  obtain ⟨T15, h15, X15, e15, W15, st15⟩ := stI X10 hx hZ e10 Ar15 (j := (1 : Int32)) hin15 (g := (mkF m 27 #[.val (.int p1), .val (.int p2), .val (.int z2), .val (.ref b4), .unset, .unset, .unset] [(.int z14), (.int (1 : Int32)), (.ref b4)])) rfl rfl (hb hby at_27)
  have V15 : Arv Z h15 b4 k4 .int (6 : Int32) [(.int z9), (.int z14), (.int (0 : Int32)), (.int (0 : Int32)), (.int (0 : Int32)), (.int (0 : Int32))] (.int (0 : Int32)) := Arv.set Ar15 q15 S15 N15 H15 G15 rfl W15 1 rfl (Nat.le_of_ble_eq_true rfl)
  have Z16 : n0 ≤ h15.size := by rw [W15.size]; exact Z11
  have NF15 := Fr.snoc X15 NF10 g_b4
  have P17 : own_Pr p.tables e below S0 T15 (mkF m 28 #[.val (.int p1), .val (.int p2), .val (.int z2), .val (.ref b4), .unset, .unset, .unset] []) := fun t k => P13 t (st15 _ k)
  have P18 : own_Pr p.tables e below S0 T15 (mkF m 36 #[.val (.int p1), .val (.int p2), .val (.int z2), .val (.ref b4), .unset, .unset, .unset] [(.int ((z2 / (9 : Int32)) % (3 : Int32))), (.int (2 : Int32)), (.ref b4)]) := fun t k => P17 t (by
    refine XS.aloadN X15.here hx rfl (hb hby at_28) rfl rfl ?_
    show Steps p.tables e below (T15.setTop (mkF m 29 #[.val (.int p1), .val (.int p2), .val (.int z2), .val (.ref b4), .unset, .unset, .unset] [(.ref b4)])) _
    refine XS.iconst X15.here hx rfl (hb hby at_29) ?_
    show Steps p.tables e below (T15.setTop (mkF m 30 #[.val (.int p1), .val (.int p2), .val (.int z2), .val (.ref b4), .unset, .unset, .unset] [(.int (2 : Int32)), (.ref b4)])) _
    refine XS.iloadN X15.here hx rfl (hb hby at_30) rfl ?_
    show Steps p.tables e below (T15.setTop (mkF m 31 #[.val (.int p1), .val (.int p2), .val (.int z2), .val (.ref b4), .unset, .unset, .unset] [(.int z2), (.int (2 : Int32)), (.ref b4)])) _
    refine XS.bipush X15.here hx rfl (hb hby at_31) ?_
    show Steps p.tables e below (T15.setTop (mkF m 33 #[.val (.int p1), .val (.int p2), .val (.int z2), .val (.ref b4), .unset, .unset, .unset] [(.int (9 : Int32)), (.int z2), (.int (2 : Int32)), (.ref b4)])) _
    refine XS.idiv X15.here hx rfl (hb hby at_33) rfl (by decide) ?_
    show Steps p.tables e below (T15.setTop (mkF m 34 #[.val (.int p1), .val (.int p2), .val (.int z2), .val (.ref b4), .unset, .unset, .unset] [(.int (z2 / (9 : Int32))), (.int (2 : Int32)), (.ref b4)])) _
    refine XS.iconst X15.here hx rfl (hb hby at_34) ?_
    show Steps p.tables e below (T15.setTop (mkF m 35 #[.val (.int p1), .val (.int p2), .val (.int z2), .val (.ref b4), .unset, .unset, .unset] [(.int (3 : Int32)), (.int (z2 / (9 : Int32))), (.int (2 : Int32)), (.ref b4)])) _
    refine iremM X15 hx rfl (hb hby at_35) rfl (by decide) ?_
    show Steps p.tables e below (T15.setTop (mkF m 36 #[.val (.int p1), .val (.int p2), .val (.int z2), .val (.ref b4), .unset, .unset, .unset] [(.int ((z2 / (9 : Int32)) % (3 : Int32))), (.int (2 : Int32)), (.ref b4)])) _
    exact k)
  obtain ⟨z19, hz19⟩ : ∃ z, z = ((z2 / (9 : Int32)) % (3 : Int32)) := ⟨_, rfl⟩
  rw [← hz19] at P18
  obtain ⟨cl20, Ar20, q20, S20, N20, H20, G20⟩ := id V15
  have hin20 : ¬ ((2 : Int32) < 0 ∨ cl20.slots.size ≤ ((2 : Int32)).toNatClampNeg) := inb_of S20 ⟨by decide, by decide⟩
  obtain ⟨T20, h20, X20, e20, W20, st20⟩ := stI X15 hx hZ e15 Ar20 (j := (2 : Int32)) hin20 (g := (mkF m 36 #[.val (.int p1), .val (.int p2), .val (.int z2), .val (.ref b4), .unset, .unset, .unset] [(.int z19), (.int (2 : Int32)), (.ref b4)])) rfl rfl (hb hby at_36)
  have V20 : Arv Z h20 b4 k4 .int (6 : Int32) [(.int z9), (.int z14), (.int z19), (.int (0 : Int32)), (.int (0 : Int32)), (.int (0 : Int32))] (.int (0 : Int32)) := Arv.set Ar20 q20 S20 N20 H20 G20 rfl W20 2 rfl (Nat.le_of_ble_eq_true rfl)
  have Z21 : n0 ≤ h20.size := by rw [W20.size]; exact Z16
  have NF20 := Fr.snoc X20 NF15 g_b4
  have P22 : own_Pr p.tables e below S0 T20 (mkF m 37 #[.val (.int p1), .val (.int p2), .val (.int z2), .val (.ref b4), .unset, .unset, .unset] []) := fun t k => P18 t (st20 _ k)
  have P23 : own_Pr p.tables e below S0 T20 (mkF m 45 #[.val (.int p1), .val (.int p2), .val (.int z2), .val (.ref b4), .unset, .unset, .unset] [(.int ((z2 / (27 : Int32)) % (3 : Int32))), (.int (3 : Int32)), (.ref b4)]) := fun t k => P22 t (by
    refine XS.aloadN X20.here hx rfl (hb hby at_37) rfl rfl ?_
    show Steps p.tables e below (T20.setTop (mkF m 38 #[.val (.int p1), .val (.int p2), .val (.int z2), .val (.ref b4), .unset, .unset, .unset] [(.ref b4)])) _
    refine XS.iconst X20.here hx rfl (hb hby at_38) ?_
    show Steps p.tables e below (T20.setTop (mkF m 39 #[.val (.int p1), .val (.int p2), .val (.int z2), .val (.ref b4), .unset, .unset, .unset] [(.int (3 : Int32)), (.ref b4)])) _
    refine XS.iloadN X20.here hx rfl (hb hby at_39) rfl ?_
    show Steps p.tables e below (T20.setTop (mkF m 40 #[.val (.int p1), .val (.int p2), .val (.int z2), .val (.ref b4), .unset, .unset, .unset] [(.int z2), (.int (3 : Int32)), (.ref b4)])) _
    refine XS.bipush X20.here hx rfl (hb hby at_40) ?_
    show Steps p.tables e below (T20.setTop (mkF m 42 #[.val (.int p1), .val (.int p2), .val (.int z2), .val (.ref b4), .unset, .unset, .unset] [(.int (27 : Int32)), (.int z2), (.int (3 : Int32)), (.ref b4)])) _
    refine XS.idiv X20.here hx rfl (hb hby at_42) rfl (by decide) ?_
    show Steps p.tables e below (T20.setTop (mkF m 43 #[.val (.int p1), .val (.int p2), .val (.int z2), .val (.ref b4), .unset, .unset, .unset] [(.int (z2 / (27 : Int32))), (.int (3 : Int32)), (.ref b4)])) _
    refine XS.iconst X20.here hx rfl (hb hby at_43) ?_
    show Steps p.tables e below (T20.setTop (mkF m 44 #[.val (.int p1), .val (.int p2), .val (.int z2), .val (.ref b4), .unset, .unset, .unset] [(.int (3 : Int32)), (.int (z2 / (27 : Int32))), (.int (3 : Int32)), (.ref b4)])) _
    refine iremM X20 hx rfl (hb hby at_44) rfl (by decide) ?_
    show Steps p.tables e below (T20.setTop (mkF m 45 #[.val (.int p1), .val (.int p2), .val (.int z2), .val (.ref b4), .unset, .unset, .unset] [(.int ((z2 / (27 : Int32)) % (3 : Int32))), (.int (3 : Int32)), (.ref b4)])) _
    exact k)
  obtain ⟨z24, hz24⟩ : ∃ z, z = ((z2 / (27 : Int32)) % (3 : Int32)) := ⟨_, rfl⟩
  rw [← hz24] at P23
  obtain ⟨cl25, Ar25, q25, S25, N25, H25, G25⟩ := id V20
  have hin25 : ¬ ((3 : Int32) < 0 ∨ cl25.slots.size ≤ ((3 : Int32)).toNatClampNeg) := inb_of S25 ⟨by decide, by decide⟩
  obtain ⟨T25, h25, X25, e25, W25, st25⟩ := stI X20 hx hZ e20 Ar25 (j := (3 : Int32)) hin25 (g := (mkF m 45 #[.val (.int p1), .val (.int p2), .val (.int z2), .val (.ref b4), .unset, .unset, .unset] [(.int z24), (.int (3 : Int32)), (.ref b4)])) rfl rfl (hb hby at_45)
  have V25 : Arv Z h25 b4 k4 .int (6 : Int32) [(.int z9), (.int z14), (.int z19), (.int z24), (.int (0 : Int32)), (.int (0 : Int32))] (.int (0 : Int32)) := Arv.set Ar25 q25 S25 N25 H25 G25 rfl W25 3 rfl (Nat.le_of_ble_eq_true rfl)
  have Z26 : n0 ≤ h25.size := by rw [W25.size]; exact Z21
  have NF25 := Fr.snoc X25 NF20 g_b4
  have P27 : own_Pr p.tables e below S0 T25 (mkF m 46 #[.val (.int p1), .val (.int p2), .val (.int z2), .val (.ref b4), .unset, .unset, .unset] []) := fun t k => P23 t (st25 _ k)
  have P28 : own_Pr p.tables e below S0 T25 (mkF m 54 #[.val (.int p1), .val (.int p2), .val (.int z2), .val (.ref b4), .unset, .unset, .unset] [(.int ((z2 / (81 : Int32)) % (3 : Int32))), (.int (4 : Int32)), (.ref b4)]) := fun t k => P27 t (by
    refine XS.aloadN X25.here hx rfl (hb hby at_46) rfl rfl ?_
    show Steps p.tables e below (T25.setTop (mkF m 47 #[.val (.int p1), .val (.int p2), .val (.int z2), .val (.ref b4), .unset, .unset, .unset] [(.ref b4)])) _
    refine XS.iconst X25.here hx rfl (hb hby at_47) ?_
    show Steps p.tables e below (T25.setTop (mkF m 48 #[.val (.int p1), .val (.int p2), .val (.int z2), .val (.ref b4), .unset, .unset, .unset] [(.int (4 : Int32)), (.ref b4)])) _
    refine XS.iloadN X25.here hx rfl (hb hby at_48) rfl ?_
    show Steps p.tables e below (T25.setTop (mkF m 49 #[.val (.int p1), .val (.int p2), .val (.int z2), .val (.ref b4), .unset, .unset, .unset] [(.int z2), (.int (4 : Int32)), (.ref b4)])) _
    refine XS.bipush X25.here hx rfl (hb hby at_49) ?_
    show Steps p.tables e below (T25.setTop (mkF m 51 #[.val (.int p1), .val (.int p2), .val (.int z2), .val (.ref b4), .unset, .unset, .unset] [(.int (81 : Int32)), (.int z2), (.int (4 : Int32)), (.ref b4)])) _
    refine XS.idiv X25.here hx rfl (hb hby at_51) rfl (by decide) ?_
    show Steps p.tables e below (T25.setTop (mkF m 52 #[.val (.int p1), .val (.int p2), .val (.int z2), .val (.ref b4), .unset, .unset, .unset] [(.int (z2 / (81 : Int32))), (.int (4 : Int32)), (.ref b4)])) _
    refine XS.iconst X25.here hx rfl (hb hby at_52) ?_
    show Steps p.tables e below (T25.setTop (mkF m 53 #[.val (.int p1), .val (.int p2), .val (.int z2), .val (.ref b4), .unset, .unset, .unset] [(.int (3 : Int32)), (.int (z2 / (81 : Int32))), (.int (4 : Int32)), (.ref b4)])) _
    refine iremM X25 hx rfl (hb hby at_53) rfl (by decide) ?_
    show Steps p.tables e below (T25.setTop (mkF m 54 #[.val (.int p1), .val (.int p2), .val (.int z2), .val (.ref b4), .unset, .unset, .unset] [(.int ((z2 / (81 : Int32)) % (3 : Int32))), (.int (4 : Int32)), (.ref b4)])) _
    exact k)
  obtain ⟨z29, hz29⟩ : ∃ z, z = ((z2 / (81 : Int32)) % (3 : Int32)) := ⟨_, rfl⟩
  rw [← hz29] at P28
  obtain ⟨cl30, Ar30, q30, S30, N30, H30, G30⟩ := id V25
  have hin30 : ¬ ((4 : Int32) < 0 ∨ cl30.slots.size ≤ ((4 : Int32)).toNatClampNeg) := inb_of S30 ⟨by decide, by decide⟩
  obtain ⟨T30, h30, X30, e30, W30, st30⟩ := stI X25 hx hZ e25 Ar30 (j := (4 : Int32)) hin30 (g := (mkF m 54 #[.val (.int p1), .val (.int p2), .val (.int z2), .val (.ref b4), .unset, .unset, .unset] [(.int z29), (.int (4 : Int32)), (.ref b4)])) rfl rfl (hb hby at_54)
  have V30 : Arv Z h30 b4 k4 .int (6 : Int32) [(.int z9), (.int z14), (.int z19), (.int z24), (.int z29), (.int (0 : Int32))] (.int (0 : Int32)) := Arv.set Ar30 q30 S30 N30 H30 G30 rfl W30 4 rfl (Nat.le_of_ble_eq_true rfl)
  have Z31 : n0 ≤ h30.size := by rw [W30.size]; exact Z26
  have NF30 := Fr.snoc X30 NF25 g_b4
  have P32 : own_Pr p.tables e below S0 T30 (mkF m 55 #[.val (.int p1), .val (.int p2), .val (.int z2), .val (.ref b4), .unset, .unset, .unset] []) := fun t k => P28 t (st30 _ k)
  have P33 : own_Pr p.tables e below S0 T30 (mkF m 64 #[.val (.int p1), .val (.int p2), .val (.int z2), .val (.ref b4), .unset, .unset, .unset] [(.int ((z2 / (243 : Int32)) % (3 : Int32))), (.int (5 : Int32)), (.ref b4)]) := fun t k => P32 t (by
    refine XS.aloadN X30.here hx rfl (hb hby at_55) rfl rfl ?_
    show Steps p.tables e below (T30.setTop (mkF m 56 #[.val (.int p1), .val (.int p2), .val (.int z2), .val (.ref b4), .unset, .unset, .unset] [(.ref b4)])) _
    refine XS.iconst X30.here hx rfl (hb hby at_56) ?_
    show Steps p.tables e below (T30.setTop (mkF m 57 #[.val (.int p1), .val (.int p2), .val (.int z2), .val (.ref b4), .unset, .unset, .unset] [(.int (5 : Int32)), (.ref b4)])) _
    refine XS.iloadN X30.here hx rfl (hb hby at_57) rfl ?_
    show Steps p.tables e below (T30.setTop (mkF m 58 #[.val (.int p1), .val (.int p2), .val (.int z2), .val (.ref b4), .unset, .unset, .unset] [(.int z2), (.int (5 : Int32)), (.ref b4)])) _
    refine XS.sipush X30.here hx rfl (hb hby at_58) ?_
    show Steps p.tables e below (T30.setTop (mkF m 61 #[.val (.int p1), .val (.int p2), .val (.int z2), .val (.ref b4), .unset, .unset, .unset] [(.int (243 : Int32)), (.int z2), (.int (5 : Int32)), (.ref b4)])) _
    refine XS.idiv X30.here hx rfl (hb hby at_61) rfl (by decide) ?_
    show Steps p.tables e below (T30.setTop (mkF m 62 #[.val (.int p1), .val (.int p2), .val (.int z2), .val (.ref b4), .unset, .unset, .unset] [(.int (z2 / (243 : Int32))), (.int (5 : Int32)), (.ref b4)])) _
    refine XS.iconst X30.here hx rfl (hb hby at_62) ?_
    show Steps p.tables e below (T30.setTop (mkF m 63 #[.val (.int p1), .val (.int p2), .val (.int z2), .val (.ref b4), .unset, .unset, .unset] [(.int (3 : Int32)), (.int (z2 / (243 : Int32))), (.int (5 : Int32)), (.ref b4)])) _
    refine iremM X30 hx rfl (hb hby at_63) rfl (by decide) ?_
    show Steps p.tables e below (T30.setTop (mkF m 64 #[.val (.int p1), .val (.int p2), .val (.int z2), .val (.ref b4), .unset, .unset, .unset] [(.int ((z2 / (243 : Int32)) % (3 : Int32))), (.int (5 : Int32)), (.ref b4)])) _
    exact k)
  obtain ⟨z34, hz34⟩ : ∃ z, z = ((z2 / (243 : Int32)) % (3 : Int32)) := ⟨_, rfl⟩
  rw [← hz34] at P33
  obtain ⟨cl35, Ar35, q35, S35, N35, H35, G35⟩ := id V30
  have hin35 : ¬ ((5 : Int32) < 0 ∨ cl35.slots.size ≤ ((5 : Int32)).toNatClampNeg) := inb_of S35 ⟨by decide, by decide⟩
  obtain ⟨T35, h35, X35, e35, W35, st35⟩ := stI X30 hx hZ e30 Ar35 (j := (5 : Int32)) hin35 (g := (mkF m 64 #[.val (.int p1), .val (.int p2), .val (.int z2), .val (.ref b4), .unset, .unset, .unset] [(.int z34), (.int (5 : Int32)), (.ref b4)])) rfl rfl (hb hby at_64)
  have V35 : Arv Z h35 b4 k4 .int (6 : Int32) [(.int z9), (.int z14), (.int z19), (.int z24), (.int z29), (.int z34)] (.int (0 : Int32)) := Arv.set Ar35 q35 S35 N35 H35 G35 rfl W35 5 rfl (Nat.le_of_ble_eq_true rfl)
  have Z36 : n0 ≤ h35.size := by rw [W35.size]; exact Z31
  have NF35 := Fr.snoc X35 NF30 g_b4
  have P37 : own_Pr p.tables e below S0 T35 (mkF m 65 #[.val (.int p1), .val (.int p2), .val (.int z2), .val (.ref b4), .unset, .unset, .unset] []) := fun t k => P33 t (st35 _ k)
  have P38 : own_Pr p.tables e below S0 T35 (mkF m 74 #[.val (.int p1), .val (.int p2), .val (.int z2), .val (.ref b4), .val (.int ((p2 &&& (2147483647 : Int32)) % (7 : Int32))), .unset, .unset] []) := fun t k => P37 t (by
    refine XS.iloadN X35.here hx rfl (hb hby at_65) rfl ?_
    show Steps p.tables e below (T35.setTop (mkF m 66 #[.val (.int p1), .val (.int p2), .val (.int z2), .val (.ref b4), .unset, .unset, .unset] [(.int p2)])) _
    refine X35.ldcInt hx hown (mvT hZ (hw _ (List.mem_of_getElem? (i := 0) rfl))) (g := (mkF m 66 #[.val (.int p1), .val (.int p2), .val (.int z2), .val (.ref b4), .unset, .unset, .unset] [(.int p2)])) rfl (hb hby at_66) _ ?_
    show Steps p.tables e below (T35.setTop (mkF m 68 #[.val (.int p1), .val (.int p2), .val (.int z2), .val (.ref b4), .unset, .unset, .unset] [(.int (2147483647 : Int32)), (.int p2)])) _
    refine XS.iand X35.here hx rfl (hb hby at_68) rfl ?_
    show Steps p.tables e below (T35.setTop (mkF m 69 #[.val (.int p1), .val (.int p2), .val (.int z2), .val (.ref b4), .unset, .unset, .unset] [(.int (p2 &&& (2147483647 : Int32)))])) _
    refine XS.bipush X35.here hx rfl (hb hby at_69) ?_
    show Steps p.tables e below (T35.setTop (mkF m 71 #[.val (.int p1), .val (.int p2), .val (.int z2), .val (.ref b4), .unset, .unset, .unset] [(.int (7 : Int32)), (.int (p2 &&& (2147483647 : Int32)))])) _
    refine iremM X35 hx rfl (hb hby at_71) rfl (by decide) ?_
    show Steps p.tables e below (T35.setTop (mkF m 72 #[.val (.int p1), .val (.int p2), .val (.int z2), .val (.ref b4), .unset, .unset, .unset] [(.int ((p2 &&& (2147483647 : Int32)) % (7 : Int32)))])) _
    refine XS.istore X35.here hx rfl (hb hby at_72) rfl (l' := #[.val (.int p1), .val (.int p2), .val (.int z2), .val (.ref b4), .val (.int ((p2 &&& (2147483647 : Int32)) % (7 : Int32))), .unset, .unset]) rfl ?_
    show Steps p.tables e below (T35.setTop (mkF m 74 #[.val (.int p1), .val (.int p2), .val (.int z2), .val (.ref b4), .val (.int ((p2 &&& (2147483647 : Int32)) % (7 : Int32))), .unset, .unset] [])) _
    exact k)
  obtain ⟨z39, hz39⟩ : ∃ z, z = ((p2 &&& (2147483647 : Int32)) % (7 : Int32)) := ⟨_, rfl⟩
  rw [← hz39] at P38
  have P40 : own_Pr p.tables e below S0 T35 (mkF m 76 #[.val (.int p1), .val (.int p2), .val (.int z2), .val (.ref b4), .val (.int z39), .unset, .unset] [(.int (7 : Int32))]) := fun t k => P38 t (by
    refine XS.bipush X35.here hx rfl (hb hby at_74) ?_
    show Steps p.tables e below (T35.setTop (mkF m 76 #[.val (.int p1), .val (.int p2), .val (.int z2), .val (.ref b4), .val (.int z39), .unset, .unset] [(.int (7 : Int32))])) _
    exact k)
  obtain ⟨T41, h41, k41, X41, e41, E41, A41, st41⟩ := newP X35 hx hZ (hw _ (List.mem_of_getElem? (i := 1) rfl)) e35 (g := (mkF m 76 #[.val (.int p1), .val (.int p2), .val (.int z2), .val (.ref b4), .val (.int z39), .unset, .unset] [(.int (7 : Int32))])) rfl (hb hby at_76) rfl (by decide) (cap := 7) (by decide) (by decide) (by decide) (by decide)
  obtain ⟨b41, g41⟩ : ∃ z, z = h35.size := ⟨_, rfl⟩
  rw [← g41] at A41 st41
  have g_b41 : n0 ≤ b41 := Nat.le_trans Z36 (Nat.le_of_eq g41.symm)
  have ne_b4_b41 : b4 ≠ b41 := Nat.ne_of_lt (Nat.lt_of_lt_of_le V35.lt (Nat.le_of_eq g41.symm))
  have F42 := V35.ext E41
  have Z43 : n0 ≤ h41.size := Nat.le_trans Z36 E41.1
  have F44 : Arv Z h41 b41 k41 .int (7 : Int32) [(.int (0 : Int32)), (.int (0 : Int32)), (.int (0 : Int32)), (.int (0 : Int32)), (.int (0 : Int32)), (.int (0 : Int32)), (.int (0 : Int32))] (.int (0 : Int32)) := (Arv.new A41 (by decide)).pad (pad_rep [] (.int (0 : Int32)) 7)
  have P45 : own_Pr p.tables e below S0 T41 (mkF m 78 #[.val (.int p1), .val (.int p2), .val (.int z2), .val (.ref b4), .val (.int z39), .unset, .unset] [(.ref b41)]) := fun t k => P40 t (st41 _ k)
  have P46 : own_Pr p.tables e below S0 T41 (mkF m 84 #[.val (.int p1), .val (.int p2), .val (.int z2), .val (.ref b4), .val (.int z39), .val (.ref b41), .unset] [(.int (0 : Int32)), (.int (0 : Int32)), (.ref b41)]) := fun t k => P45 t (by
    refine XS.astore X41.here hx rfl (hb hby at_78) rfl rfl (l' := #[.val (.int p1), .val (.int p2), .val (.int z2), .val (.ref b4), .val (.int z39), .val (.ref b41), .unset]) rfl ?_
    show Steps p.tables e below (T41.setTop (mkF m 80 #[.val (.int p1), .val (.int p2), .val (.int z2), .val (.ref b4), .val (.int z39), .val (.ref b41), .unset] [])) _
    refine XS.aload X41.here hx rfl (hb hby at_80) rfl rfl ?_
    show Steps p.tables e below (T41.setTop (mkF m 82 #[.val (.int p1), .val (.int p2), .val (.int z2), .val (.ref b4), .val (.int z39), .val (.ref b41), .unset] [(.ref b41)])) _
    refine XS.iconst X41.here hx rfl (hb hby at_82) ?_
    show Steps p.tables e below (T41.setTop (mkF m 83 #[.val (.int p1), .val (.int p2), .val (.int z2), .val (.ref b4), .val (.int z39), .val (.ref b41), .unset] [(.int (0 : Int32)), (.ref b41)])) _
    refine XS.iconst X41.here hx rfl (hb hby at_83) ?_
    show Steps p.tables e below (T41.setTop (mkF m 84 #[.val (.int p1), .val (.int p2), .val (.int z2), .val (.ref b4), .val (.int z39), .val (.ref b41), .unset] [(.int (0 : Int32)), (.int (0 : Int32)), (.ref b41)])) _
    exact k)
  obtain ⟨cl47, Ar47, q47, S47, N47, H47, G47⟩ := id F44
  have hin47 : ¬ ((0 : Int32) < 0 ∨ cl47.slots.size ≤ ((0 : Int32)).toNatClampNeg) := inb_of S47 ⟨by decide, by decide⟩
  obtain ⟨T47, h47, X47, e47, W47, st47⟩ := stI X41 hx hZ e41 Ar47 (j := (0 : Int32)) hin47 (g := (mkF m 84 #[.val (.int p1), .val (.int p2), .val (.int z2), .val (.ref b4), .val (.int z39), .val (.ref b41), .unset] [(.int (0 : Int32)), (.int (0 : Int32)), (.ref b41)])) rfl rfl (hb hby at_84)
  have V47 : Arv Z h47 b41 k41 .int (7 : Int32) [(.int (0 : Int32)), (.int (0 : Int32)), (.int (0 : Int32)), (.int (0 : Int32)), (.int (0 : Int32)), (.int (0 : Int32)), (.int (0 : Int32))] (.int (0 : Int32)) := Arv.set Ar47 q47 S47 N47 H47 G47 rfl W47 0 rfl (Nat.le_of_ble_eq_true rfl)
  have F48 := F42.other W47 ne_b4_b41
  have Z49 : n0 ≤ h47.size := by rw [W47.size]; exact Z43
  have NF47 := Fr.snoc X47 NF35 g_b41
  have P50 : own_Pr p.tables e below S0 T47 (mkF m 85 #[.val (.int p1), .val (.int p2), .val (.int z2), .val (.ref b4), .val (.int z39), .val (.ref b41), .unset] []) := fun t k => P46 t (st47 _ k)
  have P51 : own_Pr p.tables e below S0 T47 (mkF m 91 #[.val (.int p1), .val (.int p2), .val (.int z2), .val (.ref b4), .val (.int z39), .val (.ref b41), .unset] [(.int (0 : Int32)), (.ref b41), (.int (1 : Int32)), (.ref b41)]) := fun t k => P50 t (by
    refine XS.aload X47.here hx rfl (hb hby at_85) rfl rfl ?_
    show Steps p.tables e below (T47.setTop (mkF m 87 #[.val (.int p1), .val (.int p2), .val (.int z2), .val (.ref b4), .val (.int z39), .val (.ref b41), .unset] [(.ref b41)])) _
    refine XS.iconst X47.here hx rfl (hb hby at_87) ?_
    show Steps p.tables e below (T47.setTop (mkF m 88 #[.val (.int p1), .val (.int p2), .val (.int z2), .val (.ref b4), .val (.int z39), .val (.ref b41), .unset] [(.int (1 : Int32)), (.ref b41)])) _
    refine XS.aload X47.here hx rfl (hb hby at_88) rfl rfl ?_
    show Steps p.tables e below (T47.setTop (mkF m 90 #[.val (.int p1), .val (.int p2), .val (.int z2), .val (.ref b4), .val (.int z39), .val (.ref b41), .unset] [(.ref b41), (.int (1 : Int32)), (.ref b41)])) _
    refine XS.iconst X47.here hx rfl (hb hby at_90) ?_
    show Steps p.tables e below (T47.setTop (mkF m 91 #[.val (.int p1), .val (.int p2), .val (.int z2), .val (.ref b4), .val (.int z39), .val (.ref b41), .unset] [(.int (0 : Int32)), (.ref b41), (.int (1 : Int32)), (.ref b41)])) _
    exact k)
  obtain ⟨cl52, Ar52, q52, S52, N52, H52, G52⟩ := id V47
  have hin52 : ¬ ((0 : Int32) < 0 ∨ cl52.slots.size ≤ ((0 : Int32)).toNatClampNeg) := inb_of S52 ⟨by decide, by decide⟩
  have P53 : own_Pr p.tables e below S0 T47 (mkF m 94 #[.val (.int p1), .val (.int p2), .val (.int z2), .val (.ref b4), .val (.int z39), .val (.ref b41), .unset] [(.int (0 : Int32)), (.ref b4), (.int (0 : Int32)), (.int (1 : Int32)), (.ref b41)]) := fun t k => P51 t (by
    refine X47.iaload hx (j := (0 : Int32)) (v := (.int (0 : Int32))) (by rw [e47]; exact Ar52.1) (State.isArrayOf_alike hZ.alike Ar52.2.1) Ar52.2.2 hin52 (H52.at hin52 rfl) (g := (mkF m 91 #[.val (.int p1), .val (.int p2), .val (.int z2), .val (.ref b4), .val (.int z39), .val (.ref b41), .unset] [(.int (0 : Int32)), (.ref b41), (.int (1 : Int32)), (.ref b41)])) rfl rfl (hb hby at_91) _ ?_
    show Steps p.tables e below (T47.setTop (mkF m 92 #[.val (.int p1), .val (.int p2), .val (.int z2), .val (.ref b4), .val (.int z39), .val (.ref b41), .unset] [(.int (0 : Int32)), (.int (1 : Int32)), (.ref b41)])) _
    refine XS.aloadN X47.here hx rfl (hb hby at_92) rfl rfl ?_
    show Steps p.tables e below (T47.setTop (mkF m 93 #[.val (.int p1), .val (.int p2), .val (.int z2), .val (.ref b4), .val (.int z39), .val (.ref b41), .unset] [(.ref b4), (.int (0 : Int32)), (.int (1 : Int32)), (.ref b41)])) _
    refine XS.iconst X47.here hx rfl (hb hby at_93) ?_
    show Steps p.tables e below (T47.setTop (mkF m 94 #[.val (.int p1), .val (.int p2), .val (.int z2), .val (.ref b4), .val (.int z39), .val (.ref b41), .unset] [(.int (0 : Int32)), (.ref b4), (.int (0 : Int32)), (.int (1 : Int32)), (.ref b41)])) _
    exact k)
  obtain ⟨cl54, Ar54, q54, S54, N54, H54, G54⟩ := id F48
  have hin54 : ¬ ((0 : Int32) < 0 ∨ cl54.slots.size ≤ ((0 : Int32)).toNatClampNeg) := inb_of S54 ⟨by decide, by decide⟩
  have P55 : own_Pr p.tables e below S0 T47 (mkF m 98 #[.val (.int p1), .val (.int p2), .val (.int z2), .val (.ref b4), .val (.int z39), .val (.ref b41), .unset] [(.int (((0 : Int32) + z9) - (1 : Int32))), (.int (1 : Int32)), (.ref b41)]) := fun t k => P53 t (by
    refine X47.iaload hx (j := (0 : Int32)) (v := (.int z9)) (by rw [e47]; exact Ar54.1) (State.isArrayOf_alike hZ.alike Ar54.2.1) Ar54.2.2 hin54 (H54.at hin54 rfl) (g := (mkF m 94 #[.val (.int p1), .val (.int p2), .val (.int z2), .val (.ref b4), .val (.int z39), .val (.ref b41), .unset] [(.int (0 : Int32)), (.ref b4), (.int (0 : Int32)), (.int (1 : Int32)), (.ref b41)])) rfl rfl (hb hby at_94) _ ?_
    show Steps p.tables e below (T47.setTop (mkF m 95 #[.val (.int p1), .val (.int p2), .val (.int z2), .val (.ref b4), .val (.int z39), .val (.ref b41), .unset] [(.int z9), (.int (0 : Int32)), (.int (1 : Int32)), (.ref b41)])) _
    refine XS.iadd X47.here hx rfl (hb hby at_95) rfl ?_
    show Steps p.tables e below (T47.setTop (mkF m 96 #[.val (.int p1), .val (.int p2), .val (.int z2), .val (.ref b4), .val (.int z39), .val (.ref b41), .unset] [(.int ((0 : Int32) + z9)), (.int (1 : Int32)), (.ref b41)])) _
    refine XS.iconst X47.here hx rfl (hb hby at_96) ?_
    show Steps p.tables e below (T47.setTop (mkF m 97 #[.val (.int p1), .val (.int p2), .val (.int z2), .val (.ref b4), .val (.int z39), .val (.ref b41), .unset] [(.int (1 : Int32)), (.int ((0 : Int32) + z9)), (.int (1 : Int32)), (.ref b41)])) _
    refine XS.isub X47.here hx rfl (hb hby at_97) rfl ?_
    show Steps p.tables e below (T47.setTop (mkF m 98 #[.val (.int p1), .val (.int p2), .val (.int z2), .val (.ref b4), .val (.int z39), .val (.ref b41), .unset] [(.int (((0 : Int32) + z9) - (1 : Int32))), (.int (1 : Int32)), (.ref b41)])) _
    exact k)
  obtain ⟨z56, hz56⟩ : ∃ z, z = (((0 : Int32) + z9) - (1 : Int32)) := ⟨_, rfl⟩
  rw [← hz56] at P55
  obtain ⟨cl57, Ar57, q57, S57, N57, H57, G57⟩ := id V47
  have hin57 : ¬ ((1 : Int32) < 0 ∨ cl57.slots.size ≤ ((1 : Int32)).toNatClampNeg) := inb_of S57 ⟨by decide, by decide⟩
  obtain ⟨T57, h57, X57, e57, W57, st57⟩ := stI X47 hx hZ e47 Ar57 (j := (1 : Int32)) hin57 (g := (mkF m 98 #[.val (.int p1), .val (.int p2), .val (.int z2), .val (.ref b4), .val (.int z39), .val (.ref b41), .unset] [(.int z56), (.int (1 : Int32)), (.ref b41)])) rfl rfl (hb hby at_98)
  have V57 : Arv Z h57 b41 k41 .int (7 : Int32) [(.int (0 : Int32)), (.int z56), (.int (0 : Int32)), (.int (0 : Int32)), (.int (0 : Int32)), (.int (0 : Int32)), (.int (0 : Int32))] (.int (0 : Int32)) := Arv.set Ar57 q57 S57 N57 H57 G57 rfl W57 1 rfl (Nat.le_of_ble_eq_true rfl)
  have F58 := F48.other W57 ne_b4_b41
  have Z59 : n0 ≤ h57.size := by rw [W57.size]; exact Z49
  have NF57 := Fr.snoc X57 NF47 g_b41
  have P60 : own_Pr p.tables e below S0 T57 (mkF m 99 #[.val (.int p1), .val (.int p2), .val (.int z2), .val (.ref b4), .val (.int z39), .val (.ref b41), .unset] []) := fun t k => P55 t (st57 _ k)
  have P61 : own_Pr p.tables e below S0 T57 (mkF m 105 #[.val (.int p1), .val (.int p2), .val (.int z2), .val (.ref b4), .val (.int z39), .val (.ref b41), .unset] [(.int (1 : Int32)), (.ref b41), (.int (2 : Int32)), (.ref b41)]) := fun t k => P60 t (by
    refine XS.aload X57.here hx rfl (hb hby at_99) rfl rfl ?_
    show Steps p.tables e below (T57.setTop (mkF m 101 #[.val (.int p1), .val (.int p2), .val (.int z2), .val (.ref b4), .val (.int z39), .val (.ref b41), .unset] [(.ref b41)])) _
    refine XS.iconst X57.here hx rfl (hb hby at_101) ?_
    show Steps p.tables e below (T57.setTop (mkF m 102 #[.val (.int p1), .val (.int p2), .val (.int z2), .val (.ref b4), .val (.int z39), .val (.ref b41), .unset] [(.int (2 : Int32)), (.ref b41)])) _
    refine XS.aload X57.here hx rfl (hb hby at_102) rfl rfl ?_
    show Steps p.tables e below (T57.setTop (mkF m 104 #[.val (.int p1), .val (.int p2), .val (.int z2), .val (.ref b4), .val (.int z39), .val (.ref b41), .unset] [(.ref b41), (.int (2 : Int32)), (.ref b41)])) _
    refine XS.iconst X57.here hx rfl (hb hby at_104) ?_
    show Steps p.tables e below (T57.setTop (mkF m 105 #[.val (.int p1), .val (.int p2), .val (.int z2), .val (.ref b4), .val (.int z39), .val (.ref b41), .unset] [(.int (1 : Int32)), (.ref b41), (.int (2 : Int32)), (.ref b41)])) _
    exact k)
  obtain ⟨cl62, Ar62, q62, S62, N62, H62, G62⟩ := id V57
  have hin62 : ¬ ((1 : Int32) < 0 ∨ cl62.slots.size ≤ ((1 : Int32)).toNatClampNeg) := inb_of S62 ⟨by decide, by decide⟩
  have P63 : own_Pr p.tables e below S0 T57 (mkF m 108 #[.val (.int p1), .val (.int p2), .val (.int z2), .val (.ref b4), .val (.int z39), .val (.ref b41), .unset] [(.int (1 : Int32)), (.ref b4), (.int z56), (.int (2 : Int32)), (.ref b41)]) := fun t k => P61 t (by
    refine X57.iaload hx (j := (1 : Int32)) (v := (.int z56)) (by rw [e57]; exact Ar62.1) (State.isArrayOf_alike hZ.alike Ar62.2.1) Ar62.2.2 hin62 (H62.at hin62 rfl) (g := (mkF m 105 #[.val (.int p1), .val (.int p2), .val (.int z2), .val (.ref b4), .val (.int z39), .val (.ref b41), .unset] [(.int (1 : Int32)), (.ref b41), (.int (2 : Int32)), (.ref b41)])) rfl rfl (hb hby at_105) _ ?_
    show Steps p.tables e below (T57.setTop (mkF m 106 #[.val (.int p1), .val (.int p2), .val (.int z2), .val (.ref b4), .val (.int z39), .val (.ref b41), .unset] [(.int z56), (.int (2 : Int32)), (.ref b41)])) _
    refine XS.aloadN X57.here hx rfl (hb hby at_106) rfl rfl ?_
    show Steps p.tables e below (T57.setTop (mkF m 107 #[.val (.int p1), .val (.int p2), .val (.int z2), .val (.ref b4), .val (.int z39), .val (.ref b41), .unset] [(.ref b4), (.int z56), (.int (2 : Int32)), (.ref b41)])) _
    refine XS.iconst X57.here hx rfl (hb hby at_107) ?_
    show Steps p.tables e below (T57.setTop (mkF m 108 #[.val (.int p1), .val (.int p2), .val (.int z2), .val (.ref b4), .val (.int z39), .val (.ref b41), .unset] [(.int (1 : Int32)), (.ref b4), (.int z56), (.int (2 : Int32)), (.ref b41)])) _
    exact k)
  obtain ⟨cl64, Ar64, q64, S64, N64, H64, G64⟩ := id F58
  have hin64 : ¬ ((1 : Int32) < 0 ∨ cl64.slots.size ≤ ((1 : Int32)).toNatClampNeg) := inb_of S64 ⟨by decide, by decide⟩
  have P65 : own_Pr p.tables e below S0 T57 (mkF m 112 #[.val (.int p1), .val (.int p2), .val (.int z2), .val (.ref b4), .val (.int z39), .val (.ref b41), .unset] [(.int ((z56 + z14) - (1 : Int32))), (.int (2 : Int32)), (.ref b41)]) := fun t k => P63 t (by
    refine X57.iaload hx (j := (1 : Int32)) (v := (.int z14)) (by rw [e57]; exact Ar64.1) (State.isArrayOf_alike hZ.alike Ar64.2.1) Ar64.2.2 hin64 (H64.at hin64 rfl) (g := (mkF m 108 #[.val (.int p1), .val (.int p2), .val (.int z2), .val (.ref b4), .val (.int z39), .val (.ref b41), .unset] [(.int (1 : Int32)), (.ref b4), (.int z56), (.int (2 : Int32)), (.ref b41)])) rfl rfl (hb hby at_108) _ ?_
    show Steps p.tables e below (T57.setTop (mkF m 109 #[.val (.int p1), .val (.int p2), .val (.int z2), .val (.ref b4), .val (.int z39), .val (.ref b41), .unset] [(.int z14), (.int z56), (.int (2 : Int32)), (.ref b41)])) _
    refine XS.iadd X57.here hx rfl (hb hby at_109) rfl ?_
    show Steps p.tables e below (T57.setTop (mkF m 110 #[.val (.int p1), .val (.int p2), .val (.int z2), .val (.ref b4), .val (.int z39), .val (.ref b41), .unset] [(.int (z56 + z14)), (.int (2 : Int32)), (.ref b41)])) _
    refine XS.iconst X57.here hx rfl (hb hby at_110) ?_
    show Steps p.tables e below (T57.setTop (mkF m 111 #[.val (.int p1), .val (.int p2), .val (.int z2), .val (.ref b4), .val (.int z39), .val (.ref b41), .unset] [(.int (1 : Int32)), (.int (z56 + z14)), (.int (2 : Int32)), (.ref b41)])) _
    refine XS.isub X57.here hx rfl (hb hby at_111) rfl ?_
    show Steps p.tables e below (T57.setTop (mkF m 112 #[.val (.int p1), .val (.int p2), .val (.int z2), .val (.ref b4), .val (.int z39), .val (.ref b41), .unset] [(.int ((z56 + z14) - (1 : Int32))), (.int (2 : Int32)), (.ref b41)])) _
    exact k)
  obtain ⟨z66, hz66⟩ : ∃ z, z = ((z56 + z14) - (1 : Int32)) := ⟨_, rfl⟩
  rw [← hz66] at P65
  obtain ⟨cl67, Ar67, q67, S67, N67, H67, G67⟩ := id V57
  have hin67 : ¬ ((2 : Int32) < 0 ∨ cl67.slots.size ≤ ((2 : Int32)).toNatClampNeg) := inb_of S67 ⟨by decide, by decide⟩
  obtain ⟨T67, h67, X67, e67, W67, st67⟩ := stI X57 hx hZ e57 Ar67 (j := (2 : Int32)) hin67 (g := (mkF m 112 #[.val (.int p1), .val (.int p2), .val (.int z2), .val (.ref b4), .val (.int z39), .val (.ref b41), .unset] [(.int z66), (.int (2 : Int32)), (.ref b41)])) rfl rfl (hb hby at_112)
  have V67 : Arv Z h67 b41 k41 .int (7 : Int32) [(.int (0 : Int32)), (.int z56), (.int z66), (.int (0 : Int32)), (.int (0 : Int32)), (.int (0 : Int32)), (.int (0 : Int32))] (.int (0 : Int32)) := Arv.set Ar67 q67 S67 N67 H67 G67 rfl W67 2 rfl (Nat.le_of_ble_eq_true rfl)
  have F68 := F58.other W67 ne_b4_b41
  have Z69 : n0 ≤ h67.size := by rw [W67.size]; exact Z59
  have NF67 := Fr.snoc X67 NF57 g_b41
  have P70 : own_Pr p.tables e below S0 T67 (mkF m 113 #[.val (.int p1), .val (.int p2), .val (.int z2), .val (.ref b4), .val (.int z39), .val (.ref b41), .unset] []) := fun t k => P65 t (st67 _ k)
  have P71 : own_Pr p.tables e below S0 T67 (mkF m 119 #[.val (.int p1), .val (.int p2), .val (.int z2), .val (.ref b4), .val (.int z39), .val (.ref b41), .unset] [(.int (2 : Int32)), (.ref b41), (.int (3 : Int32)), (.ref b41)]) := fun t k => P70 t (by
    refine XS.aload X67.here hx rfl (hb hby at_113) rfl rfl ?_
    show Steps p.tables e below (T67.setTop (mkF m 115 #[.val (.int p1), .val (.int p2), .val (.int z2), .val (.ref b4), .val (.int z39), .val (.ref b41), .unset] [(.ref b41)])) _
    refine XS.iconst X67.here hx rfl (hb hby at_115) ?_
    show Steps p.tables e below (T67.setTop (mkF m 116 #[.val (.int p1), .val (.int p2), .val (.int z2), .val (.ref b4), .val (.int z39), .val (.ref b41), .unset] [(.int (3 : Int32)), (.ref b41)])) _
    refine XS.aload X67.here hx rfl (hb hby at_116) rfl rfl ?_
    show Steps p.tables e below (T67.setTop (mkF m 118 #[.val (.int p1), .val (.int p2), .val (.int z2), .val (.ref b4), .val (.int z39), .val (.ref b41), .unset] [(.ref b41), (.int (3 : Int32)), (.ref b41)])) _
    refine XS.iconst X67.here hx rfl (hb hby at_118) ?_
    show Steps p.tables e below (T67.setTop (mkF m 119 #[.val (.int p1), .val (.int p2), .val (.int z2), .val (.ref b4), .val (.int z39), .val (.ref b41), .unset] [(.int (2 : Int32)), (.ref b41), (.int (3 : Int32)), (.ref b41)])) _
    exact k)
  obtain ⟨cl72, Ar72, q72, S72, N72, H72, G72⟩ := id V67
  have hin72 : ¬ ((2 : Int32) < 0 ∨ cl72.slots.size ≤ ((2 : Int32)).toNatClampNeg) := inb_of S72 ⟨by decide, by decide⟩
  have P73 : own_Pr p.tables e below S0 T67 (mkF m 122 #[.val (.int p1), .val (.int p2), .val (.int z2), .val (.ref b4), .val (.int z39), .val (.ref b41), .unset] [(.int (2 : Int32)), (.ref b4), (.int z66), (.int (3 : Int32)), (.ref b41)]) := fun t k => P71 t (by
    refine X67.iaload hx (j := (2 : Int32)) (v := (.int z66)) (by rw [e67]; exact Ar72.1) (State.isArrayOf_alike hZ.alike Ar72.2.1) Ar72.2.2 hin72 (H72.at hin72 rfl) (g := (mkF m 119 #[.val (.int p1), .val (.int p2), .val (.int z2), .val (.ref b4), .val (.int z39), .val (.ref b41), .unset] [(.int (2 : Int32)), (.ref b41), (.int (3 : Int32)), (.ref b41)])) rfl rfl (hb hby at_119) _ ?_
    show Steps p.tables e below (T67.setTop (mkF m 120 #[.val (.int p1), .val (.int p2), .val (.int z2), .val (.ref b4), .val (.int z39), .val (.ref b41), .unset] [(.int z66), (.int (3 : Int32)), (.ref b41)])) _
    refine XS.aloadN X67.here hx rfl (hb hby at_120) rfl rfl ?_
    show Steps p.tables e below (T67.setTop (mkF m 121 #[.val (.int p1), .val (.int p2), .val (.int z2), .val (.ref b4), .val (.int z39), .val (.ref b41), .unset] [(.ref b4), (.int z66), (.int (3 : Int32)), (.ref b41)])) _
    refine XS.iconst X67.here hx rfl (hb hby at_121) ?_
    show Steps p.tables e below (T67.setTop (mkF m 122 #[.val (.int p1), .val (.int p2), .val (.int z2), .val (.ref b4), .val (.int z39), .val (.ref b41), .unset] [(.int (2 : Int32)), (.ref b4), (.int z66), (.int (3 : Int32)), (.ref b41)])) _
    exact k)
  obtain ⟨cl74, Ar74, q74, S74, N74, H74, G74⟩ := id F68
  have hin74 : ¬ ((2 : Int32) < 0 ∨ cl74.slots.size ≤ ((2 : Int32)).toNatClampNeg) := inb_of S74 ⟨by decide, by decide⟩
  have P75 : own_Pr p.tables e below S0 T67 (mkF m 126 #[.val (.int p1), .val (.int p2), .val (.int z2), .val (.ref b4), .val (.int z39), .val (.ref b41), .unset] [(.int ((z66 + z19) - (1 : Int32))), (.int (3 : Int32)), (.ref b41)]) := fun t k => P73 t (by
    refine X67.iaload hx (j := (2 : Int32)) (v := (.int z19)) (by rw [e67]; exact Ar74.1) (State.isArrayOf_alike hZ.alike Ar74.2.1) Ar74.2.2 hin74 (H74.at hin74 rfl) (g := (mkF m 122 #[.val (.int p1), .val (.int p2), .val (.int z2), .val (.ref b4), .val (.int z39), .val (.ref b41), .unset] [(.int (2 : Int32)), (.ref b4), (.int z66), (.int (3 : Int32)), (.ref b41)])) rfl rfl (hb hby at_122) _ ?_
    show Steps p.tables e below (T67.setTop (mkF m 123 #[.val (.int p1), .val (.int p2), .val (.int z2), .val (.ref b4), .val (.int z39), .val (.ref b41), .unset] [(.int z19), (.int z66), (.int (3 : Int32)), (.ref b41)])) _
    refine XS.iadd X67.here hx rfl (hb hby at_123) rfl ?_
    show Steps p.tables e below (T67.setTop (mkF m 124 #[.val (.int p1), .val (.int p2), .val (.int z2), .val (.ref b4), .val (.int z39), .val (.ref b41), .unset] [(.int (z66 + z19)), (.int (3 : Int32)), (.ref b41)])) _
    refine XS.iconst X67.here hx rfl (hb hby at_124) ?_
    show Steps p.tables e below (T67.setTop (mkF m 125 #[.val (.int p1), .val (.int p2), .val (.int z2), .val (.ref b4), .val (.int z39), .val (.ref b41), .unset] [(.int (1 : Int32)), (.int (z66 + z19)), (.int (3 : Int32)), (.ref b41)])) _
    refine XS.isub X67.here hx rfl (hb hby at_125) rfl ?_
    show Steps p.tables e below (T67.setTop (mkF m 126 #[.val (.int p1), .val (.int p2), .val (.int z2), .val (.ref b4), .val (.int z39), .val (.ref b41), .unset] [(.int ((z66 + z19) - (1 : Int32))), (.int (3 : Int32)), (.ref b41)])) _
    exact k)
  obtain ⟨z76, hz76⟩ : ∃ z, z = ((z66 + z19) - (1 : Int32)) := ⟨_, rfl⟩
  rw [← hz76] at P75
  obtain ⟨cl77, Ar77, q77, S77, N77, H77, G77⟩ := id V67
  have hin77 : ¬ ((3 : Int32) < 0 ∨ cl77.slots.size ≤ ((3 : Int32)).toNatClampNeg) := inb_of S77 ⟨by decide, by decide⟩
  obtain ⟨T77, h77, X77, e77, W77, st77⟩ := stI X67 hx hZ e67 Ar77 (j := (3 : Int32)) hin77 (g := (mkF m 126 #[.val (.int p1), .val (.int p2), .val (.int z2), .val (.ref b4), .val (.int z39), .val (.ref b41), .unset] [(.int z76), (.int (3 : Int32)), (.ref b41)])) rfl rfl (hb hby at_126)
  have V77 : Arv Z h77 b41 k41 .int (7 : Int32) [(.int (0 : Int32)), (.int z56), (.int z66), (.int z76), (.int (0 : Int32)), (.int (0 : Int32)), (.int (0 : Int32))] (.int (0 : Int32)) := Arv.set Ar77 q77 S77 N77 H77 G77 rfl W77 3 rfl (Nat.le_of_ble_eq_true rfl)
  have F78 := F68.other W77 ne_b4_b41
  have Z79 : n0 ≤ h77.size := by rw [W77.size]; exact Z69
  have NF77 := Fr.snoc X77 NF67 g_b41
  have P80 : own_Pr p.tables e below S0 T77 (mkF m 127 #[.val (.int p1), .val (.int p2), .val (.int z2), .val (.ref b4), .val (.int z39), .val (.ref b41), .unset] []) := fun t k => P75 t (st77 _ k)
  have P81 : own_Pr p.tables e below S0 T77 (mkF m 133 #[.val (.int p1), .val (.int p2), .val (.int z2), .val (.ref b4), .val (.int z39), .val (.ref b41), .unset] [(.int (3 : Int32)), (.ref b41), (.int (4 : Int32)), (.ref b41)]) := fun t k => P80 t (by
    refine XS.aload X77.here hx rfl (hb hby at_127) rfl rfl ?_
    show Steps p.tables e below (T77.setTop (mkF m 129 #[.val (.int p1), .val (.int p2), .val (.int z2), .val (.ref b4), .val (.int z39), .val (.ref b41), .unset] [(.ref b41)])) _
    refine XS.iconst X77.here hx rfl (hb hby at_129) ?_
    show Steps p.tables e below (T77.setTop (mkF m 130 #[.val (.int p1), .val (.int p2), .val (.int z2), .val (.ref b4), .val (.int z39), .val (.ref b41), .unset] [(.int (4 : Int32)), (.ref b41)])) _
    refine XS.aload X77.here hx rfl (hb hby at_130) rfl rfl ?_
    show Steps p.tables e below (T77.setTop (mkF m 132 #[.val (.int p1), .val (.int p2), .val (.int z2), .val (.ref b4), .val (.int z39), .val (.ref b41), .unset] [(.ref b41), (.int (4 : Int32)), (.ref b41)])) _
    refine XS.iconst X77.here hx rfl (hb hby at_132) ?_
    show Steps p.tables e below (T77.setTop (mkF m 133 #[.val (.int p1), .val (.int p2), .val (.int z2), .val (.ref b4), .val (.int z39), .val (.ref b41), .unset] [(.int (3 : Int32)), (.ref b41), (.int (4 : Int32)), (.ref b41)])) _
    exact k)
  obtain ⟨cl82, Ar82, q82, S82, N82, H82, G82⟩ := id V77
  have hin82 : ¬ ((3 : Int32) < 0 ∨ cl82.slots.size ≤ ((3 : Int32)).toNatClampNeg) := inb_of S82 ⟨by decide, by decide⟩
  have P83 : own_Pr p.tables e below S0 T77 (mkF m 136 #[.val (.int p1), .val (.int p2), .val (.int z2), .val (.ref b4), .val (.int z39), .val (.ref b41), .unset] [(.int (3 : Int32)), (.ref b4), (.int z76), (.int (4 : Int32)), (.ref b41)]) := fun t k => P81 t (by
    refine X77.iaload hx (j := (3 : Int32)) (v := (.int z76)) (by rw [e77]; exact Ar82.1) (State.isArrayOf_alike hZ.alike Ar82.2.1) Ar82.2.2 hin82 (H82.at hin82 rfl) (g := (mkF m 133 #[.val (.int p1), .val (.int p2), .val (.int z2), .val (.ref b4), .val (.int z39), .val (.ref b41), .unset] [(.int (3 : Int32)), (.ref b41), (.int (4 : Int32)), (.ref b41)])) rfl rfl (hb hby at_133) _ ?_
    show Steps p.tables e below (T77.setTop (mkF m 134 #[.val (.int p1), .val (.int p2), .val (.int z2), .val (.ref b4), .val (.int z39), .val (.ref b41), .unset] [(.int z76), (.int (4 : Int32)), (.ref b41)])) _
    refine XS.aloadN X77.here hx rfl (hb hby at_134) rfl rfl ?_
    show Steps p.tables e below (T77.setTop (mkF m 135 #[.val (.int p1), .val (.int p2), .val (.int z2), .val (.ref b4), .val (.int z39), .val (.ref b41), .unset] [(.ref b4), (.int z76), (.int (4 : Int32)), (.ref b41)])) _
    refine XS.iconst X77.here hx rfl (hb hby at_135) ?_
    show Steps p.tables e below (T77.setTop (mkF m 136 #[.val (.int p1), .val (.int p2), .val (.int z2), .val (.ref b4), .val (.int z39), .val (.ref b41), .unset] [(.int (3 : Int32)), (.ref b4), (.int z76), (.int (4 : Int32)), (.ref b41)])) _
    exact k)
  obtain ⟨cl84, Ar84, q84, S84, N84, H84, G84⟩ := id F78
  have hin84 : ¬ ((3 : Int32) < 0 ∨ cl84.slots.size ≤ ((3 : Int32)).toNatClampNeg) := inb_of S84 ⟨by decide, by decide⟩
  have P85 : own_Pr p.tables e below S0 T77 (mkF m 140 #[.val (.int p1), .val (.int p2), .val (.int z2), .val (.ref b4), .val (.int z39), .val (.ref b41), .unset] [(.int ((z76 + z24) - (1 : Int32))), (.int (4 : Int32)), (.ref b41)]) := fun t k => P83 t (by
    refine X77.iaload hx (j := (3 : Int32)) (v := (.int z24)) (by rw [e77]; exact Ar84.1) (State.isArrayOf_alike hZ.alike Ar84.2.1) Ar84.2.2 hin84 (H84.at hin84 rfl) (g := (mkF m 136 #[.val (.int p1), .val (.int p2), .val (.int z2), .val (.ref b4), .val (.int z39), .val (.ref b41), .unset] [(.int (3 : Int32)), (.ref b4), (.int z76), (.int (4 : Int32)), (.ref b41)])) rfl rfl (hb hby at_136) _ ?_
    show Steps p.tables e below (T77.setTop (mkF m 137 #[.val (.int p1), .val (.int p2), .val (.int z2), .val (.ref b4), .val (.int z39), .val (.ref b41), .unset] [(.int z24), (.int z76), (.int (4 : Int32)), (.ref b41)])) _
    refine XS.iadd X77.here hx rfl (hb hby at_137) rfl ?_
    show Steps p.tables e below (T77.setTop (mkF m 138 #[.val (.int p1), .val (.int p2), .val (.int z2), .val (.ref b4), .val (.int z39), .val (.ref b41), .unset] [(.int (z76 + z24)), (.int (4 : Int32)), (.ref b41)])) _
    refine XS.iconst X77.here hx rfl (hb hby at_138) ?_
    show Steps p.tables e below (T77.setTop (mkF m 139 #[.val (.int p1), .val (.int p2), .val (.int z2), .val (.ref b4), .val (.int z39), .val (.ref b41), .unset] [(.int (1 : Int32)), (.int (z76 + z24)), (.int (4 : Int32)), (.ref b41)])) _
    refine XS.isub X77.here hx rfl (hb hby at_139) rfl ?_
    show Steps p.tables e below (T77.setTop (mkF m 140 #[.val (.int p1), .val (.int p2), .val (.int z2), .val (.ref b4), .val (.int z39), .val (.ref b41), .unset] [(.int ((z76 + z24) - (1 : Int32))), (.int (4 : Int32)), (.ref b41)])) _
    exact k)
  obtain ⟨z86, hz86⟩ : ∃ z, z = ((z76 + z24) - (1 : Int32)) := ⟨_, rfl⟩
  rw [← hz86] at P85
  obtain ⟨cl87, Ar87, q87, S87, N87, H87, G87⟩ := id V77
  have hin87 : ¬ ((4 : Int32) < 0 ∨ cl87.slots.size ≤ ((4 : Int32)).toNatClampNeg) := inb_of S87 ⟨by decide, by decide⟩
  obtain ⟨T87, h87, X87, e87, W87, st87⟩ := stI X77 hx hZ e77 Ar87 (j := (4 : Int32)) hin87 (g := (mkF m 140 #[.val (.int p1), .val (.int p2), .val (.int z2), .val (.ref b4), .val (.int z39), .val (.ref b41), .unset] [(.int z86), (.int (4 : Int32)), (.ref b41)])) rfl rfl (hb hby at_140)
  have V87 : Arv Z h87 b41 k41 .int (7 : Int32) [(.int (0 : Int32)), (.int z56), (.int z66), (.int z76), (.int z86), (.int (0 : Int32)), (.int (0 : Int32))] (.int (0 : Int32)) := Arv.set Ar87 q87 S87 N87 H87 G87 rfl W87 4 rfl (Nat.le_of_ble_eq_true rfl)
  have F88 := F78.other W87 ne_b4_b41
  have Z89 : n0 ≤ h87.size := by rw [W87.size]; exact Z79
  have NF87 := Fr.snoc X87 NF77 g_b41
  have P90 : own_Pr p.tables e below S0 T87 (mkF m 141 #[.val (.int p1), .val (.int p2), .val (.int z2), .val (.ref b4), .val (.int z39), .val (.ref b41), .unset] []) := fun t k => P85 t (st87 _ k)
  have P91 : own_Pr p.tables e below S0 T87 (mkF m 147 #[.val (.int p1), .val (.int p2), .val (.int z2), .val (.ref b4), .val (.int z39), .val (.ref b41), .unset] [(.int (4 : Int32)), (.ref b41), (.int (5 : Int32)), (.ref b41)]) := fun t k => P90 t (by
    refine XS.aload X87.here hx rfl (hb hby at_141) rfl rfl ?_
    show Steps p.tables e below (T87.setTop (mkF m 143 #[.val (.int p1), .val (.int p2), .val (.int z2), .val (.ref b4), .val (.int z39), .val (.ref b41), .unset] [(.ref b41)])) _
    refine XS.iconst X87.here hx rfl (hb hby at_143) ?_
    show Steps p.tables e below (T87.setTop (mkF m 144 #[.val (.int p1), .val (.int p2), .val (.int z2), .val (.ref b4), .val (.int z39), .val (.ref b41), .unset] [(.int (5 : Int32)), (.ref b41)])) _
    refine XS.aload X87.here hx rfl (hb hby at_144) rfl rfl ?_
    show Steps p.tables e below (T87.setTop (mkF m 146 #[.val (.int p1), .val (.int p2), .val (.int z2), .val (.ref b4), .val (.int z39), .val (.ref b41), .unset] [(.ref b41), (.int (5 : Int32)), (.ref b41)])) _
    refine XS.iconst X87.here hx rfl (hb hby at_146) ?_
    show Steps p.tables e below (T87.setTop (mkF m 147 #[.val (.int p1), .val (.int p2), .val (.int z2), .val (.ref b4), .val (.int z39), .val (.ref b41), .unset] [(.int (4 : Int32)), (.ref b41), (.int (5 : Int32)), (.ref b41)])) _
    exact k)
  obtain ⟨cl92, Ar92, q92, S92, N92, H92, G92⟩ := id V87
  have hin92 : ¬ ((4 : Int32) < 0 ∨ cl92.slots.size ≤ ((4 : Int32)).toNatClampNeg) := inb_of S92 ⟨by decide, by decide⟩
  have P93 : own_Pr p.tables e below S0 T87 (mkF m 150 #[.val (.int p1), .val (.int p2), .val (.int z2), .val (.ref b4), .val (.int z39), .val (.ref b41), .unset] [(.int (4 : Int32)), (.ref b4), (.int z86), (.int (5 : Int32)), (.ref b41)]) := fun t k => P91 t (by
    refine X87.iaload hx (j := (4 : Int32)) (v := (.int z86)) (by rw [e87]; exact Ar92.1) (State.isArrayOf_alike hZ.alike Ar92.2.1) Ar92.2.2 hin92 (H92.at hin92 rfl) (g := (mkF m 147 #[.val (.int p1), .val (.int p2), .val (.int z2), .val (.ref b4), .val (.int z39), .val (.ref b41), .unset] [(.int (4 : Int32)), (.ref b41), (.int (5 : Int32)), (.ref b41)])) rfl rfl (hb hby at_147) _ ?_
    show Steps p.tables e below (T87.setTop (mkF m 148 #[.val (.int p1), .val (.int p2), .val (.int z2), .val (.ref b4), .val (.int z39), .val (.ref b41), .unset] [(.int z86), (.int (5 : Int32)), (.ref b41)])) _
    refine XS.aloadN X87.here hx rfl (hb hby at_148) rfl rfl ?_
    show Steps p.tables e below (T87.setTop (mkF m 149 #[.val (.int p1), .val (.int p2), .val (.int z2), .val (.ref b4), .val (.int z39), .val (.ref b41), .unset] [(.ref b4), (.int z86), (.int (5 : Int32)), (.ref b41)])) _
    refine XS.iconst X87.here hx rfl (hb hby at_149) ?_
    show Steps p.tables e below (T87.setTop (mkF m 150 #[.val (.int p1), .val (.int p2), .val (.int z2), .val (.ref b4), .val (.int z39), .val (.ref b41), .unset] [(.int (4 : Int32)), (.ref b4), (.int z86), (.int (5 : Int32)), (.ref b41)])) _
    exact k)
  obtain ⟨cl94, Ar94, q94, S94, N94, H94, G94⟩ := id F88
  have hin94 : ¬ ((4 : Int32) < 0 ∨ cl94.slots.size ≤ ((4 : Int32)).toNatClampNeg) := inb_of S94 ⟨by decide, by decide⟩
  have P95 : own_Pr p.tables e below S0 T87 (mkF m 154 #[.val (.int p1), .val (.int p2), .val (.int z2), .val (.ref b4), .val (.int z39), .val (.ref b41), .unset] [(.int ((z86 + z29) - (1 : Int32))), (.int (5 : Int32)), (.ref b41)]) := fun t k => P93 t (by
    refine X87.iaload hx (j := (4 : Int32)) (v := (.int z29)) (by rw [e87]; exact Ar94.1) (State.isArrayOf_alike hZ.alike Ar94.2.1) Ar94.2.2 hin94 (H94.at hin94 rfl) (g := (mkF m 150 #[.val (.int p1), .val (.int p2), .val (.int z2), .val (.ref b4), .val (.int z39), .val (.ref b41), .unset] [(.int (4 : Int32)), (.ref b4), (.int z86), (.int (5 : Int32)), (.ref b41)])) rfl rfl (hb hby at_150) _ ?_
    show Steps p.tables e below (T87.setTop (mkF m 151 #[.val (.int p1), .val (.int p2), .val (.int z2), .val (.ref b4), .val (.int z39), .val (.ref b41), .unset] [(.int z29), (.int z86), (.int (5 : Int32)), (.ref b41)])) _
    refine XS.iadd X87.here hx rfl (hb hby at_151) rfl ?_
    show Steps p.tables e below (T87.setTop (mkF m 152 #[.val (.int p1), .val (.int p2), .val (.int z2), .val (.ref b4), .val (.int z39), .val (.ref b41), .unset] [(.int (z86 + z29)), (.int (5 : Int32)), (.ref b41)])) _
    refine XS.iconst X87.here hx rfl (hb hby at_152) ?_
    show Steps p.tables e below (T87.setTop (mkF m 153 #[.val (.int p1), .val (.int p2), .val (.int z2), .val (.ref b4), .val (.int z39), .val (.ref b41), .unset] [(.int (1 : Int32)), (.int (z86 + z29)), (.int (5 : Int32)), (.ref b41)])) _
    refine XS.isub X87.here hx rfl (hb hby at_153) rfl ?_
    show Steps p.tables e below (T87.setTop (mkF m 154 #[.val (.int p1), .val (.int p2), .val (.int z2), .val (.ref b4), .val (.int z39), .val (.ref b41), .unset] [(.int ((z86 + z29) - (1 : Int32))), (.int (5 : Int32)), (.ref b41)])) _
    exact k)
  obtain ⟨z96, hz96⟩ : ∃ z, z = ((z86 + z29) - (1 : Int32)) := ⟨_, rfl⟩
  rw [← hz96] at P95
  obtain ⟨cl97, Ar97, q97, S97, N97, H97, G97⟩ := id V87
  have hin97 : ¬ ((5 : Int32) < 0 ∨ cl97.slots.size ≤ ((5 : Int32)).toNatClampNeg) := inb_of S97 ⟨by decide, by decide⟩
  obtain ⟨T97, h97, X97, e97, W97, st97⟩ := stI X87 hx hZ e87 Ar97 (j := (5 : Int32)) hin97 (g := (mkF m 154 #[.val (.int p1), .val (.int p2), .val (.int z2), .val (.ref b4), .val (.int z39), .val (.ref b41), .unset] [(.int z96), (.int (5 : Int32)), (.ref b41)])) rfl rfl (hb hby at_154)
  have V97 : Arv Z h97 b41 k41 .int (7 : Int32) [(.int (0 : Int32)), (.int z56), (.int z66), (.int z76), (.int z86), (.int z96), (.int (0 : Int32))] (.int (0 : Int32)) := Arv.set Ar97 q97 S97 N97 H97 G97 rfl W97 5 rfl (Nat.le_of_ble_eq_true rfl)
  have F98 := F88.other W97 ne_b4_b41
  have Z99 : n0 ≤ h97.size := by rw [W97.size]; exact Z89
  have NF97 := Fr.snoc X97 NF87 g_b41
  have P100 : own_Pr p.tables e below S0 T97 (mkF m 155 #[.val (.int p1), .val (.int p2), .val (.int z2), .val (.ref b4), .val (.int z39), .val (.ref b41), .unset] []) := fun t k => P95 t (st97 _ k)
  have P101 : own_Pr p.tables e below S0 T97 (mkF m 162 #[.val (.int p1), .val (.int p2), .val (.int z2), .val (.ref b4), .val (.int z39), .val (.ref b41), .unset] [(.int (5 : Int32)), (.ref b41), (.int (6 : Int32)), (.ref b41)]) := fun t k => P100 t (by
    refine XS.aload X97.here hx rfl (hb hby at_155) rfl rfl ?_
    show Steps p.tables e below (T97.setTop (mkF m 157 #[.val (.int p1), .val (.int p2), .val (.int z2), .val (.ref b4), .val (.int z39), .val (.ref b41), .unset] [(.ref b41)])) _
    refine XS.bipush X97.here hx rfl (hb hby at_157) ?_
    show Steps p.tables e below (T97.setTop (mkF m 159 #[.val (.int p1), .val (.int p2), .val (.int z2), .val (.ref b4), .val (.int z39), .val (.ref b41), .unset] [(.int (6 : Int32)), (.ref b41)])) _
    refine XS.aload X97.here hx rfl (hb hby at_159) rfl rfl ?_
    show Steps p.tables e below (T97.setTop (mkF m 161 #[.val (.int p1), .val (.int p2), .val (.int z2), .val (.ref b4), .val (.int z39), .val (.ref b41), .unset] [(.ref b41), (.int (6 : Int32)), (.ref b41)])) _
    refine XS.iconst X97.here hx rfl (hb hby at_161) ?_
    show Steps p.tables e below (T97.setTop (mkF m 162 #[.val (.int p1), .val (.int p2), .val (.int z2), .val (.ref b4), .val (.int z39), .val (.ref b41), .unset] [(.int (5 : Int32)), (.ref b41), (.int (6 : Int32)), (.ref b41)])) _
    exact k)
  obtain ⟨cl102, Ar102, q102, S102, N102, H102, G102⟩ := id V97
  have hin102 : ¬ ((5 : Int32) < 0 ∨ cl102.slots.size ≤ ((5 : Int32)).toNatClampNeg) := inb_of S102 ⟨by decide, by decide⟩
  have P103 : own_Pr p.tables e below S0 T97 (mkF m 165 #[.val (.int p1), .val (.int p2), .val (.int z2), .val (.ref b4), .val (.int z39), .val (.ref b41), .unset] [(.int (5 : Int32)), (.ref b4), (.int z96), (.int (6 : Int32)), (.ref b41)]) := fun t k => P101 t (by
    refine X97.iaload hx (j := (5 : Int32)) (v := (.int z96)) (by rw [e97]; exact Ar102.1) (State.isArrayOf_alike hZ.alike Ar102.2.1) Ar102.2.2 hin102 (H102.at hin102 rfl) (g := (mkF m 162 #[.val (.int p1), .val (.int p2), .val (.int z2), .val (.ref b4), .val (.int z39), .val (.ref b41), .unset] [(.int (5 : Int32)), (.ref b41), (.int (6 : Int32)), (.ref b41)])) rfl rfl (hb hby at_162) _ ?_
    show Steps p.tables e below (T97.setTop (mkF m 163 #[.val (.int p1), .val (.int p2), .val (.int z2), .val (.ref b4), .val (.int z39), .val (.ref b41), .unset] [(.int z96), (.int (6 : Int32)), (.ref b41)])) _
    refine XS.aloadN X97.here hx rfl (hb hby at_163) rfl rfl ?_
    show Steps p.tables e below (T97.setTop (mkF m 164 #[.val (.int p1), .val (.int p2), .val (.int z2), .val (.ref b4), .val (.int z39), .val (.ref b41), .unset] [(.ref b4), (.int z96), (.int (6 : Int32)), (.ref b41)])) _
    refine XS.iconst X97.here hx rfl (hb hby at_164) ?_
    show Steps p.tables e below (T97.setTop (mkF m 165 #[.val (.int p1), .val (.int p2), .val (.int z2), .val (.ref b4), .val (.int z39), .val (.ref b41), .unset] [(.int (5 : Int32)), (.ref b4), (.int z96), (.int (6 : Int32)), (.ref b41)])) _
    exact k)
  obtain ⟨cl104, Ar104, q104, S104, N104, H104, G104⟩ := id F98
  have hin104 : ¬ ((5 : Int32) < 0 ∨ cl104.slots.size ≤ ((5 : Int32)).toNatClampNeg) := inb_of S104 ⟨by decide, by decide⟩
  have P105 : own_Pr p.tables e below S0 T97 (mkF m 169 #[.val (.int p1), .val (.int p2), .val (.int z2), .val (.ref b4), .val (.int z39), .val (.ref b41), .unset] [(.int ((z96 + z34) - (1 : Int32))), (.int (6 : Int32)), (.ref b41)]) := fun t k => P103 t (by
    refine X97.iaload hx (j := (5 : Int32)) (v := (.int z34)) (by rw [e97]; exact Ar104.1) (State.isArrayOf_alike hZ.alike Ar104.2.1) Ar104.2.2 hin104 (H104.at hin104 rfl) (g := (mkF m 165 #[.val (.int p1), .val (.int p2), .val (.int z2), .val (.ref b4), .val (.int z39), .val (.ref b41), .unset] [(.int (5 : Int32)), (.ref b4), (.int z96), (.int (6 : Int32)), (.ref b41)])) rfl rfl (hb hby at_165) _ ?_
    show Steps p.tables e below (T97.setTop (mkF m 166 #[.val (.int p1), .val (.int p2), .val (.int z2), .val (.ref b4), .val (.int z39), .val (.ref b41), .unset] [(.int z34), (.int z96), (.int (6 : Int32)), (.ref b41)])) _
    refine XS.iadd X97.here hx rfl (hb hby at_166) rfl ?_
    show Steps p.tables e below (T97.setTop (mkF m 167 #[.val (.int p1), .val (.int p2), .val (.int z2), .val (.ref b4), .val (.int z39), .val (.ref b41), .unset] [(.int (z96 + z34)), (.int (6 : Int32)), (.ref b41)])) _
    refine XS.iconst X97.here hx rfl (hb hby at_167) ?_
    show Steps p.tables e below (T97.setTop (mkF m 168 #[.val (.int p1), .val (.int p2), .val (.int z2), .val (.ref b4), .val (.int z39), .val (.ref b41), .unset] [(.int (1 : Int32)), (.int (z96 + z34)), (.int (6 : Int32)), (.ref b41)])) _
    refine XS.isub X97.here hx rfl (hb hby at_168) rfl ?_
    show Steps p.tables e below (T97.setTop (mkF m 169 #[.val (.int p1), .val (.int p2), .val (.int z2), .val (.ref b4), .val (.int z39), .val (.ref b41), .unset] [(.int ((z96 + z34) - (1 : Int32))), (.int (6 : Int32)), (.ref b41)])) _
    exact k)
  obtain ⟨z106, hz106⟩ : ∃ z, z = ((z96 + z34) - (1 : Int32)) := ⟨_, rfl⟩
  rw [← hz106] at P105
  obtain ⟨cl107, Ar107, q107, S107, N107, H107, G107⟩ := id V97
  have hin107 : ¬ ((6 : Int32) < 0 ∨ cl107.slots.size ≤ ((6 : Int32)).toNatClampNeg) := inb_of S107 ⟨by decide, by decide⟩
  obtain ⟨T107, h107, X107, e107, W107, st107⟩ := stI X97 hx hZ e97 Ar107 (j := (6 : Int32)) hin107 (g := (mkF m 169 #[.val (.int p1), .val (.int p2), .val (.int z2), .val (.ref b4), .val (.int z39), .val (.ref b41), .unset] [(.int z106), (.int (6 : Int32)), (.ref b41)])) rfl rfl (hb hby at_169)
  have V107 : Arv Z h107 b41 k41 .int (7 : Int32) [(.int (0 : Int32)), (.int z56), (.int z66), (.int z76), (.int z86), (.int z96), (.int z106)] (.int (0 : Int32)) := Arv.set Ar107 q107 S107 N107 H107 G107 rfl W107 6 rfl (Nat.le_of_ble_eq_true rfl)
  have F108 := F98.other W107 ne_b4_b41
  have Z109 : n0 ≤ h107.size := by rw [W107.size]; exact Z99
  have NF107 := Fr.snoc X107 NF97 g_b41
  have P110 : own_Pr p.tables e below S0 T107 (mkF m 170 #[.val (.int p1), .val (.int p2), .val (.int z2), .val (.ref b4), .val (.int z39), .val (.ref b41), .unset] []) := fun t k => P105 t (st107 _ k)
  have P111 : own_Pr p.tables e below S0 T107 (mkF m 179 #[.val (.int p1), .val (.int p2), .val (.int z2), .val (.ref b4), .val (.int z39), .val (.ref b41), .val (.int (-1 : Int32))] [(.int z39), (.int (4 : Int32)), (.ref b41), (.ref b4)]) := fun t k => P110 t (by
    refine XS.iconst X107.here hx rfl (hb hby at_170) ?_
    show Steps p.tables e below (T107.setTop (mkF m 171 #[.val (.int p1), .val (.int p2), .val (.int z2), .val (.ref b4), .val (.int z39), .val (.ref b41), .unset] [(.int (-1 : Int32))])) _
    refine XS.istore X107.here hx rfl (hb hby at_171) rfl (l' := #[.val (.int p1), .val (.int p2), .val (.int z2), .val (.ref b4), .val (.int z39), .val (.ref b41), .val (.int (-1 : Int32))]) rfl ?_
    show Steps p.tables e below (T107.setTop (mkF m 173 #[.val (.int p1), .val (.int p2), .val (.int z2), .val (.ref b4), .val (.int z39), .val (.ref b41), .val (.int (-1 : Int32))] [])) _
    refine XS.aloadN X107.here hx rfl (hb hby at_173) rfl rfl ?_
    show Steps p.tables e below (T107.setTop (mkF m 174 #[.val (.int p1), .val (.int p2), .val (.int z2), .val (.ref b4), .val (.int z39), .val (.ref b41), .val (.int (-1 : Int32))] [(.ref b4)])) _
    refine XS.aload X107.here hx rfl (hb hby at_174) rfl rfl ?_
    show Steps p.tables e below (T107.setTop (mkF m 176 #[.val (.int p1), .val (.int p2), .val (.int z2), .val (.ref b4), .val (.int z39), .val (.ref b41), .val (.int (-1 : Int32))] [(.ref b41), (.ref b4)])) _
    refine XS.iconst X107.here hx rfl (hb hby at_176) ?_
    show Steps p.tables e below (T107.setTop (mkF m 177 #[.val (.int p1), .val (.int p2), .val (.int z2), .val (.ref b4), .val (.int z39), .val (.ref b41), .val (.int (-1 : Int32))] [(.int (4 : Int32)), (.ref b41), (.ref b4)])) _
    refine XS.iload X107.here hx rfl (hb hby at_177) rfl ?_
    show Steps p.tables e below (T107.setTop (mkF m 179 #[.val (.int p1), .val (.int p2), .val (.int z2), .val (.ref b4), .val (.int z39), .val (.ref b41), .val (.int (-1 : Int32))] [(.int z39), (.int (4 : Int32)), (.ref b41), (.ref b4)])) _
    exact k)
  obtain ⟨ca, Ta, Ata⟩ := own_tab (xs := [z9, z14, z19, z24, z29, z34]) F108
  obtain ⟨cp, Tp, Atp⟩ := own_tab (xs := [(0 : Int32), z56, z66, z76, z86, z96, z106]) V107
  have hv := own_v7 hz39
  have HS := own_sp_ok hv (own_tree hz2 Ata Atp hz9 hz14 hz19 hz24 hz29 hz34 hz56 hz66 hz76 hz86 hz96 hz106)
  obtain ⟨_, _, ⟨T112, L112, k112, n112⟩, -, X112, ⟨Lc112, hQ112, l112, y112, z112⟩, st112⟩ := Jvm.LawKit.callS X107 hx (y := (⟨"com/example/compact_concepts/compactconcepts/TreeShapesSecondParentPinLaw", "closesAt", "([I[III)Z"⟩ : MethodName)) hown (mvT hZ (hw _ (List.mem_of_getElem? (i := 2) rfl))) (mvT hZ (hw _ (List.mem_of_getElem? (i := 3) rfl))) (mvT hZ (hw _ (List.mem_of_getElem? (i := 4) rfl))) (mvT hZ (hw _ (List.mem_of_getElem? (i := 5) rfl))) (by decide) (backOf (W := 0) (rm1 l Z a0 hw [] b4 b41 (4 : Int32) z39 ca cp h107 n0 Z109 Ta Tp ⟨by decide, by decide⟩ hv) hZ (hw _ (List.mem_of_getElem? (i := 5) rfl)) (hw _ (List.mem_of_getElem? (i := 4) rfl)) (by decide) (by decide)) (g := (mkF m 179 #[.val (.int p1), .val (.int p2), .val (.int z2), .val (.ref b4), .val (.int z39), .val (.ref b41), .val (.int (-1 : Int32))] [(.int z39), (.int (4 : Int32)), (.ref b41), (.ref b4)])) rfl (by rw [hml]; rfl) (argsL := [(.ref b4), (.ref b41), (.int (4 : Int32)), (.int z39)]) (rest := []) (lenOf pd_2 rfl) rfl (by show 2 * 0 + _ ≤ _; exact Nat.le_of_eq rfl) (hb hby at_179) (fun _ _ => ⟨rfl, e107, (by decide : 2 + 0 ≤ _), (by decide : 13 + 0 ≤ _)⟩)
  dsimp only [Pt.U, Pt.locs, Pt.cells, Pt.slots] at X112 l112 y112 z112 st112 hQ112
  subst l112 y112 z112
  obtain ⟨z112v, rfl, hz112v, Nq112, eq112⟩ := hQ112
  have N112n := Fr.app NF107 Nq112
  have P113 : own_Pr p.tables e below S0 T112 (mkF m 182 #[.val (.int p1), .val (.int p2), .val (.int z2), .val (.ref b4), .val (.int z39), .val (.ref b41), .val (.int (-1 : Int32))] [(.int z112v)]) := fun t k => P111 t (st112 _ k)
  by_cases hc182_114 : z112v = (0 : Int32)
  · have P115 : own_Pr p.tables e below S0 T112 (mkF m 197 #[.val (.int p1), .val (.int p2), .val (.int z2), .val (.ref b4), .val (.int z39), .val (.ref b41), .val (.int (-1 : Int32))] [(.int z39), (.int (3 : Int32)), (.ref b41), (.ref b4)]) := fun t k => P113 t (by
      refine XS.ifYes X112.here hx rfl (pc0 := 182) (pc' := 191) rfl (hb hby at_182) rfl (XT.i0_eq_t hc182_114) (by decide) (by decide) ?_
      show Steps p.tables e below (T112.setTop (mkF m 191 #[.val (.int p1), .val (.int p2), .val (.int z2), .val (.ref b4), .val (.int z39), .val (.ref b41), .val (.int (-1 : Int32))] [])) _
      refine XS.aloadN X112.here hx rfl (hb hby at_191) rfl rfl ?_
      show Steps p.tables e below (T112.setTop (mkF m 192 #[.val (.int p1), .val (.int p2), .val (.int z2), .val (.ref b4), .val (.int z39), .val (.ref b41), .val (.int (-1 : Int32))] [(.ref b4)])) _
      refine XS.aload X112.here hx rfl (hb hby at_192) rfl rfl ?_
      show Steps p.tables e below (T112.setTop (mkF m 194 #[.val (.int p1), .val (.int p2), .val (.int z2), .val (.ref b4), .val (.int z39), .val (.ref b41), .val (.int (-1 : Int32))] [(.ref b41), (.ref b4)])) _
      refine XS.iconst X112.here hx rfl (hb hby at_194) ?_
      show Steps p.tables e below (T112.setTop (mkF m 195 #[.val (.int p1), .val (.int p2), .val (.int z2), .val (.ref b4), .val (.int z39), .val (.ref b41), .val (.int (-1 : Int32))] [(.int (3 : Int32)), (.ref b41), (.ref b4)])) _
      refine XS.iload X112.here hx rfl (hb hby at_195) rfl ?_
      show Steps p.tables e below (T112.setTop (mkF m 197 #[.val (.int p1), .val (.int p2), .val (.int z2), .val (.ref b4), .val (.int z39), .val (.ref b41), .val (.int (-1 : Int32))] [(.int z39), (.int (3 : Int32)), (.ref b41), (.ref b4)])) _
      exact k)
    obtain ⟨_, _, ⟨T116, L116, k116, n116⟩, -, X116, ⟨Lc116, hQ116, l116, y116, z116⟩, st116⟩ := Jvm.LawKit.callS X112 hx (y := (⟨"com/example/compact_concepts/compactconcepts/TreeShapesSecondParentPinLaw", "closesAt", "([I[III)Z"⟩ : MethodName)) hown (mvT hZ (hw _ (List.mem_of_getElem? (i := 2) rfl))) (mvT hZ (hw _ (List.mem_of_getElem? (i := 3) rfl))) (mvT hZ (hw _ (List.mem_of_getElem? (i := 4) rfl))) (mvT hZ (hw _ (List.mem_of_getElem? (i := 5) rfl))) (by decide) (backOf (W := 0) (rm1 l Z a0 hw [] b4 b41 (3 : Int32) z39 ca cp h107 n0 Z109 Ta Tp ⟨by decide, by decide⟩ hv) hZ (hw _ (List.mem_of_getElem? (i := 5) rfl)) (hw _ (List.mem_of_getElem? (i := 4) rfl)) (by decide) (by decide)) (g := (mkF m 197 #[.val (.int p1), .val (.int p2), .val (.int z2), .val (.ref b4), .val (.int z39), .val (.ref b41), .val (.int (-1 : Int32))] [(.int z39), (.int (3 : Int32)), (.ref b41), (.ref b4)])) rfl (by rw [hml]; rfl) (argsL := [(.ref b4), (.ref b41), (.int (3 : Int32)), (.int z39)]) (rest := []) (lenOf pd_2 rfl) rfl (by show 2 * 0 + _ ≤ _; exact Nat.le_of_eq rfl) (hb hby at_197) (fun _ _ => ⟨rfl, eq112, (by decide : 2 + 0 ≤ _), (by decide : 13 + 0 ≤ _)⟩)
    dsimp only [Pt.U, Pt.locs, Pt.cells, Pt.slots] at X116 l116 y116 z116 st116 hQ116
    subst l116 y116 z116
    obtain ⟨z116v, rfl, hz116v, Nq116, eq116⟩ := hQ116
    have N116n := Fr.app N112n Nq116
    have P117 : own_Pr p.tables e below S0 T116 (mkF m 200 #[.val (.int p1), .val (.int p2), .val (.int z2), .val (.ref b4), .val (.int z39), .val (.ref b41), .val (.int (-1 : Int32))] [(.int z116v)]) := fun t k => P115 t (st116 _ k)
    by_cases hc200_118 : z116v = (0 : Int32)
    · have P119 : own_Pr p.tables e below S0 T116 (mkF m 215 #[.val (.int p1), .val (.int p2), .val (.int z2), .val (.ref b4), .val (.int z39), .val (.ref b41), .val (.int (-1 : Int32))] [(.int z39), (.int (2 : Int32)), (.ref b41), (.ref b4)]) := fun t k => P117 t (by
        refine XS.ifYes X116.here hx rfl (pc0 := 200) (pc' := 209) rfl (hb hby at_200) rfl (XT.i0_eq_t hc200_118) (by decide) (by decide) ?_
        show Steps p.tables e below (T116.setTop (mkF m 209 #[.val (.int p1), .val (.int p2), .val (.int z2), .val (.ref b4), .val (.int z39), .val (.ref b41), .val (.int (-1 : Int32))] [])) _
        refine XS.aloadN X116.here hx rfl (hb hby at_209) rfl rfl ?_
        show Steps p.tables e below (T116.setTop (mkF m 210 #[.val (.int p1), .val (.int p2), .val (.int z2), .val (.ref b4), .val (.int z39), .val (.ref b41), .val (.int (-1 : Int32))] [(.ref b4)])) _
        refine XS.aload X116.here hx rfl (hb hby at_210) rfl rfl ?_
        show Steps p.tables e below (T116.setTop (mkF m 212 #[.val (.int p1), .val (.int p2), .val (.int z2), .val (.ref b4), .val (.int z39), .val (.ref b41), .val (.int (-1 : Int32))] [(.ref b41), (.ref b4)])) _
        refine XS.iconst X116.here hx rfl (hb hby at_212) ?_
        show Steps p.tables e below (T116.setTop (mkF m 213 #[.val (.int p1), .val (.int p2), .val (.int z2), .val (.ref b4), .val (.int z39), .val (.ref b41), .val (.int (-1 : Int32))] [(.int (2 : Int32)), (.ref b41), (.ref b4)])) _
        refine XS.iload X116.here hx rfl (hb hby at_213) rfl ?_
        show Steps p.tables e below (T116.setTop (mkF m 215 #[.val (.int p1), .val (.int p2), .val (.int z2), .val (.ref b4), .val (.int z39), .val (.ref b41), .val (.int (-1 : Int32))] [(.int z39), (.int (2 : Int32)), (.ref b41), (.ref b4)])) _
        exact k)
      obtain ⟨_, _, ⟨T120, L120, k120, n120⟩, -, X120, ⟨Lc120, hQ120, l120, y120, z120⟩, st120⟩ := Jvm.LawKit.callS X116 hx (y := (⟨"com/example/compact_concepts/compactconcepts/TreeShapesSecondParentPinLaw", "closesAt", "([I[III)Z"⟩ : MethodName)) hown (mvT hZ (hw _ (List.mem_of_getElem? (i := 2) rfl))) (mvT hZ (hw _ (List.mem_of_getElem? (i := 3) rfl))) (mvT hZ (hw _ (List.mem_of_getElem? (i := 4) rfl))) (mvT hZ (hw _ (List.mem_of_getElem? (i := 5) rfl))) (by decide) (backOf (W := 0) (rm1 l Z a0 hw [] b4 b41 (2 : Int32) z39 ca cp h107 n0 Z109 Ta Tp ⟨by decide, by decide⟩ hv) hZ (hw _ (List.mem_of_getElem? (i := 5) rfl)) (hw _ (List.mem_of_getElem? (i := 4) rfl)) (by decide) (by decide)) (g := (mkF m 215 #[.val (.int p1), .val (.int p2), .val (.int z2), .val (.ref b4), .val (.int z39), .val (.ref b41), .val (.int (-1 : Int32))] [(.int z39), (.int (2 : Int32)), (.ref b41), (.ref b4)])) rfl (by rw [hml]; rfl) (argsL := [(.ref b4), (.ref b41), (.int (2 : Int32)), (.int z39)]) (rest := []) (lenOf pd_2 rfl) rfl (by show 2 * 0 + _ ≤ _; exact Nat.le_of_eq rfl) (hb hby at_215) (fun _ _ => ⟨rfl, eq116, (by decide : 2 + 0 ≤ _), (by decide : 13 + 0 ≤ _)⟩)
      dsimp only [Pt.U, Pt.locs, Pt.cells, Pt.slots] at X120 l120 y120 z120 st120 hQ120
      subst l120 y120 z120
      obtain ⟨z120v, rfl, hz120v, Nq120, eq120⟩ := hQ120
      have N120n := Fr.app N116n Nq120
      have P121 : own_Pr p.tables e below S0 T120 (mkF m 218 #[.val (.int p1), .val (.int p2), .val (.int z2), .val (.ref b4), .val (.int z39), .val (.ref b41), .val (.int (-1 : Int32))] [(.int z120v)]) := fun t k => P119 t (st120 _ k)
      by_cases hc218_122 : z120v = (0 : Int32)
      · have P123 : own_Pr p.tables e below S0 T120 (mkF m 233 #[.val (.int p1), .val (.int p2), .val (.int z2), .val (.ref b4), .val (.int z39), .val (.ref b41), .val (.int (-1 : Int32))] [(.int z39), (.int (1 : Int32)), (.ref b41), (.ref b4)]) := fun t k => P121 t (by
          refine XS.ifYes X120.here hx rfl (pc0 := 218) (pc' := 227) rfl (hb hby at_218) rfl (XT.i0_eq_t hc218_122) (by decide) (by decide) ?_
          show Steps p.tables e below (T120.setTop (mkF m 227 #[.val (.int p1), .val (.int p2), .val (.int z2), .val (.ref b4), .val (.int z39), .val (.ref b41), .val (.int (-1 : Int32))] [])) _
          refine XS.aloadN X120.here hx rfl (hb hby at_227) rfl rfl ?_
          show Steps p.tables e below (T120.setTop (mkF m 228 #[.val (.int p1), .val (.int p2), .val (.int z2), .val (.ref b4), .val (.int z39), .val (.ref b41), .val (.int (-1 : Int32))] [(.ref b4)])) _
          refine XS.aload X120.here hx rfl (hb hby at_228) rfl rfl ?_
          show Steps p.tables e below (T120.setTop (mkF m 230 #[.val (.int p1), .val (.int p2), .val (.int z2), .val (.ref b4), .val (.int z39), .val (.ref b41), .val (.int (-1 : Int32))] [(.ref b41), (.ref b4)])) _
          refine XS.iconst X120.here hx rfl (hb hby at_230) ?_
          show Steps p.tables e below (T120.setTop (mkF m 231 #[.val (.int p1), .val (.int p2), .val (.int z2), .val (.ref b4), .val (.int z39), .val (.ref b41), .val (.int (-1 : Int32))] [(.int (1 : Int32)), (.ref b41), (.ref b4)])) _
          refine XS.iload X120.here hx rfl (hb hby at_231) rfl ?_
          show Steps p.tables e below (T120.setTop (mkF m 233 #[.val (.int p1), .val (.int p2), .val (.int z2), .val (.ref b4), .val (.int z39), .val (.ref b41), .val (.int (-1 : Int32))] [(.int z39), (.int (1 : Int32)), (.ref b41), (.ref b4)])) _
          exact k)
        obtain ⟨_, _, ⟨T124, L124, k124, n124⟩, -, X124, ⟨Lc124, hQ124, l124, y124, z124⟩, st124⟩ := Jvm.LawKit.callS X120 hx (y := (⟨"com/example/compact_concepts/compactconcepts/TreeShapesSecondParentPinLaw", "closesAt", "([I[III)Z"⟩ : MethodName)) hown (mvT hZ (hw _ (List.mem_of_getElem? (i := 2) rfl))) (mvT hZ (hw _ (List.mem_of_getElem? (i := 3) rfl))) (mvT hZ (hw _ (List.mem_of_getElem? (i := 4) rfl))) (mvT hZ (hw _ (List.mem_of_getElem? (i := 5) rfl))) (by decide) (backOf (W := 0) (rm1 l Z a0 hw [] b4 b41 (1 : Int32) z39 ca cp h107 n0 Z109 Ta Tp ⟨by decide, by decide⟩ hv) hZ (hw _ (List.mem_of_getElem? (i := 5) rfl)) (hw _ (List.mem_of_getElem? (i := 4) rfl)) (by decide) (by decide)) (g := (mkF m 233 #[.val (.int p1), .val (.int p2), .val (.int z2), .val (.ref b4), .val (.int z39), .val (.ref b41), .val (.int (-1 : Int32))] [(.int z39), (.int (1 : Int32)), (.ref b41), (.ref b4)])) rfl (by rw [hml]; rfl) (argsL := [(.ref b4), (.ref b41), (.int (1 : Int32)), (.int z39)]) (rest := []) (lenOf pd_2 rfl) rfl (by show 2 * 0 + _ ≤ _; exact Nat.le_of_eq rfl) (hb hby at_233) (fun _ _ => ⟨rfl, eq120, (by decide : 2 + 0 ≤ _), (by decide : 13 + 0 ≤ _)⟩)
        dsimp only [Pt.U, Pt.locs, Pt.cells, Pt.slots] at X124 l124 y124 z124 st124 hQ124
        subst l124 y124 z124
        obtain ⟨z124v, rfl, hz124v, Nq124, eq124⟩ := hQ124
        have N124n := Fr.app N120n Nq124
        have P125 : own_Pr p.tables e below S0 T124 (mkF m 236 #[.val (.int p1), .val (.int p2), .val (.int z2), .val (.ref b4), .val (.int z39), .val (.ref b41), .val (.int (-1 : Int32))] [(.int z124v)]) := fun t k => P123 t (st124 _ k)
        by_cases hc236_126 : z124v = (0 : Int32)
        · have P127 : own_Pr p.tables e below S0 T124 (mkF m 251 #[.val (.int p1), .val (.int p2), .val (.int z2), .val (.ref b4), .val (.int z39), .val (.ref b41), .val (.int (-1 : Int32))] [(.int z39), (.int (0 : Int32)), (.ref b41), (.ref b4)]) := fun t k => P125 t (by
            refine XS.ifYes X124.here hx rfl (pc0 := 236) (pc' := 245) rfl (hb hby at_236) rfl (XT.i0_eq_t hc236_126) (by decide) (by decide) ?_
            show Steps p.tables e below (T124.setTop (mkF m 245 #[.val (.int p1), .val (.int p2), .val (.int z2), .val (.ref b4), .val (.int z39), .val (.ref b41), .val (.int (-1 : Int32))] [])) _
            refine XS.aloadN X124.here hx rfl (hb hby at_245) rfl rfl ?_
            show Steps p.tables e below (T124.setTop (mkF m 246 #[.val (.int p1), .val (.int p2), .val (.int z2), .val (.ref b4), .val (.int z39), .val (.ref b41), .val (.int (-1 : Int32))] [(.ref b4)])) _
            refine XS.aload X124.here hx rfl (hb hby at_246) rfl rfl ?_
            show Steps p.tables e below (T124.setTop (mkF m 248 #[.val (.int p1), .val (.int p2), .val (.int z2), .val (.ref b4), .val (.int z39), .val (.ref b41), .val (.int (-1 : Int32))] [(.ref b41), (.ref b4)])) _
            refine XS.iconst X124.here hx rfl (hb hby at_248) ?_
            show Steps p.tables e below (T124.setTop (mkF m 249 #[.val (.int p1), .val (.int p2), .val (.int z2), .val (.ref b4), .val (.int z39), .val (.ref b41), .val (.int (-1 : Int32))] [(.int (0 : Int32)), (.ref b41), (.ref b4)])) _
            refine XS.iload X124.here hx rfl (hb hby at_249) rfl ?_
            show Steps p.tables e below (T124.setTop (mkF m 251 #[.val (.int p1), .val (.int p2), .val (.int z2), .val (.ref b4), .val (.int z39), .val (.ref b41), .val (.int (-1 : Int32))] [(.int z39), (.int (0 : Int32)), (.ref b41), (.ref b4)])) _
            exact k)
          obtain ⟨_, _, ⟨T128, L128, k128, n128⟩, -, X128, ⟨Lc128, hQ128, l128, y128, z128⟩, st128⟩ := Jvm.LawKit.callS X124 hx (y := (⟨"com/example/compact_concepts/compactconcepts/TreeShapesSecondParentPinLaw", "closesAt", "([I[III)Z"⟩ : MethodName)) hown (mvT hZ (hw _ (List.mem_of_getElem? (i := 2) rfl))) (mvT hZ (hw _ (List.mem_of_getElem? (i := 3) rfl))) (mvT hZ (hw _ (List.mem_of_getElem? (i := 4) rfl))) (mvT hZ (hw _ (List.mem_of_getElem? (i := 5) rfl))) (by decide) (backOf (W := 0) (rm1 l Z a0 hw [] b4 b41 (0 : Int32) z39 ca cp h107 n0 Z109 Ta Tp ⟨by decide, by decide⟩ hv) hZ (hw _ (List.mem_of_getElem? (i := 5) rfl)) (hw _ (List.mem_of_getElem? (i := 4) rfl)) (by decide) (by decide)) (g := (mkF m 251 #[.val (.int p1), .val (.int p2), .val (.int z2), .val (.ref b4), .val (.int z39), .val (.ref b41), .val (.int (-1 : Int32))] [(.int z39), (.int (0 : Int32)), (.ref b41), (.ref b4)])) rfl (by rw [hml]; rfl) (argsL := [(.ref b4), (.ref b41), (.int (0 : Int32)), (.int z39)]) (rest := []) (lenOf pd_2 rfl) rfl (by show 2 * 0 + _ ≤ _; exact Nat.le_of_eq rfl) (hb hby at_251) (fun _ _ => ⟨rfl, eq124, (by decide : 2 + 0 ≤ _), (by decide : 13 + 0 ≤ _)⟩)
          dsimp only [Pt.U, Pt.locs, Pt.cells, Pt.slots] at X128 l128 y128 z128 st128 hQ128
          subst l128 y128 z128
          obtain ⟨z128v, rfl, hz128v, Nq128, eq128⟩ := hQ128
          have N128n := Fr.app N124n Nq128
          have P129 : own_Pr p.tables e below S0 T128 (mkF m 254 #[.val (.int p1), .val (.int p2), .val (.int z2), .val (.ref b4), .val (.int z39), .val (.ref b41), .val (.int (-1 : Int32))] [(.int z128v)]) := fun t k => P127 t (st128 _ k)
          by_cases hc254_130 : z128v = (0 : Int32)
          · have P131 : own_Pr p.tables e below S0 T128 (mkF m 263 #[.val (.int p1), .val (.int p2), .val (.int z2), .val (.ref b4), .val (.int z39), .val (.ref b41), .val (.int (-1 : Int32))] [(.int z39), (.ref b4)]) := fun t k => P129 t (by
              refine XS.ifYes X128.here hx rfl (pc0 := 254) (pc' := 260) rfl (hb hby at_254) rfl (XT.i0_eq_t hc254_130) (by decide) (by decide) ?_
              show Steps p.tables e below (T128.setTop (mkF m 260 #[.val (.int p1), .val (.int p2), .val (.int z2), .val (.ref b4), .val (.int z39), .val (.ref b41), .val (.int (-1 : Int32))] [])) _
              refine XS.aloadN X128.here hx rfl (hb hby at_260) rfl rfl ?_
              show Steps p.tables e below (T128.setTop (mkF m 261 #[.val (.int p1), .val (.int p2), .val (.int z2), .val (.ref b4), .val (.int z39), .val (.ref b41), .val (.int (-1 : Int32))] [(.ref b4)])) _
              refine XS.iload X128.here hx rfl (hb hby at_261) rfl ?_
              show Steps p.tables e below (T128.setTop (mkF m 263 #[.val (.int p1), .val (.int p2), .val (.int z2), .val (.ref b4), .val (.int z39), .val (.ref b41), .val (.int (-1 : Int32))] [(.int z39), (.ref b4)])) _
              exact k)
            obtain ⟨_, _, ⟨T132, L132, k132, n132⟩, -, X132, ⟨Lc132, hQ132, l132, y132, z132⟩, st132⟩ := Jvm.LawKit.callS X128 hx (y := (⟨"com/example/compact_concepts/compactconcepts/TreeShapes", "secondParent", "([II)I"⟩ : MethodName)) hown (mvT hZ (hw _ (List.mem_of_getElem? (i := 6) rfl))) (mvT hZ (hw _ (List.mem_of_getElem? (i := 7) rfl))) (mvT hZ (hw _ (List.mem_of_getElem? (i := 8) rfl))) (mvT hZ (hw _ (List.mem_of_getElem? (i := 9) rfl))) (by decide) (backOf (W := 0) (rm2 l Z a0 hw [] b4 z39 ca 6 (own_exp ca cp z39) h107 n0 Z109 Ta HS) hZ (hw _ (List.mem_of_getElem? (i := 9) rfl)) (hw _ (List.mem_of_getElem? (i := 8) rfl)) (by decide) (by decide)) (g := (mkF m 263 #[.val (.int p1), .val (.int p2), .val (.int z2), .val (.ref b4), .val (.int z39), .val (.ref b41), .val (.int (-1 : Int32))] [(.int z39), (.ref b4)])) rfl (by rw [hml]; rfl) (argsL := [(.ref b4), (.int z39)]) (rest := []) (lenOf pd_1 rfl) rfl (by show 2 * 0 + _ ≤ _; exact Nat.le_of_eq rfl) (hb hby at_263) (fun _ _ => ⟨rfl, eq128, (by decide : 2 + 0 ≤ _), (by decide : 13 + 0 ≤ _)⟩)
            dsimp only [Pt.U, Pt.locs, Pt.cells, Pt.slots] at X132 l132 y132 z132 st132 hQ132
            subst l132 y132 z132
            obtain ⟨z132v, rfl, hz132v, Nq132, eq132⟩ := hQ132
            have N132n := Fr.app N128n Nq132
            have P133 : own_Pr p.tables e below S0 T132 (mkF m 266 #[.val (.int p1), .val (.int p2), .val (.int z2), .val (.ref b4), .val (.int z39), .val (.ref b41), .val (.int (-1 : Int32))] [(.int z132v)]) := fun t k => P131 t (st132 _ k)
            have P134 : own_Pr p.tables e below S0 T132 (mkF m 268 #[.val (.int p1), .val (.int p2), .val (.int z2), .val (.ref b4), .val (.int z39), .val (.ref b41), .val (.int (-1 : Int32))] [(.int (-1 : Int32)), (.int z132v)]) := fun t k => P133 t (by
              refine XS.iload X132.here hx rfl (hb hby at_266) rfl ?_
              show Steps p.tables e below (T132.setTop (mkF m 268 #[.val (.int p1), .val (.int p2), .val (.int z2), .val (.ref b4), .val (.int z39), .val (.ref b41), .val (.int (-1 : Int32))] [(.int (-1 : Int32)), (.int z132v)])) _
              exact k)
            have hfin : z132v = (-1 : Int32) := by
              rw [hz132v]; unfold own_exp
              rw [← hz112v, ← hz116v, ← hz120v, ← hz124v, ← hz128v, if_pos hc182_114, if_pos hc200_118, if_pos hc218_122, if_pos hc236_126, if_pos hc254_130]
            have P135 : own_Pr p.tables e below S0 T132 (mkF m 276 #[.val (.int p1), .val (.int p2), .val (.int z2), .val (.ref b4), .val (.int z39), .val (.ref b41), .val (.int (-1 : Int32))] [(.int (1 : Int32))]) := fun t k => P134 t (by
              refine XS.icmpNo X132.here hx rfl (hb hby at_268) rfl (XT.ii_ne_f hfin) ?_
              show Steps p.tables e below (T132.setTop (mkF m 271 #[.val (.int p1), .val (.int p2), .val (.int z2), .val (.ref b4), .val (.int z39), .val (.ref b41), .val (.int (-1 : Int32))] [])) _
              refine XS.iconst X132.here hx rfl (hb hby at_271) ?_
              show Steps p.tables e below (T132.setTop (mkF m 272 #[.val (.int p1), .val (.int p2), .val (.int z2), .val (.ref b4), .val (.int z39), .val (.ref b41), .val (.int (-1 : Int32))] [(.int (1 : Int32))])) _
              refine XS.goto X132.here hx rfl (pc0 := 272) (pc' := 276) rfl (hb hby at_272) (by decide) (by decide) ?_
              show Steps p.tables e below (T132.setTop (mkF m 276 #[.val (.int p1), .val (.int p2), .val (.int z2), .val (.ref b4), .val (.int z39), .val (.ref b41), .val (.int (-1 : Int32))] [(.int (1 : Int32))])) _
              exact k)
            obtain ⟨fs, hr, hrun, hended, hW, hsame⟩ := X132.leave (v := some (.int (1 : Int32))) (fun h => by rw [Bd.returns] at h; cases h)
            have fin : Steps p.tables e below S0 (T132.setFrames fs) := P135 _ (retN X132 hx (t := .boolean) Bd.returns (by simp) (hb hby at_276) hr)
            rw [hS0] at fin
            refine ⟨_, _, fin, hrun, hended, _, _, rfl, ?_, ⟨_, rfl⟩, hW, hsame.mono (by decide) (by decide)⟩
            show own_QL n0 _ _
            exact ⟨_, rfl, rfl, N132n⟩
          · have P136 : own_Pr p.tables e below S0 T128 (mkF m 263 #[.val (.int p1), .val (.int p2), .val (.int z2), .val (.ref b4), .val (.int z39), .val (.ref b41), .val (.int (0 : Int32))] [(.int z39), (.ref b4)]) := fun t k => P129 t (by
              refine XS.ifNo X128.here hx rfl (hb hby at_254) rfl (XT.i0_eq_f hc254_130) ?_
              show Steps p.tables e below (T128.setTop (mkF m 257 #[.val (.int p1), .val (.int p2), .val (.int z2), .val (.ref b4), .val (.int z39), .val (.ref b41), .val (.int (-1 : Int32))] [])) _
              refine XS.iconst X128.here hx rfl (hb hby at_257) ?_
              show Steps p.tables e below (T128.setTop (mkF m 258 #[.val (.int p1), .val (.int p2), .val (.int z2), .val (.ref b4), .val (.int z39), .val (.ref b41), .val (.int (-1 : Int32))] [(.int (0 : Int32))])) _
              refine XS.istore X128.here hx rfl (hb hby at_258) rfl (l' := #[.val (.int p1), .val (.int p2), .val (.int z2), .val (.ref b4), .val (.int z39), .val (.ref b41), .val (.int (0 : Int32))]) rfl ?_
              show Steps p.tables e below (T128.setTop (mkF m 260 #[.val (.int p1), .val (.int p2), .val (.int z2), .val (.ref b4), .val (.int z39), .val (.ref b41), .val (.int (0 : Int32))] [])) _
              refine XS.aloadN X128.here hx rfl (hb hby at_260) rfl rfl ?_
              show Steps p.tables e below (T128.setTop (mkF m 261 #[.val (.int p1), .val (.int p2), .val (.int z2), .val (.ref b4), .val (.int z39), .val (.ref b41), .val (.int (0 : Int32))] [(.ref b4)])) _
              refine XS.iload X128.here hx rfl (hb hby at_261) rfl ?_
              show Steps p.tables e below (T128.setTop (mkF m 263 #[.val (.int p1), .val (.int p2), .val (.int z2), .val (.ref b4), .val (.int z39), .val (.ref b41), .val (.int (0 : Int32))] [(.int z39), (.ref b4)])) _
              exact k)
            obtain ⟨_, _, ⟨T137, L137, k137, n137⟩, -, X137, ⟨Lc137, hQ137, l137, y137, z137⟩, st137⟩ := Jvm.LawKit.callS X128 hx (y := (⟨"com/example/compact_concepts/compactconcepts/TreeShapes", "secondParent", "([II)I"⟩ : MethodName)) hown (mvT hZ (hw _ (List.mem_of_getElem? (i := 6) rfl))) (mvT hZ (hw _ (List.mem_of_getElem? (i := 7) rfl))) (mvT hZ (hw _ (List.mem_of_getElem? (i := 8) rfl))) (mvT hZ (hw _ (List.mem_of_getElem? (i := 9) rfl))) (by decide) (backOf (W := 0) (rm2 l Z a0 hw [] b4 z39 ca 6 (own_exp ca cp z39) h107 n0 Z109 Ta HS) hZ (hw _ (List.mem_of_getElem? (i := 9) rfl)) (hw _ (List.mem_of_getElem? (i := 8) rfl)) (by decide) (by decide)) (g := (mkF m 263 #[.val (.int p1), .val (.int p2), .val (.int z2), .val (.ref b4), .val (.int z39), .val (.ref b41), .val (.int (0 : Int32))] [(.int z39), (.ref b4)])) rfl (by rw [hml]; rfl) (argsL := [(.ref b4), (.int z39)]) (rest := []) (lenOf pd_1 rfl) rfl (by show 2 * 0 + _ ≤ _; exact Nat.le_of_eq rfl) (hb hby at_263) (fun _ _ => ⟨rfl, eq128, (by decide : 2 + 0 ≤ _), (by decide : 13 + 0 ≤ _)⟩)
            dsimp only [Pt.U, Pt.locs, Pt.cells, Pt.slots] at X137 l137 y137 z137 st137 hQ137
            subst l137 y137 z137
            obtain ⟨z137v, rfl, hz137v, Nq137, eq137⟩ := hQ137
            have N137n := Fr.app N128n Nq137
            have P138 : own_Pr p.tables e below S0 T137 (mkF m 266 #[.val (.int p1), .val (.int p2), .val (.int z2), .val (.ref b4), .val (.int z39), .val (.ref b41), .val (.int (0 : Int32))] [(.int z137v)]) := fun t k => P136 t (st137 _ k)
            have P139 : own_Pr p.tables e below S0 T137 (mkF m 268 #[.val (.int p1), .val (.int p2), .val (.int z2), .val (.ref b4), .val (.int z39), .val (.ref b41), .val (.int (0 : Int32))] [(.int (0 : Int32)), (.int z137v)]) := fun t k => P138 t (by
              refine XS.iload X137.here hx rfl (hb hby at_266) rfl ?_
              show Steps p.tables e below (T137.setTop (mkF m 268 #[.val (.int p1), .val (.int p2), .val (.int z2), .val (.ref b4), .val (.int z39), .val (.ref b41), .val (.int (0 : Int32))] [(.int (0 : Int32)), (.int z137v)])) _
              exact k)
            have hfin : z137v = (0 : Int32) := by
              rw [hz137v]; unfold own_exp
              rw [← hz112v, ← hz116v, ← hz120v, ← hz124v, ← hz128v, if_pos hc182_114, if_pos hc200_118, if_pos hc218_122, if_pos hc236_126, if_neg hc254_130]
            have P140 : own_Pr p.tables e below S0 T137 (mkF m 276 #[.val (.int p1), .val (.int p2), .val (.int z2), .val (.ref b4), .val (.int z39), .val (.ref b41), .val (.int (0 : Int32))] [(.int (1 : Int32))]) := fun t k => P139 t (by
              refine XS.icmpNo X137.here hx rfl (hb hby at_268) rfl (XT.ii_ne_f hfin) ?_
              show Steps p.tables e below (T137.setTop (mkF m 271 #[.val (.int p1), .val (.int p2), .val (.int z2), .val (.ref b4), .val (.int z39), .val (.ref b41), .val (.int (0 : Int32))] [])) _
              refine XS.iconst X137.here hx rfl (hb hby at_271) ?_
              show Steps p.tables e below (T137.setTop (mkF m 272 #[.val (.int p1), .val (.int p2), .val (.int z2), .val (.ref b4), .val (.int z39), .val (.ref b41), .val (.int (0 : Int32))] [(.int (1 : Int32))])) _
              refine XS.goto X137.here hx rfl (pc0 := 272) (pc' := 276) rfl (hb hby at_272) (by decide) (by decide) ?_
              show Steps p.tables e below (T137.setTop (mkF m 276 #[.val (.int p1), .val (.int p2), .val (.int z2), .val (.ref b4), .val (.int z39), .val (.ref b41), .val (.int (0 : Int32))] [(.int (1 : Int32))])) _
              exact k)
            obtain ⟨fs, hr, hrun, hended, hW, hsame⟩ := X137.leave (v := some (.int (1 : Int32))) (fun h => by rw [Bd.returns] at h; cases h)
            have fin : Steps p.tables e below S0 (T137.setFrames fs) := P140 _ (retN X137 hx (t := .boolean) Bd.returns (by simp) (hb hby at_276) hr)
            rw [hS0] at fin
            refine ⟨_, _, fin, hrun, hended, _, _, rfl, ?_, ⟨_, rfl⟩, hW, hsame.mono (by decide) (by decide)⟩
            show own_QL n0 _ _
            exact ⟨_, rfl, rfl, N137n⟩
        · have P141 : own_Pr p.tables e below S0 T124 (mkF m 263 #[.val (.int p1), .val (.int p2), .val (.int z2), .val (.ref b4), .val (.int z39), .val (.ref b41), .val (.int (1 : Int32))] [(.int z39), (.ref b4)]) := fun t k => P125 t (by
            refine XS.ifNo X124.here hx rfl (hb hby at_236) rfl (XT.i0_eq_f hc236_126) ?_
            show Steps p.tables e below (T124.setTop (mkF m 239 #[.val (.int p1), .val (.int p2), .val (.int z2), .val (.ref b4), .val (.int z39), .val (.ref b41), .val (.int (-1 : Int32))] [])) _
            refine XS.iconst X124.here hx rfl (hb hby at_239) ?_
            show Steps p.tables e below (T124.setTop (mkF m 240 #[.val (.int p1), .val (.int p2), .val (.int z2), .val (.ref b4), .val (.int z39), .val (.ref b41), .val (.int (-1 : Int32))] [(.int (1 : Int32))])) _
            refine XS.istore X124.here hx rfl (hb hby at_240) rfl (l' := #[.val (.int p1), .val (.int p2), .val (.int z2), .val (.ref b4), .val (.int z39), .val (.ref b41), .val (.int (1 : Int32))]) rfl ?_
            show Steps p.tables e below (T124.setTop (mkF m 242 #[.val (.int p1), .val (.int p2), .val (.int z2), .val (.ref b4), .val (.int z39), .val (.ref b41), .val (.int (1 : Int32))] [])) _
            refine XS.goto X124.here hx rfl (pc0 := 242) (pc' := 260) rfl (hb hby at_242) (by decide) (by decide) ?_
            show Steps p.tables e below (T124.setTop (mkF m 260 #[.val (.int p1), .val (.int p2), .val (.int z2), .val (.ref b4), .val (.int z39), .val (.ref b41), .val (.int (1 : Int32))] [])) _
            refine XS.aloadN X124.here hx rfl (hb hby at_260) rfl rfl ?_
            show Steps p.tables e below (T124.setTop (mkF m 261 #[.val (.int p1), .val (.int p2), .val (.int z2), .val (.ref b4), .val (.int z39), .val (.ref b41), .val (.int (1 : Int32))] [(.ref b4)])) _
            refine XS.iload X124.here hx rfl (hb hby at_261) rfl ?_
            show Steps p.tables e below (T124.setTop (mkF m 263 #[.val (.int p1), .val (.int p2), .val (.int z2), .val (.ref b4), .val (.int z39), .val (.ref b41), .val (.int (1 : Int32))] [(.int z39), (.ref b4)])) _
            exact k)
          obtain ⟨_, _, ⟨T142, L142, k142, n142⟩, -, X142, ⟨Lc142, hQ142, l142, y142, z142⟩, st142⟩ := Jvm.LawKit.callS X124 hx (y := (⟨"com/example/compact_concepts/compactconcepts/TreeShapes", "secondParent", "([II)I"⟩ : MethodName)) hown (mvT hZ (hw _ (List.mem_of_getElem? (i := 6) rfl))) (mvT hZ (hw _ (List.mem_of_getElem? (i := 7) rfl))) (mvT hZ (hw _ (List.mem_of_getElem? (i := 8) rfl))) (mvT hZ (hw _ (List.mem_of_getElem? (i := 9) rfl))) (by decide) (backOf (W := 0) (rm2 l Z a0 hw [] b4 z39 ca 6 (own_exp ca cp z39) h107 n0 Z109 Ta HS) hZ (hw _ (List.mem_of_getElem? (i := 9) rfl)) (hw _ (List.mem_of_getElem? (i := 8) rfl)) (by decide) (by decide)) (g := (mkF m 263 #[.val (.int p1), .val (.int p2), .val (.int z2), .val (.ref b4), .val (.int z39), .val (.ref b41), .val (.int (1 : Int32))] [(.int z39), (.ref b4)])) rfl (by rw [hml]; rfl) (argsL := [(.ref b4), (.int z39)]) (rest := []) (lenOf pd_1 rfl) rfl (by show 2 * 0 + _ ≤ _; exact Nat.le_of_eq rfl) (hb hby at_263) (fun _ _ => ⟨rfl, eq124, (by decide : 2 + 0 ≤ _), (by decide : 13 + 0 ≤ _)⟩)
          dsimp only [Pt.U, Pt.locs, Pt.cells, Pt.slots] at X142 l142 y142 z142 st142 hQ142
          subst l142 y142 z142
          obtain ⟨z142v, rfl, hz142v, Nq142, eq142⟩ := hQ142
          have N142n := Fr.app N124n Nq142
          have P143 : own_Pr p.tables e below S0 T142 (mkF m 266 #[.val (.int p1), .val (.int p2), .val (.int z2), .val (.ref b4), .val (.int z39), .val (.ref b41), .val (.int (1 : Int32))] [(.int z142v)]) := fun t k => P141 t (st142 _ k)
          have P144 : own_Pr p.tables e below S0 T142 (mkF m 268 #[.val (.int p1), .val (.int p2), .val (.int z2), .val (.ref b4), .val (.int z39), .val (.ref b41), .val (.int (1 : Int32))] [(.int (1 : Int32)), (.int z142v)]) := fun t k => P143 t (by
            refine XS.iload X142.here hx rfl (hb hby at_266) rfl ?_
            show Steps p.tables e below (T142.setTop (mkF m 268 #[.val (.int p1), .val (.int p2), .val (.int z2), .val (.ref b4), .val (.int z39), .val (.ref b41), .val (.int (1 : Int32))] [(.int (1 : Int32)), (.int z142v)])) _
            exact k)
          have hfin : z142v = (1 : Int32) := by
            rw [hz142v]; unfold own_exp
            rw [← hz112v, ← hz116v, ← hz120v, ← hz124v, if_pos hc182_114, if_pos hc200_118, if_pos hc218_122, if_neg hc236_126]
          have P145 : own_Pr p.tables e below S0 T142 (mkF m 276 #[.val (.int p1), .val (.int p2), .val (.int z2), .val (.ref b4), .val (.int z39), .val (.ref b41), .val (.int (1 : Int32))] [(.int (1 : Int32))]) := fun t k => P144 t (by
            refine XS.icmpNo X142.here hx rfl (hb hby at_268) rfl (XT.ii_ne_f hfin) ?_
            show Steps p.tables e below (T142.setTop (mkF m 271 #[.val (.int p1), .val (.int p2), .val (.int z2), .val (.ref b4), .val (.int z39), .val (.ref b41), .val (.int (1 : Int32))] [])) _
            refine XS.iconst X142.here hx rfl (hb hby at_271) ?_
            show Steps p.tables e below (T142.setTop (mkF m 272 #[.val (.int p1), .val (.int p2), .val (.int z2), .val (.ref b4), .val (.int z39), .val (.ref b41), .val (.int (1 : Int32))] [(.int (1 : Int32))])) _
            refine XS.goto X142.here hx rfl (pc0 := 272) (pc' := 276) rfl (hb hby at_272) (by decide) (by decide) ?_
            show Steps p.tables e below (T142.setTop (mkF m 276 #[.val (.int p1), .val (.int p2), .val (.int z2), .val (.ref b4), .val (.int z39), .val (.ref b41), .val (.int (1 : Int32))] [(.int (1 : Int32))])) _
            exact k)
          obtain ⟨fs, hr, hrun, hended, hW, hsame⟩ := X142.leave (v := some (.int (1 : Int32))) (fun h => by rw [Bd.returns] at h; cases h)
          have fin : Steps p.tables e below S0 (T142.setFrames fs) := P145 _ (retN X142 hx (t := .boolean) Bd.returns (by simp) (hb hby at_276) hr)
          rw [hS0] at fin
          refine ⟨_, _, fin, hrun, hended, _, _, rfl, ?_, ⟨_, rfl⟩, hW, hsame.mono (by decide) (by decide)⟩
          show own_QL n0 _ _
          exact ⟨_, rfl, rfl, N142n⟩
      · have P146 : own_Pr p.tables e below S0 T120 (mkF m 263 #[.val (.int p1), .val (.int p2), .val (.int z2), .val (.ref b4), .val (.int z39), .val (.ref b41), .val (.int (2 : Int32))] [(.int z39), (.ref b4)]) := fun t k => P121 t (by
          refine XS.ifNo X120.here hx rfl (hb hby at_218) rfl (XT.i0_eq_f hc218_122) ?_
          show Steps p.tables e below (T120.setTop (mkF m 221 #[.val (.int p1), .val (.int p2), .val (.int z2), .val (.ref b4), .val (.int z39), .val (.ref b41), .val (.int (-1 : Int32))] [])) _
          refine XS.iconst X120.here hx rfl (hb hby at_221) ?_
          show Steps p.tables e below (T120.setTop (mkF m 222 #[.val (.int p1), .val (.int p2), .val (.int z2), .val (.ref b4), .val (.int z39), .val (.ref b41), .val (.int (-1 : Int32))] [(.int (2 : Int32))])) _
          refine XS.istore X120.here hx rfl (hb hby at_222) rfl (l' := #[.val (.int p1), .val (.int p2), .val (.int z2), .val (.ref b4), .val (.int z39), .val (.ref b41), .val (.int (2 : Int32))]) rfl ?_
          show Steps p.tables e below (T120.setTop (mkF m 224 #[.val (.int p1), .val (.int p2), .val (.int z2), .val (.ref b4), .val (.int z39), .val (.ref b41), .val (.int (2 : Int32))] [])) _
          refine XS.goto X120.here hx rfl (pc0 := 224) (pc' := 260) rfl (hb hby at_224) (by decide) (by decide) ?_
          show Steps p.tables e below (T120.setTop (mkF m 260 #[.val (.int p1), .val (.int p2), .val (.int z2), .val (.ref b4), .val (.int z39), .val (.ref b41), .val (.int (2 : Int32))] [])) _
          refine XS.aloadN X120.here hx rfl (hb hby at_260) rfl rfl ?_
          show Steps p.tables e below (T120.setTop (mkF m 261 #[.val (.int p1), .val (.int p2), .val (.int z2), .val (.ref b4), .val (.int z39), .val (.ref b41), .val (.int (2 : Int32))] [(.ref b4)])) _
          refine XS.iload X120.here hx rfl (hb hby at_261) rfl ?_
          show Steps p.tables e below (T120.setTop (mkF m 263 #[.val (.int p1), .val (.int p2), .val (.int z2), .val (.ref b4), .val (.int z39), .val (.ref b41), .val (.int (2 : Int32))] [(.int z39), (.ref b4)])) _
          exact k)
        obtain ⟨_, _, ⟨T147, L147, k147, n147⟩, -, X147, ⟨Lc147, hQ147, l147, y147, z147⟩, st147⟩ := Jvm.LawKit.callS X120 hx (y := (⟨"com/example/compact_concepts/compactconcepts/TreeShapes", "secondParent", "([II)I"⟩ : MethodName)) hown (mvT hZ (hw _ (List.mem_of_getElem? (i := 6) rfl))) (mvT hZ (hw _ (List.mem_of_getElem? (i := 7) rfl))) (mvT hZ (hw _ (List.mem_of_getElem? (i := 8) rfl))) (mvT hZ (hw _ (List.mem_of_getElem? (i := 9) rfl))) (by decide) (backOf (W := 0) (rm2 l Z a0 hw [] b4 z39 ca 6 (own_exp ca cp z39) h107 n0 Z109 Ta HS) hZ (hw _ (List.mem_of_getElem? (i := 9) rfl)) (hw _ (List.mem_of_getElem? (i := 8) rfl)) (by decide) (by decide)) (g := (mkF m 263 #[.val (.int p1), .val (.int p2), .val (.int z2), .val (.ref b4), .val (.int z39), .val (.ref b41), .val (.int (2 : Int32))] [(.int z39), (.ref b4)])) rfl (by rw [hml]; rfl) (argsL := [(.ref b4), (.int z39)]) (rest := []) (lenOf pd_1 rfl) rfl (by show 2 * 0 + _ ≤ _; exact Nat.le_of_eq rfl) (hb hby at_263) (fun _ _ => ⟨rfl, eq120, (by decide : 2 + 0 ≤ _), (by decide : 13 + 0 ≤ _)⟩)
        dsimp only [Pt.U, Pt.locs, Pt.cells, Pt.slots] at X147 l147 y147 z147 st147 hQ147
        subst l147 y147 z147
        obtain ⟨z147v, rfl, hz147v, Nq147, eq147⟩ := hQ147
        have N147n := Fr.app N120n Nq147
        have P148 : own_Pr p.tables e below S0 T147 (mkF m 266 #[.val (.int p1), .val (.int p2), .val (.int z2), .val (.ref b4), .val (.int z39), .val (.ref b41), .val (.int (2 : Int32))] [(.int z147v)]) := fun t k => P146 t (st147 _ k)
        have P149 : own_Pr p.tables e below S0 T147 (mkF m 268 #[.val (.int p1), .val (.int p2), .val (.int z2), .val (.ref b4), .val (.int z39), .val (.ref b41), .val (.int (2 : Int32))] [(.int (2 : Int32)), (.int z147v)]) := fun t k => P148 t (by
          refine XS.iload X147.here hx rfl (hb hby at_266) rfl ?_
          show Steps p.tables e below (T147.setTop (mkF m 268 #[.val (.int p1), .val (.int p2), .val (.int z2), .val (.ref b4), .val (.int z39), .val (.ref b41), .val (.int (2 : Int32))] [(.int (2 : Int32)), (.int z147v)])) _
          exact k)
        have hfin : z147v = (2 : Int32) := by
          rw [hz147v]; unfold own_exp
          rw [← hz112v, ← hz116v, ← hz120v, if_pos hc182_114, if_pos hc200_118, if_neg hc218_122]
        have P150 : own_Pr p.tables e below S0 T147 (mkF m 276 #[.val (.int p1), .val (.int p2), .val (.int z2), .val (.ref b4), .val (.int z39), .val (.ref b41), .val (.int (2 : Int32))] [(.int (1 : Int32))]) := fun t k => P149 t (by
          refine XS.icmpNo X147.here hx rfl (hb hby at_268) rfl (XT.ii_ne_f hfin) ?_
          show Steps p.tables e below (T147.setTop (mkF m 271 #[.val (.int p1), .val (.int p2), .val (.int z2), .val (.ref b4), .val (.int z39), .val (.ref b41), .val (.int (2 : Int32))] [])) _
          refine XS.iconst X147.here hx rfl (hb hby at_271) ?_
          show Steps p.tables e below (T147.setTop (mkF m 272 #[.val (.int p1), .val (.int p2), .val (.int z2), .val (.ref b4), .val (.int z39), .val (.ref b41), .val (.int (2 : Int32))] [(.int (1 : Int32))])) _
          refine XS.goto X147.here hx rfl (pc0 := 272) (pc' := 276) rfl (hb hby at_272) (by decide) (by decide) ?_
          show Steps p.tables e below (T147.setTop (mkF m 276 #[.val (.int p1), .val (.int p2), .val (.int z2), .val (.ref b4), .val (.int z39), .val (.ref b41), .val (.int (2 : Int32))] [(.int (1 : Int32))])) _
          exact k)
        obtain ⟨fs, hr, hrun, hended, hW, hsame⟩ := X147.leave (v := some (.int (1 : Int32))) (fun h => by rw [Bd.returns] at h; cases h)
        have fin : Steps p.tables e below S0 (T147.setFrames fs) := P150 _ (retN X147 hx (t := .boolean) Bd.returns (by simp) (hb hby at_276) hr)
        rw [hS0] at fin
        refine ⟨_, _, fin, hrun, hended, _, _, rfl, ?_, ⟨_, rfl⟩, hW, hsame.mono (by decide) (by decide)⟩
        show own_QL n0 _ _
        exact ⟨_, rfl, rfl, N147n⟩
    · have P151 : own_Pr p.tables e below S0 T116 (mkF m 263 #[.val (.int p1), .val (.int p2), .val (.int z2), .val (.ref b4), .val (.int z39), .val (.ref b41), .val (.int (3 : Int32))] [(.int z39), (.ref b4)]) := fun t k => P117 t (by
        refine XS.ifNo X116.here hx rfl (hb hby at_200) rfl (XT.i0_eq_f hc200_118) ?_
        show Steps p.tables e below (T116.setTop (mkF m 203 #[.val (.int p1), .val (.int p2), .val (.int z2), .val (.ref b4), .val (.int z39), .val (.ref b41), .val (.int (-1 : Int32))] [])) _
        refine XS.iconst X116.here hx rfl (hb hby at_203) ?_
        show Steps p.tables e below (T116.setTop (mkF m 204 #[.val (.int p1), .val (.int p2), .val (.int z2), .val (.ref b4), .val (.int z39), .val (.ref b41), .val (.int (-1 : Int32))] [(.int (3 : Int32))])) _
        refine XS.istore X116.here hx rfl (hb hby at_204) rfl (l' := #[.val (.int p1), .val (.int p2), .val (.int z2), .val (.ref b4), .val (.int z39), .val (.ref b41), .val (.int (3 : Int32))]) rfl ?_
        show Steps p.tables e below (T116.setTop (mkF m 206 #[.val (.int p1), .val (.int p2), .val (.int z2), .val (.ref b4), .val (.int z39), .val (.ref b41), .val (.int (3 : Int32))] [])) _
        refine XS.goto X116.here hx rfl (pc0 := 206) (pc' := 260) rfl (hb hby at_206) (by decide) (by decide) ?_
        show Steps p.tables e below (T116.setTop (mkF m 260 #[.val (.int p1), .val (.int p2), .val (.int z2), .val (.ref b4), .val (.int z39), .val (.ref b41), .val (.int (3 : Int32))] [])) _
        refine XS.aloadN X116.here hx rfl (hb hby at_260) rfl rfl ?_
        show Steps p.tables e below (T116.setTop (mkF m 261 #[.val (.int p1), .val (.int p2), .val (.int z2), .val (.ref b4), .val (.int z39), .val (.ref b41), .val (.int (3 : Int32))] [(.ref b4)])) _
        refine XS.iload X116.here hx rfl (hb hby at_261) rfl ?_
        show Steps p.tables e below (T116.setTop (mkF m 263 #[.val (.int p1), .val (.int p2), .val (.int z2), .val (.ref b4), .val (.int z39), .val (.ref b41), .val (.int (3 : Int32))] [(.int z39), (.ref b4)])) _
        exact k)
      obtain ⟨_, _, ⟨T152, L152, k152, n152⟩, -, X152, ⟨Lc152, hQ152, l152, y152, z152⟩, st152⟩ := Jvm.LawKit.callS X116 hx (y := (⟨"com/example/compact_concepts/compactconcepts/TreeShapes", "secondParent", "([II)I"⟩ : MethodName)) hown (mvT hZ (hw _ (List.mem_of_getElem? (i := 6) rfl))) (mvT hZ (hw _ (List.mem_of_getElem? (i := 7) rfl))) (mvT hZ (hw _ (List.mem_of_getElem? (i := 8) rfl))) (mvT hZ (hw _ (List.mem_of_getElem? (i := 9) rfl))) (by decide) (backOf (W := 0) (rm2 l Z a0 hw [] b4 z39 ca 6 (own_exp ca cp z39) h107 n0 Z109 Ta HS) hZ (hw _ (List.mem_of_getElem? (i := 9) rfl)) (hw _ (List.mem_of_getElem? (i := 8) rfl)) (by decide) (by decide)) (g := (mkF m 263 #[.val (.int p1), .val (.int p2), .val (.int z2), .val (.ref b4), .val (.int z39), .val (.ref b41), .val (.int (3 : Int32))] [(.int z39), (.ref b4)])) rfl (by rw [hml]; rfl) (argsL := [(.ref b4), (.int z39)]) (rest := []) (lenOf pd_1 rfl) rfl (by show 2 * 0 + _ ≤ _; exact Nat.le_of_eq rfl) (hb hby at_263) (fun _ _ => ⟨rfl, eq116, (by decide : 2 + 0 ≤ _), (by decide : 13 + 0 ≤ _)⟩)
      dsimp only [Pt.U, Pt.locs, Pt.cells, Pt.slots] at X152 l152 y152 z152 st152 hQ152
      subst l152 y152 z152
      obtain ⟨z152v, rfl, hz152v, Nq152, eq152⟩ := hQ152
      have N152n := Fr.app N116n Nq152
      have P153 : own_Pr p.tables e below S0 T152 (mkF m 266 #[.val (.int p1), .val (.int p2), .val (.int z2), .val (.ref b4), .val (.int z39), .val (.ref b41), .val (.int (3 : Int32))] [(.int z152v)]) := fun t k => P151 t (st152 _ k)
      have P154 : own_Pr p.tables e below S0 T152 (mkF m 268 #[.val (.int p1), .val (.int p2), .val (.int z2), .val (.ref b4), .val (.int z39), .val (.ref b41), .val (.int (3 : Int32))] [(.int (3 : Int32)), (.int z152v)]) := fun t k => P153 t (by
        refine XS.iload X152.here hx rfl (hb hby at_266) rfl ?_
        show Steps p.tables e below (T152.setTop (mkF m 268 #[.val (.int p1), .val (.int p2), .val (.int z2), .val (.ref b4), .val (.int z39), .val (.ref b41), .val (.int (3 : Int32))] [(.int (3 : Int32)), (.int z152v)])) _
        exact k)
      have hfin : z152v = (3 : Int32) := by
        rw [hz152v]; unfold own_exp
        rw [← hz112v, ← hz116v, if_pos hc182_114, if_neg hc200_118]
      have P155 : own_Pr p.tables e below S0 T152 (mkF m 276 #[.val (.int p1), .val (.int p2), .val (.int z2), .val (.ref b4), .val (.int z39), .val (.ref b41), .val (.int (3 : Int32))] [(.int (1 : Int32))]) := fun t k => P154 t (by
        refine XS.icmpNo X152.here hx rfl (hb hby at_268) rfl (XT.ii_ne_f hfin) ?_
        show Steps p.tables e below (T152.setTop (mkF m 271 #[.val (.int p1), .val (.int p2), .val (.int z2), .val (.ref b4), .val (.int z39), .val (.ref b41), .val (.int (3 : Int32))] [])) _
        refine XS.iconst X152.here hx rfl (hb hby at_271) ?_
        show Steps p.tables e below (T152.setTop (mkF m 272 #[.val (.int p1), .val (.int p2), .val (.int z2), .val (.ref b4), .val (.int z39), .val (.ref b41), .val (.int (3 : Int32))] [(.int (1 : Int32))])) _
        refine XS.goto X152.here hx rfl (pc0 := 272) (pc' := 276) rfl (hb hby at_272) (by decide) (by decide) ?_
        show Steps p.tables e below (T152.setTop (mkF m 276 #[.val (.int p1), .val (.int p2), .val (.int z2), .val (.ref b4), .val (.int z39), .val (.ref b41), .val (.int (3 : Int32))] [(.int (1 : Int32))])) _
        exact k)
      obtain ⟨fs, hr, hrun, hended, hW, hsame⟩ := X152.leave (v := some (.int (1 : Int32))) (fun h => by rw [Bd.returns] at h; cases h)
      have fin : Steps p.tables e below S0 (T152.setFrames fs) := P155 _ (retN X152 hx (t := .boolean) Bd.returns (by simp) (hb hby at_276) hr)
      rw [hS0] at fin
      refine ⟨_, _, fin, hrun, hended, _, _, rfl, ?_, ⟨_, rfl⟩, hW, hsame.mono (by decide) (by decide)⟩
      show own_QL n0 _ _
      exact ⟨_, rfl, rfl, N152n⟩
  · have P156 : own_Pr p.tables e below S0 T112 (mkF m 263 #[.val (.int p1), .val (.int p2), .val (.int z2), .val (.ref b4), .val (.int z39), .val (.ref b41), .val (.int (4 : Int32))] [(.int z39), (.ref b4)]) := fun t k => P113 t (by
      refine XS.ifNo X112.here hx rfl (hb hby at_182) rfl (XT.i0_eq_f hc182_114) ?_
      show Steps p.tables e below (T112.setTop (mkF m 185 #[.val (.int p1), .val (.int p2), .val (.int z2), .val (.ref b4), .val (.int z39), .val (.ref b41), .val (.int (-1 : Int32))] [])) _
      refine XS.iconst X112.here hx rfl (hb hby at_185) ?_
      show Steps p.tables e below (T112.setTop (mkF m 186 #[.val (.int p1), .val (.int p2), .val (.int z2), .val (.ref b4), .val (.int z39), .val (.ref b41), .val (.int (-1 : Int32))] [(.int (4 : Int32))])) _
      refine XS.istore X112.here hx rfl (hb hby at_186) rfl (l' := #[.val (.int p1), .val (.int p2), .val (.int z2), .val (.ref b4), .val (.int z39), .val (.ref b41), .val (.int (4 : Int32))]) rfl ?_
      show Steps p.tables e below (T112.setTop (mkF m 188 #[.val (.int p1), .val (.int p2), .val (.int z2), .val (.ref b4), .val (.int z39), .val (.ref b41), .val (.int (4 : Int32))] [])) _
      refine XS.goto X112.here hx rfl (pc0 := 188) (pc' := 260) rfl (hb hby at_188) (by decide) (by decide) ?_
      show Steps p.tables e below (T112.setTop (mkF m 260 #[.val (.int p1), .val (.int p2), .val (.int z2), .val (.ref b4), .val (.int z39), .val (.ref b41), .val (.int (4 : Int32))] [])) _
      refine XS.aloadN X112.here hx rfl (hb hby at_260) rfl rfl ?_
      show Steps p.tables e below (T112.setTop (mkF m 261 #[.val (.int p1), .val (.int p2), .val (.int z2), .val (.ref b4), .val (.int z39), .val (.ref b41), .val (.int (4 : Int32))] [(.ref b4)])) _
      refine XS.iload X112.here hx rfl (hb hby at_261) rfl ?_
      show Steps p.tables e below (T112.setTop (mkF m 263 #[.val (.int p1), .val (.int p2), .val (.int z2), .val (.ref b4), .val (.int z39), .val (.ref b41), .val (.int (4 : Int32))] [(.int z39), (.ref b4)])) _
      exact k)
    obtain ⟨_, _, ⟨T157, L157, k157, n157⟩, -, X157, ⟨Lc157, hQ157, l157, y157, z157⟩, st157⟩ := Jvm.LawKit.callS X112 hx (y := (⟨"com/example/compact_concepts/compactconcepts/TreeShapes", "secondParent", "([II)I"⟩ : MethodName)) hown (mvT hZ (hw _ (List.mem_of_getElem? (i := 6) rfl))) (mvT hZ (hw _ (List.mem_of_getElem? (i := 7) rfl))) (mvT hZ (hw _ (List.mem_of_getElem? (i := 8) rfl))) (mvT hZ (hw _ (List.mem_of_getElem? (i := 9) rfl))) (by decide) (backOf (W := 0) (rm2 l Z a0 hw [] b4 z39 ca 6 (own_exp ca cp z39) h107 n0 Z109 Ta HS) hZ (hw _ (List.mem_of_getElem? (i := 9) rfl)) (hw _ (List.mem_of_getElem? (i := 8) rfl)) (by decide) (by decide)) (g := (mkF m 263 #[.val (.int p1), .val (.int p2), .val (.int z2), .val (.ref b4), .val (.int z39), .val (.ref b41), .val (.int (4 : Int32))] [(.int z39), (.ref b4)])) rfl (by rw [hml]; rfl) (argsL := [(.ref b4), (.int z39)]) (rest := []) (lenOf pd_1 rfl) rfl (by show 2 * 0 + _ ≤ _; exact Nat.le_of_eq rfl) (hb hby at_263) (fun _ _ => ⟨rfl, eq112, (by decide : 2 + 0 ≤ _), (by decide : 13 + 0 ≤ _)⟩)
    dsimp only [Pt.U, Pt.locs, Pt.cells, Pt.slots] at X157 l157 y157 z157 st157 hQ157
    subst l157 y157 z157
    obtain ⟨z157v, rfl, hz157v, Nq157, eq157⟩ := hQ157
    have N157n := Fr.app N112n Nq157
    have P158 : own_Pr p.tables e below S0 T157 (mkF m 266 #[.val (.int p1), .val (.int p2), .val (.int z2), .val (.ref b4), .val (.int z39), .val (.ref b41), .val (.int (4 : Int32))] [(.int z157v)]) := fun t k => P156 t (st157 _ k)
    have P159 : own_Pr p.tables e below S0 T157 (mkF m 268 #[.val (.int p1), .val (.int p2), .val (.int z2), .val (.ref b4), .val (.int z39), .val (.ref b41), .val (.int (4 : Int32))] [(.int (4 : Int32)), (.int z157v)]) := fun t k => P158 t (by
      refine XS.iload X157.here hx rfl (hb hby at_266) rfl ?_
      show Steps p.tables e below (T157.setTop (mkF m 268 #[.val (.int p1), .val (.int p2), .val (.int z2), .val (.ref b4), .val (.int z39), .val (.ref b41), .val (.int (4 : Int32))] [(.int (4 : Int32)), (.int z157v)])) _
      exact k)
    have hfin : z157v = (4 : Int32) := by
      rw [hz157v]; unfold own_exp
      rw [← hz112v, if_neg hc182_114]
    have P160 : own_Pr p.tables e below S0 T157 (mkF m 276 #[.val (.int p1), .val (.int p2), .val (.int z2), .val (.ref b4), .val (.int z39), .val (.ref b41), .val (.int (4 : Int32))] [(.int (1 : Int32))]) := fun t k => P159 t (by
      refine XS.icmpNo X157.here hx rfl (hb hby at_268) rfl (XT.ii_ne_f hfin) ?_
      show Steps p.tables e below (T157.setTop (mkF m 271 #[.val (.int p1), .val (.int p2), .val (.int z2), .val (.ref b4), .val (.int z39), .val (.ref b41), .val (.int (4 : Int32))] [])) _
      refine XS.iconst X157.here hx rfl (hb hby at_271) ?_
      show Steps p.tables e below (T157.setTop (mkF m 272 #[.val (.int p1), .val (.int p2), .val (.int z2), .val (.ref b4), .val (.int z39), .val (.ref b41), .val (.int (4 : Int32))] [(.int (1 : Int32))])) _
      refine XS.goto X157.here hx rfl (pc0 := 272) (pc' := 276) rfl (hb hby at_272) (by decide) (by decide) ?_
      show Steps p.tables e below (T157.setTop (mkF m 276 #[.val (.int p1), .val (.int p2), .val (.int z2), .val (.ref b4), .val (.int z39), .val (.ref b41), .val (.int (4 : Int32))] [(.int (1 : Int32))])) _
      exact k)
    obtain ⟨fs, hr, hrun, hended, hW, hsame⟩ := X157.leave (v := some (.int (1 : Int32))) (fun h => by rw [Bd.returns] at h; cases h)
    have fin : Steps p.tables e below S0 (T157.setFrames fs) := P160 _ (retN X157 hx (t := .boolean) Bd.returns (by simp) (hb hby at_276) hr)
    rw [hS0] at fin
    refine ⟨_, _, fin, hrun, hended, _, _, rfl, ?_, ⟨_, rfl⟩, hW, hsame.mono (by decide) (by decide)⟩
    show own_QL n0 _ _
    exact ⟨_, rfl, rfl, N157n⟩
set_option maxRecDepth 65536 in
set_option maxHeartbeats 40000000 in
theorem comes_1 {Post : Tables → Env → Array Value → State → Outcome → State → Prop} (hpost : ∀ tb e args s v u, (limb_1_1.after args s (.returned v) u = true ∧ limb_1_2.after args s (.returned v) u = true ∧ True) → FrameEnd s (.returned v) u (Jvm.fieldLocs frame_1_writes args s ++ Jvm.arrayLocs frame_1_arrays args s ++ Jvm.staticLocs frame_1_statics s) 16 128 → Post tb e args s (.returned v) u) :
    ArmFor flags0 classFile x code maxLocals ret World_1 tables_1 room_1 Calls_1 rest_1 Pre_1 Post := by
  intro l hfl _ _ p e ha hc hk s m args below hf hA hF happ hP
  obtain ⟨hcalls, hrest, hpre⟩ := hP
  obtain ⟨-, -, -, hnamed, -, -, -, hat⟩ := (Spec.applies_iff hf).mp happ
  obtain ⟨hg, hn⟩ := and_e (Cond.before_iff.mp (show (Jvm.Cond.and given_1 narrow_1).before args s = true from hpre))
  obtain ⟨gg1, gg2⟩ := and_e hg
  obtain ⟨gg3, gg4⟩ := and_e gg2
  obtain ⟨w0, w1, rfl⟩ : ∃ w0 w1 : Value, args = #[w0, w1] := by
    have hs : args.size = 2 := by simpa [Cond.value, given_1] using gg1
    obtain ⟨L⟩ := args
    match L, hs with
    | [w0, w1], _ => exact ⟨w0, w1, rfl⟩
  have hw := fun d (hd : d ∈ tables_1) => atoms_spec (ws := Jvm.Cond.code x code maxLocals ret :: tables_1) hat d (List.mem_cons_of_mem _ hd)
  have hfit : Fit s := fun {y c} hc i hi => by
    obtain ⟨ha, rfl⟩ := Array.getElem?_eq_some_iff.mp hc
    have q := List.all_eq_true.mp ((Array.all_eq_true_iff_forall_mem.mp hF) _ (Array.getElem_mem ha)) i (List.mem_range.mpr hi)
    simpa [Array.getElem?_eq_getElem hi] using q
  obtain ⟨i0, ei0⟩ := is_v gg3
  obtain rfl : w0 = (.int i0) := Option.some.inj ei0
  obtain ⟨i1, ei1⟩ := is_v gg4
  obtain rfl : w1 = (.int i1) := Option.some.inj ei1
  obtain ⟨n, o, h1, h2, h3, _, L, rfl, ⟨z, rfl, rfl, N⟩, hq⟩ := rm0 l s _ hw tables_1 i0 i1  s.heap s.heap.size (Nat.le_refl _)  p e ha hc hk s m _ below hf ((Spec.applies_iff_loose hf).mp happ).1 ⟨rfl, State.Warmed39.refl s, rfl⟩ trivial
  refine ⟨n, _, h1, h2, h3, hpost _ _ _ _ _ _ ⟨Cond.after_iff.mpr rfl, Cond.after_iff.mpr (eq_i res_at (Term.int_eval (1)) rfl), trivial⟩ ⟨hq.1, hq.2.1, (hq.2.2.sift fun y hy => Or.inr (N y hy)).mono (by decide) (by decide)⟩⟩
theorem main_1_1 : Claimed_1_1 := comes_1 fun _ _ _ _ _ _ h hF => ⟨h.1, hF⟩
theorem main_1_2 : Claimed_1_2 := comes_1 fun _ _ _ _ _ _ h hF => ⟨h.2.1, hF⟩
end Jvm.Pilot.@@N@@
namespace Jvm.Pilot.@@N@@
open Jvm Jvm.ClassFile Sem Op Lib Jvm.Free Jvm.Stand Jvm.Pilot.@@N@@.Jvm.D
/-! MADE BY PROGRAM (witnessworld.py) out of the Statement's table words and the real class files: 9 classes; the members and pool entries that the words name. The judged class is class 1, her method 1. -/
namespace start1
open Jvm.ClassFile
def u (s : String) : CpInfo := .utf8 (stringToUtf16 s)
/-- a pool by its gaps: so many unusable entries, then the entry; so many at the end -/
def gap : Nat → List CpInfo → List CpInfo
  | 0, r => r
  | n + 1, r => .unusable :: gap n r
def poolList (es : List (Nat × CpInfo)) (last : Nat) : List CpInfo := es.foldr (fun e r => gap e.1 (e.2 :: r)) (gap last [])
def pool (es : List (Nat × CpInfo)) (last : Nat) : Array CpInfo := ⟨poolList es last⟩
def fileOf (pool : Array CpInfo) (this : Nat) (attrs : Array Attribute := #[]) (ms : Array MethodInfo := #[]) (fl : Nat := 33) (sup : Nat := 0) (ifs : Array Nat := #[]) (fds : Array FieldInfo := #[]) : ClassFile where
  minorVersion := 0
  majorVersion := 65
  constantPool := pool
  accessFlags := fl
  thisClass := this
  superClass := sup
  interfaces := ifs
  fields := fds
  methods := ms
  attributes := attrs
def plain (name : String) (sup : Option ClassId) : Class where
  name := name
  kind := .ordinary
  loader := none
  accessFlags := 33
  super := sup
  interfaces := #[]
  cf := none
  fields := #[]
  methods := #[]
  instanceTypes := #[]
  staticTypes := #[]
  resolved := #[]
  callSites := []
  init := .initialized
  statics := none
  mirror := none

def pool0 : Array CpInfo := pool [(5, u "<init>"), (0, u "()V"), (1, .class_ 10), (1, u "java/lang/Object")] 113

def k0m0 : Method := { name := "<init>", desc := "()V", sig := { parameters := [], returnType := none }, accessFlags := 1, code := none }
/-- java/lang/Object -/
def k0 : Class := { plain "java/lang/Object" none with
  accessFlags := 33
  interfaces := #[]
  cf := some (fileOf pool0 8 #[] #[{ accessFlags := 1, nameIndex := 5, descriptorIndex := 6, attributes := #[] }] 33 0 #[] #[])
  fields := #[]
  methods := #[k0m0]
  instanceTypes := #[]
  staticTypes := #[]
  resolved := Array.replicate 124 none
  statics := none }

def pool1 : Array CpInfo := pool [(2, .class_ 4), (1, u "java/lang/Object"), (0, u "<init>"), (0, u "()V"), (0, .integer 2147483647), (0, .methodref 9 10), (0, .class_ 11), (0, .nameAndType 12 13), (0, u "com/example/compact_concepts/compactconcepts/TreeShapesSecondParentPinLaw"), (0, u "closesAt"), (0, u "([I[III)Z"), (0, .methodref 15 16), (0, .class_ 17), (0, .nameAndType 18 19), (0, u "com/example/compact_concepts/compactconcepts/TreeShapes"), (0, u "secondParent"), (0, u "([II)I"), (0, .methodref 9 21), (0, .nameAndType 22 23), (0, u "stays"), (0, u "([IIII)Z"), (2, u "law"), (0, u "(II)Z")] 5

def k1m0 : Method := { name := "<init>", desc := "()V", sig := { parameters := [], returnType := none }, accessFlags := 2, code := none }
def k1c1 : Code := { maxStack := 5, maxLocals := 7, code := code, exceptionTable := #[], attributes := #[] }
def k1m1 : Method := { name := "law", desc := "(II)Z", sig := { parameters := [.int, .int], returnType := some .boolean }, accessFlags := 9, code := some k1c1 }
def k1c2 : Code := { maxStack := 4, maxLocals := 5, code := method_3_code, exceptionTable := #[], attributes := #[] }
def k1m2 : Method := { name := "closesAt", desc := "([I[III)Z", sig := { parameters := [(.array .int), (.array .int), .int, .int], returnType := some .boolean }, accessFlags := 10, code := some k1c2 }
def k1c3 : Code := { maxStack := 3, maxLocals := 4, code := method_4_code, exceptionTable := #[], attributes := #[] }
def k1m3 : Method := { name := "stays", desc := "([IIII)Z", sig := { parameters := [(.array .int), .int, .int, .int], returnType := some .boolean }, accessFlags := 10, code := some k1c3 }
/-- com/example/compact_concepts/compactconcepts/TreeShapesSecondParentPinLaw -/
def k1 : Class := { plain "com/example/compact_concepts/compactconcepts/TreeShapesSecondParentPinLaw" (some 0) with
  accessFlags := 49
  interfaces := #[]
  cf := some (fileOf pool1 9 #[] #[{ accessFlags := 2, nameIndex := 5, descriptorIndex := 6, attributes := #[] }, { accessFlags := 9, nameIndex := 26, descriptorIndex := 27, attributes := #[] }, { accessFlags := 10, nameIndex := 12, descriptorIndex := 13, attributes := #[] }, { accessFlags := 10, nameIndex := 22, descriptorIndex := 23, attributes := #[] }] 49 2 #[] #[])
  fields := #[]
  methods := #[k1m0, k1m1, k1m2, k1m3]
  instanceTypes := #[]
  staticTypes := #[]
  resolved := Array.replicate 33 none
  statics := none }

def pool2 : Array CpInfo := pool [(2, .class_ 4), (1, u "java/lang/Object"), (0, u "<init>"), (0, u "()V"), (19, .class_ 28), (1, u "com/example/compact_concepts/compactconcepts/TreeShapes"), (18, .methodref 26 48), (0, .nameAndType 49 50), (0, u "end"), (0, u "([II)I"), (18, u "secondParent")] 17

def k2m0 : Method := { name := "<init>", desc := "()V", sig := { parameters := [], returnType := none }, accessFlags := 2, code := none }
def k2c1 : Code := { maxStack := 3, maxLocals := 4, code := prog_14_method_5_code, exceptionTable := #[], attributes := #[] }
def k2m1 : Method := { name := "end", desc := "([II)I", sig := { parameters := [(.array .int), .int], returnType := some .int }, accessFlags := 10, code := some k2c1 }
def k2c2 : Code := { maxStack := 3, maxLocals := 4, code := prog_14_method_6_code, exceptionTable := #[], attributes := #[] }
def k2m2 : Method := { name := "secondParent", desc := "([II)I", sig := { parameters := [(.array .int), .int], returnType := some .int }, accessFlags := 8, code := some k2c2 }
/-- com/example/compact_concepts/compactconcepts/TreeShapes -/
def k2 : Class := { plain "com/example/compact_concepts/compactconcepts/TreeShapes" (some 0) with
  accessFlags := 32
  interfaces := #[]
  cf := some (fileOf pool2 26 #[] #[{ accessFlags := 2, nameIndex := 5, descriptorIndex := 6, attributes := #[] }, { accessFlags := 10, nameIndex := 49, descriptorIndex := 50, attributes := #[] }, { accessFlags := 8, nameIndex := 69, descriptorIndex := 50, attributes := #[] }] 32 2 #[] #[])
  fields := #[]
  methods := #[k2m0, k2m1, k2m2]
  instanceTypes := #[]
  staticTypes := #[]
  resolved := Array.replicate 87 none
  statics := none }

def pool3 : Array CpInfo := pool [(1, u "java/lang/Cloneable"), (0, .class_ 1), (0, u "java/lang/Object"), (0, .class_ 3)] 3

/-- java/lang/Cloneable -/
def k3 : Class := { plain "java/lang/Cloneable" (some 0) with
  accessFlags := 1537
  interfaces := #[]
  cf := some (fileOf pool3 2 #[] #[] 1537 4 #[] #[])
  fields := #[]
  methods := #[]
  instanceTypes := #[]
  staticTypes := #[]
  resolved := Array.replicate 8 none
  statics := none }

def pool4 : Array CpInfo := pool [(1, u "java/io/Serializable"), (0, .class_ 1), (0, u "java/lang/Object"), (0, .class_ 3)] 3

/-- java/io/Serializable -/
def k4 : Class := { plain "java/io/Serializable" (some 0) with
  accessFlags := 1537
  interfaces := #[]
  cf := some (fileOf pool4 2 #[] #[] 1537 4 #[] #[])
  fields := #[]
  methods := #[]
  instanceTypes := #[]
  staticTypes := #[]
  resolved := Array.replicate 8 none
  statics := none }

/-- the primitive byte -/
def k5 : Class := { plain "byte" none with kind := .primitive 'B', accessFlags := 0x411 }
/-- [B -/
def k6 : Class := { plain "[B" (some 0) with kind := .array 5 .byte, interfaces := #[3, 4], accessFlags := 1041 }

/-- the primitive int -/
def k7 : Class := { plain "int" none with kind := .primitive 'I', accessFlags := 0x411 }
/-- [I -/
def k8 : Class := { plain "[I" (some 0) with kind := .array 7 .int, interfaces := #[3, 4], accessFlags := 1041 }

def heap : Heap := #[]
def classes : Array Class := #[k0, k1, k2, k3, k4, k5, k6, k7, k8]
def interned : List (Array UInt16 × Addr) := []
def slotsUsed : Nat := 0
def theMethod : MethodId := ⟨1, 1⟩
def args0 : Array Value := #[.int 5, .int 5]
def aboutOver (below : List Frame) : State where
  vm := { classes := classes, interned := interned.toArray }
  heap := heap
  slotsUsed := slotsUsed
  threads := #[{ frames := .invoking theMethod args0 :: below }]
def below0 : List Frame := [.native { method := ⟨0, 0⟩, args := #[] }]
def about1 : State := aboutOver below0
def p0 : Program := .bare "" "" ""
def e0 : Env := launch0.env 0 0 0
theorem w_frames : about1.frames = Frame.invoking theMethod args0 :: below0 := rfl
set_option maxRecDepth 65536 in
theorem w_args : argsFit about1.vm theMethod args0 = true := by decide +kernel
set_option maxRecDepth 65536 in
theorem w_heap : heapFits about1 = true := by decide +kernel
set_option maxRecDepth 65536 in
theorem w_runnable : about1.curStatus? = some .runnable := by decide +kernel
set_option maxRecDepth 65536 in
theorem w_alone : about1.alone = true := by decide +kernel
set_option maxRecDepth 65536 in
theorem w_named : about1.methodNamed? x = some theMethod := by decide +kernel
set_option maxRecDepth 65536 in
theorem w_hears : about1.hears theMethod below0 = true := by decide +kernel
set_option maxRecDepth 65536 in
theorem w_ripe : about1.ripe theMethod args0 below0 = true := by decide +kernel
theorem w_running : about1.status = .running := rfl
set_option maxRecDepth 65536 in
theorem w_room : about1.hasRoom e0.platform room_1 = true :=
  launch0.hasRoom_least _ room_1 (by decide +kernel) (by decide +kernel) (by decide +kernel) (by decide +kernel) (by decide +kernel) (by decide +kernel)
theorem allAtoms_all (ts : List Jvm.Cond) (a : Array Jvm.Value) (st : Jvm.State) : (allAtoms ts).before a st = ts.all (fun c => c.before a st) := by
  induction ts with
  | nil => rfl
  | cons c t ih =>
    show (Jvm.Cond.and c (allAtoms t)).before a st = _
    rw [Jvm.Cond.before_and, ih, List.all_cons]
def words1 : List Jvm.Cond := Jvm.Cond.code x code maxLocals ret :: tables_1
/-- a 'code' word, met by the world's own term for the bytes: nothing is compared byte by byte -/
theorem code_word {y : MethodName} {bytes : ByteArray} {mx : Nat} {rt : Option FieldType} {a : Array Value} {s : State} {m : MethodId} {meth : Method} {c : Code} (h1 : s.methodNamed? y = some m) (h2 : s.vm.method? m = some meth) (h3 : meth.code = some c) (h4 : c.code = bytes)
    (h5 : (c.maxLocals == mx && c.exceptionTable.isEmpty && decide (c.maxStack ≤ mostOperands) && decide (meth.sig.returnType = rt) && !meth.locks && decide (parseMethodDescriptor y.desc = some meth.sig)) = true) : (Jvm.Cond.code y bytes mx rt).before a s = true := by
  simp only [Bool.and_eq_true, beq_iff_eq, Bool.not_eq_true', decide_eq_true_eq] at h5
  obtain ⟨⟨⟨⟨⟨g1, g2⟩, g3⟩, g4⟩, g5⟩, g6⟩ := h5
  simp [Cond.before, Cond.holds, Cond.value, h1, h2, h3, h4, g1, g2, g3, g4, g5, g6]
def isCode : Jvm.Cond → Bool
  | .code _ _ _ _ => true
  | _ => false
theorem all_split {L : List Jvm.Cond} {P : Jvm.Cond → Bool} (h1 : L.all (fun c => isCode c || P c) = true) (h2 : ∀ c ∈ L.filter isCode, P c = true) : L.all P = true := by
  refine List.all_eq_true.mpr fun c hc => ?_
  have h := List.all_eq_true.mp h1 c hc
  rcases Bool.eq_false_or_eq_true (isCode c) with hi | hi
  · exact h2 c (List.mem_filter.mpr ⟨hc, hi⟩)
  · simpa [hi] using h
set_option maxRecDepth 65536 in
theorem w_c0 : (Jvm.Cond.code x code maxLocals ret).before args0 about1 = true := code_word (m := ⟨1, 1⟩) (meth := k1m1) (c := k1c1) (by decide +kernel) rfl rfl rfl (by decide +kernel)
set_option maxRecDepth 65536 in
theorem w_c1 : (Jvm.Cond.code ({ cls := "com/example/compact_concepts/compactconcepts/TreeShapesSecondParentPinLaw", name := "closesAt", desc := "([I[III)Z" } : Jvm.MethodName) method_3_code (5 : Nat) (Option.some Jvm.ClassFile.FieldType.boolean)).before args0 about1 = true := code_word (m := ⟨1, 2⟩) (meth := k1m2) (c := k1c2) (by decide +kernel) rfl rfl rfl (by decide +kernel)
set_option maxRecDepth 65536 in
theorem w_c2 : (Jvm.Cond.code ({ cls := "com/example/compact_concepts/compactconcepts/TreeShapes", name := "secondParent", desc := "([II)I" } : Jvm.MethodName) prog_14_method_6_code (4 : Nat) (Option.some Jvm.ClassFile.FieldType.int)).before args0 about1 = true := code_word (m := ⟨2, 2⟩) (meth := k2m2) (c := k2c2) (by decide +kernel) rfl rfl rfl (by decide +kernel)
set_option maxRecDepth 65536 in
theorem w_c3 : (Jvm.Cond.code ({ cls := "com/example/compact_concepts/compactconcepts/TreeShapesSecondParentPinLaw", name := "stays", desc := "([IIII)Z" } : Jvm.MethodName) method_4_code (4 : Nat) (Option.some Jvm.ClassFile.FieldType.boolean)).before args0 about1 = true := code_word (m := ⟨1, 3⟩) (meth := k1m3) (c := k1c3) (by decide +kernel) rfl rfl rfl (by decide +kernel)
set_option maxRecDepth 65536 in
theorem w_c4 : (Jvm.Cond.code ({ cls := "com/example/compact_concepts/compactconcepts/TreeShapes", name := "end", desc := "([II)I" } : Jvm.MethodName) prog_14_method_5_code (4 : Nat) (Option.some Jvm.ClassFile.FieldType.int)).before args0 about1 = true := code_word (m := ⟨2, 1⟩) (meth := k2m1) (c := k2c1) (by decide +kernel) rfl rfl rfl (by decide +kernel)
def codes1 : List Jvm.Cond := [Jvm.Cond.code x code maxLocals ret, Jvm.Cond.code ({ cls := "com/example/compact_concepts/compactconcepts/TreeShapesSecondParentPinLaw", name := "closesAt", desc := "([I[III)Z" } : Jvm.MethodName) method_3_code (5 : Nat) (Option.some Jvm.ClassFile.FieldType.boolean), Jvm.Cond.code ({ cls := "com/example/compact_concepts/compactconcepts/TreeShapes", name := "secondParent", desc := "([II)I" } : Jvm.MethodName) prog_14_method_6_code (4 : Nat) (Option.some Jvm.ClassFile.FieldType.int), Jvm.Cond.code ({ cls := "com/example/compact_concepts/compactconcepts/TreeShapesSecondParentPinLaw", name := "stays", desc := "([IIII)Z" } : Jvm.MethodName) method_4_code (4 : Nat) (Option.some Jvm.ClassFile.FieldType.boolean), Jvm.Cond.code ({ cls := "com/example/compact_concepts/compactconcepts/TreeShapes", name := "end", desc := "([II)I" } : Jvm.MethodName) prog_14_method_5_code (4 : Nat) (Option.some Jvm.ClassFile.FieldType.int)]
set_option maxRecDepth 65536 in
theorem codes_eq : words1.filter isCode = codes1 := rfl
theorem w_codes : ∀ c ∈ words1.filter isCode, c.before args0 about1 = true := by
  rw [codes_eq]
  intro c hc
  simp only [codes1, List.mem_cons, List.not_mem_nil, or_false] at hc
  rcases hc with rfl | rfl | rfl | rfl | rfl
  · exact w_c0
  · exact w_c1
  · exact w_c2
  · exact w_c3
  · exact w_c4
set_option maxRecDepth 65536 in
theorem w_t1 : words1.all (fun c => isCode c || c.before args0 about1) = true := by decide +kernel
theorem w_tables : (allAtoms (Jvm.Cond.code x code maxLocals ret :: tables_1)).before args0 about1 = true := by
  rw [allAtoms_all]
  show words1.all (fun c => c.before args0 about1) = true
  refine all_split ?_ w_codes
  rw [w_t1]
set_option maxRecDepth 65536 in
theorem w_case : (Jvm.Cond.and given_1 narrow_1).before args0 about1 = true := by decide +kernel
theorem w_applies : (headSpec (Jvm.Cond.code x code maxLocals ret :: tables_1) room_1).applies x e0.platform about1 = true :=
  (Spec.applies_iff w_frames).mpr ⟨w_running, w_runnable, w_alone, w_named, w_hears, w_ripe, w_room, w_tables⟩
theorem atStart : AtStart classFile x code maxLocals ret World_1 tables_1 room_1 Calls_1 rest_1 Pre_1 launch0 p0 e0 about1 theMethod args0 below0 :=
  ⟨lists_1, trivial, launch0.admits_env _ _ _, launch0.least_env, fairChoices_fair.cas, fairChoices_fair.clock, w_frames, w_args, w_heap, w_applies, trivial, trivial, w_case⟩
end start1
theorem witness_1 : WitnessClaimed_1 := ⟨start1.p0, start1.e0, start1.about1, start1.theMethod, start1.args0, start1.below0, start1.atStart⟩
end Jvm.Pilot.@@N@@
