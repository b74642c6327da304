import JvmDerived
import JvmDerived.Pilot.@@N@@Statement
import JvmDerived.Pilot.@@N@@Code
set_option linter.unusedVariables false
set_option linter.unusedSimpArgs false
namespace Jvm.RoadKit
open Sem ClassFile Op Lib Jvm.Stand Jvm.Free Jvm.LawKit
section New
variable {p : Program} {l : Launch} {e : Env} {R : Room} {s : State} {m : MethodId} {args : Array Value} {below : List Frame} {meth : Method} {c : Code} {T : State} {locs : List Loc} {cells slots : Nat}
theorem retI (X : Stand p l e R s m args below meth c T locs cells slots) (hx : p.tables.exec = Jvm.exec) {pc : Nat} {Ls : Array Slot} {z : Int32} {rest : List Value} (hret : meth.sig.returnType = some .int) (hd : decode c.code pc = .ok (.ireturn, 1)) {fs : List Frame}
    (hl : ∀ (f : JFrame) (acts : List Action), f.method = m → f.locked = none → f.entered = [] → (doReturn e (T.setTop f) acts (some (.int z))).1 = T.setFrames fs) : Steps p.tables e below (T.setTop (mkF m pc Ls (.int z :: rest))) (T.setFrames fs) := by
  have hm' : T.vm.method? m = some meth := X.method'
  have hn : narrow .int (.int z) = .int z := rfl
  show Steps p.tables e below (T.setTop { method := m, pc := pc, locals := Ls, stack := _ :: rest, locked := none }) _
  jvm_step X.here [X.here.top, hx, hd, hm', hret, hn]
  first | (intro acts; rw [hl _ acts rfl rfl rfl]) | rw [hl _ _ rfl rfl rfl]
  exact Steps.refl _
end New
end Jvm.RoadKit
namespace Jvm.Pilot.@@N@@
open Jvm Jvm.ClassFile Sem Op Lib Jvm.Free Jvm.Stand Jvm.LawKit Jvm.RoadKit Bundle Jvm.Pilot.@@N@@.Jvm.D
/-- what is left to run from S0 is what is left from T with the frame g on top -/
abbrev own_Pr (tb : Tables) (e : Env) (below : List Frame) (S0 T : State) (g : JFrame) : Prop := ∀ t, Steps tb e below (T.setTop g) t → Steps tb e below S0 t
/-- it returns the int r, the heap as it was -/
def own_QI (h0 : Heap) (n0 : Nat) (r : Int32) (v : Option Value) (h : Heap) (L : List Loc) : Prop := ∃ z, v = some (.int z) ∧ z = r ∧ Fr n0 L ∧ h = h0
def own_QJ (h0 : Heap) (n0 : Nat) (r : Int64) (v : Option Value) (h : Heap) (L : List Loc) : Prop := ∃ z, v = some (.long z) ∧ z = r ∧ Fr n0 L ∧ h = h0
def own_QR (h0 : Heap) (n0 : Nat) (r : Addr) (v : Option Value) (h : Heap) (L : List Loc) : Prop := ∃ z, v = some (.ref z) ∧ z = r ∧ Fr n0 L ∧ h = h0
def own_QL (n0 : Nat) (v : Option Value) (L : List Loc) : Prop := ∃ z : Int32, v = some (.int z) ∧ z = 1 ∧ Fr n0 L
def own_QV (h0 : Heap) (n0 : Nat) (v : Option Value) (h : Heap) (L : List Loc) : Prop := v = none ∧ Fr n0 L ∧ h = h0
theorem own_tab_other {Z : State} {h h' : Heap} {a b : Addr} {sl : Nat} {v : Value} {cl : Cell} {ty : FieldType} {n : Int32} (F : Tab Z h b cl ty n) (W : Wr h h' a sl v) (q : b ≠ a) : Tab Z h' b cl ty n := ⟨F.1.other W q, F.2⟩
theorem own_tab_keep {Z : State} {h h' : Heap} {b : Addr} {ws : List Addr} {cl : Cell} {ty : FieldType} {n : Int32} (F : Tab Z h b cl ty n) (K : Keep h h' ws) (q : b ∉ ws) : Tab Z h' b cl ty n := ⟨⟨K.2.1 b cl F.1.1 q, F.1.2⟩, F.2⟩
theorem own_tab {Z : State} {h : Heap} {a : Addr} {k : ClassId} {ty : FieldType} {n : Int32} {xs : List Int32} (F : Arv Z h a k ty n (xs.map Value.int) (.int 0)) : ∃ cl, Tab Z h a cl ty n ∧ ∀ j : Int32, ¬ j < 0 → j < n → atv cl j = xs.getD j.toNatClampNeg 0 := by
  obtain ⟨cl, A, -, S, hn, H, -⟩ := F
  have key : ∀ i, i < cl.slots.size → cl.slots[i]? = some (.int (xs.getD i 0)) := fun i hi => by
    rw [H i hi]; simp only [List.getD_eq_getElem?_getD, List.getElem?_map]
    cases xs[i]? <;> rfl
  have at' : ∀ j : Int32, ¬ (j < 0 ∨ cl.slots.size ≤ j.toNatClampNeg) → atv cl j = xs.getD j.toNatClampNeg 0 := fun j hj => atv_of (key _ (Nat.lt_of_not_le fun q => hj (Or.inr q)))
  exact ⟨cl, ⟨A, S, hn, fun j hj => by rw [at' j hj]; exact key _ (Nat.lt_of_not_le fun q => hj (Or.inr q))⟩, fun j h1 h2 => at' j (inb_of S ⟨h1, h2⟩)⟩
theorem own_lremM {p : Program} {l : Launch} {e : Env} {R : Room} {s : State} {m : MethodId} {args : Array Value} {below : List Frame} {meth : Method} {c : Code} {T : State} {locs : List Loc} {cells slots : Nat} {g : JFrame} {target : State} (X : Stand p l e R s m args below meth c T locs cells slots) (hx : p.tables.exec = Jvm.exec) (hg : g.method = m) {x y : Int64} {rest : List Value} (hd : decode c.code g.pc = .ok (.lrem, 1)) (hs : g.stack = .long y :: .long x :: rest) (hy : y ≠ 0)
    (hr : Steps p.tables e below (T.setTop { g with pc := g.pc + 1, stack := .long (x % y) :: rest }) target) : Steps p.tables e below (T.setTop g) target :=
  XS.lrem X.here hx hg hd hs hy (by rw [lrem_mod x y]; exact hr)
theorem d1_0 : decode method_2_code 0 = .ok (.iload_n 0, 1) := by decide +kernel
theorem d1_1 : decode method_2_code 1 = .ok (.ifCond .ne 7, 3) := by decide +kernel
theorem d1_4 : decode method_2_code 4 = .ok (.getstatic 7, 3) := by decide +kernel
theorem d1_7 : decode method_2_code 7 = .ok (.areturn, 1) := by decide +kernel
theorem d1_8 : decode method_2_code 8 = .ok (.iload_n 0, 1) := by decide +kernel
theorem d1_9 : decode method_2_code 9 = .ok (.iconst 1, 1) := by decide +kernel
theorem d1_10 : decode method_2_code 10 = .ok (.if_icmp .ne 7, 3) := by decide +kernel
theorem d1_13 : decode method_2_code 13 = .ok (.getstatic 13, 3) := by decide +kernel
theorem d1_16 : decode method_2_code 16 = .ok (.areturn, 1) := by decide +kernel
theorem d1_17 : decode method_2_code 17 = .ok (.iload_n 0, 1) := by decide +kernel
theorem d1_18 : decode method_2_code 18 = .ok (.iconst 2, 1) := by decide +kernel
theorem d1_19 : decode method_2_code 19 = .ok (.if_icmp .ne 7, 3) := by decide +kernel
theorem d1_22 : decode method_2_code 22 = .ok (.getstatic 16, 3) := by decide +kernel
theorem d1_25 : decode method_2_code 25 = .ok (.areturn, 1) := by decide +kernel
theorem d1_26 : decode method_2_code 26 = .ok (.iload_n 0, 1) := by decide +kernel
theorem d1_27 : decode method_2_code 27 = .ok (.iconst 3, 1) := by decide +kernel
theorem d1_28 : decode method_2_code 28 = .ok (.if_icmp .ne 7, 3) := by decide +kernel
theorem d1_31 : decode method_2_code 31 = .ok (.getstatic 19, 3) := by decide +kernel
theorem d1_34 : decode method_2_code 34 = .ok (.areturn, 1) := by decide +kernel
theorem d1_35 : decode method_2_code 35 = .ok (.iload_n 0, 1) := by decide +kernel
theorem d1_36 : decode method_2_code 36 = .ok (.iconst 4, 1) := by decide +kernel
theorem d1_37 : decode method_2_code 37 = .ok (.if_icmp .ne 7, 3) := by decide +kernel
theorem d1_40 : decode method_2_code 40 = .ok (.getstatic 22, 3) := by decide +kernel
theorem d1_43 : decode method_2_code 43 = .ok (.areturn, 1) := by decide +kernel
theorem d1_44 : decode method_2_code 44 = .ok (.getstatic 25, 3) := by decide +kernel
theorem d1_47 : decode method_2_code 47 = .ok (.areturn, 1) := by decide +kernel
theorem pn_1 : plainName "com/example/ferryline/ferryline/MemberStateRecoveredPinLaw" = true := by first | (simp [plainName, overriddenIn]; done) | decide +kernel
theorem ef_1 (m : MethodId) (p1 : Int32) : entryFrame m #[(.int p1)] 1 = mkF m 0 #[.val (.int p1)] [] := by first | (simp [entryFrame, mkF, argsToLocals, Value.category]; done) | rfl
def own_f1 (eN eO eR eP eF eE : Addr) (p1 : Int32) : Addr := (if p1 = (0 : Int32) then eN else (if p1 = (1 : Int32) then eO else (if p1 = (2 : Int32) then eR else (if p1 = (3 : Int32) then eP else (if p1 = (4 : Int32) then eF else eE)))))
set_option maxRecDepth 65536 in
set_option maxHeartbeats 40000000 in
theorem rm1 (l : Launch) (Z : State) (a0 : Array Value) (hw : ∀ d ∈ tables_1, d.before a0 Z = true) (ws : List Jvm.Cond) (p1 : Int32) (eN eO eR eP eF eE : Addr) (h0 : Heap) (n0 : Nat) (Z0 : n0 ≤ h0.size) (S_eN : Sta Z h0 "com/example/ferryline/ferryline/MemberState" "NOT_TRIED" "Lcom/example/ferryline/ferryline/MemberState;" (.ref eN)) (S_eO : Sta Z h0 "com/example/ferryline/ferryline/MemberState" "OK" "Lcom/example/ferryline/ferryline/MemberState;" (.ref eO)) (S_eR : Sta Z h0 "com/example/ferryline/ferryline/MemberState" "RECOVERING" "Lcom/example/ferryline/ferryline/MemberState;" (.ref eR)) (S_eP : Sta Z h0 "com/example/ferryline/ferryline/MemberState" "PROBING" "Lcom/example/ferryline/ferryline/MemberState;" (.ref eP)) (S_eF : Sta Z h0 "com/example/ferryline/ferryline/MemberState" "FORCED_RECOVERY" "Lcom/example/ferryline/ferryline/MemberState;" (.ref eF)) (S_eE : Sta Z h0 "com/example/ferryline/ferryline/MemberState" "ERROR" "Lcom/example/ferryline/ferryline/MemberState;" (.ref eE)) :
    MetFree l (⟨"com/example/ferryline/ferryline/MemberStateRecoveredPinLaw", "state", "(I)Lcom/example/ferryline/ferryline/MemberState;"⟩ : MethodName) (head1 (Jvm.Cond.code (⟨"com/example/ferryline/ferryline/MemberStateRecoveredPinLaw", "state", "(I)Lcom/example/ferryline/ferryline/MemberState;"⟩ : MethodName) method_2_code 1 (some (.object "com/example/ferryline/ferryline/MemberState")) :: ws) ({ frames := 0, cells := 0, slots := 0, locals := 0 } : Room)) (fun a U => a = #[(.int p1)] ∧ Z.Warmed39 U.vm ∧ U.heap = h0) (fun _ _ _ _ _ => True) (fun _ U o U' => ∃ v L, o = .returned v ∧ own_QR h0 n0 (own_f1 eN eO eR eP eF eE p1) v U'.heap L ∧ FrameEnd U o U' L ({ frames := 0, cells := 0, slots := 0, locals := 0 } : Room).cells ({ frames := 0, cells := 0, slots := 0, locals := 0 } : Room).slots) := by
  refine MetFree.of_bodySF (plainFor_of_name pn_1) hisR ?_
  intro p e s m args below meth c s₁ Bd hml0 hP hK
  obtain ⟨rfl, hZ, hh⟩ := hP
  have hx := Bd.exec
  have hby := Bd.bytes
  have hml : c.maxLocals = 1 := hml0
  have hown : s.vm.findClass "com/example/ferryline/ferryline/MemberStateRecoveredPinLaw" = some m.cls := findClass_of_methodNamed Bd.named
  have hnm := (name_of_methodNamed Bd.named Bd.method).1
  have X0 : Stand p l e ({ frames := 0, cells := 0, slots := 0, locals := 0 } : Room) s m #[(.int p1)] below meth c s₁ [] 0 0 := Stand.of_body Bd
  have e0 : s₁.heap = h0 := by rw [← hh, Bd.state]; rfl
  have N0 := Fr.nil n0
  obtain ⟨S0, hS0⟩ : ∃ z, z = s₁.setTop (entryFrame m #[(.int p1)] 1) := ⟨_, rfl⟩
  have P0 : own_Pr p.tables e below S0 s₁ (mkF m 0 #[.val (.int p1)] []) := fun t k => hS0 ▸ castTop (ef_1 m p1) k
  have P1 : own_Pr p.tables e below S0 s₁ (mkF m 1 #[.val (.int p1)] [(.int p1)]) := fun t k => P0 t (by
    refine XS.iloadN X0.here hx rfl (hb hby d1_0) rfl ?_
    show Steps p.tables e below (s₁.setTop (mkF m 1 #[.val (.int p1)] [(.int p1)])) _
    exact k)
  by_cases hc1_2 : p1 = (0 : Int32)
  · have P3 : own_Pr p.tables e below S0 s₁ (mkF m 4 #[.val (.int p1)] []) := fun t k => P1 t (by
      refine XS.ifNo X0.here hx rfl (hb hby d1_1) rfl (XT.i0_ne_f hc1_2) ?_
      show Steps p.tables e below (s₁.setTop (mkF m 4 #[.val (.int p1)] [])) _
      exact k)
    obtain ⟨T4, X4, e4, st4⟩ := getS2 X0 hx hZ hown (host := "") (Or.inl (hw _ (List.mem_of_getElem? (i := 5) rfl))) Via.refl e0 S_eN (g := (mkF m 4 #[.val (.int p1)] [])) rfl (hb hby d1_4)
    have P5 : own_Pr p.tables e below S0 T4 (mkF m 7 #[.val (.int p1)] [(.ref eN)]) := fun t k => P3 t (st4 _ k)
    obtain ⟨fs, hr, hrun, hended, hW, hsame⟩ := X4.leave (v := some (.ref eN)) (fun h => by rw [Bd.returns] at h; cases h)
    have fin : Steps p.tables e below S0 (T4.setFrames fs) := P5 _ (by
      jvm_step X4.here [X4.here.top, hx, (hb hby d1_7), X4.method', Bd.returns, Value.isRef, FieldType.isReference]
      first | (intro acts; rw [hr _ acts rfl rfl rfl]) | rw [hr _ _ rfl rfl rfl]
      exact Steps.refl _)
    rw [hS0] at fin
    refine ⟨_, _, fin, hrun, hended, _, _, rfl, ?_, ⟨_, rfl⟩, hW, hsame.mono (by decide) (by decide)⟩
    show own_QR h0 n0 (own_f1 eN eO eR eP eF eE p1) _ T4.heap _
    rw [e4]
    exact ⟨_, rfl, (by unfold own_f1; rw [if_pos hc1_2]), N0, rfl⟩
  · have P6 : own_Pr p.tables e below S0 s₁ (mkF m 10 #[.val (.int p1)] [(.int (1 : Int32)), (.int p1)]) := fun t k => P1 t (by
      refine XS.ifYes X0.here hx rfl (pc0 := 1) (pc' := 8) rfl (hb hby d1_1) rfl (XT.i0_ne_t hc1_2) (by decide) (by decide) ?_
      show Steps p.tables e below (s₁.setTop (mkF m 8 #[.val (.int p1)] [])) _
      refine XS.iloadN X0.here hx rfl (hb hby d1_8) rfl ?_
      show Steps p.tables e below (s₁.setTop (mkF m 9 #[.val (.int p1)] [(.int p1)])) _
      refine XS.iconst X0.here hx rfl (hb hby d1_9) ?_
      show Steps p.tables e below (s₁.setTop (mkF m 10 #[.val (.int p1)] [(.int (1 : Int32)), (.int p1)])) _
      exact k)
    by_cases hc10_7 : p1 = (1 : Int32)
    · have P8 : own_Pr p.tables e below S0 s₁ (mkF m 13 #[.val (.int p1)] []) := fun t k => P6 t (by
        refine XS.icmpNo X0.here hx rfl (hb hby d1_10) rfl (XT.ii_ne_f hc10_7) ?_
        show Steps p.tables e below (s₁.setTop (mkF m 13 #[.val (.int p1)] [])) _
        exact k)
      obtain ⟨T9, X9, e9, st9⟩ := getS2 X0 hx hZ hown (host := "") (Or.inl (hw _ (List.mem_of_getElem? (i := 36) rfl))) Via.refl e0 S_eO (g := (mkF m 13 #[.val (.int p1)] [])) rfl (hb hby d1_13)
      have P10 : own_Pr p.tables e below S0 T9 (mkF m 16 #[.val (.int p1)] [(.ref eO)]) := fun t k => P8 t (st9 _ k)
      obtain ⟨fs, hr, hrun, hended, hW, hsame⟩ := X9.leave (v := some (.ref eO)) (fun h => by rw [Bd.returns] at h; cases h)
      have fin : Steps p.tables e below S0 (T9.setFrames fs) := P10 _ (by
        jvm_step X9.here [X9.here.top, hx, (hb hby d1_16), X9.method', Bd.returns, Value.isRef, FieldType.isReference]
        first | (intro acts; rw [hr _ acts rfl rfl rfl]) | rw [hr _ _ rfl rfl rfl]
        exact Steps.refl _)
      rw [hS0] at fin
      refine ⟨_, _, fin, hrun, hended, _, _, rfl, ?_, ⟨_, rfl⟩, hW, hsame.mono (by decide) (by decide)⟩
      show own_QR h0 n0 (own_f1 eN eO eR eP eF eE p1) _ T9.heap _
      rw [e9]
      exact ⟨_, rfl, (by unfold own_f1; rw [if_neg hc1_2, if_pos hc10_7]), N0, rfl⟩
    · have P11 : own_Pr p.tables e below S0 s₁ (mkF m 19 #[.val (.int p1)] [(.int (2 : Int32)), (.int p1)]) := fun t k => P6 t (by
        refine XS.icmpYes X0.here hx rfl (pc0 := 10) (pc' := 17) rfl (hb hby d1_10) rfl (XT.ii_ne_t hc10_7) (by decide) (by decide) ?_
        show Steps p.tables e below (s₁.setTop (mkF m 17 #[.val (.int p1)] [])) _
        refine XS.iloadN X0.here hx rfl (hb hby d1_17) rfl ?_
        show Steps p.tables e below (s₁.setTop (mkF m 18 #[.val (.int p1)] [(.int p1)])) _
        refine XS.iconst X0.here hx rfl (hb hby d1_18) ?_
        show Steps p.tables e below (s₁.setTop (mkF m 19 #[.val (.int p1)] [(.int (2 : Int32)), (.int p1)])) _
        exact k)
      by_cases hc19_12 : p1 = (2 : Int32)
      · have P13 : own_Pr p.tables e below S0 s₁ (mkF m 22 #[.val (.int p1)] []) := fun t k => P11 t (by
          refine XS.icmpNo X0.here hx rfl (hb hby d1_19) rfl (XT.ii_ne_f hc19_12) ?_
          show Steps p.tables e below (s₁.setTop (mkF m 22 #[.val (.int p1)] [])) _
          exact k)
        obtain ⟨T14, X14, e14, st14⟩ := getS2 X0 hx hZ hown (host := "") (Or.inl (hw _ (List.mem_of_getElem? (i := 34) rfl))) Via.refl e0 S_eR (g := (mkF m 22 #[.val (.int p1)] [])) rfl (hb hby d1_22)
        have P15 : own_Pr p.tables e below S0 T14 (mkF m 25 #[.val (.int p1)] [(.ref eR)]) := fun t k => P13 t (st14 _ k)
        obtain ⟨fs, hr, hrun, hended, hW, hsame⟩ := X14.leave (v := some (.ref eR)) (fun h => by rw [Bd.returns] at h; cases h)
        have fin : Steps p.tables e below S0 (T14.setFrames fs) := P15 _ (by
          jvm_step X14.here [X14.here.top, hx, (hb hby d1_25), X14.method', Bd.returns, Value.isRef, FieldType.isReference]
          first | (intro acts; rw [hr _ acts rfl rfl rfl]) | rw [hr _ _ rfl rfl rfl]
          exact Steps.refl _)
        rw [hS0] at fin
        refine ⟨_, _, fin, hrun, hended, _, _, rfl, ?_, ⟨_, rfl⟩, hW, hsame.mono (by decide) (by decide)⟩
        show own_QR h0 n0 (own_f1 eN eO eR eP eF eE p1) _ T14.heap _
        rw [e14]
        exact ⟨_, rfl, (by unfold own_f1; rw [if_neg hc1_2, if_neg hc10_7, if_pos hc19_12]), N0, rfl⟩
      · have P16 : own_Pr p.tables e below S0 s₁ (mkF m 28 #[.val (.int p1)] [(.int (3 : Int32)), (.int p1)]) := fun t k => P11 t (by
          refine XS.icmpYes X0.here hx rfl (pc0 := 19) (pc' := 26) rfl (hb hby d1_19) rfl (XT.ii_ne_t hc19_12) (by decide) (by decide) ?_
          show Steps p.tables e below (s₁.setTop (mkF m 26 #[.val (.int p1)] [])) _
          refine XS.iloadN X0.here hx rfl (hb hby d1_26) rfl ?_
          show Steps p.tables e below (s₁.setTop (mkF m 27 #[.val (.int p1)] [(.int p1)])) _
          refine XS.iconst X0.here hx rfl (hb hby d1_27) ?_
          show Steps p.tables e below (s₁.setTop (mkF m 28 #[.val (.int p1)] [(.int (3 : Int32)), (.int p1)])) _
          exact k)
        by_cases hc28_17 : p1 = (3 : Int32)
        · have P18 : own_Pr p.tables e below S0 s₁ (mkF m 31 #[.val (.int p1)] []) := fun t k => P16 t (by
            refine XS.icmpNo X0.here hx rfl (hb hby d1_28) rfl (XT.ii_ne_f hc28_17) ?_
            show Steps p.tables e below (s₁.setTop (mkF m 31 #[.val (.int p1)] [])) _
            exact k)
          obtain ⟨T19, X19, e19, st19⟩ := getS2 X0 hx hZ hown (host := "") (Or.inl (hw _ (List.mem_of_getElem? (i := 32) rfl))) Via.refl e0 S_eP (g := (mkF m 31 #[.val (.int p1)] [])) rfl (hb hby d1_31)
          have P20 : own_Pr p.tables e below S0 T19 (mkF m 34 #[.val (.int p1)] [(.ref eP)]) := fun t k => P18 t (st19 _ k)
          obtain ⟨fs, hr, hrun, hended, hW, hsame⟩ := X19.leave (v := some (.ref eP)) (fun h => by rw [Bd.returns] at h; cases h)
          have fin : Steps p.tables e below S0 (T19.setFrames fs) := P20 _ (by
            jvm_step X19.here [X19.here.top, hx, (hb hby d1_34), X19.method', Bd.returns, Value.isRef, FieldType.isReference]
            first | (intro acts; rw [hr _ acts rfl rfl rfl]) | rw [hr _ _ rfl rfl rfl]
            exact Steps.refl _)
          rw [hS0] at fin
          refine ⟨_, _, fin, hrun, hended, _, _, rfl, ?_, ⟨_, rfl⟩, hW, hsame.mono (by decide) (by decide)⟩
          show own_QR h0 n0 (own_f1 eN eO eR eP eF eE p1) _ T19.heap _
          rw [e19]
          exact ⟨_, rfl, (by unfold own_f1; rw [if_neg hc1_2, if_neg hc10_7, if_neg hc19_12, if_pos hc28_17]), N0, rfl⟩
        · have P21 : own_Pr p.tables e below S0 s₁ (mkF m 37 #[.val (.int p1)] [(.int (4 : Int32)), (.int p1)]) := fun t k => P16 t (by
            refine XS.icmpYes X0.here hx rfl (pc0 := 28) (pc' := 35) rfl (hb hby d1_28) rfl (XT.ii_ne_t hc28_17) (by decide) (by decide) ?_
            show Steps p.tables e below (s₁.setTop (mkF m 35 #[.val (.int p1)] [])) _
            refine XS.iloadN X0.here hx rfl (hb hby d1_35) rfl ?_
            show Steps p.tables e below (s₁.setTop (mkF m 36 #[.val (.int p1)] [(.int p1)])) _
            refine XS.iconst X0.here hx rfl (hb hby d1_36) ?_
            show Steps p.tables e below (s₁.setTop (mkF m 37 #[.val (.int p1)] [(.int (4 : Int32)), (.int p1)])) _
            exact k)
          by_cases hc37_22 : p1 = (4 : Int32)
          · have P23 : own_Pr p.tables e below S0 s₁ (mkF m 40 #[.val (.int p1)] []) := fun t k => P21 t (by
              refine XS.icmpNo X0.here hx rfl (hb hby d1_37) rfl (XT.ii_ne_f hc37_22) ?_
              show Steps p.tables e below (s₁.setTop (mkF m 40 #[.val (.int p1)] [])) _
              exact k)
            obtain ⟨T24, X24, e24, st24⟩ := getS2 X0 hx hZ hown (host := "") (Or.inl (hw _ (List.mem_of_getElem? (i := 39) rfl))) Via.refl e0 S_eF (g := (mkF m 40 #[.val (.int p1)] [])) rfl (hb hby d1_40)
            have P25 : own_Pr p.tables e below S0 T24 (mkF m 43 #[.val (.int p1)] [(.ref eF)]) := fun t k => P23 t (st24 _ k)
            obtain ⟨fs, hr, hrun, hended, hW, hsame⟩ := X24.leave (v := some (.ref eF)) (fun h => by rw [Bd.returns] at h; cases h)
            have fin : Steps p.tables e below S0 (T24.setFrames fs) := P25 _ (by
              jvm_step X24.here [X24.here.top, hx, (hb hby d1_43), X24.method', Bd.returns, Value.isRef, FieldType.isReference]
              first | (intro acts; rw [hr _ acts rfl rfl rfl]) | rw [hr _ _ rfl rfl rfl]
              exact Steps.refl _)
            rw [hS0] at fin
            refine ⟨_, _, fin, hrun, hended, _, _, rfl, ?_, ⟨_, rfl⟩, hW, hsame.mono (by decide) (by decide)⟩
            show own_QR h0 n0 (own_f1 eN eO eR eP eF eE p1) _ T24.heap _
            rw [e24]
            exact ⟨_, rfl, (by unfold own_f1; rw [if_neg hc1_2, if_neg hc10_7, if_neg hc19_12, if_neg hc28_17, if_pos hc37_22]), N0, rfl⟩
          · have P26 : own_Pr p.tables e below S0 s₁ (mkF m 44 #[.val (.int p1)] []) := fun t k => P21 t (by
              refine XS.icmpYes X0.here hx rfl (pc0 := 37) (pc' := 44) rfl (hb hby d1_37) rfl (XT.ii_ne_t hc37_22) (by decide) (by decide) ?_
              show Steps p.tables e below (s₁.setTop (mkF m 44 #[.val (.int p1)] [])) _
              exact k)
            obtain ⟨T27, X27, e27, st27⟩ := getS2 X0 hx hZ hown (host := "") (Or.inl (hw _ (List.mem_of_getElem? (i := 38) rfl))) Via.refl e0 S_eE (g := (mkF m 44 #[.val (.int p1)] [])) rfl (hb hby d1_44)
            have P28 : own_Pr p.tables e below S0 T27 (mkF m 47 #[.val (.int p1)] [(.ref eE)]) := fun t k => P26 t (st27 _ k)
            obtain ⟨fs, hr, hrun, hended, hW, hsame⟩ := X27.leave (v := some (.ref eE)) (fun h => by rw [Bd.returns] at h; cases h)
            have fin : Steps p.tables e below S0 (T27.setFrames fs) := P28 _ (by
              jvm_step X27.here [X27.here.top, hx, (hb hby d1_47), X27.method', Bd.returns, Value.isRef, FieldType.isReference]
              first | (intro acts; rw [hr _ acts rfl rfl rfl]) | rw [hr _ _ rfl rfl rfl]
              exact Steps.refl _)
            rw [hS0] at fin
            refine ⟨_, _, fin, hrun, hended, _, _, rfl, ?_, ⟨_, rfl⟩, hW, hsame.mono (by decide) (by decide)⟩
            show own_QR h0 n0 (own_f1 eN eO eR eP eF eE p1) _ T27.heap _
            rw [e27]
            exact ⟨_, rfl, (by unfold own_f1; rw [if_neg hc1_2, if_neg hc10_7, if_neg hc19_12, if_neg hc28_17, if_neg hc37_22]), N0, rfl⟩
theorem d3_0 : decode method_3_code 0 = .ok (.iload_n 0, 1) := by decide +kernel
theorem d3_1 : decode method_3_code 1 = .ok (.ifCond .ne 7, 3) := by decide +kernel
theorem d3_4 : decode method_3_code 4 = .ok (.getstatic 7, 3) := by decide +kernel
theorem d3_7 : decode method_3_code 7 = .ok (.areturn, 1) := by decide +kernel
theorem d3_8 : decode method_3_code 8 = .ok (.iload_n 0, 1) := by decide +kernel
theorem d3_9 : decode method_3_code 9 = .ok (.iconst 1, 1) := by decide +kernel
theorem d3_10 : decode method_3_code 10 = .ok (.if_icmp .ne 7, 3) := by decide +kernel
theorem d3_13 : decode method_3_code 13 = .ok (.getstatic 13, 3) := by decide +kernel
theorem d3_16 : decode method_3_code 16 = .ok (.areturn, 1) := by decide +kernel
theorem d3_17 : decode method_3_code 17 = .ok (.iload_n 0, 1) := by decide +kernel
theorem d3_18 : decode method_3_code 18 = .ok (.iconst 2, 1) := by decide +kernel
theorem d3_19 : decode method_3_code 19 = .ok (.if_icmp .ne 7, 3) := by decide +kernel
theorem d3_22 : decode method_3_code 22 = .ok (.getstatic 16, 3) := by decide +kernel
theorem d3_25 : decode method_3_code 25 = .ok (.areturn, 1) := by decide +kernel
theorem d3_26 : decode method_3_code 26 = .ok (.iload_n 0, 1) := by decide +kernel
theorem d3_27 : decode method_3_code 27 = .ok (.iconst 3, 1) := by decide +kernel
theorem d3_28 : decode method_3_code 28 = .ok (.if_icmp .ne 7, 3) := by decide +kernel
theorem d3_31 : decode method_3_code 31 = .ok (.getstatic 19, 3) := by decide +kernel
theorem d3_34 : decode method_3_code 34 = .ok (.areturn, 1) := by decide +kernel
theorem d3_35 : decode method_3_code 35 = .ok (.iload_n 0, 1) := by decide +kernel
theorem d3_36 : decode method_3_code 36 = .ok (.iconst 4, 1) := by decide +kernel
theorem d3_37 : decode method_3_code 37 = .ok (.if_icmp .ne 7, 3) := by decide +kernel
theorem d3_40 : decode method_3_code 40 = .ok (.getstatic 19, 3) := by decide +kernel
theorem d3_43 : decode method_3_code 43 = .ok (.areturn, 1) := by decide +kernel
theorem d3_44 : decode method_3_code 44 = .ok (.getstatic 16, 3) := by decide +kernel
theorem d3_47 : decode method_3_code 47 = .ok (.areturn, 1) := by decide +kernel
theorem ef_3 (m : MethodId) (p1 : Int32) : entryFrame m #[(.int p1)] 1 = mkF m 0 #[.val (.int p1)] [] := by first | (simp [entryFrame, mkF, argsToLocals, Value.category]; done) | rfl
def own_f3 (eN eO eR eP eF eE : Addr) (p1 : Int32) : Addr := (if p1 = (0 : Int32) then eN else (if p1 = (1 : Int32) then eO else (if p1 = (2 : Int32) then eR else (if p1 = (3 : Int32) then eP else (if p1 = (4 : Int32) then eP else eR)))))
set_option maxRecDepth 65536 in
set_option maxHeartbeats 40000000 in
theorem rm3 (l : Launch) (Z : State) (a0 : Array Value) (hw : ∀ d ∈ tables_1, d.before a0 Z = true) (ws : List Jvm.Cond) (p1 : Int32) (eN eO eR eP eF eE : Addr) (h0 : Heap) (n0 : Nat) (Z0 : n0 ≤ h0.size) (S_eN : Sta Z h0 "com/example/ferryline/ferryline/MemberState" "NOT_TRIED" "Lcom/example/ferryline/ferryline/MemberState;" (.ref eN)) (S_eO : Sta Z h0 "com/example/ferryline/ferryline/MemberState" "OK" "Lcom/example/ferryline/ferryline/MemberState;" (.ref eO)) (S_eR : Sta Z h0 "com/example/ferryline/ferryline/MemberState" "RECOVERING" "Lcom/example/ferryline/ferryline/MemberState;" (.ref eR)) (S_eP : Sta Z h0 "com/example/ferryline/ferryline/MemberState" "PROBING" "Lcom/example/ferryline/ferryline/MemberState;" (.ref eP)) (S_eF : Sta Z h0 "com/example/ferryline/ferryline/MemberState" "FORCED_RECOVERY" "Lcom/example/ferryline/ferryline/MemberState;" (.ref eF)) (S_eE : Sta Z h0 "com/example/ferryline/ferryline/MemberState" "ERROR" "Lcom/example/ferryline/ferryline/MemberState;" (.ref eE)) :
    MetFree l (⟨"com/example/ferryline/ferryline/MemberStateRecoveredPinLaw", "expected", "(I)Lcom/example/ferryline/ferryline/MemberState;"⟩ : MethodName) (head1 (Jvm.Cond.code (⟨"com/example/ferryline/ferryline/MemberStateRecoveredPinLaw", "expected", "(I)Lcom/example/ferryline/ferryline/MemberState;"⟩ : MethodName) method_3_code 1 (some (.object "com/example/ferryline/ferryline/MemberState")) :: ws) ({ frames := 0, cells := 0, slots := 0, locals := 0 } : Room)) (fun a U => a = #[(.int p1)] ∧ Z.Warmed39 U.vm ∧ U.heap = h0) (fun _ _ _ _ _ => True) (fun _ U o U' => ∃ v L, o = .returned v ∧ own_QR h0 n0 (own_f3 eN eO eR eP eF eE p1) v U'.heap L ∧ FrameEnd U o U' L ({ frames := 0, cells := 0, slots := 0, locals := 0 } : Room).cells ({ frames := 0, cells := 0, slots := 0, locals := 0 } : Room).slots) := by
  refine MetFree.of_bodySF (plainFor_of_name pn_1) hisR ?_
  intro p e s m args below meth c s₁ Bd hml0 hP hK
  obtain ⟨rfl, hZ, hh⟩ := hP
  have hx := Bd.exec
  have hby := Bd.bytes
  have hml : c.maxLocals = 1 := hml0
  have hown : s.vm.findClass "com/example/ferryline/ferryline/MemberStateRecoveredPinLaw" = some m.cls := findClass_of_methodNamed Bd.named
  have hnm := (name_of_methodNamed Bd.named Bd.method).1
  have X0 : Stand p l e ({ frames := 0, cells := 0, slots := 0, locals := 0 } : Room) s m #[(.int p1)] below meth c s₁ [] 0 0 := Stand.of_body Bd
  have e0 : s₁.heap = h0 := by rw [← hh, Bd.state]; rfl
  have N0 := Fr.nil n0
  obtain ⟨S0, hS0⟩ : ∃ z, z = s₁.setTop (entryFrame m #[(.int p1)] 1) := ⟨_, rfl⟩
  have P0 : own_Pr p.tables e below S0 s₁ (mkF m 0 #[.val (.int p1)] []) := fun t k => hS0 ▸ castTop (ef_3 m p1) k
  have P1 : own_Pr p.tables e below S0 s₁ (mkF m 1 #[.val (.int p1)] [(.int p1)]) := fun t k => P0 t (by
    refine XS.iloadN X0.here hx rfl (hb hby d3_0) rfl ?_
    show Steps p.tables e below (s₁.setTop (mkF m 1 #[.val (.int p1)] [(.int p1)])) _
    exact k)
  by_cases hc1_2 : p1 = (0 : Int32)
  · have P3 : own_Pr p.tables e below S0 s₁ (mkF m 4 #[.val (.int p1)] []) := fun t k => P1 t (by
      refine XS.ifNo X0.here hx rfl (hb hby d3_1) rfl (XT.i0_ne_f hc1_2) ?_
      show Steps p.tables e below (s₁.setTop (mkF m 4 #[.val (.int p1)] [])) _
      exact k)
    obtain ⟨T4, X4, e4, st4⟩ := getS2 X0 hx hZ hown (host := "") (Or.inl (hw _ (List.mem_of_getElem? (i := 5) rfl))) Via.refl e0 S_eN (g := (mkF m 4 #[.val (.int p1)] [])) rfl (hb hby d3_4)
    have P5 : own_Pr p.tables e below S0 T4 (mkF m 7 #[.val (.int p1)] [(.ref eN)]) := fun t k => P3 t (st4 _ k)
    obtain ⟨fs, hr, hrun, hended, hW, hsame⟩ := X4.leave (v := some (.ref eN)) (fun h => by rw [Bd.returns] at h; cases h)
    have fin : Steps p.tables e below S0 (T4.setFrames fs) := P5 _ (by
      jvm_step X4.here [X4.here.top, hx, (hb hby d3_7), X4.method', Bd.returns, Value.isRef, FieldType.isReference]
      first | (intro acts; rw [hr _ acts rfl rfl rfl]) | rw [hr _ _ rfl rfl rfl]
      exact Steps.refl _)
    rw [hS0] at fin
    refine ⟨_, _, fin, hrun, hended, _, _, rfl, ?_, ⟨_, rfl⟩, hW, hsame.mono (by decide) (by decide)⟩
    show own_QR h0 n0 (own_f3 eN eO eR eP eF eE p1) _ T4.heap _
    rw [e4]
    exact ⟨_, rfl, (by unfold own_f3; rw [if_pos hc1_2]), N0, rfl⟩
  · have P6 : own_Pr p.tables e below S0 s₁ (mkF m 10 #[.val (.int p1)] [(.int (1 : Int32)), (.int p1)]) := fun t k => P1 t (by
      refine XS.ifYes X0.here hx rfl (pc0 := 1) (pc' := 8) rfl (hb hby d3_1) rfl (XT.i0_ne_t hc1_2) (by decide) (by decide) ?_
      show Steps p.tables e below (s₁.setTop (mkF m 8 #[.val (.int p1)] [])) _
      refine XS.iloadN X0.here hx rfl (hb hby d3_8) rfl ?_
      show Steps p.tables e below (s₁.setTop (mkF m 9 #[.val (.int p1)] [(.int p1)])) _
      refine XS.iconst X0.here hx rfl (hb hby d3_9) ?_
      show Steps p.tables e below (s₁.setTop (mkF m 10 #[.val (.int p1)] [(.int (1 : Int32)), (.int p1)])) _
      exact k)
    by_cases hc10_7 : p1 = (1 : Int32)
    · have P8 : own_Pr p.tables e below S0 s₁ (mkF m 13 #[.val (.int p1)] []) := fun t k => P6 t (by
        refine XS.icmpNo X0.here hx rfl (hb hby d3_10) rfl (XT.ii_ne_f hc10_7) ?_
        show Steps p.tables e below (s₁.setTop (mkF m 13 #[.val (.int p1)] [])) _
        exact k)
      obtain ⟨T9, X9, e9, st9⟩ := getS2 X0 hx hZ hown (host := "") (Or.inl (hw _ (List.mem_of_getElem? (i := 36) rfl))) Via.refl e0 S_eO (g := (mkF m 13 #[.val (.int p1)] [])) rfl (hb hby d3_13)
      have P10 : own_Pr p.tables e below S0 T9 (mkF m 16 #[.val (.int p1)] [(.ref eO)]) := fun t k => P8 t (st9 _ k)
      obtain ⟨fs, hr, hrun, hended, hW, hsame⟩ := X9.leave (v := some (.ref eO)) (fun h => by rw [Bd.returns] at h; cases h)
      have fin : Steps p.tables e below S0 (T9.setFrames fs) := P10 _ (by
        jvm_step X9.here [X9.here.top, hx, (hb hby d3_16), X9.method', Bd.returns, Value.isRef, FieldType.isReference]
        first | (intro acts; rw [hr _ acts rfl rfl rfl]) | rw [hr _ _ rfl rfl rfl]
        exact Steps.refl _)
      rw [hS0] at fin
      refine ⟨_, _, fin, hrun, hended, _, _, rfl, ?_, ⟨_, rfl⟩, hW, hsame.mono (by decide) (by decide)⟩
      show own_QR h0 n0 (own_f3 eN eO eR eP eF eE p1) _ T9.heap _
      rw [e9]
      exact ⟨_, rfl, (by unfold own_f3; rw [if_neg hc1_2, if_pos hc10_7]), N0, rfl⟩
    · have P11 : own_Pr p.tables e below S0 s₁ (mkF m 19 #[.val (.int p1)] [(.int (2 : Int32)), (.int p1)]) := fun t k => P6 t (by
        refine XS.icmpYes X0.here hx rfl (pc0 := 10) (pc' := 17) rfl (hb hby d3_10) rfl (XT.ii_ne_t hc10_7) (by decide) (by decide) ?_
        show Steps p.tables e below (s₁.setTop (mkF m 17 #[.val (.int p1)] [])) _
        refine XS.iloadN X0.here hx rfl (hb hby d3_17) rfl ?_
        show Steps p.tables e below (s₁.setTop (mkF m 18 #[.val (.int p1)] [(.int p1)])) _
        refine XS.iconst X0.here hx rfl (hb hby d3_18) ?_
        show Steps p.tables e below (s₁.setTop (mkF m 19 #[.val (.int p1)] [(.int (2 : Int32)), (.int p1)])) _
        exact k)
      by_cases hc19_12 : p1 = (2 : Int32)
      · have P13 : own_Pr p.tables e below S0 s₁ (mkF m 22 #[.val (.int p1)] []) := fun t k => P11 t (by
          refine XS.icmpNo X0.here hx rfl (hb hby d3_19) rfl (XT.ii_ne_f hc19_12) ?_
          show Steps p.tables e below (s₁.setTop (mkF m 22 #[.val (.int p1)] [])) _
          exact k)
        obtain ⟨T14, X14, e14, st14⟩ := getS2 X0 hx hZ hown (host := "") (Or.inl (hw _ (List.mem_of_getElem? (i := 34) rfl))) Via.refl e0 S_eR (g := (mkF m 22 #[.val (.int p1)] [])) rfl (hb hby d3_22)
        have P15 : own_Pr p.tables e below S0 T14 (mkF m 25 #[.val (.int p1)] [(.ref eR)]) := fun t k => P13 t (st14 _ k)
        obtain ⟨fs, hr, hrun, hended, hW, hsame⟩ := X14.leave (v := some (.ref eR)) (fun h => by rw [Bd.returns] at h; cases h)
        have fin : Steps p.tables e below S0 (T14.setFrames fs) := P15 _ (by
          jvm_step X14.here [X14.here.top, hx, (hb hby d3_25), X14.method', Bd.returns, Value.isRef, FieldType.isReference]
          first | (intro acts; rw [hr _ acts rfl rfl rfl]) | rw [hr _ _ rfl rfl rfl]
          exact Steps.refl _)
        rw [hS0] at fin
        refine ⟨_, _, fin, hrun, hended, _, _, rfl, ?_, ⟨_, rfl⟩, hW, hsame.mono (by decide) (by decide)⟩
        show own_QR h0 n0 (own_f3 eN eO eR eP eF eE p1) _ T14.heap _
        rw [e14]
        exact ⟨_, rfl, (by unfold own_f3; rw [if_neg hc1_2, if_neg hc10_7, if_pos hc19_12]), N0, rfl⟩
      · have P16 : own_Pr p.tables e below S0 s₁ (mkF m 28 #[.val (.int p1)] [(.int (3 : Int32)), (.int p1)]) := fun t k => P11 t (by
          refine XS.icmpYes X0.here hx rfl (pc0 := 19) (pc' := 26) rfl (hb hby d3_19) rfl (XT.ii_ne_t hc19_12) (by decide) (by decide) ?_
          show Steps p.tables e below (s₁.setTop (mkF m 26 #[.val (.int p1)] [])) _
          refine XS.iloadN X0.here hx rfl (hb hby d3_26) rfl ?_
          show Steps p.tables e below (s₁.setTop (mkF m 27 #[.val (.int p1)] [(.int p1)])) _
          refine XS.iconst X0.here hx rfl (hb hby d3_27) ?_
          show Steps p.tables e below (s₁.setTop (mkF m 28 #[.val (.int p1)] [(.int (3 : Int32)), (.int p1)])) _
          exact k)
        by_cases hc28_17 : p1 = (3 : Int32)
        · have P18 : own_Pr p.tables e below S0 s₁ (mkF m 31 #[.val (.int p1)] []) := fun t k => P16 t (by
            refine XS.icmpNo X0.here hx rfl (hb hby d3_28) rfl (XT.ii_ne_f hc28_17) ?_
            show Steps p.tables e below (s₁.setTop (mkF m 31 #[.val (.int p1)] [])) _
            exact k)
          obtain ⟨T19, X19, e19, st19⟩ := getS2 X0 hx hZ hown (host := "") (Or.inl (hw _ (List.mem_of_getElem? (i := 32) rfl))) Via.refl e0 S_eP (g := (mkF m 31 #[.val (.int p1)] [])) rfl (hb hby d3_31)
          have P20 : own_Pr p.tables e below S0 T19 (mkF m 34 #[.val (.int p1)] [(.ref eP)]) := fun t k => P18 t (st19 _ k)
          obtain ⟨fs, hr, hrun, hended, hW, hsame⟩ := X19.leave (v := some (.ref eP)) (fun h => by rw [Bd.returns] at h; cases h)
          have fin : Steps p.tables e below S0 (T19.setFrames fs) := P20 _ (by
            jvm_step X19.here [X19.here.top, hx, (hb hby d3_34), X19.method', Bd.returns, Value.isRef, FieldType.isReference]
            first | (intro acts; rw [hr _ acts rfl rfl rfl]) | rw [hr _ _ rfl rfl rfl]
            exact Steps.refl _)
          rw [hS0] at fin
          refine ⟨_, _, fin, hrun, hended, _, _, rfl, ?_, ⟨_, rfl⟩, hW, hsame.mono (by decide) (by decide)⟩
          show own_QR h0 n0 (own_f3 eN eO eR eP eF eE p1) _ T19.heap _
          rw [e19]
          exact ⟨_, rfl, (by unfold own_f3; rw [if_neg hc1_2, if_neg hc10_7, if_neg hc19_12, if_pos hc28_17]), N0, rfl⟩
        · have P21 : own_Pr p.tables e below S0 s₁ (mkF m 37 #[.val (.int p1)] [(.int (4 : Int32)), (.int p1)]) := fun t k => P16 t (by
            refine XS.icmpYes X0.here hx rfl (pc0 := 28) (pc' := 35) rfl (hb hby d3_28) rfl (XT.ii_ne_t hc28_17) (by decide) (by decide) ?_
            show Steps p.tables e below (s₁.setTop (mkF m 35 #[.val (.int p1)] [])) _
            refine XS.iloadN X0.here hx rfl (hb hby d3_35) rfl ?_
            show Steps p.tables e below (s₁.setTop (mkF m 36 #[.val (.int p1)] [(.int p1)])) _
            refine XS.iconst X0.here hx rfl (hb hby d3_36) ?_
            show Steps p.tables e below (s₁.setTop (mkF m 37 #[.val (.int p1)] [(.int (4 : Int32)), (.int p1)])) _
            exact k)
          by_cases hc37_22 : p1 = (4 : Int32)
          · have P23 : own_Pr p.tables e below S0 s₁ (mkF m 40 #[.val (.int p1)] []) := fun t k => P21 t (by
              refine XS.icmpNo X0.here hx rfl (hb hby d3_37) rfl (XT.ii_ne_f hc37_22) ?_
              show Steps p.tables e below (s₁.setTop (mkF m 40 #[.val (.int p1)] [])) _
              exact k)
            obtain ⟨T24, X24, e24, st24⟩ := getS2 X0 hx hZ hown (host := "") (Or.inl (hw _ (List.mem_of_getElem? (i := 32) rfl))) Via.refl e0 S_eP (g := (mkF m 40 #[.val (.int p1)] [])) rfl (hb hby d3_40)
            have P25 : own_Pr p.tables e below S0 T24 (mkF m 43 #[.val (.int p1)] [(.ref eP)]) := fun t k => P23 t (st24 _ k)
            obtain ⟨fs, hr, hrun, hended, hW, hsame⟩ := X24.leave (v := some (.ref eP)) (fun h => by rw [Bd.returns] at h; cases h)
            have fin : Steps p.tables e below S0 (T24.setFrames fs) := P25 _ (by
              jvm_step X24.here [X24.here.top, hx, (hb hby d3_43), X24.method', Bd.returns, Value.isRef, FieldType.isReference]
              first | (intro acts; rw [hr _ acts rfl rfl rfl]) | rw [hr _ _ rfl rfl rfl]
              exact Steps.refl _)
            rw [hS0] at fin
            refine ⟨_, _, fin, hrun, hended, _, _, rfl, ?_, ⟨_, rfl⟩, hW, hsame.mono (by decide) (by decide)⟩
            show own_QR h0 n0 (own_f3 eN eO eR eP eF eE p1) _ T24.heap _
            rw [e24]
            exact ⟨_, rfl, (by unfold own_f3; rw [if_neg hc1_2, if_neg hc10_7, if_neg hc19_12, if_neg hc28_17, if_pos hc37_22]), N0, rfl⟩
          · have P26 : own_Pr p.tables e below S0 s₁ (mkF m 44 #[.val (.int p1)] []) := fun t k => P21 t (by
              refine XS.icmpYes X0.here hx rfl (pc0 := 37) (pc' := 44) rfl (hb hby d3_37) rfl (XT.ii_ne_t hc37_22) (by decide) (by decide) ?_
              show Steps p.tables e below (s₁.setTop (mkF m 44 #[.val (.int p1)] [])) _
              exact k)
            obtain ⟨T27, X27, e27, st27⟩ := getS2 X0 hx hZ hown (host := "") (Or.inl (hw _ (List.mem_of_getElem? (i := 34) rfl))) Via.refl e0 S_eR (g := (mkF m 44 #[.val (.int p1)] [])) rfl (hb hby d3_44)
            have P28 : own_Pr p.tables e below S0 T27 (mkF m 47 #[.val (.int p1)] [(.ref eR)]) := fun t k => P26 t (st27 _ k)
            obtain ⟨fs, hr, hrun, hended, hW, hsame⟩ := X27.leave (v := some (.ref eR)) (fun h => by rw [Bd.returns] at h; cases h)
            have fin : Steps p.tables e below S0 (T27.setFrames fs) := P28 _ (by
              jvm_step X27.here [X27.here.top, hx, (hb hby d3_47), X27.method', Bd.returns, Value.isRef, FieldType.isReference]
              first | (intro acts; rw [hr _ acts rfl rfl rfl]) | rw [hr _ _ rfl rfl rfl]
              exact Steps.refl _)
            rw [hS0] at fin
            refine ⟨_, _, fin, hrun, hended, _, _, rfl, ?_, ⟨_, rfl⟩, hW, hsame.mono (by decide) (by decide)⟩
            show own_QR h0 n0 (own_f3 eN eO eR eP eF eE p1) _ T27.heap _
            rw [e27]
            exact ⟨_, rfl, (by unfold own_f3; rw [if_neg hc1_2, if_neg hc10_7, if_neg hc19_12, if_neg hc28_17, if_neg hc37_22]), N0, rfl⟩
theorem d2_0 : decode prog_23_method_7_code 0 = .ok (.aload_n 0, 1) := by decide +kernel
theorem d2_1 : decode prog_23_method_7_code 1 = .ok (.astore_n 1, 1) := by decide +kernel
theorem d2_2 : decode prog_23_method_7_code 2 = .ok (.aload_n 0, 1) := by decide +kernel
theorem d2_3 : decode prog_23_method_7_code 3 = .ok (.getstatic 19, 3) := by decide +kernel
theorem d2_6 : decode prog_23_method_7_code 6 = .ok (.if_acmp .ne 10, 3) := by decide +kernel
theorem d2_9 : decode prog_23_method_7_code 9 = .ok (.getstatic 10, 3) := by decide +kernel
theorem d2_12 : decode prog_23_method_7_code 12 = .ok (.astore_n 1, 1) := by decide +kernel
theorem d2_13 : decode prog_23_method_7_code 13 = .ok (.goto 14, 3) := by decide +kernel
theorem d2_16 : decode prog_23_method_7_code 16 = .ok (.aload_n 0, 1) := by decide +kernel
theorem d2_17 : decode prog_23_method_7_code 17 = .ok (.getstatic 16, 3) := by decide +kernel
theorem d2_20 : decode prog_23_method_7_code 20 = .ok (.if_acmp .ne 7, 3) := by decide +kernel
theorem d2_23 : decode prog_23_method_7_code 23 = .ok (.getstatic 13, 3) := by decide +kernel
theorem d2_26 : decode prog_23_method_7_code 26 = .ok (.astore_n 1, 1) := by decide +kernel
theorem d2_27 : decode prog_23_method_7_code 27 = .ok (.aload_n 1, 1) := by decide +kernel
theorem d2_28 : decode prog_23_method_7_code 28 = .ok (.areturn, 1) := by decide +kernel
theorem pn_2 : plainName "com/example/ferryline/ferryline/MemberState" = true := by first | (simp [plainName, overriddenIn]; done) | decide +kernel
theorem ef_2 (m : MethodId) (a1 : Addr) : entryFrame m #[(.ref a1)] 2 = mkF m 0 #[.val (.ref a1), .unset] [] := by first | (simp [entryFrame, mkF, argsToLocals, Value.category]; done) | rfl
def own_f2 (eN eO eR eP eF eE : Addr) (a1 : Addr) : Addr := (if a1 = eE then eR else (if a1 = eF then eP else a1))
set_option maxRecDepth 65536 in
set_option maxHeartbeats 40000000 in
theorem rm2 (l : Launch) (Z : State) (a0 : Array Value) (hw : ∀ d ∈ tables_1, d.before a0 Z = true) (ws : List Jvm.Cond) (a1 : Addr) (eN eO eR eP eF eE : Addr) (h0 : Heap) (n0 : Nat) (Z0 : n0 ≤ h0.size) (S_eN : Sta Z h0 "com/example/ferryline/ferryline/MemberState" "NOT_TRIED" "Lcom/example/ferryline/ferryline/MemberState;" (.ref eN)) (S_eO : Sta Z h0 "com/example/ferryline/ferryline/MemberState" "OK" "Lcom/example/ferryline/ferryline/MemberState;" (.ref eO)) (S_eR : Sta Z h0 "com/example/ferryline/ferryline/MemberState" "RECOVERING" "Lcom/example/ferryline/ferryline/MemberState;" (.ref eR)) (S_eP : Sta Z h0 "com/example/ferryline/ferryline/MemberState" "PROBING" "Lcom/example/ferryline/ferryline/MemberState;" (.ref eP)) (S_eF : Sta Z h0 "com/example/ferryline/ferryline/MemberState" "FORCED_RECOVERY" "Lcom/example/ferryline/ferryline/MemberState;" (.ref eF)) (S_eE : Sta Z h0 "com/example/ferryline/ferryline/MemberState" "ERROR" "Lcom/example/ferryline/ferryline/MemberState;" (.ref eE)) :
    MetFree l (⟨"com/example/ferryline/ferryline/MemberState", "recovered", "()Lcom/example/ferryline/ferryline/MemberState;"⟩ : MethodName) (head1 (Jvm.Cond.code (⟨"com/example/ferryline/ferryline/MemberState", "recovered", "()Lcom/example/ferryline/ferryline/MemberState;"⟩ : MethodName) prog_23_method_7_code 2 (some (.object "com/example/ferryline/ferryline/MemberState")) :: ws) ({ frames := 0, cells := 0, slots := 0, locals := 0 } : Room)) (fun a U => a = #[(.ref a1)] ∧ Z.Warmed39 U.vm ∧ U.heap = h0) (fun _ _ _ _ _ => True) (fun _ U o U' => ∃ v L, o = .returned v ∧ own_QR h0 n0 (own_f2 eN eO eR eP eF eE a1) v U'.heap L ∧ FrameEnd U o U' L ({ frames := 0, cells := 0, slots := 0, locals := 0 } : Room).cells ({ frames := 0, cells := 0, slots := 0, locals := 0 } : Room).slots) := by
  refine MetFree.of_bodySF (plainFor_of_name pn_2) hisR ?_
  intro p e s m args below meth c s₁ Bd hml0 hP hK
  obtain ⟨rfl, hZ, hh⟩ := hP
  have hx := Bd.exec
  have hby := Bd.bytes
  have hml : c.maxLocals = 2 := hml0
  have hown : s.vm.findClass "com/example/ferryline/ferryline/MemberState" = some m.cls := findClass_of_methodNamed Bd.named
  have hnm := (name_of_methodNamed Bd.named Bd.method).1
  have X0 : Stand p l e ({ frames := 0, cells := 0, slots := 0, locals := 0 } : Room) s m #[(.ref a1)] below meth c s₁ [] 0 0 := Stand.of_body Bd
  have e0 : s₁.heap = h0 := by rw [← hh, Bd.state]; rfl
  have N0 := Fr.nil n0
  obtain ⟨S0, hS0⟩ : ∃ z, z = s₁.setTop (entryFrame m #[(.ref a1)] 2) := ⟨_, rfl⟩
  have P0 : own_Pr p.tables e below S0 s₁ (mkF m 0 #[.val (.ref a1), .unset] []) := fun t k => hS0 ▸ castTop (ef_2 m a1) k
  have P1 : own_Pr p.tables e below S0 s₁ (mkF m 3 #[.val (.ref a1), .val (.ref a1)] [(.ref a1)]) := fun t k => P0 t (by
    refine XS.aloadN X0.here hx rfl (hb hby d2_0) rfl rfl ?_
    show Steps p.tables e below (s₁.setTop (mkF m 1 #[.val (.ref a1), .unset] [(.ref a1)])) _
    refine XS.astoreN X0.here hx rfl (hb hby d2_1) rfl rfl (l' := #[.val (.ref a1), .val (.ref a1)]) rfl ?_
    show Steps p.tables e below (s₁.setTop (mkF m 2 #[.val (.ref a1), .val (.ref a1)] [])) _
    refine XS.aloadN X0.here hx rfl (hb hby d2_2) rfl rfl ?_
    show Steps p.tables e below (s₁.setTop (mkF m 3 #[.val (.ref a1), .val (.ref a1)] [(.ref a1)])) _
    exact k)
  obtain ⟨T2, X2, e2, st2⟩ := getS2 X0 hx hZ hown (host := "") (Or.inl (hw _ (List.mem_of_getElem? (i := 13) rfl))) Via.refl e0 S_eE (g := (mkF m 3 #[.val (.ref a1), .val (.ref a1)] [(.ref a1)])) rfl (hb hby d2_3)
  have P3 : own_Pr p.tables e below S0 T2 (mkF m 6 #[.val (.ref a1), .val (.ref a1)] [(.ref eE), (.ref a1)]) := fun t k => P1 t (st2 _ k)
  by_cases hc6_4 : a1 = eE
  · have P5 : own_Pr p.tables e below S0 T2 (mkF m 9 #[.val (.ref a1), .val (.ref a1)] []) := fun t k => P3 t (by
      refine Jvm.RoadKit.acmp (g := (mkF m 6 #[.val (.ref a1), .val (.ref a1)] [(.ref eE), (.ref a1)])) X2 hx rfl rfl rfl (pc0 := 6) (pc' := 9) (same := true) rfl (hb hby d2_6) rfl (decide_eq_true (congrArg Value.ref hc6_4)) (by decide) (by decide) ?_
      show Steps p.tables e below (T2.setTop (mkF m 9 #[.val (.ref a1), .val (.ref a1)] [])) _
      exact k)
    obtain ⟨T6, X6, e6, st6⟩ := getS2 X2 hx hZ hown (host := "") (Or.inl (hw _ (List.mem_of_getElem? (i := 30) rfl))) Via.refl e2 S_eR (g := (mkF m 9 #[.val (.ref a1), .val (.ref a1)] [])) rfl (hb hby d2_9)
    have P7 : own_Pr p.tables e below S0 T6 (mkF m 12 #[.val (.ref a1), .val (.ref a1)] [(.ref eR)]) := fun t k => P5 t (st6 _ k)
    have P8 : own_Pr p.tables e below S0 T6 (mkF m 28 #[.val (.ref a1), .val (.ref eR)] [(.ref eR)]) := fun t k => P7 t (by
      refine XS.astoreN X6.here hx rfl (hb hby d2_12) rfl rfl (l' := #[.val (.ref a1), .val (.ref eR)]) rfl ?_
      show Steps p.tables e below (T6.setTop (mkF m 13 #[.val (.ref a1), .val (.ref eR)] [])) _
      refine XS.goto X6.here hx rfl (pc0 := 13) (pc' := 27) rfl (hb hby d2_13) (by decide) (by decide) ?_
      show Steps p.tables e below (T6.setTop (mkF m 27 #[.val (.ref a1), .val (.ref eR)] [])) _
      refine XS.aloadN X6.here hx rfl (hb hby d2_27) rfl rfl ?_
      show Steps p.tables e below (T6.setTop (mkF m 28 #[.val (.ref a1), .val (.ref eR)] [(.ref eR)])) _
      exact k)
    obtain ⟨fs, hr, hrun, hended, hW, hsame⟩ := X6.leave (v := some (.ref eR)) (fun h => by rw [Bd.returns] at h; cases h)
    have fin : Steps p.tables e below S0 (T6.setFrames fs) := P8 _ (by
      jvm_step X6.here [X6.here.top, hx, (hb hby d2_28), X6.method', Bd.returns, Value.isRef, FieldType.isReference]
      first | (intro acts; rw [hr _ acts rfl rfl rfl]) | rw [hr _ _ rfl rfl rfl]
      exact Steps.refl _)
    rw [hS0] at fin
    refine ⟨_, _, fin, hrun, hended, _, _, rfl, ?_, ⟨_, rfl⟩, hW, hsame.mono (by decide) (by decide)⟩
    show own_QR h0 n0 (own_f2 eN eO eR eP eF eE a1) _ T6.heap _
    rw [e6]
    exact ⟨_, rfl, (by unfold own_f2; rw [if_pos hc6_4]), N0, rfl⟩
  · have P9 : own_Pr p.tables e below S0 T2 (mkF m 17 #[.val (.ref a1), .val (.ref a1)] [(.ref a1)]) := fun t k => P3 t (by
      refine Jvm.RoadKit.acmp (g := (mkF m 6 #[.val (.ref a1), .val (.ref a1)] [(.ref eE), (.ref a1)])) X2 hx rfl rfl rfl (pc0 := 6) (pc' := 16) (same := false) rfl (hb hby d2_6) rfl (decide_eq_false fun q => hc6_4 (Value.ref.inj q)) (by decide) (by decide) ?_
      show Steps p.tables e below (T2.setTop (mkF m 16 #[.val (.ref a1), .val (.ref a1)] [])) _
      refine XS.aloadN X2.here hx rfl (hb hby d2_16) rfl rfl ?_
      show Steps p.tables e below (T2.setTop (mkF m 17 #[.val (.ref a1), .val (.ref a1)] [(.ref a1)])) _
      exact k)
    obtain ⟨T10, X10, e10, st10⟩ := getS2 X2 hx hZ hown (host := "") (Or.inl (hw _ (List.mem_of_getElem? (i := 15) rfl))) Via.refl e2 S_eF (g := (mkF m 17 #[.val (.ref a1), .val (.ref a1)] [(.ref a1)])) rfl (hb hby d2_17)
    have P11 : own_Pr p.tables e below S0 T10 (mkF m 20 #[.val (.ref a1), .val (.ref a1)] [(.ref eF), (.ref a1)]) := fun t k => P9 t (st10 _ k)
    by_cases hc20_12 : a1 = eF
    · have P13 : own_Pr p.tables e below S0 T10 (mkF m 23 #[.val (.ref a1), .val (.ref a1)] []) := fun t k => P11 t (by
        refine Jvm.RoadKit.acmp (g := (mkF m 20 #[.val (.ref a1), .val (.ref a1)] [(.ref eF), (.ref a1)])) X10 hx rfl rfl rfl (pc0 := 20) (pc' := 23) (same := true) rfl (hb hby d2_20) rfl (decide_eq_true (congrArg Value.ref hc20_12)) (by decide) (by decide) ?_
        show Steps p.tables e below (T10.setTop (mkF m 23 #[.val (.ref a1), .val (.ref a1)] [])) _
        exact k)
      obtain ⟨T14, X14, e14, st14⟩ := getS2 X10 hx hZ hown (host := "") (Or.inl (hw _ (List.mem_of_getElem? (i := 35) rfl))) Via.refl e10 S_eP (g := (mkF m 23 #[.val (.ref a1), .val (.ref a1)] [])) rfl (hb hby d2_23)
      have P15 : own_Pr p.tables e below S0 T14 (mkF m 26 #[.val (.ref a1), .val (.ref a1)] [(.ref eP)]) := fun t k => P13 t (st14 _ k)
      have P16 : own_Pr p.tables e below S0 T14 (mkF m 28 #[.val (.ref a1), .val (.ref eP)] [(.ref eP)]) := fun t k => P15 t (by
        refine XS.astoreN X14.here hx rfl (hb hby d2_26) rfl rfl (l' := #[.val (.ref a1), .val (.ref eP)]) rfl ?_
        show Steps p.tables e below (T14.setTop (mkF m 27 #[.val (.ref a1), .val (.ref eP)] [])) _
        refine XS.aloadN X14.here hx rfl (hb hby d2_27) rfl rfl ?_
        show Steps p.tables e below (T14.setTop (mkF m 28 #[.val (.ref a1), .val (.ref eP)] [(.ref eP)])) _
        exact k)
      obtain ⟨fs, hr, hrun, hended, hW, hsame⟩ := X14.leave (v := some (.ref eP)) (fun h => by rw [Bd.returns] at h; cases h)
      have fin : Steps p.tables e below S0 (T14.setFrames fs) := P16 _ (by
        jvm_step X14.here [X14.here.top, hx, (hb hby d2_28), X14.method', Bd.returns, Value.isRef, FieldType.isReference]
        first | (intro acts; rw [hr _ acts rfl rfl rfl]) | rw [hr _ _ rfl rfl rfl]
        exact Steps.refl _)
      rw [hS0] at fin
      refine ⟨_, _, fin, hrun, hended, _, _, rfl, ?_, ⟨_, rfl⟩, hW, hsame.mono (by decide) (by decide)⟩
      show own_QR h0 n0 (own_f2 eN eO eR eP eF eE a1) _ T14.heap _
      rw [e14]
      exact ⟨_, rfl, (by unfold own_f2; rw [if_neg hc6_4, if_pos hc20_12]), N0, rfl⟩
    · have P17 : own_Pr p.tables e below S0 T10 (mkF m 28 #[.val (.ref a1), .val (.ref a1)] [(.ref a1)]) := fun t k => P11 t (by
        refine Jvm.RoadKit.acmp (g := (mkF m 20 #[.val (.ref a1), .val (.ref a1)] [(.ref eF), (.ref a1)])) X10 hx rfl rfl rfl (pc0 := 20) (pc' := 27) (same := false) rfl (hb hby d2_20) rfl (decide_eq_false fun q => hc20_12 (Value.ref.inj q)) (by decide) (by decide) ?_
        show Steps p.tables e below (T10.setTop (mkF m 27 #[.val (.ref a1), .val (.ref a1)] [])) _
        refine XS.aloadN X10.here hx rfl (hb hby d2_27) rfl rfl ?_
        show Steps p.tables e below (T10.setTop (mkF m 28 #[.val (.ref a1), .val (.ref a1)] [(.ref a1)])) _
        exact k)
      obtain ⟨fs, hr, hrun, hended, hW, hsame⟩ := X10.leave (v := some (.ref a1)) (fun h => by rw [Bd.returns] at h; cases h)
      have fin : Steps p.tables e below S0 (T10.setFrames fs) := P17 _ (by
        jvm_step X10.here [X10.here.top, hx, (hb hby d2_28), X10.method', Bd.returns, Value.isRef, FieldType.isReference]
        first | (intro acts; rw [hr _ acts rfl rfl rfl]) | rw [hr _ _ rfl rfl rfl]
        exact Steps.refl _)
      rw [hS0] at fin
      refine ⟨_, _, fin, hrun, hended, _, _, rfl, ?_, ⟨_, rfl⟩, hW, hsame.mono (by decide) (by decide)⟩
      show own_QR h0 n0 (own_f2 eN eO eR eP eF eE a1) _ T10.heap _
      rw [e10]
      exact ⟨_, rfl, (by unfold own_f2; rw [if_neg hc6_4, if_neg hc20_12]), N0, rfl⟩
theorem d4_0 : decode prog_23_method_4_code 0 = .ok (.aload_n 0, 1) := by decide +kernel
theorem d4_1 : decode prog_23_method_4_code 1 = .ok (.getstatic 19, 3) := by decide +kernel
theorem d4_4 : decode prog_23_method_4_code 4 = .ok (.if_acmp .eq 10, 3) := by decide +kernel
theorem d4_7 : decode prog_23_method_4_code 7 = .ok (.aload_n 0, 1) := by decide +kernel
theorem d4_8 : decode prog_23_method_4_code 8 = .ok (.getstatic 16, 3) := by decide +kernel
theorem d4_11 : decode prog_23_method_4_code 11 = .ok (.if_acmp .ne 7, 3) := by decide +kernel
theorem d4_14 : decode prog_23_method_4_code 14 = .ok (.iconst 1, 1) := by decide +kernel
theorem d4_15 : decode prog_23_method_4_code 15 = .ok (.goto 4, 3) := by decide +kernel
theorem d4_18 : decode prog_23_method_4_code 18 = .ok (.iconst 0, 1) := by decide +kernel
theorem d4_19 : decode prog_23_method_4_code 19 = .ok (.ireturn, 1) := by decide +kernel
theorem ef_4 (m : MethodId) (a1 : Addr) : entryFrame m #[(.ref a1)] 1 = mkF m 0 #[.val (.ref a1)] [] := by first | (simp [entryFrame, mkF, argsToLocals, Value.category]; done) | rfl
def own_f4 (eN eO eR eP eF eE : Addr) (a1 : Addr) : Int32 := (if a1 = eE then (1 : Int32) else (if a1 = eF then (1 : Int32) else (0 : Int32)))
set_option maxRecDepth 65536 in
set_option maxHeartbeats 40000000 in
theorem rm4 (l : Launch) (Z : State) (a0 : Array Value) (hw : ∀ d ∈ tables_1, d.before a0 Z = true) (ws : List Jvm.Cond) (a1 : Addr) (eN eO eR eP eF eE : Addr) (h0 : Heap) (n0 : Nat) (Z0 : n0 ≤ h0.size) (S_eN : Sta Z h0 "com/example/ferryline/ferryline/MemberState" "NOT_TRIED" "Lcom/example/ferryline/ferryline/MemberState;" (.ref eN)) (S_eO : Sta Z h0 "com/example/ferryline/ferryline/MemberState" "OK" "Lcom/example/ferryline/ferryline/MemberState;" (.ref eO)) (S_eR : Sta Z h0 "com/example/ferryline/ferryline/MemberState" "RECOVERING" "Lcom/example/ferryline/ferryline/MemberState;" (.ref eR)) (S_eP : Sta Z h0 "com/example/ferryline/ferryline/MemberState" "PROBING" "Lcom/example/ferryline/ferryline/MemberState;" (.ref eP)) (S_eF : Sta Z h0 "com/example/ferryline/ferryline/MemberState" "FORCED_RECOVERY" "Lcom/example/ferryline/ferryline/MemberState;" (.ref eF)) (S_eE : Sta Z h0 "com/example/ferryline/ferryline/MemberState" "ERROR" "Lcom/example/ferryline/ferryline/MemberState;" (.ref eE)) :
    MetFree l (⟨"com/example/ferryline/ferryline/MemberState", "inError", "()Z"⟩ : MethodName) (head1 (Jvm.Cond.code (⟨"com/example/ferryline/ferryline/MemberState", "inError", "()Z"⟩ : MethodName) prog_23_method_4_code 1 (some .boolean) :: ws) ({ frames := 0, cells := 0, slots := 0, locals := 0 } : Room)) (fun a U => a = #[(.ref a1)] ∧ Z.Warmed39 U.vm ∧ U.heap = h0) (fun _ _ _ _ _ => True) (fun _ U o U' => ∃ v L, o = .returned v ∧ own_QI h0 n0 (own_f4 eN eO eR eP eF eE a1) v U'.heap L ∧ FrameEnd U o U' L ({ frames := 0, cells := 0, slots := 0, locals := 0 } : Room).cells ({ frames := 0, cells := 0, slots := 0, locals := 0 } : Room).slots) := by
  refine MetFree.of_bodySF (plainFor_of_name pn_2) hisR ?_
  intro p e s m args below meth c s₁ Bd hml0 hP hK
  obtain ⟨rfl, hZ, hh⟩ := hP
  have hx := Bd.exec
  have hby := Bd.bytes
  have hml : c.maxLocals = 1 := hml0
  have hown : s.vm.findClass "com/example/ferryline/ferryline/MemberState" = some m.cls := findClass_of_methodNamed Bd.named
  have hnm := (name_of_methodNamed Bd.named Bd.method).1
  have X0 : Stand p l e ({ frames := 0, cells := 0, slots := 0, locals := 0 } : Room) s m #[(.ref a1)] below meth c s₁ [] 0 0 := Stand.of_body Bd
  have e0 : s₁.heap = h0 := by rw [← hh, Bd.state]; rfl
  have N0 := Fr.nil n0
  obtain ⟨S0, hS0⟩ : ∃ z, z = s₁.setTop (entryFrame m #[(.ref a1)] 1) := ⟨_, rfl⟩
  have P0 : own_Pr p.tables e below S0 s₁ (mkF m 0 #[.val (.ref a1)] []) := fun t k => hS0 ▸ castTop (ef_4 m a1) k
  have P1 : own_Pr p.tables e below S0 s₁ (mkF m 1 #[.val (.ref a1)] [(.ref a1)]) := fun t k => P0 t (by
    refine XS.aloadN X0.here hx rfl (hb hby d4_0) rfl rfl ?_
    show Steps p.tables e below (s₁.setTop (mkF m 1 #[.val (.ref a1)] [(.ref a1)])) _
    exact k)
  obtain ⟨T2, X2, e2, st2⟩ := getS2 X0 hx hZ hown (host := "") (Or.inl (hw _ (List.mem_of_getElem? (i := 13) rfl))) Via.refl e0 S_eE (g := (mkF m 1 #[.val (.ref a1)] [(.ref a1)])) rfl (hb hby d4_1)
  have P3 : own_Pr p.tables e below S0 T2 (mkF m 4 #[.val (.ref a1)] [(.ref eE), (.ref a1)]) := fun t k => P1 t (st2 _ k)
  by_cases hc4_4 : a1 = eE
  · have P5 : own_Pr p.tables e below S0 T2 (mkF m 19 #[.val (.ref a1)] [(.int (1 : Int32))]) := fun t k => P3 t (by
      refine Jvm.RoadKit.acmp (g := (mkF m 4 #[.val (.ref a1)] [(.ref eE), (.ref a1)])) X2 hx rfl rfl rfl (pc0 := 4) (pc' := 14) (same := true) rfl (hb hby d4_4) rfl (decide_eq_true (congrArg Value.ref hc4_4)) (by decide) (by decide) ?_
      show Steps p.tables e below (T2.setTop (mkF m 14 #[.val (.ref a1)] [])) _
      refine XS.iconst X2.here hx rfl (hb hby d4_14) ?_
      show Steps p.tables e below (T2.setTop (mkF m 15 #[.val (.ref a1)] [(.int (1 : Int32))])) _
      refine XS.goto X2.here hx rfl (pc0 := 15) (pc' := 19) rfl (hb hby d4_15) (by decide) (by decide) ?_
      show Steps p.tables e below (T2.setTop (mkF m 19 #[.val (.ref a1)] [(.int (1 : Int32))])) _
      exact k)
    obtain ⟨fs, hr, hrun, hended, hW, hsame⟩ := X2.leave (v := some (.int (1 : Int32))) (fun h => by rw [Bd.returns] at h; cases h)
    have fin : Steps p.tables e below S0 (T2.setFrames fs) := P5 _ (retN X2 hx (t := .boolean) Bd.returns (by simp) (hb hby d4_19) hr)
    rw [hS0] at fin
    refine ⟨_, _, fin, hrun, hended, _, _, rfl, ?_, ⟨_, rfl⟩, hW, hsame.mono (by decide) (by decide)⟩
    show own_QI h0 n0 (own_f4 eN eO eR eP eF eE a1) _ T2.heap _
    rw [e2]
    exact ⟨_, rfl, (by unfold own_f4; rw [if_pos hc4_4]), N0, rfl⟩
  · have P6 : own_Pr p.tables e below S0 T2 (mkF m 8 #[.val (.ref a1)] [(.ref a1)]) := fun t k => P3 t (by
      refine Jvm.RoadKit.acmp (g := (mkF m 4 #[.val (.ref a1)] [(.ref eE), (.ref a1)])) X2 hx rfl rfl rfl (pc0 := 4) (pc' := 7) (same := false) rfl (hb hby d4_4) rfl (decide_eq_false fun q => hc4_4 (Value.ref.inj q)) (by decide) (by decide) ?_
      show Steps p.tables e below (T2.setTop (mkF m 7 #[.val (.ref a1)] [])) _
      refine XS.aloadN X2.here hx rfl (hb hby d4_7) rfl rfl ?_
      show Steps p.tables e below (T2.setTop (mkF m 8 #[.val (.ref a1)] [(.ref a1)])) _
      exact k)
    obtain ⟨T7, X7, e7, st7⟩ := getS2 X2 hx hZ hown (host := "") (Or.inl (hw _ (List.mem_of_getElem? (i := 15) rfl))) Via.refl e2 S_eF (g := (mkF m 8 #[.val (.ref a1)] [(.ref a1)])) rfl (hb hby d4_8)
    have P8 : own_Pr p.tables e below S0 T7 (mkF m 11 #[.val (.ref a1)] [(.ref eF), (.ref a1)]) := fun t k => P6 t (st7 _ k)
    by_cases hc11_9 : a1 = eF
    · have P10 : own_Pr p.tables e below S0 T7 (mkF m 19 #[.val (.ref a1)] [(.int (1 : Int32))]) := fun t k => P8 t (by
        refine Jvm.RoadKit.acmp (g := (mkF m 11 #[.val (.ref a1)] [(.ref eF), (.ref a1)])) X7 hx rfl rfl rfl (pc0 := 11) (pc' := 14) (same := true) rfl (hb hby d4_11) rfl (decide_eq_true (congrArg Value.ref hc11_9)) (by decide) (by decide) ?_
        show Steps p.tables e below (T7.setTop (mkF m 14 #[.val (.ref a1)] [])) _
        refine XS.iconst X7.here hx rfl (hb hby d4_14) ?_
        show Steps p.tables e below (T7.setTop (mkF m 15 #[.val (.ref a1)] [(.int (1 : Int32))])) _
        refine XS.goto X7.here hx rfl (pc0 := 15) (pc' := 19) rfl (hb hby d4_15) (by decide) (by decide) ?_
        show Steps p.tables e below (T7.setTop (mkF m 19 #[.val (.ref a1)] [(.int (1 : Int32))])) _
        exact k)
      obtain ⟨fs, hr, hrun, hended, hW, hsame⟩ := X7.leave (v := some (.int (1 : Int32))) (fun h => by rw [Bd.returns] at h; cases h)
      have fin : Steps p.tables e below S0 (T7.setFrames fs) := P10 _ (retN X7 hx (t := .boolean) Bd.returns (by simp) (hb hby d4_19) hr)
      rw [hS0] at fin
      refine ⟨_, _, fin, hrun, hended, _, _, rfl, ?_, ⟨_, rfl⟩, hW, hsame.mono (by decide) (by decide)⟩
      show own_QI h0 n0 (own_f4 eN eO eR eP eF eE a1) _ T7.heap _
      rw [e7]
      exact ⟨_, rfl, (by unfold own_f4; rw [if_neg hc4_4, if_pos hc11_9]), N0, rfl⟩
    · have P11 : own_Pr p.tables e below S0 T7 (mkF m 19 #[.val (.ref a1)] [(.int (0 : Int32))]) := fun t k => P8 t (by
        refine Jvm.RoadKit.acmp (g := (mkF m 11 #[.val (.ref a1)] [(.ref eF), (.ref a1)])) X7 hx rfl rfl rfl (pc0 := 11) (pc' := 18) (same := false) rfl (hb hby d4_11) rfl (decide_eq_false fun q => hc11_9 (Value.ref.inj q)) (by decide) (by decide) ?_
        show Steps p.tables e below (T7.setTop (mkF m 18 #[.val (.ref a1)] [])) _
        refine XS.iconst X7.here hx rfl (hb hby d4_18) ?_
        show Steps p.tables e below (T7.setTop (mkF m 19 #[.val (.ref a1)] [(.int (0 : Int32))])) _
        exact k)
      obtain ⟨fs, hr, hrun, hended, hW, hsame⟩ := X7.leave (v := some (.int (0 : Int32))) (fun h => by rw [Bd.returns] at h; cases h)
      have fin : Steps p.tables e below S0 (T7.setFrames fs) := P11 _ (retN X7 hx (t := .boolean) Bd.returns (by simp) (hb hby d4_19) hr)
      rw [hS0] at fin
      refine ⟨_, _, fin, hrun, hended, _, _, rfl, ?_, ⟨_, rfl⟩, hW, hsame.mono (by decide) (by decide)⟩
      show own_QI h0 n0 (own_f4 eN eO eR eP eF eE a1) _ T7.heap _
      rw [e7]
      exact ⟨_, rfl, (by unfold own_f4; rw [if_neg hc4_4, if_neg hc11_9]), N0, rfl⟩
theorem d5_0 : decode prog_23_method_5_code 0 = .ok (.aload_n 0, 1) := by decide +kernel
theorem d5_1 : decode prog_23_method_5_code 1 = .ok (.astore_n 1, 1) := by decide +kernel
theorem d5_2 : decode prog_23_method_5_code 2 = .ok (.aload_n 0, 1) := by decide +kernel
theorem d5_3 : decode prog_23_method_5_code 3 = .ok (.getstatic 10, 3) := by decide +kernel
theorem d5_6 : decode prog_23_method_5_code 6 = .ok (.if_acmp .ne 10, 3) := by decide +kernel
theorem d5_9 : decode prog_23_method_5_code 9 = .ok (.getstatic 13, 3) := by decide +kernel
theorem d5_12 : decode prog_23_method_5_code 12 = .ok (.astore_n 1, 1) := by decide +kernel
theorem d5_13 : decode prog_23_method_5_code 13 = .ok (.goto 14, 3) := by decide +kernel
theorem d5_16 : decode prog_23_method_5_code 16 = .ok (.aload_n 0, 1) := by decide +kernel
theorem d5_17 : decode prog_23_method_5_code 17 = .ok (.getstatic 19, 3) := by decide +kernel
theorem d5_20 : decode prog_23_method_5_code 20 = .ok (.if_acmp .ne 7, 3) := by decide +kernel
theorem d5_23 : decode prog_23_method_5_code 23 = .ok (.getstatic 16, 3) := by decide +kernel
theorem d5_26 : decode prog_23_method_5_code 26 = .ok (.astore_n 1, 1) := by decide +kernel
theorem d5_27 : decode prog_23_method_5_code 27 = .ok (.aload_n 1, 1) := by decide +kernel
theorem d5_28 : decode prog_23_method_5_code 28 = .ok (.areturn, 1) := by decide +kernel
theorem ef_5 (m : MethodId) (a1 : Addr) : entryFrame m #[(.ref a1)] 2 = mkF m 0 #[.val (.ref a1), .unset] [] := by first | (simp [entryFrame, mkF, argsToLocals, Value.category]; done) | rfl
def own_f5 (eN eO eR eP eF eE : Addr) (a1 : Addr) : Addr := (if a1 = eR then eP else (if a1 = eE then eF else a1))
set_option maxRecDepth 65536 in
set_option maxHeartbeats 40000000 in
theorem rm5 (l : Launch) (Z : State) (a0 : Array Value) (hw : ∀ d ∈ tables_1, d.before a0 Z = true) (ws : List Jvm.Cond) (a1 : Addr) (eN eO eR eP eF eE : Addr) (h0 : Heap) (n0 : Nat) (Z0 : n0 ≤ h0.size) (S_eN : Sta Z h0 "com/example/ferryline/ferryline/MemberState" "NOT_TRIED" "Lcom/example/ferryline/ferryline/MemberState;" (.ref eN)) (S_eO : Sta Z h0 "com/example/ferryline/ferryline/MemberState" "OK" "Lcom/example/ferryline/ferryline/MemberState;" (.ref eO)) (S_eR : Sta Z h0 "com/example/ferryline/ferryline/MemberState" "RECOVERING" "Lcom/example/ferryline/ferryline/MemberState;" (.ref eR)) (S_eP : Sta Z h0 "com/example/ferryline/ferryline/MemberState" "PROBING" "Lcom/example/ferryline/ferryline/MemberState;" (.ref eP)) (S_eF : Sta Z h0 "com/example/ferryline/ferryline/MemberState" "FORCED_RECOVERY" "Lcom/example/ferryline/ferryline/MemberState;" (.ref eF)) (S_eE : Sta Z h0 "com/example/ferryline/ferryline/MemberState" "ERROR" "Lcom/example/ferryline/ferryline/MemberState;" (.ref eE)) :
    MetFree l (⟨"com/example/ferryline/ferryline/MemberState", "chosen", "()Lcom/example/ferryline/ferryline/MemberState;"⟩ : MethodName) (head1 (Jvm.Cond.code (⟨"com/example/ferryline/ferryline/MemberState", "chosen", "()Lcom/example/ferryline/ferryline/MemberState;"⟩ : MethodName) prog_23_method_5_code 2 (some (.object "com/example/ferryline/ferryline/MemberState")) :: ws) ({ frames := 0, cells := 0, slots := 0, locals := 0 } : Room)) (fun a U => a = #[(.ref a1)] ∧ Z.Warmed39 U.vm ∧ U.heap = h0) (fun _ _ _ _ _ => True) (fun _ U o U' => ∃ v L, o = .returned v ∧ own_QR h0 n0 (own_f5 eN eO eR eP eF eE a1) v U'.heap L ∧ FrameEnd U o U' L ({ frames := 0, cells := 0, slots := 0, locals := 0 } : Room).cells ({ frames := 0, cells := 0, slots := 0, locals := 0 } : Room).slots) := by
  refine MetFree.of_bodySF (plainFor_of_name pn_2) hisR ?_
  intro p e s m args below meth c s₁ Bd hml0 hP hK
  obtain ⟨rfl, hZ, hh⟩ := hP
  have hx := Bd.exec
  have hby := Bd.bytes
  have hml : c.maxLocals = 2 := hml0
  have hown : s.vm.findClass "com/example/ferryline/ferryline/MemberState" = some m.cls := findClass_of_methodNamed Bd.named
  have hnm := (name_of_methodNamed Bd.named Bd.method).1
  have X0 : Stand p l e ({ frames := 0, cells := 0, slots := 0, locals := 0 } : Room) s m #[(.ref a1)] below meth c s₁ [] 0 0 := Stand.of_body Bd
  have e0 : s₁.heap = h0 := by rw [← hh, Bd.state]; rfl
  have N0 := Fr.nil n0
  obtain ⟨S0, hS0⟩ : ∃ z, z = s₁.setTop (entryFrame m #[(.ref a1)] 2) := ⟨_, rfl⟩
  have P0 : own_Pr p.tables e below S0 s₁ (mkF m 0 #[.val (.ref a1), .unset] []) := fun t k => hS0 ▸ castTop (ef_5 m a1) k
  have P1 : own_Pr p.tables e below S0 s₁ (mkF m 3 #[.val (.ref a1), .val (.ref a1)] [(.ref a1)]) := fun t k => P0 t (by
    refine XS.aloadN X0.here hx rfl (hb hby d5_0) rfl rfl ?_
    show Steps p.tables e below (s₁.setTop (mkF m 1 #[.val (.ref a1), .unset] [(.ref a1)])) _
    refine XS.astoreN X0.here hx rfl (hb hby d5_1) rfl rfl (l' := #[.val (.ref a1), .val (.ref a1)]) rfl ?_
    show Steps p.tables e below (s₁.setTop (mkF m 2 #[.val (.ref a1), .val (.ref a1)] [])) _
    refine XS.aloadN X0.here hx rfl (hb hby d5_2) rfl rfl ?_
    show Steps p.tables e below (s₁.setTop (mkF m 3 #[.val (.ref a1), .val (.ref a1)] [(.ref a1)])) _
    exact k)
  obtain ⟨T2, X2, e2, st2⟩ := getS2 X0 hx hZ hown (host := "") (Or.inl (hw _ (List.mem_of_getElem? (i := 30) rfl))) Via.refl e0 S_eR (g := (mkF m 3 #[.val (.ref a1), .val (.ref a1)] [(.ref a1)])) rfl (hb hby d5_3)
  have P3 : own_Pr p.tables e below S0 T2 (mkF m 6 #[.val (.ref a1), .val (.ref a1)] [(.ref eR), (.ref a1)]) := fun t k => P1 t (st2 _ k)
  by_cases hc6_4 : a1 = eR
  · have P5 : own_Pr p.tables e below S0 T2 (mkF m 9 #[.val (.ref a1), .val (.ref a1)] []) := fun t k => P3 t (by
      refine Jvm.RoadKit.acmp (g := (mkF m 6 #[.val (.ref a1), .val (.ref a1)] [(.ref eR), (.ref a1)])) X2 hx rfl rfl rfl (pc0 := 6) (pc' := 9) (same := true) rfl (hb hby d5_6) rfl (decide_eq_true (congrArg Value.ref hc6_4)) (by decide) (by decide) ?_
      show Steps p.tables e below (T2.setTop (mkF m 9 #[.val (.ref a1), .val (.ref a1)] [])) _
      exact k)
    obtain ⟨T6, X6, e6, st6⟩ := getS2 X2 hx hZ hown (host := "") (Or.inl (hw _ (List.mem_of_getElem? (i := 35) rfl))) Via.refl e2 S_eP (g := (mkF m 9 #[.val (.ref a1), .val (.ref a1)] [])) rfl (hb hby d5_9)
    have P7 : own_Pr p.tables e below S0 T6 (mkF m 12 #[.val (.ref a1), .val (.ref a1)] [(.ref eP)]) := fun t k => P5 t (st6 _ k)
    have P8 : own_Pr p.tables e below S0 T6 (mkF m 28 #[.val (.ref a1), .val (.ref eP)] [(.ref eP)]) := fun t k => P7 t (by
      refine XS.astoreN X6.here hx rfl (hb hby d5_12) rfl rfl (l' := #[.val (.ref a1), .val (.ref eP)]) rfl ?_
      show Steps p.tables e below (T6.setTop (mkF m 13 #[.val (.ref a1), .val (.ref eP)] [])) _
      refine XS.goto X6.here hx rfl (pc0 := 13) (pc' := 27) rfl (hb hby d5_13) (by decide) (by decide) ?_
      show Steps p.tables e below (T6.setTop (mkF m 27 #[.val (.ref a1), .val (.ref eP)] [])) _
      refine XS.aloadN X6.here hx rfl (hb hby d5_27) rfl rfl ?_
      show Steps p.tables e below (T6.setTop (mkF m 28 #[.val (.ref a1), .val (.ref eP)] [(.ref eP)])) _
      exact k)
    obtain ⟨fs, hr, hrun, hended, hW, hsame⟩ := X6.leave (v := some (.ref eP)) (fun h => by rw [Bd.returns] at h; cases h)
    have fin : Steps p.tables e below S0 (T6.setFrames fs) := P8 _ (by
      jvm_step X6.here [X6.here.top, hx, (hb hby d5_28), X6.method', Bd.returns, Value.isRef, FieldType.isReference]
      first | (intro acts; rw [hr _ acts rfl rfl rfl]) | rw [hr _ _ rfl rfl rfl]
      exact Steps.refl _)
    rw [hS0] at fin
    refine ⟨_, _, fin, hrun, hended, _, _, rfl, ?_, ⟨_, rfl⟩, hW, hsame.mono (by decide) (by decide)⟩
    show own_QR h0 n0 (own_f5 eN eO eR eP eF eE a1) _ T6.heap _
    rw [e6]
    exact ⟨_, rfl, (by unfold own_f5; rw [if_pos hc6_4]), N0, rfl⟩
  · have P9 : own_Pr p.tables e below S0 T2 (mkF m 17 #[.val (.ref a1), .val (.ref a1)] [(.ref a1)]) := fun t k => P3 t (by
      refine Jvm.RoadKit.acmp (g := (mkF m 6 #[.val (.ref a1), .val (.ref a1)] [(.ref eR), (.ref a1)])) X2 hx rfl rfl rfl (pc0 := 6) (pc' := 16) (same := false) rfl (hb hby d5_6) rfl (decide_eq_false fun q => hc6_4 (Value.ref.inj q)) (by decide) (by decide) ?_
      show Steps p.tables e below (T2.setTop (mkF m 16 #[.val (.ref a1), .val (.ref a1)] [])) _
      refine XS.aloadN X2.here hx rfl (hb hby d5_16) rfl rfl ?_
      show Steps p.tables e below (T2.setTop (mkF m 17 #[.val (.ref a1), .val (.ref a1)] [(.ref a1)])) _
      exact k)
    obtain ⟨T10, X10, e10, st10⟩ := getS2 X2 hx hZ hown (host := "") (Or.inl (hw _ (List.mem_of_getElem? (i := 13) rfl))) Via.refl e2 S_eE (g := (mkF m 17 #[.val (.ref a1), .val (.ref a1)] [(.ref a1)])) rfl (hb hby d5_17)
    have P11 : own_Pr p.tables e below S0 T10 (mkF m 20 #[.val (.ref a1), .val (.ref a1)] [(.ref eE), (.ref a1)]) := fun t k => P9 t (st10 _ k)
    by_cases hc20_12 : a1 = eE
    · have P13 : own_Pr p.tables e below S0 T10 (mkF m 23 #[.val (.ref a1), .val (.ref a1)] []) := fun t k => P11 t (by
        refine Jvm.RoadKit.acmp (g := (mkF m 20 #[.val (.ref a1), .val (.ref a1)] [(.ref eE), (.ref a1)])) X10 hx rfl rfl rfl (pc0 := 20) (pc' := 23) (same := true) rfl (hb hby d5_20) rfl (decide_eq_true (congrArg Value.ref hc20_12)) (by decide) (by decide) ?_
        show Steps p.tables e below (T10.setTop (mkF m 23 #[.val (.ref a1), .val (.ref a1)] [])) _
        exact k)
      obtain ⟨T14, X14, e14, st14⟩ := getS2 X10 hx hZ hown (host := "") (Or.inl (hw _ (List.mem_of_getElem? (i := 15) rfl))) Via.refl e10 S_eF (g := (mkF m 23 #[.val (.ref a1), .val (.ref a1)] [])) rfl (hb hby d5_23)
      have P15 : own_Pr p.tables e below S0 T14 (mkF m 26 #[.val (.ref a1), .val (.ref a1)] [(.ref eF)]) := fun t k => P13 t (st14 _ k)
      have P16 : own_Pr p.tables e below S0 T14 (mkF m 28 #[.val (.ref a1), .val (.ref eF)] [(.ref eF)]) := fun t k => P15 t (by
        refine XS.astoreN X14.here hx rfl (hb hby d5_26) rfl rfl (l' := #[.val (.ref a1), .val (.ref eF)]) rfl ?_
        show Steps p.tables e below (T14.setTop (mkF m 27 #[.val (.ref a1), .val (.ref eF)] [])) _
        refine XS.aloadN X14.here hx rfl (hb hby d5_27) rfl rfl ?_
        show Steps p.tables e below (T14.setTop (mkF m 28 #[.val (.ref a1), .val (.ref eF)] [(.ref eF)])) _
        exact k)
      obtain ⟨fs, hr, hrun, hended, hW, hsame⟩ := X14.leave (v := some (.ref eF)) (fun h => by rw [Bd.returns] at h; cases h)
      have fin : Steps p.tables e below S0 (T14.setFrames fs) := P16 _ (by
        jvm_step X14.here [X14.here.top, hx, (hb hby d5_28), X14.method', Bd.returns, Value.isRef, FieldType.isReference]
        first | (intro acts; rw [hr _ acts rfl rfl rfl]) | rw [hr _ _ rfl rfl rfl]
        exact Steps.refl _)
      rw [hS0] at fin
      refine ⟨_, _, fin, hrun, hended, _, _, rfl, ?_, ⟨_, rfl⟩, hW, hsame.mono (by decide) (by decide)⟩
      show own_QR h0 n0 (own_f5 eN eO eR eP eF eE a1) _ T14.heap _
      rw [e14]
      exact ⟨_, rfl, (by unfold own_f5; rw [if_neg hc6_4, if_pos hc20_12]), N0, rfl⟩
    · have P17 : own_Pr p.tables e below S0 T10 (mkF m 28 #[.val (.ref a1), .val (.ref a1)] [(.ref a1)]) := fun t k => P11 t (by
        refine Jvm.RoadKit.acmp (g := (mkF m 20 #[.val (.ref a1), .val (.ref a1)] [(.ref eE), (.ref a1)])) X10 hx rfl rfl rfl (pc0 := 20) (pc' := 27) (same := false) rfl (hb hby d5_20) rfl (decide_eq_false fun q => hc20_12 (Value.ref.inj q)) (by decide) (by decide) ?_
        show Steps p.tables e below (T10.setTop (mkF m 27 #[.val (.ref a1), .val (.ref a1)] [])) _
        refine XS.aloadN X10.here hx rfl (hb hby d5_27) rfl rfl ?_
        show Steps p.tables e below (T10.setTop (mkF m 28 #[.val (.ref a1), .val (.ref a1)] [(.ref a1)])) _
        exact k)
      obtain ⟨fs, hr, hrun, hended, hW, hsame⟩ := X10.leave (v := some (.ref a1)) (fun h => by rw [Bd.returns] at h; cases h)
      have fin : Steps p.tables e below S0 (T10.setFrames fs) := P17 _ (by
        jvm_step X10.here [X10.here.top, hx, (hb hby d5_28), X10.method', Bd.returns, Value.isRef, FieldType.isReference]
        first | (intro acts; rw [hr _ acts rfl rfl rfl]) | rw [hr _ _ rfl rfl rfl]
        exact Steps.refl _)
      rw [hS0] at fin
      refine ⟨_, _, fin, hrun, hended, _, _, rfl, ?_, ⟨_, rfl⟩, hW, hsame.mono (by decide) (by decide)⟩
      show own_QR h0 n0 (own_f5 eN eO eR eP eF eE a1) _ T10.heap _
      rw [e10]
      exact ⟨_, rfl, (by unfold own_f5; rw [if_neg hc6_4, if_neg hc20_12]), N0, rfl⟩
theorem own_exS {A : Addr → Prop} {eN eO eR eP eF eE : Addr} {k : Int32} (x0 : A eN) (x1 : A eO) (x2 : A eR) (x3 : A eP) (x4 : A eF) (x5 : A eE) : A (own_f1 eN eO eR eP eF eE k) := by
  unfold own_f1; repeat' split
  all_goals assumption
theorem own_ex2 {A : Addr → Prop} {eN eO eR eP eF eE : Addr} {a : Addr} (xa : A a) (x0 : A eN) (x1 : A eO) (x2 : A eR) (x3 : A eP) (x4 : A eF) (x5 : A eE) : A (own_f2 eN eO eR eP eF eE a) := by
  unfold own_f2; repeat' split
  all_goals assumption
theorem own_ex5 {A : Addr → Prop} {eN eO eR eP eF eE : Addr} {a : Addr} (xa : A a) (x0 : A eN) (x1 : A eO) (x2 : A eR) (x3 : A eP) (x4 : A eF) (x5 : A eE) : A (own_f5 eN eO eR eP eF eE a) := by
  unfold own_f5; repeat' split
  all_goals assumption
/-- the state of k is one of the six, by k -/
theorem own_six {eN eO eR eP eF eE : Addr} (k : Int32) : (own_f1 eN eO eR eP eF eE k = eN ∧ own_f3 eN eO eR eP eF eE k = eN) ∨ (own_f1 eN eO eR eP eF eE k = eO ∧ own_f3 eN eO eR eP eF eE k = eO) ∨ (own_f1 eN eO eR eP eF eE k = eR ∧ own_f3 eN eO eR eP eF eE k = eR) ∨ (own_f1 eN eO eR eP eF eE k = eP ∧ own_f3 eN eO eR eP eF eE k = eP) ∨ (own_f1 eN eO eR eP eF eE k = eF ∧ own_f3 eN eO eR eP eF eE k = eP) ∨ (own_f1 eN eO eR eP eF eE k = eE ∧ own_f3 eN eO eR eP eF eE k = eR) := by
  unfold own_f1 own_f3
  by_cases h0 : k = 0
  · simp [h0]
  by_cases h1 : k = 1
  · simp [h1]
  by_cases h2 : k = 2
  · simp [h2]
  by_cases h3 : k = 3
  · simp [h3]
  by_cases h4 : k = 4
  · simp [h4]
  · simp [h0, h1, h2, h3, h4]
theorem own_law23 {eN eO eR eP eF eE : Addr} {k : Int32} (d01 : eN ≠ eO) (d02 : eN ≠ eR) (d03 : eN ≠ eP) (d04 : eN ≠ eF) (d05 : eN ≠ eE) (d12 : eO ≠ eR) (d13 : eO ≠ eP) (d14 : eO ≠ eF) (d15 : eO ≠ eE) (d23 : eR ≠ eP) (d24 : eR ≠ eF) (d25 : eR ≠ eE) (d34 : eP ≠ eF) (d35 : eP ≠ eE) (d45 : eF ≠ eE) {s r e : Addr} (hs : s = own_f1 eN eO eR eP eF eE k) (hr : r = own_f2 eN eO eR eP eF eE s) (he : e = own_f3 eN eO eR eP eF eE k) : r = e := by
  rw [hr, he]; rcases own_six (eN := eN) (eO := eO) (eR := eR) (eP := eP) (eF := eF) (eE := eE) k with ⟨q, w⟩ | ⟨q, w⟩ | ⟨q, w⟩ | ⟨q, w⟩ | ⟨q, w⟩ | ⟨q, w⟩ <;> rw [hs, q, w] <;> simp [own_f2, d01, d02, d03, d04, d05, d12, d13, d14, d15, d23, d24, d25, d34, d35, d45, Ne.symm, d04.symm, d05.symm, d14.symm, d15.symm, d24.symm, d25.symm, d34.symm, d35.symm, d45.symm]
theorem own_law37 {eN eO eR eP eF eE : Addr} {k : Int32} (d01 : eN ≠ eO) (d02 : eN ≠ eR) (d03 : eN ≠ eP) (d04 : eN ≠ eF) (d05 : eN ≠ eE) (d12 : eO ≠ eR) (d13 : eO ≠ eP) (d14 : eO ≠ eF) (d15 : eO ≠ eE) (d23 : eR ≠ eP) (d24 : eR ≠ eF) (d25 : eR ≠ eE) (d34 : eP ≠ eF) (d35 : eP ≠ eE) (d45 : eF ≠ eE) {s r : Addr} {z : Int32} (hs : s = own_f1 eN eO eR eP eF eE k) (hr : r = own_f2 eN eO eR eP eF eE s) (hz : z = own_f4 eN eO eR eP eF eE r) : z = 0 := by
  rw [hz, hr]; rcases own_six (eN := eN) (eO := eO) (eR := eR) (eP := eP) (eF := eF) (eE := eE) k with ⟨q, w⟩ | ⟨q, w⟩ | ⟨q, w⟩ | ⟨q, w⟩ | ⟨q, w⟩ | ⟨q, w⟩ <;> rw [hs, q] <;> simp [own_f2, own_f4, d01, d02, d03, d04, d05, d12, d13, d14, d15, d23, d24, d25, d34, d35, d45, d04.symm, d05.symm, d14.symm, d15.symm, d24.symm, d25.symm, d34.symm, d35.symm, d45.symm]
theorem own_law52 {eN eO eR eP eF eE : Addr} {k : Int32} (d01 : eN ≠ eO) (d02 : eN ≠ eR) (d03 : eN ≠ eP) (d04 : eN ≠ eF) (d05 : eN ≠ eE) (d12 : eO ≠ eR) (d13 : eO ≠ eP) (d14 : eO ≠ eF) (d15 : eO ≠ eE) (d23 : eR ≠ eP) (d24 : eR ≠ eF) (d25 : eR ≠ eE) (d34 : eP ≠ eF) (d35 : eP ≠ eE) (d45 : eF ≠ eE) {s r z : Addr} (hs : s = own_f1 eN eO eR eP eF eE k) (hr : r = own_f2 eN eO eR eP eF eE s) (hz : z = own_f2 eN eO eR eP eF eE r) : z = r := by
  rw [hz, hr]; rcases own_six (eN := eN) (eO := eO) (eR := eR) (eP := eP) (eF := eF) (eE := eE) k with ⟨q, w⟩ | ⟨q, w⟩ | ⟨q, w⟩ | ⟨q, w⟩ | ⟨q, w⟩ | ⟨q, w⟩ <;> rw [hs, q] <;> simp [own_f2, d01, d02, d03, d04, d05, d12, d13, d14, d15, d23, d24, d25, d34, d35, d45, d04.symm, d05.symm, d14.symm, d15.symm, d24.symm, d25.symm, d34.symm, d35.symm, d45.symm]
theorem own_law73 {eN eO eR eP eF eE : Addr} {k : Int32} (d01 : eN ≠ eO) (d02 : eN ≠ eR) (d03 : eN ≠ eP) (d04 : eN ≠ eF) (d05 : eN ≠ eE) (d12 : eO ≠ eR) (d13 : eO ≠ eP) (d14 : eO ≠ eF) (d15 : eO ≠ eE) (d23 : eR ≠ eP) (d24 : eR ≠ eF) (d25 : eR ≠ eE) (d34 : eP ≠ eF) (d35 : eP ≠ eE) (d45 : eF ≠ eE) {s r c d e : Addr} (hs : s = own_f1 eN eO eR eP eF eE k) (hr : r = own_f2 eN eO eR eP eF eE s) (hc : c = own_f5 eN eO eR eP eF eE r) (hd : d = own_f5 eN eO eR eP eF eE s) (he : e = own_f2 eN eO eR eP eF eE d) : c = e := by
  rw [he, hd, hc, hr]; rcases own_six (eN := eN) (eO := eO) (eR := eR) (eP := eP) (eF := eF) (eE := eE) k with ⟨q, w⟩ | ⟨q, w⟩ | ⟨q, w⟩ | ⟨q, w⟩ | ⟨q, w⟩ | ⟨q, w⟩ <;> rw [hs, q] <;> simp [own_f2, own_f5, d01, d02, d03, d04, d05, d12, d13, d14, d15, d23, d24, d25, d34, d35, d45, d02.symm, d12.symm, d23.symm, d24.symm, d25.symm, d04.symm, d05.symm, d14.symm, d15.symm, d34.symm, d35.symm, d45.symm]
theorem own_ord {args : Array Value} {s : State} {t : Term} {C n d : String} {k : Int32} {a : Addr} (ht : t.eval args s none [] s = some (.ref a)) (h : (Cond.eq (.field t C n d) (.int k)).value args s none s [] = some true) : Fld s s.heap a C n d (.int k) := by
  obtain ⟨x, y, hx, hy, k1, k2⟩ := cmp_v (Or.inl h)
  cases hy.symm.trans (Term.int_eval k)
  obtain ⟨z, rfl⟩ := k2
  have e := gotT (Cond.eq_ints hx (Term.int_eval k)) h
  subst e
  exact Fld.start ((fld_at ht).symm.trans hx)
theorem pd_0 : parseMethodDescriptor "(I)Lcom/example/ferryline/ferryline/MemberState;" = some ⟨[.int], some (.object "com/example/ferryline/ferryline/MemberState")⟩ := by decide +kernel
theorem pd_1 : parseMethodDescriptor "()Lcom/example/ferryline/ferryline/MemberState;" = some ⟨[], some (.object "com/example/ferryline/ferryline/MemberState")⟩ := by decide +kernel
theorem pd_2 : parseMethodDescriptor "()Z" = some ⟨[], some .boolean⟩ := by decide +kernel
theorem ef_0 (m : MethodId) (p1 : Int32) : entryFrame m #[(.int p1)] maxLocals = mkF m 0 #[.val (.int p1), .unset, .unset, .unset, .unset, .unset, .unset, .unset] [] := by first | (simp [entryFrame, mkF, argsToLocals, Value.category, maxLocals]; done) | rfl
set_option maxRecDepth 65536 in
set_option maxHeartbeats 40000000 in
theorem rm0 (l : Launch) (Z : State) (a0 : Array Value) (hw : ∀ d ∈ tables_1, d.before a0 Z = true) (ws : List Jvm.Cond) (p1 : Int32) (eN eO eR eP eF eE : Addr) (h0 : Heap) (n0 : Nat) (Z0 : n0 ≤ h0.size) (S_eN : Sta Z h0 "com/example/ferryline/ferryline/MemberState" "NOT_TRIED" "Lcom/example/ferryline/ferryline/MemberState;" (.ref eN)) (S_eO : Sta Z h0 "com/example/ferryline/ferryline/MemberState" "OK" "Lcom/example/ferryline/ferryline/MemberState;" (.ref eO)) (S_eR : Sta Z h0 "com/example/ferryline/ferryline/MemberState" "RECOVERING" "Lcom/example/ferryline/ferryline/MemberState;" (.ref eR)) (S_eP : Sta Z h0 "com/example/ferryline/ferryline/MemberState" "PROBING" "Lcom/example/ferryline/ferryline/MemberState;" (.ref eP)) (S_eF : Sta Z h0 "com/example/ferryline/ferryline/MemberState" "FORCED_RECOVERY" "Lcom/example/ferryline/ferryline/MemberState;" (.ref eF)) (S_eE : Sta Z h0 "com/example/ferryline/ferryline/MemberState" "ERROR" "Lcom/example/ferryline/ferryline/MemberState;" (.ref eE)) (X_eN : Exa Z h0 eN "com/example/ferryline/ferryline/MemberState") (X_eO : Exa Z h0 eO "com/example/ferryline/ferryline/MemberState") (X_eR : Exa Z h0 eR "com/example/ferryline/ferryline/MemberState") (X_eP : Exa Z h0 eP "com/example/ferryline/ferryline/MemberState") (X_eF : Exa Z h0 eF "com/example/ferryline/ferryline/MemberState") (X_eE : Exa Z h0 eE "com/example/ferryline/ferryline/MemberState") (d01 : eN ≠ eO) (d02 : eN ≠ eR) (d03 : eN ≠ eP) (d04 : eN ≠ eF) (d05 : eN ≠ eE) (d12 : eO ≠ eR) (d13 : eO ≠ eP) (d14 : eO ≠ eF) (d15 : eO ≠ eE) (d23 : eR ≠ eP) (d24 : eR ≠ eF) (d25 : eR ≠ eE) (d34 : eP ≠ eF) (d35 : eP ≠ eE) (d45 : eF ≠ eE) :
    MetFree l x (head1 (Jvm.Cond.code x code maxLocals ret :: ws) room_1) (fun a U => a = #[(.int p1)] ∧ Z.Warmed39 U.vm ∧ U.heap = h0) (fun _ _ _ _ _ => True) (fun _ U o U' => ∃ v L, o = .returned v ∧ own_QL n0 v L ∧ FrameEnd U o U' L room_1.cells room_1.slots) := by
  refine MetFree.of_bodySF (plainFor_of_name pn_1) hisR ?_
  intro p e s m args below meth c s₁ Bd hml0 hP hK
  obtain ⟨rfl, hZ, hh⟩ := hP
  have hx := Bd.exec
  have hby := Bd.bytes
  have hml : c.maxLocals = 8 := hml0
  have hown : s.vm.findClass "com/example/ferryline/ferryline/MemberStateRecoveredPinLaw" = some m.cls := findClass_of_methodNamed Bd.named
  have hnm := (name_of_methodNamed Bd.named Bd.method).1
  have X0 : Stand p l e room_1 s m #[(.int p1)] below meth c s₁ [] 0 0 := Stand.of_body Bd
  have e0 : s₁.heap = h0 := by rw [← hh, Bd.state]; rfl
  have N0 := Fr.nil n0
  obtain ⟨S0, hS0⟩ : ∃ z, z = s₁.setTop (entryFrame m #[(.int p1)] maxLocals) := ⟨_, rfl⟩
  have P0 : own_Pr p.tables e below S0 s₁ (mkF m 0 #[.val (.int p1), .unset, .unset, .unset, .unset, .unset, .unset, .unset] []) := fun t k => hS0 ▸ castTop (ef_0 m p1) k
  have P1 : own_Pr p.tables e below S0 s₁ (mkF m 8 #[.val (.int p1), .val (.int ((p1 &&& (2147483647 : Int32)) % (6 : Int32))), .unset, .unset, .unset, .unset, .unset, .unset] []) := fun t k => P0 t (by
    refine XS.iloadN X0.here hx rfl (hb hby at_0) rfl ?_
    show Steps p.tables e below (s₁.setTop (mkF m 1 #[.val (.int p1), .unset, .unset, .unset, .unset, .unset, .unset, .unset] [(.int p1)])) _
    refine X0.ldcInt hx hown (mvT hZ (hw _ (List.mem_of_getElem? (i := 0) rfl))) (g := (mkF m 1 #[.val (.int p1), .unset, .unset, .unset, .unset, .unset, .unset, .unset] [(.int p1)])) rfl (hb hby at_1) _ ?_
    show Steps p.tables e below (s₁.setTop (mkF m 3 #[.val (.int p1), .unset, .unset, .unset, .unset, .unset, .unset, .unset] [(.int (2147483647 : Int32)), (.int p1)])) _
    refine XS.iand X0.here hx rfl (hb hby at_3) rfl ?_
    show Steps p.tables e below (s₁.setTop (mkF m 4 #[.val (.int p1), .unset, .unset, .unset, .unset, .unset, .unset, .unset] [(.int (p1 &&& (2147483647 : Int32)))])) _
    refine XS.bipush X0.here hx rfl (hb hby at_4) ?_
    show Steps p.tables e below (s₁.setTop (mkF m 6 #[.val (.int p1), .unset, .unset, .unset, .unset, .unset, .unset, .unset] [(.int (6 : Int32)), (.int (p1 &&& (2147483647 : Int32)))])) _
    refine iremM X0 hx rfl (hb hby at_6) rfl (by decide) ?_
    show Steps p.tables e below (s₁.setTop (mkF m 7 #[.val (.int p1), .unset, .unset, .unset, .unset, .unset, .unset, .unset] [(.int ((p1 &&& (2147483647 : Int32)) % (6 : Int32)))])) _
    refine XS.istoreN X0.here hx rfl (hb hby at_7) rfl (l' := #[.val (.int p1), .val (.int ((p1 &&& (2147483647 : Int32)) % (6 : Int32))), .unset, .unset, .unset, .unset, .unset, .unset]) rfl ?_
    show Steps p.tables e below (s₁.setTop (mkF m 8 #[.val (.int p1), .val (.int ((p1 &&& (2147483647 : Int32)) % (6 : Int32))), .unset, .unset, .unset, .unset, .unset, .unset] [])) _
    exact k)
  obtain ⟨z2, hz2⟩ : ∃ z, z = ((p1 &&& (2147483647 : Int32)) % (6 : Int32)) := ⟨_, rfl⟩
  rw [← hz2] at P1
  have P3 : own_Pr p.tables e below S0 s₁ (mkF m 9 #[.val (.int p1), .val (.int z2), .unset, .unset, .unset, .unset, .unset, .unset] [(.int z2)]) := fun t k => P1 t (by
    refine XS.iloadN X0.here hx rfl (hb hby at_8) rfl ?_
    show Steps p.tables e below (s₁.setTop (mkF m 9 #[.val (.int p1), .val (.int z2), .unset, .unset, .unset, .unset, .unset, .unset] [(.int z2)])) _
    exact k)
  obtain ⟨_, _, ⟨T4, L4, k4, n4⟩, -, X4, ⟨Lc4, hQ4, l4, y4, z4⟩, st4⟩ := Jvm.LawKit.callS X0 hx (y := (⟨"com/example/ferryline/ferryline/MemberStateRecoveredPinLaw", "state", "(I)Lcom/example/ferryline/ferryline/MemberState;"⟩ : MethodName)) hown (mvT hZ (hw _ (List.mem_of_getElem? (i := 1) rfl))) (mvT hZ (hw _ (List.mem_of_getElem? (i := 2) rfl))) (mvT hZ (hw _ (List.mem_of_getElem? (i := 3) rfl))) (mvT hZ (hw _ (List.mem_of_getElem? (i := 4) rfl))) (by decide) (backOf (W := 0) (rm1 l Z a0 hw [] z2 eN eO eR eP eF eE h0 n0 Z0 S_eN S_eO S_eR S_eP S_eF S_eE) hZ (hw _ (List.mem_of_getElem? (i := 4) rfl)) (hw _ (List.mem_of_getElem? (i := 3) rfl)) (by decide) (by decide)) (g := (mkF m 9 #[.val (.int p1), .val (.int z2), .unset, .unset, .unset, .unset, .unset, .unset] [(.int z2)])) rfl (by rw [hml]; rfl) (argsL := [(.int z2)]) (rest := []) (lenOf pd_0 rfl) rfl (by show 2 * 0 + _ ≤ _; exact Nat.le_of_eq rfl) (hb hby at_9) (fun _ _ => ⟨rfl, e0, (by decide : 0 + 0 ≤ _), (by decide : 0 + 0 ≤ _)⟩)
  dsimp only [Pt.U, Pt.locs, Pt.cells, Pt.slots] at X4 l4 y4 z4 st4 hQ4
  subst l4 y4 z4
  obtain ⟨z4v, rfl, hz4v, Nq4, eq4⟩ := hQ4
  have N4n := Fr.app N0 Nq4
  have Ex4 : Exa Z h0 z4v "com/example/ferryline/ferryline/MemberState" := by rw [hz4v]; exact own_exS (A := fun a => Exa Z h0 a "com/example/ferryline/ferryline/MemberState") X_eN X_eO X_eR X_eP X_eF X_eE
  have P5 : own_Pr p.tables e below S0 T4 (mkF m 12 #[.val (.int p1), .val (.int z2), .unset, .unset, .unset, .unset, .unset, .unset] [(.ref z4v)]) := fun t k => P3 t (st4 _ k)
  have P6 : own_Pr p.tables e below S0 T4 (mkF m 14 #[.val (.int p1), .val (.int z2), .val (.ref z4v), .unset, .unset, .unset, .unset, .unset] [(.ref z4v)]) := fun t k => P5 t (by
    refine XS.astoreN X4.here hx rfl (hb hby at_12) rfl rfl (l' := #[.val (.int p1), .val (.int z2), .val (.ref z4v), .unset, .unset, .unset, .unset, .unset]) rfl ?_
    show Steps p.tables e below (T4.setTop (mkF m 13 #[.val (.int p1), .val (.int z2), .val (.ref z4v), .unset, .unset, .unset, .unset, .unset] [])) _
    refine XS.aloadN X4.here hx rfl (hb hby at_13) rfl rfl ?_
    show Steps p.tables e below (T4.setTop (mkF m 14 #[.val (.int p1), .val (.int z2), .val (.ref z4v), .unset, .unset, .unset, .unset, .unset] [(.ref z4v)])) _
    exact k)
  obtain ⟨cq7, kq7, q7a, q7b, q7c⟩ := isOf hZ eq4 Ex4
  obtain ⟨_, _, ⟨T7, L7, k7, n7⟩, -, X7, ⟨Lc7, hQ7, l7, y7, z7⟩, st7⟩ := X4.virtualBack hx (y := (⟨"com/example/ferryline/ferryline/MemberState", "recovered", "()Lcom/example/ferryline/ferryline/MemberState;"⟩ : MethodName)) (z := (⟨"com/example/ferryline/ferryline/MemberState", "recovered", "()Lcom/example/ferryline/ferryline/MemberState;"⟩ : MethodName)) hown (mvT hZ (hw _ (List.mem_of_getElem? (i := 8) rfl))) (mvT hZ (hw _ (List.mem_of_getElem? (i := 9) rfl))) (notFace_of_selects (args := #[]) (mvT hZ (hw _ (List.mem_of_getElem? (i := 11) rfl)))) (mvT hZ (hw _ (List.mem_of_getElem? (i := 11) rfl))) (mvT hZ (hw _ (List.mem_of_getElem? (i := 10) rfl))) (by decide) (backOf (W := 0) (rm2 l Z a0 hw [] z4v eN eO eR eP eF eE h0 n0 Z0 S_eN S_eO S_eR S_eP S_eF S_eE) hZ (hw _ (List.mem_of_getElem? (i := 12) rfl)) (hw _ (List.mem_of_getElem? (i := 6) rfl)) (by decide) (by decide)) q7a q7c (g := (mkF m 14 #[.val (.int p1), .val (.int z2), .val (.ref z4v), .unset, .unset, .unset, .unset, .unset] [(.ref z4v)])) rfl (by rw [hml]; rfl) (Steps.refl _) (argsL := []) (rest := []) (lenOf pd_1 rfl) rfl (by show 2 * 0 + _ ≤ _; exact Nat.le_of_eq rfl) (hb hby at_14) (fun _ _ => ⟨rfl, eq4, (by decide : 0 + 0 ≤ _), (by decide : 0 + 0 ≤ _)⟩)
  dsimp only [Pt.U, Pt.locs, Pt.cells, Pt.slots] at X7 l7 y7 z7 st7 hQ7
  subst l7 y7 z7
  obtain ⟨z7v, rfl, hz7v, Nq7, eq7⟩ := hQ7
  have N7n := Fr.app N4n Nq7
  have Ex7 : Exa Z h0 z7v "com/example/ferryline/ferryline/MemberState" := by rw [hz7v]; exact own_ex2 (A := fun a => Exa Z h0 a "com/example/ferryline/ferryline/MemberState") Ex4 X_eN X_eO X_eR X_eP X_eF X_eE
  have P8 : own_Pr p.tables e below S0 T7 (mkF m 17 #[.val (.int p1), .val (.int z2), .val (.ref z4v), .unset, .unset, .unset, .unset, .unset] [(.ref z7v)]) := fun t k => P6 t (st7.trans k)
  have P9 : own_Pr p.tables e below S0 T7 (mkF m 20 #[.val (.int p1), .val (.int z2), .val (.ref z4v), .val (.ref z7v), .unset, .unset, .unset, .unset] [(.int z2), (.ref z7v)]) := fun t k => P8 t (by
    refine XS.astoreN X7.here hx rfl (hb hby at_17) rfl rfl (l' := #[.val (.int p1), .val (.int z2), .val (.ref z4v), .val (.ref z7v), .unset, .unset, .unset, .unset]) rfl ?_
    show Steps p.tables e below (T7.setTop (mkF m 18 #[.val (.int p1), .val (.int z2), .val (.ref z4v), .val (.ref z7v), .unset, .unset, .unset, .unset] [])) _
    refine XS.aloadN X7.here hx rfl (hb hby at_18) rfl rfl ?_
    show Steps p.tables e below (T7.setTop (mkF m 19 #[.val (.int p1), .val (.int z2), .val (.ref z4v), .val (.ref z7v), .unset, .unset, .unset, .unset] [(.ref z7v)])) _
    refine XS.iloadN X7.here hx rfl (hb hby at_19) rfl ?_
    show Steps p.tables e below (T7.setTop (mkF m 20 #[.val (.int p1), .val (.int z2), .val (.ref z4v), .val (.ref z7v), .unset, .unset, .unset, .unset] [(.int z2), (.ref z7v)])) _
    exact k)
  obtain ⟨_, _, ⟨T10, L10, k10, n10⟩, -, X10, ⟨Lc10, hQ10, l10, y10, z10⟩, st10⟩ := Jvm.LawKit.callS X7 hx (y := (⟨"com/example/ferryline/ferryline/MemberStateRecoveredPinLaw", "expected", "(I)Lcom/example/ferryline/ferryline/MemberState;"⟩ : MethodName)) hown (mvT hZ (hw _ (List.mem_of_getElem? (i := 17) rfl))) (mvT hZ (hw _ (List.mem_of_getElem? (i := 18) rfl))) (mvT hZ (hw _ (List.mem_of_getElem? (i := 3) rfl))) (mvT hZ (hw _ (List.mem_of_getElem? (i := 19) rfl))) (by decide) (backOf (W := 1) (rm3 l Z a0 hw [] z2 eN eO eR eP eF eE h0 n0 Z0 S_eN S_eO S_eR S_eP S_eF S_eE) hZ (hw _ (List.mem_of_getElem? (i := 19) rfl)) (hw _ (List.mem_of_getElem? (i := 3) rfl)) (by decide) (by decide)) (g := (mkF m 20 #[.val (.int p1), .val (.int z2), .val (.ref z4v), .val (.ref z7v), .unset, .unset, .unset, .unset] [(.int z2), (.ref z7v)])) rfl (by rw [hml]; rfl) (argsL := [(.int z2)]) (rest := [(.ref z7v)]) (lenOf pd_0 rfl) rfl (by show 2 * 0 + _ ≤ _; exact Nat.le_of_eq rfl) (hb hby at_20) (fun _ _ => ⟨rfl, eq7, (by decide : 0 + 0 ≤ _), (by decide : 0 + 0 ≤ _)⟩)
  dsimp only [Pt.U, Pt.locs, Pt.cells, Pt.slots] at X10 l10 y10 z10 st10 hQ10
  subst l10 y10 z10
  obtain ⟨z10v, rfl, hz10v, Nq10, eq10⟩ := hQ10
  have N10n := Fr.app N7n Nq10
  have P11 : own_Pr p.tables e below S0 T10 (mkF m 23 #[.val (.int p1), .val (.int z2), .val (.ref z4v), .val (.ref z7v), .unset, .unset, .unset, .unset] [(.ref z10v), (.ref z7v)]) := fun t k => P9 t (st10 _ k)
  have hk23 := own_law23 d01 d02 d03 d04 d05 d12 d13 d14 d15 d23 d24 d25 d34 d35 d45 hz4v hz7v hz10v
  have P12 : own_Pr p.tables e below S0 T10 (mkF m 34 #[.val (.int p1), .val (.int z2), .val (.ref z4v), .val (.ref z7v), .val (.int (1 : Int32)), .unset, .unset, .unset] [(.ref z7v)]) := fun t k => P11 t (by
    refine Jvm.RoadKit.acmp (g := (mkF m 23 #[.val (.int p1), .val (.int z2), .val (.ref z4v), .val (.ref z7v), .unset, .unset, .unset, .unset] [(.ref z10v), (.ref z7v)])) X10 hx rfl rfl rfl (pc0 := 23) (pc' := 26) (same := true) rfl (hb hby at_23) rfl (decide_eq_true (congrArg Value.ref hk23)) (by decide) (by decide) ?_
    show Steps p.tables e below (T10.setTop (mkF m 26 #[.val (.int p1), .val (.int z2), .val (.ref z4v), .val (.ref z7v), .unset, .unset, .unset, .unset] [])) _
    refine XS.iconst X10.here hx rfl (hb hby at_26) ?_
    show Steps p.tables e below (T10.setTop (mkF m 27 #[.val (.int p1), .val (.int z2), .val (.ref z4v), .val (.ref z7v), .unset, .unset, .unset, .unset] [(.int (1 : Int32))])) _
    refine XS.goto X10.here hx rfl (pc0 := 27) (pc' := 31) rfl (hb hby at_27) (by decide) (by decide) ?_
    show Steps p.tables e below (T10.setTop (mkF m 31 #[.val (.int p1), .val (.int z2), .val (.ref z4v), .val (.ref z7v), .unset, .unset, .unset, .unset] [(.int (1 : Int32))])) _
    refine XS.istore X10.here hx rfl (hb hby at_31) rfl (l' := #[.val (.int p1), .val (.int z2), .val (.ref z4v), .val (.ref z7v), .val (.int (1 : Int32)), .unset, .unset, .unset]) rfl ?_
    show Steps p.tables e below (T10.setTop (mkF m 33 #[.val (.int p1), .val (.int z2), .val (.ref z4v), .val (.ref z7v), .val (.int (1 : Int32)), .unset, .unset, .unset] [])) _
    refine XS.aloadN X10.here hx rfl (hb hby at_33) rfl rfl ?_
    show Steps p.tables e below (T10.setTop (mkF m 34 #[.val (.int p1), .val (.int z2), .val (.ref z4v), .val (.ref z7v), .val (.int (1 : Int32)), .unset, .unset, .unset] [(.ref z7v)])) _
    exact k)
  obtain ⟨cq13, kq13, q13a, q13b, q13c⟩ := isOf hZ eq10 Ex7
  obtain ⟨_, _, ⟨T13, L13, k13, n13⟩, -, X13, ⟨Lc13, hQ13, l13, y13, z13⟩, st13⟩ := X10.virtualBack hx (y := (⟨"com/example/ferryline/ferryline/MemberState", "inError", "()Z"⟩ : MethodName)) (z := (⟨"com/example/ferryline/ferryline/MemberState", "inError", "()Z"⟩ : MethodName)) hown (mvT hZ (hw _ (List.mem_of_getElem? (i := 20) rfl))) (mvT hZ (hw _ (List.mem_of_getElem? (i := 21) rfl))) (notFace_of_selects (args := #[]) (mvT hZ (hw _ (List.mem_of_getElem? (i := 23) rfl)))) (mvT hZ (hw _ (List.mem_of_getElem? (i := 23) rfl))) (mvT hZ (hw _ (List.mem_of_getElem? (i := 22) rfl))) (by decide) (backOf (W := 0) (rm4 l Z a0 hw [] z7v eN eO eR eP eF eE h0 n0 Z0 S_eN S_eO S_eR S_eP S_eF S_eE) hZ (hw _ (List.mem_of_getElem? (i := 24) rfl)) (hw _ (List.mem_of_getElem? (i := 6) rfl)) (by decide) (by decide)) q13a q13c (g := (mkF m 34 #[.val (.int p1), .val (.int z2), .val (.ref z4v), .val (.ref z7v), .val (.int (1 : Int32)), .unset, .unset, .unset] [(.ref z7v)])) rfl (by rw [hml]; rfl) (Steps.refl _) (argsL := []) (rest := []) (lenOf pd_2 rfl) rfl (by show 2 * 0 + _ ≤ _; exact Nat.le_of_eq rfl) (hb hby at_34) (fun _ _ => ⟨rfl, eq10, (by decide : 0 + 0 ≤ _), (by decide : 0 + 0 ≤ _)⟩)
  dsimp only [Pt.U, Pt.locs, Pt.cells, Pt.slots] at X13 l13 y13 z13 st13 hQ13
  subst l13 y13 z13
  obtain ⟨z13v, rfl, hz13v, Nq13, eq13⟩ := hQ13
  have N13n := Fr.app N10n Nq13
  have P14 : own_Pr p.tables e below S0 T13 (mkF m 37 #[.val (.int p1), .val (.int z2), .val (.ref z4v), .val (.ref z7v), .val (.int (1 : Int32)), .unset, .unset, .unset] [(.int z13v)]) := fun t k => P12 t (st13.trans k)
  have hk37 := own_law37 d01 d02 d03 d04 d05 d12 d13 d14 d15 d23 d24 d25 d34 d35 d45 hz4v hz7v hz13v
  have P15 : own_Pr p.tables e below S0 T13 (mkF m 48 #[.val (.int p1), .val (.int z2), .val (.ref z4v), .val (.ref z7v), .val (.int (1 : Int32)), .val (.int (1 : Int32)), .unset, .unset] [(.ref z7v)]) := fun t k => P14 t (by
    refine XS.ifNo X13.here hx rfl (hb hby at_37) rfl (XT.i0_ne_f hk37) ?_
    show Steps p.tables e below (T13.setTop (mkF m 40 #[.val (.int p1), .val (.int z2), .val (.ref z4v), .val (.ref z7v), .val (.int (1 : Int32)), .unset, .unset, .unset] [])) _
    refine XS.iconst X13.here hx rfl (hb hby at_40) ?_
    show Steps p.tables e below (T13.setTop (mkF m 41 #[.val (.int p1), .val (.int z2), .val (.ref z4v), .val (.ref z7v), .val (.int (1 : Int32)), .unset, .unset, .unset] [(.int (1 : Int32))])) _
    refine XS.goto X13.here hx rfl (pc0 := 41) (pc' := 45) rfl (hb hby at_41) (by decide) (by decide) ?_
    show Steps p.tables e below (T13.setTop (mkF m 45 #[.val (.int p1), .val (.int z2), .val (.ref z4v), .val (.ref z7v), .val (.int (1 : Int32)), .unset, .unset, .unset] [(.int (1 : Int32))])) _
    refine XS.istore X13.here hx rfl (hb hby at_45) rfl (l' := #[.val (.int p1), .val (.int z2), .val (.ref z4v), .val (.ref z7v), .val (.int (1 : Int32)), .val (.int (1 : Int32)), .unset, .unset]) rfl ?_
    show Steps p.tables e below (T13.setTop (mkF m 47 #[.val (.int p1), .val (.int z2), .val (.ref z4v), .val (.ref z7v), .val (.int (1 : Int32)), .val (.int (1 : Int32)), .unset, .unset] [])) _
    refine XS.aloadN X13.here hx rfl (hb hby at_47) rfl rfl ?_
    show Steps p.tables e below (T13.setTop (mkF m 48 #[.val (.int p1), .val (.int z2), .val (.ref z4v), .val (.ref z7v), .val (.int (1 : Int32)), .val (.int (1 : Int32)), .unset, .unset] [(.ref z7v)])) _
    exact k)
  obtain ⟨cq16, kq16, q16a, q16b, q16c⟩ := isOf hZ eq13 Ex7
  obtain ⟨_, _, ⟨T16, L16, k16, n16⟩, -, X16, ⟨Lc16, hQ16, l16, y16, z16⟩, st16⟩ := X13.virtualBack hx (y := (⟨"com/example/ferryline/ferryline/MemberState", "recovered", "()Lcom/example/ferryline/ferryline/MemberState;"⟩ : MethodName)) (z := (⟨"com/example/ferryline/ferryline/MemberState", "recovered", "()Lcom/example/ferryline/ferryline/MemberState;"⟩ : MethodName)) hown (mvT hZ (hw _ (List.mem_of_getElem? (i := 8) rfl))) (mvT hZ (hw _ (List.mem_of_getElem? (i := 9) rfl))) (notFace_of_selects (args := #[]) (mvT hZ (hw _ (List.mem_of_getElem? (i := 11) rfl)))) (mvT hZ (hw _ (List.mem_of_getElem? (i := 11) rfl))) (mvT hZ (hw _ (List.mem_of_getElem? (i := 10) rfl))) (by decide) (backOf (W := 0) (rm2 l Z a0 hw [] z7v eN eO eR eP eF eE h0 n0 Z0 S_eN S_eO S_eR S_eP S_eF S_eE) hZ (hw _ (List.mem_of_getElem? (i := 12) rfl)) (hw _ (List.mem_of_getElem? (i := 6) rfl)) (by decide) (by decide)) q16a q16c (g := (mkF m 48 #[.val (.int p1), .val (.int z2), .val (.ref z4v), .val (.ref z7v), .val (.int (1 : Int32)), .val (.int (1 : Int32)), .unset, .unset] [(.ref z7v)])) rfl (by rw [hml]; rfl) (Steps.refl _) (argsL := []) (rest := []) (lenOf pd_1 rfl) rfl (by show 2 * 0 + _ ≤ _; exact Nat.le_of_eq rfl) (hb hby at_48) (fun _ _ => ⟨rfl, eq13, (by decide : 0 + 0 ≤ _), (by decide : 0 + 0 ≤ _)⟩)
  dsimp only [Pt.U, Pt.locs, Pt.cells, Pt.slots] at X16 l16 y16 z16 st16 hQ16
  subst l16 y16 z16
  obtain ⟨z16v, rfl, hz16v, Nq16, eq16⟩ := hQ16
  have N16n := Fr.app N13n Nq16
  have Ex16 : Exa Z h0 z16v "com/example/ferryline/ferryline/MemberState" := by rw [hz16v]; exact own_ex2 (A := fun a => Exa Z h0 a "com/example/ferryline/ferryline/MemberState") Ex7 X_eN X_eO X_eR X_eP X_eF X_eE
  have P17 : own_Pr p.tables e below S0 T16 (mkF m 51 #[.val (.int p1), .val (.int z2), .val (.ref z4v), .val (.ref z7v), .val (.int (1 : Int32)), .val (.int (1 : Int32)), .unset, .unset] [(.ref z16v)]) := fun t k => P15 t (st16.trans k)
  have hk52 := own_law52 d01 d02 d03 d04 d05 d12 d13 d14 d15 d23 d24 d25 d34 d35 d45 hz4v hz7v hz16v
  have P18 : own_Pr p.tables e below S0 T16 (mkF m 63 #[.val (.int p1), .val (.int z2), .val (.ref z4v), .val (.ref z7v), .val (.int (1 : Int32)), .val (.int (1 : Int32)), .val (.int (1 : Int32)), .unset] [(.ref z7v)]) := fun t k => P17 t (by
    refine XS.aloadN X16.here hx rfl (hb hby at_51) rfl rfl ?_
    show Steps p.tables e below (T16.setTop (mkF m 52 #[.val (.int p1), .val (.int z2), .val (.ref z4v), .val (.ref z7v), .val (.int (1 : Int32)), .val (.int (1 : Int32)), .unset, .unset] [(.ref z7v), (.ref z16v)])) _
    refine Jvm.RoadKit.acmp (g := (mkF m 52 #[.val (.int p1), .val (.int z2), .val (.ref z4v), .val (.ref z7v), .val (.int (1 : Int32)), .val (.int (1 : Int32)), .unset, .unset] [(.ref z7v), (.ref z16v)])) X16 hx rfl rfl rfl (pc0 := 52) (pc' := 55) (same := true) rfl (hb hby at_52) rfl (decide_eq_true (congrArg Value.ref hk52)) (by decide) (by decide) ?_
    show Steps p.tables e below (T16.setTop (mkF m 55 #[.val (.int p1), .val (.int z2), .val (.ref z4v), .val (.ref z7v), .val (.int (1 : Int32)), .val (.int (1 : Int32)), .unset, .unset] [])) _
    refine XS.iconst X16.here hx rfl (hb hby at_55) ?_
    show Steps p.tables e below (T16.setTop (mkF m 56 #[.val (.int p1), .val (.int z2), .val (.ref z4v), .val (.ref z7v), .val (.int (1 : Int32)), .val (.int (1 : Int32)), .unset, .unset] [(.int (1 : Int32))])) _
    refine XS.goto X16.here hx rfl (pc0 := 56) (pc' := 60) rfl (hb hby at_56) (by decide) (by decide) ?_
    show Steps p.tables e below (T16.setTop (mkF m 60 #[.val (.int p1), .val (.int z2), .val (.ref z4v), .val (.ref z7v), .val (.int (1 : Int32)), .val (.int (1 : Int32)), .unset, .unset] [(.int (1 : Int32))])) _
    refine XS.istore X16.here hx rfl (hb hby at_60) rfl (l' := #[.val (.int p1), .val (.int z2), .val (.ref z4v), .val (.ref z7v), .val (.int (1 : Int32)), .val (.int (1 : Int32)), .val (.int (1 : Int32)), .unset]) rfl ?_
    show Steps p.tables e below (T16.setTop (mkF m 62 #[.val (.int p1), .val (.int z2), .val (.ref z4v), .val (.ref z7v), .val (.int (1 : Int32)), .val (.int (1 : Int32)), .val (.int (1 : Int32)), .unset] [])) _
    refine XS.aloadN X16.here hx rfl (hb hby at_62) rfl rfl ?_
    show Steps p.tables e below (T16.setTop (mkF m 63 #[.val (.int p1), .val (.int z2), .val (.ref z4v), .val (.ref z7v), .val (.int (1 : Int32)), .val (.int (1 : Int32)), .val (.int (1 : Int32)), .unset] [(.ref z7v)])) _
    exact k)
  obtain ⟨cq19, kq19, q19a, q19b, q19c⟩ := isOf hZ eq16 Ex7
  obtain ⟨_, _, ⟨T19, L19, k19, n19⟩, -, X19, ⟨Lc19, hQ19, l19, y19, z19⟩, st19⟩ := X16.virtualBack hx (y := (⟨"com/example/ferryline/ferryline/MemberState", "chosen", "()Lcom/example/ferryline/ferryline/MemberState;"⟩ : MethodName)) (z := (⟨"com/example/ferryline/ferryline/MemberState", "chosen", "()Lcom/example/ferryline/ferryline/MemberState;"⟩ : MethodName)) hown (mvT hZ (hw _ (List.mem_of_getElem? (i := 25) rfl))) (mvT hZ (hw _ (List.mem_of_getElem? (i := 26) rfl))) (notFace_of_selects (args := #[]) (mvT hZ (hw _ (List.mem_of_getElem? (i := 28) rfl)))) (mvT hZ (hw _ (List.mem_of_getElem? (i := 28) rfl))) (mvT hZ (hw _ (List.mem_of_getElem? (i := 27) rfl))) (by decide) (backOf (W := 0) (rm5 l Z a0 hw [] z7v eN eO eR eP eF eE h0 n0 Z0 S_eN S_eO S_eR S_eP S_eF S_eE) hZ (hw _ (List.mem_of_getElem? (i := 29) rfl)) (hw _ (List.mem_of_getElem? (i := 6) rfl)) (by decide) (by decide)) q19a q19c (g := (mkF m 63 #[.val (.int p1), .val (.int z2), .val (.ref z4v), .val (.ref z7v), .val (.int (1 : Int32)), .val (.int (1 : Int32)), .val (.int (1 : Int32)), .unset] [(.ref z7v)])) rfl (by rw [hml]; rfl) (Steps.refl _) (argsL := []) (rest := []) (lenOf pd_1 rfl) rfl (by show 2 * 0 + _ ≤ _; exact Nat.le_of_eq rfl) (hb hby at_63) (fun _ _ => ⟨rfl, eq16, (by decide : 0 + 0 ≤ _), (by decide : 0 + 0 ≤ _)⟩)
  dsimp only [Pt.U, Pt.locs, Pt.cells, Pt.slots] at X19 l19 y19 z19 st19 hQ19
  subst l19 y19 z19
  obtain ⟨z19v, rfl, hz19v, Nq19, eq19⟩ := hQ19
  have N19n := Fr.app N16n Nq19
  have Ex19 : Exa Z h0 z19v "com/example/ferryline/ferryline/MemberState" := by rw [hz19v]; exact own_ex5 (A := fun a => Exa Z h0 a "com/example/ferryline/ferryline/MemberState") Ex7 X_eN X_eO X_eR X_eP X_eF X_eE
  have P20 : own_Pr p.tables e below S0 T19 (mkF m 66 #[.val (.int p1), .val (.int z2), .val (.ref z4v), .val (.ref z7v), .val (.int (1 : Int32)), .val (.int (1 : Int32)), .val (.int (1 : Int32)), .unset] [(.ref z19v)]) := fun t k => P18 t (st19.trans k)
  have P21 : own_Pr p.tables e below S0 T19 (mkF m 67 #[.val (.int p1), .val (.int z2), .val (.ref z4v), .val (.ref z7v), .val (.int (1 : Int32)), .val (.int (1 : Int32)), .val (.int (1 : Int32)), .unset] [(.ref z4v), (.ref z19v)]) := fun t k => P20 t (by
    refine XS.aloadN X19.here hx rfl (hb hby at_66) rfl rfl ?_
    show Steps p.tables e below (T19.setTop (mkF m 67 #[.val (.int p1), .val (.int z2), .val (.ref z4v), .val (.ref z7v), .val (.int (1 : Int32)), .val (.int (1 : Int32)), .val (.int (1 : Int32)), .unset] [(.ref z4v), (.ref z19v)])) _
    exact k)
  obtain ⟨cq22, kq22, q22a, q22b, q22c⟩ := isOf hZ eq19 Ex4
  obtain ⟨_, _, ⟨T22, L22, k22, n22⟩, -, X22, ⟨Lc22, hQ22, l22, y22, z22⟩, st22⟩ := X19.virtualBack hx (y := (⟨"com/example/ferryline/ferryline/MemberState", "chosen", "()Lcom/example/ferryline/ferryline/MemberState;"⟩ : MethodName)) (z := (⟨"com/example/ferryline/ferryline/MemberState", "chosen", "()Lcom/example/ferryline/ferryline/MemberState;"⟩ : MethodName)) hown (mvT hZ (hw _ (List.mem_of_getElem? (i := 25) rfl))) (mvT hZ (hw _ (List.mem_of_getElem? (i := 26) rfl))) (notFace_of_selects (args := #[]) (mvT hZ (hw _ (List.mem_of_getElem? (i := 28) rfl)))) (mvT hZ (hw _ (List.mem_of_getElem? (i := 28) rfl))) (mvT hZ (hw _ (List.mem_of_getElem? (i := 27) rfl))) (by decide) (backOf (W := 1) (rm5 l Z a0 hw [] z4v eN eO eR eP eF eE h0 n0 Z0 S_eN S_eO S_eR S_eP S_eF S_eE) hZ (hw _ (List.mem_of_getElem? (i := 29) rfl)) (hw _ (List.mem_of_getElem? (i := 6) rfl)) (by decide) (by decide)) q22a q22c (g := (mkF m 67 #[.val (.int p1), .val (.int z2), .val (.ref z4v), .val (.ref z7v), .val (.int (1 : Int32)), .val (.int (1 : Int32)), .val (.int (1 : Int32)), .unset] [(.ref z4v), (.ref z19v)])) rfl (by rw [hml]; rfl) (Steps.refl _) (argsL := []) (rest := [(.ref z19v)]) (lenOf pd_1 rfl) rfl (by show 2 * 0 + _ ≤ _; exact Nat.le_of_eq rfl) (hb hby at_67) (fun _ _ => ⟨rfl, eq19, (by decide : 0 + 0 ≤ _), (by decide : 0 + 0 ≤ _)⟩)
  dsimp only [Pt.U, Pt.locs, Pt.cells, Pt.slots] at X22 l22 y22 z22 st22 hQ22
  subst l22 y22 z22
  obtain ⟨z22v, rfl, hz22v, Nq22, eq22⟩ := hQ22
  have N22n := Fr.app N19n Nq22
  have Ex22 : Exa Z h0 z22v "com/example/ferryline/ferryline/MemberState" := by rw [hz22v]; exact own_ex5 (A := fun a => Exa Z h0 a "com/example/ferryline/ferryline/MemberState") Ex4 X_eN X_eO X_eR X_eP X_eF X_eE
  have P23 : own_Pr p.tables e below S0 T22 (mkF m 70 #[.val (.int p1), .val (.int z2), .val (.ref z4v), .val (.ref z7v), .val (.int (1 : Int32)), .val (.int (1 : Int32)), .val (.int (1 : Int32)), .unset] [(.ref z22v), (.ref z19v)]) := fun t k => P21 t (st22.trans k)
  obtain ⟨cq24, kq24, q24a, q24b, q24c⟩ := isOf hZ eq22 Ex22
  obtain ⟨_, _, ⟨T24, L24, k24, n24⟩, -, X24, ⟨Lc24, hQ24, l24, y24, z24⟩, st24⟩ := X22.virtualBack hx (y := (⟨"com/example/ferryline/ferryline/MemberState", "recovered", "()Lcom/example/ferryline/ferryline/MemberState;"⟩ : MethodName)) (z := (⟨"com/example/ferryline/ferryline/MemberState", "recovered", "()Lcom/example/ferryline/ferryline/MemberState;"⟩ : MethodName)) hown (mvT hZ (hw _ (List.mem_of_getElem? (i := 8) rfl))) (mvT hZ (hw _ (List.mem_of_getElem? (i := 9) rfl))) (notFace_of_selects (args := #[]) (mvT hZ (hw _ (List.mem_of_getElem? (i := 11) rfl)))) (mvT hZ (hw _ (List.mem_of_getElem? (i := 11) rfl))) (mvT hZ (hw _ (List.mem_of_getElem? (i := 10) rfl))) (by decide) (backOf (W := 1) (rm2 l Z a0 hw [] z22v eN eO eR eP eF eE h0 n0 Z0 S_eN S_eO S_eR S_eP S_eF S_eE) hZ (hw _ (List.mem_of_getElem? (i := 12) rfl)) (hw _ (List.mem_of_getElem? (i := 6) rfl)) (by decide) (by decide)) q24a q24c (g := (mkF m 70 #[.val (.int p1), .val (.int z2), .val (.ref z4v), .val (.ref z7v), .val (.int (1 : Int32)), .val (.int (1 : Int32)), .val (.int (1 : Int32)), .unset] [(.ref z22v), (.ref z19v)])) rfl (by rw [hml]; rfl) (Steps.refl _) (argsL := []) (rest := [(.ref z19v)]) (lenOf pd_1 rfl) rfl (by show 2 * 0 + _ ≤ _; exact Nat.le_of_eq rfl) (hb hby at_70) (fun _ _ => ⟨rfl, eq22, (by decide : 0 + 0 ≤ _), (by decide : 0 + 0 ≤ _)⟩)
  dsimp only [Pt.U, Pt.locs, Pt.cells, Pt.slots] at X24 l24 y24 z24 st24 hQ24
  subst l24 y24 z24
  obtain ⟨z24v, rfl, hz24v, Nq24, eq24⟩ := hQ24
  have N24n := Fr.app N22n Nq24
  have Ex24 : Exa Z h0 z24v "com/example/ferryline/ferryline/MemberState" := by rw [hz24v]; exact own_ex2 (A := fun a => Exa Z h0 a "com/example/ferryline/ferryline/MemberState") Ex22 X_eN X_eO X_eR X_eP X_eF X_eE
  have P25 : own_Pr p.tables e below S0 T24 (mkF m 73 #[.val (.int p1), .val (.int z2), .val (.ref z4v), .val (.ref z7v), .val (.int (1 : Int32)), .val (.int (1 : Int32)), .val (.int (1 : Int32)), .unset] [(.ref z24v), (.ref z19v)]) := fun t k => P23 t (st24.trans k)
  have hk73 := own_law73 d01 d02 d03 d04 d05 d12 d13 d14 d15 d23 d24 d25 d34 d35 d45 hz4v hz7v hz19v hz22v hz24v
  have P26 : own_Pr p.tables e below S0 T24 (mkF m 108 #[.val (.int p1), .val (.int z2), .val (.ref z4v), .val (.ref z7v), .val (.int (1 : Int32)), .val (.int (1 : Int32)), .val (.int (1 : Int32)), .val (.int (1 : Int32))] [(.int (1 : Int32))]) := fun t k => P25 t (by
    refine Jvm.RoadKit.acmp (g := (mkF m 73 #[.val (.int p1), .val (.int z2), .val (.ref z4v), .val (.ref z7v), .val (.int (1 : Int32)), .val (.int (1 : Int32)), .val (.int (1 : Int32)), .unset] [(.ref z24v), (.ref z19v)])) X24 hx rfl rfl rfl (pc0 := 73) (pc' := 76) (same := true) rfl (hb hby at_73) rfl (decide_eq_true (congrArg Value.ref hk73)) (by decide) (by decide) ?_
    show Steps p.tables e below (T24.setTop (mkF m 76 #[.val (.int p1), .val (.int z2), .val (.ref z4v), .val (.ref z7v), .val (.int (1 : Int32)), .val (.int (1 : Int32)), .val (.int (1 : Int32)), .unset] [])) _
    refine XS.iconst X24.here hx rfl (hb hby at_76) ?_
    show Steps p.tables e below (T24.setTop (mkF m 77 #[.val (.int p1), .val (.int z2), .val (.ref z4v), .val (.ref z7v), .val (.int (1 : Int32)), .val (.int (1 : Int32)), .val (.int (1 : Int32)), .unset] [(.int (1 : Int32))])) _
    refine XS.goto X24.here hx rfl (pc0 := 77) (pc' := 81) rfl (hb hby at_77) (by decide) (by decide) ?_
    show Steps p.tables e below (T24.setTop (mkF m 81 #[.val (.int p1), .val (.int z2), .val (.ref z4v), .val (.ref z7v), .val (.int (1 : Int32)), .val (.int (1 : Int32)), .val (.int (1 : Int32)), .unset] [(.int (1 : Int32))])) _
    refine XS.istore X24.here hx rfl (hb hby at_81) rfl (l' := #[.val (.int p1), .val (.int z2), .val (.ref z4v), .val (.ref z7v), .val (.int (1 : Int32)), .val (.int (1 : Int32)), .val (.int (1 : Int32)), .val (.int (1 : Int32))]) rfl ?_
    show Steps p.tables e below (T24.setTop (mkF m 83 #[.val (.int p1), .val (.int z2), .val (.ref z4v), .val (.ref z7v), .val (.int (1 : Int32)), .val (.int (1 : Int32)), .val (.int (1 : Int32)), .val (.int (1 : Int32))] [])) _
    refine XS.iload X24.here hx rfl (hb hby at_83) rfl ?_
    show Steps p.tables e below (T24.setTop (mkF m 85 #[.val (.int p1), .val (.int z2), .val (.ref z4v), .val (.ref z7v), .val (.int (1 : Int32)), .val (.int (1 : Int32)), .val (.int (1 : Int32)), .val (.int (1 : Int32))] [(.int (1 : Int32))])) _
    refine XS.ifNo X24.here hx rfl (hb hby at_85) rfl (by decide) ?_
    show Steps p.tables e below (T24.setTop (mkF m 88 #[.val (.int p1), .val (.int z2), .val (.ref z4v), .val (.ref z7v), .val (.int (1 : Int32)), .val (.int (1 : Int32)), .val (.int (1 : Int32)), .val (.int (1 : Int32))] [])) _
    refine XS.iload X24.here hx rfl (hb hby at_88) rfl ?_
    show Steps p.tables e below (T24.setTop (mkF m 90 #[.val (.int p1), .val (.int z2), .val (.ref z4v), .val (.ref z7v), .val (.int (1 : Int32)), .val (.int (1 : Int32)), .val (.int (1 : Int32)), .val (.int (1 : Int32))] [(.int (1 : Int32))])) _
    refine XS.ifNo X24.here hx rfl (hb hby at_90) rfl (by decide) ?_
    show Steps p.tables e below (T24.setTop (mkF m 93 #[.val (.int p1), .val (.int z2), .val (.ref z4v), .val (.ref z7v), .val (.int (1 : Int32)), .val (.int (1 : Int32)), .val (.int (1 : Int32)), .val (.int (1 : Int32))] [])) _
    refine XS.iload X24.here hx rfl (hb hby at_93) rfl ?_
    show Steps p.tables e below (T24.setTop (mkF m 95 #[.val (.int p1), .val (.int z2), .val (.ref z4v), .val (.ref z7v), .val (.int (1 : Int32)), .val (.int (1 : Int32)), .val (.int (1 : Int32)), .val (.int (1 : Int32))] [(.int (1 : Int32))])) _
    refine XS.ifNo X24.here hx rfl (hb hby at_95) rfl (by decide) ?_
    show Steps p.tables e below (T24.setTop (mkF m 98 #[.val (.int p1), .val (.int z2), .val (.ref z4v), .val (.ref z7v), .val (.int (1 : Int32)), .val (.int (1 : Int32)), .val (.int (1 : Int32)), .val (.int (1 : Int32))] [])) _
    refine XS.iload X24.here hx rfl (hb hby at_98) rfl ?_
    show Steps p.tables e below (T24.setTop (mkF m 100 #[.val (.int p1), .val (.int z2), .val (.ref z4v), .val (.ref z7v), .val (.int (1 : Int32)), .val (.int (1 : Int32)), .val (.int (1 : Int32)), .val (.int (1 : Int32))] [(.int (1 : Int32))])) _
    refine XS.ifNo X24.here hx rfl (hb hby at_100) rfl (by decide) ?_
    show Steps p.tables e below (T24.setTop (mkF m 103 #[.val (.int p1), .val (.int z2), .val (.ref z4v), .val (.ref z7v), .val (.int (1 : Int32)), .val (.int (1 : Int32)), .val (.int (1 : Int32)), .val (.int (1 : Int32))] [])) _
    refine XS.iconst X24.here hx rfl (hb hby at_103) ?_
    show Steps p.tables e below (T24.setTop (mkF m 104 #[.val (.int p1), .val (.int z2), .val (.ref z4v), .val (.ref z7v), .val (.int (1 : Int32)), .val (.int (1 : Int32)), .val (.int (1 : Int32)), .val (.int (1 : Int32))] [(.int (1 : Int32))])) _
    refine XS.goto X24.here hx rfl (pc0 := 104) (pc' := 108) rfl (hb hby at_104) (by decide) (by decide) ?_
    show Steps p.tables e below (T24.setTop (mkF m 108 #[.val (.int p1), .val (.int z2), .val (.ref z4v), .val (.ref z7v), .val (.int (1 : Int32)), .val (.int (1 : Int32)), .val (.int (1 : Int32)), .val (.int (1 : Int32))] [(.int (1 : Int32))])) _
    exact k)
  obtain ⟨fs, hr, hrun, hended, hW, hsame⟩ := X24.leave (v := some (.int (1 : Int32))) (fun h => by rw [Bd.returns] at h; cases h)
  have fin : Steps p.tables e below S0 (T24.setFrames fs) := P26 _ (retN X24 hx (t := .boolean) Bd.returns (by simp) (hb hby at_108) hr)
  rw [hS0] at fin
  refine ⟨_, _, fin, hrun, hended, _, _, rfl, ?_, ⟨_, rfl⟩, hW, hsame.mono (by decide) (by decide)⟩
  show own_QL n0 _ _
  exact ⟨_, rfl, rfl, N24n⟩
set_option maxRecDepth 65536 in
set_option maxHeartbeats 40000000 in
theorem comes_1 {Post : Tables → Env → Array Value → State → Outcome → State → Prop} (hpost : ∀ tb e args s v u, (limb_1_1.after args s (.returned v) u = true ∧ limb_1_2.after args s (.returned v) u = true ∧ True) → FrameEnd s (.returned v) u (Jvm.fieldLocs frame_1_writes args s ++ Jvm.arrayLocs frame_1_arrays args s ++ Jvm.staticLocs frame_1_statics s) 0 0 → Post tb e args s (.returned v) u) :
    ArmFor flags0 classFile x code maxLocals ret World_1 tables_1 room_1 Calls_1 rest_1 Pre_1 Post := by
  intro l hfl _ _ p e ha hc hk s m args below hf hA hF happ hP
  obtain ⟨hcalls, hrest, hpre⟩ := hP
  obtain ⟨-, -, -, hnamed, -, -, -, hat⟩ := (Spec.applies_iff hf).mp happ
  obtain ⟨hg, hn⟩ := and_e (Cond.before_iff.mp (show (Jvm.Cond.and given_1 narrow_1).before args s = true from hpre))
  obtain ⟨gg1, gg2⟩ := and_e hg
  obtain ⟨w0, rfl⟩ : ∃ w0 : Value, args = #[w0] := by
    have hs : args.size = 1 := by simpa [Cond.value, given_1] using gg1
    obtain ⟨L⟩ := args
    match L, hs with
    | [w0], _ => exact ⟨w0, rfl⟩
  have hw := fun d (hd : d ∈ tables_1) => atoms_spec (ws := Jvm.Cond.code x code maxLocals ret :: tables_1) hat d (List.mem_cons_of_mem _ hd)
  have hfit : Fit s := fun {y c} hc i hi => by
    obtain ⟨ha, rfl⟩ := Array.getElem?_eq_some_iff.mp hc
    have q := List.all_eq_true.mp ((Array.all_eq_true_iff_forall_mem.mp hF) _ (Array.getElem_mem ha)) i (List.mem_range.mpr hi)
    simpa [Array.getElem?_eq_getElem hi] using q
  obtain ⟨i0, ei0⟩ := is_v gg2
  obtain rfl : w0 = (.int i0) := Option.some.inj ei0
  obtain ⟨xN, hn0⟩ := and_e hn
  obtain ⟨xE, hn1⟩ := and_e hn0
  obtain ⟨oN, hn2⟩ := and_e hn1
  obtain ⟨oE, hn3⟩ := and_e hn2
  obtain ⟨xF, hn4⟩ := and_e hn3
  obtain ⟨oF, hn5⟩ := and_e hn4
  obtain ⟨xR, hn6⟩ := and_e hn5
  obtain ⟨oR, hn7⟩ := and_e hn6
  obtain ⟨xP, hn8⟩ := and_e hn7
  obtain ⟨oP, hn9⟩ := and_e hn8
  obtain ⟨xO, oO⟩ := and_e hn9
  obtain ⟨eN, evN⟩ := exa_v xN
  have X_eN := Exa.start evN xN
  have O_eN := own_ord evN oN
  have S_eN := Sta.start evN (Or.inr ⟨(hw _ (List.mem_of_getElem? (i := 6) rfl)), (hw _ (List.mem_of_getElem? (i := 7) rfl))⟩)
  obtain ⟨eO, evO⟩ := exa_v xO
  have X_eO := Exa.start evO xO
  have O_eO := own_ord evO oO
  have S_eO := Sta.start evO (Or.inr ⟨(hw _ (List.mem_of_getElem? (i := 6) rfl)), (hw _ (List.mem_of_getElem? (i := 37) rfl))⟩)
  obtain ⟨eR, evR⟩ := exa_v xR
  have X_eR := Exa.start evR xR
  have O_eR := own_ord evR oR
  have S_eR := Sta.start evR (Or.inr ⟨(hw _ (List.mem_of_getElem? (i := 6) rfl)), (hw _ (List.mem_of_getElem? (i := 31) rfl))⟩)
  obtain ⟨eP, evP⟩ := exa_v xP
  have X_eP := Exa.start evP xP
  have O_eP := own_ord evP oP
  have S_eP := Sta.start evP (Or.inr ⟨(hw _ (List.mem_of_getElem? (i := 6) rfl)), (hw _ (List.mem_of_getElem? (i := 33) rfl))⟩)
  obtain ⟨eF, evF⟩ := exa_v xF
  have X_eF := Exa.start evF xF
  have O_eF := own_ord evF oF
  have S_eF := Sta.start evF (Or.inr ⟨(hw _ (List.mem_of_getElem? (i := 6) rfl)), (hw _ (List.mem_of_getElem? (i := 16) rfl))⟩)
  obtain ⟨eE, evE⟩ := exa_v xE
  have X_eE := Exa.start evE xE
  have O_eE := own_ord evE oE
  have S_eE := Sta.start evE (Or.inr ⟨(hw _ (List.mem_of_getElem? (i := 6) rfl)), (hw _ (List.mem_of_getElem? (i := 14) rfl))⟩)
  have d01 := Fld.ne O_eN O_eO (by simp)
  have d02 := Fld.ne O_eN O_eR (by simp)
  have d03 := Fld.ne O_eN O_eP (by simp)
  have d04 := Fld.ne O_eN O_eF (by simp)
  have d05 := Fld.ne O_eN O_eE (by simp)
  have d12 := Fld.ne O_eO O_eR (by simp)
  have d13 := Fld.ne O_eO O_eP (by simp)
  have d14 := Fld.ne O_eO O_eF (by simp)
  have d15 := Fld.ne O_eO O_eE (by simp)
  have d23 := Fld.ne O_eR O_eP (by simp)
  have d24 := Fld.ne O_eR O_eF (by simp)
  have d25 := Fld.ne O_eR O_eE (by simp)
  have d34 := Fld.ne O_eP O_eF (by simp)
  have d35 := Fld.ne O_eP O_eE (by simp)
  have d45 := Fld.ne O_eF O_eE (by simp)
  obtain ⟨n, o, h1, h2, h3, _, L, rfl, ⟨z, rfl, rfl, N⟩, hq⟩ := rm0 l s _ hw tables_1 i0 eN eO eR eP eF eE s.heap s.heap.size (Nat.le_refl _) S_eN S_eO S_eR S_eP S_eF S_eE X_eN X_eO X_eR X_eP X_eF X_eE d01 d02 d03 d04 d05 d12 d13 d14 d15 d23 d24 d25 d34 d35 d45 p e ha hc hk s m _ below hf ((Spec.applies_iff_loose hf).mp happ).1 ⟨rfl, State.Warmed39.refl s, rfl⟩ trivial
  refine ⟨n, _, h1, h2, h3, hpost _ _ _ _ _ _ ⟨Cond.after_iff.mpr rfl, Cond.after_iff.mpr (eq_i res_at (Term.int_eval (1)) rfl), trivial⟩ ⟨hq.1, hq.2.1, (hq.2.2.sift fun y hy => Or.inr (N y hy)).mono (by decide) (by decide)⟩⟩
theorem main_1_1 : Claimed_1_1 := comes_1 fun _ _ _ _ _ _ h hF => ⟨h.1, hF⟩
theorem main_1_2 : Claimed_1_2 := comes_1 fun _ _ _ _ _ _ h hF => ⟨h.2.1, hF⟩
end Jvm.Pilot.@@N@@
namespace Jvm.Pilot.@@N@@
open Jvm Jvm.ClassFile Sem Op Lib Jvm.Free Jvm.Stand Jvm.Pilot.@@N@@.Jvm.D
/-! MADE BY PROGRAM (witnessworld.py) out of the Statement's table words and the real class files: 12 classes; the members and pool entries that the words name. The judged class is class 1, her method 3. -/
namespace start1
open Jvm.ClassFile
def u (s : String) : CpInfo := .utf8 (stringToUtf16 s)
/-- a pool by its gaps: so many unusable entries, then the entry; so many at the end -/
def gap : Nat → List CpInfo → List CpInfo
  | 0, r => r
  | n + 1, r => .unusable :: gap n r
def poolList (es : List (Nat × CpInfo)) (last : Nat) : List CpInfo := es.foldr (fun e r => gap e.1 (e.2 :: r)) (gap last [])
def pool (es : List (Nat × CpInfo)) (last : Nat) : Array CpInfo := ⟨poolList es last⟩
def fileOf (pool : Array CpInfo) (this : Nat) (attrs : Array Attribute := #[]) (ms : Array MethodInfo := #[]) (fl : Nat := 33) (sup : Nat := 0) (ifs : Array Nat := #[]) (fds : Array FieldInfo := #[]) : ClassFile where
  minorVersion := 0
  majorVersion := 65
  constantPool := pool
  accessFlags := fl
  thisClass := this
  superClass := sup
  interfaces := ifs
  fields := fds
  methods := ms
  attributes := attrs
def plain (name : String) (sup : Option ClassId) : Class where
  name := name
  kind := .ordinary
  loader := none
  accessFlags := 33
  super := sup
  interfaces := #[]
  cf := none
  fields := #[]
  methods := #[]
  instanceTypes := #[]
  staticTypes := #[]
  resolved := #[]
  callSites := []
  init := .initialized
  statics := none
  mirror := none

def pool0 : Array CpInfo := pool [(5, u "<init>"), (0, u "()V"), (1, .class_ 10), (1, u "java/lang/Object")] 113

def k0m0 : Method := { name := "<init>", desc := "()V", sig := { parameters := [], returnType := none }, accessFlags := 1, code := none }
/-- java/lang/Object -/
def k0 : Class := { plain "java/lang/Object" none with
  accessFlags := 33
  interfaces := #[]
  cf := some (fileOf pool0 8 #[] #[{ accessFlags := 1, nameIndex := 5, descriptorIndex := 6, attributes := #[] }] 33 0 #[] #[])
  fields := #[]
  methods := #[k0m0]
  instanceTypes := #[]
  staticTypes := #[]
  resolved := Array.replicate 124 none
  statics := none }

def pool1 : Array CpInfo := pool [(2, .class_ 4), (1, u "java/lang/Object"), (0, u "<init>"), (0, u "()V"), (0, .fieldref 8 9), (0, .class_ 10), (0, .nameAndType 11 12), (0, u "com/example/ferryline/ferryline/MemberState"), (0, u "NOT_TRIED"), (0, u "Lcom/example/ferryline/ferryline/MemberState;"), (0, .fieldref 8 14), (0, .nameAndType 15 12), (0, u "OK"), (0, .fieldref 8 17), (0, .nameAndType 18 12), (0, u "RECOVERING"), (0, .fieldref 8 20), (0, .nameAndType 21 12), (0, u "PROBING"), (0, .fieldref 8 23), (0, .nameAndType 24 12), (0, u "FORCED_RECOVERY"), (0, .fieldref 8 26), (0, .nameAndType 27 12), (0, u "ERROR"), (0, .integer 2147483647), (0, .methodref 30 31), (0, .class_ 32), (0, .nameAndType 33 34), (0, u "com/example/ferryline/ferryline/MemberStateRecoveredPinLaw"), (0, u "state"), (0, u "(I)Lcom/example/ferryline/ferryline/MemberState;"), (0, .methodref 8 36), (0, .nameAndType 37 38), (0, u "recovered"), (0, u "()Lcom/example/ferryline/ferryline/MemberState;"), (0, .methodref 30 40), (0, .nameAndType 41 34), (0, u "expected"), (0, .methodref 8 43), (0, .nameAndType 44 45), (0, u "inError"), (0, u "()Z"), (0, .methodref 8 47), (0, .nameAndType 48 38), (0, u "chosen"), (3, u "law"), (0, u "(I)Z")] 2

def k1m0 : Method := { name := "<init>", desc := "()V", sig := { parameters := [], returnType := none }, accessFlags := 1, code := none }
def k1c1 : Code := { maxStack := 2, maxLocals := 1, code := method_2_code, exceptionTable := #[], attributes := #[] }
def k1m1 : Method := { name := "state", desc := "(I)Lcom/example/ferryline/ferryline/MemberState;", sig := { parameters := [.int], returnType := some (.object "com/example/ferryline/ferryline/MemberState") }, accessFlags := 10, code := some k1c1 }
def k1c2 : Code := { maxStack := 2, maxLocals := 1, code := method_3_code, exceptionTable := #[], attributes := #[] }
def k1m2 : Method := { name := "expected", desc := "(I)Lcom/example/ferryline/ferryline/MemberState;", sig := { parameters := [.int], returnType := some (.object "com/example/ferryline/ferryline/MemberState") }, accessFlags := 10, code := some k1c2 }
def k1c3 : Code := { maxStack := 2, maxLocals := 8, code := code, exceptionTable := #[], attributes := #[] }
def k1m3 : Method := { name := "law", desc := "(I)Z", sig := { parameters := [.int], returnType := some .boolean }, accessFlags := 9, code := some k1c3 }
/-- com/example/ferryline/ferryline/MemberStateRecoveredPinLaw -/
def k1 : Class := { plain "com/example/ferryline/ferryline/MemberStateRecoveredPinLaw" (some 0) with
  accessFlags := 49
  interfaces := #[]
  cf := some (fileOf pool1 30 #[] #[{ accessFlags := 1, nameIndex := 5, descriptorIndex := 6, attributes := #[] }, { accessFlags := 10, nameIndex := 33, descriptorIndex := 34, attributes := #[] }, { accessFlags := 10, nameIndex := 41, descriptorIndex := 34, attributes := #[] }, { accessFlags := 9, nameIndex := 52, descriptorIndex := 53, attributes := #[] }] 49 2 #[] #[])
  fields := #[]
  methods := #[k1m0, k1m1, k1m2, k1m3]
  instanceTypes := #[]
  staticTypes := #[]
  resolved := Array.replicate 56 none
  statics := none }

def pool2 : Array CpInfo := pool [(1, .class_ 2), (0, u "java/lang/constant/Constable"), (0, .class_ 4), (0, u "java/lang/Object")] 6

/-- java/lang/constant/Constable -/
def k2 : Class := { plain "java/lang/constant/Constable" (some 0) with
  accessFlags := 1537
  interfaces := #[]
  cf := some (fileOf pool2 1 #[] #[] 1537 3 #[] #[])
  fields := #[]
  methods := #[]
  instanceTypes := #[]
  staticTypes := #[]
  resolved := Array.replicate 11 none
  statics := none }

def pool3 : Array CpInfo := pool [(1, .class_ 2), (0, u "java/lang/Comparable"), (0, .class_ 4), (0, u "java/lang/Object")] 7

/-- java/lang/Comparable -/
def k3 : Class := { plain "java/lang/Comparable" (some 0) with
  accessFlags := 1537
  interfaces := #[]
  cf := some (fileOf pool3 1 #[] #[] 1537 3 #[] #[])
  fields := #[]
  methods := #[]
  instanceTypes := #[]
  staticTypes := #[]
  resolved := Array.replicate 12 none
  statics := none }

def pool4 : Array CpInfo := pool [(1, .class_ 2), (0, u "java/io/Serializable"), (0, .class_ 4), (0, u "java/lang/Object")] 2

/-- java/io/Serializable -/
def k4 : Class := { plain "java/io/Serializable" (some 0) with
  accessFlags := 1537
  interfaces := #[]
  cf := some (fileOf pool4 1 #[] #[] 1537 3 #[] #[])
  fields := #[]
  methods := #[]
  instanceTypes := #[]
  staticTypes := #[]
  resolved := Array.replicate 7 none
  statics := none }

def pool5 : Array CpInfo := pool [(2, .class_ 4), (1, u "java/lang/Enum"), (0, u "name"), (0, u "Ljava/lang/String;"), (2, u "ordinal"), (0, u "I"), (1, .class_ 14), (1, u "java/lang/Object"), (4, u "hash"), (86, .class_ 108), (1, u "java/lang/Enum$EnumDesc"), (2, .class_ 112), (0, u "java/lang/constant/Constable"), (0, .class_ 114), (0, u "java/lang/Comparable"), (0, .class_ 116), (0, u "java/io/Serializable")] 87

/-- java/lang/Enum -/
def k5 : Class := { plain "java/lang/Enum" (some 0) with
  accessFlags := 1057
  interfaces := #[2, 3, 4]
  cf := some (fileOf pool5 2 #[.nestMembers #[106]] #[] 1057 12 #[111, 113, 115] #[{ accessFlags := 18, nameIndex := 5, descriptorIndex := 6, attributes := #[] }, { accessFlags := 18, nameIndex := 9, descriptorIndex := 10, attributes := #[] }, { accessFlags := 2, nameIndex := 19, descriptorIndex := 10, attributes := #[] }])
  fields := #[{ name := "name", type := (.object "java/lang/String"), accessFlags := 18, slot := 0, constantValue := 0 }, { name := "ordinal", type := .int, accessFlags := 18, slot := 1, constantValue := 0 }, { name := "hash", type := .int, accessFlags := 2, slot := 2, constantValue := 0 }]
  methods := #[]
  instanceTypes := #[(.object "java/lang/String"), .int, .int]
  staticTypes := #[]
  resolved := Array.replicate 204 none
  statics := none }

def pool6 : Array CpInfo := pool [(1, .class_ 2), (0, u "com/example/ferryline/ferryline/MemberState"), (2, u "NOT_TRIED"), (0, u "Lcom/example/ferryline/ferryline/MemberState;"), (2, u "OK"), (0, .fieldref 1 11), (0, .nameAndType 12 6), (0, u "RECOVERING"), (0, .fieldref 1 14), (0, .nameAndType 15 6), (0, u "PROBING"), (0, .fieldref 1 17), (0, .nameAndType 18 6), (0, u "FORCED_RECOVERY"), (0, .fieldref 1 20), (0, .nameAndType 21 6), (0, u "ERROR"), (2, u "$VALUES"), (0, u "[Lcom/example/ferryline/ferryline/MemberState;"), (6, .class_ 34), (1, u "java/lang/Enum"), (8, u "spelling"), (0, u "Ljava/lang/String;"), (2, u "letter"), (0, u "C"), (32, u "inError"), (0, u "()Z"), (1, u "chosen"), (0, u "()Lcom/example/ferryline/ferryline/MemberState;"), (1, u "recovered")] 8

def k6c0 : Code := { maxStack := 2, maxLocals := 1, code := prog_23_method_4_code, exceptionTable := #[], attributes := #[] }
def k6m0 : Method := { name := "inError", desc := "()Z", sig := { parameters := [], returnType := some .boolean }, accessFlags := 0, code := some k6c0 }
def k6c1 : Code := { maxStack := 2, maxLocals := 2, code := prog_23_method_5_code, exceptionTable := #[], attributes := #[] }
def k6m1 : Method := { name := "chosen", desc := "()Lcom/example/ferryline/ferryline/MemberState;", sig := { parameters := [], returnType := some (.object "com/example/ferryline/ferryline/MemberState") }, accessFlags := 0, code := some k6c1 }
def k6c2 : Code := { maxStack := 2, maxLocals := 2, code := prog_23_method_7_code, exceptionTable := #[], attributes := #[] }
def k6m2 : Method := { name := "recovered", desc := "()Lcom/example/ferryline/ferryline/MemberState;", sig := { parameters := [], returnType := some (.object "com/example/ferryline/ferryline/MemberState") }, accessFlags := 0, code := some k6c2 }
/-- com/example/ferryline/ferryline/MemberState -/
def k6 : Class := { plain "com/example/ferryline/ferryline/MemberState" (some 5) with
  accessFlags := 16432
  interfaces := #[]
  cf := some (fileOf pool6 1 #[] #[{ accessFlags := 0, nameIndex := 81, descriptorIndex := 82, attributes := #[] }, { accessFlags := 0, nameIndex := 84, descriptorIndex := 85, attributes := #[] }, { accessFlags := 0, nameIndex := 87, descriptorIndex := 85, attributes := #[] }] 16432 32 #[] #[{ accessFlags := 16409, nameIndex := 5, descriptorIndex := 6, attributes := #[] }, { accessFlags := 16409, nameIndex := 9, descriptorIndex := 6, attributes := #[] }, { accessFlags := 16409, nameIndex := 12, descriptorIndex := 6, attributes := #[] }, { accessFlags := 16409, nameIndex := 15, descriptorIndex := 6, attributes := #[] }, { accessFlags := 16409, nameIndex := 18, descriptorIndex := 6, attributes := #[] }, { accessFlags := 16409, nameIndex := 21, descriptorIndex := 6, attributes := #[] }, { accessFlags := 18, nameIndex := 43, descriptorIndex := 44, attributes := #[] }, { accessFlags := 18, nameIndex := 47, descriptorIndex := 48, attributes := #[] }, { accessFlags := 4122, nameIndex := 24, descriptorIndex := 25, attributes := #[] }])
  fields := #[{ name := "NOT_TRIED", type := (.object "com/example/ferryline/ferryline/MemberState"), accessFlags := 16409, slot := 0, constantValue := 0 }, { name := "OK", type := (.object "com/example/ferryline/ferryline/MemberState"), accessFlags := 16409, slot := 1, constantValue := 0 }, { name := "RECOVERING", type := (.object "com/example/ferryline/ferryline/MemberState"), accessFlags := 16409, slot := 2, constantValue := 0 }, { name := "PROBING", type := (.object "com/example/ferryline/ferryline/MemberState"), accessFlags := 16409, slot := 3, constantValue := 0 }, { name := "FORCED_RECOVERY", type := (.object "com/example/ferryline/ferryline/MemberState"), accessFlags := 16409, slot := 4, constantValue := 0 }, { name := "ERROR", type := (.object "com/example/ferryline/ferryline/MemberState"), accessFlags := 16409, slot := 5, constantValue := 0 }, { name := "spelling", type := (.object "java/lang/String"), accessFlags := 18, slot := 3, constantValue := 0 }, { name := "letter", type := .char, accessFlags := 18, slot := 4, constantValue := 0 }, { name := "$VALUES", type := (.array (.object "com/example/ferryline/ferryline/MemberState")), accessFlags := 4122, slot := 6, constantValue := 0 }]
  methods := #[k6m0, k6m1, k6m2]
  instanceTypes := #[(.object "java/lang/String"), .int, .int, (.object "java/lang/String"), .char]
  staticTypes := #[(.object "com/example/ferryline/ferryline/MemberState"), (.object "com/example/ferryline/ferryline/MemberState"), (.object "com/example/ferryline/ferryline/MemberState"), (.object "com/example/ferryline/ferryline/MemberState"), (.object "com/example/ferryline/ferryline/MemberState"), (.object "com/example/ferryline/ferryline/MemberState"), (.array (.object "com/example/ferryline/ferryline/MemberState"))]
  resolved := Array.replicate 96 none
  statics := some 0 }

def pool7 : Array CpInfo := pool [(1, u "java/lang/Cloneable"), (0, .class_ 1), (0, u "java/lang/Object"), (0, .class_ 3)] 3

/-- java/lang/Cloneable -/
def k7 : Class := { plain "java/lang/Cloneable" (some 0) with
  accessFlags := 1537
  interfaces := #[]
  cf := some (fileOf pool7 2 #[] #[] 1537 4 #[] #[])
  fields := #[]
  methods := #[]
  instanceTypes := #[]
  staticTypes := #[]
  resolved := Array.replicate 8 none
  statics := none }

/-- the primitive byte -/
def k8 : Class := { plain "byte" none with kind := .primitive 'B', accessFlags := 0x411 }
/-- [B -/
def k9 : Class := { plain "[B" (some 0) with kind := .array 8 .byte, interfaces := #[7, 4], accessFlags := 1041 }

/-- the primitive int -/
def k10 : Class := { plain "int" none with kind := .primitive 'I', accessFlags := 0x411 }
/-- [I -/
def k11 : Class := { plain "[I" (some 0) with kind := .array 10 .int, interfaces := #[7, 4], accessFlags := 1041 }

def heap : Heap := #[{ cls := 6, slots := #[.ref 1, .ref 2, .ref 3, .ref 4, .ref 5, .ref 6, .null], vm := .statics 6 },
  { cls := 6, slots := #[.null, .int 0, .int 0, .null, .int 65], vm := .none },
  { cls := 6, slots := #[.null, .int 1, .int 0, .null, .int 65], vm := .none },
  { cls := 6, slots := #[.null, .int 2, .int 0, .null, .int 65], vm := .none },
  { cls := 6, slots := #[.null, .int 3, .int 0, .null, .int 65], vm := .none },
  { cls := 6, slots := #[.null, .int 4, .int 0, .null, .int 65], vm := .none },
  { cls := 6, slots := #[.null, .int 5, .int 0, .null, .int 65], vm := .none }]
def classes : Array Class := #[k0, k1, k2, k3, k4, k5, k6, k7, k8, k9, k10, k11]
def interned : List (Array UInt16 × Addr) := []
def slotsUsed : Nat := 37
def theMethod : MethodId := ⟨1, 3⟩
def args0 : Array Value := #[.int 5]
def aboutOver (below : List Frame) : State where
  vm := { classes := classes, interned := interned.toArray }
  heap := heap
  slotsUsed := slotsUsed
  threads := #[{ frames := .invoking theMethod args0 :: below }]
def below0 : List Frame := [.native { method := ⟨0, 0⟩, args := #[] }]
def about1 : State := aboutOver below0
def p0 : Program := .bare "" "" ""
def e0 : Env := launch0.env 0 0 0
theorem w_frames : about1.frames = Frame.invoking theMethod args0 :: below0 := rfl
set_option maxRecDepth 65536 in
theorem w_args : argsFit about1.vm theMethod args0 = true := by decide +kernel
set_option maxRecDepth 65536 in
theorem w_heap : heapFits about1 = true := by decide +kernel
set_option maxRecDepth 65536 in
theorem w_runnable : about1.curStatus? = some .runnable := by decide +kernel
set_option maxRecDepth 65536 in
theorem w_alone : about1.alone = true := by decide +kernel
set_option maxRecDepth 65536 in
theorem w_named : about1.methodNamed? x = some theMethod := by decide +kernel
set_option maxRecDepth 65536 in
theorem w_hears : about1.hears theMethod below0 = true := by decide +kernel
set_option maxRecDepth 65536 in
theorem w_ripe : about1.ripe theMethod args0 below0 = true := by decide +kernel
theorem w_running : about1.status = .running := rfl
set_option maxRecDepth 65536 in
theorem w_room : about1.hasRoom e0.platform room_1 = true :=
  launch0.hasRoom_least _ room_1 (by decide +kernel) (by decide +kernel) (by decide +kernel) (by decide +kernel) (by decide +kernel) (by decide +kernel)
theorem allAtoms_all (ts : List Jvm.Cond) (a : Array Jvm.Value) (st : Jvm.State) : (allAtoms ts).before a st = ts.all (fun c => c.before a st) := by
  induction ts with
  | nil => rfl
  | cons c t ih =>
    show (Jvm.Cond.and c (allAtoms t)).before a st = _
    rw [Jvm.Cond.before_and, ih, List.all_cons]
def words1 : List Jvm.Cond := Jvm.Cond.code x code maxLocals ret :: tables_1
/-- a 'code' word, met by the world's own term for the bytes: nothing is compared byte by byte -/
theorem code_word {y : MethodName} {bytes : ByteArray} {mx : Nat} {rt : Option FieldType} {a : Array Value} {s : State} {m : MethodId} {meth : Method} {c : Code} (h1 : s.methodNamed? y = some m) (h2 : s.vm.method? m = some meth) (h3 : meth.code = some c) (h4 : c.code = bytes)
    (h5 : (c.maxLocals == mx && c.exceptionTable.isEmpty && decide (c.maxStack ≤ mostOperands) && decide (meth.sig.returnType = rt) && !meth.locks && decide (parseMethodDescriptor y.desc = some meth.sig)) = true) : (Jvm.Cond.code y bytes mx rt).before a s = true := by
  simp only [Bool.and_eq_true, beq_iff_eq, Bool.not_eq_true', decide_eq_true_eq] at h5
  obtain ⟨⟨⟨⟨⟨g1, g2⟩, g3⟩, g4⟩, g5⟩, g6⟩ := h5
  simp [Cond.before, Cond.holds, Cond.value, h1, h2, h3, h4, g1, g2, g3, g4, g5, g6]
def isCode : Jvm.Cond → Bool
  | .code _ _ _ _ => true
  | _ => false
theorem all_split {L : List Jvm.Cond} {P : Jvm.Cond → Bool} (h1 : L.all (fun c => isCode c || P c) = true) (h2 : ∀ c ∈ L.filter isCode, P c = true) : L.all P = true := by
  refine List.all_eq_true.mpr fun c hc => ?_
  have h := List.all_eq_true.mp h1 c hc
  rcases Bool.eq_false_or_eq_true (isCode c) with hi | hi
  · exact h2 c (List.mem_filter.mpr ⟨hc, hi⟩)
  · simpa [hi] using h
set_option maxRecDepth 65536 in
theorem w_c0 : (Jvm.Cond.code x code maxLocals ret).before args0 about1 = true := code_word (m := ⟨1, 3⟩) (meth := k1m3) (c := k1c3) (by decide +kernel) rfl rfl rfl (by decide +kernel)
set_option maxRecDepth 65536 in
theorem w_c1 : (Jvm.Cond.code ({ cls := "com/example/ferryline/ferryline/MemberStateRecoveredPinLaw", name := "state", desc := "(I)Lcom/example/ferryline/ferryline/MemberState;" } : Jvm.MethodName) method_2_code (1 : Nat) (Option.some (Jvm.ClassFile.FieldType.object "com/example/ferryline/ferryline/MemberState"))).before args0 about1 = true := code_word (m := ⟨1, 1⟩) (meth := k1m1) (c := k1c1) (by decide +kernel) rfl rfl rfl (by decide +kernel)
set_option maxRecDepth 65536 in
theorem w_c2 : (Jvm.Cond.code ({ cls := "com/example/ferryline/ferryline/MemberState", name := "recovered", desc := "()Lcom/example/ferryline/ferryline/MemberState;" } : Jvm.MethodName) prog_23_method_7_code (2 : Nat) (Option.some (Jvm.ClassFile.FieldType.object "com/example/ferryline/ferryline/MemberState"))).before args0 about1 = true := code_word (m := ⟨6, 2⟩) (meth := k6m2) (c := k6c2) (by decide +kernel) rfl rfl rfl (by decide +kernel)
set_option maxRecDepth 65536 in
theorem w_c3 : (Jvm.Cond.code ({ cls := "com/example/ferryline/ferryline/MemberStateRecoveredPinLaw", name := "expected", desc := "(I)Lcom/example/ferryline/ferryline/MemberState;" } : Jvm.MethodName) method_3_code (1 : Nat) (Option.some (Jvm.ClassFile.FieldType.object "com/example/ferryline/ferryline/MemberState"))).before args0 about1 = true := code_word (m := ⟨1, 2⟩) (meth := k1m2) (c := k1c2) (by decide +kernel) rfl rfl rfl (by decide +kernel)
set_option maxRecDepth 65536 in
theorem w_c4 : (Jvm.Cond.code ({ cls := "com/example/ferryline/ferryline/MemberState", name := "inError", desc := "()Z" } : Jvm.MethodName) prog_23_method_4_code (1 : Nat) (Option.some Jvm.ClassFile.FieldType.boolean)).before args0 about1 = true := code_word (m := ⟨6, 0⟩) (meth := k6m0) (c := k6c0) (by decide +kernel) rfl rfl rfl (by decide +kernel)
set_option maxRecDepth 65536 in
theorem w_c5 : (Jvm.Cond.code ({ cls := "com/example/ferryline/ferryline/MemberState", name := "chosen", desc := "()Lcom/example/ferryline/ferryline/MemberState;" } : Jvm.MethodName) prog_23_method_5_code (2 : Nat) (Option.some (Jvm.ClassFile.FieldType.object "com/example/ferryline/ferryline/MemberState"))).before args0 about1 = true := code_word (m := ⟨6, 1⟩) (meth := k6m1) (c := k6c1) (by decide +kernel) rfl rfl rfl (by decide +kernel)
def codes1 : List Jvm.Cond := [Jvm.Cond.code x code maxLocals ret, Jvm.Cond.code ({ cls := "com/example/ferryline/ferryline/MemberStateRecoveredPinLaw", name := "state", desc := "(I)Lcom/example/ferryline/ferryline/MemberState;" } : Jvm.MethodName) method_2_code (1 : Nat) (Option.some (Jvm.ClassFile.FieldType.object "com/example/ferryline/ferryline/MemberState")), Jvm.Cond.code ({ cls := "com/example/ferryline/ferryline/MemberState", name := "recovered", desc := "()Lcom/example/ferryline/ferryline/MemberState;" } : Jvm.MethodName) prog_23_method_7_code (2 : Nat) (Option.some (Jvm.ClassFile.FieldType.object "com/example/ferryline/ferryline/MemberState")), Jvm.Cond.code ({ cls := "com/example/ferryline/ferryline/MemberStateRecoveredPinLaw", name := "expected", desc := "(I)Lcom/example/ferryline/ferryline/MemberState;" } : Jvm.MethodName) method_3_code (1 : Nat) (Option.some (Jvm.ClassFile.FieldType.object "com/example/ferryline/ferryline/MemberState")), Jvm.Cond.code ({ cls := "com/example/ferryline/ferryline/MemberState", name := "inError", desc := "()Z" } : Jvm.MethodName) prog_23_method_4_code (1 : Nat) (Option.some Jvm.ClassFile.FieldType.boolean), Jvm.Cond.code ({ cls := "com/example/ferryline/ferryline/MemberState", name := "chosen", desc := "()Lcom/example/ferryline/ferryline/MemberState;" } : Jvm.MethodName) prog_23_method_5_code (2 : Nat) (Option.some (Jvm.ClassFile.FieldType.object "com/example/ferryline/ferryline/MemberState"))]
set_option maxRecDepth 65536 in
theorem codes_eq : words1.filter isCode = codes1 := rfl
theorem w_codes : ∀ c ∈ words1.filter isCode, c.before args0 about1 = true := by
  rw [codes_eq]
  intro c hc
  simp only [codes1, List.mem_cons, List.not_mem_nil, or_false] at hc
  rcases hc with rfl | rfl | rfl | rfl | rfl | rfl
  · exact w_c0
  · exact w_c1
  · exact w_c2
  · exact w_c3
  · exact w_c4
  · exact w_c5
set_option maxRecDepth 65536 in
theorem w_t1 : (words1.take 24).all (fun c => isCode c || c.before args0 about1) = true := by decide +kernel
set_option maxRecDepth 65536 in
theorem w_t2 : (words1.drop 24).all (fun c => isCode c || c.before args0 about1) = true := by decide +kernel
theorem w_tables : (allAtoms (Jvm.Cond.code x code maxLocals ret :: tables_1)).before args0 about1 = true := by
  rw [allAtoms_all]
  show words1.all (fun c => c.before args0 about1) = true
  refine all_split ?_ w_codes
  rw [← List.take_append_drop 24 words1, List.all_append, w_t1, w_t2]
  rfl
set_option maxRecDepth 65536 in
theorem w_case : (Jvm.Cond.and given_1 narrow_1).before args0 about1 = true := by decide +kernel
theorem w_applies : (headSpec (Jvm.Cond.code x code maxLocals ret :: tables_1) room_1).applies x e0.platform about1 = true :=
  (Spec.applies_iff w_frames).mpr ⟨w_running, w_runnable, w_alone, w_named, w_hears, w_ripe, w_room, w_tables⟩
theorem atStart : AtStart classFile x code maxLocals ret World_1 tables_1 room_1 Calls_1 rest_1 Pre_1 launch0 p0 e0 about1 theMethod args0 below0 :=
  ⟨lists_1, trivial, launch0.admits_env _ _ _, launch0.least_env, fairChoices_fair.cas, fairChoices_fair.clock, w_frames, w_args, w_heap, w_applies, trivial, trivial, w_case⟩
end start1
theorem witness_1 : WitnessClaimed_1 := ⟨start1.p0, start1.e0, start1.about1, start1.theMethod, start1.args0, start1.below0, start1.atStart⟩
end Jvm.Pilot.@@N@@
