import JvmDerived
import JvmDerived.Pilot.@@N@@Statement
import JvmDerived.Pilot.@@N@@Code
set_option linter.unusedVariables false
set_option linter.unusedSimpArgs false
namespace Jvm.RoadKit
open Sem ClassFile Op Lib Jvm.Stand Jvm.Free Jvm.LawKit
section New
variable {p : Program} {l : Launch} {e : Env} {R : Room} {s : State} {m : MethodId} {args : Array Value} {below : List Frame} {meth : Method} {c : Code} {T : State} {locs : List Loc} {cells slots : Nat}
theorem retI (X : Stand p l e R s m args below meth c T locs cells slots) (hx : p.tables.exec = Jvm.exec) {pc : Nat} {Ls : Array Slot} {z : Int32} {rest : List Value} (hret : meth.sig.returnType = some .int) (hd : decode c.code pc = .ok (.ireturn, 1)) {fs : List Frame}
    (hl : ∀ (f : JFrame) (acts : List Action), f.method = m → f.locked = none → f.entered = [] → (doReturn e (T.setTop f) acts (some (.int z))).1 = T.setFrames fs) : Steps p.tables e below (T.setTop (mkF m pc Ls (.int z :: rest))) (T.setFrames fs) := by
  have hm' : T.vm.method? m = some meth := X.method'
  have hn : narrow .int (.int z) = .int z := rfl
  show Steps p.tables e below (T.setTop { method := m, pc := pc, locals := Ls, stack := _ :: rest, locked := none }) _
  jvm_step X.here [X.here.top, hx, hd, hm', hret, hn]
  first | (intro acts; rw [hl _ acts rfl rfl rfl]) | rw [hl _ _ rfl rfl rfl]
  exact Steps.refl _
end New
end Jvm.RoadKit
namespace Jvm.Pilot.@@N@@
open Jvm Jvm.ClassFile Sem Op Lib Jvm.Free Jvm.Stand Jvm.LawKit Jvm.RoadKit Bundle Jvm.Pilot.@@N@@.Jvm.D
/-- what is left to run from S0 is what is left from T with the frame g on top -/
abbrev own_Pr (tb : Tables) (e : Env) (below : List Frame) (S0 T : State) (g : JFrame) : Prop := ∀ t, Steps tb e below (T.setTop g) t → Steps tb e below S0 t
/-- it returns the int r, the heap as it was -/
def own_QI (h0 : Heap) (n0 : Nat) (r : Int32) (v : Option Value) (h : Heap) (L : List Loc) : Prop := ∃ z, v = some (.int z) ∧ z = r ∧ Fr n0 L ∧ h = h0
def own_QJ (h0 : Heap) (n0 : Nat) (r : Int64) (v : Option Value) (h : Heap) (L : List Loc) : Prop := ∃ z, v = some (.long z) ∧ z = r ∧ Fr n0 L ∧ h = h0
def own_QR (h0 : Heap) (n0 : Nat) (r : Addr) (v : Option Value) (h : Heap) (L : List Loc) : Prop := ∃ z, v = some (.ref z) ∧ z = r ∧ Fr n0 L ∧ h = h0
def own_QL (n0 : Nat) (v : Option Value) (L : List Loc) : Prop := ∃ z : Int32, v = some (.int z) ∧ z = 1 ∧ Fr n0 L
def own_QV (h0 : Heap) (n0 : Nat) (v : Option Value) (h : Heap) (L : List Loc) : Prop := v = none ∧ Fr n0 L ∧ h = h0
theorem own_tab_other {Z : State} {h h' : Heap} {a b : Addr} {sl : Nat} {v : Value} {cl : Cell} {ty : FieldType} {n : Int32} (F : Tab Z h b cl ty n) (W : Wr h h' a sl v) (q : b ≠ a) : Tab Z h' b cl ty n := ⟨F.1.other W q, F.2⟩
theorem own_tab_keep {Z : State} {h h' : Heap} {b : Addr} {ws : List Addr} {cl : Cell} {ty : FieldType} {n : Int32} (F : Tab Z h b cl ty n) (K : Keep h h' ws) (q : b ∉ ws) : Tab Z h' b cl ty n := ⟨⟨K.2.1 b cl F.1.1 q, F.1.2⟩, F.2⟩
theorem own_tab {Z : State} {h : Heap} {a : Addr} {k : ClassId} {ty : FieldType} {n : Int32} {xs : List Int32} (F : Arv Z h a k ty n (xs.map Value.int) (.int 0)) : ∃ cl, Tab Z h a cl ty n ∧ ∀ j : Int32, ¬ j < 0 → j < n → atv cl j = xs.getD j.toNatClampNeg 0 := by
  obtain ⟨cl, A, -, S, hn, H, -⟩ := F
  have key : ∀ i, i < cl.slots.size → cl.slots[i]? = some (.int (xs.getD i 0)) := fun i hi => by
    rw [H i hi]; simp only [List.getD_eq_getElem?_getD, List.getElem?_map]
    cases xs[i]? <;> rfl
  have at' : ∀ j : Int32, ¬ (j < 0 ∨ cl.slots.size ≤ j.toNatClampNeg) → atv cl j = xs.getD j.toNatClampNeg 0 := fun j hj => atv_of (key _ (Nat.lt_of_not_le fun q => hj (Or.inr q)))
  exact ⟨cl, ⟨A, S, hn, fun j hj => by rw [at' j hj]; exact key _ (Nat.lt_of_not_le fun q => hj (Or.inr q))⟩, fun j h1 h2 => at' j (inb_of S ⟨h1, h2⟩)⟩
theorem own_lremM {p : Program} {l : Launch} {e : Env} {R : Room} {s : State} {m : MethodId} {args : Array Value} {below : List Frame} {meth : Method} {c : Code} {T : State} {locs : List Loc} {cells slots : Nat} {g : JFrame} {target : State} (X : Stand p l e R s m args below meth c T locs cells slots) (hx : p.tables.exec = Jvm.exec) (hg : g.method = m) {x y : Int64} {rest : List Value} (hd : decode c.code g.pc = .ok (.lrem, 1)) (hs : g.stack = .long y :: .long x :: rest) (hy : y ≠ 0)
    (hr : Steps p.tables e below (T.setTop { g with pc := g.pc + 1, stack := .long (x % y) :: rest }) target) : Steps p.tables e below (T.setTop g) target :=
  XS.lrem X.here hx hg hd hs hy (by rw [lrem_mod x y]; exact hr)
/-- one of four, by its place -/
def own_sel (a b c d j : Int32) : Int32 := if j = 0 then a else if j = 1 then b else if j = 2 then c else d
theorem own_lt0 {j : Int32} (h : j < 0) (h' : ¬ j < 0) : False := h' h
theorem own_lits {j n : Int32} (h1 : ¬ j < 0) (h2 : j < n) (k : Nat) (hn : n.toInt = k) (hk : k ≤ 4) : (0 < k ∧ j = 0) ∨ (1 < k ∧ j = 1) ∨ (2 < k ∧ j = 2) ∨ (3 < k ∧ j = 3) := by
  rw [Int32.lt_iff_toInt_lt] at h1 h2
  have e0 : (0 : Int32).toInt = 0 := rfl
  have e1 : (1 : Int32).toInt = 1 := rfl
  have e2 : (2 : Int32).toInt = 2 := rfl
  have e3 : (3 : Int32).toInt = 3 := rfl
  simp only [← Int32.toInt_inj, e0, e1, e2, e3]
  omega
def own_QP (Z : State) (a b c d k : Int32) (h0 : Heap) (n0 : Nat) (v : Option Value) (h : Heap) (L : List Loc) : Prop := ∃ (x : Addr) (cl : Cell), v = some (.ref x) ∧ Fr n0 L ∧ Keep h0 h [] ∧ h0.size ≤ x ∧ Tab Z h x cl .int k ∧ ∀ j : Int32, ¬ j < 0 → j < k → atv cl j = own_sel a b c d j
theorem d1_0 : decode method_4_code 0 = .ok (.iload_n 0, 1) := by decide +kernel
theorem d1_1 : decode method_4_code 1 = .ok (.ifCond .eq 8, 3) := by decide +kernel
theorem d1_4 : decode method_4_code 4 = .ok (.iload_n 0, 1) := by decide +kernel
theorem d1_5 : decode method_4_code 5 = .ok (.iconst 5, 1) := by decide +kernel
theorem d1_6 : decode method_4_code 6 = .ok (.if_icmp .ne 6, 3) := by decide +kernel
theorem d1_9 : decode method_4_code 9 = .ok (.bipush 42, 2) := by decide +kernel
theorem d1_11 : decode method_4_code 11 = .ok (.ireturn, 1) := by decide +kernel
theorem d1_12 : decode method_4_code 12 = .ok (.iload_n 0, 1) := by decide +kernel
theorem d1_13 : decode method_4_code 13 = .ok (.iconst 1, 1) := by decide +kernel
theorem d1_14 : decode method_4_code 14 = .ok (.if_icmp .eq 9, 3) := by decide +kernel
theorem d1_17 : decode method_4_code 17 = .ok (.iload_n 0, 1) := by decide +kernel
theorem d1_18 : decode method_4_code 18 = .ok (.bipush 6, 2) := by decide +kernel
theorem d1_20 : decode method_4_code 20 = .ok (.if_icmp .ne 6, 3) := by decide +kernel
theorem d1_23 : decode method_4_code 23 = .ok (.bipush 63, 2) := by decide +kernel
theorem d1_25 : decode method_4_code 25 = .ok (.ireturn, 1) := by decide +kernel
theorem d1_26 : decode method_4_code 26 = .ok (.iload_n 0, 1) := by decide +kernel
theorem d1_27 : decode method_4_code 27 = .ok (.iconst 2, 1) := by decide +kernel
theorem d1_28 : decode method_4_code 28 = .ok (.if_icmp .ne 6, 3) := by decide +kernel
theorem d1_31 : decode method_4_code 31 = .ok (.bipush 97, 2) := by decide +kernel
theorem d1_33 : decode method_4_code 33 = .ok (.ireturn, 1) := by decide +kernel
theorem d1_34 : decode method_4_code 34 = .ok (.iload_n 0, 1) := by decide +kernel
theorem d1_35 : decode method_4_code 35 = .ok (.iconst 3, 1) := by decide +kernel
theorem d1_36 : decode method_4_code 36 = .ok (.if_icmp .ne 5, 3) := by decide +kernel
theorem d1_39 : decode method_4_code 39 = .ok (.iload_n 1, 1) := by decide +kernel
theorem d1_40 : decode method_4_code 40 = .ok (.ireturn, 1) := by decide +kernel
theorem d1_41 : decode method_4_code 41 = .ok (.iload_n 0, 1) := by decide +kernel
theorem d1_42 : decode method_4_code 42 = .ok (.iconst 4, 1) := by decide +kernel
theorem d1_43 : decode method_4_code 43 = .ok (.if_icmp .ne 6, 3) := by decide +kernel
theorem d1_46 : decode method_4_code 46 = .ok (.bipush 98, 2) := by decide +kernel
theorem d1_48 : decode method_4_code 48 = .ok (.ireturn, 1) := by decide +kernel
theorem d1_49 : decode method_4_code 49 = .ok (.iload_n 1, 1) := by decide +kernel
theorem d1_50 : decode method_4_code 50 = .ok (.iconst 1, 1) := by decide +kernel
theorem d1_51 : decode method_4_code 51 = .ok (.iadd, 1) := by decide +kernel
theorem d1_52 : decode method_4_code 52 = .ok (.ireturn, 1) := by decide +kernel
theorem pn_1 : plainName "com/example/ferryline/ferryline/UriWorkerMapMatchesPinLaw" = true := by first | (simp [plainName, overriddenIn]; done) | decide +kernel
theorem ef_1 (m : MethodId) (p1 : Int32) (p2 : Int32) : entryFrame m #[(.int p1), (.int p2)] 2 = mkF m 0 #[.val (.int p1), .val (.int p2)] [] := by first | (simp [entryFrame, mkF, argsToLocals, Value.category]; done) | rfl
def own_f1 (p1 : Int32) (p2 : Int32) : Int32 := (if p1 = (0 : Int32) then (42 : Int32) else (if p1 = (5 : Int32) then (42 : Int32) else (if p1 = (1 : Int32) then (63 : Int32) else (if p1 = (6 : Int32) then (63 : Int32) else (if p1 = (2 : Int32) then (97 : Int32) else (if p1 = (3 : Int32) then p2 else (if p1 = (4 : Int32) then (98 : Int32) else (p2 + (1 : Int32)))))))))
set_option maxRecDepth 65536 in
set_option maxHeartbeats 40000000 in
theorem rm1 (l : Launch) (Z : State) (a0 : Array Value) (hw : ∀ d ∈ tables_1, d.before a0 Z = true) (ws : List Jvm.Cond) (p1 : Int32) (p2 : Int32)  (h0 : Heap) (n0 : Nat) (Z0 : n0 ≤ h0.size) :
    MetFree l (⟨"com/example/ferryline/ferryline/UriWorkerMapMatchesPinLaw", "psym", "(II)I"⟩ : MethodName) (head1 (Jvm.Cond.code (⟨"com/example/ferryline/ferryline/UriWorkerMapMatchesPinLaw", "psym", "(II)I"⟩ : MethodName) method_4_code 2 (some .int) :: ws) ({ frames := 0, cells := 0, slots := 0, locals := 0 } : Room)) (fun a U => a = #[(.int p1), (.int p2)] ∧ Z.Warmed39 U.vm ∧ U.heap = h0) (fun _ _ _ _ _ => True) (fun _ U o U' => ∃ v L, o = .returned v ∧ own_QI h0 n0 (own_f1 p1 p2) v U'.heap L ∧ FrameEnd U o U' L ({ frames := 0, cells := 0, slots := 0, locals := 0 } : Room).cells ({ frames := 0, cells := 0, slots := 0, locals := 0 } : Room).slots) := by
  refine MetFree.of_bodySF (plainFor_of_name pn_1) hisR ?_
  intro p e s m args below meth c s₁ Bd hml0 hP hK
  obtain ⟨rfl, hZ, hh⟩ := hP
  have hx := Bd.exec
  have hby := Bd.bytes
  have hml : c.maxLocals = 2 := hml0
  have hown : s.vm.findClass "com/example/ferryline/ferryline/UriWorkerMapMatchesPinLaw" = some m.cls := findClass_of_methodNamed Bd.named
  have hnm := (name_of_methodNamed Bd.named Bd.method).1
  have X0 : Stand p l e ({ frames := 0, cells := 0, slots := 0, locals := 0 } : Room) s m #[(.int p1), (.int p2)] below meth c s₁ [] 0 0 := Stand.of_body Bd
  have e0 : s₁.heap = h0 := by rw [← hh, Bd.state]; rfl
  have N0 := Fr.nil n0
  obtain ⟨S0, hS0⟩ : ∃ z, z = s₁.setTop (entryFrame m #[(.int p1), (.int p2)] 2) := ⟨_, rfl⟩
  have P0 : own_Pr p.tables e below S0 s₁ (mkF m 0 #[.val (.int p1), .val (.int p2)] []) := fun t k => hS0 ▸ castTop (ef_1 m p1 p2) k
  have P21 : own_Pr p.tables e below S0 s₁ (mkF m 1 #[.val (.int p1), .val (.int p2)] [(.int p1)]) := fun t k => P0 t (by
    refine XS.iloadN X0.here hx rfl (hb hby d1_0) rfl ?_
    exact k)
  by_cases hc1_22 : p1 = (0 : Int32)
  · have P23 : own_Pr p.tables e below S0 s₁ (mkF m 11 #[.val (.int p1), .val (.int p2)] [(.int (42 : Int32))]) := fun t k => P21 t (by
      refine XS.ifYes X0.here hx rfl (pc0 := 1) (pc' := 9) rfl (hb hby d1_1) rfl (XT.i0_eq_t hc1_22) (by decide) (by decide) ?_
      refine XS.bipush X0.here hx rfl (hb hby d1_9) ?_
      exact k)
    obtain ⟨fs, hr, hrun, hended, hW, hsame⟩ := X0.leave (v := some (.int (42 : Int32))) (fun h => by rw [Bd.returns] at h; cases h)
    have fin : Steps p.tables e below S0 (s₁.setFrames fs) := P23 _ (retI X0 hx Bd.returns (hb hby d1_11) hr)
    rw [hS0] at fin
    refine ⟨_, _, fin, hrun, hended, _, _, rfl, ?_, ⟨_, rfl⟩, hW, hsame.mono (by decide) (by decide)⟩
    show own_QI h0 n0 (own_f1 p1 p2) _ s₁.heap _
    rw [e0]
    exact ⟨_, rfl, (by unfold own_f1; rw [if_pos hc1_22]), N0, rfl⟩
  · have P24 : own_Pr p.tables e below S0 s₁ (mkF m 6 #[.val (.int p1), .val (.int p2)] [(.int (5 : Int32)), (.int p1)]) := fun t k => P21 t (by
      refine XS.ifNo X0.here hx rfl (hb hby d1_1) rfl (XT.i0_eq_f hc1_22) ?_
      refine XS.iloadN X0.here hx rfl (hb hby d1_4) rfl ?_
      refine XS.iconst X0.here hx rfl (hb hby d1_5) ?_
      exact k)
    by_cases hc6_25 : p1 = (5 : Int32)
    · have P26 : own_Pr p.tables e below S0 s₁ (mkF m 11 #[.val (.int p1), .val (.int p2)] [(.int (42 : Int32))]) := fun t k => P24 t (by
        refine XS.icmpNo X0.here hx rfl (hb hby d1_6) rfl (XT.ii_ne_f hc6_25) ?_
        refine XS.bipush X0.here hx rfl (hb hby d1_9) ?_
        exact k)
      obtain ⟨fs, hr, hrun, hended, hW, hsame⟩ := X0.leave (v := some (.int (42 : Int32))) (fun h => by rw [Bd.returns] at h; cases h)
      have fin : Steps p.tables e below S0 (s₁.setFrames fs) := P26 _ (retI X0 hx Bd.returns (hb hby d1_11) hr)
      rw [hS0] at fin
      refine ⟨_, _, fin, hrun, hended, _, _, rfl, ?_, ⟨_, rfl⟩, hW, hsame.mono (by decide) (by decide)⟩
      show own_QI h0 n0 (own_f1 p1 p2) _ s₁.heap _
      rw [e0]
      exact ⟨_, rfl, (by unfold own_f1; rw [if_neg hc1_22, if_pos hc6_25]), N0, rfl⟩
    · have P27 : own_Pr p.tables e below S0 s₁ (mkF m 14 #[.val (.int p1), .val (.int p2)] [(.int (1 : Int32)), (.int p1)]) := fun t k => P24 t (by
        refine XS.icmpYes X0.here hx rfl (pc0 := 6) (pc' := 12) rfl (hb hby d1_6) rfl (XT.ii_ne_t hc6_25) (by decide) (by decide) ?_
        refine XS.iloadN X0.here hx rfl (hb hby d1_12) rfl ?_
        refine XS.iconst X0.here hx rfl (hb hby d1_13) ?_
        exact k)
      by_cases hc14_28 : p1 = (1 : Int32)
      · have P29 : own_Pr p.tables e below S0 s₁ (mkF m 25 #[.val (.int p1), .val (.int p2)] [(.int (63 : Int32))]) := fun t k => P27 t (by
          refine XS.icmpYes X0.here hx rfl (pc0 := 14) (pc' := 23) rfl (hb hby d1_14) rfl (XT.ii_eq_t hc14_28) (by decide) (by decide) ?_
          refine XS.bipush X0.here hx rfl (hb hby d1_23) ?_
          exact k)
        obtain ⟨fs, hr, hrun, hended, hW, hsame⟩ := X0.leave (v := some (.int (63 : Int32))) (fun h => by rw [Bd.returns] at h; cases h)
        have fin : Steps p.tables e below S0 (s₁.setFrames fs) := P29 _ (retI X0 hx Bd.returns (hb hby d1_25) hr)
        rw [hS0] at fin
        refine ⟨_, _, fin, hrun, hended, _, _, rfl, ?_, ⟨_, rfl⟩, hW, hsame.mono (by decide) (by decide)⟩
        show own_QI h0 n0 (own_f1 p1 p2) _ s₁.heap _
        rw [e0]
        exact ⟨_, rfl, (by unfold own_f1; rw [if_neg hc1_22, if_neg hc6_25, if_pos hc14_28]), N0, rfl⟩
      · have P30 : own_Pr p.tables e below S0 s₁ (mkF m 20 #[.val (.int p1), .val (.int p2)] [(.int (6 : Int32)), (.int p1)]) := fun t k => P27 t (by
          refine XS.icmpNo X0.here hx rfl (hb hby d1_14) rfl (XT.ii_eq_f hc14_28) ?_
          refine XS.iloadN X0.here hx rfl (hb hby d1_17) rfl ?_
          refine XS.bipush X0.here hx rfl (hb hby d1_18) ?_
          exact k)
        by_cases hc20_31 : p1 = (6 : Int32)
        · have P32 : own_Pr p.tables e below S0 s₁ (mkF m 25 #[.val (.int p1), .val (.int p2)] [(.int (63 : Int32))]) := fun t k => P30 t (by
            refine XS.icmpNo X0.here hx rfl (hb hby d1_20) rfl (XT.ii_ne_f hc20_31) ?_
            refine XS.bipush X0.here hx rfl (hb hby d1_23) ?_
            exact k)
          obtain ⟨fs, hr, hrun, hended, hW, hsame⟩ := X0.leave (v := some (.int (63 : Int32))) (fun h => by rw [Bd.returns] at h; cases h)
          have fin : Steps p.tables e below S0 (s₁.setFrames fs) := P32 _ (retI X0 hx Bd.returns (hb hby d1_25) hr)
          rw [hS0] at fin
          refine ⟨_, _, fin, hrun, hended, _, _, rfl, ?_, ⟨_, rfl⟩, hW, hsame.mono (by decide) (by decide)⟩
          show own_QI h0 n0 (own_f1 p1 p2) _ s₁.heap _
          rw [e0]
          exact ⟨_, rfl, (by unfold own_f1; rw [if_neg hc1_22, if_neg hc6_25, if_neg hc14_28, if_pos hc20_31]), N0, rfl⟩
        · have P33 : own_Pr p.tables e below S0 s₁ (mkF m 28 #[.val (.int p1), .val (.int p2)] [(.int (2 : Int32)), (.int p1)]) := fun t k => P30 t (by
            refine XS.icmpYes X0.here hx rfl (pc0 := 20) (pc' := 26) rfl (hb hby d1_20) rfl (XT.ii_ne_t hc20_31) (by decide) (by decide) ?_
            refine XS.iloadN X0.here hx rfl (hb hby d1_26) rfl ?_
            refine XS.iconst X0.here hx rfl (hb hby d1_27) ?_
            exact k)
          by_cases hc28_34 : p1 = (2 : Int32)
          · have P35 : own_Pr p.tables e below S0 s₁ (mkF m 33 #[.val (.int p1), .val (.int p2)] [(.int (97 : Int32))]) := fun t k => P33 t (by
              refine XS.icmpNo X0.here hx rfl (hb hby d1_28) rfl (XT.ii_ne_f hc28_34) ?_
              refine XS.bipush X0.here hx rfl (hb hby d1_31) ?_
              exact k)
            obtain ⟨fs, hr, hrun, hended, hW, hsame⟩ := X0.leave (v := some (.int (97 : Int32))) (fun h => by rw [Bd.returns] at h; cases h)
            have fin : Steps p.tables e below S0 (s₁.setFrames fs) := P35 _ (retI X0 hx Bd.returns (hb hby d1_33) hr)
            rw [hS0] at fin
            refine ⟨_, _, fin, hrun, hended, _, _, rfl, ?_, ⟨_, rfl⟩, hW, hsame.mono (by decide) (by decide)⟩
            show own_QI h0 n0 (own_f1 p1 p2) _ s₁.heap _
            rw [e0]
            exact ⟨_, rfl, (by unfold own_f1; rw [if_neg hc1_22, if_neg hc6_25, if_neg hc14_28, if_neg hc20_31, if_pos hc28_34]), N0, rfl⟩
          · have P36 : own_Pr p.tables e below S0 s₁ (mkF m 36 #[.val (.int p1), .val (.int p2)] [(.int (3 : Int32)), (.int p1)]) := fun t k => P33 t (by
              refine XS.icmpYes X0.here hx rfl (pc0 := 28) (pc' := 34) rfl (hb hby d1_28) rfl (XT.ii_ne_t hc28_34) (by decide) (by decide) ?_
              refine XS.iloadN X0.here hx rfl (hb hby d1_34) rfl ?_
              refine XS.iconst X0.here hx rfl (hb hby d1_35) ?_
              exact k)
            by_cases hc36_37 : p1 = (3 : Int32)
            · have P38 : own_Pr p.tables e below S0 s₁ (mkF m 40 #[.val (.int p1), .val (.int p2)] [(.int p2)]) := fun t k => P36 t (by
                refine XS.icmpNo X0.here hx rfl (hb hby d1_36) rfl (XT.ii_ne_f hc36_37) ?_
                refine XS.iloadN X0.here hx rfl (hb hby d1_39) rfl ?_
                exact k)
              obtain ⟨fs, hr, hrun, hended, hW, hsame⟩ := X0.leave (v := some (.int p2)) (fun h => by rw [Bd.returns] at h; cases h)
              have fin : Steps p.tables e below S0 (s₁.setFrames fs) := P38 _ (retI X0 hx Bd.returns (hb hby d1_40) hr)
              rw [hS0] at fin
              refine ⟨_, _, fin, hrun, hended, _, _, rfl, ?_, ⟨_, rfl⟩, hW, hsame.mono (by decide) (by decide)⟩
              show own_QI h0 n0 (own_f1 p1 p2) _ s₁.heap _
              rw [e0]
              exact ⟨_, rfl, (by unfold own_f1; rw [if_neg hc1_22, if_neg hc6_25, if_neg hc14_28, if_neg hc20_31, if_neg hc28_34, if_pos hc36_37]), N0, rfl⟩
            · have P39 : own_Pr p.tables e below S0 s₁ (mkF m 43 #[.val (.int p1), .val (.int p2)] [(.int (4 : Int32)), (.int p1)]) := fun t k => P36 t (by
                refine XS.icmpYes X0.here hx rfl (pc0 := 36) (pc' := 41) rfl (hb hby d1_36) rfl (XT.ii_ne_t hc36_37) (by decide) (by decide) ?_
                refine XS.iloadN X0.here hx rfl (hb hby d1_41) rfl ?_
                refine XS.iconst X0.here hx rfl (hb hby d1_42) ?_
                exact k)
              by_cases hc43_40 : p1 = (4 : Int32)
              · have P41 : own_Pr p.tables e below S0 s₁ (mkF m 48 #[.val (.int p1), .val (.int p2)] [(.int (98 : Int32))]) := fun t k => P39 t (by
                  refine XS.icmpNo X0.here hx rfl (hb hby d1_43) rfl (XT.ii_ne_f hc43_40) ?_
                  refine XS.bipush X0.here hx rfl (hb hby d1_46) ?_
                  exact k)
                obtain ⟨fs, hr, hrun, hended, hW, hsame⟩ := X0.leave (v := some (.int (98 : Int32))) (fun h => by rw [Bd.returns] at h; cases h)
                have fin : Steps p.tables e below S0 (s₁.setFrames fs) := P41 _ (retI X0 hx Bd.returns (hb hby d1_48) hr)
                rw [hS0] at fin
                refine ⟨_, _, fin, hrun, hended, _, _, rfl, ?_, ⟨_, rfl⟩, hW, hsame.mono (by decide) (by decide)⟩
                show own_QI h0 n0 (own_f1 p1 p2) _ s₁.heap _
                rw [e0]
                exact ⟨_, rfl, (by unfold own_f1; rw [if_neg hc1_22, if_neg hc6_25, if_neg hc14_28, if_neg hc20_31, if_neg hc28_34, if_neg hc36_37, if_pos hc43_40]), N0, rfl⟩
              · have P42 : own_Pr p.tables e below S0 s₁ (mkF m 52 #[.val (.int p1), .val (.int p2)] [(.int (p2 + (1 : Int32)))]) := fun t k => P39 t (by
                  refine XS.icmpYes X0.here hx rfl (pc0 := 43) (pc' := 49) rfl (hb hby d1_43) rfl (XT.ii_ne_t hc43_40) (by decide) (by decide) ?_
                  refine XS.iloadN X0.here hx rfl (hb hby d1_49) rfl ?_
                  refine XS.iconst X0.here hx rfl (hb hby d1_50) ?_
                  refine XS.iadd X0.here hx rfl (hb hby d1_51) rfl ?_
                  exact k)
                obtain ⟨fs, hr, hrun, hended, hW, hsame⟩ := X0.leave (v := some (.int (p2 + (1 : Int32)))) (fun h => by rw [Bd.returns] at h; cases h)
                have fin : Steps p.tables e below S0 (s₁.setFrames fs) := P42 _ (retI X0 hx Bd.returns (hb hby d1_52) hr)
                rw [hS0] at fin
                refine ⟨_, _, fin, hrun, hended, _, _, rfl, ?_, ⟨_, rfl⟩, hW, hsame.mono (by decide) (by decide)⟩
                show own_QI h0 n0 (own_f1 p1 p2) _ s₁.heap _
                rw [e0]
                exact ⟨_, rfl, (by unfold own_f1; rw [if_neg hc1_22, if_neg hc6_25, if_neg hc14_28, if_neg hc20_31, if_neg hc28_34, if_neg hc36_37, if_neg hc43_40]), N0, rfl⟩
theorem d2_0 : decode method_5_code 0 = .ok (.iload_n 0, 1) := by decide +kernel
theorem d2_1 : decode method_5_code 1 = .ok (.ifCond .ne 6, 3) := by decide +kernel
theorem d2_4 : decode method_5_code 4 = .ok (.bipush 97, 2) := by decide +kernel
theorem d2_6 : decode method_5_code 6 = .ok (.ireturn, 1) := by decide +kernel
theorem d2_7 : decode method_5_code 7 = .ok (.iload_n 0, 1) := by decide +kernel
theorem d2_8 : decode method_5_code 8 = .ok (.iconst 1, 1) := by decide +kernel
theorem d2_9 : decode method_5_code 9 = .ok (.if_icmp .ne 5, 3) := by decide +kernel
theorem d2_12 : decode method_5_code 12 = .ok (.iload_n 1, 1) := by decide +kernel
theorem d2_13 : decode method_5_code 13 = .ok (.ireturn, 1) := by decide +kernel
theorem d2_14 : decode method_5_code 14 = .ok (.iload_n 0, 1) := by decide +kernel
theorem d2_15 : decode method_5_code 15 = .ok (.iconst 2, 1) := by decide +kernel
theorem d2_16 : decode method_5_code 16 = .ok (.if_icmp .ne 6, 3) := by decide +kernel
theorem d2_19 : decode method_5_code 19 = .ok (.bipush 63, 2) := by decide +kernel
theorem d2_21 : decode method_5_code 21 = .ok (.ireturn, 1) := by decide +kernel
theorem d2_22 : decode method_5_code 22 = .ok (.iload_n 0, 1) := by decide +kernel
theorem d2_23 : decode method_5_code 23 = .ok (.iconst 3, 1) := by decide +kernel
theorem d2_24 : decode method_5_code 24 = .ok (.if_icmp .ne 6, 3) := by decide +kernel
theorem d2_27 : decode method_5_code 27 = .ok (.bipush 42, 2) := by decide +kernel
theorem d2_29 : decode method_5_code 29 = .ok (.ireturn, 1) := by decide +kernel
theorem d2_30 : decode method_5_code 30 = .ok (.iload_n 0, 1) := by decide +kernel
theorem d2_31 : decode method_5_code 31 = .ok (.iconst 4, 1) := by decide +kernel
theorem d2_32 : decode method_5_code 32 = .ok (.if_icmp .ne 7, 3) := by decide +kernel
theorem d2_35 : decode method_5_code 35 = .ok (.iload_n 1, 1) := by decide +kernel
theorem d2_36 : decode method_5_code 36 = .ok (.iconst 1, 1) := by decide +kernel
theorem d2_37 : decode method_5_code 37 = .ok (.iadd, 1) := by decide +kernel
theorem d2_38 : decode method_5_code 38 = .ok (.ireturn, 1) := by decide +kernel
theorem d2_39 : decode method_5_code 39 = .ok (.bipush 98, 2) := by decide +kernel
theorem d2_41 : decode method_5_code 41 = .ok (.ireturn, 1) := by decide +kernel
theorem ef_2 (m : MethodId) (p1 : Int32) (p2 : Int32) : entryFrame m #[(.int p1), (.int p2)] 2 = mkF m 0 #[.val (.int p1), .val (.int p2)] [] := by first | (simp [entryFrame, mkF, argsToLocals, Value.category]; done) | rfl
def own_f2 (p1 : Int32) (p2 : Int32) : Int32 := (if p1 = (0 : Int32) then (97 : Int32) else (if p1 = (1 : Int32) then p2 else (if p1 = (2 : Int32) then (63 : Int32) else (if p1 = (3 : Int32) then (42 : Int32) else (if p1 = (4 : Int32) then (p2 + (1 : Int32)) else (98 : Int32))))))
set_option maxRecDepth 65536 in
set_option maxHeartbeats 40000000 in
theorem rm2 (l : Launch) (Z : State) (a0 : Array Value) (hw : ∀ d ∈ tables_1, d.before a0 Z = true) (ws : List Jvm.Cond) (p1 : Int32) (p2 : Int32)  (h0 : Heap) (n0 : Nat) (Z0 : n0 ≤ h0.size) :
    MetFree l (⟨"com/example/ferryline/ferryline/UriWorkerMapMatchesPinLaw", "tsym", "(II)I"⟩ : MethodName) (head1 (Jvm.Cond.code (⟨"com/example/ferryline/ferryline/UriWorkerMapMatchesPinLaw", "tsym", "(II)I"⟩ : MethodName) method_5_code 2 (some .int) :: ws) ({ frames := 0, cells := 0, slots := 0, locals := 0 } : Room)) (fun a U => a = #[(.int p1), (.int p2)] ∧ Z.Warmed39 U.vm ∧ U.heap = h0) (fun _ _ _ _ _ => True) (fun _ U o U' => ∃ v L, o = .returned v ∧ own_QI h0 n0 (own_f2 p1 p2) v U'.heap L ∧ FrameEnd U o U' L ({ frames := 0, cells := 0, slots := 0, locals := 0 } : Room).cells ({ frames := 0, cells := 0, slots := 0, locals := 0 } : Room).slots) := by
  refine MetFree.of_bodySF (plainFor_of_name pn_1) hisR ?_
  intro p e s m args below meth c s₁ Bd hml0 hP hK
  obtain ⟨rfl, hZ, hh⟩ := hP
  have hx := Bd.exec
  have hby := Bd.bytes
  have hml : c.maxLocals = 2 := hml0
  have hown : s.vm.findClass "com/example/ferryline/ferryline/UriWorkerMapMatchesPinLaw" = some m.cls := findClass_of_methodNamed Bd.named
  have hnm := (name_of_methodNamed Bd.named Bd.method).1
  have X0 : Stand p l e ({ frames := 0, cells := 0, slots := 0, locals := 0 } : Room) s m #[(.int p1), (.int p2)] below meth c s₁ [] 0 0 := Stand.of_body Bd
  have e0 : s₁.heap = h0 := by rw [← hh, Bd.state]; rfl
  have N0 := Fr.nil n0
  obtain ⟨S0, hS0⟩ : ∃ z, z = s₁.setTop (entryFrame m #[(.int p1), (.int p2)] 2) := ⟨_, rfl⟩
  have P0 : own_Pr p.tables e below S0 s₁ (mkF m 0 #[.val (.int p1), .val (.int p2)] []) := fun t k => hS0 ▸ castTop (ef_2 m p1 p2) k
  have P21 : own_Pr p.tables e below S0 s₁ (mkF m 1 #[.val (.int p1), .val (.int p2)] [(.int p1)]) := fun t k => P0 t (by
    refine XS.iloadN X0.here hx rfl (hb hby d2_0) rfl ?_
    exact k)
  by_cases hc1_22 : p1 = (0 : Int32)
  · have P23 : own_Pr p.tables e below S0 s₁ (mkF m 6 #[.val (.int p1), .val (.int p2)] [(.int (97 : Int32))]) := fun t k => P21 t (by
      refine XS.ifNo X0.here hx rfl (hb hby d2_1) rfl (XT.i0_ne_f hc1_22) ?_
      refine XS.bipush X0.here hx rfl (hb hby d2_4) ?_
      exact k)
    obtain ⟨fs, hr, hrun, hended, hW, hsame⟩ := X0.leave (v := some (.int (97 : Int32))) (fun h => by rw [Bd.returns] at h; cases h)
    have fin : Steps p.tables e below S0 (s₁.setFrames fs) := P23 _ (retI X0 hx Bd.returns (hb hby d2_6) hr)
    rw [hS0] at fin
    refine ⟨_, _, fin, hrun, hended, _, _, rfl, ?_, ⟨_, rfl⟩, hW, hsame.mono (by decide) (by decide)⟩
    show own_QI h0 n0 (own_f2 p1 p2) _ s₁.heap _
    rw [e0]
    exact ⟨_, rfl, (by unfold own_f2; rw [if_pos hc1_22]), N0, rfl⟩
  · have P24 : own_Pr p.tables e below S0 s₁ (mkF m 9 #[.val (.int p1), .val (.int p2)] [(.int (1 : Int32)), (.int p1)]) := fun t k => P21 t (by
      refine XS.ifYes X0.here hx rfl (pc0 := 1) (pc' := 7) rfl (hb hby d2_1) rfl (XT.i0_ne_t hc1_22) (by decide) (by decide) ?_
      refine XS.iloadN X0.here hx rfl (hb hby d2_7) rfl ?_
      refine XS.iconst X0.here hx rfl (hb hby d2_8) ?_
      exact k)
    by_cases hc9_25 : p1 = (1 : Int32)
    · have P26 : own_Pr p.tables e below S0 s₁ (mkF m 13 #[.val (.int p1), .val (.int p2)] [(.int p2)]) := fun t k => P24 t (by
        refine XS.icmpNo X0.here hx rfl (hb hby d2_9) rfl (XT.ii_ne_f hc9_25) ?_
        refine XS.iloadN X0.here hx rfl (hb hby d2_12) rfl ?_
        exact k)
      obtain ⟨fs, hr, hrun, hended, hW, hsame⟩ := X0.leave (v := some (.int p2)) (fun h => by rw [Bd.returns] at h; cases h)
      have fin : Steps p.tables e below S0 (s₁.setFrames fs) := P26 _ (retI X0 hx Bd.returns (hb hby d2_13) hr)
      rw [hS0] at fin
      refine ⟨_, _, fin, hrun, hended, _, _, rfl, ?_, ⟨_, rfl⟩, hW, hsame.mono (by decide) (by decide)⟩
      show own_QI h0 n0 (own_f2 p1 p2) _ s₁.heap _
      rw [e0]
      exact ⟨_, rfl, (by unfold own_f2; rw [if_neg hc1_22, if_pos hc9_25]), N0, rfl⟩
    · have P27 : own_Pr p.tables e below S0 s₁ (mkF m 16 #[.val (.int p1), .val (.int p2)] [(.int (2 : Int32)), (.int p1)]) := fun t k => P24 t (by
        refine XS.icmpYes X0.here hx rfl (pc0 := 9) (pc' := 14) rfl (hb hby d2_9) rfl (XT.ii_ne_t hc9_25) (by decide) (by decide) ?_
        refine XS.iloadN X0.here hx rfl (hb hby d2_14) rfl ?_
        refine XS.iconst X0.here hx rfl (hb hby d2_15) ?_
        exact k)
      by_cases hc16_28 : p1 = (2 : Int32)
      · have P29 : own_Pr p.tables e below S0 s₁ (mkF m 21 #[.val (.int p1), .val (.int p2)] [(.int (63 : Int32))]) := fun t k => P27 t (by
          refine XS.icmpNo X0.here hx rfl (hb hby d2_16) rfl (XT.ii_ne_f hc16_28) ?_
          refine XS.bipush X0.here hx rfl (hb hby d2_19) ?_
          exact k)
        obtain ⟨fs, hr, hrun, hended, hW, hsame⟩ := X0.leave (v := some (.int (63 : Int32))) (fun h => by rw [Bd.returns] at h; cases h)
        have fin : Steps p.tables e below S0 (s₁.setFrames fs) := P29 _ (retI X0 hx Bd.returns (hb hby d2_21) hr)
        rw [hS0] at fin
        refine ⟨_, _, fin, hrun, hended, _, _, rfl, ?_, ⟨_, rfl⟩, hW, hsame.mono (by decide) (by decide)⟩
        show own_QI h0 n0 (own_f2 p1 p2) _ s₁.heap _
        rw [e0]
        exact ⟨_, rfl, (by unfold own_f2; rw [if_neg hc1_22, if_neg hc9_25, if_pos hc16_28]), N0, rfl⟩
      · have P30 : own_Pr p.tables e below S0 s₁ (mkF m 24 #[.val (.int p1), .val (.int p2)] [(.int (3 : Int32)), (.int p1)]) := fun t k => P27 t (by
          refine XS.icmpYes X0.here hx rfl (pc0 := 16) (pc' := 22) rfl (hb hby d2_16) rfl (XT.ii_ne_t hc16_28) (by decide) (by decide) ?_
          refine XS.iloadN X0.here hx rfl (hb hby d2_22) rfl ?_
          refine XS.iconst X0.here hx rfl (hb hby d2_23) ?_
          exact k)
        by_cases hc24_31 : p1 = (3 : Int32)
        · have P32 : own_Pr p.tables e below S0 s₁ (mkF m 29 #[.val (.int p1), .val (.int p2)] [(.int (42 : Int32))]) := fun t k => P30 t (by
            refine XS.icmpNo X0.here hx rfl (hb hby d2_24) rfl (XT.ii_ne_f hc24_31) ?_
            refine XS.bipush X0.here hx rfl (hb hby d2_27) ?_
            exact k)
          obtain ⟨fs, hr, hrun, hended, hW, hsame⟩ := X0.leave (v := some (.int (42 : Int32))) (fun h => by rw [Bd.returns] at h; cases h)
          have fin : Steps p.tables e below S0 (s₁.setFrames fs) := P32 _ (retI X0 hx Bd.returns (hb hby d2_29) hr)
          rw [hS0] at fin
          refine ⟨_, _, fin, hrun, hended, _, _, rfl, ?_, ⟨_, rfl⟩, hW, hsame.mono (by decide) (by decide)⟩
          show own_QI h0 n0 (own_f2 p1 p2) _ s₁.heap _
          rw [e0]
          exact ⟨_, rfl, (by unfold own_f2; rw [if_neg hc1_22, if_neg hc9_25, if_neg hc16_28, if_pos hc24_31]), N0, rfl⟩
        · have P33 : own_Pr p.tables e below S0 s₁ (mkF m 32 #[.val (.int p1), .val (.int p2)] [(.int (4 : Int32)), (.int p1)]) := fun t k => P30 t (by
            refine XS.icmpYes X0.here hx rfl (pc0 := 24) (pc' := 30) rfl (hb hby d2_24) rfl (XT.ii_ne_t hc24_31) (by decide) (by decide) ?_
            refine XS.iloadN X0.here hx rfl (hb hby d2_30) rfl ?_
            refine XS.iconst X0.here hx rfl (hb hby d2_31) ?_
            exact k)
          by_cases hc32_34 : p1 = (4 : Int32)
          · have P35 : own_Pr p.tables e below S0 s₁ (mkF m 38 #[.val (.int p1), .val (.int p2)] [(.int (p2 + (1 : Int32)))]) := fun t k => P33 t (by
              refine XS.icmpNo X0.here hx rfl (hb hby d2_32) rfl (XT.ii_ne_f hc32_34) ?_
              refine XS.iloadN X0.here hx rfl (hb hby d2_35) rfl ?_
              refine XS.iconst X0.here hx rfl (hb hby d2_36) ?_
              refine XS.iadd X0.here hx rfl (hb hby d2_37) rfl ?_
              exact k)
            obtain ⟨fs, hr, hrun, hended, hW, hsame⟩ := X0.leave (v := some (.int (p2 + (1 : Int32)))) (fun h => by rw [Bd.returns] at h; cases h)
            have fin : Steps p.tables e below S0 (s₁.setFrames fs) := P35 _ (retI X0 hx Bd.returns (hb hby d2_38) hr)
            rw [hS0] at fin
            refine ⟨_, _, fin, hrun, hended, _, _, rfl, ?_, ⟨_, rfl⟩, hW, hsame.mono (by decide) (by decide)⟩
            show own_QI h0 n0 (own_f2 p1 p2) _ s₁.heap _
            rw [e0]
            exact ⟨_, rfl, (by unfold own_f2; rw [if_neg hc1_22, if_neg hc9_25, if_neg hc16_28, if_neg hc24_31, if_pos hc32_34]), N0, rfl⟩
          · have P36 : own_Pr p.tables e below S0 s₁ (mkF m 41 #[.val (.int p1), .val (.int p2)] [(.int (98 : Int32))]) := fun t k => P33 t (by
              refine XS.icmpYes X0.here hx rfl (pc0 := 32) (pc' := 39) rfl (hb hby d2_32) rfl (XT.ii_ne_t hc32_34) (by decide) (by decide) ?_
              refine XS.bipush X0.here hx rfl (hb hby d2_39) ?_
              exact k)
            obtain ⟨fs, hr, hrun, hended, hW, hsame⟩ := X0.leave (v := some (.int (98 : Int32))) (fun h => by rw [Bd.returns] at h; cases h)
            have fin : Steps p.tables e below S0 (s₁.setFrames fs) := P36 _ (retI X0 hx Bd.returns (hb hby d2_41) hr)
            rw [hS0] at fin
            refine ⟨_, _, fin, hrun, hended, _, _, rfl, ?_, ⟨_, rfl⟩, hW, hsame.mono (by decide) (by decide)⟩
            show own_QI h0 n0 (own_f2 p1 p2) _ s₁.heap _
            rw [e0]
            exact ⟨_, rfl, (by unfold own_f2; rw [if_neg hc1_22, if_neg hc9_25, if_neg hc16_28, if_neg hc24_31, if_neg hc32_34]), N0, rfl⟩
theorem d5_0 : decode method_3_code 0 = .ok (.iload_n 0, 1) := by decide +kernel
theorem d5_1 : decode method_3_code 1 = .ok (.iload_n 2, 1) := by decide +kernel
theorem d5_2 : decode method_3_code 2 = .ok (.if_icmp .lt 14, 3) := by decide +kernel
theorem d5_5 : decode method_3_code 5 = .ok (.iload_n 1, 1) := by decide +kernel
theorem d5_6 : decode method_3_code 6 = .ok (.iload_n 3, 1) := by decide +kernel
theorem d5_7 : decode method_3_code 7 = .ok (.if_icmp .ne 7, 3) := by decide +kernel
theorem d5_10 : decode method_3_code 10 = .ok (.iconst 1, 1) := by decide +kernel
theorem d5_11 : decode method_3_code 11 = .ok (.goto 4, 3) := by decide +kernel
theorem d5_14 : decode method_3_code 14 = .ok (.iconst 0, 1) := by decide +kernel
theorem d5_15 : decode method_3_code 15 = .ok (.ireturn, 1) := by decide +kernel
theorem d5_16 : decode method_3_code 16 = .ok (.iload 4, 2) := by decide +kernel
theorem d5_18 : decode method_3_code 18 = .ok (.bipush 42, 2) := by decide +kernel
theorem d5_20 : decode method_3_code 20 = .ok (.if_icmp .ne 24, 3) := by decide +kernel
theorem d5_23 : decode method_3_code 23 = .ok (.iload 7, 2) := by decide +kernel
theorem d5_25 : decode method_3_code 25 = .ok (.ifCond .ne 13, 3) := by decide +kernel
theorem d5_28 : decode method_3_code 28 = .ok (.iload_n 1, 1) := by decide +kernel
theorem d5_29 : decode method_3_code 29 = .ok (.iload_n 3, 1) := by decide +kernel
theorem d5_30 : decode method_3_code 30 = .ok (.if_icmp .ge 12, 3) := by decide +kernel
theorem d5_33 : decode method_3_code 33 = .ok (.iload 6, 2) := by decide +kernel
theorem d5_35 : decode method_3_code 35 = .ok (.ifCond .eq 7, 3) := by decide +kernel
theorem d5_38 : decode method_3_code 38 = .ok (.iconst 1, 1) := by decide +kernel
theorem d5_39 : decode method_3_code 39 = .ok (.goto 4, 3) := by decide +kernel
theorem d5_42 : decode method_3_code 42 = .ok (.iconst 0, 1) := by decide +kernel
theorem d5_43 : decode method_3_code 43 = .ok (.ireturn, 1) := by decide +kernel
theorem d5_44 : decode method_3_code 44 = .ok (.iload_n 1, 1) := by decide +kernel
theorem d5_45 : decode method_3_code 45 = .ok (.iload_n 3, 1) := by decide +kernel
theorem d5_46 : decode method_3_code 46 = .ok (.if_icmp .ge 26, 3) := by decide +kernel
theorem d5_49 : decode method_3_code 49 = .ok (.iload 4, 2) := by decide +kernel
theorem d5_51 : decode method_3_code 51 = .ok (.bipush 63, 2) := by decide +kernel
theorem d5_53 : decode method_3_code 53 = .ok (.if_icmp .eq 10, 3) := by decide +kernel
theorem d5_56 : decode method_3_code 56 = .ok (.iload 4, 2) := by decide +kernel
theorem d5_58 : decode method_3_code 58 = .ok (.iload 5, 2) := by decide +kernel
theorem d5_60 : decode method_3_code 60 = .ok (.if_icmp .ne 12, 3) := by decide +kernel
theorem d5_63 : decode method_3_code 63 = .ok (.iload 8, 2) := by decide +kernel
theorem d5_65 : decode method_3_code 65 = .ok (.ifCond .eq 7, 3) := by decide +kernel
theorem d5_68 : decode method_3_code 68 = .ok (.iconst 1, 1) := by decide +kernel
theorem d5_69 : decode method_3_code 69 = .ok (.goto 4, 3) := by decide +kernel
theorem d5_72 : decode method_3_code 72 = .ok (.iconst 0, 1) := by decide +kernel
theorem d5_73 : decode method_3_code 73 = .ok (.ireturn, 1) := by decide +kernel
theorem ef_5 (m : MethodId) (p1 : Int32) (p2 : Int32) (p3 : Int32) (p4 : Int32) (p5 : Int32) (p6 : Int32) (p7 : Int32) (p8 : Int32) (p9 : Int32) : entryFrame m #[(.int p1), (.int p2), (.int p3), (.int p4), (.int p5), (.int p6), (.int p7), (.int p8), (.int p9)] 9 = mkF m 0 #[.val (.int p1), .val (.int p2), .val (.int p3), .val (.int p4), .val (.int p5), .val (.int p6), .val (.int p7), .val (.int p8), .val (.int p9)] [] := by first | (simp [entryFrame, mkF, argsToLocals, Value.category]; done) | rfl
def own_f5 (p1 : Int32) (p2 : Int32) (p3 : Int32) (p4 : Int32) (p5 : Int32) (p6 : Int32) (p7 : Int32) (p8 : Int32) (p9 : Int32) : Int32 := (if p1 < p3 then (if p5 = (42 : Int32) then (if p8 = (0 : Int32) then (if p2 < p4 then (if p7 = (0 : Int32) then (0 : Int32) else (1 : Int32)) else (0 : Int32)) else (1 : Int32)) else (if p2 < p4 then (if p5 = (63 : Int32) then (if p9 = (0 : Int32) then (0 : Int32) else (1 : Int32)) else (if p5 = p6 then (if p9 = (0 : Int32) then (0 : Int32) else (1 : Int32)) else (0 : Int32))) else (0 : Int32))) else (if p2 = p4 then (1 : Int32) else (0 : Int32)))
set_option maxRecDepth 65536 in
set_option maxHeartbeats 40000000 in
theorem rm5 (l : Launch) (Z : State) (a0 : Array Value) (hw : ∀ d ∈ tables_1, d.before a0 Z = true) (ws : List Jvm.Cond) (p1 : Int32) (p2 : Int32) (p3 : Int32) (p4 : Int32) (p5 : Int32) (p6 : Int32) (p7 : Int32) (p8 : Int32) (p9 : Int32)  (h0 : Heap) (n0 : Nat) (Z0 : n0 ≤ h0.size) :
    MetFree l (⟨"com/example/ferryline/ferryline/UriWorkerMapMatchesPinLaw", "cell", "(IIIIIIZZZ)Z"⟩ : MethodName) (head1 (Jvm.Cond.code (⟨"com/example/ferryline/ferryline/UriWorkerMapMatchesPinLaw", "cell", "(IIIIIIZZZ)Z"⟩ : MethodName) method_3_code 9 (some .boolean) :: ws) ({ frames := 0, cells := 0, slots := 0, locals := 0 } : Room)) (fun a U => a = #[(.int p1), (.int p2), (.int p3), (.int p4), (.int p5), (.int p6), (.int p7), (.int p8), (.int p9)] ∧ Z.Warmed39 U.vm ∧ U.heap = h0) (fun _ _ _ _ _ => True) (fun _ U o U' => ∃ v L, o = .returned v ∧ own_QI h0 n0 (own_f5 p1 p2 p3 p4 p5 p6 p7 p8 p9) v U'.heap L ∧ FrameEnd U o U' L ({ frames := 0, cells := 0, slots := 0, locals := 0 } : Room).cells ({ frames := 0, cells := 0, slots := 0, locals := 0 } : Room).slots) := by
  refine MetFree.of_bodySF (plainFor_of_name pn_1) hisR ?_
  intro p e s m args below meth c s₁ Bd hml0 hP hK
  obtain ⟨rfl, hZ, hh⟩ := hP
  have hx := Bd.exec
  have hby := Bd.bytes
  have hml : c.maxLocals = 9 := hml0
  have hown : s.vm.findClass "com/example/ferryline/ferryline/UriWorkerMapMatchesPinLaw" = some m.cls := findClass_of_methodNamed Bd.named
  have hnm := (name_of_methodNamed Bd.named Bd.method).1
  have X0 : Stand p l e ({ frames := 0, cells := 0, slots := 0, locals := 0 } : Room) s m #[(.int p1), (.int p2), (.int p3), (.int p4), (.int p5), (.int p6), (.int p7), (.int p8), (.int p9)] below meth c s₁ [] 0 0 := Stand.of_body Bd
  have e0 : s₁.heap = h0 := by rw [← hh, Bd.state]; rfl
  have N0 := Fr.nil n0
  obtain ⟨S0, hS0⟩ : ∃ z, z = s₁.setTop (entryFrame m #[(.int p1), (.int p2), (.int p3), (.int p4), (.int p5), (.int p6), (.int p7), (.int p8), (.int p9)] 9) := ⟨_, rfl⟩
  have P0 : own_Pr p.tables e below S0 s₁ (mkF m 0 #[.val (.int p1), .val (.int p2), .val (.int p3), .val (.int p4), .val (.int p5), .val (.int p6), .val (.int p7), .val (.int p8), .val (.int p9)] []) := fun t k => hS0 ▸ castTop (ef_5 m p1 p2 p3 p4 p5 p6 p7 p8 p9) k
  have P21 : own_Pr p.tables e below S0 s₁ (mkF m 2 #[.val (.int p1), .val (.int p2), .val (.int p3), .val (.int p4), .val (.int p5), .val (.int p6), .val (.int p7), .val (.int p8), .val (.int p9)] [(.int p3), (.int p1)]) := fun t k => P0 t (by
    refine XS.iloadN X0.here hx rfl (hb hby d5_0) rfl ?_
    refine XS.iloadN X0.here hx rfl (hb hby d5_1) rfl ?_
    exact k)
  by_cases hc2_22 : p1 < p3
  · have P23 : own_Pr p.tables e below S0 s₁ (mkF m 20 #[.val (.int p1), .val (.int p2), .val (.int p3), .val (.int p4), .val (.int p5), .val (.int p6), .val (.int p7), .val (.int p8), .val (.int p9)] [(.int (42 : Int32)), (.int p5)]) := fun t k => P21 t (by
      refine XS.icmpYes X0.here hx rfl (pc0 := 2) (pc' := 16) rfl (hb hby d5_2) rfl (XT.ii_lt_t hc2_22) (by decide) (by decide) ?_
      refine XS.iload X0.here hx rfl (hb hby d5_16) rfl ?_
      refine XS.bipush X0.here hx rfl (hb hby d5_18) ?_
      exact k)
    by_cases hc20_24 : p5 = (42 : Int32)
    · have P25 : own_Pr p.tables e below S0 s₁ (mkF m 25 #[.val (.int p1), .val (.int p2), .val (.int p3), .val (.int p4), .val (.int p5), .val (.int p6), .val (.int p7), .val (.int p8), .val (.int p9)] [(.int p8)]) := fun t k => P23 t (by
        refine XS.icmpNo X0.here hx rfl (hb hby d5_20) rfl (XT.ii_ne_f hc20_24) ?_
        refine XS.iload X0.here hx rfl (hb hby d5_23) rfl ?_
        exact k)
      by_cases hc25_26 : p8 = (0 : Int32)
      · have P27 : own_Pr p.tables e below S0 s₁ (mkF m 30 #[.val (.int p1), .val (.int p2), .val (.int p3), .val (.int p4), .val (.int p5), .val (.int p6), .val (.int p7), .val (.int p8), .val (.int p9)] [(.int p4), (.int p2)]) := fun t k => P25 t (by
          refine XS.ifNo X0.here hx rfl (hb hby d5_25) rfl (XT.i0_ne_f hc25_26) ?_
          refine XS.iloadN X0.here hx rfl (hb hby d5_28) rfl ?_
          refine XS.iloadN X0.here hx rfl (hb hby d5_29) rfl ?_
          exact k)
        by_cases hc30_28 : p2 < p4
        · have P29 : own_Pr p.tables e below S0 s₁ (mkF m 35 #[.val (.int p1), .val (.int p2), .val (.int p3), .val (.int p4), .val (.int p5), .val (.int p6), .val (.int p7), .val (.int p8), .val (.int p9)] [(.int p7)]) := fun t k => P27 t (by
            refine XS.icmpNo X0.here hx rfl (hb hby d5_30) rfl (XT.ii_ge_f hc30_28) ?_
            refine XS.iload X0.here hx rfl (hb hby d5_33) rfl ?_
            exact k)
          by_cases hc35_30 : p7 = (0 : Int32)
          · have P31 : own_Pr p.tables e below S0 s₁ (mkF m 43 #[.val (.int p1), .val (.int p2), .val (.int p3), .val (.int p4), .val (.int p5), .val (.int p6), .val (.int p7), .val (.int p8), .val (.int p9)] [(.int (0 : Int32))]) := fun t k => P29 t (by
              refine XS.ifYes X0.here hx rfl (pc0 := 35) (pc' := 42) rfl (hb hby d5_35) rfl (XT.i0_eq_t hc35_30) (by decide) (by decide) ?_
              refine XS.iconst X0.here hx rfl (hb hby d5_42) ?_
              exact k)
            obtain ⟨fs, hr, hrun, hended, hW, hsame⟩ := X0.leave (v := some (.int (0 : Int32))) (fun h => by rw [Bd.returns] at h; cases h)
            have fin : Steps p.tables e below S0 (s₁.setFrames fs) := P31 _ (retN X0 hx (t := .boolean) Bd.returns (by simp) (hb hby d5_43) hr)
            rw [hS0] at fin
            refine ⟨_, _, fin, hrun, hended, _, _, rfl, ?_, ⟨_, rfl⟩, hW, hsame.mono (by decide) (by decide)⟩
            show own_QI h0 n0 (own_f5 p1 p2 p3 p4 p5 p6 p7 p8 p9) _ s₁.heap _
            rw [e0]
            exact ⟨_, rfl, (by unfold own_f5; rw [if_pos hc2_22, if_pos hc20_24, if_pos hc25_26, if_pos hc30_28, if_pos hc35_30]), N0, rfl⟩
          · have P32 : own_Pr p.tables e below S0 s₁ (mkF m 43 #[.val (.int p1), .val (.int p2), .val (.int p3), .val (.int p4), .val (.int p5), .val (.int p6), .val (.int p7), .val (.int p8), .val (.int p9)] [(.int (1 : Int32))]) := fun t k => P29 t (by
              refine XS.ifNo X0.here hx rfl (hb hby d5_35) rfl (XT.i0_eq_f hc35_30) ?_
              refine XS.iconst X0.here hx rfl (hb hby d5_38) ?_
              refine XS.goto X0.here hx rfl (pc0 := 39) (pc' := 43) rfl (hb hby d5_39) (by decide) (by decide) ?_
              exact k)
            obtain ⟨fs, hr, hrun, hended, hW, hsame⟩ := X0.leave (v := some (.int (1 : Int32))) (fun h => by rw [Bd.returns] at h; cases h)
            have fin : Steps p.tables e below S0 (s₁.setFrames fs) := P32 _ (retN X0 hx (t := .boolean) Bd.returns (by simp) (hb hby d5_43) hr)
            rw [hS0] at fin
            refine ⟨_, _, fin, hrun, hended, _, _, rfl, ?_, ⟨_, rfl⟩, hW, hsame.mono (by decide) (by decide)⟩
            show own_QI h0 n0 (own_f5 p1 p2 p3 p4 p5 p6 p7 p8 p9) _ s₁.heap _
            rw [e0]
            exact ⟨_, rfl, (by unfold own_f5; rw [if_pos hc2_22, if_pos hc20_24, if_pos hc25_26, if_pos hc30_28, if_neg hc35_30]), N0, rfl⟩
        · have P33 : own_Pr p.tables e below S0 s₁ (mkF m 43 #[.val (.int p1), .val (.int p2), .val (.int p3), .val (.int p4), .val (.int p5), .val (.int p6), .val (.int p7), .val (.int p8), .val (.int p9)] [(.int (0 : Int32))]) := fun t k => P27 t (by
            refine XS.icmpYes X0.here hx rfl (pc0 := 30) (pc' := 42) rfl (hb hby d5_30) rfl (XT.ii_ge_t hc30_28) (by decide) (by decide) ?_
            refine XS.iconst X0.here hx rfl (hb hby d5_42) ?_
            exact k)
          obtain ⟨fs, hr, hrun, hended, hW, hsame⟩ := X0.leave (v := some (.int (0 : Int32))) (fun h => by rw [Bd.returns] at h; cases h)
          have fin : Steps p.tables e below S0 (s₁.setFrames fs) := P33 _ (retN X0 hx (t := .boolean) Bd.returns (by simp) (hb hby d5_43) hr)
          rw [hS0] at fin
          refine ⟨_, _, fin, hrun, hended, _, _, rfl, ?_, ⟨_, rfl⟩, hW, hsame.mono (by decide) (by decide)⟩
          show own_QI h0 n0 (own_f5 p1 p2 p3 p4 p5 p6 p7 p8 p9) _ s₁.heap _
          rw [e0]
          exact ⟨_, rfl, (by unfold own_f5; rw [if_pos hc2_22, if_pos hc20_24, if_pos hc25_26, if_neg hc30_28]), N0, rfl⟩
      · have P34 : own_Pr p.tables e below S0 s₁ (mkF m 43 #[.val (.int p1), .val (.int p2), .val (.int p3), .val (.int p4), .val (.int p5), .val (.int p6), .val (.int p7), .val (.int p8), .val (.int p9)] [(.int (1 : Int32))]) := fun t k => P25 t (by
          refine XS.ifYes X0.here hx rfl (pc0 := 25) (pc' := 38) rfl (hb hby d5_25) rfl (XT.i0_ne_t hc25_26) (by decide) (by decide) ?_
          refine XS.iconst X0.here hx rfl (hb hby d5_38) ?_
          refine XS.goto X0.here hx rfl (pc0 := 39) (pc' := 43) rfl (hb hby d5_39) (by decide) (by decide) ?_
          exact k)
        obtain ⟨fs, hr, hrun, hended, hW, hsame⟩ := X0.leave (v := some (.int (1 : Int32))) (fun h => by rw [Bd.returns] at h; cases h)
        have fin : Steps p.tables e below S0 (s₁.setFrames fs) := P34 _ (retN X0 hx (t := .boolean) Bd.returns (by simp) (hb hby d5_43) hr)
        rw [hS0] at fin
        refine ⟨_, _, fin, hrun, hended, _, _, rfl, ?_, ⟨_, rfl⟩, hW, hsame.mono (by decide) (by decide)⟩
        show own_QI h0 n0 (own_f5 p1 p2 p3 p4 p5 p6 p7 p8 p9) _ s₁.heap _
        rw [e0]
        exact ⟨_, rfl, (by unfold own_f5; rw [if_pos hc2_22, if_pos hc20_24, if_neg hc25_26]), N0, rfl⟩
    · have P35 : own_Pr p.tables e below S0 s₁ (mkF m 46 #[.val (.int p1), .val (.int p2), .val (.int p3), .val (.int p4), .val (.int p5), .val (.int p6), .val (.int p7), .val (.int p8), .val (.int p9)] [(.int p4), (.int p2)]) := fun t k => P23 t (by
        refine XS.icmpYes X0.here hx rfl (pc0 := 20) (pc' := 44) rfl (hb hby d5_20) rfl (XT.ii_ne_t hc20_24) (by decide) (by decide) ?_
        refine XS.iloadN X0.here hx rfl (hb hby d5_44) rfl ?_
        refine XS.iloadN X0.here hx rfl (hb hby d5_45) rfl ?_
        exact k)
      by_cases hc46_36 : p2 < p4
      · have P37 : own_Pr p.tables e below S0 s₁ (mkF m 53 #[.val (.int p1), .val (.int p2), .val (.int p3), .val (.int p4), .val (.int p5), .val (.int p6), .val (.int p7), .val (.int p8), .val (.int p9)] [(.int (63 : Int32)), (.int p5)]) := fun t k => P35 t (by
          refine XS.icmpNo X0.here hx rfl (hb hby d5_46) rfl (XT.ii_ge_f hc46_36) ?_
          refine XS.iload X0.here hx rfl (hb hby d5_49) rfl ?_
          refine XS.bipush X0.here hx rfl (hb hby d5_51) ?_
          exact k)
        by_cases hc53_38 : p5 = (63 : Int32)
        · have P39 : own_Pr p.tables e below S0 s₁ (mkF m 65 #[.val (.int p1), .val (.int p2), .val (.int p3), .val (.int p4), .val (.int p5), .val (.int p6), .val (.int p7), .val (.int p8), .val (.int p9)] [(.int p9)]) := fun t k => P37 t (by
            refine XS.icmpYes X0.here hx rfl (pc0 := 53) (pc' := 63) rfl (hb hby d5_53) rfl (XT.ii_eq_t hc53_38) (by decide) (by decide) ?_
            refine XS.iload X0.here hx rfl (hb hby d5_63) rfl ?_
            exact k)
          by_cases hc65_40 : p9 = (0 : Int32)
          · have P41 : own_Pr p.tables e below S0 s₁ (mkF m 73 #[.val (.int p1), .val (.int p2), .val (.int p3), .val (.int p4), .val (.int p5), .val (.int p6), .val (.int p7), .val (.int p8), .val (.int p9)] [(.int (0 : Int32))]) := fun t k => P39 t (by
              refine XS.ifYes X0.here hx rfl (pc0 := 65) (pc' := 72) rfl (hb hby d5_65) rfl (XT.i0_eq_t hc65_40) (by decide) (by decide) ?_
              refine XS.iconst X0.here hx rfl (hb hby d5_72) ?_
              exact k)
            obtain ⟨fs, hr, hrun, hended, hW, hsame⟩ := X0.leave (v := some (.int (0 : Int32))) (fun h => by rw [Bd.returns] at h; cases h)
            have fin : Steps p.tables e below S0 (s₁.setFrames fs) := P41 _ (retN X0 hx (t := .boolean) Bd.returns (by simp) (hb hby d5_73) hr)
            rw [hS0] at fin
            refine ⟨_, _, fin, hrun, hended, _, _, rfl, ?_, ⟨_, rfl⟩, hW, hsame.mono (by decide) (by decide)⟩
            show own_QI h0 n0 (own_f5 p1 p2 p3 p4 p5 p6 p7 p8 p9) _ s₁.heap _
            rw [e0]
            exact ⟨_, rfl, (by unfold own_f5; rw [if_pos hc2_22, if_neg hc20_24, if_pos hc46_36, if_pos hc53_38, if_pos hc65_40]), N0, rfl⟩
          · have P42 : own_Pr p.tables e below S0 s₁ (mkF m 73 #[.val (.int p1), .val (.int p2), .val (.int p3), .val (.int p4), .val (.int p5), .val (.int p6), .val (.int p7), .val (.int p8), .val (.int p9)] [(.int (1 : Int32))]) := fun t k => P39 t (by
              refine XS.ifNo X0.here hx rfl (hb hby d5_65) rfl (XT.i0_eq_f hc65_40) ?_
              refine XS.iconst X0.here hx rfl (hb hby d5_68) ?_
              refine XS.goto X0.here hx rfl (pc0 := 69) (pc' := 73) rfl (hb hby d5_69) (by decide) (by decide) ?_
              exact k)
            obtain ⟨fs, hr, hrun, hended, hW, hsame⟩ := X0.leave (v := some (.int (1 : Int32))) (fun h => by rw [Bd.returns] at h; cases h)
            have fin : Steps p.tables e below S0 (s₁.setFrames fs) := P42 _ (retN X0 hx (t := .boolean) Bd.returns (by simp) (hb hby d5_73) hr)
            rw [hS0] at fin
            refine ⟨_, _, fin, hrun, hended, _, _, rfl, ?_, ⟨_, rfl⟩, hW, hsame.mono (by decide) (by decide)⟩
            show own_QI h0 n0 (own_f5 p1 p2 p3 p4 p5 p6 p7 p8 p9) _ s₁.heap _
            rw [e0]
            exact ⟨_, rfl, (by unfold own_f5; rw [if_pos hc2_22, if_neg hc20_24, if_pos hc46_36, if_pos hc53_38, if_neg hc65_40]), N0, rfl⟩
        · have P43 : own_Pr p.tables e below S0 s₁ (mkF m 60 #[.val (.int p1), .val (.int p2), .val (.int p3), .val (.int p4), .val (.int p5), .val (.int p6), .val (.int p7), .val (.int p8), .val (.int p9)] [(.int p6), (.int p5)]) := fun t k => P37 t (by
            refine XS.icmpNo X0.here hx rfl (hb hby d5_53) rfl (XT.ii_eq_f hc53_38) ?_
            refine XS.iload X0.here hx rfl (hb hby d5_56) rfl ?_
            refine XS.iload X0.here hx rfl (hb hby d5_58) rfl ?_
            exact k)
          by_cases hc60_44 : p5 = p6
          · have P45 : own_Pr p.tables e below S0 s₁ (mkF m 65 #[.val (.int p1), .val (.int p2), .val (.int p3), .val (.int p4), .val (.int p5), .val (.int p6), .val (.int p7), .val (.int p8), .val (.int p9)] [(.int p9)]) := fun t k => P43 t (by
              refine XS.icmpNo X0.here hx rfl (hb hby d5_60) rfl (XT.ii_ne_f hc60_44) ?_
              refine XS.iload X0.here hx rfl (hb hby d5_63) rfl ?_
              exact k)
            by_cases hc65_46 : p9 = (0 : Int32)
            · have P47 : own_Pr p.tables e below S0 s₁ (mkF m 73 #[.val (.int p1), .val (.int p2), .val (.int p3), .val (.int p4), .val (.int p5), .val (.int p6), .val (.int p7), .val (.int p8), .val (.int p9)] [(.int (0 : Int32))]) := fun t k => P45 t (by
                refine XS.ifYes X0.here hx rfl (pc0 := 65) (pc' := 72) rfl (hb hby d5_65) rfl (XT.i0_eq_t hc65_46) (by decide) (by decide) ?_
                refine XS.iconst X0.here hx rfl (hb hby d5_72) ?_
                exact k)
              obtain ⟨fs, hr, hrun, hended, hW, hsame⟩ := X0.leave (v := some (.int (0 : Int32))) (fun h => by rw [Bd.returns] at h; cases h)
              have fin : Steps p.tables e below S0 (s₁.setFrames fs) := P47 _ (retN X0 hx (t := .boolean) Bd.returns (by simp) (hb hby d5_73) hr)
              rw [hS0] at fin
              refine ⟨_, _, fin, hrun, hended, _, _, rfl, ?_, ⟨_, rfl⟩, hW, hsame.mono (by decide) (by decide)⟩
              show own_QI h0 n0 (own_f5 p1 p2 p3 p4 p5 p6 p7 p8 p9) _ s₁.heap _
              rw [e0]
              exact ⟨_, rfl, (by unfold own_f5; rw [if_pos hc2_22, if_neg hc20_24, if_pos hc46_36, if_neg hc53_38, if_pos hc60_44, if_pos hc65_46]), N0, rfl⟩
            · have P48 : own_Pr p.tables e below S0 s₁ (mkF m 73 #[.val (.int p1), .val (.int p2), .val (.int p3), .val (.int p4), .val (.int p5), .val (.int p6), .val (.int p7), .val (.int p8), .val (.int p9)] [(.int (1 : Int32))]) := fun t k => P45 t (by
                refine XS.ifNo X0.here hx rfl (hb hby d5_65) rfl (XT.i0_eq_f hc65_46) ?_
                refine XS.iconst X0.here hx rfl (hb hby d5_68) ?_
                refine XS.goto X0.here hx rfl (pc0 := 69) (pc' := 73) rfl (hb hby d5_69) (by decide) (by decide) ?_
                exact k)
              obtain ⟨fs, hr, hrun, hended, hW, hsame⟩ := X0.leave (v := some (.int (1 : Int32))) (fun h => by rw [Bd.returns] at h; cases h)
              have fin : Steps p.tables e below S0 (s₁.setFrames fs) := P48 _ (retN X0 hx (t := .boolean) Bd.returns (by simp) (hb hby d5_73) hr)
              rw [hS0] at fin
              refine ⟨_, _, fin, hrun, hended, _, _, rfl, ?_, ⟨_, rfl⟩, hW, hsame.mono (by decide) (by decide)⟩
              show own_QI h0 n0 (own_f5 p1 p2 p3 p4 p5 p6 p7 p8 p9) _ s₁.heap _
              rw [e0]
              exact ⟨_, rfl, (by unfold own_f5; rw [if_pos hc2_22, if_neg hc20_24, if_pos hc46_36, if_neg hc53_38, if_pos hc60_44, if_neg hc65_46]), N0, rfl⟩
          · have P49 : own_Pr p.tables e below S0 s₁ (mkF m 73 #[.val (.int p1), .val (.int p2), .val (.int p3), .val (.int p4), .val (.int p5), .val (.int p6), .val (.int p7), .val (.int p8), .val (.int p9)] [(.int (0 : Int32))]) := fun t k => P43 t (by
              refine XS.icmpYes X0.here hx rfl (pc0 := 60) (pc' := 72) rfl (hb hby d5_60) rfl (XT.ii_ne_t hc60_44) (by decide) (by decide) ?_
              refine XS.iconst X0.here hx rfl (hb hby d5_72) ?_
              exact k)
            obtain ⟨fs, hr, hrun, hended, hW, hsame⟩ := X0.leave (v := some (.int (0 : Int32))) (fun h => by rw [Bd.returns] at h; cases h)
            have fin : Steps p.tables e below S0 (s₁.setFrames fs) := P49 _ (retN X0 hx (t := .boolean) Bd.returns (by simp) (hb hby d5_73) hr)
            rw [hS0] at fin
            refine ⟨_, _, fin, hrun, hended, _, _, rfl, ?_, ⟨_, rfl⟩, hW, hsame.mono (by decide) (by decide)⟩
            show own_QI h0 n0 (own_f5 p1 p2 p3 p4 p5 p6 p7 p8 p9) _ s₁.heap _
            rw [e0]
            exact ⟨_, rfl, (by unfold own_f5; rw [if_pos hc2_22, if_neg hc20_24, if_pos hc46_36, if_neg hc53_38, if_neg hc60_44]), N0, rfl⟩
      · have P50 : own_Pr p.tables e below S0 s₁ (mkF m 73 #[.val (.int p1), .val (.int p2), .val (.int p3), .val (.int p4), .val (.int p5), .val (.int p6), .val (.int p7), .val (.int p8), .val (.int p9)] [(.int (0 : Int32))]) := fun t k => P35 t (by
          refine XS.icmpYes X0.here hx rfl (pc0 := 46) (pc' := 72) rfl (hb hby d5_46) rfl (XT.ii_ge_t hc46_36) (by decide) (by decide) ?_
          refine XS.iconst X0.here hx rfl (hb hby d5_72) ?_
          exact k)
        obtain ⟨fs, hr, hrun, hended, hW, hsame⟩ := X0.leave (v := some (.int (0 : Int32))) (fun h => by rw [Bd.returns] at h; cases h)
        have fin : Steps p.tables e below S0 (s₁.setFrames fs) := P50 _ (retN X0 hx (t := .boolean) Bd.returns (by simp) (hb hby d5_73) hr)
        rw [hS0] at fin
        refine ⟨_, _, fin, hrun, hended, _, _, rfl, ?_, ⟨_, rfl⟩, hW, hsame.mono (by decide) (by decide)⟩
        show own_QI h0 n0 (own_f5 p1 p2 p3 p4 p5 p6 p7 p8 p9) _ s₁.heap _
        rw [e0]
        exact ⟨_, rfl, (by unfold own_f5; rw [if_pos hc2_22, if_neg hc20_24, if_neg hc46_36]), N0, rfl⟩
  · have P51 : own_Pr p.tables e below S0 s₁ (mkF m 7 #[.val (.int p1), .val (.int p2), .val (.int p3), .val (.int p4), .val (.int p5), .val (.int p6), .val (.int p7), .val (.int p8), .val (.int p9)] [(.int p4), (.int p2)]) := fun t k => P21 t (by
      refine XS.icmpNo X0.here hx rfl (hb hby d5_2) rfl (XT.ii_lt_f hc2_22) ?_
      refine XS.iloadN X0.here hx rfl (hb hby d5_5) rfl ?_
      refine XS.iloadN X0.here hx rfl (hb hby d5_6) rfl ?_
      exact k)
    by_cases hc7_52 : p2 = p4
    · have P53 : own_Pr p.tables e below S0 s₁ (mkF m 15 #[.val (.int p1), .val (.int p2), .val (.int p3), .val (.int p4), .val (.int p5), .val (.int p6), .val (.int p7), .val (.int p8), .val (.int p9)] [(.int (1 : Int32))]) := fun t k => P51 t (by
        refine XS.icmpNo X0.here hx rfl (hb hby d5_7) rfl (XT.ii_ne_f hc7_52) ?_
        refine XS.iconst X0.here hx rfl (hb hby d5_10) ?_
        refine XS.goto X0.here hx rfl (pc0 := 11) (pc' := 15) rfl (hb hby d5_11) (by decide) (by decide) ?_
        exact k)
      obtain ⟨fs, hr, hrun, hended, hW, hsame⟩ := X0.leave (v := some (.int (1 : Int32))) (fun h => by rw [Bd.returns] at h; cases h)
      have fin : Steps p.tables e below S0 (s₁.setFrames fs) := P53 _ (retN X0 hx (t := .boolean) Bd.returns (by simp) (hb hby d5_15) hr)
      rw [hS0] at fin
      refine ⟨_, _, fin, hrun, hended, _, _, rfl, ?_, ⟨_, rfl⟩, hW, hsame.mono (by decide) (by decide)⟩
      show own_QI h0 n0 (own_f5 p1 p2 p3 p4 p5 p6 p7 p8 p9) _ s₁.heap _
      rw [e0]
      exact ⟨_, rfl, (by unfold own_f5; rw [if_neg hc2_22, if_pos hc7_52]), N0, rfl⟩
    · have P54 : own_Pr p.tables e below S0 s₁ (mkF m 15 #[.val (.int p1), .val (.int p2), .val (.int p3), .val (.int p4), .val (.int p5), .val (.int p6), .val (.int p7), .val (.int p8), .val (.int p9)] [(.int (0 : Int32))]) := fun t k => P51 t (by
        refine XS.icmpYes X0.here hx rfl (pc0 := 7) (pc' := 14) rfl (hb hby d5_7) rfl (XT.ii_ne_t hc7_52) (by decide) (by decide) ?_
        refine XS.iconst X0.here hx rfl (hb hby d5_14) ?_
        exact k)
      obtain ⟨fs, hr, hrun, hended, hW, hsame⟩ := X0.leave (v := some (.int (0 : Int32))) (fun h => by rw [Bd.returns] at h; cases h)
      have fin : Steps p.tables e below S0 (s₁.setFrames fs) := P54 _ (retN X0 hx (t := .boolean) Bd.returns (by simp) (hb hby d5_15) hr)
      rw [hS0] at fin
      refine ⟨_, _, fin, hrun, hended, _, _, rfl, ?_, ⟨_, rfl⟩, hW, hsame.mono (by decide) (by decide)⟩
      show own_QI h0 n0 (own_f5 p1 p2 p3 p4 p5 p6 p7 p8 p9) _ s₁.heap _
      rw [e0]
      exact ⟨_, rfl, (by unfold own_f5; rw [if_neg hc2_22, if_neg hc7_52]), N0, rfl⟩
theorem d3_0 : decode method_6_code 0 = .ok (.iload 4, 2) := by decide +kernel
theorem d3_2 : decode method_6_code 2 = .ok (.newarray .int, 2) := by decide +kernel
theorem d3_4 : decode method_6_code 4 = .ok (.astore 5, 2) := by decide +kernel
theorem d3_6 : decode method_6_code 6 = .ok (.iload 4, 2) := by decide +kernel
theorem d3_8 : decode method_6_code 8 = .ok (.ifCond .le 8, 3) := by decide +kernel
theorem d3_11 : decode method_6_code 11 = .ok (.aload 5, 2) := by decide +kernel
theorem d3_13 : decode method_6_code 13 = .ok (.iconst 0, 1) := by decide +kernel
theorem d3_14 : decode method_6_code 14 = .ok (.iload_n 0, 1) := by decide +kernel
theorem d3_15 : decode method_6_code 15 = .ok (.iastore, 1) := by decide +kernel
theorem d3_16 : decode method_6_code 16 = .ok (.iload 4, 2) := by decide +kernel
theorem d3_18 : decode method_6_code 18 = .ok (.iconst 1, 1) := by decide +kernel
theorem d3_19 : decode method_6_code 19 = .ok (.if_icmp .le 8, 3) := by decide +kernel
theorem d3_22 : decode method_6_code 22 = .ok (.aload 5, 2) := by decide +kernel
theorem d3_24 : decode method_6_code 24 = .ok (.iconst 1, 1) := by decide +kernel
theorem d3_25 : decode method_6_code 25 = .ok (.iload_n 1, 1) := by decide +kernel
theorem d3_26 : decode method_6_code 26 = .ok (.iastore, 1) := by decide +kernel
theorem d3_27 : decode method_6_code 27 = .ok (.iload 4, 2) := by decide +kernel
theorem d3_29 : decode method_6_code 29 = .ok (.iconst 2, 1) := by decide +kernel
theorem d3_30 : decode method_6_code 30 = .ok (.if_icmp .le 8, 3) := by decide +kernel
theorem d3_33 : decode method_6_code 33 = .ok (.aload 5, 2) := by decide +kernel
theorem d3_35 : decode method_6_code 35 = .ok (.iconst 2, 1) := by decide +kernel
theorem d3_36 : decode method_6_code 36 = .ok (.iload_n 2, 1) := by decide +kernel
theorem d3_37 : decode method_6_code 37 = .ok (.iastore, 1) := by decide +kernel
theorem d3_38 : decode method_6_code 38 = .ok (.iload 4, 2) := by decide +kernel
theorem d3_40 : decode method_6_code 40 = .ok (.iconst 3, 1) := by decide +kernel
theorem d3_41 : decode method_6_code 41 = .ok (.if_icmp .le 8, 3) := by decide +kernel
theorem d3_44 : decode method_6_code 44 = .ok (.aload 5, 2) := by decide +kernel
theorem d3_46 : decode method_6_code 46 = .ok (.iconst 3, 1) := by decide +kernel
theorem d3_47 : decode method_6_code 47 = .ok (.iload_n 3, 1) := by decide +kernel
theorem d3_48 : decode method_6_code 48 = .ok (.iastore, 1) := by decide +kernel
theorem d3_49 : decode method_6_code 49 = .ok (.aload 5, 2) := by decide +kernel
theorem d3_51 : decode method_6_code 51 = .ok (.areturn, 1) := by decide +kernel
theorem ef_3 (m : MethodId) (p1 : Int32) (p2 : Int32) (p3 : Int32) (p4 : Int32) (p5 : Int32) : entryFrame m #[(.int p1), (.int p2), (.int p3), (.int p4), (.int p5)] 6 = mkF m 0 #[.val (.int p1), .val (.int p2), .val (.int p3), .val (.int p4), .val (.int p5), .unset] [] := by first | (simp [entryFrame, mkF, argsToLocals, Value.category]; done) | rfl
set_option maxRecDepth 65536 in
set_option maxHeartbeats 40000000 in
theorem rm3 (l : Launch) (Z : State) (a0 : Array Value) (hw : ∀ d ∈ tables_1, d.before a0 Z = true) (ws : List Jvm.Cond) (p1 : Int32) (p2 : Int32) (p3 : Int32) (p4 : Int32) (p5 : Int32)  (h0 : Heap) (n0 : Nat) (Z0 : n0 ≤ h0.size) (hk : p5 = 0 ∨ p5 = 1 ∨ p5 = 2 ∨ p5 = 3 ∨ p5 = 4) :
    MetFree l (⟨"com/example/ferryline/ferryline/UriWorkerMapMatchesPinLaw", "prefix", "(IIIII)[I"⟩ : MethodName) (head1 (Jvm.Cond.code (⟨"com/example/ferryline/ferryline/UriWorkerMapMatchesPinLaw", "prefix", "(IIIII)[I"⟩ : MethodName) method_6_code 6 (some (.array .int)) :: ws) ({ frames := 0, cells := 1, slots := 4, locals := 0 } : Room)) (fun a U => a = #[(.int p1), (.int p2), (.int p3), (.int p4), (.int p5)] ∧ Z.Warmed39 U.vm ∧ U.heap = h0) (fun _ _ _ _ _ => True) (fun _ U o U' => ∃ v L, o = .returned v ∧ own_QP Z p1 p2 p3 p4 p5 h0 n0 v U'.heap L ∧ FrameEnd U o U' L ({ frames := 0, cells := 1, slots := 4, locals := 0 } : Room).cells ({ frames := 0, cells := 1, slots := 4, locals := 0 } : Room).slots) := by
  refine MetFree.of_bodySF (plainFor_of_name pn_1) hisR ?_
  intro p e s m args below meth c s₁ Bd hml0 hP hK
  obtain ⟨rfl, hZ, hh⟩ := hP
  have hx := Bd.exec
  have hby := Bd.bytes
  have hml : c.maxLocals = 6 := hml0
  have hown : s.vm.findClass "com/example/ferryline/ferryline/UriWorkerMapMatchesPinLaw" = some m.cls := findClass_of_methodNamed Bd.named
  have hnm := (name_of_methodNamed Bd.named Bd.method).1
  have X0 : Stand p l e ({ frames := 0, cells := 1, slots := 4, locals := 0 } : Room) s m #[(.int p1), (.int p2), (.int p3), (.int p4), (.int p5)] below meth c s₁ [] 0 0 := Stand.of_body Bd
  have e0 : s₁.heap = h0 := by rw [← hh, Bd.state]; rfl
  have N0 := Fr.nil n0
  obtain ⟨S0, hS0⟩ : ∃ z, z = s₁.setTop (entryFrame m #[(.int p1), (.int p2), (.int p3), (.int p4), (.int p5)] 6) := ⟨_, rfl⟩
  have P0 : own_Pr p.tables e below S0 s₁ (mkF m 0 #[.val (.int p1), .val (.int p2), .val (.int p3), .val (.int p4), .val (.int p5), .unset] []) := fun t k => hS0 ▸ castTop (ef_3 m p1 p2 p3 p4 p5) k
  have K0 := Keep.refl h0 []
  rcases hk with hk | hk | hk | hk | hk
  · rw [hk] at P0
    have P21 : own_Pr p.tables e below S0 s₁ (mkF m 2 #[.val (.int p1), .val (.int p2), .val (.int p3), .val (.int p4), .val (.int (0 : Int32)), .unset] [(.int (0 : Int32))]) := fun t k => P0 t (by
      refine XS.iload X0.here hx rfl (hb hby d3_0) rfl ?_
      exact k)
    obtain ⟨T22, h22, k22, X22, e22, E22, A22, st22⟩ := newP X0 hx hZ (hw _ (List.mem_of_getElem? (i := 10) rfl)) e0 (g := (mkF m 2 #[.val (.int p1), .val (.int p2), .val (.int p3), .val (.int p4), .val (.int (0 : Int32)), .unset] [(.int (0 : Int32))])) rfl (hb hby d3_2) rfl (by decide) (cap := 0) (by decide) (by decide) (by decide) (by decide)
    obtain ⟨b22, g22⟩ : ∃ z, z = h0.size := ⟨_, rfl⟩
    rw [← g22] at A22 st22
    have g_b22 : n0 ≤ b22 := Nat.le_trans Z0 (Nat.le_of_eq g22.symm)
    have sz_b22 : h0.size ≤ b22 := Nat.le_trans K0.1 (Nat.le_of_eq g22.symm)
    have Z23 : n0 ≤ h22.size := Nat.le_trans Z0 E22.1
    have K24 := K0.ext E22
    have F25 : Arv Z h22 b22 k22 .int (0 : Int32) [] (.int (0 : Int32)) := (Arv.new A22 (by decide)).pad (pad_rep [] (.int (0 : Int32)) 0)
    have P26 : own_Pr p.tables e below S0 T22 (mkF m 4 #[.val (.int p1), .val (.int p2), .val (.int p3), .val (.int p4), .val (.int (0 : Int32)), .unset] [(.ref b22)]) := fun t k => P21 t (st22 _ k)
    have P27 : own_Pr p.tables e below S0 T22 (mkF m 51 #[.val (.int p1), .val (.int p2), .val (.int p3), .val (.int p4), .val (.int (0 : Int32)), .val (.ref b22)] [(.ref b22)]) := fun t k => P26 t (by
      refine XS.astore X22.here hx rfl (hb hby d3_4) rfl rfl (l' := #[.val (.int p1), .val (.int p2), .val (.int p3), .val (.int p4), .val (.int (0 : Int32)), .val (.ref b22)]) rfl ?_
      refine XS.iload X22.here hx rfl (hb hby d3_6) rfl ?_
      refine XS.ifYes X22.here hx rfl (pc0 := 8) (pc' := 16) rfl (hb hby d3_8) rfl (by decide) (by decide) (by decide) ?_
      refine XS.iload X22.here hx rfl (hb hby d3_16) rfl ?_
      refine XS.iconst X22.here hx rfl (hb hby d3_18) ?_
      refine XS.icmpYes X22.here hx rfl (pc0 := 19) (pc' := 27) rfl (hb hby d3_19) rfl (by decide) (by decide) (by decide) ?_
      refine XS.iload X22.here hx rfl (hb hby d3_27) rfl ?_
      refine XS.iconst X22.here hx rfl (hb hby d3_29) ?_
      show Steps p.tables e below (T22.setTop (mkF m 30 #[.val (.int p1), .val (.int p2), .val (.int p3), .val (.int p4), .val (.int (0 : Int32)), .val (.ref b22)] [(.int (2 : Int32)), (.int (0 : Int32))])) _
      refine XS.icmpYes X22.here hx rfl (pc0 := 30) (pc' := 38) rfl (hb hby d3_30) rfl (by decide) (by decide) (by decide) ?_
      refine XS.iload X22.here hx rfl (hb hby d3_38) rfl ?_
      refine XS.iconst X22.here hx rfl (hb hby d3_40) ?_
      refine XS.icmpYes X22.here hx rfl (pc0 := 41) (pc' := 49) rfl (hb hby d3_41) rfl (by decide) (by decide) (by decide) ?_
      refine XS.aload X22.here hx rfl (hb hby d3_49) rfl rfl ?_
      exact k)
    obtain ⟨ct, Tt, At⟩ := own_tab (xs := []) F25
    obtain ⟨fs, hr, hrun, hended, hW, hsame⟩ := X22.leave (v := some (.ref b22)) (fun h => by rw [Bd.returns] at h; cases h)
    have fin : Steps p.tables e below S0 (T22.setFrames fs) := P27 _ (by
      jvm_step X22.here [X22.here.top, hx, (hb hby d3_51), X22.method', Bd.returns, Value.isRef, FieldType.isReference]
      first | (intro acts; rw [hr _ acts rfl rfl rfl]) | rw [hr _ _ rfl rfl rfl]
      exact Steps.refl _)
    rw [hS0] at fin
    refine ⟨_, _, fin, hrun, hended, _, _, rfl, ?_, ⟨_, rfl⟩, hW, hsame.mono (by decide) (by decide)⟩
    show own_QP Z p1 p2 p3 p4 p5 h0 n0 _ T22.heap _
    rw [e22]
    exact ⟨_, ct, rfl, N0, K24, sz_b22, hk ▸ Tt, fun j h1 h2 => by rw [hk] at h2; rw [At j h1 h2]; rcases own_lits h1 h2 0 rfl (by decide) with ⟨q, rfl⟩ | ⟨q, rfl⟩ | ⟨q, rfl⟩ | ⟨q, rfl⟩ <;> first | rfl | exact absurd q (by decide)⟩
  · rw [hk] at P0
    have P28 : own_Pr p.tables e below S0 s₁ (mkF m 2 #[.val (.int p1), .val (.int p2), .val (.int p3), .val (.int p4), .val (.int (1 : Int32)), .unset] [(.int (1 : Int32))]) := fun t k => P0 t (by
      refine XS.iload X0.here hx rfl (hb hby d3_0) rfl ?_
      exact k)
    obtain ⟨T29, h29, k29, X29, e29, E29, A29, st29⟩ := newP X0 hx hZ (hw _ (List.mem_of_getElem? (i := 10) rfl)) e0 (g := (mkF m 2 #[.val (.int p1), .val (.int p2), .val (.int p3), .val (.int p4), .val (.int (1 : Int32)), .unset] [(.int (1 : Int32))])) rfl (hb hby d3_2) rfl (by decide) (cap := 1) (by decide) (by decide) (by decide) (by decide)
    obtain ⟨b29, g29⟩ : ∃ z, z = h0.size := ⟨_, rfl⟩
    rw [← g29] at A29 st29
    have g_b29 : n0 ≤ b29 := Nat.le_trans Z0 (Nat.le_of_eq g29.symm)
    have sz_b29 : h0.size ≤ b29 := Nat.le_trans K0.1 (Nat.le_of_eq g29.symm)
    have Z30 : n0 ≤ h29.size := Nat.le_trans Z0 E29.1
    have K31 := K0.ext E29
    have F32 : Arv Z h29 b29 k29 .int (1 : Int32) [(.int (0 : Int32))] (.int (0 : Int32)) := (Arv.new A29 (by decide)).pad (pad_rep [] (.int (0 : Int32)) 1)
    have P33 : own_Pr p.tables e below S0 T29 (mkF m 4 #[.val (.int p1), .val (.int p2), .val (.int p3), .val (.int p4), .val (.int (1 : Int32)), .unset] [(.ref b29)]) := fun t k => P28 t (st29 _ k)
    have P34 : own_Pr p.tables e below S0 T29 (mkF m 15 #[.val (.int p1), .val (.int p2), .val (.int p3), .val (.int p4), .val (.int (1 : Int32)), .val (.ref b29)] [(.int p1), (.int (0 : Int32)), (.ref b29)]) := fun t k => P33 t (by
      refine XS.astore X29.here hx rfl (hb hby d3_4) rfl rfl (l' := #[.val (.int p1), .val (.int p2), .val (.int p3), .val (.int p4), .val (.int (1 : Int32)), .val (.ref b29)]) rfl ?_
      refine XS.iload X29.here hx rfl (hb hby d3_6) rfl ?_
      refine XS.ifNo X29.here hx rfl (hb hby d3_8) rfl (by decide) ?_
      refine XS.aload X29.here hx rfl (hb hby d3_11) rfl rfl ?_
      refine XS.iconst X29.here hx rfl (hb hby d3_13) ?_
      refine XS.iloadN X29.here hx rfl (hb hby d3_14) rfl ?_
      exact k)
    obtain ⟨cl35, Ar35, q35, S35, N35, H35, G35⟩ := id F32
    have hin35 : ¬ ((0 : Int32) < 0 ∨ cl35.slots.size ≤ ((0 : Int32)).toNatClampNeg) := inb_of S35 ⟨by decide, by decide⟩
    obtain ⟨T35, h35, X35, e35, W35, st35⟩ := stI X29 hx hZ e29 Ar35 (j := (0 : Int32)) hin35 (g := (mkF m 15 #[.val (.int p1), .val (.int p2), .val (.int p3), .val (.int p4), .val (.int (1 : Int32)), .val (.ref b29)] [(.int p1), (.int (0 : Int32)), (.ref b29)])) rfl rfl (hb hby d3_15)
    have V35 : Arv Z h35 b29 k29 .int (1 : Int32) [(.int p1)] (.int (0 : Int32)) := Arv.set Ar35 q35 S35 N35 H35 G35 rfl W35 0 rfl (Nat.le_of_ble_eq_true rfl)
    have Z36 : n0 ≤ h35.size := by rw [W35.size]; exact Z30
    have NF35 := Fr.snoc X35 N0 g_b29
    have K37 := K31.wr W35 (Or.inr sz_b29)
    have P38 : own_Pr p.tables e below S0 T35 (mkF m 16 #[.val (.int p1), .val (.int p2), .val (.int p3), .val (.int p4), .val (.int (1 : Int32)), .val (.ref b29)] []) := fun t k => P34 t (st35 _ k)
    have P39 : own_Pr p.tables e below S0 T35 (mkF m 51 #[.val (.int p1), .val (.int p2), .val (.int p3), .val (.int p4), .val (.int (1 : Int32)), .val (.ref b29)] [(.ref b29)]) := fun t k => P38 t (by
      refine XS.iload X35.here hx rfl (hb hby d3_16) rfl ?_
      refine XS.iconst X35.here hx rfl (hb hby d3_18) ?_
      refine XS.icmpYes X35.here hx rfl (pc0 := 19) (pc' := 27) rfl (hb hby d3_19) rfl (by decide) (by decide) (by decide) ?_
      refine XS.iload X35.here hx rfl (hb hby d3_27) rfl ?_
      refine XS.iconst X35.here hx rfl (hb hby d3_29) ?_
      refine XS.icmpYes X35.here hx rfl (pc0 := 30) (pc' := 38) rfl (hb hby d3_30) rfl (by decide) (by decide) (by decide) ?_
      refine XS.iload X35.here hx rfl (hb hby d3_38) rfl ?_
      refine XS.iconst X35.here hx rfl (hb hby d3_40) ?_
      show Steps p.tables e below (T35.setTop (mkF m 41 #[.val (.int p1), .val (.int p2), .val (.int p3), .val (.int p4), .val (.int (1 : Int32)), .val (.ref b29)] [(.int (3 : Int32)), (.int (1 : Int32))])) _
      refine XS.icmpYes X35.here hx rfl (pc0 := 41) (pc' := 49) rfl (hb hby d3_41) rfl (by decide) (by decide) (by decide) ?_
      refine XS.aload X35.here hx rfl (hb hby d3_49) rfl rfl ?_
      exact k)
    obtain ⟨ct, Tt, At⟩ := own_tab (xs := [p1]) V35
    obtain ⟨fs, hr, hrun, hended, hW, hsame⟩ := X35.leave (v := some (.ref b29)) (fun h => by rw [Bd.returns] at h; cases h)
    have fin : Steps p.tables e below S0 (T35.setFrames fs) := P39 _ (by
      jvm_step X35.here [X35.here.top, hx, (hb hby d3_51), X35.method', Bd.returns, Value.isRef, FieldType.isReference]
      first | (intro acts; rw [hr _ acts rfl rfl rfl]) | rw [hr _ _ rfl rfl rfl]
      exact Steps.refl _)
    rw [hS0] at fin
    refine ⟨_, _, fin, hrun, hended, _, _, rfl, ?_, ⟨_, rfl⟩, hW, hsame.mono (by decide) (by decide)⟩
    show own_QP Z p1 p2 p3 p4 p5 h0 n0 _ T35.heap _
    rw [e35]
    exact ⟨_, ct, rfl, NF35, K37, sz_b29, hk ▸ Tt, fun j h1 h2 => by rw [hk] at h2; rw [At j h1 h2]; rcases own_lits h1 h2 1 rfl (by decide) with ⟨q, rfl⟩ | ⟨q, rfl⟩ | ⟨q, rfl⟩ | ⟨q, rfl⟩ <;> first | rfl | exact absurd q (by decide)⟩
  · rw [hk] at P0
    have P40 : own_Pr p.tables e below S0 s₁ (mkF m 2 #[.val (.int p1), .val (.int p2), .val (.int p3), .val (.int p4), .val (.int (2 : Int32)), .unset] [(.int (2 : Int32))]) := fun t k => P0 t (by
      refine XS.iload X0.here hx rfl (hb hby d3_0) rfl ?_
      exact k)
    obtain ⟨T41, h41, k41, X41, e41, E41, A41, st41⟩ := newP X0 hx hZ (hw _ (List.mem_of_getElem? (i := 10) rfl)) e0 (g := (mkF m 2 #[.val (.int p1), .val (.int p2), .val (.int p3), .val (.int p4), .val (.int (2 : Int32)), .unset] [(.int (2 : Int32))])) rfl (hb hby d3_2) rfl (by decide) (cap := 2) (by decide) (by decide) (by decide) (by decide)
    obtain ⟨b41, g41⟩ : ∃ z, z = h0.size := ⟨_, rfl⟩
    rw [← g41] at A41 st41
    have g_b41 : n0 ≤ b41 := Nat.le_trans Z0 (Nat.le_of_eq g41.symm)
    have sz_b41 : h0.size ≤ b41 := Nat.le_trans K0.1 (Nat.le_of_eq g41.symm)
    have Z42 : n0 ≤ h41.size := Nat.le_trans Z0 E41.1
    have K43 := K0.ext E41
    have F44 : Arv Z h41 b41 k41 .int (2 : Int32) [(.int (0 : Int32)), (.int (0 : Int32))] (.int (0 : Int32)) := (Arv.new A41 (by decide)).pad (pad_rep [] (.int (0 : Int32)) 2)
    have P45 : own_Pr p.tables e below S0 T41 (mkF m 4 #[.val (.int p1), .val (.int p2), .val (.int p3), .val (.int p4), .val (.int (2 : Int32)), .unset] [(.ref b41)]) := fun t k => P40 t (st41 _ k)
    have P46 : own_Pr p.tables e below S0 T41 (mkF m 15 #[.val (.int p1), .val (.int p2), .val (.int p3), .val (.int p4), .val (.int (2 : Int32)), .val (.ref b41)] [(.int p1), (.int (0 : Int32)), (.ref b41)]) := fun t k => P45 t (by
      refine XS.astore X41.here hx rfl (hb hby d3_4) rfl rfl (l' := #[.val (.int p1), .val (.int p2), .val (.int p3), .val (.int p4), .val (.int (2 : Int32)), .val (.ref b41)]) rfl ?_
      refine XS.iload X41.here hx rfl (hb hby d3_6) rfl ?_
      refine XS.ifNo X41.here hx rfl (hb hby d3_8) rfl (by decide) ?_
      refine XS.aload X41.here hx rfl (hb hby d3_11) rfl rfl ?_
      refine XS.iconst X41.here hx rfl (hb hby d3_13) ?_
      refine XS.iloadN X41.here hx rfl (hb hby d3_14) rfl ?_
      exact k)
    obtain ⟨cl47, Ar47, q47, S47, N47, H47, G47⟩ := id F44
    have hin47 : ¬ ((0 : Int32) < 0 ∨ cl47.slots.size ≤ ((0 : Int32)).toNatClampNeg) := inb_of S47 ⟨by decide, by decide⟩
    obtain ⟨T47, h47, X47, e47, W47, st47⟩ := stI X41 hx hZ e41 Ar47 (j := (0 : Int32)) hin47 (g := (mkF m 15 #[.val (.int p1), .val (.int p2), .val (.int p3), .val (.int p4), .val (.int (2 : Int32)), .val (.ref b41)] [(.int p1), (.int (0 : Int32)), (.ref b41)])) rfl rfl (hb hby d3_15)
    have V47 : Arv Z h47 b41 k41 .int (2 : Int32) [(.int p1), (.int (0 : Int32))] (.int (0 : Int32)) := Arv.set Ar47 q47 S47 N47 H47 G47 rfl W47 0 rfl (Nat.le_of_ble_eq_true rfl)
    have Z48 : n0 ≤ h47.size := by rw [W47.size]; exact Z42
    have NF47 := Fr.snoc X47 N0 g_b41
    have K49 := K43.wr W47 (Or.inr sz_b41)
    have P50 : own_Pr p.tables e below S0 T47 (mkF m 16 #[.val (.int p1), .val (.int p2), .val (.int p3), .val (.int p4), .val (.int (2 : Int32)), .val (.ref b41)] []) := fun t k => P46 t (st47 _ k)
    have P51 : own_Pr p.tables e below S0 T47 (mkF m 26 #[.val (.int p1), .val (.int p2), .val (.int p3), .val (.int p4), .val (.int (2 : Int32)), .val (.ref b41)] [(.int p2), (.int (1 : Int32)), (.ref b41)]) := fun t k => P50 t (by
      refine XS.iload X47.here hx rfl (hb hby d3_16) rfl ?_
      refine XS.iconst X47.here hx rfl (hb hby d3_18) ?_
      refine XS.icmpNo X47.here hx rfl (hb hby d3_19) rfl (by decide) ?_
      refine XS.aload X47.here hx rfl (hb hby d3_22) rfl rfl ?_
      refine XS.iconst X47.here hx rfl (hb hby d3_24) ?_
      refine XS.iloadN X47.here hx rfl (hb hby d3_25) rfl ?_
      exact k)
    obtain ⟨cl52, Ar52, q52, S52, N52, H52, G52⟩ := id V47
    have hin52 : ¬ ((1 : Int32) < 0 ∨ cl52.slots.size ≤ ((1 : Int32)).toNatClampNeg) := inb_of S52 ⟨by decide, by decide⟩
    obtain ⟨T52, h52, X52, e52, W52, st52⟩ := stI X47 hx hZ e47 Ar52 (j := (1 : Int32)) hin52 (g := (mkF m 26 #[.val (.int p1), .val (.int p2), .val (.int p3), .val (.int p4), .val (.int (2 : Int32)), .val (.ref b41)] [(.int p2), (.int (1 : Int32)), (.ref b41)])) rfl rfl (hb hby d3_26)
    have V52 : Arv Z h52 b41 k41 .int (2 : Int32) [(.int p1), (.int p2)] (.int (0 : Int32)) := Arv.set Ar52 q52 S52 N52 H52 G52 rfl W52 1 rfl (Nat.le_of_ble_eq_true rfl)
    have Z53 : n0 ≤ h52.size := by rw [W52.size]; exact Z48
    have NF52 := Fr.snoc X52 NF47 g_b41
    have K54 := K49.wr W52 (Or.inr sz_b41)
    have P55 : own_Pr p.tables e below S0 T52 (mkF m 27 #[.val (.int p1), .val (.int p2), .val (.int p3), .val (.int p4), .val (.int (2 : Int32)), .val (.ref b41)] []) := fun t k => P51 t (st52 _ k)
    have P56 : own_Pr p.tables e below S0 T52 (mkF m 51 #[.val (.int p1), .val (.int p2), .val (.int p3), .val (.int p4), .val (.int (2 : Int32)), .val (.ref b41)] [(.ref b41)]) := fun t k => P55 t (by
      refine XS.iload X52.here hx rfl (hb hby d3_27) rfl ?_
      refine XS.iconst X52.here hx rfl (hb hby d3_29) ?_
      refine XS.icmpYes X52.here hx rfl (pc0 := 30) (pc' := 38) rfl (hb hby d3_30) rfl (by decide) (by decide) (by decide) ?_
      refine XS.iload X52.here hx rfl (hb hby d3_38) rfl ?_
      refine XS.iconst X52.here hx rfl (hb hby d3_40) ?_
      refine XS.icmpYes X52.here hx rfl (pc0 := 41) (pc' := 49) rfl (hb hby d3_41) rfl (by decide) (by decide) (by decide) ?_
      refine XS.aload X52.here hx rfl (hb hby d3_49) rfl rfl ?_
      exact k)
    obtain ⟨ct, Tt, At⟩ := own_tab (xs := [p1, p2]) V52
    obtain ⟨fs, hr, hrun, hended, hW, hsame⟩ := X52.leave (v := some (.ref b41)) (fun h => by rw [Bd.returns] at h; cases h)
    have fin : Steps p.tables e below S0 (T52.setFrames fs) := P56 _ (by
      jvm_step X52.here [X52.here.top, hx, (hb hby d3_51), X52.method', Bd.returns, Value.isRef, FieldType.isReference]
      first | (intro acts; rw [hr _ acts rfl rfl rfl]) | rw [hr _ _ rfl rfl rfl]
      exact Steps.refl _)
    rw [hS0] at fin
    refine ⟨_, _, fin, hrun, hended, _, _, rfl, ?_, ⟨_, rfl⟩, hW, hsame.mono (by decide) (by decide)⟩
    show own_QP Z p1 p2 p3 p4 p5 h0 n0 _ T52.heap _
    rw [e52]
    exact ⟨_, ct, rfl, NF52, K54, sz_b41, hk ▸ Tt, fun j h1 h2 => by rw [hk] at h2; rw [At j h1 h2]; rcases own_lits h1 h2 2 rfl (by decide) with ⟨q, rfl⟩ | ⟨q, rfl⟩ | ⟨q, rfl⟩ | ⟨q, rfl⟩ <;> first | rfl | exact absurd q (by decide)⟩
  · rw [hk] at P0
    have P57 : own_Pr p.tables e below S0 s₁ (mkF m 2 #[.val (.int p1), .val (.int p2), .val (.int p3), .val (.int p4), .val (.int (3 : Int32)), .unset] [(.int (3 : Int32))]) := fun t k => P0 t (by
      refine XS.iload X0.here hx rfl (hb hby d3_0) rfl ?_
      exact k)
    obtain ⟨T58, h58, k58, X58, e58, E58, A58, st58⟩ := newP X0 hx hZ (hw _ (List.mem_of_getElem? (i := 10) rfl)) e0 (g := (mkF m 2 #[.val (.int p1), .val (.int p2), .val (.int p3), .val (.int p4), .val (.int (3 : Int32)), .unset] [(.int (3 : Int32))])) rfl (hb hby d3_2) rfl (by decide) (cap := 3) (by decide) (by decide) (by decide) (by decide)
    obtain ⟨b58, g58⟩ : ∃ z, z = h0.size := ⟨_, rfl⟩
    rw [← g58] at A58 st58
    have g_b58 : n0 ≤ b58 := Nat.le_trans Z0 (Nat.le_of_eq g58.symm)
    have sz_b58 : h0.size ≤ b58 := Nat.le_trans K0.1 (Nat.le_of_eq g58.symm)
    have Z59 : n0 ≤ h58.size := Nat.le_trans Z0 E58.1
    have K60 := K0.ext E58
    have F61 : Arv Z h58 b58 k58 .int (3 : Int32) [(.int (0 : Int32)), (.int (0 : Int32)), (.int (0 : Int32))] (.int (0 : Int32)) := (Arv.new A58 (by decide)).pad (pad_rep [] (.int (0 : Int32)) 3)
    have P62 : own_Pr p.tables e below S0 T58 (mkF m 4 #[.val (.int p1), .val (.int p2), .val (.int p3), .val (.int p4), .val (.int (3 : Int32)), .unset] [(.ref b58)]) := fun t k => P57 t (st58 _ k)
    have P63 : own_Pr p.tables e below S0 T58 (mkF m 15 #[.val (.int p1), .val (.int p2), .val (.int p3), .val (.int p4), .val (.int (3 : Int32)), .val (.ref b58)] [(.int p1), (.int (0 : Int32)), (.ref b58)]) := fun t k => P62 t (by
      refine XS.astore X58.here hx rfl (hb hby d3_4) rfl rfl (l' := #[.val (.int p1), .val (.int p2), .val (.int p3), .val (.int p4), .val (.int (3 : Int32)), .val (.ref b58)]) rfl ?_
      refine XS.iload X58.here hx rfl (hb hby d3_6) rfl ?_
      refine XS.ifNo X58.here hx rfl (hb hby d3_8) rfl (by decide) ?_
      refine XS.aload X58.here hx rfl (hb hby d3_11) rfl rfl ?_
      refine XS.iconst X58.here hx rfl (hb hby d3_13) ?_
      refine XS.iloadN X58.here hx rfl (hb hby d3_14) rfl ?_
      exact k)
    obtain ⟨cl64, Ar64, q64, S64, N64, H64, G64⟩ := id F61
    have hin64 : ¬ ((0 : Int32) < 0 ∨ cl64.slots.size ≤ ((0 : Int32)).toNatClampNeg) := inb_of S64 ⟨by decide, by decide⟩
    obtain ⟨T64, h64, X64, e64, W64, st64⟩ := stI X58 hx hZ e58 Ar64 (j := (0 : Int32)) hin64 (g := (mkF m 15 #[.val (.int p1), .val (.int p2), .val (.int p3), .val (.int p4), .val (.int (3 : Int32)), .val (.ref b58)] [(.int p1), (.int (0 : Int32)), (.ref b58)])) rfl rfl (hb hby d3_15)
    have V64 : Arv Z h64 b58 k58 .int (3 : Int32) [(.int p1), (.int (0 : Int32)), (.int (0 : Int32))] (.int (0 : Int32)) := Arv.set Ar64 q64 S64 N64 H64 G64 rfl W64 0 rfl (Nat.le_of_ble_eq_true rfl)
    have Z65 : n0 ≤ h64.size := by rw [W64.size]; exact Z59
    have NF64 := Fr.snoc X64 N0 g_b58
    have K66 := K60.wr W64 (Or.inr sz_b58)
    have P67 : own_Pr p.tables e below S0 T64 (mkF m 16 #[.val (.int p1), .val (.int p2), .val (.int p3), .val (.int p4), .val (.int (3 : Int32)), .val (.ref b58)] []) := fun t k => P63 t (st64 _ k)
    have P68 : own_Pr p.tables e below S0 T64 (mkF m 26 #[.val (.int p1), .val (.int p2), .val (.int p3), .val (.int p4), .val (.int (3 : Int32)), .val (.ref b58)] [(.int p2), (.int (1 : Int32)), (.ref b58)]) := fun t k => P67 t (by
      refine XS.iload X64.here hx rfl (hb hby d3_16) rfl ?_
      refine XS.iconst X64.here hx rfl (hb hby d3_18) ?_
      refine XS.icmpNo X64.here hx rfl (hb hby d3_19) rfl (by decide) ?_
      refine XS.aload X64.here hx rfl (hb hby d3_22) rfl rfl ?_
      refine XS.iconst X64.here hx rfl (hb hby d3_24) ?_
      refine XS.iloadN X64.here hx rfl (hb hby d3_25) rfl ?_
      exact k)
    obtain ⟨cl69, Ar69, q69, S69, N69, H69, G69⟩ := id V64
    have hin69 : ¬ ((1 : Int32) < 0 ∨ cl69.slots.size ≤ ((1 : Int32)).toNatClampNeg) := inb_of S69 ⟨by decide, by decide⟩
    obtain ⟨T69, h69, X69, e69, W69, st69⟩ := stI X64 hx hZ e64 Ar69 (j := (1 : Int32)) hin69 (g := (mkF m 26 #[.val (.int p1), .val (.int p2), .val (.int p3), .val (.int p4), .val (.int (3 : Int32)), .val (.ref b58)] [(.int p2), (.int (1 : Int32)), (.ref b58)])) rfl rfl (hb hby d3_26)
    have V69 : Arv Z h69 b58 k58 .int (3 : Int32) [(.int p1), (.int p2), (.int (0 : Int32))] (.int (0 : Int32)) := Arv.set Ar69 q69 S69 N69 H69 G69 rfl W69 1 rfl (Nat.le_of_ble_eq_true rfl)
    have Z70 : n0 ≤ h69.size := by rw [W69.size]; exact Z65
    have NF69 := Fr.snoc X69 NF64 g_b58
    have K71 := K66.wr W69 (Or.inr sz_b58)
    have P72 : own_Pr p.tables e below S0 T69 (mkF m 27 #[.val (.int p1), .val (.int p2), .val (.int p3), .val (.int p4), .val (.int (3 : Int32)), .val (.ref b58)] []) := fun t k => P68 t (st69 _ k)
    have P73 : own_Pr p.tables e below S0 T69 (mkF m 37 #[.val (.int p1), .val (.int p2), .val (.int p3), .val (.int p4), .val (.int (3 : Int32)), .val (.ref b58)] [(.int p3), (.int (2 : Int32)), (.ref b58)]) := fun t k => P72 t (by
      refine XS.iload X69.here hx rfl (hb hby d3_27) rfl ?_
      refine XS.iconst X69.here hx rfl (hb hby d3_29) ?_
      refine XS.icmpNo X69.here hx rfl (hb hby d3_30) rfl (by decide) ?_
      refine XS.aload X69.here hx rfl (hb hby d3_33) rfl rfl ?_
      refine XS.iconst X69.here hx rfl (hb hby d3_35) ?_
      refine XS.iloadN X69.here hx rfl (hb hby d3_36) rfl ?_
      exact k)
    obtain ⟨cl74, Ar74, q74, S74, N74, H74, G74⟩ := id V69
    have hin74 : ¬ ((2 : Int32) < 0 ∨ cl74.slots.size ≤ ((2 : Int32)).toNatClampNeg) := inb_of S74 ⟨by decide, by decide⟩
    obtain ⟨T74, h74, X74, e74, W74, st74⟩ := stI X69 hx hZ e69 Ar74 (j := (2 : Int32)) hin74 (g := (mkF m 37 #[.val (.int p1), .val (.int p2), .val (.int p3), .val (.int p4), .val (.int (3 : Int32)), .val (.ref b58)] [(.int p3), (.int (2 : Int32)), (.ref b58)])) rfl rfl (hb hby d3_37)
    have V74 : Arv Z h74 b58 k58 .int (3 : Int32) [(.int p1), (.int p2), (.int p3)] (.int (0 : Int32)) := Arv.set Ar74 q74 S74 N74 H74 G74 rfl W74 2 rfl (Nat.le_of_ble_eq_true rfl)
    have Z75 : n0 ≤ h74.size := by rw [W74.size]; exact Z70
    have NF74 := Fr.snoc X74 NF69 g_b58
    have K76 := K71.wr W74 (Or.inr sz_b58)
    have P77 : own_Pr p.tables e below S0 T74 (mkF m 38 #[.val (.int p1), .val (.int p2), .val (.int p3), .val (.int p4), .val (.int (3 : Int32)), .val (.ref b58)] []) := fun t k => P73 t (st74 _ k)
    have P78 : own_Pr p.tables e below S0 T74 (mkF m 51 #[.val (.int p1), .val (.int p2), .val (.int p3), .val (.int p4), .val (.int (3 : Int32)), .val (.ref b58)] [(.ref b58)]) := fun t k => P77 t (by
      refine XS.iload X74.here hx rfl (hb hby d3_38) rfl ?_
      refine XS.iconst X74.here hx rfl (hb hby d3_40) ?_
      refine XS.icmpYes X74.here hx rfl (pc0 := 41) (pc' := 49) rfl (hb hby d3_41) rfl (by decide) (by decide) (by decide) ?_
      refine XS.aload X74.here hx rfl (hb hby d3_49) rfl rfl ?_
      exact k)
    obtain ⟨ct, Tt, At⟩ := own_tab (xs := [p1, p2, p3]) V74
    obtain ⟨fs, hr, hrun, hended, hW, hsame⟩ := X74.leave (v := some (.ref b58)) (fun h => by rw [Bd.returns] at h; cases h)
    have fin : Steps p.tables e below S0 (T74.setFrames fs) := P78 _ (by
      jvm_step X74.here [X74.here.top, hx, (hb hby d3_51), X74.method', Bd.returns, Value.isRef, FieldType.isReference]
      first | (intro acts; rw [hr _ acts rfl rfl rfl]) | rw [hr _ _ rfl rfl rfl]
      exact Steps.refl _)
    rw [hS0] at fin
    refine ⟨_, _, fin, hrun, hended, _, _, rfl, ?_, ⟨_, rfl⟩, hW, hsame.mono (by decide) (by decide)⟩
    show own_QP Z p1 p2 p3 p4 p5 h0 n0 _ T74.heap _
    rw [e74]
    exact ⟨_, ct, rfl, NF74, K76, sz_b58, hk ▸ Tt, fun j h1 h2 => by rw [hk] at h2; rw [At j h1 h2]; rcases own_lits h1 h2 3 rfl (by decide) with ⟨q, rfl⟩ | ⟨q, rfl⟩ | ⟨q, rfl⟩ | ⟨q, rfl⟩ <;> first | rfl | exact absurd q (by decide)⟩
  · rw [hk] at P0
    have P79 : own_Pr p.tables e below S0 s₁ (mkF m 2 #[.val (.int p1), .val (.int p2), .val (.int p3), .val (.int p4), .val (.int (4 : Int32)), .unset] [(.int (4 : Int32))]) := fun t k => P0 t (by
      refine XS.iload X0.here hx rfl (hb hby d3_0) rfl ?_
      exact k)
    obtain ⟨T80, h80, k80, X80, e80, E80, A80, st80⟩ := newP X0 hx hZ (hw _ (List.mem_of_getElem? (i := 10) rfl)) e0 (g := (mkF m 2 #[.val (.int p1), .val (.int p2), .val (.int p3), .val (.int p4), .val (.int (4 : Int32)), .unset] [(.int (4 : Int32))])) rfl (hb hby d3_2) rfl (by decide) (cap := 4) (by decide) (by decide) (by decide) (by decide)
    obtain ⟨b80, g80⟩ : ∃ z, z = h0.size := ⟨_, rfl⟩
    rw [← g80] at A80 st80
    have g_b80 : n0 ≤ b80 := Nat.le_trans Z0 (Nat.le_of_eq g80.symm)
    have sz_b80 : h0.size ≤ b80 := Nat.le_trans K0.1 (Nat.le_of_eq g80.symm)
    have Z81 : n0 ≤ h80.size := Nat.le_trans Z0 E80.1
    have K82 := K0.ext E80
    have F83 : Arv Z h80 b80 k80 .int (4 : Int32) [(.int (0 : Int32)), (.int (0 : Int32)), (.int (0 : Int32)), (.int (0 : Int32))] (.int (0 : Int32)) := (Arv.new A80 (by decide)).pad (pad_rep [] (.int (0 : Int32)) 4)
    have P84 : own_Pr p.tables e below S0 T80 (mkF m 4 #[.val (.int p1), .val (.int p2), .val (.int p3), .val (.int p4), .val (.int (4 : Int32)), .unset] [(.ref b80)]) := fun t k => P79 t (st80 _ k)
    have P85 : own_Pr p.tables e below S0 T80 (mkF m 15 #[.val (.int p1), .val (.int p2), .val (.int p3), .val (.int p4), .val (.int (4 : Int32)), .val (.ref b80)] [(.int p1), (.int (0 : Int32)), (.ref b80)]) := fun t k => P84 t (by
      refine XS.astore X80.here hx rfl (hb hby d3_4) rfl rfl (l' := #[.val (.int p1), .val (.int p2), .val (.int p3), .val (.int p4), .val (.int (4 : Int32)), .val (.ref b80)]) rfl ?_
      refine XS.iload X80.here hx rfl (hb hby d3_6) rfl ?_
      refine XS.ifNo X80.here hx rfl (hb hby d3_8) rfl (by decide) ?_
      refine XS.aload X80.here hx rfl (hb hby d3_11) rfl rfl ?_
      refine XS.iconst X80.here hx rfl (hb hby d3_13) ?_
      refine XS.iloadN X80.here hx rfl (hb hby d3_14) rfl ?_
      exact k)
    obtain ⟨cl86, Ar86, q86, S86, N86, H86, G86⟩ := id F83
    have hin86 : ¬ ((0 : Int32) < 0 ∨ cl86.slots.size ≤ ((0 : Int32)).toNatClampNeg) := inb_of S86 ⟨by decide, by decide⟩
    obtain ⟨T86, h86, X86, e86, W86, st86⟩ := stI X80 hx hZ e80 Ar86 (j := (0 : Int32)) hin86 (g := (mkF m 15 #[.val (.int p1), .val (.int p2), .val (.int p3), .val (.int p4), .val (.int (4 : Int32)), .val (.ref b80)] [(.int p1), (.int (0 : Int32)), (.ref b80)])) rfl rfl (hb hby d3_15)
    have V86 : Arv Z h86 b80 k80 .int (4 : Int32) [(.int p1), (.int (0 : Int32)), (.int (0 : Int32)), (.int (0 : Int32))] (.int (0 : Int32)) := Arv.set Ar86 q86 S86 N86 H86 G86 rfl W86 0 rfl (Nat.le_of_ble_eq_true rfl)
    have Z87 : n0 ≤ h86.size := by rw [W86.size]; exact Z81
    have NF86 := Fr.snoc X86 N0 g_b80
    have K88 := K82.wr W86 (Or.inr sz_b80)
    have P89 : own_Pr p.tables e below S0 T86 (mkF m 16 #[.val (.int p1), .val (.int p2), .val (.int p3), .val (.int p4), .val (.int (4 : Int32)), .val (.ref b80)] []) := fun t k => P85 t (st86 _ k)
    have P90 : own_Pr p.tables e below S0 T86 (mkF m 26 #[.val (.int p1), .val (.int p2), .val (.int p3), .val (.int p4), .val (.int (4 : Int32)), .val (.ref b80)] [(.int p2), (.int (1 : Int32)), (.ref b80)]) := fun t k => P89 t (by
      refine XS.iload X86.here hx rfl (hb hby d3_16) rfl ?_
      refine XS.iconst X86.here hx rfl (hb hby d3_18) ?_
      refine XS.icmpNo X86.here hx rfl (hb hby d3_19) rfl (by decide) ?_
      refine XS.aload X86.here hx rfl (hb hby d3_22) rfl rfl ?_
      refine XS.iconst X86.here hx rfl (hb hby d3_24) ?_
      refine XS.iloadN X86.here hx rfl (hb hby d3_25) rfl ?_
      exact k)
    obtain ⟨cl91, Ar91, q91, S91, N91, H91, G91⟩ := id V86
    have hin91 : ¬ ((1 : Int32) < 0 ∨ cl91.slots.size ≤ ((1 : Int32)).toNatClampNeg) := inb_of S91 ⟨by decide, by decide⟩
    obtain ⟨T91, h91, X91, e91, W91, st91⟩ := stI X86 hx hZ e86 Ar91 (j := (1 : Int32)) hin91 (g := (mkF m 26 #[.val (.int p1), .val (.int p2), .val (.int p3), .val (.int p4), .val (.int (4 : Int32)), .val (.ref b80)] [(.int p2), (.int (1 : Int32)), (.ref b80)])) rfl rfl (hb hby d3_26)
    have V91 : Arv Z h91 b80 k80 .int (4 : Int32) [(.int p1), (.int p2), (.int (0 : Int32)), (.int (0 : Int32))] (.int (0 : Int32)) := Arv.set Ar91 q91 S91 N91 H91 G91 rfl W91 1 rfl (Nat.le_of_ble_eq_true rfl)
    have Z92 : n0 ≤ h91.size := by rw [W91.size]; exact Z87
    have NF91 := Fr.snoc X91 NF86 g_b80
    have K93 := K88.wr W91 (Or.inr sz_b80)
    have P94 : own_Pr p.tables e below S0 T91 (mkF m 27 #[.val (.int p1), .val (.int p2), .val (.int p3), .val (.int p4), .val (.int (4 : Int32)), .val (.ref b80)] []) := fun t k => P90 t (st91 _ k)
    have P95 : own_Pr p.tables e below S0 T91 (mkF m 37 #[.val (.int p1), .val (.int p2), .val (.int p3), .val (.int p4), .val (.int (4 : Int32)), .val (.ref b80)] [(.int p3), (.int (2 : Int32)), (.ref b80)]) := fun t k => P94 t (by
      refine XS.iload X91.here hx rfl (hb hby d3_27) rfl ?_
      refine XS.iconst X91.here hx rfl (hb hby d3_29) ?_
      refine XS.icmpNo X91.here hx rfl (hb hby d3_30) rfl (by decide) ?_
      refine XS.aload X91.here hx rfl (hb hby d3_33) rfl rfl ?_
      refine XS.iconst X91.here hx rfl (hb hby d3_35) ?_
      refine XS.iloadN X91.here hx rfl (hb hby d3_36) rfl ?_
      exact k)
    obtain ⟨cl96, Ar96, q96, S96, N96, H96, G96⟩ := id V91
    have hin96 : ¬ ((2 : Int32) < 0 ∨ cl96.slots.size ≤ ((2 : Int32)).toNatClampNeg) := inb_of S96 ⟨by decide, by decide⟩
    obtain ⟨T96, h96, X96, e96, W96, st96⟩ := stI X91 hx hZ e91 Ar96 (j := (2 : Int32)) hin96 (g := (mkF m 37 #[.val (.int p1), .val (.int p2), .val (.int p3), .val (.int p4), .val (.int (4 : Int32)), .val (.ref b80)] [(.int p3), (.int (2 : Int32)), (.ref b80)])) rfl rfl (hb hby d3_37)
    have V96 : Arv Z h96 b80 k80 .int (4 : Int32) [(.int p1), (.int p2), (.int p3), (.int (0 : Int32))] (.int (0 : Int32)) := Arv.set Ar96 q96 S96 N96 H96 G96 rfl W96 2 rfl (Nat.le_of_ble_eq_true rfl)
    have Z97 : n0 ≤ h96.size := by rw [W96.size]; exact Z92
    have NF96 := Fr.snoc X96 NF91 g_b80
    have K98 := K93.wr W96 (Or.inr sz_b80)
    have P99 : own_Pr p.tables e below S0 T96 (mkF m 38 #[.val (.int p1), .val (.int p2), .val (.int p3), .val (.int p4), .val (.int (4 : Int32)), .val (.ref b80)] []) := fun t k => P95 t (st96 _ k)
    have P100 : own_Pr p.tables e below S0 T96 (mkF m 48 #[.val (.int p1), .val (.int p2), .val (.int p3), .val (.int p4), .val (.int (4 : Int32)), .val (.ref b80)] [(.int p4), (.int (3 : Int32)), (.ref b80)]) := fun t k => P99 t (by
      refine XS.iload X96.here hx rfl (hb hby d3_38) rfl ?_
      refine XS.iconst X96.here hx rfl (hb hby d3_40) ?_
      refine XS.icmpNo X96.here hx rfl (hb hby d3_41) rfl (by decide) ?_
      refine XS.aload X96.here hx rfl (hb hby d3_44) rfl rfl ?_
      refine XS.iconst X96.here hx rfl (hb hby d3_46) ?_
      refine XS.iloadN X96.here hx rfl (hb hby d3_47) rfl ?_
      exact k)
    obtain ⟨cl101, Ar101, q101, S101, N101, H101, G101⟩ := id V96
    have hin101 : ¬ ((3 : Int32) < 0 ∨ cl101.slots.size ≤ ((3 : Int32)).toNatClampNeg) := inb_of S101 ⟨by decide, by decide⟩
    obtain ⟨T101, h101, X101, e101, W101, st101⟩ := stI X96 hx hZ e96 Ar101 (j := (3 : Int32)) hin101 (g := (mkF m 48 #[.val (.int p1), .val (.int p2), .val (.int p3), .val (.int p4), .val (.int (4 : Int32)), .val (.ref b80)] [(.int p4), (.int (3 : Int32)), (.ref b80)])) rfl rfl (hb hby d3_48)
    have V101 : Arv Z h101 b80 k80 .int (4 : Int32) [(.int p1), (.int p2), (.int p3), (.int p4)] (.int (0 : Int32)) := Arv.set Ar101 q101 S101 N101 H101 G101 rfl W101 3 rfl (Nat.le_of_ble_eq_true rfl)
    have Z102 : n0 ≤ h101.size := by rw [W101.size]; exact Z97
    have NF101 := Fr.snoc X101 NF96 g_b80
    have K103 := K98.wr W101 (Or.inr sz_b80)
    have P104 : own_Pr p.tables e below S0 T101 (mkF m 49 #[.val (.int p1), .val (.int p2), .val (.int p3), .val (.int p4), .val (.int (4 : Int32)), .val (.ref b80)] []) := fun t k => P100 t (st101 _ k)
    have P105 : own_Pr p.tables e below S0 T101 (mkF m 51 #[.val (.int p1), .val (.int p2), .val (.int p3), .val (.int p4), .val (.int (4 : Int32)), .val (.ref b80)] [(.ref b80)]) := fun t k => P104 t (by
      refine XS.aload X101.here hx rfl (hb hby d3_49) rfl rfl ?_
      exact k)
    obtain ⟨ct, Tt, At⟩ := own_tab (xs := [p1, p2, p3, p4]) V101
    obtain ⟨fs, hr, hrun, hended, hW, hsame⟩ := X101.leave (v := some (.ref b80)) (fun h => by rw [Bd.returns] at h; cases h)
    have fin : Steps p.tables e below S0 (T101.setFrames fs) := P105 _ (by
      jvm_step X101.here [X101.here.top, hx, (hb hby d3_51), X101.method', Bd.returns, Value.isRef, FieldType.isReference]
      first | (intro acts; rw [hr _ acts rfl rfl rfl]) | rw [hr _ _ rfl rfl rfl]
      exact Steps.refl _)
    rw [hS0] at fin
    refine ⟨_, _, fin, hrun, hended, _, _, rfl, ?_, ⟨_, rfl⟩, hW, hsame.mono (by decide) (by decide)⟩
    show own_QP Z p1 p2 p3 p4 p5 h0 n0 _ T101.heap _
    rw [e101]
    exact ⟨_, ct, rfl, NF101, K103, sz_b80, hk ▸ Tt, fun j h1 h2 => by rw [hk] at h2; rw [At j h1 h2]; rcases own_lits h1 h2 4 rfl (by decide) with ⟨q, rfl⟩ | ⟨q, rfl⟩ | ⟨q, rfl⟩ | ⟨q, rfl⟩ <;> first | rfl | exact absurd q (by decide)⟩
theorem d4_95 : decode prog_29_method_13_code 95 = .ok (.iload_n 2, 1) := by decide +kernel
theorem d4_96 : decode prog_29_method_13_code 96 = .ok (.aload_n 0, 1) := by decide +kernel
theorem d4_97 : decode prog_29_method_13_code 97 = .ok (.arraylength, 1) := by decide +kernel
theorem d4_98 : decode prog_29_method_13_code 98 = .ok (.if_icmp .ge 17, 3) := by decide +kernel
theorem d4_101 : decode prog_29_method_13_code 101 = .ok (.aload_n 0, 1) := by decide +kernel
theorem d4_102 : decode prog_29_method_13_code 102 = .ok (.iload_n 2, 1) := by decide +kernel
theorem d4_103 : decode prog_29_method_13_code 103 = .ok (.iaload, 1) := by decide +kernel
theorem d4_104 : decode prog_29_method_13_code 104 = .ok (.bipush 42, 2) := by decide +kernel
theorem d4_106 : decode prog_29_method_13_code 106 = .ok (.if_icmp .ne 9, 3) := by decide +kernel
theorem d4_109 : decode prog_29_method_13_code 109 = .ok (.iinc 2 1, 3) := by decide +kernel
theorem d4_112 : decode prog_29_method_13_code 112 = .ok (.goto (-17), 3) := by decide +kernel
theorem d4_115 : decode prog_29_method_13_code 115 = .ok (.iload_n 2, 1) := by decide +kernel
theorem d4_116 : decode prog_29_method_13_code 116 = .ok (.aload_n 0, 1) := by decide +kernel
theorem d4_117 : decode prog_29_method_13_code 117 = .ok (.arraylength, 1) := by decide +kernel
theorem d4_118 : decode prog_29_method_13_code 118 = .ok (.if_icmp .ne 7, 3) := by decide +kernel
theorem d4_121 : decode prog_29_method_13_code 121 = .ok (.iconst 1, 1) := by decide +kernel
theorem d4_122 : decode prog_29_method_13_code 122 = .ok (.goto 4, 3) := by decide +kernel
theorem d4_125 : decode prog_29_method_13_code 125 = .ok (.iconst 0, 1) := by decide +kernel
theorem d4_126 : decode prog_29_method_13_code 126 = .ok (.ireturn, 1) := by decide +kernel
def own_L4_95 : Nat → Cell → Cell → Int32 → Int32 → Int32 → Int32 → Int32 → Int32 → Option Int32
  | 0, _, _, _, _, _, _, _, _ => none
  | k + 1, cl1, cl2, n1, n2, i, ti, sr, sx => (if i < n1 then (if ¬ (i < 0) ∧ i < n1 then (if (atv cl1 i) = (42 : Int32) then own_L4_95 k cl1 cl2 n1 n2 (i + (1 : Int32)) ti sr sx else (if i = n1 then some (1 : Int32) else some (0 : Int32))) else none) else (if i = n1 then some (1 : Int32) else some (0 : Int32)))
theorem own_L4_95_s (k : Nat) (cl1 : Cell) (cl2 : Cell) (n1 : Int32) (n2 : Int32) (i : Int32) (ti : Int32) (sr : Int32) (sx : Int32) : own_L4_95 (k + 1) cl1 cl2 n1 n2 i ti sr sx = (if i < n1 then (if ¬ (i < 0) ∧ i < n1 then (if (atv cl1 i) = (42 : Int32) then own_L4_95 k cl1 cl2 n1 n2 (i + (1 : Int32)) ti sr sx else (if i = n1 then some (1 : Int32) else some (0 : Int32))) else none) else (if i = n1 then some (1 : Int32) else some (0 : Int32))) := rfl
set_option maxRecDepth 65536 in
set_option maxHeartbeats 40000000 in
theorem lp4_95 {p : Program} {l : Launch} {e : Env} {R : Room} {s : State} {m : MethodId} {args : Array Value} {below : List Frame} {meth : Method} {c : Code} {cells slots : Nat} {Z : State} {a0 : Array Value} {h0 : Heap} {S0 : State} {n0 : Nat}
    (hx : p.tables.exec = Jvm.exec) (hZ : Z.Warmed39 s.vm) (hw : ∀ d ∈ tables_1, d.before a0 Z = true) (hby : c.code = prog_29_method_13_code) (hml : c.maxLocals = 6) (hown : s.vm.findClass "com/example/ferryline/ferryline/UriWorkerMap" = some m.cls) (a1 a2 : Addr) (cl1 cl2 : Cell) (n1 n2 : Int32) (TA : Tab Z h0 a1 cl1 .int n1) (TB : Tab Z h0 a2 cl2 .int n2) :
    ∀ (k : Nat) (i : Int32) (ti : Int32) (sr : Int32) (sx : Int32) (T0 : State) (locs0 : List Loc) (X0 : Stand p l e R s m args below meth c T0 locs0 cells slots) (N0 : Fr n0 locs0) (e0 : T0.heap = h0) (P0 : own_Pr p.tables e below S0 T0 (mkF m 95 #[.val (.ref a1), .val (.ref a2), .val (.int i), .val (.int ti), .val (.int sr), .val (.int sx)] [])) {r : Int32} (hr : own_L4_95 k cl1 cl2 n1 n2 i ti sr sx = some r),
    ∃ (T' : State) (locs' : List Loc) (pc' : Nat) (Ls' : Array Slot), Stand p l e R s m args below meth c T' locs' cells slots ∧ Fr n0 locs' ∧ T'.heap = h0 ∧ own_Pr p.tables e below S0 T' (mkF m pc' Ls' [.int r]) ∧ decode c.code pc' = .ok (.ireturn, 1) ∧ nar .boolean r = r := by
  intro k
  induction k with
  | zero => intro i ti sr sx T0 locs0 X0 N0 e0 P0 r hr; exact nomatch hr
  | succ k ih =>
    intro i ti sr sx T0 locs0 X0 N0 e0 P0 r hr
    rw [own_L4_95_s] at hr
    have P21 : own_Pr p.tables e below S0 T0 (mkF m 98 #[.val (.ref a1), .val (.ref a2), .val (.int i), .val (.int ti), .val (.int sr), .val (.int sx)] [(.int n1), (.int i)]) := fun t k => P0 t (by
      refine XS.iloadN X0.here hx rfl (hb hby d4_95) rfl ?_
      refine XS.aloadN X0.here hx rfl (hb hby d4_96) rfl rfl ?_
      refine X0.arraylength hx (by rw [e0]; exact TA.1.1) (State.isArrayOf_alike hZ.alike TA.1.2.1) (g := (mkF m 97 #[.val (.ref a1), .val (.ref a2), .val (.int i), .val (.int ti), .val (.int sr), .val (.int sx)] [(.ref a1), (.int i)])) rfl rfl (hb hby d4_97) _ ?_
      rw [len_of TA.2.1 TA.2.2.1]
      show Steps p.tables e below (T0.setTop (mkF m 98 #[.val (.ref a1), .val (.ref a2), .val (.int i), .val (.int ti), .val (.int sr), .val (.int sx)] [(.int n1), (.int i)])) _
      exact k)
    by_cases hc98_22 : i < n1
    · rw [if_pos hc98_22] at hr
      have P23 : own_Pr p.tables e below S0 T0 (mkF m 103 #[.val (.ref a1), .val (.ref a2), .val (.int i), .val (.int ti), .val (.int sr), .val (.int sx)] [(.int i), (.ref a1)]) := fun t k => P21 t (by
        refine XS.icmpNo X0.here hx rfl (hb hby d4_98) rfl (XT.ii_ge_f hc98_22) ?_
        refine XS.aloadN X0.here hx rfl (hb hby d4_101) rfl rfl ?_
        refine XS.iloadN X0.here hx rfl (hb hby d4_102) rfl ?_
        exact k)
      by_cases hg103_24 : ¬ (i < 0) ∧ i < n1
      · rw [if_pos hg103_24] at hr
        have hin103_25 : ¬ (i < 0 ∨ cl1.slots.size ≤ (i).toNatClampNeg) := inb_of TA.2.1 hg103_24
        have P26 : own_Pr p.tables e below S0 T0 (mkF m 106 #[.val (.ref a1), .val (.ref a2), .val (.int i), .val (.int ti), .val (.int sr), .val (.int sx)] [(.int (42 : Int32)), (.int (atv cl1 i))]) := fun t k => P23 t (by
          refine X0.iaload hx (j := i) (v := .int (atv cl1 i)) (by rw [e0]; exact TA.1.1) (State.isArrayOf_alike hZ.alike TA.1.2.1) TA.1.2.2 hin103_25 (TA.2.2.2 _ hin103_25) (g := (mkF m 103 #[.val (.ref a1), .val (.ref a2), .val (.int i), .val (.int ti), .val (.int sr), .val (.int sx)] [(.int i), (.ref a1)])) rfl rfl (hb hby d4_103) _ ?_
          refine XS.bipush X0.here hx rfl (hb hby d4_104) ?_
          exact k)
        by_cases hc106_27 : (atv cl1 i) = (42 : Int32)
        · rw [if_pos hc106_27] at hr
          have P28 : own_Pr p.tables e below S0 T0 (mkF m 95 #[.val (.ref a1), .val (.ref a2), .val (.int (i + (1 : Int32))), .val (.int ti), .val (.int sr), .val (.int sx)] []) := fun t k => P26 t (by
            refine XS.icmpNo X0.here hx rfl (hb hby d4_106) rfl (XT.ii_ne_f hc106_27) ?_
            refine XS.iinc X0.here hx rfl (hb hby d4_109) rfl (l' := #[.val (.ref a1), .val (.ref a2), .val (.int (i + (1 : Int32))), .val (.int ti), .val (.int sr), .val (.int sx)]) rfl ?_
            refine XS.goto X0.here hx rfl (pc0 := 112) (pc' := 95) rfl (hb hby d4_112) (by decide) (by decide) ?_
            exact k)
          exact ih (i + (1 : Int32)) ti sr sx T0 _ X0 N0 e0 P28 hr
        · rw [if_neg hc106_27] at hr
          have P29 : own_Pr p.tables e below S0 T0 (mkF m 118 #[.val (.ref a1), .val (.ref a2), .val (.int i), .val (.int ti), .val (.int sr), .val (.int sx)] [(.int n1), (.int i)]) := fun t k => P26 t (by
            refine XS.icmpYes X0.here hx rfl (pc0 := 106) (pc' := 115) rfl (hb hby d4_106) rfl (XT.ii_ne_t hc106_27) (by decide) (by decide) ?_
            refine XS.iloadN X0.here hx rfl (hb hby d4_115) rfl ?_
            refine XS.aloadN X0.here hx rfl (hb hby d4_116) rfl rfl ?_
            refine X0.arraylength hx (by rw [e0]; exact TA.1.1) (State.isArrayOf_alike hZ.alike TA.1.2.1) (g := (mkF m 117 #[.val (.ref a1), .val (.ref a2), .val (.int i), .val (.int ti), .val (.int sr), .val (.int sx)] [(.ref a1), (.int i)])) rfl rfl (hb hby d4_117) _ ?_
            rw [len_of TA.2.1 TA.2.2.1]
            show Steps p.tables e below (T0.setTop (mkF m 118 #[.val (.ref a1), .val (.ref a2), .val (.int i), .val (.int ti), .val (.int sr), .val (.int sx)] [(.int n1), (.int i)])) _
            exact k)
          by_cases hc118_30 : i = n1
          · rw [if_pos hc118_30] at hr
            have P31 : own_Pr p.tables e below S0 T0 (mkF m 126 #[.val (.ref a1), .val (.ref a2), .val (.int i), .val (.int ti), .val (.int sr), .val (.int sx)] [(.int (1 : Int32))]) := fun t k => P29 t (by
              refine XS.icmpNo X0.here hx rfl (hb hby d4_118) rfl (XT.ii_ne_f hc118_30) ?_
              refine XS.iconst X0.here hx rfl (hb hby d4_121) ?_
              refine XS.goto X0.here hx rfl (pc0 := 122) (pc' := 126) rfl (hb hby d4_122) (by decide) (by decide) ?_
              exact k)
            obtain rfl := Option.some.inj hr
            exact ⟨T0, _, 126, _, X0, N0, e0, P31, (hb hby d4_126), rfl⟩
          · rw [if_neg hc118_30] at hr
            have P32 : own_Pr p.tables e below S0 T0 (mkF m 126 #[.val (.ref a1), .val (.ref a2), .val (.int i), .val (.int ti), .val (.int sr), .val (.int sx)] [(.int (0 : Int32))]) := fun t k => P29 t (by
              refine XS.icmpYes X0.here hx rfl (pc0 := 118) (pc' := 125) rfl (hb hby d4_118) rfl (XT.ii_ne_t hc118_30) (by decide) (by decide) ?_
              refine XS.iconst X0.here hx rfl (hb hby d4_125) ?_
              exact k)
            obtain rfl := Option.some.inj hr
            exact ⟨T0, _, 126, _, X0, N0, e0, P32, (hb hby d4_126), rfl⟩
      · rw [if_neg hg103_24] at hr; exact nomatch hr
    · rw [if_neg hc98_22] at hr
      have P33 : own_Pr p.tables e below S0 T0 (mkF m 118 #[.val (.ref a1), .val (.ref a2), .val (.int i), .val (.int ti), .val (.int sr), .val (.int sx)] [(.int n1), (.int i)]) := fun t k => P21 t (by
        refine XS.icmpYes X0.here hx rfl (pc0 := 98) (pc' := 115) rfl (hb hby d4_98) rfl (XT.ii_ge_t hc98_22) (by decide) (by decide) ?_
        refine XS.iloadN X0.here hx rfl (hb hby d4_115) rfl ?_
        refine XS.aloadN X0.here hx rfl (hb hby d4_116) rfl rfl ?_
        refine X0.arraylength hx (by rw [e0]; exact TA.1.1) (State.isArrayOf_alike hZ.alike TA.1.2.1) (g := (mkF m 117 #[.val (.ref a1), .val (.ref a2), .val (.int i), .val (.int ti), .val (.int sr), .val (.int sx)] [(.ref a1), (.int i)])) rfl rfl (hb hby d4_117) _ ?_
        rw [len_of TA.2.1 TA.2.2.1]
        show Steps p.tables e below (T0.setTop (mkF m 118 #[.val (.ref a1), .val (.ref a2), .val (.int i), .val (.int ti), .val (.int sr), .val (.int sx)] [(.int n1), (.int i)])) _
        exact k)
      by_cases hc118_34 : i = n1
      · rw [if_pos hc118_34] at hr
        have P35 : own_Pr p.tables e below S0 T0 (mkF m 126 #[.val (.ref a1), .val (.ref a2), .val (.int i), .val (.int ti), .val (.int sr), .val (.int sx)] [(.int (1 : Int32))]) := fun t k => P33 t (by
          refine XS.icmpNo X0.here hx rfl (hb hby d4_118) rfl (XT.ii_ne_f hc118_34) ?_
          refine XS.iconst X0.here hx rfl (hb hby d4_121) ?_
          refine XS.goto X0.here hx rfl (pc0 := 122) (pc' := 126) rfl (hb hby d4_122) (by decide) (by decide) ?_
          exact k)
        obtain rfl := Option.some.inj hr
        exact ⟨T0, _, 126, _, X0, N0, e0, P35, (hb hby d4_126), rfl⟩
      · rw [if_neg hc118_34] at hr
        have P36 : own_Pr p.tables e below S0 T0 (mkF m 126 #[.val (.ref a1), .val (.ref a2), .val (.int i), .val (.int ti), .val (.int sr), .val (.int sx)] [(.int (0 : Int32))]) := fun t k => P33 t (by
          refine XS.icmpYes X0.here hx rfl (pc0 := 118) (pc' := 125) rfl (hb hby d4_118) rfl (XT.ii_ne_t hc118_34) (by decide) (by decide) ?_
          refine XS.iconst X0.here hx rfl (hb hby d4_125) ?_
          exact k)
        obtain rfl := Option.some.inj hr
        exact ⟨T0, _, 126, _, X0, N0, e0, P36, (hb hby d4_126), rfl⟩
theorem d4_10 : decode prog_29_method_13_code 10 = .ok (.iload_n 3, 1) := by decide +kernel
theorem d4_11 : decode prog_29_method_13_code 11 = .ok (.aload_n 1, 1) := by decide +kernel
theorem d4_12 : decode prog_29_method_13_code 12 = .ok (.arraylength, 1) := by decide +kernel
theorem d4_13 : decode prog_29_method_13_code 13 = .ok (.if_icmp .ge 82, 3) := by decide +kernel
theorem d4_16 : decode prog_29_method_13_code 16 = .ok (.iload_n 2, 1) := by decide +kernel
theorem d4_17 : decode prog_29_method_13_code 17 = .ok (.aload_n 0, 1) := by decide +kernel
theorem d4_18 : decode prog_29_method_13_code 18 = .ok (.arraylength, 1) := by decide +kernel
theorem d4_19 : decode prog_29_method_13_code 19 = .ok (.if_icmp .ge 23, 3) := by decide +kernel
theorem d4_22 : decode prog_29_method_13_code 22 = .ok (.aload_n 0, 1) := by decide +kernel
theorem d4_23 : decode prog_29_method_13_code 23 = .ok (.iload_n 2, 1) := by decide +kernel
theorem d4_24 : decode prog_29_method_13_code 24 = .ok (.iaload, 1) := by decide +kernel
theorem d4_25 : decode prog_29_method_13_code 25 = .ok (.bipush 42, 2) := by decide +kernel
theorem d4_27 : decode prog_29_method_13_code 27 = .ok (.if_icmp .ne 15, 3) := by decide +kernel
theorem d4_30 : decode prog_29_method_13_code 30 = .ok (.iload_n 2, 1) := by decide +kernel
theorem d4_31 : decode prog_29_method_13_code 31 = .ok (.iinc 2 1, 3) := by decide +kernel
theorem d4_34 : decode prog_29_method_13_code 34 = .ok (.istore 4, 2) := by decide +kernel
theorem d4_36 : decode prog_29_method_13_code 36 = .ok (.iload_n 3, 1) := by decide +kernel
theorem d4_37 : decode prog_29_method_13_code 37 = .ok (.istore 5, 2) := by decide +kernel
theorem d4_39 : decode prog_29_method_13_code 39 = .ok (.goto (-29), 3) := by decide +kernel
theorem d4_42 : decode prog_29_method_13_code 42 = .ok (.iload_n 2, 1) := by decide +kernel
theorem d4_43 : decode prog_29_method_13_code 43 = .ok (.aload_n 0, 1) := by decide +kernel
theorem d4_44 : decode prog_29_method_13_code 44 = .ok (.arraylength, 1) := by decide +kernel
theorem d4_45 : decode prog_29_method_13_code 45 = .ok (.if_icmp .ge 29, 3) := by decide +kernel
theorem d4_48 : decode prog_29_method_13_code 48 = .ok (.aload_n 0, 1) := by decide +kernel
theorem d4_49 : decode prog_29_method_13_code 49 = .ok (.iload_n 2, 1) := by decide +kernel
theorem d4_50 : decode prog_29_method_13_code 50 = .ok (.iaload, 1) := by decide +kernel
theorem d4_51 : decode prog_29_method_13_code 51 = .ok (.bipush 63, 2) := by decide +kernel
theorem d4_53 : decode prog_29_method_13_code 53 = .ok (.if_icmp .eq 12, 3) := by decide +kernel
theorem d4_56 : decode prog_29_method_13_code 56 = .ok (.aload_n 0, 1) := by decide +kernel
theorem d4_57 : decode prog_29_method_13_code 57 = .ok (.iload_n 2, 1) := by decide +kernel
theorem d4_58 : decode prog_29_method_13_code 58 = .ok (.iaload, 1) := by decide +kernel
theorem d4_59 : decode prog_29_method_13_code 59 = .ok (.aload_n 1, 1) := by decide +kernel
theorem d4_60 : decode prog_29_method_13_code 60 = .ok (.iload_n 3, 1) := by decide +kernel
theorem d4_61 : decode prog_29_method_13_code 61 = .ok (.iaload, 1) := by decide +kernel
theorem d4_62 : decode prog_29_method_13_code 62 = .ok (.if_icmp .ne 12, 3) := by decide +kernel
theorem d4_65 : decode prog_29_method_13_code 65 = .ok (.iinc 2 1, 3) := by decide +kernel
theorem d4_68 : decode prog_29_method_13_code 68 = .ok (.iinc 3 1, 3) := by decide +kernel
theorem d4_71 : decode prog_29_method_13_code 71 = .ok (.goto (-61), 3) := by decide +kernel
theorem d4_74 : decode prog_29_method_13_code 74 = .ok (.iload 4, 2) := by decide +kernel
theorem d4_76 : decode prog_29_method_13_code 76 = .ok (.ifCond .lt 17, 3) := by decide +kernel
theorem d4_79 : decode prog_29_method_13_code 79 = .ok (.iload 4, 2) := by decide +kernel
theorem d4_81 : decode prog_29_method_13_code 81 = .ok (.iconst 1, 1) := by decide +kernel
theorem d4_82 : decode prog_29_method_13_code 82 = .ok (.iadd, 1) := by decide +kernel
theorem d4_83 : decode prog_29_method_13_code 83 = .ok (.istore_n 2, 1) := by decide +kernel
theorem d4_84 : decode prog_29_method_13_code 84 = .ok (.iinc 5 1, 3) := by decide +kernel
theorem d4_87 : decode prog_29_method_13_code 87 = .ok (.iload 5, 2) := by decide +kernel
theorem d4_89 : decode prog_29_method_13_code 89 = .ok (.istore_n 3, 1) := by decide +kernel
theorem d4_90 : decode prog_29_method_13_code 90 = .ok (.goto (-80), 3) := by decide +kernel
theorem d4_93 : decode prog_29_method_13_code 93 = .ok (.iconst 0, 1) := by decide +kernel
theorem d4_94 : decode prog_29_method_13_code 94 = .ok (.ireturn, 1) := by decide +kernel
def own_L4_10 : Nat → Cell → Cell → Int32 → Int32 → Int32 → Int32 → Int32 → Int32 → Option Int32
  | 0, _, _, _, _, _, _, _, _ => none
  | k + 1, cl1, cl2, n1, n2, i, ti, sr, sx => (if ti < n2 then (if i < n1 then (if ¬ (i < 0) ∧ i < n1 then (if (atv cl1 i) = (42 : Int32) then own_L4_10 k cl1 cl2 n1 n2 (i + (1 : Int32)) ti i ti else (if (atv cl1 i) = (63 : Int32) then own_L4_10 k cl1 cl2 n1 n2 (i + (1 : Int32)) (ti + (1 : Int32)) sr sx else (if ¬ (ti < 0) ∧ ti < n2 then (if (atv cl1 i) = (atv cl2 ti) then own_L4_10 k cl1 cl2 n1 n2 (i + (1 : Int32)) (ti + (1 : Int32)) sr sx else (if sr < (0 : Int32) then some (0 : Int32) else own_L4_10 k cl1 cl2 n1 n2 (sr + (1 : Int32)) (sx + (1 : Int32)) sr (sx + (1 : Int32)))) else none))) else none) else (if sr < (0 : Int32) then some (0 : Int32) else own_L4_10 k cl1 cl2 n1 n2 (sr + (1 : Int32)) (sx + (1 : Int32)) sr (sx + (1 : Int32)))) else own_L4_95 k cl1 cl2 n1 n2 i ti sr sx)
theorem own_L4_10_s (k : Nat) (cl1 : Cell) (cl2 : Cell) (n1 : Int32) (n2 : Int32) (i : Int32) (ti : Int32) (sr : Int32) (sx : Int32) : own_L4_10 (k + 1) cl1 cl2 n1 n2 i ti sr sx = (if ti < n2 then (if i < n1 then (if ¬ (i < 0) ∧ i < n1 then (if (atv cl1 i) = (42 : Int32) then own_L4_10 k cl1 cl2 n1 n2 (i + (1 : Int32)) ti i ti else (if (atv cl1 i) = (63 : Int32) then own_L4_10 k cl1 cl2 n1 n2 (i + (1 : Int32)) (ti + (1 : Int32)) sr sx else (if ¬ (ti < 0) ∧ ti < n2 then (if (atv cl1 i) = (atv cl2 ti) then own_L4_10 k cl1 cl2 n1 n2 (i + (1 : Int32)) (ti + (1 : Int32)) sr sx else (if sr < (0 : Int32) then some (0 : Int32) else own_L4_10 k cl1 cl2 n1 n2 (sr + (1 : Int32)) (sx + (1 : Int32)) sr (sx + (1 : Int32)))) else none))) else none) else (if sr < (0 : Int32) then some (0 : Int32) else own_L4_10 k cl1 cl2 n1 n2 (sr + (1 : Int32)) (sx + (1 : Int32)) sr (sx + (1 : Int32)))) else own_L4_95 k cl1 cl2 n1 n2 i ti sr sx) := rfl
set_option maxRecDepth 65536 in
set_option maxHeartbeats 40000000 in
theorem lp4_10 {p : Program} {l : Launch} {e : Env} {R : Room} {s : State} {m : MethodId} {args : Array Value} {below : List Frame} {meth : Method} {c : Code} {cells slots : Nat} {Z : State} {a0 : Array Value} {h0 : Heap} {S0 : State} {n0 : Nat}
    (hx : p.tables.exec = Jvm.exec) (hZ : Z.Warmed39 s.vm) (hw : ∀ d ∈ tables_1, d.before a0 Z = true) (hby : c.code = prog_29_method_13_code) (hml : c.maxLocals = 6) (hown : s.vm.findClass "com/example/ferryline/ferryline/UriWorkerMap" = some m.cls) (a1 a2 : Addr) (cl1 cl2 : Cell) (n1 n2 : Int32) (TA : Tab Z h0 a1 cl1 .int n1) (TB : Tab Z h0 a2 cl2 .int n2) :
    ∀ (k : Nat) (i : Int32) (ti : Int32) (sr : Int32) (sx : Int32) (T0 : State) (locs0 : List Loc) (X0 : Stand p l e R s m args below meth c T0 locs0 cells slots) (N0 : Fr n0 locs0) (e0 : T0.heap = h0) (P0 : own_Pr p.tables e below S0 T0 (mkF m 10 #[.val (.ref a1), .val (.ref a2), .val (.int i), .val (.int ti), .val (.int sr), .val (.int sx)] [])) {r : Int32} (hr : own_L4_10 k cl1 cl2 n1 n2 i ti sr sx = some r),
    ∃ (T' : State) (locs' : List Loc) (pc' : Nat) (Ls' : Array Slot), Stand p l e R s m args below meth c T' locs' cells slots ∧ Fr n0 locs' ∧ T'.heap = h0 ∧ own_Pr p.tables e below S0 T' (mkF m pc' Ls' [.int r]) ∧ decode c.code pc' = .ok (.ireturn, 1) ∧ nar .boolean r = r := by
  intro k
  induction k with
  | zero => intro i ti sr sx T0 locs0 X0 N0 e0 P0 r hr; exact nomatch hr
  | succ k ih =>
    intro i ti sr sx T0 locs0 X0 N0 e0 P0 r hr
    rw [own_L4_10_s] at hr
    have P21 : own_Pr p.tables e below S0 T0 (mkF m 13 #[.val (.ref a1), .val (.ref a2), .val (.int i), .val (.int ti), .val (.int sr), .val (.int sx)] [(.int n2), (.int ti)]) := fun t k => P0 t (by
      refine XS.iloadN X0.here hx rfl (hb hby d4_10) rfl ?_
      refine XS.aloadN X0.here hx rfl (hb hby d4_11) rfl rfl ?_
      refine X0.arraylength hx (by rw [e0]; exact TB.1.1) (State.isArrayOf_alike hZ.alike TB.1.2.1) (g := (mkF m 12 #[.val (.ref a1), .val (.ref a2), .val (.int i), .val (.int ti), .val (.int sr), .val (.int sx)] [(.ref a2), (.int ti)])) rfl rfl (hb hby d4_12) _ ?_
      rw [len_of TB.2.1 TB.2.2.1]
      show Steps p.tables e below (T0.setTop (mkF m 13 #[.val (.ref a1), .val (.ref a2), .val (.int i), .val (.int ti), .val (.int sr), .val (.int sx)] [(.int n2), (.int ti)])) _
      exact k)
    by_cases hc13_22 : ti < n2
    · rw [if_pos hc13_22] at hr
      have P23 : own_Pr p.tables e below S0 T0 (mkF m 19 #[.val (.ref a1), .val (.ref a2), .val (.int i), .val (.int ti), .val (.int sr), .val (.int sx)] [(.int n1), (.int i)]) := fun t k => P21 t (by
        refine XS.icmpNo X0.here hx rfl (hb hby d4_13) rfl (XT.ii_ge_f hc13_22) ?_
        refine XS.iloadN X0.here hx rfl (hb hby d4_16) rfl ?_
        refine XS.aloadN X0.here hx rfl (hb hby d4_17) rfl rfl ?_
        refine X0.arraylength hx (by rw [e0]; exact TA.1.1) (State.isArrayOf_alike hZ.alike TA.1.2.1) (g := (mkF m 18 #[.val (.ref a1), .val (.ref a2), .val (.int i), .val (.int ti), .val (.int sr), .val (.int sx)] [(.ref a1), (.int i)])) rfl rfl (hb hby d4_18) _ ?_
        rw [len_of TA.2.1 TA.2.2.1]
        show Steps p.tables e below (T0.setTop (mkF m 19 #[.val (.ref a1), .val (.ref a2), .val (.int i), .val (.int ti), .val (.int sr), .val (.int sx)] [(.int n1), (.int i)])) _
        exact k)
      by_cases hc19_24 : i < n1
      · rw [if_pos hc19_24] at hr
        have P25 : own_Pr p.tables e below S0 T0 (mkF m 24 #[.val (.ref a1), .val (.ref a2), .val (.int i), .val (.int ti), .val (.int sr), .val (.int sx)] [(.int i), (.ref a1)]) := fun t k => P23 t (by
          refine XS.icmpNo X0.here hx rfl (hb hby d4_19) rfl (XT.ii_ge_f hc19_24) ?_
          refine XS.aloadN X0.here hx rfl (hb hby d4_22) rfl rfl ?_
          refine XS.iloadN X0.here hx rfl (hb hby d4_23) rfl ?_
          exact k)
        by_cases hg24_26 : ¬ (i < 0) ∧ i < n1
        · rw [if_pos hg24_26] at hr
          have hin24_27 : ¬ (i < 0 ∨ cl1.slots.size ≤ (i).toNatClampNeg) := inb_of TA.2.1 hg24_26
          have P28 : own_Pr p.tables e below S0 T0 (mkF m 27 #[.val (.ref a1), .val (.ref a2), .val (.int i), .val (.int ti), .val (.int sr), .val (.int sx)] [(.int (42 : Int32)), (.int (atv cl1 i))]) := fun t k => P25 t (by
            refine X0.iaload hx (j := i) (v := .int (atv cl1 i)) (by rw [e0]; exact TA.1.1) (State.isArrayOf_alike hZ.alike TA.1.2.1) TA.1.2.2 hin24_27 (TA.2.2.2 _ hin24_27) (g := (mkF m 24 #[.val (.ref a1), .val (.ref a2), .val (.int i), .val (.int ti), .val (.int sr), .val (.int sx)] [(.int i), (.ref a1)])) rfl rfl (hb hby d4_24) _ ?_
            refine XS.bipush X0.here hx rfl (hb hby d4_25) ?_
            exact k)
          by_cases hc27_29 : (atv cl1 i) = (42 : Int32)
          · rw [if_pos hc27_29] at hr
            have P30 : own_Pr p.tables e below S0 T0 (mkF m 10 #[.val (.ref a1), .val (.ref a2), .val (.int (i + (1 : Int32))), .val (.int ti), .val (.int i), .val (.int ti)] []) := fun t k => P28 t (by
              refine XS.icmpNo X0.here hx rfl (hb hby d4_27) rfl (XT.ii_ne_f hc27_29) ?_
              refine XS.iloadN X0.here hx rfl (hb hby d4_30) rfl ?_
              refine XS.iinc X0.here hx rfl (hb hby d4_31) rfl (l' := #[.val (.ref a1), .val (.ref a2), .val (.int (i + (1 : Int32))), .val (.int ti), .val (.int sr), .val (.int sx)]) rfl ?_
              refine XS.istore X0.here hx rfl (hb hby d4_34) rfl (l' := #[.val (.ref a1), .val (.ref a2), .val (.int (i + (1 : Int32))), .val (.int ti), .val (.int i), .val (.int sx)]) rfl ?_
              refine XS.iloadN X0.here hx rfl (hb hby d4_36) rfl ?_
              refine XS.istore X0.here hx rfl (hb hby d4_37) rfl (l' := #[.val (.ref a1), .val (.ref a2), .val (.int (i + (1 : Int32))), .val (.int ti), .val (.int i), .val (.int ti)]) rfl ?_
              refine XS.goto X0.here hx rfl (pc0 := 39) (pc' := 10) rfl (hb hby d4_39) (by decide) (by decide) ?_
              exact k)
            exact ih (i + (1 : Int32)) ti i ti T0 _ X0 N0 e0 P30 hr
          · rw [if_neg hc27_29] at hr
            have hin50_31 : ¬ (i < 0 ∨ cl1.slots.size ≤ (i).toNatClampNeg) := inb_of TA.2.1 hg24_26
            have P32 : own_Pr p.tables e below S0 T0 (mkF m 53 #[.val (.ref a1), .val (.ref a2), .val (.int i), .val (.int ti), .val (.int sr), .val (.int sx)] [(.int (63 : Int32)), (.int (atv cl1 i))]) := fun t k => P28 t (by
              refine XS.icmpYes X0.here hx rfl (pc0 := 27) (pc' := 42) rfl (hb hby d4_27) rfl (XT.ii_ne_t hc27_29) (by decide) (by decide) ?_
              refine XS.iloadN X0.here hx rfl (hb hby d4_42) rfl ?_
              refine XS.aloadN X0.here hx rfl (hb hby d4_43) rfl rfl ?_
              refine X0.arraylength hx (by rw [e0]; exact TA.1.1) (State.isArrayOf_alike hZ.alike TA.1.2.1) (g := (mkF m 44 #[.val (.ref a1), .val (.ref a2), .val (.int i), .val (.int ti), .val (.int sr), .val (.int sx)] [(.ref a1), (.int i)])) rfl rfl (hb hby d4_44) _ ?_
              rw [len_of TA.2.1 TA.2.2.1]
              show Steps p.tables e below (T0.setTop (mkF m 45 #[.val (.ref a1), .val (.ref a2), .val (.int i), .val (.int ti), .val (.int sr), .val (.int sx)] [(.int n1), (.int i)])) _
              refine XS.icmpNo X0.here hx rfl (hb hby d4_45) rfl (XT.ii_ge_f hc19_24) ?_
              refine XS.aloadN X0.here hx rfl (hb hby d4_48) rfl rfl ?_
              refine XS.iloadN X0.here hx rfl (hb hby d4_49) rfl ?_
              refine X0.iaload hx (j := i) (v := .int (atv cl1 i)) (by rw [e0]; exact TA.1.1) (State.isArrayOf_alike hZ.alike TA.1.2.1) TA.1.2.2 hin50_31 (TA.2.2.2 _ hin50_31) (g := (mkF m 50 #[.val (.ref a1), .val (.ref a2), .val (.int i), .val (.int ti), .val (.int sr), .val (.int sx)] [(.int i), (.ref a1)])) rfl rfl (hb hby d4_50) _ ?_
              refine XS.bipush X0.here hx rfl (hb hby d4_51) ?_
              exact k)
            by_cases hc53_33 : (atv cl1 i) = (63 : Int32)
            · rw [if_pos hc53_33] at hr
              have P34 : own_Pr p.tables e below S0 T0 (mkF m 10 #[.val (.ref a1), .val (.ref a2), .val (.int (i + (1 : Int32))), .val (.int (ti + (1 : Int32))), .val (.int sr), .val (.int sx)] []) := fun t k => P32 t (by
                refine XS.icmpYes X0.here hx rfl (pc0 := 53) (pc' := 65) rfl (hb hby d4_53) rfl (XT.ii_eq_t hc53_33) (by decide) (by decide) ?_
                refine XS.iinc X0.here hx rfl (hb hby d4_65) rfl (l' := #[.val (.ref a1), .val (.ref a2), .val (.int (i + (1 : Int32))), .val (.int ti), .val (.int sr), .val (.int sx)]) rfl ?_
                refine XS.iinc X0.here hx rfl (hb hby d4_68) rfl (l' := #[.val (.ref a1), .val (.ref a2), .val (.int (i + (1 : Int32))), .val (.int (ti + (1 : Int32))), .val (.int sr), .val (.int sx)]) rfl ?_
                refine XS.goto X0.here hx rfl (pc0 := 71) (pc' := 10) rfl (hb hby d4_71) (by decide) (by decide) ?_
                exact k)
              exact ih (i + (1 : Int32)) (ti + (1 : Int32)) sr sx T0 _ X0 N0 e0 P34 hr
            · rw [if_neg hc53_33] at hr
              have hin58_35 : ¬ (i < 0 ∨ cl1.slots.size ≤ (i).toNatClampNeg) := inb_of TA.2.1 hg24_26
              have P36 : own_Pr p.tables e below S0 T0 (mkF m 61 #[.val (.ref a1), .val (.ref a2), .val (.int i), .val (.int ti), .val (.int sr), .val (.int sx)] [(.int ti), (.ref a2), (.int (atv cl1 i))]) := fun t k => P32 t (by
                refine XS.icmpNo X0.here hx rfl (hb hby d4_53) rfl (XT.ii_eq_f hc53_33) ?_
                refine XS.aloadN X0.here hx rfl (hb hby d4_56) rfl rfl ?_
                refine XS.iloadN X0.here hx rfl (hb hby d4_57) rfl ?_
                refine X0.iaload hx (j := i) (v := .int (atv cl1 i)) (by rw [e0]; exact TA.1.1) (State.isArrayOf_alike hZ.alike TA.1.2.1) TA.1.2.2 hin58_35 (TA.2.2.2 _ hin58_35) (g := (mkF m 58 #[.val (.ref a1), .val (.ref a2), .val (.int i), .val (.int ti), .val (.int sr), .val (.int sx)] [(.int i), (.ref a1)])) rfl rfl (hb hby d4_58) _ ?_
                refine XS.aloadN X0.here hx rfl (hb hby d4_59) rfl rfl ?_
                refine XS.iloadN X0.here hx rfl (hb hby d4_60) rfl ?_
                exact k)
              by_cases hg61_37 : ¬ (ti < 0) ∧ ti < n2
              · rw [if_pos hg61_37] at hr
                have hin61_38 : ¬ (ti < 0 ∨ cl2.slots.size ≤ (ti).toNatClampNeg) := inb_of TB.2.1 hg61_37
                have P39 : own_Pr p.tables e below S0 T0 (mkF m 62 #[.val (.ref a1), .val (.ref a2), .val (.int i), .val (.int ti), .val (.int sr), .val (.int sx)] [(.int (atv cl2 ti)), (.int (atv cl1 i))]) := fun t k => P36 t (by
                  refine X0.iaload hx (j := ti) (v := .int (atv cl2 ti)) (by rw [e0]; exact TB.1.1) (State.isArrayOf_alike hZ.alike TB.1.2.1) TB.1.2.2 hin61_38 (TB.2.2.2 _ hin61_38) (g := (mkF m 61 #[.val (.ref a1), .val (.ref a2), .val (.int i), .val (.int ti), .val (.int sr), .val (.int sx)] [(.int ti), (.ref a2), (.int (atv cl1 i))])) rfl rfl (hb hby d4_61) _ ?_
                  exact k)
                by_cases hc62_40 : (atv cl1 i) = (atv cl2 ti)
                · rw [if_pos hc62_40] at hr
                  have P41 : own_Pr p.tables e below S0 T0 (mkF m 10 #[.val (.ref a1), .val (.ref a2), .val (.int (i + (1 : Int32))), .val (.int (ti + (1 : Int32))), .val (.int sr), .val (.int sx)] []) := fun t k => P39 t (by
                    refine XS.icmpNo X0.here hx rfl (hb hby d4_62) rfl (XT.ii_ne_f hc62_40) ?_
                    refine XS.iinc X0.here hx rfl (hb hby d4_65) rfl (l' := #[.val (.ref a1), .val (.ref a2), .val (.int (i + (1 : Int32))), .val (.int ti), .val (.int sr), .val (.int sx)]) rfl ?_
                    refine XS.iinc X0.here hx rfl (hb hby d4_68) rfl (l' := #[.val (.ref a1), .val (.ref a2), .val (.int (i + (1 : Int32))), .val (.int (ti + (1 : Int32))), .val (.int sr), .val (.int sx)]) rfl ?_
                    refine XS.goto X0.here hx rfl (pc0 := 71) (pc' := 10) rfl (hb hby d4_71) (by decide) (by decide) ?_
                    exact k)
                  exact ih (i + (1 : Int32)) (ti + (1 : Int32)) sr sx T0 _ X0 N0 e0 P41 hr
                · rw [if_neg hc62_40] at hr
                  have P42 : own_Pr p.tables e below S0 T0 (mkF m 76 #[.val (.ref a1), .val (.ref a2), .val (.int i), .val (.int ti), .val (.int sr), .val (.int sx)] [(.int sr)]) := fun t k => P39 t (by
                    refine XS.icmpYes X0.here hx rfl (pc0 := 62) (pc' := 74) rfl (hb hby d4_62) rfl (XT.ii_ne_t hc62_40) (by decide) (by decide) ?_
                    refine XS.iload X0.here hx rfl (hb hby d4_74) rfl ?_
                    exact k)
                  by_cases hc76_43 : sr < (0 : Int32)
                  · rw [if_pos hc76_43] at hr
                    have P44 : own_Pr p.tables e below S0 T0 (mkF m 94 #[.val (.ref a1), .val (.ref a2), .val (.int i), .val (.int ti), .val (.int sr), .val (.int sx)] [(.int (0 : Int32))]) := fun t k => P42 t (by
                      refine XS.ifYes X0.here hx rfl (pc0 := 76) (pc' := 93) rfl (hb hby d4_76) rfl (XT.i0_lt_t hc76_43) (by decide) (by decide) ?_
                      refine XS.iconst X0.here hx rfl (hb hby d4_93) ?_
                      exact k)
                    obtain rfl := Option.some.inj hr
                    exact ⟨T0, _, 94, _, X0, N0, e0, P44, (hb hby d4_94), rfl⟩
                  · rw [if_neg hc76_43] at hr
                    have P45 : own_Pr p.tables e below S0 T0 (mkF m 10 #[.val (.ref a1), .val (.ref a2), .val (.int (sr + (1 : Int32))), .val (.int (sx + (1 : Int32))), .val (.int sr), .val (.int (sx + (1 : Int32)))] []) := fun t k => P42 t (by
                      refine XS.ifNo X0.here hx rfl (hb hby d4_76) rfl (XT.i0_lt_f hc76_43) ?_
                      refine XS.iload X0.here hx rfl (hb hby d4_79) rfl ?_
                      refine XS.iconst X0.here hx rfl (hb hby d4_81) ?_
                      refine XS.iadd X0.here hx rfl (hb hby d4_82) rfl ?_
                      refine XS.istoreN X0.here hx rfl (hb hby d4_83) rfl (l' := #[.val (.ref a1), .val (.ref a2), .val (.int (sr + (1 : Int32))), .val (.int ti), .val (.int sr), .val (.int sx)]) rfl ?_
                      refine XS.iinc X0.here hx rfl (hb hby d4_84) rfl (l' := #[.val (.ref a1), .val (.ref a2), .val (.int (sr + (1 : Int32))), .val (.int ti), .val (.int sr), .val (.int (sx + (1 : Int32)))]) rfl ?_
                      refine XS.iload X0.here hx rfl (hb hby d4_87) rfl ?_
                      refine XS.istoreN X0.here hx rfl (hb hby d4_89) rfl (l' := #[.val (.ref a1), .val (.ref a2), .val (.int (sr + (1 : Int32))), .val (.int (sx + (1 : Int32))), .val (.int sr), .val (.int (sx + (1 : Int32)))]) rfl ?_
                      show Steps p.tables e below (T0.setTop (mkF m 90 #[.val (.ref a1), .val (.ref a2), .val (.int (sr + (1 : Int32))), .val (.int (sx + (1 : Int32))), .val (.int sr), .val (.int (sx + (1 : Int32)))] [])) _
                      refine XS.goto X0.here hx rfl (pc0 := 90) (pc' := 10) rfl (hb hby d4_90) (by decide) (by decide) ?_
                      exact k)
                    exact ih (sr + (1 : Int32)) (sx + (1 : Int32)) sr (sx + (1 : Int32)) T0 _ X0 N0 e0 P45 hr
              · rw [if_neg hg61_37] at hr; exact nomatch hr
        · rw [if_neg hg24_26] at hr; exact nomatch hr
      · rw [if_neg hc19_24] at hr
        have P46 : own_Pr p.tables e below S0 T0 (mkF m 76 #[.val (.ref a1), .val (.ref a2), .val (.int i), .val (.int ti), .val (.int sr), .val (.int sx)] [(.int sr)]) := fun t k => P23 t (by
          refine XS.icmpYes X0.here hx rfl (pc0 := 19) (pc' := 42) rfl (hb hby d4_19) rfl (XT.ii_ge_t hc19_24) (by decide) (by decide) ?_
          refine XS.iloadN X0.here hx rfl (hb hby d4_42) rfl ?_
          refine XS.aloadN X0.here hx rfl (hb hby d4_43) rfl rfl ?_
          refine X0.arraylength hx (by rw [e0]; exact TA.1.1) (State.isArrayOf_alike hZ.alike TA.1.2.1) (g := (mkF m 44 #[.val (.ref a1), .val (.ref a2), .val (.int i), .val (.int ti), .val (.int sr), .val (.int sx)] [(.ref a1), (.int i)])) rfl rfl (hb hby d4_44) _ ?_
          rw [len_of TA.2.1 TA.2.2.1]
          show Steps p.tables e below (T0.setTop (mkF m 45 #[.val (.ref a1), .val (.ref a2), .val (.int i), .val (.int ti), .val (.int sr), .val (.int sx)] [(.int n1), (.int i)])) _
          refine XS.icmpYes X0.here hx rfl (pc0 := 45) (pc' := 74) rfl (hb hby d4_45) rfl (XT.ii_ge_t hc19_24) (by decide) (by decide) ?_
          refine XS.iload X0.here hx rfl (hb hby d4_74) rfl ?_
          exact k)
        by_cases hc76_47 : sr < (0 : Int32)
        · rw [if_pos hc76_47] at hr
          have P48 : own_Pr p.tables e below S0 T0 (mkF m 94 #[.val (.ref a1), .val (.ref a2), .val (.int i), .val (.int ti), .val (.int sr), .val (.int sx)] [(.int (0 : Int32))]) := fun t k => P46 t (by
            refine XS.ifYes X0.here hx rfl (pc0 := 76) (pc' := 93) rfl (hb hby d4_76) rfl (XT.i0_lt_t hc76_47) (by decide) (by decide) ?_
            refine XS.iconst X0.here hx rfl (hb hby d4_93) ?_
            exact k)
          obtain rfl := Option.some.inj hr
          exact ⟨T0, _, 94, _, X0, N0, e0, P48, (hb hby d4_94), rfl⟩
        · rw [if_neg hc76_47] at hr
          have P49 : own_Pr p.tables e below S0 T0 (mkF m 10 #[.val (.ref a1), .val (.ref a2), .val (.int (sr + (1 : Int32))), .val (.int (sx + (1 : Int32))), .val (.int sr), .val (.int (sx + (1 : Int32)))] []) := fun t k => P46 t (by
            refine XS.ifNo X0.here hx rfl (hb hby d4_76) rfl (XT.i0_lt_f hc76_47) ?_
            refine XS.iload X0.here hx rfl (hb hby d4_79) rfl ?_
            refine XS.iconst X0.here hx rfl (hb hby d4_81) ?_
            refine XS.iadd X0.here hx rfl (hb hby d4_82) rfl ?_
            refine XS.istoreN X0.here hx rfl (hb hby d4_83) rfl (l' := #[.val (.ref a1), .val (.ref a2), .val (.int (sr + (1 : Int32))), .val (.int ti), .val (.int sr), .val (.int sx)]) rfl ?_
            refine XS.iinc X0.here hx rfl (hb hby d4_84) rfl (l' := #[.val (.ref a1), .val (.ref a2), .val (.int (sr + (1 : Int32))), .val (.int ti), .val (.int sr), .val (.int (sx + (1 : Int32)))]) rfl ?_
            refine XS.iload X0.here hx rfl (hb hby d4_87) rfl ?_
            refine XS.istoreN X0.here hx rfl (hb hby d4_89) rfl (l' := #[.val (.ref a1), .val (.ref a2), .val (.int (sr + (1 : Int32))), .val (.int (sx + (1 : Int32))), .val (.int sr), .val (.int (sx + (1 : Int32)))]) rfl ?_
            show Steps p.tables e below (T0.setTop (mkF m 90 #[.val (.ref a1), .val (.ref a2), .val (.int (sr + (1 : Int32))), .val (.int (sx + (1 : Int32))), .val (.int sr), .val (.int (sx + (1 : Int32)))] [])) _
            refine XS.goto X0.here hx rfl (pc0 := 90) (pc' := 10) rfl (hb hby d4_90) (by decide) (by decide) ?_
            exact k)
          exact ih (sr + (1 : Int32)) (sx + (1 : Int32)) sr (sx + (1 : Int32)) T0 _ X0 N0 e0 P49 hr
    · rw [if_neg hc13_22] at hr
      have P50 : own_Pr p.tables e below S0 T0 (mkF m 95 #[.val (.ref a1), .val (.ref a2), .val (.int i), .val (.int ti), .val (.int sr), .val (.int sx)] []) := fun t k => P21 t (by
        refine XS.icmpYes X0.here hx rfl (pc0 := 13) (pc' := 95) rfl (hb hby d4_13) rfl (XT.ii_ge_t hc13_22) (by decide) (by decide) ?_
        exact k)
      exact lp4_95 hx hZ hw hby hml hown a1 a2 cl1 cl2 n1 n2 TA TB k i ti sr sx T0 _ X0 N0 e0 P50 hr
theorem d4_0 : decode prog_29_method_13_code 0 = .ok (.iconst 0, 1) := by decide +kernel
theorem d4_1 : decode prog_29_method_13_code 1 = .ok (.istore_n 2, 1) := by decide +kernel
theorem d4_2 : decode prog_29_method_13_code 2 = .ok (.iconst 0, 1) := by decide +kernel
theorem d4_3 : decode prog_29_method_13_code 3 = .ok (.istore_n 3, 1) := by decide +kernel
theorem d4_4 : decode prog_29_method_13_code 4 = .ok (.iconst (-1), 1) := by decide +kernel
theorem d4_5 : decode prog_29_method_13_code 5 = .ok (.istore 4, 2) := by decide +kernel
theorem d4_7 : decode prog_29_method_13_code 7 = .ok (.iconst 0, 1) := by decide +kernel
theorem d4_8 : decode prog_29_method_13_code 8 = .ok (.istore 5, 2) := by decide +kernel
theorem pn_4 : plainName "com/example/ferryline/ferryline/UriWorkerMap" = true := by first | (simp [plainName, overriddenIn]; done) | decide +kernel
theorem ef_4 (m : MethodId) (a1 : Addr) (a2 : Addr) : entryFrame m #[(.ref a1), (.ref a2)] 6 = mkF m 0 #[.val (.ref a1), .val (.ref a2), .unset, .unset, .unset, .unset] [] := by first | (simp [entryFrame, mkF, argsToLocals, Value.category]; done) | rfl
set_option maxRecDepth 65536 in
set_option maxHeartbeats 40000000 in
theorem rm4 (l : Launch) (Z : State) (a0 : Array Value) (hw : ∀ d ∈ tables_1, d.before a0 Z = true) (ws : List Jvm.Cond) (a1 : Addr) (a2 : Addr) (cl1 cl2 : Cell) (n1 n2 : Int32) (r : Int32) (h0 : Heap) (n0 : Nat) (Z0 : n0 ≤ h0.size) (TA : Tab Z h0 a1 cl1 .int n1) (TB : Tab Z h0 a2 cl2 .int n2) (hr : own_L4_10 40 cl1 cl2 n1 n2 0 0 (-1) 0 = some r) :
    MetFree l (⟨"com/example/ferryline/ferryline/UriWorkerMap", "matches", "([I[I)Z"⟩ : MethodName) (head1 (Jvm.Cond.code (⟨"com/example/ferryline/ferryline/UriWorkerMap", "matches", "([I[I)Z"⟩ : MethodName) prog_29_method_13_code 6 (some .boolean) :: ws) ({ frames := 0, cells := 0, slots := 0, locals := 0 } : Room)) (fun a U => a = #[(.ref a1), (.ref a2)] ∧ Z.Warmed39 U.vm ∧ U.heap = h0) (fun _ _ _ _ _ => True) (fun _ U o U' => ∃ v L, o = .returned v ∧ own_QI h0 n0 r v U'.heap L ∧ FrameEnd U o U' L ({ frames := 0, cells := 0, slots := 0, locals := 0 } : Room).cells ({ frames := 0, cells := 0, slots := 0, locals := 0 } : Room).slots) := by
  refine MetFree.of_bodySF (plainFor_of_name pn_4) hisR ?_
  intro p e s m args below meth c s₁ Bd hml0 hP hK
  obtain ⟨rfl, hZ, hh⟩ := hP
  have hx := Bd.exec
  have hby := Bd.bytes
  have hml : c.maxLocals = 6 := hml0
  have hown : s.vm.findClass "com/example/ferryline/ferryline/UriWorkerMap" = some m.cls := findClass_of_methodNamed Bd.named
  have hnm := (name_of_methodNamed Bd.named Bd.method).1
  have X0 : Stand p l e ({ frames := 0, cells := 0, slots := 0, locals := 0 } : Room) s m #[(.ref a1), (.ref a2)] below meth c s₁ [] 0 0 := Stand.of_body Bd
  have e0 : s₁.heap = h0 := by rw [← hh, Bd.state]; rfl
  have N0 := Fr.nil n0
  obtain ⟨S0, hS0⟩ : ∃ z, z = s₁.setTop (entryFrame m #[(.ref a1), (.ref a2)] 6) := ⟨_, rfl⟩
  have P0 : own_Pr p.tables e below S0 s₁ (mkF m 0 #[.val (.ref a1), .val (.ref a2), .unset, .unset, .unset, .unset] []) := fun t k => hS0 ▸ castTop (ef_4 m a1 a2) k
  have P21 : own_Pr p.tables e below S0 s₁ (mkF m 10 #[.val (.ref a1), .val (.ref a2), .val (.int (0 : Int32)), .val (.int (0 : Int32)), .val (.int (-1 : Int32)), .val (.int (0 : Int32))] []) := fun t k => P0 t (by
    refine XS.iconst X0.here hx rfl (hb hby d4_0) ?_
    refine XS.istoreN X0.here hx rfl (hb hby d4_1) rfl (l' := #[.val (.ref a1), .val (.ref a2), .val (.int (0 : Int32)), .unset, .unset, .unset]) rfl ?_
    refine XS.iconst X0.here hx rfl (hb hby d4_2) ?_
    refine XS.istoreN X0.here hx rfl (hb hby d4_3) rfl (l' := #[.val (.ref a1), .val (.ref a2), .val (.int (0 : Int32)), .val (.int (0 : Int32)), .unset, .unset]) rfl ?_
    refine XS.iconst X0.here hx rfl (hb hby d4_4) ?_
    refine XS.istore X0.here hx rfl (hb hby d4_5) rfl (l' := #[.val (.ref a1), .val (.ref a2), .val (.int (0 : Int32)), .val (.int (0 : Int32)), .val (.int (-1 : Int32)), .unset]) rfl ?_
    refine XS.iconst X0.here hx rfl (hb hby d4_7) ?_
    refine XS.istore X0.here hx rfl (hb hby d4_8) rfl (l' := #[.val (.ref a1), .val (.ref a2), .val (.int (0 : Int32)), .val (.int (0 : Int32)), .val (.int (-1 : Int32)), .val (.int (0 : Int32))]) rfl ?_
    exact k)
  obtain ⟨T22, locs22, pc22, Ls22, X22, N22, e22, P22, hd22, hnar⟩ := lp4_10 hx hZ hw hby hml hown a1 a2 cl1 cl2 n1 n2 TA TB 40 (0 : Int32) (0 : Int32) (-1 : Int32) (0 : Int32) s₁ _ X0 N0 e0 P21 hr
  obtain ⟨fs, hl, hrun, hended, hW, hsame⟩ := X22.leave (v := some (.int r)) (fun h => by rw [Bd.returns] at h; cases h)
  have fin : Steps p.tables e below S0 (T22.setFrames fs) := P22 _ (retN X22 hx (t := .boolean) Bd.returns (by simp) hd22 (by rw [hnar]; exact hl))
  rw [hS0] at fin
  refine ⟨_, _, fin, hrun, hended, _, _, rfl, ?_, ⟨_, rfl⟩, hW, hsame.mono (by decide) (by decide)⟩
  show own_QI h0 n0 r _ T22.heap _
  rw [e22]
  exact ⟨_, rfl, rfl, N22, rfl⟩
/-- does the pattern match the text -/
def own_glob : List Int32 → List Int32 → Bool
  | [], [] => true
  | [], _ :: _ => false
  | p :: ps, [] => if p = 42 then own_glob ps [] else false
  | p :: ps, y :: ys => if p = 42 then (own_glob ps (y :: ys) || own_glob (p :: ps) ys) else (decide (p = 63 ∨ p = y) && own_glob ps ys)
termination_by p x => p.length + x.length
theorem own_g_nil : own_glob [] [] = true := by rw [own_glob]
theorem own_g_nil' (y : Int32) (ys : List Int32) : own_glob [] (y :: ys) = false := by rw [own_glob]
theorem own_g_c0 (p : Int32) (ps : List Int32) : own_glob (p :: ps) [] = if p = 42 then own_glob ps [] else false := by rw [own_glob]
theorem own_g_cc (p : Int32) (ps : List Int32) (y : Int32) (ys : List Int32) : own_glob (p :: ps) (y :: ys) = if p = 42 then (own_glob ps (y :: ys) || own_glob (p :: ps) ys) else (decide (p = 63 ∨ p = y) && own_glob ps ys) := by rw [own_glob]
theorem own_g_star (ps : List Int32) : ∀ xs : List Int32, own_glob (42 :: ps) xs = true ↔ ∃ k, k ≤ xs.length ∧ own_glob ps (xs.drop k) = true
  | [] => by
    rw [own_g_c0, if_pos rfl]
    exact ⟨fun h => ⟨0, Nat.le_refl _, h⟩, fun ⟨k, _, h⟩ => by simpa using h⟩
  | y :: ys => by
    rw [own_g_cc, if_pos rfl, Bool.or_eq_true, own_g_star ps ys]
    constructor
    · rintro (h | ⟨k, hk, h⟩)
      · exact ⟨0, Nat.zero_le _, h⟩
      · exact ⟨k + 1, Nat.succ_le_succ hk, by simpa using h⟩
    · rintro ⟨k, hk, h⟩
      cases k with
      | zero => exact Or.inl h
      | succ k => exact Or.inr ⟨k, Nat.le_of_succ_le_succ hk, by simpa using h⟩
theorem own_drop {xs : List Int32} {i : Nat} (h : i < xs.length) : xs.drop i = xs[i] :: xs.drop (i + 1) := (List.getElem_cons_drop h).symm
theorem own_drop0 {xs : List Int32} {i : Nat} (h : xs.length ≤ i) : xs.drop i = [] := List.drop_eq_nil_of_le h
/-- one plain sign of the pattern takes one sign of the text -/
theorem own_one {P X : List Int32} {a k : Nat} (ha : a < P.length) (hs : P[a] ≠ 42) (h : own_glob (P.drop a) (X.drop k) = true) (hk : k ≤ X.length) : k < X.length ∧ own_glob (P.drop (a + 1)) (X.drop (k + 1)) = true := by
  rw [own_drop ha] at h
  by_cases q : k < X.length
  · rw [own_drop q, own_g_cc, if_neg hs, Bool.and_eq_true] at h
    exact ⟨q, h.2⟩
  · rw [own_drop0 (Nat.le_of_not_lt q), own_g_c0, if_neg hs] at h
    exact absurd h (by decide)
/-- so do c of them -/
theorem own_seg {P X : List Int32} {a : Nat} : ∀ (c : Nat) {k : Nat}, a + c ≤ P.length → (∀ d, d < c → ∀ h : a + d < P.length, P[a + d] ≠ 42) → k ≤ X.length → own_glob (P.drop a) (X.drop k) = true → k + c ≤ X.length ∧ own_glob (P.drop (a + c)) (X.drop (k + c)) = true
  | 0, k, _, _, hk, h => ⟨hk, h⟩
  | c + 1, k, hc, hs, hk, h => by
    obtain ⟨h1, h2⟩ := own_seg c (by omega) (fun d hd => hs d (by omega)) hk h
    obtain ⟨h3, h4⟩ := own_one (a := a + c) (by omega) (hs c (by omega) (by omega)) h2 h1
    exact ⟨by omega, h4⟩
/-- a match of c plain signs: what is left says all -/
theorem own_seg_eq {P X : List Int32} {a k : Nat} : ∀ (c : Nat), (hp : a + c ≤ P.length) → (hx : k + c ≤ X.length) → (∀ d, (hd : d < c) → P[a + d]'(by omega) ≠ 42 ∧ (P[a + d]'(by omega) = 63 ∨ P[a + d]'(by omega) = X[k + d]'(by omega))) → own_glob (P.drop a) (X.drop k) = own_glob (P.drop (a + c)) (X.drop (k + c))
  | 0, _, _, _ => rfl
  | c + 1, hp, hx, hs => by
    rw [own_seg_eq c (by omega) (by omega) (fun d hd => hs d (by omega)), own_drop (i := a + c) (by omega), own_drop (i := k + c) (by omega), own_g_cc, if_neg (hs c (by omega)).1, decide_eq_true (hs c (by omega)).2, Bool.true_and]
    rfl
theorem own_i_add (i : Nat) (h : i ≤ 10) : Int32.ofNat i + 1 = Int32.ofNat (i + 1) := by
  apply Int32.toInt_inj.mp
  rw [Int32.toInt_add]
  have e1 : (Int32.ofNat i).toInt = i := Int32.toInt_ofNat_of_lt (by omega)
  have e2 : (Int32.ofNat (i + 1)).toInt = ((i + 1 : Nat) : Int) := Int32.toInt_ofNat_of_lt (by omega)
  have e3 : (1 : Int32).toInt = 1 := rfl
  rw [e1, e2, e3]
  exact Int.bmod_eq_of_le (by omega) (by omega)
theorem own_i_lt {i j : Nat} (h : i ≤ 10) (h' : j ≤ 10) : Int32.ofNat i < Int32.ofNat j ↔ i < j := by
  rw [Int32.lt_iff_toInt_lt, Int32.toInt_ofNat_of_lt (by omega), Int32.toInt_ofNat_of_lt (by omega)]; omega
theorem own_i_nn {i : Nat} (h : i ≤ 10) : ¬ Int32.ofNat i < 0 := by
  rw [Int32.lt_iff_toInt_lt, Int32.toInt_ofNat_of_lt (by omega)]; show ¬ (i : Int) < 0; omega
theorem own_i_eq {i j : Nat} (h : i ≤ 10) (h' : j ≤ 10) : Int32.ofNat i = Int32.ofNat j ↔ i = j := by
  rw [← Int32.toInt_inj, Int32.toInt_ofNat_of_lt (by omega), Int32.toInt_ofNat_of_lt (by omega)]; omega
def own_b (b : Bool) : Int32 := if b then 1 else 0
theorem own_tail {P : List Int32} {cl1 cl2 : Cell} (hP : P.length ≤ 4) (hA : ∀ i, (h : i < P.length) → atv cl1 (Int32.ofNat i) = P[i]) : ∀ (k i : Nat) (n2 t sr sx : Int32), i ≤ P.length → P.length - i < k → own_L4_95 k cl1 cl2 (Int32.ofNat P.length) n2 (Int32.ofNat i) t sr sx = some (own_b (own_glob (P.drop i) []))
  | 0, _, _, _, _, _, _, h => absurd h (Nat.not_lt_zero _)
  | k + 1, i, n2, t, sr, sx, hi, hk => by
    rw [own_L4_95]
    by_cases q : i < P.length
    · rw [if_pos ((own_i_lt (by omega) (by omega)).mpr q), if_pos ⟨own_i_nn (by omega), (own_i_lt (by omega) (by omega)).mpr q⟩, hA i q, own_drop q, own_g_c0]
      by_cases w : P[i] = 42
      · rw [if_pos w, if_pos w, own_i_add i (by omega)]
        exact own_tail hP hA k (i + 1) n2 t sr sx (by omega) (by omega)
      · rw [if_neg w, if_neg w, if_neg fun z => absurd ((own_i_eq (by omega) (by omega)).mp z) (by omega)]; rfl
    · rw [if_neg fun z => q ((own_i_lt (by omega) (by omega)).mp z), if_pos ((own_i_eq (by omega) (by omega)).mpr (by omega)), own_drop0 (by omega), own_g_nil]; rfl
/-- the star at r - 1 may take the text up to some q from x on -/
def own_reach (P X : List Int32) (a x : Nat) : Prop := ∃ q, x ≤ q ∧ q ≤ X.length ∧ own_glob (P.drop a) (X.drop q) = true
theorem own_star {P X : List Int32} {cl1 cl2 : Cell} (hP : P.length ≤ 4) (hX : X.length ≤ 4) (hA : ∀ i, (h : i < P.length) → atv cl1 (Int32.ofNat i) = P[i]) (hB : ∀ i, (h : i < X.length) → atv cl2 (Int32.ofNat i) = X[i]) : ∀ (k i t r x : Nat) (hr : r < P.length) (hi : i ≤ P.length) (ht : t ≤ X.length) (hri : r + 1 ≤ i) (hxt : x ≤ t) (hl : i - (r + 1) = t - x), (X.length - x) * (P.length + 2) + (P.length - i) + 2 ≤ k →
    (own_glob P X = true ↔ own_reach P X (r + 1) x) →
    (∀ d, (hd : d < i - (r + 1)) → P[r + 1 + d]'(by omega) ≠ 42 ∧ (P[r + 1 + d]'(by omega) = 63 ∨ P[r + 1 + d]'(by omega) = X[x + d]'(by omega))) →
    own_L4_10 k cl1 cl2 (Int32.ofNat P.length) (Int32.ofNat X.length) (Int32.ofNat i) (Int32.ofNat t) (Int32.ofNat r) (Int32.ofNat x) = some (own_b (own_glob P X))
  | 0, _, _, _, _, _, _, _, _, _, _, h, _, _ => absurd h (by omega)
  | k + 1, i, t, r, x, hr, hi, ht, hri, hxt, hl, hk, J1, J2 => by
    have L4 : own_glob (P.drop (r + 1)) (X.drop x) = own_glob (P.drop i) (X.drop t) := by
      have := own_seg_eq (P := P) (X := X) (a := r + 1) (k := x) (i - (r + 1)) (by omega) (by omega) J2
      rw [this]; congr 2 <;> omega
    have L3 : ∀ q, x ≤ q → q ≤ X.length → own_glob (P.drop (r + 1)) (X.drop q) = true → q + (t - x) ≤ X.length ∧ own_glob (P.drop i) (X.drop (q + (t - x))) = true := fun q _ h2 h3 => by
      have := own_seg (P := P) (X := X) (a := r + 1) (i - (r + 1)) (k := q) (by omega) (fun d hd _ => (J2 d hd).1) h2 h3
      have e : r + 1 + (i - (r + 1)) = i := by omega
      rw [e, hl] at this; exact this
    -- the text at x doesn't match: the star takes one sign more
    have again : own_glob (P.drop i) (X.drop t) = false → t < X.length → own_L4_10 k cl1 cl2 (Int32.ofNat P.length) (Int32.ofNat X.length) (Int32.ofNat r + 1) (Int32.ofNat x + 1) (Int32.ofNat r) (Int32.ofNat x + 1) = some (own_b (own_glob P X)) := fun hf htl => by
      rw [own_i_add r (by omega), own_i_add x (by omega)]
      have e : (X.length - x) * (P.length + 2) = (X.length - (x + 1)) * (P.length + 2) + (P.length + 2) := by
        rw [show X.length - x = (X.length - (x + 1)) + 1 by omega, Nat.succ_mul]
      refine own_star hP hX hA hB k (r + 1) (x + 1) r (x + 1) hr (by omega) (by omega) (by omega) (by omega) (by omega) (by omega) ?_ (fun d hd => absurd hd (by omega))
      rw [J1]; unfold own_reach
      constructor
      · rintro ⟨q, h1, h2, h3⟩
        refine ⟨q, ?_, h2, h3⟩
        rcases Nat.lt_or_ge x q with w | w
        · exact w
        · obtain rfl : q = x := by omega
          rw [L4, hf] at h3; exact absurd h3 (by decide)
      · rintro ⟨q, h1, h2, h3⟩; exact ⟨q, by omega, h2, h3⟩
    rw [own_L4_10]
    by_cases q : t < X.length
    · rw [if_pos ((own_i_lt (by omega) (by omega)).mpr q)]
      by_cases w : i < P.length
      · rw [if_pos ((own_i_lt (by omega) (by omega)).mpr w), if_pos ⟨own_i_nn (by omega), (own_i_lt (by omega) (by omega)).mpr w⟩, hA i w]
        by_cases s : P[i] = 42
        · rw [if_pos s, own_i_add i (by omega)]
          have e : (X.length - t) * (P.length + 2) ≤ (X.length - x) * (P.length + 2) := Nat.mul_le_mul_right _ (by omega)
          refine own_star hP hX hA hB k (i + 1) t i t w (by omega) ht (by omega) (by omega) (by omega) (by omega) ?_ (fun d hd => absurd hd (by omega))
          have key : own_glob P X = true ↔ own_glob (P.drop i) (X.drop t) = true := by
            rw [J1]; unfold own_reach
            constructor
            · rintro ⟨z, h1, h2, h3⟩
              obtain ⟨h4, h5⟩ := L3 z h1 h2 h3
              rw [own_drop w, s, own_g_star] at h5 ⊢
              obtain ⟨y, h6, h7⟩ := h5
              rw [List.length_drop] at h6
              rw [List.drop_drop] at h7
              exact ⟨z + (t - x) + y - t, by rw [List.length_drop]; omega, by rw [List.drop_drop, show t + (z + (t - x) + y - t) = z + (t - x) + y by omega]; exact h7⟩
            · intro h; exact ⟨x, Nat.le_refl _, by omega, L4.trans h⟩
          rw [key, own_drop w, s, own_g_star]; unfold own_reach
          constructor
          · rintro ⟨y, h1, h2⟩
            rw [List.length_drop] at h1; rw [List.drop_drop] at h2
            exact ⟨t + y, by omega, by omega, h2⟩
          · rintro ⟨y, h1, h2, h3⟩
            exact ⟨y - t, by rw [List.length_drop]; omega, by rw [List.drop_drop, show t + (y - t) = y by omega]; exact h3⟩
        · rw [if_neg s]
          have step : (P[i] = 63 ∨ P[i] = X[t]) → own_L4_10 k cl1 cl2 (Int32.ofNat P.length) (Int32.ofNat X.length) (Int32.ofNat i + 1) (Int32.ofNat t + 1) (Int32.ofNat r) (Int32.ofNat x) = some (own_b (own_glob P X)) := fun hm => by
            rw [own_i_add i (by omega), own_i_add t (by omega)]
            refine own_star hP hX hA hB k (i + 1) (t + 1) r x hr (by omega) (by omega) (by omega) (by omega) (by omega) (by omega) J1 (fun d hd => ?_)
            rcases Nat.lt_or_ge d (i - (r + 1)) with y | y
            · exact J2 d y
            · have e1 : r + 1 + d = i := by omega
              have e2 : x + d = t := by omega
              simp only [e1, e2]
              exact ⟨s, hm⟩
          by_cases u : P[i] = 63
          · rw [if_pos u]; exact step (Or.inl u)
          · rw [if_neg u, if_pos ⟨own_i_nn (by omega), (own_i_lt (by omega) (by omega)).mpr q⟩, hB t q]
            by_cases v : P[i] = X[t]
            · rw [if_pos v]; exact step (Or.inr v)
            · rw [if_neg v, if_neg (own_i_nn (by omega))]
              refine again ?_ q
              rw [own_drop w, own_drop q, own_g_cc, if_neg s, decide_eq_false (fun z => z.elim u v), Bool.false_and]
      · rw [if_neg fun z => w ((own_i_lt (by omega) (by omega)).mp z), if_neg (own_i_nn (by omega))]
        refine again ?_ q
        rw [own_drop0 (xs := P) (by omega), own_drop q, own_g_nil']
    · rw [if_neg fun z => q ((own_i_lt (by omega) (by omega)).mp z)]
      have e : t = X.length := by omega
      have m0 : P.length - i ≤ (X.length - x) * (P.length + 2) + (P.length - i) := by omega
      rw [own_tail hP hA k i _ _ _ _ hi (by omega)]
      have key : own_glob P X = own_glob (P.drop i) [] := by
        have d0 : X.drop t = [] := own_drop0 (by omega)
        rw [← d0, ← L4]
        apply Bool.eq_iff_iff.mpr
        rw [J1]; unfold own_reach
        constructor
        · rintro ⟨z, h1, h2, h3⟩
          obtain ⟨h4, -⟩ := L3 z h1 h2 h3
          obtain rfl : z = x := by omega
          exact h3
        · intro h; exact ⟨x, Nat.le_refl _, by omega, h⟩
      rw [key]
theorem own_plain {P X : List Int32} {cl1 cl2 : Cell} (hP : P.length ≤ 4) (hX : X.length ≤ 4) (hA : ∀ i, (h : i < P.length) → atv cl1 (Int32.ofNat i) = P[i]) (hB : ∀ i, (h : i < X.length) → atv cl2 (Int32.ofNat i) = X[i]) : ∀ (k i t : Nat) (hi : i ≤ P.length) (ht : t ≤ X.length), X.length * (P.length + 2) + (P.length - i) + 2 ≤ k → own_glob P X = own_glob (P.drop i) (X.drop t) →
    own_L4_10 k cl1 cl2 (Int32.ofNat P.length) (Int32.ofNat X.length) (Int32.ofNat i) (Int32.ofNat t) (-1) 0 = some (own_b (own_glob P X))
  | 0, _, _, _, _, h, _ => absurd h (by omega)
  | k + 1, i, t, hi, ht, hk, I => by
    rw [own_L4_10]
    by_cases q : t < X.length
    · rw [if_pos ((own_i_lt (by omega) (by omega)).mpr q)]
      by_cases w : i < P.length
      · rw [if_pos ((own_i_lt (by omega) (by omega)).mpr w), if_pos ⟨own_i_nn (by omega), (own_i_lt (by omega) (by omega)).mpr w⟩, hA i w]
        by_cases s : P[i] = 42
        · rw [if_pos s, own_i_add i (by omega)]
          have e : (X.length - t) * (P.length + 2) ≤ X.length * (P.length + 2) := Nat.mul_le_mul_right _ (by omega)
          refine own_star hP hX hA hB k (i + 1) t i t w (by omega) ht (by omega) (by omega) (by omega) (by omega) ?_ (fun d hd => absurd hd (by omega))
          rw [I, own_drop w, s, own_g_star]; unfold own_reach
          constructor
          · rintro ⟨y, h1, h2⟩
            rw [List.length_drop] at h1; rw [List.drop_drop] at h2
            exact ⟨t + y, by omega, by omega, h2⟩
          · rintro ⟨y, h1, h2, h3⟩
            exact ⟨y - t, by rw [List.length_drop]; omega, by rw [List.drop_drop, show t + (y - t) = y by omega]; exact h3⟩
        · rw [if_neg s]
          have step : (P[i] = 63 ∨ P[i] = X[t]) → own_L4_10 k cl1 cl2 (Int32.ofNat P.length) (Int32.ofNat X.length) (Int32.ofNat i + 1) (Int32.ofNat t + 1) (-1) 0 = some (own_b (own_glob P X)) := fun hm => by
            rw [own_i_add i (by omega), own_i_add t (by omega)]
            refine own_plain hP hX hA hB k (i + 1) (t + 1) (by omega) (by omega) (by omega) ?_
            rw [I, own_drop w, own_drop q, own_g_cc, if_neg s, decide_eq_true hm, Bool.true_and]
          by_cases u : P[i] = 63
          · rw [if_pos u]; exact step (Or.inl u)
          · rw [if_neg u, if_pos ⟨own_i_nn (by omega), (own_i_lt (by omega) (by omega)).mpr q⟩, hB t q]
            by_cases v : P[i] = X[t]
            · rw [if_pos v]; exact step (Or.inr v)
            · rw [if_neg v, if_pos (by decide), I, own_drop w, own_drop q, own_g_cc, if_neg s, decide_eq_false (fun z => z.elim u v), Bool.false_and]; rfl
      · rw [if_neg fun z => w ((own_i_lt (by omega) (by omega)).mp z), if_pos (by decide), I, own_drop0 (xs := P) (by omega), own_drop q, own_g_nil']; rfl
    · rw [if_neg fun z => q ((own_i_lt (by omega) (by omega)).mp z), own_tail hP hA k i _ _ _ _ hi (by omega), I, own_drop0 (xs := X) (by omega)]
def own_list (m a b c d : Int32) : List Int32 := [a, b, c, d].take m.toNatClampNeg
def own_dp (m n p0 p1 p2 p3 t0 t1 t2 t3 : Int32) : Int32 := own_b (own_glob (own_list m p0 p1 p2 p3) (own_list n t0 t1 t2 t3))
theorem own_list_ok {m a b c d : Int32} {cl : Cell} (hm : m = 0 ∨ m = 1 ∨ m = 2 ∨ m = 3 ∨ m = 4) (hA : ∀ j : Int32, ¬ j < 0 → j < m → atv cl j = own_sel a b c d j) : (own_list m a b c d).length ≤ 4 ∧ Int32.ofNat (own_list m a b c d).length = m ∧ ∀ i, (h : i < (own_list m a b c d).length) → atv cl (Int32.ofNat i) = (own_list m a b c d)[i] := by
  have key : ∀ k : Nat, k ≤ 4 → m = Int32.ofNat k → own_list m a b c d = [a, b, c, d].take k → (own_list m a b c d).length ≤ 4 ∧ Int32.ofNat (own_list m a b c d).length = m ∧ ∀ i, (h : i < (own_list m a b c d).length) → atv cl (Int32.ofNat i) = (own_list m a b c d)[i] := fun k hk e1 e2 => by
    have e3 : (own_list m a b c d).length = k := by rw [e2]; simp; omega
    refine ⟨by omega, by rw [e3, e1], fun i hi => ?_⟩
    rw [hA _ (own_i_nn (by omega)) (by rw [e1]; exact (own_i_lt (by omega) (by omega)).mpr (by omega))]
    have hi' : i < k := by omega
    simp only [e2, List.getElem_take]
    match i, hi', hk with
    | 0, _, _ => rfl
    | 1, _, _ => rfl
    | 2, _, _ => rfl
    | 3, _, _ => rfl
    | n + 4, h1, h2 => omega
  rcases hm with rfl | rfl | rfl | rfl | rfl
  · exact key 0 (by decide) rfl rfl
  · exact key 1 (by decide) rfl rfl
  · exact key 2 (by decide) rfl rfl
  · exact key 3 (by decide) rfl rfl
  · exact key 4 (by decide) rfl rfl
theorem own_matches_ok {m n p0 p1 p2 p3 t0 t1 t2 t3 : Int32} {cl1 cl2 : Cell} (hm : m = 0 ∨ m = 1 ∨ m = 2 ∨ m = 3 ∨ m = 4) (hn : n = 0 ∨ n = 1 ∨ n = 2 ∨ n = 3 ∨ n = 4) (hA : ∀ j : Int32, ¬ j < 0 → j < m → atv cl1 j = own_sel p0 p1 p2 p3 j) (hB : ∀ j : Int32, ¬ j < 0 → j < n → atv cl2 j = own_sel t0 t1 t2 t3 j) :
    own_L4_10 40 cl1 cl2 m n 0 0 (-1) 0 = some (own_dp m n p0 p1 p2 p3 t0 t1 t2 t3) := by
  obtain ⟨a1, a2, a3⟩ := own_list_ok hm hA
  obtain ⟨b1, b2, b3⟩ := own_list_ok hn hB
  have e : (own_list n t0 t1 t2 t3).length * ((own_list m p0 p1 p2 p3).length + 2) ≤ 4 * 6 := Nat.mul_le_mul b1 (by omega)
  have := own_plain a1 b1 a3 b3 40 0 0 (Nat.zero_le _) (Nat.zero_le _) (by omega) rfl
  rw [a2, b2] at this
  exact this
theorem own_C1 {i j m n p y : Int32} {ps ys : List Int32} (h1 : i < m) (h2 : j < n) : own_f5 i j m n p y (own_b (own_glob (p :: ps) ys)) (own_b (own_glob ps (y :: ys))) (own_b (own_glob ps ys)) = own_b (own_glob (p :: ps) (y :: ys)) := by
  unfold own_f5; rw [if_pos h1, own_g_cc]
  by_cases hp : p = 42
  · rw [if_pos hp, if_pos hp, if_pos h2]
    cases own_glob (p :: ps) ys <;> cases own_glob ps (y :: ys) <;> rfl
  · rw [if_neg hp, if_neg hp, if_pos h2]
    by_cases h3 : p = 63
    · rw [if_pos h3, decide_eq_true (Or.inl h3)]
      cases own_glob ps ys <;> rfl
    · rw [if_neg h3]
      by_cases h4 : p = y
      · rw [if_pos h4, decide_eq_true (Or.inr h4)]
        cases own_glob ps ys <;> rfl
      · rw [if_neg h4, decide_eq_false (fun z => z.elim h3 h4)]
        cases own_glob ps ys <;> rfl
theorem own_C2 {i j m n p c r g : Int32} {ps : List Int32} (h1 : i < m) (h2 : ¬ j < n) : own_f5 i j m n p c r (own_b (own_glob ps [])) g = own_b (own_glob (p :: ps) []) := by
  unfold own_f5; rw [if_pos h1, own_g_c0, if_neg h2, if_neg h2]
  by_cases hp : p = 42
  · rw [if_pos hp, if_pos hp]
    cases own_glob ps [] <;> rfl
  · rw [if_neg hp, if_neg hp]; rfl
theorem own_C3 {i j m n p c r d g : Int32} (h1 : ¬ i < m) : own_f5 i j m n p c r d g = if j = n then (1 : Int32) else (0 : Int32) := by
  unfold own_f5; rw [if_neg h1]
theorem own_N0 : (1 : Int32) = own_b (own_glob [] []) := by rw [own_g_nil]; rfl
theorem own_N1 (y : Int32) (ys : List Int32) : (0 : Int32) = own_b (own_glob [] (y :: ys)) := by rw [own_g_nil']; rfl
theorem own_five {x z : Int32} (h : z = (x &&& 255) % 5) : z = 0 ∨ z = 1 ∨ z = 2 ∨ z = 3 ∨ z = 4 := by
  have h1 := c_and x 255 (by decide)
  have h2 := c_irem (x &&& 255) 5 5 (by decide)
  have e0 : (0 : Int32).toInt = 0 := rfl
  have e1 : (1 : Int32).toInt = 1 := rfl
  have e2 : (2 : Int32).toInt = 2 := rfl
  have e3 : (3 : Int32).toInt = 3 := rfl
  have e4 : (4 : Int32).toInt = 4 := rfl
  rw [h]; simp only [← Int32.toInt_inj, e0, e1, e2, e3, e4]
  omega
theorem own_five1 {x z : Int32} (h : z = (x &&& 255) % 5) : z = 0 ∨ z = 1 ∨ z = 2 ∨ z = 3 ∨ z = 4 := own_five h
theorem own_five2 {x z : Int32} (h : z = (x &&& 255) % 5) : z = 0 ∨ z = 1 ∨ z = 2 ∨ z = 3 ∨ z = 4 := own_five h

theorem own_dp_0_0 {p0 p1 p2 p3 t0 t1 t2 t3 d44 d43 d42 d41 d40 d34 d33 d32 d31 d30 d24 d23 d22 d21 d20 d14 d13 d12 d11 d10 d04 d03 d02 d01 d00 : Int32} (h00 : d00 = (own_f5 (0 : Int32) (0 : Int32) (0 : Int32) (0 : Int32) p0 t0 d01 d10 d11)) : d00 = own_b (own_glob [] []) := by
  have e00 : d00 = own_b (own_glob [] []) := by rw [h00, own_C3 (by decide), if_pos rfl]; exact own_N0
  exact e00
theorem own_dp_0_1 {p0 p1 p2 p3 t0 t1 t2 t3 d44 d43 d42 d41 d40 d34 d33 d32 d31 d30 d24 d23 d22 d21 d20 d14 d13 d12 d11 d10 d04 d03 d02 d01 d00 : Int32} (h01 : d01 = (own_f5 (0 : Int32) (1 : Int32) (0 : Int32) (1 : Int32) p0 t1 d02 d11 d12)) (h00 : d00 = (own_f5 (0 : Int32) (0 : Int32) (0 : Int32) (1 : Int32) p0 t0 d01 d10 d11)) : d00 = own_b (own_glob [] [t0]) := by
  have e01 : d01 = own_b (own_glob [] []) := by rw [h01, own_C3 (by decide), if_pos rfl]; exact own_N0
  have e00 : d00 = own_b (own_glob [] [t0]) := by rw [h00, own_C3 (by decide), if_neg (by decide)]; exact own_N1 _ _
  exact e00
theorem own_dp_0_2 {p0 p1 p2 p3 t0 t1 t2 t3 d44 d43 d42 d41 d40 d34 d33 d32 d31 d30 d24 d23 d22 d21 d20 d14 d13 d12 d11 d10 d04 d03 d02 d01 d00 : Int32} (h02 : d02 = (own_f5 (0 : Int32) (2 : Int32) (0 : Int32) (2 : Int32) p0 t2 d03 d12 d13)) (h01 : d01 = (own_f5 (0 : Int32) (1 : Int32) (0 : Int32) (2 : Int32) p0 t1 d02 d11 d12)) (h00 : d00 = (own_f5 (0 : Int32) (0 : Int32) (0 : Int32) (2 : Int32) p0 t0 d01 d10 d11)) : d00 = own_b (own_glob [] [t0, t1]) := by
  have e02 : d02 = own_b (own_glob [] []) := by rw [h02, own_C3 (by decide), if_pos rfl]; exact own_N0
  have e01 : d01 = own_b (own_glob [] [t1]) := by rw [h01, own_C3 (by decide), if_neg (by decide)]; exact own_N1 _ _
  have e00 : d00 = own_b (own_glob [] [t0, t1]) := by rw [h00, own_C3 (by decide), if_neg (by decide)]; exact own_N1 _ _
  exact e00
theorem own_dp_0_3 {p0 p1 p2 p3 t0 t1 t2 t3 d44 d43 d42 d41 d40 d34 d33 d32 d31 d30 d24 d23 d22 d21 d20 d14 d13 d12 d11 d10 d04 d03 d02 d01 d00 : Int32} (h03 : d03 = (own_f5 (0 : Int32) (3 : Int32) (0 : Int32) (3 : Int32) p0 t3 d04 d13 d14)) (h02 : d02 = (own_f5 (0 : Int32) (2 : Int32) (0 : Int32) (3 : Int32) p0 t2 d03 d12 d13)) (h01 : d01 = (own_f5 (0 : Int32) (1 : Int32) (0 : Int32) (3 : Int32) p0 t1 d02 d11 d12)) (h00 : d00 = (own_f5 (0 : Int32) (0 : Int32) (0 : Int32) (3 : Int32) p0 t0 d01 d10 d11)) : d00 = own_b (own_glob [] [t0, t1, t2]) := by
  have e03 : d03 = own_b (own_glob [] []) := by rw [h03, own_C3 (by decide), if_pos rfl]; exact own_N0
  have e02 : d02 = own_b (own_glob [] [t2]) := by rw [h02, own_C3 (by decide), if_neg (by decide)]; exact own_N1 _ _
  have e01 : d01 = own_b (own_glob [] [t1, t2]) := by rw [h01, own_C3 (by decide), if_neg (by decide)]; exact own_N1 _ _
  have e00 : d00 = own_b (own_glob [] [t0, t1, t2]) := by rw [h00, own_C3 (by decide), if_neg (by decide)]; exact own_N1 _ _
  exact e00
theorem own_dp_0_4 {p0 p1 p2 p3 t0 t1 t2 t3 d44 d43 d42 d41 d40 d34 d33 d32 d31 d30 d24 d23 d22 d21 d20 d14 d13 d12 d11 d10 d04 d03 d02 d01 d00 : Int32} (h04 : d04 = (own_f5 (0 : Int32) (4 : Int32) (0 : Int32) (4 : Int32) p0 (0 : Int32) (0 : Int32) d14 (0 : Int32))) (h03 : d03 = (own_f5 (0 : Int32) (3 : Int32) (0 : Int32) (4 : Int32) p0 t3 d04 d13 d14)) (h02 : d02 = (own_f5 (0 : Int32) (2 : Int32) (0 : Int32) (4 : Int32) p0 t2 d03 d12 d13)) (h01 : d01 = (own_f5 (0 : Int32) (1 : Int32) (0 : Int32) (4 : Int32) p0 t1 d02 d11 d12)) (h00 : d00 = (own_f5 (0 : Int32) (0 : Int32) (0 : Int32) (4 : Int32) p0 t0 d01 d10 d11)) : d00 = own_b (own_glob [] [t0, t1, t2, t3]) := by
  have e04 : d04 = own_b (own_glob [] []) := by rw [h04, own_C3 (by decide), if_pos rfl]; exact own_N0
  have e03 : d03 = own_b (own_glob [] [t3]) := by rw [h03, own_C3 (by decide), if_neg (by decide)]; exact own_N1 _ _
  have e02 : d02 = own_b (own_glob [] [t2, t3]) := by rw [h02, own_C3 (by decide), if_neg (by decide)]; exact own_N1 _ _
  have e01 : d01 = own_b (own_glob [] [t1, t2, t3]) := by rw [h01, own_C3 (by decide), if_neg (by decide)]; exact own_N1 _ _
  have e00 : d00 = own_b (own_glob [] [t0, t1, t2, t3]) := by rw [h00, own_C3 (by decide), if_neg (by decide)]; exact own_N1 _ _
  exact e00
theorem own_dp_1_0 {p0 p1 p2 p3 t0 t1 t2 t3 d44 d43 d42 d41 d40 d34 d33 d32 d31 d30 d24 d23 d22 d21 d20 d14 d13 d12 d11 d10 d04 d03 d02 d01 d00 : Int32} (h10 : d10 = (own_f5 (1 : Int32) (0 : Int32) (1 : Int32) (0 : Int32) p1 t0 d11 d20 d21)) (h00 : d00 = (own_f5 (0 : Int32) (0 : Int32) (1 : Int32) (0 : Int32) p0 t0 d01 d10 d11)) : d00 = own_b (own_glob [p0] []) := by
  have e10 : d10 = own_b (own_glob [] []) := by rw [h10, own_C3 (by decide), if_pos rfl]; exact own_N0
  have e00 : d00 = own_b (own_glob [p0] []) := by rw [h00, e10]; exact own_C2 (by decide) (by decide)
  exact e00
theorem own_dp_1_1 {p0 p1 p2 p3 t0 t1 t2 t3 d44 d43 d42 d41 d40 d34 d33 d32 d31 d30 d24 d23 d22 d21 d20 d14 d13 d12 d11 d10 d04 d03 d02 d01 d00 : Int32} (h11 : d11 = (own_f5 (1 : Int32) (1 : Int32) (1 : Int32) (1 : Int32) p1 t1 d12 d21 d22)) (h10 : d10 = (own_f5 (1 : Int32) (0 : Int32) (1 : Int32) (1 : Int32) p1 t0 d11 d20 d21)) (h01 : d01 = (own_f5 (0 : Int32) (1 : Int32) (1 : Int32) (1 : Int32) p0 t1 d02 d11 d12)) (h00 : d00 = (own_f5 (0 : Int32) (0 : Int32) (1 : Int32) (1 : Int32) p0 t0 d01 d10 d11)) : d00 = own_b (own_glob [p0] [t0]) := by
  have e11 : d11 = own_b (own_glob [] []) := by rw [h11, own_C3 (by decide), if_pos rfl]; exact own_N0
  have e10 : d10 = own_b (own_glob [] [t0]) := by rw [h10, own_C3 (by decide), if_neg (by decide)]; exact own_N1 _ _
  have e01 : d01 = own_b (own_glob [p0] []) := by rw [h01, e11]; exact own_C2 (by decide) (by decide)
  have e00 : d00 = own_b (own_glob [p0] [t0]) := by rw [h00, e01, e10, e11]; exact own_C1 (by decide) (by decide)
  exact e00
theorem own_dp_1_2 {p0 p1 p2 p3 t0 t1 t2 t3 d44 d43 d42 d41 d40 d34 d33 d32 d31 d30 d24 d23 d22 d21 d20 d14 d13 d12 d11 d10 d04 d03 d02 d01 d00 : Int32} (h12 : d12 = (own_f5 (1 : Int32) (2 : Int32) (1 : Int32) (2 : Int32) p1 t2 d13 d22 d23)) (h11 : d11 = (own_f5 (1 : Int32) (1 : Int32) (1 : Int32) (2 : Int32) p1 t1 d12 d21 d22)) (h10 : d10 = (own_f5 (1 : Int32) (0 : Int32) (1 : Int32) (2 : Int32) p1 t0 d11 d20 d21)) (h02 : d02 = (own_f5 (0 : Int32) (2 : Int32) (1 : Int32) (2 : Int32) p0 t2 d03 d12 d13)) (h01 : d01 = (own_f5 (0 : Int32) (1 : Int32) (1 : Int32) (2 : Int32) p0 t1 d02 d11 d12)) (h00 : d00 = (own_f5 (0 : Int32) (0 : Int32) (1 : Int32) (2 : Int32) p0 t0 d01 d10 d11)) : d00 = own_b (own_glob [p0] [t0, t1]) := by
  have e12 : d12 = own_b (own_glob [] []) := by rw [h12, own_C3 (by decide), if_pos rfl]; exact own_N0
  have e11 : d11 = own_b (own_glob [] [t1]) := by rw [h11, own_C3 (by decide), if_neg (by decide)]; exact own_N1 _ _
  have e10 : d10 = own_b (own_glob [] [t0, t1]) := by rw [h10, own_C3 (by decide), if_neg (by decide)]; exact own_N1 _ _
  have e02 : d02 = own_b (own_glob [p0] []) := by rw [h02, e12]; exact own_C2 (by decide) (by decide)
  have e01 : d01 = own_b (own_glob [p0] [t1]) := by rw [h01, e02, e11, e12]; exact own_C1 (by decide) (by decide)
  have e00 : d00 = own_b (own_glob [p0] [t0, t1]) := by rw [h00, e01, e10, e11]; exact own_C1 (by decide) (by decide)
  exact e00
theorem own_dp_1_3 {p0 p1 p2 p3 t0 t1 t2 t3 d44 d43 d42 d41 d40 d34 d33 d32 d31 d30 d24 d23 d22 d21 d20 d14 d13 d12 d11 d10 d04 d03 d02 d01 d00 : Int32} (h13 : d13 = (own_f5 (1 : Int32) (3 : Int32) (1 : Int32) (3 : Int32) p1 t3 d14 d23 d24)) (h12 : d12 = (own_f5 (1 : Int32) (2 : Int32) (1 : Int32) (3 : Int32) p1 t2 d13 d22 d23)) (h11 : d11 = (own_f5 (1 : Int32) (1 : Int32) (1 : Int32) (3 : Int32) p1 t1 d12 d21 d22)) (h10 : d10 = (own_f5 (1 : Int32) (0 : Int32) (1 : Int32) (3 : Int32) p1 t0 d11 d20 d21)) (h03 : d03 = (own_f5 (0 : Int32) (3 : Int32) (1 : Int32) (3 : Int32) p0 t3 d04 d13 d14)) (h02 : d02 = (own_f5 (0 : Int32) (2 : Int32) (1 : Int32) (3 : Int32) p0 t2 d03 d12 d13)) (h01 : d01 = (own_f5 (0 : Int32) (1 : Int32) (1 : Int32) (3 : Int32) p0 t1 d02 d11 d12)) (h00 : d00 = (own_f5 (0 : Int32) (0 : Int32) (1 : Int32) (3 : Int32) p0 t0 d01 d10 d11)) : d00 = own_b (own_glob [p0] [t0, t1, t2]) := by
  have e13 : d13 = own_b (own_glob [] []) := by rw [h13, own_C3 (by decide), if_pos rfl]; exact own_N0
  have e12 : d12 = own_b (own_glob [] [t2]) := by rw [h12, own_C3 (by decide), if_neg (by decide)]; exact own_N1 _ _
  have e11 : d11 = own_b (own_glob [] [t1, t2]) := by rw [h11, own_C3 (by decide), if_neg (by decide)]; exact own_N1 _ _
  have e10 : d10 = own_b (own_glob [] [t0, t1, t2]) := by rw [h10, own_C3 (by decide), if_neg (by decide)]; exact own_N1 _ _
  have e03 : d03 = own_b (own_glob [p0] []) := by rw [h03, e13]; exact own_C2 (by decide) (by decide)
  have e02 : d02 = own_b (own_glob [p0] [t2]) := by rw [h02, e03, e12, e13]; exact own_C1 (by decide) (by decide)
  have e01 : d01 = own_b (own_glob [p0] [t1, t2]) := by rw [h01, e02, e11, e12]; exact own_C1 (by decide) (by decide)
  have e00 : d00 = own_b (own_glob [p0] [t0, t1, t2]) := by rw [h00, e01, e10, e11]; exact own_C1 (by decide) (by decide)
  exact e00
theorem own_dp_1_4 {p0 p1 p2 p3 t0 t1 t2 t3 d44 d43 d42 d41 d40 d34 d33 d32 d31 d30 d24 d23 d22 d21 d20 d14 d13 d12 d11 d10 d04 d03 d02 d01 d00 : Int32} (h14 : d14 = (own_f5 (1 : Int32) (4 : Int32) (1 : Int32) (4 : Int32) p1 (0 : Int32) (0 : Int32) d24 (0 : Int32))) (h13 : d13 = (own_f5 (1 : Int32) (3 : Int32) (1 : Int32) (4 : Int32) p1 t3 d14 d23 d24)) (h12 : d12 = (own_f5 (1 : Int32) (2 : Int32) (1 : Int32) (4 : Int32) p1 t2 d13 d22 d23)) (h11 : d11 = (own_f5 (1 : Int32) (1 : Int32) (1 : Int32) (4 : Int32) p1 t1 d12 d21 d22)) (h10 : d10 = (own_f5 (1 : Int32) (0 : Int32) (1 : Int32) (4 : Int32) p1 t0 d11 d20 d21)) (h04 : d04 = (own_f5 (0 : Int32) (4 : Int32) (1 : Int32) (4 : Int32) p0 (0 : Int32) (0 : Int32) d14 (0 : Int32))) (h03 : d03 = (own_f5 (0 : Int32) (3 : Int32) (1 : Int32) (4 : Int32) p0 t3 d04 d13 d14)) (h02 : d02 = (own_f5 (0 : Int32) (2 : Int32) (1 : Int32) (4 : Int32) p0 t2 d03 d12 d13)) (h01 : d01 = (own_f5 (0 : Int32) (1 : Int32) (1 : Int32) (4 : Int32) p0 t1 d02 d11 d12)) (h00 : d00 = (own_f5 (0 : Int32) (0 : Int32) (1 : Int32) (4 : Int32) p0 t0 d01 d10 d11)) : d00 = own_b (own_glob [p0] [t0, t1, t2, t3]) := by
  have e14 : d14 = own_b (own_glob [] []) := by rw [h14, own_C3 (by decide), if_pos rfl]; exact own_N0
  have e13 : d13 = own_b (own_glob [] [t3]) := by rw [h13, own_C3 (by decide), if_neg (by decide)]; exact own_N1 _ _
  have e12 : d12 = own_b (own_glob [] [t2, t3]) := by rw [h12, own_C3 (by decide), if_neg (by decide)]; exact own_N1 _ _
  have e11 : d11 = own_b (own_glob [] [t1, t2, t3]) := by rw [h11, own_C3 (by decide), if_neg (by decide)]; exact own_N1 _ _
  have e10 : d10 = own_b (own_glob [] [t0, t1, t2, t3]) := by rw [h10, own_C3 (by decide), if_neg (by decide)]; exact own_N1 _ _
  have e04 : d04 = own_b (own_glob [p0] []) := by rw [h04, e14]; exact own_C2 (by decide) (by decide)
  have e03 : d03 = own_b (own_glob [p0] [t3]) := by rw [h03, e04, e13, e14]; exact own_C1 (by decide) (by decide)
  have e02 : d02 = own_b (own_glob [p0] [t2, t3]) := by rw [h02, e03, e12, e13]; exact own_C1 (by decide) (by decide)
  have e01 : d01 = own_b (own_glob [p0] [t1, t2, t3]) := by rw [h01, e02, e11, e12]; exact own_C1 (by decide) (by decide)
  have e00 : d00 = own_b (own_glob [p0] [t0, t1, t2, t3]) := by rw [h00, e01, e10, e11]; exact own_C1 (by decide) (by decide)
  exact e00
theorem own_dp_2_0 {p0 p1 p2 p3 t0 t1 t2 t3 d44 d43 d42 d41 d40 d34 d33 d32 d31 d30 d24 d23 d22 d21 d20 d14 d13 d12 d11 d10 d04 d03 d02 d01 d00 : Int32} (h20 : d20 = (own_f5 (2 : Int32) (0 : Int32) (2 : Int32) (0 : Int32) p2 t0 d21 d30 d31)) (h10 : d10 = (own_f5 (1 : Int32) (0 : Int32) (2 : Int32) (0 : Int32) p1 t0 d11 d20 d21)) (h00 : d00 = (own_f5 (0 : Int32) (0 : Int32) (2 : Int32) (0 : Int32) p0 t0 d01 d10 d11)) : d00 = own_b (own_glob [p0, p1] []) := by
  have e20 : d20 = own_b (own_glob [] []) := by rw [h20, own_C3 (by decide), if_pos rfl]; exact own_N0
  have e10 : d10 = own_b (own_glob [p1] []) := by rw [h10, e20]; exact own_C2 (by decide) (by decide)
  have e00 : d00 = own_b (own_glob [p0, p1] []) := by rw [h00, e10]; exact own_C2 (by decide) (by decide)
  exact e00
theorem own_dp_2_1 {p0 p1 p2 p3 t0 t1 t2 t3 d44 d43 d42 d41 d40 d34 d33 d32 d31 d30 d24 d23 d22 d21 d20 d14 d13 d12 d11 d10 d04 d03 d02 d01 d00 : Int32} (h21 : d21 = (own_f5 (2 : Int32) (1 : Int32) (2 : Int32) (1 : Int32) p2 t1 d22 d31 d32)) (h20 : d20 = (own_f5 (2 : Int32) (0 : Int32) (2 : Int32) (1 : Int32) p2 t0 d21 d30 d31)) (h11 : d11 = (own_f5 (1 : Int32) (1 : Int32) (2 : Int32) (1 : Int32) p1 t1 d12 d21 d22)) (h10 : d10 = (own_f5 (1 : Int32) (0 : Int32) (2 : Int32) (1 : Int32) p1 t0 d11 d20 d21)) (h01 : d01 = (own_f5 (0 : Int32) (1 : Int32) (2 : Int32) (1 : Int32) p0 t1 d02 d11 d12)) (h00 : d00 = (own_f5 (0 : Int32) (0 : Int32) (2 : Int32) (1 : Int32) p0 t0 d01 d10 d11)) : d00 = own_b (own_glob [p0, p1] [t0]) := by
  have e21 : d21 = own_b (own_glob [] []) := by rw [h21, own_C3 (by decide), if_pos rfl]; exact own_N0
  have e20 : d20 = own_b (own_glob [] [t0]) := by rw [h20, own_C3 (by decide), if_neg (by decide)]; exact own_N1 _ _
  have e11 : d11 = own_b (own_glob [p1] []) := by rw [h11, e21]; exact own_C2 (by decide) (by decide)
  have e10 : d10 = own_b (own_glob [p1] [t0]) := by rw [h10, e11, e20, e21]; exact own_C1 (by decide) (by decide)
  have e01 : d01 = own_b (own_glob [p0, p1] []) := by rw [h01, e11]; exact own_C2 (by decide) (by decide)
  have e00 : d00 = own_b (own_glob [p0, p1] [t0]) := by rw [h00, e01, e10, e11]; exact own_C1 (by decide) (by decide)
  exact e00
theorem own_dp_2_2 {p0 p1 p2 p3 t0 t1 t2 t3 d44 d43 d42 d41 d40 d34 d33 d32 d31 d30 d24 d23 d22 d21 d20 d14 d13 d12 d11 d10 d04 d03 d02 d01 d00 : Int32} (h22 : d22 = (own_f5 (2 : Int32) (2 : Int32) (2 : Int32) (2 : Int32) p2 t2 d23 d32 d33)) (h21 : d21 = (own_f5 (2 : Int32) (1 : Int32) (2 : Int32) (2 : Int32) p2 t1 d22 d31 d32)) (h20 : d20 = (own_f5 (2 : Int32) (0 : Int32) (2 : Int32) (2 : Int32) p2 t0 d21 d30 d31)) (h12 : d12 = (own_f5 (1 : Int32) (2 : Int32) (2 : Int32) (2 : Int32) p1 t2 d13 d22 d23)) (h11 : d11 = (own_f5 (1 : Int32) (1 : Int32) (2 : Int32) (2 : Int32) p1 t1 d12 d21 d22)) (h10 : d10 = (own_f5 (1 : Int32) (0 : Int32) (2 : Int32) (2 : Int32) p1 t0 d11 d20 d21)) (h02 : d02 = (own_f5 (0 : Int32) (2 : Int32) (2 : Int32) (2 : Int32) p0 t2 d03 d12 d13)) (h01 : d01 = (own_f5 (0 : Int32) (1 : Int32) (2 : Int32) (2 : Int32) p0 t1 d02 d11 d12)) (h00 : d00 = (own_f5 (0 : Int32) (0 : Int32) (2 : Int32) (2 : Int32) p0 t0 d01 d10 d11)) : d00 = own_b (own_glob [p0, p1] [t0, t1]) := by
  have e22 : d22 = own_b (own_glob [] []) := by rw [h22, own_C3 (by decide), if_pos rfl]; exact own_N0
  have e21 : d21 = own_b (own_glob [] [t1]) := by rw [h21, own_C3 (by decide), if_neg (by decide)]; exact own_N1 _ _
  have e20 : d20 = own_b (own_glob [] [t0, t1]) := by rw [h20, own_C3 (by decide), if_neg (by decide)]; exact own_N1 _ _
  have e12 : d12 = own_b (own_glob [p1] []) := by rw [h12, e22]; exact own_C2 (by decide) (by decide)
  have e11 : d11 = own_b (own_glob [p1] [t1]) := by rw [h11, e12, e21, e22]; exact own_C1 (by decide) (by decide)
  have e10 : d10 = own_b (own_glob [p1] [t0, t1]) := by rw [h10, e11, e20, e21]; exact own_C1 (by decide) (by decide)
  have e02 : d02 = own_b (own_glob [p0, p1] []) := by rw [h02, e12]; exact own_C2 (by decide) (by decide)
  have e01 : d01 = own_b (own_glob [p0, p1] [t1]) := by rw [h01, e02, e11, e12]; exact own_C1 (by decide) (by decide)
  have e00 : d00 = own_b (own_glob [p0, p1] [t0, t1]) := by rw [h00, e01, e10, e11]; exact own_C1 (by decide) (by decide)
  exact e00
theorem own_dp_2_3 {p0 p1 p2 p3 t0 t1 t2 t3 d44 d43 d42 d41 d40 d34 d33 d32 d31 d30 d24 d23 d22 d21 d20 d14 d13 d12 d11 d10 d04 d03 d02 d01 d00 : Int32} (h23 : d23 = (own_f5 (2 : Int32) (3 : Int32) (2 : Int32) (3 : Int32) p2 t3 d24 d33 d34)) (h22 : d22 = (own_f5 (2 : Int32) (2 : Int32) (2 : Int32) (3 : Int32) p2 t2 d23 d32 d33)) (h21 : d21 = (own_f5 (2 : Int32) (1 : Int32) (2 : Int32) (3 : Int32) p2 t1 d22 d31 d32)) (h20 : d20 = (own_f5 (2 : Int32) (0 : Int32) (2 : Int32) (3 : Int32) p2 t0 d21 d30 d31)) (h13 : d13 = (own_f5 (1 : Int32) (3 : Int32) (2 : Int32) (3 : Int32) p1 t3 d14 d23 d24)) (h12 : d12 = (own_f5 (1 : Int32) (2 : Int32) (2 : Int32) (3 : Int32) p1 t2 d13 d22 d23)) (h11 : d11 = (own_f5 (1 : Int32) (1 : Int32) (2 : Int32) (3 : Int32) p1 t1 d12 d21 d22)) (h10 : d10 = (own_f5 (1 : Int32) (0 : Int32) (2 : Int32) (3 : Int32) p1 t0 d11 d20 d21)) (h03 : d03 = (own_f5 (0 : Int32) (3 : Int32) (2 : Int32) (3 : Int32) p0 t3 d04 d13 d14)) (h02 : d02 = (own_f5 (0 : Int32) (2 : Int32) (2 : Int32) (3 : Int32) p0 t2 d03 d12 d13)) (h01 : d01 = (own_f5 (0 : Int32) (1 : Int32) (2 : Int32) (3 : Int32) p0 t1 d02 d11 d12)) (h00 : d00 = (own_f5 (0 : Int32) (0 : Int32) (2 : Int32) (3 : Int32) p0 t0 d01 d10 d11)) : d00 = own_b (own_glob [p0, p1] [t0, t1, t2]) := by
  have e23 : d23 = own_b (own_glob [] []) := by rw [h23, own_C3 (by decide), if_pos rfl]; exact own_N0
  have e22 : d22 = own_b (own_glob [] [t2]) := by rw [h22, own_C3 (by decide), if_neg (by decide)]; exact own_N1 _ _
  have e21 : d21 = own_b (own_glob [] [t1, t2]) := by rw [h21, own_C3 (by decide), if_neg (by decide)]; exact own_N1 _ _
  have e20 : d20 = own_b (own_glob [] [t0, t1, t2]) := by rw [h20, own_C3 (by decide), if_neg (by decide)]; exact own_N1 _ _
  have e13 : d13 = own_b (own_glob [p1] []) := by rw [h13, e23]; exact own_C2 (by decide) (by decide)
  have e12 : d12 = own_b (own_glob [p1] [t2]) := by rw [h12, e13, e22, e23]; exact own_C1 (by decide) (by decide)
  have e11 : d11 = own_b (own_glob [p1] [t1, t2]) := by rw [h11, e12, e21, e22]; exact own_C1 (by decide) (by decide)
  have e10 : d10 = own_b (own_glob [p1] [t0, t1, t2]) := by rw [h10, e11, e20, e21]; exact own_C1 (by decide) (by decide)
  have e03 : d03 = own_b (own_glob [p0, p1] []) := by rw [h03, e13]; exact own_C2 (by decide) (by decide)
  have e02 : d02 = own_b (own_glob [p0, p1] [t2]) := by rw [h02, e03, e12, e13]; exact own_C1 (by decide) (by decide)
  have e01 : d01 = own_b (own_glob [p0, p1] [t1, t2]) := by rw [h01, e02, e11, e12]; exact own_C1 (by decide) (by decide)
  have e00 : d00 = own_b (own_glob [p0, p1] [t0, t1, t2]) := by rw [h00, e01, e10, e11]; exact own_C1 (by decide) (by decide)
  exact e00
theorem own_dp_2_4 {p0 p1 p2 p3 t0 t1 t2 t3 d44 d43 d42 d41 d40 d34 d33 d32 d31 d30 d24 d23 d22 d21 d20 d14 d13 d12 d11 d10 d04 d03 d02 d01 d00 : Int32} (h24 : d24 = (own_f5 (2 : Int32) (4 : Int32) (2 : Int32) (4 : Int32) p2 (0 : Int32) (0 : Int32) d34 (0 : Int32))) (h23 : d23 = (own_f5 (2 : Int32) (3 : Int32) (2 : Int32) (4 : Int32) p2 t3 d24 d33 d34)) (h22 : d22 = (own_f5 (2 : Int32) (2 : Int32) (2 : Int32) (4 : Int32) p2 t2 d23 d32 d33)) (h21 : d21 = (own_f5 (2 : Int32) (1 : Int32) (2 : Int32) (4 : Int32) p2 t1 d22 d31 d32)) (h20 : d20 = (own_f5 (2 : Int32) (0 : Int32) (2 : Int32) (4 : Int32) p2 t0 d21 d30 d31)) (h14 : d14 = (own_f5 (1 : Int32) (4 : Int32) (2 : Int32) (4 : Int32) p1 (0 : Int32) (0 : Int32) d24 (0 : Int32))) (h13 : d13 = (own_f5 (1 : Int32) (3 : Int32) (2 : Int32) (4 : Int32) p1 t3 d14 d23 d24)) (h12 : d12 = (own_f5 (1 : Int32) (2 : Int32) (2 : Int32) (4 : Int32) p1 t2 d13 d22 d23)) (h11 : d11 = (own_f5 (1 : Int32) (1 : Int32) (2 : Int32) (4 : Int32) p1 t1 d12 d21 d22)) (h10 : d10 = (own_f5 (1 : Int32) (0 : Int32) (2 : Int32) (4 : Int32) p1 t0 d11 d20 d21)) (h04 : d04 = (own_f5 (0 : Int32) (4 : Int32) (2 : Int32) (4 : Int32) p0 (0 : Int32) (0 : Int32) d14 (0 : Int32))) (h03 : d03 = (own_f5 (0 : Int32) (3 : Int32) (2 : Int32) (4 : Int32) p0 t3 d04 d13 d14)) (h02 : d02 = (own_f5 (0 : Int32) (2 : Int32) (2 : Int32) (4 : Int32) p0 t2 d03 d12 d13)) (h01 : d01 = (own_f5 (0 : Int32) (1 : Int32) (2 : Int32) (4 : Int32) p0 t1 d02 d11 d12)) (h00 : d00 = (own_f5 (0 : Int32) (0 : Int32) (2 : Int32) (4 : Int32) p0 t0 d01 d10 d11)) : d00 = own_b (own_glob [p0, p1] [t0, t1, t2, t3]) := by
  have e24 : d24 = own_b (own_glob [] []) := by rw [h24, own_C3 (by decide), if_pos rfl]; exact own_N0
  have e23 : d23 = own_b (own_glob [] [t3]) := by rw [h23, own_C3 (by decide), if_neg (by decide)]; exact own_N1 _ _
  have e22 : d22 = own_b (own_glob [] [t2, t3]) := by rw [h22, own_C3 (by decide), if_neg (by decide)]; exact own_N1 _ _
  have e21 : d21 = own_b (own_glob [] [t1, t2, t3]) := by rw [h21, own_C3 (by decide), if_neg (by decide)]; exact own_N1 _ _
  have e20 : d20 = own_b (own_glob [] [t0, t1, t2, t3]) := by rw [h20, own_C3 (by decide), if_neg (by decide)]; exact own_N1 _ _
  have e14 : d14 = own_b (own_glob [p1] []) := by rw [h14, e24]; exact own_C2 (by decide) (by decide)
  have e13 : d13 = own_b (own_glob [p1] [t3]) := by rw [h13, e14, e23, e24]; exact own_C1 (by decide) (by decide)
  have e12 : d12 = own_b (own_glob [p1] [t2, t3]) := by rw [h12, e13, e22, e23]; exact own_C1 (by decide) (by decide)
  have e11 : d11 = own_b (own_glob [p1] [t1, t2, t3]) := by rw [h11, e12, e21, e22]; exact own_C1 (by decide) (by decide)
  have e10 : d10 = own_b (own_glob [p1] [t0, t1, t2, t3]) := by rw [h10, e11, e20, e21]; exact own_C1 (by decide) (by decide)
  have e04 : d04 = own_b (own_glob [p0, p1] []) := by rw [h04, e14]; exact own_C2 (by decide) (by decide)
  have e03 : d03 = own_b (own_glob [p0, p1] [t3]) := by rw [h03, e04, e13, e14]; exact own_C1 (by decide) (by decide)
  have e02 : d02 = own_b (own_glob [p0, p1] [t2, t3]) := by rw [h02, e03, e12, e13]; exact own_C1 (by decide) (by decide)
  have e01 : d01 = own_b (own_glob [p0, p1] [t1, t2, t3]) := by rw [h01, e02, e11, e12]; exact own_C1 (by decide) (by decide)
  have e00 : d00 = own_b (own_glob [p0, p1] [t0, t1, t2, t3]) := by rw [h00, e01, e10, e11]; exact own_C1 (by decide) (by decide)
  exact e00
theorem own_dp_3_0 {p0 p1 p2 p3 t0 t1 t2 t3 d44 d43 d42 d41 d40 d34 d33 d32 d31 d30 d24 d23 d22 d21 d20 d14 d13 d12 d11 d10 d04 d03 d02 d01 d00 : Int32} (h30 : d30 = (own_f5 (3 : Int32) (0 : Int32) (3 : Int32) (0 : Int32) p3 t0 d31 d40 d41)) (h20 : d20 = (own_f5 (2 : Int32) (0 : Int32) (3 : Int32) (0 : Int32) p2 t0 d21 d30 d31)) (h10 : d10 = (own_f5 (1 : Int32) (0 : Int32) (3 : Int32) (0 : Int32) p1 t0 d11 d20 d21)) (h00 : d00 = (own_f5 (0 : Int32) (0 : Int32) (3 : Int32) (0 : Int32) p0 t0 d01 d10 d11)) : d00 = own_b (own_glob [p0, p1, p2] []) := by
  have e30 : d30 = own_b (own_glob [] []) := by rw [h30, own_C3 (by decide), if_pos rfl]; exact own_N0
  have e20 : d20 = own_b (own_glob [p2] []) := by rw [h20, e30]; exact own_C2 (by decide) (by decide)
  have e10 : d10 = own_b (own_glob [p1, p2] []) := by rw [h10, e20]; exact own_C2 (by decide) (by decide)
  have e00 : d00 = own_b (own_glob [p0, p1, p2] []) := by rw [h00, e10]; exact own_C2 (by decide) (by decide)
  exact e00
theorem own_dp_3_1 {p0 p1 p2 p3 t0 t1 t2 t3 d44 d43 d42 d41 d40 d34 d33 d32 d31 d30 d24 d23 d22 d21 d20 d14 d13 d12 d11 d10 d04 d03 d02 d01 d00 : Int32} (h31 : d31 = (own_f5 (3 : Int32) (1 : Int32) (3 : Int32) (1 : Int32) p3 t1 d32 d41 d42)) (h30 : d30 = (own_f5 (3 : Int32) (0 : Int32) (3 : Int32) (1 : Int32) p3 t0 d31 d40 d41)) (h21 : d21 = (own_f5 (2 : Int32) (1 : Int32) (3 : Int32) (1 : Int32) p2 t1 d22 d31 d32)) (h20 : d20 = (own_f5 (2 : Int32) (0 : Int32) (3 : Int32) (1 : Int32) p2 t0 d21 d30 d31)) (h11 : d11 = (own_f5 (1 : Int32) (1 : Int32) (3 : Int32) (1 : Int32) p1 t1 d12 d21 d22)) (h10 : d10 = (own_f5 (1 : Int32) (0 : Int32) (3 : Int32) (1 : Int32) p1 t0 d11 d20 d21)) (h01 : d01 = (own_f5 (0 : Int32) (1 : Int32) (3 : Int32) (1 : Int32) p0 t1 d02 d11 d12)) (h00 : d00 = (own_f5 (0 : Int32) (0 : Int32) (3 : Int32) (1 : Int32) p0 t0 d01 d10 d11)) : d00 = own_b (own_glob [p0, p1, p2] [t0]) := by
  have e31 : d31 = own_b (own_glob [] []) := by rw [h31, own_C3 (by decide), if_pos rfl]; exact own_N0
  have e30 : d30 = own_b (own_glob [] [t0]) := by rw [h30, own_C3 (by decide), if_neg (by decide)]; exact own_N1 _ _
  have e21 : d21 = own_b (own_glob [p2] []) := by rw [h21, e31]; exact own_C2 (by decide) (by decide)
  have e20 : d20 = own_b (own_glob [p2] [t0]) := by rw [h20, e21, e30, e31]; exact own_C1 (by decide) (by decide)
  have e11 : d11 = own_b (own_glob [p1, p2] []) := by rw [h11, e21]; exact own_C2 (by decide) (by decide)
  have e10 : d10 = own_b (own_glob [p1, p2] [t0]) := by rw [h10, e11, e20, e21]; exact own_C1 (by decide) (by decide)
  have e01 : d01 = own_b (own_glob [p0, p1, p2] []) := by rw [h01, e11]; exact own_C2 (by decide) (by decide)
  have e00 : d00 = own_b (own_glob [p0, p1, p2] [t0]) := by rw [h00, e01, e10, e11]; exact own_C1 (by decide) (by decide)
  exact e00
theorem own_dp_3_2 {p0 p1 p2 p3 t0 t1 t2 t3 d44 d43 d42 d41 d40 d34 d33 d32 d31 d30 d24 d23 d22 d21 d20 d14 d13 d12 d11 d10 d04 d03 d02 d01 d00 : Int32} (h32 : d32 = (own_f5 (3 : Int32) (2 : Int32) (3 : Int32) (2 : Int32) p3 t2 d33 d42 d43)) (h31 : d31 = (own_f5 (3 : Int32) (1 : Int32) (3 : Int32) (2 : Int32) p3 t1 d32 d41 d42)) (h30 : d30 = (own_f5 (3 : Int32) (0 : Int32) (3 : Int32) (2 : Int32) p3 t0 d31 d40 d41)) (h22 : d22 = (own_f5 (2 : Int32) (2 : Int32) (3 : Int32) (2 : Int32) p2 t2 d23 d32 d33)) (h21 : d21 = (own_f5 (2 : Int32) (1 : Int32) (3 : Int32) (2 : Int32) p2 t1 d22 d31 d32)) (h20 : d20 = (own_f5 (2 : Int32) (0 : Int32) (3 : Int32) (2 : Int32) p2 t0 d21 d30 d31)) (h12 : d12 = (own_f5 (1 : Int32) (2 : Int32) (3 : Int32) (2 : Int32) p1 t2 d13 d22 d23)) (h11 : d11 = (own_f5 (1 : Int32) (1 : Int32) (3 : Int32) (2 : Int32) p1 t1 d12 d21 d22)) (h10 : d10 = (own_f5 (1 : Int32) (0 : Int32) (3 : Int32) (2 : Int32) p1 t0 d11 d20 d21)) (h02 : d02 = (own_f5 (0 : Int32) (2 : Int32) (3 : Int32) (2 : Int32) p0 t2 d03 d12 d13)) (h01 : d01 = (own_f5 (0 : Int32) (1 : Int32) (3 : Int32) (2 : Int32) p0 t1 d02 d11 d12)) (h00 : d00 = (own_f5 (0 : Int32) (0 : Int32) (3 : Int32) (2 : Int32) p0 t0 d01 d10 d11)) : d00 = own_b (own_glob [p0, p1, p2] [t0, t1]) := by
  have e32 : d32 = own_b (own_glob [] []) := by rw [h32, own_C3 (by decide), if_pos rfl]; exact own_N0
  have e31 : d31 = own_b (own_glob [] [t1]) := by rw [h31, own_C3 (by decide), if_neg (by decide)]; exact own_N1 _ _
  have e30 : d30 = own_b (own_glob [] [t0, t1]) := by rw [h30, own_C3 (by decide), if_neg (by decide)]; exact own_N1 _ _
  have e22 : d22 = own_b (own_glob [p2] []) := by rw [h22, e32]; exact own_C2 (by decide) (by decide)
  have e21 : d21 = own_b (own_glob [p2] [t1]) := by rw [h21, e22, e31, e32]; exact own_C1 (by decide) (by decide)
  have e20 : d20 = own_b (own_glob [p2] [t0, t1]) := by rw [h20, e21, e30, e31]; exact own_C1 (by decide) (by decide)
  have e12 : d12 = own_b (own_glob [p1, p2] []) := by rw [h12, e22]; exact own_C2 (by decide) (by decide)
  have e11 : d11 = own_b (own_glob [p1, p2] [t1]) := by rw [h11, e12, e21, e22]; exact own_C1 (by decide) (by decide)
  have e10 : d10 = own_b (own_glob [p1, p2] [t0, t1]) := by rw [h10, e11, e20, e21]; exact own_C1 (by decide) (by decide)
  have e02 : d02 = own_b (own_glob [p0, p1, p2] []) := by rw [h02, e12]; exact own_C2 (by decide) (by decide)
  have e01 : d01 = own_b (own_glob [p0, p1, p2] [t1]) := by rw [h01, e02, e11, e12]; exact own_C1 (by decide) (by decide)
  have e00 : d00 = own_b (own_glob [p0, p1, p2] [t0, t1]) := by rw [h00, e01, e10, e11]; exact own_C1 (by decide) (by decide)
  exact e00
theorem own_dp_3_3 {p0 p1 p2 p3 t0 t1 t2 t3 d44 d43 d42 d41 d40 d34 d33 d32 d31 d30 d24 d23 d22 d21 d20 d14 d13 d12 d11 d10 d04 d03 d02 d01 d00 : Int32} (h33 : d33 = (own_f5 (3 : Int32) (3 : Int32) (3 : Int32) (3 : Int32) p3 t3 d34 d43 d44)) (h32 : d32 = (own_f5 (3 : Int32) (2 : Int32) (3 : Int32) (3 : Int32) p3 t2 d33 d42 d43)) (h31 : d31 = (own_f5 (3 : Int32) (1 : Int32) (3 : Int32) (3 : Int32) p3 t1 d32 d41 d42)) (h30 : d30 = (own_f5 (3 : Int32) (0 : Int32) (3 : Int32) (3 : Int32) p3 t0 d31 d40 d41)) (h23 : d23 = (own_f5 (2 : Int32) (3 : Int32) (3 : Int32) (3 : Int32) p2 t3 d24 d33 d34)) (h22 : d22 = (own_f5 (2 : Int32) (2 : Int32) (3 : Int32) (3 : Int32) p2 t2 d23 d32 d33)) (h21 : d21 = (own_f5 (2 : Int32) (1 : Int32) (3 : Int32) (3 : Int32) p2 t1 d22 d31 d32)) (h20 : d20 = (own_f5 (2 : Int32) (0 : Int32) (3 : Int32) (3 : Int32) p2 t0 d21 d30 d31)) (h13 : d13 = (own_f5 (1 : Int32) (3 : Int32) (3 : Int32) (3 : Int32) p1 t3 d14 d23 d24)) (h12 : d12 = (own_f5 (1 : Int32) (2 : Int32) (3 : Int32) (3 : Int32) p1 t2 d13 d22 d23)) (h11 : d11 = (own_f5 (1 : Int32) (1 : Int32) (3 : Int32) (3 : Int32) p1 t1 d12 d21 d22)) (h10 : d10 = (own_f5 (1 : Int32) (0 : Int32) (3 : Int32) (3 : Int32) p1 t0 d11 d20 d21)) (h03 : d03 = (own_f5 (0 : Int32) (3 : Int32) (3 : Int32) (3 : Int32) p0 t3 d04 d13 d14)) (h02 : d02 = (own_f5 (0 : Int32) (2 : Int32) (3 : Int32) (3 : Int32) p0 t2 d03 d12 d13)) (h01 : d01 = (own_f5 (0 : Int32) (1 : Int32) (3 : Int32) (3 : Int32) p0 t1 d02 d11 d12)) (h00 : d00 = (own_f5 (0 : Int32) (0 : Int32) (3 : Int32) (3 : Int32) p0 t0 d01 d10 d11)) : d00 = own_b (own_glob [p0, p1, p2] [t0, t1, t2]) := by
  have e33 : d33 = own_b (own_glob [] []) := by rw [h33, own_C3 (by decide), if_pos rfl]; exact own_N0
  have e32 : d32 = own_b (own_glob [] [t2]) := by rw [h32, own_C3 (by decide), if_neg (by decide)]; exact own_N1 _ _
  have e31 : d31 = own_b (own_glob [] [t1, t2]) := by rw [h31, own_C3 (by decide), if_neg (by decide)]; exact own_N1 _ _
  have e30 : d30 = own_b (own_glob [] [t0, t1, t2]) := by rw [h30, own_C3 (by decide), if_neg (by decide)]; exact own_N1 _ _
  have e23 : d23 = own_b (own_glob [p2] []) := by rw [h23, e33]; exact own_C2 (by decide) (by decide)
  have e22 : d22 = own_b (own_glob [p2] [t2]) := by rw [h22, e23, e32, e33]; exact own_C1 (by decide) (by decide)
  have e21 : d21 = own_b (own_glob [p2] [t1, t2]) := by rw [h21, e22, e31, e32]; exact own_C1 (by decide) (by decide)
  have e20 : d20 = own_b (own_glob [p2] [t0, t1, t2]) := by rw [h20, e21, e30, e31]; exact own_C1 (by decide) (by decide)
  have e13 : d13 = own_b (own_glob [p1, p2] []) := by rw [h13, e23]; exact own_C2 (by decide) (by decide)
  have e12 : d12 = own_b (own_glob [p1, p2] [t2]) := by rw [h12, e13, e22, e23]; exact own_C1 (by decide) (by decide)
  have e11 : d11 = own_b (own_glob [p1, p2] [t1, t2]) := by rw [h11, e12, e21, e22]; exact own_C1 (by decide) (by decide)
  have e10 : d10 = own_b (own_glob [p1, p2] [t0, t1, t2]) := by rw [h10, e11, e20, e21]; exact own_C1 (by decide) (by decide)
  have e03 : d03 = own_b (own_glob [p0, p1, p2] []) := by rw [h03, e13]; exact own_C2 (by decide) (by decide)
  have e02 : d02 = own_b (own_glob [p0, p1, p2] [t2]) := by rw [h02, e03, e12, e13]; exact own_C1 (by decide) (by decide)
  have e01 : d01 = own_b (own_glob [p0, p1, p2] [t1, t2]) := by rw [h01, e02, e11, e12]; exact own_C1 (by decide) (by decide)
  have e00 : d00 = own_b (own_glob [p0, p1, p2] [t0, t1, t2]) := by rw [h00, e01, e10, e11]; exact own_C1 (by decide) (by decide)
  exact e00
theorem own_dp_3_4 {p0 p1 p2 p3 t0 t1 t2 t3 d44 d43 d42 d41 d40 d34 d33 d32 d31 d30 d24 d23 d22 d21 d20 d14 d13 d12 d11 d10 d04 d03 d02 d01 d00 : Int32} (h34 : d34 = (own_f5 (3 : Int32) (4 : Int32) (3 : Int32) (4 : Int32) p3 (0 : Int32) (0 : Int32) d44 (0 : Int32))) (h33 : d33 = (own_f5 (3 : Int32) (3 : Int32) (3 : Int32) (4 : Int32) p3 t3 d34 d43 d44)) (h32 : d32 = (own_f5 (3 : Int32) (2 : Int32) (3 : Int32) (4 : Int32) p3 t2 d33 d42 d43)) (h31 : d31 = (own_f5 (3 : Int32) (1 : Int32) (3 : Int32) (4 : Int32) p3 t1 d32 d41 d42)) (h30 : d30 = (own_f5 (3 : Int32) (0 : Int32) (3 : Int32) (4 : Int32) p3 t0 d31 d40 d41)) (h24 : d24 = (own_f5 (2 : Int32) (4 : Int32) (3 : Int32) (4 : Int32) p2 (0 : Int32) (0 : Int32) d34 (0 : Int32))) (h23 : d23 = (own_f5 (2 : Int32) (3 : Int32) (3 : Int32) (4 : Int32) p2 t3 d24 d33 d34)) (h22 : d22 = (own_f5 (2 : Int32) (2 : Int32) (3 : Int32) (4 : Int32) p2 t2 d23 d32 d33)) (h21 : d21 = (own_f5 (2 : Int32) (1 : Int32) (3 : Int32) (4 : Int32) p2 t1 d22 d31 d32)) (h20 : d20 = (own_f5 (2 : Int32) (0 : Int32) (3 : Int32) (4 : Int32) p2 t0 d21 d30 d31)) (h14 : d14 = (own_f5 (1 : Int32) (4 : Int32) (3 : Int32) (4 : Int32) p1 (0 : Int32) (0 : Int32) d24 (0 : Int32))) (h13 : d13 = (own_f5 (1 : Int32) (3 : Int32) (3 : Int32) (4 : Int32) p1 t3 d14 d23 d24)) (h12 : d12 = (own_f5 (1 : Int32) (2 : Int32) (3 : Int32) (4 : Int32) p1 t2 d13 d22 d23)) (h11 : d11 = (own_f5 (1 : Int32) (1 : Int32) (3 : Int32) (4 : Int32) p1 t1 d12 d21 d22)) (h10 : d10 = (own_f5 (1 : Int32) (0 : Int32) (3 : Int32) (4 : Int32) p1 t0 d11 d20 d21)) (h04 : d04 = (own_f5 (0 : Int32) (4 : Int32) (3 : Int32) (4 : Int32) p0 (0 : Int32) (0 : Int32) d14 (0 : Int32))) (h03 : d03 = (own_f5 (0 : Int32) (3 : Int32) (3 : Int32) (4 : Int32) p0 t3 d04 d13 d14)) (h02 : d02 = (own_f5 (0 : Int32) (2 : Int32) (3 : Int32) (4 : Int32) p0 t2 d03 d12 d13)) (h01 : d01 = (own_f5 (0 : Int32) (1 : Int32) (3 : Int32) (4 : Int32) p0 t1 d02 d11 d12)) (h00 : d00 = (own_f5 (0 : Int32) (0 : Int32) (3 : Int32) (4 : Int32) p0 t0 d01 d10 d11)) : d00 = own_b (own_glob [p0, p1, p2] [t0, t1, t2, t3]) := by
  have e34 : d34 = own_b (own_glob [] []) := by rw [h34, own_C3 (by decide), if_pos rfl]; exact own_N0
  have e33 : d33 = own_b (own_glob [] [t3]) := by rw [h33, own_C3 (by decide), if_neg (by decide)]; exact own_N1 _ _
  have e32 : d32 = own_b (own_glob [] [t2, t3]) := by rw [h32, own_C3 (by decide), if_neg (by decide)]; exact own_N1 _ _
  have e31 : d31 = own_b (own_glob [] [t1, t2, t3]) := by rw [h31, own_C3 (by decide), if_neg (by decide)]; exact own_N1 _ _
  have e30 : d30 = own_b (own_glob [] [t0, t1, t2, t3]) := by rw [h30, own_C3 (by decide), if_neg (by decide)]; exact own_N1 _ _
  have e24 : d24 = own_b (own_glob [p2] []) := by rw [h24, e34]; exact own_C2 (by decide) (by decide)
  have e23 : d23 = own_b (own_glob [p2] [t3]) := by rw [h23, e24, e33, e34]; exact own_C1 (by decide) (by decide)
  have e22 : d22 = own_b (own_glob [p2] [t2, t3]) := by rw [h22, e23, e32, e33]; exact own_C1 (by decide) (by decide)
  have e21 : d21 = own_b (own_glob [p2] [t1, t2, t3]) := by rw [h21, e22, e31, e32]; exact own_C1 (by decide) (by decide)
  have e20 : d20 = own_b (own_glob [p2] [t0, t1, t2, t3]) := by rw [h20, e21, e30, e31]; exact own_C1 (by decide) (by decide)
  have e14 : d14 = own_b (own_glob [p1, p2] []) := by rw [h14, e24]; exact own_C2 (by decide) (by decide)
  have e13 : d13 = own_b (own_glob [p1, p2] [t3]) := by rw [h13, e14, e23, e24]; exact own_C1 (by decide) (by decide)
  have e12 : d12 = own_b (own_glob [p1, p2] [t2, t3]) := by rw [h12, e13, e22, e23]; exact own_C1 (by decide) (by decide)
  have e11 : d11 = own_b (own_glob [p1, p2] [t1, t2, t3]) := by rw [h11, e12, e21, e22]; exact own_C1 (by decide) (by decide)
  have e10 : d10 = own_b (own_glob [p1, p2] [t0, t1, t2, t3]) := by rw [h10, e11, e20, e21]; exact own_C1 (by decide) (by decide)
  have e04 : d04 = own_b (own_glob [p0, p1, p2] []) := by rw [h04, e14]; exact own_C2 (by decide) (by decide)
  have e03 : d03 = own_b (own_glob [p0, p1, p2] [t3]) := by rw [h03, e04, e13, e14]; exact own_C1 (by decide) (by decide)
  have e02 : d02 = own_b (own_glob [p0, p1, p2] [t2, t3]) := by rw [h02, e03, e12, e13]; exact own_C1 (by decide) (by decide)
  have e01 : d01 = own_b (own_glob [p0, p1, p2] [t1, t2, t3]) := by rw [h01, e02, e11, e12]; exact own_C1 (by decide) (by decide)
  have e00 : d00 = own_b (own_glob [p0, p1, p2] [t0, t1, t2, t3]) := by rw [h00, e01, e10, e11]; exact own_C1 (by decide) (by decide)
  exact e00
theorem own_dp_4_0 {p0 p1 p2 p3 t0 t1 t2 t3 d44 d43 d42 d41 d40 d34 d33 d32 d31 d30 d24 d23 d22 d21 d20 d14 d13 d12 d11 d10 d04 d03 d02 d01 d00 : Int32} (h40 : d40 = (if (0 : Int32) = (0 : Int32) then (1 : Int32) else (0 : Int32))) (h30 : d30 = (own_f5 (3 : Int32) (0 : Int32) (4 : Int32) (0 : Int32) p3 t0 d31 d40 d41)) (h20 : d20 = (own_f5 (2 : Int32) (0 : Int32) (4 : Int32) (0 : Int32) p2 t0 d21 d30 d31)) (h10 : d10 = (own_f5 (1 : Int32) (0 : Int32) (4 : Int32) (0 : Int32) p1 t0 d11 d20 d21)) (h00 : d00 = (own_f5 (0 : Int32) (0 : Int32) (4 : Int32) (0 : Int32) p0 t0 d01 d10 d11)) : d00 = own_b (own_glob [p0, p1, p2, p3] []) := by
  have e40 : d40 = own_b (own_glob [] []) := by rw [h40, if_pos rfl]; exact own_N0
  have e30 : d30 = own_b (own_glob [p3] []) := by rw [h30, e40]; exact own_C2 (by decide) (by decide)
  have e20 : d20 = own_b (own_glob [p2, p3] []) := by rw [h20, e30]; exact own_C2 (by decide) (by decide)
  have e10 : d10 = own_b (own_glob [p1, p2, p3] []) := by rw [h10, e20]; exact own_C2 (by decide) (by decide)
  have e00 : d00 = own_b (own_glob [p0, p1, p2, p3] []) := by rw [h00, e10]; exact own_C2 (by decide) (by decide)
  exact e00
theorem own_dp_4_1 {p0 p1 p2 p3 t0 t1 t2 t3 d44 d43 d42 d41 d40 d34 d33 d32 d31 d30 d24 d23 d22 d21 d20 d14 d13 d12 d11 d10 d04 d03 d02 d01 d00 : Int32} (h41 : d41 = (if (1 : Int32) = (1 : Int32) then (1 : Int32) else (0 : Int32))) (h40 : d40 = (if (1 : Int32) = (0 : Int32) then (1 : Int32) else (0 : Int32))) (h31 : d31 = (own_f5 (3 : Int32) (1 : Int32) (4 : Int32) (1 : Int32) p3 t1 d32 d41 d42)) (h30 : d30 = (own_f5 (3 : Int32) (0 : Int32) (4 : Int32) (1 : Int32) p3 t0 d31 d40 d41)) (h21 : d21 = (own_f5 (2 : Int32) (1 : Int32) (4 : Int32) (1 : Int32) p2 t1 d22 d31 d32)) (h20 : d20 = (own_f5 (2 : Int32) (0 : Int32) (4 : Int32) (1 : Int32) p2 t0 d21 d30 d31)) (h11 : d11 = (own_f5 (1 : Int32) (1 : Int32) (4 : Int32) (1 : Int32) p1 t1 d12 d21 d22)) (h10 : d10 = (own_f5 (1 : Int32) (0 : Int32) (4 : Int32) (1 : Int32) p1 t0 d11 d20 d21)) (h01 : d01 = (own_f5 (0 : Int32) (1 : Int32) (4 : Int32) (1 : Int32) p0 t1 d02 d11 d12)) (h00 : d00 = (own_f5 (0 : Int32) (0 : Int32) (4 : Int32) (1 : Int32) p0 t0 d01 d10 d11)) : d00 = own_b (own_glob [p0, p1, p2, p3] [t0]) := by
  have e41 : d41 = own_b (own_glob [] []) := by rw [h41, if_pos rfl]; exact own_N0
  have e40 : d40 = own_b (own_glob [] [t0]) := by rw [h40, if_neg (by decide)]; exact own_N1 _ _
  have e31 : d31 = own_b (own_glob [p3] []) := by rw [h31, e41]; exact own_C2 (by decide) (by decide)
  have e30 : d30 = own_b (own_glob [p3] [t0]) := by rw [h30, e31, e40, e41]; exact own_C1 (by decide) (by decide)
  have e21 : d21 = own_b (own_glob [p2, p3] []) := by rw [h21, e31]; exact own_C2 (by decide) (by decide)
  have e20 : d20 = own_b (own_glob [p2, p3] [t0]) := by rw [h20, e21, e30, e31]; exact own_C1 (by decide) (by decide)
  have e11 : d11 = own_b (own_glob [p1, p2, p3] []) := by rw [h11, e21]; exact own_C2 (by decide) (by decide)
  have e10 : d10 = own_b (own_glob [p1, p2, p3] [t0]) := by rw [h10, e11, e20, e21]; exact own_C1 (by decide) (by decide)
  have e01 : d01 = own_b (own_glob [p0, p1, p2, p3] []) := by rw [h01, e11]; exact own_C2 (by decide) (by decide)
  have e00 : d00 = own_b (own_glob [p0, p1, p2, p3] [t0]) := by rw [h00, e01, e10, e11]; exact own_C1 (by decide) (by decide)
  exact e00
theorem own_dp_4_2 {p0 p1 p2 p3 t0 t1 t2 t3 d44 d43 d42 d41 d40 d34 d33 d32 d31 d30 d24 d23 d22 d21 d20 d14 d13 d12 d11 d10 d04 d03 d02 d01 d00 : Int32} (h42 : d42 = (if (2 : Int32) = (2 : Int32) then (1 : Int32) else (0 : Int32))) (h41 : d41 = (if (2 : Int32) = (1 : Int32) then (1 : Int32) else (0 : Int32))) (h40 : d40 = (if (2 : Int32) = (0 : Int32) then (1 : Int32) else (0 : Int32))) (h32 : d32 = (own_f5 (3 : Int32) (2 : Int32) (4 : Int32) (2 : Int32) p3 t2 d33 d42 d43)) (h31 : d31 = (own_f5 (3 : Int32) (1 : Int32) (4 : Int32) (2 : Int32) p3 t1 d32 d41 d42)) (h30 : d30 = (own_f5 (3 : Int32) (0 : Int32) (4 : Int32) (2 : Int32) p3 t0 d31 d40 d41)) (h22 : d22 = (own_f5 (2 : Int32) (2 : Int32) (4 : Int32) (2 : Int32) p2 t2 d23 d32 d33)) (h21 : d21 = (own_f5 (2 : Int32) (1 : Int32) (4 : Int32) (2 : Int32) p2 t1 d22 d31 d32)) (h20 : d20 = (own_f5 (2 : Int32) (0 : Int32) (4 : Int32) (2 : Int32) p2 t0 d21 d30 d31)) (h12 : d12 = (own_f5 (1 : Int32) (2 : Int32) (4 : Int32) (2 : Int32) p1 t2 d13 d22 d23)) (h11 : d11 = (own_f5 (1 : Int32) (1 : Int32) (4 : Int32) (2 : Int32) p1 t1 d12 d21 d22)) (h10 : d10 = (own_f5 (1 : Int32) (0 : Int32) (4 : Int32) (2 : Int32) p1 t0 d11 d20 d21)) (h02 : d02 = (own_f5 (0 : Int32) (2 : Int32) (4 : Int32) (2 : Int32) p0 t2 d03 d12 d13)) (h01 : d01 = (own_f5 (0 : Int32) (1 : Int32) (4 : Int32) (2 : Int32) p0 t1 d02 d11 d12)) (h00 : d00 = (own_f5 (0 : Int32) (0 : Int32) (4 : Int32) (2 : Int32) p0 t0 d01 d10 d11)) : d00 = own_b (own_glob [p0, p1, p2, p3] [t0, t1]) := by
  have e42 : d42 = own_b (own_glob [] []) := by rw [h42, if_pos rfl]; exact own_N0
  have e41 : d41 = own_b (own_glob [] [t1]) := by rw [h41, if_neg (by decide)]; exact own_N1 _ _
  have e40 : d40 = own_b (own_glob [] [t0, t1]) := by rw [h40, if_neg (by decide)]; exact own_N1 _ _
  have e32 : d32 = own_b (own_glob [p3] []) := by rw [h32, e42]; exact own_C2 (by decide) (by decide)
  have e31 : d31 = own_b (own_glob [p3] [t1]) := by rw [h31, e32, e41, e42]; exact own_C1 (by decide) (by decide)
  have e30 : d30 = own_b (own_glob [p3] [t0, t1]) := by rw [h30, e31, e40, e41]; exact own_C1 (by decide) (by decide)
  have e22 : d22 = own_b (own_glob [p2, p3] []) := by rw [h22, e32]; exact own_C2 (by decide) (by decide)
  have e21 : d21 = own_b (own_glob [p2, p3] [t1]) := by rw [h21, e22, e31, e32]; exact own_C1 (by decide) (by decide)
  have e20 : d20 = own_b (own_glob [p2, p3] [t0, t1]) := by rw [h20, e21, e30, e31]; exact own_C1 (by decide) (by decide)
  have e12 : d12 = own_b (own_glob [p1, p2, p3] []) := by rw [h12, e22]; exact own_C2 (by decide) (by decide)
  have e11 : d11 = own_b (own_glob [p1, p2, p3] [t1]) := by rw [h11, e12, e21, e22]; exact own_C1 (by decide) (by decide)
  have e10 : d10 = own_b (own_glob [p1, p2, p3] [t0, t1]) := by rw [h10, e11, e20, e21]; exact own_C1 (by decide) (by decide)
  have e02 : d02 = own_b (own_glob [p0, p1, p2, p3] []) := by rw [h02, e12]; exact own_C2 (by decide) (by decide)
  have e01 : d01 = own_b (own_glob [p0, p1, p2, p3] [t1]) := by rw [h01, e02, e11, e12]; exact own_C1 (by decide) (by decide)
  have e00 : d00 = own_b (own_glob [p0, p1, p2, p3] [t0, t1]) := by rw [h00, e01, e10, e11]; exact own_C1 (by decide) (by decide)
  exact e00
theorem own_dp_4_3 {p0 p1 p2 p3 t0 t1 t2 t3 d44 d43 d42 d41 d40 d34 d33 d32 d31 d30 d24 d23 d22 d21 d20 d14 d13 d12 d11 d10 d04 d03 d02 d01 d00 : Int32} (h43 : d43 = (if (3 : Int32) = (3 : Int32) then (1 : Int32) else (0 : Int32))) (h42 : d42 = (if (3 : Int32) = (2 : Int32) then (1 : Int32) else (0 : Int32))) (h41 : d41 = (if (3 : Int32) = (1 : Int32) then (1 : Int32) else (0 : Int32))) (h40 : d40 = (if (3 : Int32) = (0 : Int32) then (1 : Int32) else (0 : Int32))) (h33 : d33 = (own_f5 (3 : Int32) (3 : Int32) (4 : Int32) (3 : Int32) p3 t3 d34 d43 d44)) (h32 : d32 = (own_f5 (3 : Int32) (2 : Int32) (4 : Int32) (3 : Int32) p3 t2 d33 d42 d43)) (h31 : d31 = (own_f5 (3 : Int32) (1 : Int32) (4 : Int32) (3 : Int32) p3 t1 d32 d41 d42)) (h30 : d30 = (own_f5 (3 : Int32) (0 : Int32) (4 : Int32) (3 : Int32) p3 t0 d31 d40 d41)) (h23 : d23 = (own_f5 (2 : Int32) (3 : Int32) (4 : Int32) (3 : Int32) p2 t3 d24 d33 d34)) (h22 : d22 = (own_f5 (2 : Int32) (2 : Int32) (4 : Int32) (3 : Int32) p2 t2 d23 d32 d33)) (h21 : d21 = (own_f5 (2 : Int32) (1 : Int32) (4 : Int32) (3 : Int32) p2 t1 d22 d31 d32)) (h20 : d20 = (own_f5 (2 : Int32) (0 : Int32) (4 : Int32) (3 : Int32) p2 t0 d21 d30 d31)) (h13 : d13 = (own_f5 (1 : Int32) (3 : Int32) (4 : Int32) (3 : Int32) p1 t3 d14 d23 d24)) (h12 : d12 = (own_f5 (1 : Int32) (2 : Int32) (4 : Int32) (3 : Int32) p1 t2 d13 d22 d23)) (h11 : d11 = (own_f5 (1 : Int32) (1 : Int32) (4 : Int32) (3 : Int32) p1 t1 d12 d21 d22)) (h10 : d10 = (own_f5 (1 : Int32) (0 : Int32) (4 : Int32) (3 : Int32) p1 t0 d11 d20 d21)) (h03 : d03 = (own_f5 (0 : Int32) (3 : Int32) (4 : Int32) (3 : Int32) p0 t3 d04 d13 d14)) (h02 : d02 = (own_f5 (0 : Int32) (2 : Int32) (4 : Int32) (3 : Int32) p0 t2 d03 d12 d13)) (h01 : d01 = (own_f5 (0 : Int32) (1 : Int32) (4 : Int32) (3 : Int32) p0 t1 d02 d11 d12)) (h00 : d00 = (own_f5 (0 : Int32) (0 : Int32) (4 : Int32) (3 : Int32) p0 t0 d01 d10 d11)) : d00 = own_b (own_glob [p0, p1, p2, p3] [t0, t1, t2]) := by
  have e43 : d43 = own_b (own_glob [] []) := by rw [h43, if_pos rfl]; exact own_N0
  have e42 : d42 = own_b (own_glob [] [t2]) := by rw [h42, if_neg (by decide)]; exact own_N1 _ _
  have e41 : d41 = own_b (own_glob [] [t1, t2]) := by rw [h41, if_neg (by decide)]; exact own_N1 _ _
  have e40 : d40 = own_b (own_glob [] [t0, t1, t2]) := by rw [h40, if_neg (by decide)]; exact own_N1 _ _
  have e33 : d33 = own_b (own_glob [p3] []) := by rw [h33, e43]; exact own_C2 (by decide) (by decide)
  have e32 : d32 = own_b (own_glob [p3] [t2]) := by rw [h32, e33, e42, e43]; exact own_C1 (by decide) (by decide)
  have e31 : d31 = own_b (own_glob [p3] [t1, t2]) := by rw [h31, e32, e41, e42]; exact own_C1 (by decide) (by decide)
  have e30 : d30 = own_b (own_glob [p3] [t0, t1, t2]) := by rw [h30, e31, e40, e41]; exact own_C1 (by decide) (by decide)
  have e23 : d23 = own_b (own_glob [p2, p3] []) := by rw [h23, e33]; exact own_C2 (by decide) (by decide)
  have e22 : d22 = own_b (own_glob [p2, p3] [t2]) := by rw [h22, e23, e32, e33]; exact own_C1 (by decide) (by decide)
  have e21 : d21 = own_b (own_glob [p2, p3] [t1, t2]) := by rw [h21, e22, e31, e32]; exact own_C1 (by decide) (by decide)
  have e20 : d20 = own_b (own_glob [p2, p3] [t0, t1, t2]) := by rw [h20, e21, e30, e31]; exact own_C1 (by decide) (by decide)
  have e13 : d13 = own_b (own_glob [p1, p2, p3] []) := by rw [h13, e23]; exact own_C2 (by decide) (by decide)
  have e12 : d12 = own_b (own_glob [p1, p2, p3] [t2]) := by rw [h12, e13, e22, e23]; exact own_C1 (by decide) (by decide)
  have e11 : d11 = own_b (own_glob [p1, p2, p3] [t1, t2]) := by rw [h11, e12, e21, e22]; exact own_C1 (by decide) (by decide)
  have e10 : d10 = own_b (own_glob [p1, p2, p3] [t0, t1, t2]) := by rw [h10, e11, e20, e21]; exact own_C1 (by decide) (by decide)
  have e03 : d03 = own_b (own_glob [p0, p1, p2, p3] []) := by rw [h03, e13]; exact own_C2 (by decide) (by decide)
  have e02 : d02 = own_b (own_glob [p0, p1, p2, p3] [t2]) := by rw [h02, e03, e12, e13]; exact own_C1 (by decide) (by decide)
  have e01 : d01 = own_b (own_glob [p0, p1, p2, p3] [t1, t2]) := by rw [h01, e02, e11, e12]; exact own_C1 (by decide) (by decide)
  have e00 : d00 = own_b (own_glob [p0, p1, p2, p3] [t0, t1, t2]) := by rw [h00, e01, e10, e11]; exact own_C1 (by decide) (by decide)
  exact e00
theorem own_dp_4_4 {p0 p1 p2 p3 t0 t1 t2 t3 d44 d43 d42 d41 d40 d34 d33 d32 d31 d30 d24 d23 d22 d21 d20 d14 d13 d12 d11 d10 d04 d03 d02 d01 d00 : Int32} (h44 : d44 = (if (4 : Int32) = (4 : Int32) then (1 : Int32) else (0 : Int32))) (h43 : d43 = (if (4 : Int32) = (3 : Int32) then (1 : Int32) else (0 : Int32))) (h42 : d42 = (if (4 : Int32) = (2 : Int32) then (1 : Int32) else (0 : Int32))) (h41 : d41 = (if (4 : Int32) = (1 : Int32) then (1 : Int32) else (0 : Int32))) (h40 : d40 = (if (4 : Int32) = (0 : Int32) then (1 : Int32) else (0 : Int32))) (h34 : d34 = (own_f5 (3 : Int32) (4 : Int32) (4 : Int32) (4 : Int32) p3 (0 : Int32) (0 : Int32) d44 (0 : Int32))) (h33 : d33 = (own_f5 (3 : Int32) (3 : Int32) (4 : Int32) (4 : Int32) p3 t3 d34 d43 d44)) (h32 : d32 = (own_f5 (3 : Int32) (2 : Int32) (4 : Int32) (4 : Int32) p3 t2 d33 d42 d43)) (h31 : d31 = (own_f5 (3 : Int32) (1 : Int32) (4 : Int32) (4 : Int32) p3 t1 d32 d41 d42)) (h30 : d30 = (own_f5 (3 : Int32) (0 : Int32) (4 : Int32) (4 : Int32) p3 t0 d31 d40 d41)) (h24 : d24 = (own_f5 (2 : Int32) (4 : Int32) (4 : Int32) (4 : Int32) p2 (0 : Int32) (0 : Int32) d34 (0 : Int32))) (h23 : d23 = (own_f5 (2 : Int32) (3 : Int32) (4 : Int32) (4 : Int32) p2 t3 d24 d33 d34)) (h22 : d22 = (own_f5 (2 : Int32) (2 : Int32) (4 : Int32) (4 : Int32) p2 t2 d23 d32 d33)) (h21 : d21 = (own_f5 (2 : Int32) (1 : Int32) (4 : Int32) (4 : Int32) p2 t1 d22 d31 d32)) (h20 : d20 = (own_f5 (2 : Int32) (0 : Int32) (4 : Int32) (4 : Int32) p2 t0 d21 d30 d31)) (h14 : d14 = (own_f5 (1 : Int32) (4 : Int32) (4 : Int32) (4 : Int32) p1 (0 : Int32) (0 : Int32) d24 (0 : Int32))) (h13 : d13 = (own_f5 (1 : Int32) (3 : Int32) (4 : Int32) (4 : Int32) p1 t3 d14 d23 d24)) (h12 : d12 = (own_f5 (1 : Int32) (2 : Int32) (4 : Int32) (4 : Int32) p1 t2 d13 d22 d23)) (h11 : d11 = (own_f5 (1 : Int32) (1 : Int32) (4 : Int32) (4 : Int32) p1 t1 d12 d21 d22)) (h10 : d10 = (own_f5 (1 : Int32) (0 : Int32) (4 : Int32) (4 : Int32) p1 t0 d11 d20 d21)) (h04 : d04 = (own_f5 (0 : Int32) (4 : Int32) (4 : Int32) (4 : Int32) p0 (0 : Int32) (0 : Int32) d14 (0 : Int32))) (h03 : d03 = (own_f5 (0 : Int32) (3 : Int32) (4 : Int32) (4 : Int32) p0 t3 d04 d13 d14)) (h02 : d02 = (own_f5 (0 : Int32) (2 : Int32) (4 : Int32) (4 : Int32) p0 t2 d03 d12 d13)) (h01 : d01 = (own_f5 (0 : Int32) (1 : Int32) (4 : Int32) (4 : Int32) p0 t1 d02 d11 d12)) (h00 : d00 = (own_f5 (0 : Int32) (0 : Int32) (4 : Int32) (4 : Int32) p0 t0 d01 d10 d11)) : d00 = own_b (own_glob [p0, p1, p2, p3] [t0, t1, t2, t3]) := by
  have e44 : d44 = own_b (own_glob [] []) := by rw [h44, if_pos rfl]; exact own_N0
  have e43 : d43 = own_b (own_glob [] [t3]) := by rw [h43, if_neg (by decide)]; exact own_N1 _ _
  have e42 : d42 = own_b (own_glob [] [t2, t3]) := by rw [h42, if_neg (by decide)]; exact own_N1 _ _
  have e41 : d41 = own_b (own_glob [] [t1, t2, t3]) := by rw [h41, if_neg (by decide)]; exact own_N1 _ _
  have e40 : d40 = own_b (own_glob [] [t0, t1, t2, t3]) := by rw [h40, if_neg (by decide)]; exact own_N1 _ _
  have e34 : d34 = own_b (own_glob [p3] []) := by rw [h34, e44]; exact own_C2 (by decide) (by decide)
  have e33 : d33 = own_b (own_glob [p3] [t3]) := by rw [h33, e34, e43, e44]; exact own_C1 (by decide) (by decide)
  have e32 : d32 = own_b (own_glob [p3] [t2, t3]) := by rw [h32, e33, e42, e43]; exact own_C1 (by decide) (by decide)
  have e31 : d31 = own_b (own_glob [p3] [t1, t2, t3]) := by rw [h31, e32, e41, e42]; exact own_C1 (by decide) (by decide)
  have e30 : d30 = own_b (own_glob [p3] [t0, t1, t2, t3]) := by rw [h30, e31, e40, e41]; exact own_C1 (by decide) (by decide)
  have e24 : d24 = own_b (own_glob [p2, p3] []) := by rw [h24, e34]; exact own_C2 (by decide) (by decide)
  have e23 : d23 = own_b (own_glob [p2, p3] [t3]) := by rw [h23, e24, e33, e34]; exact own_C1 (by decide) (by decide)
  have e22 : d22 = own_b (own_glob [p2, p3] [t2, t3]) := by rw [h22, e23, e32, e33]; exact own_C1 (by decide) (by decide)
  have e21 : d21 = own_b (own_glob [p2, p3] [t1, t2, t3]) := by rw [h21, e22, e31, e32]; exact own_C1 (by decide) (by decide)
  have e20 : d20 = own_b (own_glob [p2, p3] [t0, t1, t2, t3]) := by rw [h20, e21, e30, e31]; exact own_C1 (by decide) (by decide)
  have e14 : d14 = own_b (own_glob [p1, p2, p3] []) := by rw [h14, e24]; exact own_C2 (by decide) (by decide)
  have e13 : d13 = own_b (own_glob [p1, p2, p3] [t3]) := by rw [h13, e14, e23, e24]; exact own_C1 (by decide) (by decide)
  have e12 : d12 = own_b (own_glob [p1, p2, p3] [t2, t3]) := by rw [h12, e13, e22, e23]; exact own_C1 (by decide) (by decide)
  have e11 : d11 = own_b (own_glob [p1, p2, p3] [t1, t2, t3]) := by rw [h11, e12, e21, e22]; exact own_C1 (by decide) (by decide)
  have e10 : d10 = own_b (own_glob [p1, p2, p3] [t0, t1, t2, t3]) := by rw [h10, e11, e20, e21]; exact own_C1 (by decide) (by decide)
  have e04 : d04 = own_b (own_glob [p0, p1, p2, p3] []) := by rw [h04, e14]; exact own_C2 (by decide) (by decide)
  have e03 : d03 = own_b (own_glob [p0, p1, p2, p3] [t3]) := by rw [h03, e04, e13, e14]; exact own_C1 (by decide) (by decide)
  have e02 : d02 = own_b (own_glob [p0, p1, p2, p3] [t2, t3]) := by rw [h02, e03, e12, e13]; exact own_C1 (by decide) (by decide)
  have e01 : d01 = own_b (own_glob [p0, p1, p2, p3] [t1, t2, t3]) := by rw [h01, e02, e11, e12]; exact own_C1 (by decide) (by decide)
  have e00 : d00 = own_b (own_glob [p0, p1, p2, p3] [t0, t1, t2, t3]) := by rw [h00, e01, e10, e11]; exact own_C1 (by decide) (by decide)
  exact e00
theorem own_dp_ok {m n : Int32} {p0 p1 p2 p3 t0 t1 t2 t3 d44 d43 d42 d41 d40 d34 d33 d32 d31 d30 d24 d23 d22 d21 d20 d14 d13 d12 d11 d10 d04 d03 d02 d01 d00 : Int32} (hm : m = 0 ∨ m = 1 ∨ m = 2 ∨ m = 3 ∨ m = 4) (hn : n = 0 ∨ n = 1 ∨ n = 2 ∨ n = 3 ∨ n = 4) (h44 : d44 = (if n = (4 : Int32) then (1 : Int32) else (0 : Int32))) (h43 : d43 = (if n = (3 : Int32) then (1 : Int32) else (0 : Int32))) (h42 : d42 = (if n = (2 : Int32) then (1 : Int32) else (0 : Int32))) (h41 : d41 = (if n = (1 : Int32) then (1 : Int32) else (0 : Int32))) (h40 : d40 = (if n = (0 : Int32) then (1 : Int32) else (0 : Int32))) (h34 : d34 = (own_f5 (3 : Int32) (4 : Int32) m n p3 (0 : Int32) (0 : Int32) d44 (0 : Int32))) (h33 : d33 = (own_f5 (3 : Int32) (3 : Int32) m n p3 t3 d34 d43 d44)) (h32 : d32 = (own_f5 (3 : Int32) (2 : Int32) m n p3 t2 d33 d42 d43)) (h31 : d31 = (own_f5 (3 : Int32) (1 : Int32) m n p3 t1 d32 d41 d42)) (h30 : d30 = (own_f5 (3 : Int32) (0 : Int32) m n p3 t0 d31 d40 d41)) (h24 : d24 = (own_f5 (2 : Int32) (4 : Int32) m n p2 (0 : Int32) (0 : Int32) d34 (0 : Int32))) (h23 : d23 = (own_f5 (2 : Int32) (3 : Int32) m n p2 t3 d24 d33 d34)) (h22 : d22 = (own_f5 (2 : Int32) (2 : Int32) m n p2 t2 d23 d32 d33)) (h21 : d21 = (own_f5 (2 : Int32) (1 : Int32) m n p2 t1 d22 d31 d32)) (h20 : d20 = (own_f5 (2 : Int32) (0 : Int32) m n p2 t0 d21 d30 d31)) (h14 : d14 = (own_f5 (1 : Int32) (4 : Int32) m n p1 (0 : Int32) (0 : Int32) d24 (0 : Int32))) (h13 : d13 = (own_f5 (1 : Int32) (3 : Int32) m n p1 t3 d14 d23 d24)) (h12 : d12 = (own_f5 (1 : Int32) (2 : Int32) m n p1 t2 d13 d22 d23)) (h11 : d11 = (own_f5 (1 : Int32) (1 : Int32) m n p1 t1 d12 d21 d22)) (h10 : d10 = (own_f5 (1 : Int32) (0 : Int32) m n p1 t0 d11 d20 d21)) (h04 : d04 = (own_f5 (0 : Int32) (4 : Int32) m n p0 (0 : Int32) (0 : Int32) d14 (0 : Int32))) (h03 : d03 = (own_f5 (0 : Int32) (3 : Int32) m n p0 t3 d04 d13 d14)) (h02 : d02 = (own_f5 (0 : Int32) (2 : Int32) m n p0 t2 d03 d12 d13)) (h01 : d01 = (own_f5 (0 : Int32) (1 : Int32) m n p0 t1 d02 d11 d12)) (h00 : d00 = (own_f5 (0 : Int32) (0 : Int32) m n p0 t0 d01 d10 d11)) : d00 = own_dp m n p0 p1 p2 p3 t0 t1 t2 t3 := by
  rcases hm with rfl | rfl | rfl | rfl | rfl <;> rcases hn with rfl | rfl | rfl | rfl | rfl
  · exact own_dp_0_0 (p0 := p0) (p1 := p1) (p2 := p2) (p3 := p3) (t0 := t0) (t1 := t1) (t2 := t2) (t3 := t3) (d44 := d44) (d43 := d43) (d42 := d42) (d41 := d41) (d40 := d40) (d34 := d34) (d33 := d33) (d32 := d32) (d31 := d31) (d30 := d30) (d24 := d24) (d23 := d23) (d22 := d22) (d21 := d21) (d20 := d20) (d14 := d14) (d13 := d13) (d12 := d12) (d11 := d11) (d10 := d10) (d04 := d04) (d03 := d03) (d02 := d02) (d01 := d01) (d00 := d00) h00
  · exact own_dp_0_1 (p0 := p0) (p1 := p1) (p2 := p2) (p3 := p3) (t0 := t0) (t1 := t1) (t2 := t2) (t3 := t3) (d44 := d44) (d43 := d43) (d42 := d42) (d41 := d41) (d40 := d40) (d34 := d34) (d33 := d33) (d32 := d32) (d31 := d31) (d30 := d30) (d24 := d24) (d23 := d23) (d22 := d22) (d21 := d21) (d20 := d20) (d14 := d14) (d13 := d13) (d12 := d12) (d11 := d11) (d10 := d10) (d04 := d04) (d03 := d03) (d02 := d02) (d01 := d01) (d00 := d00) h01 h00
  · exact own_dp_0_2 (p0 := p0) (p1 := p1) (p2 := p2) (p3 := p3) (t0 := t0) (t1 := t1) (t2 := t2) (t3 := t3) (d44 := d44) (d43 := d43) (d42 := d42) (d41 := d41) (d40 := d40) (d34 := d34) (d33 := d33) (d32 := d32) (d31 := d31) (d30 := d30) (d24 := d24) (d23 := d23) (d22 := d22) (d21 := d21) (d20 := d20) (d14 := d14) (d13 := d13) (d12 := d12) (d11 := d11) (d10 := d10) (d04 := d04) (d03 := d03) (d02 := d02) (d01 := d01) (d00 := d00) h02 h01 h00
  · exact own_dp_0_3 (p0 := p0) (p1 := p1) (p2 := p2) (p3 := p3) (t0 := t0) (t1 := t1) (t2 := t2) (t3 := t3) (d44 := d44) (d43 := d43) (d42 := d42) (d41 := d41) (d40 := d40) (d34 := d34) (d33 := d33) (d32 := d32) (d31 := d31) (d30 := d30) (d24 := d24) (d23 := d23) (d22 := d22) (d21 := d21) (d20 := d20) (d14 := d14) (d13 := d13) (d12 := d12) (d11 := d11) (d10 := d10) (d04 := d04) (d03 := d03) (d02 := d02) (d01 := d01) (d00 := d00) h03 h02 h01 h00
  · exact own_dp_0_4 (p0 := p0) (p1 := p1) (p2 := p2) (p3 := p3) (t0 := t0) (t1 := t1) (t2 := t2) (t3 := t3) (d44 := d44) (d43 := d43) (d42 := d42) (d41 := d41) (d40 := d40) (d34 := d34) (d33 := d33) (d32 := d32) (d31 := d31) (d30 := d30) (d24 := d24) (d23 := d23) (d22 := d22) (d21 := d21) (d20 := d20) (d14 := d14) (d13 := d13) (d12 := d12) (d11 := d11) (d10 := d10) (d04 := d04) (d03 := d03) (d02 := d02) (d01 := d01) (d00 := d00) h04 h03 h02 h01 h00
  · exact own_dp_1_0 (p0 := p0) (p1 := p1) (p2 := p2) (p3 := p3) (t0 := t0) (t1 := t1) (t2 := t2) (t3 := t3) (d44 := d44) (d43 := d43) (d42 := d42) (d41 := d41) (d40 := d40) (d34 := d34) (d33 := d33) (d32 := d32) (d31 := d31) (d30 := d30) (d24 := d24) (d23 := d23) (d22 := d22) (d21 := d21) (d20 := d20) (d14 := d14) (d13 := d13) (d12 := d12) (d11 := d11) (d10 := d10) (d04 := d04) (d03 := d03) (d02 := d02) (d01 := d01) (d00 := d00) h10 h00
  · exact own_dp_1_1 (p0 := p0) (p1 := p1) (p2 := p2) (p3 := p3) (t0 := t0) (t1 := t1) (t2 := t2) (t3 := t3) (d44 := d44) (d43 := d43) (d42 := d42) (d41 := d41) (d40 := d40) (d34 := d34) (d33 := d33) (d32 := d32) (d31 := d31) (d30 := d30) (d24 := d24) (d23 := d23) (d22 := d22) (d21 := d21) (d20 := d20) (d14 := d14) (d13 := d13) (d12 := d12) (d11 := d11) (d10 := d10) (d04 := d04) (d03 := d03) (d02 := d02) (d01 := d01) (d00 := d00) h11 h10 h01 h00
  · exact own_dp_1_2 (p0 := p0) (p1 := p1) (p2 := p2) (p3 := p3) (t0 := t0) (t1 := t1) (t2 := t2) (t3 := t3) (d44 := d44) (d43 := d43) (d42 := d42) (d41 := d41) (d40 := d40) (d34 := d34) (d33 := d33) (d32 := d32) (d31 := d31) (d30 := d30) (d24 := d24) (d23 := d23) (d22 := d22) (d21 := d21) (d20 := d20) (d14 := d14) (d13 := d13) (d12 := d12) (d11 := d11) (d10 := d10) (d04 := d04) (d03 := d03) (d02 := d02) (d01 := d01) (d00 := d00) h12 h11 h10 h02 h01 h00
  · exact own_dp_1_3 (p0 := p0) (p1 := p1) (p2 := p2) (p3 := p3) (t0 := t0) (t1 := t1) (t2 := t2) (t3 := t3) (d44 := d44) (d43 := d43) (d42 := d42) (d41 := d41) (d40 := d40) (d34 := d34) (d33 := d33) (d32 := d32) (d31 := d31) (d30 := d30) (d24 := d24) (d23 := d23) (d22 := d22) (d21 := d21) (d20 := d20) (d14 := d14) (d13 := d13) (d12 := d12) (d11 := d11) (d10 := d10) (d04 := d04) (d03 := d03) (d02 := d02) (d01 := d01) (d00 := d00) h13 h12 h11 h10 h03 h02 h01 h00
  · exact own_dp_1_4 (p0 := p0) (p1 := p1) (p2 := p2) (p3 := p3) (t0 := t0) (t1 := t1) (t2 := t2) (t3 := t3) (d44 := d44) (d43 := d43) (d42 := d42) (d41 := d41) (d40 := d40) (d34 := d34) (d33 := d33) (d32 := d32) (d31 := d31) (d30 := d30) (d24 := d24) (d23 := d23) (d22 := d22) (d21 := d21) (d20 := d20) (d14 := d14) (d13 := d13) (d12 := d12) (d11 := d11) (d10 := d10) (d04 := d04) (d03 := d03) (d02 := d02) (d01 := d01) (d00 := d00) h14 h13 h12 h11 h10 h04 h03 h02 h01 h00
  · exact own_dp_2_0 (p0 := p0) (p1 := p1) (p2 := p2) (p3 := p3) (t0 := t0) (t1 := t1) (t2 := t2) (t3 := t3) (d44 := d44) (d43 := d43) (d42 := d42) (d41 := d41) (d40 := d40) (d34 := d34) (d33 := d33) (d32 := d32) (d31 := d31) (d30 := d30) (d24 := d24) (d23 := d23) (d22 := d22) (d21 := d21) (d20 := d20) (d14 := d14) (d13 := d13) (d12 := d12) (d11 := d11) (d10 := d10) (d04 := d04) (d03 := d03) (d02 := d02) (d01 := d01) (d00 := d00) h20 h10 h00
  · exact own_dp_2_1 (p0 := p0) (p1 := p1) (p2 := p2) (p3 := p3) (t0 := t0) (t1 := t1) (t2 := t2) (t3 := t3) (d44 := d44) (d43 := d43) (d42 := d42) (d41 := d41) (d40 := d40) (d34 := d34) (d33 := d33) (d32 := d32) (d31 := d31) (d30 := d30) (d24 := d24) (d23 := d23) (d22 := d22) (d21 := d21) (d20 := d20) (d14 := d14) (d13 := d13) (d12 := d12) (d11 := d11) (d10 := d10) (d04 := d04) (d03 := d03) (d02 := d02) (d01 := d01) (d00 := d00) h21 h20 h11 h10 h01 h00
  · exact own_dp_2_2 (p0 := p0) (p1 := p1) (p2 := p2) (p3 := p3) (t0 := t0) (t1 := t1) (t2 := t2) (t3 := t3) (d44 := d44) (d43 := d43) (d42 := d42) (d41 := d41) (d40 := d40) (d34 := d34) (d33 := d33) (d32 := d32) (d31 := d31) (d30 := d30) (d24 := d24) (d23 := d23) (d22 := d22) (d21 := d21) (d20 := d20) (d14 := d14) (d13 := d13) (d12 := d12) (d11 := d11) (d10 := d10) (d04 := d04) (d03 := d03) (d02 := d02) (d01 := d01) (d00 := d00) h22 h21 h20 h12 h11 h10 h02 h01 h00
  · exact own_dp_2_3 (p0 := p0) (p1 := p1) (p2 := p2) (p3 := p3) (t0 := t0) (t1 := t1) (t2 := t2) (t3 := t3) (d44 := d44) (d43 := d43) (d42 := d42) (d41 := d41) (d40 := d40) (d34 := d34) (d33 := d33) (d32 := d32) (d31 := d31) (d30 := d30) (d24 := d24) (d23 := d23) (d22 := d22) (d21 := d21) (d20 := d20) (d14 := d14) (d13 := d13) (d12 := d12) (d11 := d11) (d10 := d10) (d04 := d04) (d03 := d03) (d02 := d02) (d01 := d01) (d00 := d00) h23 h22 h21 h20 h13 h12 h11 h10 h03 h02 h01 h00
  · exact own_dp_2_4 (p0 := p0) (p1 := p1) (p2 := p2) (p3 := p3) (t0 := t0) (t1 := t1) (t2 := t2) (t3 := t3) (d44 := d44) (d43 := d43) (d42 := d42) (d41 := d41) (d40 := d40) (d34 := d34) (d33 := d33) (d32 := d32) (d31 := d31) (d30 := d30) (d24 := d24) (d23 := d23) (d22 := d22) (d21 := d21) (d20 := d20) (d14 := d14) (d13 := d13) (d12 := d12) (d11 := d11) (d10 := d10) (d04 := d04) (d03 := d03) (d02 := d02) (d01 := d01) (d00 := d00) h24 h23 h22 h21 h20 h14 h13 h12 h11 h10 h04 h03 h02 h01 h00
  · exact own_dp_3_0 (p0 := p0) (p1 := p1) (p2 := p2) (p3 := p3) (t0 := t0) (t1 := t1) (t2 := t2) (t3 := t3) (d44 := d44) (d43 := d43) (d42 := d42) (d41 := d41) (d40 := d40) (d34 := d34) (d33 := d33) (d32 := d32) (d31 := d31) (d30 := d30) (d24 := d24) (d23 := d23) (d22 := d22) (d21 := d21) (d20 := d20) (d14 := d14) (d13 := d13) (d12 := d12) (d11 := d11) (d10 := d10) (d04 := d04) (d03 := d03) (d02 := d02) (d01 := d01) (d00 := d00) h30 h20 h10 h00
  · exact own_dp_3_1 (p0 := p0) (p1 := p1) (p2 := p2) (p3 := p3) (t0 := t0) (t1 := t1) (t2 := t2) (t3 := t3) (d44 := d44) (d43 := d43) (d42 := d42) (d41 := d41) (d40 := d40) (d34 := d34) (d33 := d33) (d32 := d32) (d31 := d31) (d30 := d30) (d24 := d24) (d23 := d23) (d22 := d22) (d21 := d21) (d20 := d20) (d14 := d14) (d13 := d13) (d12 := d12) (d11 := d11) (d10 := d10) (d04 := d04) (d03 := d03) (d02 := d02) (d01 := d01) (d00 := d00) h31 h30 h21 h20 h11 h10 h01 h00
  · exact own_dp_3_2 (p0 := p0) (p1 := p1) (p2 := p2) (p3 := p3) (t0 := t0) (t1 := t1) (t2 := t2) (t3 := t3) (d44 := d44) (d43 := d43) (d42 := d42) (d41 := d41) (d40 := d40) (d34 := d34) (d33 := d33) (d32 := d32) (d31 := d31) (d30 := d30) (d24 := d24) (d23 := d23) (d22 := d22) (d21 := d21) (d20 := d20) (d14 := d14) (d13 := d13) (d12 := d12) (d11 := d11) (d10 := d10) (d04 := d04) (d03 := d03) (d02 := d02) (d01 := d01) (d00 := d00) h32 h31 h30 h22 h21 h20 h12 h11 h10 h02 h01 h00
  · exact own_dp_3_3 (p0 := p0) (p1 := p1) (p2 := p2) (p3 := p3) (t0 := t0) (t1 := t1) (t2 := t2) (t3 := t3) (d44 := d44) (d43 := d43) (d42 := d42) (d41 := d41) (d40 := d40) (d34 := d34) (d33 := d33) (d32 := d32) (d31 := d31) (d30 := d30) (d24 := d24) (d23 := d23) (d22 := d22) (d21 := d21) (d20 := d20) (d14 := d14) (d13 := d13) (d12 := d12) (d11 := d11) (d10 := d10) (d04 := d04) (d03 := d03) (d02 := d02) (d01 := d01) (d00 := d00) h33 h32 h31 h30 h23 h22 h21 h20 h13 h12 h11 h10 h03 h02 h01 h00
  · exact own_dp_3_4 (p0 := p0) (p1 := p1) (p2 := p2) (p3 := p3) (t0 := t0) (t1 := t1) (t2 := t2) (t3 := t3) (d44 := d44) (d43 := d43) (d42 := d42) (d41 := d41) (d40 := d40) (d34 := d34) (d33 := d33) (d32 := d32) (d31 := d31) (d30 := d30) (d24 := d24) (d23 := d23) (d22 := d22) (d21 := d21) (d20 := d20) (d14 := d14) (d13 := d13) (d12 := d12) (d11 := d11) (d10 := d10) (d04 := d04) (d03 := d03) (d02 := d02) (d01 := d01) (d00 := d00) h34 h33 h32 h31 h30 h24 h23 h22 h21 h20 h14 h13 h12 h11 h10 h04 h03 h02 h01 h00
  · exact own_dp_4_0 (p0 := p0) (p1 := p1) (p2 := p2) (p3 := p3) (t0 := t0) (t1 := t1) (t2 := t2) (t3 := t3) (d44 := d44) (d43 := d43) (d42 := d42) (d41 := d41) (d40 := d40) (d34 := d34) (d33 := d33) (d32 := d32) (d31 := d31) (d30 := d30) (d24 := d24) (d23 := d23) (d22 := d22) (d21 := d21) (d20 := d20) (d14 := d14) (d13 := d13) (d12 := d12) (d11 := d11) (d10 := d10) (d04 := d04) (d03 := d03) (d02 := d02) (d01 := d01) (d00 := d00) h40 h30 h20 h10 h00
  · exact own_dp_4_1 (p0 := p0) (p1 := p1) (p2 := p2) (p3 := p3) (t0 := t0) (t1 := t1) (t2 := t2) (t3 := t3) (d44 := d44) (d43 := d43) (d42 := d42) (d41 := d41) (d40 := d40) (d34 := d34) (d33 := d33) (d32 := d32) (d31 := d31) (d30 := d30) (d24 := d24) (d23 := d23) (d22 := d22) (d21 := d21) (d20 := d20) (d14 := d14) (d13 := d13) (d12 := d12) (d11 := d11) (d10 := d10) (d04 := d04) (d03 := d03) (d02 := d02) (d01 := d01) (d00 := d00) h41 h40 h31 h30 h21 h20 h11 h10 h01 h00
  · exact own_dp_4_2 (p0 := p0) (p1 := p1) (p2 := p2) (p3 := p3) (t0 := t0) (t1 := t1) (t2 := t2) (t3 := t3) (d44 := d44) (d43 := d43) (d42 := d42) (d41 := d41) (d40 := d40) (d34 := d34) (d33 := d33) (d32 := d32) (d31 := d31) (d30 := d30) (d24 := d24) (d23 := d23) (d22 := d22) (d21 := d21) (d20 := d20) (d14 := d14) (d13 := d13) (d12 := d12) (d11 := d11) (d10 := d10) (d04 := d04) (d03 := d03) (d02 := d02) (d01 := d01) (d00 := d00) h42 h41 h40 h32 h31 h30 h22 h21 h20 h12 h11 h10 h02 h01 h00
  · exact own_dp_4_3 (p0 := p0) (p1 := p1) (p2 := p2) (p3 := p3) (t0 := t0) (t1 := t1) (t2 := t2) (t3 := t3) (d44 := d44) (d43 := d43) (d42 := d42) (d41 := d41) (d40 := d40) (d34 := d34) (d33 := d33) (d32 := d32) (d31 := d31) (d30 := d30) (d24 := d24) (d23 := d23) (d22 := d22) (d21 := d21) (d20 := d20) (d14 := d14) (d13 := d13) (d12 := d12) (d11 := d11) (d10 := d10) (d04 := d04) (d03 := d03) (d02 := d02) (d01 := d01) (d00 := d00) h43 h42 h41 h40 h33 h32 h31 h30 h23 h22 h21 h20 h13 h12 h11 h10 h03 h02 h01 h00
  · exact own_dp_4_4 (p0 := p0) (p1 := p1) (p2 := p2) (p3 := p3) (t0 := t0) (t1 := t1) (t2 := t2) (t3 := t3) (d44 := d44) (d43 := d43) (d42 := d42) (d41 := d41) (d40 := d40) (d34 := d34) (d33 := d33) (d32 := d32) (d31 := d31) (d30 := d30) (d24 := d24) (d23 := d23) (d22 := d22) (d21 := d21) (d20 := d20) (d14 := d14) (d13 := d13) (d12 := d12) (d11 := d11) (d10 := d10) (d04 := d04) (d03 := d03) (d02 := d02) (d01 := d01) (d00 := d00) h44 h43 h42 h41 h40 h34 h33 h32 h31 h30 h24 h23 h22 h21 h20 h14 h13 h12 h11 h10 h04 h03 h02 h01 h00
theorem pd_0 : parseMethodDescriptor "(II)I" = some ⟨[.int, .int], some .int⟩ := by decide +kernel
theorem pd_1 : parseMethodDescriptor "(IIIII)[I" = some ⟨[.int, .int, .int, .int, .int], some (.array .int)⟩ := by decide +kernel
theorem pd_2 : parseMethodDescriptor "([I[I)Z" = some ⟨[(.array .int), (.array .int)], some .boolean⟩ := by decide +kernel
theorem pd_3 : parseMethodDescriptor "(IIIIIIZZZ)Z" = some ⟨[.int, .int, .int, .int, .int, .int, .boolean, .boolean, .boolean], some .boolean⟩ := by decide +kernel
theorem ef_0 (m : MethodId) (p1 : Int32) (p2 : Int32) (p3 : Int32) (p4 : Int32) : entryFrame m #[(.int p1), (.int p2), (.int p3), (.int p4)] maxLocals = mkF m 0 #[.val (.int p1), .val (.int p2), .val (.int p3), .val (.int p4), .unset, .unset, .unset, .unset, .unset, .unset, .unset, .unset, .unset, .unset, .unset, .unset, .unset, .unset, .unset, .unset, .unset, .unset, .unset, .unset, .unset, .unset, .unset, .unset, .unset, .unset, .unset, .unset, .unset, .unset, .unset, .unset, .unset, .unset, .unset, .unset, .unset, .unset] [] := by first | (simp [entryFrame, mkF, argsToLocals, Value.category, maxLocals]; done) | rfl
set_option maxRecDepth 65536 in
set_option maxHeartbeats 40000000 in
theorem rm0 (l : Launch) (Z : State) (a0 : Array Value) (hw : ∀ d ∈ tables_1, d.before a0 Z = true) (ws : List Jvm.Cond) (p1 : Int32) (p2 : Int32) (p3 : Int32) (p4 : Int32)  (h0 : Heap) (n0 : Nat) (Z0 : n0 ≤ h0.size) :
    MetFree l x (head1 (Jvm.Cond.code x code maxLocals ret :: ws) room_1) (fun a U => a = #[(.int p1), (.int p2), (.int p3), (.int p4)] ∧ Z.Warmed39 U.vm ∧ U.heap = h0) (fun _ _ _ _ _ => True) (fun _ U o U' => ∃ v L, o = .returned v ∧ own_QL n0 v L ∧ FrameEnd U o U' L room_1.cells room_1.slots) := by
  refine MetFree.of_bodySF (plainFor_of_name pn_1) hisR ?_
  intro p e s m args below meth c s₁ Bd hml0 hP hK
  obtain ⟨rfl, hZ, hh⟩ := hP
  have hx := Bd.exec
  have hby := Bd.bytes
  have hml : c.maxLocals = 42 := hml0
  have hown : s.vm.findClass "com/example/ferryline/ferryline/UriWorkerMapMatchesPinLaw" = some m.cls := findClass_of_methodNamed Bd.named
  have hnm := (name_of_methodNamed Bd.named Bd.method).1
  have X0 : Stand p l e room_1 s m #[(.int p1), (.int p2), (.int p3), (.int p4)] below meth c s₁ [] 0 0 := Stand.of_body Bd
  have e0 : s₁.heap = h0 := by rw [← hh, Bd.state]; rfl
  have N0 := Fr.nil n0
  obtain ⟨S0, hS0⟩ : ∃ z, z = s₁.setTop (entryFrame m #[(.int p1), (.int p2), (.int p3), (.int p4)] maxLocals) := ⟨_, rfl⟩
  have P0 : own_Pr p.tables e below S0 s₁ (mkF m 0 #[.val (.int p1), .val (.int p2), .val (.int p3), .val (.int p4), .unset, .unset, .unset, .unset, .unset, .unset, .unset, .unset, .unset, .unset, .unset, .unset, .unset, .unset, .unset, .unset, .unset, .unset, .unset, .unset, .unset, .unset, .unset, .unset, .unset, .unset, .unset, .unset, .unset, .unset, .unset, .unset, .unset, .unset, .unset, .unset, .unset, .unset] []) := fun t k => hS0 ▸ castTop (ef_0 m p1 p2 p3 p4) k
  have P21 : own_Pr p.tables e below S0 s₁ (mkF m 9 #[.val (.int p1), .val (.int p2), .val (.int p3), .val (.int p4), .val (.int ((p3 &&& (255 : Int32)) % (5 : Int32))), .unset, .unset, .unset, .unset, .unset, .unset, .unset, .unset, .unset, .unset, .unset, .unset, .unset, .unset, .unset, .unset, .unset, .unset, .unset, .unset, .unset, .unset, .unset, .unset, .unset, .unset, .unset, .unset, .unset, .unset, .unset, .unset, .unset, .unset, .unset, .unset, .unset] []) := fun t k => P0 t (by
    refine XS.iloadN X0.here hx rfl (hb hby at_0) rfl ?_
    refine XS.sipush X0.here hx rfl (hb hby at_1) ?_
    refine XS.iand X0.here hx rfl (hb hby at_4) rfl ?_
    refine XS.iconst X0.here hx rfl (hb hby at_5) ?_
    refine iremM X0 hx rfl (hb hby at_6) rfl (by decide) ?_
    refine XS.istore X0.here hx rfl (hb hby at_7) rfl (l' := #[.val (.int p1), .val (.int p2), .val (.int p3), .val (.int p4), .val (.int ((p3 &&& (255 : Int32)) % (5 : Int32))), .unset, .unset, .unset, .unset, .unset, .unset, .unset, .unset, .unset, .unset, .unset, .unset, .unset, .unset, .unset, .unset, .unset, .unset, .unset, .unset, .unset, .unset, .unset, .unset, .unset, .unset, .unset, .unset, .unset, .unset, .unset, .unset, .unset, .unset, .unset, .unset, .unset]) rfl ?_
    exact k)
  obtain ⟨z22, hz22⟩ : ∃ z, z = ((p3 &&& (255 : Int32)) % (5 : Int32)) := ⟨_, rfl⟩
  rw [← hz22] at P21
  have P23 : own_Pr p.tables e below S0 s₁ (mkF m 21 #[.val (.int p1), .val (.int p2), .val (.int p3), .val (.int p4), .val (.int z22), .val (.int ((((p3.toUInt32 >>> ((8 : Int32) &&& 31).toUInt32).toInt32) &&& (255 : Int32)) % (5 : Int32))), .unset, .unset, .unset, .unset, .unset, .unset, .unset, .unset, .unset, .unset, .unset, .unset, .unset, .unset, .unset, .unset, .unset, .unset, .unset, .unset, .unset, .unset, .unset, .unset, .unset, .unset, .unset, .unset, .unset, .unset, .unset, .unset, .unset, .unset, .unset, .unset] []) := fun t k => P21 t (by
    refine XS.iloadN X0.here hx rfl (hb hby at_9) rfl ?_
    refine XS.bipush X0.here hx rfl (hb hby at_10) ?_
    refine XS.iushr X0.here hx rfl (hb hby at_12) rfl ?_
    refine XS.sipush X0.here hx rfl (hb hby at_13) ?_
    refine XS.iand X0.here hx rfl (hb hby at_16) rfl ?_
    refine XS.iconst X0.here hx rfl (hb hby at_17) ?_
    refine iremM X0 hx rfl (hb hby at_18) rfl (by decide) ?_
    refine XS.istore X0.here hx rfl (hb hby at_19) rfl (l' := #[.val (.int p1), .val (.int p2), .val (.int p3), .val (.int p4), .val (.int z22), .val (.int ((((p3.toUInt32 >>> ((8 : Int32) &&& 31).toUInt32).toInt32) &&& (255 : Int32)) % (5 : Int32))), .unset, .unset, .unset, .unset, .unset, .unset, .unset, .unset, .unset, .unset, .unset, .unset, .unset, .unset, .unset, .unset, .unset, .unset, .unset, .unset, .unset, .unset, .unset, .unset, .unset, .unset, .unset, .unset, .unset, .unset, .unset, .unset, .unset, .unset, .unset, .unset]) rfl ?_
    exact k)
  obtain ⟨z24, hz24⟩ : ∃ z, z = ((((p3.toUInt32 >>> ((8 : Int32) &&& 31).toUInt32).toInt32) &&& (255 : Int32)) % (5 : Int32)) := ⟨_, rfl⟩
  rw [← hz24] at P23
  have P25 : own_Pr p.tables e below S0 s₁ (mkF m 26 #[.val (.int p1), .val (.int p2), .val (.int p3), .val (.int p4), .val (.int z22), .val (.int z24), .unset, .unset, .unset, .unset, .unset, .unset, .unset, .unset, .unset, .unset, .unset, .unset, .unset, .unset, .unset, .unset, .unset, .unset, .unset, .unset, .unset, .unset, .unset, .unset, .unset, .unset, .unset, .unset, .unset, .unset, .unset, .unset, .unset, .unset, .unset, .unset] [(.int p4), (.int (p1 &&& (7 : Int32)))]) := fun t k => P23 t (by
    refine XS.iloadN X0.here hx rfl (hb hby at_21) rfl ?_
    refine XS.bipush X0.here hx rfl (hb hby at_22) ?_
    refine XS.iand X0.here hx rfl (hb hby at_24) rfl ?_
    refine XS.iloadN X0.here hx rfl (hb hby at_25) rfl ?_
    exact k)
  obtain ⟨_, _, ⟨T26, L26, k26, n26⟩, -, X26, ⟨Lc26, hQ26, l26, y26, z26⟩, st26⟩ := Jvm.LawKit.callS X0 hx (y := (⟨"com/example/ferryline/ferryline/UriWorkerMapMatchesPinLaw", "psym", "(II)I"⟩ : MethodName)) hown (mvT hZ (hw _ (List.mem_of_getElem? (i := 0) rfl))) (mvT hZ (hw _ (List.mem_of_getElem? (i := 1) rfl))) (mvT hZ (hw _ (List.mem_of_getElem? (i := 2) rfl))) (mvT hZ (hw _ (List.mem_of_getElem? (i := 3) rfl))) (by decide) (backOf (W := 0) (rm1 l Z a0 hw [] (p1 &&& (7 : Int32)) p4  h0 n0 Z0 ) hZ (hw _ (List.mem_of_getElem? (i := 3) rfl)) (hw _ (List.mem_of_getElem? (i := 2) rfl)) (by decide) (by decide)) (g := (mkF m 26 #[.val (.int p1), .val (.int p2), .val (.int p3), .val (.int p4), .val (.int z22), .val (.int z24), .unset, .unset, .unset, .unset, .unset, .unset, .unset, .unset, .unset, .unset, .unset, .unset, .unset, .unset, .unset, .unset, .unset, .unset, .unset, .unset, .unset, .unset, .unset, .unset, .unset, .unset, .unset, .unset, .unset, .unset, .unset, .unset, .unset, .unset, .unset, .unset] [(.int p4), (.int (p1 &&& (7 : Int32)))])) rfl (by rw [hml]; rfl) (argsL := [(.int (p1 &&& (7 : Int32))), (.int p4)]) (rest := []) (lenOf pd_0 rfl) rfl (by show 2 * 0 + _ ≤ _; exact Nat.le_of_eq rfl) (hb hby at_26) (fun _ _ => ⟨rfl, e0, (by decide : 0 + 0 ≤ _), (by decide : 0 + 0 ≤ _)⟩)
  dsimp only [Pt.U, Pt.locs, Pt.cells, Pt.slots] at X26 l26 y26 z26 st26 hQ26
  rw [l26, y26, z26] at X26
  have X26 := X26.mono (cells' := 0) (slots' := 0) (by decide) (by decide)
  obtain ⟨z26v, rfl, hz26v, Nq26, eq26⟩ := hQ26
  have N26n := Fr.app N0 Nq26
  have P27 : own_Pr p.tables e below S0 T26 (mkF m 29 #[.val (.int p1), .val (.int p2), .val (.int p3), .val (.int p4), .val (.int z22), .val (.int z24), .unset, .unset, .unset, .unset, .unset, .unset, .unset, .unset, .unset, .unset, .unset, .unset, .unset, .unset, .unset, .unset, .unset, .unset, .unset, .unset, .unset, .unset, .unset, .unset, .unset, .unset, .unset, .unset, .unset, .unset, .unset, .unset, .unset, .unset, .unset, .unset] [(.int z26v)]) := fun t k => P25 t (st26 _ k)
  have P28 : own_Pr p.tables e below S0 T26 (mkF m 38 #[.val (.int p1), .val (.int p2), .val (.int p3), .val (.int p4), .val (.int z22), .val (.int z24), .val (.int z26v), .unset, .unset, .unset, .unset, .unset, .unset, .unset, .unset, .unset, .unset, .unset, .unset, .unset, .unset, .unset, .unset, .unset, .unset, .unset, .unset, .unset, .unset, .unset, .unset, .unset, .unset, .unset, .unset, .unset, .unset, .unset, .unset, .unset, .unset, .unset] [(.int p4), (.int (((p1.toUInt32 >>> ((3 : Int32) &&& 31).toUInt32).toInt32) &&& (7 : Int32)))]) := fun t k => P27 t (by
    refine XS.istore X26.here hx rfl (hb hby at_29) rfl (l' := #[.val (.int p1), .val (.int p2), .val (.int p3), .val (.int p4), .val (.int z22), .val (.int z24), .val (.int z26v), .unset, .unset, .unset, .unset, .unset, .unset, .unset, .unset, .unset, .unset, .unset, .unset, .unset, .unset, .unset, .unset, .unset, .unset, .unset, .unset, .unset, .unset, .unset, .unset, .unset, .unset, .unset, .unset, .unset, .unset, .unset, .unset, .unset, .unset, .unset]) rfl ?_
    refine XS.iloadN X26.here hx rfl (hb hby at_31) rfl ?_
    refine XS.iconst X26.here hx rfl (hb hby at_32) ?_
    refine XS.iushr X26.here hx rfl (hb hby at_33) rfl ?_
    refine XS.bipush X26.here hx rfl (hb hby at_34) ?_
    refine XS.iand X26.here hx rfl (hb hby at_36) rfl ?_
    refine XS.iloadN X26.here hx rfl (hb hby at_37) rfl ?_
    exact k)
  obtain ⟨_, _, ⟨T29, L29, k29, n29⟩, -, X29, ⟨Lc29, hQ29, l29, y29, z29⟩, st29⟩ := Jvm.LawKit.callS X26 hx (y := (⟨"com/example/ferryline/ferryline/UriWorkerMapMatchesPinLaw", "psym", "(II)I"⟩ : MethodName)) hown (mvT hZ (hw _ (List.mem_of_getElem? (i := 0) rfl))) (mvT hZ (hw _ (List.mem_of_getElem? (i := 1) rfl))) (mvT hZ (hw _ (List.mem_of_getElem? (i := 2) rfl))) (mvT hZ (hw _ (List.mem_of_getElem? (i := 3) rfl))) (by decide) (backOf (W := 0) (rm1 l Z a0 hw [] (((p1.toUInt32 >>> ((3 : Int32) &&& 31).toUInt32).toInt32) &&& (7 : Int32)) p4  h0 n0 Z0 ) hZ (hw _ (List.mem_of_getElem? (i := 3) rfl)) (hw _ (List.mem_of_getElem? (i := 2) rfl)) (by decide) (by decide)) (g := (mkF m 38 #[.val (.int p1), .val (.int p2), .val (.int p3), .val (.int p4), .val (.int z22), .val (.int z24), .val (.int z26v), .unset, .unset, .unset, .unset, .unset, .unset, .unset, .unset, .unset, .unset, .unset, .unset, .unset, .unset, .unset, .unset, .unset, .unset, .unset, .unset, .unset, .unset, .unset, .unset, .unset, .unset, .unset, .unset, .unset, .unset, .unset, .unset, .unset, .unset, .unset] [(.int p4), (.int (((p1.toUInt32 >>> ((3 : Int32) &&& 31).toUInt32).toInt32) &&& (7 : Int32)))])) rfl (by rw [hml]; rfl) (argsL := [(.int (((p1.toUInt32 >>> ((3 : Int32) &&& 31).toUInt32).toInt32) &&& (7 : Int32))), (.int p4)]) (rest := []) (lenOf pd_0 rfl) rfl (by show 2 * 0 + _ ≤ _; exact Nat.le_of_eq rfl) (hb hby at_38) (fun _ _ => ⟨rfl, eq26, (by decide : 0 + 0 ≤ _), (by decide : 0 + 0 ≤ _)⟩)
  dsimp only [Pt.U, Pt.locs, Pt.cells, Pt.slots] at X29 l29 y29 z29 st29 hQ29
  rw [l29, y29, z29] at X29
  have X29 := X29.mono (cells' := 0) (slots' := 0) (by decide) (by decide)
  obtain ⟨z29v, rfl, hz29v, Nq29, eq29⟩ := hQ29
  have N29n := Fr.app N26n Nq29
  have P30 : own_Pr p.tables e below S0 T29 (mkF m 41 #[.val (.int p1), .val (.int p2), .val (.int p3), .val (.int p4), .val (.int z22), .val (.int z24), .val (.int z26v), .unset, .unset, .unset, .unset, .unset, .unset, .unset, .unset, .unset, .unset, .unset, .unset, .unset, .unset, .unset, .unset, .unset, .unset, .unset, .unset, .unset, .unset, .unset, .unset, .unset, .unset, .unset, .unset, .unset, .unset, .unset, .unset, .unset, .unset, .unset] [(.int z29v)]) := fun t k => P28 t (st29 _ k)
  have P31 : own_Pr p.tables e below S0 T29 (mkF m 51 #[.val (.int p1), .val (.int p2), .val (.int p3), .val (.int p4), .val (.int z22), .val (.int z24), .val (.int z26v), .val (.int z29v), .unset, .unset, .unset, .unset, .unset, .unset, .unset, .unset, .unset, .unset, .unset, .unset, .unset, .unset, .unset, .unset, .unset, .unset, .unset, .unset, .unset, .unset, .unset, .unset, .unset, .unset, .unset, .unset, .unset, .unset, .unset, .unset, .unset, .unset] [(.int p4), (.int (((p1.toUInt32 >>> ((6 : Int32) &&& 31).toUInt32).toInt32) &&& (7 : Int32)))]) := fun t k => P30 t (by
    refine XS.istore X29.here hx rfl (hb hby at_41) rfl (l' := #[.val (.int p1), .val (.int p2), .val (.int p3), .val (.int p4), .val (.int z22), .val (.int z24), .val (.int z26v), .val (.int z29v), .unset, .unset, .unset, .unset, .unset, .unset, .unset, .unset, .unset, .unset, .unset, .unset, .unset, .unset, .unset, .unset, .unset, .unset, .unset, .unset, .unset, .unset, .unset, .unset, .unset, .unset, .unset, .unset, .unset, .unset, .unset, .unset, .unset, .unset]) rfl ?_
    refine XS.iloadN X29.here hx rfl (hb hby at_43) rfl ?_
    refine XS.bipush X29.here hx rfl (hb hby at_44) ?_
    refine XS.iushr X29.here hx rfl (hb hby at_46) rfl ?_
    refine XS.bipush X29.here hx rfl (hb hby at_47) ?_
    refine XS.iand X29.here hx rfl (hb hby at_49) rfl ?_
    refine XS.iloadN X29.here hx rfl (hb hby at_50) rfl ?_
    exact k)
  obtain ⟨_, _, ⟨T32, L32, k32, n32⟩, -, X32, ⟨Lc32, hQ32, l32, y32, z32⟩, st32⟩ := Jvm.LawKit.callS X29 hx (y := (⟨"com/example/ferryline/ferryline/UriWorkerMapMatchesPinLaw", "psym", "(II)I"⟩ : MethodName)) hown (mvT hZ (hw _ (List.mem_of_getElem? (i := 0) rfl))) (mvT hZ (hw _ (List.mem_of_getElem? (i := 1) rfl))) (mvT hZ (hw _ (List.mem_of_getElem? (i := 2) rfl))) (mvT hZ (hw _ (List.mem_of_getElem? (i := 3) rfl))) (by decide) (backOf (W := 0) (rm1 l Z a0 hw [] (((p1.toUInt32 >>> ((6 : Int32) &&& 31).toUInt32).toInt32) &&& (7 : Int32)) p4  h0 n0 Z0 ) hZ (hw _ (List.mem_of_getElem? (i := 3) rfl)) (hw _ (List.mem_of_getElem? (i := 2) rfl)) (by decide) (by decide)) (g := (mkF m 51 #[.val (.int p1), .val (.int p2), .val (.int p3), .val (.int p4), .val (.int z22), .val (.int z24), .val (.int z26v), .val (.int z29v), .unset, .unset, .unset, .unset, .unset, .unset, .unset, .unset, .unset, .unset, .unset, .unset, .unset, .unset, .unset, .unset, .unset, .unset, .unset, .unset, .unset, .unset, .unset, .unset, .unset, .unset, .unset, .unset, .unset, .unset, .unset, .unset, .unset, .unset] [(.int p4), (.int (((p1.toUInt32 >>> ((6 : Int32) &&& 31).toUInt32).toInt32) &&& (7 : Int32)))])) rfl (by rw [hml]; rfl) (argsL := [(.int (((p1.toUInt32 >>> ((6 : Int32) &&& 31).toUInt32).toInt32) &&& (7 : Int32))), (.int p4)]) (rest := []) (lenOf pd_0 rfl) rfl (by show 2 * 0 + _ ≤ _; exact Nat.le_of_eq rfl) (hb hby at_51) (fun _ _ => ⟨rfl, eq29, (by decide : 0 + 0 ≤ _), (by decide : 0 + 0 ≤ _)⟩)
  dsimp only [Pt.U, Pt.locs, Pt.cells, Pt.slots] at X32 l32 y32 z32 st32 hQ32
  rw [l32, y32, z32] at X32
  have X32 := X32.mono (cells' := 0) (slots' := 0) (by decide) (by decide)
  obtain ⟨z32v, rfl, hz32v, Nq32, eq32⟩ := hQ32
  have N32n := Fr.app N29n Nq32
  have P33 : own_Pr p.tables e below S0 T32 (mkF m 54 #[.val (.int p1), .val (.int p2), .val (.int p3), .val (.int p4), .val (.int z22), .val (.int z24), .val (.int z26v), .val (.int z29v), .unset, .unset, .unset, .unset, .unset, .unset, .unset, .unset, .unset, .unset, .unset, .unset, .unset, .unset, .unset, .unset, .unset, .unset, .unset, .unset, .unset, .unset, .unset, .unset, .unset, .unset, .unset, .unset, .unset, .unset, .unset, .unset, .unset, .unset] [(.int z32v)]) := fun t k => P31 t (st32 _ k)
  have P34 : own_Pr p.tables e below S0 T32 (mkF m 64 #[.val (.int p1), .val (.int p2), .val (.int p3), .val (.int p4), .val (.int z22), .val (.int z24), .val (.int z26v), .val (.int z29v), .val (.int z32v), .unset, .unset, .unset, .unset, .unset, .unset, .unset, .unset, .unset, .unset, .unset, .unset, .unset, .unset, .unset, .unset, .unset, .unset, .unset, .unset, .unset, .unset, .unset, .unset, .unset, .unset, .unset, .unset, .unset, .unset, .unset, .unset, .unset] [(.int p4), (.int (((p1.toUInt32 >>> ((9 : Int32) &&& 31).toUInt32).toInt32) &&& (7 : Int32)))]) := fun t k => P33 t (by
    refine XS.istore X32.here hx rfl (hb hby at_54) rfl (l' := #[.val (.int p1), .val (.int p2), .val (.int p3), .val (.int p4), .val (.int z22), .val (.int z24), .val (.int z26v), .val (.int z29v), .val (.int z32v), .unset, .unset, .unset, .unset, .unset, .unset, .unset, .unset, .unset, .unset, .unset, .unset, .unset, .unset, .unset, .unset, .unset, .unset, .unset, .unset, .unset, .unset, .unset, .unset, .unset, .unset, .unset, .unset, .unset, .unset, .unset, .unset, .unset]) rfl ?_
    refine XS.iloadN X32.here hx rfl (hb hby at_56) rfl ?_
    refine XS.bipush X32.here hx rfl (hb hby at_57) ?_
    refine XS.iushr X32.here hx rfl (hb hby at_59) rfl ?_
    refine XS.bipush X32.here hx rfl (hb hby at_60) ?_
    refine XS.iand X32.here hx rfl (hb hby at_62) rfl ?_
    refine XS.iloadN X32.here hx rfl (hb hby at_63) rfl ?_
    exact k)
  obtain ⟨_, _, ⟨T35, L35, k35, n35⟩, -, X35, ⟨Lc35, hQ35, l35, y35, z35⟩, st35⟩ := Jvm.LawKit.callS X32 hx (y := (⟨"com/example/ferryline/ferryline/UriWorkerMapMatchesPinLaw", "psym", "(II)I"⟩ : MethodName)) hown (mvT hZ (hw _ (List.mem_of_getElem? (i := 0) rfl))) (mvT hZ (hw _ (List.mem_of_getElem? (i := 1) rfl))) (mvT hZ (hw _ (List.mem_of_getElem? (i := 2) rfl))) (mvT hZ (hw _ (List.mem_of_getElem? (i := 3) rfl))) (by decide) (backOf (W := 0) (rm1 l Z a0 hw [] (((p1.toUInt32 >>> ((9 : Int32) &&& 31).toUInt32).toInt32) &&& (7 : Int32)) p4  h0 n0 Z0 ) hZ (hw _ (List.mem_of_getElem? (i := 3) rfl)) (hw _ (List.mem_of_getElem? (i := 2) rfl)) (by decide) (by decide)) (g := (mkF m 64 #[.val (.int p1), .val (.int p2), .val (.int p3), .val (.int p4), .val (.int z22), .val (.int z24), .val (.int z26v), .val (.int z29v), .val (.int z32v), .unset, .unset, .unset, .unset, .unset, .unset, .unset, .unset, .unset, .unset, .unset, .unset, .unset, .unset, .unset, .unset, .unset, .unset, .unset, .unset, .unset, .unset, .unset, .unset, .unset, .unset, .unset, .unset, .unset, .unset, .unset, .unset, .unset] [(.int p4), (.int (((p1.toUInt32 >>> ((9 : Int32) &&& 31).toUInt32).toInt32) &&& (7 : Int32)))])) rfl (by rw [hml]; rfl) (argsL := [(.int (((p1.toUInt32 >>> ((9 : Int32) &&& 31).toUInt32).toInt32) &&& (7 : Int32))), (.int p4)]) (rest := []) (lenOf pd_0 rfl) rfl (by show 2 * 0 + _ ≤ _; exact Nat.le_of_eq rfl) (hb hby at_64) (fun _ _ => ⟨rfl, eq32, (by decide : 0 + 0 ≤ _), (by decide : 0 + 0 ≤ _)⟩)
  dsimp only [Pt.U, Pt.locs, Pt.cells, Pt.slots] at X35 l35 y35 z35 st35 hQ35
  rw [l35, y35, z35] at X35
  have X35 := X35.mono (cells' := 0) (slots' := 0) (by decide) (by decide)
  obtain ⟨z35v, rfl, hz35v, Nq35, eq35⟩ := hQ35
  have N35n := Fr.app N32n Nq35
  have P36 : own_Pr p.tables e below S0 T35 (mkF m 67 #[.val (.int p1), .val (.int p2), .val (.int p3), .val (.int p4), .val (.int z22), .val (.int z24), .val (.int z26v), .val (.int z29v), .val (.int z32v), .unset, .unset, .unset, .unset, .unset, .unset, .unset, .unset, .unset, .unset, .unset, .unset, .unset, .unset, .unset, .unset, .unset, .unset, .unset, .unset, .unset, .unset, .unset, .unset, .unset, .unset, .unset, .unset, .unset, .unset, .unset, .unset, .unset] [(.int z35v)]) := fun t k => P34 t (st35 _ k)
  have P37 : own_Pr p.tables e below S0 T35 (mkF m 74 #[.val (.int p1), .val (.int p2), .val (.int p3), .val (.int p4), .val (.int z22), .val (.int z24), .val (.int z26v), .val (.int z29v), .val (.int z32v), .val (.int z35v), .unset, .unset, .unset, .unset, .unset, .unset, .unset, .unset, .unset, .unset, .unset, .unset, .unset, .unset, .unset, .unset, .unset, .unset, .unset, .unset, .unset, .unset, .unset, .unset, .unset, .unset, .unset, .unset, .unset, .unset, .unset, .unset] [(.int p4), (.int (p2 &&& (7 : Int32)))]) := fun t k => P36 t (by
    refine XS.istore X35.here hx rfl (hb hby at_67) rfl (l' := #[.val (.int p1), .val (.int p2), .val (.int p3), .val (.int p4), .val (.int z22), .val (.int z24), .val (.int z26v), .val (.int z29v), .val (.int z32v), .val (.int z35v), .unset, .unset, .unset, .unset, .unset, .unset, .unset, .unset, .unset, .unset, .unset, .unset, .unset, .unset, .unset, .unset, .unset, .unset, .unset, .unset, .unset, .unset, .unset, .unset, .unset, .unset, .unset, .unset, .unset, .unset, .unset, .unset]) rfl ?_
    refine XS.iloadN X35.here hx rfl (hb hby at_69) rfl ?_
    refine XS.bipush X35.here hx rfl (hb hby at_70) ?_
    refine XS.iand X35.here hx rfl (hb hby at_72) rfl ?_
    refine XS.iloadN X35.here hx rfl (hb hby at_73) rfl ?_
    exact k)
  obtain ⟨_, _, ⟨T38, L38, k38, n38⟩, -, X38, ⟨Lc38, hQ38, l38, y38, z38⟩, st38⟩ := Jvm.LawKit.callS X35 hx (y := (⟨"com/example/ferryline/ferryline/UriWorkerMapMatchesPinLaw", "tsym", "(II)I"⟩ : MethodName)) hown (mvT hZ (hw _ (List.mem_of_getElem? (i := 4) rfl))) (mvT hZ (hw _ (List.mem_of_getElem? (i := 5) rfl))) (mvT hZ (hw _ (List.mem_of_getElem? (i := 2) rfl))) (mvT hZ (hw _ (List.mem_of_getElem? (i := 6) rfl))) (by decide) (backOf (W := 0) (rm2 l Z a0 hw [] (p2 &&& (7 : Int32)) p4  h0 n0 Z0 ) hZ (hw _ (List.mem_of_getElem? (i := 6) rfl)) (hw _ (List.mem_of_getElem? (i := 2) rfl)) (by decide) (by decide)) (g := (mkF m 74 #[.val (.int p1), .val (.int p2), .val (.int p3), .val (.int p4), .val (.int z22), .val (.int z24), .val (.int z26v), .val (.int z29v), .val (.int z32v), .val (.int z35v), .unset, .unset, .unset, .unset, .unset, .unset, .unset, .unset, .unset, .unset, .unset, .unset, .unset, .unset, .unset, .unset, .unset, .unset, .unset, .unset, .unset, .unset, .unset, .unset, .unset, .unset, .unset, .unset, .unset, .unset, .unset, .unset] [(.int p4), (.int (p2 &&& (7 : Int32)))])) rfl (by rw [hml]; rfl) (argsL := [(.int (p2 &&& (7 : Int32))), (.int p4)]) (rest := []) (lenOf pd_0 rfl) rfl (by show 2 * 0 + _ ≤ _; exact Nat.le_of_eq rfl) (hb hby at_74) (fun _ _ => ⟨rfl, eq35, (by decide : 0 + 0 ≤ _), (by decide : 0 + 0 ≤ _)⟩)
  dsimp only [Pt.U, Pt.locs, Pt.cells, Pt.slots] at X38 l38 y38 z38 st38 hQ38
  rw [l38, y38, z38] at X38
  have X38 := X38.mono (cells' := 0) (slots' := 0) (by decide) (by decide)
  obtain ⟨z38v, rfl, hz38v, Nq38, eq38⟩ := hQ38
  have N38n := Fr.app N35n Nq38
  have P39 : own_Pr p.tables e below S0 T38 (mkF m 77 #[.val (.int p1), .val (.int p2), .val (.int p3), .val (.int p4), .val (.int z22), .val (.int z24), .val (.int z26v), .val (.int z29v), .val (.int z32v), .val (.int z35v), .unset, .unset, .unset, .unset, .unset, .unset, .unset, .unset, .unset, .unset, .unset, .unset, .unset, .unset, .unset, .unset, .unset, .unset, .unset, .unset, .unset, .unset, .unset, .unset, .unset, .unset, .unset, .unset, .unset, .unset, .unset, .unset] [(.int z38v)]) := fun t k => P37 t (st38 _ k)
  have P40 : own_Pr p.tables e below S0 T38 (mkF m 86 #[.val (.int p1), .val (.int p2), .val (.int p3), .val (.int p4), .val (.int z22), .val (.int z24), .val (.int z26v), .val (.int z29v), .val (.int z32v), .val (.int z35v), .val (.int z38v), .unset, .unset, .unset, .unset, .unset, .unset, .unset, .unset, .unset, .unset, .unset, .unset, .unset, .unset, .unset, .unset, .unset, .unset, .unset, .unset, .unset, .unset, .unset, .unset, .unset, .unset, .unset, .unset, .unset, .unset, .unset] [(.int p4), (.int (((p2.toUInt32 >>> ((3 : Int32) &&& 31).toUInt32).toInt32) &&& (7 : Int32)))]) := fun t k => P39 t (by
    refine XS.istore X38.here hx rfl (hb hby at_77) rfl (l' := #[.val (.int p1), .val (.int p2), .val (.int p3), .val (.int p4), .val (.int z22), .val (.int z24), .val (.int z26v), .val (.int z29v), .val (.int z32v), .val (.int z35v), .val (.int z38v), .unset, .unset, .unset, .unset, .unset, .unset, .unset, .unset, .unset, .unset, .unset, .unset, .unset, .unset, .unset, .unset, .unset, .unset, .unset, .unset, .unset, .unset, .unset, .unset, .unset, .unset, .unset, .unset, .unset, .unset, .unset]) rfl ?_
    refine XS.iloadN X38.here hx rfl (hb hby at_79) rfl ?_
    refine XS.iconst X38.here hx rfl (hb hby at_80) ?_
    refine XS.iushr X38.here hx rfl (hb hby at_81) rfl ?_
    refine XS.bipush X38.here hx rfl (hb hby at_82) ?_
    refine XS.iand X38.here hx rfl (hb hby at_84) rfl ?_
    refine XS.iloadN X38.here hx rfl (hb hby at_85) rfl ?_
    exact k)
  obtain ⟨_, _, ⟨T41, L41, k41, n41⟩, -, X41, ⟨Lc41, hQ41, l41, y41, z41⟩, st41⟩ := Jvm.LawKit.callS X38 hx (y := (⟨"com/example/ferryline/ferryline/UriWorkerMapMatchesPinLaw", "tsym", "(II)I"⟩ : MethodName)) hown (mvT hZ (hw _ (List.mem_of_getElem? (i := 4) rfl))) (mvT hZ (hw _ (List.mem_of_getElem? (i := 5) rfl))) (mvT hZ (hw _ (List.mem_of_getElem? (i := 2) rfl))) (mvT hZ (hw _ (List.mem_of_getElem? (i := 6) rfl))) (by decide) (backOf (W := 0) (rm2 l Z a0 hw [] (((p2.toUInt32 >>> ((3 : Int32) &&& 31).toUInt32).toInt32) &&& (7 : Int32)) p4  h0 n0 Z0 ) hZ (hw _ (List.mem_of_getElem? (i := 6) rfl)) (hw _ (List.mem_of_getElem? (i := 2) rfl)) (by decide) (by decide)) (g := (mkF m 86 #[.val (.int p1), .val (.int p2), .val (.int p3), .val (.int p4), .val (.int z22), .val (.int z24), .val (.int z26v), .val (.int z29v), .val (.int z32v), .val (.int z35v), .val (.int z38v), .unset, .unset, .unset, .unset, .unset, .unset, .unset, .unset, .unset, .unset, .unset, .unset, .unset, .unset, .unset, .unset, .unset, .unset, .unset, .unset, .unset, .unset, .unset, .unset, .unset, .unset, .unset, .unset, .unset, .unset, .unset] [(.int p4), (.int (((p2.toUInt32 >>> ((3 : Int32) &&& 31).toUInt32).toInt32) &&& (7 : Int32)))])) rfl (by rw [hml]; rfl) (argsL := [(.int (((p2.toUInt32 >>> ((3 : Int32) &&& 31).toUInt32).toInt32) &&& (7 : Int32))), (.int p4)]) (rest := []) (lenOf pd_0 rfl) rfl (by show 2 * 0 + _ ≤ _; exact Nat.le_of_eq rfl) (hb hby at_86) (fun _ _ => ⟨rfl, eq38, (by decide : 0 + 0 ≤ _), (by decide : 0 + 0 ≤ _)⟩)
  dsimp only [Pt.U, Pt.locs, Pt.cells, Pt.slots] at X41 l41 y41 z41 st41 hQ41
  rw [l41, y41, z41] at X41
  have X41 := X41.mono (cells' := 0) (slots' := 0) (by decide) (by decide)
  obtain ⟨z41v, rfl, hz41v, Nq41, eq41⟩ := hQ41
  have N41n := Fr.app N38n Nq41
  have P42 : own_Pr p.tables e below S0 T41 (mkF m 89 #[.val (.int p1), .val (.int p2), .val (.int p3), .val (.int p4), .val (.int z22), .val (.int z24), .val (.int z26v), .val (.int z29v), .val (.int z32v), .val (.int z35v), .val (.int z38v), .unset, .unset, .unset, .unset, .unset, .unset, .unset, .unset, .unset, .unset, .unset, .unset, .unset, .unset, .unset, .unset, .unset, .unset, .unset, .unset, .unset, .unset, .unset, .unset, .unset, .unset, .unset, .unset, .unset, .unset, .unset] [(.int z41v)]) := fun t k => P40 t (st41 _ k)
  have P43 : own_Pr p.tables e below S0 T41 (mkF m 99 #[.val (.int p1), .val (.int p2), .val (.int p3), .val (.int p4), .val (.int z22), .val (.int z24), .val (.int z26v), .val (.int z29v), .val (.int z32v), .val (.int z35v), .val (.int z38v), .val (.int z41v), .unset, .unset, .unset, .unset, .unset, .unset, .unset, .unset, .unset, .unset, .unset, .unset, .unset, .unset, .unset, .unset, .unset, .unset, .unset, .unset, .unset, .unset, .unset, .unset, .unset, .unset, .unset, .unset, .unset, .unset] [(.int p4), (.int (((p2.toUInt32 >>> ((6 : Int32) &&& 31).toUInt32).toInt32) &&& (7 : Int32)))]) := fun t k => P42 t (by
    refine XS.istore X41.here hx rfl (hb hby at_89) rfl (l' := #[.val (.int p1), .val (.int p2), .val (.int p3), .val (.int p4), .val (.int z22), .val (.int z24), .val (.int z26v), .val (.int z29v), .val (.int z32v), .val (.int z35v), .val (.int z38v), .val (.int z41v), .unset, .unset, .unset, .unset, .unset, .unset, .unset, .unset, .unset, .unset, .unset, .unset, .unset, .unset, .unset, .unset, .unset, .unset, .unset, .unset, .unset, .unset, .unset, .unset, .unset, .unset, .unset, .unset, .unset, .unset]) rfl ?_
    refine XS.iloadN X41.here hx rfl (hb hby at_91) rfl ?_
    refine XS.bipush X41.here hx rfl (hb hby at_92) ?_
    refine XS.iushr X41.here hx rfl (hb hby at_94) rfl ?_
    refine XS.bipush X41.here hx rfl (hb hby at_95) ?_
    refine XS.iand X41.here hx rfl (hb hby at_97) rfl ?_
    refine XS.iloadN X41.here hx rfl (hb hby at_98) rfl ?_
    exact k)
  obtain ⟨_, _, ⟨T44, L44, k44, n44⟩, -, X44, ⟨Lc44, hQ44, l44, y44, z44⟩, st44⟩ := Jvm.LawKit.callS X41 hx (y := (⟨"com/example/ferryline/ferryline/UriWorkerMapMatchesPinLaw", "tsym", "(II)I"⟩ : MethodName)) hown (mvT hZ (hw _ (List.mem_of_getElem? (i := 4) rfl))) (mvT hZ (hw _ (List.mem_of_getElem? (i := 5) rfl))) (mvT hZ (hw _ (List.mem_of_getElem? (i := 2) rfl))) (mvT hZ (hw _ (List.mem_of_getElem? (i := 6) rfl))) (by decide) (backOf (W := 0) (rm2 l Z a0 hw [] (((p2.toUInt32 >>> ((6 : Int32) &&& 31).toUInt32).toInt32) &&& (7 : Int32)) p4  h0 n0 Z0 ) hZ (hw _ (List.mem_of_getElem? (i := 6) rfl)) (hw _ (List.mem_of_getElem? (i := 2) rfl)) (by decide) (by decide)) (g := (mkF m 99 #[.val (.int p1), .val (.int p2), .val (.int p3), .val (.int p4), .val (.int z22), .val (.int z24), .val (.int z26v), .val (.int z29v), .val (.int z32v), .val (.int z35v), .val (.int z38v), .val (.int z41v), .unset, .unset, .unset, .unset, .unset, .unset, .unset, .unset, .unset, .unset, .unset, .unset, .unset, .unset, .unset, .unset, .unset, .unset, .unset, .unset, .unset, .unset, .unset, .unset, .unset, .unset, .unset, .unset, .unset, .unset] [(.int p4), (.int (((p2.toUInt32 >>> ((6 : Int32) &&& 31).toUInt32).toInt32) &&& (7 : Int32)))])) rfl (by rw [hml]; rfl) (argsL := [(.int (((p2.toUInt32 >>> ((6 : Int32) &&& 31).toUInt32).toInt32) &&& (7 : Int32))), (.int p4)]) (rest := []) (lenOf pd_0 rfl) rfl (by show 2 * 0 + _ ≤ _; exact Nat.le_of_eq rfl) (hb hby at_99) (fun _ _ => ⟨rfl, eq41, (by decide : 0 + 0 ≤ _), (by decide : 0 + 0 ≤ _)⟩)
  dsimp only [Pt.U, Pt.locs, Pt.cells, Pt.slots] at X44 l44 y44 z44 st44 hQ44
  rw [l44, y44, z44] at X44
  have X44 := X44.mono (cells' := 0) (slots' := 0) (by decide) (by decide)
  obtain ⟨z44v, rfl, hz44v, Nq44, eq44⟩ := hQ44
  have N44n := Fr.app N41n Nq44
  have P45 : own_Pr p.tables e below S0 T44 (mkF m 102 #[.val (.int p1), .val (.int p2), .val (.int p3), .val (.int p4), .val (.int z22), .val (.int z24), .val (.int z26v), .val (.int z29v), .val (.int z32v), .val (.int z35v), .val (.int z38v), .val (.int z41v), .unset, .unset, .unset, .unset, .unset, .unset, .unset, .unset, .unset, .unset, .unset, .unset, .unset, .unset, .unset, .unset, .unset, .unset, .unset, .unset, .unset, .unset, .unset, .unset, .unset, .unset, .unset, .unset, .unset, .unset] [(.int z44v)]) := fun t k => P43 t (st44 _ k)
  have P46 : own_Pr p.tables e below S0 T44 (mkF m 112 #[.val (.int p1), .val (.int p2), .val (.int p3), .val (.int p4), .val (.int z22), .val (.int z24), .val (.int z26v), .val (.int z29v), .val (.int z32v), .val (.int z35v), .val (.int z38v), .val (.int z41v), .val (.int z44v), .unset, .unset, .unset, .unset, .unset, .unset, .unset, .unset, .unset, .unset, .unset, .unset, .unset, .unset, .unset, .unset, .unset, .unset, .unset, .unset, .unset, .unset, .unset, .unset, .unset, .unset, .unset, .unset, .unset] [(.int p4), (.int (((p2.toUInt32 >>> ((9 : Int32) &&& 31).toUInt32).toInt32) &&& (7 : Int32)))]) := fun t k => P45 t (by
    refine XS.istore X44.here hx rfl (hb hby at_102) rfl (l' := #[.val (.int p1), .val (.int p2), .val (.int p3), .val (.int p4), .val (.int z22), .val (.int z24), .val (.int z26v), .val (.int z29v), .val (.int z32v), .val (.int z35v), .val (.int z38v), .val (.int z41v), .val (.int z44v), .unset, .unset, .unset, .unset, .unset, .unset, .unset, .unset, .unset, .unset, .unset, .unset, .unset, .unset, .unset, .unset, .unset, .unset, .unset, .unset, .unset, .unset, .unset, .unset, .unset, .unset, .unset, .unset, .unset]) rfl ?_
    refine XS.iloadN X44.here hx rfl (hb hby at_104) rfl ?_
    refine XS.bipush X44.here hx rfl (hb hby at_105) ?_
    refine XS.iushr X44.here hx rfl (hb hby at_107) rfl ?_
    refine XS.bipush X44.here hx rfl (hb hby at_108) ?_
    refine XS.iand X44.here hx rfl (hb hby at_110) rfl ?_
    refine XS.iloadN X44.here hx rfl (hb hby at_111) rfl ?_
    exact k)
  obtain ⟨_, _, ⟨T47, L47, k47, n47⟩, -, X47, ⟨Lc47, hQ47, l47, y47, z47⟩, st47⟩ := Jvm.LawKit.callS X44 hx (y := (⟨"com/example/ferryline/ferryline/UriWorkerMapMatchesPinLaw", "tsym", "(II)I"⟩ : MethodName)) hown (mvT hZ (hw _ (List.mem_of_getElem? (i := 4) rfl))) (mvT hZ (hw _ (List.mem_of_getElem? (i := 5) rfl))) (mvT hZ (hw _ (List.mem_of_getElem? (i := 2) rfl))) (mvT hZ (hw _ (List.mem_of_getElem? (i := 6) rfl))) (by decide) (backOf (W := 0) (rm2 l Z a0 hw [] (((p2.toUInt32 >>> ((9 : Int32) &&& 31).toUInt32).toInt32) &&& (7 : Int32)) p4  h0 n0 Z0 ) hZ (hw _ (List.mem_of_getElem? (i := 6) rfl)) (hw _ (List.mem_of_getElem? (i := 2) rfl)) (by decide) (by decide)) (g := (mkF m 112 #[.val (.int p1), .val (.int p2), .val (.int p3), .val (.int p4), .val (.int z22), .val (.int z24), .val (.int z26v), .val (.int z29v), .val (.int z32v), .val (.int z35v), .val (.int z38v), .val (.int z41v), .val (.int z44v), .unset, .unset, .unset, .unset, .unset, .unset, .unset, .unset, .unset, .unset, .unset, .unset, .unset, .unset, .unset, .unset, .unset, .unset, .unset, .unset, .unset, .unset, .unset, .unset, .unset, .unset, .unset, .unset, .unset] [(.int p4), (.int (((p2.toUInt32 >>> ((9 : Int32) &&& 31).toUInt32).toInt32) &&& (7 : Int32)))])) rfl (by rw [hml]; rfl) (argsL := [(.int (((p2.toUInt32 >>> ((9 : Int32) &&& 31).toUInt32).toInt32) &&& (7 : Int32))), (.int p4)]) (rest := []) (lenOf pd_0 rfl) rfl (by show 2 * 0 + _ ≤ _; exact Nat.le_of_eq rfl) (hb hby at_112) (fun _ _ => ⟨rfl, eq44, (by decide : 0 + 0 ≤ _), (by decide : 0 + 0 ≤ _)⟩)
  dsimp only [Pt.U, Pt.locs, Pt.cells, Pt.slots] at X47 l47 y47 z47 st47 hQ47
  rw [l47, y47, z47] at X47
  have X47 := X47.mono (cells' := 0) (slots' := 0) (by decide) (by decide)
  obtain ⟨z47v, rfl, hz47v, Nq47, eq47⟩ := hQ47
  have N47n := Fr.app N44n Nq47
  have P48 : own_Pr p.tables e below S0 T47 (mkF m 115 #[.val (.int p1), .val (.int p2), .val (.int p3), .val (.int p4), .val (.int z22), .val (.int z24), .val (.int z26v), .val (.int z29v), .val (.int z32v), .val (.int z35v), .val (.int z38v), .val (.int z41v), .val (.int z44v), .unset, .unset, .unset, .unset, .unset, .unset, .unset, .unset, .unset, .unset, .unset, .unset, .unset, .unset, .unset, .unset, .unset, .unset, .unset, .unset, .unset, .unset, .unset, .unset, .unset, .unset, .unset, .unset, .unset] [(.int z47v)]) := fun t k => P46 t (st47 _ k)
  have P49 : own_Pr p.tables e below S0 T47 (mkF m 127 #[.val (.int p1), .val (.int p2), .val (.int p3), .val (.int p4), .val (.int z22), .val (.int z24), .val (.int z26v), .val (.int z29v), .val (.int z32v), .val (.int z35v), .val (.int z38v), .val (.int z41v), .val (.int z44v), .val (.int z47v), .unset, .unset, .unset, .unset, .unset, .unset, .unset, .unset, .unset, .unset, .unset, .unset, .unset, .unset, .unset, .unset, .unset, .unset, .unset, .unset, .unset, .unset, .unset, .unset, .unset, .unset, .unset, .unset] [(.int z22), (.int z35v), (.int z32v), (.int z29v), (.int z26v)]) := fun t k => P48 t (by
    refine XS.istore X47.here hx rfl (hb hby at_115) rfl (l' := #[.val (.int p1), .val (.int p2), .val (.int p3), .val (.int p4), .val (.int z22), .val (.int z24), .val (.int z26v), .val (.int z29v), .val (.int z32v), .val (.int z35v), .val (.int z38v), .val (.int z41v), .val (.int z44v), .val (.int z47v), .unset, .unset, .unset, .unset, .unset, .unset, .unset, .unset, .unset, .unset, .unset, .unset, .unset, .unset, .unset, .unset, .unset, .unset, .unset, .unset, .unset, .unset, .unset, .unset, .unset, .unset, .unset, .unset]) rfl ?_
    refine XS.iload X47.here hx rfl (hb hby at_117) rfl ?_
    refine XS.iload X47.here hx rfl (hb hby at_119) rfl ?_
    refine XS.iload X47.here hx rfl (hb hby at_121) rfl ?_
    refine XS.iload X47.here hx rfl (hb hby at_123) rfl ?_
    refine XS.iload X47.here hx rfl (hb hby at_125) rfl ?_
    exact k)
  obtain ⟨_, _, ⟨T50, L50, k50, n50⟩, -, X50, ⟨Lc50, hQ50, l50, y50, z50⟩, st50⟩ := Jvm.LawKit.callS X47 hx (y := (⟨"com/example/ferryline/ferryline/UriWorkerMapMatchesPinLaw", "prefix", "(IIIII)[I"⟩ : MethodName)) hown (mvT hZ (hw _ (List.mem_of_getElem? (i := 7) rfl))) (mvT hZ (hw _ (List.mem_of_getElem? (i := 8) rfl))) (mvT hZ (hw _ (List.mem_of_getElem? (i := 2) rfl))) (mvT hZ (hw _ (List.mem_of_getElem? (i := 9) rfl))) (by decide) (backOf (W := 0) (rm3 l Z a0 hw [] z26v z29v z32v z35v z22 h0 n0 Z0 (own_five1 hz22)) hZ (hw _ (List.mem_of_getElem? (i := 9) rfl)) (hw _ (List.mem_of_getElem? (i := 2) rfl)) (by decide) (by decide)) (g := (mkF m 127 #[.val (.int p1), .val (.int p2), .val (.int p3), .val (.int p4), .val (.int z22), .val (.int z24), .val (.int z26v), .val (.int z29v), .val (.int z32v), .val (.int z35v), .val (.int z38v), .val (.int z41v), .val (.int z44v), .val (.int z47v), .unset, .unset, .unset, .unset, .unset, .unset, .unset, .unset, .unset, .unset, .unset, .unset, .unset, .unset, .unset, .unset, .unset, .unset, .unset, .unset, .unset, .unset, .unset, .unset, .unset, .unset, .unset, .unset] [(.int z22), (.int z35v), (.int z32v), (.int z29v), (.int z26v)])) rfl (by rw [hml]; rfl) (argsL := [(.int z26v), (.int z29v), (.int z32v), (.int z35v), (.int z22)]) (rest := []) (lenOf pd_1 rfl) rfl (by show 2 * 0 + _ ≤ _; exact Nat.le_of_eq rfl) (hb hby at_127) (fun _ _ => ⟨rfl, eq47, (by decide : 0 + 1 ≤ _), (by decide : 0 + 4 ≤ _)⟩)
  dsimp only [Pt.U, Pt.locs, Pt.cells, Pt.slots] at X50 l50 y50 z50 st50 hQ50
  rw [l50, y50, z50] at X50
  have X50 := X50.mono (cells' := 1) (slots' := 4) (by decide) (by decide)
  obtain ⟨b50, ct50, rfl, Nq50, K50k, sz50, Tt50, At50⟩ := hQ50
  have N50n := Fr.app N47n Nq50
  have Z51 := Nat.le_trans Z0 K50k.1
  have P52 : own_Pr p.tables e below S0 T50 (mkF m 130 #[.val (.int p1), .val (.int p2), .val (.int p3), .val (.int p4), .val (.int z22), .val (.int z24), .val (.int z26v), .val (.int z29v), .val (.int z32v), .val (.int z35v), .val (.int z38v), .val (.int z41v), .val (.int z44v), .val (.int z47v), .unset, .unset, .unset, .unset, .unset, .unset, .unset, .unset, .unset, .unset, .unset, .unset, .unset, .unset, .unset, .unset, .unset, .unset, .unset, .unset, .unset, .unset, .unset, .unset, .unset, .unset, .unset, .unset] [(.ref b50)]) := fun t k => P49 t (st50 _ k)
  have P53 : own_Pr p.tables e below S0 T50 (mkF m 142 #[.val (.int p1), .val (.int p2), .val (.int p3), .val (.int p4), .val (.int z22), .val (.int z24), .val (.int z26v), .val (.int z29v), .val (.int z32v), .val (.int z35v), .val (.int z38v), .val (.int z41v), .val (.int z44v), .val (.int z47v), .val (.ref b50), .unset, .unset, .unset, .unset, .unset, .unset, .unset, .unset, .unset, .unset, .unset, .unset, .unset, .unset, .unset, .unset, .unset, .unset, .unset, .unset, .unset, .unset, .unset, .unset, .unset, .unset, .unset] [(.int z24), (.int z47v), (.int z44v), (.int z41v), (.int z38v)]) := fun t k => P52 t (by
    refine XS.astore X50.here hx rfl (hb hby at_130) rfl rfl (l' := #[.val (.int p1), .val (.int p2), .val (.int p3), .val (.int p4), .val (.int z22), .val (.int z24), .val (.int z26v), .val (.int z29v), .val (.int z32v), .val (.int z35v), .val (.int z38v), .val (.int z41v), .val (.int z44v), .val (.int z47v), .val (.ref b50), .unset, .unset, .unset, .unset, .unset, .unset, .unset, .unset, .unset, .unset, .unset, .unset, .unset, .unset, .unset, .unset, .unset, .unset, .unset, .unset, .unset, .unset, .unset, .unset, .unset, .unset, .unset]) rfl ?_
    refine XS.iload X50.here hx rfl (hb hby at_132) rfl ?_
    refine XS.iload X50.here hx rfl (hb hby at_134) rfl ?_
    refine XS.iload X50.here hx rfl (hb hby at_136) rfl ?_
    refine XS.iload X50.here hx rfl (hb hby at_138) rfl ?_
    refine XS.iload X50.here hx rfl (hb hby at_140) rfl ?_
    exact k)
  obtain ⟨_, _, ⟨T54, L54, k54, n54⟩, -, X54, ⟨Lc54, hQ54, l54, y54, z54⟩, st54⟩ := Jvm.LawKit.callS X50 hx (y := (⟨"com/example/ferryline/ferryline/UriWorkerMapMatchesPinLaw", "prefix", "(IIIII)[I"⟩ : MethodName)) hown (mvT hZ (hw _ (List.mem_of_getElem? (i := 7) rfl))) (mvT hZ (hw _ (List.mem_of_getElem? (i := 8) rfl))) (mvT hZ (hw _ (List.mem_of_getElem? (i := 2) rfl))) (mvT hZ (hw _ (List.mem_of_getElem? (i := 9) rfl))) (by decide) (backOf (W := 0) (rm3 l Z a0 hw [] z38v z41v z44v z47v z24 T50.heap n0 Z51 (own_five2 hz24)) hZ (hw _ (List.mem_of_getElem? (i := 9) rfl)) (hw _ (List.mem_of_getElem? (i := 2) rfl)) (by decide) (by decide)) (g := (mkF m 142 #[.val (.int p1), .val (.int p2), .val (.int p3), .val (.int p4), .val (.int z22), .val (.int z24), .val (.int z26v), .val (.int z29v), .val (.int z32v), .val (.int z35v), .val (.int z38v), .val (.int z41v), .val (.int z44v), .val (.int z47v), .val (.ref b50), .unset, .unset, .unset, .unset, .unset, .unset, .unset, .unset, .unset, .unset, .unset, .unset, .unset, .unset, .unset, .unset, .unset, .unset, .unset, .unset, .unset, .unset, .unset, .unset, .unset, .unset, .unset] [(.int z24), (.int z47v), (.int z44v), (.int z41v), (.int z38v)])) rfl (by rw [hml]; rfl) (argsL := [(.int z38v), (.int z41v), (.int z44v), (.int z47v), (.int z24)]) (rest := []) (lenOf pd_1 rfl) rfl (by show 2 * 0 + _ ≤ _; exact Nat.le_of_eq rfl) (hb hby at_142) (fun _ _ => ⟨rfl, rfl, (by decide : 1 + 1 ≤ _), (by decide : 4 + 4 ≤ _)⟩)
  dsimp only [Pt.U, Pt.locs, Pt.cells, Pt.slots] at X54 l54 y54 z54 st54 hQ54
  rw [l54, y54, z54] at X54
  have X54 := X54.mono (cells' := 2) (slots' := 8) (by decide) (by decide)
  obtain ⟨b54, ct54, rfl, Nq54, K54k, sz54, Tt54, At54⟩ := hQ54
  have N54n := Fr.app N50n Nq54
  have F55 := own_tab_keep Tt50 K54k nin0
  have Z56 := Nat.le_trans Z51 K54k.1
  have P57 : own_Pr p.tables e below S0 T54 (mkF m 145 #[.val (.int p1), .val (.int p2), .val (.int p3), .val (.int p4), .val (.int z22), .val (.int z24), .val (.int z26v), .val (.int z29v), .val (.int z32v), .val (.int z35v), .val (.int z38v), .val (.int z41v), .val (.int z44v), .val (.int z47v), .val (.ref b50), .unset, .unset, .unset, .unset, .unset, .unset, .unset, .unset, .unset, .unset, .unset, .unset, .unset, .unset, .unset, .unset, .unset, .unset, .unset, .unset, .unset, .unset, .unset, .unset, .unset, .unset, .unset] [(.ref b54)]) := fun t k => P53 t (st54 _ k)
  have P58 : own_Pr p.tables e below S0 T54 (mkF m 151 #[.val (.int p1), .val (.int p2), .val (.int p3), .val (.int p4), .val (.int z22), .val (.int z24), .val (.int z26v), .val (.int z29v), .val (.int z32v), .val (.int z35v), .val (.int z38v), .val (.int z41v), .val (.int z44v), .val (.int z47v), .val (.ref b50), .val (.ref b54), .unset, .unset, .unset, .unset, .unset, .unset, .unset, .unset, .unset, .unset, .unset, .unset, .unset, .unset, .unset, .unset, .unset, .unset, .unset, .unset, .unset, .unset, .unset, .unset, .unset, .unset] [(.ref b54), (.ref b50)]) := fun t k => P57 t (by
    refine XS.astore X54.here hx rfl (hb hby at_145) rfl rfl (l' := #[.val (.int p1), .val (.int p2), .val (.int p3), .val (.int p4), .val (.int z22), .val (.int z24), .val (.int z26v), .val (.int z29v), .val (.int z32v), .val (.int z35v), .val (.int z38v), .val (.int z41v), .val (.int z44v), .val (.int z47v), .val (.ref b50), .val (.ref b54), .unset, .unset, .unset, .unset, .unset, .unset, .unset, .unset, .unset, .unset, .unset, .unset, .unset, .unset, .unset, .unset, .unset, .unset, .unset, .unset, .unset, .unset, .unset, .unset, .unset, .unset]) rfl ?_
    refine XS.aload X54.here hx rfl (hb hby at_147) rfl rfl ?_
    refine XS.aload X54.here hx rfl (hb hby at_149) rfl rfl ?_
    exact k)
  have HRES := own_matches_ok (own_five1 hz22) (own_five2 hz24) At50 At54
  obtain ⟨RES, hRES⟩ : ∃ z, z = own_dp z22 z24 z26v z29v z32v z35v z38v z41v z44v z47v := ⟨_, rfl⟩
  rw [← hRES] at HRES
  obtain ⟨_, _, ⟨T59, L59, k59, n59⟩, -, X59, ⟨Lc59, hQ59, l59, y59, z59⟩, st59⟩ := Jvm.LawKit.callS X54 hx (y := (⟨"com/example/ferryline/ferryline/UriWorkerMap", "matches", "([I[I)Z"⟩ : MethodName)) hown (mvT hZ (hw _ (List.mem_of_getElem? (i := 11) rfl))) (mvT hZ (hw _ (List.mem_of_getElem? (i := 12) rfl))) (mvT hZ (hw _ (List.mem_of_getElem? (i := 13) rfl))) (mvT hZ (hw _ (List.mem_of_getElem? (i := 14) rfl))) (by decide) (backOf (W := 0) (rm4 l Z a0 hw [] b50 b54 ct50 ct54 z22 z24 RES T54.heap n0 Z56 F55 Tt54 HRES) hZ (hw _ (List.mem_of_getElem? (i := 14) rfl)) (hw _ (List.mem_of_getElem? (i := 13) rfl)) (by decide) (by decide)) (g := (mkF m 151 #[.val (.int p1), .val (.int p2), .val (.int p3), .val (.int p4), .val (.int z22), .val (.int z24), .val (.int z26v), .val (.int z29v), .val (.int z32v), .val (.int z35v), .val (.int z38v), .val (.int z41v), .val (.int z44v), .val (.int z47v), .val (.ref b50), .val (.ref b54), .unset, .unset, .unset, .unset, .unset, .unset, .unset, .unset, .unset, .unset, .unset, .unset, .unset, .unset, .unset, .unset, .unset, .unset, .unset, .unset, .unset, .unset, .unset, .unset, .unset, .unset] [(.ref b54), (.ref b50)])) rfl (by rw [hml]; rfl) (argsL := [(.ref b50), (.ref b54)]) (rest := []) (lenOf pd_2 rfl) rfl (by show 2 * 0 + _ ≤ _; exact Nat.le_of_eq rfl) (hb hby at_151) (fun _ _ => ⟨rfl, rfl, (by decide : 2 + 0 ≤ _), (by decide : 8 + 0 ≤ _)⟩)
  dsimp only [Pt.U, Pt.locs, Pt.cells, Pt.slots] at X59 l59 y59 z59 st59 hQ59
  rw [l59, y59, z59] at X59
  have X59 := X59.mono (cells' := 2) (slots' := 8) (by decide) (by decide)
  obtain ⟨z59v, rfl, hz59v, Nq59, eq59⟩ := hQ59
  have N59n := Fr.app N54n Nq59
  have P60 : own_Pr p.tables e below S0 T59 (mkF m 154 #[.val (.int p1), .val (.int p2), .val (.int p3), .val (.int p4), .val (.int z22), .val (.int z24), .val (.int z26v), .val (.int z29v), .val (.int z32v), .val (.int z35v), .val (.int z38v), .val (.int z41v), .val (.int z44v), .val (.int z47v), .val (.ref b50), .val (.ref b54), .unset, .unset, .unset, .unset, .unset, .unset, .unset, .unset, .unset, .unset, .unset, .unset, .unset, .unset, .unset, .unset, .unset, .unset, .unset, .unset, .unset, .unset, .unset, .unset, .unset, .unset] [(.int z59v)]) := fun t k => P58 t (st59 _ k)
  have P61 : own_Pr p.tables e below S0 T59 (mkF m 159 #[.val (.int p1), .val (.int p2), .val (.int p3), .val (.int p4), .val (.int z22), .val (.int z24), .val (.int z26v), .val (.int z29v), .val (.int z32v), .val (.int z35v), .val (.int z38v), .val (.int z41v), .val (.int z44v), .val (.int z47v), .val (.ref b50), .val (.ref b54), .val (.int z59v), .unset, .unset, .unset, .unset, .unset, .unset, .unset, .unset, .unset, .unset, .unset, .unset, .unset, .unset, .unset, .unset, .unset, .unset, .unset, .unset, .unset, .unset, .unset, .unset, .unset] [(.int (4 : Int32)), (.int z24)]) := fun t k => P60 t (by
    refine XS.istore X59.here hx rfl (hb hby at_154) rfl (l' := #[.val (.int p1), .val (.int p2), .val (.int p3), .val (.int p4), .val (.int z22), .val (.int z24), .val (.int z26v), .val (.int z29v), .val (.int z32v), .val (.int z35v), .val (.int z38v), .val (.int z41v), .val (.int z44v), .val (.int z47v), .val (.ref b50), .val (.ref b54), .val (.int z59v), .unset, .unset, .unset, .unset, .unset, .unset, .unset, .unset, .unset, .unset, .unset, .unset, .unset, .unset, .unset, .unset, .unset, .unset, .unset, .unset, .unset, .unset, .unset, .unset, .unset]) rfl ?_
    refine XS.iload X59.here hx rfl (hb hby at_156) rfl ?_
    refine XS.iconst X59.here hx rfl (hb hby at_158) ?_
    exact k)
  have P63 : own_Pr p.tables e below S0 T59 (mkF m 167 #[.val (.int p1), .val (.int p2), .val (.int p3), .val (.int p4), .val (.int z22), .val (.int z24), .val (.int z26v), .val (.int z29v), .val (.int z32v), .val (.int z35v), .val (.int z38v), .val (.int z41v), .val (.int z44v), .val (.int z47v), .val (.ref b50), .val (.ref b54), .val (.int z59v), .unset, .unset, .unset, .unset, .unset, .unset, .unset, .unset, .unset, .unset, .unset, .unset, .unset, .unset, .unset, .unset, .unset, .unset, .unset, .unset, .unset, .unset, .unset, .unset, .unset] [(.int (if z24 = (4 : Int32) then (1 : Int32) else (0 : Int32)))]) := fun t k => P61 t (by
    by_cases hq159_62 : z24 = (4 : Int32)
    · rw [if_pos hq159_62] at k
      refine XS.icmpNo X59.here hx rfl (hb hby at_159) rfl (XT.ii_ne_f hq159_62) ?_
      show Steps p.tables e below (T59.setTop (mkF m 162 #[.val (.int p1), .val (.int p2), .val (.int p3), .val (.int p4), .val (.int z22), .val (.int z24), .val (.int z26v), .val (.int z29v), .val (.int z32v), .val (.int z35v), .val (.int z38v), .val (.int z41v), .val (.int z44v), .val (.int z47v), .val (.ref b50), .val (.ref b54), .val (.int z59v), .unset, .unset, .unset, .unset, .unset, .unset, .unset, .unset, .unset, .unset, .unset, .unset, .unset, .unset, .unset, .unset, .unset, .unset, .unset, .unset, .unset, .unset, .unset, .unset, .unset] [])) _
      refine XS.iconst X59.here hx rfl (hb hby at_162) ?_
      show Steps p.tables e below (T59.setTop (mkF m 163 #[.val (.int p1), .val (.int p2), .val (.int p3), .val (.int p4), .val (.int z22), .val (.int z24), .val (.int z26v), .val (.int z29v), .val (.int z32v), .val (.int z35v), .val (.int z38v), .val (.int z41v), .val (.int z44v), .val (.int z47v), .val (.ref b50), .val (.ref b54), .val (.int z59v), .unset, .unset, .unset, .unset, .unset, .unset, .unset, .unset, .unset, .unset, .unset, .unset, .unset, .unset, .unset, .unset, .unset, .unset, .unset, .unset, .unset, .unset, .unset, .unset, .unset] [(.int (1 : Int32))])) _
      refine XS.goto X59.here hx rfl (pc0 := 163) (pc' := 167) rfl (hb hby at_163) (by decide) (by decide) ?_
      show Steps p.tables e below (T59.setTop (mkF m 167 #[.val (.int p1), .val (.int p2), .val (.int p3), .val (.int p4), .val (.int z22), .val (.int z24), .val (.int z26v), .val (.int z29v), .val (.int z32v), .val (.int z35v), .val (.int z38v), .val (.int z41v), .val (.int z44v), .val (.int z47v), .val (.ref b50), .val (.ref b54), .val (.int z59v), .unset, .unset, .unset, .unset, .unset, .unset, .unset, .unset, .unset, .unset, .unset, .unset, .unset, .unset, .unset, .unset, .unset, .unset, .unset, .unset, .unset, .unset, .unset, .unset, .unset] [(.int (1 : Int32))])) _
      exact k
    · rw [if_neg hq159_62] at k
      refine XS.icmpYes X59.here hx rfl (pc0 := 159) (pc' := 166) rfl (hb hby at_159) rfl (XT.ii_ne_t hq159_62) (by decide) (by decide) ?_
      show Steps p.tables e below (T59.setTop (mkF m 166 #[.val (.int p1), .val (.int p2), .val (.int p3), .val (.int p4), .val (.int z22), .val (.int z24), .val (.int z26v), .val (.int z29v), .val (.int z32v), .val (.int z35v), .val (.int z38v), .val (.int z41v), .val (.int z44v), .val (.int z47v), .val (.ref b50), .val (.ref b54), .val (.int z59v), .unset, .unset, .unset, .unset, .unset, .unset, .unset, .unset, .unset, .unset, .unset, .unset, .unset, .unset, .unset, .unset, .unset, .unset, .unset, .unset, .unset, .unset, .unset, .unset, .unset] [])) _
      refine XS.iconst X59.here hx rfl (hb hby at_166) ?_
      show Steps p.tables e below (T59.setTop (mkF m 167 #[.val (.int p1), .val (.int p2), .val (.int p3), .val (.int p4), .val (.int z22), .val (.int z24), .val (.int z26v), .val (.int z29v), .val (.int z32v), .val (.int z35v), .val (.int z38v), .val (.int z41v), .val (.int z44v), .val (.int z47v), .val (.ref b50), .val (.ref b54), .val (.int z59v), .unset, .unset, .unset, .unset, .unset, .unset, .unset, .unset, .unset, .unset, .unset, .unset, .unset, .unset, .unset, .unset, .unset, .unset, .unset, .unset, .unset, .unset, .unset, .unset, .unset] [(.int (0 : Int32))])) _
      exact k)
  obtain ⟨z64, hz64⟩ : ∃ z, z = (if z24 = (4 : Int32) then (1 : Int32) else (0 : Int32)) := ⟨_, rfl⟩
  rw [← hz64] at P63
  have P65 : own_Pr p.tables e below S0 T59 (mkF m 172 #[.val (.int p1), .val (.int p2), .val (.int p3), .val (.int p4), .val (.int z22), .val (.int z24), .val (.int z26v), .val (.int z29v), .val (.int z32v), .val (.int z35v), .val (.int z38v), .val (.int z41v), .val (.int z44v), .val (.int z47v), .val (.ref b50), .val (.ref b54), .val (.int z59v), .val (.int z64), .unset, .unset, .unset, .unset, .unset, .unset, .unset, .unset, .unset, .unset, .unset, .unset, .unset, .unset, .unset, .unset, .unset, .unset, .unset, .unset, .unset, .unset, .unset, .unset] [(.int (3 : Int32)), (.int z24)]) := fun t k => P63 t (by
    refine XS.istore X59.here hx rfl (hb hby at_167) rfl (l' := #[.val (.int p1), .val (.int p2), .val (.int p3), .val (.int p4), .val (.int z22), .val (.int z24), .val (.int z26v), .val (.int z29v), .val (.int z32v), .val (.int z35v), .val (.int z38v), .val (.int z41v), .val (.int z44v), .val (.int z47v), .val (.ref b50), .val (.ref b54), .val (.int z59v), .val (.int z64), .unset, .unset, .unset, .unset, .unset, .unset, .unset, .unset, .unset, .unset, .unset, .unset, .unset, .unset, .unset, .unset, .unset, .unset, .unset, .unset, .unset, .unset, .unset, .unset]) rfl ?_
    refine XS.iload X59.here hx rfl (hb hby at_169) rfl ?_
    refine XS.iconst X59.here hx rfl (hb hby at_171) ?_
    exact k)
  have P67 : own_Pr p.tables e below S0 T59 (mkF m 180 #[.val (.int p1), .val (.int p2), .val (.int p3), .val (.int p4), .val (.int z22), .val (.int z24), .val (.int z26v), .val (.int z29v), .val (.int z32v), .val (.int z35v), .val (.int z38v), .val (.int z41v), .val (.int z44v), .val (.int z47v), .val (.ref b50), .val (.ref b54), .val (.int z59v), .val (.int z64), .unset, .unset, .unset, .unset, .unset, .unset, .unset, .unset, .unset, .unset, .unset, .unset, .unset, .unset, .unset, .unset, .unset, .unset, .unset, .unset, .unset, .unset, .unset, .unset] [(.int (if z24 = (3 : Int32) then (1 : Int32) else (0 : Int32)))]) := fun t k => P65 t (by
    by_cases hq172_66 : z24 = (3 : Int32)
    · rw [if_pos hq172_66] at k
      refine XS.icmpNo X59.here hx rfl (hb hby at_172) rfl (XT.ii_ne_f hq172_66) ?_
      show Steps p.tables e below (T59.setTop (mkF m 175 #[.val (.int p1), .val (.int p2), .val (.int p3), .val (.int p4), .val (.int z22), .val (.int z24), .val (.int z26v), .val (.int z29v), .val (.int z32v), .val (.int z35v), .val (.int z38v), .val (.int z41v), .val (.int z44v), .val (.int z47v), .val (.ref b50), .val (.ref b54), .val (.int z59v), .val (.int z64), .unset, .unset, .unset, .unset, .unset, .unset, .unset, .unset, .unset, .unset, .unset, .unset, .unset, .unset, .unset, .unset, .unset, .unset, .unset, .unset, .unset, .unset, .unset, .unset] [])) _
      refine XS.iconst X59.here hx rfl (hb hby at_175) ?_
      show Steps p.tables e below (T59.setTop (mkF m 176 #[.val (.int p1), .val (.int p2), .val (.int p3), .val (.int p4), .val (.int z22), .val (.int z24), .val (.int z26v), .val (.int z29v), .val (.int z32v), .val (.int z35v), .val (.int z38v), .val (.int z41v), .val (.int z44v), .val (.int z47v), .val (.ref b50), .val (.ref b54), .val (.int z59v), .val (.int z64), .unset, .unset, .unset, .unset, .unset, .unset, .unset, .unset, .unset, .unset, .unset, .unset, .unset, .unset, .unset, .unset, .unset, .unset, .unset, .unset, .unset, .unset, .unset, .unset] [(.int (1 : Int32))])) _
      refine XS.goto X59.here hx rfl (pc0 := 176) (pc' := 180) rfl (hb hby at_176) (by decide) (by decide) ?_
      show Steps p.tables e below (T59.setTop (mkF m 180 #[.val (.int p1), .val (.int p2), .val (.int p3), .val (.int p4), .val (.int z22), .val (.int z24), .val (.int z26v), .val (.int z29v), .val (.int z32v), .val (.int z35v), .val (.int z38v), .val (.int z41v), .val (.int z44v), .val (.int z47v), .val (.ref b50), .val (.ref b54), .val (.int z59v), .val (.int z64), .unset, .unset, .unset, .unset, .unset, .unset, .unset, .unset, .unset, .unset, .unset, .unset, .unset, .unset, .unset, .unset, .unset, .unset, .unset, .unset, .unset, .unset, .unset, .unset] [(.int (1 : Int32))])) _
      exact k
    · rw [if_neg hq172_66] at k
      refine XS.icmpYes X59.here hx rfl (pc0 := 172) (pc' := 179) rfl (hb hby at_172) rfl (XT.ii_ne_t hq172_66) (by decide) (by decide) ?_
      show Steps p.tables e below (T59.setTop (mkF m 179 #[.val (.int p1), .val (.int p2), .val (.int p3), .val (.int p4), .val (.int z22), .val (.int z24), .val (.int z26v), .val (.int z29v), .val (.int z32v), .val (.int z35v), .val (.int z38v), .val (.int z41v), .val (.int z44v), .val (.int z47v), .val (.ref b50), .val (.ref b54), .val (.int z59v), .val (.int z64), .unset, .unset, .unset, .unset, .unset, .unset, .unset, .unset, .unset, .unset, .unset, .unset, .unset, .unset, .unset, .unset, .unset, .unset, .unset, .unset, .unset, .unset, .unset, .unset] [])) _
      refine XS.iconst X59.here hx rfl (hb hby at_179) ?_
      show Steps p.tables e below (T59.setTop (mkF m 180 #[.val (.int p1), .val (.int p2), .val (.int p3), .val (.int p4), .val (.int z22), .val (.int z24), .val (.int z26v), .val (.int z29v), .val (.int z32v), .val (.int z35v), .val (.int z38v), .val (.int z41v), .val (.int z44v), .val (.int z47v), .val (.ref b50), .val (.ref b54), .val (.int z59v), .val (.int z64), .unset, .unset, .unset, .unset, .unset, .unset, .unset, .unset, .unset, .unset, .unset, .unset, .unset, .unset, .unset, .unset, .unset, .unset, .unset, .unset, .unset, .unset, .unset, .unset] [(.int (0 : Int32))])) _
      exact k)
  obtain ⟨z68, hz68⟩ : ∃ z, z = (if z24 = (3 : Int32) then (1 : Int32) else (0 : Int32)) := ⟨_, rfl⟩
  rw [← hz68] at P67
  have P69 : own_Pr p.tables e below S0 T59 (mkF m 185 #[.val (.int p1), .val (.int p2), .val (.int p3), .val (.int p4), .val (.int z22), .val (.int z24), .val (.int z26v), .val (.int z29v), .val (.int z32v), .val (.int z35v), .val (.int z38v), .val (.int z41v), .val (.int z44v), .val (.int z47v), .val (.ref b50), .val (.ref b54), .val (.int z59v), .val (.int z64), .val (.int z68), .unset, .unset, .unset, .unset, .unset, .unset, .unset, .unset, .unset, .unset, .unset, .unset, .unset, .unset, .unset, .unset, .unset, .unset, .unset, .unset, .unset, .unset, .unset] [(.int (2 : Int32)), (.int z24)]) := fun t k => P67 t (by
    refine XS.istore X59.here hx rfl (hb hby at_180) rfl (l' := #[.val (.int p1), .val (.int p2), .val (.int p3), .val (.int p4), .val (.int z22), .val (.int z24), .val (.int z26v), .val (.int z29v), .val (.int z32v), .val (.int z35v), .val (.int z38v), .val (.int z41v), .val (.int z44v), .val (.int z47v), .val (.ref b50), .val (.ref b54), .val (.int z59v), .val (.int z64), .val (.int z68), .unset, .unset, .unset, .unset, .unset, .unset, .unset, .unset, .unset, .unset, .unset, .unset, .unset, .unset, .unset, .unset, .unset, .unset, .unset, .unset, .unset, .unset, .unset]) rfl ?_
    refine XS.iload X59.here hx rfl (hb hby at_182) rfl ?_
    refine XS.iconst X59.here hx rfl (hb hby at_184) ?_
    exact k)
  have P71 : own_Pr p.tables e below S0 T59 (mkF m 193 #[.val (.int p1), .val (.int p2), .val (.int p3), .val (.int p4), .val (.int z22), .val (.int z24), .val (.int z26v), .val (.int z29v), .val (.int z32v), .val (.int z35v), .val (.int z38v), .val (.int z41v), .val (.int z44v), .val (.int z47v), .val (.ref b50), .val (.ref b54), .val (.int z59v), .val (.int z64), .val (.int z68), .unset, .unset, .unset, .unset, .unset, .unset, .unset, .unset, .unset, .unset, .unset, .unset, .unset, .unset, .unset, .unset, .unset, .unset, .unset, .unset, .unset, .unset, .unset] [(.int (if z24 = (2 : Int32) then (1 : Int32) else (0 : Int32)))]) := fun t k => P69 t (by
    by_cases hq185_70 : z24 = (2 : Int32)
    · rw [if_pos hq185_70] at k
      refine XS.icmpNo X59.here hx rfl (hb hby at_185) rfl (XT.ii_ne_f hq185_70) ?_
      show Steps p.tables e below (T59.setTop (mkF m 188 #[.val (.int p1), .val (.int p2), .val (.int p3), .val (.int p4), .val (.int z22), .val (.int z24), .val (.int z26v), .val (.int z29v), .val (.int z32v), .val (.int z35v), .val (.int z38v), .val (.int z41v), .val (.int z44v), .val (.int z47v), .val (.ref b50), .val (.ref b54), .val (.int z59v), .val (.int z64), .val (.int z68), .unset, .unset, .unset, .unset, .unset, .unset, .unset, .unset, .unset, .unset, .unset, .unset, .unset, .unset, .unset, .unset, .unset, .unset, .unset, .unset, .unset, .unset, .unset] [])) _
      refine XS.iconst X59.here hx rfl (hb hby at_188) ?_
      show Steps p.tables e below (T59.setTop (mkF m 189 #[.val (.int p1), .val (.int p2), .val (.int p3), .val (.int p4), .val (.int z22), .val (.int z24), .val (.int z26v), .val (.int z29v), .val (.int z32v), .val (.int z35v), .val (.int z38v), .val (.int z41v), .val (.int z44v), .val (.int z47v), .val (.ref b50), .val (.ref b54), .val (.int z59v), .val (.int z64), .val (.int z68), .unset, .unset, .unset, .unset, .unset, .unset, .unset, .unset, .unset, .unset, .unset, .unset, .unset, .unset, .unset, .unset, .unset, .unset, .unset, .unset, .unset, .unset, .unset] [(.int (1 : Int32))])) _
      refine XS.goto X59.here hx rfl (pc0 := 189) (pc' := 193) rfl (hb hby at_189) (by decide) (by decide) ?_
      show Steps p.tables e below (T59.setTop (mkF m 193 #[.val (.int p1), .val (.int p2), .val (.int p3), .val (.int p4), .val (.int z22), .val (.int z24), .val (.int z26v), .val (.int z29v), .val (.int z32v), .val (.int z35v), .val (.int z38v), .val (.int z41v), .val (.int z44v), .val (.int z47v), .val (.ref b50), .val (.ref b54), .val (.int z59v), .val (.int z64), .val (.int z68), .unset, .unset, .unset, .unset, .unset, .unset, .unset, .unset, .unset, .unset, .unset, .unset, .unset, .unset, .unset, .unset, .unset, .unset, .unset, .unset, .unset, .unset, .unset] [(.int (1 : Int32))])) _
      exact k
    · rw [if_neg hq185_70] at k
      refine XS.icmpYes X59.here hx rfl (pc0 := 185) (pc' := 192) rfl (hb hby at_185) rfl (XT.ii_ne_t hq185_70) (by decide) (by decide) ?_
      show Steps p.tables e below (T59.setTop (mkF m 192 #[.val (.int p1), .val (.int p2), .val (.int p3), .val (.int p4), .val (.int z22), .val (.int z24), .val (.int z26v), .val (.int z29v), .val (.int z32v), .val (.int z35v), .val (.int z38v), .val (.int z41v), .val (.int z44v), .val (.int z47v), .val (.ref b50), .val (.ref b54), .val (.int z59v), .val (.int z64), .val (.int z68), .unset, .unset, .unset, .unset, .unset, .unset, .unset, .unset, .unset, .unset, .unset, .unset, .unset, .unset, .unset, .unset, .unset, .unset, .unset, .unset, .unset, .unset, .unset] [])) _
      refine XS.iconst X59.here hx rfl (hb hby at_192) ?_
      show Steps p.tables e below (T59.setTop (mkF m 193 #[.val (.int p1), .val (.int p2), .val (.int p3), .val (.int p4), .val (.int z22), .val (.int z24), .val (.int z26v), .val (.int z29v), .val (.int z32v), .val (.int z35v), .val (.int z38v), .val (.int z41v), .val (.int z44v), .val (.int z47v), .val (.ref b50), .val (.ref b54), .val (.int z59v), .val (.int z64), .val (.int z68), .unset, .unset, .unset, .unset, .unset, .unset, .unset, .unset, .unset, .unset, .unset, .unset, .unset, .unset, .unset, .unset, .unset, .unset, .unset, .unset, .unset, .unset, .unset] [(.int (0 : Int32))])) _
      exact k)
  obtain ⟨z72, hz72⟩ : ∃ z, z = (if z24 = (2 : Int32) then (1 : Int32) else (0 : Int32)) := ⟨_, rfl⟩
  rw [← hz72] at P71
  have P73 : own_Pr p.tables e below S0 T59 (mkF m 198 #[.val (.int p1), .val (.int p2), .val (.int p3), .val (.int p4), .val (.int z22), .val (.int z24), .val (.int z26v), .val (.int z29v), .val (.int z32v), .val (.int z35v), .val (.int z38v), .val (.int z41v), .val (.int z44v), .val (.int z47v), .val (.ref b50), .val (.ref b54), .val (.int z59v), .val (.int z64), .val (.int z68), .val (.int z72), .unset, .unset, .unset, .unset, .unset, .unset, .unset, .unset, .unset, .unset, .unset, .unset, .unset, .unset, .unset, .unset, .unset, .unset, .unset, .unset, .unset, .unset] [(.int (1 : Int32)), (.int z24)]) := fun t k => P71 t (by
    refine XS.istore X59.here hx rfl (hb hby at_193) rfl (l' := #[.val (.int p1), .val (.int p2), .val (.int p3), .val (.int p4), .val (.int z22), .val (.int z24), .val (.int z26v), .val (.int z29v), .val (.int z32v), .val (.int z35v), .val (.int z38v), .val (.int z41v), .val (.int z44v), .val (.int z47v), .val (.ref b50), .val (.ref b54), .val (.int z59v), .val (.int z64), .val (.int z68), .val (.int z72), .unset, .unset, .unset, .unset, .unset, .unset, .unset, .unset, .unset, .unset, .unset, .unset, .unset, .unset, .unset, .unset, .unset, .unset, .unset, .unset, .unset, .unset]) rfl ?_
    refine XS.iload X59.here hx rfl (hb hby at_195) rfl ?_
    refine XS.iconst X59.here hx rfl (hb hby at_197) ?_
    exact k)
  have P75 : own_Pr p.tables e below S0 T59 (mkF m 206 #[.val (.int p1), .val (.int p2), .val (.int p3), .val (.int p4), .val (.int z22), .val (.int z24), .val (.int z26v), .val (.int z29v), .val (.int z32v), .val (.int z35v), .val (.int z38v), .val (.int z41v), .val (.int z44v), .val (.int z47v), .val (.ref b50), .val (.ref b54), .val (.int z59v), .val (.int z64), .val (.int z68), .val (.int z72), .unset, .unset, .unset, .unset, .unset, .unset, .unset, .unset, .unset, .unset, .unset, .unset, .unset, .unset, .unset, .unset, .unset, .unset, .unset, .unset, .unset, .unset] [(.int (if z24 = (1 : Int32) then (1 : Int32) else (0 : Int32)))]) := fun t k => P73 t (by
    by_cases hq198_74 : z24 = (1 : Int32)
    · rw [if_pos hq198_74] at k
      refine XS.icmpNo X59.here hx rfl (hb hby at_198) rfl (XT.ii_ne_f hq198_74) ?_
      show Steps p.tables e below (T59.setTop (mkF m 201 #[.val (.int p1), .val (.int p2), .val (.int p3), .val (.int p4), .val (.int z22), .val (.int z24), .val (.int z26v), .val (.int z29v), .val (.int z32v), .val (.int z35v), .val (.int z38v), .val (.int z41v), .val (.int z44v), .val (.int z47v), .val (.ref b50), .val (.ref b54), .val (.int z59v), .val (.int z64), .val (.int z68), .val (.int z72), .unset, .unset, .unset, .unset, .unset, .unset, .unset, .unset, .unset, .unset, .unset, .unset, .unset, .unset, .unset, .unset, .unset, .unset, .unset, .unset, .unset, .unset] [])) _
      refine XS.iconst X59.here hx rfl (hb hby at_201) ?_
      show Steps p.tables e below (T59.setTop (mkF m 202 #[.val (.int p1), .val (.int p2), .val (.int p3), .val (.int p4), .val (.int z22), .val (.int z24), .val (.int z26v), .val (.int z29v), .val (.int z32v), .val (.int z35v), .val (.int z38v), .val (.int z41v), .val (.int z44v), .val (.int z47v), .val (.ref b50), .val (.ref b54), .val (.int z59v), .val (.int z64), .val (.int z68), .val (.int z72), .unset, .unset, .unset, .unset, .unset, .unset, .unset, .unset, .unset, .unset, .unset, .unset, .unset, .unset, .unset, .unset, .unset, .unset, .unset, .unset, .unset, .unset] [(.int (1 : Int32))])) _
      refine XS.goto X59.here hx rfl (pc0 := 202) (pc' := 206) rfl (hb hby at_202) (by decide) (by decide) ?_
      show Steps p.tables e below (T59.setTop (mkF m 206 #[.val (.int p1), .val (.int p2), .val (.int p3), .val (.int p4), .val (.int z22), .val (.int z24), .val (.int z26v), .val (.int z29v), .val (.int z32v), .val (.int z35v), .val (.int z38v), .val (.int z41v), .val (.int z44v), .val (.int z47v), .val (.ref b50), .val (.ref b54), .val (.int z59v), .val (.int z64), .val (.int z68), .val (.int z72), .unset, .unset, .unset, .unset, .unset, .unset, .unset, .unset, .unset, .unset, .unset, .unset, .unset, .unset, .unset, .unset, .unset, .unset, .unset, .unset, .unset, .unset] [(.int (1 : Int32))])) _
      exact k
    · rw [if_neg hq198_74] at k
      refine XS.icmpYes X59.here hx rfl (pc0 := 198) (pc' := 205) rfl (hb hby at_198) rfl (XT.ii_ne_t hq198_74) (by decide) (by decide) ?_
      show Steps p.tables e below (T59.setTop (mkF m 205 #[.val (.int p1), .val (.int p2), .val (.int p3), .val (.int p4), .val (.int z22), .val (.int z24), .val (.int z26v), .val (.int z29v), .val (.int z32v), .val (.int z35v), .val (.int z38v), .val (.int z41v), .val (.int z44v), .val (.int z47v), .val (.ref b50), .val (.ref b54), .val (.int z59v), .val (.int z64), .val (.int z68), .val (.int z72), .unset, .unset, .unset, .unset, .unset, .unset, .unset, .unset, .unset, .unset, .unset, .unset, .unset, .unset, .unset, .unset, .unset, .unset, .unset, .unset, .unset, .unset] [])) _
      refine XS.iconst X59.here hx rfl (hb hby at_205) ?_
      show Steps p.tables e below (T59.setTop (mkF m 206 #[.val (.int p1), .val (.int p2), .val (.int p3), .val (.int p4), .val (.int z22), .val (.int z24), .val (.int z26v), .val (.int z29v), .val (.int z32v), .val (.int z35v), .val (.int z38v), .val (.int z41v), .val (.int z44v), .val (.int z47v), .val (.ref b50), .val (.ref b54), .val (.int z59v), .val (.int z64), .val (.int z68), .val (.int z72), .unset, .unset, .unset, .unset, .unset, .unset, .unset, .unset, .unset, .unset, .unset, .unset, .unset, .unset, .unset, .unset, .unset, .unset, .unset, .unset, .unset, .unset] [(.int (0 : Int32))])) _
      exact k)
  obtain ⟨z76, hz76⟩ : ∃ z, z = (if z24 = (1 : Int32) then (1 : Int32) else (0 : Int32)) := ⟨_, rfl⟩
  rw [← hz76] at P75
  have P77 : own_Pr p.tables e below S0 T59 (mkF m 210 #[.val (.int p1), .val (.int p2), .val (.int p3), .val (.int p4), .val (.int z22), .val (.int z24), .val (.int z26v), .val (.int z29v), .val (.int z32v), .val (.int z35v), .val (.int z38v), .val (.int z41v), .val (.int z44v), .val (.int z47v), .val (.ref b50), .val (.ref b54), .val (.int z59v), .val (.int z64), .val (.int z68), .val (.int z72), .val (.int z76), .unset, .unset, .unset, .unset, .unset, .unset, .unset, .unset, .unset, .unset, .unset, .unset, .unset, .unset, .unset, .unset, .unset, .unset, .unset, .unset, .unset] [(.int z24)]) := fun t k => P75 t (by
    refine XS.istore X59.here hx rfl (hb hby at_206) rfl (l' := #[.val (.int p1), .val (.int p2), .val (.int p3), .val (.int p4), .val (.int z22), .val (.int z24), .val (.int z26v), .val (.int z29v), .val (.int z32v), .val (.int z35v), .val (.int z38v), .val (.int z41v), .val (.int z44v), .val (.int z47v), .val (.ref b50), .val (.ref b54), .val (.int z59v), .val (.int z64), .val (.int z68), .val (.int z72), .val (.int z76), .unset, .unset, .unset, .unset, .unset, .unset, .unset, .unset, .unset, .unset, .unset, .unset, .unset, .unset, .unset, .unset, .unset, .unset, .unset, .unset, .unset]) rfl ?_
    refine XS.iload X59.here hx rfl (hb hby at_208) rfl ?_
    exact k)
  have P79 : own_Pr p.tables e below S0 T59 (mkF m 218 #[.val (.int p1), .val (.int p2), .val (.int p3), .val (.int p4), .val (.int z22), .val (.int z24), .val (.int z26v), .val (.int z29v), .val (.int z32v), .val (.int z35v), .val (.int z38v), .val (.int z41v), .val (.int z44v), .val (.int z47v), .val (.ref b50), .val (.ref b54), .val (.int z59v), .val (.int z64), .val (.int z68), .val (.int z72), .val (.int z76), .unset, .unset, .unset, .unset, .unset, .unset, .unset, .unset, .unset, .unset, .unset, .unset, .unset, .unset, .unset, .unset, .unset, .unset, .unset, .unset, .unset] [(.int (if z24 = (0 : Int32) then (1 : Int32) else (0 : Int32)))]) := fun t k => P77 t (by
    by_cases hq210_78 : z24 = (0 : Int32)
    · rw [if_pos hq210_78] at k
      refine XS.ifNo X59.here hx rfl (hb hby at_210) rfl (XT.i0_ne_f hq210_78) ?_
      show Steps p.tables e below (T59.setTop (mkF m 213 #[.val (.int p1), .val (.int p2), .val (.int p3), .val (.int p4), .val (.int z22), .val (.int z24), .val (.int z26v), .val (.int z29v), .val (.int z32v), .val (.int z35v), .val (.int z38v), .val (.int z41v), .val (.int z44v), .val (.int z47v), .val (.ref b50), .val (.ref b54), .val (.int z59v), .val (.int z64), .val (.int z68), .val (.int z72), .val (.int z76), .unset, .unset, .unset, .unset, .unset, .unset, .unset, .unset, .unset, .unset, .unset, .unset, .unset, .unset, .unset, .unset, .unset, .unset, .unset, .unset, .unset] [])) _
      refine XS.iconst X59.here hx rfl (hb hby at_213) ?_
      show Steps p.tables e below (T59.setTop (mkF m 214 #[.val (.int p1), .val (.int p2), .val (.int p3), .val (.int p4), .val (.int z22), .val (.int z24), .val (.int z26v), .val (.int z29v), .val (.int z32v), .val (.int z35v), .val (.int z38v), .val (.int z41v), .val (.int z44v), .val (.int z47v), .val (.ref b50), .val (.ref b54), .val (.int z59v), .val (.int z64), .val (.int z68), .val (.int z72), .val (.int z76), .unset, .unset, .unset, .unset, .unset, .unset, .unset, .unset, .unset, .unset, .unset, .unset, .unset, .unset, .unset, .unset, .unset, .unset, .unset, .unset, .unset] [(.int (1 : Int32))])) _
      refine XS.goto X59.here hx rfl (pc0 := 214) (pc' := 218) rfl (hb hby at_214) (by decide) (by decide) ?_
      show Steps p.tables e below (T59.setTop (mkF m 218 #[.val (.int p1), .val (.int p2), .val (.int p3), .val (.int p4), .val (.int z22), .val (.int z24), .val (.int z26v), .val (.int z29v), .val (.int z32v), .val (.int z35v), .val (.int z38v), .val (.int z41v), .val (.int z44v), .val (.int z47v), .val (.ref b50), .val (.ref b54), .val (.int z59v), .val (.int z64), .val (.int z68), .val (.int z72), .val (.int z76), .unset, .unset, .unset, .unset, .unset, .unset, .unset, .unset, .unset, .unset, .unset, .unset, .unset, .unset, .unset, .unset, .unset, .unset, .unset, .unset, .unset] [(.int (1 : Int32))])) _
      exact k
    · rw [if_neg hq210_78] at k
      refine XS.ifYes X59.here hx rfl (pc0 := 210) (pc' := 217) rfl (hb hby at_210) rfl (XT.i0_ne_t hq210_78) (by decide) (by decide) ?_
      show Steps p.tables e below (T59.setTop (mkF m 217 #[.val (.int p1), .val (.int p2), .val (.int p3), .val (.int p4), .val (.int z22), .val (.int z24), .val (.int z26v), .val (.int z29v), .val (.int z32v), .val (.int z35v), .val (.int z38v), .val (.int z41v), .val (.int z44v), .val (.int z47v), .val (.ref b50), .val (.ref b54), .val (.int z59v), .val (.int z64), .val (.int z68), .val (.int z72), .val (.int z76), .unset, .unset, .unset, .unset, .unset, .unset, .unset, .unset, .unset, .unset, .unset, .unset, .unset, .unset, .unset, .unset, .unset, .unset, .unset, .unset, .unset] [])) _
      refine XS.iconst X59.here hx rfl (hb hby at_217) ?_
      show Steps p.tables e below (T59.setTop (mkF m 218 #[.val (.int p1), .val (.int p2), .val (.int p3), .val (.int p4), .val (.int z22), .val (.int z24), .val (.int z26v), .val (.int z29v), .val (.int z32v), .val (.int z35v), .val (.int z38v), .val (.int z41v), .val (.int z44v), .val (.int z47v), .val (.ref b50), .val (.ref b54), .val (.int z59v), .val (.int z64), .val (.int z68), .val (.int z72), .val (.int z76), .unset, .unset, .unset, .unset, .unset, .unset, .unset, .unset, .unset, .unset, .unset, .unset, .unset, .unset, .unset, .unset, .unset, .unset, .unset, .unset, .unset] [(.int (0 : Int32))])) _
      exact k)
  obtain ⟨z80, hz80⟩ : ∃ z, z = (if z24 = (0 : Int32) then (1 : Int32) else (0 : Int32)) := ⟨_, rfl⟩
  rw [← hz80] at P79
  have P81 : own_Pr p.tables e below S0 T59 (mkF m 233 #[.val (.int p1), .val (.int p2), .val (.int p3), .val (.int p4), .val (.int z22), .val (.int z24), .val (.int z26v), .val (.int z29v), .val (.int z32v), .val (.int z35v), .val (.int z38v), .val (.int z41v), .val (.int z44v), .val (.int z47v), .val (.ref b50), .val (.ref b54), .val (.int z59v), .val (.int z64), .val (.int z68), .val (.int z72), .val (.int z76), .val (.int z80), .unset, .unset, .unset, .unset, .unset, .unset, .unset, .unset, .unset, .unset, .unset, .unset, .unset, .unset, .unset, .unset, .unset, .unset, .unset, .unset] [(.int (0 : Int32)), (.int z64), (.int (0 : Int32)), (.int (0 : Int32)), (.int z35v), (.int z24), (.int z22), (.int (4 : Int32)), (.int (3 : Int32))]) := fun t k => P79 t (by
    refine XS.istore X59.here hx rfl (hb hby at_218) rfl (l' := #[.val (.int p1), .val (.int p2), .val (.int p3), .val (.int p4), .val (.int z22), .val (.int z24), .val (.int z26v), .val (.int z29v), .val (.int z32v), .val (.int z35v), .val (.int z38v), .val (.int z41v), .val (.int z44v), .val (.int z47v), .val (.ref b50), .val (.ref b54), .val (.int z59v), .val (.int z64), .val (.int z68), .val (.int z72), .val (.int z76), .val (.int z80), .unset, .unset, .unset, .unset, .unset, .unset, .unset, .unset, .unset, .unset, .unset, .unset, .unset, .unset, .unset, .unset, .unset, .unset, .unset, .unset]) rfl ?_
    refine XS.iconst X59.here hx rfl (hb hby at_220) ?_
    refine XS.iconst X59.here hx rfl (hb hby at_221) ?_
    refine XS.iload X59.here hx rfl (hb hby at_222) rfl ?_
    refine XS.iload X59.here hx rfl (hb hby at_224) rfl ?_
    refine XS.iload X59.here hx rfl (hb hby at_226) rfl ?_
    refine XS.iconst X59.here hx rfl (hb hby at_228) ?_
    refine XS.iconst X59.here hx rfl (hb hby at_229) ?_
    show Steps p.tables e below (T59.setTop (mkF m 230 #[.val (.int p1), .val (.int p2), .val (.int p3), .val (.int p4), .val (.int z22), .val (.int z24), .val (.int z26v), .val (.int z29v), .val (.int z32v), .val (.int z35v), .val (.int z38v), .val (.int z41v), .val (.int z44v), .val (.int z47v), .val (.ref b50), .val (.ref b54), .val (.int z59v), .val (.int z64), .val (.int z68), .val (.int z72), .val (.int z76), .val (.int z80), .unset, .unset, .unset, .unset, .unset, .unset, .unset, .unset, .unset, .unset, .unset, .unset, .unset, .unset, .unset, .unset, .unset, .unset, .unset, .unset] [(.int (0 : Int32)), (.int (0 : Int32)), (.int z35v), (.int z24), (.int z22), (.int (4 : Int32)), (.int (3 : Int32))])) _
    refine XS.iload X59.here hx rfl (hb hby at_230) rfl ?_
    refine XS.iconst X59.here hx rfl (hb hby at_232) ?_
    exact k)
  obtain ⟨_, _, ⟨T82, L82, k82, n82⟩, -, X82, ⟨Lc82, hQ82, l82, y82, z82⟩, st82⟩ := Jvm.LawKit.callS X59 hx (y := (⟨"com/example/ferryline/ferryline/UriWorkerMapMatchesPinLaw", "cell", "(IIIIIIZZZ)Z"⟩ : MethodName)) hown (mvT hZ (hw _ (List.mem_of_getElem? (i := 15) rfl))) (mvT hZ (hw _ (List.mem_of_getElem? (i := 16) rfl))) (mvT hZ (hw _ (List.mem_of_getElem? (i := 2) rfl))) (mvT hZ (hw _ (List.mem_of_getElem? (i := 17) rfl))) (by decide) (backOf (W := 0) (rm5 l Z a0 hw [] (3 : Int32) (4 : Int32) z22 z24 z35v (0 : Int32) (0 : Int32) z64 (0 : Int32)  T54.heap n0 Z56 ) hZ (hw _ (List.mem_of_getElem? (i := 17) rfl)) (hw _ (List.mem_of_getElem? (i := 2) rfl)) (by decide) (by decide)) (g := (mkF m 233 #[.val (.int p1), .val (.int p2), .val (.int p3), .val (.int p4), .val (.int z22), .val (.int z24), .val (.int z26v), .val (.int z29v), .val (.int z32v), .val (.int z35v), .val (.int z38v), .val (.int z41v), .val (.int z44v), .val (.int z47v), .val (.ref b50), .val (.ref b54), .val (.int z59v), .val (.int z64), .val (.int z68), .val (.int z72), .val (.int z76), .val (.int z80), .unset, .unset, .unset, .unset, .unset, .unset, .unset, .unset, .unset, .unset, .unset, .unset, .unset, .unset, .unset, .unset, .unset, .unset, .unset, .unset] [(.int (0 : Int32)), (.int z64), (.int (0 : Int32)), (.int (0 : Int32)), (.int z35v), (.int z24), (.int z22), (.int (4 : Int32)), (.int (3 : Int32))])) rfl (by rw [hml]; rfl) (argsL := [(.int (3 : Int32)), (.int (4 : Int32)), (.int z22), (.int z24), (.int z35v), (.int (0 : Int32)), (.int (0 : Int32)), (.int z64), (.int (0 : Int32))]) (rest := []) (lenOf pd_3 rfl) rfl (by show 2 * 0 + _ ≤ _; exact Nat.le_of_eq rfl) (hb hby at_233) (fun _ _ => ⟨rfl, eq59, (by decide : 2 + 0 ≤ _), (by decide : 8 + 0 ≤ _)⟩)
  dsimp only [Pt.U, Pt.locs, Pt.cells, Pt.slots] at X82 l82 y82 z82 st82 hQ82
  rw [l82, y82, z82] at X82
  have X82 := X82.mono (cells' := 2) (slots' := 8) (by decide) (by decide)
  obtain ⟨z82v, rfl, hz82v, Nq82, eq82⟩ := hQ82
  have N82n := Fr.app N59n Nq82
  have P83 : own_Pr p.tables e below S0 T82 (mkF m 236 #[.val (.int p1), .val (.int p2), .val (.int p3), .val (.int p4), .val (.int z22), .val (.int z24), .val (.int z26v), .val (.int z29v), .val (.int z32v), .val (.int z35v), .val (.int z38v), .val (.int z41v), .val (.int z44v), .val (.int z47v), .val (.ref b50), .val (.ref b54), .val (.int z59v), .val (.int z64), .val (.int z68), .val (.int z72), .val (.int z76), .val (.int z80), .unset, .unset, .unset, .unset, .unset, .unset, .unset, .unset, .unset, .unset, .unset, .unset, .unset, .unset, .unset, .unset, .unset, .unset, .unset, .unset] [(.int z82v)]) := fun t k => P81 t (st82 _ k)
  have P84 : own_Pr p.tables e below S0 T82 (mkF m 254 #[.val (.int p1), .val (.int p2), .val (.int p3), .val (.int p4), .val (.int z22), .val (.int z24), .val (.int z26v), .val (.int z29v), .val (.int z32v), .val (.int z35v), .val (.int z38v), .val (.int z41v), .val (.int z44v), .val (.int z47v), .val (.ref b50), .val (.ref b54), .val (.int z59v), .val (.int z64), .val (.int z68), .val (.int z72), .val (.int z76), .val (.int z80), .val (.int z82v), .unset, .unset, .unset, .unset, .unset, .unset, .unset, .unset, .unset, .unset, .unset, .unset, .unset, .unset, .unset, .unset, .unset, .unset, .unset] [(.int z64), (.int z68), (.int z82v), (.int z47v), (.int z35v), (.int z24), (.int z22), (.int (3 : Int32)), (.int (3 : Int32))]) := fun t k => P83 t (by
    refine XS.istore X82.here hx rfl (hb hby at_236) rfl (l' := #[.val (.int p1), .val (.int p2), .val (.int p3), .val (.int p4), .val (.int z22), .val (.int z24), .val (.int z26v), .val (.int z29v), .val (.int z32v), .val (.int z35v), .val (.int z38v), .val (.int z41v), .val (.int z44v), .val (.int z47v), .val (.ref b50), .val (.ref b54), .val (.int z59v), .val (.int z64), .val (.int z68), .val (.int z72), .val (.int z76), .val (.int z80), .val (.int z82v), .unset, .unset, .unset, .unset, .unset, .unset, .unset, .unset, .unset, .unset, .unset, .unset, .unset, .unset, .unset, .unset, .unset, .unset, .unset]) rfl ?_
    refine XS.iconst X82.here hx rfl (hb hby at_238) ?_
    refine XS.iconst X82.here hx rfl (hb hby at_239) ?_
    refine XS.iload X82.here hx rfl (hb hby at_240) rfl ?_
    refine XS.iload X82.here hx rfl (hb hby at_242) rfl ?_
    refine XS.iload X82.here hx rfl (hb hby at_244) rfl ?_
    refine XS.iload X82.here hx rfl (hb hby at_246) rfl ?_
    refine XS.iload X82.here hx rfl (hb hby at_248) rfl ?_
    show Steps p.tables e below (T82.setTop (mkF m 250 #[.val (.int p1), .val (.int p2), .val (.int p3), .val (.int p4), .val (.int z22), .val (.int z24), .val (.int z26v), .val (.int z29v), .val (.int z32v), .val (.int z35v), .val (.int z38v), .val (.int z41v), .val (.int z44v), .val (.int z47v), .val (.ref b50), .val (.ref b54), .val (.int z59v), .val (.int z64), .val (.int z68), .val (.int z72), .val (.int z76), .val (.int z80), .val (.int z82v), .unset, .unset, .unset, .unset, .unset, .unset, .unset, .unset, .unset, .unset, .unset, .unset, .unset, .unset, .unset, .unset, .unset, .unset, .unset] [(.int z82v), (.int z47v), (.int z35v), (.int z24), (.int z22), (.int (3 : Int32)), (.int (3 : Int32))])) _
    refine XS.iload X82.here hx rfl (hb hby at_250) rfl ?_
    refine XS.iload X82.here hx rfl (hb hby at_252) rfl ?_
    exact k)
  obtain ⟨_, _, ⟨T85, L85, k85, n85⟩, -, X85, ⟨Lc85, hQ85, l85, y85, z85⟩, st85⟩ := Jvm.LawKit.callS X82 hx (y := (⟨"com/example/ferryline/ferryline/UriWorkerMapMatchesPinLaw", "cell", "(IIIIIIZZZ)Z"⟩ : MethodName)) hown (mvT hZ (hw _ (List.mem_of_getElem? (i := 15) rfl))) (mvT hZ (hw _ (List.mem_of_getElem? (i := 16) rfl))) (mvT hZ (hw _ (List.mem_of_getElem? (i := 2) rfl))) (mvT hZ (hw _ (List.mem_of_getElem? (i := 17) rfl))) (by decide) (backOf (W := 0) (rm5 l Z a0 hw [] (3 : Int32) (3 : Int32) z22 z24 z35v z47v z82v z68 z64  T54.heap n0 Z56 ) hZ (hw _ (List.mem_of_getElem? (i := 17) rfl)) (hw _ (List.mem_of_getElem? (i := 2) rfl)) (by decide) (by decide)) (g := (mkF m 254 #[.val (.int p1), .val (.int p2), .val (.int p3), .val (.int p4), .val (.int z22), .val (.int z24), .val (.int z26v), .val (.int z29v), .val (.int z32v), .val (.int z35v), .val (.int z38v), .val (.int z41v), .val (.int z44v), .val (.int z47v), .val (.ref b50), .val (.ref b54), .val (.int z59v), .val (.int z64), .val (.int z68), .val (.int z72), .val (.int z76), .val (.int z80), .val (.int z82v), .unset, .unset, .unset, .unset, .unset, .unset, .unset, .unset, .unset, .unset, .unset, .unset, .unset, .unset, .unset, .unset, .unset, .unset, .unset] [(.int z64), (.int z68), (.int z82v), (.int z47v), (.int z35v), (.int z24), (.int z22), (.int (3 : Int32)), (.int (3 : Int32))])) rfl (by rw [hml]; rfl) (argsL := [(.int (3 : Int32)), (.int (3 : Int32)), (.int z22), (.int z24), (.int z35v), (.int z47v), (.int z82v), (.int z68), (.int z64)]) (rest := []) (lenOf pd_3 rfl) rfl (by show 2 * 0 + _ ≤ _; exact Nat.le_of_eq rfl) (hb hby at_254) (fun _ _ => ⟨rfl, eq82, (by decide : 2 + 0 ≤ _), (by decide : 8 + 0 ≤ _)⟩)
  dsimp only [Pt.U, Pt.locs, Pt.cells, Pt.slots] at X85 l85 y85 z85 st85 hQ85
  rw [l85, y85, z85] at X85
  have X85 := X85.mono (cells' := 2) (slots' := 8) (by decide) (by decide)
  obtain ⟨z85v, rfl, hz85v, Nq85, eq85⟩ := hQ85
  have N85n := Fr.app N82n Nq85
  have P86 : own_Pr p.tables e below S0 T85 (mkF m 257 #[.val (.int p1), .val (.int p2), .val (.int p3), .val (.int p4), .val (.int z22), .val (.int z24), .val (.int z26v), .val (.int z29v), .val (.int z32v), .val (.int z35v), .val (.int z38v), .val (.int z41v), .val (.int z44v), .val (.int z47v), .val (.ref b50), .val (.ref b54), .val (.int z59v), .val (.int z64), .val (.int z68), .val (.int z72), .val (.int z76), .val (.int z80), .val (.int z82v), .unset, .unset, .unset, .unset, .unset, .unset, .unset, .unset, .unset, .unset, .unset, .unset, .unset, .unset, .unset, .unset, .unset, .unset, .unset] [(.int z85v)]) := fun t k => P84 t (st85 _ k)
  have P87 : own_Pr p.tables e below S0 T85 (mkF m 275 #[.val (.int p1), .val (.int p2), .val (.int p3), .val (.int p4), .val (.int z22), .val (.int z24), .val (.int z26v), .val (.int z29v), .val (.int z32v), .val (.int z35v), .val (.int z38v), .val (.int z41v), .val (.int z44v), .val (.int z47v), .val (.ref b50), .val (.ref b54), .val (.int z59v), .val (.int z64), .val (.int z68), .val (.int z72), .val (.int z76), .val (.int z80), .val (.int z82v), .val (.int z85v), .unset, .unset, .unset, .unset, .unset, .unset, .unset, .unset, .unset, .unset, .unset, .unset, .unset, .unset, .unset, .unset, .unset, .unset] [(.int z68), (.int z72), (.int z85v), (.int z44v), (.int z35v), (.int z24), (.int z22), (.int (2 : Int32)), (.int (3 : Int32))]) := fun t k => P86 t (by
    refine XS.istore X85.here hx rfl (hb hby at_257) rfl (l' := #[.val (.int p1), .val (.int p2), .val (.int p3), .val (.int p4), .val (.int z22), .val (.int z24), .val (.int z26v), .val (.int z29v), .val (.int z32v), .val (.int z35v), .val (.int z38v), .val (.int z41v), .val (.int z44v), .val (.int z47v), .val (.ref b50), .val (.ref b54), .val (.int z59v), .val (.int z64), .val (.int z68), .val (.int z72), .val (.int z76), .val (.int z80), .val (.int z82v), .val (.int z85v), .unset, .unset, .unset, .unset, .unset, .unset, .unset, .unset, .unset, .unset, .unset, .unset, .unset, .unset, .unset, .unset, .unset, .unset]) rfl ?_
    refine XS.iconst X85.here hx rfl (hb hby at_259) ?_
    refine XS.iconst X85.here hx rfl (hb hby at_260) ?_
    refine XS.iload X85.here hx rfl (hb hby at_261) rfl ?_
    refine XS.iload X85.here hx rfl (hb hby at_263) rfl ?_
    refine XS.iload X85.here hx rfl (hb hby at_265) rfl ?_
    refine XS.iload X85.here hx rfl (hb hby at_267) rfl ?_
    refine XS.iload X85.here hx rfl (hb hby at_269) rfl ?_
    show Steps p.tables e below (T85.setTop (mkF m 271 #[.val (.int p1), .val (.int p2), .val (.int p3), .val (.int p4), .val (.int z22), .val (.int z24), .val (.int z26v), .val (.int z29v), .val (.int z32v), .val (.int z35v), .val (.int z38v), .val (.int z41v), .val (.int z44v), .val (.int z47v), .val (.ref b50), .val (.ref b54), .val (.int z59v), .val (.int z64), .val (.int z68), .val (.int z72), .val (.int z76), .val (.int z80), .val (.int z82v), .val (.int z85v), .unset, .unset, .unset, .unset, .unset, .unset, .unset, .unset, .unset, .unset, .unset, .unset, .unset, .unset, .unset, .unset, .unset, .unset] [(.int z85v), (.int z44v), (.int z35v), (.int z24), (.int z22), (.int (2 : Int32)), (.int (3 : Int32))])) _
    refine XS.iload X85.here hx rfl (hb hby at_271) rfl ?_
    refine XS.iload X85.here hx rfl (hb hby at_273) rfl ?_
    exact k)
  obtain ⟨_, _, ⟨T88, L88, k88, n88⟩, -, X88, ⟨Lc88, hQ88, l88, y88, z88⟩, st88⟩ := Jvm.LawKit.callS X85 hx (y := (⟨"com/example/ferryline/ferryline/UriWorkerMapMatchesPinLaw", "cell", "(IIIIIIZZZ)Z"⟩ : MethodName)) hown (mvT hZ (hw _ (List.mem_of_getElem? (i := 15) rfl))) (mvT hZ (hw _ (List.mem_of_getElem? (i := 16) rfl))) (mvT hZ (hw _ (List.mem_of_getElem? (i := 2) rfl))) (mvT hZ (hw _ (List.mem_of_getElem? (i := 17) rfl))) (by decide) (backOf (W := 0) (rm5 l Z a0 hw [] (3 : Int32) (2 : Int32) z22 z24 z35v z44v z85v z72 z68  T54.heap n0 Z56 ) hZ (hw _ (List.mem_of_getElem? (i := 17) rfl)) (hw _ (List.mem_of_getElem? (i := 2) rfl)) (by decide) (by decide)) (g := (mkF m 275 #[.val (.int p1), .val (.int p2), .val (.int p3), .val (.int p4), .val (.int z22), .val (.int z24), .val (.int z26v), .val (.int z29v), .val (.int z32v), .val (.int z35v), .val (.int z38v), .val (.int z41v), .val (.int z44v), .val (.int z47v), .val (.ref b50), .val (.ref b54), .val (.int z59v), .val (.int z64), .val (.int z68), .val (.int z72), .val (.int z76), .val (.int z80), .val (.int z82v), .val (.int z85v), .unset, .unset, .unset, .unset, .unset, .unset, .unset, .unset, .unset, .unset, .unset, .unset, .unset, .unset, .unset, .unset, .unset, .unset] [(.int z68), (.int z72), (.int z85v), (.int z44v), (.int z35v), (.int z24), (.int z22), (.int (2 : Int32)), (.int (3 : Int32))])) rfl (by rw [hml]; rfl) (argsL := [(.int (3 : Int32)), (.int (2 : Int32)), (.int z22), (.int z24), (.int z35v), (.int z44v), (.int z85v), (.int z72), (.int z68)]) (rest := []) (lenOf pd_3 rfl) rfl (by show 2 * 0 + _ ≤ _; exact Nat.le_of_eq rfl) (hb hby at_275) (fun _ _ => ⟨rfl, eq85, (by decide : 2 + 0 ≤ _), (by decide : 8 + 0 ≤ _)⟩)
  dsimp only [Pt.U, Pt.locs, Pt.cells, Pt.slots] at X88 l88 y88 z88 st88 hQ88
  rw [l88, y88, z88] at X88
  have X88 := X88.mono (cells' := 2) (slots' := 8) (by decide) (by decide)
  obtain ⟨z88v, rfl, hz88v, Nq88, eq88⟩ := hQ88
  have N88n := Fr.app N85n Nq88
  have P89 : own_Pr p.tables e below S0 T88 (mkF m 278 #[.val (.int p1), .val (.int p2), .val (.int p3), .val (.int p4), .val (.int z22), .val (.int z24), .val (.int z26v), .val (.int z29v), .val (.int z32v), .val (.int z35v), .val (.int z38v), .val (.int z41v), .val (.int z44v), .val (.int z47v), .val (.ref b50), .val (.ref b54), .val (.int z59v), .val (.int z64), .val (.int z68), .val (.int z72), .val (.int z76), .val (.int z80), .val (.int z82v), .val (.int z85v), .unset, .unset, .unset, .unset, .unset, .unset, .unset, .unset, .unset, .unset, .unset, .unset, .unset, .unset, .unset, .unset, .unset, .unset] [(.int z88v)]) := fun t k => P87 t (st88 _ k)
  have P90 : own_Pr p.tables e below S0 T88 (mkF m 296 #[.val (.int p1), .val (.int p2), .val (.int p3), .val (.int p4), .val (.int z22), .val (.int z24), .val (.int z26v), .val (.int z29v), .val (.int z32v), .val (.int z35v), .val (.int z38v), .val (.int z41v), .val (.int z44v), .val (.int z47v), .val (.ref b50), .val (.ref b54), .val (.int z59v), .val (.int z64), .val (.int z68), .val (.int z72), .val (.int z76), .val (.int z80), .val (.int z82v), .val (.int z85v), .val (.int z88v), .unset, .unset, .unset, .unset, .unset, .unset, .unset, .unset, .unset, .unset, .unset, .unset, .unset, .unset, .unset, .unset, .unset] [(.int z72), (.int z76), (.int z88v), (.int z41v), (.int z35v), (.int z24), (.int z22), (.int (1 : Int32)), (.int (3 : Int32))]) := fun t k => P89 t (by
    refine XS.istore X88.here hx rfl (hb hby at_278) rfl (l' := #[.val (.int p1), .val (.int p2), .val (.int p3), .val (.int p4), .val (.int z22), .val (.int z24), .val (.int z26v), .val (.int z29v), .val (.int z32v), .val (.int z35v), .val (.int z38v), .val (.int z41v), .val (.int z44v), .val (.int z47v), .val (.ref b50), .val (.ref b54), .val (.int z59v), .val (.int z64), .val (.int z68), .val (.int z72), .val (.int z76), .val (.int z80), .val (.int z82v), .val (.int z85v), .val (.int z88v), .unset, .unset, .unset, .unset, .unset, .unset, .unset, .unset, .unset, .unset, .unset, .unset, .unset, .unset, .unset, .unset, .unset]) rfl ?_
    refine XS.iconst X88.here hx rfl (hb hby at_280) ?_
    refine XS.iconst X88.here hx rfl (hb hby at_281) ?_
    refine XS.iload X88.here hx rfl (hb hby at_282) rfl ?_
    refine XS.iload X88.here hx rfl (hb hby at_284) rfl ?_
    refine XS.iload X88.here hx rfl (hb hby at_286) rfl ?_
    refine XS.iload X88.here hx rfl (hb hby at_288) rfl ?_
    refine XS.iload X88.here hx rfl (hb hby at_290) rfl ?_
    show Steps p.tables e below (T88.setTop (mkF m 292 #[.val (.int p1), .val (.int p2), .val (.int p3), .val (.int p4), .val (.int z22), .val (.int z24), .val (.int z26v), .val (.int z29v), .val (.int z32v), .val (.int z35v), .val (.int z38v), .val (.int z41v), .val (.int z44v), .val (.int z47v), .val (.ref b50), .val (.ref b54), .val (.int z59v), .val (.int z64), .val (.int z68), .val (.int z72), .val (.int z76), .val (.int z80), .val (.int z82v), .val (.int z85v), .val (.int z88v), .unset, .unset, .unset, .unset, .unset, .unset, .unset, .unset, .unset, .unset, .unset, .unset, .unset, .unset, .unset, .unset, .unset] [(.int z88v), (.int z41v), (.int z35v), (.int z24), (.int z22), (.int (1 : Int32)), (.int (3 : Int32))])) _
    refine XS.iload X88.here hx rfl (hb hby at_292) rfl ?_
    refine XS.iload X88.here hx rfl (hb hby at_294) rfl ?_
    exact k)
  obtain ⟨_, _, ⟨T91, L91, k91, n91⟩, -, X91, ⟨Lc91, hQ91, l91, y91, z91⟩, st91⟩ := Jvm.LawKit.callS X88 hx (y := (⟨"com/example/ferryline/ferryline/UriWorkerMapMatchesPinLaw", "cell", "(IIIIIIZZZ)Z"⟩ : MethodName)) hown (mvT hZ (hw _ (List.mem_of_getElem? (i := 15) rfl))) (mvT hZ (hw _ (List.mem_of_getElem? (i := 16) rfl))) (mvT hZ (hw _ (List.mem_of_getElem? (i := 2) rfl))) (mvT hZ (hw _ (List.mem_of_getElem? (i := 17) rfl))) (by decide) (backOf (W := 0) (rm5 l Z a0 hw [] (3 : Int32) (1 : Int32) z22 z24 z35v z41v z88v z76 z72  T54.heap n0 Z56 ) hZ (hw _ (List.mem_of_getElem? (i := 17) rfl)) (hw _ (List.mem_of_getElem? (i := 2) rfl)) (by decide) (by decide)) (g := (mkF m 296 #[.val (.int p1), .val (.int p2), .val (.int p3), .val (.int p4), .val (.int z22), .val (.int z24), .val (.int z26v), .val (.int z29v), .val (.int z32v), .val (.int z35v), .val (.int z38v), .val (.int z41v), .val (.int z44v), .val (.int z47v), .val (.ref b50), .val (.ref b54), .val (.int z59v), .val (.int z64), .val (.int z68), .val (.int z72), .val (.int z76), .val (.int z80), .val (.int z82v), .val (.int z85v), .val (.int z88v), .unset, .unset, .unset, .unset, .unset, .unset, .unset, .unset, .unset, .unset, .unset, .unset, .unset, .unset, .unset, .unset, .unset] [(.int z72), (.int z76), (.int z88v), (.int z41v), (.int z35v), (.int z24), (.int z22), (.int (1 : Int32)), (.int (3 : Int32))])) rfl (by rw [hml]; rfl) (argsL := [(.int (3 : Int32)), (.int (1 : Int32)), (.int z22), (.int z24), (.int z35v), (.int z41v), (.int z88v), (.int z76), (.int z72)]) (rest := []) (lenOf pd_3 rfl) rfl (by show 2 * 0 + _ ≤ _; exact Nat.le_of_eq rfl) (hb hby at_296) (fun _ _ => ⟨rfl, eq88, (by decide : 2 + 0 ≤ _), (by decide : 8 + 0 ≤ _)⟩)
  dsimp only [Pt.U, Pt.locs, Pt.cells, Pt.slots] at X91 l91 y91 z91 st91 hQ91
  rw [l91, y91, z91] at X91
  have X91 := X91.mono (cells' := 2) (slots' := 8) (by decide) (by decide)
  obtain ⟨z91v, rfl, hz91v, Nq91, eq91⟩ := hQ91
  have N91n := Fr.app N88n Nq91
  have P92 : own_Pr p.tables e below S0 T91 (mkF m 299 #[.val (.int p1), .val (.int p2), .val (.int p3), .val (.int p4), .val (.int z22), .val (.int z24), .val (.int z26v), .val (.int z29v), .val (.int z32v), .val (.int z35v), .val (.int z38v), .val (.int z41v), .val (.int z44v), .val (.int z47v), .val (.ref b50), .val (.ref b54), .val (.int z59v), .val (.int z64), .val (.int z68), .val (.int z72), .val (.int z76), .val (.int z80), .val (.int z82v), .val (.int z85v), .val (.int z88v), .unset, .unset, .unset, .unset, .unset, .unset, .unset, .unset, .unset, .unset, .unset, .unset, .unset, .unset, .unset, .unset, .unset] [(.int z91v)]) := fun t k => P90 t (st91 _ k)
  have P93 : own_Pr p.tables e below S0 T91 (mkF m 317 #[.val (.int p1), .val (.int p2), .val (.int p3), .val (.int p4), .val (.int z22), .val (.int z24), .val (.int z26v), .val (.int z29v), .val (.int z32v), .val (.int z35v), .val (.int z38v), .val (.int z41v), .val (.int z44v), .val (.int z47v), .val (.ref b50), .val (.ref b54), .val (.int z59v), .val (.int z64), .val (.int z68), .val (.int z72), .val (.int z76), .val (.int z80), .val (.int z82v), .val (.int z85v), .val (.int z88v), .val (.int z91v), .unset, .unset, .unset, .unset, .unset, .unset, .unset, .unset, .unset, .unset, .unset, .unset, .unset, .unset, .unset, .unset] [(.int z76), (.int z80), (.int z91v), (.int z38v), (.int z35v), (.int z24), (.int z22), (.int (0 : Int32)), (.int (3 : Int32))]) := fun t k => P92 t (by
    refine XS.istore X91.here hx rfl (hb hby at_299) rfl (l' := #[.val (.int p1), .val (.int p2), .val (.int p3), .val (.int p4), .val (.int z22), .val (.int z24), .val (.int z26v), .val (.int z29v), .val (.int z32v), .val (.int z35v), .val (.int z38v), .val (.int z41v), .val (.int z44v), .val (.int z47v), .val (.ref b50), .val (.ref b54), .val (.int z59v), .val (.int z64), .val (.int z68), .val (.int z72), .val (.int z76), .val (.int z80), .val (.int z82v), .val (.int z85v), .val (.int z88v), .val (.int z91v), .unset, .unset, .unset, .unset, .unset, .unset, .unset, .unset, .unset, .unset, .unset, .unset, .unset, .unset, .unset, .unset]) rfl ?_
    refine XS.iconst X91.here hx rfl (hb hby at_301) ?_
    refine XS.iconst X91.here hx rfl (hb hby at_302) ?_
    refine XS.iload X91.here hx rfl (hb hby at_303) rfl ?_
    refine XS.iload X91.here hx rfl (hb hby at_305) rfl ?_
    refine XS.iload X91.here hx rfl (hb hby at_307) rfl ?_
    refine XS.iload X91.here hx rfl (hb hby at_309) rfl ?_
    refine XS.iload X91.here hx rfl (hb hby at_311) rfl ?_
    show Steps p.tables e below (T91.setTop (mkF m 313 #[.val (.int p1), .val (.int p2), .val (.int p3), .val (.int p4), .val (.int z22), .val (.int z24), .val (.int z26v), .val (.int z29v), .val (.int z32v), .val (.int z35v), .val (.int z38v), .val (.int z41v), .val (.int z44v), .val (.int z47v), .val (.ref b50), .val (.ref b54), .val (.int z59v), .val (.int z64), .val (.int z68), .val (.int z72), .val (.int z76), .val (.int z80), .val (.int z82v), .val (.int z85v), .val (.int z88v), .val (.int z91v), .unset, .unset, .unset, .unset, .unset, .unset, .unset, .unset, .unset, .unset, .unset, .unset, .unset, .unset, .unset, .unset] [(.int z91v), (.int z38v), (.int z35v), (.int z24), (.int z22), (.int (0 : Int32)), (.int (3 : Int32))])) _
    refine XS.iload X91.here hx rfl (hb hby at_313) rfl ?_
    refine XS.iload X91.here hx rfl (hb hby at_315) rfl ?_
    exact k)
  obtain ⟨_, _, ⟨T94, L94, k94, n94⟩, -, X94, ⟨Lc94, hQ94, l94, y94, z94⟩, st94⟩ := Jvm.LawKit.callS X91 hx (y := (⟨"com/example/ferryline/ferryline/UriWorkerMapMatchesPinLaw", "cell", "(IIIIIIZZZ)Z"⟩ : MethodName)) hown (mvT hZ (hw _ (List.mem_of_getElem? (i := 15) rfl))) (mvT hZ (hw _ (List.mem_of_getElem? (i := 16) rfl))) (mvT hZ (hw _ (List.mem_of_getElem? (i := 2) rfl))) (mvT hZ (hw _ (List.mem_of_getElem? (i := 17) rfl))) (by decide) (backOf (W := 0) (rm5 l Z a0 hw [] (3 : Int32) (0 : Int32) z22 z24 z35v z38v z91v z80 z76  T54.heap n0 Z56 ) hZ (hw _ (List.mem_of_getElem? (i := 17) rfl)) (hw _ (List.mem_of_getElem? (i := 2) rfl)) (by decide) (by decide)) (g := (mkF m 317 #[.val (.int p1), .val (.int p2), .val (.int p3), .val (.int p4), .val (.int z22), .val (.int z24), .val (.int z26v), .val (.int z29v), .val (.int z32v), .val (.int z35v), .val (.int z38v), .val (.int z41v), .val (.int z44v), .val (.int z47v), .val (.ref b50), .val (.ref b54), .val (.int z59v), .val (.int z64), .val (.int z68), .val (.int z72), .val (.int z76), .val (.int z80), .val (.int z82v), .val (.int z85v), .val (.int z88v), .val (.int z91v), .unset, .unset, .unset, .unset, .unset, .unset, .unset, .unset, .unset, .unset, .unset, .unset, .unset, .unset, .unset, .unset] [(.int z76), (.int z80), (.int z91v), (.int z38v), (.int z35v), (.int z24), (.int z22), (.int (0 : Int32)), (.int (3 : Int32))])) rfl (by rw [hml]; rfl) (argsL := [(.int (3 : Int32)), (.int (0 : Int32)), (.int z22), (.int z24), (.int z35v), (.int z38v), (.int z91v), (.int z80), (.int z76)]) (rest := []) (lenOf pd_3 rfl) rfl (by show 2 * 0 + _ ≤ _; exact Nat.le_of_eq rfl) (hb hby at_317) (fun _ _ => ⟨rfl, eq91, (by decide : 2 + 0 ≤ _), (by decide : 8 + 0 ≤ _)⟩)
  dsimp only [Pt.U, Pt.locs, Pt.cells, Pt.slots] at X94 l94 y94 z94 st94 hQ94
  rw [l94, y94, z94] at X94
  have X94 := X94.mono (cells' := 2) (slots' := 8) (by decide) (by decide)
  obtain ⟨z94v, rfl, hz94v, Nq94, eq94⟩ := hQ94
  have N94n := Fr.app N91n Nq94
  have P95 : own_Pr p.tables e below S0 T94 (mkF m 320 #[.val (.int p1), .val (.int p2), .val (.int p3), .val (.int p4), .val (.int z22), .val (.int z24), .val (.int z26v), .val (.int z29v), .val (.int z32v), .val (.int z35v), .val (.int z38v), .val (.int z41v), .val (.int z44v), .val (.int z47v), .val (.ref b50), .val (.ref b54), .val (.int z59v), .val (.int z64), .val (.int z68), .val (.int z72), .val (.int z76), .val (.int z80), .val (.int z82v), .val (.int z85v), .val (.int z88v), .val (.int z91v), .unset, .unset, .unset, .unset, .unset, .unset, .unset, .unset, .unset, .unset, .unset, .unset, .unset, .unset, .unset, .unset] [(.int z94v)]) := fun t k => P93 t (st94 _ k)
  have P96 : own_Pr p.tables e below S0 T94 (mkF m 335 #[.val (.int p1), .val (.int p2), .val (.int p3), .val (.int p4), .val (.int z22), .val (.int z24), .val (.int z26v), .val (.int z29v), .val (.int z32v), .val (.int z35v), .val (.int z38v), .val (.int z41v), .val (.int z44v), .val (.int z47v), .val (.ref b50), .val (.ref b54), .val (.int z59v), .val (.int z64), .val (.int z68), .val (.int z72), .val (.int z76), .val (.int z80), .val (.int z82v), .val (.int z85v), .val (.int z88v), .val (.int z91v), .val (.int z94v), .unset, .unset, .unset, .unset, .unset, .unset, .unset, .unset, .unset, .unset, .unset, .unset, .unset, .unset, .unset] [(.int (0 : Int32)), (.int z82v), (.int (0 : Int32)), (.int (0 : Int32)), (.int z32v), (.int z24), (.int z22), (.int (4 : Int32)), (.int (2 : Int32))]) := fun t k => P95 t (by
    refine XS.istore X94.here hx rfl (hb hby at_320) rfl (l' := #[.val (.int p1), .val (.int p2), .val (.int p3), .val (.int p4), .val (.int z22), .val (.int z24), .val (.int z26v), .val (.int z29v), .val (.int z32v), .val (.int z35v), .val (.int z38v), .val (.int z41v), .val (.int z44v), .val (.int z47v), .val (.ref b50), .val (.ref b54), .val (.int z59v), .val (.int z64), .val (.int z68), .val (.int z72), .val (.int z76), .val (.int z80), .val (.int z82v), .val (.int z85v), .val (.int z88v), .val (.int z91v), .val (.int z94v), .unset, .unset, .unset, .unset, .unset, .unset, .unset, .unset, .unset, .unset, .unset, .unset, .unset, .unset, .unset]) rfl ?_
    refine XS.iconst X94.here hx rfl (hb hby at_322) ?_
    refine XS.iconst X94.here hx rfl (hb hby at_323) ?_
    refine XS.iload X94.here hx rfl (hb hby at_324) rfl ?_
    refine XS.iload X94.here hx rfl (hb hby at_326) rfl ?_
    refine XS.iload X94.here hx rfl (hb hby at_328) rfl ?_
    refine XS.iconst X94.here hx rfl (hb hby at_330) ?_
    refine XS.iconst X94.here hx rfl (hb hby at_331) ?_
    show Steps p.tables e below (T94.setTop (mkF m 332 #[.val (.int p1), .val (.int p2), .val (.int p3), .val (.int p4), .val (.int z22), .val (.int z24), .val (.int z26v), .val (.int z29v), .val (.int z32v), .val (.int z35v), .val (.int z38v), .val (.int z41v), .val (.int z44v), .val (.int z47v), .val (.ref b50), .val (.ref b54), .val (.int z59v), .val (.int z64), .val (.int z68), .val (.int z72), .val (.int z76), .val (.int z80), .val (.int z82v), .val (.int z85v), .val (.int z88v), .val (.int z91v), .val (.int z94v), .unset, .unset, .unset, .unset, .unset, .unset, .unset, .unset, .unset, .unset, .unset, .unset, .unset, .unset, .unset] [(.int (0 : Int32)), (.int (0 : Int32)), (.int z32v), (.int z24), (.int z22), (.int (4 : Int32)), (.int (2 : Int32))])) _
    refine XS.iload X94.here hx rfl (hb hby at_332) rfl ?_
    refine XS.iconst X94.here hx rfl (hb hby at_334) ?_
    exact k)
  obtain ⟨_, _, ⟨T97, L97, k97, n97⟩, -, X97, ⟨Lc97, hQ97, l97, y97, z97⟩, st97⟩ := Jvm.LawKit.callS X94 hx (y := (⟨"com/example/ferryline/ferryline/UriWorkerMapMatchesPinLaw", "cell", "(IIIIIIZZZ)Z"⟩ : MethodName)) hown (mvT hZ (hw _ (List.mem_of_getElem? (i := 15) rfl))) (mvT hZ (hw _ (List.mem_of_getElem? (i := 16) rfl))) (mvT hZ (hw _ (List.mem_of_getElem? (i := 2) rfl))) (mvT hZ (hw _ (List.mem_of_getElem? (i := 17) rfl))) (by decide) (backOf (W := 0) (rm5 l Z a0 hw [] (2 : Int32) (4 : Int32) z22 z24 z32v (0 : Int32) (0 : Int32) z82v (0 : Int32)  T54.heap n0 Z56 ) hZ (hw _ (List.mem_of_getElem? (i := 17) rfl)) (hw _ (List.mem_of_getElem? (i := 2) rfl)) (by decide) (by decide)) (g := (mkF m 335 #[.val (.int p1), .val (.int p2), .val (.int p3), .val (.int p4), .val (.int z22), .val (.int z24), .val (.int z26v), .val (.int z29v), .val (.int z32v), .val (.int z35v), .val (.int z38v), .val (.int z41v), .val (.int z44v), .val (.int z47v), .val (.ref b50), .val (.ref b54), .val (.int z59v), .val (.int z64), .val (.int z68), .val (.int z72), .val (.int z76), .val (.int z80), .val (.int z82v), .val (.int z85v), .val (.int z88v), .val (.int z91v), .val (.int z94v), .unset, .unset, .unset, .unset, .unset, .unset, .unset, .unset, .unset, .unset, .unset, .unset, .unset, .unset, .unset] [(.int (0 : Int32)), (.int z82v), (.int (0 : Int32)), (.int (0 : Int32)), (.int z32v), (.int z24), (.int z22), (.int (4 : Int32)), (.int (2 : Int32))])) rfl (by rw [hml]; rfl) (argsL := [(.int (2 : Int32)), (.int (4 : Int32)), (.int z22), (.int z24), (.int z32v), (.int (0 : Int32)), (.int (0 : Int32)), (.int z82v), (.int (0 : Int32))]) (rest := []) (lenOf pd_3 rfl) rfl (by show 2 * 0 + _ ≤ _; exact Nat.le_of_eq rfl) (hb hby at_335) (fun _ _ => ⟨rfl, eq94, (by decide : 2 + 0 ≤ _), (by decide : 8 + 0 ≤ _)⟩)
  dsimp only [Pt.U, Pt.locs, Pt.cells, Pt.slots] at X97 l97 y97 z97 st97 hQ97
  rw [l97, y97, z97] at X97
  have X97 := X97.mono (cells' := 2) (slots' := 8) (by decide) (by decide)
  obtain ⟨z97v, rfl, hz97v, Nq97, eq97⟩ := hQ97
  have N97n := Fr.app N94n Nq97
  have P98 : own_Pr p.tables e below S0 T97 (mkF m 338 #[.val (.int p1), .val (.int p2), .val (.int p3), .val (.int p4), .val (.int z22), .val (.int z24), .val (.int z26v), .val (.int z29v), .val (.int z32v), .val (.int z35v), .val (.int z38v), .val (.int z41v), .val (.int z44v), .val (.int z47v), .val (.ref b50), .val (.ref b54), .val (.int z59v), .val (.int z64), .val (.int z68), .val (.int z72), .val (.int z76), .val (.int z80), .val (.int z82v), .val (.int z85v), .val (.int z88v), .val (.int z91v), .val (.int z94v), .unset, .unset, .unset, .unset, .unset, .unset, .unset, .unset, .unset, .unset, .unset, .unset, .unset, .unset, .unset] [(.int z97v)]) := fun t k => P96 t (st97 _ k)
  have P99 : own_Pr p.tables e below S0 T97 (mkF m 356 #[.val (.int p1), .val (.int p2), .val (.int p3), .val (.int p4), .val (.int z22), .val (.int z24), .val (.int z26v), .val (.int z29v), .val (.int z32v), .val (.int z35v), .val (.int z38v), .val (.int z41v), .val (.int z44v), .val (.int z47v), .val (.ref b50), .val (.ref b54), .val (.int z59v), .val (.int z64), .val (.int z68), .val (.int z72), .val (.int z76), .val (.int z80), .val (.int z82v), .val (.int z85v), .val (.int z88v), .val (.int z91v), .val (.int z94v), .val (.int z97v), .unset, .unset, .unset, .unset, .unset, .unset, .unset, .unset, .unset, .unset, .unset, .unset, .unset, .unset] [(.int z82v), (.int z85v), (.int z97v), (.int z47v), (.int z32v), (.int z24), (.int z22), (.int (3 : Int32)), (.int (2 : Int32))]) := fun t k => P98 t (by
    refine XS.istore X97.here hx rfl (hb hby at_338) rfl (l' := #[.val (.int p1), .val (.int p2), .val (.int p3), .val (.int p4), .val (.int z22), .val (.int z24), .val (.int z26v), .val (.int z29v), .val (.int z32v), .val (.int z35v), .val (.int z38v), .val (.int z41v), .val (.int z44v), .val (.int z47v), .val (.ref b50), .val (.ref b54), .val (.int z59v), .val (.int z64), .val (.int z68), .val (.int z72), .val (.int z76), .val (.int z80), .val (.int z82v), .val (.int z85v), .val (.int z88v), .val (.int z91v), .val (.int z94v), .val (.int z97v), .unset, .unset, .unset, .unset, .unset, .unset, .unset, .unset, .unset, .unset, .unset, .unset, .unset, .unset]) rfl ?_
    refine XS.iconst X97.here hx rfl (hb hby at_340) ?_
    refine XS.iconst X97.here hx rfl (hb hby at_341) ?_
    refine XS.iload X97.here hx rfl (hb hby at_342) rfl ?_
    refine XS.iload X97.here hx rfl (hb hby at_344) rfl ?_
    refine XS.iload X97.here hx rfl (hb hby at_346) rfl ?_
    refine XS.iload X97.here hx rfl (hb hby at_348) rfl ?_
    refine XS.iload X97.here hx rfl (hb hby at_350) rfl ?_
    show Steps p.tables e below (T97.setTop (mkF m 352 #[.val (.int p1), .val (.int p2), .val (.int p3), .val (.int p4), .val (.int z22), .val (.int z24), .val (.int z26v), .val (.int z29v), .val (.int z32v), .val (.int z35v), .val (.int z38v), .val (.int z41v), .val (.int z44v), .val (.int z47v), .val (.ref b50), .val (.ref b54), .val (.int z59v), .val (.int z64), .val (.int z68), .val (.int z72), .val (.int z76), .val (.int z80), .val (.int z82v), .val (.int z85v), .val (.int z88v), .val (.int z91v), .val (.int z94v), .val (.int z97v), .unset, .unset, .unset, .unset, .unset, .unset, .unset, .unset, .unset, .unset, .unset, .unset, .unset, .unset] [(.int z97v), (.int z47v), (.int z32v), (.int z24), (.int z22), (.int (3 : Int32)), (.int (2 : Int32))])) _
    refine XS.iload X97.here hx rfl (hb hby at_352) rfl ?_
    refine XS.iload X97.here hx rfl (hb hby at_354) rfl ?_
    exact k)
  obtain ⟨_, _, ⟨T100, L100, k100, n100⟩, -, X100, ⟨Lc100, hQ100, l100, y100, z100⟩, st100⟩ := Jvm.LawKit.callS X97 hx (y := (⟨"com/example/ferryline/ferryline/UriWorkerMapMatchesPinLaw", "cell", "(IIIIIIZZZ)Z"⟩ : MethodName)) hown (mvT hZ (hw _ (List.mem_of_getElem? (i := 15) rfl))) (mvT hZ (hw _ (List.mem_of_getElem? (i := 16) rfl))) (mvT hZ (hw _ (List.mem_of_getElem? (i := 2) rfl))) (mvT hZ (hw _ (List.mem_of_getElem? (i := 17) rfl))) (by decide) (backOf (W := 0) (rm5 l Z a0 hw [] (2 : Int32) (3 : Int32) z22 z24 z32v z47v z97v z85v z82v  T54.heap n0 Z56 ) hZ (hw _ (List.mem_of_getElem? (i := 17) rfl)) (hw _ (List.mem_of_getElem? (i := 2) rfl)) (by decide) (by decide)) (g := (mkF m 356 #[.val (.int p1), .val (.int p2), .val (.int p3), .val (.int p4), .val (.int z22), .val (.int z24), .val (.int z26v), .val (.int z29v), .val (.int z32v), .val (.int z35v), .val (.int z38v), .val (.int z41v), .val (.int z44v), .val (.int z47v), .val (.ref b50), .val (.ref b54), .val (.int z59v), .val (.int z64), .val (.int z68), .val (.int z72), .val (.int z76), .val (.int z80), .val (.int z82v), .val (.int z85v), .val (.int z88v), .val (.int z91v), .val (.int z94v), .val (.int z97v), .unset, .unset, .unset, .unset, .unset, .unset, .unset, .unset, .unset, .unset, .unset, .unset, .unset, .unset] [(.int z82v), (.int z85v), (.int z97v), (.int z47v), (.int z32v), (.int z24), (.int z22), (.int (3 : Int32)), (.int (2 : Int32))])) rfl (by rw [hml]; rfl) (argsL := [(.int (2 : Int32)), (.int (3 : Int32)), (.int z22), (.int z24), (.int z32v), (.int z47v), (.int z97v), (.int z85v), (.int z82v)]) (rest := []) (lenOf pd_3 rfl) rfl (by show 2 * 0 + _ ≤ _; exact Nat.le_of_eq rfl) (hb hby at_356) (fun _ _ => ⟨rfl, eq97, (by decide : 2 + 0 ≤ _), (by decide : 8 + 0 ≤ _)⟩)
  dsimp only [Pt.U, Pt.locs, Pt.cells, Pt.slots] at X100 l100 y100 z100 st100 hQ100
  rw [l100, y100, z100] at X100
  have X100 := X100.mono (cells' := 2) (slots' := 8) (by decide) (by decide)
  obtain ⟨z100v, rfl, hz100v, Nq100, eq100⟩ := hQ100
  have N100n := Fr.app N97n Nq100
  have P101 : own_Pr p.tables e below S0 T100 (mkF m 359 #[.val (.int p1), .val (.int p2), .val (.int p3), .val (.int p4), .val (.int z22), .val (.int z24), .val (.int z26v), .val (.int z29v), .val (.int z32v), .val (.int z35v), .val (.int z38v), .val (.int z41v), .val (.int z44v), .val (.int z47v), .val (.ref b50), .val (.ref b54), .val (.int z59v), .val (.int z64), .val (.int z68), .val (.int z72), .val (.int z76), .val (.int z80), .val (.int z82v), .val (.int z85v), .val (.int z88v), .val (.int z91v), .val (.int z94v), .val (.int z97v), .unset, .unset, .unset, .unset, .unset, .unset, .unset, .unset, .unset, .unset, .unset, .unset, .unset, .unset] [(.int z100v)]) := fun t k => P99 t (st100 _ k)
  have P102 : own_Pr p.tables e below S0 T100 (mkF m 377 #[.val (.int p1), .val (.int p2), .val (.int p3), .val (.int p4), .val (.int z22), .val (.int z24), .val (.int z26v), .val (.int z29v), .val (.int z32v), .val (.int z35v), .val (.int z38v), .val (.int z41v), .val (.int z44v), .val (.int z47v), .val (.ref b50), .val (.ref b54), .val (.int z59v), .val (.int z64), .val (.int z68), .val (.int z72), .val (.int z76), .val (.int z80), .val (.int z82v), .val (.int z85v), .val (.int z88v), .val (.int z91v), .val (.int z94v), .val (.int z97v), .val (.int z100v), .unset, .unset, .unset, .unset, .unset, .unset, .unset, .unset, .unset, .unset, .unset, .unset, .unset] [(.int z85v), (.int z88v), (.int z100v), (.int z44v), (.int z32v), (.int z24), (.int z22), (.int (2 : Int32)), (.int (2 : Int32))]) := fun t k => P101 t (by
    refine XS.istore X100.here hx rfl (hb hby at_359) rfl (l' := #[.val (.int p1), .val (.int p2), .val (.int p3), .val (.int p4), .val (.int z22), .val (.int z24), .val (.int z26v), .val (.int z29v), .val (.int z32v), .val (.int z35v), .val (.int z38v), .val (.int z41v), .val (.int z44v), .val (.int z47v), .val (.ref b50), .val (.ref b54), .val (.int z59v), .val (.int z64), .val (.int z68), .val (.int z72), .val (.int z76), .val (.int z80), .val (.int z82v), .val (.int z85v), .val (.int z88v), .val (.int z91v), .val (.int z94v), .val (.int z97v), .val (.int z100v), .unset, .unset, .unset, .unset, .unset, .unset, .unset, .unset, .unset, .unset, .unset, .unset, .unset]) rfl ?_
    refine XS.iconst X100.here hx rfl (hb hby at_361) ?_
    refine XS.iconst X100.here hx rfl (hb hby at_362) ?_
    refine XS.iload X100.here hx rfl (hb hby at_363) rfl ?_
    refine XS.iload X100.here hx rfl (hb hby at_365) rfl ?_
    refine XS.iload X100.here hx rfl (hb hby at_367) rfl ?_
    refine XS.iload X100.here hx rfl (hb hby at_369) rfl ?_
    refine XS.iload X100.here hx rfl (hb hby at_371) rfl ?_
    show Steps p.tables e below (T100.setTop (mkF m 373 #[.val (.int p1), .val (.int p2), .val (.int p3), .val (.int p4), .val (.int z22), .val (.int z24), .val (.int z26v), .val (.int z29v), .val (.int z32v), .val (.int z35v), .val (.int z38v), .val (.int z41v), .val (.int z44v), .val (.int z47v), .val (.ref b50), .val (.ref b54), .val (.int z59v), .val (.int z64), .val (.int z68), .val (.int z72), .val (.int z76), .val (.int z80), .val (.int z82v), .val (.int z85v), .val (.int z88v), .val (.int z91v), .val (.int z94v), .val (.int z97v), .val (.int z100v), .unset, .unset, .unset, .unset, .unset, .unset, .unset, .unset, .unset, .unset, .unset, .unset, .unset] [(.int z100v), (.int z44v), (.int z32v), (.int z24), (.int z22), (.int (2 : Int32)), (.int (2 : Int32))])) _
    refine XS.iload X100.here hx rfl (hb hby at_373) rfl ?_
    refine XS.iload X100.here hx rfl (hb hby at_375) rfl ?_
    exact k)
  obtain ⟨_, _, ⟨T103, L103, k103, n103⟩, -, X103, ⟨Lc103, hQ103, l103, y103, z103⟩, st103⟩ := Jvm.LawKit.callS X100 hx (y := (⟨"com/example/ferryline/ferryline/UriWorkerMapMatchesPinLaw", "cell", "(IIIIIIZZZ)Z"⟩ : MethodName)) hown (mvT hZ (hw _ (List.mem_of_getElem? (i := 15) rfl))) (mvT hZ (hw _ (List.mem_of_getElem? (i := 16) rfl))) (mvT hZ (hw _ (List.mem_of_getElem? (i := 2) rfl))) (mvT hZ (hw _ (List.mem_of_getElem? (i := 17) rfl))) (by decide) (backOf (W := 0) (rm5 l Z a0 hw [] (2 : Int32) (2 : Int32) z22 z24 z32v z44v z100v z88v z85v  T54.heap n0 Z56 ) hZ (hw _ (List.mem_of_getElem? (i := 17) rfl)) (hw _ (List.mem_of_getElem? (i := 2) rfl)) (by decide) (by decide)) (g := (mkF m 377 #[.val (.int p1), .val (.int p2), .val (.int p3), .val (.int p4), .val (.int z22), .val (.int z24), .val (.int z26v), .val (.int z29v), .val (.int z32v), .val (.int z35v), .val (.int z38v), .val (.int z41v), .val (.int z44v), .val (.int z47v), .val (.ref b50), .val (.ref b54), .val (.int z59v), .val (.int z64), .val (.int z68), .val (.int z72), .val (.int z76), .val (.int z80), .val (.int z82v), .val (.int z85v), .val (.int z88v), .val (.int z91v), .val (.int z94v), .val (.int z97v), .val (.int z100v), .unset, .unset, .unset, .unset, .unset, .unset, .unset, .unset, .unset, .unset, .unset, .unset, .unset] [(.int z85v), (.int z88v), (.int z100v), (.int z44v), (.int z32v), (.int z24), (.int z22), (.int (2 : Int32)), (.int (2 : Int32))])) rfl (by rw [hml]; rfl) (argsL := [(.int (2 : Int32)), (.int (2 : Int32)), (.int z22), (.int z24), (.int z32v), (.int z44v), (.int z100v), (.int z88v), (.int z85v)]) (rest := []) (lenOf pd_3 rfl) rfl (by show 2 * 0 + _ ≤ _; exact Nat.le_of_eq rfl) (hb hby at_377) (fun _ _ => ⟨rfl, eq100, (by decide : 2 + 0 ≤ _), (by decide : 8 + 0 ≤ _)⟩)
  dsimp only [Pt.U, Pt.locs, Pt.cells, Pt.slots] at X103 l103 y103 z103 st103 hQ103
  rw [l103, y103, z103] at X103
  have X103 := X103.mono (cells' := 2) (slots' := 8) (by decide) (by decide)
  obtain ⟨z103v, rfl, hz103v, Nq103, eq103⟩ := hQ103
  have N103n := Fr.app N100n Nq103
  have P104 : own_Pr p.tables e below S0 T103 (mkF m 380 #[.val (.int p1), .val (.int p2), .val (.int p3), .val (.int p4), .val (.int z22), .val (.int z24), .val (.int z26v), .val (.int z29v), .val (.int z32v), .val (.int z35v), .val (.int z38v), .val (.int z41v), .val (.int z44v), .val (.int z47v), .val (.ref b50), .val (.ref b54), .val (.int z59v), .val (.int z64), .val (.int z68), .val (.int z72), .val (.int z76), .val (.int z80), .val (.int z82v), .val (.int z85v), .val (.int z88v), .val (.int z91v), .val (.int z94v), .val (.int z97v), .val (.int z100v), .unset, .unset, .unset, .unset, .unset, .unset, .unset, .unset, .unset, .unset, .unset, .unset, .unset] [(.int z103v)]) := fun t k => P102 t (st103 _ k)
  have P105 : own_Pr p.tables e below S0 T103 (mkF m 398 #[.val (.int p1), .val (.int p2), .val (.int p3), .val (.int p4), .val (.int z22), .val (.int z24), .val (.int z26v), .val (.int z29v), .val (.int z32v), .val (.int z35v), .val (.int z38v), .val (.int z41v), .val (.int z44v), .val (.int z47v), .val (.ref b50), .val (.ref b54), .val (.int z59v), .val (.int z64), .val (.int z68), .val (.int z72), .val (.int z76), .val (.int z80), .val (.int z82v), .val (.int z85v), .val (.int z88v), .val (.int z91v), .val (.int z94v), .val (.int z97v), .val (.int z100v), .val (.int z103v), .unset, .unset, .unset, .unset, .unset, .unset, .unset, .unset, .unset, .unset, .unset, .unset] [(.int z88v), (.int z91v), (.int z103v), (.int z41v), (.int z32v), (.int z24), (.int z22), (.int (1 : Int32)), (.int (2 : Int32))]) := fun t k => P104 t (by
    refine XS.istore X103.here hx rfl (hb hby at_380) rfl (l' := #[.val (.int p1), .val (.int p2), .val (.int p3), .val (.int p4), .val (.int z22), .val (.int z24), .val (.int z26v), .val (.int z29v), .val (.int z32v), .val (.int z35v), .val (.int z38v), .val (.int z41v), .val (.int z44v), .val (.int z47v), .val (.ref b50), .val (.ref b54), .val (.int z59v), .val (.int z64), .val (.int z68), .val (.int z72), .val (.int z76), .val (.int z80), .val (.int z82v), .val (.int z85v), .val (.int z88v), .val (.int z91v), .val (.int z94v), .val (.int z97v), .val (.int z100v), .val (.int z103v), .unset, .unset, .unset, .unset, .unset, .unset, .unset, .unset, .unset, .unset, .unset, .unset]) rfl ?_
    refine XS.iconst X103.here hx rfl (hb hby at_382) ?_
    refine XS.iconst X103.here hx rfl (hb hby at_383) ?_
    refine XS.iload X103.here hx rfl (hb hby at_384) rfl ?_
    refine XS.iload X103.here hx rfl (hb hby at_386) rfl ?_
    refine XS.iload X103.here hx rfl (hb hby at_388) rfl ?_
    refine XS.iload X103.here hx rfl (hb hby at_390) rfl ?_
    refine XS.iload X103.here hx rfl (hb hby at_392) rfl ?_
    show Steps p.tables e below (T103.setTop (mkF m 394 #[.val (.int p1), .val (.int p2), .val (.int p3), .val (.int p4), .val (.int z22), .val (.int z24), .val (.int z26v), .val (.int z29v), .val (.int z32v), .val (.int z35v), .val (.int z38v), .val (.int z41v), .val (.int z44v), .val (.int z47v), .val (.ref b50), .val (.ref b54), .val (.int z59v), .val (.int z64), .val (.int z68), .val (.int z72), .val (.int z76), .val (.int z80), .val (.int z82v), .val (.int z85v), .val (.int z88v), .val (.int z91v), .val (.int z94v), .val (.int z97v), .val (.int z100v), .val (.int z103v), .unset, .unset, .unset, .unset, .unset, .unset, .unset, .unset, .unset, .unset, .unset, .unset] [(.int z103v), (.int z41v), (.int z32v), (.int z24), (.int z22), (.int (1 : Int32)), (.int (2 : Int32))])) _
    refine XS.iload X103.here hx rfl (hb hby at_394) rfl ?_
    refine XS.iload X103.here hx rfl (hb hby at_396) rfl ?_
    exact k)
  obtain ⟨_, _, ⟨T106, L106, k106, n106⟩, -, X106, ⟨Lc106, hQ106, l106, y106, z106⟩, st106⟩ := Jvm.LawKit.callS X103 hx (y := (⟨"com/example/ferryline/ferryline/UriWorkerMapMatchesPinLaw", "cell", "(IIIIIIZZZ)Z"⟩ : MethodName)) hown (mvT hZ (hw _ (List.mem_of_getElem? (i := 15) rfl))) (mvT hZ (hw _ (List.mem_of_getElem? (i := 16) rfl))) (mvT hZ (hw _ (List.mem_of_getElem? (i := 2) rfl))) (mvT hZ (hw _ (List.mem_of_getElem? (i := 17) rfl))) (by decide) (backOf (W := 0) (rm5 l Z a0 hw [] (2 : Int32) (1 : Int32) z22 z24 z32v z41v z103v z91v z88v  T54.heap n0 Z56 ) hZ (hw _ (List.mem_of_getElem? (i := 17) rfl)) (hw _ (List.mem_of_getElem? (i := 2) rfl)) (by decide) (by decide)) (g := (mkF m 398 #[.val (.int p1), .val (.int p2), .val (.int p3), .val (.int p4), .val (.int z22), .val (.int z24), .val (.int z26v), .val (.int z29v), .val (.int z32v), .val (.int z35v), .val (.int z38v), .val (.int z41v), .val (.int z44v), .val (.int z47v), .val (.ref b50), .val (.ref b54), .val (.int z59v), .val (.int z64), .val (.int z68), .val (.int z72), .val (.int z76), .val (.int z80), .val (.int z82v), .val (.int z85v), .val (.int z88v), .val (.int z91v), .val (.int z94v), .val (.int z97v), .val (.int z100v), .val (.int z103v), .unset, .unset, .unset, .unset, .unset, .unset, .unset, .unset, .unset, .unset, .unset, .unset] [(.int z88v), (.int z91v), (.int z103v), (.int z41v), (.int z32v), (.int z24), (.int z22), (.int (1 : Int32)), (.int (2 : Int32))])) rfl (by rw [hml]; rfl) (argsL := [(.int (2 : Int32)), (.int (1 : Int32)), (.int z22), (.int z24), (.int z32v), (.int z41v), (.int z103v), (.int z91v), (.int z88v)]) (rest := []) (lenOf pd_3 rfl) rfl (by show 2 * 0 + _ ≤ _; exact Nat.le_of_eq rfl) (hb hby at_398) (fun _ _ => ⟨rfl, eq103, (by decide : 2 + 0 ≤ _), (by decide : 8 + 0 ≤ _)⟩)
  dsimp only [Pt.U, Pt.locs, Pt.cells, Pt.slots] at X106 l106 y106 z106 st106 hQ106
  rw [l106, y106, z106] at X106
  have X106 := X106.mono (cells' := 2) (slots' := 8) (by decide) (by decide)
  obtain ⟨z106v, rfl, hz106v, Nq106, eq106⟩ := hQ106
  have N106n := Fr.app N103n Nq106
  have P107 : own_Pr p.tables e below S0 T106 (mkF m 401 #[.val (.int p1), .val (.int p2), .val (.int p3), .val (.int p4), .val (.int z22), .val (.int z24), .val (.int z26v), .val (.int z29v), .val (.int z32v), .val (.int z35v), .val (.int z38v), .val (.int z41v), .val (.int z44v), .val (.int z47v), .val (.ref b50), .val (.ref b54), .val (.int z59v), .val (.int z64), .val (.int z68), .val (.int z72), .val (.int z76), .val (.int z80), .val (.int z82v), .val (.int z85v), .val (.int z88v), .val (.int z91v), .val (.int z94v), .val (.int z97v), .val (.int z100v), .val (.int z103v), .unset, .unset, .unset, .unset, .unset, .unset, .unset, .unset, .unset, .unset, .unset, .unset] [(.int z106v)]) := fun t k => P105 t (st106 _ k)
  have P108 : own_Pr p.tables e below S0 T106 (mkF m 419 #[.val (.int p1), .val (.int p2), .val (.int p3), .val (.int p4), .val (.int z22), .val (.int z24), .val (.int z26v), .val (.int z29v), .val (.int z32v), .val (.int z35v), .val (.int z38v), .val (.int z41v), .val (.int z44v), .val (.int z47v), .val (.ref b50), .val (.ref b54), .val (.int z59v), .val (.int z64), .val (.int z68), .val (.int z72), .val (.int z76), .val (.int z80), .val (.int z82v), .val (.int z85v), .val (.int z88v), .val (.int z91v), .val (.int z94v), .val (.int z97v), .val (.int z100v), .val (.int z103v), .val (.int z106v), .unset, .unset, .unset, .unset, .unset, .unset, .unset, .unset, .unset, .unset, .unset] [(.int z91v), (.int z94v), (.int z106v), (.int z38v), (.int z32v), (.int z24), (.int z22), (.int (0 : Int32)), (.int (2 : Int32))]) := fun t k => P107 t (by
    refine XS.istore X106.here hx rfl (hb hby at_401) rfl (l' := #[.val (.int p1), .val (.int p2), .val (.int p3), .val (.int p4), .val (.int z22), .val (.int z24), .val (.int z26v), .val (.int z29v), .val (.int z32v), .val (.int z35v), .val (.int z38v), .val (.int z41v), .val (.int z44v), .val (.int z47v), .val (.ref b50), .val (.ref b54), .val (.int z59v), .val (.int z64), .val (.int z68), .val (.int z72), .val (.int z76), .val (.int z80), .val (.int z82v), .val (.int z85v), .val (.int z88v), .val (.int z91v), .val (.int z94v), .val (.int z97v), .val (.int z100v), .val (.int z103v), .val (.int z106v), .unset, .unset, .unset, .unset, .unset, .unset, .unset, .unset, .unset, .unset, .unset]) rfl ?_
    refine XS.iconst X106.here hx rfl (hb hby at_403) ?_
    refine XS.iconst X106.here hx rfl (hb hby at_404) ?_
    refine XS.iload X106.here hx rfl (hb hby at_405) rfl ?_
    refine XS.iload X106.here hx rfl (hb hby at_407) rfl ?_
    refine XS.iload X106.here hx rfl (hb hby at_409) rfl ?_
    refine XS.iload X106.here hx rfl (hb hby at_411) rfl ?_
    refine XS.iload X106.here hx rfl (hb hby at_413) rfl ?_
    show Steps p.tables e below (T106.setTop (mkF m 415 #[.val (.int p1), .val (.int p2), .val (.int p3), .val (.int p4), .val (.int z22), .val (.int z24), .val (.int z26v), .val (.int z29v), .val (.int z32v), .val (.int z35v), .val (.int z38v), .val (.int z41v), .val (.int z44v), .val (.int z47v), .val (.ref b50), .val (.ref b54), .val (.int z59v), .val (.int z64), .val (.int z68), .val (.int z72), .val (.int z76), .val (.int z80), .val (.int z82v), .val (.int z85v), .val (.int z88v), .val (.int z91v), .val (.int z94v), .val (.int z97v), .val (.int z100v), .val (.int z103v), .val (.int z106v), .unset, .unset, .unset, .unset, .unset, .unset, .unset, .unset, .unset, .unset, .unset] [(.int z106v), (.int z38v), (.int z32v), (.int z24), (.int z22), (.int (0 : Int32)), (.int (2 : Int32))])) _
    refine XS.iload X106.here hx rfl (hb hby at_415) rfl ?_
    refine XS.iload X106.here hx rfl (hb hby at_417) rfl ?_
    exact k)
  obtain ⟨_, _, ⟨T109, L109, k109, n109⟩, -, X109, ⟨Lc109, hQ109, l109, y109, z109⟩, st109⟩ := Jvm.LawKit.callS X106 hx (y := (⟨"com/example/ferryline/ferryline/UriWorkerMapMatchesPinLaw", "cell", "(IIIIIIZZZ)Z"⟩ : MethodName)) hown (mvT hZ (hw _ (List.mem_of_getElem? (i := 15) rfl))) (mvT hZ (hw _ (List.mem_of_getElem? (i := 16) rfl))) (mvT hZ (hw _ (List.mem_of_getElem? (i := 2) rfl))) (mvT hZ (hw _ (List.mem_of_getElem? (i := 17) rfl))) (by decide) (backOf (W := 0) (rm5 l Z a0 hw [] (2 : Int32) (0 : Int32) z22 z24 z32v z38v z106v z94v z91v  T54.heap n0 Z56 ) hZ (hw _ (List.mem_of_getElem? (i := 17) rfl)) (hw _ (List.mem_of_getElem? (i := 2) rfl)) (by decide) (by decide)) (g := (mkF m 419 #[.val (.int p1), .val (.int p2), .val (.int p3), .val (.int p4), .val (.int z22), .val (.int z24), .val (.int z26v), .val (.int z29v), .val (.int z32v), .val (.int z35v), .val (.int z38v), .val (.int z41v), .val (.int z44v), .val (.int z47v), .val (.ref b50), .val (.ref b54), .val (.int z59v), .val (.int z64), .val (.int z68), .val (.int z72), .val (.int z76), .val (.int z80), .val (.int z82v), .val (.int z85v), .val (.int z88v), .val (.int z91v), .val (.int z94v), .val (.int z97v), .val (.int z100v), .val (.int z103v), .val (.int z106v), .unset, .unset, .unset, .unset, .unset, .unset, .unset, .unset, .unset, .unset, .unset] [(.int z91v), (.int z94v), (.int z106v), (.int z38v), (.int z32v), (.int z24), (.int z22), (.int (0 : Int32)), (.int (2 : Int32))])) rfl (by rw [hml]; rfl) (argsL := [(.int (2 : Int32)), (.int (0 : Int32)), (.int z22), (.int z24), (.int z32v), (.int z38v), (.int z106v), (.int z94v), (.int z91v)]) (rest := []) (lenOf pd_3 rfl) rfl (by show 2 * 0 + _ ≤ _; exact Nat.le_of_eq rfl) (hb hby at_419) (fun _ _ => ⟨rfl, eq106, (by decide : 2 + 0 ≤ _), (by decide : 8 + 0 ≤ _)⟩)
  dsimp only [Pt.U, Pt.locs, Pt.cells, Pt.slots] at X109 l109 y109 z109 st109 hQ109
  rw [l109, y109, z109] at X109
  have X109 := X109.mono (cells' := 2) (slots' := 8) (by decide) (by decide)
  obtain ⟨z109v, rfl, hz109v, Nq109, eq109⟩ := hQ109
  have N109n := Fr.app N106n Nq109
  have P110 : own_Pr p.tables e below S0 T109 (mkF m 422 #[.val (.int p1), .val (.int p2), .val (.int p3), .val (.int p4), .val (.int z22), .val (.int z24), .val (.int z26v), .val (.int z29v), .val (.int z32v), .val (.int z35v), .val (.int z38v), .val (.int z41v), .val (.int z44v), .val (.int z47v), .val (.ref b50), .val (.ref b54), .val (.int z59v), .val (.int z64), .val (.int z68), .val (.int z72), .val (.int z76), .val (.int z80), .val (.int z82v), .val (.int z85v), .val (.int z88v), .val (.int z91v), .val (.int z94v), .val (.int z97v), .val (.int z100v), .val (.int z103v), .val (.int z106v), .unset, .unset, .unset, .unset, .unset, .unset, .unset, .unset, .unset, .unset, .unset] [(.int z109v)]) := fun t k => P108 t (st109 _ k)
  have P111 : own_Pr p.tables e below S0 T109 (mkF m 437 #[.val (.int p1), .val (.int p2), .val (.int p3), .val (.int p4), .val (.int z22), .val (.int z24), .val (.int z26v), .val (.int z29v), .val (.int z32v), .val (.int z35v), .val (.int z38v), .val (.int z41v), .val (.int z44v), .val (.int z47v), .val (.ref b50), .val (.ref b54), .val (.int z59v), .val (.int z64), .val (.int z68), .val (.int z72), .val (.int z76), .val (.int z80), .val (.int z82v), .val (.int z85v), .val (.int z88v), .val (.int z91v), .val (.int z94v), .val (.int z97v), .val (.int z100v), .val (.int z103v), .val (.int z106v), .val (.int z109v), .unset, .unset, .unset, .unset, .unset, .unset, .unset, .unset, .unset, .unset] [(.int (0 : Int32)), (.int z97v), (.int (0 : Int32)), (.int (0 : Int32)), (.int z29v), (.int z24), (.int z22), (.int (4 : Int32)), (.int (1 : Int32))]) := fun t k => P110 t (by
    refine XS.istore X109.here hx rfl (hb hby at_422) rfl (l' := #[.val (.int p1), .val (.int p2), .val (.int p3), .val (.int p4), .val (.int z22), .val (.int z24), .val (.int z26v), .val (.int z29v), .val (.int z32v), .val (.int z35v), .val (.int z38v), .val (.int z41v), .val (.int z44v), .val (.int z47v), .val (.ref b50), .val (.ref b54), .val (.int z59v), .val (.int z64), .val (.int z68), .val (.int z72), .val (.int z76), .val (.int z80), .val (.int z82v), .val (.int z85v), .val (.int z88v), .val (.int z91v), .val (.int z94v), .val (.int z97v), .val (.int z100v), .val (.int z103v), .val (.int z106v), .val (.int z109v), .unset, .unset, .unset, .unset, .unset, .unset, .unset, .unset, .unset, .unset]) rfl ?_
    refine XS.iconst X109.here hx rfl (hb hby at_424) ?_
    refine XS.iconst X109.here hx rfl (hb hby at_425) ?_
    refine XS.iload X109.here hx rfl (hb hby at_426) rfl ?_
    refine XS.iload X109.here hx rfl (hb hby at_428) rfl ?_
    refine XS.iload X109.here hx rfl (hb hby at_430) rfl ?_
    refine XS.iconst X109.here hx rfl (hb hby at_432) ?_
    refine XS.iconst X109.here hx rfl (hb hby at_433) ?_
    show Steps p.tables e below (T109.setTop (mkF m 434 #[.val (.int p1), .val (.int p2), .val (.int p3), .val (.int p4), .val (.int z22), .val (.int z24), .val (.int z26v), .val (.int z29v), .val (.int z32v), .val (.int z35v), .val (.int z38v), .val (.int z41v), .val (.int z44v), .val (.int z47v), .val (.ref b50), .val (.ref b54), .val (.int z59v), .val (.int z64), .val (.int z68), .val (.int z72), .val (.int z76), .val (.int z80), .val (.int z82v), .val (.int z85v), .val (.int z88v), .val (.int z91v), .val (.int z94v), .val (.int z97v), .val (.int z100v), .val (.int z103v), .val (.int z106v), .val (.int z109v), .unset, .unset, .unset, .unset, .unset, .unset, .unset, .unset, .unset, .unset] [(.int (0 : Int32)), (.int (0 : Int32)), (.int z29v), (.int z24), (.int z22), (.int (4 : Int32)), (.int (1 : Int32))])) _
    refine XS.iload X109.here hx rfl (hb hby at_434) rfl ?_
    refine XS.iconst X109.here hx rfl (hb hby at_436) ?_
    exact k)
  obtain ⟨_, _, ⟨T112, L112, k112, n112⟩, -, X112, ⟨Lc112, hQ112, l112, y112, z112⟩, st112⟩ := Jvm.LawKit.callS X109 hx (y := (⟨"com/example/ferryline/ferryline/UriWorkerMapMatchesPinLaw", "cell", "(IIIIIIZZZ)Z"⟩ : MethodName)) hown (mvT hZ (hw _ (List.mem_of_getElem? (i := 15) rfl))) (mvT hZ (hw _ (List.mem_of_getElem? (i := 16) rfl))) (mvT hZ (hw _ (List.mem_of_getElem? (i := 2) rfl))) (mvT hZ (hw _ (List.mem_of_getElem? (i := 17) rfl))) (by decide) (backOf (W := 0) (rm5 l Z a0 hw [] (1 : Int32) (4 : Int32) z22 z24 z29v (0 : Int32) (0 : Int32) z97v (0 : Int32)  T54.heap n0 Z56 ) hZ (hw _ (List.mem_of_getElem? (i := 17) rfl)) (hw _ (List.mem_of_getElem? (i := 2) rfl)) (by decide) (by decide)) (g := (mkF m 437 #[.val (.int p1), .val (.int p2), .val (.int p3), .val (.int p4), .val (.int z22), .val (.int z24), .val (.int z26v), .val (.int z29v), .val (.int z32v), .val (.int z35v), .val (.int z38v), .val (.int z41v), .val (.int z44v), .val (.int z47v), .val (.ref b50), .val (.ref b54), .val (.int z59v), .val (.int z64), .val (.int z68), .val (.int z72), .val (.int z76), .val (.int z80), .val (.int z82v), .val (.int z85v), .val (.int z88v), .val (.int z91v), .val (.int z94v), .val (.int z97v), .val (.int z100v), .val (.int z103v), .val (.int z106v), .val (.int z109v), .unset, .unset, .unset, .unset, .unset, .unset, .unset, .unset, .unset, .unset] [(.int (0 : Int32)), (.int z97v), (.int (0 : Int32)), (.int (0 : Int32)), (.int z29v), (.int z24), (.int z22), (.int (4 : Int32)), (.int (1 : Int32))])) rfl (by rw [hml]; rfl) (argsL := [(.int (1 : Int32)), (.int (4 : Int32)), (.int z22), (.int z24), (.int z29v), (.int (0 : Int32)), (.int (0 : Int32)), (.int z97v), (.int (0 : Int32))]) (rest := []) (lenOf pd_3 rfl) rfl (by show 2 * 0 + _ ≤ _; exact Nat.le_of_eq rfl) (hb hby at_437) (fun _ _ => ⟨rfl, eq109, (by decide : 2 + 0 ≤ _), (by decide : 8 + 0 ≤ _)⟩)
  dsimp only [Pt.U, Pt.locs, Pt.cells, Pt.slots] at X112 l112 y112 z112 st112 hQ112
  rw [l112, y112, z112] at X112
  have X112 := X112.mono (cells' := 2) (slots' := 8) (by decide) (by decide)
  obtain ⟨z112v, rfl, hz112v, Nq112, eq112⟩ := hQ112
  have N112n := Fr.app N109n Nq112
  have P113 : own_Pr p.tables e below S0 T112 (mkF m 440 #[.val (.int p1), .val (.int p2), .val (.int p3), .val (.int p4), .val (.int z22), .val (.int z24), .val (.int z26v), .val (.int z29v), .val (.int z32v), .val (.int z35v), .val (.int z38v), .val (.int z41v), .val (.int z44v), .val (.int z47v), .val (.ref b50), .val (.ref b54), .val (.int z59v), .val (.int z64), .val (.int z68), .val (.int z72), .val (.int z76), .val (.int z80), .val (.int z82v), .val (.int z85v), .val (.int z88v), .val (.int z91v), .val (.int z94v), .val (.int z97v), .val (.int z100v), .val (.int z103v), .val (.int z106v), .val (.int z109v), .unset, .unset, .unset, .unset, .unset, .unset, .unset, .unset, .unset, .unset] [(.int z112v)]) := fun t k => P111 t (st112 _ k)
  have P114 : own_Pr p.tables e below S0 T112 (mkF m 458 #[.val (.int p1), .val (.int p2), .val (.int p3), .val (.int p4), .val (.int z22), .val (.int z24), .val (.int z26v), .val (.int z29v), .val (.int z32v), .val (.int z35v), .val (.int z38v), .val (.int z41v), .val (.int z44v), .val (.int z47v), .val (.ref b50), .val (.ref b54), .val (.int z59v), .val (.int z64), .val (.int z68), .val (.int z72), .val (.int z76), .val (.int z80), .val (.int z82v), .val (.int z85v), .val (.int z88v), .val (.int z91v), .val (.int z94v), .val (.int z97v), .val (.int z100v), .val (.int z103v), .val (.int z106v), .val (.int z109v), .val (.int z112v), .unset, .unset, .unset, .unset, .unset, .unset, .unset, .unset, .unset] [(.int z97v), (.int z100v), (.int z112v), (.int z47v), (.int z29v), (.int z24), (.int z22), (.int (3 : Int32)), (.int (1 : Int32))]) := fun t k => P113 t (by
    refine XS.istore X112.here hx rfl (hb hby at_440) rfl (l' := #[.val (.int p1), .val (.int p2), .val (.int p3), .val (.int p4), .val (.int z22), .val (.int z24), .val (.int z26v), .val (.int z29v), .val (.int z32v), .val (.int z35v), .val (.int z38v), .val (.int z41v), .val (.int z44v), .val (.int z47v), .val (.ref b50), .val (.ref b54), .val (.int z59v), .val (.int z64), .val (.int z68), .val (.int z72), .val (.int z76), .val (.int z80), .val (.int z82v), .val (.int z85v), .val (.int z88v), .val (.int z91v), .val (.int z94v), .val (.int z97v), .val (.int z100v), .val (.int z103v), .val (.int z106v), .val (.int z109v), .val (.int z112v), .unset, .unset, .unset, .unset, .unset, .unset, .unset, .unset, .unset]) rfl ?_
    refine XS.iconst X112.here hx rfl (hb hby at_442) ?_
    refine XS.iconst X112.here hx rfl (hb hby at_443) ?_
    refine XS.iload X112.here hx rfl (hb hby at_444) rfl ?_
    refine XS.iload X112.here hx rfl (hb hby at_446) rfl ?_
    refine XS.iload X112.here hx rfl (hb hby at_448) rfl ?_
    refine XS.iload X112.here hx rfl (hb hby at_450) rfl ?_
    refine XS.iload X112.here hx rfl (hb hby at_452) rfl ?_
    show Steps p.tables e below (T112.setTop (mkF m 454 #[.val (.int p1), .val (.int p2), .val (.int p3), .val (.int p4), .val (.int z22), .val (.int z24), .val (.int z26v), .val (.int z29v), .val (.int z32v), .val (.int z35v), .val (.int z38v), .val (.int z41v), .val (.int z44v), .val (.int z47v), .val (.ref b50), .val (.ref b54), .val (.int z59v), .val (.int z64), .val (.int z68), .val (.int z72), .val (.int z76), .val (.int z80), .val (.int z82v), .val (.int z85v), .val (.int z88v), .val (.int z91v), .val (.int z94v), .val (.int z97v), .val (.int z100v), .val (.int z103v), .val (.int z106v), .val (.int z109v), .val (.int z112v), .unset, .unset, .unset, .unset, .unset, .unset, .unset, .unset, .unset] [(.int z112v), (.int z47v), (.int z29v), (.int z24), (.int z22), (.int (3 : Int32)), (.int (1 : Int32))])) _
    refine XS.iload X112.here hx rfl (hb hby at_454) rfl ?_
    refine XS.iload X112.here hx rfl (hb hby at_456) rfl ?_
    exact k)
  obtain ⟨_, _, ⟨T115, L115, k115, n115⟩, -, X115, ⟨Lc115, hQ115, l115, y115, z115⟩, st115⟩ := Jvm.LawKit.callS X112 hx (y := (⟨"com/example/ferryline/ferryline/UriWorkerMapMatchesPinLaw", "cell", "(IIIIIIZZZ)Z"⟩ : MethodName)) hown (mvT hZ (hw _ (List.mem_of_getElem? (i := 15) rfl))) (mvT hZ (hw _ (List.mem_of_getElem? (i := 16) rfl))) (mvT hZ (hw _ (List.mem_of_getElem? (i := 2) rfl))) (mvT hZ (hw _ (List.mem_of_getElem? (i := 17) rfl))) (by decide) (backOf (W := 0) (rm5 l Z a0 hw [] (1 : Int32) (3 : Int32) z22 z24 z29v z47v z112v z100v z97v  T54.heap n0 Z56 ) hZ (hw _ (List.mem_of_getElem? (i := 17) rfl)) (hw _ (List.mem_of_getElem? (i := 2) rfl)) (by decide) (by decide)) (g := (mkF m 458 #[.val (.int p1), .val (.int p2), .val (.int p3), .val (.int p4), .val (.int z22), .val (.int z24), .val (.int z26v), .val (.int z29v), .val (.int z32v), .val (.int z35v), .val (.int z38v), .val (.int z41v), .val (.int z44v), .val (.int z47v), .val (.ref b50), .val (.ref b54), .val (.int z59v), .val (.int z64), .val (.int z68), .val (.int z72), .val (.int z76), .val (.int z80), .val (.int z82v), .val (.int z85v), .val (.int z88v), .val (.int z91v), .val (.int z94v), .val (.int z97v), .val (.int z100v), .val (.int z103v), .val (.int z106v), .val (.int z109v), .val (.int z112v), .unset, .unset, .unset, .unset, .unset, .unset, .unset, .unset, .unset] [(.int z97v), (.int z100v), (.int z112v), (.int z47v), (.int z29v), (.int z24), (.int z22), (.int (3 : Int32)), (.int (1 : Int32))])) rfl (by rw [hml]; rfl) (argsL := [(.int (1 : Int32)), (.int (3 : Int32)), (.int z22), (.int z24), (.int z29v), (.int z47v), (.int z112v), (.int z100v), (.int z97v)]) (rest := []) (lenOf pd_3 rfl) rfl (by show 2 * 0 + _ ≤ _; exact Nat.le_of_eq rfl) (hb hby at_458) (fun _ _ => ⟨rfl, eq112, (by decide : 2 + 0 ≤ _), (by decide : 8 + 0 ≤ _)⟩)
  dsimp only [Pt.U, Pt.locs, Pt.cells, Pt.slots] at X115 l115 y115 z115 st115 hQ115
  rw [l115, y115, z115] at X115
  have X115 := X115.mono (cells' := 2) (slots' := 8) (by decide) (by decide)
  obtain ⟨z115v, rfl, hz115v, Nq115, eq115⟩ := hQ115
  have N115n := Fr.app N112n Nq115
  have P116 : own_Pr p.tables e below S0 T115 (mkF m 461 #[.val (.int p1), .val (.int p2), .val (.int p3), .val (.int p4), .val (.int z22), .val (.int z24), .val (.int z26v), .val (.int z29v), .val (.int z32v), .val (.int z35v), .val (.int z38v), .val (.int z41v), .val (.int z44v), .val (.int z47v), .val (.ref b50), .val (.ref b54), .val (.int z59v), .val (.int z64), .val (.int z68), .val (.int z72), .val (.int z76), .val (.int z80), .val (.int z82v), .val (.int z85v), .val (.int z88v), .val (.int z91v), .val (.int z94v), .val (.int z97v), .val (.int z100v), .val (.int z103v), .val (.int z106v), .val (.int z109v), .val (.int z112v), .unset, .unset, .unset, .unset, .unset, .unset, .unset, .unset, .unset] [(.int z115v)]) := fun t k => P114 t (st115 _ k)
  have P117 : own_Pr p.tables e below S0 T115 (mkF m 479 #[.val (.int p1), .val (.int p2), .val (.int p3), .val (.int p4), .val (.int z22), .val (.int z24), .val (.int z26v), .val (.int z29v), .val (.int z32v), .val (.int z35v), .val (.int z38v), .val (.int z41v), .val (.int z44v), .val (.int z47v), .val (.ref b50), .val (.ref b54), .val (.int z59v), .val (.int z64), .val (.int z68), .val (.int z72), .val (.int z76), .val (.int z80), .val (.int z82v), .val (.int z85v), .val (.int z88v), .val (.int z91v), .val (.int z94v), .val (.int z97v), .val (.int z100v), .val (.int z103v), .val (.int z106v), .val (.int z109v), .val (.int z112v), .val (.int z115v), .unset, .unset, .unset, .unset, .unset, .unset, .unset, .unset] [(.int z100v), (.int z103v), (.int z115v), (.int z44v), (.int z29v), (.int z24), (.int z22), (.int (2 : Int32)), (.int (1 : Int32))]) := fun t k => P116 t (by
    refine XS.istore X115.here hx rfl (hb hby at_461) rfl (l' := #[.val (.int p1), .val (.int p2), .val (.int p3), .val (.int p4), .val (.int z22), .val (.int z24), .val (.int z26v), .val (.int z29v), .val (.int z32v), .val (.int z35v), .val (.int z38v), .val (.int z41v), .val (.int z44v), .val (.int z47v), .val (.ref b50), .val (.ref b54), .val (.int z59v), .val (.int z64), .val (.int z68), .val (.int z72), .val (.int z76), .val (.int z80), .val (.int z82v), .val (.int z85v), .val (.int z88v), .val (.int z91v), .val (.int z94v), .val (.int z97v), .val (.int z100v), .val (.int z103v), .val (.int z106v), .val (.int z109v), .val (.int z112v), .val (.int z115v), .unset, .unset, .unset, .unset, .unset, .unset, .unset, .unset]) rfl ?_
    refine XS.iconst X115.here hx rfl (hb hby at_463) ?_
    refine XS.iconst X115.here hx rfl (hb hby at_464) ?_
    refine XS.iload X115.here hx rfl (hb hby at_465) rfl ?_
    refine XS.iload X115.here hx rfl (hb hby at_467) rfl ?_
    refine XS.iload X115.here hx rfl (hb hby at_469) rfl ?_
    refine XS.iload X115.here hx rfl (hb hby at_471) rfl ?_
    refine XS.iload X115.here hx rfl (hb hby at_473) rfl ?_
    show Steps p.tables e below (T115.setTop (mkF m 475 #[.val (.int p1), .val (.int p2), .val (.int p3), .val (.int p4), .val (.int z22), .val (.int z24), .val (.int z26v), .val (.int z29v), .val (.int z32v), .val (.int z35v), .val (.int z38v), .val (.int z41v), .val (.int z44v), .val (.int z47v), .val (.ref b50), .val (.ref b54), .val (.int z59v), .val (.int z64), .val (.int z68), .val (.int z72), .val (.int z76), .val (.int z80), .val (.int z82v), .val (.int z85v), .val (.int z88v), .val (.int z91v), .val (.int z94v), .val (.int z97v), .val (.int z100v), .val (.int z103v), .val (.int z106v), .val (.int z109v), .val (.int z112v), .val (.int z115v), .unset, .unset, .unset, .unset, .unset, .unset, .unset, .unset] [(.int z115v), (.int z44v), (.int z29v), (.int z24), (.int z22), (.int (2 : Int32)), (.int (1 : Int32))])) _
    refine XS.iload X115.here hx rfl (hb hby at_475) rfl ?_
    refine XS.iload X115.here hx rfl (hb hby at_477) rfl ?_
    exact k)
  obtain ⟨_, _, ⟨T118, L118, k118, n118⟩, -, X118, ⟨Lc118, hQ118, l118, y118, z118⟩, st118⟩ := Jvm.LawKit.callS X115 hx (y := (⟨"com/example/ferryline/ferryline/UriWorkerMapMatchesPinLaw", "cell", "(IIIIIIZZZ)Z"⟩ : MethodName)) hown (mvT hZ (hw _ (List.mem_of_getElem? (i := 15) rfl))) (mvT hZ (hw _ (List.mem_of_getElem? (i := 16) rfl))) (mvT hZ (hw _ (List.mem_of_getElem? (i := 2) rfl))) (mvT hZ (hw _ (List.mem_of_getElem? (i := 17) rfl))) (by decide) (backOf (W := 0) (rm5 l Z a0 hw [] (1 : Int32) (2 : Int32) z22 z24 z29v z44v z115v z103v z100v  T54.heap n0 Z56 ) hZ (hw _ (List.mem_of_getElem? (i := 17) rfl)) (hw _ (List.mem_of_getElem? (i := 2) rfl)) (by decide) (by decide)) (g := (mkF m 479 #[.val (.int p1), .val (.int p2), .val (.int p3), .val (.int p4), .val (.int z22), .val (.int z24), .val (.int z26v), .val (.int z29v), .val (.int z32v), .val (.int z35v), .val (.int z38v), .val (.int z41v), .val (.int z44v), .val (.int z47v), .val (.ref b50), .val (.ref b54), .val (.int z59v), .val (.int z64), .val (.int z68), .val (.int z72), .val (.int z76), .val (.int z80), .val (.int z82v), .val (.int z85v), .val (.int z88v), .val (.int z91v), .val (.int z94v), .val (.int z97v), .val (.int z100v), .val (.int z103v), .val (.int z106v), .val (.int z109v), .val (.int z112v), .val (.int z115v), .unset, .unset, .unset, .unset, .unset, .unset, .unset, .unset] [(.int z100v), (.int z103v), (.int z115v), (.int z44v), (.int z29v), (.int z24), (.int z22), (.int (2 : Int32)), (.int (1 : Int32))])) rfl (by rw [hml]; rfl) (argsL := [(.int (1 : Int32)), (.int (2 : Int32)), (.int z22), (.int z24), (.int z29v), (.int z44v), (.int z115v), (.int z103v), (.int z100v)]) (rest := []) (lenOf pd_3 rfl) rfl (by show 2 * 0 + _ ≤ _; exact Nat.le_of_eq rfl) (hb hby at_479) (fun _ _ => ⟨rfl, eq115, (by decide : 2 + 0 ≤ _), (by decide : 8 + 0 ≤ _)⟩)
  dsimp only [Pt.U, Pt.locs, Pt.cells, Pt.slots] at X118 l118 y118 z118 st118 hQ118
  rw [l118, y118, z118] at X118
  have X118 := X118.mono (cells' := 2) (slots' := 8) (by decide) (by decide)
  obtain ⟨z118v, rfl, hz118v, Nq118, eq118⟩ := hQ118
  have N118n := Fr.app N115n Nq118
  have P119 : own_Pr p.tables e below S0 T118 (mkF m 482 #[.val (.int p1), .val (.int p2), .val (.int p3), .val (.int p4), .val (.int z22), .val (.int z24), .val (.int z26v), .val (.int z29v), .val (.int z32v), .val (.int z35v), .val (.int z38v), .val (.int z41v), .val (.int z44v), .val (.int z47v), .val (.ref b50), .val (.ref b54), .val (.int z59v), .val (.int z64), .val (.int z68), .val (.int z72), .val (.int z76), .val (.int z80), .val (.int z82v), .val (.int z85v), .val (.int z88v), .val (.int z91v), .val (.int z94v), .val (.int z97v), .val (.int z100v), .val (.int z103v), .val (.int z106v), .val (.int z109v), .val (.int z112v), .val (.int z115v), .unset, .unset, .unset, .unset, .unset, .unset, .unset, .unset] [(.int z118v)]) := fun t k => P117 t (st118 _ k)
  have P120 : own_Pr p.tables e below S0 T118 (mkF m 500 #[.val (.int p1), .val (.int p2), .val (.int p3), .val (.int p4), .val (.int z22), .val (.int z24), .val (.int z26v), .val (.int z29v), .val (.int z32v), .val (.int z35v), .val (.int z38v), .val (.int z41v), .val (.int z44v), .val (.int z47v), .val (.ref b50), .val (.ref b54), .val (.int z59v), .val (.int z64), .val (.int z68), .val (.int z72), .val (.int z76), .val (.int z80), .val (.int z82v), .val (.int z85v), .val (.int z88v), .val (.int z91v), .val (.int z94v), .val (.int z97v), .val (.int z100v), .val (.int z103v), .val (.int z106v), .val (.int z109v), .val (.int z112v), .val (.int z115v), .val (.int z118v), .unset, .unset, .unset, .unset, .unset, .unset, .unset] [(.int z103v), (.int z106v), (.int z118v), (.int z41v), (.int z29v), (.int z24), (.int z22), (.int (1 : Int32)), (.int (1 : Int32))]) := fun t k => P119 t (by
    refine XS.istore X118.here hx rfl (hb hby at_482) rfl (l' := #[.val (.int p1), .val (.int p2), .val (.int p3), .val (.int p4), .val (.int z22), .val (.int z24), .val (.int z26v), .val (.int z29v), .val (.int z32v), .val (.int z35v), .val (.int z38v), .val (.int z41v), .val (.int z44v), .val (.int z47v), .val (.ref b50), .val (.ref b54), .val (.int z59v), .val (.int z64), .val (.int z68), .val (.int z72), .val (.int z76), .val (.int z80), .val (.int z82v), .val (.int z85v), .val (.int z88v), .val (.int z91v), .val (.int z94v), .val (.int z97v), .val (.int z100v), .val (.int z103v), .val (.int z106v), .val (.int z109v), .val (.int z112v), .val (.int z115v), .val (.int z118v), .unset, .unset, .unset, .unset, .unset, .unset, .unset]) rfl ?_
    refine XS.iconst X118.here hx rfl (hb hby at_484) ?_
    refine XS.iconst X118.here hx rfl (hb hby at_485) ?_
    refine XS.iload X118.here hx rfl (hb hby at_486) rfl ?_
    refine XS.iload X118.here hx rfl (hb hby at_488) rfl ?_
    refine XS.iload X118.here hx rfl (hb hby at_490) rfl ?_
    refine XS.iload X118.here hx rfl (hb hby at_492) rfl ?_
    refine XS.iload X118.here hx rfl (hb hby at_494) rfl ?_
    show Steps p.tables e below (T118.setTop (mkF m 496 #[.val (.int p1), .val (.int p2), .val (.int p3), .val (.int p4), .val (.int z22), .val (.int z24), .val (.int z26v), .val (.int z29v), .val (.int z32v), .val (.int z35v), .val (.int z38v), .val (.int z41v), .val (.int z44v), .val (.int z47v), .val (.ref b50), .val (.ref b54), .val (.int z59v), .val (.int z64), .val (.int z68), .val (.int z72), .val (.int z76), .val (.int z80), .val (.int z82v), .val (.int z85v), .val (.int z88v), .val (.int z91v), .val (.int z94v), .val (.int z97v), .val (.int z100v), .val (.int z103v), .val (.int z106v), .val (.int z109v), .val (.int z112v), .val (.int z115v), .val (.int z118v), .unset, .unset, .unset, .unset, .unset, .unset, .unset] [(.int z118v), (.int z41v), (.int z29v), (.int z24), (.int z22), (.int (1 : Int32)), (.int (1 : Int32))])) _
    refine XS.iload X118.here hx rfl (hb hby at_496) rfl ?_
    refine XS.iload X118.here hx rfl (hb hby at_498) rfl ?_
    exact k)
  obtain ⟨_, _, ⟨T121, L121, k121, n121⟩, -, X121, ⟨Lc121, hQ121, l121, y121, z121⟩, st121⟩ := Jvm.LawKit.callS X118 hx (y := (⟨"com/example/ferryline/ferryline/UriWorkerMapMatchesPinLaw", "cell", "(IIIIIIZZZ)Z"⟩ : MethodName)) hown (mvT hZ (hw _ (List.mem_of_getElem? (i := 15) rfl))) (mvT hZ (hw _ (List.mem_of_getElem? (i := 16) rfl))) (mvT hZ (hw _ (List.mem_of_getElem? (i := 2) rfl))) (mvT hZ (hw _ (List.mem_of_getElem? (i := 17) rfl))) (by decide) (backOf (W := 0) (rm5 l Z a0 hw [] (1 : Int32) (1 : Int32) z22 z24 z29v z41v z118v z106v z103v  T54.heap n0 Z56 ) hZ (hw _ (List.mem_of_getElem? (i := 17) rfl)) (hw _ (List.mem_of_getElem? (i := 2) rfl)) (by decide) (by decide)) (g := (mkF m 500 #[.val (.int p1), .val (.int p2), .val (.int p3), .val (.int p4), .val (.int z22), .val (.int z24), .val (.int z26v), .val (.int z29v), .val (.int z32v), .val (.int z35v), .val (.int z38v), .val (.int z41v), .val (.int z44v), .val (.int z47v), .val (.ref b50), .val (.ref b54), .val (.int z59v), .val (.int z64), .val (.int z68), .val (.int z72), .val (.int z76), .val (.int z80), .val (.int z82v), .val (.int z85v), .val (.int z88v), .val (.int z91v), .val (.int z94v), .val (.int z97v), .val (.int z100v), .val (.int z103v), .val (.int z106v), .val (.int z109v), .val (.int z112v), .val (.int z115v), .val (.int z118v), .unset, .unset, .unset, .unset, .unset, .unset, .unset] [(.int z103v), (.int z106v), (.int z118v), (.int z41v), (.int z29v), (.int z24), (.int z22), (.int (1 : Int32)), (.int (1 : Int32))])) rfl (by rw [hml]; rfl) (argsL := [(.int (1 : Int32)), (.int (1 : Int32)), (.int z22), (.int z24), (.int z29v), (.int z41v), (.int z118v), (.int z106v), (.int z103v)]) (rest := []) (lenOf pd_3 rfl) rfl (by show 2 * 0 + _ ≤ _; exact Nat.le_of_eq rfl) (hb hby at_500) (fun _ _ => ⟨rfl, eq118, (by decide : 2 + 0 ≤ _), (by decide : 8 + 0 ≤ _)⟩)
  dsimp only [Pt.U, Pt.locs, Pt.cells, Pt.slots] at X121 l121 y121 z121 st121 hQ121
  rw [l121, y121, z121] at X121
  have X121 := X121.mono (cells' := 2) (slots' := 8) (by decide) (by decide)
  obtain ⟨z121v, rfl, hz121v, Nq121, eq121⟩ := hQ121
  have N121n := Fr.app N118n Nq121
  have P122 : own_Pr p.tables e below S0 T121 (mkF m 503 #[.val (.int p1), .val (.int p2), .val (.int p3), .val (.int p4), .val (.int z22), .val (.int z24), .val (.int z26v), .val (.int z29v), .val (.int z32v), .val (.int z35v), .val (.int z38v), .val (.int z41v), .val (.int z44v), .val (.int z47v), .val (.ref b50), .val (.ref b54), .val (.int z59v), .val (.int z64), .val (.int z68), .val (.int z72), .val (.int z76), .val (.int z80), .val (.int z82v), .val (.int z85v), .val (.int z88v), .val (.int z91v), .val (.int z94v), .val (.int z97v), .val (.int z100v), .val (.int z103v), .val (.int z106v), .val (.int z109v), .val (.int z112v), .val (.int z115v), .val (.int z118v), .unset, .unset, .unset, .unset, .unset, .unset, .unset] [(.int z121v)]) := fun t k => P120 t (st121 _ k)
  have P123 : own_Pr p.tables e below S0 T121 (mkF m 521 #[.val (.int p1), .val (.int p2), .val (.int p3), .val (.int p4), .val (.int z22), .val (.int z24), .val (.int z26v), .val (.int z29v), .val (.int z32v), .val (.int z35v), .val (.int z38v), .val (.int z41v), .val (.int z44v), .val (.int z47v), .val (.ref b50), .val (.ref b54), .val (.int z59v), .val (.int z64), .val (.int z68), .val (.int z72), .val (.int z76), .val (.int z80), .val (.int z82v), .val (.int z85v), .val (.int z88v), .val (.int z91v), .val (.int z94v), .val (.int z97v), .val (.int z100v), .val (.int z103v), .val (.int z106v), .val (.int z109v), .val (.int z112v), .val (.int z115v), .val (.int z118v), .val (.int z121v), .unset, .unset, .unset, .unset, .unset, .unset] [(.int z106v), (.int z109v), (.int z121v), (.int z38v), (.int z29v), (.int z24), (.int z22), (.int (0 : Int32)), (.int (1 : Int32))]) := fun t k => P122 t (by
    refine XS.istore X121.here hx rfl (hb hby at_503) rfl (l' := #[.val (.int p1), .val (.int p2), .val (.int p3), .val (.int p4), .val (.int z22), .val (.int z24), .val (.int z26v), .val (.int z29v), .val (.int z32v), .val (.int z35v), .val (.int z38v), .val (.int z41v), .val (.int z44v), .val (.int z47v), .val (.ref b50), .val (.ref b54), .val (.int z59v), .val (.int z64), .val (.int z68), .val (.int z72), .val (.int z76), .val (.int z80), .val (.int z82v), .val (.int z85v), .val (.int z88v), .val (.int z91v), .val (.int z94v), .val (.int z97v), .val (.int z100v), .val (.int z103v), .val (.int z106v), .val (.int z109v), .val (.int z112v), .val (.int z115v), .val (.int z118v), .val (.int z121v), .unset, .unset, .unset, .unset, .unset, .unset]) rfl ?_
    refine XS.iconst X121.here hx rfl (hb hby at_505) ?_
    refine XS.iconst X121.here hx rfl (hb hby at_506) ?_
    refine XS.iload X121.here hx rfl (hb hby at_507) rfl ?_
    refine XS.iload X121.here hx rfl (hb hby at_509) rfl ?_
    refine XS.iload X121.here hx rfl (hb hby at_511) rfl ?_
    refine XS.iload X121.here hx rfl (hb hby at_513) rfl ?_
    refine XS.iload X121.here hx rfl (hb hby at_515) rfl ?_
    show Steps p.tables e below (T121.setTop (mkF m 517 #[.val (.int p1), .val (.int p2), .val (.int p3), .val (.int p4), .val (.int z22), .val (.int z24), .val (.int z26v), .val (.int z29v), .val (.int z32v), .val (.int z35v), .val (.int z38v), .val (.int z41v), .val (.int z44v), .val (.int z47v), .val (.ref b50), .val (.ref b54), .val (.int z59v), .val (.int z64), .val (.int z68), .val (.int z72), .val (.int z76), .val (.int z80), .val (.int z82v), .val (.int z85v), .val (.int z88v), .val (.int z91v), .val (.int z94v), .val (.int z97v), .val (.int z100v), .val (.int z103v), .val (.int z106v), .val (.int z109v), .val (.int z112v), .val (.int z115v), .val (.int z118v), .val (.int z121v), .unset, .unset, .unset, .unset, .unset, .unset] [(.int z121v), (.int z38v), (.int z29v), (.int z24), (.int z22), (.int (0 : Int32)), (.int (1 : Int32))])) _
    refine XS.iload X121.here hx rfl (hb hby at_517) rfl ?_
    refine XS.iload X121.here hx rfl (hb hby at_519) rfl ?_
    exact k)
  obtain ⟨_, _, ⟨T124, L124, k124, n124⟩, -, X124, ⟨Lc124, hQ124, l124, y124, z124⟩, st124⟩ := Jvm.LawKit.callS X121 hx (y := (⟨"com/example/ferryline/ferryline/UriWorkerMapMatchesPinLaw", "cell", "(IIIIIIZZZ)Z"⟩ : MethodName)) hown (mvT hZ (hw _ (List.mem_of_getElem? (i := 15) rfl))) (mvT hZ (hw _ (List.mem_of_getElem? (i := 16) rfl))) (mvT hZ (hw _ (List.mem_of_getElem? (i := 2) rfl))) (mvT hZ (hw _ (List.mem_of_getElem? (i := 17) rfl))) (by decide) (backOf (W := 0) (rm5 l Z a0 hw [] (1 : Int32) (0 : Int32) z22 z24 z29v z38v z121v z109v z106v  T54.heap n0 Z56 ) hZ (hw _ (List.mem_of_getElem? (i := 17) rfl)) (hw _ (List.mem_of_getElem? (i := 2) rfl)) (by decide) (by decide)) (g := (mkF m 521 #[.val (.int p1), .val (.int p2), .val (.int p3), .val (.int p4), .val (.int z22), .val (.int z24), .val (.int z26v), .val (.int z29v), .val (.int z32v), .val (.int z35v), .val (.int z38v), .val (.int z41v), .val (.int z44v), .val (.int z47v), .val (.ref b50), .val (.ref b54), .val (.int z59v), .val (.int z64), .val (.int z68), .val (.int z72), .val (.int z76), .val (.int z80), .val (.int z82v), .val (.int z85v), .val (.int z88v), .val (.int z91v), .val (.int z94v), .val (.int z97v), .val (.int z100v), .val (.int z103v), .val (.int z106v), .val (.int z109v), .val (.int z112v), .val (.int z115v), .val (.int z118v), .val (.int z121v), .unset, .unset, .unset, .unset, .unset, .unset] [(.int z106v), (.int z109v), (.int z121v), (.int z38v), (.int z29v), (.int z24), (.int z22), (.int (0 : Int32)), (.int (1 : Int32))])) rfl (by rw [hml]; rfl) (argsL := [(.int (1 : Int32)), (.int (0 : Int32)), (.int z22), (.int z24), (.int z29v), (.int z38v), (.int z121v), (.int z109v), (.int z106v)]) (rest := []) (lenOf pd_3 rfl) rfl (by show 2 * 0 + _ ≤ _; exact Nat.le_of_eq rfl) (hb hby at_521) (fun _ _ => ⟨rfl, eq121, (by decide : 2 + 0 ≤ _), (by decide : 8 + 0 ≤ _)⟩)
  dsimp only [Pt.U, Pt.locs, Pt.cells, Pt.slots] at X124 l124 y124 z124 st124 hQ124
  rw [l124, y124, z124] at X124
  have X124 := X124.mono (cells' := 2) (slots' := 8) (by decide) (by decide)
  obtain ⟨z124v, rfl, hz124v, Nq124, eq124⟩ := hQ124
  have N124n := Fr.app N121n Nq124
  have P125 : own_Pr p.tables e below S0 T124 (mkF m 524 #[.val (.int p1), .val (.int p2), .val (.int p3), .val (.int p4), .val (.int z22), .val (.int z24), .val (.int z26v), .val (.int z29v), .val (.int z32v), .val (.int z35v), .val (.int z38v), .val (.int z41v), .val (.int z44v), .val (.int z47v), .val (.ref b50), .val (.ref b54), .val (.int z59v), .val (.int z64), .val (.int z68), .val (.int z72), .val (.int z76), .val (.int z80), .val (.int z82v), .val (.int z85v), .val (.int z88v), .val (.int z91v), .val (.int z94v), .val (.int z97v), .val (.int z100v), .val (.int z103v), .val (.int z106v), .val (.int z109v), .val (.int z112v), .val (.int z115v), .val (.int z118v), .val (.int z121v), .unset, .unset, .unset, .unset, .unset, .unset] [(.int z124v)]) := fun t k => P123 t (st124 _ k)
  have P126 : own_Pr p.tables e below S0 T124 (mkF m 539 #[.val (.int p1), .val (.int p2), .val (.int p3), .val (.int p4), .val (.int z22), .val (.int z24), .val (.int z26v), .val (.int z29v), .val (.int z32v), .val (.int z35v), .val (.int z38v), .val (.int z41v), .val (.int z44v), .val (.int z47v), .val (.ref b50), .val (.ref b54), .val (.int z59v), .val (.int z64), .val (.int z68), .val (.int z72), .val (.int z76), .val (.int z80), .val (.int z82v), .val (.int z85v), .val (.int z88v), .val (.int z91v), .val (.int z94v), .val (.int z97v), .val (.int z100v), .val (.int z103v), .val (.int z106v), .val (.int z109v), .val (.int z112v), .val (.int z115v), .val (.int z118v), .val (.int z121v), .val (.int z124v), .unset, .unset, .unset, .unset, .unset] [(.int (0 : Int32)), (.int z112v), (.int (0 : Int32)), (.int (0 : Int32)), (.int z26v), (.int z24), (.int z22), (.int (4 : Int32)), (.int (0 : Int32))]) := fun t k => P125 t (by
    refine XS.istore X124.here hx rfl (hb hby at_524) rfl (l' := #[.val (.int p1), .val (.int p2), .val (.int p3), .val (.int p4), .val (.int z22), .val (.int z24), .val (.int z26v), .val (.int z29v), .val (.int z32v), .val (.int z35v), .val (.int z38v), .val (.int z41v), .val (.int z44v), .val (.int z47v), .val (.ref b50), .val (.ref b54), .val (.int z59v), .val (.int z64), .val (.int z68), .val (.int z72), .val (.int z76), .val (.int z80), .val (.int z82v), .val (.int z85v), .val (.int z88v), .val (.int z91v), .val (.int z94v), .val (.int z97v), .val (.int z100v), .val (.int z103v), .val (.int z106v), .val (.int z109v), .val (.int z112v), .val (.int z115v), .val (.int z118v), .val (.int z121v), .val (.int z124v), .unset, .unset, .unset, .unset, .unset]) rfl ?_
    refine XS.iconst X124.here hx rfl (hb hby at_526) ?_
    refine XS.iconst X124.here hx rfl (hb hby at_527) ?_
    refine XS.iload X124.here hx rfl (hb hby at_528) rfl ?_
    refine XS.iload X124.here hx rfl (hb hby at_530) rfl ?_
    refine XS.iload X124.here hx rfl (hb hby at_532) rfl ?_
    refine XS.iconst X124.here hx rfl (hb hby at_534) ?_
    refine XS.iconst X124.here hx rfl (hb hby at_535) ?_
    show Steps p.tables e below (T124.setTop (mkF m 536 #[.val (.int p1), .val (.int p2), .val (.int p3), .val (.int p4), .val (.int z22), .val (.int z24), .val (.int z26v), .val (.int z29v), .val (.int z32v), .val (.int z35v), .val (.int z38v), .val (.int z41v), .val (.int z44v), .val (.int z47v), .val (.ref b50), .val (.ref b54), .val (.int z59v), .val (.int z64), .val (.int z68), .val (.int z72), .val (.int z76), .val (.int z80), .val (.int z82v), .val (.int z85v), .val (.int z88v), .val (.int z91v), .val (.int z94v), .val (.int z97v), .val (.int z100v), .val (.int z103v), .val (.int z106v), .val (.int z109v), .val (.int z112v), .val (.int z115v), .val (.int z118v), .val (.int z121v), .val (.int z124v), .unset, .unset, .unset, .unset, .unset] [(.int (0 : Int32)), (.int (0 : Int32)), (.int z26v), (.int z24), (.int z22), (.int (4 : Int32)), (.int (0 : Int32))])) _
    refine XS.iload X124.here hx rfl (hb hby at_536) rfl ?_
    refine XS.iconst X124.here hx rfl (hb hby at_538) ?_
    exact k)
  obtain ⟨_, _, ⟨T127, L127, k127, n127⟩, -, X127, ⟨Lc127, hQ127, l127, y127, z127⟩, st127⟩ := Jvm.LawKit.callS X124 hx (y := (⟨"com/example/ferryline/ferryline/UriWorkerMapMatchesPinLaw", "cell", "(IIIIIIZZZ)Z"⟩ : MethodName)) hown (mvT hZ (hw _ (List.mem_of_getElem? (i := 15) rfl))) (mvT hZ (hw _ (List.mem_of_getElem? (i := 16) rfl))) (mvT hZ (hw _ (List.mem_of_getElem? (i := 2) rfl))) (mvT hZ (hw _ (List.mem_of_getElem? (i := 17) rfl))) (by decide) (backOf (W := 0) (rm5 l Z a0 hw [] (0 : Int32) (4 : Int32) z22 z24 z26v (0 : Int32) (0 : Int32) z112v (0 : Int32)  T54.heap n0 Z56 ) hZ (hw _ (List.mem_of_getElem? (i := 17) rfl)) (hw _ (List.mem_of_getElem? (i := 2) rfl)) (by decide) (by decide)) (g := (mkF m 539 #[.val (.int p1), .val (.int p2), .val (.int p3), .val (.int p4), .val (.int z22), .val (.int z24), .val (.int z26v), .val (.int z29v), .val (.int z32v), .val (.int z35v), .val (.int z38v), .val (.int z41v), .val (.int z44v), .val (.int z47v), .val (.ref b50), .val (.ref b54), .val (.int z59v), .val (.int z64), .val (.int z68), .val (.int z72), .val (.int z76), .val (.int z80), .val (.int z82v), .val (.int z85v), .val (.int z88v), .val (.int z91v), .val (.int z94v), .val (.int z97v), .val (.int z100v), .val (.int z103v), .val (.int z106v), .val (.int z109v), .val (.int z112v), .val (.int z115v), .val (.int z118v), .val (.int z121v), .val (.int z124v), .unset, .unset, .unset, .unset, .unset] [(.int (0 : Int32)), (.int z112v), (.int (0 : Int32)), (.int (0 : Int32)), (.int z26v), (.int z24), (.int z22), (.int (4 : Int32)), (.int (0 : Int32))])) rfl (by rw [hml]; rfl) (argsL := [(.int (0 : Int32)), (.int (4 : Int32)), (.int z22), (.int z24), (.int z26v), (.int (0 : Int32)), (.int (0 : Int32)), (.int z112v), (.int (0 : Int32))]) (rest := []) (lenOf pd_3 rfl) rfl (by show 2 * 0 + _ ≤ _; exact Nat.le_of_eq rfl) (hb hby at_539) (fun _ _ => ⟨rfl, eq124, (by decide : 2 + 0 ≤ _), (by decide : 8 + 0 ≤ _)⟩)
  dsimp only [Pt.U, Pt.locs, Pt.cells, Pt.slots] at X127 l127 y127 z127 st127 hQ127
  rw [l127, y127, z127] at X127
  have X127 := X127.mono (cells' := 2) (slots' := 8) (by decide) (by decide)
  obtain ⟨z127v, rfl, hz127v, Nq127, eq127⟩ := hQ127
  have N127n := Fr.app N124n Nq127
  have P128 : own_Pr p.tables e below S0 T127 (mkF m 542 #[.val (.int p1), .val (.int p2), .val (.int p3), .val (.int p4), .val (.int z22), .val (.int z24), .val (.int z26v), .val (.int z29v), .val (.int z32v), .val (.int z35v), .val (.int z38v), .val (.int z41v), .val (.int z44v), .val (.int z47v), .val (.ref b50), .val (.ref b54), .val (.int z59v), .val (.int z64), .val (.int z68), .val (.int z72), .val (.int z76), .val (.int z80), .val (.int z82v), .val (.int z85v), .val (.int z88v), .val (.int z91v), .val (.int z94v), .val (.int z97v), .val (.int z100v), .val (.int z103v), .val (.int z106v), .val (.int z109v), .val (.int z112v), .val (.int z115v), .val (.int z118v), .val (.int z121v), .val (.int z124v), .unset, .unset, .unset, .unset, .unset] [(.int z127v)]) := fun t k => P126 t (st127 _ k)
  have P129 : own_Pr p.tables e below S0 T127 (mkF m 560 #[.val (.int p1), .val (.int p2), .val (.int p3), .val (.int p4), .val (.int z22), .val (.int z24), .val (.int z26v), .val (.int z29v), .val (.int z32v), .val (.int z35v), .val (.int z38v), .val (.int z41v), .val (.int z44v), .val (.int z47v), .val (.ref b50), .val (.ref b54), .val (.int z59v), .val (.int z64), .val (.int z68), .val (.int z72), .val (.int z76), .val (.int z80), .val (.int z82v), .val (.int z85v), .val (.int z88v), .val (.int z91v), .val (.int z94v), .val (.int z97v), .val (.int z100v), .val (.int z103v), .val (.int z106v), .val (.int z109v), .val (.int z112v), .val (.int z115v), .val (.int z118v), .val (.int z121v), .val (.int z124v), .val (.int z127v), .unset, .unset, .unset, .unset] [(.int z112v), (.int z115v), (.int z127v), (.int z47v), (.int z26v), (.int z24), (.int z22), (.int (3 : Int32)), (.int (0 : Int32))]) := fun t k => P128 t (by
    refine XS.istore X127.here hx rfl (hb hby at_542) rfl (l' := #[.val (.int p1), .val (.int p2), .val (.int p3), .val (.int p4), .val (.int z22), .val (.int z24), .val (.int z26v), .val (.int z29v), .val (.int z32v), .val (.int z35v), .val (.int z38v), .val (.int z41v), .val (.int z44v), .val (.int z47v), .val (.ref b50), .val (.ref b54), .val (.int z59v), .val (.int z64), .val (.int z68), .val (.int z72), .val (.int z76), .val (.int z80), .val (.int z82v), .val (.int z85v), .val (.int z88v), .val (.int z91v), .val (.int z94v), .val (.int z97v), .val (.int z100v), .val (.int z103v), .val (.int z106v), .val (.int z109v), .val (.int z112v), .val (.int z115v), .val (.int z118v), .val (.int z121v), .val (.int z124v), .val (.int z127v), .unset, .unset, .unset, .unset]) rfl ?_
    refine XS.iconst X127.here hx rfl (hb hby at_544) ?_
    refine XS.iconst X127.here hx rfl (hb hby at_545) ?_
    refine XS.iload X127.here hx rfl (hb hby at_546) rfl ?_
    refine XS.iload X127.here hx rfl (hb hby at_548) rfl ?_
    refine XS.iload X127.here hx rfl (hb hby at_550) rfl ?_
    refine XS.iload X127.here hx rfl (hb hby at_552) rfl ?_
    refine XS.iload X127.here hx rfl (hb hby at_554) rfl ?_
    show Steps p.tables e below (T127.setTop (mkF m 556 #[.val (.int p1), .val (.int p2), .val (.int p3), .val (.int p4), .val (.int z22), .val (.int z24), .val (.int z26v), .val (.int z29v), .val (.int z32v), .val (.int z35v), .val (.int z38v), .val (.int z41v), .val (.int z44v), .val (.int z47v), .val (.ref b50), .val (.ref b54), .val (.int z59v), .val (.int z64), .val (.int z68), .val (.int z72), .val (.int z76), .val (.int z80), .val (.int z82v), .val (.int z85v), .val (.int z88v), .val (.int z91v), .val (.int z94v), .val (.int z97v), .val (.int z100v), .val (.int z103v), .val (.int z106v), .val (.int z109v), .val (.int z112v), .val (.int z115v), .val (.int z118v), .val (.int z121v), .val (.int z124v), .val (.int z127v), .unset, .unset, .unset, .unset] [(.int z127v), (.int z47v), (.int z26v), (.int z24), (.int z22), (.int (3 : Int32)), (.int (0 : Int32))])) _
    refine XS.iload X127.here hx rfl (hb hby at_556) rfl ?_
    refine XS.iload X127.here hx rfl (hb hby at_558) rfl ?_
    exact k)
  obtain ⟨_, _, ⟨T130, L130, k130, n130⟩, -, X130, ⟨Lc130, hQ130, l130, y130, z130⟩, st130⟩ := Jvm.LawKit.callS X127 hx (y := (⟨"com/example/ferryline/ferryline/UriWorkerMapMatchesPinLaw", "cell", "(IIIIIIZZZ)Z"⟩ : MethodName)) hown (mvT hZ (hw _ (List.mem_of_getElem? (i := 15) rfl))) (mvT hZ (hw _ (List.mem_of_getElem? (i := 16) rfl))) (mvT hZ (hw _ (List.mem_of_getElem? (i := 2) rfl))) (mvT hZ (hw _ (List.mem_of_getElem? (i := 17) rfl))) (by decide) (backOf (W := 0) (rm5 l Z a0 hw [] (0 : Int32) (3 : Int32) z22 z24 z26v z47v z127v z115v z112v  T54.heap n0 Z56 ) hZ (hw _ (List.mem_of_getElem? (i := 17) rfl)) (hw _ (List.mem_of_getElem? (i := 2) rfl)) (by decide) (by decide)) (g := (mkF m 560 #[.val (.int p1), .val (.int p2), .val (.int p3), .val (.int p4), .val (.int z22), .val (.int z24), .val (.int z26v), .val (.int z29v), .val (.int z32v), .val (.int z35v), .val (.int z38v), .val (.int z41v), .val (.int z44v), .val (.int z47v), .val (.ref b50), .val (.ref b54), .val (.int z59v), .val (.int z64), .val (.int z68), .val (.int z72), .val (.int z76), .val (.int z80), .val (.int z82v), .val (.int z85v), .val (.int z88v), .val (.int z91v), .val (.int z94v), .val (.int z97v), .val (.int z100v), .val (.int z103v), .val (.int z106v), .val (.int z109v), .val (.int z112v), .val (.int z115v), .val (.int z118v), .val (.int z121v), .val (.int z124v), .val (.int z127v), .unset, .unset, .unset, .unset] [(.int z112v), (.int z115v), (.int z127v), (.int z47v), (.int z26v), (.int z24), (.int z22), (.int (3 : Int32)), (.int (0 : Int32))])) rfl (by rw [hml]; rfl) (argsL := [(.int (0 : Int32)), (.int (3 : Int32)), (.int z22), (.int z24), (.int z26v), (.int z47v), (.int z127v), (.int z115v), (.int z112v)]) (rest := []) (lenOf pd_3 rfl) rfl (by show 2 * 0 + _ ≤ _; exact Nat.le_of_eq rfl) (hb hby at_560) (fun _ _ => ⟨rfl, eq127, (by decide : 2 + 0 ≤ _), (by decide : 8 + 0 ≤ _)⟩)
  dsimp only [Pt.U, Pt.locs, Pt.cells, Pt.slots] at X130 l130 y130 z130 st130 hQ130
  rw [l130, y130, z130] at X130
  have X130 := X130.mono (cells' := 2) (slots' := 8) (by decide) (by decide)
  obtain ⟨z130v, rfl, hz130v, Nq130, eq130⟩ := hQ130
  have N130n := Fr.app N127n Nq130
  have P131 : own_Pr p.tables e below S0 T130 (mkF m 563 #[.val (.int p1), .val (.int p2), .val (.int p3), .val (.int p4), .val (.int z22), .val (.int z24), .val (.int z26v), .val (.int z29v), .val (.int z32v), .val (.int z35v), .val (.int z38v), .val (.int z41v), .val (.int z44v), .val (.int z47v), .val (.ref b50), .val (.ref b54), .val (.int z59v), .val (.int z64), .val (.int z68), .val (.int z72), .val (.int z76), .val (.int z80), .val (.int z82v), .val (.int z85v), .val (.int z88v), .val (.int z91v), .val (.int z94v), .val (.int z97v), .val (.int z100v), .val (.int z103v), .val (.int z106v), .val (.int z109v), .val (.int z112v), .val (.int z115v), .val (.int z118v), .val (.int z121v), .val (.int z124v), .val (.int z127v), .unset, .unset, .unset, .unset] [(.int z130v)]) := fun t k => P129 t (st130 _ k)
  have P132 : own_Pr p.tables e below S0 T130 (mkF m 581 #[.val (.int p1), .val (.int p2), .val (.int p3), .val (.int p4), .val (.int z22), .val (.int z24), .val (.int z26v), .val (.int z29v), .val (.int z32v), .val (.int z35v), .val (.int z38v), .val (.int z41v), .val (.int z44v), .val (.int z47v), .val (.ref b50), .val (.ref b54), .val (.int z59v), .val (.int z64), .val (.int z68), .val (.int z72), .val (.int z76), .val (.int z80), .val (.int z82v), .val (.int z85v), .val (.int z88v), .val (.int z91v), .val (.int z94v), .val (.int z97v), .val (.int z100v), .val (.int z103v), .val (.int z106v), .val (.int z109v), .val (.int z112v), .val (.int z115v), .val (.int z118v), .val (.int z121v), .val (.int z124v), .val (.int z127v), .val (.int z130v), .unset, .unset, .unset] [(.int z115v), (.int z118v), (.int z130v), (.int z44v), (.int z26v), (.int z24), (.int z22), (.int (2 : Int32)), (.int (0 : Int32))]) := fun t k => P131 t (by
    refine XS.istore X130.here hx rfl (hb hby at_563) rfl (l' := #[.val (.int p1), .val (.int p2), .val (.int p3), .val (.int p4), .val (.int z22), .val (.int z24), .val (.int z26v), .val (.int z29v), .val (.int z32v), .val (.int z35v), .val (.int z38v), .val (.int z41v), .val (.int z44v), .val (.int z47v), .val (.ref b50), .val (.ref b54), .val (.int z59v), .val (.int z64), .val (.int z68), .val (.int z72), .val (.int z76), .val (.int z80), .val (.int z82v), .val (.int z85v), .val (.int z88v), .val (.int z91v), .val (.int z94v), .val (.int z97v), .val (.int z100v), .val (.int z103v), .val (.int z106v), .val (.int z109v), .val (.int z112v), .val (.int z115v), .val (.int z118v), .val (.int z121v), .val (.int z124v), .val (.int z127v), .val (.int z130v), .unset, .unset, .unset]) rfl ?_
    refine XS.iconst X130.here hx rfl (hb hby at_565) ?_
    refine XS.iconst X130.here hx rfl (hb hby at_566) ?_
    refine XS.iload X130.here hx rfl (hb hby at_567) rfl ?_
    refine XS.iload X130.here hx rfl (hb hby at_569) rfl ?_
    refine XS.iload X130.here hx rfl (hb hby at_571) rfl ?_
    refine XS.iload X130.here hx rfl (hb hby at_573) rfl ?_
    refine XS.iload X130.here hx rfl (hb hby at_575) rfl ?_
    show Steps p.tables e below (T130.setTop (mkF m 577 #[.val (.int p1), .val (.int p2), .val (.int p3), .val (.int p4), .val (.int z22), .val (.int z24), .val (.int z26v), .val (.int z29v), .val (.int z32v), .val (.int z35v), .val (.int z38v), .val (.int z41v), .val (.int z44v), .val (.int z47v), .val (.ref b50), .val (.ref b54), .val (.int z59v), .val (.int z64), .val (.int z68), .val (.int z72), .val (.int z76), .val (.int z80), .val (.int z82v), .val (.int z85v), .val (.int z88v), .val (.int z91v), .val (.int z94v), .val (.int z97v), .val (.int z100v), .val (.int z103v), .val (.int z106v), .val (.int z109v), .val (.int z112v), .val (.int z115v), .val (.int z118v), .val (.int z121v), .val (.int z124v), .val (.int z127v), .val (.int z130v), .unset, .unset, .unset] [(.int z130v), (.int z44v), (.int z26v), (.int z24), (.int z22), (.int (2 : Int32)), (.int (0 : Int32))])) _
    refine XS.iload X130.here hx rfl (hb hby at_577) rfl ?_
    refine XS.iload X130.here hx rfl (hb hby at_579) rfl ?_
    exact k)
  obtain ⟨_, _, ⟨T133, L133, k133, n133⟩, -, X133, ⟨Lc133, hQ133, l133, y133, z133⟩, st133⟩ := Jvm.LawKit.callS X130 hx (y := (⟨"com/example/ferryline/ferryline/UriWorkerMapMatchesPinLaw", "cell", "(IIIIIIZZZ)Z"⟩ : MethodName)) hown (mvT hZ (hw _ (List.mem_of_getElem? (i := 15) rfl))) (mvT hZ (hw _ (List.mem_of_getElem? (i := 16) rfl))) (mvT hZ (hw _ (List.mem_of_getElem? (i := 2) rfl))) (mvT hZ (hw _ (List.mem_of_getElem? (i := 17) rfl))) (by decide) (backOf (W := 0) (rm5 l Z a0 hw [] (0 : Int32) (2 : Int32) z22 z24 z26v z44v z130v z118v z115v  T54.heap n0 Z56 ) hZ (hw _ (List.mem_of_getElem? (i := 17) rfl)) (hw _ (List.mem_of_getElem? (i := 2) rfl)) (by decide) (by decide)) (g := (mkF m 581 #[.val (.int p1), .val (.int p2), .val (.int p3), .val (.int p4), .val (.int z22), .val (.int z24), .val (.int z26v), .val (.int z29v), .val (.int z32v), .val (.int z35v), .val (.int z38v), .val (.int z41v), .val (.int z44v), .val (.int z47v), .val (.ref b50), .val (.ref b54), .val (.int z59v), .val (.int z64), .val (.int z68), .val (.int z72), .val (.int z76), .val (.int z80), .val (.int z82v), .val (.int z85v), .val (.int z88v), .val (.int z91v), .val (.int z94v), .val (.int z97v), .val (.int z100v), .val (.int z103v), .val (.int z106v), .val (.int z109v), .val (.int z112v), .val (.int z115v), .val (.int z118v), .val (.int z121v), .val (.int z124v), .val (.int z127v), .val (.int z130v), .unset, .unset, .unset] [(.int z115v), (.int z118v), (.int z130v), (.int z44v), (.int z26v), (.int z24), (.int z22), (.int (2 : Int32)), (.int (0 : Int32))])) rfl (by rw [hml]; rfl) (argsL := [(.int (0 : Int32)), (.int (2 : Int32)), (.int z22), (.int z24), (.int z26v), (.int z44v), (.int z130v), (.int z118v), (.int z115v)]) (rest := []) (lenOf pd_3 rfl) rfl (by show 2 * 0 + _ ≤ _; exact Nat.le_of_eq rfl) (hb hby at_581) (fun _ _ => ⟨rfl, eq130, (by decide : 2 + 0 ≤ _), (by decide : 8 + 0 ≤ _)⟩)
  dsimp only [Pt.U, Pt.locs, Pt.cells, Pt.slots] at X133 l133 y133 z133 st133 hQ133
  rw [l133, y133, z133] at X133
  have X133 := X133.mono (cells' := 2) (slots' := 8) (by decide) (by decide)
  obtain ⟨z133v, rfl, hz133v, Nq133, eq133⟩ := hQ133
  have N133n := Fr.app N130n Nq133
  have P134 : own_Pr p.tables e below S0 T133 (mkF m 584 #[.val (.int p1), .val (.int p2), .val (.int p3), .val (.int p4), .val (.int z22), .val (.int z24), .val (.int z26v), .val (.int z29v), .val (.int z32v), .val (.int z35v), .val (.int z38v), .val (.int z41v), .val (.int z44v), .val (.int z47v), .val (.ref b50), .val (.ref b54), .val (.int z59v), .val (.int z64), .val (.int z68), .val (.int z72), .val (.int z76), .val (.int z80), .val (.int z82v), .val (.int z85v), .val (.int z88v), .val (.int z91v), .val (.int z94v), .val (.int z97v), .val (.int z100v), .val (.int z103v), .val (.int z106v), .val (.int z109v), .val (.int z112v), .val (.int z115v), .val (.int z118v), .val (.int z121v), .val (.int z124v), .val (.int z127v), .val (.int z130v), .unset, .unset, .unset] [(.int z133v)]) := fun t k => P132 t (st133 _ k)
  have P135 : own_Pr p.tables e below S0 T133 (mkF m 602 #[.val (.int p1), .val (.int p2), .val (.int p3), .val (.int p4), .val (.int z22), .val (.int z24), .val (.int z26v), .val (.int z29v), .val (.int z32v), .val (.int z35v), .val (.int z38v), .val (.int z41v), .val (.int z44v), .val (.int z47v), .val (.ref b50), .val (.ref b54), .val (.int z59v), .val (.int z64), .val (.int z68), .val (.int z72), .val (.int z76), .val (.int z80), .val (.int z82v), .val (.int z85v), .val (.int z88v), .val (.int z91v), .val (.int z94v), .val (.int z97v), .val (.int z100v), .val (.int z103v), .val (.int z106v), .val (.int z109v), .val (.int z112v), .val (.int z115v), .val (.int z118v), .val (.int z121v), .val (.int z124v), .val (.int z127v), .val (.int z130v), .val (.int z133v), .unset, .unset] [(.int z118v), (.int z121v), (.int z133v), (.int z41v), (.int z26v), (.int z24), (.int z22), (.int (1 : Int32)), (.int (0 : Int32))]) := fun t k => P134 t (by
    refine XS.istore X133.here hx rfl (hb hby at_584) rfl (l' := #[.val (.int p1), .val (.int p2), .val (.int p3), .val (.int p4), .val (.int z22), .val (.int z24), .val (.int z26v), .val (.int z29v), .val (.int z32v), .val (.int z35v), .val (.int z38v), .val (.int z41v), .val (.int z44v), .val (.int z47v), .val (.ref b50), .val (.ref b54), .val (.int z59v), .val (.int z64), .val (.int z68), .val (.int z72), .val (.int z76), .val (.int z80), .val (.int z82v), .val (.int z85v), .val (.int z88v), .val (.int z91v), .val (.int z94v), .val (.int z97v), .val (.int z100v), .val (.int z103v), .val (.int z106v), .val (.int z109v), .val (.int z112v), .val (.int z115v), .val (.int z118v), .val (.int z121v), .val (.int z124v), .val (.int z127v), .val (.int z130v), .val (.int z133v), .unset, .unset]) rfl ?_
    refine XS.iconst X133.here hx rfl (hb hby at_586) ?_
    refine XS.iconst X133.here hx rfl (hb hby at_587) ?_
    refine XS.iload X133.here hx rfl (hb hby at_588) rfl ?_
    refine XS.iload X133.here hx rfl (hb hby at_590) rfl ?_
    refine XS.iload X133.here hx rfl (hb hby at_592) rfl ?_
    refine XS.iload X133.here hx rfl (hb hby at_594) rfl ?_
    refine XS.iload X133.here hx rfl (hb hby at_596) rfl ?_
    show Steps p.tables e below (T133.setTop (mkF m 598 #[.val (.int p1), .val (.int p2), .val (.int p3), .val (.int p4), .val (.int z22), .val (.int z24), .val (.int z26v), .val (.int z29v), .val (.int z32v), .val (.int z35v), .val (.int z38v), .val (.int z41v), .val (.int z44v), .val (.int z47v), .val (.ref b50), .val (.ref b54), .val (.int z59v), .val (.int z64), .val (.int z68), .val (.int z72), .val (.int z76), .val (.int z80), .val (.int z82v), .val (.int z85v), .val (.int z88v), .val (.int z91v), .val (.int z94v), .val (.int z97v), .val (.int z100v), .val (.int z103v), .val (.int z106v), .val (.int z109v), .val (.int z112v), .val (.int z115v), .val (.int z118v), .val (.int z121v), .val (.int z124v), .val (.int z127v), .val (.int z130v), .val (.int z133v), .unset, .unset] [(.int z133v), (.int z41v), (.int z26v), (.int z24), (.int z22), (.int (1 : Int32)), (.int (0 : Int32))])) _
    refine XS.iload X133.here hx rfl (hb hby at_598) rfl ?_
    refine XS.iload X133.here hx rfl (hb hby at_600) rfl ?_
    exact k)
  obtain ⟨_, _, ⟨T136, L136, k136, n136⟩, -, X136, ⟨Lc136, hQ136, l136, y136, z136⟩, st136⟩ := Jvm.LawKit.callS X133 hx (y := (⟨"com/example/ferryline/ferryline/UriWorkerMapMatchesPinLaw", "cell", "(IIIIIIZZZ)Z"⟩ : MethodName)) hown (mvT hZ (hw _ (List.mem_of_getElem? (i := 15) rfl))) (mvT hZ (hw _ (List.mem_of_getElem? (i := 16) rfl))) (mvT hZ (hw _ (List.mem_of_getElem? (i := 2) rfl))) (mvT hZ (hw _ (List.mem_of_getElem? (i := 17) rfl))) (by decide) (backOf (W := 0) (rm5 l Z a0 hw [] (0 : Int32) (1 : Int32) z22 z24 z26v z41v z133v z121v z118v  T54.heap n0 Z56 ) hZ (hw _ (List.mem_of_getElem? (i := 17) rfl)) (hw _ (List.mem_of_getElem? (i := 2) rfl)) (by decide) (by decide)) (g := (mkF m 602 #[.val (.int p1), .val (.int p2), .val (.int p3), .val (.int p4), .val (.int z22), .val (.int z24), .val (.int z26v), .val (.int z29v), .val (.int z32v), .val (.int z35v), .val (.int z38v), .val (.int z41v), .val (.int z44v), .val (.int z47v), .val (.ref b50), .val (.ref b54), .val (.int z59v), .val (.int z64), .val (.int z68), .val (.int z72), .val (.int z76), .val (.int z80), .val (.int z82v), .val (.int z85v), .val (.int z88v), .val (.int z91v), .val (.int z94v), .val (.int z97v), .val (.int z100v), .val (.int z103v), .val (.int z106v), .val (.int z109v), .val (.int z112v), .val (.int z115v), .val (.int z118v), .val (.int z121v), .val (.int z124v), .val (.int z127v), .val (.int z130v), .val (.int z133v), .unset, .unset] [(.int z118v), (.int z121v), (.int z133v), (.int z41v), (.int z26v), (.int z24), (.int z22), (.int (1 : Int32)), (.int (0 : Int32))])) rfl (by rw [hml]; rfl) (argsL := [(.int (0 : Int32)), (.int (1 : Int32)), (.int z22), (.int z24), (.int z26v), (.int z41v), (.int z133v), (.int z121v), (.int z118v)]) (rest := []) (lenOf pd_3 rfl) rfl (by show 2 * 0 + _ ≤ _; exact Nat.le_of_eq rfl) (hb hby at_602) (fun _ _ => ⟨rfl, eq133, (by decide : 2 + 0 ≤ _), (by decide : 8 + 0 ≤ _)⟩)
  dsimp only [Pt.U, Pt.locs, Pt.cells, Pt.slots] at X136 l136 y136 z136 st136 hQ136
  rw [l136, y136, z136] at X136
  have X136 := X136.mono (cells' := 2) (slots' := 8) (by decide) (by decide)
  obtain ⟨z136v, rfl, hz136v, Nq136, eq136⟩ := hQ136
  have N136n := Fr.app N133n Nq136
  have P137 : own_Pr p.tables e below S0 T136 (mkF m 605 #[.val (.int p1), .val (.int p2), .val (.int p3), .val (.int p4), .val (.int z22), .val (.int z24), .val (.int z26v), .val (.int z29v), .val (.int z32v), .val (.int z35v), .val (.int z38v), .val (.int z41v), .val (.int z44v), .val (.int z47v), .val (.ref b50), .val (.ref b54), .val (.int z59v), .val (.int z64), .val (.int z68), .val (.int z72), .val (.int z76), .val (.int z80), .val (.int z82v), .val (.int z85v), .val (.int z88v), .val (.int z91v), .val (.int z94v), .val (.int z97v), .val (.int z100v), .val (.int z103v), .val (.int z106v), .val (.int z109v), .val (.int z112v), .val (.int z115v), .val (.int z118v), .val (.int z121v), .val (.int z124v), .val (.int z127v), .val (.int z130v), .val (.int z133v), .unset, .unset] [(.int z136v)]) := fun t k => P135 t (st136 _ k)
  have P138 : own_Pr p.tables e below S0 T136 (mkF m 623 #[.val (.int p1), .val (.int p2), .val (.int p3), .val (.int p4), .val (.int z22), .val (.int z24), .val (.int z26v), .val (.int z29v), .val (.int z32v), .val (.int z35v), .val (.int z38v), .val (.int z41v), .val (.int z44v), .val (.int z47v), .val (.ref b50), .val (.ref b54), .val (.int z59v), .val (.int z64), .val (.int z68), .val (.int z72), .val (.int z76), .val (.int z80), .val (.int z82v), .val (.int z85v), .val (.int z88v), .val (.int z91v), .val (.int z94v), .val (.int z97v), .val (.int z100v), .val (.int z103v), .val (.int z106v), .val (.int z109v), .val (.int z112v), .val (.int z115v), .val (.int z118v), .val (.int z121v), .val (.int z124v), .val (.int z127v), .val (.int z130v), .val (.int z133v), .val (.int z136v), .unset] [(.int z121v), (.int z124v), (.int z136v), (.int z38v), (.int z26v), (.int z24), (.int z22), (.int (0 : Int32)), (.int (0 : Int32))]) := fun t k => P137 t (by
    refine XS.istore X136.here hx rfl (hb hby at_605) rfl (l' := #[.val (.int p1), .val (.int p2), .val (.int p3), .val (.int p4), .val (.int z22), .val (.int z24), .val (.int z26v), .val (.int z29v), .val (.int z32v), .val (.int z35v), .val (.int z38v), .val (.int z41v), .val (.int z44v), .val (.int z47v), .val (.ref b50), .val (.ref b54), .val (.int z59v), .val (.int z64), .val (.int z68), .val (.int z72), .val (.int z76), .val (.int z80), .val (.int z82v), .val (.int z85v), .val (.int z88v), .val (.int z91v), .val (.int z94v), .val (.int z97v), .val (.int z100v), .val (.int z103v), .val (.int z106v), .val (.int z109v), .val (.int z112v), .val (.int z115v), .val (.int z118v), .val (.int z121v), .val (.int z124v), .val (.int z127v), .val (.int z130v), .val (.int z133v), .val (.int z136v), .unset]) rfl ?_
    refine XS.iconst X136.here hx rfl (hb hby at_607) ?_
    refine XS.iconst X136.here hx rfl (hb hby at_608) ?_
    refine XS.iload X136.here hx rfl (hb hby at_609) rfl ?_
    refine XS.iload X136.here hx rfl (hb hby at_611) rfl ?_
    refine XS.iload X136.here hx rfl (hb hby at_613) rfl ?_
    refine XS.iload X136.here hx rfl (hb hby at_615) rfl ?_
    refine XS.iload X136.here hx rfl (hb hby at_617) rfl ?_
    show Steps p.tables e below (T136.setTop (mkF m 619 #[.val (.int p1), .val (.int p2), .val (.int p3), .val (.int p4), .val (.int z22), .val (.int z24), .val (.int z26v), .val (.int z29v), .val (.int z32v), .val (.int z35v), .val (.int z38v), .val (.int z41v), .val (.int z44v), .val (.int z47v), .val (.ref b50), .val (.ref b54), .val (.int z59v), .val (.int z64), .val (.int z68), .val (.int z72), .val (.int z76), .val (.int z80), .val (.int z82v), .val (.int z85v), .val (.int z88v), .val (.int z91v), .val (.int z94v), .val (.int z97v), .val (.int z100v), .val (.int z103v), .val (.int z106v), .val (.int z109v), .val (.int z112v), .val (.int z115v), .val (.int z118v), .val (.int z121v), .val (.int z124v), .val (.int z127v), .val (.int z130v), .val (.int z133v), .val (.int z136v), .unset] [(.int z136v), (.int z38v), (.int z26v), (.int z24), (.int z22), (.int (0 : Int32)), (.int (0 : Int32))])) _
    refine XS.iload X136.here hx rfl (hb hby at_619) rfl ?_
    refine XS.iload X136.here hx rfl (hb hby at_621) rfl ?_
    exact k)
  obtain ⟨_, _, ⟨T139, L139, k139, n139⟩, -, X139, ⟨Lc139, hQ139, l139, y139, z139⟩, st139⟩ := Jvm.LawKit.callS X136 hx (y := (⟨"com/example/ferryline/ferryline/UriWorkerMapMatchesPinLaw", "cell", "(IIIIIIZZZ)Z"⟩ : MethodName)) hown (mvT hZ (hw _ (List.mem_of_getElem? (i := 15) rfl))) (mvT hZ (hw _ (List.mem_of_getElem? (i := 16) rfl))) (mvT hZ (hw _ (List.mem_of_getElem? (i := 2) rfl))) (mvT hZ (hw _ (List.mem_of_getElem? (i := 17) rfl))) (by decide) (backOf (W := 0) (rm5 l Z a0 hw [] (0 : Int32) (0 : Int32) z22 z24 z26v z38v z136v z124v z121v  T54.heap n0 Z56 ) hZ (hw _ (List.mem_of_getElem? (i := 17) rfl)) (hw _ (List.mem_of_getElem? (i := 2) rfl)) (by decide) (by decide)) (g := (mkF m 623 #[.val (.int p1), .val (.int p2), .val (.int p3), .val (.int p4), .val (.int z22), .val (.int z24), .val (.int z26v), .val (.int z29v), .val (.int z32v), .val (.int z35v), .val (.int z38v), .val (.int z41v), .val (.int z44v), .val (.int z47v), .val (.ref b50), .val (.ref b54), .val (.int z59v), .val (.int z64), .val (.int z68), .val (.int z72), .val (.int z76), .val (.int z80), .val (.int z82v), .val (.int z85v), .val (.int z88v), .val (.int z91v), .val (.int z94v), .val (.int z97v), .val (.int z100v), .val (.int z103v), .val (.int z106v), .val (.int z109v), .val (.int z112v), .val (.int z115v), .val (.int z118v), .val (.int z121v), .val (.int z124v), .val (.int z127v), .val (.int z130v), .val (.int z133v), .val (.int z136v), .unset] [(.int z121v), (.int z124v), (.int z136v), (.int z38v), (.int z26v), (.int z24), (.int z22), (.int (0 : Int32)), (.int (0 : Int32))])) rfl (by rw [hml]; rfl) (argsL := [(.int (0 : Int32)), (.int (0 : Int32)), (.int z22), (.int z24), (.int z26v), (.int z38v), (.int z136v), (.int z124v), (.int z121v)]) (rest := []) (lenOf pd_3 rfl) rfl (by show 2 * 0 + _ ≤ _; exact Nat.le_of_eq rfl) (hb hby at_623) (fun _ _ => ⟨rfl, eq136, (by decide : 2 + 0 ≤ _), (by decide : 8 + 0 ≤ _)⟩)
  dsimp only [Pt.U, Pt.locs, Pt.cells, Pt.slots] at X139 l139 y139 z139 st139 hQ139
  rw [l139, y139, z139] at X139
  have X139 := X139.mono (cells' := 2) (slots' := 8) (by decide) (by decide)
  obtain ⟨z139v, rfl, hz139v, Nq139, eq139⟩ := hQ139
  have N139n := Fr.app N136n Nq139
  have P140 : own_Pr p.tables e below S0 T139 (mkF m 626 #[.val (.int p1), .val (.int p2), .val (.int p3), .val (.int p4), .val (.int z22), .val (.int z24), .val (.int z26v), .val (.int z29v), .val (.int z32v), .val (.int z35v), .val (.int z38v), .val (.int z41v), .val (.int z44v), .val (.int z47v), .val (.ref b50), .val (.ref b54), .val (.int z59v), .val (.int z64), .val (.int z68), .val (.int z72), .val (.int z76), .val (.int z80), .val (.int z82v), .val (.int z85v), .val (.int z88v), .val (.int z91v), .val (.int z94v), .val (.int z97v), .val (.int z100v), .val (.int z103v), .val (.int z106v), .val (.int z109v), .val (.int z112v), .val (.int z115v), .val (.int z118v), .val (.int z121v), .val (.int z124v), .val (.int z127v), .val (.int z130v), .val (.int z133v), .val (.int z136v), .unset] [(.int z139v)]) := fun t k => P138 t (st139 _ k)
  have P141 : own_Pr p.tables e below S0 T139 (mkF m 632 #[.val (.int p1), .val (.int p2), .val (.int p3), .val (.int p4), .val (.int z22), .val (.int z24), .val (.int z26v), .val (.int z29v), .val (.int z32v), .val (.int z35v), .val (.int z38v), .val (.int z41v), .val (.int z44v), .val (.int z47v), .val (.ref b50), .val (.ref b54), .val (.int z59v), .val (.int z64), .val (.int z68), .val (.int z72), .val (.int z76), .val (.int z80), .val (.int z82v), .val (.int z85v), .val (.int z88v), .val (.int z91v), .val (.int z94v), .val (.int z97v), .val (.int z100v), .val (.int z103v), .val (.int z106v), .val (.int z109v), .val (.int z112v), .val (.int z115v), .val (.int z118v), .val (.int z121v), .val (.int z124v), .val (.int z127v), .val (.int z130v), .val (.int z133v), .val (.int z136v), .val (.int z139v)] [(.int z139v), (.int z59v)]) := fun t k => P140 t (by
    refine XS.istore X139.here hx rfl (hb hby at_626) rfl (l' := #[.val (.int p1), .val (.int p2), .val (.int p3), .val (.int p4), .val (.int z22), .val (.int z24), .val (.int z26v), .val (.int z29v), .val (.int z32v), .val (.int z35v), .val (.int z38v), .val (.int z41v), .val (.int z44v), .val (.int z47v), .val (.ref b50), .val (.ref b54), .val (.int z59v), .val (.int z64), .val (.int z68), .val (.int z72), .val (.int z76), .val (.int z80), .val (.int z82v), .val (.int z85v), .val (.int z88v), .val (.int z91v), .val (.int z94v), .val (.int z97v), .val (.int z100v), .val (.int z103v), .val (.int z106v), .val (.int z109v), .val (.int z112v), .val (.int z115v), .val (.int z118v), .val (.int z121v), .val (.int z124v), .val (.int z127v), .val (.int z130v), .val (.int z133v), .val (.int z136v), .val (.int z139v)]) rfl ?_
    refine XS.iload X139.here hx rfl (hb hby at_628) rfl ?_
    refine XS.iload X139.here hx rfl (hb hby at_630) rfl ?_
    exact k)
  have hfin : z59v = z139v := by
    rw [hz59v, hRES]
    exact (own_dp_ok (own_five1 hz22) (own_five2 hz24) hz64 hz68 hz72 hz76 hz80 hz82v hz85v hz88v hz91v hz94v hz97v hz100v hz103v hz106v hz109v hz112v hz115v hz118v hz121v hz124v hz127v hz130v hz133v hz136v hz139v).symm
  have P142 : own_Pr p.tables e below S0 T139 (mkF m 640 #[.val (.int p1), .val (.int p2), .val (.int p3), .val (.int p4), .val (.int z22), .val (.int z24), .val (.int z26v), .val (.int z29v), .val (.int z32v), .val (.int z35v), .val (.int z38v), .val (.int z41v), .val (.int z44v), .val (.int z47v), .val (.ref b50), .val (.ref b54), .val (.int z59v), .val (.int z64), .val (.int z68), .val (.int z72), .val (.int z76), .val (.int z80), .val (.int z82v), .val (.int z85v), .val (.int z88v), .val (.int z91v), .val (.int z94v), .val (.int z97v), .val (.int z100v), .val (.int z103v), .val (.int z106v), .val (.int z109v), .val (.int z112v), .val (.int z115v), .val (.int z118v), .val (.int z121v), .val (.int z124v), .val (.int z127v), .val (.int z130v), .val (.int z133v), .val (.int z136v), .val (.int z139v)] [(.int (1 : Int32))]) := fun t k => P141 t (by
    refine XS.icmpNo X139.here hx rfl (hb hby at_632) rfl (XT.ii_ne_f hfin) ?_
    refine XS.iconst X139.here hx rfl (hb hby at_635) ?_
    refine XS.goto X139.here hx rfl (pc0 := 636) (pc' := 640) rfl (hb hby at_636) (by decide) (by decide) ?_
    exact k)
  obtain ⟨fs, hr, hrun, hended, hW, hsame⟩ := X139.leave (v := some (.int (1 : Int32))) (fun h => by rw [Bd.returns] at h; cases h)
  have fin : Steps p.tables e below S0 (T139.setFrames fs) := P142 _ (retN X139 hx (t := .boolean) Bd.returns (by simp) (hb hby at_640) hr)
  rw [hS0] at fin
  refine ⟨_, _, fin, hrun, hended, _, _, rfl, ?_, ⟨_, rfl⟩, hW, hsame.mono (by decide) (by decide)⟩
  show own_QL n0 _ _
  exact ⟨_, rfl, rfl, N139n⟩
set_option maxRecDepth 65536 in
set_option maxHeartbeats 40000000 in
theorem comes_1 {Post : Tables → Env → Array Value → State → Outcome → State → Prop} (hpost : ∀ tb e args s v u, (limb_1_1.after args s (.returned v) u = true ∧ limb_1_2.after args s (.returned v) u = true ∧ True) → FrameEnd s (.returned v) u (Jvm.fieldLocs frame_1_writes args s ++ Jvm.arrayLocs frame_1_arrays args s ++ Jvm.staticLocs frame_1_statics s) 16 128 → Post tb e args s (.returned v) u) :
    ArmFor flags0 classFile x code maxLocals ret World_1 tables_1 room_1 Calls_1 rest_1 Pre_1 Post := by
  intro l hfl _ _ p e ha hc hk s m args below hf hA hF happ hP
  obtain ⟨hcalls, hrest, hpre⟩ := hP
  obtain ⟨-, -, -, hnamed, -, -, -, hat⟩ := (Spec.applies_iff hf).mp happ
  obtain ⟨hg, hn⟩ := and_e (Cond.before_iff.mp (show (Jvm.Cond.and given_1 narrow_1).before args s = true from hpre))
  obtain ⟨gg1, gg2⟩ := and_e hg
  obtain ⟨gg3, gg4⟩ := and_e gg2
  obtain ⟨gg5, gg6⟩ := and_e gg4
  obtain ⟨gg7, gg8⟩ := and_e gg6
  obtain ⟨w0, w1, w2, w3, rfl⟩ : ∃ w0 w1 w2 w3 : Value, args = #[w0, w1, w2, w3] := by
    have hs : args.size = 4 := by simpa [Cond.value, given_1] using gg1
    obtain ⟨L⟩ := args
    match L, hs with
    | [w0, w1, w2, w3], _ => exact ⟨w0, w1, w2, w3, rfl⟩
  have hw := fun d (hd : d ∈ tables_1) => atoms_spec (ws := Jvm.Cond.code x code maxLocals ret :: tables_1) hat d (List.mem_cons_of_mem _ hd)
  have hfit : Fit s := fun {y c} hc i hi => by
    obtain ⟨ha, rfl⟩ := Array.getElem?_eq_some_iff.mp hc
    have q := List.all_eq_true.mp ((Array.all_eq_true_iff_forall_mem.mp hF) _ (Array.getElem_mem ha)) i (List.mem_range.mpr hi)
    simpa [Array.getElem?_eq_getElem hi] using q
  obtain ⟨i0, ei0⟩ := is_v gg3
  obtain rfl : w0 = (.int i0) := Option.some.inj ei0
  obtain ⟨i1, ei1⟩ := is_v gg5
  obtain rfl : w1 = (.int i1) := Option.some.inj ei1
  obtain ⟨i2, ei2⟩ := is_v gg7
  obtain rfl : w2 = (.int i2) := Option.some.inj ei2
  obtain ⟨i3, ei3⟩ := is_v gg8
  obtain rfl : w3 = (.int i3) := Option.some.inj ei3
  obtain ⟨n, o, h1, h2, h3, _, L, rfl, ⟨z, rfl, rfl, N⟩, hq⟩ := rm0 l s _ hw tables_1 i0 i1 i2 i3  s.heap s.heap.size (Nat.le_refl _)  p e ha hc hk s m _ below hf ((Spec.applies_iff_loose hf).mp happ).1 ⟨rfl, State.Warmed39.refl s, rfl⟩ trivial
  refine ⟨n, _, h1, h2, h3, hpost _ _ _ _ _ _ ⟨Cond.after_iff.mpr rfl, Cond.after_iff.mpr (eq_i res_at (Term.int_eval (1)) rfl), trivial⟩ ⟨hq.1, hq.2.1, (hq.2.2.sift fun y hy => Or.inr (N y hy)).mono (by decide) (by decide)⟩⟩
theorem main_1_1 : Claimed_1_1 := comes_1 fun _ _ _ _ _ _ h hF => ⟨h.1, hF⟩
theorem main_1_2 : Claimed_1_2 := comes_1 fun _ _ _ _ _ _ h hF => ⟨h.2.1, hF⟩
end Jvm.Pilot.@@N@@
namespace Jvm.Pilot.@@N@@
open Jvm Jvm.ClassFile Sem Op Lib Jvm.Free Jvm.Stand Jvm.Pilot.@@N@@.Jvm.D
/-! MADE BY PROGRAM (witnessworld.py) out of the Statement's table words and the real class files: 9 classes; the members and pool entries that the words name. The judged class is class 1, her method 1. -/
namespace start1
open Jvm.ClassFile
def u (s : String) : CpInfo := .utf8 (stringToUtf16 s)
/-- a pool by its gaps: so many unusable entries, then the entry; so many at the end -/
def gap : Nat → List CpInfo → List CpInfo
  | 0, r => r
  | n + 1, r => .unusable :: gap n r
def poolList (es : List (Nat × CpInfo)) (last : Nat) : List CpInfo := es.foldr (fun e r => gap e.1 (e.2 :: r)) (gap last [])
def pool (es : List (Nat × CpInfo)) (last : Nat) : Array CpInfo := ⟨poolList es last⟩
def fileOf (pool : Array CpInfo) (this : Nat) (attrs : Array Attribute := #[]) (ms : Array MethodInfo := #[]) (fl : Nat := 33) (sup : Nat := 0) (ifs : Array Nat := #[]) (fds : Array FieldInfo := #[]) : ClassFile where
  minorVersion := 0
  majorVersion := 65
  constantPool := pool
  accessFlags := fl
  thisClass := this
  superClass := sup
  interfaces := ifs
  fields := fds
  methods := ms
  attributes := attrs
def plain (name : String) (sup : Option ClassId) : Class where
  name := name
  kind := .ordinary
  loader := none
  accessFlags := 33
  super := sup
  interfaces := #[]
  cf := none
  fields := #[]
  methods := #[]
  instanceTypes := #[]
  staticTypes := #[]
  resolved := #[]
  callSites := []
  init := .initialized
  statics := none
  mirror := none

def pool0 : Array CpInfo := pool [(5, u "<init>"), (0, u "()V"), (1, .class_ 10), (1, u "java/lang/Object")] 113

def k0m0 : Method := { name := "<init>", desc := "()V", sig := { parameters := [], returnType := none }, accessFlags := 1, code := none }
/-- java/lang/Object -/
def k0 : Class := { plain "java/lang/Object" none with
  accessFlags := 33
  interfaces := #[]
  cf := some (fileOf pool0 8 #[] #[{ accessFlags := 1, nameIndex := 5, descriptorIndex := 6, attributes := #[] }] 33 0 #[] #[])
  fields := #[]
  methods := #[k0m0]
  instanceTypes := #[]
  staticTypes := #[]
  resolved := Array.replicate 124 none
  statics := none }

def pool1 : Array CpInfo := pool [(2, .class_ 4), (1, u "java/lang/Object"), (0, u "<init>"), (0, u "()V"), (0, .methodref 8 9), (0, .class_ 10), (0, .nameAndType 11 12), (0, u "com/example/ferryline/ferryline/UriWorkerMapMatchesPinLaw"), (0, u "psym"), (0, u "(II)I"), (0, .methodref 8 14), (0, .nameAndType 15 12), (0, u "tsym"), (0, .methodref 8 17), (0, .nameAndType 18 19), (0, u "prefix"), (0, u "(IIIII)[I"), (0, .methodref 21 22), (0, .class_ 23), (0, .nameAndType 24 25), (0, u "com/example/ferryline/ferryline/UriWorkerMap"), (0, u "matches"), (0, u "([I[I)Z"), (0, .methodref 8 27), (0, .nameAndType 28 29), (0, u "cell"), (0, u "(IIIIIIZZZ)Z"), (2, u "law"), (0, u "(IIII)Z")] 5

def k1m0 : Method := { name := "<init>", desc := "()V", sig := { parameters := [], returnType := none }, accessFlags := 1, code := none }
def k1c1 : Code := { maxStack := 9, maxLocals := 42, code := code, exceptionTable := #[], attributes := #[] }
def k1m1 : Method := { name := "law", desc := "(IIII)Z", sig := { parameters := [.int, .int, .int, .int], returnType := some .boolean }, accessFlags := 9, code := some k1c1 }
def k1c2 : Code := { maxStack := 2, maxLocals := 9, code := method_3_code, exceptionTable := #[], attributes := #[] }
def k1m2 : Method := { name := "cell", desc := "(IIIIIIZZZ)Z", sig := { parameters := [.int, .int, .int, .int, .int, .int, .boolean, .boolean, .boolean], returnType := some .boolean }, accessFlags := 10, code := some k1c2 }
def k1c3 : Code := { maxStack := 2, maxLocals := 2, code := method_4_code, exceptionTable := #[], attributes := #[] }
def k1m3 : Method := { name := "psym", desc := "(II)I", sig := { parameters := [.int, .int], returnType := some .int }, accessFlags := 10, code := some k1c3 }
def k1c4 : Code := { maxStack := 2, maxLocals := 2, code := method_5_code, exceptionTable := #[], attributes := #[] }
def k1m4 : Method := { name := "tsym", desc := "(II)I", sig := { parameters := [.int, .int], returnType := some .int }, accessFlags := 10, code := some k1c4 }
def k1c5 : Code := { maxStack := 3, maxLocals := 6, code := method_6_code, exceptionTable := #[], attributes := #[] }
def k1m5 : Method := { name := "prefix", desc := "(IIIII)[I", sig := { parameters := [.int, .int, .int, .int, .int], returnType := some (.array .int) }, accessFlags := 10, code := some k1c5 }
/-- com/example/ferryline/ferryline/UriWorkerMapMatchesPinLaw -/
def k1 : Class := { plain "com/example/ferryline/ferryline/UriWorkerMapMatchesPinLaw" (some 0) with
  accessFlags := 49
  interfaces := #[]
  cf := some (fileOf pool1 8 #[] #[{ accessFlags := 1, nameIndex := 5, descriptorIndex := 6, attributes := #[] }, { accessFlags := 9, nameIndex := 32, descriptorIndex := 33, attributes := #[] }, { accessFlags := 10, nameIndex := 28, descriptorIndex := 29, attributes := #[] }, { accessFlags := 10, nameIndex := 11, descriptorIndex := 12, attributes := #[] }, { accessFlags := 10, nameIndex := 15, descriptorIndex := 12, attributes := #[] }, { accessFlags := 10, nameIndex := 18, descriptorIndex := 19, attributes := #[] }] 49 2 #[] #[])
  fields := #[]
  methods := #[k1m0, k1m1, k1m2, k1m3, k1m4, k1m5]
  instanceTypes := #[]
  staticTypes := #[]
  resolved := Array.replicate 39 none
  statics := none }

def pool2 : Array CpInfo := pool [(2, .class_ 4), (1, u "java/lang/Object"), (9, .class_ 16), (1, u "com/example/ferryline/ferryline/UriWorkerMap"), (0, u "mappings"), (0, u "Ljava/util/List;"), (2, u "rules"), (3, u "PRIORITY"), (0, u "Ljava/util/Comparator;"), (14, u "exclusions"), (96, .class_ 139), (0, u "com/example/ferryline/ferryline/UriWorkerMap$Mapping"), (5, .class_ 147), (1, u "com/example/ferryline/ferryline/UriWorkerMap$RulePattern"), (6, .class_ 156), (1, u "com/example/ferryline/ferryline/UriWorkerMap$Source"), (54, u "matches"), (208, .class_ 421), (0, u "com/example/ferryline/ferryline/UriWorkerMap$Rule"), (4, u "([I[I)Z"), (6, .class_ 434), (0, u "com/example/ferryline/ferryline/UriWorkerMap$Listing"), (47, u "ALL_WORKERS"), (0, u "Ljava/lang/String;")] 152

def k2c0 : Code := { maxStack := 3, maxLocals := 6, code := prog_29_method_13_code, exceptionTable := #[], attributes := #[] }
def k2m0 : Method := { name := "matches", desc := "([I[I)Z", sig := { parameters := [(.array .int), (.array .int)], returnType := some .boolean }, accessFlags := 8, code := some k2c0 }
/-- com/example/ferryline/ferryline/UriWorkerMap -/
def k2 : Class := { plain "com/example/ferryline/ferryline/UriWorkerMap" (some 0) with
  accessFlags := 48
  interfaces := #[]
  cf := some (fileOf pool2 14 #[.nestMembers #[145, 420, 433, 138, 154]] #[{ accessFlags := 8, nameIndex := 211, descriptorIndex := 426, attributes := #[] }] 48 2 #[] #[{ accessFlags := 26, nameIndex := 25, descriptorIndex := 26, attributes := #[] }, { accessFlags := 24, nameIndex := 482, descriptorIndex := 483, attributes := #[] }, { accessFlags := 18, nameIndex := 17, descriptorIndex := 18, attributes := #[] }, { accessFlags := 18, nameIndex := 21, descriptorIndex := 18, attributes := #[] }, { accessFlags := 18, nameIndex := 41, descriptorIndex := 18, attributes := #[] }])
  fields := #[{ name := "PRIORITY", type := (.object "java/util/Comparator"), accessFlags := 26, slot := 0, constantValue := 0 }, { name := "ALL_WORKERS", type := (.object "java/lang/String"), accessFlags := 24, slot := 1, constantValue := 0 }, { name := "mappings", type := (.object "java/util/List"), accessFlags := 18, slot := 0, constantValue := 0 }, { name := "rules", type := (.object "java/util/List"), accessFlags := 18, slot := 1, constantValue := 0 }, { name := "exclusions", type := (.object "java/util/List"), accessFlags := 18, slot := 2, constantValue := 0 }]
  methods := #[k2m0]
  instanceTypes := #[(.object "java/util/List"), (.object "java/util/List"), (.object "java/util/List")]
  staticTypes := #[(.object "java/util/Comparator"), (.object "java/lang/String")]
  resolved := Array.replicate 636 none
  statics := none }

def pool3 : Array CpInfo := pool [(1, u "java/lang/Cloneable"), (0, .class_ 1), (0, u "java/lang/Object"), (0, .class_ 3)] 3

/-- java/lang/Cloneable -/
def k3 : Class := { plain "java/lang/Cloneable" (some 0) with
  accessFlags := 1537
  interfaces := #[]
  cf := some (fileOf pool3 2 #[] #[] 1537 4 #[] #[])
  fields := #[]
  methods := #[]
  instanceTypes := #[]
  staticTypes := #[]
  resolved := Array.replicate 8 none
  statics := none }

def pool4 : Array CpInfo := pool [(1, u "java/io/Serializable"), (0, .class_ 1), (0, u "java/lang/Object"), (0, .class_ 3)] 3

/-- java/io/Serializable -/
def k4 : Class := { plain "java/io/Serializable" (some 0) with
  accessFlags := 1537
  interfaces := #[]
  cf := some (fileOf pool4 2 #[] #[] 1537 4 #[] #[])
  fields := #[]
  methods := #[]
  instanceTypes := #[]
  staticTypes := #[]
  resolved := Array.replicate 8 none
  statics := none }

/-- the primitive byte -/
def k5 : Class := { plain "byte" none with kind := .primitive 'B', accessFlags := 0x411 }
/-- [B -/
def k6 : Class := { plain "[B" (some 0) with kind := .array 5 .byte, interfaces := #[3, 4], accessFlags := 1041 }

/-- the primitive int -/
def k7 : Class := { plain "int" none with kind := .primitive 'I', accessFlags := 0x411 }
/-- [I -/
def k8 : Class := { plain "[I" (some 0) with kind := .array 7 .int, interfaces := #[3, 4], accessFlags := 1041 }

def heap : Heap := #[]
def classes : Array Class := #[k0, k1, k2, k3, k4, k5, k6, k7, k8]
def interned : List (Array UInt16 × Addr) := []
def slotsUsed : Nat := 0
def theMethod : MethodId := ⟨1, 1⟩
def args0 : Array Value := #[.int 5, .int 5, .int 5, .int 5]
def aboutOver (below : List Frame) : State where
  vm := { classes := classes, interned := interned.toArray }
  heap := heap
  slotsUsed := slotsUsed
  threads := #[{ frames := .invoking theMethod args0 :: below }]
def below0 : List Frame := [.native { method := ⟨0, 0⟩, args := #[] }]
def about1 : State := aboutOver below0
def p0 : Program := .bare "" "" ""
def e0 : Env := launch0.env 0 0 0
theorem w_frames : about1.frames = Frame.invoking theMethod args0 :: below0 := rfl
set_option maxRecDepth 65536 in
theorem w_args : argsFit about1.vm theMethod args0 = true := by decide +kernel
set_option maxRecDepth 65536 in
theorem w_heap : heapFits about1 = true := by decide +kernel
set_option maxRecDepth 65536 in
theorem w_runnable : about1.curStatus? = some .runnable := by decide +kernel
set_option maxRecDepth 65536 in
theorem w_alone : about1.alone = true := by decide +kernel
set_option maxRecDepth 65536 in
theorem w_named : about1.methodNamed? x = some theMethod := by decide +kernel
set_option maxRecDepth 65536 in
theorem w_hears : about1.hears theMethod below0 = true := by decide +kernel
set_option maxRecDepth 65536 in
theorem w_ripe : about1.ripe theMethod args0 below0 = true := by decide +kernel
theorem w_running : about1.status = .running := rfl
set_option maxRecDepth 65536 in
theorem w_room : about1.hasRoom e0.platform room_1 = true :=
  launch0.hasRoom_least _ room_1 (by decide +kernel) (by decide +kernel) (by decide +kernel) (by decide +kernel) (by decide +kernel) (by decide +kernel)
theorem allAtoms_all (ts : List Jvm.Cond) (a : Array Jvm.Value) (st : Jvm.State) : (allAtoms ts).before a st = ts.all (fun c => c.before a st) := by
  induction ts with
  | nil => rfl
  | cons c t ih =>
    show (Jvm.Cond.and c (allAtoms t)).before a st = _
    rw [Jvm.Cond.before_and, ih, List.all_cons]
def words1 : List Jvm.Cond := Jvm.Cond.code x code maxLocals ret :: tables_1
/-- a 'code' word, met by the world's own term for the bytes: nothing is compared byte by byte -/
theorem code_word {y : MethodName} {bytes : ByteArray} {mx : Nat} {rt : Option FieldType} {a : Array Value} {s : State} {m : MethodId} {meth : Method} {c : Code} (h1 : s.methodNamed? y = some m) (h2 : s.vm.method? m = some meth) (h3 : meth.code = some c) (h4 : c.code = bytes)
    (h5 : (c.maxLocals == mx && c.exceptionTable.isEmpty && decide (c.maxStack ≤ mostOperands) && decide (meth.sig.returnType = rt) && !meth.locks && decide (parseMethodDescriptor y.desc = some meth.sig)) = true) : (Jvm.Cond.code y bytes mx rt).before a s = true := by
  simp only [Bool.and_eq_true, beq_iff_eq, Bool.not_eq_true', decide_eq_true_eq] at h5
  obtain ⟨⟨⟨⟨⟨g1, g2⟩, g3⟩, g4⟩, g5⟩, g6⟩ := h5
  simp [Cond.before, Cond.holds, Cond.value, h1, h2, h3, h4, g1, g2, g3, g4, g5, g6]
def isCode : Jvm.Cond → Bool
  | .code _ _ _ _ => true
  | _ => false
theorem all_split {L : List Jvm.Cond} {P : Jvm.Cond → Bool} (h1 : L.all (fun c => isCode c || P c) = true) (h2 : ∀ c ∈ L.filter isCode, P c = true) : L.all P = true := by
  refine List.all_eq_true.mpr fun c hc => ?_
  have h := List.all_eq_true.mp h1 c hc
  rcases Bool.eq_false_or_eq_true (isCode c) with hi | hi
  · exact h2 c (List.mem_filter.mpr ⟨hc, hi⟩)
  · simpa [hi] using h
set_option maxRecDepth 65536 in
theorem w_c0 : (Jvm.Cond.code x code maxLocals ret).before args0 about1 = true := code_word (m := ⟨1, 1⟩) (meth := k1m1) (c := k1c1) (by decide +kernel) rfl rfl rfl (by decide +kernel)
set_option maxRecDepth 65536 in
theorem w_c1 : (Jvm.Cond.code ({ cls := "com/example/ferryline/ferryline/UriWorkerMapMatchesPinLaw", name := "psym", desc := "(II)I" } : Jvm.MethodName) method_4_code (2 : Nat) (Option.some Jvm.ClassFile.FieldType.int)).before args0 about1 = true := code_word (m := ⟨1, 3⟩) (meth := k1m3) (c := k1c3) (by decide +kernel) rfl rfl rfl (by decide +kernel)
set_option maxRecDepth 65536 in
theorem w_c2 : (Jvm.Cond.code ({ cls := "com/example/ferryline/ferryline/UriWorkerMapMatchesPinLaw", name := "tsym", desc := "(II)I" } : Jvm.MethodName) method_5_code (2 : Nat) (Option.some Jvm.ClassFile.FieldType.int)).before args0 about1 = true := code_word (m := ⟨1, 4⟩) (meth := k1m4) (c := k1c4) (by decide +kernel) rfl rfl rfl (by decide +kernel)
set_option maxRecDepth 65536 in
theorem w_c3 : (Jvm.Cond.code ({ cls := "com/example/ferryline/ferryline/UriWorkerMapMatchesPinLaw", name := "prefix", desc := "(IIIII)[I" } : Jvm.MethodName) method_6_code (6 : Nat) (Option.some (Jvm.ClassFile.FieldType.array Jvm.ClassFile.FieldType.int))).before args0 about1 = true := code_word (m := ⟨1, 5⟩) (meth := k1m5) (c := k1c5) (by decide +kernel) rfl rfl rfl (by decide +kernel)
set_option maxRecDepth 65536 in
theorem w_c4 : (Jvm.Cond.code ({ cls := "com/example/ferryline/ferryline/UriWorkerMap", name := "matches", desc := "([I[I)Z" } : Jvm.MethodName) prog_29_method_13_code (6 : Nat) (Option.some Jvm.ClassFile.FieldType.boolean)).before args0 about1 = true := code_word (m := ⟨2, 0⟩) (meth := k2m0) (c := k2c0) (by decide +kernel) rfl rfl rfl (by decide +kernel)
set_option maxRecDepth 65536 in
theorem w_c5 : (Jvm.Cond.code ({ cls := "com/example/ferryline/ferryline/UriWorkerMapMatchesPinLaw", name := "cell", desc := "(IIIIIIZZZ)Z" } : Jvm.MethodName) method_3_code (9 : Nat) (Option.some Jvm.ClassFile.FieldType.boolean)).before args0 about1 = true := code_word (m := ⟨1, 2⟩) (meth := k1m2) (c := k1c2) (by decide +kernel) rfl rfl rfl (by decide +kernel)
def codes1 : List Jvm.Cond := [Jvm.Cond.code x code maxLocals ret, Jvm.Cond.code ({ cls := "com/example/ferryline/ferryline/UriWorkerMapMatchesPinLaw", name := "psym", desc := "(II)I" } : Jvm.MethodName) method_4_code (2 : Nat) (Option.some Jvm.ClassFile.FieldType.int), Jvm.Cond.code ({ cls := "com/example/ferryline/ferryline/UriWorkerMapMatchesPinLaw", name := "tsym", desc := "(II)I" } : Jvm.MethodName) method_5_code (2 : Nat) (Option.some Jvm.ClassFile.FieldType.int), Jvm.Cond.code ({ cls := "com/example/ferryline/ferryline/UriWorkerMapMatchesPinLaw", name := "prefix", desc := "(IIIII)[I" } : Jvm.MethodName) method_6_code (6 : Nat) (Option.some (Jvm.ClassFile.FieldType.array Jvm.ClassFile.FieldType.int)), Jvm.Cond.code ({ cls := "com/example/ferryline/ferryline/UriWorkerMap", name := "matches", desc := "([I[I)Z" } : Jvm.MethodName) prog_29_method_13_code (6 : Nat) (Option.some Jvm.ClassFile.FieldType.boolean), Jvm.Cond.code ({ cls := "com/example/ferryline/ferryline/UriWorkerMapMatchesPinLaw", name := "cell", desc := "(IIIIIIZZZ)Z" } : Jvm.MethodName) method_3_code (9 : Nat) (Option.some Jvm.ClassFile.FieldType.boolean)]
set_option maxRecDepth 65536 in
theorem codes_eq : words1.filter isCode = codes1 := rfl
theorem w_codes : ∀ c ∈ words1.filter isCode, c.before args0 about1 = true := by
  rw [codes_eq]
  intro c hc
  simp only [codes1, List.mem_cons, List.not_mem_nil, or_false] at hc
  rcases hc with rfl | rfl | rfl | rfl | rfl | rfl
  · exact w_c0
  · exact w_c1
  · exact w_c2
  · exact w_c3
  · exact w_c4
  · exact w_c5
set_option maxRecDepth 65536 in
theorem w_t1 : words1.all (fun c => isCode c || c.before args0 about1) = true := by decide +kernel
theorem w_tables : (allAtoms (Jvm.Cond.code x code maxLocals ret :: tables_1)).before args0 about1 = true := by
  rw [allAtoms_all]
  show words1.all (fun c => c.before args0 about1) = true
  refine all_split ?_ w_codes
  rw [w_t1]
set_option maxRecDepth 65536 in
theorem w_case : (Jvm.Cond.and given_1 narrow_1).before args0 about1 = true := by decide +kernel
theorem w_applies : (headSpec (Jvm.Cond.code x code maxLocals ret :: tables_1) room_1).applies x e0.platform about1 = true :=
  (Spec.applies_iff w_frames).mpr ⟨w_running, w_runnable, w_alone, w_named, w_hears, w_ripe, w_room, w_tables⟩
theorem atStart : AtStart classFile x code maxLocals ret World_1 tables_1 room_1 Calls_1 rest_1 Pre_1 launch0 p0 e0 about1 theMethod args0 below0 :=
  ⟨lists_1, trivial, launch0.admits_env _ _ _, launch0.least_env, fairChoices_fair.cas, fairChoices_fair.clock, w_frames, w_args, w_heap, w_applies, trivial, trivial, w_case⟩
end start1
theorem witness_1 : WitnessClaimed_1 := ⟨start1.p0, start1.e0, start1.about1, start1.theMethod, start1.args0, start1.below0, start1.atStart⟩
end Jvm.Pilot.@@N@@
