import JvmDerived
import JvmDerived.Pilot.@@N@@Statement
import JvmDerived.Pilot.@@N@@Code
set_option linter.unusedVariables false
set_option linter.unusedSimpArgs false
namespace Jvm.RoadKit
open Sem ClassFile Op Lib Jvm.Stand Jvm.Free Jvm.LawKit
section New
variable {p : Program} {l : Launch} {e : Env} {R : Room} {s : State} {m : MethodId} {args : Array Value} {below : List Frame} {meth : Method} {c : Code} {T : State} {locs : List Loc} {cells slots : Nat}
theorem retI (X : Stand p l e R s m args below meth c T locs cells slots) (hx : p.tables.exec = Jvm.exec) {pc : Nat} {Ls : Array Slot} {z : Int32} {rest : List Value} (hret : meth.sig.returnType = some .int) (hd : decode c.code pc = .ok (.ireturn, 1)) {fs : List Frame}
    (hl : ∀ (f : JFrame) (acts : List Action), f.method = m → f.locked = none → f.entered = [] → (doReturn e (T.setTop f) acts (some (.int z))).1 = T.setFrames fs) : Steps p.tables e below (T.setTop (mkF m pc Ls (.int z :: rest))) (T.setFrames fs) := by
  have hm' : T.vm.method? m = some meth := X.method'
  have hn : narrow .int (.int z) = .int z := rfl
  show Steps p.tables e below (T.setTop { method := m, pc := pc, locals := Ls, stack := _ :: rest, locked := none }) _
  jvm_step X.here [X.here.top, hx, hd, hm', hret, hn]
  first | (intro acts; rw [hl _ acts rfl rfl rfl]) | rw [hl _ _ rfl rfl rfl]
  exact Steps.refl _
end New
end Jvm.RoadKit
namespace Jvm.Pilot.@@N@@
open Jvm Jvm.ClassFile Sem Op Lib Jvm.Free Jvm.Stand Jvm.LawKit Jvm.RoadKit Bundle Jvm.Pilot.@@N@@.Jvm.D
/-- what is left to run from S0 is what is left from T with the frame g on top -/
abbrev own_Pr (tb : Tables) (e : Env) (below : List Frame) (S0 T : State) (g : JFrame) : Prop := ∀ t, Steps tb e below (T.setTop g) t → Steps tb e below S0 t
/-- it returns the int r, the heap as it was -/
def own_QI (h0 : Heap) (n0 : Nat) (r : Int32) (v : Option Value) (h : Heap) (L : List Loc) : Prop := ∃ z, v = some (.int z) ∧ z = r ∧ Fr n0 L ∧ h = h0
def own_QJ (h0 : Heap) (n0 : Nat) (r : Int64) (v : Option Value) (h : Heap) (L : List Loc) : Prop := ∃ z, v = some (.long z) ∧ z = r ∧ Fr n0 L ∧ h = h0
def own_QR (h0 : Heap) (n0 : Nat) (r : Addr) (v : Option Value) (h : Heap) (L : List Loc) : Prop := ∃ z, v = some (.ref z) ∧ z = r ∧ Fr n0 L ∧ h = h0
def own_QL (n0 : Nat) (v : Option Value) (L : List Loc) : Prop := ∃ z : Int32, v = some (.int z) ∧ z = 1 ∧ Fr n0 L
def own_QV (h0 : Heap) (n0 : Nat) (v : Option Value) (h : Heap) (L : List Loc) : Prop := v = none ∧ Fr n0 L ∧ h = h0
theorem own_tab_other {Z : State} {h h' : Heap} {a b : Addr} {sl : Nat} {v : Value} {cl : Cell} {ty : FieldType} {n : Int32} (F : Tab Z h b cl ty n) (W : Wr h h' a sl v) (q : b ≠ a) : Tab Z h' b cl ty n := ⟨F.1.other W q, F.2⟩
theorem own_tab_keep {Z : State} {h h' : Heap} {b : Addr} {ws : List Addr} {cl : Cell} {ty : FieldType} {n : Int32} (F : Tab Z h b cl ty n) (K : Keep h h' ws) (q : b ∉ ws) : Tab Z h' b cl ty n := ⟨⟨K.2.1 b cl F.1.1 q, F.1.2⟩, F.2⟩
theorem own_tab {Z : State} {h : Heap} {a : Addr} {k : ClassId} {ty : FieldType} {n : Int32} {xs : List Int32} (F : Arv Z h a k ty n (xs.map Value.int) (.int 0)) : ∃ cl, Tab Z h a cl ty n ∧ ∀ j : Int32, ¬ j < 0 → j < n → atv cl j = xs.getD j.toNatClampNeg 0 := by
  obtain ⟨cl, A, -, S, hn, H, -⟩ := F
  have key : ∀ i, i < cl.slots.size → cl.slots[i]? = some (.int (xs.getD i 0)) := fun i hi => by
    rw [H i hi]; simp only [List.getD_eq_getElem?_getD, List.getElem?_map]
    cases xs[i]? <;> rfl
  have at' : ∀ j : Int32, ¬ (j < 0 ∨ cl.slots.size ≤ j.toNatClampNeg) → atv cl j = xs.getD j.toNatClampNeg 0 := fun j hj => atv_of (key _ (Nat.lt_of_not_le fun q => hj (Or.inr q)))
  exact ⟨cl, ⟨A, S, hn, fun j hj => by rw [at' j hj]; exact key _ (Nat.lt_of_not_le fun q => hj (Or.inr q))⟩, fun j h1 h2 => at' j (inb_of S ⟨h1, h2⟩)⟩
theorem own_lremM {p : Program} {l : Launch} {e : Env} {R : Room} {s : State} {m : MethodId} {args : Array Value} {below : List Frame} {meth : Method} {c : Code} {T : State} {locs : List Loc} {cells slots : Nat} {g : JFrame} {target : State} (X : Stand p l e R s m args below meth c T locs cells slots) (hx : p.tables.exec = Jvm.exec) (hg : g.method = m) {x y : Int64} {rest : List Value} (hd : decode c.code g.pc = .ok (.lrem, 1)) (hs : g.stack = .long y :: .long x :: rest) (hy : y ≠ 0)
    (hr : Steps p.tables e below (T.setTop { g with pc := g.pc + 1, stack := .long (x % y) :: rest }) target) : Steps p.tables e below (T.setTop g) target :=
  XS.lrem X.here hx hg hd hs hy (by rw [lrem_mod x y]; exact hr)
/-- a String of n signs, all below 256; xs: its bytes -/
def own_Sc (Z : State) (h : Heap) (a : Addr) (n : Int32) (xs : List Int32) : Prop := ∃ (b : Addr) (k : ClassId), Exa Z h a "java/lang/String" ∧ Fld Z h a "java/lang/String" "coder" "B" (.int 0) ∧ Fld Z h a "java/lang/String" "value" "[B" (.ref b) ∧ Arv Z h b k .byte n (xs.map Value.int) (.int 0)
theorem own_Sc.exa {Z : State} {h : Heap} {a : Addr} {n : Int32} {xs : List Int32} (S : own_Sc Z h a n xs) : Exa Z h a "java/lang/String" := by obtain ⟨_, _, E, -⟩ := S; exact E
theorem own_Sc.ext {Z : State} {h h' : Heap} {a : Addr} {n : Int32} {xs : List Int32} (S : own_Sc Z h a n xs) (E : Ext h h') : own_Sc Z h' a n xs := by
  obtain ⟨b, k, e, c, v, A⟩ := S; exact ⟨b, k, e.ext E, c.ext E, v.ext E, A.ext E⟩
theorem own_Sc.keep0 {Z : State} {h h' : Heap} {a : Addr} {n : Int32} {xs : List Int32} (S : own_Sc Z h a n xs) (K : Keep h h' []) : own_Sc Z h' a n xs := by
  obtain ⟨b, k, e, c, v, A⟩ := S; exact ⟨b, k, e.keep K, c.keep K nin0, v.keep K nin0, A.keep K nin0⟩
/-- over a write to a place made since: both its cells are older -/
theorem own_Sc.keepN {Z : State} {h h' : Heap} {a x : Addr} {n : Int32} {xs : List Int32} {k0 : Nat} (S : own_Sc Z h a n xs) (L : ∃ b, Fld Z h a "java/lang/String" "value" "[B" (.ref b) ∧ a < k0 ∧ b < k0) (K : Keep h h' [x]) (q : k0 ≤ x) : own_Sc Z h' a n xs := by
  obtain ⟨b, k, e, c, v, A⟩ := S
  obtain ⟨b', v', l1, l2⟩ := L
  have eb : b' = b := by
    obtain ⟨c1, _, _, _, _, h1, h2, -, -, -, -, h7⟩ := v
    obtain ⟨c2, _, _, _, _, g1, g2, -, -, -, -, g7⟩ := v'
    cases h1.symm.trans g1; cases h2.symm.trans g2
    exact Value.ref.inj (Option.some.inj (g7.symm.trans h7))
  subst eb
  have n1 : a ≠ x := Nat.ne_of_lt (Nat.lt_of_lt_of_le l1 q)
  have n2 : b' ≠ x := Nat.ne_of_lt (Nat.lt_of_lt_of_le l2 q)
  exact ⟨b', k, e.keep K, c.keep K (ninS n1 nin0), v.keep K (ninS n1 nin0), A.keep K (ninS n2 nin0)⟩
theorem own_sta_keep0 {Z : State} {h h' : Heap} {C n d : String} {v : Value} (F : Sta Z h C n d v) (K : Keep h h' []) : Sta Z h' C n d v := by
  obtain ⟨cf, i, k, f, st, cell, h1, h2, h3, h4, h5, r⟩ := F; exact ⟨cf, i, k, f, st, cell, h1, h2, h3, h4, K.2.1 _ _ h5 nin0, r⟩
theorem own_sta_keep {Z : State} {h h' : Heap} {C n d D : String} {v : Value} {x : Addr} (F : Sta Z h C n d v) (K : Keep h h' [x]) (E : Exa Z h x D) : Sta Z h' C n d v := by
  obtain ⟨cf, i, k, f, st, cell, h1, h2, h3, h4, h5, h6, r⟩ := F
  obtain ⟨cx, _, g1, -, -, g4, -⟩ := E
  refine ⟨cf, i, k, f, st, cell, h1, h2, h3, h4, K.2.1 _ _ h5 (ninS (fun e => ?_) nin0), h6, r⟩
  subst e; cases h5.symm.trans g1; rw [g4] at h6; cases h6
theorem own_narC (y : Int32) : nar .char (y.toUInt32.toUInt16.toUInt32.toInt32) = y.toUInt32.toUInt16.toUInt32.toInt32 := by
  show (y.toUInt32.toUInt16.toUInt32.toInt32).toUInt32.toUInt16.toUInt32.toInt32 = _
  apply Int32.toBitVec_inj.mp
  show ((((y.toBitVec.setWidth 16).setWidth 32).setWidth 16).setWidth 32) = (y.toBitVec.setWidth 16).setWidth 32
  congr 1
  generalize y.toBitVec.setWidth 16 = w
  apply BitVec.eq_of_toNat_eq
  simp only [BitVec.toNat_setWidth]
  have := w.isLt
  omega
theorem own_narB (y : Int32) : nar .byte (y.toInt8.toInt32) = y.toInt8.toInt32 := by
  show (y.toInt8.toInt32).toInt8.toInt32 = _
  simp
theorem own_nar255 (x : Int32) : nar .char (x &&& 255) = x &&& 255 := by rw [← i2c_mask x]; exact own_narC _
theorem d14_0 : decode jdk_42_method_152_code 0 = .ok (.getstatic 38, 3) := by decide +kernel
theorem d14_3 : decode jdk_42_method_152_code 3 = .ok (.ifCond .eq 10, 3) := by decide +kernel
theorem d14_6 : decode jdk_42_method_152_code 6 = .ok (.aload_n 0, 1) := by decide +kernel
theorem d14_7 : decode jdk_42_method_152_code 7 = .ok (.getfield 15, 3) := by decide +kernel
theorem d14_10 : decode jdk_42_method_152_code 10 = .ok (.goto 4, 3) := by decide +kernel
theorem d14_14 : decode jdk_42_method_152_code 14 = .ok (.ireturn, 1) := by decide +kernel
theorem pn_14 : plainName "java/lang/String" = true := by first | (simp [plainName, overriddenIn]; done) | decide +kernel
theorem ef_14 (m : MethodId) (a1 : Addr) : entryFrame m #[(.ref a1)] 1 = mkF m 0 #[.val (.ref a1)] [] := by first | (simp [entryFrame, mkF, argsToLocals, Value.category]; done) | rfl
def own_f14 (cs : Int32) : Int32 := (0 : Int32)
set_option maxRecDepth 65536 in
set_option maxHeartbeats 40000000 in
theorem rm14 (l : Launch) (Z : State) (a0 : Array Value) (hw : ∀ d ∈ tables_1, d.before a0 Z = true) (ws : List Jvm.Cond) (a1 : Addr) (cs : Int32) (h0 : Heap) (n0 : Nat) (Z0 : n0 ≤ h0.size) (Fc : Fld Z h0 a1 "java/lang/String" "coder" "B" (.int (0 : Int32))) (CS : Sta Z h0 "java/lang/String" "COMPACT_STRINGS" "Z" (.int cs)) (hcs : ¬ cs = (0 : Int32)) :
    MetFree l (⟨"java/lang/String", "coder", "()B"⟩ : MethodName) (head1 (Jvm.Cond.code (⟨"java/lang/String", "coder", "()B"⟩ : MethodName) jdk_42_method_152_code 1 (some .byte) :: ws) ({ frames := 0, cells := 0, slots := 0, locals := 0 } : Room)) (fun a U => a = #[(.ref a1)] ∧ Z.Warmed39 U.vm ∧ U.heap = h0) (fun _ _ _ _ _ => True) (fun _ U o U' => ∃ v L, o = .returned v ∧ own_QI h0 n0 (own_f14 cs) v U'.heap L ∧ FrameEnd U o U' L ({ frames := 0, cells := 0, slots := 0, locals := 0 } : Room).cells ({ frames := 0, cells := 0, slots := 0, locals := 0 } : Room).slots) := by
  refine MetFree.of_bodySF (plainFor_of_name pn_14) hisR ?_
  intro p e s m args below meth c s₁ Bd hml0 hP hK
  obtain ⟨rfl, hZ, hh⟩ := hP
  have hx := Bd.exec
  have hby := Bd.bytes
  have hml : c.maxLocals = 1 := hml0
  have hown : s.vm.findClass "java/lang/String" = some m.cls := findClass_of_methodNamed Bd.named
  have hnm := (name_of_methodNamed Bd.named Bd.method).1
  have X0 : Stand p l e ({ frames := 0, cells := 0, slots := 0, locals := 0 } : Room) s m #[(.ref a1)] below meth c s₁ [] 0 0 := Stand.of_body Bd
  have e0 : s₁.heap = h0 := by rw [← hh, Bd.state]; rfl
  have N0 := Fr.nil n0
  obtain ⟨S0, hS0⟩ : ∃ z, z = s₁.setTop (entryFrame m #[(.ref a1)] 1) := ⟨_, rfl⟩
  have P0 : own_Pr p.tables e below S0 s₁ (mkF m 0 #[.val (.ref a1)] []) := fun t k => hS0 ▸ castTop (ef_14 m a1) k
  obtain ⟨T21, X21, e21, st21⟩ := getS2 X0 hx hZ hown (host := "") (Or.inl (hw _ (List.mem_of_getElem? (i := 26) rfl))) Via.refl e0 CS (g := (mkF m 0 #[.val (.ref a1)] [])) rfl (hb hby d14_0)
  have P22 : own_Pr p.tables e below S0 T21 (mkF m 3 #[.val (.ref a1)] [(.int cs)]) := fun t k => P0 t (st21 _ k)
  have P23 : own_Pr p.tables e below S0 T21 (mkF m 7 #[.val (.ref a1)] [(.ref a1)]) := fun t k => P22 t (by
    refine XS.ifNo X21.here hx rfl (hb hby d14_3) rfl (XT.i0_eq_f hcs) ?_
    refine XS.aloadN X21.here hx rfl (hb hby d14_6) rfl rfl ?_
    exact k)
  obtain ⟨T24, X24, e24, st24⟩ := getF X21 hx hZ hown (host := "") (Or.inl (hw _ (List.mem_of_getElem? (i := 38) rfl))) Via.refl e21 Fc (g := (mkF m 7 #[.val (.ref a1)] [(.ref a1)])) rfl rfl (hb hby d14_7)
  have P25 : own_Pr p.tables e below S0 T24 (mkF m 10 #[.val (.ref a1)] [(.int (0 : Int32))]) := fun t k => P23 t (st24 _ k)
  have P26 : own_Pr p.tables e below S0 T24 (mkF m 14 #[.val (.ref a1)] [(.int (0 : Int32))]) := fun t k => P25 t (by
    refine XS.goto X24.here hx rfl (pc0 := 10) (pc' := 14) rfl (hb hby d14_10) (by decide) (by decide) ?_
    exact k)
  obtain ⟨fs, hr, hrun, hended, hW, hsame⟩ := X24.leave (v := some (.int (0 : Int32))) (fun h => by rw [Bd.returns] at h; cases h)
  have fin : Steps p.tables e below S0 (T24.setFrames fs) := P26 _ (retN X24 hx (t := .byte) Bd.returns (by simp) (hb hby d14_14) hr)
  rw [hS0] at fin
  refine ⟨_, _, fin, hrun, hended, _, _, rfl, ?_, ⟨_, rfl⟩, hW, hsame.mono (by decide) (by decide)⟩
  show own_QI h0 n0 (own_f14 cs) _ T24.heap _
  rw [e24]
  exact ⟨_, rfl, (by unfold own_f14; rfl), N0, rfl⟩
theorem d16_0 : decode jdk_42_method_154_code 0 = .ok (.getstatic 38, 3) := by decide +kernel
theorem d16_3 : decode jdk_42_method_154_code 3 = .ok (.ifCond .eq 14, 3) := by decide +kernel
theorem d16_6 : decode jdk_42_method_154_code 6 = .ok (.aload_n 0, 1) := by decide +kernel
theorem d16_7 : decode jdk_42_method_154_code 7 = .ok (.getfield 15, 3) := by decide +kernel
theorem d16_10 : decode jdk_42_method_154_code 10 = .ok (.ifCond .ne 7, 3) := by decide +kernel
theorem d16_13 : decode jdk_42_method_154_code 13 = .ok (.iconst 1, 1) := by decide +kernel
theorem d16_14 : decode jdk_42_method_154_code 14 = .ok (.goto 4, 3) := by decide +kernel
theorem d16_18 : decode jdk_42_method_154_code 18 = .ok (.ireturn, 1) := by decide +kernel
theorem ef_16 (m : MethodId) (a1 : Addr) : entryFrame m #[(.ref a1)] 1 = mkF m 0 #[.val (.ref a1)] [] := by first | (simp [entryFrame, mkF, argsToLocals, Value.category]; done) | rfl
set_option maxRecDepth 65536 in
set_option maxHeartbeats 40000000 in
theorem rm16 (l : Launch) (Z : State) (a0 : Array Value) (hw : ∀ d ∈ tables_1, d.before a0 Z = true) (ws : List Jvm.Cond) (a1 : Addr) (cs : Int32) (h0 : Heap) (n0 : Nat) (Z0 : n0 ≤ h0.size) (Fc : Fld Z h0 a1 "java/lang/String" "coder" "B" (.int (0 : Int32))) (CS : Sta Z h0 "java/lang/String" "COMPACT_STRINGS" "Z" (.int cs)) (hcs : ¬ cs = (0 : Int32)) :
    MetFree l (⟨"java/lang/String", "isLatin1", "()Z"⟩ : MethodName) (head1 (Jvm.Cond.code (⟨"java/lang/String", "isLatin1", "()Z"⟩ : MethodName) jdk_42_method_154_code 1 (some .boolean) :: ws) ({ frames := 0, cells := 0, slots := 0, locals := 0 } : Room)) (fun a U => a = #[(.ref a1)] ∧ Z.Warmed39 U.vm ∧ U.heap = h0) (fun _ _ _ _ _ => True) (fun _ U o U' => ∃ v L, o = .returned v ∧ own_QI h0 n0 1 v U'.heap L ∧ FrameEnd U o U' L ({ frames := 0, cells := 0, slots := 0, locals := 0 } : Room).cells ({ frames := 0, cells := 0, slots := 0, locals := 0 } : Room).slots) := by
  refine MetFree.of_bodySF (plainFor_of_name pn_14) hisR ?_
  intro p e s m args below meth c s₁ Bd hml0 hP hK
  obtain ⟨rfl, hZ, hh⟩ := hP
  have hx := Bd.exec
  have hby := Bd.bytes
  have hml : c.maxLocals = 1 := hml0
  have hown : s.vm.findClass "java/lang/String" = some m.cls := findClass_of_methodNamed Bd.named
  have hnm := (name_of_methodNamed Bd.named Bd.method).1
  have X0 : Stand p l e ({ frames := 0, cells := 0, slots := 0, locals := 0 } : Room) s m #[(.ref a1)] below meth c s₁ [] 0 0 := Stand.of_body Bd
  have e0 : s₁.heap = h0 := by rw [← hh, Bd.state]; rfl
  have N0 := Fr.nil n0
  obtain ⟨S0, hS0⟩ : ∃ z, z = s₁.setTop (entryFrame m #[(.ref a1)] 1) := ⟨_, rfl⟩
  have P0 : own_Pr p.tables e below S0 s₁ (mkF m 0 #[.val (.ref a1)] []) := fun t k => hS0 ▸ castTop (ef_16 m a1) k
  obtain ⟨T21, X21, e21, st21⟩ := getS2 X0 hx hZ hown (host := "") (Or.inl (hw _ (List.mem_of_getElem? (i := 26) rfl))) Via.refl e0 CS (g := (mkF m 0 #[.val (.ref a1)] [])) rfl (hb hby d16_0)
  have P22 : own_Pr p.tables e below S0 T21 (mkF m 3 #[.val (.ref a1)] [(.int cs)]) := fun t k => P0 t (st21 _ k)
  have P23 : own_Pr p.tables e below S0 T21 (mkF m 7 #[.val (.ref a1)] [(.ref a1)]) := fun t k => P22 t (by
    refine XS.ifNo X21.here hx rfl (hb hby d16_3) rfl (XT.i0_eq_f hcs) ?_
    refine XS.aloadN X21.here hx rfl (hb hby d16_6) rfl rfl ?_
    exact k)
  obtain ⟨T24, X24, e24, st24⟩ := getF X21 hx hZ hown (host := "") (Or.inl (hw _ (List.mem_of_getElem? (i := 38) rfl))) Via.refl e21 Fc (g := (mkF m 7 #[.val (.ref a1)] [(.ref a1)])) rfl rfl (hb hby d16_7)
  have P25 : own_Pr p.tables e below S0 T24 (mkF m 10 #[.val (.ref a1)] [(.int (0 : Int32))]) := fun t k => P23 t (st24 _ k)
  have P26 : own_Pr p.tables e below S0 T24 (mkF m 18 #[.val (.ref a1)] [(.int (1 : Int32))]) := fun t k => P25 t (by
    refine XS.ifNo X24.here hx rfl (hb hby d16_10) rfl (by decide) ?_
    refine XS.iconst X24.here hx rfl (hb hby d16_13) ?_
    refine XS.goto X24.here hx rfl (pc0 := 14) (pc' := 18) rfl (hb hby d16_14) (by decide) (by decide) ?_
    exact k)
  obtain ⟨fs, hr, hrun, hended, hW, hsame⟩ := X24.leave (v := some (.int (1 : Int32))) (fun h => by rw [Bd.returns] at h; cases h)
  have fin : Steps p.tables e below S0 (T24.setFrames fs) := P26 _ (retN X24 hx (t := .boolean) Bd.returns (by simp) (hb hby d16_18) hr)
  rw [hS0] at fin
  refine ⟨_, _, fin, hrun, hended, _, _, rfl, ?_, ⟨_, rfl⟩, hW, hsame.mono (by decide) (by decide)⟩
  show own_QI h0 n0 1 _ T24.heap _
  rw [e24]
  exact ⟨_, rfl, rfl, N0, rfl⟩
theorem own_len_eq (n : Int32) : n >>> ((0 : Int32) &&& 31) = n := by
  have e : (0 : Int32) &&& 31 = 0 := by decide
  rw [e]; simp
theorem d13_0 : decode jdk_42_method_54_code 0 = .ok (.aload_n 0, 1) := by decide +kernel
theorem d13_1 : decode jdk_42_method_54_code 1 = .ok (.getfield 9, 3) := by decide +kernel
theorem d13_4 : decode jdk_42_method_54_code 4 = .ok (.arraylength, 1) := by decide +kernel
theorem d13_5 : decode jdk_42_method_54_code 5 = .ok (.aload_n 0, 1) := by decide +kernel
theorem d13_6 : decode jdk_42_method_54_code 6 = .ok (.invokevirtual 335, 3) := by decide +kernel
theorem d13_9 : decode jdk_42_method_54_code 9 = .ok (.ishr, 1) := by decide +kernel
theorem d13_10 : decode jdk_42_method_54_code 10 = .ok (.ireturn, 1) := by decide +kernel
theorem pd_0 : parseMethodDescriptor "()B" = some ⟨[], some .byte⟩ := by decide +kernel
theorem ef_13 (m : MethodId) (a1 : Addr) : entryFrame m #[(.ref a1)] 1 = mkF m 0 #[.val (.ref a1)] [] := by first | (simp [entryFrame, mkF, argsToLocals, Value.category]; done) | rfl
set_option maxRecDepth 65536 in
set_option maxHeartbeats 40000000 in
theorem rm13 (l : Launch) (Z : State) (a0 : Array Value) (hw : ∀ d ∈ tables_1, d.before a0 Z = true) (ws : List Jvm.Cond) (a1 : Addr) (n : Int32) (xs : List Int32) (cs : Int32) (h0 : Heap) (n0 : Nat) (Z0 : n0 ≤ h0.size) (Sa : own_Sc Z h0 a1 n xs) (CS : Sta Z h0 "java/lang/String" "COMPACT_STRINGS" "Z" (.int cs)) (hcs : ¬ cs = (0 : Int32)) :
    MetFree l (⟨"java/lang/String", "length", "()I"⟩ : MethodName) (head1 (Jvm.Cond.code (⟨"java/lang/String", "length", "()I"⟩ : MethodName) jdk_42_method_54_code 1 (some .int) :: ws) ({ frames := 1, cells := 0, slots := 0, locals := 13 } : Room)) (fun a U => a = #[(.ref a1)] ∧ Z.Warmed39 U.vm ∧ U.heap = h0) (fun _ _ _ _ _ => True) (fun _ U o U' => ∃ v L, o = .returned v ∧ own_QI h0 n0 n v U'.heap L ∧ FrameEnd U o U' L ({ frames := 1, cells := 0, slots := 0, locals := 13 } : Room).cells ({ frames := 1, cells := 0, slots := 0, locals := 13 } : Room).slots) := by
  refine MetFree.of_bodySF (plainFor_of_name pn_14) hisR ?_
  intro p e s m args below meth c s₁ Bd hml0 hP hK
  obtain ⟨rfl, hZ, hh⟩ := hP
  have hx := Bd.exec
  have hby := Bd.bytes
  have hml : c.maxLocals = 1 := hml0
  have hown : s.vm.findClass "java/lang/String" = some m.cls := findClass_of_methodNamed Bd.named
  have hnm := (name_of_methodNamed Bd.named Bd.method).1
  have X0 : Stand p l e ({ frames := 1, cells := 0, slots := 0, locals := 13 } : Room) s m #[(.ref a1)] below meth c s₁ [] 0 0 := Stand.of_body Bd
  have e0 : s₁.heap = h0 := by rw [← hh, Bd.state]; rfl
  have N0 := Fr.nil n0
  obtain ⟨S0, hS0⟩ : ∃ z, z = s₁.setTop (entryFrame m #[(.ref a1)] 1) := ⟨_, rfl⟩
  have P0 : own_Pr p.tables e below S0 s₁ (mkF m 0 #[.val (.ref a1)] []) := fun t k => hS0 ▸ castTop (ef_13 m a1) k
  obtain ⟨vb, kb, Es, Fc, Fv, Av⟩ := Sa
  have P21 : own_Pr p.tables e below S0 s₁ (mkF m 1 #[.val (.ref a1)] [(.ref a1)]) := fun t k => P0 t (by
    refine XS.aloadN X0.here hx rfl (hb hby d13_0) rfl rfl ?_
    exact k)
  obtain ⟨T22, X22, e22, st22⟩ := getF X0 hx hZ hown (host := "") (Or.inl (hw _ (List.mem_of_getElem? (i := 40) rfl))) Via.refl e0 Fv (g := (mkF m 1 #[.val (.ref a1)] [(.ref a1)])) rfl rfl (hb hby d13_1)
  have P23 : own_Pr p.tables e below S0 T22 (mkF m 4 #[.val (.ref a1)] [(.ref vb)]) := fun t k => P21 t (st22 _ k)
  obtain ⟨cl24, Ar24, q24, S24, N24, H24, G24⟩ := id Av
  have P25 : own_Pr p.tables e below S0 T22 (mkF m 6 #[.val (.ref a1)] [(.ref a1), (.int n)]) := fun t k => P23 t (by
    refine X22.arraylength hx (by rw [e22]; exact Ar24.1) (State.isArrayOf_alike hZ.alike Ar24.2.1) (g := (mkF m 4 #[.val (.ref a1)] [(.ref vb)])) rfl rfl (hb hby d13_4) _ ?_
    rw [len_of S24 N24]
    show Steps p.tables e below (T22.setTop (mkF m 5 #[.val (.ref a1)] [(.int n)])) _
    refine XS.aloadN X22.here hx rfl (hb hby d13_5) rfl rfl ?_
    exact k)
  obtain ⟨cq26, kq26, q26a, q26b, q26c⟩ := isOf hZ e22 Es
  obtain ⟨_, _, ⟨T26, L26, k26, n26⟩, -, X26, ⟨Lc26, hQ26, l26, y26, z26⟩, st26⟩ := X22.virtualBack hx (y := (⟨"java/lang/String", "coder", "()B"⟩ : MethodName)) (z := (⟨"java/lang/String", "coder", "()B"⟩ : MethodName)) hown (mvT hZ (hw _ (List.mem_of_getElem? (i := 58) rfl))) (mvT hZ (hw _ (List.mem_of_getElem? (i := 59) rfl))) (notFace_of_selects (args := #[]) (mvT hZ (hw _ (List.mem_of_getElem? (i := 61) rfl)))) (mvT hZ (hw _ (List.mem_of_getElem? (i := 61) rfl))) (mvT hZ (hw _ (List.mem_of_getElem? (i := 60) rfl))) (by decide) (backOf (W := 1) (rm14 l Z a0 hw [] a1 cs h0 n0 Z0 Fc CS hcs) hZ (hw _ (List.mem_of_getElem? (i := 62) rfl)) (hw _ (List.mem_of_getElem? (i := 15) rfl)) (by decide) (by decide)) q26a q26c (g := (mkF m 6 #[.val (.ref a1)] [(.ref a1), (.int n)])) rfl (by rw [hml]; rfl) (Steps.refl _) (argsL := []) (rest := [(.int n)]) (lenOf pd_0 rfl) rfl (by show 2 * 0 + _ ≤ _; exact Nat.le_of_eq rfl) (hb hby d13_6) (fun _ _ => ⟨rfl, e22, (by decide : 0 + 0 ≤ _), (by decide : 0 + 0 ≤ _)⟩)
  dsimp only [Pt.U, Pt.locs, Pt.cells, Pt.slots] at X26 l26 y26 z26 st26 hQ26
  rw [l26, y26, z26] at X26
  have X26 := X26.mono (cells' := 0) (slots' := 0) (by decide) (by decide)
  obtain ⟨z26v, rfl, hz26v, Nq26, eq26⟩ := hQ26
  have N26n := Fr.app N0 Nq26
  have P27 : own_Pr p.tables e below S0 T26 (mkF m 9 #[.val (.ref a1)] [(.int z26v), (.int n)]) := fun t k => P25 t (st26.trans k)
  have P28 : own_Pr p.tables e below S0 T26 (mkF m 10 #[.val (.ref a1)] [(.int (n >>> (z26v &&& 31)))]) := fun t k => P27 t (by
    refine XS.ishr X26.here hx rfl (hb hby d13_9) rfl ?_
    exact k)
  obtain ⟨fs, hr, hrun, hended, hW, hsame⟩ := X26.leave (v := some (.int (n >>> (z26v &&& 31)))) (fun h => by rw [Bd.returns] at h; cases h)
  have fin : Steps p.tables e below S0 (T26.setFrames fs) := P28 _ (retI X26 hx Bd.returns (hb hby d13_10) hr)
  rw [hS0] at fin
  refine ⟨_, _, fin, hrun, hended, _, _, rfl, ?_, ⟨_, rfl⟩, hW, hsame.mono (by decide) (by decide)⟩
  show own_QI h0 n0 n _ T26.heap _
  rw [eq26]
  exact ⟨_, rfl, (by rw [hz26v]; exact own_len_eq n), N26n, rfl⟩
theorem d19_0 : decode jdk_41_method_11_code 0 = .ok (.iload_n 0, 1) := by decide +kernel
theorem d19_1 : decode jdk_41_method_11_code 1 = .ok (.ifCond .lt 8, 3) := by decide +kernel
theorem d19_4 : decode jdk_41_method_11_code 4 = .ok (.iload_n 0, 1) := by decide +kernel
theorem d19_5 : decode jdk_41_method_11_code 5 = .ok (.iload_n 1, 1) := by decide +kernel
theorem d19_6 : decode jdk_41_method_11_code 6 = .ok (.if_icmp .lt 10, 3) := by decide +kernel
theorem d19_16 : decode jdk_41_method_11_code 16 = .ok (.iload_n 0, 1) := by decide +kernel
theorem d19_17 : decode jdk_41_method_11_code 17 = .ok (.ireturn, 1) := by decide +kernel
theorem pn_19 : plainName "jdk/internal/util/Preconditions" = true := by first | (simp [plainName, overriddenIn]; done) | decide +kernel
theorem ef_19 (m : MethodId) (p1 : Int32) (p2 : Int32) (fm : Value) (hr_fm : fm.isRef = true) : entryFrame m #[(.int p1), (.int p2), fm] 3 = mkF m 0 #[.val (.int p1), .val (.int p2), .val fm] [] := by
  cases fm
  all_goals first | (simp [Value.isRef] at hr_fm; done) | rfl | (simp [entryFrame, mkF, argsToLocals, Value.category]; done)
def own_f19 (p1 : Int32) : Int32 := p1
set_option maxRecDepth 65536 in
set_option maxHeartbeats 40000000 in
theorem rm19 (l : Launch) (Z : State) (a0 : Array Value) (hw : ∀ d ∈ tables_1, d.before a0 Z = true) (ws : List Jvm.Cond) (p1 : Int32) (p2 : Int32) (fm : Value)  (h0 : Heap) (n0 : Nat) (Z0 : n0 ≤ h0.size) (hr_fm : fm.isRef = true) (h1 : ¬ p1 < (0 : Int32)) (h2 : p1 < p2) :
    MetFree l (⟨"jdk/internal/util/Preconditions", "checkIndex", "(IILjava/util/function/BiFunction;)I"⟩ : MethodName) (head1 (Jvm.Cond.code (⟨"jdk/internal/util/Preconditions", "checkIndex", "(IILjava/util/function/BiFunction;)I"⟩ : MethodName) jdk_41_method_11_code 3 (some .int) :: ws) ({ frames := 0, cells := 0, slots := 0, locals := 0 } : Room)) (fun a U => a = #[(.int p1), (.int p2), fm] ∧ Z.Warmed39 U.vm ∧ U.heap = h0) (fun _ _ _ _ _ => True) (fun _ U o U' => ∃ v L, o = .returned v ∧ own_QI h0 n0 (own_f19 p1) v U'.heap L ∧ FrameEnd U o U' L ({ frames := 0, cells := 0, slots := 0, locals := 0 } : Room).cells ({ frames := 0, cells := 0, slots := 0, locals := 0 } : Room).slots) := by
  refine MetFree.of_bodySF (plainFor_of_name pn_19) hisR ?_
  intro p e s m args below meth c s₁ Bd hml0 hP hK
  obtain ⟨rfl, hZ, hh⟩ := hP
  have hx := Bd.exec
  have hby := Bd.bytes
  have hml : c.maxLocals = 3 := hml0
  have hown : s.vm.findClass "jdk/internal/util/Preconditions" = some m.cls := findClass_of_methodNamed Bd.named
  have hnm := (name_of_methodNamed Bd.named Bd.method).1
  have X0 : Stand p l e ({ frames := 0, cells := 0, slots := 0, locals := 0 } : Room) s m #[(.int p1), (.int p2), fm] below meth c s₁ [] 0 0 := Stand.of_body Bd
  have e0 : s₁.heap = h0 := by rw [← hh, Bd.state]; rfl
  have N0 := Fr.nil n0
  obtain ⟨S0, hS0⟩ : ∃ z, z = s₁.setTop (entryFrame m #[(.int p1), (.int p2), fm] 3) := ⟨_, rfl⟩
  have P0 : own_Pr p.tables e below S0 s₁ (mkF m 0 #[.val (.int p1), .val (.int p2), .val fm] []) := fun t k => hS0 ▸ castTop (ef_19 m p1 p2 fm hr_fm) k
  have P21 : own_Pr p.tables e below S0 s₁ (mkF m 17 #[.val (.int p1), .val (.int p2), .val fm] [(.int p1)]) := fun t k => P0 t (by
    refine XS.iloadN X0.here hx rfl (hb hby d19_0) rfl ?_
    refine XS.ifNo X0.here hx rfl (hb hby d19_1) rfl (XT.i0_lt_f h1) ?_
    refine XS.iloadN X0.here hx rfl (hb hby d19_4) rfl ?_
    refine XS.iloadN X0.here hx rfl (hb hby d19_5) rfl ?_
    refine XS.icmpYes X0.here hx rfl (pc0 := 6) (pc' := 16) rfl (hb hby d19_6) rfl (XT.ii_lt_t h2) (by decide) (by decide) ?_
    refine XS.iloadN X0.here hx rfl (hb hby d19_16) rfl ?_
    exact k)
  obtain ⟨fs, hr, hrun, hended, hW, hsame⟩ := X0.leave (v := some (.int p1)) (fun h => by rw [Bd.returns] at h; cases h)
  have fin : Steps p.tables e below S0 (s₁.setFrames fs) := P21 _ (retI X0 hx Bd.returns (hb hby d19_17) hr)
  rw [hS0] at fin
  refine ⟨_, _, fin, hrun, hended, _, _, rfl, ?_, ⟨_, rfl⟩, hW, hsame.mono (by decide) (by decide)⟩
  show own_QI h0 n0 (own_f19 p1) _ s₁.heap _
  rw [e0]
  exact ⟨_, rfl, (by unfold own_f19; rfl), N0, rfl⟩
theorem d18_0 : decode jdk_42_method_155_code 0 = .ok (.iload_n 0, 1) := by decide +kernel
theorem d18_1 : decode jdk_42_method_155_code 1 = .ok (.iload_n 1, 1) := by decide +kernel
theorem d18_2 : decode jdk_42_method_155_code 2 = .ok (.getstatic 1053, 3) := by decide +kernel
theorem d18_5 : decode jdk_42_method_155_code 5 = .ok (.invokestatic 1059, 3) := by decide +kernel
theorem d18_8 : decode jdk_42_method_155_code 8 = .ok (.pop, 1) := by decide +kernel
theorem d18_9 : decode jdk_42_method_155_code 9 = .ok (.return_, 1) := by decide +kernel
theorem pd_1 : parseMethodDescriptor "(IILjava/util/function/BiFunction;)I" = some ⟨[.int, .int, (.object "java/util/function/BiFunction")], some .int⟩ := by decide +kernel
theorem ef_18 (m : MethodId) (p1 : Int32) (p2 : Int32) : entryFrame m #[(.int p1), (.int p2)] 2 = mkF m 0 #[.val (.int p1), .val (.int p2)] [] := by first | (simp [entryFrame, mkF, argsToLocals, Value.category]; done) | rfl
set_option maxRecDepth 65536 in
set_option maxHeartbeats 40000000 in
theorem rm18 (l : Launch) (Z : State) (a0 : Array Value) (hw : ∀ d ∈ tables_1, d.before a0 Z = true) (ws : List Jvm.Cond) (p1 : Int32) (p2 : Int32) (fm : Value) (h0 : Heap) (n0 : Nat) (Z0 : n0 ≤ h0.size) (FM : Sta Z h0 "jdk/internal/util/Preconditions" "SIOOBE_FORMATTER" "Ljava/util/function/BiFunction;" fm) (hr_fm : fm.isRef = true) (h1 : ¬ p1 < (0 : Int32)) (h2 : p1 < p2) :
    MetFree l (⟨"java/lang/String", "checkIndex", "(II)V"⟩ : MethodName) (head1 (Jvm.Cond.code (⟨"java/lang/String", "checkIndex", "(II)V"⟩ : MethodName) jdk_42_method_155_code 2 none :: ws) ({ frames := 1, cells := 0, slots := 0, locals := 14 } : Room)) (fun a U => a = #[(.int p1), (.int p2)] ∧ Z.Warmed39 U.vm ∧ U.heap = h0) (fun _ _ _ _ _ => True) (fun _ U o U' => ∃ v L, o = .returned v ∧ own_QV h0 n0 v U'.heap L ∧ FrameEnd U o U' L ({ frames := 1, cells := 0, slots := 0, locals := 14 } : Room).cells ({ frames := 1, cells := 0, slots := 0, locals := 14 } : Room).slots) := by
  refine MetFree.of_bodySF (plainFor_of_name pn_14) hisR ?_
  intro p e s m args below meth c s₁ Bd hml0 hP hK
  obtain ⟨rfl, hZ, hh⟩ := hP
  have hx := Bd.exec
  have hby := Bd.bytes
  have hml : c.maxLocals = 2 := hml0
  have hown : s.vm.findClass "java/lang/String" = some m.cls := findClass_of_methodNamed Bd.named
  have hnm := (name_of_methodNamed Bd.named Bd.method).1
  have X0 : Stand p l e ({ frames := 1, cells := 0, slots := 0, locals := 14 } : Room) s m #[(.int p1), (.int p2)] below meth c s₁ [] 0 0 := Stand.of_body Bd
  have e0 : s₁.heap = h0 := by rw [← hh, Bd.state]; rfl
  have N0 := Fr.nil n0
  obtain ⟨S0, hS0⟩ : ∃ z, z = s₁.setTop (entryFrame m #[(.int p1), (.int p2)] 2) := ⟨_, rfl⟩
  have P0 : own_Pr p.tables e below S0 s₁ (mkF m 0 #[.val (.int p1), .val (.int p2)] []) := fun t k => hS0 ▸ castTop (ef_18 m p1 p2) k
  have P21 : own_Pr p.tables e below S0 s₁ (mkF m 2 #[.val (.int p1), .val (.int p2)] [(.int p2), (.int p1)]) := fun t k => P0 t (by
    refine XS.iloadN X0.here hx rfl (hb hby d18_0) rfl ?_
    refine XS.iloadN X0.here hx rfl (hb hby d18_1) rfl ?_
    exact k)
  obtain ⟨T22, X22, e22, st22⟩ := getS2 X0 hx hZ hown (host := "") (Or.inl (hw _ (List.mem_of_getElem? (i := 80) rfl))) Via.refl e0 FM (g := (mkF m 2 #[.val (.int p1), .val (.int p2)] [(.int p2), (.int p1)])) rfl (hb hby d18_2)
  have P23 : own_Pr p.tables e below S0 T22 (mkF m 5 #[.val (.int p1), .val (.int p2)] [fm, (.int p2), (.int p1)]) := fun t k => P21 t (st22 _ k)
  obtain ⟨_, _, ⟨T24, L24, k24, n24⟩, -, X24, ⟨Lc24, hQ24, l24, y24, z24⟩, st24⟩ := Jvm.LawKit.callS X22 hx (y := (⟨"jdk/internal/util/Preconditions", "checkIndex", "(IILjava/util/function/BiFunction;)I"⟩ : MethodName)) hown (mvT hZ (hw _ (List.mem_of_getElem? (i := 82) rfl))) (mvT hZ (hw _ (List.mem_of_getElem? (i := 83) rfl))) (mvT hZ (hw _ (List.mem_of_getElem? (i := 81) rfl))) (mvT hZ (hw _ (List.mem_of_getElem? (i := 84) rfl))) (by decide) (backOf (W := 0) (rm19 l Z a0 hw [] p1 p2 fm h0 n0 Z0 hr_fm h1 h2) hZ (hw _ (List.mem_of_getElem? (i := 84) rfl)) (hw _ (List.mem_of_getElem? (i := 81) rfl)) (by decide) (by decide)) (g := (mkF m 5 #[.val (.int p1), .val (.int p2)] [fm, (.int p2), (.int p1)])) rfl (by rw [hml]; rfl) (argsL := [(.int p1), (.int p2), fm]) (rest := []) (lenOf pd_1 rfl) rfl (by show 2 * 0 + _ ≤ _; exact Nat.le_of_eq rfl) (hb hby d18_5) (fun _ _ => ⟨rfl, e22, (by decide : 0 + 0 ≤ _), (by decide : 0 + 0 ≤ _)⟩)
  dsimp only [Pt.U, Pt.locs, Pt.cells, Pt.slots] at X24 l24 y24 z24 st24 hQ24
  rw [l24, y24, z24] at X24
  have X24 := X24.mono (cells' := 0) (slots' := 0) (by decide) (by decide)
  obtain ⟨z24v, rfl, hz24v, Nq24, eq24⟩ := hQ24
  have N24n := Fr.app N0 Nq24
  have P25 : own_Pr p.tables e below S0 T24 (mkF m 8 #[.val (.int p1), .val (.int p2)] [(.int z24v)]) := fun t k => P23 t (st24 _ k)
  have P26 : own_Pr p.tables e below S0 T24 (mkF m 9 #[.val (.int p1), .val (.int p2)] []) := fun t k => P25 t (by
    refine XS.pop X24.here hx rfl (hb hby d18_8) rfl rfl ?_
    exact k)
  obtain ⟨fs, hr, hrun, hended, hW, hsame⟩ := X24.leave (v := none) (fun _ => rfl)
  have fin : Steps p.tables e below S0 (T24.setFrames fs) := P26 _ (X24.returnOut hx Bd.returns (hb hby d18_9) hr)
  rw [hS0] at fin
  refine ⟨_, _, fin, hrun, hended, _, _, rfl, ?_, ⟨_, rfl⟩, hW, hsame.mono (by decide) (by decide)⟩
  show own_QV h0 n0 _ T24.heap _
  rw [eq24]
  exact ⟨rfl, N24n, rfl⟩
theorem d17_0 : decode jdk_43_method_2_code 0 = .ok (.iload_n 1, 1) := by decide +kernel
theorem d17_1 : decode jdk_43_method_2_code 1 = .ok (.aload_n 0, 1) := by decide +kernel
theorem d17_2 : decode jdk_43_method_2_code 2 = .ok (.arraylength, 1) := by decide +kernel
theorem d17_3 : decode jdk_43_method_2_code 3 = .ok (.invokestatic 9, 3) := by decide +kernel
theorem d17_6 : decode jdk_43_method_2_code 6 = .ok (.aload_n 0, 1) := by decide +kernel
theorem d17_7 : decode jdk_43_method_2_code 7 = .ok (.iload_n 1, 1) := by decide +kernel
theorem d17_8 : decode jdk_43_method_2_code 8 = .ok (.baload, 1) := by decide +kernel
theorem d17_9 : decode jdk_43_method_2_code 9 = .ok (.sipush 255, 3) := by decide +kernel
theorem d17_12 : decode jdk_43_method_2_code 12 = .ok (.iand, 1) := by decide +kernel
theorem d17_13 : decode jdk_43_method_2_code 13 = .ok (.i2c, 1) := by decide +kernel
theorem d17_14 : decode jdk_43_method_2_code 14 = .ok (.ireturn, 1) := by decide +kernel
theorem pn_17 : plainName "java/lang/StringLatin1" = true := by first | (simp [plainName, overriddenIn]; done) | decide +kernel
theorem pd_2 : parseMethodDescriptor "(II)V" = some ⟨[.int, .int], none⟩ := by decide +kernel
theorem ef_17 (m : MethodId) (a1 : Addr) (p2 : Int32) : entryFrame m #[(.ref a1), (.int p2)] 2 = mkF m 0 #[.val (.ref a1), .val (.int p2)] [] := by first | (simp [entryFrame, mkF, argsToLocals, Value.category]; done) | rfl
set_option maxRecDepth 65536 in
set_option maxHeartbeats 40000000 in
theorem rm17 (l : Launch) (Z : State) (a0 : Array Value) (hw : ∀ d ∈ tables_1, d.before a0 Z = true) (ws : List Jvm.Cond) (a1 : Addr) (p2 : Int32) (n : Int32) (xs : List Int32) (kb : ClassId) (fm : Value) (h0 : Heap) (n0 : Nat) (Z0 : n0 ≤ h0.size) (Av : Arv Z h0 a1 kb .byte n (xs.map Value.int) (.int 0)) (FM : Sta Z h0 "jdk/internal/util/Preconditions" "SIOOBE_FORMATTER" "Ljava/util/function/BiFunction;" fm) (hr_fm : fm.isRef = true) (h1 : ¬ p2 < (0 : Int32)) (h2 : p2 < n) :
    MetFree l (⟨"java/lang/StringLatin1", "charAt", "([BI)C"⟩ : MethodName) (head1 (Jvm.Cond.code (⟨"java/lang/StringLatin1", "charAt", "([BI)C"⟩ : MethodName) jdk_43_method_2_code 2 (some .char) :: ws) ({ frames := 2, cells := 0, slots := 0, locals := 27 } : Room)) (fun a U => a = #[(.ref a1), (.int p2)] ∧ Z.Warmed39 U.vm ∧ U.heap = h0) (fun _ _ _ _ _ => True) (fun _ U o U' => ∃ v L, o = .returned v ∧ own_QI h0 n0 ((xs.getD p2.toNatClampNeg 0) &&& 255) v U'.heap L ∧ FrameEnd U o U' L ({ frames := 2, cells := 0, slots := 0, locals := 27 } : Room).cells ({ frames := 2, cells := 0, slots := 0, locals := 27 } : Room).slots) := by
  refine MetFree.of_bodySF (plainFor_of_name pn_17) hisR ?_
  intro p e s m args below meth c s₁ Bd hml0 hP hK
  obtain ⟨rfl, hZ, hh⟩ := hP
  have hx := Bd.exec
  have hby := Bd.bytes
  have hml : c.maxLocals = 2 := hml0
  have hown : s.vm.findClass "java/lang/StringLatin1" = some m.cls := findClass_of_methodNamed Bd.named
  have hnm := (name_of_methodNamed Bd.named Bd.method).1
  have X0 : Stand p l e ({ frames := 2, cells := 0, slots := 0, locals := 27 } : Room) s m #[(.ref a1), (.int p2)] below meth c s₁ [] 0 0 := Stand.of_body Bd
  have e0 : s₁.heap = h0 := by rw [← hh, Bd.state]; rfl
  have N0 := Fr.nil n0
  obtain ⟨S0, hS0⟩ : ∃ z, z = s₁.setTop (entryFrame m #[(.ref a1), (.int p2)] 2) := ⟨_, rfl⟩
  have P0 : own_Pr p.tables e below S0 s₁ (mkF m 0 #[.val (.ref a1), .val (.int p2)] []) := fun t k => hS0 ▸ castTop (ef_17 m a1 p2) k
  obtain ⟨cl, Tc, At⟩ := own_tab Av
  have P21 : own_Pr p.tables e below S0 s₁ (mkF m 3 #[.val (.ref a1), .val (.int p2)] [(.int n), (.int p2)]) := fun t k => P0 t (by
    refine XS.iloadN X0.here hx rfl (hb hby d17_0) rfl ?_
    refine XS.aloadN X0.here hx rfl (hb hby d17_1) rfl rfl ?_
    refine X0.arraylength hx (by rw [e0]; exact Tc.1.1) (State.isArrayOf_alike hZ.alike Tc.1.2.1) (g := (mkF m 2 #[.val (.ref a1), .val (.int p2)] [(.ref a1), (.int p2)])) rfl rfl (hb hby d17_2) _ ?_
    rw [len_of Tc.2.1 Tc.2.2.1]
    show Steps p.tables e below (s₁.setTop (mkF m 3 #[.val (.ref a1), .val (.int p2)] [(.int n), (.int p2)])) _
    exact k)
  obtain ⟨_, _, ⟨T22, L22, k22, n22⟩, -, X22, ⟨Lc22, hQ22, l22, y22, z22⟩, st22⟩ := Jvm.LawKit.callS X0 hx (y := (⟨"java/lang/String", "checkIndex", "(II)V"⟩ : MethodName)) hown (mvT hZ (hw _ (List.mem_of_getElem? (i := 77) rfl))) (mvT hZ (hw _ (List.mem_of_getElem? (i := 78) rfl))) (mvT hZ (hw _ (List.mem_of_getElem? (i := 15) rfl))) (mvT hZ (hw _ (List.mem_of_getElem? (i := 79) rfl))) (by decide) (backOf (W := 0) (rm18 l Z a0 hw [] p2 n fm h0 n0 Z0 FM hr_fm h1 h2) hZ (hw _ (List.mem_of_getElem? (i := 79) rfl)) (hw _ (List.mem_of_getElem? (i := 15) rfl)) (by decide) (by decide)) (g := (mkF m 3 #[.val (.ref a1), .val (.int p2)] [(.int n), (.int p2)])) rfl (by rw [hml]; rfl) (argsL := [(.int p2), (.int n)]) (rest := []) (lenOf pd_2 rfl) rfl (by show 2 * 0 + _ ≤ _; exact Nat.le_of_eq rfl) (hb hby d17_3) (fun _ _ => ⟨rfl, e0, (by decide : 0 + 0 ≤ _), (by decide : 0 + 0 ≤ _)⟩)
  dsimp only [Pt.U, Pt.locs, Pt.cells, Pt.slots] at X22 l22 y22 z22 st22 hQ22
  rw [l22, y22, z22] at X22
  have X22 := X22.mono (cells' := 0) (slots' := 0) (by decide) (by decide)
  obtain ⟨rfl, Nq22, eq22⟩ := hQ22
  have N22n := Fr.app N0 Nq22
  have P23 : own_Pr p.tables e below S0 T22 (mkF m 6 #[.val (.ref a1), .val (.int p2)] []) := fun t k => P21 t (st22 _ k)
  have hin8_24 : ¬ (p2 < 0 ∨ cl.slots.size ≤ (p2).toNatClampNeg) := inb_of Tc.2.1 ⟨h1, h2⟩
  have P25 : own_Pr p.tables e below S0 T22 (mkF m 14 #[.val (.ref a1), .val (.int p2)] [(.int (((atv cl p2) &&& (255 : Int32)).toUInt32.toUInt16.toUInt32.toInt32))]) := fun t k => P23 t (by
    refine XS.aloadN X22.here hx rfl (hb hby d17_6) rfl rfl ?_
    refine XS.iloadN X22.here hx rfl (hb hby d17_7) rfl ?_
    refine X22.baloadBytes hx (j := p2) (v := .int (atv cl p2)) (by rw [eq22]; exact Tc.1.1) (State.isArrayOf_alike hZ.alike Tc.1.2.1) Tc.1.2.2 hin8_24 (Tc.2.2.2 _ hin8_24) (g := (mkF m 8 #[.val (.ref a1), .val (.int p2)] [(.int p2), (.ref a1)])) rfl rfl (hb hby d17_8) _ ?_
    refine XS.sipush X22.here hx rfl (hb hby d17_9) ?_
    refine XS.iand X22.here hx rfl (hb hby d17_12) rfl ?_
    refine XS.i2c X22.here hx rfl (hb hby d17_13) rfl ?_
    exact k)
  obtain ⟨fs, hr, hrun, hended, hW, hsame⟩ := X22.leave (v := some (.int (((atv cl p2) &&& (255 : Int32)).toUInt32.toUInt16.toUInt32.toInt32))) (fun h => by rw [Bd.returns] at h; cases h)
  have fin : Steps p.tables e below S0 (T22.setFrames fs) := P25 _ (retN X22 hx (t := .char) Bd.returns (by simp) (hb hby d17_14) (by rw [(own_narC _)]; exact hr))
  rw [hS0] at fin
  refine ⟨_, _, fin, hrun, hended, _, _, rfl, ?_, ⟨_, rfl⟩, hW, hsame.mono (by decide) (by decide)⟩
  show own_QI h0 n0 ((xs.getD p2.toNatClampNeg 0) &&& 255) _ T22.heap _
  rw [eq22]
  exact ⟨_, rfl, (by rw [i2c_mask, At _ h1 h2]), N22n, rfl⟩
theorem d15_0 : decode jdk_42_method_56_code 0 = .ok (.aload_n 0, 1) := by decide +kernel
theorem d15_1 : decode jdk_42_method_56_code 1 = .ok (.invokevirtual 492, 3) := by decide +kernel
theorem d15_4 : decode jdk_42_method_56_code 4 = .ok (.ifCond .eq 12, 3) := by decide +kernel
theorem d15_7 : decode jdk_42_method_56_code 7 = .ok (.aload_n 0, 1) := by decide +kernel
theorem d15_8 : decode jdk_42_method_56_code 8 = .ok (.getfield 9, 3) := by decide +kernel
theorem d15_11 : decode jdk_42_method_56_code 11 = .ok (.iload_n 1, 1) := by decide +kernel
theorem d15_12 : decode jdk_42_method_56_code 12 = .ok (.invokestatic 495, 3) := by decide +kernel
theorem d15_15 : decode jdk_42_method_56_code 15 = .ok (.ireturn, 1) := by decide +kernel
theorem pd_3 : parseMethodDescriptor "()Z" = some ⟨[], some .boolean⟩ := by decide +kernel
theorem pd_4 : parseMethodDescriptor "([BI)C" = some ⟨[(.array .byte), .int], some .char⟩ := by decide +kernel
theorem ef_15 (m : MethodId) (a1 : Addr) (p2 : Int32) : entryFrame m #[(.ref a1), (.int p2)] 2 = mkF m 0 #[.val (.ref a1), .val (.int p2)] [] := by first | (simp [entryFrame, mkF, argsToLocals, Value.category]; done) | rfl
set_option maxRecDepth 65536 in
set_option maxHeartbeats 40000000 in
theorem rm15 (l : Launch) (Z : State) (a0 : Array Value) (hw : ∀ d ∈ tables_1, d.before a0 Z = true) (ws : List Jvm.Cond) (a1 : Addr) (p2 : Int32) (n : Int32) (xs : List Int32) (cs : Int32) (fm : Value) (h0 : Heap) (n0 : Nat) (Z0 : n0 ≤ h0.size) (Sa : own_Sc Z h0 a1 n xs) (CS : Sta Z h0 "java/lang/String" "COMPACT_STRINGS" "Z" (.int cs)) (hcs : ¬ cs = (0 : Int32)) (FM : Sta Z h0 "jdk/internal/util/Preconditions" "SIOOBE_FORMATTER" "Ljava/util/function/BiFunction;" fm) (hr_fm : fm.isRef = true) (h1 : ¬ p2 < (0 : Int32)) (h2 : p2 < n) :
    MetFree l (⟨"java/lang/String", "charAt", "(I)C"⟩ : MethodName) (head1 (Jvm.Cond.code (⟨"java/lang/String", "charAt", "(I)C"⟩ : MethodName) jdk_42_method_56_code 2 (some .char) :: ws) ({ frames := 3, cells := 0, slots := 0, locals := 40 } : Room)) (fun a U => a = #[(.ref a1), (.int p2)] ∧ Z.Warmed39 U.vm ∧ U.heap = h0) (fun _ _ _ _ _ => True) (fun _ U o U' => ∃ v L, o = .returned v ∧ own_QI h0 n0 ((xs.getD p2.toNatClampNeg 0) &&& 255) v U'.heap L ∧ FrameEnd U o U' L ({ frames := 3, cells := 0, slots := 0, locals := 40 } : Room).cells ({ frames := 3, cells := 0, slots := 0, locals := 40 } : Room).slots) := by
  refine MetFree.of_bodySF (plainFor_of_name pn_14) hisR ?_
  intro p e s m args below meth c s₁ Bd hml0 hP hK
  obtain ⟨rfl, hZ, hh⟩ := hP
  have hx := Bd.exec
  have hby := Bd.bytes
  have hml : c.maxLocals = 2 := hml0
  have hown : s.vm.findClass "java/lang/String" = some m.cls := findClass_of_methodNamed Bd.named
  have hnm := (name_of_methodNamed Bd.named Bd.method).1
  have X0 : Stand p l e ({ frames := 3, cells := 0, slots := 0, locals := 40 } : Room) s m #[(.ref a1), (.int p2)] below meth c s₁ [] 0 0 := Stand.of_body Bd
  have e0 : s₁.heap = h0 := by rw [← hh, Bd.state]; rfl
  have N0 := Fr.nil n0
  obtain ⟨S0, hS0⟩ : ∃ z, z = s₁.setTop (entryFrame m #[(.ref a1), (.int p2)] 2) := ⟨_, rfl⟩
  have P0 : own_Pr p.tables e below S0 s₁ (mkF m 0 #[.val (.ref a1), .val (.int p2)] []) := fun t k => hS0 ▸ castTop (ef_15 m a1 p2) k
  obtain ⟨vb, kb, Es, Fc, Fv, Av⟩ := Sa
  have P21 : own_Pr p.tables e below S0 s₁ (mkF m 1 #[.val (.ref a1), .val (.int p2)] [(.ref a1)]) := fun t k => P0 t (by
    refine XS.aloadN X0.here hx rfl (hb hby d15_0) rfl rfl ?_
    exact k)
  obtain ⟨cq22, kq22, q22a, q22b, q22c⟩ := isOf hZ e0 Es
  obtain ⟨_, _, ⟨T22, L22, k22, n22⟩, -, X22, ⟨Lc22, hQ22, l22, y22, z22⟩, st22⟩ := X0.virtualBack hx (y := (⟨"java/lang/String", "isLatin1", "()Z"⟩ : MethodName)) (z := (⟨"java/lang/String", "isLatin1", "()Z"⟩ : MethodName)) hown (mvT hZ (hw _ (List.mem_of_getElem? (i := 68) rfl))) (mvT hZ (hw _ (List.mem_of_getElem? (i := 69) rfl))) (notFace_of_selects (args := #[]) (mvT hZ (hw _ (List.mem_of_getElem? (i := 71) rfl)))) (mvT hZ (hw _ (List.mem_of_getElem? (i := 71) rfl))) (mvT hZ (hw _ (List.mem_of_getElem? (i := 70) rfl))) (by decide) (backOf (W := 0) (rm16 l Z a0 hw [] a1 cs h0 n0 Z0 Fc CS hcs) hZ (hw _ (List.mem_of_getElem? (i := 72) rfl)) (hw _ (List.mem_of_getElem? (i := 15) rfl)) (by decide) (by decide)) q22a q22c (g := (mkF m 1 #[.val (.ref a1), .val (.int p2)] [(.ref a1)])) rfl (by rw [hml]; rfl) (Steps.refl _) (argsL := []) (rest := []) (lenOf pd_3 rfl) rfl (by show 2 * 0 + _ ≤ _; exact Nat.le_of_eq rfl) (hb hby d15_1) (fun _ _ => ⟨rfl, e0, (by decide : 0 + 0 ≤ _), (by decide : 0 + 0 ≤ _)⟩)
  dsimp only [Pt.U, Pt.locs, Pt.cells, Pt.slots] at X22 l22 y22 z22 st22 hQ22
  rw [l22, y22, z22] at X22
  have X22 := X22.mono (cells' := 0) (slots' := 0) (by decide) (by decide)
  obtain ⟨z22v, rfl, hz22v, Nq22, eq22⟩ := hQ22
  have N22n := Fr.app N0 Nq22
  have hy22 := hz22v.symm; subst hy22
  have P23 : own_Pr p.tables e below S0 T22 (mkF m 4 #[.val (.ref a1), .val (.int p2)] [(.int (1 : Int32))]) := fun t k => P21 t (st22.trans k)
  have P24 : own_Pr p.tables e below S0 T22 (mkF m 8 #[.val (.ref a1), .val (.int p2)] [(.ref a1)]) := fun t k => P23 t (by
    refine XS.ifNo X22.here hx rfl (hb hby d15_4) rfl (by decide) ?_
    refine XS.aloadN X22.here hx rfl (hb hby d15_7) rfl rfl ?_
    exact k)
  obtain ⟨T25, X25, e25, st25⟩ := getF X22 hx hZ hown (host := "") (Or.inl (hw _ (List.mem_of_getElem? (i := 40) rfl))) Via.refl eq22 Fv (g := (mkF m 8 #[.val (.ref a1), .val (.int p2)] [(.ref a1)])) rfl rfl (hb hby d15_8)
  have P26 : own_Pr p.tables e below S0 T25 (mkF m 11 #[.val (.ref a1), .val (.int p2)] [(.ref vb)]) := fun t k => P24 t (st25 _ k)
  have P27 : own_Pr p.tables e below S0 T25 (mkF m 12 #[.val (.ref a1), .val (.int p2)] [(.int p2), (.ref vb)]) := fun t k => P26 t (by
    refine XS.iloadN X25.here hx rfl (hb hby d15_11) rfl ?_
    exact k)
  obtain ⟨_, _, ⟨T28, L28, k28, n28⟩, -, X28, ⟨Lc28, hQ28, l28, y28, z28⟩, st28⟩ := Jvm.LawKit.callS X25 hx (y := (⟨"java/lang/StringLatin1", "charAt", "([BI)C"⟩ : MethodName)) hown (mvT hZ (hw _ (List.mem_of_getElem? (i := 73) rfl))) (mvT hZ (hw _ (List.mem_of_getElem? (i := 74) rfl))) (mvT hZ (hw _ (List.mem_of_getElem? (i := 75) rfl))) (mvT hZ (hw _ (List.mem_of_getElem? (i := 76) rfl))) (by decide) (backOf (W := 0) (rm17 l Z a0 hw [] vb p2 n xs kb fm h0 n0 Z0 Av FM hr_fm h1 h2) hZ (hw _ (List.mem_of_getElem? (i := 76) rfl)) (hw _ (List.mem_of_getElem? (i := 75) rfl)) (by decide) (by decide)) (g := (mkF m 12 #[.val (.ref a1), .val (.int p2)] [(.int p2), (.ref vb)])) rfl (by rw [hml]; rfl) (argsL := [(.ref vb), (.int p2)]) (rest := []) (lenOf pd_4 rfl) rfl (by show 2 * 0 + _ ≤ _; exact Nat.le_of_eq rfl) (hb hby d15_12) (fun _ _ => ⟨rfl, e25, (by decide : 0 + 0 ≤ _), (by decide : 0 + 0 ≤ _)⟩)
  dsimp only [Pt.U, Pt.locs, Pt.cells, Pt.slots] at X28 l28 y28 z28 st28 hQ28
  rw [l28, y28, z28] at X28
  have X28 := X28.mono (cells' := 0) (slots' := 0) (by decide) (by decide)
  obtain ⟨z28v, rfl, hz28v, Nq28, eq28⟩ := hQ28
  have N28n := Fr.app N22n Nq28
  have P29 : own_Pr p.tables e below S0 T28 (mkF m 15 #[.val (.ref a1), .val (.int p2)] [(.int z28v)]) := fun t k => P27 t (st28 _ k)
  obtain ⟨fs, hr, hrun, hended, hW, hsame⟩ := X28.leave (v := some (.int z28v)) (fun h => by rw [Bd.returns] at h; cases h)
  have fin : Steps p.tables e below S0 (T28.setFrames fs) := P29 _ (retN X28 hx (t := .char) Bd.returns (by simp) (hb hby d15_15) (by rw [(by rw [hz28v]; exact own_nar255 _ : nar .char z28v = z28v)]; exact hr))
  rw [hS0] at fin
  refine ⟨_, _, fin, hrun, hended, _, _, rfl, ?_, ⟨_, rfl⟩, hW, hsame.mono (by decide) (by decide)⟩
  show own_QI h0 n0 ((xs.getD p2.toNatClampNeg 0) &&& 255) _ T28.heap _
  rw [eq28]
  exact ⟨_, rfl, hz28v, N28n, rfl⟩
def own_QB (Z : State) (a : Addr) (kk : ClassId) (n : Int32) (xs : List Int32) (h0 : Heap) (n0 : Nat) (v : Option Value) (h : Heap) (L : List Loc) : Prop := v = some (.int n) ∧ Fr n0 L ∧ Keep h0 h [a] ∧ Arv Z h a kk .byte n (xs.map Value.int) (.int 0)
def own_QA (Z : State) (n : Int32) (xs : List Int32) (h0 : Heap) (n0 : Nat) (v : Option Value) (h : Heap) (L : List Loc) : Prop := ∃ (b : Addr) (kk : ClassId), v = some (.ref b) ∧ Fr n0 L ∧ Keep h0 h [] ∧ h0.size ≤ b ∧ Arv Z h b kk .byte n (xs.map Value.int) (.int 0)
/-- what new String(char[]) leaves -/
def own_QC (Z : State) (a : Addr) (n : Int32) (xs : List Int32) (h0 : Heap) (n0 : Nat) (v : Option Value) (h : Heap) (L : List Loc) : Prop := v = none ∧ Fr n0 L ∧ Keep h0 h [a] ∧ ∃ (b : Addr) (k : ClassId), h0.size ≤ b ∧ Exa Z h a "java/lang/String" ∧ Fld Z h a "java/lang/String" "coder" "B" (.int 0) ∧ Fld Z h a "java/lang/String" "value" "[B" (.ref b) ∧ Arv Z h b k .byte n (xs.map Value.int) (.int 0)
theorem own_clen (n : Int32) : ((((n - n).toUInt32 >>> ((31 : Int32) &&& 31).toUInt32).toInt32).toInt8.toInt32) = 0 := by
  have e : n - n = 0 := by simp
  rw [e]; decide
theorem d8_0 : decode jdk_52_method_21_code 0 = .ok (.iconst 0, 1) := by decide +kernel
theorem d8_1 : decode jdk_52_method_21_code 1 = .ok (.istore 5, 2) := by decide +kernel
theorem d8_3 : decode jdk_52_method_21_code 3 = .ok (.iload 5, 2) := by decide +kernel
theorem d8_5 : decode jdk_52_method_21_code 5 = .ok (.iload 4, 2) := by decide +kernel
theorem d8_7 : decode jdk_52_method_21_code 7 = .ok (.if_icmp .ge 37, 3) := by decide +kernel
theorem d8_10 : decode jdk_52_method_21_code 10 = .ok (.aload_n 0, 1) := by decide +kernel
theorem d8_11 : decode jdk_52_method_21_code 11 = .ok (.iload_n 1, 1) := by decide +kernel
theorem d8_12 : decode jdk_52_method_21_code 12 = .ok (.caload, 1) := by decide +kernel
theorem d8_13 : decode jdk_52_method_21_code 13 = .ok (.istore 6, 2) := by decide +kernel
theorem d8_15 : decode jdk_52_method_21_code 15 = .ok (.iload 6, 2) := by decide +kernel
theorem d8_17 : decode jdk_52_method_21_code 17 = .ok (.sipush 255, 3) := by decide +kernel
theorem d8_20 : decode jdk_52_method_21_code 20 = .ok (.if_icmp .le 6, 3) := by decide +kernel
theorem d8_26 : decode jdk_52_method_21_code 26 = .ok (.aload_n 2, 1) := by decide +kernel
theorem d8_27 : decode jdk_52_method_21_code 27 = .ok (.iload_n 3, 1) := by decide +kernel
theorem d8_28 : decode jdk_52_method_21_code 28 = .ok (.iload 6, 2) := by decide +kernel
theorem d8_30 : decode jdk_52_method_21_code 30 = .ok (.i2b, 1) := by decide +kernel
theorem d8_31 : decode jdk_52_method_21_code 31 = .ok (.bastore, 1) := by decide +kernel
theorem d8_32 : decode jdk_52_method_21_code 32 = .ok (.iinc 1 1, 3) := by decide +kernel
theorem d8_35 : decode jdk_52_method_21_code 35 = .ok (.iinc 3 1, 3) := by decide +kernel
theorem d8_38 : decode jdk_52_method_21_code 38 = .ok (.iinc 5 1, 3) := by decide +kernel
theorem d8_41 : decode jdk_52_method_21_code 41 = .ok (.goto (-38), 3) := by decide +kernel
theorem d8_44 : decode jdk_52_method_21_code 44 = .ok (.iload 4, 2) := by decide +kernel
theorem d8_46 : decode jdk_52_method_21_code 46 = .ok (.ireturn, 1) := by decide +kernel
theorem pn_8 : plainName "java/lang/StringUTF16" = true := by first | (simp [plainName, overriddenIn]; done) | decide +kernel
theorem ef_8_8 (m : MethodId) (a1 : Addr) (a3 : Addr) : entryFrame m #[(.ref a1), (.int (0 : Int32)), (.ref a3), (.int (0 : Int32)), (.int (8 : Int32))] 7 = mkF m 0 #[.val (.ref a1), .val (.int (0 : Int32)), .val (.ref a3), .val (.int (0 : Int32)), .val (.int (8 : Int32)), .unset, .unset] [] := by first | (simp [entryFrame, mkF, argsToLocals, Value.category]; done) | rfl
set_option maxRecDepth 65536 in
set_option maxHeartbeats 40000000 in
theorem rm8_8 (l : Launch) (Z : State) (a0 : Array Value) (hw : ∀ d ∈ tables_1, d.before a0 Z = true) (ws : List Jvm.Cond) (a1 : Addr) (a3 : Addr) (k1 k3 : ClassId) (u0 u1 u2 u3 u4 u5 u6 u7 : Int32) (h0 : Heap) (n0 : Nat) (Z0 : n0 ≤ h0.size) (V1 : Arv Z h0 a1 k1 .char 8 [(.int u0), (.int u1), (.int u2), (.int u3), (.int u4), (.int u5), (.int u6), (.int u7)] (.int (0 : Int32))) (V3 : Arv Z h0 a3 k3 .byte 8 [(.int (0 : Int32)), (.int (0 : Int32)), (.int (0 : Int32)), (.int (0 : Int32)), (.int (0 : Int32)), (.int (0 : Int32)), (.int (0 : Int32)), (.int (0 : Int32))] (.int (0 : Int32))) (g_a3 : n0 ≤ a3) (ne13 : a1 ≠ a3) (hl0 : ¬ ((255 : Int32) < u0)) (hl1 : ¬ ((255 : Int32) < u1)) (hl2 : ¬ ((255 : Int32) < u2)) (hl3 : ¬ ((255 : Int32) < u3)) (hl4 : ¬ ((255 : Int32) < u4)) (hl5 : ¬ ((255 : Int32) < u5)) (hl6 : ¬ ((255 : Int32) < u6)) (hl7 : ¬ ((255 : Int32) < u7)) :
    MetFree l (⟨"java/lang/StringUTF16", "compress", "([CI[BII)I"⟩ : MethodName) (head1 (Jvm.Cond.code (⟨"java/lang/StringUTF16", "compress", "([CI[BII)I"⟩ : MethodName) jdk_52_method_21_code 7 (some .int) :: ws) ({ frames := 0, cells := 0, slots := 0, locals := 0 } : Room)) (fun a U => a = #[(.ref a1), (.int (0 : Int32)), (.ref a3), (.int (0 : Int32)), (.int (8 : Int32))] ∧ Z.Warmed39 U.vm ∧ U.heap = h0) (fun _ _ _ _ _ => True) (fun _ U o U' => ∃ v L, o = .returned v ∧ own_QB Z a3 k3 8 [nar .byte (u0.toInt8.toInt32), nar .byte (u1.toInt8.toInt32), nar .byte (u2.toInt8.toInt32), nar .byte (u3.toInt8.toInt32), nar .byte (u4.toInt8.toInt32), nar .byte (u5.toInt8.toInt32), nar .byte (u6.toInt8.toInt32), nar .byte (u7.toInt8.toInt32)] h0 n0 v U'.heap L ∧ FrameEnd U o U' L ({ frames := 0, cells := 0, slots := 0, locals := 0 } : Room).cells ({ frames := 0, cells := 0, slots := 0, locals := 0 } : Room).slots) := by
  refine MetFree.of_bodySF (plainFor_of_name pn_8) hisR ?_
  intro p e s m args below meth c s₁ Bd hml0 hP hK
  obtain ⟨rfl, hZ, hh⟩ := hP
  have hx := Bd.exec
  have hby := Bd.bytes
  have hml : c.maxLocals = 7 := hml0
  have hown : s.vm.findClass "java/lang/StringUTF16" = some m.cls := findClass_of_methodNamed Bd.named
  have hnm := (name_of_methodNamed Bd.named Bd.method).1
  have X0 : Stand p l e ({ frames := 0, cells := 0, slots := 0, locals := 0 } : Room) s m #[(.ref a1), (.int (0 : Int32)), (.ref a3), (.int (0 : Int32)), (.int (8 : Int32))] below meth c s₁ [] 0 0 := Stand.of_body Bd
  have e0 : s₁.heap = h0 := by rw [← hh, Bd.state]; rfl
  have N0 := Fr.nil n0
  obtain ⟨S0, hS0⟩ : ∃ z, z = s₁.setTop (entryFrame m #[(.ref a1), (.int (0 : Int32)), (.ref a3), (.int (0 : Int32)), (.int (8 : Int32))] 7) := ⟨_, rfl⟩
  have P0 : own_Pr p.tables e below S0 s₁ (mkF m 0 #[.val (.ref a1), .val (.int (0 : Int32)), .val (.ref a3), .val (.int (0 : Int32)), .val (.int (8 : Int32)), .unset, .unset] []) := fun t k => hS0 ▸ castTop (ef_8_8 m a1 a3) k
  have K0 := Keep.refl h0 [a3]
  have P21 : own_Pr p.tables e below S0 s₁ (mkF m 12 #[.val (.ref a1), .val (.int (0 : Int32)), .val (.ref a3), .val (.int (0 : Int32)), .val (.int (8 : Int32)), .val (.int (0 : Int32)), .unset] [(.int (0 : Int32)), (.ref a1)]) := fun t k => P0 t (by
    refine XS.iconst X0.here hx rfl (hb hby d8_0) ?_
    refine XS.istore X0.here hx rfl (hb hby d8_1) rfl (l' := #[.val (.ref a1), .val (.int (0 : Int32)), .val (.ref a3), .val (.int (0 : Int32)), .val (.int (8 : Int32)), .val (.int (0 : Int32)), .unset]) rfl ?_
    refine XS.iload X0.here hx rfl (hb hby d8_3) rfl ?_
    refine XS.iload X0.here hx rfl (hb hby d8_5) rfl ?_
    refine XS.icmpNo X0.here hx rfl (hb hby d8_7) rfl (by decide) ?_
    refine XS.aloadN X0.here hx rfl (hb hby d8_10) rfl rfl ?_
    refine XS.iloadN X0.here hx rfl (hb hby d8_11) rfl ?_
    exact k)
  obtain ⟨cl22, Ar22, q22, S22, N22, H22, G22⟩ := id V1
  have hin22 : ¬ ((0 : Int32) < 0 ∨ cl22.slots.size ≤ ((0 : Int32)).toNatClampNeg) := inb_of S22 ⟨by decide, by decide⟩
  have P23 : own_Pr p.tables e below S0 s₁ (mkF m 31 #[.val (.ref a1), .val (.int (0 : Int32)), .val (.ref a3), .val (.int (0 : Int32)), .val (.int (8 : Int32)), .val (.int (0 : Int32)), .val (.int u0)] [(.int (u0.toInt8.toInt32)), (.int (0 : Int32)), (.ref a3)]) := fun t k => P21 t (by
    refine X0.caload hx (j := (0 : Int32)) (v := (.int u0)) (by rw [e0]; exact Ar22.1) (State.isArrayOf_alike hZ.alike Ar22.2.1) Ar22.2.2 hin22 (H22.at hin22 rfl) (g := (mkF m 12 #[.val (.ref a1), .val (.int (0 : Int32)), .val (.ref a3), .val (.int (0 : Int32)), .val (.int (8 : Int32)), .val (.int (0 : Int32)), .unset] [(.int (0 : Int32)), (.ref a1)])) rfl rfl (hb hby d8_12) _ ?_
    refine XS.istore X0.here hx rfl (hb hby d8_13) rfl (l' := #[.val (.ref a1), .val (.int (0 : Int32)), .val (.ref a3), .val (.int (0 : Int32)), .val (.int (8 : Int32)), .val (.int (0 : Int32)), .val (.int u0)]) rfl ?_
    refine XS.iload X0.here hx rfl (hb hby d8_15) rfl ?_
    refine XS.sipush X0.here hx rfl (hb hby d8_17) ?_
    refine XS.icmpYes X0.here hx rfl (pc0 := 20) (pc' := 26) rfl (hb hby d8_20) rfl (XT.ii_le_t hl0) (by decide) (by decide) ?_
    refine XS.aloadN X0.here hx rfl (hb hby d8_26) rfl rfl ?_
    refine XS.iloadN X0.here hx rfl (hb hby d8_27) rfl ?_
    refine XS.iload X0.here hx rfl (hb hby d8_28) rfl ?_
    show Steps p.tables e below (s₁.setTop (mkF m 30 #[.val (.ref a1), .val (.int (0 : Int32)), .val (.ref a3), .val (.int (0 : Int32)), .val (.int (8 : Int32)), .val (.int (0 : Int32)), .val (.int u0)] [(.int u0), (.int (0 : Int32)), (.ref a3)])) _
    refine XS.i2b X0.here hx rfl (hb hby d8_30) rfl ?_
    exact k)
  obtain ⟨cl24, Ar24, q24, S24, N24, H24, G24⟩ := id V3
  have hin24 : ¬ ((0 : Int32) < 0 ∨ cl24.slots.size ≤ ((0 : Int32)).toNatClampNeg) := inb_of S24 ⟨by decide, by decide⟩
  obtain ⟨T24, h24, X24, e24, W24, st24⟩ := stB X0 hx hZ e0 Ar24 (j := (0 : Int32)) hin24 (g := (mkF m 31 #[.val (.ref a1), .val (.int (0 : Int32)), .val (.ref a3), .val (.int (0 : Int32)), .val (.int (8 : Int32)), .val (.int (0 : Int32)), .val (.int u0)] [(.int (u0.toInt8.toInt32)), (.int (0 : Int32)), (.ref a3)])) rfl rfl (hb hby d8_31)
  have V24 : Arv Z h24 a3 k3 .byte (8 : Int32) [(.int (nar .byte (u0.toInt8.toInt32))), (.int (0 : Int32)), (.int (0 : Int32)), (.int (0 : Int32)), (.int (0 : Int32)), (.int (0 : Int32)), (.int (0 : Int32)), (.int (0 : Int32))] (.int (0 : Int32)) := Arv.set Ar24 q24 S24 N24 H24 G24 (fits_nar_byte _) W24 0 rfl (Nat.le_of_ble_eq_true rfl)
  have F25 := V1.other W24 ne13
  have Z26 : n0 ≤ h24.size := by rw [W24.size]; exact Z0
  have NF24 := Fr.snoc X24 N0 g_a3
  have K27 := K0.wr W24 (Or.inl (List.mem_of_getElem? (i := 0) rfl))
  have P28 : own_Pr p.tables e below S0 T24 (mkF m 32 #[.val (.ref a1), .val (.int (0 : Int32)), .val (.ref a3), .val (.int (0 : Int32)), .val (.int (8 : Int32)), .val (.int (0 : Int32)), .val (.int u0)] []) := fun t k => P23 t (st24 _ k)
  have P29 : own_Pr p.tables e below S0 T24 (mkF m 12 #[.val (.ref a1), .val (.int (1 : Int32)), .val (.ref a3), .val (.int (1 : Int32)), .val (.int (8 : Int32)), .val (.int (1 : Int32)), .val (.int u0)] [(.int (1 : Int32)), (.ref a1)]) := fun t k => P28 t (by
    refine XS.iinc X24.here hx rfl (hb hby d8_32) rfl (l' := #[.val (.ref a1), .val (.int (1 : Int32)), .val (.ref a3), .val (.int (0 : Int32)), .val (.int (8 : Int32)), .val (.int (0 : Int32)), .val (.int u0)]) rfl ?_
    refine XS.iinc X24.here hx rfl (hb hby d8_35) rfl (l' := #[.val (.ref a1), .val (.int (1 : Int32)), .val (.ref a3), .val (.int (1 : Int32)), .val (.int (8 : Int32)), .val (.int (0 : Int32)), .val (.int u0)]) rfl ?_
    refine XS.iinc X24.here hx rfl (hb hby d8_38) rfl (l' := #[.val (.ref a1), .val (.int (1 : Int32)), .val (.ref a3), .val (.int (1 : Int32)), .val (.int (8 : Int32)), .val (.int (1 : Int32)), .val (.int u0)]) rfl ?_
    refine XS.goto X24.here hx rfl (pc0 := 41) (pc' := 3) rfl (hb hby d8_41) (by decide) (by decide) ?_
    refine XS.iload X24.here hx rfl (hb hby d8_3) rfl ?_
    refine XS.iload X24.here hx rfl (hb hby d8_5) rfl ?_
    refine XS.icmpNo X24.here hx rfl (hb hby d8_7) rfl (by decide) ?_
    refine XS.aloadN X24.here hx rfl (hb hby d8_10) rfl rfl ?_
    show Steps p.tables e below (T24.setTop (mkF m 11 #[.val (.ref a1), .val (.int (1 : Int32)), .val (.ref a3), .val (.int (1 : Int32)), .val (.int (8 : Int32)), .val (.int (1 : Int32)), .val (.int u0)] [(.ref a1)])) _
    refine XS.iloadN X24.here hx rfl (hb hby d8_11) rfl ?_
    exact k)
  obtain ⟨cl30, Ar30, q30, S30, N30, H30, G30⟩ := id F25
  have hin30 : ¬ ((1 : Int32) < 0 ∨ cl30.slots.size ≤ ((1 : Int32)).toNatClampNeg) := inb_of S30 ⟨by decide, by decide⟩
  have P31 : own_Pr p.tables e below S0 T24 (mkF m 31 #[.val (.ref a1), .val (.int (1 : Int32)), .val (.ref a3), .val (.int (1 : Int32)), .val (.int (8 : Int32)), .val (.int (1 : Int32)), .val (.int u1)] [(.int (u1.toInt8.toInt32)), (.int (1 : Int32)), (.ref a3)]) := fun t k => P29 t (by
    refine X24.caload hx (j := (1 : Int32)) (v := (.int u1)) (by rw [e24]; exact Ar30.1) (State.isArrayOf_alike hZ.alike Ar30.2.1) Ar30.2.2 hin30 (H30.at hin30 rfl) (g := (mkF m 12 #[.val (.ref a1), .val (.int (1 : Int32)), .val (.ref a3), .val (.int (1 : Int32)), .val (.int (8 : Int32)), .val (.int (1 : Int32)), .val (.int u0)] [(.int (1 : Int32)), (.ref a1)])) rfl rfl (hb hby d8_12) _ ?_
    refine XS.istore X24.here hx rfl (hb hby d8_13) rfl (l' := #[.val (.ref a1), .val (.int (1 : Int32)), .val (.ref a3), .val (.int (1 : Int32)), .val (.int (8 : Int32)), .val (.int (1 : Int32)), .val (.int u1)]) rfl ?_
    refine XS.iload X24.here hx rfl (hb hby d8_15) rfl ?_
    refine XS.sipush X24.here hx rfl (hb hby d8_17) ?_
    refine XS.icmpYes X24.here hx rfl (pc0 := 20) (pc' := 26) rfl (hb hby d8_20) rfl (XT.ii_le_t hl1) (by decide) (by decide) ?_
    refine XS.aloadN X24.here hx rfl (hb hby d8_26) rfl rfl ?_
    refine XS.iloadN X24.here hx rfl (hb hby d8_27) rfl ?_
    refine XS.iload X24.here hx rfl (hb hby d8_28) rfl ?_
    show Steps p.tables e below (T24.setTop (mkF m 30 #[.val (.ref a1), .val (.int (1 : Int32)), .val (.ref a3), .val (.int (1 : Int32)), .val (.int (8 : Int32)), .val (.int (1 : Int32)), .val (.int u1)] [(.int u1), (.int (1 : Int32)), (.ref a3)])) _
    refine XS.i2b X24.here hx rfl (hb hby d8_30) rfl ?_
    exact k)
  obtain ⟨cl32, Ar32, q32, S32, N32, H32, G32⟩ := id V24
  have hin32 : ¬ ((1 : Int32) < 0 ∨ cl32.slots.size ≤ ((1 : Int32)).toNatClampNeg) := inb_of S32 ⟨by decide, by decide⟩
  obtain ⟨T32, h32, X32, e32, W32, st32⟩ := stB X24 hx hZ e24 Ar32 (j := (1 : Int32)) hin32 (g := (mkF m 31 #[.val (.ref a1), .val (.int (1 : Int32)), .val (.ref a3), .val (.int (1 : Int32)), .val (.int (8 : Int32)), .val (.int (1 : Int32)), .val (.int u1)] [(.int (u1.toInt8.toInt32)), (.int (1 : Int32)), (.ref a3)])) rfl rfl (hb hby d8_31)
  have V32 : Arv Z h32 a3 k3 .byte (8 : Int32) [(.int (nar .byte (u0.toInt8.toInt32))), (.int (nar .byte (u1.toInt8.toInt32))), (.int (0 : Int32)), (.int (0 : Int32)), (.int (0 : Int32)), (.int (0 : Int32)), (.int (0 : Int32)), (.int (0 : Int32))] (.int (0 : Int32)) := Arv.set Ar32 q32 S32 N32 H32 G32 (fits_nar_byte _) W32 1 rfl (Nat.le_of_ble_eq_true rfl)
  have F33 := F25.other W32 ne13
  have Z34 : n0 ≤ h32.size := by rw [W32.size]; exact Z26
  have NF32 := Fr.snoc X32 NF24 g_a3
  have K35 := K27.wr W32 (Or.inl (List.mem_of_getElem? (i := 0) rfl))
  have P36 : own_Pr p.tables e below S0 T32 (mkF m 32 #[.val (.ref a1), .val (.int (1 : Int32)), .val (.ref a3), .val (.int (1 : Int32)), .val (.int (8 : Int32)), .val (.int (1 : Int32)), .val (.int u1)] []) := fun t k => P31 t (st32 _ k)
  have P37 : own_Pr p.tables e below S0 T32 (mkF m 12 #[.val (.ref a1), .val (.int (2 : Int32)), .val (.ref a3), .val (.int (2 : Int32)), .val (.int (8 : Int32)), .val (.int (2 : Int32)), .val (.int u1)] [(.int (2 : Int32)), (.ref a1)]) := fun t k => P36 t (by
    refine XS.iinc X32.here hx rfl (hb hby d8_32) rfl (l' := #[.val (.ref a1), .val (.int (2 : Int32)), .val (.ref a3), .val (.int (1 : Int32)), .val (.int (8 : Int32)), .val (.int (1 : Int32)), .val (.int u1)]) rfl ?_
    refine XS.iinc X32.here hx rfl (hb hby d8_35) rfl (l' := #[.val (.ref a1), .val (.int (2 : Int32)), .val (.ref a3), .val (.int (2 : Int32)), .val (.int (8 : Int32)), .val (.int (1 : Int32)), .val (.int u1)]) rfl ?_
    refine XS.iinc X32.here hx rfl (hb hby d8_38) rfl (l' := #[.val (.ref a1), .val (.int (2 : Int32)), .val (.ref a3), .val (.int (2 : Int32)), .val (.int (8 : Int32)), .val (.int (2 : Int32)), .val (.int u1)]) rfl ?_
    refine XS.goto X32.here hx rfl (pc0 := 41) (pc' := 3) rfl (hb hby d8_41) (by decide) (by decide) ?_
    refine XS.iload X32.here hx rfl (hb hby d8_3) rfl ?_
    refine XS.iload X32.here hx rfl (hb hby d8_5) rfl ?_
    refine XS.icmpNo X32.here hx rfl (hb hby d8_7) rfl (by decide) ?_
    refine XS.aloadN X32.here hx rfl (hb hby d8_10) rfl rfl ?_
    show Steps p.tables e below (T32.setTop (mkF m 11 #[.val (.ref a1), .val (.int (2 : Int32)), .val (.ref a3), .val (.int (2 : Int32)), .val (.int (8 : Int32)), .val (.int (2 : Int32)), .val (.int u1)] [(.ref a1)])) _
    refine XS.iloadN X32.here hx rfl (hb hby d8_11) rfl ?_
    exact k)
  obtain ⟨cl38, Ar38, q38, S38, N38, H38, G38⟩ := id F33
  have hin38 : ¬ ((2 : Int32) < 0 ∨ cl38.slots.size ≤ ((2 : Int32)).toNatClampNeg) := inb_of S38 ⟨by decide, by decide⟩
  have P39 : own_Pr p.tables e below S0 T32 (mkF m 31 #[.val (.ref a1), .val (.int (2 : Int32)), .val (.ref a3), .val (.int (2 : Int32)), .val (.int (8 : Int32)), .val (.int (2 : Int32)), .val (.int u2)] [(.int (u2.toInt8.toInt32)), (.int (2 : Int32)), (.ref a3)]) := fun t k => P37 t (by
    refine X32.caload hx (j := (2 : Int32)) (v := (.int u2)) (by rw [e32]; exact Ar38.1) (State.isArrayOf_alike hZ.alike Ar38.2.1) Ar38.2.2 hin38 (H38.at hin38 rfl) (g := (mkF m 12 #[.val (.ref a1), .val (.int (2 : Int32)), .val (.ref a3), .val (.int (2 : Int32)), .val (.int (8 : Int32)), .val (.int (2 : Int32)), .val (.int u1)] [(.int (2 : Int32)), (.ref a1)])) rfl rfl (hb hby d8_12) _ ?_
    refine XS.istore X32.here hx rfl (hb hby d8_13) rfl (l' := #[.val (.ref a1), .val (.int (2 : Int32)), .val (.ref a3), .val (.int (2 : Int32)), .val (.int (8 : Int32)), .val (.int (2 : Int32)), .val (.int u2)]) rfl ?_
    refine XS.iload X32.here hx rfl (hb hby d8_15) rfl ?_
    refine XS.sipush X32.here hx rfl (hb hby d8_17) ?_
    refine XS.icmpYes X32.here hx rfl (pc0 := 20) (pc' := 26) rfl (hb hby d8_20) rfl (XT.ii_le_t hl2) (by decide) (by decide) ?_
    refine XS.aloadN X32.here hx rfl (hb hby d8_26) rfl rfl ?_
    refine XS.iloadN X32.here hx rfl (hb hby d8_27) rfl ?_
    refine XS.iload X32.here hx rfl (hb hby d8_28) rfl ?_
    show Steps p.tables e below (T32.setTop (mkF m 30 #[.val (.ref a1), .val (.int (2 : Int32)), .val (.ref a3), .val (.int (2 : Int32)), .val (.int (8 : Int32)), .val (.int (2 : Int32)), .val (.int u2)] [(.int u2), (.int (2 : Int32)), (.ref a3)])) _
    refine XS.i2b X32.here hx rfl (hb hby d8_30) rfl ?_
    exact k)
  obtain ⟨cl40, Ar40, q40, S40, N40, H40, G40⟩ := id V32
  have hin40 : ¬ ((2 : Int32) < 0 ∨ cl40.slots.size ≤ ((2 : Int32)).toNatClampNeg) := inb_of S40 ⟨by decide, by decide⟩
  obtain ⟨T40, h40, X40, e40, W40, st40⟩ := stB X32 hx hZ e32 Ar40 (j := (2 : Int32)) hin40 (g := (mkF m 31 #[.val (.ref a1), .val (.int (2 : Int32)), .val (.ref a3), .val (.int (2 : Int32)), .val (.int (8 : Int32)), .val (.int (2 : Int32)), .val (.int u2)] [(.int (u2.toInt8.toInt32)), (.int (2 : Int32)), (.ref a3)])) rfl rfl (hb hby d8_31)
  have V40 : Arv Z h40 a3 k3 .byte (8 : Int32) [(.int (nar .byte (u0.toInt8.toInt32))), (.int (nar .byte (u1.toInt8.toInt32))), (.int (nar .byte (u2.toInt8.toInt32))), (.int (0 : Int32)), (.int (0 : Int32)), (.int (0 : Int32)), (.int (0 : Int32)), (.int (0 : Int32))] (.int (0 : Int32)) := Arv.set Ar40 q40 S40 N40 H40 G40 (fits_nar_byte _) W40 2 rfl (Nat.le_of_ble_eq_true rfl)
  have F41 := F33.other W40 ne13
  have Z42 : n0 ≤ h40.size := by rw [W40.size]; exact Z34
  have NF40 := Fr.snoc X40 NF32 g_a3
  have K43 := K35.wr W40 (Or.inl (List.mem_of_getElem? (i := 0) rfl))
  have P44 : own_Pr p.tables e below S0 T40 (mkF m 32 #[.val (.ref a1), .val (.int (2 : Int32)), .val (.ref a3), .val (.int (2 : Int32)), .val (.int (8 : Int32)), .val (.int (2 : Int32)), .val (.int u2)] []) := fun t k => P39 t (st40 _ k)
  have P45 : own_Pr p.tables e below S0 T40 (mkF m 12 #[.val (.ref a1), .val (.int (3 : Int32)), .val (.ref a3), .val (.int (3 : Int32)), .val (.int (8 : Int32)), .val (.int (3 : Int32)), .val (.int u2)] [(.int (3 : Int32)), (.ref a1)]) := fun t k => P44 t (by
    refine XS.iinc X40.here hx rfl (hb hby d8_32) rfl (l' := #[.val (.ref a1), .val (.int (3 : Int32)), .val (.ref a3), .val (.int (2 : Int32)), .val (.int (8 : Int32)), .val (.int (2 : Int32)), .val (.int u2)]) rfl ?_
    refine XS.iinc X40.here hx rfl (hb hby d8_35) rfl (l' := #[.val (.ref a1), .val (.int (3 : Int32)), .val (.ref a3), .val (.int (3 : Int32)), .val (.int (8 : Int32)), .val (.int (2 : Int32)), .val (.int u2)]) rfl ?_
    refine XS.iinc X40.here hx rfl (hb hby d8_38) rfl (l' := #[.val (.ref a1), .val (.int (3 : Int32)), .val (.ref a3), .val (.int (3 : Int32)), .val (.int (8 : Int32)), .val (.int (3 : Int32)), .val (.int u2)]) rfl ?_
    refine XS.goto X40.here hx rfl (pc0 := 41) (pc' := 3) rfl (hb hby d8_41) (by decide) (by decide) ?_
    refine XS.iload X40.here hx rfl (hb hby d8_3) rfl ?_
    refine XS.iload X40.here hx rfl (hb hby d8_5) rfl ?_
    refine XS.icmpNo X40.here hx rfl (hb hby d8_7) rfl (by decide) ?_
    refine XS.aloadN X40.here hx rfl (hb hby d8_10) rfl rfl ?_
    show Steps p.tables e below (T40.setTop (mkF m 11 #[.val (.ref a1), .val (.int (3 : Int32)), .val (.ref a3), .val (.int (3 : Int32)), .val (.int (8 : Int32)), .val (.int (3 : Int32)), .val (.int u2)] [(.ref a1)])) _
    refine XS.iloadN X40.here hx rfl (hb hby d8_11) rfl ?_
    exact k)
  obtain ⟨cl46, Ar46, q46, S46, N46, H46, G46⟩ := id F41
  have hin46 : ¬ ((3 : Int32) < 0 ∨ cl46.slots.size ≤ ((3 : Int32)).toNatClampNeg) := inb_of S46 ⟨by decide, by decide⟩
  have P47 : own_Pr p.tables e below S0 T40 (mkF m 31 #[.val (.ref a1), .val (.int (3 : Int32)), .val (.ref a3), .val (.int (3 : Int32)), .val (.int (8 : Int32)), .val (.int (3 : Int32)), .val (.int u3)] [(.int (u3.toInt8.toInt32)), (.int (3 : Int32)), (.ref a3)]) := fun t k => P45 t (by
    refine X40.caload hx (j := (3 : Int32)) (v := (.int u3)) (by rw [e40]; exact Ar46.1) (State.isArrayOf_alike hZ.alike Ar46.2.1) Ar46.2.2 hin46 (H46.at hin46 rfl) (g := (mkF m 12 #[.val (.ref a1), .val (.int (3 : Int32)), .val (.ref a3), .val (.int (3 : Int32)), .val (.int (8 : Int32)), .val (.int (3 : Int32)), .val (.int u2)] [(.int (3 : Int32)), (.ref a1)])) rfl rfl (hb hby d8_12) _ ?_
    refine XS.istore X40.here hx rfl (hb hby d8_13) rfl (l' := #[.val (.ref a1), .val (.int (3 : Int32)), .val (.ref a3), .val (.int (3 : Int32)), .val (.int (8 : Int32)), .val (.int (3 : Int32)), .val (.int u3)]) rfl ?_
    refine XS.iload X40.here hx rfl (hb hby d8_15) rfl ?_
    refine XS.sipush X40.here hx rfl (hb hby d8_17) ?_
    refine XS.icmpYes X40.here hx rfl (pc0 := 20) (pc' := 26) rfl (hb hby d8_20) rfl (XT.ii_le_t hl3) (by decide) (by decide) ?_
    refine XS.aloadN X40.here hx rfl (hb hby d8_26) rfl rfl ?_
    refine XS.iloadN X40.here hx rfl (hb hby d8_27) rfl ?_
    refine XS.iload X40.here hx rfl (hb hby d8_28) rfl ?_
    show Steps p.tables e below (T40.setTop (mkF m 30 #[.val (.ref a1), .val (.int (3 : Int32)), .val (.ref a3), .val (.int (3 : Int32)), .val (.int (8 : Int32)), .val (.int (3 : Int32)), .val (.int u3)] [(.int u3), (.int (3 : Int32)), (.ref a3)])) _
    refine XS.i2b X40.here hx rfl (hb hby d8_30) rfl ?_
    exact k)
  obtain ⟨cl48, Ar48, q48, S48, N48, H48, G48⟩ := id V40
  have hin48 : ¬ ((3 : Int32) < 0 ∨ cl48.slots.size ≤ ((3 : Int32)).toNatClampNeg) := inb_of S48 ⟨by decide, by decide⟩
  obtain ⟨T48, h48, X48, e48, W48, st48⟩ := stB X40 hx hZ e40 Ar48 (j := (3 : Int32)) hin48 (g := (mkF m 31 #[.val (.ref a1), .val (.int (3 : Int32)), .val (.ref a3), .val (.int (3 : Int32)), .val (.int (8 : Int32)), .val (.int (3 : Int32)), .val (.int u3)] [(.int (u3.toInt8.toInt32)), (.int (3 : Int32)), (.ref a3)])) rfl rfl (hb hby d8_31)
  have V48 : Arv Z h48 a3 k3 .byte (8 : Int32) [(.int (nar .byte (u0.toInt8.toInt32))), (.int (nar .byte (u1.toInt8.toInt32))), (.int (nar .byte (u2.toInt8.toInt32))), (.int (nar .byte (u3.toInt8.toInt32))), (.int (0 : Int32)), (.int (0 : Int32)), (.int (0 : Int32)), (.int (0 : Int32))] (.int (0 : Int32)) := Arv.set Ar48 q48 S48 N48 H48 G48 (fits_nar_byte _) W48 3 rfl (Nat.le_of_ble_eq_true rfl)
  have F49 := F41.other W48 ne13
  have Z50 : n0 ≤ h48.size := by rw [W48.size]; exact Z42
  have NF48 := Fr.snoc X48 NF40 g_a3
  have K51 := K43.wr W48 (Or.inl (List.mem_of_getElem? (i := 0) rfl))
  have P52 : own_Pr p.tables e below S0 T48 (mkF m 32 #[.val (.ref a1), .val (.int (3 : Int32)), .val (.ref a3), .val (.int (3 : Int32)), .val (.int (8 : Int32)), .val (.int (3 : Int32)), .val (.int u3)] []) := fun t k => P47 t (st48 _ k)
  have P53 : own_Pr p.tables e below S0 T48 (mkF m 12 #[.val (.ref a1), .val (.int (4 : Int32)), .val (.ref a3), .val (.int (4 : Int32)), .val (.int (8 : Int32)), .val (.int (4 : Int32)), .val (.int u3)] [(.int (4 : Int32)), (.ref a1)]) := fun t k => P52 t (by
    refine XS.iinc X48.here hx rfl (hb hby d8_32) rfl (l' := #[.val (.ref a1), .val (.int (4 : Int32)), .val (.ref a3), .val (.int (3 : Int32)), .val (.int (8 : Int32)), .val (.int (3 : Int32)), .val (.int u3)]) rfl ?_
    refine XS.iinc X48.here hx rfl (hb hby d8_35) rfl (l' := #[.val (.ref a1), .val (.int (4 : Int32)), .val (.ref a3), .val (.int (4 : Int32)), .val (.int (8 : Int32)), .val (.int (3 : Int32)), .val (.int u3)]) rfl ?_
    refine XS.iinc X48.here hx rfl (hb hby d8_38) rfl (l' := #[.val (.ref a1), .val (.int (4 : Int32)), .val (.ref a3), .val (.int (4 : Int32)), .val (.int (8 : Int32)), .val (.int (4 : Int32)), .val (.int u3)]) rfl ?_
    refine XS.goto X48.here hx rfl (pc0 := 41) (pc' := 3) rfl (hb hby d8_41) (by decide) (by decide) ?_
    refine XS.iload X48.here hx rfl (hb hby d8_3) rfl ?_
    refine XS.iload X48.here hx rfl (hb hby d8_5) rfl ?_
    refine XS.icmpNo X48.here hx rfl (hb hby d8_7) rfl (by decide) ?_
    refine XS.aloadN X48.here hx rfl (hb hby d8_10) rfl rfl ?_
    show Steps p.tables e below (T48.setTop (mkF m 11 #[.val (.ref a1), .val (.int (4 : Int32)), .val (.ref a3), .val (.int (4 : Int32)), .val (.int (8 : Int32)), .val (.int (4 : Int32)), .val (.int u3)] [(.ref a1)])) _
    refine XS.iloadN X48.here hx rfl (hb hby d8_11) rfl ?_
    exact k)
  obtain ⟨cl54, Ar54, q54, S54, N54, H54, G54⟩ := id F49
  have hin54 : ¬ ((4 : Int32) < 0 ∨ cl54.slots.size ≤ ((4 : Int32)).toNatClampNeg) := inb_of S54 ⟨by decide, by decide⟩
  have P55 : own_Pr p.tables e below S0 T48 (mkF m 31 #[.val (.ref a1), .val (.int (4 : Int32)), .val (.ref a3), .val (.int (4 : Int32)), .val (.int (8 : Int32)), .val (.int (4 : Int32)), .val (.int u4)] [(.int (u4.toInt8.toInt32)), (.int (4 : Int32)), (.ref a3)]) := fun t k => P53 t (by
    refine X48.caload hx (j := (4 : Int32)) (v := (.int u4)) (by rw [e48]; exact Ar54.1) (State.isArrayOf_alike hZ.alike Ar54.2.1) Ar54.2.2 hin54 (H54.at hin54 rfl) (g := (mkF m 12 #[.val (.ref a1), .val (.int (4 : Int32)), .val (.ref a3), .val (.int (4 : Int32)), .val (.int (8 : Int32)), .val (.int (4 : Int32)), .val (.int u3)] [(.int (4 : Int32)), (.ref a1)])) rfl rfl (hb hby d8_12) _ ?_
    refine XS.istore X48.here hx rfl (hb hby d8_13) rfl (l' := #[.val (.ref a1), .val (.int (4 : Int32)), .val (.ref a3), .val (.int (4 : Int32)), .val (.int (8 : Int32)), .val (.int (4 : Int32)), .val (.int u4)]) rfl ?_
    refine XS.iload X48.here hx rfl (hb hby d8_15) rfl ?_
    refine XS.sipush X48.here hx rfl (hb hby d8_17) ?_
    refine XS.icmpYes X48.here hx rfl (pc0 := 20) (pc' := 26) rfl (hb hby d8_20) rfl (XT.ii_le_t hl4) (by decide) (by decide) ?_
    refine XS.aloadN X48.here hx rfl (hb hby d8_26) rfl rfl ?_
    refine XS.iloadN X48.here hx rfl (hb hby d8_27) rfl ?_
    refine XS.iload X48.here hx rfl (hb hby d8_28) rfl ?_
    show Steps p.tables e below (T48.setTop (mkF m 30 #[.val (.ref a1), .val (.int (4 : Int32)), .val (.ref a3), .val (.int (4 : Int32)), .val (.int (8 : Int32)), .val (.int (4 : Int32)), .val (.int u4)] [(.int u4), (.int (4 : Int32)), (.ref a3)])) _
    refine XS.i2b X48.here hx rfl (hb hby d8_30) rfl ?_
    exact k)
  obtain ⟨cl56, Ar56, q56, S56, N56, H56, G56⟩ := id V48
  have hin56 : ¬ ((4 : Int32) < 0 ∨ cl56.slots.size ≤ ((4 : Int32)).toNatClampNeg) := inb_of S56 ⟨by decide, by decide⟩
  obtain ⟨T56, h56, X56, e56, W56, st56⟩ := stB X48 hx hZ e48 Ar56 (j := (4 : Int32)) hin56 (g := (mkF m 31 #[.val (.ref a1), .val (.int (4 : Int32)), .val (.ref a3), .val (.int (4 : Int32)), .val (.int (8 : Int32)), .val (.int (4 : Int32)), .val (.int u4)] [(.int (u4.toInt8.toInt32)), (.int (4 : Int32)), (.ref a3)])) rfl rfl (hb hby d8_31)
  have V56 : Arv Z h56 a3 k3 .byte (8 : Int32) [(.int (nar .byte (u0.toInt8.toInt32))), (.int (nar .byte (u1.toInt8.toInt32))), (.int (nar .byte (u2.toInt8.toInt32))), (.int (nar .byte (u3.toInt8.toInt32))), (.int (nar .byte (u4.toInt8.toInt32))), (.int (0 : Int32)), (.int (0 : Int32)), (.int (0 : Int32))] (.int (0 : Int32)) := Arv.set Ar56 q56 S56 N56 H56 G56 (fits_nar_byte _) W56 4 rfl (Nat.le_of_ble_eq_true rfl)
  have F57 := F49.other W56 ne13
  have Z58 : n0 ≤ h56.size := by rw [W56.size]; exact Z50
  have NF56 := Fr.snoc X56 NF48 g_a3
  have K59 := K51.wr W56 (Or.inl (List.mem_of_getElem? (i := 0) rfl))
  have P60 : own_Pr p.tables e below S0 T56 (mkF m 32 #[.val (.ref a1), .val (.int (4 : Int32)), .val (.ref a3), .val (.int (4 : Int32)), .val (.int (8 : Int32)), .val (.int (4 : Int32)), .val (.int u4)] []) := fun t k => P55 t (st56 _ k)
  have P61 : own_Pr p.tables e below S0 T56 (mkF m 12 #[.val (.ref a1), .val (.int (5 : Int32)), .val (.ref a3), .val (.int (5 : Int32)), .val (.int (8 : Int32)), .val (.int (5 : Int32)), .val (.int u4)] [(.int (5 : Int32)), (.ref a1)]) := fun t k => P60 t (by
    refine XS.iinc X56.here hx rfl (hb hby d8_32) rfl (l' := #[.val (.ref a1), .val (.int (5 : Int32)), .val (.ref a3), .val (.int (4 : Int32)), .val (.int (8 : Int32)), .val (.int (4 : Int32)), .val (.int u4)]) rfl ?_
    refine XS.iinc X56.here hx rfl (hb hby d8_35) rfl (l' := #[.val (.ref a1), .val (.int (5 : Int32)), .val (.ref a3), .val (.int (5 : Int32)), .val (.int (8 : Int32)), .val (.int (4 : Int32)), .val (.int u4)]) rfl ?_
    refine XS.iinc X56.here hx rfl (hb hby d8_38) rfl (l' := #[.val (.ref a1), .val (.int (5 : Int32)), .val (.ref a3), .val (.int (5 : Int32)), .val (.int (8 : Int32)), .val (.int (5 : Int32)), .val (.int u4)]) rfl ?_
    refine XS.goto X56.here hx rfl (pc0 := 41) (pc' := 3) rfl (hb hby d8_41) (by decide) (by decide) ?_
    refine XS.iload X56.here hx rfl (hb hby d8_3) rfl ?_
    refine XS.iload X56.here hx rfl (hb hby d8_5) rfl ?_
    refine XS.icmpNo X56.here hx rfl (hb hby d8_7) rfl (by decide) ?_
    refine XS.aloadN X56.here hx rfl (hb hby d8_10) rfl rfl ?_
    show Steps p.tables e below (T56.setTop (mkF m 11 #[.val (.ref a1), .val (.int (5 : Int32)), .val (.ref a3), .val (.int (5 : Int32)), .val (.int (8 : Int32)), .val (.int (5 : Int32)), .val (.int u4)] [(.ref a1)])) _
    refine XS.iloadN X56.here hx rfl (hb hby d8_11) rfl ?_
    exact k)
  obtain ⟨cl62, Ar62, q62, S62, N62, H62, G62⟩ := id F57
  have hin62 : ¬ ((5 : Int32) < 0 ∨ cl62.slots.size ≤ ((5 : Int32)).toNatClampNeg) := inb_of S62 ⟨by decide, by decide⟩
  have P63 : own_Pr p.tables e below S0 T56 (mkF m 31 #[.val (.ref a1), .val (.int (5 : Int32)), .val (.ref a3), .val (.int (5 : Int32)), .val (.int (8 : Int32)), .val (.int (5 : Int32)), .val (.int u5)] [(.int (u5.toInt8.toInt32)), (.int (5 : Int32)), (.ref a3)]) := fun t k => P61 t (by
    refine X56.caload hx (j := (5 : Int32)) (v := (.int u5)) (by rw [e56]; exact Ar62.1) (State.isArrayOf_alike hZ.alike Ar62.2.1) Ar62.2.2 hin62 (H62.at hin62 rfl) (g := (mkF m 12 #[.val (.ref a1), .val (.int (5 : Int32)), .val (.ref a3), .val (.int (5 : Int32)), .val (.int (8 : Int32)), .val (.int (5 : Int32)), .val (.int u4)] [(.int (5 : Int32)), (.ref a1)])) rfl rfl (hb hby d8_12) _ ?_
    refine XS.istore X56.here hx rfl (hb hby d8_13) rfl (l' := #[.val (.ref a1), .val (.int (5 : Int32)), .val (.ref a3), .val (.int (5 : Int32)), .val (.int (8 : Int32)), .val (.int (5 : Int32)), .val (.int u5)]) rfl ?_
    refine XS.iload X56.here hx rfl (hb hby d8_15) rfl ?_
    refine XS.sipush X56.here hx rfl (hb hby d8_17) ?_
    refine XS.icmpYes X56.here hx rfl (pc0 := 20) (pc' := 26) rfl (hb hby d8_20) rfl (XT.ii_le_t hl5) (by decide) (by decide) ?_
    refine XS.aloadN X56.here hx rfl (hb hby d8_26) rfl rfl ?_
    refine XS.iloadN X56.here hx rfl (hb hby d8_27) rfl ?_
    refine XS.iload X56.here hx rfl (hb hby d8_28) rfl ?_
    show Steps p.tables e below (T56.setTop (mkF m 30 #[.val (.ref a1), .val (.int (5 : Int32)), .val (.ref a3), .val (.int (5 : Int32)), .val (.int (8 : Int32)), .val (.int (5 : Int32)), .val (.int u5)] [(.int u5), (.int (5 : Int32)), (.ref a3)])) _
    refine XS.i2b X56.here hx rfl (hb hby d8_30) rfl ?_
    exact k)
  obtain ⟨cl64, Ar64, q64, S64, N64, H64, G64⟩ := id V56
  have hin64 : ¬ ((5 : Int32) < 0 ∨ cl64.slots.size ≤ ((5 : Int32)).toNatClampNeg) := inb_of S64 ⟨by decide, by decide⟩
  obtain ⟨T64, h64, X64, e64, W64, st64⟩ := stB X56 hx hZ e56 Ar64 (j := (5 : Int32)) hin64 (g := (mkF m 31 #[.val (.ref a1), .val (.int (5 : Int32)), .val (.ref a3), .val (.int (5 : Int32)), .val (.int (8 : Int32)), .val (.int (5 : Int32)), .val (.int u5)] [(.int (u5.toInt8.toInt32)), (.int (5 : Int32)), (.ref a3)])) rfl rfl (hb hby d8_31)
  have V64 : Arv Z h64 a3 k3 .byte (8 : Int32) [(.int (nar .byte (u0.toInt8.toInt32))), (.int (nar .byte (u1.toInt8.toInt32))), (.int (nar .byte (u2.toInt8.toInt32))), (.int (nar .byte (u3.toInt8.toInt32))), (.int (nar .byte (u4.toInt8.toInt32))), (.int (nar .byte (u5.toInt8.toInt32))), (.int (0 : Int32)), (.int (0 : Int32))] (.int (0 : Int32)) := Arv.set Ar64 q64 S64 N64 H64 G64 (fits_nar_byte _) W64 5 rfl (Nat.le_of_ble_eq_true rfl)
  have F65 := F57.other W64 ne13
  have Z66 : n0 ≤ h64.size := by rw [W64.size]; exact Z58
  have NF64 := Fr.snoc X64 NF56 g_a3
  have K67 := K59.wr W64 (Or.inl (List.mem_of_getElem? (i := 0) rfl))
  have P68 : own_Pr p.tables e below S0 T64 (mkF m 32 #[.val (.ref a1), .val (.int (5 : Int32)), .val (.ref a3), .val (.int (5 : Int32)), .val (.int (8 : Int32)), .val (.int (5 : Int32)), .val (.int u5)] []) := fun t k => P63 t (st64 _ k)
  have P69 : own_Pr p.tables e below S0 T64 (mkF m 12 #[.val (.ref a1), .val (.int (6 : Int32)), .val (.ref a3), .val (.int (6 : Int32)), .val (.int (8 : Int32)), .val (.int (6 : Int32)), .val (.int u5)] [(.int (6 : Int32)), (.ref a1)]) := fun t k => P68 t (by
    refine XS.iinc X64.here hx rfl (hb hby d8_32) rfl (l' := #[.val (.ref a1), .val (.int (6 : Int32)), .val (.ref a3), .val (.int (5 : Int32)), .val (.int (8 : Int32)), .val (.int (5 : Int32)), .val (.int u5)]) rfl ?_
    refine XS.iinc X64.here hx rfl (hb hby d8_35) rfl (l' := #[.val (.ref a1), .val (.int (6 : Int32)), .val (.ref a3), .val (.int (6 : Int32)), .val (.int (8 : Int32)), .val (.int (5 : Int32)), .val (.int u5)]) rfl ?_
    refine XS.iinc X64.here hx rfl (hb hby d8_38) rfl (l' := #[.val (.ref a1), .val (.int (6 : Int32)), .val (.ref a3), .val (.int (6 : Int32)), .val (.int (8 : Int32)), .val (.int (6 : Int32)), .val (.int u5)]) rfl ?_
    refine XS.goto X64.here hx rfl (pc0 := 41) (pc' := 3) rfl (hb hby d8_41) (by decide) (by decide) ?_
    refine XS.iload X64.here hx rfl (hb hby d8_3) rfl ?_
    refine XS.iload X64.here hx rfl (hb hby d8_5) rfl ?_
    refine XS.icmpNo X64.here hx rfl (hb hby d8_7) rfl (by decide) ?_
    refine XS.aloadN X64.here hx rfl (hb hby d8_10) rfl rfl ?_
    show Steps p.tables e below (T64.setTop (mkF m 11 #[.val (.ref a1), .val (.int (6 : Int32)), .val (.ref a3), .val (.int (6 : Int32)), .val (.int (8 : Int32)), .val (.int (6 : Int32)), .val (.int u5)] [(.ref a1)])) _
    refine XS.iloadN X64.here hx rfl (hb hby d8_11) rfl ?_
    exact k)
  obtain ⟨cl70, Ar70, q70, S70, N70, H70, G70⟩ := id F65
  have hin70 : ¬ ((6 : Int32) < 0 ∨ cl70.slots.size ≤ ((6 : Int32)).toNatClampNeg) := inb_of S70 ⟨by decide, by decide⟩
  have P71 : own_Pr p.tables e below S0 T64 (mkF m 31 #[.val (.ref a1), .val (.int (6 : Int32)), .val (.ref a3), .val (.int (6 : Int32)), .val (.int (8 : Int32)), .val (.int (6 : Int32)), .val (.int u6)] [(.int (u6.toInt8.toInt32)), (.int (6 : Int32)), (.ref a3)]) := fun t k => P69 t (by
    refine X64.caload hx (j := (6 : Int32)) (v := (.int u6)) (by rw [e64]; exact Ar70.1) (State.isArrayOf_alike hZ.alike Ar70.2.1) Ar70.2.2 hin70 (H70.at hin70 rfl) (g := (mkF m 12 #[.val (.ref a1), .val (.int (6 : Int32)), .val (.ref a3), .val (.int (6 : Int32)), .val (.int (8 : Int32)), .val (.int (6 : Int32)), .val (.int u5)] [(.int (6 : Int32)), (.ref a1)])) rfl rfl (hb hby d8_12) _ ?_
    refine XS.istore X64.here hx rfl (hb hby d8_13) rfl (l' := #[.val (.ref a1), .val (.int (6 : Int32)), .val (.ref a3), .val (.int (6 : Int32)), .val (.int (8 : Int32)), .val (.int (6 : Int32)), .val (.int u6)]) rfl ?_
    refine XS.iload X64.here hx rfl (hb hby d8_15) rfl ?_
    refine XS.sipush X64.here hx rfl (hb hby d8_17) ?_
    refine XS.icmpYes X64.here hx rfl (pc0 := 20) (pc' := 26) rfl (hb hby d8_20) rfl (XT.ii_le_t hl6) (by decide) (by decide) ?_
    refine XS.aloadN X64.here hx rfl (hb hby d8_26) rfl rfl ?_
    refine XS.iloadN X64.here hx rfl (hb hby d8_27) rfl ?_
    refine XS.iload X64.here hx rfl (hb hby d8_28) rfl ?_
    show Steps p.tables e below (T64.setTop (mkF m 30 #[.val (.ref a1), .val (.int (6 : Int32)), .val (.ref a3), .val (.int (6 : Int32)), .val (.int (8 : Int32)), .val (.int (6 : Int32)), .val (.int u6)] [(.int u6), (.int (6 : Int32)), (.ref a3)])) _
    refine XS.i2b X64.here hx rfl (hb hby d8_30) rfl ?_
    exact k)
  obtain ⟨cl72, Ar72, q72, S72, N72, H72, G72⟩ := id V64
  have hin72 : ¬ ((6 : Int32) < 0 ∨ cl72.slots.size ≤ ((6 : Int32)).toNatClampNeg) := inb_of S72 ⟨by decide, by decide⟩
  obtain ⟨T72, h72, X72, e72, W72, st72⟩ := stB X64 hx hZ e64 Ar72 (j := (6 : Int32)) hin72 (g := (mkF m 31 #[.val (.ref a1), .val (.int (6 : Int32)), .val (.ref a3), .val (.int (6 : Int32)), .val (.int (8 : Int32)), .val (.int (6 : Int32)), .val (.int u6)] [(.int (u6.toInt8.toInt32)), (.int (6 : Int32)), (.ref a3)])) rfl rfl (hb hby d8_31)
  have V72 : Arv Z h72 a3 k3 .byte (8 : Int32) [(.int (nar .byte (u0.toInt8.toInt32))), (.int (nar .byte (u1.toInt8.toInt32))), (.int (nar .byte (u2.toInt8.toInt32))), (.int (nar .byte (u3.toInt8.toInt32))), (.int (nar .byte (u4.toInt8.toInt32))), (.int (nar .byte (u5.toInt8.toInt32))), (.int (nar .byte (u6.toInt8.toInt32))), (.int (0 : Int32))] (.int (0 : Int32)) := Arv.set Ar72 q72 S72 N72 H72 G72 (fits_nar_byte _) W72 6 rfl (Nat.le_of_ble_eq_true rfl)
  have F73 := F65.other W72 ne13
  have Z74 : n0 ≤ h72.size := by rw [W72.size]; exact Z66
  have NF72 := Fr.snoc X72 NF64 g_a3
  have K75 := K67.wr W72 (Or.inl (List.mem_of_getElem? (i := 0) rfl))
  have P76 : own_Pr p.tables e below S0 T72 (mkF m 32 #[.val (.ref a1), .val (.int (6 : Int32)), .val (.ref a3), .val (.int (6 : Int32)), .val (.int (8 : Int32)), .val (.int (6 : Int32)), .val (.int u6)] []) := fun t k => P71 t (st72 _ k)
  have P77 : own_Pr p.tables e below S0 T72 (mkF m 12 #[.val (.ref a1), .val (.int (7 : Int32)), .val (.ref a3), .val (.int (7 : Int32)), .val (.int (8 : Int32)), .val (.int (7 : Int32)), .val (.int u6)] [(.int (7 : Int32)), (.ref a1)]) := fun t k => P76 t (by
    refine XS.iinc X72.here hx rfl (hb hby d8_32) rfl (l' := #[.val (.ref a1), .val (.int (7 : Int32)), .val (.ref a3), .val (.int (6 : Int32)), .val (.int (8 : Int32)), .val (.int (6 : Int32)), .val (.int u6)]) rfl ?_
    refine XS.iinc X72.here hx rfl (hb hby d8_35) rfl (l' := #[.val (.ref a1), .val (.int (7 : Int32)), .val (.ref a3), .val (.int (7 : Int32)), .val (.int (8 : Int32)), .val (.int (6 : Int32)), .val (.int u6)]) rfl ?_
    refine XS.iinc X72.here hx rfl (hb hby d8_38) rfl (l' := #[.val (.ref a1), .val (.int (7 : Int32)), .val (.ref a3), .val (.int (7 : Int32)), .val (.int (8 : Int32)), .val (.int (7 : Int32)), .val (.int u6)]) rfl ?_
    refine XS.goto X72.here hx rfl (pc0 := 41) (pc' := 3) rfl (hb hby d8_41) (by decide) (by decide) ?_
    refine XS.iload X72.here hx rfl (hb hby d8_3) rfl ?_
    refine XS.iload X72.here hx rfl (hb hby d8_5) rfl ?_
    refine XS.icmpNo X72.here hx rfl (hb hby d8_7) rfl (by decide) ?_
    refine XS.aloadN X72.here hx rfl (hb hby d8_10) rfl rfl ?_
    show Steps p.tables e below (T72.setTop (mkF m 11 #[.val (.ref a1), .val (.int (7 : Int32)), .val (.ref a3), .val (.int (7 : Int32)), .val (.int (8 : Int32)), .val (.int (7 : Int32)), .val (.int u6)] [(.ref a1)])) _
    refine XS.iloadN X72.here hx rfl (hb hby d8_11) rfl ?_
    exact k)
  obtain ⟨cl78, Ar78, q78, S78, N78, H78, G78⟩ := id F73
  have hin78 : ¬ ((7 : Int32) < 0 ∨ cl78.slots.size ≤ ((7 : Int32)).toNatClampNeg) := inb_of S78 ⟨by decide, by decide⟩
  have P79 : own_Pr p.tables e below S0 T72 (mkF m 31 #[.val (.ref a1), .val (.int (7 : Int32)), .val (.ref a3), .val (.int (7 : Int32)), .val (.int (8 : Int32)), .val (.int (7 : Int32)), .val (.int u7)] [(.int (u7.toInt8.toInt32)), (.int (7 : Int32)), (.ref a3)]) := fun t k => P77 t (by
    refine X72.caload hx (j := (7 : Int32)) (v := (.int u7)) (by rw [e72]; exact Ar78.1) (State.isArrayOf_alike hZ.alike Ar78.2.1) Ar78.2.2 hin78 (H78.at hin78 rfl) (g := (mkF m 12 #[.val (.ref a1), .val (.int (7 : Int32)), .val (.ref a3), .val (.int (7 : Int32)), .val (.int (8 : Int32)), .val (.int (7 : Int32)), .val (.int u6)] [(.int (7 : Int32)), (.ref a1)])) rfl rfl (hb hby d8_12) _ ?_
    refine XS.istore X72.here hx rfl (hb hby d8_13) rfl (l' := #[.val (.ref a1), .val (.int (7 : Int32)), .val (.ref a3), .val (.int (7 : Int32)), .val (.int (8 : Int32)), .val (.int (7 : Int32)), .val (.int u7)]) rfl ?_
    refine XS.iload X72.here hx rfl (hb hby d8_15) rfl ?_
    refine XS.sipush X72.here hx rfl (hb hby d8_17) ?_
    refine XS.icmpYes X72.here hx rfl (pc0 := 20) (pc' := 26) rfl (hb hby d8_20) rfl (XT.ii_le_t hl7) (by decide) (by decide) ?_
    refine XS.aloadN X72.here hx rfl (hb hby d8_26) rfl rfl ?_
    refine XS.iloadN X72.here hx rfl (hb hby d8_27) rfl ?_
    refine XS.iload X72.here hx rfl (hb hby d8_28) rfl ?_
    show Steps p.tables e below (T72.setTop (mkF m 30 #[.val (.ref a1), .val (.int (7 : Int32)), .val (.ref a3), .val (.int (7 : Int32)), .val (.int (8 : Int32)), .val (.int (7 : Int32)), .val (.int u7)] [(.int u7), (.int (7 : Int32)), (.ref a3)])) _
    refine XS.i2b X72.here hx rfl (hb hby d8_30) rfl ?_
    exact k)
  obtain ⟨cl80, Ar80, q80, S80, N80, H80, G80⟩ := id V72
  have hin80 : ¬ ((7 : Int32) < 0 ∨ cl80.slots.size ≤ ((7 : Int32)).toNatClampNeg) := inb_of S80 ⟨by decide, by decide⟩
  obtain ⟨T80, h80, X80, e80, W80, st80⟩ := stB X72 hx hZ e72 Ar80 (j := (7 : Int32)) hin80 (g := (mkF m 31 #[.val (.ref a1), .val (.int (7 : Int32)), .val (.ref a3), .val (.int (7 : Int32)), .val (.int (8 : Int32)), .val (.int (7 : Int32)), .val (.int u7)] [(.int (u7.toInt8.toInt32)), (.int (7 : Int32)), (.ref a3)])) rfl rfl (hb hby d8_31)
  have V80 : Arv Z h80 a3 k3 .byte (8 : Int32) [(.int (nar .byte (u0.toInt8.toInt32))), (.int (nar .byte (u1.toInt8.toInt32))), (.int (nar .byte (u2.toInt8.toInt32))), (.int (nar .byte (u3.toInt8.toInt32))), (.int (nar .byte (u4.toInt8.toInt32))), (.int (nar .byte (u5.toInt8.toInt32))), (.int (nar .byte (u6.toInt8.toInt32))), (.int (nar .byte (u7.toInt8.toInt32)))] (.int (0 : Int32)) := Arv.set Ar80 q80 S80 N80 H80 G80 (fits_nar_byte _) W80 7 rfl (Nat.le_of_ble_eq_true rfl)
  have F81 := F73.other W80 ne13
  have Z82 : n0 ≤ h80.size := by rw [W80.size]; exact Z74
  have NF80 := Fr.snoc X80 NF72 g_a3
  have K83 := K75.wr W80 (Or.inl (List.mem_of_getElem? (i := 0) rfl))
  have P84 : own_Pr p.tables e below S0 T80 (mkF m 32 #[.val (.ref a1), .val (.int (7 : Int32)), .val (.ref a3), .val (.int (7 : Int32)), .val (.int (8 : Int32)), .val (.int (7 : Int32)), .val (.int u7)] []) := fun t k => P79 t (st80 _ k)
  have P85 : own_Pr p.tables e below S0 T80 (mkF m 46 #[.val (.ref a1), .val (.int (8 : Int32)), .val (.ref a3), .val (.int (8 : Int32)), .val (.int (8 : Int32)), .val (.int (8 : Int32)), .val (.int u7)] [(.int (8 : Int32))]) := fun t k => P84 t (by
    refine XS.iinc X80.here hx rfl (hb hby d8_32) rfl (l' := #[.val (.ref a1), .val (.int (8 : Int32)), .val (.ref a3), .val (.int (7 : Int32)), .val (.int (8 : Int32)), .val (.int (7 : Int32)), .val (.int u7)]) rfl ?_
    refine XS.iinc X80.here hx rfl (hb hby d8_35) rfl (l' := #[.val (.ref a1), .val (.int (8 : Int32)), .val (.ref a3), .val (.int (8 : Int32)), .val (.int (8 : Int32)), .val (.int (7 : Int32)), .val (.int u7)]) rfl ?_
    refine XS.iinc X80.here hx rfl (hb hby d8_38) rfl (l' := #[.val (.ref a1), .val (.int (8 : Int32)), .val (.ref a3), .val (.int (8 : Int32)), .val (.int (8 : Int32)), .val (.int (8 : Int32)), .val (.int u7)]) rfl ?_
    refine XS.goto X80.here hx rfl (pc0 := 41) (pc' := 3) rfl (hb hby d8_41) (by decide) (by decide) ?_
    refine XS.iload X80.here hx rfl (hb hby d8_3) rfl ?_
    refine XS.iload X80.here hx rfl (hb hby d8_5) rfl ?_
    refine XS.icmpYes X80.here hx rfl (pc0 := 7) (pc' := 44) rfl (hb hby d8_7) rfl (by decide) (by decide) (by decide) ?_
    refine XS.iload X80.here hx rfl (hb hby d8_44) rfl ?_
    exact k)
  obtain ⟨fs, hr, hrun, hended, hW, hsame⟩ := X80.leave (v := some (.int (8 : Int32))) (fun h => by rw [Bd.returns] at h; cases h)
  have fin : Steps p.tables e below S0 (T80.setFrames fs) := P85 _ (retI X80 hx Bd.returns (hb hby d8_46) hr)
  rw [hS0] at fin
  refine ⟨_, _, fin, hrun, hended, _, _, rfl, ?_, ⟨_, rfl⟩, hW, hsame.mono (by decide) (by decide)⟩
  show own_QB Z a3 k3 8 [nar .byte (u0.toInt8.toInt32), nar .byte (u1.toInt8.toInt32), nar .byte (u2.toInt8.toInt32), nar .byte (u3.toInt8.toInt32), nar .byte (u4.toInt8.toInt32), nar .byte (u5.toInt8.toInt32), nar .byte (u6.toInt8.toInt32), nar .byte (u7.toInt8.toInt32)] h0 n0 _ T80.heap _
  rw [e80]
  exact ⟨rfl, NF80, K83, V80⟩
theorem d7_0 : decode jdk_52_method_16_code 0 = .ok (.iload_n 2, 1) := by decide +kernel
theorem d7_1 : decode jdk_52_method_16_code 1 = .ok (.newarray .byte, 2) := by decide +kernel
theorem d7_3 : decode jdk_52_method_16_code 3 = .ok (.astore_n 3, 1) := by decide +kernel
theorem d7_4 : decode jdk_52_method_16_code 4 = .ok (.aload_n 0, 1) := by decide +kernel
theorem d7_5 : decode jdk_52_method_16_code 5 = .ok (.iload_n 1, 1) := by decide +kernel
theorem d7_6 : decode jdk_52_method_16_code 6 = .ok (.aload_n 3, 1) := by decide +kernel
theorem d7_7 : decode jdk_52_method_16_code 7 = .ok (.iconst 0, 1) := by decide +kernel
theorem d7_8 : decode jdk_52_method_16_code 8 = .ok (.iload_n 2, 1) := by decide +kernel
theorem d7_9 : decode jdk_52_method_16_code 9 = .ok (.invokestatic 115, 3) := by decide +kernel
theorem d7_12 : decode jdk_52_method_16_code 12 = .ok (.istore 4, 2) := by decide +kernel
theorem d7_14 : decode jdk_52_method_16_code 14 = .ok (.iload 4, 2) := by decide +kernel
theorem d7_16 : decode jdk_52_method_16_code 16 = .ok (.iload_n 2, 1) := by decide +kernel
theorem d7_17 : decode jdk_52_method_16_code 17 = .ok (.if_icmp .eq 40, 3) := by decide +kernel
theorem d7_57 : decode jdk_52_method_16_code 57 = .ok (.aload_n 3, 1) := by decide +kernel
theorem d7_58 : decode jdk_52_method_16_code 58 = .ok (.areturn, 1) := by decide +kernel
theorem pd_5 : parseMethodDescriptor "([CI[BII)I" = some ⟨[(.array .char), .int, (.array .byte), .int, .int], some .int⟩ := by decide +kernel
theorem ef_7_8 (m : MethodId) (a1 : Addr) : entryFrame m #[(.ref a1), (.int (0 : Int32)), (.int (8 : Int32))] 6 = mkF m 0 #[.val (.ref a1), .val (.int (0 : Int32)), .val (.int (8 : Int32)), .unset, .unset, .unset] [] := by first | (simp [entryFrame, mkF, argsToLocals, Value.category]; done) | rfl
set_option maxRecDepth 65536 in
set_option maxHeartbeats 40000000 in
theorem rm7_8 (l : Launch) (Z : State) (a0 : Array Value) (hw : ∀ d ∈ tables_1, d.before a0 Z = true) (ws : List Jvm.Cond) (a1 : Addr) (k1 : ClassId) (u0 u1 u2 u3 u4 u5 u6 u7 : Int32) (h0 : Heap) (n0 : Nat) (Z0 : n0 ≤ h0.size) (V1 : Arv Z h0 a1 k1 .char 8 [(.int u0), (.int u1), (.int u2), (.int u3), (.int u4), (.int u5), (.int u6), (.int u7)] (.int (0 : Int32))) (hl0 : ¬ ((255 : Int32) < u0)) (hl1 : ¬ ((255 : Int32) < u1)) (hl2 : ¬ ((255 : Int32) < u2)) (hl3 : ¬ ((255 : Int32) < u3)) (hl4 : ¬ ((255 : Int32) < u4)) (hl5 : ¬ ((255 : Int32) < u5)) (hl6 : ¬ ((255 : Int32) < u6)) (hl7 : ¬ ((255 : Int32) < u7)) :
    MetFree l (⟨"java/lang/StringUTF16", "compress", "([CII)[B"⟩ : MethodName) (head1 (Jvm.Cond.code (⟨"java/lang/StringUTF16", "compress", "([CII)[B"⟩ : MethodName) jdk_52_method_16_code 6 (some (.array .byte)) :: ws) ({ frames := 1, cells := 1, slots := 8, locals := 18 } : Room)) (fun a U => a = #[(.ref a1), (.int (0 : Int32)), (.int (8 : Int32))] ∧ Z.Warmed39 U.vm ∧ U.heap = h0) (fun _ _ _ _ _ => True) (fun _ U o U' => ∃ v L, o = .returned v ∧ own_QA Z 8 [nar .byte (u0.toInt8.toInt32), nar .byte (u1.toInt8.toInt32), nar .byte (u2.toInt8.toInt32), nar .byte (u3.toInt8.toInt32), nar .byte (u4.toInt8.toInt32), nar .byte (u5.toInt8.toInt32), nar .byte (u6.toInt8.toInt32), nar .byte (u7.toInt8.toInt32)] h0 n0 v U'.heap L ∧ FrameEnd U o U' L ({ frames := 1, cells := 1, slots := 8, locals := 18 } : Room).cells ({ frames := 1, cells := 1, slots := 8, locals := 18 } : Room).slots) := by
  refine MetFree.of_bodySF (plainFor_of_name pn_8) hisR ?_
  intro p e s m args below meth c s₁ Bd hml0 hP hK
  obtain ⟨rfl, hZ, hh⟩ := hP
  have hx := Bd.exec
  have hby := Bd.bytes
  have hml : c.maxLocals = 6 := hml0
  have hown : s.vm.findClass "java/lang/StringUTF16" = some m.cls := findClass_of_methodNamed Bd.named
  have hnm := (name_of_methodNamed Bd.named Bd.method).1
  have X0 : Stand p l e ({ frames := 1, cells := 1, slots := 8, locals := 18 } : Room) s m #[(.ref a1), (.int (0 : Int32)), (.int (8 : Int32))] below meth c s₁ [] 0 0 := Stand.of_body Bd
  have e0 : s₁.heap = h0 := by rw [← hh, Bd.state]; rfl
  have N0 := Fr.nil n0
  obtain ⟨S0, hS0⟩ : ∃ z, z = s₁.setTop (entryFrame m #[(.ref a1), (.int (0 : Int32)), (.int (8 : Int32))] 6) := ⟨_, rfl⟩
  have P0 : own_Pr p.tables e below S0 s₁ (mkF m 0 #[.val (.ref a1), .val (.int (0 : Int32)), .val (.int (8 : Int32)), .unset, .unset, .unset] []) := fun t k => hS0 ▸ castTop (ef_7_8 m a1) k
  have K0 := Keep.refl h0 []
  have P21 : own_Pr p.tables e below S0 s₁ (mkF m 1 #[.val (.ref a1), .val (.int (0 : Int32)), .val (.int (8 : Int32)), .unset, .unset, .unset] [(.int (8 : Int32))]) := fun t k => P0 t (by
    refine XS.iloadN X0.here hx rfl (hb hby d7_0) rfl ?_
    exact k)
  obtain ⟨T22, h22, k22, X22, e22, E22, A22, st22⟩ := newP X0 hx hZ (hw _ (List.mem_of_getElem? (i := 31) rfl)) e0 (g := (mkF m 1 #[.val (.ref a1), .val (.int (0 : Int32)), .val (.int (8 : Int32)), .unset, .unset, .unset] [(.int (8 : Int32))])) rfl (hb hby d7_1) rfl (by decide) (cap := 8) (by decide) (by decide) (by decide) (by decide)
  obtain ⟨b22, g22⟩ : ∃ z, z = h0.size := ⟨_, rfl⟩
  rw [← g22] at A22 st22
  have g_b22 : n0 ≤ b22 := Nat.le_trans Z0 (Nat.le_of_eq g22.symm)
  have sz_b22 : h0.size ≤ b22 := Nat.le_trans K0.1 (Nat.le_of_eq g22.symm)
  have ne_a1_b22 : a1 ≠ b22 := Nat.ne_of_lt (Nat.lt_of_lt_of_le V1.lt (Nat.le_of_eq g22.symm))
  have F23 := V1.ext E22
  have Z24 : n0 ≤ h22.size := Nat.le_trans Z0 E22.1
  have K25 := K0.ext E22
  have F26 : Arv Z h22 b22 k22 .byte (8 : Int32) [(.int (0 : Int32)), (.int (0 : Int32)), (.int (0 : Int32)), (.int (0 : Int32)), (.int (0 : Int32)), (.int (0 : Int32)), (.int (0 : Int32)), (.int (0 : Int32))] (.int (0 : Int32)) := (Arv.new A22 (by decide)).pad (pad_rep [] (.int (0 : Int32)) 8)
  have P27 : own_Pr p.tables e below S0 T22 (mkF m 3 #[.val (.ref a1), .val (.int (0 : Int32)), .val (.int (8 : Int32)), .unset, .unset, .unset] [(.ref b22)]) := fun t k => P21 t (st22 _ k)
  have P28 : own_Pr p.tables e below S0 T22 (mkF m 9 #[.val (.ref a1), .val (.int (0 : Int32)), .val (.int (8 : Int32)), .val (.ref b22), .unset, .unset] [(.int (8 : Int32)), (.int (0 : Int32)), (.ref b22), (.int (0 : Int32)), (.ref a1)]) := fun t k => P27 t (by
    refine XS.astoreN X22.here hx rfl (hb hby d7_3) rfl rfl (l' := #[.val (.ref a1), .val (.int (0 : Int32)), .val (.int (8 : Int32)), .val (.ref b22), .unset, .unset]) rfl ?_
    refine XS.aloadN X22.here hx rfl (hb hby d7_4) rfl rfl ?_
    refine XS.iloadN X22.here hx rfl (hb hby d7_5) rfl ?_
    refine XS.aloadN X22.here hx rfl (hb hby d7_6) rfl rfl ?_
    refine XS.iconst X22.here hx rfl (hb hby d7_7) ?_
    refine XS.iloadN X22.here hx rfl (hb hby d7_8) rfl ?_
    exact k)
  obtain ⟨_, _, ⟨T29, L29, k29, n29⟩, -, X29, ⟨Lc29, hQ29, l29, y29, z29⟩, st29⟩ := Jvm.LawKit.callS X22 hx (y := (⟨"java/lang/StringUTF16", "compress", "([CI[BII)I"⟩ : MethodName)) hown (mvT hZ (hw _ (List.mem_of_getElem? (i := 32) rfl))) (mvT hZ (hw _ (List.mem_of_getElem? (i := 33) rfl))) (mvT hZ (hw _ (List.mem_of_getElem? (i := 29) rfl))) (mvT hZ (hw _ (List.mem_of_getElem? (i := 34) rfl))) (by decide) (backOf (W := 0) (rm8_8 l Z a0 hw [] a1 b22 k1 k22 u0 u1 u2 u3 u4 u5 u6 u7 h22 n0 Z24 F23 F26 g_b22 ne_a1_b22 hl0 hl1 hl2 hl3 hl4 hl5 hl6 hl7) hZ (hw _ (List.mem_of_getElem? (i := 34) rfl)) (hw _ (List.mem_of_getElem? (i := 29) rfl)) (by decide) (by decide)) (g := (mkF m 9 #[.val (.ref a1), .val (.int (0 : Int32)), .val (.int (8 : Int32)), .val (.ref b22), .unset, .unset] [(.int (8 : Int32)), (.int (0 : Int32)), (.ref b22), (.int (0 : Int32)), (.ref a1)])) rfl (by rw [hml]; rfl) (argsL := [(.ref a1), (.int (0 : Int32)), (.ref b22), (.int (0 : Int32)), (.int (8 : Int32))]) (rest := []) (lenOf pd_5 rfl) rfl (by show 2 * 0 + _ ≤ _; exact Nat.le_of_eq rfl) (hb hby d7_9) (fun _ _ => ⟨rfl, e22, (by decide : 1 + 0 ≤ _), (by decide : 8 + 0 ≤ _)⟩)
  dsimp only [Pt.U, Pt.locs, Pt.cells, Pt.slots] at X29 l29 y29 z29 st29 hQ29
  rw [l29, y29, z29] at X29
  have X29 := X29.mono (cells' := 1) (slots' := 8) (by decide) (by decide)
  obtain ⟨rfl, Nq29, Kq29, Vq29⟩ := hQ29
  have N29n := Fr.app N0 Nq29
  have K29n := K25.trans Kq29 (allS (Or.inr sz_b22) all0)
  have Z29n := Nat.le_trans Z24 Kq29.1
  have P30 : own_Pr p.tables e below S0 T29 (mkF m 12 #[.val (.ref a1), .val (.int (0 : Int32)), .val (.int (8 : Int32)), .val (.ref b22), .unset, .unset] [(.int (8 : Int32))]) := fun t k => P28 t (st29 _ k)
  have P31 : own_Pr p.tables e below S0 T29 (mkF m 58 #[.val (.ref a1), .val (.int (0 : Int32)), .val (.int (8 : Int32)), .val (.ref b22), .val (.int (8 : Int32)), .unset] [(.ref b22)]) := fun t k => P30 t (by
    refine XS.istore X29.here hx rfl (hb hby d7_12) rfl (l' := #[.val (.ref a1), .val (.int (0 : Int32)), .val (.int (8 : Int32)), .val (.ref b22), .val (.int (8 : Int32)), .unset]) rfl ?_
    refine XS.iload X29.here hx rfl (hb hby d7_14) rfl ?_
    refine XS.iloadN X29.here hx rfl (hb hby d7_16) rfl ?_
    refine XS.icmpYes X29.here hx rfl (pc0 := 17) (pc' := 57) rfl (hb hby d7_17) rfl (by decide) (by decide) (by decide) ?_
    refine XS.aloadN X29.here hx rfl (hb hby d7_57) rfl rfl ?_
    exact k)
  obtain ⟨fs, hr, hrun, hended, hW, hsame⟩ := X29.leave (v := some (.ref b22)) (fun h => by rw [Bd.returns] at h; cases h)
  have fin : Steps p.tables e below S0 (T29.setFrames fs) := P31 _ (by
    jvm_step X29.here [X29.here.top, hx, (hb hby d7_58), X29.method', Bd.returns, Value.isRef, FieldType.isReference]
    first | (intro acts; rw [hr _ acts rfl rfl rfl]) | rw [hr _ _ rfl rfl rfl]
    exact Steps.refl _)
  rw [hS0] at fin
  refine ⟨_, _, fin, hrun, hended, _, _, rfl, ?_, ⟨_, rfl⟩, hW, hsame.mono (by decide) (by decide)⟩
  show own_QA Z 8 [nar .byte (u0.toInt8.toInt32), nar .byte (u1.toInt8.toInt32), nar .byte (u2.toInt8.toInt32), nar .byte (u3.toInt8.toInt32), nar .byte (u4.toInt8.toInt32), nar .byte (u5.toInt8.toInt32), nar .byte (u6.toInt8.toInt32), nar .byte (u7.toInt8.toInt32)] h0 n0 _ T29.heap _
  exact ⟨_, _, rfl, N29n, K29n, sz_b22, Vq29⟩
theorem d9_0 : decode jdk_52_method_15_code 0 = .ok (.iload_n 1, 1) := by decide +kernel
theorem d9_1 : decode jdk_52_method_15_code 1 = .ok (.aload_n 0, 1) := by decide +kernel
theorem d9_2 : decode jdk_52_method_15_code 2 = .ok (.arraylength, 1) := by decide +kernel
theorem d9_3 : decode jdk_52_method_15_code 3 = .ok (.isub, 1) := by decide +kernel
theorem d9_4 : decode jdk_52_method_15_code 4 = .ok (.bipush 31, 2) := by decide +kernel
theorem d9_6 : decode jdk_52_method_15_code 6 = .ok (.iushr, 1) := by decide +kernel
theorem d9_7 : decode jdk_52_method_15_code 7 = .ok (.i2b, 1) := by decide +kernel
theorem d9_8 : decode jdk_52_method_15_code 8 = .ok (.ireturn, 1) := by decide +kernel
theorem ef_9 (m : MethodId) (a1 : Addr) (p2 : Int32) : entryFrame m #[(.ref a1), (.int p2)] 2 = mkF m 0 #[.val (.ref a1), .val (.int p2)] [] := by first | (simp [entryFrame, mkF, argsToLocals, Value.category]; done) | rfl
set_option maxRecDepth 65536 in
set_option maxHeartbeats 40000000 in
theorem rm9 (l : Launch) (Z : State) (a0 : Array Value) (hw : ∀ d ∈ tables_1, d.before a0 Z = true) (ws : List Jvm.Cond) (a1 : Addr) (p2 : Int32) (kb : ClassId) (vs : List Value) (h0 : Heap) (n0 : Nat) (Z0 : n0 ≤ h0.size) (Av : Arv Z h0 a1 kb .byte p2 vs (.int 0)) :
    MetFree l (⟨"java/lang/StringUTF16", "coderFromArrayLen", "([BI)B"⟩ : MethodName) (head1 (Jvm.Cond.code (⟨"java/lang/StringUTF16", "coderFromArrayLen", "([BI)B"⟩ : MethodName) jdk_52_method_15_code 2 (some .byte) :: ws) ({ frames := 0, cells := 0, slots := 0, locals := 0 } : Room)) (fun a U => a = #[(.ref a1), (.int p2)] ∧ Z.Warmed39 U.vm ∧ U.heap = h0) (fun _ _ _ _ _ => True) (fun _ U o U' => ∃ v L, o = .returned v ∧ own_QI h0 n0 0 v U'.heap L ∧ FrameEnd U o U' L ({ frames := 0, cells := 0, slots := 0, locals := 0 } : Room).cells ({ frames := 0, cells := 0, slots := 0, locals := 0 } : Room).slots) := by
  refine MetFree.of_bodySF (plainFor_of_name pn_8) hisR ?_
  intro p e s m args below meth c s₁ Bd hml0 hP hK
  obtain ⟨rfl, hZ, hh⟩ := hP
  have hx := Bd.exec
  have hby := Bd.bytes
  have hml : c.maxLocals = 2 := hml0
  have hown : s.vm.findClass "java/lang/StringUTF16" = some m.cls := findClass_of_methodNamed Bd.named
  have hnm := (name_of_methodNamed Bd.named Bd.method).1
  have X0 : Stand p l e ({ frames := 0, cells := 0, slots := 0, locals := 0 } : Room) s m #[(.ref a1), (.int p2)] below meth c s₁ [] 0 0 := Stand.of_body Bd
  have e0 : s₁.heap = h0 := by rw [← hh, Bd.state]; rfl
  have N0 := Fr.nil n0
  obtain ⟨S0, hS0⟩ : ∃ z, z = s₁.setTop (entryFrame m #[(.ref a1), (.int p2)] 2) := ⟨_, rfl⟩
  have P0 : own_Pr p.tables e below S0 s₁ (mkF m 0 #[.val (.ref a1), .val (.int p2)] []) := fun t k => hS0 ▸ castTop (ef_9 m a1 p2) k
  have P21 : own_Pr p.tables e below S0 s₁ (mkF m 2 #[.val (.ref a1), .val (.int p2)] [(.ref a1), (.int p2)]) := fun t k => P0 t (by
    refine XS.iloadN X0.here hx rfl (hb hby d9_0) rfl ?_
    refine XS.aloadN X0.here hx rfl (hb hby d9_1) rfl rfl ?_
    exact k)
  obtain ⟨cl22, Ar22, q22, S22, N22, H22, G22⟩ := id Av
  have P23 : own_Pr p.tables e below S0 s₁ (mkF m 8 #[.val (.ref a1), .val (.int p2)] [(.int ((((p2 - p2).toUInt32 >>> ((31 : Int32) &&& 31).toUInt32).toInt32).toInt8.toInt32))]) := fun t k => P21 t (by
    refine X0.arraylength hx (by rw [e0]; exact Ar22.1) (State.isArrayOf_alike hZ.alike Ar22.2.1) (g := (mkF m 2 #[.val (.ref a1), .val (.int p2)] [(.ref a1), (.int p2)])) rfl rfl (hb hby d9_2) _ ?_
    rw [len_of S22 N22]
    show Steps p.tables e below (s₁.setTop (mkF m 3 #[.val (.ref a1), .val (.int p2)] [(.int p2), (.int p2)])) _
    refine XS.isub X0.here hx rfl (hb hby d9_3) rfl ?_
    refine XS.bipush X0.here hx rfl (hb hby d9_4) ?_
    refine XS.iushr X0.here hx rfl (hb hby d9_6) rfl ?_
    refine XS.i2b X0.here hx rfl (hb hby d9_7) rfl ?_
    exact k)
  obtain ⟨fs, hr, hrun, hended, hW, hsame⟩ := X0.leave (v := some (.int ((((p2 - p2).toUInt32 >>> ((31 : Int32) &&& 31).toUInt32).toInt32).toInt8.toInt32))) (fun h => by rw [Bd.returns] at h; cases h)
  have fin : Steps p.tables e below S0 (s₁.setFrames fs) := P23 _ (retN X0 hx (t := .byte) Bd.returns (by simp) (hb hby d9_8) (by rw [(own_narB _)]; exact hr))
  rw [hS0] at fin
  refine ⟨_, _, fin, hrun, hended, _, _, rfl, ?_, ⟨_, rfl⟩, hW, hsame.mono (by decide) (by decide)⟩
  show own_QI h0 n0 0 _ s₁.heap _
  rw [e0]
  exact ⟨_, rfl, own_clen p2, N0, rfl⟩
theorem d5_0 : decode jdk_42_method_149_code 0 = .ok (.aload_n 0, 1) := by decide +kernel
theorem d5_1 : decode jdk_42_method_149_code 1 = .ok (.invokespecial 1, 3) := by decide +kernel
theorem d5_4 : decode jdk_42_method_149_code 4 = .ok (.iload_n 3, 1) := by decide +kernel
theorem d5_5 : decode jdk_42_method_149_code 5 = .ok (.ifCond .ne 22, 3) := by decide +kernel
theorem d5_27 : decode jdk_42_method_149_code 27 = .ok (.getstatic 38, 3) := by decide +kernel
theorem d5_30 : decode jdk_42_method_149_code 30 = .ok (.ifCond .eq 28, 3) := by decide +kernel
theorem d5_33 : decode jdk_42_method_149_code 33 = .ok (.aload_n 1, 1) := by decide +kernel
theorem d5_34 : decode jdk_42_method_149_code 34 = .ok (.iload_n 2, 1) := by decide +kernel
theorem d5_35 : decode jdk_42_method_149_code 35 = .ok (.iload_n 3, 1) := by decide +kernel
theorem d5_36 : decode jdk_42_method_149_code 36 = .ok (.invokestatic 177, 3) := by decide +kernel
theorem d5_39 : decode jdk_42_method_149_code 39 = .ok (.astore 5, 2) := by decide +kernel
theorem d5_41 : decode jdk_42_method_149_code 41 = .ok (.aload_n 0, 1) := by decide +kernel
theorem d5_42 : decode jdk_42_method_149_code 42 = .ok (.aload 5, 2) := by decide +kernel
theorem d5_44 : decode jdk_42_method_149_code 44 = .ok (.iload_n 3, 1) := by decide +kernel
theorem d5_45 : decode jdk_42_method_149_code 45 = .ok (.invokestatic 47, 3) := by decide +kernel
theorem d5_48 : decode jdk_42_method_149_code 48 = .ok (.putfield 15, 3) := by decide +kernel
theorem d5_51 : decode jdk_42_method_149_code 51 = .ok (.aload_n 0, 1) := by decide +kernel
theorem d5_52 : decode jdk_42_method_149_code 52 = .ok (.aload 5, 2) := by decide +kernel
theorem d5_54 : decode jdk_42_method_149_code 54 = .ok (.putfield 9, 3) := by decide +kernel
theorem d5_57 : decode jdk_42_method_149_code 57 = .ok (.return_, 1) := by decide +kernel
theorem pd_6 : parseMethodDescriptor "([CII)[B" = some ⟨[(.array .char), .int, .int], some (.array .byte)⟩ := by decide +kernel
theorem pd_7 : parseMethodDescriptor "([BI)B" = some ⟨[(.array .byte), .int], some .byte⟩ := by decide +kernel
theorem ef_5_8 (m : MethodId) (a1 : Addr) (a2 : Addr) : entryFrame m #[(.ref a1), (.ref a2), (.int (0 : Int32)), (.int (8 : Int32)), .null] 6 = mkF m 0 #[.val (.ref a1), .val (.ref a2), .val (.int (0 : Int32)), .val (.int (8 : Int32)), .val .null, .unset] [] := by first | (simp [entryFrame, mkF, argsToLocals, Value.category]; done) | rfl
set_option maxRecDepth 65536 in
set_option maxHeartbeats 40000000 in
theorem rm5_8 (l : Launch) (Z : State) (a0 : Array Value) (hw : ∀ d ∈ tables_1, d.before a0 Z = true) (ws : List Jvm.Cond) (a1 : Addr) (a2 : Addr) (k2 : ClassId) (cs : Int32) (u0 u1 u2 u3 u4 u5 u6 u7 : Int32) (h0 : Heap) (n0 : Nat) (Z0 : n0 ≤ h0.size) (E1 : Exa Z h0 a1 "java/lang/String") (F1 : Fld Z h0 a1 "java/lang/String" "coder" "B" (.int (0 : Int32))) (F2 : Fld Z h0 a1 "java/lang/String" "value" "[B" .null) (g_a1 : n0 ≤ a1) (V2 : Arv Z h0 a2 k2 .char 8 [(.int u0), (.int u1), (.int u2), (.int u3), (.int u4), (.int u5), (.int u6), (.int u7)] (.int (0 : Int32))) (CS : Sta Z h0 "java/lang/String" "COMPACT_STRINGS" "Z" (.int cs)) (hcs : ¬ cs = (0 : Int32)) (hl0 : ¬ ((255 : Int32) < u0)) (hl1 : ¬ ((255 : Int32) < u1)) (hl2 : ¬ ((255 : Int32) < u2)) (hl3 : ¬ ((255 : Int32) < u3)) (hl4 : ¬ ((255 : Int32) < u4)) (hl5 : ¬ ((255 : Int32) < u5)) (hl6 : ¬ ((255 : Int32) < u6)) (hl7 : ¬ ((255 : Int32) < u7)) :
    MetFree l (⟨"java/lang/String", "<init>", "([CIILjava/lang/Void;)V"⟩ : MethodName) (head1 (Jvm.Cond.code (⟨"java/lang/String", "<init>", "([CIILjava/lang/Void;)V"⟩ : MethodName) jdk_42_method_149_code 6 none :: ws) ({ frames := 2, cells := 1, slots := 8, locals := 35 } : Room)) (fun a U => a = #[(.ref a1), (.ref a2), (.int (0 : Int32)), (.int (8 : Int32)), .null] ∧ Z.Warmed39 U.vm ∧ U.heap = h0) (fun _ _ _ _ _ => True) (fun _ U o U' => ∃ v L, o = .returned v ∧ own_QC Z a1 8 [nar .byte (u0.toInt8.toInt32), nar .byte (u1.toInt8.toInt32), nar .byte (u2.toInt8.toInt32), nar .byte (u3.toInt8.toInt32), nar .byte (u4.toInt8.toInt32), nar .byte (u5.toInt8.toInt32), nar .byte (u6.toInt8.toInt32), nar .byte (u7.toInt8.toInt32)] h0 n0 v U'.heap L ∧ FrameEnd U o U' L ({ frames := 2, cells := 1, slots := 8, locals := 35 } : Room).cells ({ frames := 2, cells := 1, slots := 8, locals := 35 } : Room).slots) := by
  refine MetFree.of_bodySF (plainFor_of_name pn_14) hisR ?_
  intro p e s m args below meth c s₁ Bd hml0 hP hK
  obtain ⟨rfl, hZ, hh⟩ := hP
  have hx := Bd.exec
  have hby := Bd.bytes
  have hml : c.maxLocals = 6 := hml0
  have hown : s.vm.findClass "java/lang/String" = some m.cls := findClass_of_methodNamed Bd.named
  have hnm := (name_of_methodNamed Bd.named Bd.method).1
  have X0 : Stand p l e ({ frames := 2, cells := 1, slots := 8, locals := 35 } : Room) s m #[(.ref a1), (.ref a2), (.int (0 : Int32)), (.int (8 : Int32)), .null] below meth c s₁ [] 0 0 := Stand.of_body Bd
  have e0 : s₁.heap = h0 := by rw [← hh, Bd.state]; rfl
  have N0 := Fr.nil n0
  obtain ⟨S0, hS0⟩ : ∃ z, z = s₁.setTop (entryFrame m #[(.ref a1), (.ref a2), (.int (0 : Int32)), (.int (8 : Int32)), .null] 6) := ⟨_, rfl⟩
  have P0 : own_Pr p.tables e below S0 s₁ (mkF m 0 #[.val (.ref a1), .val (.ref a2), .val (.int (0 : Int32)), .val (.int (8 : Int32)), .val .null, .unset] []) := fun t k => hS0 ▸ castTop (ef_5_8 m a1 a2) k
  have K0 := Keep.refl h0 [a1]
  have P21 : own_Pr p.tables e below S0 s₁ (mkF m 1 #[.val (.ref a1), .val (.ref a2), .val (.int (0 : Int32)), .val (.int (8 : Int32)), .val .null, .unset] [(.ref a1)]) := fun t k => P0 t (by
    refine XS.aloadN X0.here hx rfl (hb hby d5_0) rfl rfl ?_
    exact k)
  obtain ⟨T22, X22, e22, st22⟩ := initO X0 hx hZ hown (hw _ (List.mem_of_getElem? (i := 23) rfl)) (hw _ (List.mem_of_getElem? (i := 24) rfl)) (hw _ (List.mem_of_getElem? (i := 25) rfl)) e0 (g := (mkF m 1 #[.val (.ref a1), .val (.ref a2), .val (.int (0 : Int32)), .val (.int (8 : Int32)), .val .null, .unset] [(.ref a1)])) rfl (by rw [hml]; rfl) rfl (hb hby d5_1) (by decide) (W := 0) (by show 2 * 0 + _ ≤ _; exact Nat.le_of_eq rfl) (by decide)
  have P23 : own_Pr p.tables e below S0 T22 (mkF m 4 #[.val (.ref a1), .val (.ref a2), .val (.int (0 : Int32)), .val (.int (8 : Int32)), .val .null, .unset] []) := fun t k => P21 t (st22 _ k)
  have P24 : own_Pr p.tables e below S0 T22 (mkF m 27 #[.val (.ref a1), .val (.ref a2), .val (.int (0 : Int32)), .val (.int (8 : Int32)), .val .null, .unset] []) := fun t k => P23 t (by
    refine XS.iloadN X22.here hx rfl (hb hby d5_4) rfl ?_
    refine XS.ifYes X22.here hx rfl (pc0 := 5) (pc' := 27) rfl (hb hby d5_5) rfl (by decide) (by decide) (by decide) ?_
    exact k)
  obtain ⟨T25, X25, e25, st25⟩ := getS2 X22 hx hZ hown (host := "") (Or.inl (hw _ (List.mem_of_getElem? (i := 26) rfl))) Via.refl e22 CS (g := (mkF m 27 #[.val (.ref a1), .val (.ref a2), .val (.int (0 : Int32)), .val (.int (8 : Int32)), .val .null, .unset] [])) rfl (hb hby d5_27)
  have P26 : own_Pr p.tables e below S0 T25 (mkF m 30 #[.val (.ref a1), .val (.ref a2), .val (.int (0 : Int32)), .val (.int (8 : Int32)), .val .null, .unset] [(.int cs)]) := fun t k => P24 t (st25 _ k)
  have P27 : own_Pr p.tables e below S0 T25 (mkF m 36 #[.val (.ref a1), .val (.ref a2), .val (.int (0 : Int32)), .val (.int (8 : Int32)), .val .null, .unset] [(.int (8 : Int32)), (.int (0 : Int32)), (.ref a2)]) := fun t k => P26 t (by
    refine XS.ifNo X25.here hx rfl (hb hby d5_30) rfl (XT.i0_eq_f hcs) ?_
    refine XS.aloadN X25.here hx rfl (hb hby d5_33) rfl rfl ?_
    refine XS.iloadN X25.here hx rfl (hb hby d5_34) rfl ?_
    refine XS.iloadN X25.here hx rfl (hb hby d5_35) rfl ?_
    exact k)
  obtain ⟨_, _, ⟨T28, L28, k28, n28⟩, -, X28, ⟨Lc28, hQ28, l28, y28, z28⟩, st28⟩ := Jvm.LawKit.callS X25 hx (y := (⟨"java/lang/StringUTF16", "compress", "([CII)[B"⟩ : MethodName)) hown (mvT hZ (hw _ (List.mem_of_getElem? (i := 27) rfl))) (mvT hZ (hw _ (List.mem_of_getElem? (i := 28) rfl))) (mvT hZ (hw _ (List.mem_of_getElem? (i := 29) rfl))) (mvT hZ (hw _ (List.mem_of_getElem? (i := 30) rfl))) (by decide) (backOf (W := 0) (rm7_8 l Z a0 hw [] a2 k2 u0 u1 u2 u3 u4 u5 u6 u7 h0 n0 Z0 V2 hl0 hl1 hl2 hl3 hl4 hl5 hl6 hl7) hZ (hw _ (List.mem_of_getElem? (i := 30) rfl)) (hw _ (List.mem_of_getElem? (i := 29) rfl)) (by decide) (by decide)) (g := (mkF m 36 #[.val (.ref a1), .val (.ref a2), .val (.int (0 : Int32)), .val (.int (8 : Int32)), .val .null, .unset] [(.int (8 : Int32)), (.int (0 : Int32)), (.ref a2)])) rfl (by rw [hml]; rfl) (argsL := [(.ref a2), (.int (0 : Int32)), (.int (8 : Int32))]) (rest := []) (lenOf pd_6 rfl) rfl (by show 2 * 0 + _ ≤ _; exact Nat.le_of_eq rfl) (hb hby d5_36) (fun _ _ => ⟨rfl, e25, (by decide : 0 + 1 ≤ _), (by decide : 0 + 8 ≤ _)⟩)
  dsimp only [Pt.U, Pt.locs, Pt.cells, Pt.slots] at X28 l28 y28 z28 st28 hQ28
  rw [l28, y28, z28] at X28
  have X28 := X28.mono (cells' := 1) (slots' := 8) (by decide) (by decide)
  obtain ⟨b28, kk28, rfl, Nq28, Kq28, sz28, Vq28⟩ := hQ28
  have N28n := Fr.app N0 Nq28
  have ne_b28_a1 : b28 ≠ a1 := (Nat.ne_of_lt (Nat.lt_of_lt_of_le E1.lt sz28)).symm
  have szb : h0.size ≤ b28 := Nat.le_trans K0.1 sz28
  have F29 := own_sta_keep0 CS Kq28
  have F30 := E1.keep Kq28
  have F31 := F1.keep Kq28 nin0
  have F32 := F2.keep Kq28 nin0
  have K28n := K0.trans Kq28 all0
  have Z28n := Nat.le_trans Z0 Kq28.1
  have P33 : own_Pr p.tables e below S0 T28 (mkF m 39 #[.val (.ref a1), .val (.ref a2), .val (.int (0 : Int32)), .val (.int (8 : Int32)), .val .null, .unset] [(.ref b28)]) := fun t k => P27 t (st28 _ k)
  have P34 : own_Pr p.tables e below S0 T28 (mkF m 45 #[.val (.ref a1), .val (.ref a2), .val (.int (0 : Int32)), .val (.int (8 : Int32)), .val .null, .val (.ref b28)] [(.int (8 : Int32)), (.ref b28), (.ref a1)]) := fun t k => P33 t (by
    refine XS.astore X28.here hx rfl (hb hby d5_39) rfl rfl (l' := #[.val (.ref a1), .val (.ref a2), .val (.int (0 : Int32)), .val (.int (8 : Int32)), .val .null, .val (.ref b28)]) rfl ?_
    refine XS.aloadN X28.here hx rfl (hb hby d5_41) rfl rfl ?_
    refine XS.aload X28.here hx rfl (hb hby d5_42) rfl rfl ?_
    refine XS.iloadN X28.here hx rfl (hb hby d5_44) rfl ?_
    exact k)
  obtain ⟨_, _, ⟨T35, L35, k35, n35⟩, -, X35, ⟨Lc35, hQ35, l35, y35, z35⟩, st35⟩ := Jvm.LawKit.callS X28 hx (y := (⟨"java/lang/StringUTF16", "coderFromArrayLen", "([BI)B"⟩ : MethodName)) hown (mvT hZ (hw _ (List.mem_of_getElem? (i := 35) rfl))) (mvT hZ (hw _ (List.mem_of_getElem? (i := 36) rfl))) (mvT hZ (hw _ (List.mem_of_getElem? (i := 29) rfl))) (mvT hZ (hw _ (List.mem_of_getElem? (i := 37) rfl))) (by decide) (backOf (W := 1) (rm9 l Z a0 hw [] b28 8 kk28 _ T28.heap n0 Z28n Vq28) hZ (hw _ (List.mem_of_getElem? (i := 37) rfl)) (hw _ (List.mem_of_getElem? (i := 29) rfl)) (by decide) (by decide)) (g := (mkF m 45 #[.val (.ref a1), .val (.ref a2), .val (.int (0 : Int32)), .val (.int (8 : Int32)), .val .null, .val (.ref b28)] [(.int (8 : Int32)), (.ref b28), (.ref a1)])) rfl (by rw [hml]; rfl) (argsL := [(.ref b28), (.int (8 : Int32))]) (rest := [(.ref a1)]) (lenOf pd_7 rfl) rfl (by show 2 * 0 + _ ≤ _; exact Nat.le_of_eq rfl) (hb hby d5_45) (fun _ _ => ⟨rfl, rfl, (by decide : 1 + 0 ≤ _), (by decide : 8 + 0 ≤ _)⟩)
  dsimp only [Pt.U, Pt.locs, Pt.cells, Pt.slots] at X35 l35 y35 z35 st35 hQ35
  rw [l35, y35, z35] at X35
  have X35 := X35.mono (cells' := 1) (slots' := 8) (by decide) (by decide)
  obtain ⟨z35v, rfl, hz35v, Nq35, eq35⟩ := hQ35
  have N35n := Fr.app N28n Nq35
  have hy35 := hz35v.symm; subst hy35
  have P36 : own_Pr p.tables e below S0 T35 (mkF m 48 #[.val (.ref a1), .val (.ref a2), .val (.int (0 : Int32)), .val (.int (8 : Int32)), .val .null, .val (.ref b28)] [(.int (0 : Int32)), (.ref a1)]) := fun t k => P34 t (st35 _ k)
  obtain ⟨T37, h37, X37, e37, W37, st37⟩ := putFN X35 hx hZ hown (hw _ (List.mem_of_getElem? (i := 38) rfl)) Via.refl eq35 F31 F30 (Or.inr ⟨(hw _ (List.mem_of_getElem? (i := 39) rfl)), rfl, hnm⟩) (hw _ (List.mem_of_getElem? (i := 14) rfl)) (ty := .byte) (v' := (.int (0 : Int32))) (by decide) rfl rfl (g := (mkF m 48 #[.val (.ref a1), .val (.ref a2), .val (.int (0 : Int32)), .val (.int (8 : Int32)), .val .null, .val (.ref b28)] [(.int (0 : Int32)), (.ref a1)])) rfl rfl (hb hby d5_48)
  have F37 := F31.same W37
  have F38 := F29.wr W37
  have F39 := F30.wr W37
  have F40 := F32.other W37 (Or.inr (slot_ne (Or.inr (hw _ (List.mem_of_getElem? (i := 41) rfl))) (Or.inr (hw _ (List.mem_of_getElem? (i := 39) rfl))) (by decide) (t := (.array .byte)) (t' := .byte) (by decide) (by decide)))
  have F41 := Vq28.other W37 ne_b28_a1
  have Z42 : n0 ≤ h37.size := by rw [W37.size]; exact Z28n
  have NF37 := Fr.snoc X37 N35n g_a1
  have K43 := K28n.wr W37 (Or.inl (List.mem_of_getElem? (i := 0) rfl))
  have P44 : own_Pr p.tables e below S0 T37 (mkF m 51 #[.val (.ref a1), .val (.ref a2), .val (.int (0 : Int32)), .val (.int (8 : Int32)), .val .null, .val (.ref b28)] []) := fun t k => P36 t (st37 _ k)
  have P45 : own_Pr p.tables e below S0 T37 (mkF m 54 #[.val (.ref a1), .val (.ref a2), .val (.int (0 : Int32)), .val (.int (8 : Int32)), .val .null, .val (.ref b28)] [(.ref b28), (.ref a1)]) := fun t k => P44 t (by
    refine XS.aloadN X37.here hx rfl (hb hby d5_51) rfl rfl ?_
    refine XS.aload X37.here hx rfl (hb hby d5_52) rfl rfl ?_
    exact k)
  obtain ⟨T46, h46, X46, e46, W46, st46⟩ := putF X37 hx hZ hown (host := "") (Or.inl (hw _ (List.mem_of_getElem? (i := 40) rfl))) Via.refl e37 F40 F39 (Or.inr ⟨(hw _ (List.mem_of_getElem? (i := 41) rfl)), rfl, hnm⟩) (hw _ (List.mem_of_getElem? (i := 14) rfl)) (ty := (.array .byte)) (by decide) rfl rfl (g := (mkF m 54 #[.val (.ref a1), .val (.ref a2), .val (.int (0 : Int32)), .val (.int (8 : Int32)), .val .null, .val (.ref b28)] [(.ref b28), (.ref a1)])) rfl rfl (hb hby d5_54)
  have F46 := F40.same W46
  have F47 := F38.wr W46
  have F48 := F39.wr W46
  have F49 := F37.other W46 (Or.inr (slot_ne (Or.inr (hw _ (List.mem_of_getElem? (i := 39) rfl))) (Or.inr (hw _ (List.mem_of_getElem? (i := 41) rfl))) (by decide) (t := .byte) (t' := (.array .byte)) (by decide) (by decide)))
  have F50 := F41.other W46 ne_b28_a1
  have Z51 : n0 ≤ h46.size := by rw [W46.size]; exact Z42
  have NF46 := Fr.snoc X46 NF37 g_a1
  have K52 := K43.wr W46 (Or.inl (List.mem_of_getElem? (i := 0) rfl))
  have P53 : own_Pr p.tables e below S0 T46 (mkF m 57 #[.val (.ref a1), .val (.ref a2), .val (.int (0 : Int32)), .val (.int (8 : Int32)), .val .null, .val (.ref b28)] []) := fun t k => P45 t (st46 _ k)
  obtain ⟨fs, hr, hrun, hended, hW, hsame⟩ := X46.leave (v := none) (fun _ => rfl)
  have fin : Steps p.tables e below S0 (T46.setFrames fs) := P53 _ (X46.returnOut hx Bd.returns (hb hby d5_57) hr)
  rw [hS0] at fin
  refine ⟨_, _, fin, hrun, hended, _, _, rfl, ?_, ⟨_, rfl⟩, hW, hsame.mono (by decide) (by decide)⟩
  show own_QC Z a1 8 [nar .byte (u0.toInt8.toInt32), nar .byte (u1.toInt8.toInt32), nar .byte (u2.toInt8.toInt32), nar .byte (u3.toInt8.toInt32), nar .byte (u4.toInt8.toInt32), nar .byte (u5.toInt8.toInt32), nar .byte (u6.toInt8.toInt32), nar .byte (u7.toInt8.toInt32)] h0 n0 _ T46.heap _
  rw [e46]
  exact ⟨rfl, NF46, K52, _, _, szb, F48, F49, F46, F50⟩
theorem d4_0 : decode jdk_42_method_3_code 0 = .ok (.aload_n 0, 1) := by decide +kernel
theorem d4_1 : decode jdk_42_method_3_code 1 = .ok (.aload_n 1, 1) := by decide +kernel
theorem d4_2 : decode jdk_42_method_3_code 2 = .ok (.iconst 0, 1) := by decide +kernel
theorem d4_3 : decode jdk_42_method_3_code 3 = .ok (.aload_n 1, 1) := by decide +kernel
theorem d4_4 : decode jdk_42_method_3_code 4 = .ok (.arraylength, 1) := by decide +kernel
theorem d4_5 : decode jdk_42_method_3_code 5 = .ok (.aconst_null, 1) := by decide +kernel
theorem d4_6 : decode jdk_42_method_3_code 6 = .ok (.invokespecial 27, 3) := by decide +kernel
theorem d4_9 : decode jdk_42_method_3_code 9 = .ok (.return_, 1) := by decide +kernel
theorem pd_8 : parseMethodDescriptor "([CIILjava/lang/Void;)V" = some ⟨[(.array .char), .int, .int, (.object "java/lang/Void")], none⟩ := by decide +kernel
theorem ef_4_8 (m : MethodId) (a1 : Addr) (a2 : Addr) : entryFrame m #[(.ref a1), (.ref a2)] 2 = mkF m 0 #[.val (.ref a1), .val (.ref a2)] [] := by first | (simp [entryFrame, mkF, argsToLocals, Value.category]; done) | rfl
set_option maxRecDepth 65536 in
set_option maxHeartbeats 40000000 in
theorem rm4_8 (l : Launch) (Z : State) (a0 : Array Value) (hw : ∀ d ∈ tables_1, d.before a0 Z = true) (ws : List Jvm.Cond) (a1 : Addr) (a2 : Addr) (k2 : ClassId) (cs : Int32) (u0 u1 u2 u3 u4 u5 u6 u7 : Int32) (h0 : Heap) (n0 : Nat) (Z0 : n0 ≤ h0.size) (E1 : Exa Z h0 a1 "java/lang/String") (F1 : Fld Z h0 a1 "java/lang/String" "coder" "B" (.int (0 : Int32))) (F2 : Fld Z h0 a1 "java/lang/String" "value" "[B" .null) (g_a1 : n0 ≤ a1) (V2 : Arv Z h0 a2 k2 .char 8 [(.int u0), (.int u1), (.int u2), (.int u3), (.int u4), (.int u5), (.int u6), (.int u7)] (.int (0 : Int32))) (CS : Sta Z h0 "java/lang/String" "COMPACT_STRINGS" "Z" (.int cs)) (hcs : ¬ cs = (0 : Int32)) (hl0 : ¬ ((255 : Int32) < u0)) (hl1 : ¬ ((255 : Int32) < u1)) (hl2 : ¬ ((255 : Int32) < u2)) (hl3 : ¬ ((255 : Int32) < u3)) (hl4 : ¬ ((255 : Int32) < u4)) (hl5 : ¬ ((255 : Int32) < u5)) (hl6 : ¬ ((255 : Int32) < u6)) (hl7 : ¬ ((255 : Int32) < u7)) :
    MetFree l (⟨"java/lang/String", "<init>", "([C)V"⟩ : MethodName) (head1 (Jvm.Cond.code (⟨"java/lang/String", "<init>", "([C)V"⟩ : MethodName) jdk_42_method_3_code 2 none :: ws) ({ frames := 3, cells := 1, slots := 8, locals := 52 } : Room)) (fun a U => a = #[(.ref a1), (.ref a2)] ∧ Z.Warmed39 U.vm ∧ U.heap = h0) (fun _ _ _ _ _ => True) (fun _ U o U' => ∃ v L, o = .returned v ∧ own_QC Z a1 8 [nar .byte (u0.toInt8.toInt32), nar .byte (u1.toInt8.toInt32), nar .byte (u2.toInt8.toInt32), nar .byte (u3.toInt8.toInt32), nar .byte (u4.toInt8.toInt32), nar .byte (u5.toInt8.toInt32), nar .byte (u6.toInt8.toInt32), nar .byte (u7.toInt8.toInt32)] h0 n0 v U'.heap L ∧ FrameEnd U o U' L ({ frames := 3, cells := 1, slots := 8, locals := 52 } : Room).cells ({ frames := 3, cells := 1, slots := 8, locals := 52 } : Room).slots) := by
  refine MetFree.of_bodySF (plainFor_of_name pn_14) hisR ?_
  intro p e s m args below meth c s₁ Bd hml0 hP hK
  obtain ⟨rfl, hZ, hh⟩ := hP
  have hx := Bd.exec
  have hby := Bd.bytes
  have hml : c.maxLocals = 2 := hml0
  have hown : s.vm.findClass "java/lang/String" = some m.cls := findClass_of_methodNamed Bd.named
  have hnm := (name_of_methodNamed Bd.named Bd.method).1
  have X0 : Stand p l e ({ frames := 3, cells := 1, slots := 8, locals := 52 } : Room) s m #[(.ref a1), (.ref a2)] below meth c s₁ [] 0 0 := Stand.of_body Bd
  have e0 : s₁.heap = h0 := by rw [← hh, Bd.state]; rfl
  have N0 := Fr.nil n0
  obtain ⟨S0, hS0⟩ : ∃ z, z = s₁.setTop (entryFrame m #[(.ref a1), (.ref a2)] 2) := ⟨_, rfl⟩
  have P0 : own_Pr p.tables e below S0 s₁ (mkF m 0 #[.val (.ref a1), .val (.ref a2)] []) := fun t k => hS0 ▸ castTop (ef_4_8 m a1 a2) k
  have P21 : own_Pr p.tables e below S0 s₁ (mkF m 4 #[.val (.ref a1), .val (.ref a2)] [(.ref a2), (.int (0 : Int32)), (.ref a2), (.ref a1)]) := fun t k => P0 t (by
    refine XS.aloadN X0.here hx rfl (hb hby d4_0) rfl rfl ?_
    refine XS.aloadN X0.here hx rfl (hb hby d4_1) rfl rfl ?_
    refine XS.iconst X0.here hx rfl (hb hby d4_2) ?_
    refine XS.aloadN X0.here hx rfl (hb hby d4_3) rfl rfl ?_
    exact k)
  obtain ⟨cl22, Ar22, q22, S22, N22, H22, G22⟩ := id V2
  have P23 : own_Pr p.tables e below S0 s₁ (mkF m 6 #[.val (.ref a1), .val (.ref a2)] [.null, (.int (8 : Int32)), (.int (0 : Int32)), (.ref a2), (.ref a1)]) := fun t k => P21 t (by
    refine X0.arraylength hx (by rw [e0]; exact Ar22.1) (State.isArrayOf_alike hZ.alike Ar22.2.1) (g := (mkF m 4 #[.val (.ref a1), .val (.ref a2)] [(.ref a2), (.int (0 : Int32)), (.ref a2), (.ref a1)])) rfl rfl (hb hby d4_4) _ ?_
    rw [len_of S22 N22]
    show Steps p.tables e below (s₁.setTop (mkF m 5 #[.val (.ref a1), .val (.ref a2)] [(.int (8 : Int32)), (.int (0 : Int32)), (.ref a2), (.ref a1)])) _
    refine XS.aconstNull X0.here hx rfl (hb hby d4_5) ?_
    exact k)
  obtain ⟨_, _, ⟨T24, L24, k24, n24⟩, -, X24, ⟨Lc24, hQ24, l24, y24, z24⟩, st24⟩ := X0.specialBack hx (y := (⟨"java/lang/String", "<init>", "([CIILjava/lang/Void;)V"⟩ : MethodName)) rfl hown (mvT hZ (hw _ (List.mem_of_getElem? (i := 19) rfl))) (mvT hZ (hw _ (List.mem_of_getElem? (i := 20) rfl))) (mvT hZ (hw _ (List.mem_of_getElem? (i := 22) rfl))) (by decide) (backOf (W := 0) (rm5_8 l Z a0 hw [] a1 a2 k2 cs u0 u1 u2 u3 u4 u5 u6 u7 h0 n0 Z0 E1 F1 F2 g_a1 V2 CS hcs hl0 hl1 hl2 hl3 hl4 hl5 hl6 hl7) hZ (hw _ (List.mem_of_getElem? (i := 22) rfl)) (hw _ (List.mem_of_getElem? (i := 15) rfl)) (by decide) (by decide)) (g := (mkF m 6 #[.val (.ref a1), .val (.ref a2)] [.null, (.int (8 : Int32)), (.int (0 : Int32)), (.ref a2), (.ref a1)])) rfl (by rw [hml]; rfl) (Steps.refl _) (a := a1) (argsL := [(.ref a2), (.int (0 : Int32)), (.int (8 : Int32)), .null]) (rest := []) (lenOf pd_8 rfl) rfl (by show 2 * 0 + _ ≤ _; exact Nat.le_of_eq rfl) (hb hby d4_6) (fun _ _ => ⟨rfl, e0, (by decide : 0 + 1 ≤ _), (by decide : 0 + 8 ≤ _)⟩)
  dsimp only [Pt.U, Pt.locs, Pt.cells, Pt.slots] at X24 l24 y24 z24 st24 hQ24
  rw [l24, y24, z24] at X24
  have X24 := X24.mono (cells' := 1) (slots' := 8) (by decide) (by decide)
  obtain ⟨rfl, Nq24, Kq24, Rq24⟩ := hQ24
  have N24n := Fr.app N0 Nq24
  have P25 : own_Pr p.tables e below S0 T24 (mkF m 9 #[.val (.ref a1), .val (.ref a2)] []) := fun t k => P23 t (st24.trans k)
  obtain ⟨fs, hr, hrun, hended, hW, hsame⟩ := X24.leave (v := none) (fun _ => rfl)
  have fin : Steps p.tables e below S0 (T24.setFrames fs) := P25 _ (X24.returnOut hx Bd.returns (hb hby d4_9) hr)
  rw [hS0] at fin
  refine ⟨_, _, fin, hrun, hended, _, _, rfl, ?_, ⟨_, rfl⟩, hW, hsame.mono (by decide) (by decide)⟩
  show own_QC Z a1 8 [nar .byte (u0.toInt8.toInt32), nar .byte (u1.toInt8.toInt32), nar .byte (u2.toInt8.toInt32), nar .byte (u3.toInt8.toInt32), nar .byte (u4.toInt8.toInt32), nar .byte (u5.toInt8.toInt32), nar .byte (u6.toInt8.toInt32), nar .byte (u7.toInt8.toInt32)] h0 n0 _ T24.heap _
  exact ⟨rfl, N24n, Kq24, Rq24⟩
theorem d3_0 : decode method_5_code 0 = .ok (.iload_n 0, 1) := by decide +kernel
theorem d3_1 : decode method_5_code 1 = .ok (.iload_n 1, 1) := by decide +kernel
theorem d3_2 : decode method_5_code 2 = .ok (.iushr, 1) := by decide +kernel
theorem d3_3 : decode method_5_code 3 = .ok (.iconst 1, 1) := by decide +kernel
theorem d3_4 : decode method_5_code 4 = .ok (.iand, 1) := by decide +kernel
theorem d3_5 : decode method_5_code 5 = .ok (.ifCond .eq 8, 3) := by decide +kernel
theorem d3_8 : decode method_5_code 8 = .ok (.bipush 9, 2) := by decide +kernel
theorem d3_10 : decode method_5_code 10 = .ok (.goto 5, 3) := by decide +kernel
theorem d3_13 : decode method_5_code 13 = .ok (.bipush 32, 2) := by decide +kernel
theorem d3_15 : decode method_5_code 15 = .ok (.ireturn, 1) := by decide +kernel
theorem pn_3 : plainName "com/example/twince/twince/IdempotencyKeyParsePinLaw" = true := by first | (simp [plainName, overriddenIn]; done) | decide +kernel
theorem ef_3 (m : MethodId) (p1 : Int32) (p2 : Int32) : entryFrame m #[(.int p1), (.int p2)] 2 = mkF m 0 #[.val (.int p1), .val (.int p2)] [] := by first | (simp [entryFrame, mkF, argsToLocals, Value.category]; done) | rfl
def own_f3 (p1 : Int32) (p2 : Int32) : Int32 := (if (((p1.toUInt32 >>> (p2 &&& 31).toUInt32).toInt32) &&& (1 : Int32)) = (0 : Int32) then (32 : Int32) else (9 : Int32))
set_option maxRecDepth 65536 in
set_option maxHeartbeats 40000000 in
theorem rm3 (l : Launch) (Z : State) (a0 : Array Value) (hw : ∀ d ∈ tables_1, d.before a0 Z = true) (ws : List Jvm.Cond) (p1 : Int32) (p2 : Int32)  (h0 : Heap) (n0 : Nat) (Z0 : n0 ≤ h0.size) :
    MetFree l (⟨"com/example/twince/twince/IdempotencyKeyParsePinLaw", "blank", "(II)C"⟩ : MethodName) (head1 (Jvm.Cond.code (⟨"com/example/twince/twince/IdempotencyKeyParsePinLaw", "blank", "(II)C"⟩ : MethodName) method_5_code 2 (some .char) :: ws) ({ frames := 0, cells := 0, slots := 0, locals := 0 } : Room)) (fun a U => a = #[(.int p1), (.int p2)] ∧ Z.Warmed39 U.vm ∧ U.heap = h0) (fun _ _ _ _ _ => True) (fun _ U o U' => ∃ v L, o = .returned v ∧ own_QI h0 n0 (own_f3 p1 p2) v U'.heap L ∧ FrameEnd U o U' L ({ frames := 0, cells := 0, slots := 0, locals := 0 } : Room).cells ({ frames := 0, cells := 0, slots := 0, locals := 0 } : Room).slots) := by
  refine MetFree.of_bodySF (plainFor_of_name pn_3) hisR ?_
  intro p e s m args below meth c s₁ Bd hml0 hP hK
  obtain ⟨rfl, hZ, hh⟩ := hP
  have hx := Bd.exec
  have hby := Bd.bytes
  have hml : c.maxLocals = 2 := hml0
  have hown : s.vm.findClass "com/example/twince/twince/IdempotencyKeyParsePinLaw" = some m.cls := findClass_of_methodNamed Bd.named
  have hnm := (name_of_methodNamed Bd.named Bd.method).1
  have X0 : Stand p l e ({ frames := 0, cells := 0, slots := 0, locals := 0 } : Room) s m #[(.int p1), (.int p2)] below meth c s₁ [] 0 0 := Stand.of_body Bd
  have e0 : s₁.heap = h0 := by rw [← hh, Bd.state]; rfl
  have N0 := Fr.nil n0
  obtain ⟨S0, hS0⟩ : ∃ z, z = s₁.setTop (entryFrame m #[(.int p1), (.int p2)] 2) := ⟨_, rfl⟩
  have P0 : own_Pr p.tables e below S0 s₁ (mkF m 0 #[.val (.int p1), .val (.int p2)] []) := fun t k => hS0 ▸ castTop (ef_3 m p1 p2) k
  have P21 : own_Pr p.tables e below S0 s₁ (mkF m 5 #[.val (.int p1), .val (.int p2)] [(.int (((p1.toUInt32 >>> (p2 &&& 31).toUInt32).toInt32) &&& (1 : Int32)))]) := fun t k => P0 t (by
    refine XS.iloadN X0.here hx rfl (hb hby d3_0) rfl ?_
    refine XS.iloadN X0.here hx rfl (hb hby d3_1) rfl ?_
    refine XS.iushr X0.here hx rfl (hb hby d3_2) rfl ?_
    refine XS.iconst X0.here hx rfl (hb hby d3_3) ?_
    refine XS.iand X0.here hx rfl (hb hby d3_4) rfl ?_
    exact k)
  have P23 : own_Pr p.tables e below S0 s₁ (mkF m 15 #[.val (.int p1), .val (.int p2)] [(.int (if (((p1.toUInt32 >>> (p2 &&& 31).toUInt32).toInt32) &&& (1 : Int32)) = (0 : Int32) then (32 : Int32) else (9 : Int32)))]) := fun t k => P21 t (by
    by_cases hq5_22 : (((p1.toUInt32 >>> (p2 &&& 31).toUInt32).toInt32) &&& (1 : Int32)) = (0 : Int32)
    · rw [if_pos hq5_22] at k
      refine XS.ifYes X0.here hx rfl (pc0 := 5) (pc' := 13) rfl (hb hby d3_5) rfl (XT.i0_eq_t hq5_22) (by decide) (by decide) ?_
      show Steps p.tables e below (s₁.setTop (mkF m 13 #[.val (.int p1), .val (.int p2)] [])) _
      refine XS.bipush X0.here hx rfl (hb hby d3_13) ?_
      show Steps p.tables e below (s₁.setTop (mkF m 15 #[.val (.int p1), .val (.int p2)] [(.int (32 : Int32))])) _
      exact k
    · rw [if_neg hq5_22] at k
      refine XS.ifNo X0.here hx rfl (hb hby d3_5) rfl (XT.i0_eq_f hq5_22) ?_
      show Steps p.tables e below (s₁.setTop (mkF m 8 #[.val (.int p1), .val (.int p2)] [])) _
      refine XS.bipush X0.here hx rfl (hb hby d3_8) ?_
      show Steps p.tables e below (s₁.setTop (mkF m 10 #[.val (.int p1), .val (.int p2)] [(.int (9 : Int32))])) _
      refine XS.goto X0.here hx rfl (pc0 := 10) (pc' := 15) rfl (hb hby d3_10) (by decide) (by decide) ?_
      show Steps p.tables e below (s₁.setTop (mkF m 15 #[.val (.int p1), .val (.int p2)] [(.int (9 : Int32))])) _
      exact k)
  obtain ⟨z24, hz24⟩ : ∃ z, z = (if (((p1.toUInt32 >>> (p2 &&& 31).toUInt32).toInt32) &&& (1 : Int32)) = (0 : Int32) then (32 : Int32) else (9 : Int32)) := ⟨_, rfl⟩
  rw [← hz24] at P23
  obtain ⟨fs, hr, hrun, hended, hW, hsame⟩ := X0.leave (v := some (.int z24)) (fun h => by rw [Bd.returns] at h; cases h)
  have fin : Steps p.tables e below S0 (s₁.setFrames fs) := P23 _ (retN X0 hx (t := .char) Bd.returns (by simp) (hb hby d3_15) (by rw [(show nar .char z24 = z24 by rw [hz24]; split <;> rfl)]; exact hr))
  rw [hS0] at fin
  refine ⟨_, _, fin, hrun, hended, _, _, rfl, ?_, ⟨_, rfl⟩, hW, hsame.mono (by decide) (by decide)⟩
  show own_QI h0 n0 (own_f3 p1 p2) _ s₁.heap _
  rw [e0]
  exact ⟨_, rfl, (by subst hz24; unfold own_f3; rfl), N0, rfl⟩
theorem d2_0 : decode method_6_code 0 = .ok (.lload_n 0, 1) := by decide +kernel
theorem d2_1 : decode method_6_code 1 = .ok (.bipush 7, 2) := by decide +kernel
theorem d2_3 : decode method_6_code 3 = .ok (.iload_n 2, 1) := by decide +kernel
theorem d2_4 : decode method_6_code 4 = .ok (.imul, 1) := by decide +kernel
theorem d2_5 : decode method_6_code 5 = .ok (.lushr, 1) := by decide +kernel
theorem d2_6 : decode method_6_code 6 = .ok (.ldc2_w 49, 3) := by decide +kernel
theorem d2_9 : decode method_6_code 9 = .ok (.land, 1) := by decide +kernel
theorem d2_10 : decode method_6_code 10 = .ok (.l2i, 1) := by decide +kernel
theorem d2_11 : decode method_6_code 11 = .ok (.bipush 66, 2) := by decide +kernel
theorem d2_13 : decode method_6_code 13 = .ok (.irem, 1) := by decide +kernel
theorem d2_14 : decode method_6_code 14 = .ok (.istore_n 3, 1) := by decide +kernel
theorem d2_15 : decode method_6_code 15 = .ok (.iload_n 3, 1) := by decide +kernel
theorem d2_16 : decode method_6_code 16 = .ok (.bipush 26, 2) := by decide +kernel
theorem d2_18 : decode method_6_code 18 = .ok (.if_icmp .ge 9, 3) := by decide +kernel
theorem d2_21 : decode method_6_code 21 = .ok (.bipush 97, 2) := by decide +kernel
theorem d2_23 : decode method_6_code 23 = .ok (.iload_n 3, 1) := by decide +kernel
theorem d2_24 : decode method_6_code 24 = .ok (.iadd, 1) := by decide +kernel
theorem d2_25 : decode method_6_code 25 = .ok (.i2c, 1) := by decide +kernel
theorem d2_26 : decode method_6_code 26 = .ok (.ireturn, 1) := by decide +kernel
theorem d2_27 : decode method_6_code 27 = .ok (.iload_n 3, 1) := by decide +kernel
theorem d2_28 : decode method_6_code 28 = .ok (.bipush 52, 2) := by decide +kernel
theorem d2_30 : decode method_6_code 30 = .ok (.if_icmp .ge 12, 3) := by decide +kernel
theorem d2_33 : decode method_6_code 33 = .ok (.bipush 65, 2) := by decide +kernel
theorem d2_35 : decode method_6_code 35 = .ok (.iload_n 3, 1) := by decide +kernel
theorem d2_36 : decode method_6_code 36 = .ok (.bipush 26, 2) := by decide +kernel
theorem d2_38 : decode method_6_code 38 = .ok (.isub, 1) := by decide +kernel
theorem d2_39 : decode method_6_code 39 = .ok (.iadd, 1) := by decide +kernel
theorem d2_40 : decode method_6_code 40 = .ok (.i2c, 1) := by decide +kernel
theorem d2_41 : decode method_6_code 41 = .ok (.ireturn, 1) := by decide +kernel
theorem d2_42 : decode method_6_code 42 = .ok (.iload_n 3, 1) := by decide +kernel
theorem d2_43 : decode method_6_code 43 = .ok (.bipush 62, 2) := by decide +kernel
theorem d2_45 : decode method_6_code 45 = .ok (.if_icmp .ge 12, 3) := by decide +kernel
theorem d2_48 : decode method_6_code 48 = .ok (.bipush 48, 2) := by decide +kernel
theorem d2_50 : decode method_6_code 50 = .ok (.iload_n 3, 1) := by decide +kernel
theorem d2_51 : decode method_6_code 51 = .ok (.bipush 52, 2) := by decide +kernel
theorem d2_53 : decode method_6_code 53 = .ok (.isub, 1) := by decide +kernel
theorem d2_54 : decode method_6_code 54 = .ok (.iadd, 1) := by decide +kernel
theorem d2_55 : decode method_6_code 55 = .ok (.i2c, 1) := by decide +kernel
theorem d2_56 : decode method_6_code 56 = .ok (.ireturn, 1) := by decide +kernel
theorem d2_57 : decode method_6_code 57 = .ok (.iload_n 3, 1) := by decide +kernel
theorem d2_58 : decode method_6_code 58 = .ok (.bipush 62, 2) := by decide +kernel
theorem d2_60 : decode method_6_code 60 = .ok (.if_icmp .ne 6, 3) := by decide +kernel
theorem d2_63 : decode method_6_code 63 = .ok (.bipush 45, 2) := by decide +kernel
theorem d2_65 : decode method_6_code 65 = .ok (.ireturn, 1) := by decide +kernel
theorem d2_66 : decode method_6_code 66 = .ok (.iload_n 3, 1) := by decide +kernel
theorem d2_67 : decode method_6_code 67 = .ok (.bipush 63, 2) := by decide +kernel
theorem d2_69 : decode method_6_code 69 = .ok (.if_icmp .ne 6, 3) := by decide +kernel
theorem d2_72 : decode method_6_code 72 = .ok (.bipush 95, 2) := by decide +kernel
theorem d2_74 : decode method_6_code 74 = .ok (.ireturn, 1) := by decide +kernel
theorem d2_75 : decode method_6_code 75 = .ok (.iload_n 3, 1) := by decide +kernel
theorem d2_76 : decode method_6_code 76 = .ok (.bipush 64, 2) := by decide +kernel
theorem d2_78 : decode method_6_code 78 = .ok (.if_icmp .ne 6, 3) := by decide +kernel
theorem d2_81 : decode method_6_code 81 = .ok (.bipush 58, 2) := by decide +kernel
theorem d2_83 : decode method_6_code 83 = .ok (.ireturn, 1) := by decide +kernel
theorem d2_84 : decode method_6_code 84 = .ok (.bipush 46, 2) := by decide +kernel
theorem d2_86 : decode method_6_code 86 = .ok (.ireturn, 1) := by decide +kernel
theorem ef_2 (m : MethodId) (p1 : Int64) (p2 : Int32) : entryFrame m #[(.long p1), (.int p2)] 4 = mkF m 0 #[.val (.long p1), .second, .val (.int p2), .unset] [] := by first | (simp [entryFrame, mkF, argsToLocals, Value.category]; done) | rfl
def own_f2 (p1 : Int64) (p2 : Int32) : Int32 := (if (((((p1.toUInt64 >>> (((7 : Int32) * p2) &&& 0x3f).toInt64.toUInt64).toInt64) &&& (127 : Int64)).toInt32) % (66 : Int32)) < (26 : Int32) then (((97 : Int32) + (((((p1.toUInt64 >>> (((7 : Int32) * p2) &&& 0x3f).toInt64.toUInt64).toInt64) &&& (127 : Int64)).toInt32) % (66 : Int32))).toUInt32.toUInt16.toUInt32.toInt32) else (if (((((p1.toUInt64 >>> (((7 : Int32) * p2) &&& 0x3f).toInt64.toUInt64).toInt64) &&& (127 : Int64)).toInt32) % (66 : Int32)) < (52 : Int32) then (((65 : Int32) + ((((((p1.toUInt64 >>> (((7 : Int32) * p2) &&& 0x3f).toInt64.toUInt64).toInt64) &&& (127 : Int64)).toInt32) % (66 : Int32)) - (26 : Int32))).toUInt32.toUInt16.toUInt32.toInt32) else (if (((((p1.toUInt64 >>> (((7 : Int32) * p2) &&& 0x3f).toInt64.toUInt64).toInt64) &&& (127 : Int64)).toInt32) % (66 : Int32)) < (62 : Int32) then (((48 : Int32) + ((((((p1.toUInt64 >>> (((7 : Int32) * p2) &&& 0x3f).toInt64.toUInt64).toInt64) &&& (127 : Int64)).toInt32) % (66 : Int32)) - (52 : Int32))).toUInt32.toUInt16.toUInt32.toInt32) else (if (((((p1.toUInt64 >>> (((7 : Int32) * p2) &&& 0x3f).toInt64.toUInt64).toInt64) &&& (127 : Int64)).toInt32) % (66 : Int32)) = (62 : Int32) then (45 : Int32) else (if (((((p1.toUInt64 >>> (((7 : Int32) * p2) &&& 0x3f).toInt64.toUInt64).toInt64) &&& (127 : Int64)).toInt32) % (66 : Int32)) = (63 : Int32) then (95 : Int32) else (if (((((p1.toUInt64 >>> (((7 : Int32) * p2) &&& 0x3f).toInt64.toUInt64).toInt64) &&& (127 : Int64)).toInt32) % (66 : Int32)) = (64 : Int32) then (58 : Int32) else (46 : Int32)))))))
set_option maxRecDepth 65536 in
set_option maxHeartbeats 40000000 in
theorem rm2 (l : Launch) (Z : State) (a0 : Array Value) (hw : ∀ d ∈ tables_1, d.before a0 Z = true) (ws : List Jvm.Cond) (p1 : Int64) (p2 : Int32)  (h0 : Heap) (n0 : Nat) (Z0 : n0 ≤ h0.size) :
    MetFree l (⟨"com/example/twince/twince/IdempotencyKeyParsePinLaw", "keyChar", "(JI)C"⟩ : MethodName) (head1 (Jvm.Cond.code (⟨"com/example/twince/twince/IdempotencyKeyParsePinLaw", "keyChar", "(JI)C"⟩ : MethodName) method_6_code 4 (some .char) :: ws) ({ frames := 0, cells := 0, slots := 0, locals := 0 } : Room)) (fun a U => a = #[(.long p1), (.int p2)] ∧ Z.Warmed39 U.vm ∧ U.heap = h0) (fun _ _ _ _ _ => True) (fun _ U o U' => ∃ v L, o = .returned v ∧ own_QI h0 n0 (own_f2 p1 p2) v U'.heap L ∧ FrameEnd U o U' L ({ frames := 0, cells := 0, slots := 0, locals := 0 } : Room).cells ({ frames := 0, cells := 0, slots := 0, locals := 0 } : Room).slots) := by
  refine MetFree.of_bodySF (plainFor_of_name pn_3) hisR ?_
  intro p e s m args below meth c s₁ Bd hml0 hP hK
  obtain ⟨rfl, hZ, hh⟩ := hP
  have hx := Bd.exec
  have hby := Bd.bytes
  have hml : c.maxLocals = 4 := hml0
  have hown : s.vm.findClass "com/example/twince/twince/IdempotencyKeyParsePinLaw" = some m.cls := findClass_of_methodNamed Bd.named
  have hnm := (name_of_methodNamed Bd.named Bd.method).1
  have X0 : Stand p l e ({ frames := 0, cells := 0, slots := 0, locals := 0 } : Room) s m #[(.long p1), (.int p2)] below meth c s₁ [] 0 0 := Stand.of_body Bd
  have e0 : s₁.heap = h0 := by rw [← hh, Bd.state]; rfl
  have N0 := Fr.nil n0
  obtain ⟨S0, hS0⟩ : ∃ z, z = s₁.setTop (entryFrame m #[(.long p1), (.int p2)] 4) := ⟨_, rfl⟩
  have P0 : own_Pr p.tables e below S0 s₁ (mkF m 0 #[.val (.long p1), .second, .val (.int p2), .unset] []) := fun t k => hS0 ▸ castTop (ef_2 m p1 p2) k
  have P21 : own_Pr p.tables e below S0 s₁ (mkF m 15 #[.val (.long p1), .second, .val (.int p2), .val (.int (((((p1.toUInt64 >>> (((7 : Int32) * p2) &&& 0x3f).toInt64.toUInt64).toInt64) &&& (127 : Int64)).toInt32) % (66 : Int32)))] []) := fun t k => P0 t (by
    refine XS.lloadN X0.here hx rfl (hb hby d2_0) rfl ?_
    refine XS.bipush X0.here hx rfl (hb hby d2_1) ?_
    refine XS.iloadN X0.here hx rfl (hb hby d2_3) rfl ?_
    refine XS.imul X0.here hx rfl (hb hby d2_4) rfl ?_
    refine XS.lushr X0.here hx rfl (hb hby d2_5) rfl ?_
    refine X0.ldc2Long hx hown (mvT hZ (hw _ (List.mem_of_getElem? (i := 9) rfl))) (g := (mkF m 6 #[.val (.long p1), .second, .val (.int p2), .unset] [(.long ((p1.toUInt64 >>> (((7 : Int32) * p2) &&& 0x3f).toInt64.toUInt64).toInt64))])) rfl (hb hby d2_6) _ ?_
    refine XS.land X0.here hx rfl (hb hby d2_9) rfl ?_
    refine XS.l2i X0.here hx rfl (hb hby d2_10) rfl ?_
    show Steps p.tables e below (s₁.setTop (mkF m 11 #[.val (.long p1), .second, .val (.int p2), .unset] [(.int ((((p1.toUInt64 >>> (((7 : Int32) * p2) &&& 0x3f).toInt64.toUInt64).toInt64) &&& (127 : Int64)).toInt32))])) _
    refine XS.bipush X0.here hx rfl (hb hby d2_11) ?_
    refine iremM X0 hx rfl (hb hby d2_13) rfl (by decide) ?_
    refine XS.istoreN X0.here hx rfl (hb hby d2_14) rfl (l' := #[.val (.long p1), .second, .val (.int p2), .val (.int (((((p1.toUInt64 >>> (((7 : Int32) * p2) &&& 0x3f).toInt64.toUInt64).toInt64) &&& (127 : Int64)).toInt32) % (66 : Int32)))]) rfl ?_
    exact k)
  obtain ⟨z22, hz22⟩ : ∃ z, z = (((((p1.toUInt64 >>> (((7 : Int32) * p2) &&& 0x3f).toInt64.toUInt64).toInt64) &&& (127 : Int64)).toInt32) % (66 : Int32)) := ⟨_, rfl⟩
  rw [← hz22] at P21
  have P23 : own_Pr p.tables e below S0 s₁ (mkF m 18 #[.val (.long p1), .second, .val (.int p2), .val (.int z22)] [(.int (26 : Int32)), (.int z22)]) := fun t k => P21 t (by
    refine XS.iloadN X0.here hx rfl (hb hby d2_15) rfl ?_
    refine XS.bipush X0.here hx rfl (hb hby d2_16) ?_
    exact k)
  by_cases hc18_24 : z22 < (26 : Int32)
  · have P25 : own_Pr p.tables e below S0 s₁ (mkF m 26 #[.val (.long p1), .second, .val (.int p2), .val (.int z22)] [(.int (((97 : Int32) + z22).toUInt32.toUInt16.toUInt32.toInt32))]) := fun t k => P23 t (by
      refine XS.icmpNo X0.here hx rfl (hb hby d2_18) rfl (XT.ii_ge_f hc18_24) ?_
      refine XS.bipush X0.here hx rfl (hb hby d2_21) ?_
      refine XS.iloadN X0.here hx rfl (hb hby d2_23) rfl ?_
      refine XS.iadd X0.here hx rfl (hb hby d2_24) rfl ?_
      refine XS.i2c X0.here hx rfl (hb hby d2_25) rfl ?_
      exact k)
    obtain ⟨fs, hr, hrun, hended, hW, hsame⟩ := X0.leave (v := some (.int (((97 : Int32) + z22).toUInt32.toUInt16.toUInt32.toInt32))) (fun h => by rw [Bd.returns] at h; cases h)
    have fin : Steps p.tables e below S0 (s₁.setFrames fs) := P25 _ (retN X0 hx (t := .char) Bd.returns (by simp) (hb hby d2_26) (by rw [(own_narC _)]; exact hr))
    rw [hS0] at fin
    refine ⟨_, _, fin, hrun, hended, _, _, rfl, ?_, ⟨_, rfl⟩, hW, hsame.mono (by decide) (by decide)⟩
    show own_QI h0 n0 (own_f2 p1 p2) _ s₁.heap _
    rw [e0]
    exact ⟨_, rfl, (by subst hz22; unfold own_f2; rw [if_pos hc18_24]), N0, rfl⟩
  · have P26 : own_Pr p.tables e below S0 s₁ (mkF m 30 #[.val (.long p1), .second, .val (.int p2), .val (.int z22)] [(.int (52 : Int32)), (.int z22)]) := fun t k => P23 t (by
      refine XS.icmpYes X0.here hx rfl (pc0 := 18) (pc' := 27) rfl (hb hby d2_18) rfl (XT.ii_ge_t hc18_24) (by decide) (by decide) ?_
      refine XS.iloadN X0.here hx rfl (hb hby d2_27) rfl ?_
      refine XS.bipush X0.here hx rfl (hb hby d2_28) ?_
      exact k)
    by_cases hc30_27 : z22 < (52 : Int32)
    · have P28 : own_Pr p.tables e below S0 s₁ (mkF m 41 #[.val (.long p1), .second, .val (.int p2), .val (.int z22)] [(.int (((65 : Int32) + (z22 - (26 : Int32))).toUInt32.toUInt16.toUInt32.toInt32))]) := fun t k => P26 t (by
        refine XS.icmpNo X0.here hx rfl (hb hby d2_30) rfl (XT.ii_ge_f hc30_27) ?_
        refine XS.bipush X0.here hx rfl (hb hby d2_33) ?_
        refine XS.iloadN X0.here hx rfl (hb hby d2_35) rfl ?_
        refine XS.bipush X0.here hx rfl (hb hby d2_36) ?_
        refine XS.isub X0.here hx rfl (hb hby d2_38) rfl ?_
        refine XS.iadd X0.here hx rfl (hb hby d2_39) rfl ?_
        refine XS.i2c X0.here hx rfl (hb hby d2_40) rfl ?_
        exact k)
      obtain ⟨fs, hr, hrun, hended, hW, hsame⟩ := X0.leave (v := some (.int (((65 : Int32) + (z22 - (26 : Int32))).toUInt32.toUInt16.toUInt32.toInt32))) (fun h => by rw [Bd.returns] at h; cases h)
      have fin : Steps p.tables e below S0 (s₁.setFrames fs) := P28 _ (retN X0 hx (t := .char) Bd.returns (by simp) (hb hby d2_41) (by rw [(own_narC _)]; exact hr))
      rw [hS0] at fin
      refine ⟨_, _, fin, hrun, hended, _, _, rfl, ?_, ⟨_, rfl⟩, hW, hsame.mono (by decide) (by decide)⟩
      show own_QI h0 n0 (own_f2 p1 p2) _ s₁.heap _
      rw [e0]
      exact ⟨_, rfl, (by subst hz22; unfold own_f2; rw [if_neg hc18_24, if_pos hc30_27]), N0, rfl⟩
    · have P29 : own_Pr p.tables e below S0 s₁ (mkF m 45 #[.val (.long p1), .second, .val (.int p2), .val (.int z22)] [(.int (62 : Int32)), (.int z22)]) := fun t k => P26 t (by
        refine XS.icmpYes X0.here hx rfl (pc0 := 30) (pc' := 42) rfl (hb hby d2_30) rfl (XT.ii_ge_t hc30_27) (by decide) (by decide) ?_
        refine XS.iloadN X0.here hx rfl (hb hby d2_42) rfl ?_
        refine XS.bipush X0.here hx rfl (hb hby d2_43) ?_
        exact k)
      by_cases hc45_30 : z22 < (62 : Int32)
      · have P31 : own_Pr p.tables e below S0 s₁ (mkF m 56 #[.val (.long p1), .second, .val (.int p2), .val (.int z22)] [(.int (((48 : Int32) + (z22 - (52 : Int32))).toUInt32.toUInt16.toUInt32.toInt32))]) := fun t k => P29 t (by
          refine XS.icmpNo X0.here hx rfl (hb hby d2_45) rfl (XT.ii_ge_f hc45_30) ?_
          refine XS.bipush X0.here hx rfl (hb hby d2_48) ?_
          refine XS.iloadN X0.here hx rfl (hb hby d2_50) rfl ?_
          refine XS.bipush X0.here hx rfl (hb hby d2_51) ?_
          refine XS.isub X0.here hx rfl (hb hby d2_53) rfl ?_
          refine XS.iadd X0.here hx rfl (hb hby d2_54) rfl ?_
          refine XS.i2c X0.here hx rfl (hb hby d2_55) rfl ?_
          exact k)
        obtain ⟨fs, hr, hrun, hended, hW, hsame⟩ := X0.leave (v := some (.int (((48 : Int32) + (z22 - (52 : Int32))).toUInt32.toUInt16.toUInt32.toInt32))) (fun h => by rw [Bd.returns] at h; cases h)
        have fin : Steps p.tables e below S0 (s₁.setFrames fs) := P31 _ (retN X0 hx (t := .char) Bd.returns (by simp) (hb hby d2_56) (by rw [(own_narC _)]; exact hr))
        rw [hS0] at fin
        refine ⟨_, _, fin, hrun, hended, _, _, rfl, ?_, ⟨_, rfl⟩, hW, hsame.mono (by decide) (by decide)⟩
        show own_QI h0 n0 (own_f2 p1 p2) _ s₁.heap _
        rw [e0]
        exact ⟨_, rfl, (by subst hz22; unfold own_f2; rw [if_neg hc18_24, if_neg hc30_27, if_pos hc45_30]), N0, rfl⟩
      · have P32 : own_Pr p.tables e below S0 s₁ (mkF m 60 #[.val (.long p1), .second, .val (.int p2), .val (.int z22)] [(.int (62 : Int32)), (.int z22)]) := fun t k => P29 t (by
          refine XS.icmpYes X0.here hx rfl (pc0 := 45) (pc' := 57) rfl (hb hby d2_45) rfl (XT.ii_ge_t hc45_30) (by decide) (by decide) ?_
          refine XS.iloadN X0.here hx rfl (hb hby d2_57) rfl ?_
          refine XS.bipush X0.here hx rfl (hb hby d2_58) ?_
          exact k)
        by_cases hc60_33 : z22 = (62 : Int32)
        · have P34 : own_Pr p.tables e below S0 s₁ (mkF m 65 #[.val (.long p1), .second, .val (.int p2), .val (.int z22)] [(.int (45 : Int32))]) := fun t k => P32 t (by
            refine XS.icmpNo X0.here hx rfl (hb hby d2_60) rfl (XT.ii_ne_f hc60_33) ?_
            refine XS.bipush X0.here hx rfl (hb hby d2_63) ?_
            exact k)
          obtain ⟨fs, hr, hrun, hended, hW, hsame⟩ := X0.leave (v := some (.int (45 : Int32))) (fun h => by rw [Bd.returns] at h; cases h)
          have fin : Steps p.tables e below S0 (s₁.setFrames fs) := P34 _ (retN X0 hx (t := .char) Bd.returns (by simp) (hb hby d2_65) hr)
          rw [hS0] at fin
          refine ⟨_, _, fin, hrun, hended, _, _, rfl, ?_, ⟨_, rfl⟩, hW, hsame.mono (by decide) (by decide)⟩
          show own_QI h0 n0 (own_f2 p1 p2) _ s₁.heap _
          rw [e0]
          exact ⟨_, rfl, (by subst hz22; unfold own_f2; rw [if_neg hc18_24, if_neg hc30_27, if_neg hc45_30, if_pos hc60_33]), N0, rfl⟩
        · have P35 : own_Pr p.tables e below S0 s₁ (mkF m 69 #[.val (.long p1), .second, .val (.int p2), .val (.int z22)] [(.int (63 : Int32)), (.int z22)]) := fun t k => P32 t (by
            refine XS.icmpYes X0.here hx rfl (pc0 := 60) (pc' := 66) rfl (hb hby d2_60) rfl (XT.ii_ne_t hc60_33) (by decide) (by decide) ?_
            refine XS.iloadN X0.here hx rfl (hb hby d2_66) rfl ?_
            refine XS.bipush X0.here hx rfl (hb hby d2_67) ?_
            exact k)
          by_cases hc69_36 : z22 = (63 : Int32)
          · have P37 : own_Pr p.tables e below S0 s₁ (mkF m 74 #[.val (.long p1), .second, .val (.int p2), .val (.int z22)] [(.int (95 : Int32))]) := fun t k => P35 t (by
              refine XS.icmpNo X0.here hx rfl (hb hby d2_69) rfl (XT.ii_ne_f hc69_36) ?_
              refine XS.bipush X0.here hx rfl (hb hby d2_72) ?_
              exact k)
            obtain ⟨fs, hr, hrun, hended, hW, hsame⟩ := X0.leave (v := some (.int (95 : Int32))) (fun h => by rw [Bd.returns] at h; cases h)
            have fin : Steps p.tables e below S0 (s₁.setFrames fs) := P37 _ (retN X0 hx (t := .char) Bd.returns (by simp) (hb hby d2_74) hr)
            rw [hS0] at fin
            refine ⟨_, _, fin, hrun, hended, _, _, rfl, ?_, ⟨_, rfl⟩, hW, hsame.mono (by decide) (by decide)⟩
            show own_QI h0 n0 (own_f2 p1 p2) _ s₁.heap _
            rw [e0]
            exact ⟨_, rfl, (by subst hz22; unfold own_f2; rw [if_neg hc18_24, if_neg hc30_27, if_neg hc45_30, if_neg hc60_33, if_pos hc69_36]), N0, rfl⟩
          · have P38 : own_Pr p.tables e below S0 s₁ (mkF m 78 #[.val (.long p1), .second, .val (.int p2), .val (.int z22)] [(.int (64 : Int32)), (.int z22)]) := fun t k => P35 t (by
              refine XS.icmpYes X0.here hx rfl (pc0 := 69) (pc' := 75) rfl (hb hby d2_69) rfl (XT.ii_ne_t hc69_36) (by decide) (by decide) ?_
              refine XS.iloadN X0.here hx rfl (hb hby d2_75) rfl ?_
              refine XS.bipush X0.here hx rfl (hb hby d2_76) ?_
              exact k)
            by_cases hc78_39 : z22 = (64 : Int32)
            · have P40 : own_Pr p.tables e below S0 s₁ (mkF m 83 #[.val (.long p1), .second, .val (.int p2), .val (.int z22)] [(.int (58 : Int32))]) := fun t k => P38 t (by
                refine XS.icmpNo X0.here hx rfl (hb hby d2_78) rfl (XT.ii_ne_f hc78_39) ?_
                refine XS.bipush X0.here hx rfl (hb hby d2_81) ?_
                exact k)
              obtain ⟨fs, hr, hrun, hended, hW, hsame⟩ := X0.leave (v := some (.int (58 : Int32))) (fun h => by rw [Bd.returns] at h; cases h)
              have fin : Steps p.tables e below S0 (s₁.setFrames fs) := P40 _ (retN X0 hx (t := .char) Bd.returns (by simp) (hb hby d2_83) hr)
              rw [hS0] at fin
              refine ⟨_, _, fin, hrun, hended, _, _, rfl, ?_, ⟨_, rfl⟩, hW, hsame.mono (by decide) (by decide)⟩
              show own_QI h0 n0 (own_f2 p1 p2) _ s₁.heap _
              rw [e0]
              exact ⟨_, rfl, (by subst hz22; unfold own_f2; rw [if_neg hc18_24, if_neg hc30_27, if_neg hc45_30, if_neg hc60_33, if_neg hc69_36, if_pos hc78_39]), N0, rfl⟩
            · have P41 : own_Pr p.tables e below S0 s₁ (mkF m 86 #[.val (.long p1), .second, .val (.int p2), .val (.int z22)] [(.int (46 : Int32))]) := fun t k => P38 t (by
                refine XS.icmpYes X0.here hx rfl (pc0 := 78) (pc' := 84) rfl (hb hby d2_78) rfl (XT.ii_ne_t hc78_39) (by decide) (by decide) ?_
                refine XS.bipush X0.here hx rfl (hb hby d2_84) ?_
                exact k)
              obtain ⟨fs, hr, hrun, hended, hW, hsame⟩ := X0.leave (v := some (.int (46 : Int32))) (fun h => by rw [Bd.returns] at h; cases h)
              have fin : Steps p.tables e below S0 (s₁.setFrames fs) := P41 _ (retN X0 hx (t := .char) Bd.returns (by simp) (hb hby d2_86) hr)
              rw [hS0] at fin
              refine ⟨_, _, fin, hrun, hended, _, _, rfl, ?_, ⟨_, rfl⟩, hW, hsame.mono (by decide) (by decide)⟩
              show own_QI h0 n0 (own_f2 p1 p2) _ s₁.heap _
              rw [e0]
              exact ⟨_, rfl, (by subst hz22; unfold own_f2; rw [if_neg hc18_24, if_neg hc30_27, if_neg hc45_30, if_neg hc60_33, if_neg hc69_36, if_neg hc78_39]), N0, rfl⟩
theorem own_bk_rng (x i : Int32) : own_f3 x i = 9 ∨ own_f3 x i = 32 := by
  unfold own_f3; split
  · exact Or.inr rfl
  · exact Or.inl rfl
theorem own_bk_nar (x i : Int32) : nar .char (own_f3 x i) = own_f3 x i := by rcases own_bk_rng x i with h | h <;> rw [h] <;> rfl
theorem own_kc_nar (x : Int64) (i : Int32) : nar .char (own_f2 x i) = own_f2 x i := by
  unfold own_f2; repeat' split
  all_goals first | rfl | exact own_narC _
theorem d1_0 : decode method_4_code 0 = .ok (.iload_n 1, 1) := by decide +kernel
theorem d1_1 : decode method_4_code 1 = .ok (.iload_n 2, 1) := by decide +kernel
theorem d1_2 : decode method_4_code 2 = .ok (.iadd, 1) := by decide +kernel
theorem d1_3 : decode method_4_code 3 = .ok (.istore 7, 2) := by decide +kernel
theorem d1_5 : decode method_4_code 5 = .ok (.iload_n 0, 1) := by decide +kernel
theorem d1_6 : decode method_4_code 6 = .ok (.iload_n 1, 1) := by decide +kernel
theorem d1_7 : decode method_4_code 7 = .ok (.if_icmp .ge 10, 3) := by decide +kernel
theorem d1_10 : decode method_4_code 10 = .ok (.iload 6, 2) := by decide +kernel
theorem d1_12 : decode method_4_code 12 = .ok (.iload_n 0, 1) := by decide +kernel
theorem d1_13 : decode method_4_code 13 = .ok (.invokestatic 45, 3) := by decide +kernel
theorem d1_16 : decode method_4_code 16 = .ok (.ireturn, 1) := by decide +kernel
theorem d1_17 : decode method_4_code 17 = .ok (.iload_n 2, 1) := by decide +kernel
theorem d1_18 : decode method_4_code 18 = .ok (.iconst 1, 1) := by decide +kernel
theorem d1_19 : decode method_4_code 19 = .ok (.if_icmp .ne 11, 3) := by decide +kernel
theorem d1_22 : decode method_4_code 22 = .ok (.iload_n 0, 1) := by decide +kernel
theorem d1_23 : decode method_4_code 23 = .ok (.iload_n 1, 1) := by decide +kernel
theorem d1_24 : decode method_4_code 24 = .ok (.if_icmp .ne 6, 3) := by decide +kernel
theorem d1_27 : decode method_4_code 27 = .ok (.bipush 34, 2) := by decide +kernel
theorem d1_29 : decode method_4_code 29 = .ok (.ireturn, 1) := by decide +kernel
theorem d1_30 : decode method_4_code 30 = .ok (.iload_n 0, 1) := by decide +kernel
theorem d1_31 : decode method_4_code 31 = .ok (.iload 7, 2) := by decide +kernel
theorem d1_33 : decode method_4_code 33 = .ok (.iload_n 3, 1) := by decide +kernel
theorem d1_34 : decode method_4_code 34 = .ok (.iadd, 1) := by decide +kernel
theorem d1_35 : decode method_4_code 35 = .ok (.if_icmp .ge 13, 3) := by decide +kernel
theorem d1_38 : decode method_4_code 38 = .ok (.lload 4, 2) := by decide +kernel
theorem d1_40 : decode method_4_code 40 = .ok (.iload_n 0, 1) := by decide +kernel
theorem d1_41 : decode method_4_code 41 = .ok (.iload 7, 2) := by decide +kernel
theorem d1_43 : decode method_4_code 43 = .ok (.isub, 1) := by decide +kernel
theorem d1_44 : decode method_4_code 44 = .ok (.invokestatic 41, 3) := by decide +kernel
theorem d1_47 : decode method_4_code 47 = .ok (.ireturn, 1) := by decide +kernel
theorem d1_48 : decode method_4_code 48 = .ok (.iload_n 2, 1) := by decide +kernel
theorem d1_49 : decode method_4_code 49 = .ok (.iconst 1, 1) := by decide +kernel
theorem d1_50 : decode method_4_code 50 = .ok (.if_icmp .ne 14, 3) := by decide +kernel
theorem d1_53 : decode method_4_code 53 = .ok (.iload_n 0, 1) := by decide +kernel
theorem d1_54 : decode method_4_code 54 = .ok (.iload 7, 2) := by decide +kernel
theorem d1_56 : decode method_4_code 56 = .ok (.iload_n 3, 1) := by decide +kernel
theorem d1_57 : decode method_4_code 57 = .ok (.iadd, 1) := by decide +kernel
theorem d1_58 : decode method_4_code 58 = .ok (.if_icmp .ne 6, 3) := by decide +kernel
theorem d1_61 : decode method_4_code 61 = .ok (.bipush 34, 2) := by decide +kernel
theorem d1_63 : decode method_4_code 63 = .ok (.ireturn, 1) := by decide +kernel
theorem d1_64 : decode method_4_code 64 = .ok (.iload 6, 2) := by decide +kernel
theorem d1_66 : decode method_4_code 66 = .ok (.iload_n 0, 1) := by decide +kernel
theorem d1_67 : decode method_4_code 67 = .ok (.invokestatic 45, 3) := by decide +kernel
theorem d1_70 : decode method_4_code 70 = .ok (.ireturn, 1) := by decide +kernel
theorem pd_9 : parseMethodDescriptor "(II)C" = some ⟨[.int, .int], some .char⟩ := by decide +kernel
theorem pd_10 : parseMethodDescriptor "(JI)C" = some ⟨[.long, .int], some .char⟩ := by decide +kernel
theorem ef_1 (m : MethodId) (p1 : Int32) (p2 : Int32) (p3 : Int32) (p4 : Int32) (p5 : Int64) (p6 : Int32) : entryFrame m #[(.int p1), (.int p2), (.int p3), (.int p4), (.long p5), (.int p6)] 8 = mkF m 0 #[.val (.int p1), .val (.int p2), .val (.int p3), .val (.int p4), .val (.long p5), .second, .val (.int p6), .unset] [] := by first | (simp [entryFrame, mkF, argsToLocals, Value.category]; done) | rfl
def own_f1 (p1 : Int32) (p2 : Int32) (p3 : Int32) (p4 : Int32) (p5 : Int64) (p6 : Int32) : Int32 := (if p1 < p2 then (own_f3 p6 p1) else (if p3 = (1 : Int32) then (if p1 = p2 then (34 : Int32) else (if p1 < ((p2 + p3) + p4) then (own_f2 p5 (p1 - (p2 + p3))) else (if p1 = ((p2 + p3) + p4) then (34 : Int32) else (own_f3 p6 p1)))) else (if p1 < ((p2 + p3) + p4) then (own_f2 p5 (p1 - (p2 + p3))) else (own_f3 p6 p1))))
set_option maxRecDepth 65536 in
set_option maxHeartbeats 40000000 in
theorem rm1 (l : Launch) (Z : State) (a0 : Array Value) (hw : ∀ d ∈ tables_1, d.before a0 Z = true) (ws : List Jvm.Cond) (p1 : Int32) (p2 : Int32) (p3 : Int32) (p4 : Int32) (p5 : Int64) (p6 : Int32)  (h0 : Heap) (n0 : Nat) (Z0 : n0 ≤ h0.size) :
    MetFree l (⟨"com/example/twince/twince/IdempotencyKeyParsePinLaw", "at", "(IIIIJI)C"⟩ : MethodName) (head1 (Jvm.Cond.code (⟨"com/example/twince/twince/IdempotencyKeyParsePinLaw", "at", "(IIIIJI)C"⟩ : MethodName) method_4_code 8 (some .char) :: ws) ({ frames := 1, cells := 0, slots := 0, locals := 15 } : Room)) (fun a U => a = #[(.int p1), (.int p2), (.int p3), (.int p4), (.long p5), (.int p6)] ∧ Z.Warmed39 U.vm ∧ U.heap = h0) (fun _ _ _ _ _ => True) (fun _ U o U' => ∃ v L, o = .returned v ∧ own_QI h0 n0 (own_f1 p1 p2 p3 p4 p5 p6) v U'.heap L ∧ FrameEnd U o U' L ({ frames := 1, cells := 0, slots := 0, locals := 15 } : Room).cells ({ frames := 1, cells := 0, slots := 0, locals := 15 } : Room).slots) := by
  refine MetFree.of_bodySF (plainFor_of_name pn_3) hisR ?_
  intro p e s m args below meth c s₁ Bd hml0 hP hK
  obtain ⟨rfl, hZ, hh⟩ := hP
  have hx := Bd.exec
  have hby := Bd.bytes
  have hml : c.maxLocals = 8 := hml0
  have hown : s.vm.findClass "com/example/twince/twince/IdempotencyKeyParsePinLaw" = some m.cls := findClass_of_methodNamed Bd.named
  have hnm := (name_of_methodNamed Bd.named Bd.method).1
  have X0 : Stand p l e ({ frames := 1, cells := 0, slots := 0, locals := 15 } : Room) s m #[(.int p1), (.int p2), (.int p3), (.int p4), (.long p5), (.int p6)] below meth c s₁ [] 0 0 := Stand.of_body Bd
  have e0 : s₁.heap = h0 := by rw [← hh, Bd.state]; rfl
  have N0 := Fr.nil n0
  obtain ⟨S0, hS0⟩ : ∃ z, z = s₁.setTop (entryFrame m #[(.int p1), (.int p2), (.int p3), (.int p4), (.long p5), (.int p6)] 8) := ⟨_, rfl⟩
  have P0 : own_Pr p.tables e below S0 s₁ (mkF m 0 #[.val (.int p1), .val (.int p2), .val (.int p3), .val (.int p4), .val (.long p5), .second, .val (.int p6), .unset] []) := fun t k => hS0 ▸ castTop (ef_1 m p1 p2 p3 p4 p5 p6) k
  have P21 : own_Pr p.tables e below S0 s₁ (mkF m 5 #[.val (.int p1), .val (.int p2), .val (.int p3), .val (.int p4), .val (.long p5), .second, .val (.int p6), .val (.int (p2 + p3))] []) := fun t k => P0 t (by
    refine XS.iloadN X0.here hx rfl (hb hby d1_0) rfl ?_
    refine XS.iloadN X0.here hx rfl (hb hby d1_1) rfl ?_
    refine XS.iadd X0.here hx rfl (hb hby d1_2) rfl ?_
    refine XS.istore X0.here hx rfl (hb hby d1_3) rfl (l' := #[.val (.int p1), .val (.int p2), .val (.int p3), .val (.int p4), .val (.long p5), .second, .val (.int p6), .val (.int (p2 + p3))]) rfl ?_
    exact k)
  obtain ⟨z22, hz22⟩ : ∃ z, z = (p2 + p3) := ⟨_, rfl⟩
  rw [← hz22] at P21
  have P23 : own_Pr p.tables e below S0 s₁ (mkF m 7 #[.val (.int p1), .val (.int p2), .val (.int p3), .val (.int p4), .val (.long p5), .second, .val (.int p6), .val (.int z22)] [(.int p2), (.int p1)]) := fun t k => P21 t (by
    refine XS.iloadN X0.here hx rfl (hb hby d1_5) rfl ?_
    refine XS.iloadN X0.here hx rfl (hb hby d1_6) rfl ?_
    exact k)
  by_cases hc7_24 : p1 < p2
  · have P25 : own_Pr p.tables e below S0 s₁ (mkF m 13 #[.val (.int p1), .val (.int p2), .val (.int p3), .val (.int p4), .val (.long p5), .second, .val (.int p6), .val (.int z22)] [(.int p1), (.int p6)]) := fun t k => P23 t (by
      refine XS.icmpNo X0.here hx rfl (hb hby d1_7) rfl (XT.ii_ge_f hc7_24) ?_
      refine XS.iload X0.here hx rfl (hb hby d1_10) rfl ?_
      refine XS.iloadN X0.here hx rfl (hb hby d1_12) rfl ?_
      exact k)
    obtain ⟨_, _, ⟨T26, L26, k26, n26⟩, -, X26, ⟨Lc26, hQ26, l26, y26, z26⟩, st26⟩ := Jvm.LawKit.callS X0 hx (y := (⟨"com/example/twince/twince/IdempotencyKeyParsePinLaw", "blank", "(II)C"⟩ : MethodName)) hown (mvT hZ (hw _ (List.mem_of_getElem? (i := 10) rfl))) (mvT hZ (hw _ (List.mem_of_getElem? (i := 11) rfl))) (mvT hZ (hw _ (List.mem_of_getElem? (i := 4) rfl))) (mvT hZ (hw _ (List.mem_of_getElem? (i := 12) rfl))) (by decide) (backOf (W := 0) (rm3 l Z a0 hw [] p6 p1  h0 n0 Z0 ) hZ (hw _ (List.mem_of_getElem? (i := 12) rfl)) (hw _ (List.mem_of_getElem? (i := 4) rfl)) (by decide) (by decide)) (g := (mkF m 13 #[.val (.int p1), .val (.int p2), .val (.int p3), .val (.int p4), .val (.long p5), .second, .val (.int p6), .val (.int z22)] [(.int p1), (.int p6)])) rfl (by rw [hml]; rfl) (argsL := [(.int p6), (.int p1)]) (rest := []) (lenOf pd_9 rfl) rfl (by show 2 * 0 + _ ≤ _; exact Nat.le_of_eq rfl) (hb hby d1_13) (fun _ _ => ⟨rfl, e0, (by decide : 0 + 0 ≤ _), (by decide : 0 + 0 ≤ _)⟩)
    dsimp only [Pt.U, Pt.locs, Pt.cells, Pt.slots] at X26 l26 y26 z26 st26 hQ26
    rw [l26, y26, z26] at X26
    have X26 := X26.mono (cells' := 0) (slots' := 0) (by decide) (by decide)
    obtain ⟨z26v, rfl, hz26v, Nq26, eq26⟩ := hQ26
    have N26n := Fr.app N0 Nq26
    have P27 : own_Pr p.tables e below S0 T26 (mkF m 16 #[.val (.int p1), .val (.int p2), .val (.int p3), .val (.int p4), .val (.long p5), .second, .val (.int p6), .val (.int z22)] [(.int z26v)]) := fun t k => P25 t (st26 _ k)
    obtain ⟨fs, hr, hrun, hended, hW, hsame⟩ := X26.leave (v := some (.int z26v)) (fun h => by rw [Bd.returns] at h; cases h)
    have fin : Steps p.tables e below S0 (T26.setFrames fs) := P27 _ (retN X26 hx (t := .char) Bd.returns (by simp) (hb hby d1_16) (by rw [(by rw [hz26v]; exact own_bk_nar _ _ : nar .char z26v = z26v)]; exact hr))
    rw [hS0] at fin
    refine ⟨_, _, fin, hrun, hended, _, _, rfl, ?_, ⟨_, rfl⟩, hW, hsame.mono (by decide) (by decide)⟩
    show own_QI h0 n0 (own_f1 p1 p2 p3 p4 p5 p6) _ T26.heap _
    rw [eq26]
    exact ⟨_, rfl, (by subst hz26v; subst hz22; unfold own_f1; rw [if_pos hc7_24]), N26n, rfl⟩
  · have P28 : own_Pr p.tables e below S0 s₁ (mkF m 19 #[.val (.int p1), .val (.int p2), .val (.int p3), .val (.int p4), .val (.long p5), .second, .val (.int p6), .val (.int z22)] [(.int (1 : Int32)), (.int p3)]) := fun t k => P23 t (by
      refine XS.icmpYes X0.here hx rfl (pc0 := 7) (pc' := 17) rfl (hb hby d1_7) rfl (XT.ii_ge_t hc7_24) (by decide) (by decide) ?_
      refine XS.iloadN X0.here hx rfl (hb hby d1_17) rfl ?_
      refine XS.iconst X0.here hx rfl (hb hby d1_18) ?_
      exact k)
    by_cases hc19_29 : p3 = (1 : Int32)
    · have P30 : own_Pr p.tables e below S0 s₁ (mkF m 24 #[.val (.int p1), .val (.int p2), .val (.int p3), .val (.int p4), .val (.long p5), .second, .val (.int p6), .val (.int z22)] [(.int p2), (.int p1)]) := fun t k => P28 t (by
        refine XS.icmpNo X0.here hx rfl (hb hby d1_19) rfl (XT.ii_ne_f hc19_29) ?_
        refine XS.iloadN X0.here hx rfl (hb hby d1_22) rfl ?_
        refine XS.iloadN X0.here hx rfl (hb hby d1_23) rfl ?_
        exact k)
      by_cases hc24_31 : p1 = p2
      · have P32 : own_Pr p.tables e below S0 s₁ (mkF m 29 #[.val (.int p1), .val (.int p2), .val (.int p3), .val (.int p4), .val (.long p5), .second, .val (.int p6), .val (.int z22)] [(.int (34 : Int32))]) := fun t k => P30 t (by
          refine XS.icmpNo X0.here hx rfl (hb hby d1_24) rfl (XT.ii_ne_f hc24_31) ?_
          refine XS.bipush X0.here hx rfl (hb hby d1_27) ?_
          exact k)
        obtain ⟨fs, hr, hrun, hended, hW, hsame⟩ := X0.leave (v := some (.int (34 : Int32))) (fun h => by rw [Bd.returns] at h; cases h)
        have fin : Steps p.tables e below S0 (s₁.setFrames fs) := P32 _ (retN X0 hx (t := .char) Bd.returns (by simp) (hb hby d1_29) hr)
        rw [hS0] at fin
        refine ⟨_, _, fin, hrun, hended, _, _, rfl, ?_, ⟨_, rfl⟩, hW, hsame.mono (by decide) (by decide)⟩
        show own_QI h0 n0 (own_f1 p1 p2 p3 p4 p5 p6) _ s₁.heap _
        rw [e0]
        exact ⟨_, rfl, (by subst hz22; unfold own_f1; rw [if_neg hc7_24, if_pos hc19_29, if_pos hc24_31]), N0, rfl⟩
      · have P33 : own_Pr p.tables e below S0 s₁ (mkF m 35 #[.val (.int p1), .val (.int p2), .val (.int p3), .val (.int p4), .val (.long p5), .second, .val (.int p6), .val (.int z22)] [(.int (z22 + p4)), (.int p1)]) := fun t k => P30 t (by
          refine XS.icmpYes X0.here hx rfl (pc0 := 24) (pc' := 30) rfl (hb hby d1_24) rfl (XT.ii_ne_t hc24_31) (by decide) (by decide) ?_
          refine XS.iloadN X0.here hx rfl (hb hby d1_30) rfl ?_
          refine XS.iload X0.here hx rfl (hb hby d1_31) rfl ?_
          refine XS.iloadN X0.here hx rfl (hb hby d1_33) rfl ?_
          refine XS.iadd X0.here hx rfl (hb hby d1_34) rfl ?_
          exact k)
        by_cases hc35_34 : p1 < (z22 + p4)
        · have P35 : own_Pr p.tables e below S0 s₁ (mkF m 44 #[.val (.int p1), .val (.int p2), .val (.int p3), .val (.int p4), .val (.long p5), .second, .val (.int p6), .val (.int z22)] [(.int (p1 - z22)), (.long p5)]) := fun t k => P33 t (by
            refine XS.icmpNo X0.here hx rfl (hb hby d1_35) rfl (XT.ii_ge_f hc35_34) ?_
            refine XS.lload X0.here hx rfl (hb hby d1_38) rfl ?_
            refine XS.iloadN X0.here hx rfl (hb hby d1_40) rfl ?_
            refine XS.iload X0.here hx rfl (hb hby d1_41) rfl ?_
            refine XS.isub X0.here hx rfl (hb hby d1_43) rfl ?_
            exact k)
          obtain ⟨_, _, ⟨T36, L36, k36, n36⟩, -, X36, ⟨Lc36, hQ36, l36, y36, z36⟩, st36⟩ := Jvm.LawKit.callS X0 hx (y := (⟨"com/example/twince/twince/IdempotencyKeyParsePinLaw", "keyChar", "(JI)C"⟩ : MethodName)) hown (mvT hZ (hw _ (List.mem_of_getElem? (i := 6) rfl))) (mvT hZ (hw _ (List.mem_of_getElem? (i := 7) rfl))) (mvT hZ (hw _ (List.mem_of_getElem? (i := 4) rfl))) (mvT hZ (hw _ (List.mem_of_getElem? (i := 8) rfl))) (by decide) (backOf (W := 0) (rm2 l Z a0 hw [] p5 (p1 - z22)  h0 n0 Z0 ) hZ (hw _ (List.mem_of_getElem? (i := 8) rfl)) (hw _ (List.mem_of_getElem? (i := 4) rfl)) (by decide) (by decide)) (g := (mkF m 44 #[.val (.int p1), .val (.int p2), .val (.int p3), .val (.int p4), .val (.long p5), .second, .val (.int p6), .val (.int z22)] [(.int (p1 - z22)), (.long p5)])) rfl (by rw [hml]; rfl) (argsL := [(.long p5), (.int (p1 - z22))]) (rest := []) (lenOf pd_10 rfl) rfl (by show 2 * 0 + _ ≤ _; exact Nat.le_of_eq rfl) (hb hby d1_44) (fun _ _ => ⟨rfl, e0, (by decide : 0 + 0 ≤ _), (by decide : 0 + 0 ≤ _)⟩)
          dsimp only [Pt.U, Pt.locs, Pt.cells, Pt.slots] at X36 l36 y36 z36 st36 hQ36
          rw [l36, y36, z36] at X36
          have X36 := X36.mono (cells' := 0) (slots' := 0) (by decide) (by decide)
          obtain ⟨z36v, rfl, hz36v, Nq36, eq36⟩ := hQ36
          have N36n := Fr.app N0 Nq36
          have P37 : own_Pr p.tables e below S0 T36 (mkF m 47 #[.val (.int p1), .val (.int p2), .val (.int p3), .val (.int p4), .val (.long p5), .second, .val (.int p6), .val (.int z22)] [(.int z36v)]) := fun t k => P35 t (st36 _ k)
          obtain ⟨fs, hr, hrun, hended, hW, hsame⟩ := X36.leave (v := some (.int z36v)) (fun h => by rw [Bd.returns] at h; cases h)
          have fin : Steps p.tables e below S0 (T36.setFrames fs) := P37 _ (retN X36 hx (t := .char) Bd.returns (by simp) (hb hby d1_47) (by rw [(by rw [hz36v]; exact own_kc_nar _ _ : nar .char z36v = z36v)]; exact hr))
          rw [hS0] at fin
          refine ⟨_, _, fin, hrun, hended, _, _, rfl, ?_, ⟨_, rfl⟩, hW, hsame.mono (by decide) (by decide)⟩
          show own_QI h0 n0 (own_f1 p1 p2 p3 p4 p5 p6) _ T36.heap _
          rw [eq36]
          exact ⟨_, rfl, (by subst hz36v; subst hz22; unfold own_f1; rw [if_neg hc7_24, if_pos hc19_29, if_neg hc24_31, if_pos hc35_34]), N36n, rfl⟩
        · have P38 : own_Pr p.tables e below S0 s₁ (mkF m 58 #[.val (.int p1), .val (.int p2), .val (.int p3), .val (.int p4), .val (.long p5), .second, .val (.int p6), .val (.int z22)] [(.int (z22 + p4)), (.int p1)]) := fun t k => P33 t (by
            refine XS.icmpYes X0.here hx rfl (pc0 := 35) (pc' := 48) rfl (hb hby d1_35) rfl (XT.ii_ge_t hc35_34) (by decide) (by decide) ?_
            refine XS.iloadN X0.here hx rfl (hb hby d1_48) rfl ?_
            refine XS.iconst X0.here hx rfl (hb hby d1_49) ?_
            refine XS.icmpNo X0.here hx rfl (hb hby d1_50) rfl (XT.ii_ne_f hc19_29) ?_
            refine XS.iloadN X0.here hx rfl (hb hby d1_53) rfl ?_
            refine XS.iload X0.here hx rfl (hb hby d1_54) rfl ?_
            refine XS.iloadN X0.here hx rfl (hb hby d1_56) rfl ?_
            refine XS.iadd X0.here hx rfl (hb hby d1_57) rfl ?_
            exact k)
          by_cases hc58_39 : p1 = (z22 + p4)
          · have P40 : own_Pr p.tables e below S0 s₁ (mkF m 63 #[.val (.int p1), .val (.int p2), .val (.int p3), .val (.int p4), .val (.long p5), .second, .val (.int p6), .val (.int z22)] [(.int (34 : Int32))]) := fun t k => P38 t (by
              refine XS.icmpNo X0.here hx rfl (hb hby d1_58) rfl (XT.ii_ne_f hc58_39) ?_
              refine XS.bipush X0.here hx rfl (hb hby d1_61) ?_
              exact k)
            obtain ⟨fs, hr, hrun, hended, hW, hsame⟩ := X0.leave (v := some (.int (34 : Int32))) (fun h => by rw [Bd.returns] at h; cases h)
            have fin : Steps p.tables e below S0 (s₁.setFrames fs) := P40 _ (retN X0 hx (t := .char) Bd.returns (by simp) (hb hby d1_63) hr)
            rw [hS0] at fin
            refine ⟨_, _, fin, hrun, hended, _, _, rfl, ?_, ⟨_, rfl⟩, hW, hsame.mono (by decide) (by decide)⟩
            show own_QI h0 n0 (own_f1 p1 p2 p3 p4 p5 p6) _ s₁.heap _
            rw [e0]
            exact ⟨_, rfl, (by subst hz22; unfold own_f1; rw [if_neg hc7_24, if_pos hc19_29, if_neg hc24_31, if_neg hc35_34, if_pos hc58_39]), N0, rfl⟩
          · have P41 : own_Pr p.tables e below S0 s₁ (mkF m 67 #[.val (.int p1), .val (.int p2), .val (.int p3), .val (.int p4), .val (.long p5), .second, .val (.int p6), .val (.int z22)] [(.int p1), (.int p6)]) := fun t k => P38 t (by
              refine XS.icmpYes X0.here hx rfl (pc0 := 58) (pc' := 64) rfl (hb hby d1_58) rfl (XT.ii_ne_t hc58_39) (by decide) (by decide) ?_
              refine XS.iload X0.here hx rfl (hb hby d1_64) rfl ?_
              refine XS.iloadN X0.here hx rfl (hb hby d1_66) rfl ?_
              exact k)
            obtain ⟨_, _, ⟨T42, L42, k42, n42⟩, -, X42, ⟨Lc42, hQ42, l42, y42, z42⟩, st42⟩ := Jvm.LawKit.callS X0 hx (y := (⟨"com/example/twince/twince/IdempotencyKeyParsePinLaw", "blank", "(II)C"⟩ : MethodName)) hown (mvT hZ (hw _ (List.mem_of_getElem? (i := 10) rfl))) (mvT hZ (hw _ (List.mem_of_getElem? (i := 11) rfl))) (mvT hZ (hw _ (List.mem_of_getElem? (i := 4) rfl))) (mvT hZ (hw _ (List.mem_of_getElem? (i := 12) rfl))) (by decide) (backOf (W := 0) (rm3 l Z a0 hw [] p6 p1  h0 n0 Z0 ) hZ (hw _ (List.mem_of_getElem? (i := 12) rfl)) (hw _ (List.mem_of_getElem? (i := 4) rfl)) (by decide) (by decide)) (g := (mkF m 67 #[.val (.int p1), .val (.int p2), .val (.int p3), .val (.int p4), .val (.long p5), .second, .val (.int p6), .val (.int z22)] [(.int p1), (.int p6)])) rfl (by rw [hml]; rfl) (argsL := [(.int p6), (.int p1)]) (rest := []) (lenOf pd_9 rfl) rfl (by show 2 * 0 + _ ≤ _; exact Nat.le_of_eq rfl) (hb hby d1_67) (fun _ _ => ⟨rfl, e0, (by decide : 0 + 0 ≤ _), (by decide : 0 + 0 ≤ _)⟩)
            dsimp only [Pt.U, Pt.locs, Pt.cells, Pt.slots] at X42 l42 y42 z42 st42 hQ42
            rw [l42, y42, z42] at X42
            have X42 := X42.mono (cells' := 0) (slots' := 0) (by decide) (by decide)
            obtain ⟨z42v, rfl, hz42v, Nq42, eq42⟩ := hQ42
            have N42n := Fr.app N0 Nq42
            have P43 : own_Pr p.tables e below S0 T42 (mkF m 70 #[.val (.int p1), .val (.int p2), .val (.int p3), .val (.int p4), .val (.long p5), .second, .val (.int p6), .val (.int z22)] [(.int z42v)]) := fun t k => P41 t (st42 _ k)
            obtain ⟨fs, hr, hrun, hended, hW, hsame⟩ := X42.leave (v := some (.int z42v)) (fun h => by rw [Bd.returns] at h; cases h)
            have fin : Steps p.tables e below S0 (T42.setFrames fs) := P43 _ (retN X42 hx (t := .char) Bd.returns (by simp) (hb hby d1_70) (by rw [(by rw [hz42v]; exact own_bk_nar _ _ : nar .char z42v = z42v)]; exact hr))
            rw [hS0] at fin
            refine ⟨_, _, fin, hrun, hended, _, _, rfl, ?_, ⟨_, rfl⟩, hW, hsame.mono (by decide) (by decide)⟩
            show own_QI h0 n0 (own_f1 p1 p2 p3 p4 p5 p6) _ T42.heap _
            rw [eq42]
            exact ⟨_, rfl, (by subst hz42v; subst hz22; unfold own_f1; rw [if_neg hc7_24, if_pos hc19_29, if_neg hc24_31, if_neg hc35_34, if_neg hc58_39]), N42n, rfl⟩
    · have P44 : own_Pr p.tables e below S0 s₁ (mkF m 35 #[.val (.int p1), .val (.int p2), .val (.int p3), .val (.int p4), .val (.long p5), .second, .val (.int p6), .val (.int z22)] [(.int (z22 + p4)), (.int p1)]) := fun t k => P28 t (by
        refine XS.icmpYes X0.here hx rfl (pc0 := 19) (pc' := 30) rfl (hb hby d1_19) rfl (XT.ii_ne_t hc19_29) (by decide) (by decide) ?_
        refine XS.iloadN X0.here hx rfl (hb hby d1_30) rfl ?_
        refine XS.iload X0.here hx rfl (hb hby d1_31) rfl ?_
        refine XS.iloadN X0.here hx rfl (hb hby d1_33) rfl ?_
        refine XS.iadd X0.here hx rfl (hb hby d1_34) rfl ?_
        exact k)
      by_cases hc35_45 : p1 < (z22 + p4)
      · have P46 : own_Pr p.tables e below S0 s₁ (mkF m 44 #[.val (.int p1), .val (.int p2), .val (.int p3), .val (.int p4), .val (.long p5), .second, .val (.int p6), .val (.int z22)] [(.int (p1 - z22)), (.long p5)]) := fun t k => P44 t (by
          refine XS.icmpNo X0.here hx rfl (hb hby d1_35) rfl (XT.ii_ge_f hc35_45) ?_
          refine XS.lload X0.here hx rfl (hb hby d1_38) rfl ?_
          refine XS.iloadN X0.here hx rfl (hb hby d1_40) rfl ?_
          refine XS.iload X0.here hx rfl (hb hby d1_41) rfl ?_
          refine XS.isub X0.here hx rfl (hb hby d1_43) rfl ?_
          exact k)
        obtain ⟨_, _, ⟨T47, L47, k47, n47⟩, -, X47, ⟨Lc47, hQ47, l47, y47, z47⟩, st47⟩ := Jvm.LawKit.callS X0 hx (y := (⟨"com/example/twince/twince/IdempotencyKeyParsePinLaw", "keyChar", "(JI)C"⟩ : MethodName)) hown (mvT hZ (hw _ (List.mem_of_getElem? (i := 6) rfl))) (mvT hZ (hw _ (List.mem_of_getElem? (i := 7) rfl))) (mvT hZ (hw _ (List.mem_of_getElem? (i := 4) rfl))) (mvT hZ (hw _ (List.mem_of_getElem? (i := 8) rfl))) (by decide) (backOf (W := 0) (rm2 l Z a0 hw [] p5 (p1 - z22)  h0 n0 Z0 ) hZ (hw _ (List.mem_of_getElem? (i := 8) rfl)) (hw _ (List.mem_of_getElem? (i := 4) rfl)) (by decide) (by decide)) (g := (mkF m 44 #[.val (.int p1), .val (.int p2), .val (.int p3), .val (.int p4), .val (.long p5), .second, .val (.int p6), .val (.int z22)] [(.int (p1 - z22)), (.long p5)])) rfl (by rw [hml]; rfl) (argsL := [(.long p5), (.int (p1 - z22))]) (rest := []) (lenOf pd_10 rfl) rfl (by show 2 * 0 + _ ≤ _; exact Nat.le_of_eq rfl) (hb hby d1_44) (fun _ _ => ⟨rfl, e0, (by decide : 0 + 0 ≤ _), (by decide : 0 + 0 ≤ _)⟩)
        dsimp only [Pt.U, Pt.locs, Pt.cells, Pt.slots] at X47 l47 y47 z47 st47 hQ47
        rw [l47, y47, z47] at X47
        have X47 := X47.mono (cells' := 0) (slots' := 0) (by decide) (by decide)
        obtain ⟨z47v, rfl, hz47v, Nq47, eq47⟩ := hQ47
        have N47n := Fr.app N0 Nq47
        have P48 : own_Pr p.tables e below S0 T47 (mkF m 47 #[.val (.int p1), .val (.int p2), .val (.int p3), .val (.int p4), .val (.long p5), .second, .val (.int p6), .val (.int z22)] [(.int z47v)]) := fun t k => P46 t (st47 _ k)
        obtain ⟨fs, hr, hrun, hended, hW, hsame⟩ := X47.leave (v := some (.int z47v)) (fun h => by rw [Bd.returns] at h; cases h)
        have fin : Steps p.tables e below S0 (T47.setFrames fs) := P48 _ (retN X47 hx (t := .char) Bd.returns (by simp) (hb hby d1_47) (by rw [(by rw [hz47v]; exact own_kc_nar _ _ : nar .char z47v = z47v)]; exact hr))
        rw [hS0] at fin
        refine ⟨_, _, fin, hrun, hended, _, _, rfl, ?_, ⟨_, rfl⟩, hW, hsame.mono (by decide) (by decide)⟩
        show own_QI h0 n0 (own_f1 p1 p2 p3 p4 p5 p6) _ T47.heap _
        rw [eq47]
        exact ⟨_, rfl, (by subst hz47v; subst hz22; unfold own_f1; rw [if_neg hc7_24, if_neg hc19_29, if_pos hc35_45]), N47n, rfl⟩
      · have P49 : own_Pr p.tables e below S0 s₁ (mkF m 67 #[.val (.int p1), .val (.int p2), .val (.int p3), .val (.int p4), .val (.long p5), .second, .val (.int p6), .val (.int z22)] [(.int p1), (.int p6)]) := fun t k => P44 t (by
          refine XS.icmpYes X0.here hx rfl (pc0 := 35) (pc' := 48) rfl (hb hby d1_35) rfl (XT.ii_ge_t hc35_45) (by decide) (by decide) ?_
          refine XS.iloadN X0.here hx rfl (hb hby d1_48) rfl ?_
          refine XS.iconst X0.here hx rfl (hb hby d1_49) ?_
          refine XS.icmpYes X0.here hx rfl (pc0 := 50) (pc' := 64) rfl (hb hby d1_50) rfl (XT.ii_ne_t hc19_29) (by decide) (by decide) ?_
          refine XS.iload X0.here hx rfl (hb hby d1_64) rfl ?_
          refine XS.iloadN X0.here hx rfl (hb hby d1_66) rfl ?_
          exact k)
        obtain ⟨_, _, ⟨T50, L50, k50, n50⟩, -, X50, ⟨Lc50, hQ50, l50, y50, z50⟩, st50⟩ := Jvm.LawKit.callS X0 hx (y := (⟨"com/example/twince/twince/IdempotencyKeyParsePinLaw", "blank", "(II)C"⟩ : MethodName)) hown (mvT hZ (hw _ (List.mem_of_getElem? (i := 10) rfl))) (mvT hZ (hw _ (List.mem_of_getElem? (i := 11) rfl))) (mvT hZ (hw _ (List.mem_of_getElem? (i := 4) rfl))) (mvT hZ (hw _ (List.mem_of_getElem? (i := 12) rfl))) (by decide) (backOf (W := 0) (rm3 l Z a0 hw [] p6 p1  h0 n0 Z0 ) hZ (hw _ (List.mem_of_getElem? (i := 12) rfl)) (hw _ (List.mem_of_getElem? (i := 4) rfl)) (by decide) (by decide)) (g := (mkF m 67 #[.val (.int p1), .val (.int p2), .val (.int p3), .val (.int p4), .val (.long p5), .second, .val (.int p6), .val (.int z22)] [(.int p1), (.int p6)])) rfl (by rw [hml]; rfl) (argsL := [(.int p6), (.int p1)]) (rest := []) (lenOf pd_9 rfl) rfl (by show 2 * 0 + _ ≤ _; exact Nat.le_of_eq rfl) (hb hby d1_67) (fun _ _ => ⟨rfl, e0, (by decide : 0 + 0 ≤ _), (by decide : 0 + 0 ≤ _)⟩)
        dsimp only [Pt.U, Pt.locs, Pt.cells, Pt.slots] at X50 l50 y50 z50 st50 hQ50
        rw [l50, y50, z50] at X50
        have X50 := X50.mono (cells' := 0) (slots' := 0) (by decide) (by decide)
        obtain ⟨z50v, rfl, hz50v, Nq50, eq50⟩ := hQ50
        have N50n := Fr.app N0 Nq50
        have P51 : own_Pr p.tables e below S0 T50 (mkF m 70 #[.val (.int p1), .val (.int p2), .val (.int p3), .val (.int p4), .val (.long p5), .second, .val (.int p6), .val (.int z22)] [(.int z50v)]) := fun t k => P49 t (st50 _ k)
        obtain ⟨fs, hr, hrun, hended, hW, hsame⟩ := X50.leave (v := some (.int z50v)) (fun h => by rw [Bd.returns] at h; cases h)
        have fin : Steps p.tables e below S0 (T50.setFrames fs) := P51 _ (retN X50 hx (t := .char) Bd.returns (by simp) (hb hby d1_70) (by rw [(by rw [hz50v]; exact own_bk_nar _ _ : nar .char z50v = z50v)]; exact hr))
        rw [hS0] at fin
        refine ⟨_, _, fin, hrun, hended, _, _, rfl, ?_, ⟨_, rfl⟩, hW, hsame.mono (by decide) (by decide)⟩
        show own_QI h0 n0 (own_f1 p1 p2 p3 p4 p5 p6) _ T50.heap _
        rw [eq50]
        exact ⟨_, rfl, (by subst hz50v; subst hz22; unfold own_f1; rw [if_neg hc7_24, if_neg hc19_29, if_neg hc35_45]), N50n, rfl⟩
theorem d11_0 : decode jdk_31_method_10_code 0 = .ok (.aload_n 0, 1) := by decide +kernel
theorem d11_1 : decode jdk_31_method_10_code 1 = .ok (.ifnonnull 11, 3) := by decide +kernel
theorem d11_12 : decode jdk_31_method_10_code 12 = .ok (.aload_n 0, 1) := by decide +kernel
theorem d11_13 : decode jdk_31_method_10_code 13 = .ok (.areturn, 1) := by decide +kernel
theorem pn_11 : plainName "java/util/Objects" = true := by first | (simp [plainName, overriddenIn]; done) | decide +kernel
theorem ef_11 (m : MethodId) (a1 : Addr) : entryFrame m #[(.ref a1)] 1 = mkF m 0 #[.val (.ref a1)] [] := by first | (simp [entryFrame, mkF, argsToLocals, Value.category]; done) | rfl
def own_f11 (a1 : Addr) : Addr := a1
set_option maxRecDepth 65536 in
set_option maxHeartbeats 40000000 in
theorem rm11 (l : Launch) (Z : State) (a0 : Array Value) (hw : ∀ d ∈ tables_1, d.before a0 Z = true) (ws : List Jvm.Cond) (a1 : Addr)  (h0 : Heap) (n0 : Nat) (Z0 : n0 ≤ h0.size) :
    MetFree l (⟨"java/util/Objects", "requireNonNull", "(Ljava/lang/Object;)Ljava/lang/Object;"⟩ : MethodName) (head1 (Jvm.Cond.code (⟨"java/util/Objects", "requireNonNull", "(Ljava/lang/Object;)Ljava/lang/Object;"⟩ : MethodName) jdk_31_method_10_code 1 (some (.object "java/lang/Object")) :: ws) ({ frames := 0, cells := 0, slots := 0, locals := 0 } : Room)) (fun a U => a = #[(.ref a1)] ∧ Z.Warmed39 U.vm ∧ U.heap = h0) (fun _ _ _ _ _ => True) (fun _ U o U' => ∃ v L, o = .returned v ∧ own_QR h0 n0 (own_f11 a1) v U'.heap L ∧ FrameEnd U o U' L ({ frames := 0, cells := 0, slots := 0, locals := 0 } : Room).cells ({ frames := 0, cells := 0, slots := 0, locals := 0 } : Room).slots) := by
  refine MetFree.of_bodySF (plainFor_of_name pn_11) hisR ?_
  intro p e s m args below meth c s₁ Bd hml0 hP hK
  obtain ⟨rfl, hZ, hh⟩ := hP
  have hx := Bd.exec
  have hby := Bd.bytes
  have hml : c.maxLocals = 1 := hml0
  have hown : s.vm.findClass "java/util/Objects" = some m.cls := findClass_of_methodNamed Bd.named
  have hnm := (name_of_methodNamed Bd.named Bd.method).1
  have X0 : Stand p l e ({ frames := 0, cells := 0, slots := 0, locals := 0 } : Room) s m #[(.ref a1)] below meth c s₁ [] 0 0 := Stand.of_body Bd
  have e0 : s₁.heap = h0 := by rw [← hh, Bd.state]; rfl
  have N0 := Fr.nil n0
  obtain ⟨S0, hS0⟩ : ∃ z, z = s₁.setTop (entryFrame m #[(.ref a1)] 1) := ⟨_, rfl⟩
  have P0 : own_Pr p.tables e below S0 s₁ (mkF m 0 #[.val (.ref a1)] []) := fun t k => hS0 ▸ castTop (ef_11 m a1) k
  have P21 : own_Pr p.tables e below S0 s₁ (mkF m 13 #[.val (.ref a1)] [(.ref a1)]) := fun t k => P0 t (by
    refine XS.aloadN X0.here hx rfl (hb hby d11_0) rfl rfl ?_
    refine XS.ifnonnullYes X0.here hx rfl (pc0 := 1) (pc' := 12) rfl (hb hby d11_1) rfl (by decide) (by decide) ?_
    refine XS.aloadN X0.here hx rfl (hb hby d11_12) rfl rfl ?_
    exact k)
  obtain ⟨fs, hr, hrun, hended, hW, hsame⟩ := X0.leave (v := some (.ref a1)) (fun h => by rw [Bd.returns] at h; cases h)
  have fin : Steps p.tables e below S0 (s₁.setFrames fs) := P21 _ (by
    jvm_step X0.here [X0.here.top, hx, (hb hby d11_13), X0.method', Bd.returns, Value.isRef, FieldType.isReference]
    first | (intro acts; rw [hr _ acts rfl rfl rfl]) | rw [hr _ _ rfl rfl rfl]
    exact Steps.refl _)
  rw [hS0] at fin
  refine ⟨_, _, fin, hrun, hended, _, _, rfl, ?_, ⟨_, rfl⟩, hW, hsame.mono (by decide) (by decide)⟩
  show own_QR h0 n0 (own_f11 a1) _ s₁.heap _
  rw [e0]
  exact ⟨_, rfl, (by unfold own_f11; rfl), N0, rfl⟩
theorem d12_0 : decode prog_6_method_3_code 0 = .ok (.iload_n 0, 1) := by decide +kernel
theorem d12_1 : decode prog_6_method_3_code 1 = .ok (.iconst 1, 1) := by decide +kernel
theorem d12_2 : decode prog_6_method_3_code 2 = .ok (.if_icmp .lt 10, 3) := by decide +kernel
theorem d12_5 : decode prog_6_method_3_code 5 = .ok (.iload_n 0, 1) := by decide +kernel
theorem d12_6 : decode prog_6_method_3_code 6 = .ok (.sipush 255, 3) := by decide +kernel
theorem d12_9 : decode prog_6_method_3_code 9 = .ok (.if_icmp .le 17, 3) := by decide +kernel
theorem d12_26 : decode prog_6_method_3_code 26 = .ok (.iload_n 0, 1) := by decide +kernel
theorem d12_27 : decode prog_6_method_3_code 27 = .ok (.ireturn, 1) := by decide +kernel
theorem pn_12 : plainName "com/example/twince/twince/IdempotencyKey" = true := by first | (simp [plainName, overriddenIn]; done) | decide +kernel
theorem ef_12 (m : MethodId) (p1 : Int32) : entryFrame m #[(.int p1)] 1 = mkF m 0 #[.val (.int p1)] [] := by first | (simp [entryFrame, mkF, argsToLocals, Value.category]; done) | rfl
def own_f12 (p1 : Int32) : Int32 := p1
set_option maxRecDepth 65536 in
set_option maxHeartbeats 40000000 in
theorem rm12 (l : Launch) (Z : State) (a0 : Array Value) (hw : ∀ d ∈ tables_1, d.before a0 Z = true) (ws : List Jvm.Cond) (p1 : Int32)  (h0 : Heap) (n0 : Nat) (Z0 : n0 ≤ h0.size) (hc2 : ¬ (p1 < (1 : Int32))) (hc9 : ¬ ((255 : Int32) < p1)) :
    MetFree l (⟨"com/example/twince/twince/IdempotencyKey", "checkMinLength", "(I)I"⟩ : MethodName) (head1 (Jvm.Cond.code (⟨"com/example/twince/twince/IdempotencyKey", "checkMinLength", "(I)I"⟩ : MethodName) prog_6_method_3_code 1 (some .int) :: ws) ({ frames := 0, cells := 0, slots := 0, locals := 0 } : Room)) (fun a U => a = #[(.int p1)] ∧ Z.Warmed39 U.vm ∧ U.heap = h0) (fun _ _ _ _ _ => True) (fun _ U o U' => ∃ v L, o = .returned v ∧ own_QI h0 n0 (own_f12 p1) v U'.heap L ∧ FrameEnd U o U' L ({ frames := 0, cells := 0, slots := 0, locals := 0 } : Room).cells ({ frames := 0, cells := 0, slots := 0, locals := 0 } : Room).slots) := by
  refine MetFree.of_bodySF (plainFor_of_name pn_12) hisR ?_
  intro p e s m args below meth c s₁ Bd hml0 hP hK
  obtain ⟨rfl, hZ, hh⟩ := hP
  have hx := Bd.exec
  have hby := Bd.bytes
  have hml : c.maxLocals = 1 := hml0
  have hown : s.vm.findClass "com/example/twince/twince/IdempotencyKey" = some m.cls := findClass_of_methodNamed Bd.named
  have hnm := (name_of_methodNamed Bd.named Bd.method).1
  have X0 : Stand p l e ({ frames := 0, cells := 0, slots := 0, locals := 0 } : Room) s m #[(.int p1)] below meth c s₁ [] 0 0 := Stand.of_body Bd
  have e0 : s₁.heap = h0 := by rw [← hh, Bd.state]; rfl
  have N0 := Fr.nil n0
  obtain ⟨S0, hS0⟩ : ∃ z, z = s₁.setTop (entryFrame m #[(.int p1)] 1) := ⟨_, rfl⟩
  have P0 : own_Pr p.tables e below S0 s₁ (mkF m 0 #[.val (.int p1)] []) := fun t k => hS0 ▸ castTop (ef_12 m p1) k
  have P21 : own_Pr p.tables e below S0 s₁ (mkF m 27 #[.val (.int p1)] [(.int p1)]) := fun t k => P0 t (by
    refine XS.iloadN X0.here hx rfl (hb hby d12_0) rfl ?_
    refine XS.iconst X0.here hx rfl (hb hby d12_1) ?_
    refine XS.icmpNo X0.here hx rfl (hb hby d12_2) rfl (XT.ii_lt_f hc2) ?_
    refine XS.iloadN X0.here hx rfl (hb hby d12_5) rfl ?_
    refine XS.sipush X0.here hx rfl (hb hby d12_6) ?_
    refine XS.icmpYes X0.here hx rfl (pc0 := 9) (pc' := 26) rfl (hb hby d12_9) rfl (XT.ii_le_t hc9) (by decide) (by decide) ?_
    refine XS.iloadN X0.here hx rfl (hb hby d12_26) rfl ?_
    exact k)
  obtain ⟨fs, hr, hrun, hended, hW, hsame⟩ := X0.leave (v := some (.int p1)) (fun h => by rw [Bd.returns] at h; cases h)
  have fin : Steps p.tables e below S0 (s₁.setFrames fs) := P21 _ (retI X0 hx Bd.returns (hb hby d12_27) hr)
  rw [hS0] at fin
  refine ⟨_, _, fin, hrun, hended, _, _, rfl, ?_, ⟨_, rfl⟩, hW, hsame.mono (by decide) (by decide)⟩
  show own_QI h0 n0 (own_f12 p1) _ s₁.heap _
  rw [e0]
  exact ⟨_, rfl, (by unfold own_f12; rfl), N0, rfl⟩
theorem d20_0 : decode prog_6_method_4_code 0 = .ok (.iload_n 0, 1) := by decide +kernel
theorem d20_1 : decode prog_6_method_4_code 1 = .ok (.bipush 32, 2) := by decide +kernel
theorem d20_3 : decode prog_6_method_4_code 3 = .ok (.if_icmp .eq 9, 3) := by decide +kernel
theorem d20_6 : decode prog_6_method_4_code 6 = .ok (.iload_n 0, 1) := by decide +kernel
theorem d20_7 : decode prog_6_method_4_code 7 = .ok (.bipush 9, 2) := by decide +kernel
theorem d20_9 : decode prog_6_method_4_code 9 = .ok (.if_icmp .ne 7, 3) := by decide +kernel
theorem d20_12 : decode prog_6_method_4_code 12 = .ok (.iconst 1, 1) := by decide +kernel
theorem d20_13 : decode prog_6_method_4_code 13 = .ok (.goto 4, 3) := by decide +kernel
theorem d20_16 : decode prog_6_method_4_code 16 = .ok (.iconst 0, 1) := by decide +kernel
theorem d20_17 : decode prog_6_method_4_code 17 = .ok (.ireturn, 1) := by decide +kernel
theorem ef_20 (m : MethodId) (p1 : Int32) : entryFrame m #[(.int p1)] 1 = mkF m 0 #[.val (.int p1)] [] := by first | (simp [entryFrame, mkF, argsToLocals, Value.category]; done) | rfl
def own_f20 (p1 : Int32) : Int32 := (if p1 = (32 : Int32) then (1 : Int32) else (if p1 = (9 : Int32) then (1 : Int32) else (0 : Int32)))
set_option maxRecDepth 65536 in
set_option maxHeartbeats 40000000 in
theorem rm20 (l : Launch) (Z : State) (a0 : Array Value) (hw : ∀ d ∈ tables_1, d.before a0 Z = true) (ws : List Jvm.Cond) (p1 : Int32)  (h0 : Heap) (n0 : Nat) (Z0 : n0 ≤ h0.size) :
    MetFree l (⟨"com/example/twince/twince/IdempotencyKey", "isBlank", "(C)Z"⟩ : MethodName) (head1 (Jvm.Cond.code (⟨"com/example/twince/twince/IdempotencyKey", "isBlank", "(C)Z"⟩ : MethodName) prog_6_method_4_code 1 (some .boolean) :: ws) ({ frames := 0, cells := 0, slots := 0, locals := 0 } : Room)) (fun a U => a = #[(.int p1)] ∧ Z.Warmed39 U.vm ∧ U.heap = h0) (fun _ _ _ _ _ => True) (fun _ U o U' => ∃ v L, o = .returned v ∧ own_QI h0 n0 (own_f20 p1) v U'.heap L ∧ FrameEnd U o U' L ({ frames := 0, cells := 0, slots := 0, locals := 0 } : Room).cells ({ frames := 0, cells := 0, slots := 0, locals := 0 } : Room).slots) := by
  refine MetFree.of_bodySF (plainFor_of_name pn_12) hisR ?_
  intro p e s m args below meth c s₁ Bd hml0 hP hK
  obtain ⟨rfl, hZ, hh⟩ := hP
  have hx := Bd.exec
  have hby := Bd.bytes
  have hml : c.maxLocals = 1 := hml0
  have hown : s.vm.findClass "com/example/twince/twince/IdempotencyKey" = some m.cls := findClass_of_methodNamed Bd.named
  have hnm := (name_of_methodNamed Bd.named Bd.method).1
  have X0 : Stand p l e ({ frames := 0, cells := 0, slots := 0, locals := 0 } : Room) s m #[(.int p1)] below meth c s₁ [] 0 0 := Stand.of_body Bd
  have e0 : s₁.heap = h0 := by rw [← hh, Bd.state]; rfl
  have N0 := Fr.nil n0
  obtain ⟨S0, hS0⟩ : ∃ z, z = s₁.setTop (entryFrame m #[(.int p1)] 1) := ⟨_, rfl⟩
  have P0 : own_Pr p.tables e below S0 s₁ (mkF m 0 #[.val (.int p1)] []) := fun t k => hS0 ▸ castTop (ef_20 m p1) k
  have P21 : own_Pr p.tables e below S0 s₁ (mkF m 3 #[.val (.int p1)] [(.int (32 : Int32)), (.int p1)]) := fun t k => P0 t (by
    refine XS.iloadN X0.here hx rfl (hb hby d20_0) rfl ?_
    refine XS.bipush X0.here hx rfl (hb hby d20_1) ?_
    exact k)
  by_cases hc3_22 : p1 = (32 : Int32)
  · have P23 : own_Pr p.tables e below S0 s₁ (mkF m 17 #[.val (.int p1)] [(.int (1 : Int32))]) := fun t k => P21 t (by
      refine XS.icmpYes X0.here hx rfl (pc0 := 3) (pc' := 12) rfl (hb hby d20_3) rfl (XT.ii_eq_t hc3_22) (by decide) (by decide) ?_
      refine XS.iconst X0.here hx rfl (hb hby d20_12) ?_
      refine XS.goto X0.here hx rfl (pc0 := 13) (pc' := 17) rfl (hb hby d20_13) (by decide) (by decide) ?_
      exact k)
    obtain ⟨fs, hr, hrun, hended, hW, hsame⟩ := X0.leave (v := some (.int (1 : Int32))) (fun h => by rw [Bd.returns] at h; cases h)
    have fin : Steps p.tables e below S0 (s₁.setFrames fs) := P23 _ (retN X0 hx (t := .boolean) Bd.returns (by simp) (hb hby d20_17) hr)
    rw [hS0] at fin
    refine ⟨_, _, fin, hrun, hended, _, _, rfl, ?_, ⟨_, rfl⟩, hW, hsame.mono (by decide) (by decide)⟩
    show own_QI h0 n0 (own_f20 p1) _ s₁.heap _
    rw [e0]
    exact ⟨_, rfl, (by unfold own_f20; rw [if_pos hc3_22]), N0, rfl⟩
  · have P24 : own_Pr p.tables e below S0 s₁ (mkF m 9 #[.val (.int p1)] [(.int (9 : Int32)), (.int p1)]) := fun t k => P21 t (by
      refine XS.icmpNo X0.here hx rfl (hb hby d20_3) rfl (XT.ii_eq_f hc3_22) ?_
      refine XS.iloadN X0.here hx rfl (hb hby d20_6) rfl ?_
      refine XS.bipush X0.here hx rfl (hb hby d20_7) ?_
      exact k)
    by_cases hc9_25 : p1 = (9 : Int32)
    · have P26 : own_Pr p.tables e below S0 s₁ (mkF m 17 #[.val (.int p1)] [(.int (1 : Int32))]) := fun t k => P24 t (by
        refine XS.icmpNo X0.here hx rfl (hb hby d20_9) rfl (XT.ii_ne_f hc9_25) ?_
        refine XS.iconst X0.here hx rfl (hb hby d20_12) ?_
        refine XS.goto X0.here hx rfl (pc0 := 13) (pc' := 17) rfl (hb hby d20_13) (by decide) (by decide) ?_
        exact k)
      obtain ⟨fs, hr, hrun, hended, hW, hsame⟩ := X0.leave (v := some (.int (1 : Int32))) (fun h => by rw [Bd.returns] at h; cases h)
      have fin : Steps p.tables e below S0 (s₁.setFrames fs) := P26 _ (retN X0 hx (t := .boolean) Bd.returns (by simp) (hb hby d20_17) hr)
      rw [hS0] at fin
      refine ⟨_, _, fin, hrun, hended, _, _, rfl, ?_, ⟨_, rfl⟩, hW, hsame.mono (by decide) (by decide)⟩
      show own_QI h0 n0 (own_f20 p1) _ s₁.heap _
      rw [e0]
      exact ⟨_, rfl, (by unfold own_f20; rw [if_neg hc3_22, if_pos hc9_25]), N0, rfl⟩
    · have P27 : own_Pr p.tables e below S0 s₁ (mkF m 17 #[.val (.int p1)] [(.int (0 : Int32))]) := fun t k => P24 t (by
        refine XS.icmpYes X0.here hx rfl (pc0 := 9) (pc' := 16) rfl (hb hby d20_9) rfl (XT.ii_ne_t hc9_25) (by decide) (by decide) ?_
        refine XS.iconst X0.here hx rfl (hb hby d20_16) ?_
        exact k)
      obtain ⟨fs, hr, hrun, hended, hW, hsame⟩ := X0.leave (v := some (.int (0 : Int32))) (fun h => by rw [Bd.returns] at h; cases h)
      have fin : Steps p.tables e below S0 (s₁.setFrames fs) := P27 _ (retN X0 hx (t := .boolean) Bd.returns (by simp) (hb hby d20_17) hr)
      rw [hS0] at fin
      refine ⟨_, _, fin, hrun, hended, _, _, rfl, ?_, ⟨_, rfl⟩, hW, hsame.mono (by decide) (by decide)⟩
      show own_QI h0 n0 (own_f20 p1) _ s₁.heap _
      rw [e0]
      exact ⟨_, rfl, (by unfold own_f20; rw [if_neg hc3_22, if_neg hc9_25]), N0, rfl⟩
theorem d21_0 : decode prog_6_method_5_code 0 = .ok (.iload_n 0, 1) := by decide +kernel
theorem d21_1 : decode prog_6_method_5_code 1 = .ok (.bipush 97, 2) := by decide +kernel
theorem d21_3 : decode prog_6_method_5_code 3 = .ok (.if_icmp .lt 9, 3) := by decide +kernel
theorem d21_6 : decode prog_6_method_5_code 6 = .ok (.iload_n 0, 1) := by decide +kernel
theorem d21_7 : decode prog_6_method_5_code 7 = .ok (.bipush 122, 2) := by decide +kernel
theorem d21_9 : decode prog_6_method_5_code 9 = .ok (.if_icmp .le 51, 3) := by decide +kernel
theorem d21_12 : decode prog_6_method_5_code 12 = .ok (.iload_n 0, 1) := by decide +kernel
theorem d21_13 : decode prog_6_method_5_code 13 = .ok (.bipush 65, 2) := by decide +kernel
theorem d21_15 : decode prog_6_method_5_code 15 = .ok (.if_icmp .lt 9, 3) := by decide +kernel
theorem d21_18 : decode prog_6_method_5_code 18 = .ok (.iload_n 0, 1) := by decide +kernel
theorem d21_19 : decode prog_6_method_5_code 19 = .ok (.bipush 90, 2) := by decide +kernel
theorem d21_21 : decode prog_6_method_5_code 21 = .ok (.if_icmp .le 39, 3) := by decide +kernel
theorem d21_24 : decode prog_6_method_5_code 24 = .ok (.iload_n 0, 1) := by decide +kernel
theorem d21_25 : decode prog_6_method_5_code 25 = .ok (.bipush 48, 2) := by decide +kernel
theorem d21_27 : decode prog_6_method_5_code 27 = .ok (.if_icmp .lt 9, 3) := by decide +kernel
theorem d21_30 : decode prog_6_method_5_code 30 = .ok (.iload_n 0, 1) := by decide +kernel
theorem d21_31 : decode prog_6_method_5_code 31 = .ok (.bipush 57, 2) := by decide +kernel
theorem d21_33 : decode prog_6_method_5_code 33 = .ok (.if_icmp .le 27, 3) := by decide +kernel
theorem d21_36 : decode prog_6_method_5_code 36 = .ok (.iload_n 0, 1) := by decide +kernel
theorem d21_37 : decode prog_6_method_5_code 37 = .ok (.bipush 45, 2) := by decide +kernel
theorem d21_39 : decode prog_6_method_5_code 39 = .ok (.if_icmp .eq 21, 3) := by decide +kernel
theorem d21_42 : decode prog_6_method_5_code 42 = .ok (.iload_n 0, 1) := by decide +kernel
theorem d21_43 : decode prog_6_method_5_code 43 = .ok (.bipush 95, 2) := by decide +kernel
theorem d21_45 : decode prog_6_method_5_code 45 = .ok (.if_icmp .eq 15, 3) := by decide +kernel
theorem d21_48 : decode prog_6_method_5_code 48 = .ok (.iload_n 0, 1) := by decide +kernel
theorem d21_49 : decode prog_6_method_5_code 49 = .ok (.bipush 58, 2) := by decide +kernel
theorem d21_51 : decode prog_6_method_5_code 51 = .ok (.if_icmp .eq 9, 3) := by decide +kernel
theorem d21_54 : decode prog_6_method_5_code 54 = .ok (.iload_n 0, 1) := by decide +kernel
theorem d21_55 : decode prog_6_method_5_code 55 = .ok (.bipush 46, 2) := by decide +kernel
theorem d21_57 : decode prog_6_method_5_code 57 = .ok (.if_icmp .ne 7, 3) := by decide +kernel
theorem d21_60 : decode prog_6_method_5_code 60 = .ok (.iconst 1, 1) := by decide +kernel
theorem d21_61 : decode prog_6_method_5_code 61 = .ok (.goto 4, 3) := by decide +kernel
theorem d21_64 : decode prog_6_method_5_code 64 = .ok (.iconst 0, 1) := by decide +kernel
theorem d21_65 : decode prog_6_method_5_code 65 = .ok (.ireturn, 1) := by decide +kernel
theorem ef_21 (m : MethodId) (p1 : Int32) : entryFrame m #[(.int p1)] 1 = mkF m 0 #[.val (.int p1)] [] := by first | (simp [entryFrame, mkF, argsToLocals, Value.category]; done) | rfl
def own_f21 (p1 : Int32) : Int32 := (if p1 < (97 : Int32) then (if p1 < (65 : Int32) then (if p1 < (48 : Int32) then (if p1 = (45 : Int32) then (1 : Int32) else (if p1 = (95 : Int32) then (1 : Int32) else (if p1 = (58 : Int32) then (1 : Int32) else (if p1 = (46 : Int32) then (1 : Int32) else (0 : Int32))))) else (if (57 : Int32) < p1 then (if p1 = (45 : Int32) then (1 : Int32) else (if p1 = (95 : Int32) then (1 : Int32) else (if p1 = (58 : Int32) then (1 : Int32) else (if p1 = (46 : Int32) then (1 : Int32) else (0 : Int32))))) else (1 : Int32))) else (if (90 : Int32) < p1 then (if p1 < (48 : Int32) then (if p1 = (45 : Int32) then (1 : Int32) else (if p1 = (95 : Int32) then (1 : Int32) else (if p1 = (58 : Int32) then (1 : Int32) else (if p1 = (46 : Int32) then (1 : Int32) else (0 : Int32))))) else (if (57 : Int32) < p1 then (if p1 = (45 : Int32) then (1 : Int32) else (if p1 = (95 : Int32) then (1 : Int32) else (if p1 = (58 : Int32) then (1 : Int32) else (if p1 = (46 : Int32) then (1 : Int32) else (0 : Int32))))) else (1 : Int32))) else (1 : Int32))) else (if (122 : Int32) < p1 then (if p1 < (65 : Int32) then (if p1 < (48 : Int32) then (if p1 = (45 : Int32) then (1 : Int32) else (if p1 = (95 : Int32) then (1 : Int32) else (if p1 = (58 : Int32) then (1 : Int32) else (if p1 = (46 : Int32) then (1 : Int32) else (0 : Int32))))) else (if (57 : Int32) < p1 then (if p1 = (45 : Int32) then (1 : Int32) else (if p1 = (95 : Int32) then (1 : Int32) else (if p1 = (58 : Int32) then (1 : Int32) else (if p1 = (46 : Int32) then (1 : Int32) else (0 : Int32))))) else (1 : Int32))) else (if (90 : Int32) < p1 then (if p1 < (48 : Int32) then (if p1 = (45 : Int32) then (1 : Int32) else (if p1 = (95 : Int32) then (1 : Int32) else (if p1 = (58 : Int32) then (1 : Int32) else (if p1 = (46 : Int32) then (1 : Int32) else (0 : Int32))))) else (if (57 : Int32) < p1 then (if p1 = (45 : Int32) then (1 : Int32) else (if p1 = (95 : Int32) then (1 : Int32) else (if p1 = (58 : Int32) then (1 : Int32) else (if p1 = (46 : Int32) then (1 : Int32) else (0 : Int32))))) else (1 : Int32))) else (1 : Int32))) else (1 : Int32)))
set_option maxRecDepth 65536 in
set_option maxHeartbeats 40000000 in
theorem rm21 (l : Launch) (Z : State) (a0 : Array Value) (hw : ∀ d ∈ tables_1, d.before a0 Z = true) (ws : List Jvm.Cond) (p1 : Int32)  (h0 : Heap) (n0 : Nat) (Z0 : n0 ≤ h0.size) :
    MetFree l (⟨"com/example/twince/twince/IdempotencyKey", "isKeyCharacter", "(C)Z"⟩ : MethodName) (head1 (Jvm.Cond.code (⟨"com/example/twince/twince/IdempotencyKey", "isKeyCharacter", "(C)Z"⟩ : MethodName) prog_6_method_5_code 1 (some .boolean) :: ws) ({ frames := 0, cells := 0, slots := 0, locals := 0 } : Room)) (fun a U => a = #[(.int p1)] ∧ Z.Warmed39 U.vm ∧ U.heap = h0) (fun _ _ _ _ _ => True) (fun _ U o U' => ∃ v L, o = .returned v ∧ own_QI h0 n0 (own_f21 p1) v U'.heap L ∧ FrameEnd U o U' L ({ frames := 0, cells := 0, slots := 0, locals := 0 } : Room).cells ({ frames := 0, cells := 0, slots := 0, locals := 0 } : Room).slots) := by
  refine MetFree.of_bodySF (plainFor_of_name pn_12) hisR ?_
  intro p e s m args below meth c s₁ Bd hml0 hP hK
  obtain ⟨rfl, hZ, hh⟩ := hP
  have hx := Bd.exec
  have hby := Bd.bytes
  have hml : c.maxLocals = 1 := hml0
  have hown : s.vm.findClass "com/example/twince/twince/IdempotencyKey" = some m.cls := findClass_of_methodNamed Bd.named
  have hnm := (name_of_methodNamed Bd.named Bd.method).1
  have X0 : Stand p l e ({ frames := 0, cells := 0, slots := 0, locals := 0 } : Room) s m #[(.int p1)] below meth c s₁ [] 0 0 := Stand.of_body Bd
  have e0 : s₁.heap = h0 := by rw [← hh, Bd.state]; rfl
  have N0 := Fr.nil n0
  obtain ⟨S0, hS0⟩ : ∃ z, z = s₁.setTop (entryFrame m #[(.int p1)] 1) := ⟨_, rfl⟩
  have P0 : own_Pr p.tables e below S0 s₁ (mkF m 0 #[.val (.int p1)] []) := fun t k => hS0 ▸ castTop (ef_21 m p1) k
  have P21 : own_Pr p.tables e below S0 s₁ (mkF m 3 #[.val (.int p1)] [(.int (97 : Int32)), (.int p1)]) := fun t k => P0 t (by
    refine XS.iloadN X0.here hx rfl (hb hby d21_0) rfl ?_
    refine XS.bipush X0.here hx rfl (hb hby d21_1) ?_
    exact k)
  by_cases hc3_22 : p1 < (97 : Int32)
  · have P23 : own_Pr p.tables e below S0 s₁ (mkF m 15 #[.val (.int p1)] [(.int (65 : Int32)), (.int p1)]) := fun t k => P21 t (by
      refine XS.icmpYes X0.here hx rfl (pc0 := 3) (pc' := 12) rfl (hb hby d21_3) rfl (XT.ii_lt_t hc3_22) (by decide) (by decide) ?_
      refine XS.iloadN X0.here hx rfl (hb hby d21_12) rfl ?_
      refine XS.bipush X0.here hx rfl (hb hby d21_13) ?_
      exact k)
    by_cases hc15_24 : p1 < (65 : Int32)
    · have P25 : own_Pr p.tables e below S0 s₁ (mkF m 27 #[.val (.int p1)] [(.int (48 : Int32)), (.int p1)]) := fun t k => P23 t (by
        refine XS.icmpYes X0.here hx rfl (pc0 := 15) (pc' := 24) rfl (hb hby d21_15) rfl (XT.ii_lt_t hc15_24) (by decide) (by decide) ?_
        refine XS.iloadN X0.here hx rfl (hb hby d21_24) rfl ?_
        refine XS.bipush X0.here hx rfl (hb hby d21_25) ?_
        exact k)
      by_cases hc27_26 : p1 < (48 : Int32)
      · have P27 : own_Pr p.tables e below S0 s₁ (mkF m 39 #[.val (.int p1)] [(.int (45 : Int32)), (.int p1)]) := fun t k => P25 t (by
          refine XS.icmpYes X0.here hx rfl (pc0 := 27) (pc' := 36) rfl (hb hby d21_27) rfl (XT.ii_lt_t hc27_26) (by decide) (by decide) ?_
          refine XS.iloadN X0.here hx rfl (hb hby d21_36) rfl ?_
          refine XS.bipush X0.here hx rfl (hb hby d21_37) ?_
          exact k)
        by_cases hc39_28 : p1 = (45 : Int32)
        · have P29 : own_Pr p.tables e below S0 s₁ (mkF m 65 #[.val (.int p1)] [(.int (1 : Int32))]) := fun t k => P27 t (by
            refine XS.icmpYes X0.here hx rfl (pc0 := 39) (pc' := 60) rfl (hb hby d21_39) rfl (XT.ii_eq_t hc39_28) (by decide) (by decide) ?_
            refine XS.iconst X0.here hx rfl (hb hby d21_60) ?_
            refine XS.goto X0.here hx rfl (pc0 := 61) (pc' := 65) rfl (hb hby d21_61) (by decide) (by decide) ?_
            exact k)
          obtain ⟨fs, hr, hrun, hended, hW, hsame⟩ := X0.leave (v := some (.int (1 : Int32))) (fun h => by rw [Bd.returns] at h; cases h)
          have fin : Steps p.tables e below S0 (s₁.setFrames fs) := P29 _ (retN X0 hx (t := .boolean) Bd.returns (by simp) (hb hby d21_65) hr)
          rw [hS0] at fin
          refine ⟨_, _, fin, hrun, hended, _, _, rfl, ?_, ⟨_, rfl⟩, hW, hsame.mono (by decide) (by decide)⟩
          show own_QI h0 n0 (own_f21 p1) _ s₁.heap _
          rw [e0]
          exact ⟨_, rfl, (by unfold own_f21; rw [if_pos hc3_22, if_pos hc15_24, if_pos hc27_26, if_pos hc39_28]), N0, rfl⟩
        · have P30 : own_Pr p.tables e below S0 s₁ (mkF m 45 #[.val (.int p1)] [(.int (95 : Int32)), (.int p1)]) := fun t k => P27 t (by
            refine XS.icmpNo X0.here hx rfl (hb hby d21_39) rfl (XT.ii_eq_f hc39_28) ?_
            refine XS.iloadN X0.here hx rfl (hb hby d21_42) rfl ?_
            refine XS.bipush X0.here hx rfl (hb hby d21_43) ?_
            exact k)
          by_cases hc45_31 : p1 = (95 : Int32)
          · have P32 : own_Pr p.tables e below S0 s₁ (mkF m 65 #[.val (.int p1)] [(.int (1 : Int32))]) := fun t k => P30 t (by
              refine XS.icmpYes X0.here hx rfl (pc0 := 45) (pc' := 60) rfl (hb hby d21_45) rfl (XT.ii_eq_t hc45_31) (by decide) (by decide) ?_
              refine XS.iconst X0.here hx rfl (hb hby d21_60) ?_
              refine XS.goto X0.here hx rfl (pc0 := 61) (pc' := 65) rfl (hb hby d21_61) (by decide) (by decide) ?_
              exact k)
            obtain ⟨fs, hr, hrun, hended, hW, hsame⟩ := X0.leave (v := some (.int (1 : Int32))) (fun h => by rw [Bd.returns] at h; cases h)
            have fin : Steps p.tables e below S0 (s₁.setFrames fs) := P32 _ (retN X0 hx (t := .boolean) Bd.returns (by simp) (hb hby d21_65) hr)
            rw [hS0] at fin
            refine ⟨_, _, fin, hrun, hended, _, _, rfl, ?_, ⟨_, rfl⟩, hW, hsame.mono (by decide) (by decide)⟩
            show own_QI h0 n0 (own_f21 p1) _ s₁.heap _
            rw [e0]
            exact ⟨_, rfl, (by unfold own_f21; rw [if_pos hc3_22, if_pos hc15_24, if_pos hc27_26, if_neg hc39_28, if_pos hc45_31]), N0, rfl⟩
          · have P33 : own_Pr p.tables e below S0 s₁ (mkF m 51 #[.val (.int p1)] [(.int (58 : Int32)), (.int p1)]) := fun t k => P30 t (by
              refine XS.icmpNo X0.here hx rfl (hb hby d21_45) rfl (XT.ii_eq_f hc45_31) ?_
              refine XS.iloadN X0.here hx rfl (hb hby d21_48) rfl ?_
              refine XS.bipush X0.here hx rfl (hb hby d21_49) ?_
              exact k)
            by_cases hc51_34 : p1 = (58 : Int32)
            · have P35 : own_Pr p.tables e below S0 s₁ (mkF m 65 #[.val (.int p1)] [(.int (1 : Int32))]) := fun t k => P33 t (by
                refine XS.icmpYes X0.here hx rfl (pc0 := 51) (pc' := 60) rfl (hb hby d21_51) rfl (XT.ii_eq_t hc51_34) (by decide) (by decide) ?_
                refine XS.iconst X0.here hx rfl (hb hby d21_60) ?_
                refine XS.goto X0.here hx rfl (pc0 := 61) (pc' := 65) rfl (hb hby d21_61) (by decide) (by decide) ?_
                exact k)
              obtain ⟨fs, hr, hrun, hended, hW, hsame⟩ := X0.leave (v := some (.int (1 : Int32))) (fun h => by rw [Bd.returns] at h; cases h)
              have fin : Steps p.tables e below S0 (s₁.setFrames fs) := P35 _ (retN X0 hx (t := .boolean) Bd.returns (by simp) (hb hby d21_65) hr)
              rw [hS0] at fin
              refine ⟨_, _, fin, hrun, hended, _, _, rfl, ?_, ⟨_, rfl⟩, hW, hsame.mono (by decide) (by decide)⟩
              show own_QI h0 n0 (own_f21 p1) _ s₁.heap _
              rw [e0]
              exact ⟨_, rfl, (by unfold own_f21; rw [if_pos hc3_22, if_pos hc15_24, if_pos hc27_26, if_neg hc39_28, if_neg hc45_31, if_pos hc51_34]), N0, rfl⟩
            · have P36 : own_Pr p.tables e below S0 s₁ (mkF m 57 #[.val (.int p1)] [(.int (46 : Int32)), (.int p1)]) := fun t k => P33 t (by
                refine XS.icmpNo X0.here hx rfl (hb hby d21_51) rfl (XT.ii_eq_f hc51_34) ?_
                refine XS.iloadN X0.here hx rfl (hb hby d21_54) rfl ?_
                refine XS.bipush X0.here hx rfl (hb hby d21_55) ?_
                exact k)
              by_cases hc57_37 : p1 = (46 : Int32)
              · have P38 : own_Pr p.tables e below S0 s₁ (mkF m 65 #[.val (.int p1)] [(.int (1 : Int32))]) := fun t k => P36 t (by
                  refine XS.icmpNo X0.here hx rfl (hb hby d21_57) rfl (XT.ii_ne_f hc57_37) ?_
                  refine XS.iconst X0.here hx rfl (hb hby d21_60) ?_
                  refine XS.goto X0.here hx rfl (pc0 := 61) (pc' := 65) rfl (hb hby d21_61) (by decide) (by decide) ?_
                  exact k)
                obtain ⟨fs, hr, hrun, hended, hW, hsame⟩ := X0.leave (v := some (.int (1 : Int32))) (fun h => by rw [Bd.returns] at h; cases h)
                have fin : Steps p.tables e below S0 (s₁.setFrames fs) := P38 _ (retN X0 hx (t := .boolean) Bd.returns (by simp) (hb hby d21_65) hr)
                rw [hS0] at fin
                refine ⟨_, _, fin, hrun, hended, _, _, rfl, ?_, ⟨_, rfl⟩, hW, hsame.mono (by decide) (by decide)⟩
                show own_QI h0 n0 (own_f21 p1) _ s₁.heap _
                rw [e0]
                exact ⟨_, rfl, (by unfold own_f21; rw [if_pos hc3_22, if_pos hc15_24, if_pos hc27_26, if_neg hc39_28, if_neg hc45_31, if_neg hc51_34, if_pos hc57_37]), N0, rfl⟩
              · have P39 : own_Pr p.tables e below S0 s₁ (mkF m 65 #[.val (.int p1)] [(.int (0 : Int32))]) := fun t k => P36 t (by
                  refine XS.icmpYes X0.here hx rfl (pc0 := 57) (pc' := 64) rfl (hb hby d21_57) rfl (XT.ii_ne_t hc57_37) (by decide) (by decide) ?_
                  refine XS.iconst X0.here hx rfl (hb hby d21_64) ?_
                  exact k)
                obtain ⟨fs, hr, hrun, hended, hW, hsame⟩ := X0.leave (v := some (.int (0 : Int32))) (fun h => by rw [Bd.returns] at h; cases h)
                have fin : Steps p.tables e below S0 (s₁.setFrames fs) := P39 _ (retN X0 hx (t := .boolean) Bd.returns (by simp) (hb hby d21_65) hr)
                rw [hS0] at fin
                refine ⟨_, _, fin, hrun, hended, _, _, rfl, ?_, ⟨_, rfl⟩, hW, hsame.mono (by decide) (by decide)⟩
                show own_QI h0 n0 (own_f21 p1) _ s₁.heap _
                rw [e0]
                exact ⟨_, rfl, (by unfold own_f21; rw [if_pos hc3_22, if_pos hc15_24, if_pos hc27_26, if_neg hc39_28, if_neg hc45_31, if_neg hc51_34, if_neg hc57_37]), N0, rfl⟩
      · have P40 : own_Pr p.tables e below S0 s₁ (mkF m 33 #[.val (.int p1)] [(.int (57 : Int32)), (.int p1)]) := fun t k => P25 t (by
          refine XS.icmpNo X0.here hx rfl (hb hby d21_27) rfl (XT.ii_lt_f hc27_26) ?_
          refine XS.iloadN X0.here hx rfl (hb hby d21_30) rfl ?_
          refine XS.bipush X0.here hx rfl (hb hby d21_31) ?_
          exact k)
        by_cases hc33_41 : (57 : Int32) < p1
        · have P42 : own_Pr p.tables e below S0 s₁ (mkF m 39 #[.val (.int p1)] [(.int (45 : Int32)), (.int p1)]) := fun t k => P40 t (by
            refine XS.icmpNo X0.here hx rfl (hb hby d21_33) rfl (XT.ii_le_f hc33_41) ?_
            refine XS.iloadN X0.here hx rfl (hb hby d21_36) rfl ?_
            refine XS.bipush X0.here hx rfl (hb hby d21_37) ?_
            exact k)
          by_cases hc39_43 : p1 = (45 : Int32)
          · have P44 : own_Pr p.tables e below S0 s₁ (mkF m 65 #[.val (.int p1)] [(.int (1 : Int32))]) := fun t k => P42 t (by
              refine XS.icmpYes X0.here hx rfl (pc0 := 39) (pc' := 60) rfl (hb hby d21_39) rfl (XT.ii_eq_t hc39_43) (by decide) (by decide) ?_
              refine XS.iconst X0.here hx rfl (hb hby d21_60) ?_
              refine XS.goto X0.here hx rfl (pc0 := 61) (pc' := 65) rfl (hb hby d21_61) (by decide) (by decide) ?_
              exact k)
            obtain ⟨fs, hr, hrun, hended, hW, hsame⟩ := X0.leave (v := some (.int (1 : Int32))) (fun h => by rw [Bd.returns] at h; cases h)
            have fin : Steps p.tables e below S0 (s₁.setFrames fs) := P44 _ (retN X0 hx (t := .boolean) Bd.returns (by simp) (hb hby d21_65) hr)
            rw [hS0] at fin
            refine ⟨_, _, fin, hrun, hended, _, _, rfl, ?_, ⟨_, rfl⟩, hW, hsame.mono (by decide) (by decide)⟩
            show own_QI h0 n0 (own_f21 p1) _ s₁.heap _
            rw [e0]
            exact ⟨_, rfl, (by unfold own_f21; rw [if_pos hc3_22, if_pos hc15_24, if_neg hc27_26, if_pos hc33_41, if_pos hc39_43]), N0, rfl⟩
          · have P45 : own_Pr p.tables e below S0 s₁ (mkF m 45 #[.val (.int p1)] [(.int (95 : Int32)), (.int p1)]) := fun t k => P42 t (by
              refine XS.icmpNo X0.here hx rfl (hb hby d21_39) rfl (XT.ii_eq_f hc39_43) ?_
              refine XS.iloadN X0.here hx rfl (hb hby d21_42) rfl ?_
              refine XS.bipush X0.here hx rfl (hb hby d21_43) ?_
              exact k)
            by_cases hc45_46 : p1 = (95 : Int32)
            · have P47 : own_Pr p.tables e below S0 s₁ (mkF m 65 #[.val (.int p1)] [(.int (1 : Int32))]) := fun t k => P45 t (by
                refine XS.icmpYes X0.here hx rfl (pc0 := 45) (pc' := 60) rfl (hb hby d21_45) rfl (XT.ii_eq_t hc45_46) (by decide) (by decide) ?_
                refine XS.iconst X0.here hx rfl (hb hby d21_60) ?_
                refine XS.goto X0.here hx rfl (pc0 := 61) (pc' := 65) rfl (hb hby d21_61) (by decide) (by decide) ?_
                exact k)
              obtain ⟨fs, hr, hrun, hended, hW, hsame⟩ := X0.leave (v := some (.int (1 : Int32))) (fun h => by rw [Bd.returns] at h; cases h)
              have fin : Steps p.tables e below S0 (s₁.setFrames fs) := P47 _ (retN X0 hx (t := .boolean) Bd.returns (by simp) (hb hby d21_65) hr)
              rw [hS0] at fin
              refine ⟨_, _, fin, hrun, hended, _, _, rfl, ?_, ⟨_, rfl⟩, hW, hsame.mono (by decide) (by decide)⟩
              show own_QI h0 n0 (own_f21 p1) _ s₁.heap _
              rw [e0]
              exact ⟨_, rfl, (by unfold own_f21; rw [if_pos hc3_22, if_pos hc15_24, if_neg hc27_26, if_pos hc33_41, if_neg hc39_43, if_pos hc45_46]), N0, rfl⟩
            · have P48 : own_Pr p.tables e below S0 s₁ (mkF m 51 #[.val (.int p1)] [(.int (58 : Int32)), (.int p1)]) := fun t k => P45 t (by
                refine XS.icmpNo X0.here hx rfl (hb hby d21_45) rfl (XT.ii_eq_f hc45_46) ?_
                refine XS.iloadN X0.here hx rfl (hb hby d21_48) rfl ?_
                refine XS.bipush X0.here hx rfl (hb hby d21_49) ?_
                exact k)
              by_cases hc51_49 : p1 = (58 : Int32)
              · have P50 : own_Pr p.tables e below S0 s₁ (mkF m 65 #[.val (.int p1)] [(.int (1 : Int32))]) := fun t k => P48 t (by
                  refine XS.icmpYes X0.here hx rfl (pc0 := 51) (pc' := 60) rfl (hb hby d21_51) rfl (XT.ii_eq_t hc51_49) (by decide) (by decide) ?_
                  refine XS.iconst X0.here hx rfl (hb hby d21_60) ?_
                  refine XS.goto X0.here hx rfl (pc0 := 61) (pc' := 65) rfl (hb hby d21_61) (by decide) (by decide) ?_
                  exact k)
                obtain ⟨fs, hr, hrun, hended, hW, hsame⟩ := X0.leave (v := some (.int (1 : Int32))) (fun h => by rw [Bd.returns] at h; cases h)
                have fin : Steps p.tables e below S0 (s₁.setFrames fs) := P50 _ (retN X0 hx (t := .boolean) Bd.returns (by simp) (hb hby d21_65) hr)
                rw [hS0] at fin
                refine ⟨_, _, fin, hrun, hended, _, _, rfl, ?_, ⟨_, rfl⟩, hW, hsame.mono (by decide) (by decide)⟩
                show own_QI h0 n0 (own_f21 p1) _ s₁.heap _
                rw [e0]
                exact ⟨_, rfl, (by unfold own_f21; rw [if_pos hc3_22, if_pos hc15_24, if_neg hc27_26, if_pos hc33_41, if_neg hc39_43, if_neg hc45_46, if_pos hc51_49]), N0, rfl⟩
              · have P51 : own_Pr p.tables e below S0 s₁ (mkF m 57 #[.val (.int p1)] [(.int (46 : Int32)), (.int p1)]) := fun t k => P48 t (by
                  refine XS.icmpNo X0.here hx rfl (hb hby d21_51) rfl (XT.ii_eq_f hc51_49) ?_
                  refine XS.iloadN X0.here hx rfl (hb hby d21_54) rfl ?_
                  refine XS.bipush X0.here hx rfl (hb hby d21_55) ?_
                  exact k)
                by_cases hc57_52 : p1 = (46 : Int32)
                · have P53 : own_Pr p.tables e below S0 s₁ (mkF m 65 #[.val (.int p1)] [(.int (1 : Int32))]) := fun t k => P51 t (by
                    refine XS.icmpNo X0.here hx rfl (hb hby d21_57) rfl (XT.ii_ne_f hc57_52) ?_
                    refine XS.iconst X0.here hx rfl (hb hby d21_60) ?_
                    refine XS.goto X0.here hx rfl (pc0 := 61) (pc' := 65) rfl (hb hby d21_61) (by decide) (by decide) ?_
                    exact k)
                  obtain ⟨fs, hr, hrun, hended, hW, hsame⟩ := X0.leave (v := some (.int (1 : Int32))) (fun h => by rw [Bd.returns] at h; cases h)
                  have fin : Steps p.tables e below S0 (s₁.setFrames fs) := P53 _ (retN X0 hx (t := .boolean) Bd.returns (by simp) (hb hby d21_65) hr)
                  rw [hS0] at fin
                  refine ⟨_, _, fin, hrun, hended, _, _, rfl, ?_, ⟨_, rfl⟩, hW, hsame.mono (by decide) (by decide)⟩
                  show own_QI h0 n0 (own_f21 p1) _ s₁.heap _
                  rw [e0]
                  exact ⟨_, rfl, (by unfold own_f21; rw [if_pos hc3_22, if_pos hc15_24, if_neg hc27_26, if_pos hc33_41, if_neg hc39_43, if_neg hc45_46, if_neg hc51_49, if_pos hc57_52]), N0, rfl⟩
                · have P54 : own_Pr p.tables e below S0 s₁ (mkF m 65 #[.val (.int p1)] [(.int (0 : Int32))]) := fun t k => P51 t (by
                    refine XS.icmpYes X0.here hx rfl (pc0 := 57) (pc' := 64) rfl (hb hby d21_57) rfl (XT.ii_ne_t hc57_52) (by decide) (by decide) ?_
                    refine XS.iconst X0.here hx rfl (hb hby d21_64) ?_
                    exact k)
                  obtain ⟨fs, hr, hrun, hended, hW, hsame⟩ := X0.leave (v := some (.int (0 : Int32))) (fun h => by rw [Bd.returns] at h; cases h)
                  have fin : Steps p.tables e below S0 (s₁.setFrames fs) := P54 _ (retN X0 hx (t := .boolean) Bd.returns (by simp) (hb hby d21_65) hr)
                  rw [hS0] at fin
                  refine ⟨_, _, fin, hrun, hended, _, _, rfl, ?_, ⟨_, rfl⟩, hW, hsame.mono (by decide) (by decide)⟩
                  show own_QI h0 n0 (own_f21 p1) _ s₁.heap _
                  rw [e0]
                  exact ⟨_, rfl, (by unfold own_f21; rw [if_pos hc3_22, if_pos hc15_24, if_neg hc27_26, if_pos hc33_41, if_neg hc39_43, if_neg hc45_46, if_neg hc51_49, if_neg hc57_52]), N0, rfl⟩
        · have P55 : own_Pr p.tables e below S0 s₁ (mkF m 65 #[.val (.int p1)] [(.int (1 : Int32))]) := fun t k => P40 t (by
            refine XS.icmpYes X0.here hx rfl (pc0 := 33) (pc' := 60) rfl (hb hby d21_33) rfl (XT.ii_le_t hc33_41) (by decide) (by decide) ?_
            refine XS.iconst X0.here hx rfl (hb hby d21_60) ?_
            refine XS.goto X0.here hx rfl (pc0 := 61) (pc' := 65) rfl (hb hby d21_61) (by decide) (by decide) ?_
            exact k)
          obtain ⟨fs, hr, hrun, hended, hW, hsame⟩ := X0.leave (v := some (.int (1 : Int32))) (fun h => by rw [Bd.returns] at h; cases h)
          have fin : Steps p.tables e below S0 (s₁.setFrames fs) := P55 _ (retN X0 hx (t := .boolean) Bd.returns (by simp) (hb hby d21_65) hr)
          rw [hS0] at fin
          refine ⟨_, _, fin, hrun, hended, _, _, rfl, ?_, ⟨_, rfl⟩, hW, hsame.mono (by decide) (by decide)⟩
          show own_QI h0 n0 (own_f21 p1) _ s₁.heap _
          rw [e0]
          exact ⟨_, rfl, (by unfold own_f21; rw [if_pos hc3_22, if_pos hc15_24, if_neg hc27_26, if_neg hc33_41]), N0, rfl⟩
    · have P56 : own_Pr p.tables e below S0 s₁ (mkF m 21 #[.val (.int p1)] [(.int (90 : Int32)), (.int p1)]) := fun t k => P23 t (by
        refine XS.icmpNo X0.here hx rfl (hb hby d21_15) rfl (XT.ii_lt_f hc15_24) ?_
        refine XS.iloadN X0.here hx rfl (hb hby d21_18) rfl ?_
        refine XS.bipush X0.here hx rfl (hb hby d21_19) ?_
        exact k)
      by_cases hc21_57 : (90 : Int32) < p1
      · have P58 : own_Pr p.tables e below S0 s₁ (mkF m 27 #[.val (.int p1)] [(.int (48 : Int32)), (.int p1)]) := fun t k => P56 t (by
          refine XS.icmpNo X0.here hx rfl (hb hby d21_21) rfl (XT.ii_le_f hc21_57) ?_
          refine XS.iloadN X0.here hx rfl (hb hby d21_24) rfl ?_
          refine XS.bipush X0.here hx rfl (hb hby d21_25) ?_
          exact k)
        by_cases hc27_59 : p1 < (48 : Int32)
        · have P60 : own_Pr p.tables e below S0 s₁ (mkF m 39 #[.val (.int p1)] [(.int (45 : Int32)), (.int p1)]) := fun t k => P58 t (by
            refine XS.icmpYes X0.here hx rfl (pc0 := 27) (pc' := 36) rfl (hb hby d21_27) rfl (XT.ii_lt_t hc27_59) (by decide) (by decide) ?_
            refine XS.iloadN X0.here hx rfl (hb hby d21_36) rfl ?_
            refine XS.bipush X0.here hx rfl (hb hby d21_37) ?_
            exact k)
          by_cases hc39_61 : p1 = (45 : Int32)
          · have P62 : own_Pr p.tables e below S0 s₁ (mkF m 65 #[.val (.int p1)] [(.int (1 : Int32))]) := fun t k => P60 t (by
              refine XS.icmpYes X0.here hx rfl (pc0 := 39) (pc' := 60) rfl (hb hby d21_39) rfl (XT.ii_eq_t hc39_61) (by decide) (by decide) ?_
              refine XS.iconst X0.here hx rfl (hb hby d21_60) ?_
              refine XS.goto X0.here hx rfl (pc0 := 61) (pc' := 65) rfl (hb hby d21_61) (by decide) (by decide) ?_
              exact k)
            obtain ⟨fs, hr, hrun, hended, hW, hsame⟩ := X0.leave (v := some (.int (1 : Int32))) (fun h => by rw [Bd.returns] at h; cases h)
            have fin : Steps p.tables e below S0 (s₁.setFrames fs) := P62 _ (retN X0 hx (t := .boolean) Bd.returns (by simp) (hb hby d21_65) hr)
            rw [hS0] at fin
            refine ⟨_, _, fin, hrun, hended, _, _, rfl, ?_, ⟨_, rfl⟩, hW, hsame.mono (by decide) (by decide)⟩
            show own_QI h0 n0 (own_f21 p1) _ s₁.heap _
            rw [e0]
            exact ⟨_, rfl, (by unfold own_f21; rw [if_pos hc3_22, if_neg hc15_24, if_pos hc21_57, if_pos hc27_59, if_pos hc39_61]), N0, rfl⟩
          · have P63 : own_Pr p.tables e below S0 s₁ (mkF m 45 #[.val (.int p1)] [(.int (95 : Int32)), (.int p1)]) := fun t k => P60 t (by
              refine XS.icmpNo X0.here hx rfl (hb hby d21_39) rfl (XT.ii_eq_f hc39_61) ?_
              refine XS.iloadN X0.here hx rfl (hb hby d21_42) rfl ?_
              refine XS.bipush X0.here hx rfl (hb hby d21_43) ?_
              exact k)
            by_cases hc45_64 : p1 = (95 : Int32)
            · have P65 : own_Pr p.tables e below S0 s₁ (mkF m 65 #[.val (.int p1)] [(.int (1 : Int32))]) := fun t k => P63 t (by
                refine XS.icmpYes X0.here hx rfl (pc0 := 45) (pc' := 60) rfl (hb hby d21_45) rfl (XT.ii_eq_t hc45_64) (by decide) (by decide) ?_
                refine XS.iconst X0.here hx rfl (hb hby d21_60) ?_
                refine XS.goto X0.here hx rfl (pc0 := 61) (pc' := 65) rfl (hb hby d21_61) (by decide) (by decide) ?_
                exact k)
              obtain ⟨fs, hr, hrun, hended, hW, hsame⟩ := X0.leave (v := some (.int (1 : Int32))) (fun h => by rw [Bd.returns] at h; cases h)
              have fin : Steps p.tables e below S0 (s₁.setFrames fs) := P65 _ (retN X0 hx (t := .boolean) Bd.returns (by simp) (hb hby d21_65) hr)
              rw [hS0] at fin
              refine ⟨_, _, fin, hrun, hended, _, _, rfl, ?_, ⟨_, rfl⟩, hW, hsame.mono (by decide) (by decide)⟩
              show own_QI h0 n0 (own_f21 p1) _ s₁.heap _
              rw [e0]
              exact ⟨_, rfl, (by unfold own_f21; rw [if_pos hc3_22, if_neg hc15_24, if_pos hc21_57, if_pos hc27_59, if_neg hc39_61, if_pos hc45_64]), N0, rfl⟩
            · have P66 : own_Pr p.tables e below S0 s₁ (mkF m 51 #[.val (.int p1)] [(.int (58 : Int32)), (.int p1)]) := fun t k => P63 t (by
                refine XS.icmpNo X0.here hx rfl (hb hby d21_45) rfl (XT.ii_eq_f hc45_64) ?_
                refine XS.iloadN X0.here hx rfl (hb hby d21_48) rfl ?_
                refine XS.bipush X0.here hx rfl (hb hby d21_49) ?_
                exact k)
              by_cases hc51_67 : p1 = (58 : Int32)
              · have P68 : own_Pr p.tables e below S0 s₁ (mkF m 65 #[.val (.int p1)] [(.int (1 : Int32))]) := fun t k => P66 t (by
                  refine XS.icmpYes X0.here hx rfl (pc0 := 51) (pc' := 60) rfl (hb hby d21_51) rfl (XT.ii_eq_t hc51_67) (by decide) (by decide) ?_
                  refine XS.iconst X0.here hx rfl (hb hby d21_60) ?_
                  refine XS.goto X0.here hx rfl (pc0 := 61) (pc' := 65) rfl (hb hby d21_61) (by decide) (by decide) ?_
                  exact k)
                obtain ⟨fs, hr, hrun, hended, hW, hsame⟩ := X0.leave (v := some (.int (1 : Int32))) (fun h => by rw [Bd.returns] at h; cases h)
                have fin : Steps p.tables e below S0 (s₁.setFrames fs) := P68 _ (retN X0 hx (t := .boolean) Bd.returns (by simp) (hb hby d21_65) hr)
                rw [hS0] at fin
                refine ⟨_, _, fin, hrun, hended, _, _, rfl, ?_, ⟨_, rfl⟩, hW, hsame.mono (by decide) (by decide)⟩
                show own_QI h0 n0 (own_f21 p1) _ s₁.heap _
                rw [e0]
                exact ⟨_, rfl, (by unfold own_f21; rw [if_pos hc3_22, if_neg hc15_24, if_pos hc21_57, if_pos hc27_59, if_neg hc39_61, if_neg hc45_64, if_pos hc51_67]), N0, rfl⟩
              · have P69 : own_Pr p.tables e below S0 s₁ (mkF m 57 #[.val (.int p1)] [(.int (46 : Int32)), (.int p1)]) := fun t k => P66 t (by
                  refine XS.icmpNo X0.here hx rfl (hb hby d21_51) rfl (XT.ii_eq_f hc51_67) ?_
                  refine XS.iloadN X0.here hx rfl (hb hby d21_54) rfl ?_
                  refine XS.bipush X0.here hx rfl (hb hby d21_55) ?_
                  exact k)
                by_cases hc57_70 : p1 = (46 : Int32)
                · have P71 : own_Pr p.tables e below S0 s₁ (mkF m 65 #[.val (.int p1)] [(.int (1 : Int32))]) := fun t k => P69 t (by
                    refine XS.icmpNo X0.here hx rfl (hb hby d21_57) rfl (XT.ii_ne_f hc57_70) ?_
                    refine XS.iconst X0.here hx rfl (hb hby d21_60) ?_
                    refine XS.goto X0.here hx rfl (pc0 := 61) (pc' := 65) rfl (hb hby d21_61) (by decide) (by decide) ?_
                    exact k)
                  obtain ⟨fs, hr, hrun, hended, hW, hsame⟩ := X0.leave (v := some (.int (1 : Int32))) (fun h => by rw [Bd.returns] at h; cases h)
                  have fin : Steps p.tables e below S0 (s₁.setFrames fs) := P71 _ (retN X0 hx (t := .boolean) Bd.returns (by simp) (hb hby d21_65) hr)
                  rw [hS0] at fin
                  refine ⟨_, _, fin, hrun, hended, _, _, rfl, ?_, ⟨_, rfl⟩, hW, hsame.mono (by decide) (by decide)⟩
                  show own_QI h0 n0 (own_f21 p1) _ s₁.heap _
                  rw [e0]
                  exact ⟨_, rfl, (by unfold own_f21; rw [if_pos hc3_22, if_neg hc15_24, if_pos hc21_57, if_pos hc27_59, if_neg hc39_61, if_neg hc45_64, if_neg hc51_67, if_pos hc57_70]), N0, rfl⟩
                · have P72 : own_Pr p.tables e below S0 s₁ (mkF m 65 #[.val (.int p1)] [(.int (0 : Int32))]) := fun t k => P69 t (by
                    refine XS.icmpYes X0.here hx rfl (pc0 := 57) (pc' := 64) rfl (hb hby d21_57) rfl (XT.ii_ne_t hc57_70) (by decide) (by decide) ?_
                    refine XS.iconst X0.here hx rfl (hb hby d21_64) ?_
                    exact k)
                  obtain ⟨fs, hr, hrun, hended, hW, hsame⟩ := X0.leave (v := some (.int (0 : Int32))) (fun h => by rw [Bd.returns] at h; cases h)
                  have fin : Steps p.tables e below S0 (s₁.setFrames fs) := P72 _ (retN X0 hx (t := .boolean) Bd.returns (by simp) (hb hby d21_65) hr)
                  rw [hS0] at fin
                  refine ⟨_, _, fin, hrun, hended, _, _, rfl, ?_, ⟨_, rfl⟩, hW, hsame.mono (by decide) (by decide)⟩
                  show own_QI h0 n0 (own_f21 p1) _ s₁.heap _
                  rw [e0]
                  exact ⟨_, rfl, (by unfold own_f21; rw [if_pos hc3_22, if_neg hc15_24, if_pos hc21_57, if_pos hc27_59, if_neg hc39_61, if_neg hc45_64, if_neg hc51_67, if_neg hc57_70]), N0, rfl⟩
        · have P73 : own_Pr p.tables e below S0 s₁ (mkF m 33 #[.val (.int p1)] [(.int (57 : Int32)), (.int p1)]) := fun t k => P58 t (by
            refine XS.icmpNo X0.here hx rfl (hb hby d21_27) rfl (XT.ii_lt_f hc27_59) ?_
            refine XS.iloadN X0.here hx rfl (hb hby d21_30) rfl ?_
            refine XS.bipush X0.here hx rfl (hb hby d21_31) ?_
            exact k)
          by_cases hc33_74 : (57 : Int32) < p1
          · have P75 : own_Pr p.tables e below S0 s₁ (mkF m 39 #[.val (.int p1)] [(.int (45 : Int32)), (.int p1)]) := fun t k => P73 t (by
              refine XS.icmpNo X0.here hx rfl (hb hby d21_33) rfl (XT.ii_le_f hc33_74) ?_
              refine XS.iloadN X0.here hx rfl (hb hby d21_36) rfl ?_
              refine XS.bipush X0.here hx rfl (hb hby d21_37) ?_
              exact k)
            by_cases hc39_76 : p1 = (45 : Int32)
            · have P77 : own_Pr p.tables e below S0 s₁ (mkF m 65 #[.val (.int p1)] [(.int (1 : Int32))]) := fun t k => P75 t (by
                refine XS.icmpYes X0.here hx rfl (pc0 := 39) (pc' := 60) rfl (hb hby d21_39) rfl (XT.ii_eq_t hc39_76) (by decide) (by decide) ?_
                refine XS.iconst X0.here hx rfl (hb hby d21_60) ?_
                refine XS.goto X0.here hx rfl (pc0 := 61) (pc' := 65) rfl (hb hby d21_61) (by decide) (by decide) ?_
                exact k)
              obtain ⟨fs, hr, hrun, hended, hW, hsame⟩ := X0.leave (v := some (.int (1 : Int32))) (fun h => by rw [Bd.returns] at h; cases h)
              have fin : Steps p.tables e below S0 (s₁.setFrames fs) := P77 _ (retN X0 hx (t := .boolean) Bd.returns (by simp) (hb hby d21_65) hr)
              rw [hS0] at fin
              refine ⟨_, _, fin, hrun, hended, _, _, rfl, ?_, ⟨_, rfl⟩, hW, hsame.mono (by decide) (by decide)⟩
              show own_QI h0 n0 (own_f21 p1) _ s₁.heap _
              rw [e0]
              exact ⟨_, rfl, (by unfold own_f21; rw [if_pos hc3_22, if_neg hc15_24, if_pos hc21_57, if_neg hc27_59, if_pos hc33_74, if_pos hc39_76]), N0, rfl⟩
            · have P78 : own_Pr p.tables e below S0 s₁ (mkF m 45 #[.val (.int p1)] [(.int (95 : Int32)), (.int p1)]) := fun t k => P75 t (by
                refine XS.icmpNo X0.here hx rfl (hb hby d21_39) rfl (XT.ii_eq_f hc39_76) ?_
                refine XS.iloadN X0.here hx rfl (hb hby d21_42) rfl ?_
                refine XS.bipush X0.here hx rfl (hb hby d21_43) ?_
                exact k)
              by_cases hc45_79 : p1 = (95 : Int32)
              · have P80 : own_Pr p.tables e below S0 s₁ (mkF m 65 #[.val (.int p1)] [(.int (1 : Int32))]) := fun t k => P78 t (by
                  refine XS.icmpYes X0.here hx rfl (pc0 := 45) (pc' := 60) rfl (hb hby d21_45) rfl (XT.ii_eq_t hc45_79) (by decide) (by decide) ?_
                  refine XS.iconst X0.here hx rfl (hb hby d21_60) ?_
                  refine XS.goto X0.here hx rfl (pc0 := 61) (pc' := 65) rfl (hb hby d21_61) (by decide) (by decide) ?_
                  exact k)
                obtain ⟨fs, hr, hrun, hended, hW, hsame⟩ := X0.leave (v := some (.int (1 : Int32))) (fun h => by rw [Bd.returns] at h; cases h)
                have fin : Steps p.tables e below S0 (s₁.setFrames fs) := P80 _ (retN X0 hx (t := .boolean) Bd.returns (by simp) (hb hby d21_65) hr)
                rw [hS0] at fin
                refine ⟨_, _, fin, hrun, hended, _, _, rfl, ?_, ⟨_, rfl⟩, hW, hsame.mono (by decide) (by decide)⟩
                show own_QI h0 n0 (own_f21 p1) _ s₁.heap _
                rw [e0]
                exact ⟨_, rfl, (by unfold own_f21; rw [if_pos hc3_22, if_neg hc15_24, if_pos hc21_57, if_neg hc27_59, if_pos hc33_74, if_neg hc39_76, if_pos hc45_79]), N0, rfl⟩
              · have P81 : own_Pr p.tables e below S0 s₁ (mkF m 51 #[.val (.int p1)] [(.int (58 : Int32)), (.int p1)]) := fun t k => P78 t (by
                  refine XS.icmpNo X0.here hx rfl (hb hby d21_45) rfl (XT.ii_eq_f hc45_79) ?_
                  refine XS.iloadN X0.here hx rfl (hb hby d21_48) rfl ?_
                  refine XS.bipush X0.here hx rfl (hb hby d21_49) ?_
                  exact k)
                by_cases hc51_82 : p1 = (58 : Int32)
                · have P83 : own_Pr p.tables e below S0 s₁ (mkF m 65 #[.val (.int p1)] [(.int (1 : Int32))]) := fun t k => P81 t (by
                    refine XS.icmpYes X0.here hx rfl (pc0 := 51) (pc' := 60) rfl (hb hby d21_51) rfl (XT.ii_eq_t hc51_82) (by decide) (by decide) ?_
                    refine XS.iconst X0.here hx rfl (hb hby d21_60) ?_
                    refine XS.goto X0.here hx rfl (pc0 := 61) (pc' := 65) rfl (hb hby d21_61) (by decide) (by decide) ?_
                    exact k)
                  obtain ⟨fs, hr, hrun, hended, hW, hsame⟩ := X0.leave (v := some (.int (1 : Int32))) (fun h => by rw [Bd.returns] at h; cases h)
                  have fin : Steps p.tables e below S0 (s₁.setFrames fs) := P83 _ (retN X0 hx (t := .boolean) Bd.returns (by simp) (hb hby d21_65) hr)
                  rw [hS0] at fin
                  refine ⟨_, _, fin, hrun, hended, _, _, rfl, ?_, ⟨_, rfl⟩, hW, hsame.mono (by decide) (by decide)⟩
                  show own_QI h0 n0 (own_f21 p1) _ s₁.heap _
                  rw [e0]
                  exact ⟨_, rfl, (by unfold own_f21; rw [if_pos hc3_22, if_neg hc15_24, if_pos hc21_57, if_neg hc27_59, if_pos hc33_74, if_neg hc39_76, if_neg hc45_79, if_pos hc51_82]), N0, rfl⟩
                · have P84 : own_Pr p.tables e below S0 s₁ (mkF m 57 #[.val (.int p1)] [(.int (46 : Int32)), (.int p1)]) := fun t k => P81 t (by
                    refine XS.icmpNo X0.here hx rfl (hb hby d21_51) rfl (XT.ii_eq_f hc51_82) ?_
                    refine XS.iloadN X0.here hx rfl (hb hby d21_54) rfl ?_
                    refine XS.bipush X0.here hx rfl (hb hby d21_55) ?_
                    exact k)
                  by_cases hc57_85 : p1 = (46 : Int32)
                  · have P86 : own_Pr p.tables e below S0 s₁ (mkF m 65 #[.val (.int p1)] [(.int (1 : Int32))]) := fun t k => P84 t (by
                      refine XS.icmpNo X0.here hx rfl (hb hby d21_57) rfl (XT.ii_ne_f hc57_85) ?_
                      refine XS.iconst X0.here hx rfl (hb hby d21_60) ?_
                      refine XS.goto X0.here hx rfl (pc0 := 61) (pc' := 65) rfl (hb hby d21_61) (by decide) (by decide) ?_
                      exact k)
                    obtain ⟨fs, hr, hrun, hended, hW, hsame⟩ := X0.leave (v := some (.int (1 : Int32))) (fun h => by rw [Bd.returns] at h; cases h)
                    have fin : Steps p.tables e below S0 (s₁.setFrames fs) := P86 _ (retN X0 hx (t := .boolean) Bd.returns (by simp) (hb hby d21_65) hr)
                    rw [hS0] at fin
                    refine ⟨_, _, fin, hrun, hended, _, _, rfl, ?_, ⟨_, rfl⟩, hW, hsame.mono (by decide) (by decide)⟩
                    show own_QI h0 n0 (own_f21 p1) _ s₁.heap _
                    rw [e0]
                    exact ⟨_, rfl, (by unfold own_f21; rw [if_pos hc3_22, if_neg hc15_24, if_pos hc21_57, if_neg hc27_59, if_pos hc33_74, if_neg hc39_76, if_neg hc45_79, if_neg hc51_82, if_pos hc57_85]), N0, rfl⟩
                  · have P87 : own_Pr p.tables e below S0 s₁ (mkF m 65 #[.val (.int p1)] [(.int (0 : Int32))]) := fun t k => P84 t (by
                      refine XS.icmpYes X0.here hx rfl (pc0 := 57) (pc' := 64) rfl (hb hby d21_57) rfl (XT.ii_ne_t hc57_85) (by decide) (by decide) ?_
                      refine XS.iconst X0.here hx rfl (hb hby d21_64) ?_
                      exact k)
                    obtain ⟨fs, hr, hrun, hended, hW, hsame⟩ := X0.leave (v := some (.int (0 : Int32))) (fun h => by rw [Bd.returns] at h; cases h)
                    have fin : Steps p.tables e below S0 (s₁.setFrames fs) := P87 _ (retN X0 hx (t := .boolean) Bd.returns (by simp) (hb hby d21_65) hr)
                    rw [hS0] at fin
                    refine ⟨_, _, fin, hrun, hended, _, _, rfl, ?_, ⟨_, rfl⟩, hW, hsame.mono (by decide) (by decide)⟩
                    show own_QI h0 n0 (own_f21 p1) _ s₁.heap _
                    rw [e0]
                    exact ⟨_, rfl, (by unfold own_f21; rw [if_pos hc3_22, if_neg hc15_24, if_pos hc21_57, if_neg hc27_59, if_pos hc33_74, if_neg hc39_76, if_neg hc45_79, if_neg hc51_82, if_neg hc57_85]), N0, rfl⟩
          · have P88 : own_Pr p.tables e below S0 s₁ (mkF m 65 #[.val (.int p1)] [(.int (1 : Int32))]) := fun t k => P73 t (by
              refine XS.icmpYes X0.here hx rfl (pc0 := 33) (pc' := 60) rfl (hb hby d21_33) rfl (XT.ii_le_t hc33_74) (by decide) (by decide) ?_
              refine XS.iconst X0.here hx rfl (hb hby d21_60) ?_
              refine XS.goto X0.here hx rfl (pc0 := 61) (pc' := 65) rfl (hb hby d21_61) (by decide) (by decide) ?_
              exact k)
            obtain ⟨fs, hr, hrun, hended, hW, hsame⟩ := X0.leave (v := some (.int (1 : Int32))) (fun h => by rw [Bd.returns] at h; cases h)
            have fin : Steps p.tables e below S0 (s₁.setFrames fs) := P88 _ (retN X0 hx (t := .boolean) Bd.returns (by simp) (hb hby d21_65) hr)
            rw [hS0] at fin
            refine ⟨_, _, fin, hrun, hended, _, _, rfl, ?_, ⟨_, rfl⟩, hW, hsame.mono (by decide) (by decide)⟩
            show own_QI h0 n0 (own_f21 p1) _ s₁.heap _
            rw [e0]
            exact ⟨_, rfl, (by unfold own_f21; rw [if_pos hc3_22, if_neg hc15_24, if_pos hc21_57, if_neg hc27_59, if_neg hc33_74]), N0, rfl⟩
      · have P89 : own_Pr p.tables e below S0 s₁ (mkF m 65 #[.val (.int p1)] [(.int (1 : Int32))]) := fun t k => P56 t (by
          refine XS.icmpYes X0.here hx rfl (pc0 := 21) (pc' := 60) rfl (hb hby d21_21) rfl (XT.ii_le_t hc21_57) (by decide) (by decide) ?_
          refine XS.iconst X0.here hx rfl (hb hby d21_60) ?_
          refine XS.goto X0.here hx rfl (pc0 := 61) (pc' := 65) rfl (hb hby d21_61) (by decide) (by decide) ?_
          exact k)
        obtain ⟨fs, hr, hrun, hended, hW, hsame⟩ := X0.leave (v := some (.int (1 : Int32))) (fun h => by rw [Bd.returns] at h; cases h)
        have fin : Steps p.tables e below S0 (s₁.setFrames fs) := P89 _ (retN X0 hx (t := .boolean) Bd.returns (by simp) (hb hby d21_65) hr)
        rw [hS0] at fin
        refine ⟨_, _, fin, hrun, hended, _, _, rfl, ?_, ⟨_, rfl⟩, hW, hsame.mono (by decide) (by decide)⟩
        show own_QI h0 n0 (own_f21 p1) _ s₁.heap _
        rw [e0]
        exact ⟨_, rfl, (by unfold own_f21; rw [if_pos hc3_22, if_neg hc15_24, if_neg hc21_57]), N0, rfl⟩
  · have P90 : own_Pr p.tables e below S0 s₁ (mkF m 9 #[.val (.int p1)] [(.int (122 : Int32)), (.int p1)]) := fun t k => P21 t (by
      refine XS.icmpNo X0.here hx rfl (hb hby d21_3) rfl (XT.ii_lt_f hc3_22) ?_
      refine XS.iloadN X0.here hx rfl (hb hby d21_6) rfl ?_
      refine XS.bipush X0.here hx rfl (hb hby d21_7) ?_
      exact k)
    by_cases hc9_91 : (122 : Int32) < p1
    · have P92 : own_Pr p.tables e below S0 s₁ (mkF m 15 #[.val (.int p1)] [(.int (65 : Int32)), (.int p1)]) := fun t k => P90 t (by
        refine XS.icmpNo X0.here hx rfl (hb hby d21_9) rfl (XT.ii_le_f hc9_91) ?_
        refine XS.iloadN X0.here hx rfl (hb hby d21_12) rfl ?_
        refine XS.bipush X0.here hx rfl (hb hby d21_13) ?_
        exact k)
      by_cases hc15_93 : p1 < (65 : Int32)
      · have P94 : own_Pr p.tables e below S0 s₁ (mkF m 27 #[.val (.int p1)] [(.int (48 : Int32)), (.int p1)]) := fun t k => P92 t (by
          refine XS.icmpYes X0.here hx rfl (pc0 := 15) (pc' := 24) rfl (hb hby d21_15) rfl (XT.ii_lt_t hc15_93) (by decide) (by decide) ?_
          refine XS.iloadN X0.here hx rfl (hb hby d21_24) rfl ?_
          refine XS.bipush X0.here hx rfl (hb hby d21_25) ?_
          exact k)
        by_cases hc27_95 : p1 < (48 : Int32)
        · have P96 : own_Pr p.tables e below S0 s₁ (mkF m 39 #[.val (.int p1)] [(.int (45 : Int32)), (.int p1)]) := fun t k => P94 t (by
            refine XS.icmpYes X0.here hx rfl (pc0 := 27) (pc' := 36) rfl (hb hby d21_27) rfl (XT.ii_lt_t hc27_95) (by decide) (by decide) ?_
            refine XS.iloadN X0.here hx rfl (hb hby d21_36) rfl ?_
            refine XS.bipush X0.here hx rfl (hb hby d21_37) ?_
            exact k)
          by_cases hc39_97 : p1 = (45 : Int32)
          · have P98 : own_Pr p.tables e below S0 s₁ (mkF m 65 #[.val (.int p1)] [(.int (1 : Int32))]) := fun t k => P96 t (by
              refine XS.icmpYes X0.here hx rfl (pc0 := 39) (pc' := 60) rfl (hb hby d21_39) rfl (XT.ii_eq_t hc39_97) (by decide) (by decide) ?_
              refine XS.iconst X0.here hx rfl (hb hby d21_60) ?_
              refine XS.goto X0.here hx rfl (pc0 := 61) (pc' := 65) rfl (hb hby d21_61) (by decide) (by decide) ?_
              exact k)
            obtain ⟨fs, hr, hrun, hended, hW, hsame⟩ := X0.leave (v := some (.int (1 : Int32))) (fun h => by rw [Bd.returns] at h; cases h)
            have fin : Steps p.tables e below S0 (s₁.setFrames fs) := P98 _ (retN X0 hx (t := .boolean) Bd.returns (by simp) (hb hby d21_65) hr)
            rw [hS0] at fin
            refine ⟨_, _, fin, hrun, hended, _, _, rfl, ?_, ⟨_, rfl⟩, hW, hsame.mono (by decide) (by decide)⟩
            show own_QI h0 n0 (own_f21 p1) _ s₁.heap _
            rw [e0]
            exact ⟨_, rfl, (by unfold own_f21; rw [if_neg hc3_22, if_pos hc9_91, if_pos hc15_93, if_pos hc27_95, if_pos hc39_97]), N0, rfl⟩
          · have P99 : own_Pr p.tables e below S0 s₁ (mkF m 45 #[.val (.int p1)] [(.int (95 : Int32)), (.int p1)]) := fun t k => P96 t (by
              refine XS.icmpNo X0.here hx rfl (hb hby d21_39) rfl (XT.ii_eq_f hc39_97) ?_
              refine XS.iloadN X0.here hx rfl (hb hby d21_42) rfl ?_
              refine XS.bipush X0.here hx rfl (hb hby d21_43) ?_
              exact k)
            by_cases hc45_100 : p1 = (95 : Int32)
            · have P101 : own_Pr p.tables e below S0 s₁ (mkF m 65 #[.val (.int p1)] [(.int (1 : Int32))]) := fun t k => P99 t (by
                refine XS.icmpYes X0.here hx rfl (pc0 := 45) (pc' := 60) rfl (hb hby d21_45) rfl (XT.ii_eq_t hc45_100) (by decide) (by decide) ?_
                refine XS.iconst X0.here hx rfl (hb hby d21_60) ?_
                refine XS.goto X0.here hx rfl (pc0 := 61) (pc' := 65) rfl (hb hby d21_61) (by decide) (by decide) ?_
                exact k)
              obtain ⟨fs, hr, hrun, hended, hW, hsame⟩ := X0.leave (v := some (.int (1 : Int32))) (fun h => by rw [Bd.returns] at h; cases h)
              have fin : Steps p.tables e below S0 (s₁.setFrames fs) := P101 _ (retN X0 hx (t := .boolean) Bd.returns (by simp) (hb hby d21_65) hr)
              rw [hS0] at fin
              refine ⟨_, _, fin, hrun, hended, _, _, rfl, ?_, ⟨_, rfl⟩, hW, hsame.mono (by decide) (by decide)⟩
              show own_QI h0 n0 (own_f21 p1) _ s₁.heap _
              rw [e0]
              exact ⟨_, rfl, (by unfold own_f21; rw [if_neg hc3_22, if_pos hc9_91, if_pos hc15_93, if_pos hc27_95, if_neg hc39_97, if_pos hc45_100]), N0, rfl⟩
            · have P102 : own_Pr p.tables e below S0 s₁ (mkF m 51 #[.val (.int p1)] [(.int (58 : Int32)), (.int p1)]) := fun t k => P99 t (by
                refine XS.icmpNo X0.here hx rfl (hb hby d21_45) rfl (XT.ii_eq_f hc45_100) ?_
                refine XS.iloadN X0.here hx rfl (hb hby d21_48) rfl ?_
                refine XS.bipush X0.here hx rfl (hb hby d21_49) ?_
                exact k)
              by_cases hc51_103 : p1 = (58 : Int32)
              · have P104 : own_Pr p.tables e below S0 s₁ (mkF m 65 #[.val (.int p1)] [(.int (1 : Int32))]) := fun t k => P102 t (by
                  refine XS.icmpYes X0.here hx rfl (pc0 := 51) (pc' := 60) rfl (hb hby d21_51) rfl (XT.ii_eq_t hc51_103) (by decide) (by decide) ?_
                  refine XS.iconst X0.here hx rfl (hb hby d21_60) ?_
                  refine XS.goto X0.here hx rfl (pc0 := 61) (pc' := 65) rfl (hb hby d21_61) (by decide) (by decide) ?_
                  exact k)
                obtain ⟨fs, hr, hrun, hended, hW, hsame⟩ := X0.leave (v := some (.int (1 : Int32))) (fun h => by rw [Bd.returns] at h; cases h)
                have fin : Steps p.tables e below S0 (s₁.setFrames fs) := P104 _ (retN X0 hx (t := .boolean) Bd.returns (by simp) (hb hby d21_65) hr)
                rw [hS0] at fin
                refine ⟨_, _, fin, hrun, hended, _, _, rfl, ?_, ⟨_, rfl⟩, hW, hsame.mono (by decide) (by decide)⟩
                show own_QI h0 n0 (own_f21 p1) _ s₁.heap _
                rw [e0]
                exact ⟨_, rfl, (by unfold own_f21; rw [if_neg hc3_22, if_pos hc9_91, if_pos hc15_93, if_pos hc27_95, if_neg hc39_97, if_neg hc45_100, if_pos hc51_103]), N0, rfl⟩
              · have P105 : own_Pr p.tables e below S0 s₁ (mkF m 57 #[.val (.int p1)] [(.int (46 : Int32)), (.int p1)]) := fun t k => P102 t (by
                  refine XS.icmpNo X0.here hx rfl (hb hby d21_51) rfl (XT.ii_eq_f hc51_103) ?_
                  refine XS.iloadN X0.here hx rfl (hb hby d21_54) rfl ?_
                  refine XS.bipush X0.here hx rfl (hb hby d21_55) ?_
                  exact k)
                by_cases hc57_106 : p1 = (46 : Int32)
                · have P107 : own_Pr p.tables e below S0 s₁ (mkF m 65 #[.val (.int p1)] [(.int (1 : Int32))]) := fun t k => P105 t (by
                    refine XS.icmpNo X0.here hx rfl (hb hby d21_57) rfl (XT.ii_ne_f hc57_106) ?_
                    refine XS.iconst X0.here hx rfl (hb hby d21_60) ?_
                    refine XS.goto X0.here hx rfl (pc0 := 61) (pc' := 65) rfl (hb hby d21_61) (by decide) (by decide) ?_
                    exact k)
                  obtain ⟨fs, hr, hrun, hended, hW, hsame⟩ := X0.leave (v := some (.int (1 : Int32))) (fun h => by rw [Bd.returns] at h; cases h)
                  have fin : Steps p.tables e below S0 (s₁.setFrames fs) := P107 _ (retN X0 hx (t := .boolean) Bd.returns (by simp) (hb hby d21_65) hr)
                  rw [hS0] at fin
                  refine ⟨_, _, fin, hrun, hended, _, _, rfl, ?_, ⟨_, rfl⟩, hW, hsame.mono (by decide) (by decide)⟩
                  show own_QI h0 n0 (own_f21 p1) _ s₁.heap _
                  rw [e0]
                  exact ⟨_, rfl, (by unfold own_f21; rw [if_neg hc3_22, if_pos hc9_91, if_pos hc15_93, if_pos hc27_95, if_neg hc39_97, if_neg hc45_100, if_neg hc51_103, if_pos hc57_106]), N0, rfl⟩
                · have P108 : own_Pr p.tables e below S0 s₁ (mkF m 65 #[.val (.int p1)] [(.int (0 : Int32))]) := fun t k => P105 t (by
                    refine XS.icmpYes X0.here hx rfl (pc0 := 57) (pc' := 64) rfl (hb hby d21_57) rfl (XT.ii_ne_t hc57_106) (by decide) (by decide) ?_
                    refine XS.iconst X0.here hx rfl (hb hby d21_64) ?_
                    exact k)
                  obtain ⟨fs, hr, hrun, hended, hW, hsame⟩ := X0.leave (v := some (.int (0 : Int32))) (fun h => by rw [Bd.returns] at h; cases h)
                  have fin : Steps p.tables e below S0 (s₁.setFrames fs) := P108 _ (retN X0 hx (t := .boolean) Bd.returns (by simp) (hb hby d21_65) hr)
                  rw [hS0] at fin
                  refine ⟨_, _, fin, hrun, hended, _, _, rfl, ?_, ⟨_, rfl⟩, hW, hsame.mono (by decide) (by decide)⟩
                  show own_QI h0 n0 (own_f21 p1) _ s₁.heap _
                  rw [e0]
                  exact ⟨_, rfl, (by unfold own_f21; rw [if_neg hc3_22, if_pos hc9_91, if_pos hc15_93, if_pos hc27_95, if_neg hc39_97, if_neg hc45_100, if_neg hc51_103, if_neg hc57_106]), N0, rfl⟩
        · have P109 : own_Pr p.tables e below S0 s₁ (mkF m 33 #[.val (.int p1)] [(.int (57 : Int32)), (.int p1)]) := fun t k => P94 t (by
            refine XS.icmpNo X0.here hx rfl (hb hby d21_27) rfl (XT.ii_lt_f hc27_95) ?_
            refine XS.iloadN X0.here hx rfl (hb hby d21_30) rfl ?_
            refine XS.bipush X0.here hx rfl (hb hby d21_31) ?_
            exact k)
          by_cases hc33_110 : (57 : Int32) < p1
          · have P111 : own_Pr p.tables e below S0 s₁ (mkF m 39 #[.val (.int p1)] [(.int (45 : Int32)), (.int p1)]) := fun t k => P109 t (by
              refine XS.icmpNo X0.here hx rfl (hb hby d21_33) rfl (XT.ii_le_f hc33_110) ?_
              refine XS.iloadN X0.here hx rfl (hb hby d21_36) rfl ?_
              refine XS.bipush X0.here hx rfl (hb hby d21_37) ?_
              exact k)
            by_cases hc39_112 : p1 = (45 : Int32)
            · have P113 : own_Pr p.tables e below S0 s₁ (mkF m 65 #[.val (.int p1)] [(.int (1 : Int32))]) := fun t k => P111 t (by
                refine XS.icmpYes X0.here hx rfl (pc0 := 39) (pc' := 60) rfl (hb hby d21_39) rfl (XT.ii_eq_t hc39_112) (by decide) (by decide) ?_
                refine XS.iconst X0.here hx rfl (hb hby d21_60) ?_
                refine XS.goto X0.here hx rfl (pc0 := 61) (pc' := 65) rfl (hb hby d21_61) (by decide) (by decide) ?_
                exact k)
              obtain ⟨fs, hr, hrun, hended, hW, hsame⟩ := X0.leave (v := some (.int (1 : Int32))) (fun h => by rw [Bd.returns] at h; cases h)
              have fin : Steps p.tables e below S0 (s₁.setFrames fs) := P113 _ (retN X0 hx (t := .boolean) Bd.returns (by simp) (hb hby d21_65) hr)
              rw [hS0] at fin
              refine ⟨_, _, fin, hrun, hended, _, _, rfl, ?_, ⟨_, rfl⟩, hW, hsame.mono (by decide) (by decide)⟩
              show own_QI h0 n0 (own_f21 p1) _ s₁.heap _
              rw [e0]
              exact ⟨_, rfl, (by unfold own_f21; rw [if_neg hc3_22, if_pos hc9_91, if_pos hc15_93, if_neg hc27_95, if_pos hc33_110, if_pos hc39_112]), N0, rfl⟩
            · have P114 : own_Pr p.tables e below S0 s₁ (mkF m 45 #[.val (.int p1)] [(.int (95 : Int32)), (.int p1)]) := fun t k => P111 t (by
                refine XS.icmpNo X0.here hx rfl (hb hby d21_39) rfl (XT.ii_eq_f hc39_112) ?_
                refine XS.iloadN X0.here hx rfl (hb hby d21_42) rfl ?_
                refine XS.bipush X0.here hx rfl (hb hby d21_43) ?_
                exact k)
              by_cases hc45_115 : p1 = (95 : Int32)
              · have P116 : own_Pr p.tables e below S0 s₁ (mkF m 65 #[.val (.int p1)] [(.int (1 : Int32))]) := fun t k => P114 t (by
                  refine XS.icmpYes X0.here hx rfl (pc0 := 45) (pc' := 60) rfl (hb hby d21_45) rfl (XT.ii_eq_t hc45_115) (by decide) (by decide) ?_
                  refine XS.iconst X0.here hx rfl (hb hby d21_60) ?_
                  refine XS.goto X0.here hx rfl (pc0 := 61) (pc' := 65) rfl (hb hby d21_61) (by decide) (by decide) ?_
                  exact k)
                obtain ⟨fs, hr, hrun, hended, hW, hsame⟩ := X0.leave (v := some (.int (1 : Int32))) (fun h => by rw [Bd.returns] at h; cases h)
                have fin : Steps p.tables e below S0 (s₁.setFrames fs) := P116 _ (retN X0 hx (t := .boolean) Bd.returns (by simp) (hb hby d21_65) hr)
                rw [hS0] at fin
                refine ⟨_, _, fin, hrun, hended, _, _, rfl, ?_, ⟨_, rfl⟩, hW, hsame.mono (by decide) (by decide)⟩
                show own_QI h0 n0 (own_f21 p1) _ s₁.heap _
                rw [e0]
                exact ⟨_, rfl, (by unfold own_f21; rw [if_neg hc3_22, if_pos hc9_91, if_pos hc15_93, if_neg hc27_95, if_pos hc33_110, if_neg hc39_112, if_pos hc45_115]), N0, rfl⟩
              · have P117 : own_Pr p.tables e below S0 s₁ (mkF m 51 #[.val (.int p1)] [(.int (58 : Int32)), (.int p1)]) := fun t k => P114 t (by
                  refine XS.icmpNo X0.here hx rfl (hb hby d21_45) rfl (XT.ii_eq_f hc45_115) ?_
                  refine XS.iloadN X0.here hx rfl (hb hby d21_48) rfl ?_
                  refine XS.bipush X0.here hx rfl (hb hby d21_49) ?_
                  exact k)
                by_cases hc51_118 : p1 = (58 : Int32)
                · have P119 : own_Pr p.tables e below S0 s₁ (mkF m 65 #[.val (.int p1)] [(.int (1 : Int32))]) := fun t k => P117 t (by
                    refine XS.icmpYes X0.here hx rfl (pc0 := 51) (pc' := 60) rfl (hb hby d21_51) rfl (XT.ii_eq_t hc51_118) (by decide) (by decide) ?_
                    refine XS.iconst X0.here hx rfl (hb hby d21_60) ?_
                    refine XS.goto X0.here hx rfl (pc0 := 61) (pc' := 65) rfl (hb hby d21_61) (by decide) (by decide) ?_
                    exact k)
                  obtain ⟨fs, hr, hrun, hended, hW, hsame⟩ := X0.leave (v := some (.int (1 : Int32))) (fun h => by rw [Bd.returns] at h; cases h)
                  have fin : Steps p.tables e below S0 (s₁.setFrames fs) := P119 _ (retN X0 hx (t := .boolean) Bd.returns (by simp) (hb hby d21_65) hr)
                  rw [hS0] at fin
                  refine ⟨_, _, fin, hrun, hended, _, _, rfl, ?_, ⟨_, rfl⟩, hW, hsame.mono (by decide) (by decide)⟩
                  show own_QI h0 n0 (own_f21 p1) _ s₁.heap _
                  rw [e0]
                  exact ⟨_, rfl, (by unfold own_f21; rw [if_neg hc3_22, if_pos hc9_91, if_pos hc15_93, if_neg hc27_95, if_pos hc33_110, if_neg hc39_112, if_neg hc45_115, if_pos hc51_118]), N0, rfl⟩
                · have P120 : own_Pr p.tables e below S0 s₁ (mkF m 57 #[.val (.int p1)] [(.int (46 : Int32)), (.int p1)]) := fun t k => P117 t (by
                    refine XS.icmpNo X0.here hx rfl (hb hby d21_51) rfl (XT.ii_eq_f hc51_118) ?_
                    refine XS.iloadN X0.here hx rfl (hb hby d21_54) rfl ?_
                    refine XS.bipush X0.here hx rfl (hb hby d21_55) ?_
                    exact k)
                  by_cases hc57_121 : p1 = (46 : Int32)
                  · have P122 : own_Pr p.tables e below S0 s₁ (mkF m 65 #[.val (.int p1)] [(.int (1 : Int32))]) := fun t k => P120 t (by
                      refine XS.icmpNo X0.here hx rfl (hb hby d21_57) rfl (XT.ii_ne_f hc57_121) ?_
                      refine XS.iconst X0.here hx rfl (hb hby d21_60) ?_
                      refine XS.goto X0.here hx rfl (pc0 := 61) (pc' := 65) rfl (hb hby d21_61) (by decide) (by decide) ?_
                      exact k)
                    obtain ⟨fs, hr, hrun, hended, hW, hsame⟩ := X0.leave (v := some (.int (1 : Int32))) (fun h => by rw [Bd.returns] at h; cases h)
                    have fin : Steps p.tables e below S0 (s₁.setFrames fs) := P122 _ (retN X0 hx (t := .boolean) Bd.returns (by simp) (hb hby d21_65) hr)
                    rw [hS0] at fin
                    refine ⟨_, _, fin, hrun, hended, _, _, rfl, ?_, ⟨_, rfl⟩, hW, hsame.mono (by decide) (by decide)⟩
                    show own_QI h0 n0 (own_f21 p1) _ s₁.heap _
                    rw [e0]
                    exact ⟨_, rfl, (by unfold own_f21; rw [if_neg hc3_22, if_pos hc9_91, if_pos hc15_93, if_neg hc27_95, if_pos hc33_110, if_neg hc39_112, if_neg hc45_115, if_neg hc51_118, if_pos hc57_121]), N0, rfl⟩
                  · have P123 : own_Pr p.tables e below S0 s₁ (mkF m 65 #[.val (.int p1)] [(.int (0 : Int32))]) := fun t k => P120 t (by
                      refine XS.icmpYes X0.here hx rfl (pc0 := 57) (pc' := 64) rfl (hb hby d21_57) rfl (XT.ii_ne_t hc57_121) (by decide) (by decide) ?_
                      refine XS.iconst X0.here hx rfl (hb hby d21_64) ?_
                      exact k)
                    obtain ⟨fs, hr, hrun, hended, hW, hsame⟩ := X0.leave (v := some (.int (0 : Int32))) (fun h => by rw [Bd.returns] at h; cases h)
                    have fin : Steps p.tables e below S0 (s₁.setFrames fs) := P123 _ (retN X0 hx (t := .boolean) Bd.returns (by simp) (hb hby d21_65) hr)
                    rw [hS0] at fin
                    refine ⟨_, _, fin, hrun, hended, _, _, rfl, ?_, ⟨_, rfl⟩, hW, hsame.mono (by decide) (by decide)⟩
                    show own_QI h0 n0 (own_f21 p1) _ s₁.heap _
                    rw [e0]
                    exact ⟨_, rfl, (by unfold own_f21; rw [if_neg hc3_22, if_pos hc9_91, if_pos hc15_93, if_neg hc27_95, if_pos hc33_110, if_neg hc39_112, if_neg hc45_115, if_neg hc51_118, if_neg hc57_121]), N0, rfl⟩
          · have P124 : own_Pr p.tables e below S0 s₁ (mkF m 65 #[.val (.int p1)] [(.int (1 : Int32))]) := fun t k => P109 t (by
              refine XS.icmpYes X0.here hx rfl (pc0 := 33) (pc' := 60) rfl (hb hby d21_33) rfl (XT.ii_le_t hc33_110) (by decide) (by decide) ?_
              refine XS.iconst X0.here hx rfl (hb hby d21_60) ?_
              refine XS.goto X0.here hx rfl (pc0 := 61) (pc' := 65) rfl (hb hby d21_61) (by decide) (by decide) ?_
              exact k)
            obtain ⟨fs, hr, hrun, hended, hW, hsame⟩ := X0.leave (v := some (.int (1 : Int32))) (fun h => by rw [Bd.returns] at h; cases h)
            have fin : Steps p.tables e below S0 (s₁.setFrames fs) := P124 _ (retN X0 hx (t := .boolean) Bd.returns (by simp) (hb hby d21_65) hr)
            rw [hS0] at fin
            refine ⟨_, _, fin, hrun, hended, _, _, rfl, ?_, ⟨_, rfl⟩, hW, hsame.mono (by decide) (by decide)⟩
            show own_QI h0 n0 (own_f21 p1) _ s₁.heap _
            rw [e0]
            exact ⟨_, rfl, (by unfold own_f21; rw [if_neg hc3_22, if_pos hc9_91, if_pos hc15_93, if_neg hc27_95, if_neg hc33_110]), N0, rfl⟩
      · have P125 : own_Pr p.tables e below S0 s₁ (mkF m 21 #[.val (.int p1)] [(.int (90 : Int32)), (.int p1)]) := fun t k => P92 t (by
          refine XS.icmpNo X0.here hx rfl (hb hby d21_15) rfl (XT.ii_lt_f hc15_93) ?_
          refine XS.iloadN X0.here hx rfl (hb hby d21_18) rfl ?_
          refine XS.bipush X0.here hx rfl (hb hby d21_19) ?_
          exact k)
        by_cases hc21_126 : (90 : Int32) < p1
        · have P127 : own_Pr p.tables e below S0 s₁ (mkF m 27 #[.val (.int p1)] [(.int (48 : Int32)), (.int p1)]) := fun t k => P125 t (by
            refine XS.icmpNo X0.here hx rfl (hb hby d21_21) rfl (XT.ii_le_f hc21_126) ?_
            refine XS.iloadN X0.here hx rfl (hb hby d21_24) rfl ?_
            refine XS.bipush X0.here hx rfl (hb hby d21_25) ?_
            exact k)
          by_cases hc27_128 : p1 < (48 : Int32)
          · have P129 : own_Pr p.tables e below S0 s₁ (mkF m 39 #[.val (.int p1)] [(.int (45 : Int32)), (.int p1)]) := fun t k => P127 t (by
              refine XS.icmpYes X0.here hx rfl (pc0 := 27) (pc' := 36) rfl (hb hby d21_27) rfl (XT.ii_lt_t hc27_128) (by decide) (by decide) ?_
              refine XS.iloadN X0.here hx rfl (hb hby d21_36) rfl ?_
              refine XS.bipush X0.here hx rfl (hb hby d21_37) ?_
              exact k)
            by_cases hc39_130 : p1 = (45 : Int32)
            · have P131 : own_Pr p.tables e below S0 s₁ (mkF m 65 #[.val (.int p1)] [(.int (1 : Int32))]) := fun t k => P129 t (by
                refine XS.icmpYes X0.here hx rfl (pc0 := 39) (pc' := 60) rfl (hb hby d21_39) rfl (XT.ii_eq_t hc39_130) (by decide) (by decide) ?_
                refine XS.iconst X0.here hx rfl (hb hby d21_60) ?_
                refine XS.goto X0.here hx rfl (pc0 := 61) (pc' := 65) rfl (hb hby d21_61) (by decide) (by decide) ?_
                exact k)
              obtain ⟨fs, hr, hrun, hended, hW, hsame⟩ := X0.leave (v := some (.int (1 : Int32))) (fun h => by rw [Bd.returns] at h; cases h)
              have fin : Steps p.tables e below S0 (s₁.setFrames fs) := P131 _ (retN X0 hx (t := .boolean) Bd.returns (by simp) (hb hby d21_65) hr)
              rw [hS0] at fin
              refine ⟨_, _, fin, hrun, hended, _, _, rfl, ?_, ⟨_, rfl⟩, hW, hsame.mono (by decide) (by decide)⟩
              show own_QI h0 n0 (own_f21 p1) _ s₁.heap _
              rw [e0]
              exact ⟨_, rfl, (by unfold own_f21; rw [if_neg hc3_22, if_pos hc9_91, if_neg hc15_93, if_pos hc21_126, if_pos hc27_128, if_pos hc39_130]), N0, rfl⟩
            · have P132 : own_Pr p.tables e below S0 s₁ (mkF m 45 #[.val (.int p1)] [(.int (95 : Int32)), (.int p1)]) := fun t k => P129 t (by
                refine XS.icmpNo X0.here hx rfl (hb hby d21_39) rfl (XT.ii_eq_f hc39_130) ?_
                refine XS.iloadN X0.here hx rfl (hb hby d21_42) rfl ?_
                refine XS.bipush X0.here hx rfl (hb hby d21_43) ?_
                exact k)
              by_cases hc45_133 : p1 = (95 : Int32)
              · have P134 : own_Pr p.tables e below S0 s₁ (mkF m 65 #[.val (.int p1)] [(.int (1 : Int32))]) := fun t k => P132 t (by
                  refine XS.icmpYes X0.here hx rfl (pc0 := 45) (pc' := 60) rfl (hb hby d21_45) rfl (XT.ii_eq_t hc45_133) (by decide) (by decide) ?_
                  refine XS.iconst X0.here hx rfl (hb hby d21_60) ?_
                  refine XS.goto X0.here hx rfl (pc0 := 61) (pc' := 65) rfl (hb hby d21_61) (by decide) (by decide) ?_
                  exact k)
                obtain ⟨fs, hr, hrun, hended, hW, hsame⟩ := X0.leave (v := some (.int (1 : Int32))) (fun h => by rw [Bd.returns] at h; cases h)
                have fin : Steps p.tables e below S0 (s₁.setFrames fs) := P134 _ (retN X0 hx (t := .boolean) Bd.returns (by simp) (hb hby d21_65) hr)
                rw [hS0] at fin
                refine ⟨_, _, fin, hrun, hended, _, _, rfl, ?_, ⟨_, rfl⟩, hW, hsame.mono (by decide) (by decide)⟩
                show own_QI h0 n0 (own_f21 p1) _ s₁.heap _
                rw [e0]
                exact ⟨_, rfl, (by unfold own_f21; rw [if_neg hc3_22, if_pos hc9_91, if_neg hc15_93, if_pos hc21_126, if_pos hc27_128, if_neg hc39_130, if_pos hc45_133]), N0, rfl⟩
              · have P135 : own_Pr p.tables e below S0 s₁ (mkF m 51 #[.val (.int p1)] [(.int (58 : Int32)), (.int p1)]) := fun t k => P132 t (by
                  refine XS.icmpNo X0.here hx rfl (hb hby d21_45) rfl (XT.ii_eq_f hc45_133) ?_
                  refine XS.iloadN X0.here hx rfl (hb hby d21_48) rfl ?_
                  refine XS.bipush X0.here hx rfl (hb hby d21_49) ?_
                  exact k)
                by_cases hc51_136 : p1 = (58 : Int32)
                · have P137 : own_Pr p.tables e below S0 s₁ (mkF m 65 #[.val (.int p1)] [(.int (1 : Int32))]) := fun t k => P135 t (by
                    refine XS.icmpYes X0.here hx rfl (pc0 := 51) (pc' := 60) rfl (hb hby d21_51) rfl (XT.ii_eq_t hc51_136) (by decide) (by decide) ?_
                    refine XS.iconst X0.here hx rfl (hb hby d21_60) ?_
                    refine XS.goto X0.here hx rfl (pc0 := 61) (pc' := 65) rfl (hb hby d21_61) (by decide) (by decide) ?_
                    exact k)
                  obtain ⟨fs, hr, hrun, hended, hW, hsame⟩ := X0.leave (v := some (.int (1 : Int32))) (fun h => by rw [Bd.returns] at h; cases h)
                  have fin : Steps p.tables e below S0 (s₁.setFrames fs) := P137 _ (retN X0 hx (t := .boolean) Bd.returns (by simp) (hb hby d21_65) hr)
                  rw [hS0] at fin
                  refine ⟨_, _, fin, hrun, hended, _, _, rfl, ?_, ⟨_, rfl⟩, hW, hsame.mono (by decide) (by decide)⟩
                  show own_QI h0 n0 (own_f21 p1) _ s₁.heap _
                  rw [e0]
                  exact ⟨_, rfl, (by unfold own_f21; rw [if_neg hc3_22, if_pos hc9_91, if_neg hc15_93, if_pos hc21_126, if_pos hc27_128, if_neg hc39_130, if_neg hc45_133, if_pos hc51_136]), N0, rfl⟩
                · have P138 : own_Pr p.tables e below S0 s₁ (mkF m 57 #[.val (.int p1)] [(.int (46 : Int32)), (.int p1)]) := fun t k => P135 t (by
                    refine XS.icmpNo X0.here hx rfl (hb hby d21_51) rfl (XT.ii_eq_f hc51_136) ?_
                    refine XS.iloadN X0.here hx rfl (hb hby d21_54) rfl ?_
                    refine XS.bipush X0.here hx rfl (hb hby d21_55) ?_
                    exact k)
                  by_cases hc57_139 : p1 = (46 : Int32)
                  · have P140 : own_Pr p.tables e below S0 s₁ (mkF m 65 #[.val (.int p1)] [(.int (1 : Int32))]) := fun t k => P138 t (by
                      refine XS.icmpNo X0.here hx rfl (hb hby d21_57) rfl (XT.ii_ne_f hc57_139) ?_
                      refine XS.iconst X0.here hx rfl (hb hby d21_60) ?_
                      refine XS.goto X0.here hx rfl (pc0 := 61) (pc' := 65) rfl (hb hby d21_61) (by decide) (by decide) ?_
                      exact k)
                    obtain ⟨fs, hr, hrun, hended, hW, hsame⟩ := X0.leave (v := some (.int (1 : Int32))) (fun h => by rw [Bd.returns] at h; cases h)
                    have fin : Steps p.tables e below S0 (s₁.setFrames fs) := P140 _ (retN X0 hx (t := .boolean) Bd.returns (by simp) (hb hby d21_65) hr)
                    rw [hS0] at fin
                    refine ⟨_, _, fin, hrun, hended, _, _, rfl, ?_, ⟨_, rfl⟩, hW, hsame.mono (by decide) (by decide)⟩
                    show own_QI h0 n0 (own_f21 p1) _ s₁.heap _
                    rw [e0]
                    exact ⟨_, rfl, (by unfold own_f21; rw [if_neg hc3_22, if_pos hc9_91, if_neg hc15_93, if_pos hc21_126, if_pos hc27_128, if_neg hc39_130, if_neg hc45_133, if_neg hc51_136, if_pos hc57_139]), N0, rfl⟩
                  · have P141 : own_Pr p.tables e below S0 s₁ (mkF m 65 #[.val (.int p1)] [(.int (0 : Int32))]) := fun t k => P138 t (by
                      refine XS.icmpYes X0.here hx rfl (pc0 := 57) (pc' := 64) rfl (hb hby d21_57) rfl (XT.ii_ne_t hc57_139) (by decide) (by decide) ?_
                      refine XS.iconst X0.here hx rfl (hb hby d21_64) ?_
                      exact k)
                    obtain ⟨fs, hr, hrun, hended, hW, hsame⟩ := X0.leave (v := some (.int (0 : Int32))) (fun h => by rw [Bd.returns] at h; cases h)
                    have fin : Steps p.tables e below S0 (s₁.setFrames fs) := P141 _ (retN X0 hx (t := .boolean) Bd.returns (by simp) (hb hby d21_65) hr)
                    rw [hS0] at fin
                    refine ⟨_, _, fin, hrun, hended, _, _, rfl, ?_, ⟨_, rfl⟩, hW, hsame.mono (by decide) (by decide)⟩
                    show own_QI h0 n0 (own_f21 p1) _ s₁.heap _
                    rw [e0]
                    exact ⟨_, rfl, (by unfold own_f21; rw [if_neg hc3_22, if_pos hc9_91, if_neg hc15_93, if_pos hc21_126, if_pos hc27_128, if_neg hc39_130, if_neg hc45_133, if_neg hc51_136, if_neg hc57_139]), N0, rfl⟩
          · have P142 : own_Pr p.tables e below S0 s₁ (mkF m 33 #[.val (.int p1)] [(.int (57 : Int32)), (.int p1)]) := fun t k => P127 t (by
              refine XS.icmpNo X0.here hx rfl (hb hby d21_27) rfl (XT.ii_lt_f hc27_128) ?_
              refine XS.iloadN X0.here hx rfl (hb hby d21_30) rfl ?_
              refine XS.bipush X0.here hx rfl (hb hby d21_31) ?_
              exact k)
            by_cases hc33_143 : (57 : Int32) < p1
            · have P144 : own_Pr p.tables e below S0 s₁ (mkF m 39 #[.val (.int p1)] [(.int (45 : Int32)), (.int p1)]) := fun t k => P142 t (by
                refine XS.icmpNo X0.here hx rfl (hb hby d21_33) rfl (XT.ii_le_f hc33_143) ?_
                refine XS.iloadN X0.here hx rfl (hb hby d21_36) rfl ?_
                refine XS.bipush X0.here hx rfl (hb hby d21_37) ?_
                exact k)
              by_cases hc39_145 : p1 = (45 : Int32)
              · have P146 : own_Pr p.tables e below S0 s₁ (mkF m 65 #[.val (.int p1)] [(.int (1 : Int32))]) := fun t k => P144 t (by
                  refine XS.icmpYes X0.here hx rfl (pc0 := 39) (pc' := 60) rfl (hb hby d21_39) rfl (XT.ii_eq_t hc39_145) (by decide) (by decide) ?_
                  refine XS.iconst X0.here hx rfl (hb hby d21_60) ?_
                  refine XS.goto X0.here hx rfl (pc0 := 61) (pc' := 65) rfl (hb hby d21_61) (by decide) (by decide) ?_
                  exact k)
                obtain ⟨fs, hr, hrun, hended, hW, hsame⟩ := X0.leave (v := some (.int (1 : Int32))) (fun h => by rw [Bd.returns] at h; cases h)
                have fin : Steps p.tables e below S0 (s₁.setFrames fs) := P146 _ (retN X0 hx (t := .boolean) Bd.returns (by simp) (hb hby d21_65) hr)
                rw [hS0] at fin
                refine ⟨_, _, fin, hrun, hended, _, _, rfl, ?_, ⟨_, rfl⟩, hW, hsame.mono (by decide) (by decide)⟩
                show own_QI h0 n0 (own_f21 p1) _ s₁.heap _
                rw [e0]
                exact ⟨_, rfl, (by unfold own_f21; rw [if_neg hc3_22, if_pos hc9_91, if_neg hc15_93, if_pos hc21_126, if_neg hc27_128, if_pos hc33_143, if_pos hc39_145]), N0, rfl⟩
              · have P147 : own_Pr p.tables e below S0 s₁ (mkF m 45 #[.val (.int p1)] [(.int (95 : Int32)), (.int p1)]) := fun t k => P144 t (by
                  refine XS.icmpNo X0.here hx rfl (hb hby d21_39) rfl (XT.ii_eq_f hc39_145) ?_
                  refine XS.iloadN X0.here hx rfl (hb hby d21_42) rfl ?_
                  refine XS.bipush X0.here hx rfl (hb hby d21_43) ?_
                  exact k)
                by_cases hc45_148 : p1 = (95 : Int32)
                · have P149 : own_Pr p.tables e below S0 s₁ (mkF m 65 #[.val (.int p1)] [(.int (1 : Int32))]) := fun t k => P147 t (by
                    refine XS.icmpYes X0.here hx rfl (pc0 := 45) (pc' := 60) rfl (hb hby d21_45) rfl (XT.ii_eq_t hc45_148) (by decide) (by decide) ?_
                    refine XS.iconst X0.here hx rfl (hb hby d21_60) ?_
                    refine XS.goto X0.here hx rfl (pc0 := 61) (pc' := 65) rfl (hb hby d21_61) (by decide) (by decide) ?_
                    exact k)
                  obtain ⟨fs, hr, hrun, hended, hW, hsame⟩ := X0.leave (v := some (.int (1 : Int32))) (fun h => by rw [Bd.returns] at h; cases h)
                  have fin : Steps p.tables e below S0 (s₁.setFrames fs) := P149 _ (retN X0 hx (t := .boolean) Bd.returns (by simp) (hb hby d21_65) hr)
                  rw [hS0] at fin
                  refine ⟨_, _, fin, hrun, hended, _, _, rfl, ?_, ⟨_, rfl⟩, hW, hsame.mono (by decide) (by decide)⟩
                  show own_QI h0 n0 (own_f21 p1) _ s₁.heap _
                  rw [e0]
                  exact ⟨_, rfl, (by unfold own_f21; rw [if_neg hc3_22, if_pos hc9_91, if_neg hc15_93, if_pos hc21_126, if_neg hc27_128, if_pos hc33_143, if_neg hc39_145, if_pos hc45_148]), N0, rfl⟩
                · have P150 : own_Pr p.tables e below S0 s₁ (mkF m 51 #[.val (.int p1)] [(.int (58 : Int32)), (.int p1)]) := fun t k => P147 t (by
                    refine XS.icmpNo X0.here hx rfl (hb hby d21_45) rfl (XT.ii_eq_f hc45_148) ?_
                    refine XS.iloadN X0.here hx rfl (hb hby d21_48) rfl ?_
                    refine XS.bipush X0.here hx rfl (hb hby d21_49) ?_
                    exact k)
                  by_cases hc51_151 : p1 = (58 : Int32)
                  · have P152 : own_Pr p.tables e below S0 s₁ (mkF m 65 #[.val (.int p1)] [(.int (1 : Int32))]) := fun t k => P150 t (by
                      refine XS.icmpYes X0.here hx rfl (pc0 := 51) (pc' := 60) rfl (hb hby d21_51) rfl (XT.ii_eq_t hc51_151) (by decide) (by decide) ?_
                      refine XS.iconst X0.here hx rfl (hb hby d21_60) ?_
                      refine XS.goto X0.here hx rfl (pc0 := 61) (pc' := 65) rfl (hb hby d21_61) (by decide) (by decide) ?_
                      exact k)
                    obtain ⟨fs, hr, hrun, hended, hW, hsame⟩ := X0.leave (v := some (.int (1 : Int32))) (fun h => by rw [Bd.returns] at h; cases h)
                    have fin : Steps p.tables e below S0 (s₁.setFrames fs) := P152 _ (retN X0 hx (t := .boolean) Bd.returns (by simp) (hb hby d21_65) hr)
                    rw [hS0] at fin
                    refine ⟨_, _, fin, hrun, hended, _, _, rfl, ?_, ⟨_, rfl⟩, hW, hsame.mono (by decide) (by decide)⟩
                    show own_QI h0 n0 (own_f21 p1) _ s₁.heap _
                    rw [e0]
                    exact ⟨_, rfl, (by unfold own_f21; rw [if_neg hc3_22, if_pos hc9_91, if_neg hc15_93, if_pos hc21_126, if_neg hc27_128, if_pos hc33_143, if_neg hc39_145, if_neg hc45_148, if_pos hc51_151]), N0, rfl⟩
                  · have P153 : own_Pr p.tables e below S0 s₁ (mkF m 57 #[.val (.int p1)] [(.int (46 : Int32)), (.int p1)]) := fun t k => P150 t (by
                      refine XS.icmpNo X0.here hx rfl (hb hby d21_51) rfl (XT.ii_eq_f hc51_151) ?_
                      refine XS.iloadN X0.here hx rfl (hb hby d21_54) rfl ?_
                      refine XS.bipush X0.here hx rfl (hb hby d21_55) ?_
                      exact k)
                    by_cases hc57_154 : p1 = (46 : Int32)
                    · have P155 : own_Pr p.tables e below S0 s₁ (mkF m 65 #[.val (.int p1)] [(.int (1 : Int32))]) := fun t k => P153 t (by
                        refine XS.icmpNo X0.here hx rfl (hb hby d21_57) rfl (XT.ii_ne_f hc57_154) ?_
                        refine XS.iconst X0.here hx rfl (hb hby d21_60) ?_
                        refine XS.goto X0.here hx rfl (pc0 := 61) (pc' := 65) rfl (hb hby d21_61) (by decide) (by decide) ?_
                        exact k)
                      obtain ⟨fs, hr, hrun, hended, hW, hsame⟩ := X0.leave (v := some (.int (1 : Int32))) (fun h => by rw [Bd.returns] at h; cases h)
                      have fin : Steps p.tables e below S0 (s₁.setFrames fs) := P155 _ (retN X0 hx (t := .boolean) Bd.returns (by simp) (hb hby d21_65) hr)
                      rw [hS0] at fin
                      refine ⟨_, _, fin, hrun, hended, _, _, rfl, ?_, ⟨_, rfl⟩, hW, hsame.mono (by decide) (by decide)⟩
                      show own_QI h0 n0 (own_f21 p1) _ s₁.heap _
                      rw [e0]
                      exact ⟨_, rfl, (by unfold own_f21; rw [if_neg hc3_22, if_pos hc9_91, if_neg hc15_93, if_pos hc21_126, if_neg hc27_128, if_pos hc33_143, if_neg hc39_145, if_neg hc45_148, if_neg hc51_151, if_pos hc57_154]), N0, rfl⟩
                    · have P156 : own_Pr p.tables e below S0 s₁ (mkF m 65 #[.val (.int p1)] [(.int (0 : Int32))]) := fun t k => P153 t (by
                        refine XS.icmpYes X0.here hx rfl (pc0 := 57) (pc' := 64) rfl (hb hby d21_57) rfl (XT.ii_ne_t hc57_154) (by decide) (by decide) ?_
                        refine XS.iconst X0.here hx rfl (hb hby d21_64) ?_
                        exact k)
                      obtain ⟨fs, hr, hrun, hended, hW, hsame⟩ := X0.leave (v := some (.int (0 : Int32))) (fun h => by rw [Bd.returns] at h; cases h)
                      have fin : Steps p.tables e below S0 (s₁.setFrames fs) := P156 _ (retN X0 hx (t := .boolean) Bd.returns (by simp) (hb hby d21_65) hr)
                      rw [hS0] at fin
                      refine ⟨_, _, fin, hrun, hended, _, _, rfl, ?_, ⟨_, rfl⟩, hW, hsame.mono (by decide) (by decide)⟩
                      show own_QI h0 n0 (own_f21 p1) _ s₁.heap _
                      rw [e0]
                      exact ⟨_, rfl, (by unfold own_f21; rw [if_neg hc3_22, if_pos hc9_91, if_neg hc15_93, if_pos hc21_126, if_neg hc27_128, if_pos hc33_143, if_neg hc39_145, if_neg hc45_148, if_neg hc51_151, if_neg hc57_154]), N0, rfl⟩
            · have P157 : own_Pr p.tables e below S0 s₁ (mkF m 65 #[.val (.int p1)] [(.int (1 : Int32))]) := fun t k => P142 t (by
                refine XS.icmpYes X0.here hx rfl (pc0 := 33) (pc' := 60) rfl (hb hby d21_33) rfl (XT.ii_le_t hc33_143) (by decide) (by decide) ?_
                refine XS.iconst X0.here hx rfl (hb hby d21_60) ?_
                refine XS.goto X0.here hx rfl (pc0 := 61) (pc' := 65) rfl (hb hby d21_61) (by decide) (by decide) ?_
                exact k)
              obtain ⟨fs, hr, hrun, hended, hW, hsame⟩ := X0.leave (v := some (.int (1 : Int32))) (fun h => by rw [Bd.returns] at h; cases h)
              have fin : Steps p.tables e below S0 (s₁.setFrames fs) := P157 _ (retN X0 hx (t := .boolean) Bd.returns (by simp) (hb hby d21_65) hr)
              rw [hS0] at fin
              refine ⟨_, _, fin, hrun, hended, _, _, rfl, ?_, ⟨_, rfl⟩, hW, hsame.mono (by decide) (by decide)⟩
              show own_QI h0 n0 (own_f21 p1) _ s₁.heap _
              rw [e0]
              exact ⟨_, rfl, (by unfold own_f21; rw [if_neg hc3_22, if_pos hc9_91, if_neg hc15_93, if_pos hc21_126, if_neg hc27_128, if_neg hc33_143]), N0, rfl⟩
        · have P158 : own_Pr p.tables e below S0 s₁ (mkF m 65 #[.val (.int p1)] [(.int (1 : Int32))]) := fun t k => P125 t (by
            refine XS.icmpYes X0.here hx rfl (pc0 := 21) (pc' := 60) rfl (hb hby d21_21) rfl (XT.ii_le_t hc21_126) (by decide) (by decide) ?_
            refine XS.iconst X0.here hx rfl (hb hby d21_60) ?_
            refine XS.goto X0.here hx rfl (pc0 := 61) (pc' := 65) rfl (hb hby d21_61) (by decide) (by decide) ?_
            exact k)
          obtain ⟨fs, hr, hrun, hended, hW, hsame⟩ := X0.leave (v := some (.int (1 : Int32))) (fun h => by rw [Bd.returns] at h; cases h)
          have fin : Steps p.tables e below S0 (s₁.setFrames fs) := P158 _ (retN X0 hx (t := .boolean) Bd.returns (by simp) (hb hby d21_65) hr)
          rw [hS0] at fin
          refine ⟨_, _, fin, hrun, hended, _, _, rfl, ?_, ⟨_, rfl⟩, hW, hsame.mono (by decide) (by decide)⟩
          show own_QI h0 n0 (own_f21 p1) _ s₁.heap _
          rw [e0]
          exact ⟨_, rfl, (by unfold own_f21; rw [if_neg hc3_22, if_pos hc9_91, if_neg hc15_93, if_neg hc21_126]), N0, rfl⟩
    · have P159 : own_Pr p.tables e below S0 s₁ (mkF m 65 #[.val (.int p1)] [(.int (1 : Int32))]) := fun t k => P90 t (by
        refine XS.icmpYes X0.here hx rfl (pc0 := 9) (pc' := 60) rfl (hb hby d21_9) rfl (XT.ii_le_t hc9_91) (by decide) (by decide) ?_
        refine XS.iconst X0.here hx rfl (hb hby d21_60) ?_
        refine XS.goto X0.here hx rfl (pc0 := 61) (pc' := 65) rfl (hb hby d21_61) (by decide) (by decide) ?_
        exact k)
      obtain ⟨fs, hr, hrun, hended, hW, hsame⟩ := X0.leave (v := some (.int (1 : Int32))) (fun h => by rw [Bd.returns] at h; cases h)
      have fin : Steps p.tables e below S0 (s₁.setFrames fs) := P159 _ (retN X0 hx (t := .boolean) Bd.returns (by simp) (hb hby d21_65) hr)
      rw [hS0] at fin
      refine ⟨_, _, fin, hrun, hended, _, _, rfl, ?_, ⟨_, rfl⟩, hW, hsame.mono (by decide) (by decide)⟩
      show own_QI h0 n0 (own_f21 p1) _ s₁.heap _
      rw [e0]
      exact ⟨_, rfl, (by unfold own_f21; rw [if_neg hc3_22, if_neg hc9_91]), N0, rfl⟩
theorem d24_0 : decode jdk_41_method_12_code 0 = .ok (.iload_n 0, 1) := by decide +kernel
theorem d24_1 : decode jdk_41_method_12_code 1 = .ok (.ifCond .lt 13, 3) := by decide +kernel
theorem d24_4 : decode jdk_41_method_12_code 4 = .ok (.iload_n 0, 1) := by decide +kernel
theorem d24_5 : decode jdk_41_method_12_code 5 = .ok (.iload_n 1, 1) := by decide +kernel
theorem d24_6 : decode jdk_41_method_12_code 6 = .ok (.if_icmp .gt 8, 3) := by decide +kernel
theorem d24_9 : decode jdk_41_method_12_code 9 = .ok (.iload_n 1, 1) := by decide +kernel
theorem d24_10 : decode jdk_41_method_12_code 10 = .ok (.iload_n 2, 1) := by decide +kernel
theorem d24_11 : decode jdk_41_method_12_code 11 = .ok (.if_icmp .le 11, 3) := by decide +kernel
theorem d24_22 : decode jdk_41_method_12_code 22 = .ok (.iload_n 0, 1) := by decide +kernel
theorem d24_23 : decode jdk_41_method_12_code 23 = .ok (.ireturn, 1) := by decide +kernel
theorem ef_24 (m : MethodId) (p1 : Int32) (p2 : Int32) (p3 : Int32) (fm : Value) (hr_fm : fm.isRef = true) : entryFrame m #[(.int p1), (.int p2), (.int p3), fm] 4 = mkF m 0 #[.val (.int p1), .val (.int p2), .val (.int p3), .val fm] [] := by
  cases fm
  all_goals first | (simp [Value.isRef] at hr_fm; done) | rfl | (simp [entryFrame, mkF, argsToLocals, Value.category]; done)
def own_f24 (p1 : Int32) : Int32 := p1
set_option maxRecDepth 65536 in
set_option maxHeartbeats 40000000 in
theorem rm24 (l : Launch) (Z : State) (a0 : Array Value) (hw : ∀ d ∈ tables_1, d.before a0 Z = true) (ws : List Jvm.Cond) (p1 : Int32) (p2 : Int32) (p3 : Int32) (fm : Value)  (h0 : Heap) (n0 : Nat) (Z0 : n0 ≤ h0.size) (hr_fm : fm.isRef = true) (h1 : ¬ p1 < (0 : Int32)) (h2 : ¬ p2 < p1) (h3 : ¬ p3 < p2) :
    MetFree l (⟨"jdk/internal/util/Preconditions", "checkFromToIndex", "(IIILjava/util/function/BiFunction;)I"⟩ : MethodName) (head1 (Jvm.Cond.code (⟨"jdk/internal/util/Preconditions", "checkFromToIndex", "(IIILjava/util/function/BiFunction;)I"⟩ : MethodName) jdk_41_method_12_code 4 (some .int) :: ws) ({ frames := 0, cells := 0, slots := 0, locals := 0 } : Room)) (fun a U => a = #[(.int p1), (.int p2), (.int p3), fm] ∧ Z.Warmed39 U.vm ∧ U.heap = h0) (fun _ _ _ _ _ => True) (fun _ U o U' => ∃ v L, o = .returned v ∧ own_QI h0 n0 (own_f24 p1) v U'.heap L ∧ FrameEnd U o U' L ({ frames := 0, cells := 0, slots := 0, locals := 0 } : Room).cells ({ frames := 0, cells := 0, slots := 0, locals := 0 } : Room).slots) := by
  refine MetFree.of_bodySF (plainFor_of_name pn_19) hisR ?_
  intro p e s m args below meth c s₁ Bd hml0 hP hK
  obtain ⟨rfl, hZ, hh⟩ := hP
  have hx := Bd.exec
  have hby := Bd.bytes
  have hml : c.maxLocals = 4 := hml0
  have hown : s.vm.findClass "jdk/internal/util/Preconditions" = some m.cls := findClass_of_methodNamed Bd.named
  have hnm := (name_of_methodNamed Bd.named Bd.method).1
  have X0 : Stand p l e ({ frames := 0, cells := 0, slots := 0, locals := 0 } : Room) s m #[(.int p1), (.int p2), (.int p3), fm] below meth c s₁ [] 0 0 := Stand.of_body Bd
  have e0 : s₁.heap = h0 := by rw [← hh, Bd.state]; rfl
  have N0 := Fr.nil n0
  obtain ⟨S0, hS0⟩ : ∃ z, z = s₁.setTop (entryFrame m #[(.int p1), (.int p2), (.int p3), fm] 4) := ⟨_, rfl⟩
  have P0 : own_Pr p.tables e below S0 s₁ (mkF m 0 #[.val (.int p1), .val (.int p2), .val (.int p3), .val fm] []) := fun t k => hS0 ▸ castTop (ef_24 m p1 p2 p3 fm hr_fm) k
  have P21 : own_Pr p.tables e below S0 s₁ (mkF m 23 #[.val (.int p1), .val (.int p2), .val (.int p3), .val fm] [(.int p1)]) := fun t k => P0 t (by
    refine XS.iloadN X0.here hx rfl (hb hby d24_0) rfl ?_
    refine XS.ifNo X0.here hx rfl (hb hby d24_1) rfl (XT.i0_lt_f h1) ?_
    refine XS.iloadN X0.here hx rfl (hb hby d24_4) rfl ?_
    refine XS.iloadN X0.here hx rfl (hb hby d24_5) rfl ?_
    refine XS.icmpNo X0.here hx rfl (hb hby d24_6) rfl (XT.ii_gt_f h2) ?_
    refine XS.iloadN X0.here hx rfl (hb hby d24_9) rfl ?_
    refine XS.iloadN X0.here hx rfl (hb hby d24_10) rfl ?_
    refine XS.icmpYes X0.here hx rfl (pc0 := 11) (pc' := 22) rfl (hb hby d24_11) rfl (XT.ii_le_t h3) (by decide) (by decide) ?_
    show Steps p.tables e below (s₁.setTop (mkF m 22 #[.val (.int p1), .val (.int p2), .val (.int p3), .val fm] [])) _
    refine XS.iloadN X0.here hx rfl (hb hby d24_22) rfl ?_
    exact k)
  obtain ⟨fs, hr, hrun, hended, hW, hsame⟩ := X0.leave (v := some (.int p1)) (fun h => by rw [Bd.returns] at h; cases h)
  have fin : Steps p.tables e below S0 (s₁.setFrames fs) := P21 _ (retI X0 hx Bd.returns (hb hby d24_23) hr)
  rw [hS0] at fin
  refine ⟨_, _, fin, hrun, hended, _, _, rfl, ?_, ⟨_, rfl⟩, hW, hsame.mono (by decide) (by decide)⟩
  show own_QI h0 n0 (own_f24 p1) _ s₁.heap _
  rw [e0]
  exact ⟨_, rfl, (by unfold own_f24; rfl), N0, rfl⟩
theorem d23_0 : decode jdk_42_method_158_code 0 = .ok (.iload_n 0, 1) := by decide +kernel
theorem d23_1 : decode jdk_42_method_158_code 1 = .ok (.iload_n 1, 1) := by decide +kernel
theorem d23_2 : decode jdk_42_method_158_code 2 = .ok (.iload_n 2, 1) := by decide +kernel
theorem d23_3 : decode jdk_42_method_158_code 3 = .ok (.getstatic 1053, 3) := by decide +kernel
theorem d23_6 : decode jdk_42_method_158_code 6 = .ok (.invokestatic 1062, 3) := by decide +kernel
theorem d23_9 : decode jdk_42_method_158_code 9 = .ok (.pop, 1) := by decide +kernel
theorem d23_10 : decode jdk_42_method_158_code 10 = .ok (.return_, 1) := by decide +kernel
theorem pd_11 : parseMethodDescriptor "(IIILjava/util/function/BiFunction;)I" = some ⟨[.int, .int, .int, (.object "java/util/function/BiFunction")], some .int⟩ := by decide +kernel
theorem ef_23 (m : MethodId) (p1 : Int32) (p2 : Int32) (p3 : Int32) : entryFrame m #[(.int p1), (.int p2), (.int p3)] 3 = mkF m 0 #[.val (.int p1), .val (.int p2), .val (.int p3)] [] := by first | (simp [entryFrame, mkF, argsToLocals, Value.category]; done) | rfl
set_option maxRecDepth 65536 in
set_option maxHeartbeats 40000000 in
theorem rm23 (l : Launch) (Z : State) (a0 : Array Value) (hw : ∀ d ∈ tables_1, d.before a0 Z = true) (ws : List Jvm.Cond) (p1 : Int32) (p2 : Int32) (p3 : Int32) (fm : Value) (h0 : Heap) (n0 : Nat) (Z0 : n0 ≤ h0.size) (FM : Sta Z h0 "jdk/internal/util/Preconditions" "SIOOBE_FORMATTER" "Ljava/util/function/BiFunction;" fm) (hr_fm : fm.isRef = true) (h1 : ¬ p1 < (0 : Int32)) (h2 : ¬ p2 < p1) (h3 : ¬ p3 < p2) :
    MetFree l (⟨"java/lang/String", "checkBoundsBeginEnd", "(III)V"⟩ : MethodName) (head1 (Jvm.Cond.code (⟨"java/lang/String", "checkBoundsBeginEnd", "(III)V"⟩ : MethodName) jdk_42_method_158_code 3 none :: ws) ({ frames := 1, cells := 0, slots := 0, locals := 15 } : Room)) (fun a U => a = #[(.int p1), (.int p2), (.int p3)] ∧ Z.Warmed39 U.vm ∧ U.heap = h0) (fun _ _ _ _ _ => True) (fun _ U o U' => ∃ v L, o = .returned v ∧ own_QV h0 n0 v U'.heap L ∧ FrameEnd U o U' L ({ frames := 1, cells := 0, slots := 0, locals := 15 } : Room).cells ({ frames := 1, cells := 0, slots := 0, locals := 15 } : Room).slots) := by
  refine MetFree.of_bodySF (plainFor_of_name pn_14) hisR ?_
  intro p e s m args below meth c s₁ Bd hml0 hP hK
  obtain ⟨rfl, hZ, hh⟩ := hP
  have hx := Bd.exec
  have hby := Bd.bytes
  have hml : c.maxLocals = 3 := hml0
  have hown : s.vm.findClass "java/lang/String" = some m.cls := findClass_of_methodNamed Bd.named
  have hnm := (name_of_methodNamed Bd.named Bd.method).1
  have X0 : Stand p l e ({ frames := 1, cells := 0, slots := 0, locals := 15 } : Room) s m #[(.int p1), (.int p2), (.int p3)] below meth c s₁ [] 0 0 := Stand.of_body Bd
  have e0 : s₁.heap = h0 := by rw [← hh, Bd.state]; rfl
  have N0 := Fr.nil n0
  obtain ⟨S0, hS0⟩ : ∃ z, z = s₁.setTop (entryFrame m #[(.int p1), (.int p2), (.int p3)] 3) := ⟨_, rfl⟩
  have P0 : own_Pr p.tables e below S0 s₁ (mkF m 0 #[.val (.int p1), .val (.int p2), .val (.int p3)] []) := fun t k => hS0 ▸ castTop (ef_23 m p1 p2 p3) k
  have P21 : own_Pr p.tables e below S0 s₁ (mkF m 3 #[.val (.int p1), .val (.int p2), .val (.int p3)] [(.int p3), (.int p2), (.int p1)]) := fun t k => P0 t (by
    refine XS.iloadN X0.here hx rfl (hb hby d23_0) rfl ?_
    refine XS.iloadN X0.here hx rfl (hb hby d23_1) rfl ?_
    refine XS.iloadN X0.here hx rfl (hb hby d23_2) rfl ?_
    exact k)
  obtain ⟨T22, X22, e22, st22⟩ := getS2 X0 hx hZ hown (host := "") (Or.inl (hw _ (List.mem_of_getElem? (i := 80) rfl))) Via.refl e0 FM (g := (mkF m 3 #[.val (.int p1), .val (.int p2), .val (.int p3)] [(.int p3), (.int p2), (.int p1)])) rfl (hb hby d23_3)
  have P23 : own_Pr p.tables e below S0 T22 (mkF m 6 #[.val (.int p1), .val (.int p2), .val (.int p3)] [fm, (.int p3), (.int p2), (.int p1)]) := fun t k => P21 t (st22 _ k)
  obtain ⟨_, _, ⟨T24, L24, k24, n24⟩, -, X24, ⟨Lc24, hQ24, l24, y24, z24⟩, st24⟩ := Jvm.LawKit.callS X22 hx (y := (⟨"jdk/internal/util/Preconditions", "checkFromToIndex", "(IIILjava/util/function/BiFunction;)I"⟩ : MethodName)) hown (mvT hZ (hw _ (List.mem_of_getElem? (i := 102) rfl))) (mvT hZ (hw _ (List.mem_of_getElem? (i := 103) rfl))) (mvT hZ (hw _ (List.mem_of_getElem? (i := 81) rfl))) (mvT hZ (hw _ (List.mem_of_getElem? (i := 104) rfl))) (by decide) (backOf (W := 0) (rm24 l Z a0 hw [] p1 p2 p3 fm h0 n0 Z0 hr_fm h1 h2 h3) hZ (hw _ (List.mem_of_getElem? (i := 104) rfl)) (hw _ (List.mem_of_getElem? (i := 81) rfl)) (by decide) (by decide)) (g := (mkF m 6 #[.val (.int p1), .val (.int p2), .val (.int p3)] [fm, (.int p3), (.int p2), (.int p1)])) rfl (by rw [hml]; rfl) (argsL := [(.int p1), (.int p2), (.int p3), fm]) (rest := []) (lenOf pd_11 rfl) rfl (by show 2 * 0 + _ ≤ _; exact Nat.le_of_eq rfl) (hb hby d23_6) (fun _ _ => ⟨rfl, e22, (by decide : 0 + 0 ≤ _), (by decide : 0 + 0 ≤ _)⟩)
  dsimp only [Pt.U, Pt.locs, Pt.cells, Pt.slots] at X24 l24 y24 z24 st24 hQ24
  rw [l24, y24, z24] at X24
  have X24 := X24.mono (cells' := 0) (slots' := 0) (by decide) (by decide)
  obtain ⟨z24v, rfl, hz24v, Nq24, eq24⟩ := hQ24
  have N24n := Fr.app N0 Nq24
  have P25 : own_Pr p.tables e below S0 T24 (mkF m 9 #[.val (.int p1), .val (.int p2), .val (.int p3)] [(.int z24v)]) := fun t k => P23 t (st24 _ k)
  have P26 : own_Pr p.tables e below S0 T24 (mkF m 10 #[.val (.int p1), .val (.int p2), .val (.int p3)] []) := fun t k => P25 t (by
    refine XS.pop X24.here hx rfl (hb hby d23_9) rfl rfl ?_
    exact k)
  obtain ⟨fs, hr, hrun, hended, hW, hsame⟩ := X24.leave (v := none) (fun _ => rfl)
  have fin : Steps p.tables e below S0 (T24.setFrames fs) := P26 _ (X24.returnOut hx Bd.returns (hb hby d23_10) hr)
  rw [hS0] at fin
  refine ⟨_, _, fin, hrun, hended, _, _, rfl, ?_, ⟨_, rfl⟩, hW, hsame.mono (by decide) (by decide)⟩
  show own_QV h0 n0 _ T24.heap _
  rw [eq24]
  exact ⟨rfl, N24n, rfl⟩
theorem d29_0 : decode jdk_29_method_69_code 0 = .ok (.iload_n 0, 1) := by decide +kernel
theorem d29_1 : decode jdk_29_method_69_code 1 = .ok (.iload_n 1, 1) := by decide +kernel
theorem d29_2 : decode jdk_29_method_69_code 2 = .ok (.if_icmp .gt 7, 3) := by decide +kernel
theorem d29_5 : decode jdk_29_method_69_code 5 = .ok (.iload_n 0, 1) := by decide +kernel
theorem d29_6 : decode jdk_29_method_69_code 6 = .ok (.goto 4, 3) := by decide +kernel
theorem d29_9 : decode jdk_29_method_69_code 9 = .ok (.iload_n 1, 1) := by decide +kernel
theorem d29_10 : decode jdk_29_method_69_code 10 = .ok (.ireturn, 1) := by decide +kernel
theorem ef_29 (m : MethodId) (p1 : Int32) (p2 : Int32) : entryFrame m #[(.int p1), (.int p2)] 2 = mkF m 0 #[.val (.int p1), .val (.int p2)] [] := by first | (simp [entryFrame, mkF, argsToLocals, Value.category]; done) | rfl
def own_f29 (p1 : Int32) (p2 : Int32) : Int32 := (if p2 < p1 then p2 else p1)
set_option maxRecDepth 65536 in
set_option maxHeartbeats 40000000 in
theorem rm29 (l : Launch) (Z : State) (a0 : Array Value) (hw : ∀ d ∈ tables_1, d.before a0 Z = true) (ws : List Jvm.Cond) (p1 : Int32) (p2 : Int32)  (h0 : Heap) (n0 : Nat) (Z0 : n0 ≤ h0.size) :
    MetFree l (⟨"java/lang/Math", "min", "(II)I"⟩ : MethodName) (head1 (Jvm.Cond.code (⟨"java/lang/Math", "min", "(II)I"⟩ : MethodName) jdk_29_method_69_code 2 (some .int) :: ws) ({ frames := 0, cells := 0, slots := 0, locals := 0 } : Room)) (fun a U => a = #[(.int p1), (.int p2)] ∧ Z.Warmed39 U.vm ∧ U.heap = h0) (fun _ _ _ _ _ => True) (fun _ U o U' => ∃ v L, o = .returned v ∧ own_QI h0 n0 (own_f29 p1 p2) v U'.heap L ∧ FrameEnd U o U' L ({ frames := 0, cells := 0, slots := 0, locals := 0 } : Room).cells ({ frames := 0, cells := 0, slots := 0, locals := 0 } : Room).slots) := by
  refine MetFree.of_bodySF (Jvm.Free.JP.mathPlain rfl (by decide +kernel)) hisR ?_
  intro p e s m args below meth c s₁ Bd hml0 hP hK
  obtain ⟨rfl, hZ, hh⟩ := hP
  have hx := Bd.exec
  have hby := Bd.bytes
  have hml : c.maxLocals = 2 := hml0
  have hown : s.vm.findClass "java/lang/Math" = some m.cls := findClass_of_methodNamed Bd.named
  have hnm := (name_of_methodNamed Bd.named Bd.method).1
  have X0 : Stand p l e ({ frames := 0, cells := 0, slots := 0, locals := 0 } : Room) s m #[(.int p1), (.int p2)] below meth c s₁ [] 0 0 := Stand.of_body Bd
  have e0 : s₁.heap = h0 := by rw [← hh, Bd.state]; rfl
  have N0 := Fr.nil n0
  obtain ⟨S0, hS0⟩ : ∃ z, z = s₁.setTop (entryFrame m #[(.int p1), (.int p2)] 2) := ⟨_, rfl⟩
  have P0 : own_Pr p.tables e below S0 s₁ (mkF m 0 #[.val (.int p1), .val (.int p2)] []) := fun t k => hS0 ▸ castTop (ef_29 m p1 p2) k
  have P21 : own_Pr p.tables e below S0 s₁ (mkF m 2 #[.val (.int p1), .val (.int p2)] [(.int p2), (.int p1)]) := fun t k => P0 t (by
    refine XS.iloadN X0.here hx rfl (hb hby d29_0) rfl ?_
    refine XS.iloadN X0.here hx rfl (hb hby d29_1) rfl ?_
    exact k)
  by_cases hc2_22 : p2 < p1
  · have P23 : own_Pr p.tables e below S0 s₁ (mkF m 10 #[.val (.int p1), .val (.int p2)] [(.int p2)]) := fun t k => P21 t (by
      refine XS.icmpYes X0.here hx rfl (pc0 := 2) (pc' := 9) rfl (hb hby d29_2) rfl (XT.ii_gt_t hc2_22) (by decide) (by decide) ?_
      refine XS.iloadN X0.here hx rfl (hb hby d29_9) rfl ?_
      exact k)
    obtain ⟨fs, hr, hrun, hended, hW, hsame⟩ := X0.leave (v := some (.int p2)) (fun h => by rw [Bd.returns] at h; cases h)
    have fin : Steps p.tables e below S0 (s₁.setFrames fs) := P23 _ (retI X0 hx Bd.returns (hb hby d29_10) hr)
    rw [hS0] at fin
    refine ⟨_, _, fin, hrun, hended, _, _, rfl, ?_, ⟨_, rfl⟩, hW, hsame.mono (by decide) (by decide)⟩
    show own_QI h0 n0 (own_f29 p1 p2) _ s₁.heap _
    rw [e0]
    exact ⟨_, rfl, (by unfold own_f29; rw [if_pos hc2_22]), N0, rfl⟩
  · have P24 : own_Pr p.tables e below S0 s₁ (mkF m 10 #[.val (.int p1), .val (.int p2)] [(.int p1)]) := fun t k => P21 t (by
      refine XS.icmpNo X0.here hx rfl (hb hby d29_2) rfl (XT.ii_gt_f hc2_22) ?_
      refine XS.iloadN X0.here hx rfl (hb hby d29_5) rfl ?_
      refine XS.goto X0.here hx rfl (pc0 := 6) (pc' := 10) rfl (hb hby d29_6) (by decide) (by decide) ?_
      exact k)
    obtain ⟨fs, hr, hrun, hended, hW, hsame⟩ := X0.leave (v := some (.int p1)) (fun h => by rw [Bd.returns] at h; cases h)
    have fin : Steps p.tables e below S0 (s₁.setFrames fs) := P24 _ (retI X0 hx Bd.returns (hb hby d29_10) hr)
    rw [hS0] at fin
    refine ⟨_, _, fin, hrun, hended, _, _, rfl, ?_, ⟨_, rfl⟩, hW, hsame.mono (by decide) (by decide)⟩
    show own_QI h0 n0 (own_f29 p1 p2) _ s₁.heap _
    rw [e0]
    exact ⟨_, rfl, (by unfold own_f29; rw [if_neg hc2_22]), N0, rfl⟩
theorem d28_0 : decode jdk_65_method_131_code 0 = .ok (.iload_n 1, 1) := by decide +kernel
theorem d28_1 : decode jdk_65_method_131_code 1 = .ok (.iload_n 0, 1) := by decide +kernel
theorem d28_2 : decode jdk_65_method_131_code 2 = .ok (.if_icmp .ge 35, 3) := by decide +kernel
theorem d28_37 : decode jdk_65_method_131_code 37 = .ok (.return_, 1) := by decide +kernel
theorem pn_28 : plainName "java/util/Arrays" = true := by first | (simp [plainName, overriddenIn]; done) | decide +kernel
theorem ef_28 (m : MethodId) (p1 : Int32) (p2 : Int32) : entryFrame m #[(.int p1), (.int p2)] 2 = mkF m 0 #[.val (.int p1), .val (.int p2)] [] := by first | (simp [entryFrame, mkF, argsToLocals, Value.category]; done) | rfl
set_option maxRecDepth 65536 in
set_option maxHeartbeats 40000000 in
theorem rm28 (l : Launch) (Z : State) (a0 : Array Value) (hw : ∀ d ∈ tables_1, d.before a0 Z = true) (ws : List Jvm.Cond) (p1 : Int32) (p2 : Int32)  (h0 : Heap) (n0 : Nat) (Z0 : n0 ≤ h0.size) (h1 : ¬ p2 < p1) :
    MetFree l (⟨"java/util/Arrays", "checkLength", "(II)V"⟩ : MethodName) (head1 (Jvm.Cond.code (⟨"java/util/Arrays", "checkLength", "(II)V"⟩ : MethodName) jdk_65_method_131_code 2 none :: ws) ({ frames := 0, cells := 0, slots := 0, locals := 0 } : Room)) (fun a U => a = #[(.int p1), (.int p2)] ∧ Z.Warmed39 U.vm ∧ U.heap = h0) (fun _ _ _ _ _ => True) (fun _ U o U' => ∃ v L, o = .returned v ∧ own_QV h0 n0 v U'.heap L ∧ FrameEnd U o U' L ({ frames := 0, cells := 0, slots := 0, locals := 0 } : Room).cells ({ frames := 0, cells := 0, slots := 0, locals := 0 } : Room).slots) := by
  refine MetFree.of_bodySF (plainFor_of_name pn_28) hisR ?_
  intro p e s m args below meth c s₁ Bd hml0 hP hK
  obtain ⟨rfl, hZ, hh⟩ := hP
  have hx := Bd.exec
  have hby := Bd.bytes
  have hml : c.maxLocals = 2 := hml0
  have hown : s.vm.findClass "java/util/Arrays" = some m.cls := findClass_of_methodNamed Bd.named
  have hnm := (name_of_methodNamed Bd.named Bd.method).1
  have X0 : Stand p l e ({ frames := 0, cells := 0, slots := 0, locals := 0 } : Room) s m #[(.int p1), (.int p2)] below meth c s₁ [] 0 0 := Stand.of_body Bd
  have e0 : s₁.heap = h0 := by rw [← hh, Bd.state]; rfl
  have N0 := Fr.nil n0
  obtain ⟨S0, hS0⟩ : ∃ z, z = s₁.setTop (entryFrame m #[(.int p1), (.int p2)] 2) := ⟨_, rfl⟩
  have P0 : own_Pr p.tables e below S0 s₁ (mkF m 0 #[.val (.int p1), .val (.int p2)] []) := fun t k => hS0 ▸ castTop (ef_28 m p1 p2) k
  have P21 : own_Pr p.tables e below S0 s₁ (mkF m 37 #[.val (.int p1), .val (.int p2)] []) := fun t k => P0 t (by
    refine XS.iloadN X0.here hx rfl (hb hby d28_0) rfl ?_
    refine XS.iloadN X0.here hx rfl (hb hby d28_1) rfl ?_
    refine XS.icmpYes X0.here hx rfl (pc0 := 2) (pc' := 37) rfl (hb hby d28_2) rfl (XT.ii_ge_t h1) (by decide) (by decide) ?_
    exact k)
  obtain ⟨fs, hr, hrun, hended, hW, hsame⟩ := X0.leave (v := none) (fun _ => rfl)
  have fin : Steps p.tables e below S0 (s₁.setFrames fs) := P21 _ (X0.returnOut hx Bd.returns (hb hby d28_37) hr)
  rw [hS0] at fin
  refine ⟨_, _, fin, hrun, hended, _, _, rfl, ?_, ⟨_, rfl⟩, hW, hsame.mono (by decide) (by decide)⟩
  show own_QV h0 n0 _ s₁.heap _
  rw [e0]
  exact ⟨rfl, N0, rfl⟩
theorem own_min_r {a b z : Int32} (h : ¬ a < b) (hz : z = own_f29 a b) : z = b := by
  rw [hz]; unfold own_f29
  by_cases q : b < a
  · rw [if_pos q]
  · rw [if_neg q]; rw [Int32.lt_iff_toInt_lt] at h q; exact Int32.toInt_inj.mp (by omega)
/-- a copied stretch: ys is the stretch of xs from p on, of n signs -/
def own_cut (xs ys : List Int32) (p n : Int32) : Prop := ∀ j : Nat, j < n.toNatClampNeg → ys.getD j 0 = xs.getD (p.toNatClampNeg + j) 0
def own_QX (Z : State) (xs : List Int32) (p n : Int32) (h0 : Heap) (n0 : Nat) (v : Option Value) (h : Heap) (L : List Loc) : Prop := ∃ (b : Addr) (kk : ClassId) (ys : List Int32), v = some (.ref b) ∧ Fr n0 L ∧ Keep h0 h [] ∧ h0.size ≤ b ∧ Arv Z h b kk .byte n (ys.map Value.int) (.int 0) ∧ own_cut xs ys p n
def own_QU (Z : State) (xs : List Int32) (p n : Int32) (h0 : Heap) (n0 : Nat) (v : Option Value) (h : Heap) (L : List Loc) : Prop := ∃ (a : Addr) (ys : List Int32), v = some (.ref a) ∧ Fr n0 L ∧ Keep h0 h [] ∧ own_Sc Z h a n ys ∧ own_cut xs ys p n
theorem own_stretch {xs : List Int32} {p n : Int32} {z : Int32} (hp : ¬ p < 0) (hn : ¬ n < 0) (hz : p.toNatClampNeg + n.toNatClampNeg ≤ z.toNatClampNeg) : ∃ ys : List Int32, (((List.replicate n.toNatClampNeg (Value.int 0)).take (0 : Int32).toNatClampNeg ++ ((List.range n.toNatClampNeg).map fun i => (xs.map Value.int).getD (p.toNatClampNeg + i) (.int 0)) ++ (List.replicate n.toNatClampNeg (Value.int 0)).drop ((0 : Int32).toNatClampNeg + n.toNatClampNeg))) = ys.map Value.int ∧ own_cut xs ys p n := by
  refine ⟨(List.range n.toNatClampNeg).map fun i => xs.getD (p.toNatClampNeg + i) 0, ?_, fun j hj => ?_⟩
  · have e0 : (0 : Int32).toNatClampNeg = 0 := rfl
    rw [e0, List.take_zero, List.nil_append, Nat.zero_add, List.drop_of_length_le (by simp), List.append_nil, List.map_map]
    refine List.map_congr_left fun i _ => ?_
    simp only [List.getD_eq_getElem?_getD, List.getElem?_map, Function.comp]
    cases xs[p.toNatClampNeg + i]? <;> rfl
  · simp only [List.getD_eq_getElem?_getD, List.getElem?_map, List.getElem?_range hj, Option.map_some, Option.getD_some]
theorem own_sub1 {a b n : Int32} (h1 : ¬ a < 0) (h2 : a < b) (h3 : ¬ n < b) (h4 : ¬ 8 < n) : ¬ (b - a) < 0 ∧ (b - a).toNatClampNeg ≤ 8 ∧ ¬ b < a ∧ ¬ (n - a) < (b - a) ∧ a.toNatClampNeg + (b - a).toNatClampNeg ≤ n.toNatClampNeg ∧ ¬ (b - a) = 0 ∧ a + (b - a) = b ∧ (b - a) < n + 1 := by
  have c1 := c_isub b a
  have c2 := rng32 (b - a)
  have c3 := c_isub n a
  have c4 := rng32 (n - a)
  have c5 := c_iadd a (b - a)
  have c6 := rng32 (a + (b - a))
  have c7 := c_iadd n 1
  have c8 := rng32 (n + 1)
  have r1 := rng32 a
  have r2 := rng32 b
  have r3 := rng32 n
  have e0 : (0 : Int32).toInt = 0 := rfl
  have e1 : (1 : Int32).toInt = 1 := rfl
  have e8 : (8 : Int32).toInt = 8 := rfl
  simp only [Int32.lt_iff_toInt_lt, e0, e8] at h1 h2 h3 h4
  simp only [Int32.lt_iff_toInt_lt, ← Int32.toInt_inj, Int32.toNatClampNeg, e0]
  rw [e1] at c7
  omega
theorem d27_0 : decode jdk_65_method_133_code 0 = .ok (.iload_n 1, 1) := by decide +kernel
theorem d27_1 : decode jdk_65_method_133_code 1 = .ok (.iload_n 2, 1) := by decide +kernel
theorem d27_2 : decode jdk_65_method_133_code 2 = .ok (.invokestatic 343, 3) := by decide +kernel
theorem d27_5 : decode jdk_65_method_133_code 5 = .ok (.iload_n 2, 1) := by decide +kernel
theorem d27_6 : decode jdk_65_method_133_code 6 = .ok (.iload_n 1, 1) := by decide +kernel
theorem d27_7 : decode jdk_65_method_133_code 7 = .ok (.isub, 1) := by decide +kernel
theorem d27_8 : decode jdk_65_method_133_code 8 = .ok (.istore_n 3, 1) := by decide +kernel
theorem d27_9 : decode jdk_65_method_133_code 9 = .ok (.iload_n 3, 1) := by decide +kernel
theorem d27_10 : decode jdk_65_method_133_code 10 = .ok (.newarray .byte, 2) := by decide +kernel
theorem d27_12 : decode jdk_65_method_133_code 12 = .ok (.astore 4, 2) := by decide +kernel
theorem d27_14 : decode jdk_65_method_133_code 14 = .ok (.aload_n 0, 1) := by decide +kernel
theorem d27_15 : decode jdk_65_method_133_code 15 = .ok (.iload_n 1, 1) := by decide +kernel
theorem d27_16 : decode jdk_65_method_133_code 16 = .ok (.aload 4, 2) := by decide +kernel
theorem d27_18 : decode jdk_65_method_133_code 18 = .ok (.iconst 0, 1) := by decide +kernel
theorem d27_19 : decode jdk_65_method_133_code 19 = .ok (.aload_n 0, 1) := by decide +kernel
theorem d27_20 : decode jdk_65_method_133_code 20 = .ok (.arraylength, 1) := by decide +kernel
theorem d27_21 : decode jdk_65_method_133_code 21 = .ok (.iload_n 1, 1) := by decide +kernel
theorem d27_22 : decode jdk_65_method_133_code 22 = .ok (.isub, 1) := by decide +kernel
theorem d27_23 : decode jdk_65_method_133_code 23 = .ok (.iload_n 3, 1) := by decide +kernel
theorem d27_24 : decode jdk_65_method_133_code 24 = .ok (.invokestatic 304, 3) := by decide +kernel
theorem d27_27 : decode jdk_65_method_133_code 27 = .ok (.invokestatic 150, 3) := by decide +kernel
theorem d27_30 : decode jdk_65_method_133_code 30 = .ok (.aload 4, 2) := by decide +kernel
theorem d27_32 : decode jdk_65_method_133_code 32 = .ok (.areturn, 1) := by decide +kernel
theorem pd_12 : parseMethodDescriptor "(II)I" = some ⟨[.int, .int], some .int⟩ := by decide +kernel
theorem ef_27 (m : MethodId) (a1 : Addr) (p2 : Int32) (p3 : Int32) : entryFrame m #[(.ref a1), (.int p2), (.int p3)] 5 = mkF m 0 #[.val (.ref a1), .val (.int p2), .val (.int p3), .unset, .unset] [] := by first | (simp [entryFrame, mkF, argsToLocals, Value.category]; done) | rfl
set_option maxRecDepth 65536 in
set_option maxHeartbeats 40000000 in
theorem rm27 (l : Launch) (Z : State) (a0 : Array Value) (hw : ∀ d ∈ tables_1, d.before a0 Z = true) (ws : List Jvm.Cond) (a1 : Addr) (p2 : Int32) (p3 : Int32) (n : Int32) (xs : List Int32) (kb : ClassId) (h0 : Heap) (n0 : Nat) (Z0 : n0 ≤ h0.size) (Av : Arv Z h0 a1 kb .byte n (xs.map Value.int) (.int 0)) (h1 : ¬ p2 < (0 : Int32)) (h2 : p2 < p3) (h3 : ¬ n < p3) (h4 : ¬ (8 : Int32) < n) :
    MetFree l (⟨"java/util/Arrays", "copyOfRangeByte", "([BII)[B"⟩ : MethodName) (head1 (Jvm.Cond.code (⟨"java/util/Arrays", "copyOfRangeByte", "([BII)[B"⟩ : MethodName) jdk_65_method_133_code 5 (some (.array .byte)) :: ws) ({ frames := 1, cells := 1, slots := 8, locals := 40 } : Room)) (fun a U => a = #[(.ref a1), (.int p2), (.int p3)] ∧ Z.Warmed39 U.vm ∧ U.heap = h0) (fun _ _ _ _ _ => True) (fun _ U o U' => ∃ v L, o = .returned v ∧ own_QX Z xs p2 (p3 - p2) h0 n0 v U'.heap L ∧ FrameEnd U o U' L ({ frames := 1, cells := 1, slots := 8, locals := 40 } : Room).cells ({ frames := 1, cells := 1, slots := 8, locals := 40 } : Room).slots) := by
  refine MetFree.of_bodySF (plainFor_of_name pn_28) hisR ?_
  intro p e s m args below meth c s₁ Bd hml0 hP hK
  obtain ⟨rfl, hZ, hh⟩ := hP
  have hx := Bd.exec
  have hby := Bd.bytes
  have hml : c.maxLocals = 5 := hml0
  have hown : s.vm.findClass "java/util/Arrays" = some m.cls := findClass_of_methodNamed Bd.named
  have hnm := (name_of_methodNamed Bd.named Bd.method).1
  have X0 : Stand p l e ({ frames := 1, cells := 1, slots := 8, locals := 40 } : Room) s m #[(.ref a1), (.int p2), (.int p3)] below meth c s₁ [] 0 0 := Stand.of_body Bd
  have e0 : s₁.heap = h0 := by rw [← hh, Bd.state]; rfl
  have N0 := Fr.nil n0
  obtain ⟨S0, hS0⟩ : ∃ z, z = s₁.setTop (entryFrame m #[(.ref a1), (.int p2), (.int p3)] 5) := ⟨_, rfl⟩
  have P0 : own_Pr p.tables e below S0 s₁ (mkF m 0 #[.val (.ref a1), .val (.int p2), .val (.int p3), .unset, .unset] []) := fun t k => hS0 ▸ castTop (ef_27 m a1 p2 p3) k
  have K0 := Keep.refl h0 []
  have hs := own_sub1 h1 h2 h3 h4
  have P21 : own_Pr p.tables e below S0 s₁ (mkF m 2 #[.val (.ref a1), .val (.int p2), .val (.int p3), .unset, .unset] [(.int p3), (.int p2)]) := fun t k => P0 t (by
    refine XS.iloadN X0.here hx rfl (hb hby d27_0) rfl ?_
    refine XS.iloadN X0.here hx rfl (hb hby d27_1) rfl ?_
    exact k)
  obtain ⟨_, _, ⟨T22, L22, k22, n22⟩, -, X22, ⟨Lc22, hQ22, l22, y22, z22⟩, st22⟩ := Jvm.LawKit.callS X0 hx (y := (⟨"java/util/Arrays", "checkLength", "(II)V"⟩ : MethodName)) hown (mvT hZ (hw _ (List.mem_of_getElem? (i := 116) rfl))) (mvT hZ (hw _ (List.mem_of_getElem? (i := 117) rfl))) (mvT hZ (hw _ (List.mem_of_getElem? (i := 111) rfl))) (mvT hZ (hw _ (List.mem_of_getElem? (i := 118) rfl))) (by decide) (backOf (W := 0) (rm28 l Z a0 hw [] p2 p3 h0 n0 Z0 hs.2.2.1) hZ (hw _ (List.mem_of_getElem? (i := 118) rfl)) (hw _ (List.mem_of_getElem? (i := 111) rfl)) (by decide) (by decide)) (g := (mkF m 2 #[.val (.ref a1), .val (.int p2), .val (.int p3), .unset, .unset] [(.int p3), (.int p2)])) rfl (by rw [hml]; rfl) (argsL := [(.int p2), (.int p3)]) (rest := []) (lenOf pd_2 rfl) rfl (by show 2 * 0 + _ ≤ _; exact Nat.le_of_eq rfl) (hb hby d27_2) (fun _ _ => ⟨rfl, e0, (by decide : 0 + 0 ≤ _), (by decide : 0 + 0 ≤ _)⟩)
  dsimp only [Pt.U, Pt.locs, Pt.cells, Pt.slots] at X22 l22 y22 z22 st22 hQ22
  rw [l22, y22, z22] at X22
  have X22 := X22.mono (cells' := 0) (slots' := 0) (by decide) (by decide)
  obtain ⟨rfl, Nq22, eq22⟩ := hQ22
  have N22n := Fr.app N0 Nq22
  have P23 : own_Pr p.tables e below S0 T22 (mkF m 5 #[.val (.ref a1), .val (.int p2), .val (.int p3), .unset, .unset] []) := fun t k => P21 t (st22 _ k)
  have P24 : own_Pr p.tables e below S0 T22 (mkF m 10 #[.val (.ref a1), .val (.int p2), .val (.int p3), .val (.int (p3 - p2)), .unset] [(.int (p3 - p2))]) := fun t k => P23 t (by
    refine XS.iloadN X22.here hx rfl (hb hby d27_5) rfl ?_
    refine XS.iloadN X22.here hx rfl (hb hby d27_6) rfl ?_
    refine XS.isub X22.here hx rfl (hb hby d27_7) rfl ?_
    refine XS.istoreN X22.here hx rfl (hb hby d27_8) rfl (l' := #[.val (.ref a1), .val (.int p2), .val (.int p3), .val (.int (p3 - p2)), .unset]) rfl ?_
    refine XS.iloadN X22.here hx rfl (hb hby d27_9) rfl ?_
    exact k)
  obtain ⟨T25, h25, k25, X25, e25, E25, A25, st25⟩ := newP X22 hx hZ (hw _ (List.mem_of_getElem? (i := 31) rfl)) eq22 (g := (mkF m 10 #[.val (.ref a1), .val (.int p2), .val (.int p3), .val (.int (p3 - p2)), .unset] [(.int (p3 - p2))])) rfl (hb hby d27_10) rfl hs.1 (cap := 8) hs.2.1 (by decide) (by decide) (by decide)
  obtain ⟨b25, g25⟩ : ∃ z, z = h0.size := ⟨_, rfl⟩
  rw [← g25] at A25 st25
  have g_b25 : n0 ≤ b25 := Nat.le_trans Z0 (Nat.le_of_eq g25.symm)
  have sz_b25 : h0.size ≤ b25 := Nat.le_trans K0.1 (Nat.le_of_eq g25.symm)
  have ne_a1_b25 : a1 ≠ b25 := Nat.ne_of_lt (Nat.lt_of_lt_of_le Av.lt (Nat.le_of_eq g25.symm))
  have F26 := Av.ext E25
  have Z27 : n0 ≤ h25.size := Nat.le_trans Z0 E25.1
  have K28 := K0.ext E25
  have F29 := Arv.new A25 hs.1
  have P30 : own_Pr p.tables e below S0 T25 (mkF m 12 #[.val (.ref a1), .val (.int p2), .val (.int p3), .val (.int (p3 - p2)), .unset] [(.ref b25)]) := fun t k => P24 t (st25 _ k)
  have Vp31 := F29.pad (pad_rep [] (.int 0) (p3 - p2).toNatClampNeg)
  have P32 : own_Pr p.tables e below S0 T25 (mkF m 20 #[.val (.ref a1), .val (.int p2), .val (.int p3), .val (.int (p3 - p2)), .val (.ref b25)] [(.ref a1), (.int (0 : Int32)), (.ref b25), (.int p2), (.ref a1)]) := fun t k => P30 t (by
    refine XS.astore X25.here hx rfl (hb hby d27_12) rfl rfl (l' := #[.val (.ref a1), .val (.int p2), .val (.int p3), .val (.int (p3 - p2)), .val (.ref b25)]) rfl ?_
    refine XS.aloadN X25.here hx rfl (hb hby d27_14) rfl rfl ?_
    refine XS.iloadN X25.here hx rfl (hb hby d27_15) rfl ?_
    refine XS.aload X25.here hx rfl (hb hby d27_16) rfl rfl ?_
    refine XS.iconst X25.here hx rfl (hb hby d27_18) ?_
    refine XS.aloadN X25.here hx rfl (hb hby d27_19) rfl rfl ?_
    exact k)
  obtain ⟨cl33, Ar33, q33, S33, N33, H33, G33⟩ := id F26
  have P34 : own_Pr p.tables e below S0 T25 (mkF m 24 #[.val (.ref a1), .val (.int p2), .val (.int p3), .val (.int (p3 - p2)), .val (.ref b25)] [(.int (p3 - p2)), (.int (n - p2)), (.int (0 : Int32)), (.ref b25), (.int p2), (.ref a1)]) := fun t k => P32 t (by
    refine X25.arraylength hx (by rw [e25]; exact Ar33.1) (State.isArrayOf_alike hZ.alike Ar33.2.1) (g := (mkF m 20 #[.val (.ref a1), .val (.int p2), .val (.int p3), .val (.int (p3 - p2)), .val (.ref b25)] [(.ref a1), (.int (0 : Int32)), (.ref b25), (.int p2), (.ref a1)])) rfl rfl (hb hby d27_20) _ ?_
    rw [len_of S33 N33]
    show Steps p.tables e below (T25.setTop (mkF m 21 #[.val (.ref a1), .val (.int p2), .val (.int p3), .val (.int (p3 - p2)), .val (.ref b25)] [(.int n), (.int (0 : Int32)), (.ref b25), (.int p2), (.ref a1)])) _
    refine XS.iloadN X25.here hx rfl (hb hby d27_21) rfl ?_
    refine XS.isub X25.here hx rfl (hb hby d27_22) rfl ?_
    refine XS.iloadN X25.here hx rfl (hb hby d27_23) rfl ?_
    exact k)
  obtain ⟨_, _, ⟨T35, L35, k35, n35⟩, -, X35, ⟨Lc35, hQ35, l35, y35, z35⟩, st35⟩ := Jvm.LawKit.callS X25 hx (y := (⟨"java/lang/Math", "min", "(II)I"⟩ : MethodName)) hown (mvT hZ (hw _ (List.mem_of_getElem? (i := 119) rfl))) (mvT hZ (hw _ (List.mem_of_getElem? (i := 120) rfl))) (mvT hZ (hw _ (List.mem_of_getElem? (i := 121) rfl))) (mvT hZ (hw _ (List.mem_of_getElem? (i := 122) rfl))) (by decide) (backOf (W := 4) (rm29 l Z a0 hw [] (n - p2) (p3 - p2) h25 n0 Z27) hZ (hw _ (List.mem_of_getElem? (i := 122) rfl)) (hw _ (List.mem_of_getElem? (i := 121) rfl)) (by decide) (by decide)) (g := (mkF m 24 #[.val (.ref a1), .val (.int p2), .val (.int p3), .val (.int (p3 - p2)), .val (.ref b25)] [(.int (p3 - p2)), (.int (n - p2)), (.int (0 : Int32)), (.ref b25), (.int p2), (.ref a1)])) rfl (by rw [hml]; rfl) (argsL := [(.int (n - p2)), (.int (p3 - p2))]) (rest := [(.int (0 : Int32)), (.ref b25), (.int p2), (.ref a1)]) (lenOf pd_12 rfl) rfl (by show 2 * 0 + _ ≤ _; exact Nat.le_of_eq rfl) (hb hby d27_24) (fun _ _ => ⟨rfl, e25, (by decide : 1 + 0 ≤ _), (by decide : 8 + 0 ≤ _)⟩)
  dsimp only [Pt.U, Pt.locs, Pt.cells, Pt.slots] at X35 l35 y35 z35 st35 hQ35
  rw [l35, y35, z35] at X35
  have X35 := X35.mono (cells' := 1) (slots' := 8) (by decide) (by decide)
  obtain ⟨z35v, rfl, hz35v, Nq35, eq35⟩ := hQ35
  have N35n := Fr.app N22n Nq35
  have hm35 := own_min_r hs.2.2.2.1 hz35v
  subst hm35
  have P36 : own_Pr p.tables e below S0 T35 (mkF m 27 #[.val (.ref a1), .val (.int p2), .val (.int p3), .val (.int (p3 - p2)), .val (.ref b25)] [(.int (p3 - p2)), (.int (0 : Int32)), (.ref b25), (.int p2), (.ref a1)]) := fun t k => P34 t (st35 _ k)
  obtain ⟨T37, h37, Lq37, X37, e37, N37, Kq37, Vq37, st37⟩ := cpA X35 hx hZ hown (hw _ (List.mem_of_getElem? (i := 123) rfl)) (hw _ (List.mem_of_getElem? (i := 126) rfl)) (hw _ (List.mem_of_getElem? (i := 124) rfl)) (hw _ (List.mem_of_getElem? (i := 125) rfl)) eq35 F26 Vp31 (Or.inl ⟨rfl, rfl⟩) (sp := p2) (dp := (0 : Int32)) (nn := (p3 - p2)) h1 (by decide) hs.1 hs.2.2.2.2.1 (Nat.le_of_eq (Nat.zero_add _)) rfl (by rw [List.nil_append, List.length_replicate]; exact Nat.le_of_eq (Nat.zero_add _)) N35n g_b25 (g := (mkF m 27 #[.val (.ref a1), .val (.int p2), .val (.int p3), .val (.int (p3 - p2)), .val (.ref b25)] [(.int (p3 - p2)), (.int (0 : Int32)), (.ref b25), (.int p2), (.ref a1)])) rfl (by rw [hml]; rfl) rfl (hb hby d27_27) (by decide) (W := 0) (by show 2 * 0 + _ ≤ _; exact Nat.le_of_eq rfl) (by decide)
  rw [List.nil_append] at Vq37
  obtain ⟨ys, ey, hy⟩ := own_stretch (xs := xs) h1 hs.1 hs.2.2.2.2.1
  rw [ey] at Vq37
  have K37n := K28.trans Kq37 (allS (Or.inr sz_b25) all0)
  have Z37n := Nat.le_trans Z27 Kq37.1
  have P38 : own_Pr p.tables e below S0 T37 (mkF m 30 #[.val (.ref a1), .val (.int p2), .val (.int p3), .val (.int (p3 - p2)), .val (.ref b25)] []) := fun t k => P36 t (st37 _ k)
  have P39 : own_Pr p.tables e below S0 T37 (mkF m 32 #[.val (.ref a1), .val (.int p2), .val (.int p3), .val (.int (p3 - p2)), .val (.ref b25)] [(.ref b25)]) := fun t k => P38 t (by
    refine XS.aload X37.here hx rfl (hb hby d27_30) rfl rfl ?_
    exact k)
  obtain ⟨fs, hr, hrun, hended, hW, hsame⟩ := X37.leave (v := some (.ref b25)) (fun h => by rw [Bd.returns] at h; cases h)
  have fin : Steps p.tables e below S0 (T37.setFrames fs) := P39 _ (by
    jvm_step X37.here [X37.here.top, hx, (hb hby d27_32), X37.method', Bd.returns, Value.isRef, FieldType.isReference]
    first | (intro acts; rw [hr _ acts rfl rfl rfl]) | rw [hr _ _ rfl rfl rfl]
    exact Steps.refl _)
  rw [hS0] at fin
  refine ⟨_, _, fin, hrun, hended, _, _, rfl, ?_, ⟨_, rfl⟩, hW, hsame.mono (by decide) (by decide)⟩
  show own_QX Z xs p2 (p3 - p2) h0 n0 _ T37.heap _
  rw [e37]
  exact ⟨_, _, ys, rfl, N37, K37n, sz_b25, Vq37, hy⟩
theorem d26_0 : decode jdk_65_method_132_code 0 = .ok (.iload_n 1, 1) := by decide +kernel
theorem d26_1 : decode jdk_65_method_132_code 1 = .ok (.ifCond .ne 9, 3) := by decide +kernel
theorem d26_4 : decode jdk_65_method_132_code 4 = .ok (.iload_n 2, 1) := by decide +kernel
theorem d26_5 : decode jdk_65_method_132_code 5 = .ok (.aload_n 0, 1) := by decide +kernel
theorem d26_6 : decode jdk_65_method_132_code 6 = .ok (.arraylength, 1) := by decide +kernel
theorem d26_7 : decode jdk_65_method_132_code 7 = .ok (.if_icmp .eq 10, 3) := by decide +kernel
theorem d26_10 : decode jdk_65_method_132_code 10 = .ok (.aload_n 0, 1) := by decide +kernel
theorem d26_11 : decode jdk_65_method_132_code 11 = .ok (.iload_n 1, 1) := by decide +kernel
theorem d26_12 : decode jdk_65_method_132_code 12 = .ok (.iload_n 2, 1) := by decide +kernel
theorem d26_13 : decode jdk_65_method_132_code 13 = .ok (.invokestatic 339, 3) := by decide +kernel
theorem d26_16 : decode jdk_65_method_132_code 16 = .ok (.areturn, 1) := by decide +kernel
theorem pd_13 : parseMethodDescriptor "([BII)[B" = some ⟨[(.array .byte), .int, .int], some (.array .byte)⟩ := by decide +kernel
theorem ef_26 (m : MethodId) (a1 : Addr) (p2 : Int32) (p3 : Int32) : entryFrame m #[(.ref a1), (.int p2), (.int p3)] 3 = mkF m 0 #[.val (.ref a1), .val (.int p2), .val (.int p3)] [] := by first | (simp [entryFrame, mkF, argsToLocals, Value.category]; done) | rfl
set_option maxRecDepth 65536 in
set_option maxHeartbeats 40000000 in
theorem rm26 (l : Launch) (Z : State) (a0 : Array Value) (hw : ∀ d ∈ tables_1, d.before a0 Z = true) (ws : List Jvm.Cond) (a1 : Addr) (p2 : Int32) (p3 : Int32) (n : Int32) (xs : List Int32) (kb : ClassId) (h0 : Heap) (n0 : Nat) (Z0 : n0 ≤ h0.size) (Av : Arv Z h0 a1 kb .byte n (xs.map Value.int) (.int 0)) (h1 : ¬ p2 < (0 : Int32)) (h2 : p2 < p3) (h3 : ¬ n < p3) (h4 : ¬ (8 : Int32) < n) (h5 : ¬ (p2 = 0 ∧ p3 = n)) :
    MetFree l (⟨"java/util/Arrays", "copyOfRange", "([BII)[B"⟩ : MethodName) (head1 (Jvm.Cond.code (⟨"java/util/Arrays", "copyOfRange", "([BII)[B"⟩ : MethodName) jdk_65_method_132_code 3 (some (.array .byte)) :: ws) ({ frames := 2, cells := 1, slots := 8, locals := 56 } : Room)) (fun a U => a = #[(.ref a1), (.int p2), (.int p3)] ∧ Z.Warmed39 U.vm ∧ U.heap = h0) (fun _ _ _ _ _ => True) (fun _ U o U' => ∃ v L, o = .returned v ∧ own_QX Z xs p2 (p3 - p2) h0 n0 v U'.heap L ∧ FrameEnd U o U' L ({ frames := 2, cells := 1, slots := 8, locals := 56 } : Room).cells ({ frames := 2, cells := 1, slots := 8, locals := 56 } : Room).slots) := by
  refine MetFree.of_bodySF (plainFor_of_name pn_28) hisR ?_
  intro p e s m args below meth c s₁ Bd hml0 hP hK
  obtain ⟨rfl, hZ, hh⟩ := hP
  have hx := Bd.exec
  have hby := Bd.bytes
  have hml : c.maxLocals = 3 := hml0
  have hown : s.vm.findClass "java/util/Arrays" = some m.cls := findClass_of_methodNamed Bd.named
  have hnm := (name_of_methodNamed Bd.named Bd.method).1
  have X0 : Stand p l e ({ frames := 2, cells := 1, slots := 8, locals := 56 } : Room) s m #[(.ref a1), (.int p2), (.int p3)] below meth c s₁ [] 0 0 := Stand.of_body Bd
  have e0 : s₁.heap = h0 := by rw [← hh, Bd.state]; rfl
  have N0 := Fr.nil n0
  obtain ⟨S0, hS0⟩ : ∃ z, z = s₁.setTop (entryFrame m #[(.ref a1), (.int p2), (.int p3)] 3) := ⟨_, rfl⟩
  have P0 : own_Pr p.tables e below S0 s₁ (mkF m 0 #[.val (.ref a1), .val (.int p2), .val (.int p3)] []) := fun t k => hS0 ▸ castTop (ef_26 m a1 p2 p3) k
  have P21 : own_Pr p.tables e below S0 s₁ (mkF m 1 #[.val (.ref a1), .val (.int p2), .val (.int p3)] [(.int p2)]) := fun t k => P0 t (by
    refine XS.iloadN X0.here hx rfl (hb hby d26_0) rfl ?_
    exact k)
  by_cases hc1_22 : p2 = (0 : Int32)
  · have P23 : own_Pr p.tables e below S0 s₁ (mkF m 6 #[.val (.ref a1), .val (.int p2), .val (.int p3)] [(.ref a1), (.int p3)]) := fun t k => P21 t (by
      refine XS.ifNo X0.here hx rfl (hb hby d26_1) rfl (XT.i0_ne_f hc1_22) ?_
      refine XS.iloadN X0.here hx rfl (hb hby d26_4) rfl ?_
      refine XS.aloadN X0.here hx rfl (hb hby d26_5) rfl rfl ?_
      exact k)
    obtain ⟨cl24, Ar24, q24, S24, N24, H24, G24⟩ := id Av
    have P25 : own_Pr p.tables e below S0 s₁ (mkF m 13 #[.val (.ref a1), .val (.int p2), .val (.int p3)] [(.int p3), (.int p2), (.ref a1)]) := fun t k => P23 t (by
      refine X0.arraylength hx (by rw [e0]; exact Ar24.1) (State.isArrayOf_alike hZ.alike Ar24.2.1) (g := (mkF m 6 #[.val (.ref a1), .val (.int p2), .val (.int p3)] [(.ref a1), (.int p3)])) rfl rfl (hb hby d26_6) _ ?_
      rw [len_of S24 N24]
      show Steps p.tables e below (s₁.setTop (mkF m 7 #[.val (.ref a1), .val (.int p2), .val (.int p3)] [(.int n), (.int p3)])) _
      refine XS.icmpNo X0.here hx rfl (hb hby d26_7) rfl (XT.ii_eq_f (fun q => h5 ⟨hc1_22, q⟩)) ?_
      refine XS.aloadN X0.here hx rfl (hb hby d26_10) rfl rfl ?_
      refine XS.iloadN X0.here hx rfl (hb hby d26_11) rfl ?_
      refine XS.iloadN X0.here hx rfl (hb hby d26_12) rfl ?_
      exact k)
    obtain ⟨_, _, ⟨T26, L26, k26, n26⟩, -, X26, ⟨Lc26, hQ26, l26, y26, z26⟩, st26⟩ := Jvm.LawKit.callS X0 hx (y := (⟨"java/util/Arrays", "copyOfRangeByte", "([BII)[B"⟩ : MethodName)) hown (mvT hZ (hw _ (List.mem_of_getElem? (i := 113) rfl))) (mvT hZ (hw _ (List.mem_of_getElem? (i := 114) rfl))) (mvT hZ (hw _ (List.mem_of_getElem? (i := 111) rfl))) (mvT hZ (hw _ (List.mem_of_getElem? (i := 115) rfl))) (by decide) (backOf (W := 0) (rm27 l Z a0 hw [] a1 p2 p3 n xs kb h0 n0 Z0 Av h1 h2 h3 h4) hZ (hw _ (List.mem_of_getElem? (i := 115) rfl)) (hw _ (List.mem_of_getElem? (i := 111) rfl)) (by decide) (by decide)) (g := (mkF m 13 #[.val (.ref a1), .val (.int p2), .val (.int p3)] [(.int p3), (.int p2), (.ref a1)])) rfl (by rw [hml]; rfl) (argsL := [(.ref a1), (.int p2), (.int p3)]) (rest := []) (lenOf pd_13 rfl) rfl (by show 2 * 0 + _ ≤ _; exact Nat.le_of_eq rfl) (hb hby d26_13) (fun _ _ => ⟨rfl, e0, (by decide : 0 + 1 ≤ _), (by decide : 0 + 8 ≤ _)⟩)
    dsimp only [Pt.U, Pt.locs, Pt.cells, Pt.slots] at X26 l26 y26 z26 st26 hQ26
    rw [l26, y26, z26] at X26
    have X26 := X26.mono (cells' := 1) (slots' := 8) (by decide) (by decide)
    obtain ⟨b26, kk26, ys26, rfl, Nq26, Kq26, sz26, Vq26, hy26⟩ := hQ26
    have N26n := Fr.app N0 Nq26
    have P27 : own_Pr p.tables e below S0 T26 (mkF m 16 #[.val (.ref a1), .val (.int p2), .val (.int p3)] [(.ref b26)]) := fun t k => P25 t (st26 _ k)
    obtain ⟨fs, hr, hrun, hended, hW, hsame⟩ := X26.leave (v := some (.ref b26)) (fun h => by rw [Bd.returns] at h; cases h)
    have fin : Steps p.tables e below S0 (T26.setFrames fs) := P27 _ (by
      jvm_step X26.here [X26.here.top, hx, (hb hby d26_16), X26.method', Bd.returns, Value.isRef, FieldType.isReference]
      first | (intro acts; rw [hr _ acts rfl rfl rfl]) | rw [hr _ _ rfl rfl rfl]
      exact Steps.refl _)
    rw [hS0] at fin
    refine ⟨_, _, fin, hrun, hended, _, _, rfl, ?_, ⟨_, rfl⟩, hW, hsame.mono (by decide) (by decide)⟩
    show own_QX Z xs p2 (p3 - p2) h0 n0 _ T26.heap _
    exact ⟨_, _, _, rfl, N26n, Kq26, sz26, Vq26, hy26⟩
  · have P28 : own_Pr p.tables e below S0 s₁ (mkF m 13 #[.val (.ref a1), .val (.int p2), .val (.int p3)] [(.int p3), (.int p2), (.ref a1)]) := fun t k => P21 t (by
      refine XS.ifYes X0.here hx rfl (pc0 := 1) (pc' := 10) rfl (hb hby d26_1) rfl (XT.i0_ne_t hc1_22) (by decide) (by decide) ?_
      refine XS.aloadN X0.here hx rfl (hb hby d26_10) rfl rfl ?_
      refine XS.iloadN X0.here hx rfl (hb hby d26_11) rfl ?_
      refine XS.iloadN X0.here hx rfl (hb hby d26_12) rfl ?_
      exact k)
    obtain ⟨_, _, ⟨T29, L29, k29, n29⟩, -, X29, ⟨Lc29, hQ29, l29, y29, z29⟩, st29⟩ := Jvm.LawKit.callS X0 hx (y := (⟨"java/util/Arrays", "copyOfRangeByte", "([BII)[B"⟩ : MethodName)) hown (mvT hZ (hw _ (List.mem_of_getElem? (i := 113) rfl))) (mvT hZ (hw _ (List.mem_of_getElem? (i := 114) rfl))) (mvT hZ (hw _ (List.mem_of_getElem? (i := 111) rfl))) (mvT hZ (hw _ (List.mem_of_getElem? (i := 115) rfl))) (by decide) (backOf (W := 0) (rm27 l Z a0 hw [] a1 p2 p3 n xs kb h0 n0 Z0 Av h1 h2 h3 h4) hZ (hw _ (List.mem_of_getElem? (i := 115) rfl)) (hw _ (List.mem_of_getElem? (i := 111) rfl)) (by decide) (by decide)) (g := (mkF m 13 #[.val (.ref a1), .val (.int p2), .val (.int p3)] [(.int p3), (.int p2), (.ref a1)])) rfl (by rw [hml]; rfl) (argsL := [(.ref a1), (.int p2), (.int p3)]) (rest := []) (lenOf pd_13 rfl) rfl (by show 2 * 0 + _ ≤ _; exact Nat.le_of_eq rfl) (hb hby d26_13) (fun _ _ => ⟨rfl, e0, (by decide : 0 + 1 ≤ _), (by decide : 0 + 8 ≤ _)⟩)
    dsimp only [Pt.U, Pt.locs, Pt.cells, Pt.slots] at X29 l29 y29 z29 st29 hQ29
    rw [l29, y29, z29] at X29
    have X29 := X29.mono (cells' := 1) (slots' := 8) (by decide) (by decide)
    obtain ⟨b29, kk29, ys29, rfl, Nq29, Kq29, sz29, Vq29, hy29⟩ := hQ29
    have N29n := Fr.app N0 Nq29
    have P30 : own_Pr p.tables e below S0 T29 (mkF m 16 #[.val (.ref a1), .val (.int p2), .val (.int p3)] [(.ref b29)]) := fun t k => P28 t (st29 _ k)
    obtain ⟨fs, hr, hrun, hended, hW, hsame⟩ := X29.leave (v := some (.ref b29)) (fun h => by rw [Bd.returns] at h; cases h)
    have fin : Steps p.tables e below S0 (T29.setFrames fs) := P30 _ (by
      jvm_step X29.here [X29.here.top, hx, (hb hby d26_16), X29.method', Bd.returns, Value.isRef, FieldType.isReference]
      first | (intro acts; rw [hr _ acts rfl rfl rfl]) | rw [hr _ _ rfl rfl rfl]
      exact Steps.refl _)
    rw [hS0] at fin
    refine ⟨_, _, fin, hrun, hended, _, _, rfl, ?_, ⟨_, rfl⟩, hW, hsame.mono (by decide) (by decide)⟩
    show own_QX Z xs p2 (p3 - p2) h0 n0 _ T29.heap _
    exact ⟨_, _, _, rfl, N29n, Kq29, sz29, Vq29, hy29⟩
def own_QI2 (Z : State) (a b : Addr) (h0 : Heap) (n0 : Nat) (v : Option Value) (h : Heap) (L : List Loc) : Prop := v = none ∧ Fr n0 L ∧ Keep h0 h [a] ∧ Exa Z h a "java/lang/String" ∧ Fld Z h a "java/lang/String" "coder" "B" (.int 0) ∧ Fld Z h a "java/lang/String" "value" "[B" (.ref b)
theorem d30_0 : decode jdk_42_method_151_code 0 = .ok (.aload_n 0, 1) := by decide +kernel
theorem d30_1 : decode jdk_42_method_151_code 1 = .ok (.invokespecial 1, 3) := by decide +kernel
theorem d30_4 : decode jdk_42_method_151_code 4 = .ok (.aload_n 0, 1) := by decide +kernel
theorem d30_5 : decode jdk_42_method_151_code 5 = .ok (.aload_n 1, 1) := by decide +kernel
theorem d30_6 : decode jdk_42_method_151_code 6 = .ok (.putfield 9, 3) := by decide +kernel
theorem d30_9 : decode jdk_42_method_151_code 9 = .ok (.aload_n 0, 1) := by decide +kernel
theorem d30_10 : decode jdk_42_method_151_code 10 = .ok (.iload_n 2, 1) := by decide +kernel
theorem d30_11 : decode jdk_42_method_151_code 11 = .ok (.putfield 15, 3) := by decide +kernel
theorem d30_14 : decode jdk_42_method_151_code 14 = .ok (.return_, 1) := by decide +kernel
theorem ef_30 (m : MethodId) (a1 : Addr) (a2 : Addr) : entryFrame m #[(.ref a1), (.ref a2), (.int (0 : Int32))] 3 = mkF m 0 #[.val (.ref a1), .val (.ref a2), .val (.int (0 : Int32))] [] := by first | (simp [entryFrame, mkF, argsToLocals, Value.category]; done) | rfl
set_option maxRecDepth 65536 in
set_option maxHeartbeats 40000000 in
theorem rm30 (l : Launch) (Z : State) (a0 : Array Value) (hw : ∀ d ∈ tables_1, d.before a0 Z = true) (ws : List Jvm.Cond) (a1 : Addr) (a2 : Addr)  (h0 : Heap) (n0 : Nat) (Z0 : n0 ≤ h0.size) (E1 : Exa Z h0 a1 "java/lang/String") (F1 : Fld Z h0 a1 "java/lang/String" "coder" "B" (.int (0 : Int32))) (F2 : Fld Z h0 a1 "java/lang/String" "value" "[B" .null) (g_a1 : n0 ≤ a1) :
    MetFree l (⟨"java/lang/String", "<init>", "([BB)V"⟩ : MethodName) (head1 (Jvm.Cond.code (⟨"java/lang/String", "<init>", "([BB)V"⟩ : MethodName) jdk_42_method_151_code 3 none :: ws) ({ frames := 1, cells := 0, slots := 0, locals := 12 } : Room)) (fun a U => a = #[(.ref a1), (.ref a2), (.int (0 : Int32))] ∧ Z.Warmed39 U.vm ∧ U.heap = h0) (fun _ _ _ _ _ => True) (fun _ U o U' => ∃ v L, o = .returned v ∧ own_QI2 Z a1 a2 h0 n0 v U'.heap L ∧ FrameEnd U o U' L ({ frames := 1, cells := 0, slots := 0, locals := 12 } : Room).cells ({ frames := 1, cells := 0, slots := 0, locals := 12 } : Room).slots) := by
  refine MetFree.of_bodySF (plainFor_of_name pn_14) hisR ?_
  intro p e s m args below meth c s₁ Bd hml0 hP hK
  obtain ⟨rfl, hZ, hh⟩ := hP
  have hx := Bd.exec
  have hby := Bd.bytes
  have hml : c.maxLocals = 3 := hml0
  have hown : s.vm.findClass "java/lang/String" = some m.cls := findClass_of_methodNamed Bd.named
  have hnm := (name_of_methodNamed Bd.named Bd.method).1
  have X0 : Stand p l e ({ frames := 1, cells := 0, slots := 0, locals := 12 } : Room) s m #[(.ref a1), (.ref a2), (.int (0 : Int32))] below meth c s₁ [] 0 0 := Stand.of_body Bd
  have e0 : s₁.heap = h0 := by rw [← hh, Bd.state]; rfl
  have N0 := Fr.nil n0
  obtain ⟨S0, hS0⟩ : ∃ z, z = s₁.setTop (entryFrame m #[(.ref a1), (.ref a2), (.int (0 : Int32))] 3) := ⟨_, rfl⟩
  have P0 : own_Pr p.tables e below S0 s₁ (mkF m 0 #[.val (.ref a1), .val (.ref a2), .val (.int (0 : Int32))] []) := fun t k => hS0 ▸ castTop (ef_30 m a1 a2) k
  have K0 := Keep.refl h0 [a1]
  have P21 : own_Pr p.tables e below S0 s₁ (mkF m 1 #[.val (.ref a1), .val (.ref a2), .val (.int (0 : Int32))] [(.ref a1)]) := fun t k => P0 t (by
    refine XS.aloadN X0.here hx rfl (hb hby d30_0) rfl rfl ?_
    exact k)
  obtain ⟨T22, X22, e22, st22⟩ := initO X0 hx hZ hown (hw _ (List.mem_of_getElem? (i := 23) rfl)) (hw _ (List.mem_of_getElem? (i := 24) rfl)) (hw _ (List.mem_of_getElem? (i := 25) rfl)) e0 (g := (mkF m 1 #[.val (.ref a1), .val (.ref a2), .val (.int (0 : Int32))] [(.ref a1)])) rfl (by rw [hml]; rfl) rfl (hb hby d30_1) (by decide) (W := 0) (by show 2 * 0 + _ ≤ _; exact Nat.le_of_eq rfl) (by decide)
  have P23 : own_Pr p.tables e below S0 T22 (mkF m 4 #[.val (.ref a1), .val (.ref a2), .val (.int (0 : Int32))] []) := fun t k => P21 t (st22 _ k)
  have P24 : own_Pr p.tables e below S0 T22 (mkF m 6 #[.val (.ref a1), .val (.ref a2), .val (.int (0 : Int32))] [(.ref a2), (.ref a1)]) := fun t k => P23 t (by
    refine XS.aloadN X22.here hx rfl (hb hby d30_4) rfl rfl ?_
    refine XS.aloadN X22.here hx rfl (hb hby d30_5) rfl rfl ?_
    exact k)
  obtain ⟨T25, h25, X25, e25, W25, st25⟩ := putF X22 hx hZ hown (host := "") (Or.inl (hw _ (List.mem_of_getElem? (i := 40) rfl))) Via.refl e22 F2 E1 (Or.inr ⟨(hw _ (List.mem_of_getElem? (i := 41) rfl)), rfl, hnm⟩) (hw _ (List.mem_of_getElem? (i := 14) rfl)) (ty := (.array .byte)) (by decide) rfl rfl (g := (mkF m 6 #[.val (.ref a1), .val (.ref a2), .val (.int (0 : Int32))] [(.ref a2), (.ref a1)])) rfl rfl (hb hby d30_6)
  have F25 := F2.same W25
  have F26 := E1.wr W25
  have F27 := F1.other W25 (Or.inr (slot_ne (Or.inr (hw _ (List.mem_of_getElem? (i := 39) rfl))) (Or.inr (hw _ (List.mem_of_getElem? (i := 41) rfl))) (by decide) (t := .byte) (t' := (.array .byte)) (by decide) (by decide)))
  have Z28 : n0 ≤ h25.size := by rw [W25.size]; exact Z0
  have NF25 := Fr.snoc X25 N0 g_a1
  have K29 := K0.wr W25 (Or.inl (List.mem_of_getElem? (i := 0) rfl))
  have P30 : own_Pr p.tables e below S0 T25 (mkF m 9 #[.val (.ref a1), .val (.ref a2), .val (.int (0 : Int32))] []) := fun t k => P24 t (st25 _ k)
  have P31 : own_Pr p.tables e below S0 T25 (mkF m 11 #[.val (.ref a1), .val (.ref a2), .val (.int (0 : Int32))] [(.int (0 : Int32)), (.ref a1)]) := fun t k => P30 t (by
    refine XS.aloadN X25.here hx rfl (hb hby d30_9) rfl rfl ?_
    refine XS.iloadN X25.here hx rfl (hb hby d30_10) rfl ?_
    exact k)
  obtain ⟨T32, h32, X32, e32, W32, st32⟩ := putFN X25 hx hZ hown (hw _ (List.mem_of_getElem? (i := 38) rfl)) Via.refl e25 F27 F26 (Or.inr ⟨(hw _ (List.mem_of_getElem? (i := 39) rfl)), rfl, hnm⟩) (hw _ (List.mem_of_getElem? (i := 14) rfl)) (ty := .byte) (v' := (.int (0 : Int32))) (by decide) rfl rfl (g := (mkF m 11 #[.val (.ref a1), .val (.ref a2), .val (.int (0 : Int32))] [(.int (0 : Int32)), (.ref a1)])) rfl rfl (hb hby d30_11)
  have F32 := F27.same W32
  have F33 := F26.wr W32
  have F34 := F25.other W32 (Or.inr (slot_ne (Or.inr (hw _ (List.mem_of_getElem? (i := 41) rfl))) (Or.inr (hw _ (List.mem_of_getElem? (i := 39) rfl))) (by decide) (t := (.array .byte)) (t' := .byte) (by decide) (by decide)))
  have Z35 : n0 ≤ h32.size := by rw [W32.size]; exact Z28
  have NF32 := Fr.snoc X32 NF25 g_a1
  have K36 := K29.wr W32 (Or.inl (List.mem_of_getElem? (i := 0) rfl))
  have P37 : own_Pr p.tables e below S0 T32 (mkF m 14 #[.val (.ref a1), .val (.ref a2), .val (.int (0 : Int32))] []) := fun t k => P31 t (st32 _ k)
  obtain ⟨fs, hr, hrun, hended, hW, hsame⟩ := X32.leave (v := none) (fun _ => rfl)
  have fin : Steps p.tables e below S0 (T32.setFrames fs) := P37 _ (X32.returnOut hx Bd.returns (hb hby d30_14) hr)
  rw [hS0] at fin
  refine ⟨_, _, fin, hrun, hended, _, _, rfl, ?_, ⟨_, rfl⟩, hW, hsame.mono (by decide) (by decide)⟩
  show own_QI2 Z a1 a2 h0 n0 _ T32.heap _
  rw [e32]
  exact ⟨rfl, NF32, K36, F33, F32, F34⟩
theorem d25_0 : decode jdk_43_method_47_code 0 = .ok (.iload_n 2, 1) := by decide +kernel
theorem d25_1 : decode jdk_43_method_47_code 1 = .ok (.ifCond .ne 6, 3) := by decide +kernel
theorem d25_7 : decode jdk_43_method_47_code 7 = .ok (.new 1, 3) := by decide +kernel
theorem d25_10 : decode jdk_43_method_47_code 10 = .ok (.dup, 1) := by decide +kernel
theorem d25_11 : decode jdk_43_method_47_code 11 = .ok (.aload_n 0, 1) := by decide +kernel
theorem d25_12 : decode jdk_43_method_47_code 12 = .ok (.iload_n 1, 1) := by decide +kernel
theorem d25_13 : decode jdk_43_method_47_code 13 = .ok (.iload_n 1, 1) := by decide +kernel
theorem d25_14 : decode jdk_43_method_47_code 14 = .ok (.iload_n 2, 1) := by decide +kernel
theorem d25_15 : decode jdk_43_method_47_code 15 = .ok (.iadd, 1) := by decide +kernel
theorem d25_16 : decode jdk_43_method_47_code 16 = .ok (.invokestatic 232, 3) := by decide +kernel
theorem d25_19 : decode jdk_43_method_47_code 19 = .ok (.iconst 0, 1) := by decide +kernel
theorem d25_20 : decode jdk_43_method_47_code 20 = .ok (.invokespecial 112, 3) := by decide +kernel
theorem d25_23 : decode jdk_43_method_47_code 23 = .ok (.areturn, 1) := by decide +kernel
theorem pd_14 : parseMethodDescriptor "([BB)V" = some ⟨[(.array .byte), .byte], none⟩ := by decide +kernel
theorem ef_25 (m : MethodId) (a1 : Addr) (p2 : Int32) (p3 : Int32) : entryFrame m #[(.ref a1), (.int p2), (.int p3)] 3 = mkF m 0 #[.val (.ref a1), .val (.int p2), .val (.int p3)] [] := by first | (simp [entryFrame, mkF, argsToLocals, Value.category]; done) | rfl
set_option maxRecDepth 65536 in
set_option maxHeartbeats 40000000 in
theorem rm25 (l : Launch) (Z : State) (a0 : Array Value) (hw : ∀ d ∈ tables_1, d.before a0 Z = true) (ws : List Jvm.Cond) (a1 : Addr) (p2 : Int32) (p3 : Int32) (n p4 : Int32) (xs : List Int32) (kb : ClassId) (h0 : Heap) (n0 : Nat) (Z0 : n0 ≤ h0.size) (Av : Arv Z h0 a1 kb .byte n (xs.map Value.int) (.int 0)) (hq : p2 + p3 = p4) (hq' : p4 - p2 = p3) (h0' : ¬ p3 = (0 : Int32)) (h1 : ¬ p2 < (0 : Int32)) (h2 : p2 < p4) (h3 : ¬ n < p4) (h4 : ¬ (8 : Int32) < n) (h5 : ¬ (p2 = 0 ∧ p4 = n)) :
    MetFree l (⟨"java/lang/StringLatin1", "newString", "([BII)Ljava/lang/String;"⟩ : MethodName) (head1 (Jvm.Cond.code (⟨"java/lang/StringLatin1", "newString", "([BII)Ljava/lang/String;"⟩ : MethodName) jdk_43_method_47_code 3 (some (.object "java/lang/String")) :: ws) ({ frames := 3, cells := 2, slots := 12, locals := 72 } : Room)) (fun a U => a = #[(.ref a1), (.int p2), (.int p3)] ∧ Z.Warmed39 U.vm ∧ U.heap = h0) (fun _ _ _ _ _ => True) (fun _ U o U' => ∃ v L, o = .returned v ∧ own_QU Z xs p2 p3 h0 n0 v U'.heap L ∧ FrameEnd U o U' L ({ frames := 3, cells := 2, slots := 12, locals := 72 } : Room).cells ({ frames := 3, cells := 2, slots := 12, locals := 72 } : Room).slots) := by
  refine MetFree.of_bodySF (plainFor_of_name pn_17) hisR ?_
  intro p e s m args below meth c s₁ Bd hml0 hP hK
  obtain ⟨rfl, hZ, hh⟩ := hP
  have hx := Bd.exec
  have hby := Bd.bytes
  have hml : c.maxLocals = 3 := hml0
  have hown : s.vm.findClass "java/lang/StringLatin1" = some m.cls := findClass_of_methodNamed Bd.named
  have hnm := (name_of_methodNamed Bd.named Bd.method).1
  have X0 : Stand p l e ({ frames := 3, cells := 2, slots := 12, locals := 72 } : Room) s m #[(.ref a1), (.int p2), (.int p3)] below meth c s₁ [] 0 0 := Stand.of_body Bd
  have e0 : s₁.heap = h0 := by rw [← hh, Bd.state]; rfl
  have N0 := Fr.nil n0
  obtain ⟨S0, hS0⟩ : ∃ z, z = s₁.setTop (entryFrame m #[(.ref a1), (.int p2), (.int p3)] 3) := ⟨_, rfl⟩
  have P0 : own_Pr p.tables e below S0 s₁ (mkF m 0 #[.val (.ref a1), .val (.int p2), .val (.int p3)] []) := fun t k => hS0 ▸ castTop (ef_25 m a1 p2 p3) k
  have K0 := Keep.refl h0 []
  have P21 : own_Pr p.tables e below S0 s₁ (mkF m 7 #[.val (.ref a1), .val (.int p2), .val (.int p3)] []) := fun t k => P0 t (by
    refine XS.iloadN X0.here hx rfl (hb hby d25_0) rfl ?_
    refine XS.ifYes X0.here hx rfl (pc0 := 1) (pc' := 7) rfl (hb hby d25_1) rfl (XT.i0_ne_t h0') (by decide) (by decide) ?_
    exact k)
  obtain ⟨T22, h22, X22, e22, E22, A22, D22, -, st22⟩ := newO X0 hx hZ hown (hw _ (List.mem_of_getElem? (i := 108) rfl)) (hw _ (List.mem_of_getElem? (i := 14) rfl)) (hw _ (List.mem_of_getElem? (i := 15) rfl)) e0 (g := (mkF m 7 #[.val (.ref a1), .val (.int p2), .val (.int p3)] [])) rfl (hb hby d25_7) (by decide) (by decide)
  obtain ⟨b22, g22⟩ : ∃ z, z = h0.size := ⟨_, rfl⟩
  rw [← g22] at A22 D22 st22
  have g_b22 : n0 ≤ b22 := Nat.le_trans Z0 (Nat.le_of_eq g22.symm)
  have sz_b22 : h0.size ≤ b22 := Nat.le_trans K0.1 (Nat.le_of_eq g22.symm)
  have ne_a1_b22 : a1 ≠ b22 := Nat.ne_of_lt (Nat.lt_of_lt_of_le Av.lt (Nat.le_of_eq g22.symm))
  have F23 := Av.ext E22
  have Z24 : n0 ≤ h22.size := Nat.le_trans Z0 E22.1
  have K25 := K0.ext E22
  have F26 : Fld Z h22 b22 "java/lang/String" "coder" "B" (.int (0 : Int32)) := D22 (Or.inr (hw _ (List.mem_of_getElem? (i := 39) rfl))) (ty := .byte) (by decide)
  have F27 : Fld Z h22 b22 "java/lang/String" "value" "[B" .null := D22 (Or.inr (hw _ (List.mem_of_getElem? (i := 41) rfl))) (ty := (.array .byte)) (by decide)
  have P28 : own_Pr p.tables e below S0 T22 (mkF m 10 #[.val (.ref a1), .val (.int p2), .val (.int p3)] [(.ref b22)]) := fun t k => P21 t (st22 _ k)
  have P29 : own_Pr p.tables e below S0 T22 (mkF m 16 #[.val (.ref a1), .val (.int p2), .val (.int p3)] [(.int (p2 + p3)), (.int p2), (.ref a1), (.ref b22), (.ref b22)]) := fun t k => P28 t (by
    refine XS.dup X22.here hx rfl (hb hby d25_10) rfl rfl ?_
    refine XS.aloadN X22.here hx rfl (hb hby d25_11) rfl rfl ?_
    refine XS.iloadN X22.here hx rfl (hb hby d25_12) rfl ?_
    refine XS.iloadN X22.here hx rfl (hb hby d25_13) rfl ?_
    refine XS.iloadN X22.here hx rfl (hb hby d25_14) rfl ?_
    refine XS.iadd X22.here hx rfl (hb hby d25_15) rfl ?_
    exact k)
  obtain ⟨_, _, ⟨T30, L30, k30, n30⟩, -, X30, ⟨Lc30, hQ30, l30, y30, z30⟩, st30⟩ := Jvm.LawKit.callS X22 hx (y := (⟨"java/util/Arrays", "copyOfRange", "([BII)[B"⟩ : MethodName)) hown (mvT hZ (hw _ (List.mem_of_getElem? (i := 109) rfl))) (mvT hZ (hw _ (List.mem_of_getElem? (i := 110) rfl))) (mvT hZ (hw _ (List.mem_of_getElem? (i := 111) rfl))) (mvT hZ (hw _ (List.mem_of_getElem? (i := 112) rfl))) (by decide) (backOf (W := 2) (rm26 l Z a0 hw [] a1 p2 (p2 + p3) n xs kb h22 n0 Z24 F23 h1 (by rw [hq]; exact h2) (by rw [hq]; exact h3) h4 (by rw [hq]; exact h5)) hZ (hw _ (List.mem_of_getElem? (i := 112) rfl)) (hw _ (List.mem_of_getElem? (i := 111) rfl)) (by decide) (by decide)) (g := (mkF m 16 #[.val (.ref a1), .val (.int p2), .val (.int p3)] [(.int (p2 + p3)), (.int p2), (.ref a1), (.ref b22), (.ref b22)])) rfl (by rw [hml]; rfl) (argsL := [(.ref a1), (.int p2), (.int (p2 + p3))]) (rest := [(.ref b22), (.ref b22)]) (lenOf pd_13 rfl) rfl (by show 2 * 0 + _ ≤ _; exact Nat.le_of_eq rfl) (hb hby d25_16) (fun _ _ => ⟨rfl, e22, (by decide : 1 + 1 ≤ _), (by decide : 4 + 8 ≤ _)⟩)
  dsimp only [Pt.U, Pt.locs, Pt.cells, Pt.slots] at X30 l30 y30 z30 st30 hQ30
  rw [l30, y30, z30] at X30
  have X30 := X30.mono (cells' := 2) (slots' := 12) (by decide) (by decide)
  obtain ⟨b30, kk30, ys30, rfl, Nq30, Kq30, sz30, Vq30, hy30⟩ := hQ30
  have N30n := Fr.app N0 Nq30
  have F32 := A22.keep Kq30
  have F33 := F26.keep Kq30 nin0
  have F34 := F27.keep Kq30 nin0
  have ne_b30_b22 : b30 ≠ b22 := (Nat.ne_of_lt (Nat.lt_of_lt_of_le A22.lt sz30)).symm
  have K30n := K25.trans Kq30 all0
  have Z30n := Nat.le_trans Z24 Kq30.1
  have P35 : own_Pr p.tables e below S0 T30 (mkF m 19 #[.val (.ref a1), .val (.int p2), .val (.int p3)] [(.ref b30), (.ref b22), (.ref b22)]) := fun t k => P29 t (st30 _ k)
  have P36 : own_Pr p.tables e below S0 T30 (mkF m 20 #[.val (.ref a1), .val (.int p2), .val (.int p3)] [(.int (0 : Int32)), (.ref b30), (.ref b22), (.ref b22)]) := fun t k => P35 t (by
    refine XS.iconst X30.here hx rfl (hb hby d25_19) ?_
    exact k)
  obtain ⟨_, _, ⟨T37, L37, k37, n37⟩, -, X37, ⟨Lc37, hQ37, l37, y37, z37⟩, st37⟩ := X30.specialBack hx (y := (⟨"java/lang/String", "<init>", "([BB)V"⟩ : MethodName)) rfl hown (mvT hZ (hw _ (List.mem_of_getElem? (i := 127) rfl))) (mvT hZ (hw _ (List.mem_of_getElem? (i := 128) rfl))) (mvT hZ (hw _ (List.mem_of_getElem? (i := 129) rfl))) (by decide) (backOf (W := 1) (rm30 l Z a0 hw [] b22 b30 T30.heap n0 Z30n F32 F33 F34 g_b22) hZ (hw _ (List.mem_of_getElem? (i := 129) rfl)) (hw _ (List.mem_of_getElem? (i := 15) rfl)) (by decide) (by decide)) (g := (mkF m 20 #[.val (.ref a1), .val (.int p2), .val (.int p3)] [(.int (0 : Int32)), (.ref b30), (.ref b22), (.ref b22)])) rfl (by rw [hml]; rfl) (Steps.refl _) (a := b22) (argsL := [(.ref b30), (.int (0 : Int32))]) (rest := [(.ref b22)]) (lenOf pd_14 rfl) rfl (by show 2 * 0 + _ ≤ _; exact Nat.le_of_eq rfl) (hb hby d25_20) (fun _ _ => ⟨rfl, rfl, (by decide : 2 + 0 ≤ _), (by decide : 12 + 0 ≤ _)⟩)
  dsimp only [Pt.U, Pt.locs, Pt.cells, Pt.slots] at X37 l37 y37 z37 st37 hQ37
  rw [l37, y37, z37] at X37
  have X37 := X37.mono (cells' := 2) (slots' := 12) (by decide) (by decide)
  obtain ⟨rfl, Nq37, Kq37, Eq37, Cq37, Wq37⟩ := hQ37
  have N37n := Fr.app N30n Nq37
  have Vq37 := Vq30.keep Kq37 (ninS ne_b30_b22 nin0)
  have K37n := K30n.trans Kq37 (allS (Or.inr sz_b22) all0)
  have P38 : own_Pr p.tables e below S0 T37 (mkF m 23 #[.val (.ref a1), .val (.int p2), .val (.int p3)] [(.ref b22)]) := fun t k => P36 t (st37.trans k)
  obtain ⟨fs, hr, hrun, hended, hW, hsame⟩ := X37.leave (v := some (.ref b22)) (fun h => by rw [Bd.returns] at h; cases h)
  have fin : Steps p.tables e below S0 (T37.setFrames fs) := P38 _ (by
    jvm_step X37.here [X37.here.top, hx, (hb hby d25_23), X37.method', Bd.returns, Value.isRef, FieldType.isReference]
    first | (intro acts; rw [hr _ acts rfl rfl rfl]) | rw [hr _ _ rfl rfl rfl]
    exact Steps.refl _)
  rw [hS0] at fin
  refine ⟨_, _, fin, hrun, hended, _, _, rfl, ?_, ⟨_, rfl⟩, hW, hsame.mono (by decide) (by decide)⟩
  show own_QU Z xs p2 p3 h0 n0 _ T37.heap _
  exact ⟨_, ys30, rfl, N37n, K37n, ⟨_, _, Eq37, Cq37, Wq37, (by have q := Vq37; rw [hq, hq'] at q; exact q)⟩, (by have q := hy30; rw [hq, hq'] at q; exact q)⟩
theorem d22_0 : decode jdk_42_method_92_code 0 = .ok (.aload_n 0, 1) := by decide +kernel
theorem d22_1 : decode jdk_42_method_92_code 1 = .ok (.invokevirtual 505, 3) := by decide +kernel
theorem d22_4 : decode jdk_42_method_92_code 4 = .ok (.istore_n 3, 1) := by decide +kernel
theorem d22_5 : decode jdk_42_method_92_code 5 = .ok (.iload_n 1, 1) := by decide +kernel
theorem d22_6 : decode jdk_42_method_92_code 6 = .ok (.iload_n 2, 1) := by decide +kernel
theorem d22_7 : decode jdk_42_method_92_code 7 = .ok (.iload_n 3, 1) := by decide +kernel
theorem d22_8 : decode jdk_42_method_92_code 8 = .ok (.invokestatic 521, 3) := by decide +kernel
theorem d22_11 : decode jdk_42_method_92_code 11 = .ok (.iload_n 1, 1) := by decide +kernel
theorem d22_12 : decode jdk_42_method_92_code 12 = .ok (.ifCond .ne 10, 3) := by decide +kernel
theorem d22_15 : decode jdk_42_method_92_code 15 = .ok (.iload_n 2, 1) := by decide +kernel
theorem d22_16 : decode jdk_42_method_92_code 16 = .ok (.iload_n 3, 1) := by decide +kernel
theorem d22_17 : decode jdk_42_method_92_code 17 = .ok (.if_icmp .ne 5, 3) := by decide +kernel
theorem d22_20 : decode jdk_42_method_92_code 20 = .ok (.aload_n 0, 1) := by decide +kernel
theorem d22_21 : decode jdk_42_method_92_code 21 = .ok (.areturn, 1) := by decide +kernel
theorem d22_22 : decode jdk_42_method_92_code 22 = .ok (.iload_n 2, 1) := by decide +kernel
theorem d22_23 : decode jdk_42_method_92_code 23 = .ok (.iload_n 1, 1) := by decide +kernel
theorem d22_24 : decode jdk_42_method_92_code 24 = .ok (.isub, 1) := by decide +kernel
theorem d22_25 : decode jdk_42_method_92_code 25 = .ok (.istore 4, 2) := by decide +kernel
theorem d22_27 : decode jdk_42_method_92_code 27 = .ok (.aload_n 0, 1) := by decide +kernel
theorem d22_28 : decode jdk_42_method_92_code 28 = .ok (.invokevirtual 492, 3) := by decide +kernel
theorem d22_31 : decode jdk_42_method_92_code 31 = .ok (.ifCond .eq 16, 3) := by decide +kernel
theorem d22_34 : decode jdk_42_method_92_code 34 = .ok (.aload_n 0, 1) := by decide +kernel
theorem d22_35 : decode jdk_42_method_92_code 35 = .ok (.getfield 9, 3) := by decide +kernel
theorem d22_38 : decode jdk_42_method_92_code 38 = .ok (.iload_n 1, 1) := by decide +kernel
theorem d22_39 : decode jdk_42_method_92_code 39 = .ok (.iload 4, 2) := by decide +kernel
theorem d22_41 : decode jdk_42_method_92_code 41 = .ok (.invokestatic 685, 3) := by decide +kernel
theorem d22_44 : decode jdk_42_method_92_code 44 = .ok (.goto 13, 3) := by decide +kernel
theorem d22_57 : decode jdk_42_method_92_code 57 = .ok (.areturn, 1) := by decide +kernel
theorem pd_15 : parseMethodDescriptor "()I" = some ⟨[], some .int⟩ := by decide +kernel
theorem pd_16 : parseMethodDescriptor "(III)V" = some ⟨[.int, .int, .int], none⟩ := by decide +kernel
theorem pd_17 : parseMethodDescriptor "([BII)Ljava/lang/String;" = some ⟨[(.array .byte), .int, .int], some (.object "java/lang/String")⟩ := by decide +kernel
theorem ef_22 (m : MethodId) (a1 : Addr) (p2 : Int32) (p3 : Int32) : entryFrame m #[(.ref a1), (.int p2), (.int p3)] 5 = mkF m 0 #[.val (.ref a1), .val (.int p2), .val (.int p3), .unset, .unset] [] := by first | (simp [entryFrame, mkF, argsToLocals, Value.category]; done) | rfl
set_option maxRecDepth 65536 in
set_option maxHeartbeats 40000000 in
theorem rm22 (l : Launch) (Z : State) (a0 : Array Value) (hw : ∀ d ∈ tables_1, d.before a0 Z = true) (ws : List Jvm.Cond) (a1 : Addr) (p2 : Int32) (p3 : Int32) (n : Int32) (xs : List Int32) (cs : Int32) (fm : Value) (h0 : Heap) (n0 : Nat) (Z0 : n0 ≤ h0.size) (Sa : own_Sc Z h0 a1 n xs) (CS : Sta Z h0 "java/lang/String" "COMPACT_STRINGS" "Z" (.int cs)) (hcs : ¬ cs = (0 : Int32)) (FM : Sta Z h0 "jdk/internal/util/Preconditions" "SIOOBE_FORMATTER" "Ljava/util/function/BiFunction;" fm) (hr_fm : fm.isRef = true) (h1 : ¬ p2 < (0 : Int32)) (h2 : p2 < p3) (h3 : ¬ n < p3) (h4 : ¬ (8 : Int32) < n) :
    MetFree l (⟨"java/lang/String", "substring", "(II)Ljava/lang/String;"⟩ : MethodName) (head1 (Jvm.Cond.code (⟨"java/lang/String", "substring", "(II)Ljava/lang/String;"⟩ : MethodName) jdk_42_method_92_code 5 (some (.object "java/lang/String")) :: ws) ({ frames := 4, cells := 2, slots := 12, locals := 86 } : Room)) (fun a U => a = #[(.ref a1), (.int p2), (.int p3)] ∧ Z.Warmed39 U.vm ∧ U.heap = h0) (fun _ _ _ _ _ => True) (fun _ U o U' => ∃ v L, o = .returned v ∧ own_QU Z xs p2 (p3 - p2) h0 n0 v U'.heap L ∧ FrameEnd U o U' L ({ frames := 4, cells := 2, slots := 12, locals := 86 } : Room).cells ({ frames := 4, cells := 2, slots := 12, locals := 86 } : Room).slots) := by
  refine MetFree.of_bodySF (plainFor_of_name pn_14) hisR ?_
  intro p e s m args below meth c s₁ Bd hml0 hP hK
  obtain ⟨rfl, hZ, hh⟩ := hP
  have hx := Bd.exec
  have hby := Bd.bytes
  have hml : c.maxLocals = 5 := hml0
  have hown : s.vm.findClass "java/lang/String" = some m.cls := findClass_of_methodNamed Bd.named
  have hnm := (name_of_methodNamed Bd.named Bd.method).1
  have X0 : Stand p l e ({ frames := 4, cells := 2, slots := 12, locals := 86 } : Room) s m #[(.ref a1), (.int p2), (.int p3)] below meth c s₁ [] 0 0 := Stand.of_body Bd
  have e0 : s₁.heap = h0 := by rw [← hh, Bd.state]; rfl
  have N0 := Fr.nil n0
  obtain ⟨S0, hS0⟩ : ∃ z, z = s₁.setTop (entryFrame m #[(.ref a1), (.int p2), (.int p3)] 5) := ⟨_, rfl⟩
  have P0 : own_Pr p.tables e below S0 s₁ (mkF m 0 #[.val (.ref a1), .val (.int p2), .val (.int p3), .unset, .unset] []) := fun t k => hS0 ▸ castTop (ef_22 m a1 p2 p3) k
  have hs := own_sub1 h1 h2 h3 h4
  obtain ⟨vb, kb, Es, Fc, Fv, Av⟩ := id Sa
  have P21 : own_Pr p.tables e below S0 s₁ (mkF m 1 #[.val (.ref a1), .val (.int p2), .val (.int p3), .unset, .unset] [(.ref a1)]) := fun t k => P0 t (by
    refine XS.aloadN X0.here hx rfl (hb hby d22_0) rfl rfl ?_
    exact k)
  obtain ⟨cq22, kq22, q22a, q22b, q22c⟩ := isOf hZ e0 Es
  obtain ⟨_, _, ⟨T22, L22, k22, n22⟩, -, X22, ⟨Lc22, hQ22, l22, y22, z22⟩, st22⟩ := X0.virtualBack hx (y := (⟨"java/lang/String", "length", "()I"⟩ : MethodName)) (z := (⟨"java/lang/String", "length", "()I"⟩ : MethodName)) hown (mvT hZ (hw _ (List.mem_of_getElem? (i := 98) rfl))) (mvT hZ (hw _ (List.mem_of_getElem? (i := 54) rfl))) (notFace_of_selects (args := #[]) (mvT hZ (hw _ (List.mem_of_getElem? (i := 56) rfl)))) (mvT hZ (hw _ (List.mem_of_getElem? (i := 56) rfl))) (mvT hZ (hw _ (List.mem_of_getElem? (i := 55) rfl))) (by decide) (backOf (W := 0) (rm13 l Z a0 hw [] a1 n xs cs h0 n0 Z0 Sa CS hcs) hZ (hw _ (List.mem_of_getElem? (i := 57) rfl)) (hw _ (List.mem_of_getElem? (i := 15) rfl)) (by decide) (by decide)) q22a q22c (g := (mkF m 1 #[.val (.ref a1), .val (.int p2), .val (.int p3), .unset, .unset] [(.ref a1)])) rfl (by rw [hml]; rfl) (Steps.refl _) (argsL := []) (rest := []) (lenOf pd_15 rfl) rfl (by show 2 * 0 + _ ≤ _; exact Nat.le_of_eq rfl) (hb hby d22_1) (fun _ _ => ⟨rfl, e0, (by decide : 0 + 0 ≤ _), (by decide : 0 + 0 ≤ _)⟩)
  dsimp only [Pt.U, Pt.locs, Pt.cells, Pt.slots] at X22 l22 y22 z22 st22 hQ22
  rw [l22, y22, z22] at X22
  have X22 := X22.mono (cells' := 0) (slots' := 0) (by decide) (by decide)
  obtain ⟨z22v, rfl, hz22v, Nq22, eq22⟩ := hQ22
  have N22n := Fr.app N0 Nq22
  have hy22 := hz22v.symm; subst hy22
  have P23 : own_Pr p.tables e below S0 T22 (mkF m 4 #[.val (.ref a1), .val (.int p2), .val (.int p3), .unset, .unset] [(.int n)]) := fun t k => P21 t (st22.trans k)
  have P24 : own_Pr p.tables e below S0 T22 (mkF m 8 #[.val (.ref a1), .val (.int p2), .val (.int p3), .val (.int n), .unset] [(.int n), (.int p3), (.int p2)]) := fun t k => P23 t (by
    refine XS.istoreN X22.here hx rfl (hb hby d22_4) rfl (l' := #[.val (.ref a1), .val (.int p2), .val (.int p3), .val (.int n), .unset]) rfl ?_
    refine XS.iloadN X22.here hx rfl (hb hby d22_5) rfl ?_
    refine XS.iloadN X22.here hx rfl (hb hby d22_6) rfl ?_
    refine XS.iloadN X22.here hx rfl (hb hby d22_7) rfl ?_
    exact k)
  obtain ⟨_, _, ⟨T25, L25, k25, n25⟩, -, X25, ⟨Lc25, hQ25, l25, y25, z25⟩, st25⟩ := Jvm.LawKit.callS X22 hx (y := (⟨"java/lang/String", "checkBoundsBeginEnd", "(III)V"⟩ : MethodName)) hown (mvT hZ (hw _ (List.mem_of_getElem? (i := 99) rfl))) (mvT hZ (hw _ (List.mem_of_getElem? (i := 100) rfl))) (mvT hZ (hw _ (List.mem_of_getElem? (i := 15) rfl))) (mvT hZ (hw _ (List.mem_of_getElem? (i := 101) rfl))) (by decide) (backOf (W := 0) (rm23 l Z a0 hw [] p2 p3 n fm h0 n0 Z0 FM hr_fm h1 hs.2.2.1 h3) hZ (hw _ (List.mem_of_getElem? (i := 101) rfl)) (hw _ (List.mem_of_getElem? (i := 15) rfl)) (by decide) (by decide)) (g := (mkF m 8 #[.val (.ref a1), .val (.int p2), .val (.int p3), .val (.int n), .unset] [(.int n), (.int p3), (.int p2)])) rfl (by rw [hml]; rfl) (argsL := [(.int p2), (.int p3), (.int n)]) (rest := []) (lenOf pd_16 rfl) rfl (by show 2 * 0 + _ ≤ _; exact Nat.le_of_eq rfl) (hb hby d22_8) (fun _ _ => ⟨rfl, eq22, (by decide : 0 + 0 ≤ _), (by decide : 0 + 0 ≤ _)⟩)
  dsimp only [Pt.U, Pt.locs, Pt.cells, Pt.slots] at X25 l25 y25 z25 st25 hQ25
  rw [l25, y25, z25] at X25
  have X25 := X25.mono (cells' := 0) (slots' := 0) (by decide) (by decide)
  obtain ⟨rfl, Nq25, eq25⟩ := hQ25
  have N25n := Fr.app N22n Nq25
  have P26 : own_Pr p.tables e below S0 T25 (mkF m 11 #[.val (.ref a1), .val (.int p2), .val (.int p3), .val (.int n), .unset] []) := fun t k => P24 t (st25 _ k)
  have P27 : own_Pr p.tables e below S0 T25 (mkF m 12 #[.val (.ref a1), .val (.int p2), .val (.int p3), .val (.int n), .unset] [(.int p2)]) := fun t k => P26 t (by
    refine XS.iloadN X25.here hx rfl (hb hby d22_11) rfl ?_
    exact k)
  by_cases hc12_28 : p2 = (0 : Int32)
  · have P29 : own_Pr p.tables e below S0 T25 (mkF m 17 #[.val (.ref a1), .val (.int p2), .val (.int p3), .val (.int n), .unset] [(.int n), (.int p3)]) := fun t k => P27 t (by
      refine XS.ifNo X25.here hx rfl (hb hby d22_12) rfl (XT.i0_ne_f hc12_28) ?_
      refine XS.iloadN X25.here hx rfl (hb hby d22_15) rfl ?_
      refine XS.iloadN X25.here hx rfl (hb hby d22_16) rfl ?_
      exact k)
    by_cases hc17_30 : p3 = n
    · have P31 : own_Pr p.tables e below S0 T25 (mkF m 21 #[.val (.ref a1), .val (.int p2), .val (.int p3), .val (.int n), .unset] [(.ref a1)]) := fun t k => P29 t (by
        refine XS.icmpNo X25.here hx rfl (hb hby d22_17) rfl (XT.ii_ne_f hc17_30) ?_
        refine XS.aloadN X25.here hx rfl (hb hby d22_20) rfl rfl ?_
        exact k)
      obtain ⟨fs, hr, hrun, hended, hW, hsame⟩ := X25.leave (v := some (.ref a1)) (fun h => by rw [Bd.returns] at h; cases h)
      have fin : Steps p.tables e below S0 (T25.setFrames fs) := P31 _ (by
        jvm_step X25.here [X25.here.top, hx, (hb hby d22_21), X25.method', Bd.returns, Value.isRef, FieldType.isReference]
        first | (intro acts; rw [hr _ acts rfl rfl rfl]) | rw [hr _ _ rfl rfl rfl]
        exact Steps.refl _)
      rw [hS0] at fin
      refine ⟨_, _, fin, hrun, hended, _, _, rfl, ?_, ⟨_, rfl⟩, hW, hsame.mono (by decide) (by decide)⟩
      show own_QU Z xs p2 (p3 - p2) h0 n0 _ T25.heap _
      rw [eq25]
      exact ⟨_, xs, rfl, N25n, Keep.refl _ _, (by rw [hc17_30, hc12_28, Int32.sub_zero]; exact Sa), fun j _ => by rw [hc12_28]; show _ = xs.getD (0 + j) 0; rw [Nat.zero_add]⟩
    · have P32 : own_Pr p.tables e below S0 T25 (mkF m 28 #[.val (.ref a1), .val (.int p2), .val (.int p3), .val (.int n), .val (.int (p3 - p2))] [(.ref a1)]) := fun t k => P29 t (by
        refine XS.icmpYes X25.here hx rfl (pc0 := 17) (pc' := 22) rfl (hb hby d22_17) rfl (XT.ii_ne_t hc17_30) (by decide) (by decide) ?_
        refine XS.iloadN X25.here hx rfl (hb hby d22_22) rfl ?_
        refine XS.iloadN X25.here hx rfl (hb hby d22_23) rfl ?_
        refine XS.isub X25.here hx rfl (hb hby d22_24) rfl ?_
        refine XS.istore X25.here hx rfl (hb hby d22_25) rfl (l' := #[.val (.ref a1), .val (.int p2), .val (.int p3), .val (.int n), .val (.int (p3 - p2))]) rfl ?_
        refine XS.aloadN X25.here hx rfl (hb hby d22_27) rfl rfl ?_
        exact k)
      obtain ⟨cq33, kq33, q33a, q33b, q33c⟩ := isOf hZ eq25 Es
      obtain ⟨_, _, ⟨T33, L33, k33, n33⟩, -, X33, ⟨Lc33, hQ33, l33, y33, z33⟩, st33⟩ := X25.virtualBack hx (y := (⟨"java/lang/String", "isLatin1", "()Z"⟩ : MethodName)) (z := (⟨"java/lang/String", "isLatin1", "()Z"⟩ : MethodName)) hown (mvT hZ (hw _ (List.mem_of_getElem? (i := 68) rfl))) (mvT hZ (hw _ (List.mem_of_getElem? (i := 69) rfl))) (notFace_of_selects (args := #[]) (mvT hZ (hw _ (List.mem_of_getElem? (i := 71) rfl)))) (mvT hZ (hw _ (List.mem_of_getElem? (i := 71) rfl))) (mvT hZ (hw _ (List.mem_of_getElem? (i := 70) rfl))) (by decide) (backOf (W := 0) (rm16 l Z a0 hw [] a1 cs h0 n0 Z0 Fc CS hcs) hZ (hw _ (List.mem_of_getElem? (i := 72) rfl)) (hw _ (List.mem_of_getElem? (i := 15) rfl)) (by decide) (by decide)) q33a q33c (g := (mkF m 28 #[.val (.ref a1), .val (.int p2), .val (.int p3), .val (.int n), .val (.int (p3 - p2))] [(.ref a1)])) rfl (by rw [hml]; rfl) (Steps.refl _) (argsL := []) (rest := []) (lenOf pd_3 rfl) rfl (by show 2 * 0 + _ ≤ _; exact Nat.le_of_eq rfl) (hb hby d22_28) (fun _ _ => ⟨rfl, eq25, (by decide : 0 + 0 ≤ _), (by decide : 0 + 0 ≤ _)⟩)
      dsimp only [Pt.U, Pt.locs, Pt.cells, Pt.slots] at X33 l33 y33 z33 st33 hQ33
      rw [l33, y33, z33] at X33
      have X33 := X33.mono (cells' := 0) (slots' := 0) (by decide) (by decide)
      obtain ⟨z33v, rfl, hz33v, Nq33, eq33⟩ := hQ33
      have N33n := Fr.app N25n Nq33
      have hy33 := hz33v.symm; subst hy33
      have P34 : own_Pr p.tables e below S0 T33 (mkF m 31 #[.val (.ref a1), .val (.int p2), .val (.int p3), .val (.int n), .val (.int (p3 - p2))] [(.int (1 : Int32))]) := fun t k => P32 t (st33.trans k)
      have P35 : own_Pr p.tables e below S0 T33 (mkF m 35 #[.val (.ref a1), .val (.int p2), .val (.int p3), .val (.int n), .val (.int (p3 - p2))] [(.ref a1)]) := fun t k => P34 t (by
        refine XS.ifNo X33.here hx rfl (hb hby d22_31) rfl (by decide) ?_
        refine XS.aloadN X33.here hx rfl (hb hby d22_34) rfl rfl ?_
        exact k)
      obtain ⟨T36, X36, e36, st36⟩ := getF X33 hx hZ hown (host := "") (Or.inl (hw _ (List.mem_of_getElem? (i := 40) rfl))) Via.refl eq33 Fv (g := (mkF m 35 #[.val (.ref a1), .val (.int p2), .val (.int p3), .val (.int n), .val (.int (p3 - p2))] [(.ref a1)])) rfl rfl (hb hby d22_35)
      have P37 : own_Pr p.tables e below S0 T36 (mkF m 38 #[.val (.ref a1), .val (.int p2), .val (.int p3), .val (.int n), .val (.int (p3 - p2))] [(.ref vb)]) := fun t k => P35 t (st36 _ k)
      have P38 : own_Pr p.tables e below S0 T36 (mkF m 41 #[.val (.ref a1), .val (.int p2), .val (.int p3), .val (.int n), .val (.int (p3 - p2))] [(.int (p3 - p2)), (.int p2), (.ref vb)]) := fun t k => P37 t (by
        refine XS.iloadN X36.here hx rfl (hb hby d22_38) rfl ?_
        refine XS.iload X36.here hx rfl (hb hby d22_39) rfl ?_
        exact k)
      obtain ⟨_, _, ⟨T39, L39, k39, n39⟩, -, X39, ⟨Lc39, hQ39, l39, y39, z39⟩, st39⟩ := Jvm.LawKit.callS X36 hx (y := (⟨"java/lang/StringLatin1", "newString", "([BII)Ljava/lang/String;"⟩ : MethodName)) hown (mvT hZ (hw _ (List.mem_of_getElem? (i := 105) rfl))) (mvT hZ (hw _ (List.mem_of_getElem? (i := 106) rfl))) (mvT hZ (hw _ (List.mem_of_getElem? (i := 75) rfl))) (mvT hZ (hw _ (List.mem_of_getElem? (i := 107) rfl))) (by decide) (backOf (W := 0) (rm25 l Z a0 hw [] vb p2 (p3 - p2) n p3 xs kb h0 n0 Z0 Av hs.2.2.2.2.2.2.1 rfl hs.2.2.2.2.2.1 h1 h2 h3 h4 (fun q => hc17_30 q.2)) hZ (hw _ (List.mem_of_getElem? (i := 107) rfl)) (hw _ (List.mem_of_getElem? (i := 75) rfl)) (by decide) (by decide)) (g := (mkF m 41 #[.val (.ref a1), .val (.int p2), .val (.int p3), .val (.int n), .val (.int (p3 - p2))] [(.int (p3 - p2)), (.int p2), (.ref vb)])) rfl (by rw [hml]; rfl) (argsL := [(.ref vb), (.int p2), (.int (p3 - p2))]) (rest := []) (lenOf pd_17 rfl) rfl (by show 2 * 0 + _ ≤ _; exact Nat.le_of_eq rfl) (hb hby d22_41) (fun _ _ => ⟨rfl, e36, (by decide : 0 + 2 ≤ _), (by decide : 0 + 12 ≤ _)⟩)
      dsimp only [Pt.U, Pt.locs, Pt.cells, Pt.slots] at X39 l39 y39 z39 st39 hQ39
      rw [l39, y39, z39] at X39
      have X39 := X39.mono (cells' := 2) (slots' := 12) (by decide) (by decide)
      obtain ⟨s39, ys39, rfl, Nq39, Kq39, Sq39, hy39⟩ := hQ39
      have N39n := Fr.app N33n Nq39
      have P40 : own_Pr p.tables e below S0 T39 (mkF m 44 #[.val (.ref a1), .val (.int p2), .val (.int p3), .val (.int n), .val (.int (p3 - p2))] [(.ref s39)]) := fun t k => P38 t (st39 _ k)
      have P41 : own_Pr p.tables e below S0 T39 (mkF m 57 #[.val (.ref a1), .val (.int p2), .val (.int p3), .val (.int n), .val (.int (p3 - p2))] [(.ref s39)]) := fun t k => P40 t (by
        refine XS.goto X39.here hx rfl (pc0 := 44) (pc' := 57) rfl (hb hby d22_44) (by decide) (by decide) ?_
        exact k)
      obtain ⟨fs, hr, hrun, hended, hW, hsame⟩ := X39.leave (v := some (.ref s39)) (fun h => by rw [Bd.returns] at h; cases h)
      have fin : Steps p.tables e below S0 (T39.setFrames fs) := P41 _ (by
        jvm_step X39.here [X39.here.top, hx, (hb hby d22_57), X39.method', Bd.returns, Value.isRef, FieldType.isReference]
        first | (intro acts; rw [hr _ acts rfl rfl rfl]) | rw [hr _ _ rfl rfl rfl]
        exact Steps.refl _)
      rw [hS0] at fin
      refine ⟨_, _, fin, hrun, hended, _, _, rfl, ?_, ⟨_, rfl⟩, hW, hsame.mono (by decide) (by decide)⟩
      show own_QU Z xs p2 (p3 - p2) h0 n0 _ T39.heap _
      exact ⟨_, ys39, rfl, N39n, Kq39, Sq39, hy39⟩
  · have P42 : own_Pr p.tables e below S0 T25 (mkF m 28 #[.val (.ref a1), .val (.int p2), .val (.int p3), .val (.int n), .val (.int (p3 - p2))] [(.ref a1)]) := fun t k => P27 t (by
      refine XS.ifYes X25.here hx rfl (pc0 := 12) (pc' := 22) rfl (hb hby d22_12) rfl (XT.i0_ne_t hc12_28) (by decide) (by decide) ?_
      refine XS.iloadN X25.here hx rfl (hb hby d22_22) rfl ?_
      refine XS.iloadN X25.here hx rfl (hb hby d22_23) rfl ?_
      refine XS.isub X25.here hx rfl (hb hby d22_24) rfl ?_
      refine XS.istore X25.here hx rfl (hb hby d22_25) rfl (l' := #[.val (.ref a1), .val (.int p2), .val (.int p3), .val (.int n), .val (.int (p3 - p2))]) rfl ?_
      refine XS.aloadN X25.here hx rfl (hb hby d22_27) rfl rfl ?_
      exact k)
    obtain ⟨cq43, kq43, q43a, q43b, q43c⟩ := isOf hZ eq25 Es
    obtain ⟨_, _, ⟨T43, L43, k43, n43⟩, -, X43, ⟨Lc43, hQ43, l43, y43, z43⟩, st43⟩ := X25.virtualBack hx (y := (⟨"java/lang/String", "isLatin1", "()Z"⟩ : MethodName)) (z := (⟨"java/lang/String", "isLatin1", "()Z"⟩ : MethodName)) hown (mvT hZ (hw _ (List.mem_of_getElem? (i := 68) rfl))) (mvT hZ (hw _ (List.mem_of_getElem? (i := 69) rfl))) (notFace_of_selects (args := #[]) (mvT hZ (hw _ (List.mem_of_getElem? (i := 71) rfl)))) (mvT hZ (hw _ (List.mem_of_getElem? (i := 71) rfl))) (mvT hZ (hw _ (List.mem_of_getElem? (i := 70) rfl))) (by decide) (backOf (W := 0) (rm16 l Z a0 hw [] a1 cs h0 n0 Z0 Fc CS hcs) hZ (hw _ (List.mem_of_getElem? (i := 72) rfl)) (hw _ (List.mem_of_getElem? (i := 15) rfl)) (by decide) (by decide)) q43a q43c (g := (mkF m 28 #[.val (.ref a1), .val (.int p2), .val (.int p3), .val (.int n), .val (.int (p3 - p2))] [(.ref a1)])) rfl (by rw [hml]; rfl) (Steps.refl _) (argsL := []) (rest := []) (lenOf pd_3 rfl) rfl (by show 2 * 0 + _ ≤ _; exact Nat.le_of_eq rfl) (hb hby d22_28) (fun _ _ => ⟨rfl, eq25, (by decide : 0 + 0 ≤ _), (by decide : 0 + 0 ≤ _)⟩)
    dsimp only [Pt.U, Pt.locs, Pt.cells, Pt.slots] at X43 l43 y43 z43 st43 hQ43
    rw [l43, y43, z43] at X43
    have X43 := X43.mono (cells' := 0) (slots' := 0) (by decide) (by decide)
    obtain ⟨z43v, rfl, hz43v, Nq43, eq43⟩ := hQ43
    have N43n := Fr.app N25n Nq43
    have hy43 := hz43v.symm; subst hy43
    have P44 : own_Pr p.tables e below S0 T43 (mkF m 31 #[.val (.ref a1), .val (.int p2), .val (.int p3), .val (.int n), .val (.int (p3 - p2))] [(.int (1 : Int32))]) := fun t k => P42 t (st43.trans k)
    have P45 : own_Pr p.tables e below S0 T43 (mkF m 35 #[.val (.ref a1), .val (.int p2), .val (.int p3), .val (.int n), .val (.int (p3 - p2))] [(.ref a1)]) := fun t k => P44 t (by
      refine XS.ifNo X43.here hx rfl (hb hby d22_31) rfl (by decide) ?_
      refine XS.aloadN X43.here hx rfl (hb hby d22_34) rfl rfl ?_
      exact k)
    obtain ⟨T46, X46, e46, st46⟩ := getF X43 hx hZ hown (host := "") (Or.inl (hw _ (List.mem_of_getElem? (i := 40) rfl))) Via.refl eq43 Fv (g := (mkF m 35 #[.val (.ref a1), .val (.int p2), .val (.int p3), .val (.int n), .val (.int (p3 - p2))] [(.ref a1)])) rfl rfl (hb hby d22_35)
    have P47 : own_Pr p.tables e below S0 T46 (mkF m 38 #[.val (.ref a1), .val (.int p2), .val (.int p3), .val (.int n), .val (.int (p3 - p2))] [(.ref vb)]) := fun t k => P45 t (st46 _ k)
    have P48 : own_Pr p.tables e below S0 T46 (mkF m 41 #[.val (.ref a1), .val (.int p2), .val (.int p3), .val (.int n), .val (.int (p3 - p2))] [(.int (p3 - p2)), (.int p2), (.ref vb)]) := fun t k => P47 t (by
      refine XS.iloadN X46.here hx rfl (hb hby d22_38) rfl ?_
      refine XS.iload X46.here hx rfl (hb hby d22_39) rfl ?_
      exact k)
    obtain ⟨_, _, ⟨T49, L49, k49, n49⟩, -, X49, ⟨Lc49, hQ49, l49, y49, z49⟩, st49⟩ := Jvm.LawKit.callS X46 hx (y := (⟨"java/lang/StringLatin1", "newString", "([BII)Ljava/lang/String;"⟩ : MethodName)) hown (mvT hZ (hw _ (List.mem_of_getElem? (i := 105) rfl))) (mvT hZ (hw _ (List.mem_of_getElem? (i := 106) rfl))) (mvT hZ (hw _ (List.mem_of_getElem? (i := 75) rfl))) (mvT hZ (hw _ (List.mem_of_getElem? (i := 107) rfl))) (by decide) (backOf (W := 0) (rm25 l Z a0 hw [] vb p2 (p3 - p2) n p3 xs kb h0 n0 Z0 Av hs.2.2.2.2.2.2.1 rfl hs.2.2.2.2.2.1 h1 h2 h3 h4 (fun q => hc12_28 q.1)) hZ (hw _ (List.mem_of_getElem? (i := 107) rfl)) (hw _ (List.mem_of_getElem? (i := 75) rfl)) (by decide) (by decide)) (g := (mkF m 41 #[.val (.ref a1), .val (.int p2), .val (.int p3), .val (.int n), .val (.int (p3 - p2))] [(.int (p3 - p2)), (.int p2), (.ref vb)])) rfl (by rw [hml]; rfl) (argsL := [(.ref vb), (.int p2), (.int (p3 - p2))]) (rest := []) (lenOf pd_17 rfl) rfl (by show 2 * 0 + _ ≤ _; exact Nat.le_of_eq rfl) (hb hby d22_41) (fun _ _ => ⟨rfl, e46, (by decide : 0 + 2 ≤ _), (by decide : 0 + 12 ≤ _)⟩)
    dsimp only [Pt.U, Pt.locs, Pt.cells, Pt.slots] at X49 l49 y49 z49 st49 hQ49
    rw [l49, y49, z49] at X49
    have X49 := X49.mono (cells' := 2) (slots' := 12) (by decide) (by decide)
    obtain ⟨s49, ys49, rfl, Nq49, Kq49, Sq49, hy49⟩ := hQ49
    have N49n := Fr.app N43n Nq49
    have P50 : own_Pr p.tables e below S0 T49 (mkF m 44 #[.val (.ref a1), .val (.int p2), .val (.int p3), .val (.int n), .val (.int (p3 - p2))] [(.ref s49)]) := fun t k => P48 t (st49 _ k)
    have P51 : own_Pr p.tables e below S0 T49 (mkF m 57 #[.val (.ref a1), .val (.int p2), .val (.int p3), .val (.int n), .val (.int (p3 - p2))] [(.ref s49)]) := fun t k => P50 t (by
      refine XS.goto X49.here hx rfl (pc0 := 44) (pc' := 57) rfl (hb hby d22_44) (by decide) (by decide) ?_
      exact k)
    obtain ⟨fs, hr, hrun, hended, hW, hsame⟩ := X49.leave (v := some (.ref s49)) (fun h => by rw [Bd.returns] at h; cases h)
    have fin : Steps p.tables e below S0 (T49.setFrames fs) := P51 _ (by
      jvm_step X49.here [X49.here.top, hx, (hb hby d22_57), X49.method', Bd.returns, Value.isRef, FieldType.isReference]
      first | (intro acts; rw [hr _ acts rfl rfl rfl]) | rw [hr _ _ rfl rfl rfl]
      exact Steps.refl _)
    rw [hS0] at fin
    refine ⟨_, _, fin, hrun, hended, _, _, rfl, ?_, ⟨_, rfl⟩, hW, hsame.mono (by decide) (by decide)⟩
    show own_QU Z xs p2 (p3 - p2) h0 n0 _ T49.heap _
    exact ⟨_, ys49, rfl, N49n, Kq49, Sq49, hy49⟩
def own_QK1 (Z : State) (a s : Addr) (h0 : Heap) (n0 : Nat) (v : Option Value) (h : Heap) (L : List Loc) : Prop := v = none ∧ Fr n0 L ∧ Keep h0 h [a] ∧ Exa Z h a "com/example/twince/twince/IdempotencyKey" ∧ Fld Z h a "com/example/twince/twince/IdempotencyKey" "value" "Ljava/lang/String;" (.ref s)
/-- parse's answer: a key whose value is a String of n signs, the stretch of xs from p on -/
def own_QP (Z : State) (xs : List Int32) (p n : Int32) (h0 : Heap) (n0 : Nat) (v : Option Value) (h : Heap) (L : List Loc) : Prop := ∃ (o s : Addr) (ys : List Int32), v = some (.ref o) ∧ Fr n0 L ∧ Keep h0 h [] ∧ Exa Z h o "com/example/twince/twince/IdempotencyKey" ∧ Fld Z h o "com/example/twince/twince/IdempotencyKey" "value" "Ljava/lang/String;" (.ref s) ∧ own_Sc Z h s n ys ∧ own_cut xs ys p n
theorem d31_0 : decode prog_6_method_1_code 0 = .ok (.aload_n 0, 1) := by decide +kernel
theorem d31_1 : decode prog_6_method_1_code 1 = .ok (.invokespecial 1, 3) := by decide +kernel
theorem d31_4 : decode prog_6_method_1_code 4 = .ok (.aload_n 0, 1) := by decide +kernel
theorem d31_5 : decode prog_6_method_1_code 5 = .ok (.aload_n 1, 1) := by decide +kernel
theorem d31_6 : decode prog_6_method_1_code 6 = .ok (.putfield 7, 3) := by decide +kernel
theorem d31_9 : decode prog_6_method_1_code 9 = .ok (.return_, 1) := by decide +kernel
theorem ef_31 (m : MethodId) (a1 : Addr) (a2 : Addr) : entryFrame m #[(.ref a1), (.ref a2)] 2 = mkF m 0 #[.val (.ref a1), .val (.ref a2)] [] := by first | (simp [entryFrame, mkF, argsToLocals, Value.category]; done) | rfl
set_option maxRecDepth 65536 in
set_option maxHeartbeats 40000000 in
theorem rm31 (l : Launch) (Z : State) (a0 : Array Value) (hw : ∀ d ∈ tables_1, d.before a0 Z = true) (ws : List Jvm.Cond) (a1 : Addr) (a2 : Addr)  (h0 : Heap) (n0 : Nat) (Z0 : n0 ≤ h0.size) (E1 : Exa Z h0 a1 "com/example/twince/twince/IdempotencyKey") (F1 : Fld Z h0 a1 "com/example/twince/twince/IdempotencyKey" "value" "Ljava/lang/String;" .null) (g_a1 : n0 ≤ a1) :
    MetFree l (⟨"com/example/twince/twince/IdempotencyKey", "<init>", "(Ljava/lang/String;)V"⟩ : MethodName) (head1 (Jvm.Cond.code (⟨"com/example/twince/twince/IdempotencyKey", "<init>", "(Ljava/lang/String;)V"⟩ : MethodName) prog_6_method_1_code 2 none :: ws) ({ frames := 1, cells := 0, slots := 0, locals := 12 } : Room)) (fun a U => a = #[(.ref a1), (.ref a2)] ∧ Z.Warmed39 U.vm ∧ U.heap = h0) (fun _ _ _ _ _ => True) (fun _ U o U' => ∃ v L, o = .returned v ∧ own_QK1 Z a1 a2 h0 n0 v U'.heap L ∧ FrameEnd U o U' L ({ frames := 1, cells := 0, slots := 0, locals := 12 } : Room).cells ({ frames := 1, cells := 0, slots := 0, locals := 12 } : Room).slots) := by
  refine MetFree.of_bodySF (plainFor_of_name pn_12) hisR ?_
  intro p e s m args below meth c s₁ Bd hml0 hP hK
  obtain ⟨rfl, hZ, hh⟩ := hP
  have hx := Bd.exec
  have hby := Bd.bytes
  have hml : c.maxLocals = 2 := hml0
  have hown : s.vm.findClass "com/example/twince/twince/IdempotencyKey" = some m.cls := findClass_of_methodNamed Bd.named
  have hnm := (name_of_methodNamed Bd.named Bd.method).1
  have X0 : Stand p l e ({ frames := 1, cells := 0, slots := 0, locals := 12 } : Room) s m #[(.ref a1), (.ref a2)] below meth c s₁ [] 0 0 := Stand.of_body Bd
  have e0 : s₁.heap = h0 := by rw [← hh, Bd.state]; rfl
  have N0 := Fr.nil n0
  obtain ⟨S0, hS0⟩ : ∃ z, z = s₁.setTop (entryFrame m #[(.ref a1), (.ref a2)] 2) := ⟨_, rfl⟩
  have P0 : own_Pr p.tables e below S0 s₁ (mkF m 0 #[.val (.ref a1), .val (.ref a2)] []) := fun t k => hS0 ▸ castTop (ef_31 m a1 a2) k
  have K0 := Keep.refl h0 [a1]
  have P21 : own_Pr p.tables e below S0 s₁ (mkF m 1 #[.val (.ref a1), .val (.ref a2)] [(.ref a1)]) := fun t k => P0 t (by
    refine XS.aloadN X0.here hx rfl (hb hby d31_0) rfl rfl ?_
    exact k)
  obtain ⟨T22, X22, e22, st22⟩ := initO X0 hx hZ hown (hw _ (List.mem_of_getElem? (i := 133) rfl)) (hw _ (List.mem_of_getElem? (i := 24) rfl)) (hw _ (List.mem_of_getElem? (i := 25) rfl)) e0 (g := (mkF m 1 #[.val (.ref a1), .val (.ref a2)] [(.ref a1)])) rfl (by rw [hml]; rfl) rfl (hb hby d31_1) (by decide) (W := 0) (by show 2 * 0 + _ ≤ _; exact Nat.le_of_eq rfl) (by decide)
  have P23 : own_Pr p.tables e below S0 T22 (mkF m 4 #[.val (.ref a1), .val (.ref a2)] []) := fun t k => P21 t (st22 _ k)
  have P24 : own_Pr p.tables e below S0 T22 (mkF m 6 #[.val (.ref a1), .val (.ref a2)] [(.ref a2), (.ref a1)]) := fun t k => P23 t (by
    refine XS.aloadN X22.here hx rfl (hb hby d31_4) rfl rfl ?_
    refine XS.aloadN X22.here hx rfl (hb hby d31_5) rfl rfl ?_
    exact k)
  obtain ⟨T25, h25, X25, e25, W25, st25⟩ := putF X22 hx hZ hown (host := "") (Or.inl (hw _ (List.mem_of_getElem? (i := 134) rfl))) Via.refl e22 F1 E1 (Or.inr ⟨(hw _ (List.mem_of_getElem? (i := 135) rfl)), rfl, hnm⟩) (hw _ (List.mem_of_getElem? (i := 92) rfl)) (ty := (.object "java/lang/String")) (by decide) rfl rfl (g := (mkF m 6 #[.val (.ref a1), .val (.ref a2)] [(.ref a2), (.ref a1)])) rfl rfl (hb hby d31_6)
  have F25 := F1.same W25
  have F26 := E1.wr W25
  have Z27 : n0 ≤ h25.size := by rw [W25.size]; exact Z0
  have NF25 := Fr.snoc X25 N0 g_a1
  have K28 := K0.wr W25 (Or.inl (List.mem_of_getElem? (i := 0) rfl))
  have P29 : own_Pr p.tables e below S0 T25 (mkF m 9 #[.val (.ref a1), .val (.ref a2)] []) := fun t k => P24 t (st25 _ k)
  obtain ⟨fs, hr, hrun, hended, hW, hsame⟩ := X25.leave (v := none) (fun _ => rfl)
  have fin : Steps p.tables e below S0 (T25.setFrames fs) := P29 _ (X25.returnOut hx Bd.returns (hb hby d31_9) hr)
  rw [hS0] at fin
  refine ⟨_, _, fin, hrun, hended, _, _, rfl, ?_, ⟨_, rfl⟩, hW, hsame.mono (by decide) (by decide)⟩
  show own_QK1 Z a1 a2 h0 n0 _ T25.heap _
  rw [e25]
  exact ⟨rfl, NF25, K28, F26, F25⟩
theorem d32_0 : decode prog_6_method_7_code 0 = .ok (.aload_n 0, 1) := by decide +kernel
theorem d32_1 : decode prog_6_method_7_code 1 = .ok (.getfield 7, 3) := by decide +kernel
theorem d32_4 : decode prog_6_method_7_code 4 = .ok (.areturn, 1) := by decide +kernel
theorem ef_32 (m : MethodId) (a1 : Addr) : entryFrame m #[(.ref a1)] 1 = mkF m 0 #[.val (.ref a1)] [] := by first | (simp [entryFrame, mkF, argsToLocals, Value.category]; done) | rfl
def own_f32 (sv : Addr) : Addr := sv
set_option maxRecDepth 65536 in
set_option maxHeartbeats 40000000 in
theorem rm32 (l : Launch) (Z : State) (a0 : Array Value) (hw : ∀ d ∈ tables_1, d.before a0 Z = true) (ws : List Jvm.Cond) (a1 : Addr) (sv : Addr) (h0 : Heap) (n0 : Nat) (Z0 : n0 ≤ h0.size) (F1 : Fld Z h0 a1 "com/example/twince/twince/IdempotencyKey" "value" "Ljava/lang/String;" (.ref sv)) :
    MetFree l (⟨"com/example/twince/twince/IdempotencyKey", "value", "()Ljava/lang/String;"⟩ : MethodName) (head1 (Jvm.Cond.code (⟨"com/example/twince/twince/IdempotencyKey", "value", "()Ljava/lang/String;"⟩ : MethodName) prog_6_method_7_code 1 (some (.object "java/lang/String")) :: ws) ({ frames := 0, cells := 0, slots := 0, locals := 0 } : Room)) (fun a U => a = #[(.ref a1)] ∧ Z.Warmed39 U.vm ∧ U.heap = h0) (fun _ _ _ _ _ => True) (fun _ U o U' => ∃ v L, o = .returned v ∧ own_QR h0 n0 (own_f32 sv) v U'.heap L ∧ FrameEnd U o U' L ({ frames := 0, cells := 0, slots := 0, locals := 0 } : Room).cells ({ frames := 0, cells := 0, slots := 0, locals := 0 } : Room).slots) := by
  refine MetFree.of_bodySF (plainFor_of_name pn_12) hisR ?_
  intro p e s m args below meth c s₁ Bd hml0 hP hK
  obtain ⟨rfl, hZ, hh⟩ := hP
  have hx := Bd.exec
  have hby := Bd.bytes
  have hml : c.maxLocals = 1 := hml0
  have hown : s.vm.findClass "com/example/twince/twince/IdempotencyKey" = some m.cls := findClass_of_methodNamed Bd.named
  have hnm := (name_of_methodNamed Bd.named Bd.method).1
  have X0 : Stand p l e ({ frames := 0, cells := 0, slots := 0, locals := 0 } : Room) s m #[(.ref a1)] below meth c s₁ [] 0 0 := Stand.of_body Bd
  have e0 : s₁.heap = h0 := by rw [← hh, Bd.state]; rfl
  have N0 := Fr.nil n0
  obtain ⟨S0, hS0⟩ : ∃ z, z = s₁.setTop (entryFrame m #[(.ref a1)] 1) := ⟨_, rfl⟩
  have P0 : own_Pr p.tables e below S0 s₁ (mkF m 0 #[.val (.ref a1)] []) := fun t k => hS0 ▸ castTop (ef_32 m a1) k
  have P21 : own_Pr p.tables e below S0 s₁ (mkF m 1 #[.val (.ref a1)] [(.ref a1)]) := fun t k => P0 t (by
    refine XS.aloadN X0.here hx rfl (hb hby d32_0) rfl rfl ?_
    exact k)
  obtain ⟨T22, X22, e22, st22⟩ := getF X0 hx hZ hown (host := "") (Or.inl (hw _ (List.mem_of_getElem? (i := 134) rfl))) Via.refl e0 F1 (g := (mkF m 1 #[.val (.ref a1)] [(.ref a1)])) rfl rfl (hb hby d32_1)
  have P23 : own_Pr p.tables e below S0 T22 (mkF m 4 #[.val (.ref a1)] [(.ref sv)]) := fun t k => P21 t (st22 _ k)
  obtain ⟨fs, hr, hrun, hended, hW, hsame⟩ := X22.leave (v := some (.ref sv)) (fun h => by rw [Bd.returns] at h; cases h)
  have fin : Steps p.tables e below S0 (T22.setFrames fs) := P23 _ (by
    jvm_step X22.here [X22.here.top, hx, (hb hby d32_4), X22.method', Bd.returns, Value.isRef, FieldType.isReference]
    first | (intro acts; rw [hr _ acts rfl rfl rfl]) | rw [hr _ _ rfl rfl rfl]
    exact Steps.refl _)
  rw [hS0] at fin
  refine ⟨_, _, fin, hrun, hended, _, _, rfl, ?_, ⟨_, rfl⟩, hW, hsame.mono (by decide) (by decide)⟩
  show own_QR h0 n0 (own_f32 sv) _ T22.heap _
  rw [e22]
  exact ⟨_, rfl, (by unfold own_f32; rfl), N0, rfl⟩
theorem d10_17 : decode prog_6_method_2_code 17 = .ok (.iload_n 2, 1) := by decide +kernel
theorem d10_18 : decode prog_6_method_2_code 18 = .ok (.iload_n 3, 1) := by decide +kernel
theorem d10_19 : decode prog_6_method_2_code 19 = .ok (.if_icmp .ge 20, 3) := by decide +kernel
theorem d10_22 : decode prog_6_method_2_code 22 = .ok (.aload_n 0, 1) := by decide +kernel
theorem d10_23 : decode prog_6_method_2_code 23 = .ok (.iload_n 2, 1) := by decide +kernel
theorem d10_24 : decode prog_6_method_2_code 24 = .ok (.invokevirtual 29, 3) := by decide +kernel
theorem d10_27 : decode prog_6_method_2_code 27 = .ok (.invokestatic 33, 3) := by decide +kernel
theorem d10_30 : decode prog_6_method_2_code 30 = .ok (.ifCond .eq 9, 3) := by decide +kernel
theorem d10_33 : decode prog_6_method_2_code 33 = .ok (.iinc 2 1, 3) := by decide +kernel
theorem d10_36 : decode prog_6_method_2_code 36 = .ok (.goto (-19), 3) := by decide +kernel
theorem pd_18 : parseMethodDescriptor "(I)C" = some ⟨[.int], some .char⟩ := by decide +kernel
theorem pd_19 : parseMethodDescriptor "(C)Z" = some ⟨[.char], some .boolean⟩ := by decide +kernel
def own_L10_17 : Nat → List Int32 → Int32 → Int32 → Int32 → Option Int32
  | 0, _, _, _, _ => none
  | k + 1, xs, n, en, i => (if i < en then (if ¬ (i < 0) ∧ i < n then (if (own_f20 ((xs.getD (i).toNatClampNeg 0) &&& 255)) = (0 : Int32) then some i else own_L10_17 k xs n en (i + (1 : Int32))) else none) else some i)
theorem own_L10_17_s (k : Nat) (xs : List Int32) (n : Int32) (en : Int32) (i : Int32) : own_L10_17 (k + 1) xs n en i = (if i < en then (if ¬ (i < 0) ∧ i < n then (if (own_f20 ((xs.getD (i).toNatClampNeg 0) &&& 255)) = (0 : Int32) then some i else own_L10_17 k xs n en (i + (1 : Int32))) else none) else some i) := rfl
set_option maxRecDepth 65536 in
set_option maxHeartbeats 40000000 in
theorem lp10_17 {p : Program} {l : Launch} {e : Env} {R : Room} {s : State} {m : MethodId} {args : Array Value} {below : List Frame} {meth : Method} {c : Code} {cells slots : Nat} {Z : State} {a0 : Array Value} {h0 : Heap} {S0 : State} {n0 : Nat}
    (hx : p.tables.exec = Jvm.exec) (hZ : Z.Warmed39 s.vm) (hw : ∀ d ∈ tables_1, d.before a0 Z = true) (hby : c.code = prog_6_method_2_code) (hml : c.maxLocals = 8) (hown : s.vm.findClass "com/example/twince/twince/IdempotencyKey" = some m.cls) (a1 : Addr) (p2 : Int32) (n : Int32) (xs : List Int32) (cs : Int32) (fm : Value) (en : Int32) (Sa : own_Sc Z h0 a1 n xs) (CS : Sta Z h0 "java/lang/String" "COMPACT_STRINGS" "Z" (.int cs)) (hcs : ¬ cs = (0 : Int32)) (FM : Sta Z h0 "jdk/internal/util/Preconditions" "SIOOBE_FORMATTER" "Ljava/util/function/BiFunction;" fm) (hr_fm : fm.isRef = true) (Z0 : n0 ≤ h0.size) (hce : cells ≤ R.cells) (hsl : slots ≤ R.slots) (hRf : 5 ≤ R.frames) (hRl : 120 ≤ R.locals) :
    ∀ (k : Nat) (i : Int32) (T0 : State) (locs0 : List Loc) (X0 : Stand p l e R s m args below meth c T0 locs0 cells slots) (N0 : Fr n0 locs0) (e0 : T0.heap = h0) (P0 : own_Pr p.tables e below S0 T0 (mkF m 17 #[.val (.ref a1), .val (.int p2), .val (.int i), .val (.int en), .unset, .unset, .unset, .unset] [])) {r : Int32} (hr : own_L10_17 k xs n en i = some r),
    ∃ (T' : State) (locs' : List Loc), Stand p l e R s m args below meth c T' locs' cells slots ∧ Fr n0 locs' ∧ T'.heap = h0 ∧ own_Pr p.tables e below S0 T' (mkF m 39 #[.val (.ref a1), .val (.int p2), .val (.int r), .val (.int en), .unset, .unset, .unset, .unset] []) := by
  intro k
  induction k with
  | zero => intro i T0 locs0 X0 N0 e0 P0 r hr; exact nomatch hr
  | succ k ih =>
    intro i T0 locs0 X0 N0 e0 P0 r hr
    rw [own_L10_17_s] at hr
    have Es := Sa.exa
    have P21 : own_Pr p.tables e below S0 T0 (mkF m 19 #[.val (.ref a1), .val (.int p2), .val (.int i), .val (.int en), .unset, .unset, .unset, .unset] [(.int en), (.int i)]) := fun t k => P0 t (by
      refine XS.iloadN X0.here hx rfl (hb hby d10_17) rfl ?_
      refine XS.iloadN X0.here hx rfl (hb hby d10_18) rfl ?_
      exact k)
    by_cases hc19_22 : i < en
    · rw [if_pos hc19_22] at hr
      have P23 : own_Pr p.tables e below S0 T0 (mkF m 24 #[.val (.ref a1), .val (.int p2), .val (.int i), .val (.int en), .unset, .unset, .unset, .unset] [(.int i), (.ref a1)]) := fun t k => P21 t (by
        refine XS.icmpNo X0.here hx rfl (hb hby d10_19) rfl (XT.ii_ge_f hc19_22) ?_
        refine XS.aloadN X0.here hx rfl (hb hby d10_22) rfl rfl ?_
        refine XS.iloadN X0.here hx rfl (hb hby d10_23) rfl ?_
        exact k)
      by_cases hg24_24 : ¬ (i < 0) ∧ i < n
      · rw [if_pos hg24_24] at hr
        obtain ⟨cq25, kq25, q25a, q25b, q25c⟩ := isOf hZ e0 Es
        obtain ⟨_, _, ⟨T25, L25, k25, n25⟩, -, X25, ⟨Lc25, hQ25, l25, y25, z25⟩, st25⟩ := X0.virtualBack hx (y := (⟨"java/lang/String", "charAt", "(I)C"⟩ : MethodName)) (z := (⟨"java/lang/String", "charAt", "(I)C"⟩ : MethodName)) hown (mvT hZ (hw _ (List.mem_of_getElem? (i := 63) rfl))) (mvT hZ (hw _ (List.mem_of_getElem? (i := 64) rfl))) (notFace_of_selects (args := #[]) (mvT hZ (hw _ (List.mem_of_getElem? (i := 66) rfl)))) (mvT hZ (hw _ (List.mem_of_getElem? (i := 66) rfl))) (mvT hZ (hw _ (List.mem_of_getElem? (i := 65) rfl))) (by decide) (backOf (W := 0) (rm15 l Z a0 hw [] a1 i n xs cs fm h0 n0 Z0 Sa CS hcs FM hr_fm hg24_24.1 hg24_24.2) hZ (hw _ (List.mem_of_getElem? (i := 67) rfl)) (hw _ (List.mem_of_getElem? (i := 15) rfl)) (Nat.le_trans (by decide) hRf) (Nat.le_trans (by decide) hRl)) q25a q25c (g := (mkF m 24 #[.val (.ref a1), .val (.int p2), .val (.int i), .val (.int en), .unset, .unset, .unset, .unset] [(.int i), (.ref a1)])) rfl (by rw [hml]; rfl) (Steps.refl _) (argsL := [(.int i)]) (rest := []) (lenOf pd_18 rfl) rfl (by show 2 * 0 + _ ≤ _; exact Nat.le_of_eq rfl) (hb hby d10_24) (fun _ _ => ⟨rfl, e0, Nat.le_trans (Nat.le_of_eq (Nat.add_zero _)) hce, Nat.le_trans (Nat.le_of_eq (Nat.add_zero _)) hsl⟩)
        dsimp only [Pt.U, Pt.locs, Pt.cells, Pt.slots] at X25 l25 y25 z25 st25 hQ25
        rw [l25, y25, z25] at X25
        obtain ⟨z25v, rfl, hz25v, Nq25, eq25⟩ := hQ25
        have N25n := Fr.app N0 Nq25
        rw [← hz25v] at hr
        have P26 : own_Pr p.tables e below S0 T25 (mkF m 27 #[.val (.ref a1), .val (.int p2), .val (.int i), .val (.int en), .unset, .unset, .unset, .unset] [(.int z25v)]) := fun t k => P23 t (st25.trans k)
        obtain ⟨_, _, ⟨T27, L27, k27, n27⟩, -, X27, ⟨Lc27, hQ27, l27, y27, z27⟩, st27⟩ := Jvm.LawKit.callS X25 hx (y := (⟨"com/example/twince/twince/IdempotencyKey", "isBlank", "(C)Z"⟩ : MethodName)) hown (mvT hZ (hw _ (List.mem_of_getElem? (i := 85) rfl))) (mvT hZ (hw _ (List.mem_of_getElem? (i := 86) rfl))) (mvT hZ (hw _ (List.mem_of_getElem? (i := 44) rfl))) (mvT hZ (hw _ (List.mem_of_getElem? (i := 87) rfl))) (by decide) (backOf (W := 0) (rm20 l Z a0 hw [] z25v  h0 n0 Z0 ) hZ (hw _ (List.mem_of_getElem? (i := 87) rfl)) (hw _ (List.mem_of_getElem? (i := 44) rfl)) (Nat.le_trans (by decide) hRf) (Nat.le_trans (by decide) hRl)) (g := (mkF m 27 #[.val (.ref a1), .val (.int p2), .val (.int i), .val (.int en), .unset, .unset, .unset, .unset] [(.int z25v)])) rfl (by rw [hml]; rfl) (argsL := [(.int z25v)]) (rest := []) (lenOf pd_19 rfl) rfl (by show 2 * 0 + _ ≤ _; exact Nat.le_of_eq rfl) (hb hby d10_27) (fun _ _ => ⟨rfl, eq25, Nat.le_trans (Nat.le_of_eq (Nat.add_zero _)) hce, Nat.le_trans (Nat.le_of_eq (Nat.add_zero _)) hsl⟩)
        dsimp only [Pt.U, Pt.locs, Pt.cells, Pt.slots] at X27 l27 y27 z27 st27 hQ27
        rw [l27, y27, z27] at X27
        obtain ⟨z27v, rfl, hz27v, Nq27, eq27⟩ := hQ27
        have N27n := Fr.app N25n Nq27
        rw [← hz27v] at hr
        have P28 : own_Pr p.tables e below S0 T27 (mkF m 30 #[.val (.ref a1), .val (.int p2), .val (.int i), .val (.int en), .unset, .unset, .unset, .unset] [(.int z27v)]) := fun t k => P26 t (st27 _ k)
        by_cases hc30_29 : z27v = (0 : Int32)
        · rw [if_pos hc30_29] at hr
          have P30 : own_Pr p.tables e below S0 T27 (mkF m 39 #[.val (.ref a1), .val (.int p2), .val (.int i), .val (.int en), .unset, .unset, .unset, .unset] []) := fun t k => P28 t (by
            refine XS.ifYes X27.here hx rfl (pc0 := 30) (pc' := 39) rfl (hb hby d10_30) rfl (XT.i0_eq_t hc30_29) (by decide) (by decide) ?_
            exact k)
          obtain rfl := Option.some.inj hr
          exact ⟨T27, _, X27, N27n, eq27, P30⟩
        · rw [if_neg hc30_29] at hr
          have P31 : own_Pr p.tables e below S0 T27 (mkF m 17 #[.val (.ref a1), .val (.int p2), .val (.int (i + (1 : Int32))), .val (.int en), .unset, .unset, .unset, .unset] []) := fun t k => P28 t (by
            refine XS.ifNo X27.here hx rfl (hb hby d10_30) rfl (XT.i0_eq_f hc30_29) ?_
            refine XS.iinc X27.here hx rfl (hb hby d10_33) rfl (l' := #[.val (.ref a1), .val (.int p2), .val (.int (i + (1 : Int32))), .val (.int en), .unset, .unset, .unset, .unset]) rfl ?_
            refine XS.goto X27.here hx rfl (pc0 := 36) (pc' := 17) rfl (hb hby d10_36) (by decide) (by decide) ?_
            exact k)
          exact ih (i + (1 : Int32)) T27 _ X27 N27n eq27 P31 hr
      · rw [if_neg hg24_24] at hr; exact nomatch hr
    · rw [if_neg hc19_22] at hr
      have P32 : own_Pr p.tables e below S0 T0 (mkF m 39 #[.val (.ref a1), .val (.int p2), .val (.int i), .val (.int en), .unset, .unset, .unset, .unset] []) := fun t k => P21 t (by
        refine XS.icmpYes X0.here hx rfl (pc0 := 19) (pc' := 39) rfl (hb hby d10_19) rfl (XT.ii_ge_t hc19_22) (by decide) (by decide) ?_
        exact k)
      obtain rfl := Option.some.inj hr
      exact ⟨T0, _, X0, N0, e0, P32⟩
theorem d10_39 : decode prog_6_method_2_code 39 = .ok (.iload_n 3, 1) := by decide +kernel
theorem d10_40 : decode prog_6_method_2_code 40 = .ok (.iload_n 2, 1) := by decide +kernel
theorem d10_41 : decode prog_6_method_2_code 41 = .ok (.if_icmp .le 22, 3) := by decide +kernel
theorem d10_44 : decode prog_6_method_2_code 44 = .ok (.aload_n 0, 1) := by decide +kernel
theorem d10_45 : decode prog_6_method_2_code 45 = .ok (.iload_n 3, 1) := by decide +kernel
theorem d10_46 : decode prog_6_method_2_code 46 = .ok (.iconst 1, 1) := by decide +kernel
theorem d10_47 : decode prog_6_method_2_code 47 = .ok (.isub, 1) := by decide +kernel
theorem d10_48 : decode prog_6_method_2_code 48 = .ok (.invokevirtual 29, 3) := by decide +kernel
theorem d10_51 : decode prog_6_method_2_code 51 = .ok (.invokestatic 33, 3) := by decide +kernel
theorem d10_54 : decode prog_6_method_2_code 54 = .ok (.ifCond .eq 9, 3) := by decide +kernel
theorem d10_57 : decode prog_6_method_2_code 57 = .ok (.iinc 3 (-1), 3) := by decide +kernel
theorem d10_60 : decode prog_6_method_2_code 60 = .ok (.goto (-21), 3) := by decide +kernel
def own_L10_39 : Nat → List Int32 → Int32 → Int32 → Int32 → Option Int32
  | 0, _, _, _, _ => none
  | k + 1, xs, n, bg, i => (if bg < i then (if ¬ ((i - (1 : Int32)) < 0) ∧ (i - (1 : Int32)) < n then (if (own_f20 ((xs.getD ((i - (1 : Int32))).toNatClampNeg 0) &&& 255)) = (0 : Int32) then some i else own_L10_39 k xs n bg (i + (-1 : Int32))) else none) else some i)
theorem own_L10_39_s (k : Nat) (xs : List Int32) (n : Int32) (bg : Int32) (i : Int32) : own_L10_39 (k + 1) xs n bg i = (if bg < i then (if ¬ ((i - (1 : Int32)) < 0) ∧ (i - (1 : Int32)) < n then (if (own_f20 ((xs.getD ((i - (1 : Int32))).toNatClampNeg 0) &&& 255)) = (0 : Int32) then some i else own_L10_39 k xs n bg (i + (-1 : Int32))) else none) else some i) := rfl
set_option maxRecDepth 65536 in
set_option maxHeartbeats 40000000 in
theorem lp10_39 {p : Program} {l : Launch} {e : Env} {R : Room} {s : State} {m : MethodId} {args : Array Value} {below : List Frame} {meth : Method} {c : Code} {cells slots : Nat} {Z : State} {a0 : Array Value} {h0 : Heap} {S0 : State} {n0 : Nat}
    (hx : p.tables.exec = Jvm.exec) (hZ : Z.Warmed39 s.vm) (hw : ∀ d ∈ tables_1, d.before a0 Z = true) (hby : c.code = prog_6_method_2_code) (hml : c.maxLocals = 8) (hown : s.vm.findClass "com/example/twince/twince/IdempotencyKey" = some m.cls) (a1 : Addr) (p2 : Int32) (n : Int32) (xs : List Int32) (cs : Int32) (fm : Value) (bg : Int32) (Sa : own_Sc Z h0 a1 n xs) (CS : Sta Z h0 "java/lang/String" "COMPACT_STRINGS" "Z" (.int cs)) (hcs : ¬ cs = (0 : Int32)) (FM : Sta Z h0 "jdk/internal/util/Preconditions" "SIOOBE_FORMATTER" "Ljava/util/function/BiFunction;" fm) (hr_fm : fm.isRef = true) (Z0 : n0 ≤ h0.size) (hce : cells ≤ R.cells) (hsl : slots ≤ R.slots) (hRf : 5 ≤ R.frames) (hRl : 120 ≤ R.locals) :
    ∀ (k : Nat) (i : Int32) (T0 : State) (locs0 : List Loc) (X0 : Stand p l e R s m args below meth c T0 locs0 cells slots) (N0 : Fr n0 locs0) (e0 : T0.heap = h0) (P0 : own_Pr p.tables e below S0 T0 (mkF m 39 #[.val (.ref a1), .val (.int p2), .val (.int bg), .val (.int i), .unset, .unset, .unset, .unset] [])) {r : Int32} (hr : own_L10_39 k xs n bg i = some r),
    ∃ (T' : State) (locs' : List Loc), Stand p l e R s m args below meth c T' locs' cells slots ∧ Fr n0 locs' ∧ T'.heap = h0 ∧ own_Pr p.tables e below S0 T' (mkF m 63 #[.val (.ref a1), .val (.int p2), .val (.int bg), .val (.int r), .unset, .unset, .unset, .unset] []) := by
  intro k
  induction k with
  | zero => intro i T0 locs0 X0 N0 e0 P0 r hr; exact nomatch hr
  | succ k ih =>
    intro i T0 locs0 X0 N0 e0 P0 r hr
    rw [own_L10_39_s] at hr
    have Es := Sa.exa
    have P21 : own_Pr p.tables e below S0 T0 (mkF m 41 #[.val (.ref a1), .val (.int p2), .val (.int bg), .val (.int i), .unset, .unset, .unset, .unset] [(.int bg), (.int i)]) := fun t k => P0 t (by
      refine XS.iloadN X0.here hx rfl (hb hby d10_39) rfl ?_
      refine XS.iloadN X0.here hx rfl (hb hby d10_40) rfl ?_
      exact k)
    by_cases hc41_22 : bg < i
    · rw [if_pos hc41_22] at hr
      have P23 : own_Pr p.tables e below S0 T0 (mkF m 48 #[.val (.ref a1), .val (.int p2), .val (.int bg), .val (.int i), .unset, .unset, .unset, .unset] [(.int (i - (1 : Int32))), (.ref a1)]) := fun t k => P21 t (by
        refine XS.icmpNo X0.here hx rfl (hb hby d10_41) rfl (XT.ii_le_f hc41_22) ?_
        refine XS.aloadN X0.here hx rfl (hb hby d10_44) rfl rfl ?_
        refine XS.iloadN X0.here hx rfl (hb hby d10_45) rfl ?_
        refine XS.iconst X0.here hx rfl (hb hby d10_46) ?_
        refine XS.isub X0.here hx rfl (hb hby d10_47) rfl ?_
        exact k)
      by_cases hg48_24 : ¬ ((i - (1 : Int32)) < 0) ∧ (i - (1 : Int32)) < n
      · rw [if_pos hg48_24] at hr
        obtain ⟨cq25, kq25, q25a, q25b, q25c⟩ := isOf hZ e0 Es
        obtain ⟨_, _, ⟨T25, L25, k25, n25⟩, -, X25, ⟨Lc25, hQ25, l25, y25, z25⟩, st25⟩ := X0.virtualBack hx (y := (⟨"java/lang/String", "charAt", "(I)C"⟩ : MethodName)) (z := (⟨"java/lang/String", "charAt", "(I)C"⟩ : MethodName)) hown (mvT hZ (hw _ (List.mem_of_getElem? (i := 63) rfl))) (mvT hZ (hw _ (List.mem_of_getElem? (i := 64) rfl))) (notFace_of_selects (args := #[]) (mvT hZ (hw _ (List.mem_of_getElem? (i := 66) rfl)))) (mvT hZ (hw _ (List.mem_of_getElem? (i := 66) rfl))) (mvT hZ (hw _ (List.mem_of_getElem? (i := 65) rfl))) (by decide) (backOf (W := 0) (rm15 l Z a0 hw [] a1 (i - (1 : Int32)) n xs cs fm h0 n0 Z0 Sa CS hcs FM hr_fm hg48_24.1 hg48_24.2) hZ (hw _ (List.mem_of_getElem? (i := 67) rfl)) (hw _ (List.mem_of_getElem? (i := 15) rfl)) (Nat.le_trans (by decide) hRf) (Nat.le_trans (by decide) hRl)) q25a q25c (g := (mkF m 48 #[.val (.ref a1), .val (.int p2), .val (.int bg), .val (.int i), .unset, .unset, .unset, .unset] [(.int (i - (1 : Int32))), (.ref a1)])) rfl (by rw [hml]; rfl) (Steps.refl _) (argsL := [(.int (i - (1 : Int32)))]) (rest := []) (lenOf pd_18 rfl) rfl (by show 2 * 0 + _ ≤ _; exact Nat.le_of_eq rfl) (hb hby d10_48) (fun _ _ => ⟨rfl, e0, Nat.le_trans (Nat.le_of_eq (Nat.add_zero _)) hce, Nat.le_trans (Nat.le_of_eq (Nat.add_zero _)) hsl⟩)
        dsimp only [Pt.U, Pt.locs, Pt.cells, Pt.slots] at X25 l25 y25 z25 st25 hQ25
        rw [l25, y25, z25] at X25
        obtain ⟨z25v, rfl, hz25v, Nq25, eq25⟩ := hQ25
        have N25n := Fr.app N0 Nq25
        rw [← hz25v] at hr
        have P26 : own_Pr p.tables e below S0 T25 (mkF m 51 #[.val (.ref a1), .val (.int p2), .val (.int bg), .val (.int i), .unset, .unset, .unset, .unset] [(.int z25v)]) := fun t k => P23 t (st25.trans k)
        obtain ⟨_, _, ⟨T27, L27, k27, n27⟩, -, X27, ⟨Lc27, hQ27, l27, y27, z27⟩, st27⟩ := Jvm.LawKit.callS X25 hx (y := (⟨"com/example/twince/twince/IdempotencyKey", "isBlank", "(C)Z"⟩ : MethodName)) hown (mvT hZ (hw _ (List.mem_of_getElem? (i := 85) rfl))) (mvT hZ (hw _ (List.mem_of_getElem? (i := 86) rfl))) (mvT hZ (hw _ (List.mem_of_getElem? (i := 44) rfl))) (mvT hZ (hw _ (List.mem_of_getElem? (i := 87) rfl))) (by decide) (backOf (W := 0) (rm20 l Z a0 hw [] z25v  h0 n0 Z0 ) hZ (hw _ (List.mem_of_getElem? (i := 87) rfl)) (hw _ (List.mem_of_getElem? (i := 44) rfl)) (Nat.le_trans (by decide) hRf) (Nat.le_trans (by decide) hRl)) (g := (mkF m 51 #[.val (.ref a1), .val (.int p2), .val (.int bg), .val (.int i), .unset, .unset, .unset, .unset] [(.int z25v)])) rfl (by rw [hml]; rfl) (argsL := [(.int z25v)]) (rest := []) (lenOf pd_19 rfl) rfl (by show 2 * 0 + _ ≤ _; exact Nat.le_of_eq rfl) (hb hby d10_51) (fun _ _ => ⟨rfl, eq25, Nat.le_trans (Nat.le_of_eq (Nat.add_zero _)) hce, Nat.le_trans (Nat.le_of_eq (Nat.add_zero _)) hsl⟩)
        dsimp only [Pt.U, Pt.locs, Pt.cells, Pt.slots] at X27 l27 y27 z27 st27 hQ27
        rw [l27, y27, z27] at X27
        obtain ⟨z27v, rfl, hz27v, Nq27, eq27⟩ := hQ27
        have N27n := Fr.app N25n Nq27
        rw [← hz27v] at hr
        have P28 : own_Pr p.tables e below S0 T27 (mkF m 54 #[.val (.ref a1), .val (.int p2), .val (.int bg), .val (.int i), .unset, .unset, .unset, .unset] [(.int z27v)]) := fun t k => P26 t (st27 _ k)
        by_cases hc54_29 : z27v = (0 : Int32)
        · rw [if_pos hc54_29] at hr
          have P30 : own_Pr p.tables e below S0 T27 (mkF m 63 #[.val (.ref a1), .val (.int p2), .val (.int bg), .val (.int i), .unset, .unset, .unset, .unset] []) := fun t k => P28 t (by
            refine XS.ifYes X27.here hx rfl (pc0 := 54) (pc' := 63) rfl (hb hby d10_54) rfl (XT.i0_eq_t hc54_29) (by decide) (by decide) ?_
            exact k)
          obtain rfl := Option.some.inj hr
          exact ⟨T27, _, X27, N27n, eq27, P30⟩
        · rw [if_neg hc54_29] at hr
          have P31 : own_Pr p.tables e below S0 T27 (mkF m 39 #[.val (.ref a1), .val (.int p2), .val (.int bg), .val (.int (i + (-1 : Int32))), .unset, .unset, .unset, .unset] []) := fun t k => P28 t (by
            refine XS.ifNo X27.here hx rfl (hb hby d10_54) rfl (XT.i0_eq_f hc54_29) ?_
            refine XS.iinc X27.here hx rfl (hb hby d10_57) rfl (l' := #[.val (.ref a1), .val (.int p2), .val (.int bg), .val (.int (i + (-1 : Int32))), .unset, .unset, .unset, .unset]) rfl ?_
            refine XS.goto X27.here hx rfl (pc0 := 60) (pc' := 39) rfl (hb hby d10_60) (by decide) (by decide) ?_
            exact k)
          exact ih (i + (-1 : Int32)) T27 _ X27 N27n eq27 P31 hr
      · rw [if_neg hg48_24] at hr; exact nomatch hr
    · rw [if_neg hc41_22] at hr
      have P32 : own_Pr p.tables e below S0 T0 (mkF m 63 #[.val (.ref a1), .val (.int p2), .val (.int bg), .val (.int i), .unset, .unset, .unset, .unset] []) := fun t k => P21 t (by
        refine XS.icmpYes X0.here hx rfl (pc0 := 41) (pc' := 63) rfl (hb hby d10_41) rfl (XT.ii_le_t hc41_22) (by decide) (by decide) ?_
        exact k)
      obtain rfl := Option.some.inj hr
      exact ⟨T0, _, X0, N0, e0, P32⟩
theorem d10_123 : decode prog_6_method_2_code 123 = .ok (.iload 6, 2) := by decide +kernel
theorem d10_125 : decode prog_6_method_2_code 125 = .ok (.iload_n 3, 1) := by decide +kernel
theorem d10_126 : decode prog_6_method_2_code 126 = .ok (.if_icmp .ge 21, 3) := by decide +kernel
theorem d10_129 : decode prog_6_method_2_code 129 = .ok (.aload_n 0, 1) := by decide +kernel
theorem d10_130 : decode prog_6_method_2_code 130 = .ok (.iload 6, 2) := by decide +kernel
theorem d10_132 : decode prog_6_method_2_code 132 = .ok (.invokevirtual 29, 3) := by decide +kernel
theorem d10_135 : decode prog_6_method_2_code 135 = .ok (.invokestatic 46, 3) := by decide +kernel
theorem d10_138 : decode prog_6_method_2_code 138 = .ok (.ifCond .eq 9, 3) := by decide +kernel
theorem d10_141 : decode prog_6_method_2_code 141 = .ok (.iinc 6 1, 3) := by decide +kernel
theorem d10_144 : decode prog_6_method_2_code 144 = .ok (.goto (-21), 3) := by decide +kernel
def own_L10_123 : Nat → List Int32 → Int32 → Int32 → Int32 → Int32 → Int32 → Int32 → Option Int32
  | 0, _, _, _, _, _, _, _ => none
  | k + 1, xs, n, bg, en, qd, kb, i => (if i < en then (if ¬ (i < 0) ∧ i < n then (if (own_f21 ((xs.getD (i).toNatClampNeg 0) &&& 255)) = (0 : Int32) then some i else own_L10_123 k xs n bg en qd kb (i + (1 : Int32))) else none) else some i)
theorem own_L10_123_s (k : Nat) (xs : List Int32) (n : Int32) (bg : Int32) (en : Int32) (qd : Int32) (kb : Int32) (i : Int32) : own_L10_123 (k + 1) xs n bg en qd kb i = (if i < en then (if ¬ (i < 0) ∧ i < n then (if (own_f21 ((xs.getD (i).toNatClampNeg 0) &&& 255)) = (0 : Int32) then some i else own_L10_123 k xs n bg en qd kb (i + (1 : Int32))) else none) else some i) := rfl
set_option maxRecDepth 65536 in
set_option maxHeartbeats 40000000 in
theorem lp10_123 {p : Program} {l : Launch} {e : Env} {R : Room} {s : State} {m : MethodId} {args : Array Value} {below : List Frame} {meth : Method} {c : Code} {cells slots : Nat} {Z : State} {a0 : Array Value} {h0 : Heap} {S0 : State} {n0 : Nat}
    (hx : p.tables.exec = Jvm.exec) (hZ : Z.Warmed39 s.vm) (hw : ∀ d ∈ tables_1, d.before a0 Z = true) (hby : c.code = prog_6_method_2_code) (hml : c.maxLocals = 8) (hown : s.vm.findClass "com/example/twince/twince/IdempotencyKey" = some m.cls) (a1 : Addr) (p2 : Int32) (n : Int32) (xs : List Int32) (cs : Int32) (fm : Value) (bg : Int32) (en : Int32) (qd : Int32) (kb : Int32) (Sa : own_Sc Z h0 a1 n xs) (CS : Sta Z h0 "java/lang/String" "COMPACT_STRINGS" "Z" (.int cs)) (hcs : ¬ cs = (0 : Int32)) (FM : Sta Z h0 "jdk/internal/util/Preconditions" "SIOOBE_FORMATTER" "Ljava/util/function/BiFunction;" fm) (hr_fm : fm.isRef = true) (Z0 : n0 ≤ h0.size) (hce : cells ≤ R.cells) (hsl : slots ≤ R.slots) (hRf : 5 ≤ R.frames) (hRl : 120 ≤ R.locals) :
    ∀ (k : Nat) (i : Int32) (T0 : State) (locs0 : List Loc) (X0 : Stand p l e R s m args below meth c T0 locs0 cells slots) (N0 : Fr n0 locs0) (e0 : T0.heap = h0) (P0 : own_Pr p.tables e below S0 T0 (mkF m 123 #[.val (.ref a1), .val (.int p2), .val (.int bg), .val (.int en), .val (.int qd), .val (.int kb), .val (.int i), .unset] [])) {r : Int32} (hr : own_L10_123 k xs n bg en qd kb i = some r),
    ∃ (T' : State) (locs' : List Loc), Stand p l e R s m args below meth c T' locs' cells slots ∧ Fr n0 locs' ∧ T'.heap = h0 ∧ own_Pr p.tables e below S0 T' (mkF m 147 #[.val (.ref a1), .val (.int p2), .val (.int bg), .val (.int en), .val (.int qd), .val (.int kb), .val (.int r), .unset] []) := by
  intro k
  induction k with
  | zero => intro i T0 locs0 X0 N0 e0 P0 r hr; exact nomatch hr
  | succ k ih =>
    intro i T0 locs0 X0 N0 e0 P0 r hr
    rw [own_L10_123_s] at hr
    have Es := Sa.exa
    have P21 : own_Pr p.tables e below S0 T0 (mkF m 126 #[.val (.ref a1), .val (.int p2), .val (.int bg), .val (.int en), .val (.int qd), .val (.int kb), .val (.int i), .unset] [(.int en), (.int i)]) := fun t k => P0 t (by
      refine XS.iload X0.here hx rfl (hb hby d10_123) rfl ?_
      refine XS.iloadN X0.here hx rfl (hb hby d10_125) rfl ?_
      exact k)
    by_cases hc126_22 : i < en
    · rw [if_pos hc126_22] at hr
      have P23 : own_Pr p.tables e below S0 T0 (mkF m 132 #[.val (.ref a1), .val (.int p2), .val (.int bg), .val (.int en), .val (.int qd), .val (.int kb), .val (.int i), .unset] [(.int i), (.ref a1)]) := fun t k => P21 t (by
        refine XS.icmpNo X0.here hx rfl (hb hby d10_126) rfl (XT.ii_ge_f hc126_22) ?_
        refine XS.aloadN X0.here hx rfl (hb hby d10_129) rfl rfl ?_
        refine XS.iload X0.here hx rfl (hb hby d10_130) rfl ?_
        exact k)
      by_cases hg132_24 : ¬ (i < 0) ∧ i < n
      · rw [if_pos hg132_24] at hr
        obtain ⟨cq25, kq25, q25a, q25b, q25c⟩ := isOf hZ e0 Es
        obtain ⟨_, _, ⟨T25, L25, k25, n25⟩, -, X25, ⟨Lc25, hQ25, l25, y25, z25⟩, st25⟩ := X0.virtualBack hx (y := (⟨"java/lang/String", "charAt", "(I)C"⟩ : MethodName)) (z := (⟨"java/lang/String", "charAt", "(I)C"⟩ : MethodName)) hown (mvT hZ (hw _ (List.mem_of_getElem? (i := 63) rfl))) (mvT hZ (hw _ (List.mem_of_getElem? (i := 64) rfl))) (notFace_of_selects (args := #[]) (mvT hZ (hw _ (List.mem_of_getElem? (i := 66) rfl)))) (mvT hZ (hw _ (List.mem_of_getElem? (i := 66) rfl))) (mvT hZ (hw _ (List.mem_of_getElem? (i := 65) rfl))) (by decide) (backOf (W := 0) (rm15 l Z a0 hw [] a1 i n xs cs fm h0 n0 Z0 Sa CS hcs FM hr_fm hg132_24.1 hg132_24.2) hZ (hw _ (List.mem_of_getElem? (i := 67) rfl)) (hw _ (List.mem_of_getElem? (i := 15) rfl)) (Nat.le_trans (by decide) hRf) (Nat.le_trans (by decide) hRl)) q25a q25c (g := (mkF m 132 #[.val (.ref a1), .val (.int p2), .val (.int bg), .val (.int en), .val (.int qd), .val (.int kb), .val (.int i), .unset] [(.int i), (.ref a1)])) rfl (by rw [hml]; rfl) (Steps.refl _) (argsL := [(.int i)]) (rest := []) (lenOf pd_18 rfl) rfl (by show 2 * 0 + _ ≤ _; exact Nat.le_of_eq rfl) (hb hby d10_132) (fun _ _ => ⟨rfl, e0, Nat.le_trans (Nat.le_of_eq (Nat.add_zero _)) hce, Nat.le_trans (Nat.le_of_eq (Nat.add_zero _)) hsl⟩)
        dsimp only [Pt.U, Pt.locs, Pt.cells, Pt.slots] at X25 l25 y25 z25 st25 hQ25
        rw [l25, y25, z25] at X25
        obtain ⟨z25v, rfl, hz25v, Nq25, eq25⟩ := hQ25
        have N25n := Fr.app N0 Nq25
        rw [← hz25v] at hr
        have P26 : own_Pr p.tables e below S0 T25 (mkF m 135 #[.val (.ref a1), .val (.int p2), .val (.int bg), .val (.int en), .val (.int qd), .val (.int kb), .val (.int i), .unset] [(.int z25v)]) := fun t k => P23 t (st25.trans k)
        obtain ⟨_, _, ⟨T27, L27, k27, n27⟩, -, X27, ⟨Lc27, hQ27, l27, y27, z27⟩, st27⟩ := Jvm.LawKit.callS X25 hx (y := (⟨"com/example/twince/twince/IdempotencyKey", "isKeyCharacter", "(C)Z"⟩ : MethodName)) hown (mvT hZ (hw _ (List.mem_of_getElem? (i := 88) rfl))) (mvT hZ (hw _ (List.mem_of_getElem? (i := 89) rfl))) (mvT hZ (hw _ (List.mem_of_getElem? (i := 44) rfl))) (mvT hZ (hw _ (List.mem_of_getElem? (i := 90) rfl))) (by decide) (backOf (W := 0) (rm21 l Z a0 hw [] z25v  h0 n0 Z0 ) hZ (hw _ (List.mem_of_getElem? (i := 90) rfl)) (hw _ (List.mem_of_getElem? (i := 44) rfl)) (Nat.le_trans (by decide) hRf) (Nat.le_trans (by decide) hRl)) (g := (mkF m 135 #[.val (.ref a1), .val (.int p2), .val (.int bg), .val (.int en), .val (.int qd), .val (.int kb), .val (.int i), .unset] [(.int z25v)])) rfl (by rw [hml]; rfl) (argsL := [(.int z25v)]) (rest := []) (lenOf pd_19 rfl) rfl (by show 2 * 0 + _ ≤ _; exact Nat.le_of_eq rfl) (hb hby d10_135) (fun _ _ => ⟨rfl, eq25, Nat.le_trans (Nat.le_of_eq (Nat.add_zero _)) hce, Nat.le_trans (Nat.le_of_eq (Nat.add_zero _)) hsl⟩)
        dsimp only [Pt.U, Pt.locs, Pt.cells, Pt.slots] at X27 l27 y27 z27 st27 hQ27
        rw [l27, y27, z27] at X27
        obtain ⟨z27v, rfl, hz27v, Nq27, eq27⟩ := hQ27
        have N27n := Fr.app N25n Nq27
        rw [← hz27v] at hr
        have P28 : own_Pr p.tables e below S0 T27 (mkF m 138 #[.val (.ref a1), .val (.int p2), .val (.int bg), .val (.int en), .val (.int qd), .val (.int kb), .val (.int i), .unset] [(.int z27v)]) := fun t k => P26 t (st27 _ k)
        by_cases hc138_29 : z27v = (0 : Int32)
        · rw [if_pos hc138_29] at hr
          have P30 : own_Pr p.tables e below S0 T27 (mkF m 147 #[.val (.ref a1), .val (.int p2), .val (.int bg), .val (.int en), .val (.int qd), .val (.int kb), .val (.int i), .unset] []) := fun t k => P28 t (by
            refine XS.ifYes X27.here hx rfl (pc0 := 138) (pc' := 147) rfl (hb hby d10_138) rfl (XT.i0_eq_t hc138_29) (by decide) (by decide) ?_
            exact k)
          obtain rfl := Option.some.inj hr
          exact ⟨T27, _, X27, N27n, eq27, P30⟩
        · rw [if_neg hc138_29] at hr
          have P31 : own_Pr p.tables e below S0 T27 (mkF m 123 #[.val (.ref a1), .val (.int p2), .val (.int bg), .val (.int en), .val (.int qd), .val (.int kb), .val (.int (i + (1 : Int32))), .unset] []) := fun t k => P28 t (by
            refine XS.ifNo X27.here hx rfl (hb hby d10_138) rfl (XT.i0_eq_f hc138_29) ?_
            refine XS.iinc X27.here hx rfl (hb hby d10_141) rfl (l' := #[.val (.ref a1), .val (.int p2), .val (.int bg), .val (.int en), .val (.int qd), .val (.int kb), .val (.int (i + (1 : Int32))), .unset]) rfl ?_
            refine XS.goto X27.here hx rfl (pc0 := 144) (pc' := 123) rfl (hb hby d10_144) (by decide) (by decide) ?_
            exact k)
          exact ih (i + (1 : Int32)) T27 _ X27 N27n eq27 P31 hr
      · rw [if_neg hg132_24] at hr; exact nomatch hr
    · rw [if_neg hc126_22] at hr
      have P32 : own_Pr p.tables e below S0 T0 (mkF m 147 #[.val (.ref a1), .val (.int p2), .val (.int bg), .val (.int en), .val (.int qd), .val (.int kb), .val (.int i), .unset] []) := fun t k => P21 t (by
        refine XS.icmpYes X0.here hx rfl (pc0 := 126) (pc' := 147) rfl (hb hby d10_126) rfl (XT.ii_ge_t hc126_22) (by decide) (by decide) ?_
        exact k)
      obtain rfl := Option.some.inj hr
      exact ⟨T0, _, X0, N0, e0, P32⟩
theorem own_Sc_key {Z : State} {h h' : Heap} {a x : Addr} {n : Int32} {xs : List Int32} {k : Nat} {a0 : Array Value} (S : own_Sc Z h a n xs) (K : Keep h h' [x]) (E : Exa Z h x "com/example/twince/twince/IdempotencyKey") (w : (Cond.instantiable "com/example/twince/twince/IdempotencyKey" k).before a0 Z = true) : own_Sc Z h' a n xs := by
  obtain ⟨b, kb, e, c, v, A⟩ := S
  have n1 : a ≠ x := Exa.ne e E (by decide)
  have n2 : b ≠ x := (Exa.neArv E A w).symm
  exact ⟨b, kb, e.keep K, c.keep K (ninS n1 nin0), v.keep K (ninS n1 nin0), A.keep K (ninS n2 nin0)⟩
theorem d10_0 : decode prog_6_method_2_code 0 = .ok (.aload_n 0, 1) := by decide +kernel
theorem d10_1 : decode prog_6_method_2_code 1 = .ok (.invokestatic 13, 3) := by decide +kernel
theorem d10_4 : decode prog_6_method_2_code 4 = .ok (.pop, 1) := by decide +kernel
theorem d10_5 : decode prog_6_method_2_code 5 = .ok (.iload_n 1, 1) := by decide +kernel
theorem d10_6 : decode prog_6_method_2_code 6 = .ok (.invokestatic 19, 3) := by decide +kernel
theorem d10_9 : decode prog_6_method_2_code 9 = .ok (.pop, 1) := by decide +kernel
theorem d10_10 : decode prog_6_method_2_code 10 = .ok (.iconst 0, 1) := by decide +kernel
theorem d10_11 : decode prog_6_method_2_code 11 = .ok (.istore_n 2, 1) := by decide +kernel
theorem d10_12 : decode prog_6_method_2_code 12 = .ok (.aload_n 0, 1) := by decide +kernel
theorem d10_13 : decode prog_6_method_2_code 13 = .ok (.invokevirtual 23, 3) := by decide +kernel
theorem d10_16 : decode prog_6_method_2_code 16 = .ok (.istore_n 3, 1) := by decide +kernel
theorem d10_63 : decode prog_6_method_2_code 63 = .ok (.iload_n 3, 1) := by decide +kernel
theorem d10_64 : decode prog_6_method_2_code 64 = .ok (.iload_n 2, 1) := by decide +kernel
theorem d10_65 : decode prog_6_method_2_code 65 = .ok (.isub, 1) := by decide +kernel
theorem d10_66 : decode prog_6_method_2_code 66 = .ok (.sipush 257, 3) := by decide +kernel
theorem d10_69 : decode prog_6_method_2_code 69 = .ok (.if_icmp .le 14, 3) := by decide +kernel
theorem d10_83 : decode prog_6_method_2_code 83 = .ok (.iload_n 2, 1) := by decide +kernel
theorem d10_84 : decode prog_6_method_2_code 84 = .ok (.iload_n 3, 1) := by decide +kernel
theorem d10_85 : decode prog_6_method_2_code 85 = .ok (.if_icmp .ge 17, 3) := by decide +kernel
theorem d10_88 : decode prog_6_method_2_code 88 = .ok (.aload_n 0, 1) := by decide +kernel
theorem d10_89 : decode prog_6_method_2_code 89 = .ok (.iload_n 2, 1) := by decide +kernel
theorem d10_90 : decode prog_6_method_2_code 90 = .ok (.invokevirtual 29, 3) := by decide +kernel
theorem d10_93 : decode prog_6_method_2_code 93 = .ok (.bipush 34, 2) := by decide +kernel
theorem d10_95 : decode prog_6_method_2_code 95 = .ok (.if_icmp .ne 7, 3) := by decide +kernel
theorem d10_102 : decode prog_6_method_2_code 102 = .ok (.iconst 0, 1) := by decide +kernel
theorem d10_103 : decode prog_6_method_2_code 103 = .ok (.istore 4, 2) := by decide +kernel
theorem d10_105 : decode prog_6_method_2_code 105 = .ok (.iload 4, 2) := by decide +kernel
theorem d10_107 : decode prog_6_method_2_code 107 = .ok (.ifCond .eq 9, 3) := by decide +kernel
theorem d10_116 : decode prog_6_method_2_code 116 = .ok (.iload_n 2, 1) := by decide +kernel
theorem d10_117 : decode prog_6_method_2_code 117 = .ok (.istore 5, 2) := by decide +kernel
theorem d10_119 : decode prog_6_method_2_code 119 = .ok (.iload 5, 2) := by decide +kernel
theorem d10_121 : decode prog_6_method_2_code 121 = .ok (.istore 6, 2) := by decide +kernel
theorem d10_147 : decode prog_6_method_2_code 147 = .ok (.iload 6, 2) := by decide +kernel
theorem d10_149 : decode prog_6_method_2_code 149 = .ok (.iload_n 3, 1) := by decide +kernel
theorem d10_150 : decode prog_6_method_2_code 150 = .ok (.if_icmp .ge 39, 3) := by decide +kernel
theorem d10_189 : decode prog_6_method_2_code 189 = .ok (.iload 4, 2) := by decide +kernel
theorem d10_191 : decode prog_6_method_2_code 191 = .ok (.ifCond .eq 21, 3) := by decide +kernel
theorem d10_212 : decode prog_6_method_2_code 212 = .ok (.iload 6, 2) := by decide +kernel
theorem d10_214 : decode prog_6_method_2_code 214 = .ok (.iload 5, 2) := by decide +kernel
theorem d10_216 : decode prog_6_method_2_code 216 = .ok (.isub, 1) := by decide +kernel
theorem d10_217 : decode prog_6_method_2_code 217 = .ok (.istore 7, 2) := by decide +kernel
theorem d10_219 : decode prog_6_method_2_code 219 = .ok (.iload 7, 2) := by decide +kernel
theorem d10_221 : decode prog_6_method_2_code 221 = .ok (.iload_n 1, 1) := by decide +kernel
theorem d10_222 : decode prog_6_method_2_code 222 = .ok (.if_icmp .ge 17, 3) := by decide +kernel
theorem d10_239 : decode prog_6_method_2_code 239 = .ok (.iload 7, 2) := by decide +kernel
theorem d10_241 : decode prog_6_method_2_code 241 = .ok (.sipush 255, 3) := by decide +kernel
theorem d10_244 : decode prog_6_method_2_code 244 = .ok (.if_icmp .le 14, 3) := by decide +kernel
theorem d10_258 : decode prog_6_method_2_code 258 = .ok (.new 8, 3) := by decide +kernel
theorem d10_261 : decode prog_6_method_2_code 261 = .ok (.dup, 1) := by decide +kernel
theorem d10_262 : decode prog_6_method_2_code 262 = .ok (.aload_n 0, 1) := by decide +kernel
theorem d10_263 : decode prog_6_method_2_code 263 = .ok (.iload 5, 2) := by decide +kernel
theorem d10_265 : decode prog_6_method_2_code 265 = .ok (.iload 6, 2) := by decide +kernel
theorem d10_267 : decode prog_6_method_2_code 267 = .ok (.invokevirtual 56, 3) := by decide +kernel
theorem d10_270 : decode prog_6_method_2_code 270 = .ok (.invokespecial 60, 3) := by decide +kernel
theorem d10_273 : decode prog_6_method_2_code 273 = .ok (.areturn, 1) := by decide +kernel
theorem pd_20 : parseMethodDescriptor "(Ljava/lang/Object;)Ljava/lang/Object;" = some ⟨[(.object "java/lang/Object")], some (.object "java/lang/Object")⟩ := by decide +kernel
theorem pd_21 : parseMethodDescriptor "(I)I" = some ⟨[.int], some .int⟩ := by decide +kernel
theorem pd_22 : parseMethodDescriptor "(II)Ljava/lang/String;" = some ⟨[.int, .int], some (.object "java/lang/String")⟩ := by decide +kernel
theorem pd_23 : parseMethodDescriptor "(Ljava/lang/String;)V" = some ⟨[(.object "java/lang/String")], none⟩ := by decide +kernel
theorem ef_10_u (m : MethodId) (a1 : Addr) (p2 : Int32) : entryFrame m #[(.ref a1), (.int p2)] 8 = mkF m 0 #[.val (.ref a1), .val (.int p2), .unset, .unset, .unset, .unset, .unset, .unset] [] := by first | (simp [entryFrame, mkF, argsToLocals, Value.category]; done) | rfl
set_option maxRecDepth 65536 in
set_option maxHeartbeats 40000000 in
theorem rm10_u (l : Launch) (Z : State) (a0 : Array Value) (hw : ∀ d ∈ tables_1, d.before a0 Z = true) (ws : List Jvm.Cond) (a1 : Addr) (p2 : Int32) (n : Int32) (xs : List Int32) (cs : Int32) (fm : Value) (bg en ke : Int32) (h0 : Heap) (n0 : Nat) (Z0 : n0 ≤ h0.size) (Sa : own_Sc Z h0 a1 n xs) (CS : Sta Z h0 "java/lang/String" "COMPACT_STRINGS" "Z" (.int cs)) (hcs : ¬ cs = (0 : Int32)) (FM : Sta Z h0 "jdk/internal/util/Preconditions" "SIOOBE_FORMATTER" "Ljava/util/function/BiFunction;" fm) (hr_fm : fm.isRef = true) (hm1 : ¬ p2 < (1 : Int32)) (hm2 : ¬ (255 : Int32) < p2) (r17 : own_L10_17 20 xs n n 0 = some bg) (r39 : own_L10_39 20 xs n bg n = some en) (hbn : ¬ (bg < 0) ∧ bg < n) (hbe : bg < en) (hlen : ¬ (257 : Int32) < (en - bg)) (hqu : ¬ ((xs.getD (bg).toNatClampNeg 0) &&& 255) = (34 : Int32)) (r123 : own_L10_123 20 xs n bg en 0 bg bg = some ke) (hke : ¬ ke < en) (hl1 : ¬ (ke - bg) < p2) (hl2 : ¬ (255 : Int32) < (ke - bg)) (hs1 : ¬ bg < (0 : Int32)) (hs2 : bg < ke) (hs3 : ¬ n < ke) (hs4 : ¬ (8 : Int32) < n) :
    MetFree l (⟨"com/example/twince/twince/IdempotencyKey", "parse", "(Ljava/lang/String;I)Lcom/example/twince/twince/IdempotencyKey;"⟩ : MethodName) (head1 (Jvm.Cond.code (⟨"com/example/twince/twince/IdempotencyKey", "parse", "(Ljava/lang/String;I)Lcom/example/twince/twince/IdempotencyKey;"⟩ : MethodName) prog_6_method_2_code 8 (some (.object "com/example/twince/twince/IdempotencyKey")) :: ws) ({ frames := 5, cells := 3, slots := 13, locals := 120 } : Room)) (fun a U => a = #[(.ref a1), (.int p2)] ∧ Z.Warmed39 U.vm ∧ U.heap = h0) (fun _ _ _ _ _ => True) (fun _ U o U' => ∃ v L, o = .returned v ∧ own_QP Z xs bg (ke - bg) h0 n0 v U'.heap L ∧ FrameEnd U o U' L ({ frames := 5, cells := 3, slots := 13, locals := 120 } : Room).cells ({ frames := 5, cells := 3, slots := 13, locals := 120 } : Room).slots) := by
  refine MetFree.of_bodySF (plainFor_of_name pn_12) hisR ?_
  intro p e s m args below meth c s₁ Bd hml0 hP hK
  obtain ⟨rfl, hZ, hh⟩ := hP
  have hx := Bd.exec
  have hby := Bd.bytes
  have hml : c.maxLocals = 8 := hml0
  have hown : s.vm.findClass "com/example/twince/twince/IdempotencyKey" = some m.cls := findClass_of_methodNamed Bd.named
  have hnm := (name_of_methodNamed Bd.named Bd.method).1
  have X0 : Stand p l e ({ frames := 5, cells := 3, slots := 13, locals := 120 } : Room) s m #[(.ref a1), (.int p2)] below meth c s₁ [] 0 0 := Stand.of_body Bd
  have e0 : s₁.heap = h0 := by rw [← hh, Bd.state]; rfl
  have N0 := Fr.nil n0
  obtain ⟨S0, hS0⟩ : ∃ z, z = s₁.setTop (entryFrame m #[(.ref a1), (.int p2)] 8) := ⟨_, rfl⟩
  have P0 : own_Pr p.tables e below S0 s₁ (mkF m 0 #[.val (.ref a1), .val (.int p2), .unset, .unset, .unset, .unset, .unset, .unset] []) := fun t k => hS0 ▸ castTop (ef_10_u m a1 p2) k
  have K0 := Keep.refl h0 []
  have Es := Sa.exa
  have P21 : own_Pr p.tables e below S0 s₁ (mkF m 1 #[.val (.ref a1), .val (.int p2), .unset, .unset, .unset, .unset, .unset, .unset] [(.ref a1)]) := fun t k => P0 t (by
    refine XS.aloadN X0.here hx rfl (hb hby d10_0) rfl rfl ?_
    exact k)
  obtain ⟨_, _, ⟨T22, L22, k22, n22⟩, -, X22, ⟨Lc22, hQ22, l22, y22, z22⟩, st22⟩ := Jvm.LawKit.callS X0 hx (y := (⟨"java/util/Objects", "requireNonNull", "(Ljava/lang/Object;)Ljava/lang/Object;"⟩ : MethodName)) hown (mvT hZ (hw _ (List.mem_of_getElem? (i := 46) rfl))) (mvT hZ (hw _ (List.mem_of_getElem? (i := 47) rfl))) (mvT hZ (hw _ (List.mem_of_getElem? (i := 48) rfl))) (mvT hZ (hw _ (List.mem_of_getElem? (i := 49) rfl))) (by decide) (backOf (W := 0) (rm11 l Z a0 hw [] a1  h0 n0 Z0 ) hZ (hw _ (List.mem_of_getElem? (i := 49) rfl)) (hw _ (List.mem_of_getElem? (i := 48) rfl)) (by decide) (by decide)) (g := (mkF m 1 #[.val (.ref a1), .val (.int p2), .unset, .unset, .unset, .unset, .unset, .unset] [(.ref a1)])) rfl (by rw [hml]; rfl) (argsL := [(.ref a1)]) (rest := []) (lenOf pd_20 rfl) rfl (by show 2 * 0 + _ ≤ _; exact Nat.le_of_eq rfl) (hb hby d10_1) (fun _ _ => ⟨rfl, e0, (by decide : 0 + 0 ≤ _), (by decide : 0 + 0 ≤ _)⟩)
  dsimp only [Pt.U, Pt.locs, Pt.cells, Pt.slots] at X22 l22 y22 z22 st22 hQ22
  rw [l22, y22, z22] at X22
  have X22 := X22.mono (cells' := 0) (slots' := 0) (by decide) (by decide)
  obtain ⟨z22v, rfl, hz22v, Nq22, eq22⟩ := hQ22
  have N22n := Fr.app N0 Nq22
  have P23 : own_Pr p.tables e below S0 T22 (mkF m 4 #[.val (.ref a1), .val (.int p2), .unset, .unset, .unset, .unset, .unset, .unset] [(.ref z22v)]) := fun t k => P21 t (st22 _ k)
  have P24 : own_Pr p.tables e below S0 T22 (mkF m 6 #[.val (.ref a1), .val (.int p2), .unset, .unset, .unset, .unset, .unset, .unset] [(.int p2)]) := fun t k => P23 t (by
    refine XS.pop X22.here hx rfl (hb hby d10_4) rfl rfl ?_
    refine XS.iloadN X22.here hx rfl (hb hby d10_5) rfl ?_
    exact k)
  obtain ⟨_, _, ⟨T25, L25, k25, n25⟩, -, X25, ⟨Lc25, hQ25, l25, y25, z25⟩, st25⟩ := Jvm.LawKit.callS X22 hx (y := (⟨"com/example/twince/twince/IdempotencyKey", "checkMinLength", "(I)I"⟩ : MethodName)) hown (mvT hZ (hw _ (List.mem_of_getElem? (i := 50) rfl))) (mvT hZ (hw _ (List.mem_of_getElem? (i := 51) rfl))) (mvT hZ (hw _ (List.mem_of_getElem? (i := 44) rfl))) (mvT hZ (hw _ (List.mem_of_getElem? (i := 52) rfl))) (by decide) (backOf (W := 0) (rm12 l Z a0 hw [] p2  h0 n0 Z0 hm1 hm2) hZ (hw _ (List.mem_of_getElem? (i := 52) rfl)) (hw _ (List.mem_of_getElem? (i := 44) rfl)) (by decide) (by decide)) (g := (mkF m 6 #[.val (.ref a1), .val (.int p2), .unset, .unset, .unset, .unset, .unset, .unset] [(.int p2)])) rfl (by rw [hml]; rfl) (argsL := [(.int p2)]) (rest := []) (lenOf pd_21 rfl) rfl (by show 2 * 0 + _ ≤ _; exact Nat.le_of_eq rfl) (hb hby d10_6) (fun _ _ => ⟨rfl, eq22, (by decide : 0 + 0 ≤ _), (by decide : 0 + 0 ≤ _)⟩)
  dsimp only [Pt.U, Pt.locs, Pt.cells, Pt.slots] at X25 l25 y25 z25 st25 hQ25
  rw [l25, y25, z25] at X25
  have X25 := X25.mono (cells' := 0) (slots' := 0) (by decide) (by decide)
  obtain ⟨z25v, rfl, hz25v, Nq25, eq25⟩ := hQ25
  have N25n := Fr.app N22n Nq25
  have P26 : own_Pr p.tables e below S0 T25 (mkF m 9 #[.val (.ref a1), .val (.int p2), .unset, .unset, .unset, .unset, .unset, .unset] [(.int z25v)]) := fun t k => P24 t (st25 _ k)
  have P27 : own_Pr p.tables e below S0 T25 (mkF m 13 #[.val (.ref a1), .val (.int p2), .val (.int (0 : Int32)), .unset, .unset, .unset, .unset, .unset] [(.ref a1)]) := fun t k => P26 t (by
    refine XS.pop X25.here hx rfl (hb hby d10_9) rfl rfl ?_
    refine XS.iconst X25.here hx rfl (hb hby d10_10) ?_
    refine XS.istoreN X25.here hx rfl (hb hby d10_11) rfl (l' := #[.val (.ref a1), .val (.int p2), .val (.int (0 : Int32)), .unset, .unset, .unset, .unset, .unset]) rfl ?_
    refine XS.aloadN X25.here hx rfl (hb hby d10_12) rfl rfl ?_
    exact k)
  obtain ⟨cq28, kq28, q28a, q28b, q28c⟩ := isOf hZ eq25 Es
  obtain ⟨_, _, ⟨T28, L28, k28, n28⟩, -, X28, ⟨Lc28, hQ28, l28, y28, z28⟩, st28⟩ := X25.virtualBack hx (y := (⟨"java/lang/String", "length", "()I"⟩ : MethodName)) (z := (⟨"java/lang/String", "length", "()I"⟩ : MethodName)) hown (mvT hZ (hw _ (List.mem_of_getElem? (i := 53) rfl))) (mvT hZ (hw _ (List.mem_of_getElem? (i := 54) rfl))) (notFace_of_selects (args := #[]) (mvT hZ (hw _ (List.mem_of_getElem? (i := 56) rfl)))) (mvT hZ (hw _ (List.mem_of_getElem? (i := 56) rfl))) (mvT hZ (hw _ (List.mem_of_getElem? (i := 55) rfl))) (by decide) (backOf (W := 0) (rm13 l Z a0 hw [] a1 n xs cs h0 n0 Z0 Sa CS hcs) hZ (hw _ (List.mem_of_getElem? (i := 57) rfl)) (hw _ (List.mem_of_getElem? (i := 15) rfl)) (by decide) (by decide)) q28a q28c (g := (mkF m 13 #[.val (.ref a1), .val (.int p2), .val (.int (0 : Int32)), .unset, .unset, .unset, .unset, .unset] [(.ref a1)])) rfl (by rw [hml]; rfl) (Steps.refl _) (argsL := []) (rest := []) (lenOf pd_15 rfl) rfl (by show 2 * 0 + _ ≤ _; exact Nat.le_of_eq rfl) (hb hby d10_13) (fun _ _ => ⟨rfl, eq25, (by decide : 0 + 0 ≤ _), (by decide : 0 + 0 ≤ _)⟩)
  dsimp only [Pt.U, Pt.locs, Pt.cells, Pt.slots] at X28 l28 y28 z28 st28 hQ28
  rw [l28, y28, z28] at X28
  have X28 := X28.mono (cells' := 0) (slots' := 0) (by decide) (by decide)
  obtain ⟨z28v, rfl, hz28v, Nq28, eq28⟩ := hQ28
  have N28n := Fr.app N25n Nq28
  have hy28 := hz28v.symm; subst hy28
  have P29 : own_Pr p.tables e below S0 T28 (mkF m 16 #[.val (.ref a1), .val (.int p2), .val (.int (0 : Int32)), .unset, .unset, .unset, .unset, .unset] [(.int n)]) := fun t k => P27 t (st28.trans k)
  have P30 : own_Pr p.tables e below S0 T28 (mkF m 17 #[.val (.ref a1), .val (.int p2), .val (.int (0 : Int32)), .val (.int n), .unset, .unset, .unset, .unset] []) := fun t k => P29 t (by
    refine XS.istoreN X28.here hx rfl (hb hby d10_16) rfl (l' := #[.val (.ref a1), .val (.int p2), .val (.int (0 : Int32)), .val (.int n), .unset, .unset, .unset, .unset]) rfl ?_
    exact k)
  obtain ⟨T31, locs31, X31, N31, e31, P31⟩ := lp10_17 (cells := 0) (slots := 0) hx hZ hw hby hml hown a1 p2 n xs cs fm n Sa CS hcs FM hr_fm Z0 (by decide) (by decide) (by decide) (by decide) 20 (0 : Int32) T28 _ X28 N28n eq28 P30 r17
  obtain ⟨T32, locs32, X32, N32, e32, P32⟩ := lp10_39 (cells := 0) (slots := 0) hx hZ hw hby hml hown a1 p2 n xs cs fm bg Sa CS hcs FM hr_fm Z0 (by decide) (by decide) (by decide) (by decide) 20 n T31 _ X31 N31 e31 P31 r39
  have P33 : own_Pr p.tables e below S0 T32 (mkF m 90 #[.val (.ref a1), .val (.int p2), .val (.int bg), .val (.int en), .unset, .unset, .unset, .unset] [(.int bg), (.ref a1)]) := fun t k => P32 t (by
    refine XS.iloadN X32.here hx rfl (hb hby d10_63) rfl ?_
    refine XS.iloadN X32.here hx rfl (hb hby d10_64) rfl ?_
    refine XS.isub X32.here hx rfl (hb hby d10_65) rfl ?_
    refine XS.sipush X32.here hx rfl (hb hby d10_66) ?_
    refine XS.icmpYes X32.here hx rfl (pc0 := 69) (pc' := 83) rfl (hb hby d10_69) rfl (XT.ii_le_t hlen) (by decide) (by decide) ?_
    refine XS.iloadN X32.here hx rfl (hb hby d10_83) rfl ?_
    refine XS.iloadN X32.here hx rfl (hb hby d10_84) rfl ?_
    refine XS.icmpNo X32.here hx rfl (hb hby d10_85) rfl (XT.ii_ge_f hbe) ?_
    show Steps p.tables e below (T32.setTop (mkF m 88 #[.val (.ref a1), .val (.int p2), .val (.int bg), .val (.int en), .unset, .unset, .unset, .unset] [])) _
    refine XS.aloadN X32.here hx rfl (hb hby d10_88) rfl rfl ?_
    refine XS.iloadN X32.here hx rfl (hb hby d10_89) rfl ?_
    exact k)
  obtain ⟨cq34, kq34, q34a, q34b, q34c⟩ := isOf hZ e32 Es
  obtain ⟨_, _, ⟨T34, L34, k34, n34⟩, -, X34, ⟨Lc34, hQ34, l34, y34, z34⟩, st34⟩ := X32.virtualBack hx (y := (⟨"java/lang/String", "charAt", "(I)C"⟩ : MethodName)) (z := (⟨"java/lang/String", "charAt", "(I)C"⟩ : MethodName)) hown (mvT hZ (hw _ (List.mem_of_getElem? (i := 63) rfl))) (mvT hZ (hw _ (List.mem_of_getElem? (i := 64) rfl))) (notFace_of_selects (args := #[]) (mvT hZ (hw _ (List.mem_of_getElem? (i := 66) rfl)))) (mvT hZ (hw _ (List.mem_of_getElem? (i := 66) rfl))) (mvT hZ (hw _ (List.mem_of_getElem? (i := 65) rfl))) (by decide) (backOf (W := 0) (rm15 l Z a0 hw [] a1 bg n xs cs fm h0 n0 Z0 Sa CS hcs FM hr_fm hbn.1 hbn.2) hZ (hw _ (List.mem_of_getElem? (i := 67) rfl)) (hw _ (List.mem_of_getElem? (i := 15) rfl)) (by decide) (by decide)) q34a q34c (g := (mkF m 90 #[.val (.ref a1), .val (.int p2), .val (.int bg), .val (.int en), .unset, .unset, .unset, .unset] [(.int bg), (.ref a1)])) rfl (by rw [hml]; rfl) (Steps.refl _) (argsL := [(.int bg)]) (rest := []) (lenOf pd_18 rfl) rfl (by show 2 * 0 + _ ≤ _; exact Nat.le_of_eq rfl) (hb hby d10_90) (fun _ _ => ⟨rfl, e32, (by decide : 0 + 0 ≤ _), (by decide : 0 + 0 ≤ _)⟩)
  dsimp only [Pt.U, Pt.locs, Pt.cells, Pt.slots] at X34 l34 y34 z34 st34 hQ34
  rw [l34, y34, z34] at X34
  have X34 := X34.mono (cells' := 0) (slots' := 0) (by decide) (by decide)
  obtain ⟨z34v, rfl, hz34v, Nq34, eq34⟩ := hQ34
  have N34n := Fr.app N32 Nq34
  have P35 : own_Pr p.tables e below S0 T34 (mkF m 93 #[.val (.ref a1), .val (.int p2), .val (.int bg), .val (.int en), .unset, .unset, .unset, .unset] [(.int z34v)]) := fun t k => P33 t (st34.trans k)
  have P36 : own_Pr p.tables e below S0 T34 (mkF m 123 #[.val (.ref a1), .val (.int p2), .val (.int bg), .val (.int en), .val (.int (0 : Int32)), .val (.int bg), .val (.int bg), .unset] []) := fun t k => P35 t (by
    refine XS.bipush X34.here hx rfl (hb hby d10_93) ?_
    refine XS.icmpYes X34.here hx rfl (pc0 := 95) (pc' := 102) rfl (hb hby d10_95) rfl (XT.ii_ne_t (by rw [hz34v]; exact hqu)) (by decide) (by decide) ?_
    refine XS.iconst X34.here hx rfl (hb hby d10_102) ?_
    refine XS.istore X34.here hx rfl (hb hby d10_103) rfl (l' := #[.val (.ref a1), .val (.int p2), .val (.int bg), .val (.int en), .val (.int (0 : Int32)), .unset, .unset, .unset]) rfl ?_
    refine XS.iload X34.here hx rfl (hb hby d10_105) rfl ?_
    refine XS.ifYes X34.here hx rfl (pc0 := 107) (pc' := 116) rfl (hb hby d10_107) rfl (by decide) (by decide) (by decide) ?_
    refine XS.iloadN X34.here hx rfl (hb hby d10_116) rfl ?_
    refine XS.istore X34.here hx rfl (hb hby d10_117) rfl (l' := #[.val (.ref a1), .val (.int p2), .val (.int bg), .val (.int en), .val (.int (0 : Int32)), .val (.int bg), .unset, .unset]) rfl ?_
    show Steps p.tables e below (T34.setTop (mkF m 119 #[.val (.ref a1), .val (.int p2), .val (.int bg), .val (.int en), .val (.int (0 : Int32)), .val (.int bg), .unset, .unset] [])) _
    refine XS.iload X34.here hx rfl (hb hby d10_119) rfl ?_
    refine XS.istore X34.here hx rfl (hb hby d10_121) rfl (l' := #[.val (.ref a1), .val (.int p2), .val (.int bg), .val (.int en), .val (.int (0 : Int32)), .val (.int bg), .val (.int bg), .unset]) rfl ?_
    exact k)
  obtain ⟨T37, locs37, X37, N37, e37, P37⟩ := lp10_123 (cells := 0) (slots := 0) hx hZ hw hby hml hown a1 p2 n xs cs fm bg en (0 : Int32) bg Sa CS hcs FM hr_fm Z0 (by decide) (by decide) (by decide) (by decide) 20 bg T34 _ X34 N34n eq34 P36 r123
  have P38 : own_Pr p.tables e below S0 T37 (mkF m 258 #[.val (.ref a1), .val (.int p2), .val (.int bg), .val (.int en), .val (.int (0 : Int32)), .val (.int bg), .val (.int ke), .val (.int (ke - bg))] []) := fun t k => P37 t (by
    refine XS.iload X37.here hx rfl (hb hby d10_147) rfl ?_
    refine XS.iloadN X37.here hx rfl (hb hby d10_149) rfl ?_
    refine XS.icmpYes X37.here hx rfl (pc0 := 150) (pc' := 189) rfl (hb hby d10_150) rfl (XT.ii_ge_t hke) (by decide) (by decide) ?_
    refine XS.iload X37.here hx rfl (hb hby d10_189) rfl ?_
    refine XS.ifYes X37.here hx rfl (pc0 := 191) (pc' := 212) rfl (hb hby d10_191) rfl (by decide) (by decide) (by decide) ?_
    refine XS.iload X37.here hx rfl (hb hby d10_212) rfl ?_
    refine XS.iload X37.here hx rfl (hb hby d10_214) rfl ?_
    refine XS.isub X37.here hx rfl (hb hby d10_216) rfl ?_
    show Steps p.tables e below (T37.setTop (mkF m 217 #[.val (.ref a1), .val (.int p2), .val (.int bg), .val (.int en), .val (.int (0 : Int32)), .val (.int bg), .val (.int ke), .unset] [(.int (ke - bg))])) _
    refine XS.istore X37.here hx rfl (hb hby d10_217) rfl (l' := #[.val (.ref a1), .val (.int p2), .val (.int bg), .val (.int en), .val (.int (0 : Int32)), .val (.int bg), .val (.int ke), .val (.int (ke - bg))]) rfl ?_
    refine XS.iload X37.here hx rfl (hb hby d10_219) rfl ?_
    refine XS.iloadN X37.here hx rfl (hb hby d10_221) rfl ?_
    refine XS.icmpYes X37.here hx rfl (pc0 := 222) (pc' := 239) rfl (hb hby d10_222) rfl (XT.ii_ge_t hl1) (by decide) (by decide) ?_
    refine XS.iload X37.here hx rfl (hb hby d10_239) rfl ?_
    refine XS.sipush X37.here hx rfl (hb hby d10_241) ?_
    refine XS.icmpYes X37.here hx rfl (pc0 := 244) (pc' := 258) rfl (hb hby d10_244) rfl (XT.ii_le_t hl2) (by decide) (by decide) ?_
    exact k)
  obtain ⟨T39, h39, X39, e39, E39, A39, D39, -, st39⟩ := newO X37 hx hZ hown (hw _ (List.mem_of_getElem? (i := 91) rfl)) (hw _ (List.mem_of_getElem? (i := 92) rfl)) (hw _ (List.mem_of_getElem? (i := 44) rfl)) e37 (g := (mkF m 258 #[.val (.ref a1), .val (.int p2), .val (.int bg), .val (.int en), .val (.int (0 : Int32)), .val (.int bg), .val (.int ke), .val (.int (ke - bg))] [])) rfl (hb hby d10_258) (by decide) (by decide)
  obtain ⟨b39, g39⟩ : ∃ z, z = h0.size := ⟨_, rfl⟩
  rw [← g39] at A39 D39 st39
  have g_b39 : n0 ≤ b39 := Nat.le_trans Z0 (Nat.le_of_eq g39.symm)
  have sz_b39 : h0.size ≤ b39 := Nat.le_trans K0.1 (Nat.le_of_eq g39.symm)
  have ne_a1_b39 : a1 ≠ b39 := Nat.ne_of_lt (Nat.lt_of_lt_of_le Es.lt (Nat.le_of_eq g39.symm))
  have F40 := CS.ext E39
  have F41 := FM.ext E39
  have F42 := Sa.ext E39
  have F43 := Es.ext E39
  have Z44 : n0 ≤ h39.size := Nat.le_trans Z0 E39.1
  have K45 := K0.ext E39
  have F46 : Fld Z h39 b39 "com/example/twince/twince/IdempotencyKey" "value" "Ljava/lang/String;" .null := D39 (Or.inr (hw _ (List.mem_of_getElem? (i := 135) rfl))) (ty := (.object "java/lang/String")) (by decide)
  have P47 : own_Pr p.tables e below S0 T39 (mkF m 261 #[.val (.ref a1), .val (.int p2), .val (.int bg), .val (.int en), .val (.int (0 : Int32)), .val (.int bg), .val (.int ke), .val (.int (ke - bg))] [(.ref b39)]) := fun t k => P38 t (st39 _ k)
  have P48 : own_Pr p.tables e below S0 T39 (mkF m 267 #[.val (.ref a1), .val (.int p2), .val (.int bg), .val (.int en), .val (.int (0 : Int32)), .val (.int bg), .val (.int ke), .val (.int (ke - bg))] [(.int ke), (.int bg), (.ref a1), (.ref b39), (.ref b39)]) := fun t k => P47 t (by
    refine XS.dup X39.here hx rfl (hb hby d10_261) rfl rfl ?_
    refine XS.aloadN X39.here hx rfl (hb hby d10_262) rfl rfl ?_
    refine XS.iload X39.here hx rfl (hb hby d10_263) rfl ?_
    refine XS.iload X39.here hx rfl (hb hby d10_265) rfl ?_
    exact k)
  obtain ⟨cq49, kq49, q49a, q49b, q49c⟩ := isOf hZ e39 F43
  obtain ⟨_, _, ⟨T49, L49, k49, n49⟩, -, X49, ⟨Lc49, hQ49, l49, y49, z49⟩, st49⟩ := X39.virtualBack hx (y := (⟨"java/lang/String", "substring", "(II)Ljava/lang/String;"⟩ : MethodName)) (z := (⟨"java/lang/String", "substring", "(II)Ljava/lang/String;"⟩ : MethodName)) hown (mvT hZ (hw _ (List.mem_of_getElem? (i := 93) rfl))) (mvT hZ (hw _ (List.mem_of_getElem? (i := 94) rfl))) (notFace_of_selects (args := #[]) (mvT hZ (hw _ (List.mem_of_getElem? (i := 96) rfl)))) (mvT hZ (hw _ (List.mem_of_getElem? (i := 96) rfl))) (mvT hZ (hw _ (List.mem_of_getElem? (i := 95) rfl))) (by decide) (backOf (W := 2) (rm22 l Z a0 hw [] a1 bg ke n xs cs fm h39 n0 Z44 F42 F40 hcs F41 hr_fm hs1 hs2 hs3 hs4) hZ (hw _ (List.mem_of_getElem? (i := 97) rfl)) (hw _ (List.mem_of_getElem? (i := 15) rfl)) (by decide) (by decide)) q49a q49c (g := (mkF m 267 #[.val (.ref a1), .val (.int p2), .val (.int bg), .val (.int en), .val (.int (0 : Int32)), .val (.int bg), .val (.int ke), .val (.int (ke - bg))] [(.int ke), (.int bg), (.ref a1), (.ref b39), (.ref b39)])) rfl (by rw [hml]; rfl) (Steps.refl _) (argsL := [(.int bg), (.int ke)]) (rest := [(.ref b39), (.ref b39)]) (lenOf pd_22 rfl) rfl (by show 2 * 0 + _ ≤ _; exact Nat.le_of_eq rfl) (hb hby d10_267) (fun _ _ => ⟨rfl, e39, (by decide : 1 + 2 ≤ _), (by decide : 1 + 12 ≤ _)⟩)
  dsimp only [Pt.U, Pt.locs, Pt.cells, Pt.slots] at X49 l49 y49 z49 st49 hQ49
  rw [l49, y49, z49] at X49
  have X49 := X49.mono (cells' := 3) (slots' := 13) (by decide) (by decide)
  obtain ⟨s49, ys49, rfl, Nq49, Kq49, Sq49, hy49⟩ := hQ49
  have N49n := Fr.app N37 Nq49
  have F54 := A39.keep Kq49
  have F55 := F46.keep Kq49 nin0
  have K49n := K45.trans Kq49 all0
  have Z49n := Nat.le_trans Z44 Kq49.1
  have P56 : own_Pr p.tables e below S0 T49 (mkF m 270 #[.val (.ref a1), .val (.int p2), .val (.int bg), .val (.int en), .val (.int (0 : Int32)), .val (.int bg), .val (.int ke), .val (.int (ke - bg))] [(.ref s49), (.ref b39), (.ref b39)]) := fun t k => P48 t (st49.trans k)
  obtain ⟨_, _, ⟨T57, L57, k57, n57⟩, -, X57, ⟨Lc57, hQ57, l57, y57, z57⟩, st57⟩ := X49.specialBack hx (y := (⟨"com/example/twince/twince/IdempotencyKey", "<init>", "(Ljava/lang/String;)V"⟩ : MethodName)) rfl hown (mvT hZ (hw _ (List.mem_of_getElem? (i := 130) rfl))) (mvT hZ (hw _ (List.mem_of_getElem? (i := 131) rfl))) (mvT hZ (hw _ (List.mem_of_getElem? (i := 132) rfl))) (by decide) (backOf (W := 1) (rm31 l Z a0 hw [] b39 s49 T49.heap n0 Z49n F54 F55 g_b39) hZ (hw _ (List.mem_of_getElem? (i := 132) rfl)) (hw _ (List.mem_of_getElem? (i := 44) rfl)) (by decide) (by decide)) (g := (mkF m 270 #[.val (.ref a1), .val (.int p2), .val (.int bg), .val (.int en), .val (.int (0 : Int32)), .val (.int bg), .val (.int ke), .val (.int (ke - bg))] [(.ref s49), (.ref b39), (.ref b39)])) rfl (by rw [hml]; rfl) (Steps.refl _) (a := b39) (argsL := [(.ref s49)]) (rest := [(.ref b39)]) (lenOf pd_23 rfl) rfl (by show 2 * 0 + _ ≤ _; exact Nat.le_of_eq rfl) (hb hby d10_270) (fun _ _ => ⟨rfl, rfl, (by decide : 3 + 0 ≤ _), (by decide : 13 + 0 ≤ _)⟩)
  dsimp only [Pt.U, Pt.locs, Pt.cells, Pt.slots] at X57 l57 y57 z57 st57 hQ57
  rw [l57, y57, z57] at X57
  have X57 := X57.mono (cells' := 3) (slots' := 13) (by decide) (by decide)
  obtain ⟨rfl, Nq57, Kq57, Eq57, Wq57⟩ := hQ57
  have N57n := Fr.app N49n Nq57
  have S57n := own_Sc_key Sq49 Kq57 F54 (hw _ (List.mem_of_getElem? (i := 92) rfl))
  have K57n := K49n.trans Kq57 (allS (Or.inr sz_b39) all0)
  have P58 : own_Pr p.tables e below S0 T57 (mkF m 273 #[.val (.ref a1), .val (.int p2), .val (.int bg), .val (.int en), .val (.int (0 : Int32)), .val (.int bg), .val (.int ke), .val (.int (ke - bg))] [(.ref b39)]) := fun t k => P56 t (st57.trans k)
  obtain ⟨fs, hr, hrun, hended, hW, hsame⟩ := X57.leave (v := some (.ref b39)) (fun h => by rw [Bd.returns] at h; cases h)
  have fin : Steps p.tables e below S0 (T57.setFrames fs) := P58 _ (by
    jvm_step X57.here [X57.here.top, hx, (hb hby d10_273), X57.method', Bd.returns, Value.isRef, FieldType.isReference]
    first | (intro acts; rw [hr _ acts rfl rfl rfl]) | rw [hr _ _ rfl rfl rfl]
    exact Steps.refl _)
  rw [hS0] at fin
  refine ⟨_, _, fin, hrun, hended, _, _, rfl, ?_, ⟨_, rfl⟩, hW, hsame.mono (by decide) (by decide)⟩
  show own_QP Z xs bg (ke - bg) h0 n0 _ T57.heap _
  exact ⟨_, _, ys49, rfl, N57n, K57n, Eq57, Wq57, S57n, hy49⟩
theorem d10_98 : decode prog_6_method_2_code 98 = .ok (.iconst 1, 1) := by decide +kernel
theorem d10_99 : decode prog_6_method_2_code 99 = .ok (.goto 4, 3) := by decide +kernel
theorem d10_110 : decode prog_6_method_2_code 110 = .ok (.iload_n 2, 1) := by decide +kernel
theorem d10_111 : decode prog_6_method_2_code 111 = .ok (.iconst 1, 1) := by decide +kernel
theorem d10_112 : decode prog_6_method_2_code 112 = .ok (.iadd, 1) := by decide +kernel
theorem d10_113 : decode prog_6_method_2_code 113 = .ok (.goto 4, 3) := by decide +kernel
theorem d10_153 : decode prog_6_method_2_code 153 = .ok (.iload 4, 2) := by decide +kernel
theorem d10_155 : decode prog_6_method_2_code 155 = .ok (.ifCond .eq 14, 3) := by decide +kernel
theorem d10_158 : decode prog_6_method_2_code 158 = .ok (.aload_n 0, 1) := by decide +kernel
theorem d10_159 : decode prog_6_method_2_code 159 = .ok (.iload 6, 2) := by decide +kernel
theorem d10_161 : decode prog_6_method_2_code 161 = .ok (.invokevirtual 29, 3) := by decide +kernel
theorem d10_164 : decode prog_6_method_2_code 164 = .ok (.bipush 34, 2) := by decide +kernel
theorem d10_166 : decode prog_6_method_2_code 166 = .ok (.if_icmp .eq 23, 3) := by decide +kernel
theorem d10_194 : decode prog_6_method_2_code 194 = .ok (.iload 6, 2) := by decide +kernel
theorem d10_196 : decode prog_6_method_2_code 196 = .ok (.iload_n 3, 1) := by decide +kernel
theorem d10_197 : decode prog_6_method_2_code 197 = .ok (.iconst 1, 1) := by decide +kernel
theorem d10_198 : decode prog_6_method_2_code 198 = .ok (.isub, 1) := by decide +kernel
theorem d10_199 : decode prog_6_method_2_code 199 = .ok (.if_icmp .eq 13, 3) := by decide +kernel
theorem ef_10_q (m : MethodId) (a1 : Addr) (p2 : Int32) : entryFrame m #[(.ref a1), (.int p2)] 8 = mkF m 0 #[.val (.ref a1), .val (.int p2), .unset, .unset, .unset, .unset, .unset, .unset] [] := by first | (simp [entryFrame, mkF, argsToLocals, Value.category]; done) | rfl
set_option maxRecDepth 65536 in
set_option maxHeartbeats 40000000 in
theorem rm10_q (l : Launch) (Z : State) (a0 : Array Value) (hw : ∀ d ∈ tables_1, d.before a0 Z = true) (ws : List Jvm.Cond) (a1 : Addr) (p2 : Int32) (n : Int32) (xs : List Int32) (cs : Int32) (fm : Value) (bg en ke : Int32) (h0 : Heap) (n0 : Nat) (Z0 : n0 ≤ h0.size) (Sa : own_Sc Z h0 a1 n xs) (CS : Sta Z h0 "java/lang/String" "COMPACT_STRINGS" "Z" (.int cs)) (hcs : ¬ cs = (0 : Int32)) (FM : Sta Z h0 "jdk/internal/util/Preconditions" "SIOOBE_FORMATTER" "Ljava/util/function/BiFunction;" fm) (hr_fm : fm.isRef = true) (hm1 : ¬ p2 < (1 : Int32)) (hm2 : ¬ (255 : Int32) < p2) (r17 : own_L10_17 20 xs n n 0 = some bg) (r39 : own_L10_39 20 xs n bg n = some en) (hbn : ¬ (bg < 0) ∧ bg < n) (hbe : bg < en) (hlen : ¬ (257 : Int32) < (en - bg)) (hqu : ((xs.getD (bg).toNatClampNeg 0) &&& 255) = (34 : Int32)) (r123 : own_L10_123 20 xs n bg en 1 (bg + 1) (bg + 1) = some ke) (hke : ke < en) (hk : ¬ (ke < 0) ∧ ke < n) (hkq : ((xs.getD (ke).toNatClampNeg 0) &&& 255) = (34 : Int32)) (hkl : ke = en - (1 : Int32)) (hl1 : ¬ (ke - (bg + (1 : Int32))) < p2) (hl2 : ¬ (255 : Int32) < (ke - (bg + (1 : Int32)))) (hs1 : ¬ (bg + (1 : Int32)) < (0 : Int32)) (hs2 : (bg + (1 : Int32)) < ke) (hs3 : ¬ n < ke) (hs4 : ¬ (8 : Int32) < n) :
    MetFree l (⟨"com/example/twince/twince/IdempotencyKey", "parse", "(Ljava/lang/String;I)Lcom/example/twince/twince/IdempotencyKey;"⟩ : MethodName) (head1 (Jvm.Cond.code (⟨"com/example/twince/twince/IdempotencyKey", "parse", "(Ljava/lang/String;I)Lcom/example/twince/twince/IdempotencyKey;"⟩ : MethodName) prog_6_method_2_code 8 (some (.object "com/example/twince/twince/IdempotencyKey")) :: ws) ({ frames := 5, cells := 3, slots := 13, locals := 120 } : Room)) (fun a U => a = #[(.ref a1), (.int p2)] ∧ Z.Warmed39 U.vm ∧ U.heap = h0) (fun _ _ _ _ _ => True) (fun _ U o U' => ∃ v L, o = .returned v ∧ own_QP Z xs (bg + (1 : Int32)) (ke - (bg + (1 : Int32))) h0 n0 v U'.heap L ∧ FrameEnd U o U' L ({ frames := 5, cells := 3, slots := 13, locals := 120 } : Room).cells ({ frames := 5, cells := 3, slots := 13, locals := 120 } : Room).slots) := by
  refine MetFree.of_bodySF (plainFor_of_name pn_12) hisR ?_
  intro p e s m args below meth c s₁ Bd hml0 hP hK
  obtain ⟨rfl, hZ, hh⟩ := hP
  have hx := Bd.exec
  have hby := Bd.bytes
  have hml : c.maxLocals = 8 := hml0
  have hown : s.vm.findClass "com/example/twince/twince/IdempotencyKey" = some m.cls := findClass_of_methodNamed Bd.named
  have hnm := (name_of_methodNamed Bd.named Bd.method).1
  have X0 : Stand p l e ({ frames := 5, cells := 3, slots := 13, locals := 120 } : Room) s m #[(.ref a1), (.int p2)] below meth c s₁ [] 0 0 := Stand.of_body Bd
  have e0 : s₁.heap = h0 := by rw [← hh, Bd.state]; rfl
  have N0 := Fr.nil n0
  obtain ⟨S0, hS0⟩ : ∃ z, z = s₁.setTop (entryFrame m #[(.ref a1), (.int p2)] 8) := ⟨_, rfl⟩
  have P0 : own_Pr p.tables e below S0 s₁ (mkF m 0 #[.val (.ref a1), .val (.int p2), .unset, .unset, .unset, .unset, .unset, .unset] []) := fun t k => hS0 ▸ castTop (ef_10_q m a1 p2) k
  have K0 := Keep.refl h0 []
  have Es := Sa.exa
  have P21 : own_Pr p.tables e below S0 s₁ (mkF m 1 #[.val (.ref a1), .val (.int p2), .unset, .unset, .unset, .unset, .unset, .unset] [(.ref a1)]) := fun t k => P0 t (by
    refine XS.aloadN X0.here hx rfl (hb hby d10_0) rfl rfl ?_
    exact k)
  obtain ⟨_, _, ⟨T22, L22, k22, n22⟩, -, X22, ⟨Lc22, hQ22, l22, y22, z22⟩, st22⟩ := Jvm.LawKit.callS X0 hx (y := (⟨"java/util/Objects", "requireNonNull", "(Ljava/lang/Object;)Ljava/lang/Object;"⟩ : MethodName)) hown (mvT hZ (hw _ (List.mem_of_getElem? (i := 46) rfl))) (mvT hZ (hw _ (List.mem_of_getElem? (i := 47) rfl))) (mvT hZ (hw _ (List.mem_of_getElem? (i := 48) rfl))) (mvT hZ (hw _ (List.mem_of_getElem? (i := 49) rfl))) (by decide) (backOf (W := 0) (rm11 l Z a0 hw [] a1  h0 n0 Z0 ) hZ (hw _ (List.mem_of_getElem? (i := 49) rfl)) (hw _ (List.mem_of_getElem? (i := 48) rfl)) (by decide) (by decide)) (g := (mkF m 1 #[.val (.ref a1), .val (.int p2), .unset, .unset, .unset, .unset, .unset, .unset] [(.ref a1)])) rfl (by rw [hml]; rfl) (argsL := [(.ref a1)]) (rest := []) (lenOf pd_20 rfl) rfl (by show 2 * 0 + _ ≤ _; exact Nat.le_of_eq rfl) (hb hby d10_1) (fun _ _ => ⟨rfl, e0, (by decide : 0 + 0 ≤ _), (by decide : 0 + 0 ≤ _)⟩)
  dsimp only [Pt.U, Pt.locs, Pt.cells, Pt.slots] at X22 l22 y22 z22 st22 hQ22
  rw [l22, y22, z22] at X22
  have X22 := X22.mono (cells' := 0) (slots' := 0) (by decide) (by decide)
  obtain ⟨z22v, rfl, hz22v, Nq22, eq22⟩ := hQ22
  have N22n := Fr.app N0 Nq22
  have P23 : own_Pr p.tables e below S0 T22 (mkF m 4 #[.val (.ref a1), .val (.int p2), .unset, .unset, .unset, .unset, .unset, .unset] [(.ref z22v)]) := fun t k => P21 t (st22 _ k)
  have P24 : own_Pr p.tables e below S0 T22 (mkF m 6 #[.val (.ref a1), .val (.int p2), .unset, .unset, .unset, .unset, .unset, .unset] [(.int p2)]) := fun t k => P23 t (by
    refine XS.pop X22.here hx rfl (hb hby d10_4) rfl rfl ?_
    refine XS.iloadN X22.here hx rfl (hb hby d10_5) rfl ?_
    exact k)
  obtain ⟨_, _, ⟨T25, L25, k25, n25⟩, -, X25, ⟨Lc25, hQ25, l25, y25, z25⟩, st25⟩ := Jvm.LawKit.callS X22 hx (y := (⟨"com/example/twince/twince/IdempotencyKey", "checkMinLength", "(I)I"⟩ : MethodName)) hown (mvT hZ (hw _ (List.mem_of_getElem? (i := 50) rfl))) (mvT hZ (hw _ (List.mem_of_getElem? (i := 51) rfl))) (mvT hZ (hw _ (List.mem_of_getElem? (i := 44) rfl))) (mvT hZ (hw _ (List.mem_of_getElem? (i := 52) rfl))) (by decide) (backOf (W := 0) (rm12 l Z a0 hw [] p2  h0 n0 Z0 hm1 hm2) hZ (hw _ (List.mem_of_getElem? (i := 52) rfl)) (hw _ (List.mem_of_getElem? (i := 44) rfl)) (by decide) (by decide)) (g := (mkF m 6 #[.val (.ref a1), .val (.int p2), .unset, .unset, .unset, .unset, .unset, .unset] [(.int p2)])) rfl (by rw [hml]; rfl) (argsL := [(.int p2)]) (rest := []) (lenOf pd_21 rfl) rfl (by show 2 * 0 + _ ≤ _; exact Nat.le_of_eq rfl) (hb hby d10_6) (fun _ _ => ⟨rfl, eq22, (by decide : 0 + 0 ≤ _), (by decide : 0 + 0 ≤ _)⟩)
  dsimp only [Pt.U, Pt.locs, Pt.cells, Pt.slots] at X25 l25 y25 z25 st25 hQ25
  rw [l25, y25, z25] at X25
  have X25 := X25.mono (cells' := 0) (slots' := 0) (by decide) (by decide)
  obtain ⟨z25v, rfl, hz25v, Nq25, eq25⟩ := hQ25
  have N25n := Fr.app N22n Nq25
  have P26 : own_Pr p.tables e below S0 T25 (mkF m 9 #[.val (.ref a1), .val (.int p2), .unset, .unset, .unset, .unset, .unset, .unset] [(.int z25v)]) := fun t k => P24 t (st25 _ k)
  have P27 : own_Pr p.tables e below S0 T25 (mkF m 13 #[.val (.ref a1), .val (.int p2), .val (.int (0 : Int32)), .unset, .unset, .unset, .unset, .unset] [(.ref a1)]) := fun t k => P26 t (by
    refine XS.pop X25.here hx rfl (hb hby d10_9) rfl rfl ?_
    refine XS.iconst X25.here hx rfl (hb hby d10_10) ?_
    refine XS.istoreN X25.here hx rfl (hb hby d10_11) rfl (l' := #[.val (.ref a1), .val (.int p2), .val (.int (0 : Int32)), .unset, .unset, .unset, .unset, .unset]) rfl ?_
    refine XS.aloadN X25.here hx rfl (hb hby d10_12) rfl rfl ?_
    exact k)
  obtain ⟨cq28, kq28, q28a, q28b, q28c⟩ := isOf hZ eq25 Es
  obtain ⟨_, _, ⟨T28, L28, k28, n28⟩, -, X28, ⟨Lc28, hQ28, l28, y28, z28⟩, st28⟩ := X25.virtualBack hx (y := (⟨"java/lang/String", "length", "()I"⟩ : MethodName)) (z := (⟨"java/lang/String", "length", "()I"⟩ : MethodName)) hown (mvT hZ (hw _ (List.mem_of_getElem? (i := 53) rfl))) (mvT hZ (hw _ (List.mem_of_getElem? (i := 54) rfl))) (notFace_of_selects (args := #[]) (mvT hZ (hw _ (List.mem_of_getElem? (i := 56) rfl)))) (mvT hZ (hw _ (List.mem_of_getElem? (i := 56) rfl))) (mvT hZ (hw _ (List.mem_of_getElem? (i := 55) rfl))) (by decide) (backOf (W := 0) (rm13 l Z a0 hw [] a1 n xs cs h0 n0 Z0 Sa CS hcs) hZ (hw _ (List.mem_of_getElem? (i := 57) rfl)) (hw _ (List.mem_of_getElem? (i := 15) rfl)) (by decide) (by decide)) q28a q28c (g := (mkF m 13 #[.val (.ref a1), .val (.int p2), .val (.int (0 : Int32)), .unset, .unset, .unset, .unset, .unset] [(.ref a1)])) rfl (by rw [hml]; rfl) (Steps.refl _) (argsL := []) (rest := []) (lenOf pd_15 rfl) rfl (by show 2 * 0 + _ ≤ _; exact Nat.le_of_eq rfl) (hb hby d10_13) (fun _ _ => ⟨rfl, eq25, (by decide : 0 + 0 ≤ _), (by decide : 0 + 0 ≤ _)⟩)
  dsimp only [Pt.U, Pt.locs, Pt.cells, Pt.slots] at X28 l28 y28 z28 st28 hQ28
  rw [l28, y28, z28] at X28
  have X28 := X28.mono (cells' := 0) (slots' := 0) (by decide) (by decide)
  obtain ⟨z28v, rfl, hz28v, Nq28, eq28⟩ := hQ28
  have N28n := Fr.app N25n Nq28
  have hy28 := hz28v.symm; subst hy28
  have P29 : own_Pr p.tables e below S0 T28 (mkF m 16 #[.val (.ref a1), .val (.int p2), .val (.int (0 : Int32)), .unset, .unset, .unset, .unset, .unset] [(.int n)]) := fun t k => P27 t (st28.trans k)
  have P30 : own_Pr p.tables e below S0 T28 (mkF m 17 #[.val (.ref a1), .val (.int p2), .val (.int (0 : Int32)), .val (.int n), .unset, .unset, .unset, .unset] []) := fun t k => P29 t (by
    refine XS.istoreN X28.here hx rfl (hb hby d10_16) rfl (l' := #[.val (.ref a1), .val (.int p2), .val (.int (0 : Int32)), .val (.int n), .unset, .unset, .unset, .unset]) rfl ?_
    exact k)
  obtain ⟨T31, locs31, X31, N31, e31, P31⟩ := lp10_17 (cells := 0) (slots := 0) hx hZ hw hby hml hown a1 p2 n xs cs fm n Sa CS hcs FM hr_fm Z0 (by decide) (by decide) (by decide) (by decide) 20 (0 : Int32) T28 _ X28 N28n eq28 P30 r17
  obtain ⟨T32, locs32, X32, N32, e32, P32⟩ := lp10_39 (cells := 0) (slots := 0) hx hZ hw hby hml hown a1 p2 n xs cs fm bg Sa CS hcs FM hr_fm Z0 (by decide) (by decide) (by decide) (by decide) 20 n T31 _ X31 N31 e31 P31 r39
  have P33 : own_Pr p.tables e below S0 T32 (mkF m 90 #[.val (.ref a1), .val (.int p2), .val (.int bg), .val (.int en), .unset, .unset, .unset, .unset] [(.int bg), (.ref a1)]) := fun t k => P32 t (by
    refine XS.iloadN X32.here hx rfl (hb hby d10_63) rfl ?_
    refine XS.iloadN X32.here hx rfl (hb hby d10_64) rfl ?_
    refine XS.isub X32.here hx rfl (hb hby d10_65) rfl ?_
    refine XS.sipush X32.here hx rfl (hb hby d10_66) ?_
    refine XS.icmpYes X32.here hx rfl (pc0 := 69) (pc' := 83) rfl (hb hby d10_69) rfl (XT.ii_le_t hlen) (by decide) (by decide) ?_
    refine XS.iloadN X32.here hx rfl (hb hby d10_83) rfl ?_
    refine XS.iloadN X32.here hx rfl (hb hby d10_84) rfl ?_
    refine XS.icmpNo X32.here hx rfl (hb hby d10_85) rfl (XT.ii_ge_f hbe) ?_
    show Steps p.tables e below (T32.setTop (mkF m 88 #[.val (.ref a1), .val (.int p2), .val (.int bg), .val (.int en), .unset, .unset, .unset, .unset] [])) _
    refine XS.aloadN X32.here hx rfl (hb hby d10_88) rfl rfl ?_
    refine XS.iloadN X32.here hx rfl (hb hby d10_89) rfl ?_
    exact k)
  obtain ⟨cq34, kq34, q34a, q34b, q34c⟩ := isOf hZ e32 Es
  obtain ⟨_, _, ⟨T34, L34, k34, n34⟩, -, X34, ⟨Lc34, hQ34, l34, y34, z34⟩, st34⟩ := X32.virtualBack hx (y := (⟨"java/lang/String", "charAt", "(I)C"⟩ : MethodName)) (z := (⟨"java/lang/String", "charAt", "(I)C"⟩ : MethodName)) hown (mvT hZ (hw _ (List.mem_of_getElem? (i := 63) rfl))) (mvT hZ (hw _ (List.mem_of_getElem? (i := 64) rfl))) (notFace_of_selects (args := #[]) (mvT hZ (hw _ (List.mem_of_getElem? (i := 66) rfl)))) (mvT hZ (hw _ (List.mem_of_getElem? (i := 66) rfl))) (mvT hZ (hw _ (List.mem_of_getElem? (i := 65) rfl))) (by decide) (backOf (W := 0) (rm15 l Z a0 hw [] a1 bg n xs cs fm h0 n0 Z0 Sa CS hcs FM hr_fm hbn.1 hbn.2) hZ (hw _ (List.mem_of_getElem? (i := 67) rfl)) (hw _ (List.mem_of_getElem? (i := 15) rfl)) (by decide) (by decide)) q34a q34c (g := (mkF m 90 #[.val (.ref a1), .val (.int p2), .val (.int bg), .val (.int en), .unset, .unset, .unset, .unset] [(.int bg), (.ref a1)])) rfl (by rw [hml]; rfl) (Steps.refl _) (argsL := [(.int bg)]) (rest := []) (lenOf pd_18 rfl) rfl (by show 2 * 0 + _ ≤ _; exact Nat.le_of_eq rfl) (hb hby d10_90) (fun _ _ => ⟨rfl, e32, (by decide : 0 + 0 ≤ _), (by decide : 0 + 0 ≤ _)⟩)
  dsimp only [Pt.U, Pt.locs, Pt.cells, Pt.slots] at X34 l34 y34 z34 st34 hQ34
  rw [l34, y34, z34] at X34
  have X34 := X34.mono (cells' := 0) (slots' := 0) (by decide) (by decide)
  obtain ⟨z34v, rfl, hz34v, Nq34, eq34⟩ := hQ34
  have N34n := Fr.app N32 Nq34
  have P35 : own_Pr p.tables e below S0 T34 (mkF m 93 #[.val (.ref a1), .val (.int p2), .val (.int bg), .val (.int en), .unset, .unset, .unset, .unset] [(.int z34v)]) := fun t k => P33 t (st34.trans k)
  have P36 : own_Pr p.tables e below S0 T34 (mkF m 123 #[.val (.ref a1), .val (.int p2), .val (.int bg), .val (.int en), .val (.int (1 : Int32)), .val (.int (bg + (1 : Int32))), .val (.int (bg + (1 : Int32))), .unset] []) := fun t k => P35 t (by
    refine XS.bipush X34.here hx rfl (hb hby d10_93) ?_
    refine XS.icmpNo X34.here hx rfl (hb hby d10_95) rfl (XT.ii_ne_f (by rw [hz34v]; exact hqu)) ?_
    refine XS.iconst X34.here hx rfl (hb hby d10_98) ?_
    refine XS.goto X34.here hx rfl (pc0 := 99) (pc' := 103) rfl (hb hby d10_99) (by decide) (by decide) ?_
    refine XS.istore X34.here hx rfl (hb hby d10_103) rfl (l' := #[.val (.ref a1), .val (.int p2), .val (.int bg), .val (.int en), .val (.int (1 : Int32)), .unset, .unset, .unset]) rfl ?_
    refine XS.iload X34.here hx rfl (hb hby d10_105) rfl ?_
    refine XS.ifNo X34.here hx rfl (hb hby d10_107) rfl (by decide) ?_
    refine XS.iloadN X34.here hx rfl (hb hby d10_110) rfl ?_
    show Steps p.tables e below (T34.setTop (mkF m 111 #[.val (.ref a1), .val (.int p2), .val (.int bg), .val (.int en), .val (.int (1 : Int32)), .unset, .unset, .unset] [(.int bg)])) _
    refine XS.iconst X34.here hx rfl (hb hby d10_111) ?_
    refine XS.iadd X34.here hx rfl (hb hby d10_112) rfl ?_
    refine XS.goto X34.here hx rfl (pc0 := 113) (pc' := 117) rfl (hb hby d10_113) (by decide) (by decide) ?_
    refine XS.istore X34.here hx rfl (hb hby d10_117) rfl (l' := #[.val (.ref a1), .val (.int p2), .val (.int bg), .val (.int en), .val (.int (1 : Int32)), .val (.int (bg + (1 : Int32))), .unset, .unset]) rfl ?_
    refine XS.iload X34.here hx rfl (hb hby d10_119) rfl ?_
    refine XS.istore X34.here hx rfl (hb hby d10_121) rfl (l' := #[.val (.ref a1), .val (.int p2), .val (.int bg), .val (.int en), .val (.int (1 : Int32)), .val (.int (bg + (1 : Int32))), .val (.int (bg + (1 : Int32))), .unset]) rfl ?_
    exact k)
  obtain ⟨T37, locs37, X37, N37, e37, P37⟩ := lp10_123 (cells := 0) (slots := 0) hx hZ hw hby hml hown a1 p2 n xs cs fm bg en (1 : Int32) (bg + (1 : Int32)) Sa CS hcs FM hr_fm Z0 (by decide) (by decide) (by decide) (by decide) 20 (bg + (1 : Int32)) T34 _ X34 N34n eq34 P36 r123
  have P38 : own_Pr p.tables e below S0 T37 (mkF m 161 #[.val (.ref a1), .val (.int p2), .val (.int bg), .val (.int en), .val (.int (1 : Int32)), .val (.int (bg + (1 : Int32))), .val (.int ke), .unset] [(.int ke), (.ref a1)]) := fun t k => P37 t (by
    refine XS.iload X37.here hx rfl (hb hby d10_147) rfl ?_
    refine XS.iloadN X37.here hx rfl (hb hby d10_149) rfl ?_
    refine XS.icmpNo X37.here hx rfl (hb hby d10_150) rfl (XT.ii_ge_f hke) ?_
    refine XS.iload X37.here hx rfl (hb hby d10_153) rfl ?_
    refine XS.ifNo X37.here hx rfl (hb hby d10_155) rfl (by decide) ?_
    refine XS.aloadN X37.here hx rfl (hb hby d10_158) rfl rfl ?_
    refine XS.iload X37.here hx rfl (hb hby d10_159) rfl ?_
    exact k)
  obtain ⟨cq39, kq39, q39a, q39b, q39c⟩ := isOf hZ e37 Es
  obtain ⟨_, _, ⟨T39, L39, k39, n39⟩, -, X39, ⟨Lc39, hQ39, l39, y39, z39⟩, st39⟩ := X37.virtualBack hx (y := (⟨"java/lang/String", "charAt", "(I)C"⟩ : MethodName)) (z := (⟨"java/lang/String", "charAt", "(I)C"⟩ : MethodName)) hown (mvT hZ (hw _ (List.mem_of_getElem? (i := 63) rfl))) (mvT hZ (hw _ (List.mem_of_getElem? (i := 64) rfl))) (notFace_of_selects (args := #[]) (mvT hZ (hw _ (List.mem_of_getElem? (i := 66) rfl)))) (mvT hZ (hw _ (List.mem_of_getElem? (i := 66) rfl))) (mvT hZ (hw _ (List.mem_of_getElem? (i := 65) rfl))) (by decide) (backOf (W := 0) (rm15 l Z a0 hw [] a1 ke n xs cs fm h0 n0 Z0 Sa CS hcs FM hr_fm hk.1 hk.2) hZ (hw _ (List.mem_of_getElem? (i := 67) rfl)) (hw _ (List.mem_of_getElem? (i := 15) rfl)) (by decide) (by decide)) q39a q39c (g := (mkF m 161 #[.val (.ref a1), .val (.int p2), .val (.int bg), .val (.int en), .val (.int (1 : Int32)), .val (.int (bg + (1 : Int32))), .val (.int ke), .unset] [(.int ke), (.ref a1)])) rfl (by rw [hml]; rfl) (Steps.refl _) (argsL := [(.int ke)]) (rest := []) (lenOf pd_18 rfl) rfl (by show 2 * 0 + _ ≤ _; exact Nat.le_of_eq rfl) (hb hby d10_161) (fun _ _ => ⟨rfl, e37, (by decide : 0 + 0 ≤ _), (by decide : 0 + 0 ≤ _)⟩)
  dsimp only [Pt.U, Pt.locs, Pt.cells, Pt.slots] at X39 l39 y39 z39 st39 hQ39
  rw [l39, y39, z39] at X39
  have X39 := X39.mono (cells' := 0) (slots' := 0) (by decide) (by decide)
  obtain ⟨z39v, rfl, hz39v, Nq39, eq39⟩ := hQ39
  have N39n := Fr.app N37 Nq39
  have P40 : own_Pr p.tables e below S0 T39 (mkF m 164 #[.val (.ref a1), .val (.int p2), .val (.int bg), .val (.int en), .val (.int (1 : Int32)), .val (.int (bg + (1 : Int32))), .val (.int ke), .unset] [(.int z39v)]) := fun t k => P38 t (st39.trans k)
  have P41 : own_Pr p.tables e below S0 T39 (mkF m 258 #[.val (.ref a1), .val (.int p2), .val (.int bg), .val (.int en), .val (.int (1 : Int32)), .val (.int (bg + (1 : Int32))), .val (.int ke), .val (.int (ke - (bg + (1 : Int32))))] []) := fun t k => P40 t (by
    refine XS.bipush X39.here hx rfl (hb hby d10_164) ?_
    refine XS.icmpYes X39.here hx rfl (pc0 := 166) (pc' := 189) rfl (hb hby d10_166) rfl (XT.ii_eq_t (by rw [hz39v]; exact hkq)) (by decide) (by decide) ?_
    refine XS.iload X39.here hx rfl (hb hby d10_189) rfl ?_
    refine XS.ifNo X39.here hx rfl (hb hby d10_191) rfl (by decide) ?_
    refine XS.iload X39.here hx rfl (hb hby d10_194) rfl ?_
    refine XS.iloadN X39.here hx rfl (hb hby d10_196) rfl ?_
    refine XS.iconst X39.here hx rfl (hb hby d10_197) ?_
    refine XS.isub X39.here hx rfl (hb hby d10_198) rfl ?_
    show Steps p.tables e below (T39.setTop (mkF m 199 #[.val (.ref a1), .val (.int p2), .val (.int bg), .val (.int en), .val (.int (1 : Int32)), .val (.int (bg + (1 : Int32))), .val (.int ke), .unset] [(.int (en - (1 : Int32))), (.int ke)])) _
    refine XS.icmpYes X39.here hx rfl (pc0 := 199) (pc' := 212) rfl (hb hby d10_199) rfl (XT.ii_eq_t hkl) (by decide) (by decide) ?_
    refine XS.iload X39.here hx rfl (hb hby d10_212) rfl ?_
    refine XS.iload X39.here hx rfl (hb hby d10_214) rfl ?_
    refine XS.isub X39.here hx rfl (hb hby d10_216) rfl ?_
    refine XS.istore X39.here hx rfl (hb hby d10_217) rfl (l' := #[.val (.ref a1), .val (.int p2), .val (.int bg), .val (.int en), .val (.int (1 : Int32)), .val (.int (bg + (1 : Int32))), .val (.int ke), .val (.int (ke - (bg + (1 : Int32))))]) rfl ?_
    refine XS.iload X39.here hx rfl (hb hby d10_219) rfl ?_
    refine XS.iloadN X39.here hx rfl (hb hby d10_221) rfl ?_
    refine XS.icmpYes X39.here hx rfl (pc0 := 222) (pc' := 239) rfl (hb hby d10_222) rfl (XT.ii_ge_t hl1) (by decide) (by decide) ?_
    show Steps p.tables e below (T39.setTop (mkF m 239 #[.val (.ref a1), .val (.int p2), .val (.int bg), .val (.int en), .val (.int (1 : Int32)), .val (.int (bg + (1 : Int32))), .val (.int ke), .val (.int (ke - (bg + (1 : Int32))))] [])) _
    refine XS.iload X39.here hx rfl (hb hby d10_239) rfl ?_
    refine XS.sipush X39.here hx rfl (hb hby d10_241) ?_
    refine XS.icmpYes X39.here hx rfl (pc0 := 244) (pc' := 258) rfl (hb hby d10_244) rfl (XT.ii_le_t hl2) (by decide) (by decide) ?_
    exact k)
  obtain ⟨T42, h42, X42, e42, E42, A42, D42, -, st42⟩ := newO X39 hx hZ hown (hw _ (List.mem_of_getElem? (i := 91) rfl)) (hw _ (List.mem_of_getElem? (i := 92) rfl)) (hw _ (List.mem_of_getElem? (i := 44) rfl)) eq39 (g := (mkF m 258 #[.val (.ref a1), .val (.int p2), .val (.int bg), .val (.int en), .val (.int (1 : Int32)), .val (.int (bg + (1 : Int32))), .val (.int ke), .val (.int (ke - (bg + (1 : Int32))))] [])) rfl (hb hby d10_258) (by decide) (by decide)
  obtain ⟨b42, g42⟩ : ∃ z, z = h0.size := ⟨_, rfl⟩
  rw [← g42] at A42 D42 st42
  have g_b42 : n0 ≤ b42 := Nat.le_trans Z0 (Nat.le_of_eq g42.symm)
  have sz_b42 : h0.size ≤ b42 := Nat.le_trans K0.1 (Nat.le_of_eq g42.symm)
  have ne_a1_b42 : a1 ≠ b42 := Nat.ne_of_lt (Nat.lt_of_lt_of_le Es.lt (Nat.le_of_eq g42.symm))
  have F43 := CS.ext E42
  have F44 := FM.ext E42
  have F45 := Sa.ext E42
  have F46 := Es.ext E42
  have Z47 : n0 ≤ h42.size := Nat.le_trans Z0 E42.1
  have K48 := K0.ext E42
  have F49 : Fld Z h42 b42 "com/example/twince/twince/IdempotencyKey" "value" "Ljava/lang/String;" .null := D42 (Or.inr (hw _ (List.mem_of_getElem? (i := 135) rfl))) (ty := (.object "java/lang/String")) (by decide)
  have P50 : own_Pr p.tables e below S0 T42 (mkF m 261 #[.val (.ref a1), .val (.int p2), .val (.int bg), .val (.int en), .val (.int (1 : Int32)), .val (.int (bg + (1 : Int32))), .val (.int ke), .val (.int (ke - (bg + (1 : Int32))))] [(.ref b42)]) := fun t k => P41 t (st42 _ k)
  have P51 : own_Pr p.tables e below S0 T42 (mkF m 267 #[.val (.ref a1), .val (.int p2), .val (.int bg), .val (.int en), .val (.int (1 : Int32)), .val (.int (bg + (1 : Int32))), .val (.int ke), .val (.int (ke - (bg + (1 : Int32))))] [(.int ke), (.int (bg + (1 : Int32))), (.ref a1), (.ref b42), (.ref b42)]) := fun t k => P50 t (by
    refine XS.dup X42.here hx rfl (hb hby d10_261) rfl rfl ?_
    refine XS.aloadN X42.here hx rfl (hb hby d10_262) rfl rfl ?_
    refine XS.iload X42.here hx rfl (hb hby d10_263) rfl ?_
    refine XS.iload X42.here hx rfl (hb hby d10_265) rfl ?_
    exact k)
  obtain ⟨cq52, kq52, q52a, q52b, q52c⟩ := isOf hZ e42 F46
  obtain ⟨_, _, ⟨T52, L52, k52, n52⟩, -, X52, ⟨Lc52, hQ52, l52, y52, z52⟩, st52⟩ := X42.virtualBack hx (y := (⟨"java/lang/String", "substring", "(II)Ljava/lang/String;"⟩ : MethodName)) (z := (⟨"java/lang/String", "substring", "(II)Ljava/lang/String;"⟩ : MethodName)) hown (mvT hZ (hw _ (List.mem_of_getElem? (i := 93) rfl))) (mvT hZ (hw _ (List.mem_of_getElem? (i := 94) rfl))) (notFace_of_selects (args := #[]) (mvT hZ (hw _ (List.mem_of_getElem? (i := 96) rfl)))) (mvT hZ (hw _ (List.mem_of_getElem? (i := 96) rfl))) (mvT hZ (hw _ (List.mem_of_getElem? (i := 95) rfl))) (by decide) (backOf (W := 2) (rm22 l Z a0 hw [] a1 (bg + (1 : Int32)) ke n xs cs fm h42 n0 Z47 F45 F43 hcs F44 hr_fm hs1 hs2 hs3 hs4) hZ (hw _ (List.mem_of_getElem? (i := 97) rfl)) (hw _ (List.mem_of_getElem? (i := 15) rfl)) (by decide) (by decide)) q52a q52c (g := (mkF m 267 #[.val (.ref a1), .val (.int p2), .val (.int bg), .val (.int en), .val (.int (1 : Int32)), .val (.int (bg + (1 : Int32))), .val (.int ke), .val (.int (ke - (bg + (1 : Int32))))] [(.int ke), (.int (bg + (1 : Int32))), (.ref a1), (.ref b42), (.ref b42)])) rfl (by rw [hml]; rfl) (Steps.refl _) (argsL := [(.int (bg + (1 : Int32))), (.int ke)]) (rest := [(.ref b42), (.ref b42)]) (lenOf pd_22 rfl) rfl (by show 2 * 0 + _ ≤ _; exact Nat.le_of_eq rfl) (hb hby d10_267) (fun _ _ => ⟨rfl, e42, (by decide : 1 + 2 ≤ _), (by decide : 1 + 12 ≤ _)⟩)
  dsimp only [Pt.U, Pt.locs, Pt.cells, Pt.slots] at X52 l52 y52 z52 st52 hQ52
  rw [l52, y52, z52] at X52
  have X52 := X52.mono (cells' := 3) (slots' := 13) (by decide) (by decide)
  obtain ⟨s52, ys52, rfl, Nq52, Kq52, Sq52, hy52⟩ := hQ52
  have N52n := Fr.app N39n Nq52
  have F57 := A42.keep Kq52
  have F58 := F49.keep Kq52 nin0
  have K52n := K48.trans Kq52 all0
  have Z52n := Nat.le_trans Z47 Kq52.1
  have P59 : own_Pr p.tables e below S0 T52 (mkF m 270 #[.val (.ref a1), .val (.int p2), .val (.int bg), .val (.int en), .val (.int (1 : Int32)), .val (.int (bg + (1 : Int32))), .val (.int ke), .val (.int (ke - (bg + (1 : Int32))))] [(.ref s52), (.ref b42), (.ref b42)]) := fun t k => P51 t (st52.trans k)
  obtain ⟨_, _, ⟨T60, L60, k60, n60⟩, -, X60, ⟨Lc60, hQ60, l60, y60, z60⟩, st60⟩ := X52.specialBack hx (y := (⟨"com/example/twince/twince/IdempotencyKey", "<init>", "(Ljava/lang/String;)V"⟩ : MethodName)) rfl hown (mvT hZ (hw _ (List.mem_of_getElem? (i := 130) rfl))) (mvT hZ (hw _ (List.mem_of_getElem? (i := 131) rfl))) (mvT hZ (hw _ (List.mem_of_getElem? (i := 132) rfl))) (by decide) (backOf (W := 1) (rm31 l Z a0 hw [] b42 s52 T52.heap n0 Z52n F57 F58 g_b42) hZ (hw _ (List.mem_of_getElem? (i := 132) rfl)) (hw _ (List.mem_of_getElem? (i := 44) rfl)) (by decide) (by decide)) (g := (mkF m 270 #[.val (.ref a1), .val (.int p2), .val (.int bg), .val (.int en), .val (.int (1 : Int32)), .val (.int (bg + (1 : Int32))), .val (.int ke), .val (.int (ke - (bg + (1 : Int32))))] [(.ref s52), (.ref b42), (.ref b42)])) rfl (by rw [hml]; rfl) (Steps.refl _) (a := b42) (argsL := [(.ref s52)]) (rest := [(.ref b42)]) (lenOf pd_23 rfl) rfl (by show 2 * 0 + _ ≤ _; exact Nat.le_of_eq rfl) (hb hby d10_270) (fun _ _ => ⟨rfl, rfl, (by decide : 3 + 0 ≤ _), (by decide : 13 + 0 ≤ _)⟩)
  dsimp only [Pt.U, Pt.locs, Pt.cells, Pt.slots] at X60 l60 y60 z60 st60 hQ60
  rw [l60, y60, z60] at X60
  have X60 := X60.mono (cells' := 3) (slots' := 13) (by decide) (by decide)
  obtain ⟨rfl, Nq60, Kq60, Eq60, Wq60⟩ := hQ60
  have N60n := Fr.app N52n Nq60
  have S60n := own_Sc_key Sq52 Kq60 F57 (hw _ (List.mem_of_getElem? (i := 92) rfl))
  have K60n := K52n.trans Kq60 (allS (Or.inr sz_b42) all0)
  have P61 : own_Pr p.tables e below S0 T60 (mkF m 273 #[.val (.ref a1), .val (.int p2), .val (.int bg), .val (.int en), .val (.int (1 : Int32)), .val (.int (bg + (1 : Int32))), .val (.int ke), .val (.int (ke - (bg + (1 : Int32))))] [(.ref b42)]) := fun t k => P59 t (st60.trans k)
  obtain ⟨fs, hr, hrun, hended, hW, hsame⟩ := X60.leave (v := some (.ref b42)) (fun h => by rw [Bd.returns] at h; cases h)
  have fin : Steps p.tables e below S0 (T60.setFrames fs) := P61 _ (by
    jvm_step X60.here [X60.here.top, hx, (hb hby d10_273), X60.method', Bd.returns, Value.isRef, FieldType.isReference]
    first | (intro acts; rw [hr _ acts rfl rfl rfl]) | rw [hr _ _ rfl rfl rfl]
    exact Steps.refl _)
  rw [hS0] at fin
  refine ⟨_, _, fin, hrun, hended, _, _, rfl, ?_, ⟨_, rfl⟩, hW, hsame.mono (by decide) (by decide)⟩
  show own_QP Z xs (bg + (1 : Int32)) (ke - (bg + (1 : Int32))) h0 n0 _ T60.heap _
  exact ⟨_, _, ys52, rfl, N60n, K60n, Eq60, Wq60, S60n, hy52⟩
theorem d33_0 : decode method_3_code 0 = .ok (.iload_n 1, 1) := by decide +kernel
theorem d33_1 : decode method_3_code 1 = .ok (.iload_n 2, 1) := by decide +kernel
theorem d33_2 : decode method_3_code 2 = .ok (.if_icmp .ge 16, 3) := by decide +kernel
theorem d33_5 : decode method_3_code 5 = .ok (.aload_n 0, 1) := by decide +kernel
theorem d33_6 : decode method_3_code 6 = .ok (.iload_n 1, 1) := by decide +kernel
theorem d33_7 : decode method_3_code 7 = .ok (.invokevirtual 37, 3) := by decide +kernel
theorem d33_10 : decode method_3_code 10 = .ok (.lload_n 3, 1) := by decide +kernel
theorem d33_11 : decode method_3_code 11 = .ok (.iload_n 1, 1) := by decide +kernel
theorem d33_12 : decode method_3_code 12 = .ok (.invokestatic 41, 3) := by decide +kernel
theorem d33_15 : decode method_3_code 15 = .ok (.if_icmp .ne 7, 3) := by decide +kernel
theorem d33_18 : decode method_3_code 18 = .ok (.iconst 1, 1) := by decide +kernel
theorem d33_19 : decode method_3_code 19 = .ok (.goto 4, 3) := by decide +kernel
theorem d33_22 : decode method_3_code 22 = .ok (.iconst 0, 1) := by decide +kernel
theorem d33_23 : decode method_3_code 23 = .ok (.ireturn, 1) := by decide +kernel
theorem ef_33 (m : MethodId) (a1 : Addr) (p2 : Int32) (p3 : Int32) (p4 : Int64) : entryFrame m #[(.ref a1), (.int p2), (.int p3), (.long p4)] 5 = mkF m 0 #[.val (.ref a1), .val (.int p2), .val (.int p3), .val (.long p4), .second] [] := by first | (simp [entryFrame, mkF, argsToLocals, Value.category]; done) | rfl
def own_f33 (xs : List Int32) (p2 p3 : Int32) (p4 : Int64) : Int32 := (if p2 < p3 then (if ((xs.getD (p2).toNatClampNeg 0) &&& 255) = (own_f2 p4 p2) then (1 : Int32) else (0 : Int32)) else (1 : Int32))
set_option maxRecDepth 65536 in
set_option maxHeartbeats 40000000 in
theorem rm33 (l : Launch) (Z : State) (a0 : Array Value) (hw : ∀ d ∈ tables_1, d.before a0 Z = true) (ws : List Jvm.Cond) (a1 : Addr) (p2 : Int32) (p3 : Int32) (p4 : Int64) (n : Int32) (xs : List Int32) (cs : Int32) (fm : Value) (h0 : Heap) (n0 : Nat) (Z0 : n0 ≤ h0.size) (Sa : own_Sc Z h0 a1 n xs) (CS : Sta Z h0 "java/lang/String" "COMPACT_STRINGS" "Z" (.int cs)) (hcs : ¬ cs = (0 : Int32)) (FM : Sta Z h0 "jdk/internal/util/Preconditions" "SIOOBE_FORMATTER" "Ljava/util/function/BiFunction;" fm) (hr_fm : fm.isRef = true) (h1 : ¬ p2 < (0 : Int32)) (hn : n = p3) :
    MetFree l (⟨"com/example/twince/twince/IdempotencyKeyParsePinLaw", "same", "(Ljava/lang/String;IIJ)Z"⟩ : MethodName) (head1 (Jvm.Cond.code (⟨"com/example/twince/twince/IdempotencyKeyParsePinLaw", "same", "(Ljava/lang/String;IIJ)Z"⟩ : MethodName) method_3_code 5 (some .boolean) :: ws) ({ frames := 4, cells := 0, slots := 0, locals := 53 } : Room)) (fun a U => a = #[(.ref a1), (.int p2), (.int p3), (.long p4)] ∧ Z.Warmed39 U.vm ∧ U.heap = h0) (fun _ _ _ _ _ => True) (fun _ U o U' => ∃ v L, o = .returned v ∧ own_QI h0 n0 (own_f33 xs p2 p3 p4) v U'.heap L ∧ FrameEnd U o U' L ({ frames := 4, cells := 0, slots := 0, locals := 53 } : Room).cells ({ frames := 4, cells := 0, slots := 0, locals := 53 } : Room).slots) := by
  refine MetFree.of_bodySF (plainFor_of_name pn_3) hisR ?_
  intro p e s m args below meth c s₁ Bd hml0 hP hK
  obtain ⟨rfl, hZ, hh⟩ := hP
  have hx := Bd.exec
  have hby := Bd.bytes
  have hml : c.maxLocals = 5 := hml0
  have hown : s.vm.findClass "com/example/twince/twince/IdempotencyKeyParsePinLaw" = some m.cls := findClass_of_methodNamed Bd.named
  have hnm := (name_of_methodNamed Bd.named Bd.method).1
  have X0 : Stand p l e ({ frames := 4, cells := 0, slots := 0, locals := 53 } : Room) s m #[(.ref a1), (.int p2), (.int p3), (.long p4)] below meth c s₁ [] 0 0 := Stand.of_body Bd
  have e0 : s₁.heap = h0 := by rw [← hh, Bd.state]; rfl
  have N0 := Fr.nil n0
  obtain ⟨S0, hS0⟩ : ∃ z, z = s₁.setTop (entryFrame m #[(.ref a1), (.int p2), (.int p3), (.long p4)] 5) := ⟨_, rfl⟩
  have P0 : own_Pr p.tables e below S0 s₁ (mkF m 0 #[.val (.ref a1), .val (.int p2), .val (.int p3), .val (.long p4), .second] []) := fun t k => hS0 ▸ castTop (ef_33 m a1 p2 p3 p4) k
  have Es := Sa.exa
  have P21 : own_Pr p.tables e below S0 s₁ (mkF m 2 #[.val (.ref a1), .val (.int p2), .val (.int p3), .val (.long p4), .second] [(.int p3), (.int p2)]) := fun t k => P0 t (by
    refine XS.iloadN X0.here hx rfl (hb hby d33_0) rfl ?_
    refine XS.iloadN X0.here hx rfl (hb hby d33_1) rfl ?_
    exact k)
  by_cases hc2_22 : p2 < p3
  · have hin : ¬ (p2 < 0) ∧ p2 < n := ⟨h1, by rw [hn]; exact hc2_22⟩
    have P23 : own_Pr p.tables e below S0 s₁ (mkF m 7 #[.val (.ref a1), .val (.int p2), .val (.int p3), .val (.long p4), .second] [(.int p2), (.ref a1)]) := fun t k => P21 t (by
      refine XS.icmpNo X0.here hx rfl (hb hby d33_2) rfl (XT.ii_ge_f hc2_22) ?_
      refine XS.aloadN X0.here hx rfl (hb hby d33_5) rfl rfl ?_
      refine XS.iloadN X0.here hx rfl (hb hby d33_6) rfl ?_
      exact k)
    obtain ⟨cq24, kq24, q24a, q24b, q24c⟩ := isOf hZ e0 Es
    obtain ⟨_, _, ⟨T24, L24, k24, n24⟩, -, X24, ⟨Lc24, hQ24, l24, y24, z24⟩, st24⟩ := X0.virtualBack hx (y := (⟨"java/lang/String", "charAt", "(I)C"⟩ : MethodName)) (z := (⟨"java/lang/String", "charAt", "(I)C"⟩ : MethodName)) hown (mvT hZ (hw _ (List.mem_of_getElem? (i := 145) rfl))) (mvT hZ (hw _ (List.mem_of_getElem? (i := 64) rfl))) (notFace_of_selects (args := #[]) (mvT hZ (hw _ (List.mem_of_getElem? (i := 66) rfl)))) (mvT hZ (hw _ (List.mem_of_getElem? (i := 66) rfl))) (mvT hZ (hw _ (List.mem_of_getElem? (i := 65) rfl))) (by decide) (backOf (W := 0) (rm15 l Z a0 hw [] a1 p2 n xs cs fm h0 n0 Z0 Sa CS hcs FM hr_fm hin.1 hin.2) hZ (hw _ (List.mem_of_getElem? (i := 67) rfl)) (hw _ (List.mem_of_getElem? (i := 15) rfl)) (by decide) (by decide)) q24a q24c (g := (mkF m 7 #[.val (.ref a1), .val (.int p2), .val (.int p3), .val (.long p4), .second] [(.int p2), (.ref a1)])) rfl (by rw [hml]; rfl) (Steps.refl _) (argsL := [(.int p2)]) (rest := []) (lenOf pd_18 rfl) rfl (by show 2 * 0 + _ ≤ _; exact Nat.le_of_eq rfl) (hb hby d33_7) (fun _ _ => ⟨rfl, e0, (by decide : 0 + 0 ≤ _), (by decide : 0 + 0 ≤ _)⟩)
    dsimp only [Pt.U, Pt.locs, Pt.cells, Pt.slots] at X24 l24 y24 z24 st24 hQ24
    rw [l24, y24, z24] at X24
    have X24 := X24.mono (cells' := 0) (slots' := 0) (by decide) (by decide)
    obtain ⟨z24v, rfl, hz24v, Nq24, eq24⟩ := hQ24
    have N24n := Fr.app N0 Nq24
    have P25 : own_Pr p.tables e below S0 T24 (mkF m 10 #[.val (.ref a1), .val (.int p2), .val (.int p3), .val (.long p4), .second] [(.int z24v)]) := fun t k => P23 t (st24.trans k)
    have P26 : own_Pr p.tables e below S0 T24 (mkF m 12 #[.val (.ref a1), .val (.int p2), .val (.int p3), .val (.long p4), .second] [(.int p2), (.long p4), (.int z24v)]) := fun t k => P25 t (by
      refine XS.lloadN X24.here hx rfl (hb hby d33_10) rfl ?_
      refine XS.iloadN X24.here hx rfl (hb hby d33_11) rfl ?_
      exact k)
    obtain ⟨_, _, ⟨T27, L27, k27, n27⟩, -, X27, ⟨Lc27, hQ27, l27, y27, z27⟩, st27⟩ := Jvm.LawKit.callS X24 hx (y := (⟨"com/example/twince/twince/IdempotencyKeyParsePinLaw", "keyChar", "(JI)C"⟩ : MethodName)) hown (mvT hZ (hw _ (List.mem_of_getElem? (i := 6) rfl))) (mvT hZ (hw _ (List.mem_of_getElem? (i := 7) rfl))) (mvT hZ (hw _ (List.mem_of_getElem? (i := 4) rfl))) (mvT hZ (hw _ (List.mem_of_getElem? (i := 8) rfl))) (by decide) (backOf (W := 1) (rm2 l Z a0 hw [] p4 p2  h0 n0 Z0 ) hZ (hw _ (List.mem_of_getElem? (i := 8) rfl)) (hw _ (List.mem_of_getElem? (i := 4) rfl)) (by decide) (by decide)) (g := (mkF m 12 #[.val (.ref a1), .val (.int p2), .val (.int p3), .val (.long p4), .second] [(.int p2), (.long p4), (.int z24v)])) rfl (by rw [hml]; rfl) (argsL := [(.long p4), (.int p2)]) (rest := [(.int z24v)]) (lenOf pd_10 rfl) rfl (by show 2 * 0 + _ ≤ _; exact Nat.le_of_eq rfl) (hb hby d33_12) (fun _ _ => ⟨rfl, eq24, (by decide : 0 + 0 ≤ _), (by decide : 0 + 0 ≤ _)⟩)
    dsimp only [Pt.U, Pt.locs, Pt.cells, Pt.slots] at X27 l27 y27 z27 st27 hQ27
    rw [l27, y27, z27] at X27
    have X27 := X27.mono (cells' := 0) (slots' := 0) (by decide) (by decide)
    obtain ⟨z27v, rfl, hz27v, Nq27, eq27⟩ := hQ27
    have N27n := Fr.app N24n Nq27
    have P28 : own_Pr p.tables e below S0 T27 (mkF m 15 #[.val (.ref a1), .val (.int p2), .val (.int p3), .val (.long p4), .second] [(.int z27v), (.int z24v)]) := fun t k => P26 t (st27 _ k)
    by_cases hc15_29 : z24v = z27v
    · have P30 : own_Pr p.tables e below S0 T27 (mkF m 23 #[.val (.ref a1), .val (.int p2), .val (.int p3), .val (.long p4), .second] [(.int (1 : Int32))]) := fun t k => P28 t (by
        refine XS.icmpNo X27.here hx rfl (hb hby d33_15) rfl (XT.ii_ne_f hc15_29) ?_
        refine XS.iconst X27.here hx rfl (hb hby d33_18) ?_
        refine XS.goto X27.here hx rfl (pc0 := 19) (pc' := 23) rfl (hb hby d33_19) (by decide) (by decide) ?_
        exact k)
      obtain ⟨fs, hr, hrun, hended, hW, hsame⟩ := X27.leave (v := some (.int (1 : Int32))) (fun h => by rw [Bd.returns] at h; cases h)
      have fin : Steps p.tables e below S0 (T27.setFrames fs) := P30 _ (retN X27 hx (t := .boolean) Bd.returns (by simp) (hb hby d33_23) hr)
      rw [hS0] at fin
      refine ⟨_, _, fin, hrun, hended, _, _, rfl, ?_, ⟨_, rfl⟩, hW, hsame.mono (by decide) (by decide)⟩
      show own_QI h0 n0 (own_f33 xs p2 p3 p4) _ T27.heap _
      rw [eq27]
      exact ⟨_, rfl, (by subst hz27v; subst hz24v; unfold own_f33; rw [if_pos hc2_22, if_pos hc15_29]), N27n, rfl⟩
    · have P31 : own_Pr p.tables e below S0 T27 (mkF m 23 #[.val (.ref a1), .val (.int p2), .val (.int p3), .val (.long p4), .second] [(.int (0 : Int32))]) := fun t k => P28 t (by
        refine XS.icmpYes X27.here hx rfl (pc0 := 15) (pc' := 22) rfl (hb hby d33_15) rfl (XT.ii_ne_t hc15_29) (by decide) (by decide) ?_
        refine XS.iconst X27.here hx rfl (hb hby d33_22) ?_
        exact k)
      obtain ⟨fs, hr, hrun, hended, hW, hsame⟩ := X27.leave (v := some (.int (0 : Int32))) (fun h => by rw [Bd.returns] at h; cases h)
      have fin : Steps p.tables e below S0 (T27.setFrames fs) := P31 _ (retN X27 hx (t := .boolean) Bd.returns (by simp) (hb hby d33_23) hr)
      rw [hS0] at fin
      refine ⟨_, _, fin, hrun, hended, _, _, rfl, ?_, ⟨_, rfl⟩, hW, hsame.mono (by decide) (by decide)⟩
      show own_QI h0 n0 (own_f33 xs p2 p3 p4) _ T27.heap _
      rw [eq27]
      exact ⟨_, rfl, (by subst hz27v; subst hz24v; unfold own_f33; rw [if_pos hc2_22, if_neg hc15_29]), N27n, rfl⟩
  · have P32 : own_Pr p.tables e below S0 s₁ (mkF m 23 #[.val (.ref a1), .val (.int p2), .val (.int p3), .val (.long p4), .second] [(.int (1 : Int32))]) := fun t k => P21 t (by
      refine XS.icmpYes X0.here hx rfl (pc0 := 2) (pc' := 18) rfl (hb hby d33_2) rfl (XT.ii_ge_t hc2_22) (by decide) (by decide) ?_
      refine XS.iconst X0.here hx rfl (hb hby d33_18) ?_
      refine XS.goto X0.here hx rfl (pc0 := 19) (pc' := 23) rfl (hb hby d33_19) (by decide) (by decide) ?_
      exact k)
    obtain ⟨fs, hr, hrun, hended, hW, hsame⟩ := X0.leave (v := some (.int (1 : Int32))) (fun h => by rw [Bd.returns] at h; cases h)
    have fin : Steps p.tables e below S0 (s₁.setFrames fs) := P32 _ (retN X0 hx (t := .boolean) Bd.returns (by simp) (hb hby d33_23) hr)
    rw [hS0] at fin
    refine ⟨_, _, fin, hrun, hended, _, _, rfl, ?_, ⟨_, rfl⟩, hW, hsame.mono (by decide) (by decide)⟩
    show own_QI h0 n0 (own_f33 xs p2 p3 p4) _ s₁.heap _
    rw [e0]
    exact ⟨_, rfl, (by unfold own_f33; rw [if_neg hc2_22]), N0, rfl⟩
theorem own_nn {i : Nat} (h : i ≤ 400) : (Int32.ofNat i).toInt = i := Int32.toInt_ofNat_of_lt (by omega)
theorem own_cn {i : Nat} (h : i ≤ 400) : (Int32.ofNat i).toNatClampNeg = i := by simp only [Int32.toNatClampNeg, own_nn h]; rfl
theorem own_lt {x y : Int32} : x < y ↔ x.toInt < y.toInt := Int32.lt_iff_toInt_lt
theorem own_eqq {x y : Int32} : x = y ↔ x.toInt = y.toInt := Int32.toInt_inj.symm
theorem own_z0 : (0 : Int32).toInt = 0 := rfl
theorem own_z1 : (1 : Int32).toInt = 1 := rfl
theorem own_z8 : (8 : Int32).toInt = 8 := rfl
theorem own_m1 : (-1 : Int32).toInt = -1 := rfl
theorem own_addN {i j : Nat} (h : i ≤ 100) (h' : j ≤ 100) : Int32.ofNat i + Int32.ofNat j = Int32.ofNat (i + j) := by
  rw [own_eqq]; have c := c_iadd (Int32.ofNat i) (Int32.ofNat j); have r := rng32 (Int32.ofNat i + Int32.ofNat j)
  rw [own_nn (by omega), own_nn (by omega)] at c; rw [own_nn (by omega)]; omega
theorem own_subN {i j : Nat} (h : i ≤ 100) (h' : j ≤ i) : Int32.ofNat i - Int32.ofNat j = Int32.ofNat (i - j) := by
  rw [own_eqq]; have c := c_isub (Int32.ofNat i) (Int32.ofNat j); have r := rng32 (Int32.ofNat i - Int32.ofNat j)
  rw [own_nn (by omega), own_nn (by omega)] at c; rw [own_nn (by omega)]; omega
theorem own_ltN {i j : Nat} (h : i ≤ 100) (h' : j ≤ 100) : Int32.ofNat i < Int32.ofNat j ↔ i < j := by rw [own_lt, own_nn (by omega), own_nn (by omega)]; omega
theorem own_eqN {i j : Nat} (h : i ≤ 100) (h' : j ≤ 100) : Int32.ofNat i = Int32.ofNat j ↔ i = j := by rw [own_eqq, own_nn (by omega), own_nn (by omega)]; omega
theorem own_ge0 {i : Nat} (h : i ≤ 100) : ¬ Int32.ofNat i < 0 := by rw [own_lt, own_nn (by omega), own_z0]; omega
/-- a key's sign -/
theorem own_key (ch : Int64) (j : Int32) : own_f20 (own_f2 ch j) = 0 ∧ ¬ own_f21 (own_f2 ch j) = 0 ∧ ¬ own_f2 ch j = 34 ∧ ¬ own_f2 ch j < 0 ∧ ¬ 255 < own_f2 ch j := by
  unfold own_f2
  have h1 := c_maskL ((ch.toUInt64 >>> (((7 : Int32) * j) &&& 0x3f).toInt64.toUInt64).toInt64) 127 7 (by decide) (by decide)
  generalize ((ch.toUInt64 >>> (((7 : Int32) * j) &&& 0x3f).toInt64.toUInt64).toInt64) &&& (127 : Int64) = w at h1 ⊢
  have h2 := c_l2i w
  have h3 := rng32 w.toInt32
  have e7 : ((2 ^ 7 : Nat) : Int) = 128 := by decide
  rw [e7] at h1
  have h4 := (c_irem w.toInt32 66 66 (by decide)).1 (by omega)
  generalize w.toInt32 % 66 = r at h4 ⊢
  obtain ⟨n, hn, e⟩ : ∃ n : Nat, n < 66 ∧ r = Int32.ofNat n := ⟨r.toInt.toNat, by omega, by rw [own_eqq, own_nn (by omega)]; omega⟩
  subst e
  have all : ∀ n : Fin 66, (fun c : Int32 => own_f20 c = 0 ∧ ¬ own_f21 c = 0 ∧ ¬ c = 34 ∧ ¬ c < 0 ∧ ¬ 255 < c) (if Int32.ofNat n.val < (26 : Int32) then (((97 : Int32) + Int32.ofNat n.val).toUInt32.toUInt16.toUInt32.toInt32) else (if Int32.ofNat n.val < (52 : Int32) then (((65 : Int32) + (Int32.ofNat n.val - (26 : Int32))).toUInt32.toUInt16.toUInt32.toInt32) else (if Int32.ofNat n.val < (62 : Int32) then (((48 : Int32) + (Int32.ofNat n.val - (52 : Int32))).toUInt32.toUInt16.toUInt32.toInt32) else (if Int32.ofNat n.val = (62 : Int32) then (45 : Int32) else (if Int32.ofNat n.val = (63 : Int32) then (95 : Int32) else (if Int32.ofNat n.val = (64 : Int32) then (58 : Int32) else (46 : Int32))))))) := by decide +kernel
  exact all ⟨n, hn⟩
theorem own_blk (x i : Int32) : ¬ own_f20 (own_f3 x i) = 0 ∧ ¬ own_f3 x i < 0 ∧ ¬ 255 < own_f3 x i := by
  unfold own_f3; split <;> decide
/-- what stands at a place -/
theorem own_at_ok {B Q K i : Nat} {ch : Int64} {bl : Int32} (hQ : Q ≤ 1) (hK : 1 ≤ K) (hs : B + 2 * Q + K ≤ 8) (hi : i < 8) :
    ((i < B ∨ B + 2 * Q + K ≤ i) → ¬ own_f20 (own_f1 (Int32.ofNat i) (Int32.ofNat B) (Int32.ofNat Q) (Int32.ofNat K) ch bl) = 0) ∧
    (Q = 1 → (i = B ∨ i = B + 1 + K) → own_f1 (Int32.ofNat i) (Int32.ofNat B) (Int32.ofNat Q) (Int32.ofNat K) ch bl = 34) ∧
    (B + Q ≤ i → i < B + Q + K → own_f1 (Int32.ofNat i) (Int32.ofNat B) (Int32.ofNat Q) (Int32.ofNat K) ch bl = own_f2 ch (Int32.ofNat (i - (B + Q)))) ∧
    ¬ own_f1 (Int32.ofNat i) (Int32.ofNat B) (Int32.ofNat Q) (Int32.ofNat K) ch bl < 0 ∧ ¬ 255 < own_f1 (Int32.ofNat i) (Int32.ofNat B) (Int32.ofNat Q) (Int32.ofNat K) ch bl := by
  have e1 : Int32.ofNat B + Int32.ofNat Q = Int32.ofNat (B + Q) := own_addN (by omega) (by omega)
  have e2 : Int32.ofNat (B + Q) + Int32.ofNat K = Int32.ofNat (B + Q + K) := own_addN (by omega) (by omega)
  have q1 : Int32.ofNat Q = (1 : Int32) ↔ Q = 1 := own_eqN (j := 1) (by omega) (by omega)
  unfold own_f1
  rw [e1, e2]
  by_cases a1 : i < B
  · rw [if_pos ((own_ltN (by omega) (by omega)).mpr a1)]
    have b := own_blk bl (Int32.ofNat i)
    exact ⟨fun _ => b.1, fun _ h => by omega, fun h => by omega, b.2.1, b.2.2⟩
  · rw [if_neg fun z => a1 ((own_ltN (by omega) (by omega)).mp z)]
    by_cases a2 : Q = 1
    · rw [if_pos (q1.mpr a2)]
      by_cases a3 : i = B
      · rw [if_pos ((own_eqN (by omega) (by omega)).mpr a3)]
        exact ⟨fun h => by omega, fun _ _ => rfl, fun h => by omega, by decide, by decide⟩
      · rw [if_neg fun z => a3 ((own_eqN (by omega) (by omega)).mp z)]
        by_cases a4 : i < B + Q + K
        · rw [if_pos ((own_ltN (by omega) (by omega)).mpr a4), own_subN (by omega) (by omega)]
          have b := own_key ch (Int32.ofNat (i - (B + Q)))
          exact ⟨fun h => by omega, fun _ h => by omega, fun _ _ => rfl, b.2.2.2.1, b.2.2.2.2⟩
        · rw [if_neg fun z => a4 ((own_ltN (by omega) (by omega)).mp z)]
          by_cases a5 : i = B + Q + K
          · rw [if_pos ((own_eqN (by omega) (by omega)).mpr a5)]
            exact ⟨fun h => by omega, fun _ _ => rfl, fun h h' => by omega, by decide, by decide⟩
          · rw [if_neg fun z => a5 ((own_eqN (by omega) (by omega)).mp z)]
            have b := own_blk bl (Int32.ofNat i)
            exact ⟨fun _ => b.1, fun _ h => by omega, fun h h' => by omega, b.2.1, b.2.2⟩
    · rw [if_neg fun z => a2 (q1.mp z)]
      by_cases a4 : i < B + Q + K
      · rw [if_pos ((own_ltN (by omega) (by omega)).mpr a4), own_subN (by omega) (by omega)]
        have b := own_key ch (Int32.ofNat (i - (B + Q)))
        exact ⟨fun h => by omega, fun h => by omega, fun _ _ => rfl, b.2.2.2.1, b.2.2.2.2⟩
      · rw [if_neg fun z => a4 ((own_ltN (by omega) (by omega)).mp z)]
        have b := own_blk bl (Int32.ofNat i)
        exact ⟨fun _ => b.1, fun h => by omega, fun h h' => by omega, b.2.1, b.2.2⟩
/-- a sign of at most 255 comes back out of its byte -/
theorem own_chr {c : Int32} (h0 : ¬ c < 0) (h1 : ¬ 255 < c) : nar .byte ((nar .char c).toInt8.toInt32) &&& 255 = c ∧ ¬ 255 < nar .char c := by
  have e : (255 : Int32).toInt = 255 := rfl
  rw [own_lt, own_z0] at h0
  rw [own_lt, e] at h1
  obtain ⟨n, hn, q⟩ : ∃ n : Nat, n < 256 ∧ c = Int32.ofNat n := ⟨c.toInt.toNat, by omega, by rw [own_eqq, own_nn (by omega)]; omega⟩
  subst q
  have all : ∀ n : Fin 256, nar .byte ((nar .char (Int32.ofNat n.val)).toInt8.toInt32) &&& 255 = Int32.ofNat n.val ∧ ¬ 255 < nar .char (Int32.ofNat n.val) := by decide +kernel
  exact all ⟨n, hn⟩
theorem own_l17_ok {xs : List Int32} {B : Nat} (hB : B < 8) (hb : ∀ i, i < B → ¬ own_f20 (xs.getD i 0 &&& 255) = 0) (hs : own_f20 (xs.getD B 0 &&& 255) = 0) : ∀ (k i : Nat), i ≤ B → B - i < k → own_L10_17 k xs 8 8 (Int32.ofNat i) = some (Int32.ofNat B)
  | 0, _, _, h => absurd h (Nat.not_lt_zero _)
  | k + 1, i, hi, hk => by
    rw [own_L10_17]
    have a : Int32.ofNat i < 8 := (own_ltN (j := 8) (by omega) (by omega)).mpr (by omega)
    rw [if_pos a, if_pos ⟨own_ge0 (by omega), a⟩, own_cn (by omega)]
    by_cases q : i = B
    · subst q; rw [if_pos hs]
    · rw [if_neg (hb i (by omega)), show (1 : Int32) = Int32.ofNat 1 from rfl, own_addN (by omega) (by omega)]
      exact own_l17_ok hB hb hs k (i + 1) (by omega) (by omega)
theorem own_l39_ok {xs : List Int32} {B E : Nat} (hE : E ≤ 8) (hBE : B < E) (hb : ∀ i, E ≤ i → i < 8 → ¬ own_f20 (xs.getD i 0 &&& 255) = 0) (hs : own_f20 (xs.getD (E - 1) 0 &&& 255) = 0) : ∀ (k i : Nat), E ≤ i → i ≤ 8 → i - E < k → own_L10_39 k xs 8 (Int32.ofNat B) (Int32.ofNat i) = some (Int32.ofNat E)
  | 0, _, _, _, h => absurd h (Nat.not_lt_zero _)
  | k + 1, i, hi, hi8, hk => by
    rw [own_L10_39]
    have a : Int32.ofNat B < Int32.ofNat i := (own_ltN (by omega) (by omega)).mpr (by omega)
    have e1 : Int32.ofNat i - 1 = Int32.ofNat (i - 1) := own_subN (j := 1) (by omega) (by omega)
    have a8 : Int32.ofNat (i - 1) < 8 := (own_ltN (j := 8) (by omega) (by omega)).mpr (by omega)
    have e2 : Int32.ofNat i + (-1) = Int32.ofNat (i - 1) := by
      rw [own_eqq]; have c := c_iadd (Int32.ofNat i) (-1); have r := rng32 (Int32.ofNat i + (-1))
      rw [own_nn (by omega), own_m1] at c; rw [own_nn (by omega)]; omega
    rw [if_pos a, e1, if_pos ⟨own_ge0 (by omega), a8⟩, own_cn (by omega), e2]
    by_cases q : i = E
    · subst q; rw [if_pos hs]
    · rw [if_neg (hb (i - 1) (by omega) (by omega))]
      exact own_l39_ok hE hBE hb hs k (i - 1) (by omega) (by omega) (by omega)
theorem own_l123_ok {xs : List Int32} {bg qd kb : Int32} {E F : Nat} (hE : E ≤ 8) (hF : F ≤ E) (s : Nat) (hb : ∀ i, s ≤ i → i < F → ¬ own_f21 (xs.getD i 0 &&& 255) = 0) (hs : F < E → own_f21 (xs.getD F 0 &&& 255) = 0) : ∀ (k i : Nat), s ≤ i → i ≤ F → F - i < k → own_L10_123 k xs 8 bg (Int32.ofNat E) qd kb (Int32.ofNat i) = some (Int32.ofNat F)
  | 0, _, _, _, h => absurd h (Nat.not_lt_zero _)
  | k + 1, i, hi, hi2, hk => by
    rw [own_L10_123]
    by_cases q : i = F
    · subst q
      by_cases w : i < E
      · rw [if_pos ((own_ltN (by omega) (by omega)).mpr w), if_pos ⟨own_ge0 (by omega), (own_ltN (j := 8) (by omega) (by omega)).mpr (by omega)⟩, own_cn (by omega), if_pos (hs w)]
      · rw [if_neg fun z => w ((own_ltN (by omega) (by omega)).mp z)]
    · rw [if_pos ((own_ltN (by omega) (by omega)).mpr (by omega)), if_pos ⟨own_ge0 (by omega), (own_ltN (j := 8) (by omega) (by omega)).mpr (by omega)⟩, own_cn (by omega), if_neg (hb i hi (by omega)), show (1 : Int32) = Int32.ofNat 1 from rfl, own_addN (by omega) (by omega)]
      exact own_l123_ok hE hF s hb hs k (i + 1) (by omega) (by omega) (by omega)
/-- the numbers of the law -/
theorem own_nums {sh mn q room k free b ml : Int32} (hq : q = sh &&& 1) (hr : room = 8 - 2 * q) (hk : k = 1 + (((sh.toUInt32 >>> ((1 : Int32) &&& 31).toUInt32).toInt32) &&& 2147483647) % room) (hf : free = room - k) (hb : b = (((sh.toUInt32 >>> ((8 : Int32) &&& 31).toUInt32).toInt32) &&& 255) % (free + 1)) (hm : ml = 1 + (mn &&& 2147483647) % k) :
    ∃ B Q K : Nat, Q ≤ 1 ∧ 1 ≤ K ∧ B + 2 * Q + K ≤ 8 ∧ b = Int32.ofNat B ∧ q = Int32.ofNat Q ∧ k = Int32.ofNat K ∧ 1 ≤ ml.toInt ∧ ml.toInt ≤ K := by
  have q1 := c_and sh 1 (by decide)
  have e2 : (2 : Int32).toInt = 2 := rfl
  rw [← hq, own_z1] at q1
  have r1 := c_imul 2 q
  have r2 := c_isub 8 (2 * q)
  have r3 := rng32 (2 * q)
  have r4 := rng32 (8 - 2 * q)
  rw [e2] at r1
  rw [own_z8] at r2
  rw [← hr] at r2 r4
  have k1 := c_and ((sh.toUInt32 >>> ((1 : Int32) &&& 31).toUInt32).toInt32) 2147483647 (by decide)
  generalize ((sh.toUInt32 >>> ((1 : Int32) &&& 31).toUInt32).toInt32) &&& 2147483647 = A at k1 hk
  have k2 := (c_iremV A room).1 k1.1 (by omega)
  have k3 := c_iadd 1 (A % room)
  have k4 := rng32 (1 + A % room)
  rw [own_z1] at k3
  rw [← hk] at k3 k4
  have f1 := c_isub room k
  have f2 := rng32 (room - k)
  rw [← hf] at f1 f2
  have g1 := c_iadd free 1
  have g2 := rng32 (free + 1)
  rw [own_z1] at g1
  have b1 := c_and ((sh.toUInt32 >>> ((8 : Int32) &&& 31).toUInt32).toInt32) 255 (by decide)
  generalize ((sh.toUInt32 >>> ((8 : Int32) &&& 31).toUInt32).toInt32) &&& 255 = D at b1 hb
  have b2 := (c_iremV D (free + 1)).1 b1.1 (by omega)
  rw [← hb] at b2
  have m1 := c_and mn 2147483647 (by decide)
  have m2 := (c_iremV (mn &&& 2147483647) k).1 m1.1 (by omega)
  have m3 := c_iadd 1 ((mn &&& 2147483647) % k)
  have m4 := rng32 (1 + (mn &&& 2147483647) % k)
  rw [own_z1] at m3
  rw [← hm] at m3 m4
  refine ⟨b.toInt.toNat, q.toInt.toNat, k.toInt.toNat, by omega, by omega, by omega, ?_, ?_, ?_, by omega, by omega⟩
  · rw [own_eqq, own_nn (by omega)]; omega
  · rw [own_eqq, own_nn (by omega)]; omega
  · rw [own_eqq, own_nn (by omega)]; omega
theorem own_nzR {sh q room : Int32} (hq : q = sh &&& 1) (hr : room = 8 - 2 * q) : room ≠ 0 := fun h => by
  have q1 := c_and sh 1 (by decide)
  have e2 : (2 : Int32).toInt = 2 := rfl
  rw [← hq, own_z1] at q1
  have r1 := c_imul 2 q
  have r2 := c_isub 8 (2 * q)
  have r3 := rng32 (2 * q)
  rw [e2] at r1
  rw [own_z8, ← hr, h, own_z0] at r2
  omega
theorem own_nzF {sh q room k free : Int32} (hq : q = sh &&& 1) (hr : room = 8 - 2 * q) (hk : k = 1 + (((sh.toUInt32 >>> ((1 : Int32) &&& 31).toUInt32).toInt32) &&& 2147483647) % room) (hf : free = room - k) : free + 1 ≠ 0 ∧ k ≠ 0 := by
  obtain ⟨B, Q, K, h1, h2, h3, -, h5, h6, -⟩ := own_nums hq hr hk hf rfl (rfl : (1 : Int32) + ((0 : Int32) &&& 2147483647) % k = _)
  have e2 : (2 : Int32) = Int32.ofNat 2 := rfl
  have e8 : (8 : Int32) = Int32.ofNat 8 := rfl
  have er : room = Int32.ofNat (8 - 2 * Q) := by
    rw [hr, h5, own_eqq]
    have c1 := c_imul 2 (Int32.ofNat Q)
    have c2 := c_isub 8 (2 * Int32.ofNat Q)
    have c3 := rng32 (2 * Int32.ofNat Q)
    have c4 := rng32 (8 - 2 * Int32.ofNat Q)
    have e3 : (2 : Int32).toInt = 2 := rfl
    rw [own_nn (by omega), e3] at c1
    rw [own_z8] at c2
    rw [own_nn (by omega)]; omega
  have ef : free = Int32.ofNat (8 - 2 * Q - K) := by rw [hf, er, h6, own_subN (by omega) (by omega)]
  constructor
  · rw [ef, show (1 : Int32) = Int32.ofNat 1 from rfl, own_addN (by omega) (by omega)]
    intro h; have := (own_eqN (j := 0) (by omega) (by omega)).mp h; omega
  · rw [h6]; intro h; have := (own_eqN (j := 0) (by omega) (by omega)).mp h; omega
/-- all that parse asks, and what the law asks of its answer -/
theorem own_all {B Q K : Nat} {ch : Int64} {bl ml : Int32} {xs : List Int32} (hQ : Q ≤ 1) (hK : 1 ≤ K) (hs : B + 2 * Q + K ≤ 8) (hm1 : 1 ≤ ml.toInt) (hm2 : ml.toInt ≤ K)
    (hx : ∀ i, i < 8 → xs.getD i 0 &&& 255 = own_f1 (Int32.ofNat i) (Int32.ofNat B) (Int32.ofNat Q) (Int32.ofNat K) ch bl) :
    own_L10_17 20 xs 8 8 0 = some (Int32.ofNat B) ∧ own_L10_39 20 xs 8 (Int32.ofNat B) 8 = some (Int32.ofNat (B + 2 * Q + K)) ∧
    (∀ bg qd kb : Int32, own_L10_123 20 xs 8 bg (Int32.ofNat (B + 2 * Q + K)) qd kb (Int32.ofNat (B + Q)) = some (Int32.ofNat (B + Q + K))) ∧
    (Q = 0 → ¬ (xs.getD (Int32.ofNat B).toNatClampNeg 0 &&& 255) = 34) ∧ (Q = 1 → (xs.getD (Int32.ofNat B).toNatClampNeg 0 &&& 255) = 34 ∧ (xs.getD (Int32.ofNat (B + Q + K)).toNatClampNeg 0 &&& 255) = 34) ∧
    ∀ (ys : List Int32), own_cut xs ys (Int32.ofNat (B + Q)) (Int32.ofNat K) → ∀ j : Nat, j < 8 → own_f33 ys (Int32.ofNat j) (Int32.ofNat K) ch = 1 := by
  have at_ := fun i (hi : i < 8) => own_at_ok (ch := ch) (bl := bl) hQ hK hs hi
  have key : ∀ i, B + Q ≤ i → i < B + Q + K → own_f20 (xs.getD i 0 &&& 255) = 0 ∧ ¬ own_f21 (xs.getD i 0 &&& 255) = 0 ∧ ¬ (xs.getD i 0 &&& 255) = 34 := fun i h1 h2 => by
    have q := own_key ch (Int32.ofNat (i - (B + Q)))
    rw [hx i (by omega), (at_ i (by omega)).2.2.1 h1 h2]; exact ⟨q.1, q.2.1, q.2.2.1⟩
  have quo : Q = 1 → ∀ i, (i = B ∨ i = B + 1 + K) → xs.getD i 0 &&& 255 = 34 := fun h i hi => by
    rw [hx i (by omega), (at_ i (by omega)).2.1 h hi]
  have e34 : own_f20 34 = 0 := by decide
  have f34 : own_f21 34 = 0 := by decide
  refine ⟨?_, ?_, ?_, ?_, ?_, ?_⟩
  · refine own_l17_ok (by omega) (fun i hi => by rw [hx i (by omega)]; exact (at_ i (by omega)).1 (Or.inl hi)) ?_ 20 0 (by omega) (by omega)
    rcases (by omega : Q = 0 ∨ Q = 1) with z | z
    · exact (key B (by omega) (by omega)).1
    · rw [quo z B (Or.inl rfl)]; exact e34
  · refine own_l39_ok hs (by omega) (fun i h1 h2 => by rw [hx i h2]; exact (at_ i h2).1 (Or.inr h1)) ?_ 20 8 (by omega) (by omega) (by omega)
    rcases (by omega : Q = 0 ∨ Q = 1) with z | z
    · exact (key _ (by omega) (by omega)).1
    · rw [quo z _ (Or.inr (by omega))]; exact e34
  · intro bg qd kb
    refine own_l123_ok hs (by omega) (B + Q) (fun i h1 h2 => (key i h1 h2).2.1) (fun h => ?_) 20 (B + Q) (by omega) (by omega) (by omega)
    have z : Q = 1 := by omega
    rw [quo z _ (Or.inr (by omega))]; exact f34
  · intro z; rw [own_cn (by omega)]; exact (key B (by omega) (by omega)).2.2
  · intro z; rw [own_cn (by omega), own_cn (by omega)]; exact ⟨quo z _ (Or.inl rfl), quo z _ (Or.inr (by omega))⟩
  · intro ys hy j hj
    unfold own_f33
    by_cases q : j < K
    · rw [if_pos ((own_ltN (by omega) (by omega)).mpr q), own_cn (by omega)]
      have e := hy j (by rw [own_cn (by omega)]; exact q)
      rw [own_cn (by omega)] at e
      rw [e, hx _ (by omega), (at_ (B + Q + j) (by omega)).2.2.1 (by omega) (by omega), show B + Q + j - (B + Q) = j by omega, if_pos rfl]
    · rw [if_neg fun z => q ((own_ltN (by omega) (by omega)).mp z)]
theorem own_pu {B K : Nat} {ml : Int32} (hs : B + K ≤ 8) (hK : 1 ≤ K) (hm1 : 1 ≤ ml.toInt) (hm2 : ml.toInt ≤ K) : ¬ ml < 1 ∧ ¬ 255 < ml ∧ (¬ (Int32.ofNat B < 0) ∧ Int32.ofNat B < 8) ∧ Int32.ofNat B < Int32.ofNat (B + K) ∧ ¬ 257 < (Int32.ofNat (B + K) - Int32.ofNat B) ∧ ¬ Int32.ofNat (B + K) < Int32.ofNat (B + K) ∧ ¬ (Int32.ofNat (B + K) - Int32.ofNat B) < ml ∧ ¬ 255 < (Int32.ofNat (B + K) - Int32.ofNat B) ∧ ¬ 8 < Int32.ofNat (B + K) ∧ Int32.ofNat (B + K) - Int32.ofNat B = Int32.ofNat K := by
  have e : Int32.ofNat (B + K) - Int32.ofNat B = Int32.ofNat K := by rw [own_subN (by omega) (by omega)]; congr 1; omega
  have e255 : (255 : Int32).toInt = 255 := rfl
  have e257 : (257 : Int32).toInt = 257 := rfl
  rw [e]
  simp only [own_lt, own_nn (show B ≤ 400 by omega), own_nn (show B + K ≤ 400 by omega), own_nn (show K ≤ 400 by omega), own_z0, own_z1, own_z8, e255, e257]
  refine ⟨by omega, by omega, ⟨by omega, by omega⟩, by omega, by omega, by omega, by omega, by omega, by omega, trivial⟩
theorem own_pq {B K : Nat} {ml : Int32} (hs : B + 2 + K ≤ 8) (hK : 1 ≤ K) (hm1 : 1 ≤ ml.toInt) (hm2 : ml.toInt ≤ K) : ¬ ml < 1 ∧ ¬ 255 < ml ∧ (¬ (Int32.ofNat B < 0) ∧ Int32.ofNat B < 8) ∧ Int32.ofNat B < Int32.ofNat (B + 2 + K) ∧ ¬ 257 < (Int32.ofNat (B + 2 + K) - Int32.ofNat B) ∧ Int32.ofNat (B + 1 + K) < Int32.ofNat (B + 2 + K) ∧ (¬ (Int32.ofNat (B + 1 + K) < 0) ∧ Int32.ofNat (B + 1 + K) < 8) ∧ Int32.ofNat (B + 1 + K) = Int32.ofNat (B + 2 + K) - 1 ∧ ¬ (Int32.ofNat (B + 1 + K) - (Int32.ofNat B + 1)) < ml ∧ ¬ 255 < (Int32.ofNat (B + 1 + K) - (Int32.ofNat B + 1)) ∧ ¬ (Int32.ofNat B + 1) < 0 ∧ (Int32.ofNat B + 1) < Int32.ofNat (B + 1 + K) ∧ ¬ 8 < Int32.ofNat (B + 1 + K) ∧ Int32.ofNat (B + 1 + K) - (Int32.ofNat B + 1) = Int32.ofNat K ∧ Int32.ofNat B + 1 = Int32.ofNat (B + 1) := by
  have e1 : Int32.ofNat B + 1 = Int32.ofNat (B + 1) := own_addN (j := 1) (by omega) (by omega)
  have e : Int32.ofNat (B + 1 + K) - Int32.ofNat (B + 1) = Int32.ofNat K := by rw [own_subN (by omega) (by omega)]; congr 1; omega
  have e2 : Int32.ofNat (B + 2 + K) - 1 = Int32.ofNat (B + 1 + K) := by rw [show (1 : Int32) = Int32.ofNat 1 from rfl, own_subN (by omega) (by omega)]; congr 1; omega
  have e3 : Int32.ofNat (B + 2 + K) - Int32.ofNat B = Int32.ofNat (2 + K) := by rw [own_subN (by omega) (by omega)]; congr 1; omega
  have e255 : (255 : Int32).toInt = 255 := rfl
  have e257 : (257 : Int32).toInt = 257 := rfl
  rw [e1, e, e2, e3]
  simp only [own_lt, own_nn (show B ≤ 400 by omega), own_nn (show B + 1 ≤ 400 by omega), own_nn (show B + 2 + K ≤ 400 by omega), own_nn (show B + 1 + K ≤ 400 by omega), own_nn (show 2 + K ≤ 400 by omega), own_nn (show K ≤ 400 by omega), own_z0, own_z1, own_z8, e255, e257]
  refine ⟨by omega, by omega, ⟨by omega, by omega⟩, by omega, by omega, by omega, ⟨by omega, by omega⟩, trivial, by omega, by omega, by omega, by omega, by omega, trivial, trivial⟩
theorem pd_24 : parseMethodDescriptor "(IIIIJI)C" = some ⟨[.int, .int, .int, .int, .long, .int], some .char⟩ := by decide +kernel
theorem pd_25 : parseMethodDescriptor "([C)V" = some ⟨[(.array .char)], none⟩ := by decide +kernel
theorem pd_26 : parseMethodDescriptor "(Ljava/lang/String;I)Lcom/example/twince/twince/IdempotencyKey;" = some ⟨[(.object "java/lang/String"), .int], some (.object "com/example/twince/twince/IdempotencyKey")⟩ := by decide +kernel
theorem pd_27 : parseMethodDescriptor "()Ljava/lang/String;" = some ⟨[], some (.object "java/lang/String")⟩ := by decide +kernel
theorem pd_28 : parseMethodDescriptor "(Ljava/lang/String;IIJ)Z" = some ⟨[(.object "java/lang/String"), .int, .int, .long], some .boolean⟩ := by decide +kernel
theorem ef_0 (m : MethodId) (p1 : Int32) (p2 : Int64) (p3 : Int32) (p4 : Int32) : entryFrame m #[(.int p1), (.long p2), (.int p3), (.int p4)] maxLocals = mkF m 0 #[.val (.int p1), .val (.long p2), .second, .val (.int p3), .val (.int p4), .unset, .unset, .unset, .unset, .unset, .unset, .unset, .unset] [] := by first | (simp [entryFrame, mkF, argsToLocals, Value.category, maxLocals]; done) | rfl
set_option maxRecDepth 65536 in
set_option maxHeartbeats 40000000 in
theorem rm0 (l : Launch) (Z : State) (a0 : Array Value) (hw : ∀ d ∈ tables_1, d.before a0 Z = true) (ws : List Jvm.Cond) (p1 : Int32) (p2 : Int64) (p3 : Int32) (p4 : Int32) (cs : Int32) (fm : Value) (h0 : Heap) (n0 : Nat) (Z0 : n0 ≤ h0.size) (CS : Sta Z h0 "java/lang/String" "COMPACT_STRINGS" "Z" (.int cs)) (hcs : ¬ cs = (0 : Int32)) (FM : Sta Z h0 "jdk/internal/util/Preconditions" "SIOOBE_FORMATTER" "Ljava/util/function/BiFunction;" fm) (hr_fm : fm.isRef = true) :
    MetFree l x (head1 (Jvm.Cond.code x code maxLocals ret :: ws) room_1) (fun a U => a = #[(.int p1), (.long p2), (.int p3), (.int p4)] ∧ Z.Warmed39 U.vm ∧ U.heap = h0) (fun _ _ _ _ _ => True) (fun _ U o U' => ∃ v L, o = .returned v ∧ own_QL n0 v L ∧ FrameEnd U o U' L room_1.cells room_1.slots) := by
  refine MetFree.of_bodySF (plainFor_of_name pn_3) hisR ?_
  intro p e s m args below meth c s₁ Bd hml0 hP hK
  obtain ⟨rfl, hZ, hh⟩ := hP
  have hx := Bd.exec
  have hby := Bd.bytes
  have hml : c.maxLocals = 13 := hml0
  have hown : s.vm.findClass "com/example/twince/twince/IdempotencyKeyParsePinLaw" = some m.cls := findClass_of_methodNamed Bd.named
  have hnm := (name_of_methodNamed Bd.named Bd.method).1
  have X0 : Stand p l e room_1 s m #[(.int p1), (.long p2), (.int p3), (.int p4)] below meth c s₁ [] 0 0 := Stand.of_body Bd
  have e0 : s₁.heap = h0 := by rw [← hh, Bd.state]; rfl
  have N0 := Fr.nil n0
  obtain ⟨S0, hS0⟩ : ∃ z, z = s₁.setTop (entryFrame m #[(.int p1), (.long p2), (.int p3), (.int p4)] maxLocals) := ⟨_, rfl⟩
  have P0 : own_Pr p.tables e below S0 s₁ (mkF m 0 #[.val (.int p1), .val (.long p2), .second, .val (.int p3), .val (.int p4), .unset, .unset, .unset, .unset, .unset, .unset, .unset, .unset] []) := fun t k => hS0 ▸ castTop (ef_0 m p1 p2 p3 p4) k
  have P21 : own_Pr p.tables e below S0 s₁ (mkF m 5 #[.val (.int p1), .val (.long p2), .second, .val (.int p3), .val (.int p4), .val (.int (p1 &&& (1 : Int32))), .unset, .unset, .unset, .unset, .unset, .unset, .unset] []) := fun t k => P0 t (by
    refine XS.iloadN X0.here hx rfl (hb hby at_0) rfl ?_
    refine XS.iconst X0.here hx rfl (hb hby at_1) ?_
    refine XS.iand X0.here hx rfl (hb hby at_2) rfl ?_
    refine XS.istore X0.here hx rfl (hb hby at_3) rfl (l' := #[.val (.int p1), .val (.long p2), .second, .val (.int p3), .val (.int p4), .val (.int (p1 &&& (1 : Int32))), .unset, .unset, .unset, .unset, .unset, .unset, .unset]) rfl ?_
    exact k)
  obtain ⟨z22, hz22⟩ : ∃ z, z = (p1 &&& (1 : Int32)) := ⟨_, rfl⟩
  rw [← hz22] at P21
  have P23 : own_Pr p.tables e below S0 s₁ (mkF m 14 #[.val (.int p1), .val (.long p2), .second, .val (.int p3), .val (.int p4), .val (.int z22), .val (.int ((8 : Int32) - ((2 : Int32) * z22))), .unset, .unset, .unset, .unset, .unset, .unset] []) := fun t k => P21 t (by
    refine XS.bipush X0.here hx rfl (hb hby at_5) ?_
    refine XS.iconst X0.here hx rfl (hb hby at_7) ?_
    refine XS.iload X0.here hx rfl (hb hby at_8) rfl ?_
    refine XS.imul X0.here hx rfl (hb hby at_10) rfl ?_
    refine XS.isub X0.here hx rfl (hb hby at_11) rfl ?_
    refine XS.istore X0.here hx rfl (hb hby at_12) rfl (l' := #[.val (.int p1), .val (.long p2), .second, .val (.int p3), .val (.int p4), .val (.int z22), .val (.int ((8 : Int32) - ((2 : Int32) * z22))), .unset, .unset, .unset, .unset, .unset, .unset]) rfl ?_
    exact k)
  obtain ⟨z24, hz24⟩ : ∃ z, z = ((8 : Int32) - ((2 : Int32) * z22)) := ⟨_, rfl⟩
  rw [← hz24] at P23
  have P25 : own_Pr p.tables e below S0 s₁ (mkF m 27 #[.val (.int p1), .val (.long p2), .second, .val (.int p3), .val (.int p4), .val (.int z22), .val (.int z24), .val (.int ((1 : Int32) + ((((p1.toUInt32 >>> ((1 : Int32) &&& 31).toUInt32).toInt32) &&& (2147483647 : Int32)) % z24))), .unset, .unset, .unset, .unset, .unset] []) := fun t k => P23 t (by
    refine XS.iconst X0.here hx rfl (hb hby at_14) ?_
    refine XS.iloadN X0.here hx rfl (hb hby at_15) rfl ?_
    refine XS.iconst X0.here hx rfl (hb hby at_16) ?_
    refine XS.iushr X0.here hx rfl (hb hby at_17) rfl ?_
    refine X0.ldcInt hx hown (mvT hZ (hw _ (List.mem_of_getElem? (i := 0) rfl))) (g := (mkF m 18 #[.val (.int p1), .val (.long p2), .second, .val (.int p3), .val (.int p4), .val (.int z22), .val (.int z24), .unset, .unset, .unset, .unset, .unset, .unset] [(.int ((p1.toUInt32 >>> ((1 : Int32) &&& 31).toUInt32).toInt32)), (.int (1 : Int32))])) rfl (hb hby at_18) _ ?_
    refine XS.iand X0.here hx rfl (hb hby at_20) rfl ?_
    refine XS.iload X0.here hx rfl (hb hby at_21) rfl ?_
    refine iremM X0 hx rfl (hb hby at_23) rfl (own_nzR hz22 hz24) ?_
    show Steps p.tables e below (s₁.setTop (mkF m 24 #[.val (.int p1), .val (.long p2), .second, .val (.int p3), .val (.int p4), .val (.int z22), .val (.int z24), .unset, .unset, .unset, .unset, .unset, .unset] [(.int ((((p1.toUInt32 >>> ((1 : Int32) &&& 31).toUInt32).toInt32) &&& (2147483647 : Int32)) % z24)), (.int (1 : Int32))])) _
    refine XS.iadd X0.here hx rfl (hb hby at_24) rfl ?_
    refine XS.istore X0.here hx rfl (hb hby at_25) rfl (l' := #[.val (.int p1), .val (.long p2), .second, .val (.int p3), .val (.int p4), .val (.int z22), .val (.int z24), .val (.int ((1 : Int32) + ((((p1.toUInt32 >>> ((1 : Int32) &&& 31).toUInt32).toInt32) &&& (2147483647 : Int32)) % z24))), .unset, .unset, .unset, .unset, .unset]) rfl ?_
    exact k)
  obtain ⟨z26, hz26⟩ : ∃ z, z = ((1 : Int32) + ((((p1.toUInt32 >>> ((1 : Int32) &&& 31).toUInt32).toInt32) &&& (2147483647 : Int32)) % z24)) := ⟨_, rfl⟩
  rw [← hz26] at P25
  have P27 : own_Pr p.tables e below S0 s₁ (mkF m 34 #[.val (.int p1), .val (.long p2), .second, .val (.int p3), .val (.int p4), .val (.int z22), .val (.int z24), .val (.int z26), .val (.int (z24 - z26)), .unset, .unset, .unset, .unset] []) := fun t k => P25 t (by
    refine XS.iload X0.here hx rfl (hb hby at_27) rfl ?_
    refine XS.iload X0.here hx rfl (hb hby at_29) rfl ?_
    refine XS.isub X0.here hx rfl (hb hby at_31) rfl ?_
    refine XS.istore X0.here hx rfl (hb hby at_32) rfl (l' := #[.val (.int p1), .val (.long p2), .second, .val (.int p3), .val (.int p4), .val (.int z22), .val (.int z24), .val (.int z26), .val (.int (z24 - z26)), .unset, .unset, .unset, .unset]) rfl ?_
    exact k)
  obtain ⟨z28, hz28⟩ : ∃ z, z = (z24 - z26) := ⟨_, rfl⟩
  rw [← hz28] at P27
  have P29 : own_Pr p.tables e below S0 s₁ (mkF m 49 #[.val (.int p1), .val (.long p2), .second, .val (.int p3), .val (.int p4), .val (.int z22), .val (.int z24), .val (.int z26), .val (.int z28), .val (.int ((((p1.toUInt32 >>> ((8 : Int32) &&& 31).toUInt32).toInt32) &&& (255 : Int32)) % (z28 + (1 : Int32)))), .unset, .unset, .unset] []) := fun t k => P27 t (by
    refine XS.iloadN X0.here hx rfl (hb hby at_34) rfl ?_
    refine XS.bipush X0.here hx rfl (hb hby at_35) ?_
    refine XS.iushr X0.here hx rfl (hb hby at_37) rfl ?_
    refine XS.sipush X0.here hx rfl (hb hby at_38) ?_
    refine XS.iand X0.here hx rfl (hb hby at_41) rfl ?_
    refine XS.iload X0.here hx rfl (hb hby at_42) rfl ?_
    refine XS.iconst X0.here hx rfl (hb hby at_44) ?_
    refine XS.iadd X0.here hx rfl (hb hby at_45) rfl ?_
    show Steps p.tables e below (s₁.setTop (mkF m 46 #[.val (.int p1), .val (.long p2), .second, .val (.int p3), .val (.int p4), .val (.int z22), .val (.int z24), .val (.int z26), .val (.int z28), .unset, .unset, .unset, .unset] [(.int (z28 + (1 : Int32))), (.int (((p1.toUInt32 >>> ((8 : Int32) &&& 31).toUInt32).toInt32) &&& (255 : Int32)))])) _
    refine iremM X0 hx rfl (hb hby at_46) rfl (own_nzF hz22 hz24 hz26 hz28).1 ?_
    refine XS.istore X0.here hx rfl (hb hby at_47) rfl (l' := #[.val (.int p1), .val (.long p2), .second, .val (.int p3), .val (.int p4), .val (.int z22), .val (.int z24), .val (.int z26), .val (.int z28), .val (.int ((((p1.toUInt32 >>> ((8 : Int32) &&& 31).toUInt32).toInt32) &&& (255 : Int32)) % (z28 + (1 : Int32)))), .unset, .unset, .unset]) rfl ?_
    exact k)
  obtain ⟨z30, hz30⟩ : ∃ z, z = ((((p1.toUInt32 >>> ((8 : Int32) &&& 31).toUInt32).toInt32) &&& (255 : Int32)) % (z28 + (1 : Int32))) := ⟨_, rfl⟩
  rw [← hz30] at P29
  have P31 : own_Pr p.tables e below S0 s₁ (mkF m 61 #[.val (.int p1), .val (.long p2), .second, .val (.int p3), .val (.int p4), .val (.int z22), .val (.int z24), .val (.int z26), .val (.int z28), .val (.int z30), .val (.int ((1 : Int32) + ((p4 &&& (2147483647 : Int32)) % z26))), .unset, .unset] []) := fun t k => P29 t (by
    refine XS.iconst X0.here hx rfl (hb hby at_49) ?_
    refine XS.iload X0.here hx rfl (hb hby at_50) rfl ?_
    refine X0.ldcInt hx hown (mvT hZ (hw _ (List.mem_of_getElem? (i := 0) rfl))) (g := (mkF m 52 #[.val (.int p1), .val (.long p2), .second, .val (.int p3), .val (.int p4), .val (.int z22), .val (.int z24), .val (.int z26), .val (.int z28), .val (.int z30), .unset, .unset, .unset] [(.int p4), (.int (1 : Int32))])) rfl (hb hby at_52) _ ?_
    refine XS.iand X0.here hx rfl (hb hby at_54) rfl ?_
    refine XS.iload X0.here hx rfl (hb hby at_55) rfl ?_
    refine iremM X0 hx rfl (hb hby at_57) rfl (own_nzF hz22 hz24 hz26 hz28).2 ?_
    refine XS.iadd X0.here hx rfl (hb hby at_58) rfl ?_
    refine XS.istore X0.here hx rfl (hb hby at_59) rfl (l' := #[.val (.int p1), .val (.long p2), .second, .val (.int p3), .val (.int p4), .val (.int z22), .val (.int z24), .val (.int z26), .val (.int z28), .val (.int z30), .val (.int ((1 : Int32) + ((p4 &&& (2147483647 : Int32)) % z26))), .unset, .unset]) rfl ?_
    exact k)
  obtain ⟨z32, hz32⟩ : ∃ z, z = ((1 : Int32) + ((p4 &&& (2147483647 : Int32)) % z26)) := ⟨_, rfl⟩
  rw [← hz32] at P31
  have P33 : own_Pr p.tables e below S0 s₁ (mkF m 63 #[.val (.int p1), .val (.long p2), .second, .val (.int p3), .val (.int p4), .val (.int z22), .val (.int z24), .val (.int z26), .val (.int z28), .val (.int z30), .val (.int z32), .unset, .unset] [(.int (8 : Int32))]) := fun t k => P31 t (by
    refine XS.bipush X0.here hx rfl (hb hby at_61) ?_
    exact k)
  obtain ⟨T34, h34, k34, X34, e34, E34, A34, st34⟩ := newP X0 hx hZ (hw _ (List.mem_of_getElem? (i := 1) rfl)) e0 (g := (mkF m 63 #[.val (.int p1), .val (.long p2), .second, .val (.int p3), .val (.int p4), .val (.int z22), .val (.int z24), .val (.int z26), .val (.int z28), .val (.int z30), .val (.int z32), .unset, .unset] [(.int (8 : Int32))])) rfl (hb hby at_63) rfl (by decide) (cap := 8) (by decide) (by decide) (by decide) (by decide)
  obtain ⟨b34, g34⟩ : ∃ z, z = h0.size := ⟨_, rfl⟩
  rw [← g34] at A34 st34
  have g_b34 : n0 ≤ b34 := Nat.le_trans Z0 (Nat.le_of_eq g34.symm)
  have F35 := CS.ext E34
  have F36 := FM.ext E34
  have Z37 : n0 ≤ h34.size := Nat.le_trans Z0 E34.1
  have F38 : Arv Z h34 b34 k34 .char (8 : Int32) [(.int (0 : Int32)), (.int (0 : Int32)), (.int (0 : Int32)), (.int (0 : Int32)), (.int (0 : Int32)), (.int (0 : Int32)), (.int (0 : Int32)), (.int (0 : Int32))] (.int (0 : Int32)) := (Arv.new A34 (by decide)).pad (pad_rep [] (.int (0 : Int32)) 8)
  have P39 : own_Pr p.tables e below S0 T34 (mkF m 65 #[.val (.int p1), .val (.long p2), .second, .val (.int p3), .val (.int p4), .val (.int z22), .val (.int z24), .val (.int z26), .val (.int z28), .val (.int z30), .val (.int z32), .unset, .unset] [(.ref b34)]) := fun t k => P33 t (st34 _ k)
  have P40 : own_Pr p.tables e below S0 T34 (mkF m 79 #[.val (.int p1), .val (.long p2), .second, .val (.int p3), .val (.int p4), .val (.int z22), .val (.int z24), .val (.int z26), .val (.int z28), .val (.int z30), .val (.int z32), .val (.ref b34), .unset] [(.int p3), (.long p2), (.int z26), (.int z22), (.int z30), (.int (0 : Int32)), (.int (0 : Int32)), (.ref b34)]) := fun t k => P39 t (by
    refine XS.astore X34.here hx rfl (hb hby at_65) rfl rfl (l' := #[.val (.int p1), .val (.long p2), .second, .val (.int p3), .val (.int p4), .val (.int z22), .val (.int z24), .val (.int z26), .val (.int z28), .val (.int z30), .val (.int z32), .val (.ref b34), .unset]) rfl ?_
    refine XS.aload X34.here hx rfl (hb hby at_67) rfl rfl ?_
    refine XS.iconst X34.here hx rfl (hb hby at_69) ?_
    refine XS.iconst X34.here hx rfl (hb hby at_70) ?_
    refine XS.iload X34.here hx rfl (hb hby at_71) rfl ?_
    refine XS.iload X34.here hx rfl (hb hby at_73) rfl ?_
    refine XS.iload X34.here hx rfl (hb hby at_75) rfl ?_
    refine XS.lloadN X34.here hx rfl (hb hby at_77) rfl ?_
    show Steps p.tables e below (T34.setTop (mkF m 78 #[.val (.int p1), .val (.long p2), .second, .val (.int p3), .val (.int p4), .val (.int z22), .val (.int z24), .val (.int z26), .val (.int z28), .val (.int z30), .val (.int z32), .val (.ref b34), .unset] [(.long p2), (.int z26), (.int z22), (.int z30), (.int (0 : Int32)), (.int (0 : Int32)), (.ref b34)])) _
    refine XS.iloadN X34.here hx rfl (hb hby at_78) rfl ?_
    exact k)
  obtain ⟨_, _, ⟨T41, L41, k41, n41⟩, -, X41, ⟨Lc41, hQ41, l41, y41, z41⟩, st41⟩ := Jvm.LawKit.callS X34 hx (y := (⟨"com/example/twince/twince/IdempotencyKeyParsePinLaw", "at", "(IIIIJI)C"⟩ : MethodName)) hown (mvT hZ (hw _ (List.mem_of_getElem? (i := 2) rfl))) (mvT hZ (hw _ (List.mem_of_getElem? (i := 3) rfl))) (mvT hZ (hw _ (List.mem_of_getElem? (i := 4) rfl))) (mvT hZ (hw _ (List.mem_of_getElem? (i := 5) rfl))) (by decide) (backOf (W := 2) (rm1 l Z a0 hw [] (0 : Int32) z30 z22 z26 p2 p3  h34 n0 Z37 ) hZ (hw _ (List.mem_of_getElem? (i := 5) rfl)) (hw _ (List.mem_of_getElem? (i := 4) rfl)) (by decide) (by decide)) (g := (mkF m 79 #[.val (.int p1), .val (.long p2), .second, .val (.int p3), .val (.int p4), .val (.int z22), .val (.int z24), .val (.int z26), .val (.int z28), .val (.int z30), .val (.int z32), .val (.ref b34), .unset] [(.int p3), (.long p2), (.int z26), (.int z22), (.int z30), (.int (0 : Int32)), (.int (0 : Int32)), (.ref b34)])) rfl (by rw [hml]; rfl) (argsL := [(.int (0 : Int32)), (.int z30), (.int z22), (.int z26), (.long p2), (.int p3)]) (rest := [(.int (0 : Int32)), (.ref b34)]) (lenOf pd_24 rfl) rfl (by show 2 * 0 + _ ≤ _; exact Nat.le_of_eq rfl) (hb hby at_79) (fun _ _ => ⟨rfl, e34, (by decide : 1 + 0 ≤ _), (by decide : 8 + 0 ≤ _)⟩)
  dsimp only [Pt.U, Pt.locs, Pt.cells, Pt.slots] at X41 l41 y41 z41 st41 hQ41
  rw [l41, y41, z41] at X41
  have X41 := X41.mono (cells' := 1) (slots' := 8) (by decide) (by decide)
  obtain ⟨z41v, rfl, hz41v, Nq41, eq41⟩ := hQ41
  have N41n := Fr.app N0 Nq41
  have P42 : own_Pr p.tables e below S0 T41 (mkF m 82 #[.val (.int p1), .val (.long p2), .second, .val (.int p3), .val (.int p4), .val (.int z22), .val (.int z24), .val (.int z26), .val (.int z28), .val (.int z30), .val (.int z32), .val (.ref b34), .unset] [(.int z41v), (.int (0 : Int32)), (.ref b34)]) := fun t k => P40 t (st41 _ k)
  obtain ⟨cl43, Ar43, q43, S43, N43, H43, G43⟩ := id F38
  have hin43 : ¬ ((0 : Int32) < 0 ∨ cl43.slots.size ≤ ((0 : Int32)).toNatClampNeg) := inb_of S43 ⟨by decide, by decide⟩
  obtain ⟨T43, h43, X43, e43, W43, st43⟩ := stC X41 hx hZ eq41 Ar43 (j := (0 : Int32)) hin43 (g := (mkF m 82 #[.val (.int p1), .val (.long p2), .second, .val (.int p3), .val (.int p4), .val (.int z22), .val (.int z24), .val (.int z26), .val (.int z28), .val (.int z30), .val (.int z32), .val (.ref b34), .unset] [(.int z41v), (.int (0 : Int32)), (.ref b34)])) rfl rfl (hb hby at_82)
  have V43 : Arv Z h43 b34 k34 .char (8 : Int32) [(.int (nar .char z41v)), (.int (0 : Int32)), (.int (0 : Int32)), (.int (0 : Int32)), (.int (0 : Int32)), (.int (0 : Int32)), (.int (0 : Int32)), (.int (0 : Int32))] (.int (0 : Int32)) := Arv.set Ar43 q43 S43 N43 H43 G43 (fits_nar_char _) W43 0 rfl (Nat.le_of_ble_eq_true rfl)
  have F44 := F35.wr W43
  have F45 := F36.wr W43
  have Z46 : n0 ≤ h43.size := by rw [W43.size]; exact Z37
  have NF43 := Fr.snoc X43 N41n g_b34
  have P47 : own_Pr p.tables e below S0 T43 (mkF m 83 #[.val (.int p1), .val (.long p2), .second, .val (.int p3), .val (.int p4), .val (.int z22), .val (.int z24), .val (.int z26), .val (.int z28), .val (.int z30), .val (.int z32), .val (.ref b34), .unset] []) := fun t k => P42 t (st43 _ k)
  have P48 : own_Pr p.tables e below S0 T43 (mkF m 95 #[.val (.int p1), .val (.long p2), .second, .val (.int p3), .val (.int p4), .val (.int z22), .val (.int z24), .val (.int z26), .val (.int z28), .val (.int z30), .val (.int z32), .val (.ref b34), .unset] [(.int p3), (.long p2), (.int z26), (.int z22), (.int z30), (.int (1 : Int32)), (.int (1 : Int32)), (.ref b34)]) := fun t k => P47 t (by
    refine XS.aload X43.here hx rfl (hb hby at_83) rfl rfl ?_
    refine XS.iconst X43.here hx rfl (hb hby at_85) ?_
    refine XS.iconst X43.here hx rfl (hb hby at_86) ?_
    refine XS.iload X43.here hx rfl (hb hby at_87) rfl ?_
    refine XS.iload X43.here hx rfl (hb hby at_89) rfl ?_
    refine XS.iload X43.here hx rfl (hb hby at_91) rfl ?_
    refine XS.lloadN X43.here hx rfl (hb hby at_93) rfl ?_
    refine XS.iloadN X43.here hx rfl (hb hby at_94) rfl ?_
    exact k)
  obtain ⟨_, _, ⟨T49, L49, k49, n49⟩, -, X49, ⟨Lc49, hQ49, l49, y49, z49⟩, st49⟩ := Jvm.LawKit.callS X43 hx (y := (⟨"com/example/twince/twince/IdempotencyKeyParsePinLaw", "at", "(IIIIJI)C"⟩ : MethodName)) hown (mvT hZ (hw _ (List.mem_of_getElem? (i := 2) rfl))) (mvT hZ (hw _ (List.mem_of_getElem? (i := 3) rfl))) (mvT hZ (hw _ (List.mem_of_getElem? (i := 4) rfl))) (mvT hZ (hw _ (List.mem_of_getElem? (i := 5) rfl))) (by decide) (backOf (W := 2) (rm1 l Z a0 hw [] (1 : Int32) z30 z22 z26 p2 p3  h43 n0 Z46 ) hZ (hw _ (List.mem_of_getElem? (i := 5) rfl)) (hw _ (List.mem_of_getElem? (i := 4) rfl)) (by decide) (by decide)) (g := (mkF m 95 #[.val (.int p1), .val (.long p2), .second, .val (.int p3), .val (.int p4), .val (.int z22), .val (.int z24), .val (.int z26), .val (.int z28), .val (.int z30), .val (.int z32), .val (.ref b34), .unset] [(.int p3), (.long p2), (.int z26), (.int z22), (.int z30), (.int (1 : Int32)), (.int (1 : Int32)), (.ref b34)])) rfl (by rw [hml]; rfl) (argsL := [(.int (1 : Int32)), (.int z30), (.int z22), (.int z26), (.long p2), (.int p3)]) (rest := [(.int (1 : Int32)), (.ref b34)]) (lenOf pd_24 rfl) rfl (by show 2 * 0 + _ ≤ _; exact Nat.le_of_eq rfl) (hb hby at_95) (fun _ _ => ⟨rfl, e43, (by decide : 1 + 0 ≤ _), (by decide : 8 + 0 ≤ _)⟩)
  dsimp only [Pt.U, Pt.locs, Pt.cells, Pt.slots] at X49 l49 y49 z49 st49 hQ49
  rw [l49, y49, z49] at X49
  have X49 := X49.mono (cells' := 1) (slots' := 8) (by decide) (by decide)
  obtain ⟨z49v, rfl, hz49v, Nq49, eq49⟩ := hQ49
  have N49n := Fr.app NF43 Nq49
  have P50 : own_Pr p.tables e below S0 T49 (mkF m 98 #[.val (.int p1), .val (.long p2), .second, .val (.int p3), .val (.int p4), .val (.int z22), .val (.int z24), .val (.int z26), .val (.int z28), .val (.int z30), .val (.int z32), .val (.ref b34), .unset] [(.int z49v), (.int (1 : Int32)), (.ref b34)]) := fun t k => P48 t (st49 _ k)
  obtain ⟨cl51, Ar51, q51, S51, N51, H51, G51⟩ := id V43
  have hin51 : ¬ ((1 : Int32) < 0 ∨ cl51.slots.size ≤ ((1 : Int32)).toNatClampNeg) := inb_of S51 ⟨by decide, by decide⟩
  obtain ⟨T51, h51, X51, e51, W51, st51⟩ := stC X49 hx hZ eq49 Ar51 (j := (1 : Int32)) hin51 (g := (mkF m 98 #[.val (.int p1), .val (.long p2), .second, .val (.int p3), .val (.int p4), .val (.int z22), .val (.int z24), .val (.int z26), .val (.int z28), .val (.int z30), .val (.int z32), .val (.ref b34), .unset] [(.int z49v), (.int (1 : Int32)), (.ref b34)])) rfl rfl (hb hby at_98)
  have V51 : Arv Z h51 b34 k34 .char (8 : Int32) [(.int (nar .char z41v)), (.int (nar .char z49v)), (.int (0 : Int32)), (.int (0 : Int32)), (.int (0 : Int32)), (.int (0 : Int32)), (.int (0 : Int32)), (.int (0 : Int32))] (.int (0 : Int32)) := Arv.set Ar51 q51 S51 N51 H51 G51 (fits_nar_char _) W51 1 rfl (Nat.le_of_ble_eq_true rfl)
  have F52 := F44.wr W51
  have F53 := F45.wr W51
  have Z54 : n0 ≤ h51.size := by rw [W51.size]; exact Z46
  have NF51 := Fr.snoc X51 N49n g_b34
  have P55 : own_Pr p.tables e below S0 T51 (mkF m 99 #[.val (.int p1), .val (.long p2), .second, .val (.int p3), .val (.int p4), .val (.int z22), .val (.int z24), .val (.int z26), .val (.int z28), .val (.int z30), .val (.int z32), .val (.ref b34), .unset] []) := fun t k => P50 t (st51 _ k)
  have P56 : own_Pr p.tables e below S0 T51 (mkF m 111 #[.val (.int p1), .val (.long p2), .second, .val (.int p3), .val (.int p4), .val (.int z22), .val (.int z24), .val (.int z26), .val (.int z28), .val (.int z30), .val (.int z32), .val (.ref b34), .unset] [(.int p3), (.long p2), (.int z26), (.int z22), (.int z30), (.int (2 : Int32)), (.int (2 : Int32)), (.ref b34)]) := fun t k => P55 t (by
    refine XS.aload X51.here hx rfl (hb hby at_99) rfl rfl ?_
    refine XS.iconst X51.here hx rfl (hb hby at_101) ?_
    refine XS.iconst X51.here hx rfl (hb hby at_102) ?_
    refine XS.iload X51.here hx rfl (hb hby at_103) rfl ?_
    refine XS.iload X51.here hx rfl (hb hby at_105) rfl ?_
    refine XS.iload X51.here hx rfl (hb hby at_107) rfl ?_
    refine XS.lloadN X51.here hx rfl (hb hby at_109) rfl ?_
    refine XS.iloadN X51.here hx rfl (hb hby at_110) rfl ?_
    exact k)
  obtain ⟨_, _, ⟨T57, L57, k57, n57⟩, -, X57, ⟨Lc57, hQ57, l57, y57, z57⟩, st57⟩ := Jvm.LawKit.callS X51 hx (y := (⟨"com/example/twince/twince/IdempotencyKeyParsePinLaw", "at", "(IIIIJI)C"⟩ : MethodName)) hown (mvT hZ (hw _ (List.mem_of_getElem? (i := 2) rfl))) (mvT hZ (hw _ (List.mem_of_getElem? (i := 3) rfl))) (mvT hZ (hw _ (List.mem_of_getElem? (i := 4) rfl))) (mvT hZ (hw _ (List.mem_of_getElem? (i := 5) rfl))) (by decide) (backOf (W := 2) (rm1 l Z a0 hw [] (2 : Int32) z30 z22 z26 p2 p3  h51 n0 Z54 ) hZ (hw _ (List.mem_of_getElem? (i := 5) rfl)) (hw _ (List.mem_of_getElem? (i := 4) rfl)) (by decide) (by decide)) (g := (mkF m 111 #[.val (.int p1), .val (.long p2), .second, .val (.int p3), .val (.int p4), .val (.int z22), .val (.int z24), .val (.int z26), .val (.int z28), .val (.int z30), .val (.int z32), .val (.ref b34), .unset] [(.int p3), (.long p2), (.int z26), (.int z22), (.int z30), (.int (2 : Int32)), (.int (2 : Int32)), (.ref b34)])) rfl (by rw [hml]; rfl) (argsL := [(.int (2 : Int32)), (.int z30), (.int z22), (.int z26), (.long p2), (.int p3)]) (rest := [(.int (2 : Int32)), (.ref b34)]) (lenOf pd_24 rfl) rfl (by show 2 * 0 + _ ≤ _; exact Nat.le_of_eq rfl) (hb hby at_111) (fun _ _ => ⟨rfl, e51, (by decide : 1 + 0 ≤ _), (by decide : 8 + 0 ≤ _)⟩)
  dsimp only [Pt.U, Pt.locs, Pt.cells, Pt.slots] at X57 l57 y57 z57 st57 hQ57
  rw [l57, y57, z57] at X57
  have X57 := X57.mono (cells' := 1) (slots' := 8) (by decide) (by decide)
  obtain ⟨z57v, rfl, hz57v, Nq57, eq57⟩ := hQ57
  have N57n := Fr.app NF51 Nq57
  have P58 : own_Pr p.tables e below S0 T57 (mkF m 114 #[.val (.int p1), .val (.long p2), .second, .val (.int p3), .val (.int p4), .val (.int z22), .val (.int z24), .val (.int z26), .val (.int z28), .val (.int z30), .val (.int z32), .val (.ref b34), .unset] [(.int z57v), (.int (2 : Int32)), (.ref b34)]) := fun t k => P56 t (st57 _ k)
  obtain ⟨cl59, Ar59, q59, S59, N59, H59, G59⟩ := id V51
  have hin59 : ¬ ((2 : Int32) < 0 ∨ cl59.slots.size ≤ ((2 : Int32)).toNatClampNeg) := inb_of S59 ⟨by decide, by decide⟩
  obtain ⟨T59, h59, X59, e59, W59, st59⟩ := stC X57 hx hZ eq57 Ar59 (j := (2 : Int32)) hin59 (g := (mkF m 114 #[.val (.int p1), .val (.long p2), .second, .val (.int p3), .val (.int p4), .val (.int z22), .val (.int z24), .val (.int z26), .val (.int z28), .val (.int z30), .val (.int z32), .val (.ref b34), .unset] [(.int z57v), (.int (2 : Int32)), (.ref b34)])) rfl rfl (hb hby at_114)
  have V59 : Arv Z h59 b34 k34 .char (8 : Int32) [(.int (nar .char z41v)), (.int (nar .char z49v)), (.int (nar .char z57v)), (.int (0 : Int32)), (.int (0 : Int32)), (.int (0 : Int32)), (.int (0 : Int32)), (.int (0 : Int32))] (.int (0 : Int32)) := Arv.set Ar59 q59 S59 N59 H59 G59 (fits_nar_char _) W59 2 rfl (Nat.le_of_ble_eq_true rfl)
  have F60 := F52.wr W59
  have F61 := F53.wr W59
  have Z62 : n0 ≤ h59.size := by rw [W59.size]; exact Z54
  have NF59 := Fr.snoc X59 N57n g_b34
  have P63 : own_Pr p.tables e below S0 T59 (mkF m 115 #[.val (.int p1), .val (.long p2), .second, .val (.int p3), .val (.int p4), .val (.int z22), .val (.int z24), .val (.int z26), .val (.int z28), .val (.int z30), .val (.int z32), .val (.ref b34), .unset] []) := fun t k => P58 t (st59 _ k)
  have P64 : own_Pr p.tables e below S0 T59 (mkF m 127 #[.val (.int p1), .val (.long p2), .second, .val (.int p3), .val (.int p4), .val (.int z22), .val (.int z24), .val (.int z26), .val (.int z28), .val (.int z30), .val (.int z32), .val (.ref b34), .unset] [(.int p3), (.long p2), (.int z26), (.int z22), (.int z30), (.int (3 : Int32)), (.int (3 : Int32)), (.ref b34)]) := fun t k => P63 t (by
    refine XS.aload X59.here hx rfl (hb hby at_115) rfl rfl ?_
    refine XS.iconst X59.here hx rfl (hb hby at_117) ?_
    refine XS.iconst X59.here hx rfl (hb hby at_118) ?_
    refine XS.iload X59.here hx rfl (hb hby at_119) rfl ?_
    refine XS.iload X59.here hx rfl (hb hby at_121) rfl ?_
    refine XS.iload X59.here hx rfl (hb hby at_123) rfl ?_
    refine XS.lloadN X59.here hx rfl (hb hby at_125) rfl ?_
    refine XS.iloadN X59.here hx rfl (hb hby at_126) rfl ?_
    exact k)
  obtain ⟨_, _, ⟨T65, L65, k65, n65⟩, -, X65, ⟨Lc65, hQ65, l65, y65, z65⟩, st65⟩ := Jvm.LawKit.callS X59 hx (y := (⟨"com/example/twince/twince/IdempotencyKeyParsePinLaw", "at", "(IIIIJI)C"⟩ : MethodName)) hown (mvT hZ (hw _ (List.mem_of_getElem? (i := 2) rfl))) (mvT hZ (hw _ (List.mem_of_getElem? (i := 3) rfl))) (mvT hZ (hw _ (List.mem_of_getElem? (i := 4) rfl))) (mvT hZ (hw _ (List.mem_of_getElem? (i := 5) rfl))) (by decide) (backOf (W := 2) (rm1 l Z a0 hw [] (3 : Int32) z30 z22 z26 p2 p3  h59 n0 Z62 ) hZ (hw _ (List.mem_of_getElem? (i := 5) rfl)) (hw _ (List.mem_of_getElem? (i := 4) rfl)) (by decide) (by decide)) (g := (mkF m 127 #[.val (.int p1), .val (.long p2), .second, .val (.int p3), .val (.int p4), .val (.int z22), .val (.int z24), .val (.int z26), .val (.int z28), .val (.int z30), .val (.int z32), .val (.ref b34), .unset] [(.int p3), (.long p2), (.int z26), (.int z22), (.int z30), (.int (3 : Int32)), (.int (3 : Int32)), (.ref b34)])) rfl (by rw [hml]; rfl) (argsL := [(.int (3 : Int32)), (.int z30), (.int z22), (.int z26), (.long p2), (.int p3)]) (rest := [(.int (3 : Int32)), (.ref b34)]) (lenOf pd_24 rfl) rfl (by show 2 * 0 + _ ≤ _; exact Nat.le_of_eq rfl) (hb hby at_127) (fun _ _ => ⟨rfl, e59, (by decide : 1 + 0 ≤ _), (by decide : 8 + 0 ≤ _)⟩)
  dsimp only [Pt.U, Pt.locs, Pt.cells, Pt.slots] at X65 l65 y65 z65 st65 hQ65
  rw [l65, y65, z65] at X65
  have X65 := X65.mono (cells' := 1) (slots' := 8) (by decide) (by decide)
  obtain ⟨z65v, rfl, hz65v, Nq65, eq65⟩ := hQ65
  have N65n := Fr.app NF59 Nq65
  have P66 : own_Pr p.tables e below S0 T65 (mkF m 130 #[.val (.int p1), .val (.long p2), .second, .val (.int p3), .val (.int p4), .val (.int z22), .val (.int z24), .val (.int z26), .val (.int z28), .val (.int z30), .val (.int z32), .val (.ref b34), .unset] [(.int z65v), (.int (3 : Int32)), (.ref b34)]) := fun t k => P64 t (st65 _ k)
  obtain ⟨cl67, Ar67, q67, S67, N67, H67, G67⟩ := id V59
  have hin67 : ¬ ((3 : Int32) < 0 ∨ cl67.slots.size ≤ ((3 : Int32)).toNatClampNeg) := inb_of S67 ⟨by decide, by decide⟩
  obtain ⟨T67, h67, X67, e67, W67, st67⟩ := stC X65 hx hZ eq65 Ar67 (j := (3 : Int32)) hin67 (g := (mkF m 130 #[.val (.int p1), .val (.long p2), .second, .val (.int p3), .val (.int p4), .val (.int z22), .val (.int z24), .val (.int z26), .val (.int z28), .val (.int z30), .val (.int z32), .val (.ref b34), .unset] [(.int z65v), (.int (3 : Int32)), (.ref b34)])) rfl rfl (hb hby at_130)
  have V67 : Arv Z h67 b34 k34 .char (8 : Int32) [(.int (nar .char z41v)), (.int (nar .char z49v)), (.int (nar .char z57v)), (.int (nar .char z65v)), (.int (0 : Int32)), (.int (0 : Int32)), (.int (0 : Int32)), (.int (0 : Int32))] (.int (0 : Int32)) := Arv.set Ar67 q67 S67 N67 H67 G67 (fits_nar_char _) W67 3 rfl (Nat.le_of_ble_eq_true rfl)
  have F68 := F60.wr W67
  have F69 := F61.wr W67
  have Z70 : n0 ≤ h67.size := by rw [W67.size]; exact Z62
  have NF67 := Fr.snoc X67 N65n g_b34
  have P71 : own_Pr p.tables e below S0 T67 (mkF m 131 #[.val (.int p1), .val (.long p2), .second, .val (.int p3), .val (.int p4), .val (.int z22), .val (.int z24), .val (.int z26), .val (.int z28), .val (.int z30), .val (.int z32), .val (.ref b34), .unset] []) := fun t k => P66 t (st67 _ k)
  have P72 : own_Pr p.tables e below S0 T67 (mkF m 143 #[.val (.int p1), .val (.long p2), .second, .val (.int p3), .val (.int p4), .val (.int z22), .val (.int z24), .val (.int z26), .val (.int z28), .val (.int z30), .val (.int z32), .val (.ref b34), .unset] [(.int p3), (.long p2), (.int z26), (.int z22), (.int z30), (.int (4 : Int32)), (.int (4 : Int32)), (.ref b34)]) := fun t k => P71 t (by
    refine XS.aload X67.here hx rfl (hb hby at_131) rfl rfl ?_
    refine XS.iconst X67.here hx rfl (hb hby at_133) ?_
    refine XS.iconst X67.here hx rfl (hb hby at_134) ?_
    refine XS.iload X67.here hx rfl (hb hby at_135) rfl ?_
    refine XS.iload X67.here hx rfl (hb hby at_137) rfl ?_
    refine XS.iload X67.here hx rfl (hb hby at_139) rfl ?_
    refine XS.lloadN X67.here hx rfl (hb hby at_141) rfl ?_
    refine XS.iloadN X67.here hx rfl (hb hby at_142) rfl ?_
    exact k)
  obtain ⟨_, _, ⟨T73, L73, k73, n73⟩, -, X73, ⟨Lc73, hQ73, l73, y73, z73⟩, st73⟩ := Jvm.LawKit.callS X67 hx (y := (⟨"com/example/twince/twince/IdempotencyKeyParsePinLaw", "at", "(IIIIJI)C"⟩ : MethodName)) hown (mvT hZ (hw _ (List.mem_of_getElem? (i := 2) rfl))) (mvT hZ (hw _ (List.mem_of_getElem? (i := 3) rfl))) (mvT hZ (hw _ (List.mem_of_getElem? (i := 4) rfl))) (mvT hZ (hw _ (List.mem_of_getElem? (i := 5) rfl))) (by decide) (backOf (W := 2) (rm1 l Z a0 hw [] (4 : Int32) z30 z22 z26 p2 p3  h67 n0 Z70 ) hZ (hw _ (List.mem_of_getElem? (i := 5) rfl)) (hw _ (List.mem_of_getElem? (i := 4) rfl)) (by decide) (by decide)) (g := (mkF m 143 #[.val (.int p1), .val (.long p2), .second, .val (.int p3), .val (.int p4), .val (.int z22), .val (.int z24), .val (.int z26), .val (.int z28), .val (.int z30), .val (.int z32), .val (.ref b34), .unset] [(.int p3), (.long p2), (.int z26), (.int z22), (.int z30), (.int (4 : Int32)), (.int (4 : Int32)), (.ref b34)])) rfl (by rw [hml]; rfl) (argsL := [(.int (4 : Int32)), (.int z30), (.int z22), (.int z26), (.long p2), (.int p3)]) (rest := [(.int (4 : Int32)), (.ref b34)]) (lenOf pd_24 rfl) rfl (by show 2 * 0 + _ ≤ _; exact Nat.le_of_eq rfl) (hb hby at_143) (fun _ _ => ⟨rfl, e67, (by decide : 1 + 0 ≤ _), (by decide : 8 + 0 ≤ _)⟩)
  dsimp only [Pt.U, Pt.locs, Pt.cells, Pt.slots] at X73 l73 y73 z73 st73 hQ73
  rw [l73, y73, z73] at X73
  have X73 := X73.mono (cells' := 1) (slots' := 8) (by decide) (by decide)
  obtain ⟨z73v, rfl, hz73v, Nq73, eq73⟩ := hQ73
  have N73n := Fr.app NF67 Nq73
  have P74 : own_Pr p.tables e below S0 T73 (mkF m 146 #[.val (.int p1), .val (.long p2), .second, .val (.int p3), .val (.int p4), .val (.int z22), .val (.int z24), .val (.int z26), .val (.int z28), .val (.int z30), .val (.int z32), .val (.ref b34), .unset] [(.int z73v), (.int (4 : Int32)), (.ref b34)]) := fun t k => P72 t (st73 _ k)
  obtain ⟨cl75, Ar75, q75, S75, N75, H75, G75⟩ := id V67
  have hin75 : ¬ ((4 : Int32) < 0 ∨ cl75.slots.size ≤ ((4 : Int32)).toNatClampNeg) := inb_of S75 ⟨by decide, by decide⟩
  obtain ⟨T75, h75, X75, e75, W75, st75⟩ := stC X73 hx hZ eq73 Ar75 (j := (4 : Int32)) hin75 (g := (mkF m 146 #[.val (.int p1), .val (.long p2), .second, .val (.int p3), .val (.int p4), .val (.int z22), .val (.int z24), .val (.int z26), .val (.int z28), .val (.int z30), .val (.int z32), .val (.ref b34), .unset] [(.int z73v), (.int (4 : Int32)), (.ref b34)])) rfl rfl (hb hby at_146)
  have V75 : Arv Z h75 b34 k34 .char (8 : Int32) [(.int (nar .char z41v)), (.int (nar .char z49v)), (.int (nar .char z57v)), (.int (nar .char z65v)), (.int (nar .char z73v)), (.int (0 : Int32)), (.int (0 : Int32)), (.int (0 : Int32))] (.int (0 : Int32)) := Arv.set Ar75 q75 S75 N75 H75 G75 (fits_nar_char _) W75 4 rfl (Nat.le_of_ble_eq_true rfl)
  have F76 := F68.wr W75
  have F77 := F69.wr W75
  have Z78 : n0 ≤ h75.size := by rw [W75.size]; exact Z70
  have NF75 := Fr.snoc X75 N73n g_b34
  have P79 : own_Pr p.tables e below S0 T75 (mkF m 147 #[.val (.int p1), .val (.long p2), .second, .val (.int p3), .val (.int p4), .val (.int z22), .val (.int z24), .val (.int z26), .val (.int z28), .val (.int z30), .val (.int z32), .val (.ref b34), .unset] []) := fun t k => P74 t (st75 _ k)
  have P80 : own_Pr p.tables e below S0 T75 (mkF m 159 #[.val (.int p1), .val (.long p2), .second, .val (.int p3), .val (.int p4), .val (.int z22), .val (.int z24), .val (.int z26), .val (.int z28), .val (.int z30), .val (.int z32), .val (.ref b34), .unset] [(.int p3), (.long p2), (.int z26), (.int z22), (.int z30), (.int (5 : Int32)), (.int (5 : Int32)), (.ref b34)]) := fun t k => P79 t (by
    refine XS.aload X75.here hx rfl (hb hby at_147) rfl rfl ?_
    refine XS.iconst X75.here hx rfl (hb hby at_149) ?_
    refine XS.iconst X75.here hx rfl (hb hby at_150) ?_
    refine XS.iload X75.here hx rfl (hb hby at_151) rfl ?_
    refine XS.iload X75.here hx rfl (hb hby at_153) rfl ?_
    refine XS.iload X75.here hx rfl (hb hby at_155) rfl ?_
    refine XS.lloadN X75.here hx rfl (hb hby at_157) rfl ?_
    refine XS.iloadN X75.here hx rfl (hb hby at_158) rfl ?_
    exact k)
  obtain ⟨_, _, ⟨T81, L81, k81, n81⟩, -, X81, ⟨Lc81, hQ81, l81, y81, z81⟩, st81⟩ := Jvm.LawKit.callS X75 hx (y := (⟨"com/example/twince/twince/IdempotencyKeyParsePinLaw", "at", "(IIIIJI)C"⟩ : MethodName)) hown (mvT hZ (hw _ (List.mem_of_getElem? (i := 2) rfl))) (mvT hZ (hw _ (List.mem_of_getElem? (i := 3) rfl))) (mvT hZ (hw _ (List.mem_of_getElem? (i := 4) rfl))) (mvT hZ (hw _ (List.mem_of_getElem? (i := 5) rfl))) (by decide) (backOf (W := 2) (rm1 l Z a0 hw [] (5 : Int32) z30 z22 z26 p2 p3  h75 n0 Z78 ) hZ (hw _ (List.mem_of_getElem? (i := 5) rfl)) (hw _ (List.mem_of_getElem? (i := 4) rfl)) (by decide) (by decide)) (g := (mkF m 159 #[.val (.int p1), .val (.long p2), .second, .val (.int p3), .val (.int p4), .val (.int z22), .val (.int z24), .val (.int z26), .val (.int z28), .val (.int z30), .val (.int z32), .val (.ref b34), .unset] [(.int p3), (.long p2), (.int z26), (.int z22), (.int z30), (.int (5 : Int32)), (.int (5 : Int32)), (.ref b34)])) rfl (by rw [hml]; rfl) (argsL := [(.int (5 : Int32)), (.int z30), (.int z22), (.int z26), (.long p2), (.int p3)]) (rest := [(.int (5 : Int32)), (.ref b34)]) (lenOf pd_24 rfl) rfl (by show 2 * 0 + _ ≤ _; exact Nat.le_of_eq rfl) (hb hby at_159) (fun _ _ => ⟨rfl, e75, (by decide : 1 + 0 ≤ _), (by decide : 8 + 0 ≤ _)⟩)
  dsimp only [Pt.U, Pt.locs, Pt.cells, Pt.slots] at X81 l81 y81 z81 st81 hQ81
  rw [l81, y81, z81] at X81
  have X81 := X81.mono (cells' := 1) (slots' := 8) (by decide) (by decide)
  obtain ⟨z81v, rfl, hz81v, Nq81, eq81⟩ := hQ81
  have N81n := Fr.app NF75 Nq81
  have P82 : own_Pr p.tables e below S0 T81 (mkF m 162 #[.val (.int p1), .val (.long p2), .second, .val (.int p3), .val (.int p4), .val (.int z22), .val (.int z24), .val (.int z26), .val (.int z28), .val (.int z30), .val (.int z32), .val (.ref b34), .unset] [(.int z81v), (.int (5 : Int32)), (.ref b34)]) := fun t k => P80 t (st81 _ k)
  obtain ⟨cl83, Ar83, q83, S83, N83, H83, G83⟩ := id V75
  have hin83 : ¬ ((5 : Int32) < 0 ∨ cl83.slots.size ≤ ((5 : Int32)).toNatClampNeg) := inb_of S83 ⟨by decide, by decide⟩
  obtain ⟨T83, h83, X83, e83, W83, st83⟩ := stC X81 hx hZ eq81 Ar83 (j := (5 : Int32)) hin83 (g := (mkF m 162 #[.val (.int p1), .val (.long p2), .second, .val (.int p3), .val (.int p4), .val (.int z22), .val (.int z24), .val (.int z26), .val (.int z28), .val (.int z30), .val (.int z32), .val (.ref b34), .unset] [(.int z81v), (.int (5 : Int32)), (.ref b34)])) rfl rfl (hb hby at_162)
  have V83 : Arv Z h83 b34 k34 .char (8 : Int32) [(.int (nar .char z41v)), (.int (nar .char z49v)), (.int (nar .char z57v)), (.int (nar .char z65v)), (.int (nar .char z73v)), (.int (nar .char z81v)), (.int (0 : Int32)), (.int (0 : Int32))] (.int (0 : Int32)) := Arv.set Ar83 q83 S83 N83 H83 G83 (fits_nar_char _) W83 5 rfl (Nat.le_of_ble_eq_true rfl)
  have F84 := F76.wr W83
  have F85 := F77.wr W83
  have Z86 : n0 ≤ h83.size := by rw [W83.size]; exact Z78
  have NF83 := Fr.snoc X83 N81n g_b34
  have P87 : own_Pr p.tables e below S0 T83 (mkF m 163 #[.val (.int p1), .val (.long p2), .second, .val (.int p3), .val (.int p4), .val (.int z22), .val (.int z24), .val (.int z26), .val (.int z28), .val (.int z30), .val (.int z32), .val (.ref b34), .unset] []) := fun t k => P82 t (st83 _ k)
  have P88 : own_Pr p.tables e below S0 T83 (mkF m 177 #[.val (.int p1), .val (.long p2), .second, .val (.int p3), .val (.int p4), .val (.int z22), .val (.int z24), .val (.int z26), .val (.int z28), .val (.int z30), .val (.int z32), .val (.ref b34), .unset] [(.int p3), (.long p2), (.int z26), (.int z22), (.int z30), (.int (6 : Int32)), (.int (6 : Int32)), (.ref b34)]) := fun t k => P87 t (by
    refine XS.aload X83.here hx rfl (hb hby at_163) rfl rfl ?_
    refine XS.bipush X83.here hx rfl (hb hby at_165) ?_
    refine XS.bipush X83.here hx rfl (hb hby at_167) ?_
    refine XS.iload X83.here hx rfl (hb hby at_169) rfl ?_
    refine XS.iload X83.here hx rfl (hb hby at_171) rfl ?_
    refine XS.iload X83.here hx rfl (hb hby at_173) rfl ?_
    refine XS.lloadN X83.here hx rfl (hb hby at_175) rfl ?_
    refine XS.iloadN X83.here hx rfl (hb hby at_176) rfl ?_
    exact k)
  obtain ⟨_, _, ⟨T89, L89, k89, n89⟩, -, X89, ⟨Lc89, hQ89, l89, y89, z89⟩, st89⟩ := Jvm.LawKit.callS X83 hx (y := (⟨"com/example/twince/twince/IdempotencyKeyParsePinLaw", "at", "(IIIIJI)C"⟩ : MethodName)) hown (mvT hZ (hw _ (List.mem_of_getElem? (i := 2) rfl))) (mvT hZ (hw _ (List.mem_of_getElem? (i := 3) rfl))) (mvT hZ (hw _ (List.mem_of_getElem? (i := 4) rfl))) (mvT hZ (hw _ (List.mem_of_getElem? (i := 5) rfl))) (by decide) (backOf (W := 2) (rm1 l Z a0 hw [] (6 : Int32) z30 z22 z26 p2 p3  h83 n0 Z86 ) hZ (hw _ (List.mem_of_getElem? (i := 5) rfl)) (hw _ (List.mem_of_getElem? (i := 4) rfl)) (by decide) (by decide)) (g := (mkF m 177 #[.val (.int p1), .val (.long p2), .second, .val (.int p3), .val (.int p4), .val (.int z22), .val (.int z24), .val (.int z26), .val (.int z28), .val (.int z30), .val (.int z32), .val (.ref b34), .unset] [(.int p3), (.long p2), (.int z26), (.int z22), (.int z30), (.int (6 : Int32)), (.int (6 : Int32)), (.ref b34)])) rfl (by rw [hml]; rfl) (argsL := [(.int (6 : Int32)), (.int z30), (.int z22), (.int z26), (.long p2), (.int p3)]) (rest := [(.int (6 : Int32)), (.ref b34)]) (lenOf pd_24 rfl) rfl (by show 2 * 0 + _ ≤ _; exact Nat.le_of_eq rfl) (hb hby at_177) (fun _ _ => ⟨rfl, e83, (by decide : 1 + 0 ≤ _), (by decide : 8 + 0 ≤ _)⟩)
  dsimp only [Pt.U, Pt.locs, Pt.cells, Pt.slots] at X89 l89 y89 z89 st89 hQ89
  rw [l89, y89, z89] at X89
  have X89 := X89.mono (cells' := 1) (slots' := 8) (by decide) (by decide)
  obtain ⟨z89v, rfl, hz89v, Nq89, eq89⟩ := hQ89
  have N89n := Fr.app NF83 Nq89
  have P90 : own_Pr p.tables e below S0 T89 (mkF m 180 #[.val (.int p1), .val (.long p2), .second, .val (.int p3), .val (.int p4), .val (.int z22), .val (.int z24), .val (.int z26), .val (.int z28), .val (.int z30), .val (.int z32), .val (.ref b34), .unset] [(.int z89v), (.int (6 : Int32)), (.ref b34)]) := fun t k => P88 t (st89 _ k)
  obtain ⟨cl91, Ar91, q91, S91, N91, H91, G91⟩ := id V83
  have hin91 : ¬ ((6 : Int32) < 0 ∨ cl91.slots.size ≤ ((6 : Int32)).toNatClampNeg) := inb_of S91 ⟨by decide, by decide⟩
  obtain ⟨T91, h91, X91, e91, W91, st91⟩ := stC X89 hx hZ eq89 Ar91 (j := (6 : Int32)) hin91 (g := (mkF m 180 #[.val (.int p1), .val (.long p2), .second, .val (.int p3), .val (.int p4), .val (.int z22), .val (.int z24), .val (.int z26), .val (.int z28), .val (.int z30), .val (.int z32), .val (.ref b34), .unset] [(.int z89v), (.int (6 : Int32)), (.ref b34)])) rfl rfl (hb hby at_180)
  have V91 : Arv Z h91 b34 k34 .char (8 : Int32) [(.int (nar .char z41v)), (.int (nar .char z49v)), (.int (nar .char z57v)), (.int (nar .char z65v)), (.int (nar .char z73v)), (.int (nar .char z81v)), (.int (nar .char z89v)), (.int (0 : Int32))] (.int (0 : Int32)) := Arv.set Ar91 q91 S91 N91 H91 G91 (fits_nar_char _) W91 6 rfl (Nat.le_of_ble_eq_true rfl)
  have F92 := F84.wr W91
  have F93 := F85.wr W91
  have Z94 : n0 ≤ h91.size := by rw [W91.size]; exact Z86
  have NF91 := Fr.snoc X91 N89n g_b34
  have P95 : own_Pr p.tables e below S0 T91 (mkF m 181 #[.val (.int p1), .val (.long p2), .second, .val (.int p3), .val (.int p4), .val (.int z22), .val (.int z24), .val (.int z26), .val (.int z28), .val (.int z30), .val (.int z32), .val (.ref b34), .unset] []) := fun t k => P90 t (st91 _ k)
  have P96 : own_Pr p.tables e below S0 T91 (mkF m 195 #[.val (.int p1), .val (.long p2), .second, .val (.int p3), .val (.int p4), .val (.int z22), .val (.int z24), .val (.int z26), .val (.int z28), .val (.int z30), .val (.int z32), .val (.ref b34), .unset] [(.int p3), (.long p2), (.int z26), (.int z22), (.int z30), (.int (7 : Int32)), (.int (7 : Int32)), (.ref b34)]) := fun t k => P95 t (by
    refine XS.aload X91.here hx rfl (hb hby at_181) rfl rfl ?_
    refine XS.bipush X91.here hx rfl (hb hby at_183) ?_
    refine XS.bipush X91.here hx rfl (hb hby at_185) ?_
    refine XS.iload X91.here hx rfl (hb hby at_187) rfl ?_
    refine XS.iload X91.here hx rfl (hb hby at_189) rfl ?_
    refine XS.iload X91.here hx rfl (hb hby at_191) rfl ?_
    refine XS.lloadN X91.here hx rfl (hb hby at_193) rfl ?_
    refine XS.iloadN X91.here hx rfl (hb hby at_194) rfl ?_
    exact k)
  obtain ⟨_, _, ⟨T97, L97, k97, n97⟩, -, X97, ⟨Lc97, hQ97, l97, y97, z97⟩, st97⟩ := Jvm.LawKit.callS X91 hx (y := (⟨"com/example/twince/twince/IdempotencyKeyParsePinLaw", "at", "(IIIIJI)C"⟩ : MethodName)) hown (mvT hZ (hw _ (List.mem_of_getElem? (i := 2) rfl))) (mvT hZ (hw _ (List.mem_of_getElem? (i := 3) rfl))) (mvT hZ (hw _ (List.mem_of_getElem? (i := 4) rfl))) (mvT hZ (hw _ (List.mem_of_getElem? (i := 5) rfl))) (by decide) (backOf (W := 2) (rm1 l Z a0 hw [] (7 : Int32) z30 z22 z26 p2 p3  h91 n0 Z94 ) hZ (hw _ (List.mem_of_getElem? (i := 5) rfl)) (hw _ (List.mem_of_getElem? (i := 4) rfl)) (by decide) (by decide)) (g := (mkF m 195 #[.val (.int p1), .val (.long p2), .second, .val (.int p3), .val (.int p4), .val (.int z22), .val (.int z24), .val (.int z26), .val (.int z28), .val (.int z30), .val (.int z32), .val (.ref b34), .unset] [(.int p3), (.long p2), (.int z26), (.int z22), (.int z30), (.int (7 : Int32)), (.int (7 : Int32)), (.ref b34)])) rfl (by rw [hml]; rfl) (argsL := [(.int (7 : Int32)), (.int z30), (.int z22), (.int z26), (.long p2), (.int p3)]) (rest := [(.int (7 : Int32)), (.ref b34)]) (lenOf pd_24 rfl) rfl (by show 2 * 0 + _ ≤ _; exact Nat.le_of_eq rfl) (hb hby at_195) (fun _ _ => ⟨rfl, e91, (by decide : 1 + 0 ≤ _), (by decide : 8 + 0 ≤ _)⟩)
  dsimp only [Pt.U, Pt.locs, Pt.cells, Pt.slots] at X97 l97 y97 z97 st97 hQ97
  rw [l97, y97, z97] at X97
  have X97 := X97.mono (cells' := 1) (slots' := 8) (by decide) (by decide)
  obtain ⟨z97v, rfl, hz97v, Nq97, eq97⟩ := hQ97
  have N97n := Fr.app NF91 Nq97
  have P98 : own_Pr p.tables e below S0 T97 (mkF m 198 #[.val (.int p1), .val (.long p2), .second, .val (.int p3), .val (.int p4), .val (.int z22), .val (.int z24), .val (.int z26), .val (.int z28), .val (.int z30), .val (.int z32), .val (.ref b34), .unset] [(.int z97v), (.int (7 : Int32)), (.ref b34)]) := fun t k => P96 t (st97 _ k)
  obtain ⟨cl99, Ar99, q99, S99, N99, H99, G99⟩ := id V91
  have hin99 : ¬ ((7 : Int32) < 0 ∨ cl99.slots.size ≤ ((7 : Int32)).toNatClampNeg) := inb_of S99 ⟨by decide, by decide⟩
  obtain ⟨T99, h99, X99, e99, W99, st99⟩ := stC X97 hx hZ eq97 Ar99 (j := (7 : Int32)) hin99 (g := (mkF m 198 #[.val (.int p1), .val (.long p2), .second, .val (.int p3), .val (.int p4), .val (.int z22), .val (.int z24), .val (.int z26), .val (.int z28), .val (.int z30), .val (.int z32), .val (.ref b34), .unset] [(.int z97v), (.int (7 : Int32)), (.ref b34)])) rfl rfl (hb hby at_198)
  have V99 : Arv Z h99 b34 k34 .char (8 : Int32) [(.int (nar .char z41v)), (.int (nar .char z49v)), (.int (nar .char z57v)), (.int (nar .char z65v)), (.int (nar .char z73v)), (.int (nar .char z81v)), (.int (nar .char z89v)), (.int (nar .char z97v))] (.int (0 : Int32)) := Arv.set Ar99 q99 S99 N99 H99 G99 (fits_nar_char _) W99 7 rfl (Nat.le_of_ble_eq_true rfl)
  have F100 := F92.wr W99
  have F101 := F93.wr W99
  have Z102 : n0 ≤ h99.size := by rw [W99.size]; exact Z94
  have NF99 := Fr.snoc X99 N97n g_b34
  have P103 : own_Pr p.tables e below S0 T99 (mkF m 199 #[.val (.int p1), .val (.long p2), .second, .val (.int p3), .val (.int p4), .val (.int z22), .val (.int z24), .val (.int z26), .val (.int z28), .val (.int z30), .val (.int z32), .val (.ref b34), .unset] []) := fun t k => P98 t (st99 _ k)
  obtain ⟨B, Q, K, hQ, hK, hsum, eb, eq, ek, hm1, hm2⟩ := own_nums hz22 hz24 hz26 hz28 hz30 hz32
  have hu0 : z41v = own_f1 (Int32.ofNat 0) (Int32.ofNat B) (Int32.ofNat Q) (Int32.ofNat K) p2 p3 := by rw [← eb, ← eq, ← ek]; exact hz41v
  have cu0 : ¬ z41v < 0 ∧ ¬ 255 < z41v := by rw [hu0]; exact (own_at_ok hQ hK hsum (by decide)).2.2.2
  have hu1 : z49v = own_f1 (Int32.ofNat 1) (Int32.ofNat B) (Int32.ofNat Q) (Int32.ofNat K) p2 p3 := by rw [← eb, ← eq, ← ek]; exact hz49v
  have cu1 : ¬ z49v < 0 ∧ ¬ 255 < z49v := by rw [hu1]; exact (own_at_ok hQ hK hsum (by decide)).2.2.2
  have hu2 : z57v = own_f1 (Int32.ofNat 2) (Int32.ofNat B) (Int32.ofNat Q) (Int32.ofNat K) p2 p3 := by rw [← eb, ← eq, ← ek]; exact hz57v
  have cu2 : ¬ z57v < 0 ∧ ¬ 255 < z57v := by rw [hu2]; exact (own_at_ok hQ hK hsum (by decide)).2.2.2
  have hu3 : z65v = own_f1 (Int32.ofNat 3) (Int32.ofNat B) (Int32.ofNat Q) (Int32.ofNat K) p2 p3 := by rw [← eb, ← eq, ← ek]; exact hz65v
  have cu3 : ¬ z65v < 0 ∧ ¬ 255 < z65v := by rw [hu3]; exact (own_at_ok hQ hK hsum (by decide)).2.2.2
  have hu4 : z73v = own_f1 (Int32.ofNat 4) (Int32.ofNat B) (Int32.ofNat Q) (Int32.ofNat K) p2 p3 := by rw [← eb, ← eq, ← ek]; exact hz73v
  have cu4 : ¬ z73v < 0 ∧ ¬ 255 < z73v := by rw [hu4]; exact (own_at_ok hQ hK hsum (by decide)).2.2.2
  have hu5 : z81v = own_f1 (Int32.ofNat 5) (Int32.ofNat B) (Int32.ofNat Q) (Int32.ofNat K) p2 p3 := by rw [← eb, ← eq, ← ek]; exact hz81v
  have cu5 : ¬ z81v < 0 ∧ ¬ 255 < z81v := by rw [hu5]; exact (own_at_ok hQ hK hsum (by decide)).2.2.2
  have hu6 : z89v = own_f1 (Int32.ofNat 6) (Int32.ofNat B) (Int32.ofNat Q) (Int32.ofNat K) p2 p3 := by rw [← eb, ← eq, ← ek]; exact hz89v
  have cu6 : ¬ z89v < 0 ∧ ¬ 255 < z89v := by rw [hu6]; exact (own_at_ok hQ hK hsum (by decide)).2.2.2
  have hu7 : z97v = own_f1 (Int32.ofNat 7) (Int32.ofNat B) (Int32.ofNat Q) (Int32.ofNat K) p2 p3 := by rw [← eb, ← eq, ← ek]; exact hz97v
  have cu7 : ¬ z97v < 0 ∧ ¬ 255 < z97v := by rw [hu7]; exact (own_at_ok hQ hK hsum (by decide)).2.2.2
  obtain ⟨xs, exs⟩ : ∃ ys : List Int32, ys = [nar .byte ((nar .char z41v).toInt8.toInt32), nar .byte ((nar .char z49v).toInt8.toInt32), nar .byte ((nar .char z57v).toInt8.toInt32), nar .byte ((nar .char z65v).toInt8.toInt32), nar .byte ((nar .char z73v).toInt8.toInt32), nar .byte ((nar .char z81v).toInt8.toInt32), nar .byte ((nar .char z89v).toInt8.toInt32), nar .byte ((nar .char z97v).toInt8.toInt32)] := ⟨_, rfl⟩
  have hx8 : ∀ i, i < 8 → xs.getD i 0 &&& 255 = own_f1 (Int32.ofNat i) (Int32.ofNat B) (Int32.ofNat Q) (Int32.ofNat K) p2 p3 := fun i hi => by
    subst exs
    match i, hi with
    | 0, _ => exact (own_chr cu0.1 cu0.2).1.trans hu0
    | 1, _ => exact (own_chr cu1.1 cu1.2).1.trans hu1
    | 2, _ => exact (own_chr cu2.1 cu2.2).1.trans hu2
    | 3, _ => exact (own_chr cu3.1 cu3.2).1.trans hu3
    | 4, _ => exact (own_chr cu4.1 cu4.2).1.trans hu4
    | 5, _ => exact (own_chr cu5.1 cu5.2).1.trans hu5
    | 6, _ => exact (own_chr cu6.1 cu6.2).1.trans hu6
    | 7, _ => exact (own_chr cu7.1 cu7.2).1.trans hu7
  have HALL := own_all hQ hK hsum hm1 hm2 hx8
  obtain ⟨T104, h104, X104, e104, E104, A104, D104, -, st104⟩ := newO X99 hx hZ hown (hw _ (List.mem_of_getElem? (i := 13) rfl)) (hw _ (List.mem_of_getElem? (i := 14) rfl)) (hw _ (List.mem_of_getElem? (i := 15) rfl)) e99 (g := (mkF m 199 #[.val (.int p1), .val (.long p2), .second, .val (.int p3), .val (.int p4), .val (.int z22), .val (.int z24), .val (.int z26), .val (.int z28), .val (.int z30), .val (.int z32), .val (.ref b34), .unset] [])) rfl (hb hby at_199) (by decide) (by decide)
  obtain ⟨b104, g104⟩ : ∃ z, z = h99.size := ⟨_, rfl⟩
  rw [← g104] at A104 D104 st104
  have g_b104 : n0 ≤ b104 := Nat.le_trans Z102 (Nat.le_of_eq g104.symm)
  have ne_b34_b104 : b34 ≠ b104 := Nat.ne_of_lt (Nat.lt_of_lt_of_le V99.lt (Nat.le_of_eq g104.symm))
  have F105 := F100.ext E104
  have F106 := F101.ext E104
  have F107 := V99.ext E104
  have Z108 : n0 ≤ h104.size := Nat.le_trans Z102 E104.1
  have F109 : Fld Z h104 b104 "java/lang/String" "coder" "B" (.int (0 : Int32)) := D104 (Or.inr (hw _ (List.mem_of_getElem? (i := 39) rfl))) (ty := .byte) (by decide)
  have F110 : Fld Z h104 b104 "java/lang/String" "value" "[B" .null := D104 (Or.inr (hw _ (List.mem_of_getElem? (i := 41) rfl))) (ty := (.array .byte)) (by decide)
  have P111 : own_Pr p.tables e below S0 T104 (mkF m 202 #[.val (.int p1), .val (.long p2), .second, .val (.int p3), .val (.int p4), .val (.int z22), .val (.int z24), .val (.int z26), .val (.int z28), .val (.int z30), .val (.int z32), .val (.ref b34), .unset] [(.ref b104)]) := fun t k => P103 t (st104 _ k)
  have P112 : own_Pr p.tables e below S0 T104 (mkF m 205 #[.val (.int p1), .val (.long p2), .second, .val (.int p3), .val (.int p4), .val (.int z22), .val (.int z24), .val (.int z26), .val (.int z28), .val (.int z30), .val (.int z32), .val (.ref b34), .unset] [(.ref b34), (.ref b104), (.ref b104)]) := fun t k => P111 t (by
    refine XS.dup X104.here hx rfl (hb hby at_202) rfl rfl ?_
    refine XS.aload X104.here hx rfl (hb hby at_203) rfl rfl ?_
    exact k)
  obtain ⟨_, _, ⟨T113, L113, k113, n113⟩, -, X113, ⟨Lc113, hQ113, l113, y113, z113⟩, st113⟩ := X104.specialBack hx (y := (⟨"java/lang/String", "<init>", "([C)V"⟩ : MethodName)) rfl hown (mvT hZ (hw _ (List.mem_of_getElem? (i := 16) rfl))) (mvT hZ (hw _ (List.mem_of_getElem? (i := 17) rfl))) (mvT hZ (hw _ (List.mem_of_getElem? (i := 18) rfl))) (by decide) (backOf (W := 1) (rm4_8 l Z a0 hw [] b104 b34 k34 cs (nar .char z41v) (nar .char z49v) (nar .char z57v) (nar .char z65v) (nar .char z73v) (nar .char z81v) (nar .char z89v) (nar .char z97v) h104 n0 Z108 A104 F109 F110 g_b104 F107 F105 hcs (own_chr cu0.1 cu0.2).2 (own_chr cu1.1 cu1.2).2 (own_chr cu2.1 cu2.2).2 (own_chr cu3.1 cu3.2).2 (own_chr cu4.1 cu4.2).2 (own_chr cu5.1 cu5.2).2 (own_chr cu6.1 cu6.2).2 (own_chr cu7.1 cu7.2).2) hZ (hw _ (List.mem_of_getElem? (i := 18) rfl)) (hw _ (List.mem_of_getElem? (i := 15) rfl)) (by decide) (by decide)) (g := (mkF m 205 #[.val (.int p1), .val (.long p2), .second, .val (.int p3), .val (.int p4), .val (.int z22), .val (.int z24), .val (.int z26), .val (.int z28), .val (.int z30), .val (.int z32), .val (.ref b34), .unset] [(.ref b34), (.ref b104), (.ref b104)])) rfl (by rw [hml]; rfl) (Steps.refl _) (a := b104) (argsL := [(.ref b34)]) (rest := [(.ref b104)]) (lenOf pd_25 rfl) rfl (by show 2 * 0 + _ ≤ _; exact Nat.le_of_eq rfl) (hb hby at_205) (fun _ _ => ⟨rfl, e104, (by decide : 2 + 1 ≤ _), (by decide : 12 + 8 ≤ _)⟩)
  dsimp only [Pt.U, Pt.locs, Pt.cells, Pt.slots] at X113 l113 y113 z113 st113 hQ113
  rw [l113, y113, z113] at X113
  have X113 := X113.mono (cells' := 3) (slots' := 20) (by decide) (by decide)
  obtain ⟨rfl, Nq113, Kq113, vb113, kb113, -, Eq113, Cq113, Wq113, Aq113⟩ := hQ113
  have N113n := Fr.app NF99 Nq113
  have F114 := own_sta_keep F105 Kq113 A104
  have F115 := own_sta_keep F106 Kq113 A104
  have Z120 := Nat.le_trans Z108 Kq113.1
  have Sq113 : own_Sc Z T113.heap b104 8 xs := ⟨vb113, kb113, Eq113, Cq113, Wq113, by rw [exs]; exact Aq113⟩
  have P121 : own_Pr p.tables e below S0 T113 (mkF m 208 #[.val (.int p1), .val (.long p2), .second, .val (.int p3), .val (.int p4), .val (.int z22), .val (.int z24), .val (.int z26), .val (.int z28), .val (.int z30), .val (.int z32), .val (.ref b34), .unset] [(.ref b104)]) := fun t k => P112 t (st113.trans k)
  have P122 : own_Pr p.tables e below S0 T113 (mkF m 210 #[.val (.int p1), .val (.long p2), .second, .val (.int p3), .val (.int p4), .val (.int z22), .val (.int z24), .val (.int z26), .val (.int z28), .val (.int z30), .val (.int z32), .val (.ref b34), .unset] [(.int z32), (.ref b104)]) := fun t k => P121 t (by
    refine XS.iload X113.here hx rfl (hb hby at_208) rfl ?_
    exact k)
  rcases (by omega : Q = 0 ∨ Q = 1) with hQ0 | hQ1
  · subst hQ0
    simp only [Nat.mul_zero, Nat.add_zero] at HALL hsum
    obtain ⟨h1, h2, h3, h4, h5, h6, h7, h8, h9, h10⟩ := own_pu hsum hK hm1 hm2
    obtain ⟨_, _, ⟨T123, L123, k123, n123⟩, -, X123, ⟨Lc123, hQ123, l123, y123, z123⟩, st123⟩ := Jvm.LawKit.callS X113 hx (y := (⟨"com/example/twince/twince/IdempotencyKey", "parse", "(Ljava/lang/String;I)Lcom/example/twince/twince/IdempotencyKey;"⟩ : MethodName)) hown (mvT hZ (hw _ (List.mem_of_getElem? (i := 42) rfl))) (mvT hZ (hw _ (List.mem_of_getElem? (i := 43) rfl))) (mvT hZ (hw _ (List.mem_of_getElem? (i := 44) rfl))) (mvT hZ (hw _ (List.mem_of_getElem? (i := 45) rfl))) (by decide) (backOf (W := 0) (rm10_u l Z a0 hw [] b104 z32 8 xs cs fm (Int32.ofNat B) (Int32.ofNat (B + K)) (Int32.ofNat (B + K)) T113.heap n0 Z120 Sq113 F114 hcs F115 hr_fm h1 h2 HALL.1 HALL.2.1 h3 h4 h5 (HALL.2.2.2.1 (by trivial)) (HALL.2.2.1 _ _ _) h6 h7 h8 h3.1 h4 h9 (by decide)) hZ (hw _ (List.mem_of_getElem? (i := 45) rfl)) (hw _ (List.mem_of_getElem? (i := 44) rfl)) (by decide) (by decide)) (g := (mkF m 210 #[.val (.int p1), .val (.long p2), .second, .val (.int p3), .val (.int p4), .val (.int z22), .val (.int z24), .val (.int z26), .val (.int z28), .val (.int z30), .val (.int z32), .val (.ref b34), .unset] [(.int z32), (.ref b104)])) rfl (by rw [hml]; rfl) (argsL := [(.ref b104), (.int z32)]) (rest := []) (lenOf pd_26 rfl) rfl (by show 2 * 0 + _ ≤ _; exact Nat.le_of_eq rfl) (hb hby at_210) (fun _ _ => ⟨rfl, rfl, (by decide : 3 + 3 ≤ _), (by decide : 20 + 13 ≤ _)⟩)
    dsimp only [Pt.U, Pt.locs, Pt.cells, Pt.slots] at X123 l123 y123 z123 st123 hQ123
    rw [l123, y123, z123] at X123
    have X123 := X123.mono (cells' := 6) (slots' := 33) (by decide) (by decide)
    obtain ⟨o123, s123, ys123, rfl, Nq123, Kq123, Eq123, Wq123, Sq123, hy123⟩ := hQ123
    have N123n := Fr.app N113n Nq123
    have F124 := own_sta_keep0 F114 Kq123
    have F125 := own_sta_keep0 F115 Kq123
    have Z126 := Nat.le_trans Z120 Kq123.1
    rw [h10, ← ek] at Sq123
    rw [h10] at hy123
    have HSAME := HALL.2.2.2.2.2 _ hy123
    have Es123 := Sq123.exa
    have P127 : own_Pr p.tables e below S0 T123 (mkF m 213 #[.val (.int p1), .val (.long p2), .second, .val (.int p3), .val (.int p4), .val (.int z22), .val (.int z24), .val (.int z26), .val (.int z28), .val (.int z30), .val (.int z32), .val (.ref b34), .unset] [(.ref o123)]) := fun t k => P122 t (st123 _ k)
    obtain ⟨cq128, kq128, q128a, q128b, q128c⟩ := isOf hZ rfl Eq123
    obtain ⟨_, _, ⟨T128, L128, k128, n128⟩, -, X128, ⟨Lc128, hQ128, l128, y128, z128⟩, st128⟩ := X123.virtualBack hx (y := (⟨"com/example/twince/twince/IdempotencyKey", "value", "()Ljava/lang/String;"⟩ : MethodName)) (z := (⟨"com/example/twince/twince/IdempotencyKey", "value", "()Ljava/lang/String;"⟩ : MethodName)) hown (mvT hZ (hw _ (List.mem_of_getElem? (i := 136) rfl))) (mvT hZ (hw _ (List.mem_of_getElem? (i := 137) rfl))) (notFace_of_selects (args := #[]) (mvT hZ (hw _ (List.mem_of_getElem? (i := 139) rfl)))) (mvT hZ (hw _ (List.mem_of_getElem? (i := 139) rfl))) (mvT hZ (hw _ (List.mem_of_getElem? (i := 138) rfl))) (by decide) (backOf (W := 0) (rm32 l Z a0 hw [] o123 s123 T123.heap n0 Z126 Wq123) hZ (hw _ (List.mem_of_getElem? (i := 140) rfl)) (hw _ (List.mem_of_getElem? (i := 44) rfl)) (by decide) (by decide)) q128a q128c (g := (mkF m 213 #[.val (.int p1), .val (.long p2), .second, .val (.int p3), .val (.int p4), .val (.int z22), .val (.int z24), .val (.int z26), .val (.int z28), .val (.int z30), .val (.int z32), .val (.ref b34), .unset] [(.ref o123)])) rfl (by rw [hml]; rfl) (Steps.refl _) (argsL := []) (rest := []) (lenOf pd_27 rfl) rfl (by show 2 * 0 + _ ≤ _; exact Nat.le_of_eq rfl) (hb hby at_213) (fun _ _ => ⟨rfl, rfl, (by decide : 6 + 0 ≤ _), (by decide : 33 + 0 ≤ _)⟩)
    dsimp only [Pt.U, Pt.locs, Pt.cells, Pt.slots] at X128 l128 y128 z128 st128 hQ128
    rw [l128, y128, z128] at X128
    have X128 := X128.mono (cells' := 6) (slots' := 33) (by decide) (by decide)
    obtain ⟨z128v, rfl, hz128v, Nq128, eq128⟩ := hQ128
    have N128n := Fr.app N123n Nq128
    have hy128 := hz128v.symm; subst hy128
    have P129 : own_Pr p.tables e below S0 T128 (mkF m 216 #[.val (.int p1), .val (.long p2), .second, .val (.int p3), .val (.int p4), .val (.int z22), .val (.int z24), .val (.int z26), .val (.int z28), .val (.int z30), .val (.int z32), .val (.ref b34), .unset] [(.ref s123)]) := fun t k => P127 t (st128.trans k)
    have P130 : own_Pr p.tables e below S0 T128 (mkF m 220 #[.val (.int p1), .val (.long p2), .second, .val (.int p3), .val (.int p4), .val (.int z22), .val (.int z24), .val (.int z26), .val (.int z28), .val (.int z30), .val (.int z32), .val (.ref b34), .val (.ref s123)] [(.ref s123)]) := fun t k => P129 t (by
      refine XS.astore X128.here hx rfl (hb hby at_216) rfl rfl (l' := #[.val (.int p1), .val (.long p2), .second, .val (.int p3), .val (.int p4), .val (.int z22), .val (.int z24), .val (.int z26), .val (.int z28), .val (.int z30), .val (.int z32), .val (.ref b34), .val (.ref s123)]) rfl ?_
      refine XS.aload X128.here hx rfl (hb hby at_218) rfl rfl ?_
      exact k)
    obtain ⟨cq131, kq131, q131a, q131b, q131c⟩ := isOf hZ eq128 Es123
    obtain ⟨_, _, ⟨T131, L131, k131, n131⟩, -, X131, ⟨Lc131, hQ131, l131, y131, z131⟩, st131⟩ := X128.virtualBack hx (y := (⟨"java/lang/String", "length", "()I"⟩ : MethodName)) (z := (⟨"java/lang/String", "length", "()I"⟩ : MethodName)) hown (mvT hZ (hw _ (List.mem_of_getElem? (i := 141) rfl))) (mvT hZ (hw _ (List.mem_of_getElem? (i := 54) rfl))) (notFace_of_selects (args := #[]) (mvT hZ (hw _ (List.mem_of_getElem? (i := 56) rfl)))) (mvT hZ (hw _ (List.mem_of_getElem? (i := 56) rfl))) (mvT hZ (hw _ (List.mem_of_getElem? (i := 55) rfl))) (by decide) (backOf (W := 0) (rm13 l Z a0 hw [] s123 z26 ys123 cs T123.heap n0 Z126 Sq123 F124 hcs) hZ (hw _ (List.mem_of_getElem? (i := 57) rfl)) (hw _ (List.mem_of_getElem? (i := 15) rfl)) (by decide) (by decide)) q131a q131c (g := (mkF m 220 #[.val (.int p1), .val (.long p2), .second, .val (.int p3), .val (.int p4), .val (.int z22), .val (.int z24), .val (.int z26), .val (.int z28), .val (.int z30), .val (.int z32), .val (.ref b34), .val (.ref s123)] [(.ref s123)])) rfl (by rw [hml]; rfl) (Steps.refl _) (argsL := []) (rest := []) (lenOf pd_15 rfl) rfl (by show 2 * 0 + _ ≤ _; exact Nat.le_of_eq rfl) (hb hby at_220) (fun _ _ => ⟨rfl, eq128, (by decide : 6 + 0 ≤ _), (by decide : 33 + 0 ≤ _)⟩)
    dsimp only [Pt.U, Pt.locs, Pt.cells, Pt.slots] at X131 l131 y131 z131 st131 hQ131
    rw [l131, y131, z131] at X131
    have X131 := X131.mono (cells' := 6) (slots' := 33) (by decide) (by decide)
    obtain ⟨z131v, rfl, hz131v, Nq131, eq131⟩ := hQ131
    have N131n := Fr.app N128n Nq131
    have hy131 := hz131v.symm; subst hy131
    have P132 : own_Pr p.tables e below S0 T131 (mkF m 223 #[.val (.int p1), .val (.long p2), .second, .val (.int p3), .val (.int p4), .val (.int z22), .val (.int z24), .val (.int z26), .val (.int z28), .val (.int z30), .val (.int z32), .val (.ref b34), .val (.ref s123)] [(.int z26)]) := fun t k => P130 t (st131.trans k)
    have P133 : own_Pr p.tables e below S0 T131 (mkF m 234 #[.val (.int p1), .val (.long p2), .second, .val (.int p3), .val (.int p4), .val (.int z22), .val (.int z24), .val (.int z26), .val (.int z28), .val (.int z30), .val (.int z32), .val (.ref b34), .val (.ref s123)] [(.long p2), (.int z26), (.int (0 : Int32)), (.ref s123)]) := fun t k => P132 t (by
      refine XS.iload X131.here hx rfl (hb hby at_223) rfl ?_
      refine XS.icmpNo X131.here hx rfl (hb hby at_225) rfl (XT.ii_ne_f rfl) ?_
      refine XS.aload X131.here hx rfl (hb hby at_228) rfl rfl ?_
      refine XS.iconst X131.here hx rfl (hb hby at_230) ?_
      refine XS.iload X131.here hx rfl (hb hby at_231) rfl ?_
      refine XS.lloadN X131.here hx rfl (hb hby at_233) rfl ?_
      exact k)
    obtain ⟨_, _, ⟨T134, L134, k134, n134⟩, -, X134, ⟨Lc134, hQ134, l134, y134, z134⟩, st134⟩ := Jvm.LawKit.callS X131 hx (y := (⟨"com/example/twince/twince/IdempotencyKeyParsePinLaw", "same", "(Ljava/lang/String;IIJ)Z"⟩ : MethodName)) hown (mvT hZ (hw _ (List.mem_of_getElem? (i := 142) rfl))) (mvT hZ (hw _ (List.mem_of_getElem? (i := 143) rfl))) (mvT hZ (hw _ (List.mem_of_getElem? (i := 4) rfl))) (mvT hZ (hw _ (List.mem_of_getElem? (i := 144) rfl))) (by decide) (backOf (W := 0) (rm33 l Z a0 hw [] s123 (0 : Int32) z26 p2 z26 ys123 cs fm T123.heap n0 Z126 Sq123 F124 hcs F125 hr_fm (by decide) rfl) hZ (hw _ (List.mem_of_getElem? (i := 144) rfl)) (hw _ (List.mem_of_getElem? (i := 4) rfl)) (by decide) (by decide)) (g := (mkF m 234 #[.val (.int p1), .val (.long p2), .second, .val (.int p3), .val (.int p4), .val (.int z22), .val (.int z24), .val (.int z26), .val (.int z28), .val (.int z30), .val (.int z32), .val (.ref b34), .val (.ref s123)] [(.long p2), (.int z26), (.int (0 : Int32)), (.ref s123)])) rfl (by rw [hml]; rfl) (argsL := [(.ref s123), (.int (0 : Int32)), (.int z26), (.long p2)]) (rest := []) (lenOf pd_28 rfl) rfl (by show 2 * 0 + _ ≤ _; exact Nat.le_of_eq rfl) (hb hby at_234) (fun _ _ => ⟨rfl, eq131, (by decide : 6 + 0 ≤ _), (by decide : 33 + 0 ≤ _)⟩)
    dsimp only [Pt.U, Pt.locs, Pt.cells, Pt.slots] at X134 l134 y134 z134 st134 hQ134
    rw [l134, y134, z134] at X134
    have X134 := X134.mono (cells' := 6) (slots' := 33) (by decide) (by decide)
    obtain ⟨z134v, rfl, hz134v, Nq134, eq134⟩ := hQ134
    have N134n := Fr.app N131n Nq134
    have P135 : own_Pr p.tables e below S0 T134 (mkF m 237 #[.val (.int p1), .val (.long p2), .second, .val (.int p3), .val (.int p4), .val (.int z22), .val (.int z24), .val (.int z26), .val (.int z28), .val (.int z30), .val (.int z32), .val (.ref b34), .val (.ref s123)] [(.int z134v)]) := fun t k => P133 t (st134 _ k)
    have P136 : own_Pr p.tables e below S0 T134 (mkF m 246 #[.val (.int p1), .val (.long p2), .second, .val (.int p3), .val (.int p4), .val (.int z22), .val (.int z24), .val (.int z26), .val (.int z28), .val (.int z30), .val (.int z32), .val (.ref b34), .val (.ref s123)] [(.long p2), (.int z26), (.int (1 : Int32)), (.ref s123)]) := fun t k => P135 t (by
      refine XS.ifNo X134.here hx rfl (hb hby at_237) rfl (XT.i0_eq_f (by rw [hz134v, ek, show own_f33 ys123 (0 : Int32) (Int32.ofNat K) p2 = 1 from HSAME 0 (by decide)]; decide)) ?_
      refine XS.aload X134.here hx rfl (hb hby at_240) rfl rfl ?_
      refine XS.iconst X134.here hx rfl (hb hby at_242) ?_
      refine XS.iload X134.here hx rfl (hb hby at_243) rfl ?_
      refine XS.lloadN X134.here hx rfl (hb hby at_245) rfl ?_
      exact k)
    obtain ⟨_, _, ⟨T137, L137, k137, n137⟩, -, X137, ⟨Lc137, hQ137, l137, y137, z137⟩, st137⟩ := Jvm.LawKit.callS X134 hx (y := (⟨"com/example/twince/twince/IdempotencyKeyParsePinLaw", "same", "(Ljava/lang/String;IIJ)Z"⟩ : MethodName)) hown (mvT hZ (hw _ (List.mem_of_getElem? (i := 142) rfl))) (mvT hZ (hw _ (List.mem_of_getElem? (i := 143) rfl))) (mvT hZ (hw _ (List.mem_of_getElem? (i := 4) rfl))) (mvT hZ (hw _ (List.mem_of_getElem? (i := 144) rfl))) (by decide) (backOf (W := 0) (rm33 l Z a0 hw [] s123 (1 : Int32) z26 p2 z26 ys123 cs fm T123.heap n0 Z126 Sq123 F124 hcs F125 hr_fm (by decide) rfl) hZ (hw _ (List.mem_of_getElem? (i := 144) rfl)) (hw _ (List.mem_of_getElem? (i := 4) rfl)) (by decide) (by decide)) (g := (mkF m 246 #[.val (.int p1), .val (.long p2), .second, .val (.int p3), .val (.int p4), .val (.int z22), .val (.int z24), .val (.int z26), .val (.int z28), .val (.int z30), .val (.int z32), .val (.ref b34), .val (.ref s123)] [(.long p2), (.int z26), (.int (1 : Int32)), (.ref s123)])) rfl (by rw [hml]; rfl) (argsL := [(.ref s123), (.int (1 : Int32)), (.int z26), (.long p2)]) (rest := []) (lenOf pd_28 rfl) rfl (by show 2 * 0 + _ ≤ _; exact Nat.le_of_eq rfl) (hb hby at_246) (fun _ _ => ⟨rfl, eq134, (by decide : 6 + 0 ≤ _), (by decide : 33 + 0 ≤ _)⟩)
    dsimp only [Pt.U, Pt.locs, Pt.cells, Pt.slots] at X137 l137 y137 z137 st137 hQ137
    rw [l137, y137, z137] at X137
    have X137 := X137.mono (cells' := 6) (slots' := 33) (by decide) (by decide)
    obtain ⟨z137v, rfl, hz137v, Nq137, eq137⟩ := hQ137
    have N137n := Fr.app N134n Nq137
    have P138 : own_Pr p.tables e below S0 T137 (mkF m 249 #[.val (.int p1), .val (.long p2), .second, .val (.int p3), .val (.int p4), .val (.int z22), .val (.int z24), .val (.int z26), .val (.int z28), .val (.int z30), .val (.int z32), .val (.ref b34), .val (.ref s123)] [(.int z137v)]) := fun t k => P136 t (st137 _ k)
    have P139 : own_Pr p.tables e below S0 T137 (mkF m 258 #[.val (.int p1), .val (.long p2), .second, .val (.int p3), .val (.int p4), .val (.int z22), .val (.int z24), .val (.int z26), .val (.int z28), .val (.int z30), .val (.int z32), .val (.ref b34), .val (.ref s123)] [(.long p2), (.int z26), (.int (2 : Int32)), (.ref s123)]) := fun t k => P138 t (by
      refine XS.ifNo X137.here hx rfl (hb hby at_249) rfl (XT.i0_eq_f (by rw [hz137v, ek, show own_f33 ys123 (1 : Int32) (Int32.ofNat K) p2 = 1 from HSAME 1 (by decide)]; decide)) ?_
      refine XS.aload X137.here hx rfl (hb hby at_252) rfl rfl ?_
      refine XS.iconst X137.here hx rfl (hb hby at_254) ?_
      refine XS.iload X137.here hx rfl (hb hby at_255) rfl ?_
      refine XS.lloadN X137.here hx rfl (hb hby at_257) rfl ?_
      exact k)
    obtain ⟨_, _, ⟨T140, L140, k140, n140⟩, -, X140, ⟨Lc140, hQ140, l140, y140, z140⟩, st140⟩ := Jvm.LawKit.callS X137 hx (y := (⟨"com/example/twince/twince/IdempotencyKeyParsePinLaw", "same", "(Ljava/lang/String;IIJ)Z"⟩ : MethodName)) hown (mvT hZ (hw _ (List.mem_of_getElem? (i := 142) rfl))) (mvT hZ (hw _ (List.mem_of_getElem? (i := 143) rfl))) (mvT hZ (hw _ (List.mem_of_getElem? (i := 4) rfl))) (mvT hZ (hw _ (List.mem_of_getElem? (i := 144) rfl))) (by decide) (backOf (W := 0) (rm33 l Z a0 hw [] s123 (2 : Int32) z26 p2 z26 ys123 cs fm T123.heap n0 Z126 Sq123 F124 hcs F125 hr_fm (by decide) rfl) hZ (hw _ (List.mem_of_getElem? (i := 144) rfl)) (hw _ (List.mem_of_getElem? (i := 4) rfl)) (by decide) (by decide)) (g := (mkF m 258 #[.val (.int p1), .val (.long p2), .second, .val (.int p3), .val (.int p4), .val (.int z22), .val (.int z24), .val (.int z26), .val (.int z28), .val (.int z30), .val (.int z32), .val (.ref b34), .val (.ref s123)] [(.long p2), (.int z26), (.int (2 : Int32)), (.ref s123)])) rfl (by rw [hml]; rfl) (argsL := [(.ref s123), (.int (2 : Int32)), (.int z26), (.long p2)]) (rest := []) (lenOf pd_28 rfl) rfl (by show 2 * 0 + _ ≤ _; exact Nat.le_of_eq rfl) (hb hby at_258) (fun _ _ => ⟨rfl, eq137, (by decide : 6 + 0 ≤ _), (by decide : 33 + 0 ≤ _)⟩)
    dsimp only [Pt.U, Pt.locs, Pt.cells, Pt.slots] at X140 l140 y140 z140 st140 hQ140
    rw [l140, y140, z140] at X140
    have X140 := X140.mono (cells' := 6) (slots' := 33) (by decide) (by decide)
    obtain ⟨z140v, rfl, hz140v, Nq140, eq140⟩ := hQ140
    have N140n := Fr.app N137n Nq140
    have P141 : own_Pr p.tables e below S0 T140 (mkF m 261 #[.val (.int p1), .val (.long p2), .second, .val (.int p3), .val (.int p4), .val (.int z22), .val (.int z24), .val (.int z26), .val (.int z28), .val (.int z30), .val (.int z32), .val (.ref b34), .val (.ref s123)] [(.int z140v)]) := fun t k => P139 t (st140 _ k)
    have P142 : own_Pr p.tables e below S0 T140 (mkF m 270 #[.val (.int p1), .val (.long p2), .second, .val (.int p3), .val (.int p4), .val (.int z22), .val (.int z24), .val (.int z26), .val (.int z28), .val (.int z30), .val (.int z32), .val (.ref b34), .val (.ref s123)] [(.long p2), (.int z26), (.int (3 : Int32)), (.ref s123)]) := fun t k => P141 t (by
      refine XS.ifNo X140.here hx rfl (hb hby at_261) rfl (XT.i0_eq_f (by rw [hz140v, ek, show own_f33 ys123 (2 : Int32) (Int32.ofNat K) p2 = 1 from HSAME 2 (by decide)]; decide)) ?_
      refine XS.aload X140.here hx rfl (hb hby at_264) rfl rfl ?_
      refine XS.iconst X140.here hx rfl (hb hby at_266) ?_
      refine XS.iload X140.here hx rfl (hb hby at_267) rfl ?_
      refine XS.lloadN X140.here hx rfl (hb hby at_269) rfl ?_
      exact k)
    obtain ⟨_, _, ⟨T143, L143, k143, n143⟩, -, X143, ⟨Lc143, hQ143, l143, y143, z143⟩, st143⟩ := Jvm.LawKit.callS X140 hx (y := (⟨"com/example/twince/twince/IdempotencyKeyParsePinLaw", "same", "(Ljava/lang/String;IIJ)Z"⟩ : MethodName)) hown (mvT hZ (hw _ (List.mem_of_getElem? (i := 142) rfl))) (mvT hZ (hw _ (List.mem_of_getElem? (i := 143) rfl))) (mvT hZ (hw _ (List.mem_of_getElem? (i := 4) rfl))) (mvT hZ (hw _ (List.mem_of_getElem? (i := 144) rfl))) (by decide) (backOf (W := 0) (rm33 l Z a0 hw [] s123 (3 : Int32) z26 p2 z26 ys123 cs fm T123.heap n0 Z126 Sq123 F124 hcs F125 hr_fm (by decide) rfl) hZ (hw _ (List.mem_of_getElem? (i := 144) rfl)) (hw _ (List.mem_of_getElem? (i := 4) rfl)) (by decide) (by decide)) (g := (mkF m 270 #[.val (.int p1), .val (.long p2), .second, .val (.int p3), .val (.int p4), .val (.int z22), .val (.int z24), .val (.int z26), .val (.int z28), .val (.int z30), .val (.int z32), .val (.ref b34), .val (.ref s123)] [(.long p2), (.int z26), (.int (3 : Int32)), (.ref s123)])) rfl (by rw [hml]; rfl) (argsL := [(.ref s123), (.int (3 : Int32)), (.int z26), (.long p2)]) (rest := []) (lenOf pd_28 rfl) rfl (by show 2 * 0 + _ ≤ _; exact Nat.le_of_eq rfl) (hb hby at_270) (fun _ _ => ⟨rfl, eq140, (by decide : 6 + 0 ≤ _), (by decide : 33 + 0 ≤ _)⟩)
    dsimp only [Pt.U, Pt.locs, Pt.cells, Pt.slots] at X143 l143 y143 z143 st143 hQ143
    rw [l143, y143, z143] at X143
    have X143 := X143.mono (cells' := 6) (slots' := 33) (by decide) (by decide)
    obtain ⟨z143v, rfl, hz143v, Nq143, eq143⟩ := hQ143
    have N143n := Fr.app N140n Nq143
    have P144 : own_Pr p.tables e below S0 T143 (mkF m 273 #[.val (.int p1), .val (.long p2), .second, .val (.int p3), .val (.int p4), .val (.int z22), .val (.int z24), .val (.int z26), .val (.int z28), .val (.int z30), .val (.int z32), .val (.ref b34), .val (.ref s123)] [(.int z143v)]) := fun t k => P142 t (st143 _ k)
    have P145 : own_Pr p.tables e below S0 T143 (mkF m 282 #[.val (.int p1), .val (.long p2), .second, .val (.int p3), .val (.int p4), .val (.int z22), .val (.int z24), .val (.int z26), .val (.int z28), .val (.int z30), .val (.int z32), .val (.ref b34), .val (.ref s123)] [(.long p2), (.int z26), (.int (4 : Int32)), (.ref s123)]) := fun t k => P144 t (by
      refine XS.ifNo X143.here hx rfl (hb hby at_273) rfl (XT.i0_eq_f (by rw [hz143v, ek, show own_f33 ys123 (3 : Int32) (Int32.ofNat K) p2 = 1 from HSAME 3 (by decide)]; decide)) ?_
      refine XS.aload X143.here hx rfl (hb hby at_276) rfl rfl ?_
      refine XS.iconst X143.here hx rfl (hb hby at_278) ?_
      refine XS.iload X143.here hx rfl (hb hby at_279) rfl ?_
      refine XS.lloadN X143.here hx rfl (hb hby at_281) rfl ?_
      exact k)
    obtain ⟨_, _, ⟨T146, L146, k146, n146⟩, -, X146, ⟨Lc146, hQ146, l146, y146, z146⟩, st146⟩ := Jvm.LawKit.callS X143 hx (y := (⟨"com/example/twince/twince/IdempotencyKeyParsePinLaw", "same", "(Ljava/lang/String;IIJ)Z"⟩ : MethodName)) hown (mvT hZ (hw _ (List.mem_of_getElem? (i := 142) rfl))) (mvT hZ (hw _ (List.mem_of_getElem? (i := 143) rfl))) (mvT hZ (hw _ (List.mem_of_getElem? (i := 4) rfl))) (mvT hZ (hw _ (List.mem_of_getElem? (i := 144) rfl))) (by decide) (backOf (W := 0) (rm33 l Z a0 hw [] s123 (4 : Int32) z26 p2 z26 ys123 cs fm T123.heap n0 Z126 Sq123 F124 hcs F125 hr_fm (by decide) rfl) hZ (hw _ (List.mem_of_getElem? (i := 144) rfl)) (hw _ (List.mem_of_getElem? (i := 4) rfl)) (by decide) (by decide)) (g := (mkF m 282 #[.val (.int p1), .val (.long p2), .second, .val (.int p3), .val (.int p4), .val (.int z22), .val (.int z24), .val (.int z26), .val (.int z28), .val (.int z30), .val (.int z32), .val (.ref b34), .val (.ref s123)] [(.long p2), (.int z26), (.int (4 : Int32)), (.ref s123)])) rfl (by rw [hml]; rfl) (argsL := [(.ref s123), (.int (4 : Int32)), (.int z26), (.long p2)]) (rest := []) (lenOf pd_28 rfl) rfl (by show 2 * 0 + _ ≤ _; exact Nat.le_of_eq rfl) (hb hby at_282) (fun _ _ => ⟨rfl, eq143, (by decide : 6 + 0 ≤ _), (by decide : 33 + 0 ≤ _)⟩)
    dsimp only [Pt.U, Pt.locs, Pt.cells, Pt.slots] at X146 l146 y146 z146 st146 hQ146
    rw [l146, y146, z146] at X146
    have X146 := X146.mono (cells' := 6) (slots' := 33) (by decide) (by decide)
    obtain ⟨z146v, rfl, hz146v, Nq146, eq146⟩ := hQ146
    have N146n := Fr.app N143n Nq146
    have P147 : own_Pr p.tables e below S0 T146 (mkF m 285 #[.val (.int p1), .val (.long p2), .second, .val (.int p3), .val (.int p4), .val (.int z22), .val (.int z24), .val (.int z26), .val (.int z28), .val (.int z30), .val (.int z32), .val (.ref b34), .val (.ref s123)] [(.int z146v)]) := fun t k => P145 t (st146 _ k)
    have P148 : own_Pr p.tables e below S0 T146 (mkF m 294 #[.val (.int p1), .val (.long p2), .second, .val (.int p3), .val (.int p4), .val (.int z22), .val (.int z24), .val (.int z26), .val (.int z28), .val (.int z30), .val (.int z32), .val (.ref b34), .val (.ref s123)] [(.long p2), (.int z26), (.int (5 : Int32)), (.ref s123)]) := fun t k => P147 t (by
      refine XS.ifNo X146.here hx rfl (hb hby at_285) rfl (XT.i0_eq_f (by rw [hz146v, ek, show own_f33 ys123 (4 : Int32) (Int32.ofNat K) p2 = 1 from HSAME 4 (by decide)]; decide)) ?_
      refine XS.aload X146.here hx rfl (hb hby at_288) rfl rfl ?_
      refine XS.iconst X146.here hx rfl (hb hby at_290) ?_
      refine XS.iload X146.here hx rfl (hb hby at_291) rfl ?_
      refine XS.lloadN X146.here hx rfl (hb hby at_293) rfl ?_
      exact k)
    obtain ⟨_, _, ⟨T149, L149, k149, n149⟩, -, X149, ⟨Lc149, hQ149, l149, y149, z149⟩, st149⟩ := Jvm.LawKit.callS X146 hx (y := (⟨"com/example/twince/twince/IdempotencyKeyParsePinLaw", "same", "(Ljava/lang/String;IIJ)Z"⟩ : MethodName)) hown (mvT hZ (hw _ (List.mem_of_getElem? (i := 142) rfl))) (mvT hZ (hw _ (List.mem_of_getElem? (i := 143) rfl))) (mvT hZ (hw _ (List.mem_of_getElem? (i := 4) rfl))) (mvT hZ (hw _ (List.mem_of_getElem? (i := 144) rfl))) (by decide) (backOf (W := 0) (rm33 l Z a0 hw [] s123 (5 : Int32) z26 p2 z26 ys123 cs fm T123.heap n0 Z126 Sq123 F124 hcs F125 hr_fm (by decide) rfl) hZ (hw _ (List.mem_of_getElem? (i := 144) rfl)) (hw _ (List.mem_of_getElem? (i := 4) rfl)) (by decide) (by decide)) (g := (mkF m 294 #[.val (.int p1), .val (.long p2), .second, .val (.int p3), .val (.int p4), .val (.int z22), .val (.int z24), .val (.int z26), .val (.int z28), .val (.int z30), .val (.int z32), .val (.ref b34), .val (.ref s123)] [(.long p2), (.int z26), (.int (5 : Int32)), (.ref s123)])) rfl (by rw [hml]; rfl) (argsL := [(.ref s123), (.int (5 : Int32)), (.int z26), (.long p2)]) (rest := []) (lenOf pd_28 rfl) rfl (by show 2 * 0 + _ ≤ _; exact Nat.le_of_eq rfl) (hb hby at_294) (fun _ _ => ⟨rfl, eq146, (by decide : 6 + 0 ≤ _), (by decide : 33 + 0 ≤ _)⟩)
    dsimp only [Pt.U, Pt.locs, Pt.cells, Pt.slots] at X149 l149 y149 z149 st149 hQ149
    rw [l149, y149, z149] at X149
    have X149 := X149.mono (cells' := 6) (slots' := 33) (by decide) (by decide)
    obtain ⟨z149v, rfl, hz149v, Nq149, eq149⟩ := hQ149
    have N149n := Fr.app N146n Nq149
    have P150 : own_Pr p.tables e below S0 T149 (mkF m 297 #[.val (.int p1), .val (.long p2), .second, .val (.int p3), .val (.int p4), .val (.int z22), .val (.int z24), .val (.int z26), .val (.int z28), .val (.int z30), .val (.int z32), .val (.ref b34), .val (.ref s123)] [(.int z149v)]) := fun t k => P148 t (st149 _ k)
    have P151 : own_Pr p.tables e below S0 T149 (mkF m 307 #[.val (.int p1), .val (.long p2), .second, .val (.int p3), .val (.int p4), .val (.int z22), .val (.int z24), .val (.int z26), .val (.int z28), .val (.int z30), .val (.int z32), .val (.ref b34), .val (.ref s123)] [(.long p2), (.int z26), (.int (6 : Int32)), (.ref s123)]) := fun t k => P150 t (by
      refine XS.ifNo X149.here hx rfl (hb hby at_297) rfl (XT.i0_eq_f (by rw [hz149v, ek, show own_f33 ys123 (5 : Int32) (Int32.ofNat K) p2 = 1 from HSAME 5 (by decide)]; decide)) ?_
      refine XS.aload X149.here hx rfl (hb hby at_300) rfl rfl ?_
      refine XS.bipush X149.here hx rfl (hb hby at_302) ?_
      refine XS.iload X149.here hx rfl (hb hby at_304) rfl ?_
      refine XS.lloadN X149.here hx rfl (hb hby at_306) rfl ?_
      exact k)
    obtain ⟨_, _, ⟨T152, L152, k152, n152⟩, -, X152, ⟨Lc152, hQ152, l152, y152, z152⟩, st152⟩ := Jvm.LawKit.callS X149 hx (y := (⟨"com/example/twince/twince/IdempotencyKeyParsePinLaw", "same", "(Ljava/lang/String;IIJ)Z"⟩ : MethodName)) hown (mvT hZ (hw _ (List.mem_of_getElem? (i := 142) rfl))) (mvT hZ (hw _ (List.mem_of_getElem? (i := 143) rfl))) (mvT hZ (hw _ (List.mem_of_getElem? (i := 4) rfl))) (mvT hZ (hw _ (List.mem_of_getElem? (i := 144) rfl))) (by decide) (backOf (W := 0) (rm33 l Z a0 hw [] s123 (6 : Int32) z26 p2 z26 ys123 cs fm T123.heap n0 Z126 Sq123 F124 hcs F125 hr_fm (by decide) rfl) hZ (hw _ (List.mem_of_getElem? (i := 144) rfl)) (hw _ (List.mem_of_getElem? (i := 4) rfl)) (by decide) (by decide)) (g := (mkF m 307 #[.val (.int p1), .val (.long p2), .second, .val (.int p3), .val (.int p4), .val (.int z22), .val (.int z24), .val (.int z26), .val (.int z28), .val (.int z30), .val (.int z32), .val (.ref b34), .val (.ref s123)] [(.long p2), (.int z26), (.int (6 : Int32)), (.ref s123)])) rfl (by rw [hml]; rfl) (argsL := [(.ref s123), (.int (6 : Int32)), (.int z26), (.long p2)]) (rest := []) (lenOf pd_28 rfl) rfl (by show 2 * 0 + _ ≤ _; exact Nat.le_of_eq rfl) (hb hby at_307) (fun _ _ => ⟨rfl, eq149, (by decide : 6 + 0 ≤ _), (by decide : 33 + 0 ≤ _)⟩)
    dsimp only [Pt.U, Pt.locs, Pt.cells, Pt.slots] at X152 l152 y152 z152 st152 hQ152
    rw [l152, y152, z152] at X152
    have X152 := X152.mono (cells' := 6) (slots' := 33) (by decide) (by decide)
    obtain ⟨z152v, rfl, hz152v, Nq152, eq152⟩ := hQ152
    have N152n := Fr.app N149n Nq152
    have P153 : own_Pr p.tables e below S0 T152 (mkF m 310 #[.val (.int p1), .val (.long p2), .second, .val (.int p3), .val (.int p4), .val (.int z22), .val (.int z24), .val (.int z26), .val (.int z28), .val (.int z30), .val (.int z32), .val (.ref b34), .val (.ref s123)] [(.int z152v)]) := fun t k => P151 t (st152 _ k)
    have P154 : own_Pr p.tables e below S0 T152 (mkF m 320 #[.val (.int p1), .val (.long p2), .second, .val (.int p3), .val (.int p4), .val (.int z22), .val (.int z24), .val (.int z26), .val (.int z28), .val (.int z30), .val (.int z32), .val (.ref b34), .val (.ref s123)] [(.long p2), (.int z26), (.int (7 : Int32)), (.ref s123)]) := fun t k => P153 t (by
      refine XS.ifNo X152.here hx rfl (hb hby at_310) rfl (XT.i0_eq_f (by rw [hz152v, ek, show own_f33 ys123 (6 : Int32) (Int32.ofNat K) p2 = 1 from HSAME 6 (by decide)]; decide)) ?_
      refine XS.aload X152.here hx rfl (hb hby at_313) rfl rfl ?_
      refine XS.bipush X152.here hx rfl (hb hby at_315) ?_
      refine XS.iload X152.here hx rfl (hb hby at_317) rfl ?_
      refine XS.lloadN X152.here hx rfl (hb hby at_319) rfl ?_
      exact k)
    obtain ⟨_, _, ⟨T155, L155, k155, n155⟩, -, X155, ⟨Lc155, hQ155, l155, y155, z155⟩, st155⟩ := Jvm.LawKit.callS X152 hx (y := (⟨"com/example/twince/twince/IdempotencyKeyParsePinLaw", "same", "(Ljava/lang/String;IIJ)Z"⟩ : MethodName)) hown (mvT hZ (hw _ (List.mem_of_getElem? (i := 142) rfl))) (mvT hZ (hw _ (List.mem_of_getElem? (i := 143) rfl))) (mvT hZ (hw _ (List.mem_of_getElem? (i := 4) rfl))) (mvT hZ (hw _ (List.mem_of_getElem? (i := 144) rfl))) (by decide) (backOf (W := 0) (rm33 l Z a0 hw [] s123 (7 : Int32) z26 p2 z26 ys123 cs fm T123.heap n0 Z126 Sq123 F124 hcs F125 hr_fm (by decide) rfl) hZ (hw _ (List.mem_of_getElem? (i := 144) rfl)) (hw _ (List.mem_of_getElem? (i := 4) rfl)) (by decide) (by decide)) (g := (mkF m 320 #[.val (.int p1), .val (.long p2), .second, .val (.int p3), .val (.int p4), .val (.int z22), .val (.int z24), .val (.int z26), .val (.int z28), .val (.int z30), .val (.int z32), .val (.ref b34), .val (.ref s123)] [(.long p2), (.int z26), (.int (7 : Int32)), (.ref s123)])) rfl (by rw [hml]; rfl) (argsL := [(.ref s123), (.int (7 : Int32)), (.int z26), (.long p2)]) (rest := []) (lenOf pd_28 rfl) rfl (by show 2 * 0 + _ ≤ _; exact Nat.le_of_eq rfl) (hb hby at_320) (fun _ _ => ⟨rfl, eq152, (by decide : 6 + 0 ≤ _), (by decide : 33 + 0 ≤ _)⟩)
    dsimp only [Pt.U, Pt.locs, Pt.cells, Pt.slots] at X155 l155 y155 z155 st155 hQ155
    rw [l155, y155, z155] at X155
    have X155 := X155.mono (cells' := 6) (slots' := 33) (by decide) (by decide)
    obtain ⟨z155v, rfl, hz155v, Nq155, eq155⟩ := hQ155
    have N155n := Fr.app N152n Nq155
    have P156 : own_Pr p.tables e below S0 T155 (mkF m 323 #[.val (.int p1), .val (.long p2), .second, .val (.int p3), .val (.int p4), .val (.int z22), .val (.int z24), .val (.int z26), .val (.int z28), .val (.int z30), .val (.int z32), .val (.ref b34), .val (.ref s123)] [(.int z155v)]) := fun t k => P154 t (st155 _ k)
    have P157 : own_Pr p.tables e below S0 T155 (mkF m 331 #[.val (.int p1), .val (.long p2), .second, .val (.int p3), .val (.int p4), .val (.int z22), .val (.int z24), .val (.int z26), .val (.int z28), .val (.int z30), .val (.int z32), .val (.ref b34), .val (.ref s123)] [(.int (1 : Int32))]) := fun t k => P156 t (by
      refine XS.ifNo X155.here hx rfl (hb hby at_323) rfl (XT.i0_eq_f (by rw [hz155v, ek, show own_f33 ys123 (7 : Int32) (Int32.ofNat K) p2 = 1 from HSAME 7 (by decide)]; decide)) ?_
      refine XS.iconst X155.here hx rfl (hb hby at_326) ?_
      refine XS.goto X155.here hx rfl (pc0 := 327) (pc' := 331) rfl (hb hby at_327) (by decide) (by decide) ?_
      exact k)
    obtain ⟨fs, hr, hrun, hended, hW, hsame⟩ := X155.leave (v := some (.int (1 : Int32))) (fun h => by rw [Bd.returns] at h; cases h)
    have fin : Steps p.tables e below S0 (T155.setFrames fs) := P157 _ (retN X155 hx (t := .boolean) Bd.returns (by simp) (hb hby at_331) hr)
    rw [hS0] at fin
    refine ⟨_, _, fin, hrun, hended, _, _, rfl, ?_, ⟨_, rfl⟩, hW, hsame.mono (by decide) (by decide)⟩
    show own_QL n0 _ _
    exact ⟨_, rfl, rfl, N155n⟩
  · subst hQ1
    simp only [Nat.mul_one] at HALL hsum
    obtain ⟨h1, h2, h3, h4, h5, h6, h7, h8, h9, h10, h11, h12, h13, h14, e15⟩ := own_pq hsum hK hm1 hm2
    obtain ⟨_, _, ⟨T158, L158, k158, n158⟩, -, X158, ⟨Lc158, hQ158, l158, y158, z158⟩, st158⟩ := Jvm.LawKit.callS X113 hx (y := (⟨"com/example/twince/twince/IdempotencyKey", "parse", "(Ljava/lang/String;I)Lcom/example/twince/twince/IdempotencyKey;"⟩ : MethodName)) hown (mvT hZ (hw _ (List.mem_of_getElem? (i := 42) rfl))) (mvT hZ (hw _ (List.mem_of_getElem? (i := 43) rfl))) (mvT hZ (hw _ (List.mem_of_getElem? (i := 44) rfl))) (mvT hZ (hw _ (List.mem_of_getElem? (i := 45) rfl))) (by decide) (backOf (W := 0) (rm10_q l Z a0 hw [] b104 z32 8 xs cs fm (Int32.ofNat B) (Int32.ofNat (B + 2 + K)) (Int32.ofNat (B + 1 + K)) T113.heap n0 Z120 Sq113 F114 hcs F115 hr_fm h1 h2 HALL.1 HALL.2.1 h3 h4 h5 (HALL.2.2.2.2.1 (by trivial)).1 (by rw [e15]; exact HALL.2.2.1 _ _ _) h6 h7 (HALL.2.2.2.2.1 (by trivial)).2 h8 h9 h10 h11 h12 h13 (by decide)) hZ (hw _ (List.mem_of_getElem? (i := 45) rfl)) (hw _ (List.mem_of_getElem? (i := 44) rfl)) (by decide) (by decide)) (g := (mkF m 210 #[.val (.int p1), .val (.long p2), .second, .val (.int p3), .val (.int p4), .val (.int z22), .val (.int z24), .val (.int z26), .val (.int z28), .val (.int z30), .val (.int z32), .val (.ref b34), .unset] [(.int z32), (.ref b104)])) rfl (by rw [hml]; rfl) (argsL := [(.ref b104), (.int z32)]) (rest := []) (lenOf pd_26 rfl) rfl (by show 2 * 0 + _ ≤ _; exact Nat.le_of_eq rfl) (hb hby at_210) (fun _ _ => ⟨rfl, rfl, (by decide : 3 + 3 ≤ _), (by decide : 20 + 13 ≤ _)⟩)
    dsimp only [Pt.U, Pt.locs, Pt.cells, Pt.slots] at X158 l158 y158 z158 st158 hQ158
    rw [l158, y158, z158] at X158
    have X158 := X158.mono (cells' := 6) (slots' := 33) (by decide) (by decide)
    obtain ⟨o158, s158, ys158, rfl, Nq158, Kq158, Eq158, Wq158, Sq158, hy158⟩ := hQ158
    have N158n := Fr.app N113n Nq158
    have F159 := own_sta_keep0 F114 Kq158
    have F160 := own_sta_keep0 F115 Kq158
    have Z161 := Nat.le_trans Z120 Kq158.1
    rw [h14, ← ek] at Sq158
    rw [h14, e15] at hy158
    have HSAME := HALL.2.2.2.2.2 _ hy158
    have Es158 := Sq158.exa
    have P162 : own_Pr p.tables e below S0 T158 (mkF m 213 #[.val (.int p1), .val (.long p2), .second, .val (.int p3), .val (.int p4), .val (.int z22), .val (.int z24), .val (.int z26), .val (.int z28), .val (.int z30), .val (.int z32), .val (.ref b34), .unset] [(.ref o158)]) := fun t k => P122 t (st158 _ k)
    obtain ⟨cq163, kq163, q163a, q163b, q163c⟩ := isOf hZ rfl Eq158
    obtain ⟨_, _, ⟨T163, L163, k163, n163⟩, -, X163, ⟨Lc163, hQ163, l163, y163, z163⟩, st163⟩ := X158.virtualBack hx (y := (⟨"com/example/twince/twince/IdempotencyKey", "value", "()Ljava/lang/String;"⟩ : MethodName)) (z := (⟨"com/example/twince/twince/IdempotencyKey", "value", "()Ljava/lang/String;"⟩ : MethodName)) hown (mvT hZ (hw _ (List.mem_of_getElem? (i := 136) rfl))) (mvT hZ (hw _ (List.mem_of_getElem? (i := 137) rfl))) (notFace_of_selects (args := #[]) (mvT hZ (hw _ (List.mem_of_getElem? (i := 139) rfl)))) (mvT hZ (hw _ (List.mem_of_getElem? (i := 139) rfl))) (mvT hZ (hw _ (List.mem_of_getElem? (i := 138) rfl))) (by decide) (backOf (W := 0) (rm32 l Z a0 hw [] o158 s158 T158.heap n0 Z161 Wq158) hZ (hw _ (List.mem_of_getElem? (i := 140) rfl)) (hw _ (List.mem_of_getElem? (i := 44) rfl)) (by decide) (by decide)) q163a q163c (g := (mkF m 213 #[.val (.int p1), .val (.long p2), .second, .val (.int p3), .val (.int p4), .val (.int z22), .val (.int z24), .val (.int z26), .val (.int z28), .val (.int z30), .val (.int z32), .val (.ref b34), .unset] [(.ref o158)])) rfl (by rw [hml]; rfl) (Steps.refl _) (argsL := []) (rest := []) (lenOf pd_27 rfl) rfl (by show 2 * 0 + _ ≤ _; exact Nat.le_of_eq rfl) (hb hby at_213) (fun _ _ => ⟨rfl, rfl, (by decide : 6 + 0 ≤ _), (by decide : 33 + 0 ≤ _)⟩)
    dsimp only [Pt.U, Pt.locs, Pt.cells, Pt.slots] at X163 l163 y163 z163 st163 hQ163
    rw [l163, y163, z163] at X163
    have X163 := X163.mono (cells' := 6) (slots' := 33) (by decide) (by decide)
    obtain ⟨z163v, rfl, hz163v, Nq163, eq163⟩ := hQ163
    have N163n := Fr.app N158n Nq163
    have hy163 := hz163v.symm; subst hy163
    have P164 : own_Pr p.tables e below S0 T163 (mkF m 216 #[.val (.int p1), .val (.long p2), .second, .val (.int p3), .val (.int p4), .val (.int z22), .val (.int z24), .val (.int z26), .val (.int z28), .val (.int z30), .val (.int z32), .val (.ref b34), .unset] [(.ref s158)]) := fun t k => P162 t (st163.trans k)
    have P165 : own_Pr p.tables e below S0 T163 (mkF m 220 #[.val (.int p1), .val (.long p2), .second, .val (.int p3), .val (.int p4), .val (.int z22), .val (.int z24), .val (.int z26), .val (.int z28), .val (.int z30), .val (.int z32), .val (.ref b34), .val (.ref s158)] [(.ref s158)]) := fun t k => P164 t (by
      refine XS.astore X163.here hx rfl (hb hby at_216) rfl rfl (l' := #[.val (.int p1), .val (.long p2), .second, .val (.int p3), .val (.int p4), .val (.int z22), .val (.int z24), .val (.int z26), .val (.int z28), .val (.int z30), .val (.int z32), .val (.ref b34), .val (.ref s158)]) rfl ?_
      refine XS.aload X163.here hx rfl (hb hby at_218) rfl rfl ?_
      exact k)
    obtain ⟨cq166, kq166, q166a, q166b, q166c⟩ := isOf hZ eq163 Es158
    obtain ⟨_, _, ⟨T166, L166, k166, n166⟩, -, X166, ⟨Lc166, hQ166, l166, y166, z166⟩, st166⟩ := X163.virtualBack hx (y := (⟨"java/lang/String", "length", "()I"⟩ : MethodName)) (z := (⟨"java/lang/String", "length", "()I"⟩ : MethodName)) hown (mvT hZ (hw _ (List.mem_of_getElem? (i := 141) rfl))) (mvT hZ (hw _ (List.mem_of_getElem? (i := 54) rfl))) (notFace_of_selects (args := #[]) (mvT hZ (hw _ (List.mem_of_getElem? (i := 56) rfl)))) (mvT hZ (hw _ (List.mem_of_getElem? (i := 56) rfl))) (mvT hZ (hw _ (List.mem_of_getElem? (i := 55) rfl))) (by decide) (backOf (W := 0) (rm13 l Z a0 hw [] s158 z26 ys158 cs T158.heap n0 Z161 Sq158 F159 hcs) hZ (hw _ (List.mem_of_getElem? (i := 57) rfl)) (hw _ (List.mem_of_getElem? (i := 15) rfl)) (by decide) (by decide)) q166a q166c (g := (mkF m 220 #[.val (.int p1), .val (.long p2), .second, .val (.int p3), .val (.int p4), .val (.int z22), .val (.int z24), .val (.int z26), .val (.int z28), .val (.int z30), .val (.int z32), .val (.ref b34), .val (.ref s158)] [(.ref s158)])) rfl (by rw [hml]; rfl) (Steps.refl _) (argsL := []) (rest := []) (lenOf pd_15 rfl) rfl (by show 2 * 0 + _ ≤ _; exact Nat.le_of_eq rfl) (hb hby at_220) (fun _ _ => ⟨rfl, eq163, (by decide : 6 + 0 ≤ _), (by decide : 33 + 0 ≤ _)⟩)
    dsimp only [Pt.U, Pt.locs, Pt.cells, Pt.slots] at X166 l166 y166 z166 st166 hQ166
    rw [l166, y166, z166] at X166
    have X166 := X166.mono (cells' := 6) (slots' := 33) (by decide) (by decide)
    obtain ⟨z166v, rfl, hz166v, Nq166, eq166⟩ := hQ166
    have N166n := Fr.app N163n Nq166
    have hy166 := hz166v.symm; subst hy166
    have P167 : own_Pr p.tables e below S0 T166 (mkF m 223 #[.val (.int p1), .val (.long p2), .second, .val (.int p3), .val (.int p4), .val (.int z22), .val (.int z24), .val (.int z26), .val (.int z28), .val (.int z30), .val (.int z32), .val (.ref b34), .val (.ref s158)] [(.int z26)]) := fun t k => P165 t (st166.trans k)
    have P168 : own_Pr p.tables e below S0 T166 (mkF m 234 #[.val (.int p1), .val (.long p2), .second, .val (.int p3), .val (.int p4), .val (.int z22), .val (.int z24), .val (.int z26), .val (.int z28), .val (.int z30), .val (.int z32), .val (.ref b34), .val (.ref s158)] [(.long p2), (.int z26), (.int (0 : Int32)), (.ref s158)]) := fun t k => P167 t (by
      refine XS.iload X166.here hx rfl (hb hby at_223) rfl ?_
      refine XS.icmpNo X166.here hx rfl (hb hby at_225) rfl (XT.ii_ne_f rfl) ?_
      refine XS.aload X166.here hx rfl (hb hby at_228) rfl rfl ?_
      refine XS.iconst X166.here hx rfl (hb hby at_230) ?_
      refine XS.iload X166.here hx rfl (hb hby at_231) rfl ?_
      refine XS.lloadN X166.here hx rfl (hb hby at_233) rfl ?_
      exact k)
    obtain ⟨_, _, ⟨T169, L169, k169, n169⟩, -, X169, ⟨Lc169, hQ169, l169, y169, z169⟩, st169⟩ := Jvm.LawKit.callS X166 hx (y := (⟨"com/example/twince/twince/IdempotencyKeyParsePinLaw", "same", "(Ljava/lang/String;IIJ)Z"⟩ : MethodName)) hown (mvT hZ (hw _ (List.mem_of_getElem? (i := 142) rfl))) (mvT hZ (hw _ (List.mem_of_getElem? (i := 143) rfl))) (mvT hZ (hw _ (List.mem_of_getElem? (i := 4) rfl))) (mvT hZ (hw _ (List.mem_of_getElem? (i := 144) rfl))) (by decide) (backOf (W := 0) (rm33 l Z a0 hw [] s158 (0 : Int32) z26 p2 z26 ys158 cs fm T158.heap n0 Z161 Sq158 F159 hcs F160 hr_fm (by decide) rfl) hZ (hw _ (List.mem_of_getElem? (i := 144) rfl)) (hw _ (List.mem_of_getElem? (i := 4) rfl)) (by decide) (by decide)) (g := (mkF m 234 #[.val (.int p1), .val (.long p2), .second, .val (.int p3), .val (.int p4), .val (.int z22), .val (.int z24), .val (.int z26), .val (.int z28), .val (.int z30), .val (.int z32), .val (.ref b34), .val (.ref s158)] [(.long p2), (.int z26), (.int (0 : Int32)), (.ref s158)])) rfl (by rw [hml]; rfl) (argsL := [(.ref s158), (.int (0 : Int32)), (.int z26), (.long p2)]) (rest := []) (lenOf pd_28 rfl) rfl (by show 2 * 0 + _ ≤ _; exact Nat.le_of_eq rfl) (hb hby at_234) (fun _ _ => ⟨rfl, eq166, (by decide : 6 + 0 ≤ _), (by decide : 33 + 0 ≤ _)⟩)
    dsimp only [Pt.U, Pt.locs, Pt.cells, Pt.slots] at X169 l169 y169 z169 st169 hQ169
    rw [l169, y169, z169] at X169
    have X169 := X169.mono (cells' := 6) (slots' := 33) (by decide) (by decide)
    obtain ⟨z169v, rfl, hz169v, Nq169, eq169⟩ := hQ169
    have N169n := Fr.app N166n Nq169
    have P170 : own_Pr p.tables e below S0 T169 (mkF m 237 #[.val (.int p1), .val (.long p2), .second, .val (.int p3), .val (.int p4), .val (.int z22), .val (.int z24), .val (.int z26), .val (.int z28), .val (.int z30), .val (.int z32), .val (.ref b34), .val (.ref s158)] [(.int z169v)]) := fun t k => P168 t (st169 _ k)
    have P171 : own_Pr p.tables e below S0 T169 (mkF m 246 #[.val (.int p1), .val (.long p2), .second, .val (.int p3), .val (.int p4), .val (.int z22), .val (.int z24), .val (.int z26), .val (.int z28), .val (.int z30), .val (.int z32), .val (.ref b34), .val (.ref s158)] [(.long p2), (.int z26), (.int (1 : Int32)), (.ref s158)]) := fun t k => P170 t (by
      refine XS.ifNo X169.here hx rfl (hb hby at_237) rfl (XT.i0_eq_f (by rw [hz169v, ek, show own_f33 ys158 (0 : Int32) (Int32.ofNat K) p2 = 1 from HSAME 0 (by decide)]; decide)) ?_
      refine XS.aload X169.here hx rfl (hb hby at_240) rfl rfl ?_
      refine XS.iconst X169.here hx rfl (hb hby at_242) ?_
      refine XS.iload X169.here hx rfl (hb hby at_243) rfl ?_
      refine XS.lloadN X169.here hx rfl (hb hby at_245) rfl ?_
      exact k)
    obtain ⟨_, _, ⟨T172, L172, k172, n172⟩, -, X172, ⟨Lc172, hQ172, l172, y172, z172⟩, st172⟩ := Jvm.LawKit.callS X169 hx (y := (⟨"com/example/twince/twince/IdempotencyKeyParsePinLaw", "same", "(Ljava/lang/String;IIJ)Z"⟩ : MethodName)) hown (mvT hZ (hw _ (List.mem_of_getElem? (i := 142) rfl))) (mvT hZ (hw _ (List.mem_of_getElem? (i := 143) rfl))) (mvT hZ (hw _ (List.mem_of_getElem? (i := 4) rfl))) (mvT hZ (hw _ (List.mem_of_getElem? (i := 144) rfl))) (by decide) (backOf (W := 0) (rm33 l Z a0 hw [] s158 (1 : Int32) z26 p2 z26 ys158 cs fm T158.heap n0 Z161 Sq158 F159 hcs F160 hr_fm (by decide) rfl) hZ (hw _ (List.mem_of_getElem? (i := 144) rfl)) (hw _ (List.mem_of_getElem? (i := 4) rfl)) (by decide) (by decide)) (g := (mkF m 246 #[.val (.int p1), .val (.long p2), .second, .val (.int p3), .val (.int p4), .val (.int z22), .val (.int z24), .val (.int z26), .val (.int z28), .val (.int z30), .val (.int z32), .val (.ref b34), .val (.ref s158)] [(.long p2), (.int z26), (.int (1 : Int32)), (.ref s158)])) rfl (by rw [hml]; rfl) (argsL := [(.ref s158), (.int (1 : Int32)), (.int z26), (.long p2)]) (rest := []) (lenOf pd_28 rfl) rfl (by show 2 * 0 + _ ≤ _; exact Nat.le_of_eq rfl) (hb hby at_246) (fun _ _ => ⟨rfl, eq169, (by decide : 6 + 0 ≤ _), (by decide : 33 + 0 ≤ _)⟩)
    dsimp only [Pt.U, Pt.locs, Pt.cells, Pt.slots] at X172 l172 y172 z172 st172 hQ172
    rw [l172, y172, z172] at X172
    have X172 := X172.mono (cells' := 6) (slots' := 33) (by decide) (by decide)
    obtain ⟨z172v, rfl, hz172v, Nq172, eq172⟩ := hQ172
    have N172n := Fr.app N169n Nq172
    have P173 : own_Pr p.tables e below S0 T172 (mkF m 249 #[.val (.int p1), .val (.long p2), .second, .val (.int p3), .val (.int p4), .val (.int z22), .val (.int z24), .val (.int z26), .val (.int z28), .val (.int z30), .val (.int z32), .val (.ref b34), .val (.ref s158)] [(.int z172v)]) := fun t k => P171 t (st172 _ k)
    have P174 : own_Pr p.tables e below S0 T172 (mkF m 258 #[.val (.int p1), .val (.long p2), .second, .val (.int p3), .val (.int p4), .val (.int z22), .val (.int z24), .val (.int z26), .val (.int z28), .val (.int z30), .val (.int z32), .val (.ref b34), .val (.ref s158)] [(.long p2), (.int z26), (.int (2 : Int32)), (.ref s158)]) := fun t k => P173 t (by
      refine XS.ifNo X172.here hx rfl (hb hby at_249) rfl (XT.i0_eq_f (by rw [hz172v, ek, show own_f33 ys158 (1 : Int32) (Int32.ofNat K) p2 = 1 from HSAME 1 (by decide)]; decide)) ?_
      refine XS.aload X172.here hx rfl (hb hby at_252) rfl rfl ?_
      refine XS.iconst X172.here hx rfl (hb hby at_254) ?_
      refine XS.iload X172.here hx rfl (hb hby at_255) rfl ?_
      refine XS.lloadN X172.here hx rfl (hb hby at_257) rfl ?_
      exact k)
    obtain ⟨_, _, ⟨T175, L175, k175, n175⟩, -, X175, ⟨Lc175, hQ175, l175, y175, z175⟩, st175⟩ := Jvm.LawKit.callS X172 hx (y := (⟨"com/example/twince/twince/IdempotencyKeyParsePinLaw", "same", "(Ljava/lang/String;IIJ)Z"⟩ : MethodName)) hown (mvT hZ (hw _ (List.mem_of_getElem? (i := 142) rfl))) (mvT hZ (hw _ (List.mem_of_getElem? (i := 143) rfl))) (mvT hZ (hw _ (List.mem_of_getElem? (i := 4) rfl))) (mvT hZ (hw _ (List.mem_of_getElem? (i := 144) rfl))) (by decide) (backOf (W := 0) (rm33 l Z a0 hw [] s158 (2 : Int32) z26 p2 z26 ys158 cs fm T158.heap n0 Z161 Sq158 F159 hcs F160 hr_fm (by decide) rfl) hZ (hw _ (List.mem_of_getElem? (i := 144) rfl)) (hw _ (List.mem_of_getElem? (i := 4) rfl)) (by decide) (by decide)) (g := (mkF m 258 #[.val (.int p1), .val (.long p2), .second, .val (.int p3), .val (.int p4), .val (.int z22), .val (.int z24), .val (.int z26), .val (.int z28), .val (.int z30), .val (.int z32), .val (.ref b34), .val (.ref s158)] [(.long p2), (.int z26), (.int (2 : Int32)), (.ref s158)])) rfl (by rw [hml]; rfl) (argsL := [(.ref s158), (.int (2 : Int32)), (.int z26), (.long p2)]) (rest := []) (lenOf pd_28 rfl) rfl (by show 2 * 0 + _ ≤ _; exact Nat.le_of_eq rfl) (hb hby at_258) (fun _ _ => ⟨rfl, eq172, (by decide : 6 + 0 ≤ _), (by decide : 33 + 0 ≤ _)⟩)
    dsimp only [Pt.U, Pt.locs, Pt.cells, Pt.slots] at X175 l175 y175 z175 st175 hQ175
    rw [l175, y175, z175] at X175
    have X175 := X175.mono (cells' := 6) (slots' := 33) (by decide) (by decide)
    obtain ⟨z175v, rfl, hz175v, Nq175, eq175⟩ := hQ175
    have N175n := Fr.app N172n Nq175
    have P176 : own_Pr p.tables e below S0 T175 (mkF m 261 #[.val (.int p1), .val (.long p2), .second, .val (.int p3), .val (.int p4), .val (.int z22), .val (.int z24), .val (.int z26), .val (.int z28), .val (.int z30), .val (.int z32), .val (.ref b34), .val (.ref s158)] [(.int z175v)]) := fun t k => P174 t (st175 _ k)
    have P177 : own_Pr p.tables e below S0 T175 (mkF m 270 #[.val (.int p1), .val (.long p2), .second, .val (.int p3), .val (.int p4), .val (.int z22), .val (.int z24), .val (.int z26), .val (.int z28), .val (.int z30), .val (.int z32), .val (.ref b34), .val (.ref s158)] [(.long p2), (.int z26), (.int (3 : Int32)), (.ref s158)]) := fun t k => P176 t (by
      refine XS.ifNo X175.here hx rfl (hb hby at_261) rfl (XT.i0_eq_f (by rw [hz175v, ek, show own_f33 ys158 (2 : Int32) (Int32.ofNat K) p2 = 1 from HSAME 2 (by decide)]; decide)) ?_
      refine XS.aload X175.here hx rfl (hb hby at_264) rfl rfl ?_
      refine XS.iconst X175.here hx rfl (hb hby at_266) ?_
      refine XS.iload X175.here hx rfl (hb hby at_267) rfl ?_
      refine XS.lloadN X175.here hx rfl (hb hby at_269) rfl ?_
      exact k)
    obtain ⟨_, _, ⟨T178, L178, k178, n178⟩, -, X178, ⟨Lc178, hQ178, l178, y178, z178⟩, st178⟩ := Jvm.LawKit.callS X175 hx (y := (⟨"com/example/twince/twince/IdempotencyKeyParsePinLaw", "same", "(Ljava/lang/String;IIJ)Z"⟩ : MethodName)) hown (mvT hZ (hw _ (List.mem_of_getElem? (i := 142) rfl))) (mvT hZ (hw _ (List.mem_of_getElem? (i := 143) rfl))) (mvT hZ (hw _ (List.mem_of_getElem? (i := 4) rfl))) (mvT hZ (hw _ (List.mem_of_getElem? (i := 144) rfl))) (by decide) (backOf (W := 0) (rm33 l Z a0 hw [] s158 (3 : Int32) z26 p2 z26 ys158 cs fm T158.heap n0 Z161 Sq158 F159 hcs F160 hr_fm (by decide) rfl) hZ (hw _ (List.mem_of_getElem? (i := 144) rfl)) (hw _ (List.mem_of_getElem? (i := 4) rfl)) (by decide) (by decide)) (g := (mkF m 270 #[.val (.int p1), .val (.long p2), .second, .val (.int p3), .val (.int p4), .val (.int z22), .val (.int z24), .val (.int z26), .val (.int z28), .val (.int z30), .val (.int z32), .val (.ref b34), .val (.ref s158)] [(.long p2), (.int z26), (.int (3 : Int32)), (.ref s158)])) rfl (by rw [hml]; rfl) (argsL := [(.ref s158), (.int (3 : Int32)), (.int z26), (.long p2)]) (rest := []) (lenOf pd_28 rfl) rfl (by show 2 * 0 + _ ≤ _; exact Nat.le_of_eq rfl) (hb hby at_270) (fun _ _ => ⟨rfl, eq175, (by decide : 6 + 0 ≤ _), (by decide : 33 + 0 ≤ _)⟩)
    dsimp only [Pt.U, Pt.locs, Pt.cells, Pt.slots] at X178 l178 y178 z178 st178 hQ178
    rw [l178, y178, z178] at X178
    have X178 := X178.mono (cells' := 6) (slots' := 33) (by decide) (by decide)
    obtain ⟨z178v, rfl, hz178v, Nq178, eq178⟩ := hQ178
    have N178n := Fr.app N175n Nq178
    have P179 : own_Pr p.tables e below S0 T178 (mkF m 273 #[.val (.int p1), .val (.long p2), .second, .val (.int p3), .val (.int p4), .val (.int z22), .val (.int z24), .val (.int z26), .val (.int z28), .val (.int z30), .val (.int z32), .val (.ref b34), .val (.ref s158)] [(.int z178v)]) := fun t k => P177 t (st178 _ k)
    have P180 : own_Pr p.tables e below S0 T178 (mkF m 282 #[.val (.int p1), .val (.long p2), .second, .val (.int p3), .val (.int p4), .val (.int z22), .val (.int z24), .val (.int z26), .val (.int z28), .val (.int z30), .val (.int z32), .val (.ref b34), .val (.ref s158)] [(.long p2), (.int z26), (.int (4 : Int32)), (.ref s158)]) := fun t k => P179 t (by
      refine XS.ifNo X178.here hx rfl (hb hby at_273) rfl (XT.i0_eq_f (by rw [hz178v, ek, show own_f33 ys158 (3 : Int32) (Int32.ofNat K) p2 = 1 from HSAME 3 (by decide)]; decide)) ?_
      refine XS.aload X178.here hx rfl (hb hby at_276) rfl rfl ?_
      refine XS.iconst X178.here hx rfl (hb hby at_278) ?_
      refine XS.iload X178.here hx rfl (hb hby at_279) rfl ?_
      refine XS.lloadN X178.here hx rfl (hb hby at_281) rfl ?_
      exact k)
    obtain ⟨_, _, ⟨T181, L181, k181, n181⟩, -, X181, ⟨Lc181, hQ181, l181, y181, z181⟩, st181⟩ := Jvm.LawKit.callS X178 hx (y := (⟨"com/example/twince/twince/IdempotencyKeyParsePinLaw", "same", "(Ljava/lang/String;IIJ)Z"⟩ : MethodName)) hown (mvT hZ (hw _ (List.mem_of_getElem? (i := 142) rfl))) (mvT hZ (hw _ (List.mem_of_getElem? (i := 143) rfl))) (mvT hZ (hw _ (List.mem_of_getElem? (i := 4) rfl))) (mvT hZ (hw _ (List.mem_of_getElem? (i := 144) rfl))) (by decide) (backOf (W := 0) (rm33 l Z a0 hw [] s158 (4 : Int32) z26 p2 z26 ys158 cs fm T158.heap n0 Z161 Sq158 F159 hcs F160 hr_fm (by decide) rfl) hZ (hw _ (List.mem_of_getElem? (i := 144) rfl)) (hw _ (List.mem_of_getElem? (i := 4) rfl)) (by decide) (by decide)) (g := (mkF m 282 #[.val (.int p1), .val (.long p2), .second, .val (.int p3), .val (.int p4), .val (.int z22), .val (.int z24), .val (.int z26), .val (.int z28), .val (.int z30), .val (.int z32), .val (.ref b34), .val (.ref s158)] [(.long p2), (.int z26), (.int (4 : Int32)), (.ref s158)])) rfl (by rw [hml]; rfl) (argsL := [(.ref s158), (.int (4 : Int32)), (.int z26), (.long p2)]) (rest := []) (lenOf pd_28 rfl) rfl (by show 2 * 0 + _ ≤ _; exact Nat.le_of_eq rfl) (hb hby at_282) (fun _ _ => ⟨rfl, eq178, (by decide : 6 + 0 ≤ _), (by decide : 33 + 0 ≤ _)⟩)
    dsimp only [Pt.U, Pt.locs, Pt.cells, Pt.slots] at X181 l181 y181 z181 st181 hQ181
    rw [l181, y181, z181] at X181
    have X181 := X181.mono (cells' := 6) (slots' := 33) (by decide) (by decide)
    obtain ⟨z181v, rfl, hz181v, Nq181, eq181⟩ := hQ181
    have N181n := Fr.app N178n Nq181
    have P182 : own_Pr p.tables e below S0 T181 (mkF m 285 #[.val (.int p1), .val (.long p2), .second, .val (.int p3), .val (.int p4), .val (.int z22), .val (.int z24), .val (.int z26), .val (.int z28), .val (.int z30), .val (.int z32), .val (.ref b34), .val (.ref s158)] [(.int z181v)]) := fun t k => P180 t (st181 _ k)
    have P183 : own_Pr p.tables e below S0 T181 (mkF m 294 #[.val (.int p1), .val (.long p2), .second, .val (.int p3), .val (.int p4), .val (.int z22), .val (.int z24), .val (.int z26), .val (.int z28), .val (.int z30), .val (.int z32), .val (.ref b34), .val (.ref s158)] [(.long p2), (.int z26), (.int (5 : Int32)), (.ref s158)]) := fun t k => P182 t (by
      refine XS.ifNo X181.here hx rfl (hb hby at_285) rfl (XT.i0_eq_f (by rw [hz181v, ek, show own_f33 ys158 (4 : Int32) (Int32.ofNat K) p2 = 1 from HSAME 4 (by decide)]; decide)) ?_
      refine XS.aload X181.here hx rfl (hb hby at_288) rfl rfl ?_
      refine XS.iconst X181.here hx rfl (hb hby at_290) ?_
      refine XS.iload X181.here hx rfl (hb hby at_291) rfl ?_
      refine XS.lloadN X181.here hx rfl (hb hby at_293) rfl ?_
      exact k)
    obtain ⟨_, _, ⟨T184, L184, k184, n184⟩, -, X184, ⟨Lc184, hQ184, l184, y184, z184⟩, st184⟩ := Jvm.LawKit.callS X181 hx (y := (⟨"com/example/twince/twince/IdempotencyKeyParsePinLaw", "same", "(Ljava/lang/String;IIJ)Z"⟩ : MethodName)) hown (mvT hZ (hw _ (List.mem_of_getElem? (i := 142) rfl))) (mvT hZ (hw _ (List.mem_of_getElem? (i := 143) rfl))) (mvT hZ (hw _ (List.mem_of_getElem? (i := 4) rfl))) (mvT hZ (hw _ (List.mem_of_getElem? (i := 144) rfl))) (by decide) (backOf (W := 0) (rm33 l Z a0 hw [] s158 (5 : Int32) z26 p2 z26 ys158 cs fm T158.heap n0 Z161 Sq158 F159 hcs F160 hr_fm (by decide) rfl) hZ (hw _ (List.mem_of_getElem? (i := 144) rfl)) (hw _ (List.mem_of_getElem? (i := 4) rfl)) (by decide) (by decide)) (g := (mkF m 294 #[.val (.int p1), .val (.long p2), .second, .val (.int p3), .val (.int p4), .val (.int z22), .val (.int z24), .val (.int z26), .val (.int z28), .val (.int z30), .val (.int z32), .val (.ref b34), .val (.ref s158)] [(.long p2), (.int z26), (.int (5 : Int32)), (.ref s158)])) rfl (by rw [hml]; rfl) (argsL := [(.ref s158), (.int (5 : Int32)), (.int z26), (.long p2)]) (rest := []) (lenOf pd_28 rfl) rfl (by show 2 * 0 + _ ≤ _; exact Nat.le_of_eq rfl) (hb hby at_294) (fun _ _ => ⟨rfl, eq181, (by decide : 6 + 0 ≤ _), (by decide : 33 + 0 ≤ _)⟩)
    dsimp only [Pt.U, Pt.locs, Pt.cells, Pt.slots] at X184 l184 y184 z184 st184 hQ184
    rw [l184, y184, z184] at X184
    have X184 := X184.mono (cells' := 6) (slots' := 33) (by decide) (by decide)
    obtain ⟨z184v, rfl, hz184v, Nq184, eq184⟩ := hQ184
    have N184n := Fr.app N181n Nq184
    have P185 : own_Pr p.tables e below S0 T184 (mkF m 297 #[.val (.int p1), .val (.long p2), .second, .val (.int p3), .val (.int p4), .val (.int z22), .val (.int z24), .val (.int z26), .val (.int z28), .val (.int z30), .val (.int z32), .val (.ref b34), .val (.ref s158)] [(.int z184v)]) := fun t k => P183 t (st184 _ k)
    have P186 : own_Pr p.tables e below S0 T184 (mkF m 307 #[.val (.int p1), .val (.long p2), .second, .val (.int p3), .val (.int p4), .val (.int z22), .val (.int z24), .val (.int z26), .val (.int z28), .val (.int z30), .val (.int z32), .val (.ref b34), .val (.ref s158)] [(.long p2), (.int z26), (.int (6 : Int32)), (.ref s158)]) := fun t k => P185 t (by
      refine XS.ifNo X184.here hx rfl (hb hby at_297) rfl (XT.i0_eq_f (by rw [hz184v, ek, show own_f33 ys158 (5 : Int32) (Int32.ofNat K) p2 = 1 from HSAME 5 (by decide)]; decide)) ?_
      refine XS.aload X184.here hx rfl (hb hby at_300) rfl rfl ?_
      refine XS.bipush X184.here hx rfl (hb hby at_302) ?_
      refine XS.iload X184.here hx rfl (hb hby at_304) rfl ?_
      refine XS.lloadN X184.here hx rfl (hb hby at_306) rfl ?_
      exact k)
    obtain ⟨_, _, ⟨T187, L187, k187, n187⟩, -, X187, ⟨Lc187, hQ187, l187, y187, z187⟩, st187⟩ := Jvm.LawKit.callS X184 hx (y := (⟨"com/example/twince/twince/IdempotencyKeyParsePinLaw", "same", "(Ljava/lang/String;IIJ)Z"⟩ : MethodName)) hown (mvT hZ (hw _ (List.mem_of_getElem? (i := 142) rfl))) (mvT hZ (hw _ (List.mem_of_getElem? (i := 143) rfl))) (mvT hZ (hw _ (List.mem_of_getElem? (i := 4) rfl))) (mvT hZ (hw _ (List.mem_of_getElem? (i := 144) rfl))) (by decide) (backOf (W := 0) (rm33 l Z a0 hw [] s158 (6 : Int32) z26 p2 z26 ys158 cs fm T158.heap n0 Z161 Sq158 F159 hcs F160 hr_fm (by decide) rfl) hZ (hw _ (List.mem_of_getElem? (i := 144) rfl)) (hw _ (List.mem_of_getElem? (i := 4) rfl)) (by decide) (by decide)) (g := (mkF m 307 #[.val (.int p1), .val (.long p2), .second, .val (.int p3), .val (.int p4), .val (.int z22), .val (.int z24), .val (.int z26), .val (.int z28), .val (.int z30), .val (.int z32), .val (.ref b34), .val (.ref s158)] [(.long p2), (.int z26), (.int (6 : Int32)), (.ref s158)])) rfl (by rw [hml]; rfl) (argsL := [(.ref s158), (.int (6 : Int32)), (.int z26), (.long p2)]) (rest := []) (lenOf pd_28 rfl) rfl (by show 2 * 0 + _ ≤ _; exact Nat.le_of_eq rfl) (hb hby at_307) (fun _ _ => ⟨rfl, eq184, (by decide : 6 + 0 ≤ _), (by decide : 33 + 0 ≤ _)⟩)
    dsimp only [Pt.U, Pt.locs, Pt.cells, Pt.slots] at X187 l187 y187 z187 st187 hQ187
    rw [l187, y187, z187] at X187
    have X187 := X187.mono (cells' := 6) (slots' := 33) (by decide) (by decide)
    obtain ⟨z187v, rfl, hz187v, Nq187, eq187⟩ := hQ187
    have N187n := Fr.app N184n Nq187
    have P188 : own_Pr p.tables e below S0 T187 (mkF m 310 #[.val (.int p1), .val (.long p2), .second, .val (.int p3), .val (.int p4), .val (.int z22), .val (.int z24), .val (.int z26), .val (.int z28), .val (.int z30), .val (.int z32), .val (.ref b34), .val (.ref s158)] [(.int z187v)]) := fun t k => P186 t (st187 _ k)
    have P189 : own_Pr p.tables e below S0 T187 (mkF m 320 #[.val (.int p1), .val (.long p2), .second, .val (.int p3), .val (.int p4), .val (.int z22), .val (.int z24), .val (.int z26), .val (.int z28), .val (.int z30), .val (.int z32), .val (.ref b34), .val (.ref s158)] [(.long p2), (.int z26), (.int (7 : Int32)), (.ref s158)]) := fun t k => P188 t (by
      refine XS.ifNo X187.here hx rfl (hb hby at_310) rfl (XT.i0_eq_f (by rw [hz187v, ek, show own_f33 ys158 (6 : Int32) (Int32.ofNat K) p2 = 1 from HSAME 6 (by decide)]; decide)) ?_
      refine XS.aload X187.here hx rfl (hb hby at_313) rfl rfl ?_
      refine XS.bipush X187.here hx rfl (hb hby at_315) ?_
      refine XS.iload X187.here hx rfl (hb hby at_317) rfl ?_
      refine XS.lloadN X187.here hx rfl (hb hby at_319) rfl ?_
      exact k)
    obtain ⟨_, _, ⟨T190, L190, k190, n190⟩, -, X190, ⟨Lc190, hQ190, l190, y190, z190⟩, st190⟩ := Jvm.LawKit.callS X187 hx (y := (⟨"com/example/twince/twince/IdempotencyKeyParsePinLaw", "same", "(Ljava/lang/String;IIJ)Z"⟩ : MethodName)) hown (mvT hZ (hw _ (List.mem_of_getElem? (i := 142) rfl))) (mvT hZ (hw _ (List.mem_of_getElem? (i := 143) rfl))) (mvT hZ (hw _ (List.mem_of_getElem? (i := 4) rfl))) (mvT hZ (hw _ (List.mem_of_getElem? (i := 144) rfl))) (by decide) (backOf (W := 0) (rm33 l Z a0 hw [] s158 (7 : Int32) z26 p2 z26 ys158 cs fm T158.heap n0 Z161 Sq158 F159 hcs F160 hr_fm (by decide) rfl) hZ (hw _ (List.mem_of_getElem? (i := 144) rfl)) (hw _ (List.mem_of_getElem? (i := 4) rfl)) (by decide) (by decide)) (g := (mkF m 320 #[.val (.int p1), .val (.long p2), .second, .val (.int p3), .val (.int p4), .val (.int z22), .val (.int z24), .val (.int z26), .val (.int z28), .val (.int z30), .val (.int z32), .val (.ref b34), .val (.ref s158)] [(.long p2), (.int z26), (.int (7 : Int32)), (.ref s158)])) rfl (by rw [hml]; rfl) (argsL := [(.ref s158), (.int (7 : Int32)), (.int z26), (.long p2)]) (rest := []) (lenOf pd_28 rfl) rfl (by show 2 * 0 + _ ≤ _; exact Nat.le_of_eq rfl) (hb hby at_320) (fun _ _ => ⟨rfl, eq187, (by decide : 6 + 0 ≤ _), (by decide : 33 + 0 ≤ _)⟩)
    dsimp only [Pt.U, Pt.locs, Pt.cells, Pt.slots] at X190 l190 y190 z190 st190 hQ190
    rw [l190, y190, z190] at X190
    have X190 := X190.mono (cells' := 6) (slots' := 33) (by decide) (by decide)
    obtain ⟨z190v, rfl, hz190v, Nq190, eq190⟩ := hQ190
    have N190n := Fr.app N187n Nq190
    have P191 : own_Pr p.tables e below S0 T190 (mkF m 323 #[.val (.int p1), .val (.long p2), .second, .val (.int p3), .val (.int p4), .val (.int z22), .val (.int z24), .val (.int z26), .val (.int z28), .val (.int z30), .val (.int z32), .val (.ref b34), .val (.ref s158)] [(.int z190v)]) := fun t k => P189 t (st190 _ k)
    have P192 : own_Pr p.tables e below S0 T190 (mkF m 331 #[.val (.int p1), .val (.long p2), .second, .val (.int p3), .val (.int p4), .val (.int z22), .val (.int z24), .val (.int z26), .val (.int z28), .val (.int z30), .val (.int z32), .val (.ref b34), .val (.ref s158)] [(.int (1 : Int32))]) := fun t k => P191 t (by
      refine XS.ifNo X190.here hx rfl (hb hby at_323) rfl (XT.i0_eq_f (by rw [hz190v, ek, show own_f33 ys158 (7 : Int32) (Int32.ofNat K) p2 = 1 from HSAME 7 (by decide)]; decide)) ?_
      refine XS.iconst X190.here hx rfl (hb hby at_326) ?_
      refine XS.goto X190.here hx rfl (pc0 := 327) (pc' := 331) rfl (hb hby at_327) (by decide) (by decide) ?_
      exact k)
    obtain ⟨fs, hr, hrun, hended, hW, hsame⟩ := X190.leave (v := some (.int (1 : Int32))) (fun h => by rw [Bd.returns] at h; cases h)
    have fin : Steps p.tables e below S0 (T190.setFrames fs) := P192 _ (retN X190 hx (t := .boolean) Bd.returns (by simp) (hb hby at_331) hr)
    rw [hS0] at fin
    refine ⟨_, _, fin, hrun, hended, _, _, rfl, ?_, ⟨_, rfl⟩, hW, hsame.mono (by decide) (by decide)⟩
    show own_QL n0 _ _
    exact ⟨_, rfl, rfl, N190n⟩
set_option maxRecDepth 65536 in
set_option maxHeartbeats 40000000 in
theorem comes_1 {Post : Tables → Env → Array Value → State → Outcome → State → Prop} (hpost : ∀ tb e args s v u, (limb_1_1.after args s (.returned v) u = true ∧ limb_1_2.after args s (.returned v) u = true ∧ True) → FrameEnd s (.returned v) u (Jvm.fieldLocs frame_1_writes args s ++ Jvm.arrayLocs frame_1_arrays args s ++ Jvm.staticLocs frame_1_statics s) 24 128 → Post tb e args s (.returned v) u) :
    ArmFor flags0 classFile x code maxLocals ret World_1 tables_1 room_1 Calls_1 rest_1 Pre_1 Post := by
  intro l hfl _ _ p e ha hc hk s m args below hf hA hF happ hP
  obtain ⟨hcalls, hrest, hpre⟩ := hP
  obtain ⟨-, -, -, hnamed, -, -, -, hat⟩ := (Spec.applies_iff hf).mp happ
  obtain ⟨hg, hn⟩ := and_e (Cond.before_iff.mp (show (Jvm.Cond.and given_1 narrow_1).before args s = true from hpre))
  obtain ⟨gg1, gg2⟩ := and_e hg
  obtain ⟨gg3, gg4⟩ := and_e gg2
  obtain ⟨gg5, gg6⟩ := and_e gg4
  obtain ⟨gg7, gg8⟩ := and_e gg6
  obtain ⟨w0, w1, w2, w3, rfl⟩ : ∃ w0 w1 w2 w3 : Value, args = #[w0, w1, w2, w3] := by
    have hs : args.size = 4 := by simpa [Cond.value, given_1] using gg1
    obtain ⟨L⟩ := args
    match L, hs with
    | [w0, w1, w2, w3], _ => exact ⟨w0, w1, w2, w3, rfl⟩
  have hw := fun d (hd : d ∈ tables_1) => atoms_spec (ws := Jvm.Cond.code x code maxLocals ret :: tables_1) hat d (List.mem_cons_of_mem _ hd)
  have hfit : Fit s := fun {y c} hc i hi => by
    obtain ⟨ha, rfl⟩ := Array.getElem?_eq_some_iff.mp hc
    have q := List.all_eq_true.mp ((Array.all_eq_true_iff_forall_mem.mp hF) _ (Array.getElem_mem ha)) i (List.mem_range.mpr hi)
    simpa [Array.getElem?_eq_getElem hi] using q
  obtain ⟨i0, ei0⟩ := is_v gg3
  obtain rfl : w0 = (.int i0) := Option.some.inj ei0
  obtain ⟨i1, ei1⟩ := isL_v gg5
  obtain rfl : w1 = (.long i1) := Option.some.inj ei1
  obtain ⟨i2, ei2⟩ := is_v gg7
  obtain rfl : w2 = (.int i2) := Option.some.inj ei2
  obtain ⟨i3, ei3⟩ := is_v gg8
  obtain rfl : w3 = (.int i3) := Option.some.inj ei3
  obtain ⟨hsets, hown0⟩ := atoms_of _ (rest_1_c_eq ▸ (show rest_1_c.before _ s = true from hrest))
  obtain ⟨cs, ecs⟩ := is_v (Cond.before_iff.mp (hsets _ (List.mem_of_getElem? (i := 1) rfl)))
  have CS := Sta.start ecs (Or.inl (hsets _ (List.mem_of_getElem? (i := 0) rfl)))
  have hcs : ¬ cs = (0 : Int32) := gotF (Cond.eq_ints ecs (Term.int_eval 0)) (not_v (Cond.before_iff.mp (hsets _ (List.mem_of_getElem? (i := 2) rfl))))
  obtain ⟨fm, efm, hr_fm⟩ := isR_v (Cond.before_iff.mp (hsets _ (List.mem_of_getElem? (i := 8) rfl)))
  have FM := Sta.start efm (Or.inl (hsets _ (List.mem_of_getElem? (i := 7) rfl)))
  obtain ⟨n, o, h1, h2, h3, _, L, rfl, ⟨z, rfl, rfl, N⟩, hq⟩ := rm0 l s _ hw tables_1 i0 i1 i2 i3 cs fm s.heap s.heap.size (Nat.le_refl _) CS hcs FM hr_fm p e ha hc hk s m _ below hf ((Spec.applies_iff_loose hf).mp happ).1 ⟨rfl, State.Warmed39.refl s, rfl⟩ trivial
  refine ⟨n, _, h1, h2, h3, hpost _ _ _ _ _ _ ⟨Cond.after_iff.mpr rfl, Cond.after_iff.mpr (eq_i res_at (Term.int_eval (1)) rfl), trivial⟩ ⟨hq.1, hq.2.1, (hq.2.2.sift fun y hy => Or.inr (N y hy)).mono (by decide) (by decide)⟩⟩
theorem main_1_1 : Claimed_1_1 := comes_1 fun _ _ _ _ _ _ h hF => ⟨h.1, hF⟩
theorem main_1_2 : Claimed_1_2 := comes_1 fun _ _ _ _ _ _ h hF => ⟨h.2.1, hF⟩
end Jvm.Pilot.@@N@@
namespace Jvm.Pilot.@@N@@
open Jvm Jvm.ClassFile Sem Op Lib Jvm.Free Jvm.Stand Jvm.Pilot.@@N@@.Jvm.D
/-! MADE BY PROGRAM (witnessworld.py) out of the Statement's table words and the real class files: 24 classes; the members and pool entries that the words name. The judged class is class 1, her method 1. -/
namespace start1
open Jvm.ClassFile
def u (s : String) : CpInfo := .utf8 (stringToUtf16 s)
/-- a pool by its gaps: so many unusable entries, then the entry; so many at the end -/
def gap : Nat → List CpInfo → List CpInfo
  | 0, r => r
  | n + 1, r => .unusable :: gap n r
def poolList (es : List (Nat × CpInfo)) (last : Nat) : List CpInfo := es.foldr (fun e r => gap e.1 (e.2 :: r)) (gap last [])
def pool (es : List (Nat × CpInfo)) (last : Nat) : Array CpInfo := ⟨poolList es last⟩
def fileOf (pool : Array CpInfo) (this : Nat) (attrs : Array Attribute := #[]) (ms : Array MethodInfo := #[]) (fl : Nat := 33) (sup : Nat := 0) (ifs : Array Nat := #[]) (fds : Array FieldInfo := #[]) : ClassFile where
  minorVersion := 0
  majorVersion := 65
  constantPool := pool
  accessFlags := fl
  thisClass := this
  superClass := sup
  interfaces := ifs
  fields := fds
  methods := ms
  attributes := attrs
def plain (name : String) (sup : Option ClassId) : Class where
  name := name
  kind := .ordinary
  loader := none
  accessFlags := 33
  super := sup
  interfaces := #[]
  cf := none
  fields := #[]
  methods := #[]
  instanceTypes := #[]
  staticTypes := #[]
  resolved := #[]
  callSites := []
  init := .initialized
  statics := none
  mirror := none

def pool0 : Array CpInfo := pool [(5, u "<init>"), (0, u "()V"), (1, .class_ 10), (1, u "java/lang/Object")] 113

def k0c0 : Code := { maxStack := 0, maxLocals := 1, code := object_method_1_code, exceptionTable := #[], attributes := #[] }
def k0m0 : Method := { name := "<init>", desc := "()V", sig := { parameters := [], returnType := none }, accessFlags := 1, code := some k0c0 }
/-- java/lang/Object -/
def k0 : Class := { plain "java/lang/Object" none with
  accessFlags := 33
  interfaces := #[]
  cf := some (fileOf pool0 8 #[] #[{ accessFlags := 1, nameIndex := 5, descriptorIndex := 6, attributes := #[] }] 33 0 #[] #[])
  fields := #[]
  methods := #[k0m0]
  instanceTypes := #[]
  staticTypes := #[]
  resolved := Array.replicate 124 none
  statics := none }

def pool1 : Array CpInfo := pool [(2, .class_ 4), (1, u "java/lang/Object"), (0, u "<init>"), (0, u "()V"), (0, .integer 2147483647), (0, .methodref 9 10), (0, .class_ 11), (0, .nameAndType 12 13), (0, u "com/example/twince/twince/IdempotencyKeyParsePinLaw"), (0, u "at"), (0, u "(IIIIJI)C"), (0, .class_ 15), (0, u "java/lang/String"), (0, .methodref 14 17), (0, .nameAndType 5 18), (0, u "([C)V"), (0, .methodref 20 21), (0, .class_ 22), (0, .nameAndType 23 24), (0, u "com/example/twince/twince/IdempotencyKey"), (0, u "parse"), (0, u "(Ljava/lang/String;I)Lcom/example/twince/twince/IdempotencyKey;"), (0, .methodref 20 26), (0, .nameAndType 27 28), (0, u "value"), (0, u "()Ljava/lang/String;"), (0, .methodref 14 30), (0, .nameAndType 31 32), (0, u "length"), (0, u "()I"), (0, .methodref 9 34), (0, .nameAndType 35 36), (0, u "same"), (0, u "(Ljava/lang/String;IIJ)Z"), (0, .methodref 14 38), (0, .nameAndType 39 40), (0, u "charAt"), (0, u "(I)C"), (0, .methodref 9 42), (0, .nameAndType 43 44), (0, u "keyChar"), (0, u "(JI)C"), (0, .methodref 9 46), (0, .nameAndType 47 48), (0, u "blank"), (0, u "(II)C"), (0, .long 127), (3, u "law"), (0, u "(IJII)Z")] 8

def k1m0 : Method := { name := "<init>", desc := "()V", sig := { parameters := [], returnType := none }, accessFlags := 1, code := none }
def k1c1 : Code := { maxStack := 9, maxLocals := 13, code := code, exceptionTable := #[], attributes := #[] }
def k1m1 : Method := { name := "law", desc := "(IJII)Z", sig := { parameters := [.int, .long, .int, .int], returnType := some .boolean }, accessFlags := 9, code := some k1c1 }
def k1c2 : Code := { maxStack := 4, maxLocals := 5, code := method_3_code, exceptionTable := #[], attributes := #[] }
def k1m2 : Method := { name := "same", desc := "(Ljava/lang/String;IIJ)Z", sig := { parameters := [(.object "java/lang/String"), .int, .int, .long], returnType := some .boolean }, accessFlags := 10, code := some k1c2 }
def k1c3 : Code := { maxStack := 4, maxLocals := 8, code := method_4_code, exceptionTable := #[], attributes := #[] }
def k1m3 : Method := { name := "at", desc := "(IIIIJI)C", sig := { parameters := [.int, .int, .int, .int, .long, .int], returnType := some .char }, accessFlags := 10, code := some k1c3 }
def k1c4 : Code := { maxStack := 2, maxLocals := 2, code := method_5_code, exceptionTable := #[], attributes := #[] }
def k1m4 : Method := { name := "blank", desc := "(II)C", sig := { parameters := [.int, .int], returnType := some .char }, accessFlags := 10, code := some k1c4 }
def k1c5 : Code := { maxStack := 4, maxLocals := 4, code := method_6_code, exceptionTable := #[], attributes := #[] }
def k1m5 : Method := { name := "keyChar", desc := "(JI)C", sig := { parameters := [.long, .int], returnType := some .char }, accessFlags := 10, code := some k1c5 }
/-- com/example/twince/twince/IdempotencyKeyParsePinLaw -/
def k1 : Class := { plain "com/example/twince/twince/IdempotencyKeyParsePinLaw" (some 0) with
  accessFlags := 49
  interfaces := #[]
  cf := some (fileOf pool1 9 #[] #[{ accessFlags := 1, nameIndex := 5, descriptorIndex := 6, attributes := #[] }, { accessFlags := 9, nameIndex := 53, descriptorIndex := 54, attributes := #[] }, { accessFlags := 10, nameIndex := 35, descriptorIndex := 36, attributes := #[] }, { accessFlags := 10, nameIndex := 12, descriptorIndex := 13, attributes := #[] }, { accessFlags := 10, nameIndex := 47, descriptorIndex := 48, attributes := #[] }, { accessFlags := 10, nameIndex := 43, descriptorIndex := 44, attributes := #[] }] 49 2 #[] #[])
  fields := #[]
  methods := #[k1m0, k1m1, k1m2, k1m3, k1m4, k1m5]
  instanceTypes := #[]
  staticTypes := #[]
  resolved := Array.replicate 63 none
  statics := none }

def pool2 : Array CpInfo := pool [(1, .class_ 2), (0, u "java/io/Serializable"), (0, .class_ 4), (0, u "java/lang/Object")] 2

/-- java/io/Serializable -/
def k2 : Class := { plain "java/io/Serializable" (some 0) with
  accessFlags := 1537
  interfaces := #[]
  cf := some (fileOf pool2 1 #[] #[] 1537 3 #[] #[])
  fields := #[]
  methods := #[]
  instanceTypes := #[]
  staticTypes := #[]
  resolved := Array.replicate 7 none
  statics := none }

def pool3 : Array CpInfo := pool [(1, .class_ 2), (0, u "java/lang/Comparable"), (0, .class_ 4), (0, u "java/lang/Object")] 7

/-- java/lang/Comparable -/
def k3 : Class := { plain "java/lang/Comparable" (some 0) with
  accessFlags := 1537
  interfaces := #[]
  cf := some (fileOf pool3 1 #[] #[] 1537 3 #[] #[])
  fields := #[]
  methods := #[]
  instanceTypes := #[]
  staticTypes := #[]
  resolved := Array.replicate 12 none
  statics := none }

def pool4 : Array CpInfo := pool [(2, .class_ 4), (1, u "java/lang/CharSequence"), (42, .class_ 48), (0, u "java/lang/CharSequence$1CodePointIterator"), (10, .class_ 60), (0, u "java/lang/CharSequence$1CharIterator"), (5, .class_ 67), (0, u "java/lang/Object")] 63

/-- java/lang/CharSequence -/
def k4 : Class := { plain "java/lang/CharSequence" (some 0) with
  accessFlags := 1537
  interfaces := #[]
  cf := some (fileOf pool4 2 #[.nestMembers #[47, 59]] #[] 1537 66 #[] #[])
  fields := #[]
  methods := #[]
  instanceTypes := #[]
  staticTypes := #[]
  resolved := Array.replicate 131 none
  statics := none }

def pool5 : Array CpInfo := pool [(1, .class_ 2), (0, u "java/lang/constant/Constable"), (0, .class_ 4), (0, u "java/lang/Object")] 6

/-- java/lang/constant/Constable -/
def k5 : Class := { plain "java/lang/constant/Constable" (some 0) with
  accessFlags := 1537
  interfaces := #[]
  cf := some (fileOf pool5 1 #[] #[] 1537 3 #[] #[])
  fields := #[]
  methods := #[]
  instanceTypes := #[]
  staticTypes := #[]
  resolved := Array.replicate 11 none
  statics := none }

def pool6 : Array CpInfo := pool [(1, .class_ 2), (0, u "java/lang/constant/ConstantDesc"), (0, .class_ 4), (0, u "java/lang/Object")] 32

/-- java/lang/constant/ConstantDesc -/
def k6 : Class := { plain "java/lang/constant/ConstantDesc" (some 0) with
  accessFlags := 1537
  interfaces := #[]
  cf := some (fileOf pool6 1 #[] #[] 1537 3 #[] #[])
  fields := #[]
  methods := #[]
  instanceTypes := #[]
  staticTypes := #[]
  resolved := Array.replicate 37 none
  statics := none }

def pool7 : Array CpInfo := pool [(1, .methodref 2 3), (0, .class_ 4), (0, .nameAndType 5 6), (0, u "java/lang/Object"), (0, u "<init>"), (0, u "()V"), (2, .fieldref 10 11), (0, .class_ 12), (0, .nameAndType 13 14), (0, u "java/lang/String"), (0, u "value"), (0, u "[B"), (0, .fieldref 10 16), (0, .nameAndType 17 18), (0, u "coder"), (0, u "B"), (2, u "hash"), (0, u "I"), (2, u "hashIsZero"), (0, u "Z"), (0, .methodref 10 28), (0, .nameAndType 5 29), (0, u "([CIILjava/lang/Void;)V"), (8, .fieldref 10 39), (0, .nameAndType 40 26), (0, u "COMPACT_STRINGS"), (1, .class_ 44), (1, u "java/lang/StringUTF16"), (0, u "compress"), (1, .methodref 42 48), (0, .nameAndType 49 50), (0, u "coderFromArrayLen"), (0, u "([BI)B"), (56, .class_ 109), (1, u "java/lang/StringLatin1"), (32, u "()Z"), (34, .methodref 42 178), (0, .nameAndType 45 179), (0, u "([CII)[B"), (31, u "([BB)V"), (122, u "()I"), (0, .methodref 10 336), (0, .nameAndType 17 337), (0, u "()B"), (25, u "([BI)C"), (27, u "(II)V"), (35, u "(I)C"), (64, .methodref 10 493), (0, .nameAndType 494 142), (0, u "isLatin1"), (0, .methodref 107 496), (0, .nameAndType 497 363), (0, u "charAt"), (3, u "checkIndex"), (3, .methodref 10 506), (0, .nameAndType 507 334), (0, u "length"), (5, u "checkFromToIndex"), (7, .methodref 10 522), (0, .nameAndType 523 524), (0, u "checkBoundsBeginEnd"), (0, u "(III)V"), (50, .class_ 576), (0, u "java/lang/CharSequence"), (22, u "CASE_INSENSITIVE_ORDER"), (0, u "Ljava/util/Comparator;"), (82, u "substring"), (0, u "(II)Ljava/lang/String;"), (0, .methodref 107 686), (0, .nameAndType 687 688), (0, u "newString"), (0, u "([BII)Ljava/lang/String;"), (321, u "([C)V"), (42, .fieldref 1054 1055), (0, .class_ 1056), (0, .nameAndType 1057 1058), (0, u "jdk/internal/util/Preconditions"), (0, u "SIOOBE_FORMATTER"), (0, u "Ljava/util/function/BiFunction;"), (0, .methodref 1054 1060), (0, .nameAndType 501 1061), (0, u "(IILjava/util/function/BiFunction;)I"), (0, .methodref 1054 1063), (0, .nameAndType 513 1064), (0, u "(IIILjava/util/function/BiFunction;)I"), (36, u "serialPersistentFields"), (0, u "[Ljava/io/ObjectStreamField;"), (0, .class_ 1104), (0, u "java/lang/String$CaseInsensitiveComparator"), (1, .class_ 1107), (0, u "java/io/Serializable"), (0, .class_ 1109), (0, u "java/lang/Comparable"), (0, .class_ 1111), (0, u "java/lang/constant/Constable"), (0, .class_ 1113), (0, u "java/lang/constant/ConstantDesc"), (2, u "serialVersionUID"), (0, u "J"), (3, u "REPL"), (0, u "C"), (2, u "LATIN1"), (1, u "UTF16")] 323

def k7m0 : Method := { name := "<init>", desc := "()V", sig := { parameters := [], returnType := none }, accessFlags := 1, code := none }
def k7c1 : Code := { maxStack := 5, maxLocals := 2, code := jdk_42_method_3_code, exceptionTable := #[], attributes := #[] }
def k7m1 : Method := { name := "<init>", desc := "([C)V", sig := { parameters := [(.array .char)], returnType := none }, accessFlags := 1, code := some k7c1 }
def k7c2 : Code := { maxStack := 2, maxLocals := 1, code := jdk_42_method_54_code, exceptionTable := #[], attributes := #[] }
def k7m2 : Method := { name := "length", desc := "()I", sig := { parameters := [], returnType := some .int }, accessFlags := 1, code := some k7c2 }
def k7c3 : Code := { maxStack := 2, maxLocals := 2, code := jdk_42_method_56_code, exceptionTable := #[], attributes := #[] }
def k7m3 : Method := { name := "charAt", desc := "(I)C", sig := { parameters := [.int], returnType := some .char }, accessFlags := 1, code := some k7c3 }
def k7c4 : Code := { maxStack := 3, maxLocals := 5, code := jdk_42_method_92_code, exceptionTable := #[], attributes := #[] }
def k7m4 : Method := { name := "substring", desc := "(II)Ljava/lang/String;", sig := { parameters := [.int, .int], returnType := some (.object "java/lang/String") }, accessFlags := 1, code := some k7c4 }
def k7c5 : Code := { maxStack := 4, maxLocals := 6, code := jdk_42_method_149_code, exceptionTable := #[], attributes := #[] }
def k7m5 : Method := { name := "<init>", desc := "([CIILjava/lang/Void;)V", sig := { parameters := [(.array .char), .int, .int, (.object "java/lang/Void")], returnType := none }, accessFlags := 2, code := some k7c5 }
def k7c6 : Code := { maxStack := 2, maxLocals := 3, code := jdk_42_method_151_code, exceptionTable := #[], attributes := #[] }
def k7m6 : Method := { name := "<init>", desc := "([BB)V", sig := { parameters := [(.array .byte), .byte], returnType := none }, accessFlags := 0, code := some k7c6 }
def k7c7 : Code := { maxStack := 1, maxLocals := 1, code := jdk_42_method_152_code, exceptionTable := #[], attributes := #[] }
def k7m7 : Method := { name := "coder", desc := "()B", sig := { parameters := [], returnType := some .byte }, accessFlags := 0, code := some k7c7 }
def k7c8 : Code := { maxStack := 1, maxLocals := 1, code := jdk_42_method_154_code, exceptionTable := #[], attributes := #[] }
def k7m8 : Method := { name := "isLatin1", desc := "()Z", sig := { parameters := [], returnType := some .boolean }, accessFlags := 0, code := some k7c8 }
def k7c9 : Code := { maxStack := 3, maxLocals := 2, code := jdk_42_method_155_code, exceptionTable := #[], attributes := #[] }
def k7m9 : Method := { name := "checkIndex", desc := "(II)V", sig := { parameters := [.int, .int], returnType := none }, accessFlags := 8, code := some k7c9 }
def k7c10 : Code := { maxStack := 4, maxLocals := 3, code := jdk_42_method_158_code, exceptionTable := #[], attributes := #[] }
def k7m10 : Method := { name := "checkBoundsBeginEnd", desc := "(III)V", sig := { parameters := [.int, .int, .int], returnType := none }, accessFlags := 8, code := some k7c10 }
/-- java/lang/String -/
def k7 : Class := { plain "java/lang/String" (some 0) with
  accessFlags := 49
  interfaces := #[2, 3, 4, 5, 6]
  cf := some (fileOf pool7 10 #[.nestMembers #[1103]] #[{ accessFlags := 1, nameIndex := 5, descriptorIndex := 6, attributes := #[] }, { accessFlags := 1, nameIndex := 5, descriptorIndex := 1010, attributes := #[] }, { accessFlags := 1, nameIndex := 507, descriptorIndex := 334, attributes := #[] }, { accessFlags := 1, nameIndex := 497, descriptorIndex := 427, attributes := #[] }, { accessFlags := 1, nameIndex := 683, descriptorIndex := 684, attributes := #[] }, { accessFlags := 2, nameIndex := 5, descriptorIndex := 29, attributes := #[] }, { accessFlags := 0, nameIndex := 5, descriptorIndex := 211, attributes := #[] }, { accessFlags := 0, nameIndex := 17, descriptorIndex := 337, attributes := #[] }, { accessFlags := 0, nameIndex := 494, descriptorIndex := 142, attributes := #[] }, { accessFlags := 8, nameIndex := 501, descriptorIndex := 391, attributes := #[] }, { accessFlags := 8, nameIndex := 523, descriptorIndex := 524, attributes := #[] }] 49 2 #[1106, 1108, 575, 1110, 1112] #[{ accessFlags := 18, nameIndex := 13, descriptorIndex := 14, attributes := #[] }, { accessFlags := 18, nameIndex := 17, descriptorIndex := 18, attributes := #[] }, { accessFlags := 2, nameIndex := 21, descriptorIndex := 22, attributes := #[] }, { accessFlags := 2, nameIndex := 25, descriptorIndex := 26, attributes := #[] }, { accessFlags := 26, nameIndex := 1116, descriptorIndex := 1117, attributes := #[] }, { accessFlags := 24, nameIndex := 40, descriptorIndex := 26, attributes := #[] }, { accessFlags := 26, nameIndex := 1101, descriptorIndex := 1102, attributes := #[] }, { accessFlags := 26, nameIndex := 1121, descriptorIndex := 1122, attributes := #[] }, { accessFlags := 25, nameIndex := 599, descriptorIndex := 600, attributes := #[] }, { accessFlags := 24, nameIndex := 1125, descriptorIndex := 18, attributes := #[] }, { accessFlags := 24, nameIndex := 1127, descriptorIndex := 18, attributes := #[] }])
  fields := #[{ name := "value", type := (.array .byte), accessFlags := 18, slot := 0, constantValue := 0 }, { name := "coder", type := .byte, accessFlags := 18, slot := 1, constantValue := 0 }, { name := "hash", type := .int, accessFlags := 2, slot := 2, constantValue := 0 }, { name := "hashIsZero", type := .boolean, accessFlags := 2, slot := 3, constantValue := 0 }, { name := "serialVersionUID", type := .long, accessFlags := 26, slot := 0, constantValue := 0 }, { name := "COMPACT_STRINGS", type := .boolean, accessFlags := 24, slot := 1, constantValue := 0 }, { name := "serialPersistentFields", type := (.array (.object "java/io/ObjectStreamField")), accessFlags := 26, slot := 2, constantValue := 0 }, { name := "REPL", type := .char, accessFlags := 26, slot := 3, constantValue := 0 }, { name := "CASE_INSENSITIVE_ORDER", type := (.object "java/util/Comparator"), accessFlags := 25, slot := 4, constantValue := 0 }, { name := "LATIN1", type := .byte, accessFlags := 24, slot := 5, constantValue := 0 }, { name := "UTF16", type := .byte, accessFlags := 24, slot := 6, constantValue := 0 }]
  methods := #[k7m0, k7m1, k7m2, k7m3, k7m4, k7m5, k7m6, k7m7, k7m8, k7m9, k7m10]
  instanceTypes := #[(.array .byte), .byte, .int, .boolean]
  staticTypes := #[.long, .boolean, (.array (.object "java/io/ObjectStreamField")), .char, (.object "java/util/Comparator"), .byte, .byte]
  resolved := Array.replicate 1451 none
  statics := some 0 }

def pool8 : Array CpInfo := pool [(6, .class_ 8), (1, u "java/lang/Object"), (0, u "<init>"), (0, u "()V"), (1, .class_ 14), (1, u "java/lang/StringUTF16"), (31, u "$assertionsDisabled"), (0, u "Z"), (13, u "HI_BYTE_SHIFT"), (0, u "I"), (2, u "LO_BYTE_SHIFT"), (49, .methodref 12 116), (0, .nameAndType 117 118), (0, u "compress"), (0, u "([CI[BII)I"), (3, u "([CII)[B"), (138, u "coderFromArrayLen"), (0, u "([BI)B"), (106, .class_ 371), (1, u "java/lang/StringUTF16$LinesSpliterator"), (58, u "MAX_LENGTH"), (196, .class_ 628), (0, u "java/lang/StringUTF16$CodePointsSpliterator"), (0, .class_ 630), (0, u "java/lang/StringUTF16$CharsSpliterator")] 4

def k8m0 : Method := { name := "<init>", desc := "()V", sig := { parameters := [], returnType := none }, accessFlags := 0, code := none }
def k8c1 : Code := { maxStack := 2, maxLocals := 2, code := jdk_52_method_15_code, exceptionTable := #[], attributes := #[] }
def k8m1 : Method := { name := "coderFromArrayLen", desc := "([BI)B", sig := { parameters := [(.array .byte), .int], returnType := some .byte }, accessFlags := 8, code := some k8c1 }
def k8c2 : Code := { maxStack := 5, maxLocals := 6, code := jdk_52_method_16_code, exceptionTable := #[], attributes := #[] }
def k8m2 : Method := { name := "compress", desc := "([CII)[B", sig := { parameters := [(.array .char), .int, .int], returnType := some (.array .byte) }, accessFlags := 9, code := some k8c2 }
def k8c3 : Code := { maxStack := 3, maxLocals := 7, code := jdk_52_method_21_code, exceptionTable := #[], attributes := #[] }
def k8m3 : Method := { name := "compress", desc := "([CI[BII)I", sig := { parameters := [(.array .char), .int, (.array .byte), .int, .int], returnType := some .int }, accessFlags := 9, code := some k8c3 }
/-- java/lang/StringUTF16 -/
def k8 : Class := { plain "java/lang/StringUTF16" (some 0) with
  accessFlags := 48
  interfaces := #[]
  cf := some (fileOf pool8 12 #[.nestMembers #[627, 629, 369]] #[{ accessFlags := 0, nameIndex := 9, descriptorIndex := 10, attributes := #[] }, { accessFlags := 8, nameIndex := 261, descriptorIndex := 262, attributes := #[] }, { accessFlags := 9, nameIndex := 117, descriptorIndex := 122, attributes := #[] }, { accessFlags := 9, nameIndex := 117, descriptorIndex := 118, attributes := #[] }] 48 6 #[] #[{ accessFlags := 26, nameIndex := 61, descriptorIndex := 62, attributes := #[] }, { accessFlags := 26, nameIndex := 65, descriptorIndex := 62, attributes := #[] }, { accessFlags := 24, nameIndex := 430, descriptorIndex := 62, attributes := #[] }, { accessFlags := 4120, nameIndex := 46, descriptorIndex := 47, attributes := #[] }])
  fields := #[{ name := "HI_BYTE_SHIFT", type := .int, accessFlags := 26, slot := 0, constantValue := 0 }, { name := "LO_BYTE_SHIFT", type := .int, accessFlags := 26, slot := 1, constantValue := 0 }, { name := "MAX_LENGTH", type := .int, accessFlags := 24, slot := 2, constantValue := 0 }, { name := "$assertionsDisabled", type := .boolean, accessFlags := 4120, slot := 3, constantValue := 0 }]
  methods := #[k8m0, k8m1, k8m2, k8m3]
  instanceTypes := #[]
  staticTypes := #[.int, .int, .int, .boolean]
  resolved := Array.replicate 635 none
  statics := none }

def pool9 : Array CpInfo := pool [(1, .methodref 2 3), (0, .class_ 4), (0, .nameAndType 5 6), (0, u "java/lang/Object"), (0, u "<init>"), (0, u "()V"), (0, .fieldref 8 9), (0, .class_ 10), (0, .nameAndType 11 12), (0, u "com/example/twince/twince/IdempotencyKey"), (0, u "value"), (0, u "Ljava/lang/String;"), (0, .methodref 14 15), (0, .class_ 16), (0, .nameAndType 17 18), (0, u "java/util/Objects"), (0, u "requireNonNull"), (0, u "(Ljava/lang/Object;)Ljava/lang/Object;"), (0, .methodref 8 20), (0, .nameAndType 21 22), (0, u "checkMinLength"), (0, u "(I)I"), (0, .methodref 24 25), (0, .class_ 26), (0, .nameAndType 27 28), (0, u "java/lang/String"), (0, u "length"), (0, u "()I"), (0, .methodref 24 30), (0, .nameAndType 31 32), (0, u "charAt"), (0, u "(I)C"), (0, .methodref 8 34), (0, .nameAndType 35 36), (0, u "isBlank"), (0, u "(C)Z"), (5, u "()Ljava/lang/String;"), (1, .nameAndType 5 45), (0, u "(Ljava/lang/String;)V"), (0, .methodref 8 47), (0, .nameAndType 48 36), (0, u "isKeyCharacter"), (7, .methodref 24 57), (0, .nameAndType 58 59), (0, u "substring"), (0, u "(II)Ljava/lang/String;"), (0, .methodref 8 44), (13, u "DEFAULT_MIN_LENGTH"), (0, u "I"), (2, u "MAX_LENGTH"), (3, u "parse"), (0, u "(Ljava/lang/String;I)Lcom/example/twince/twince/IdempotencyKey;")] 24

def k9c0 : Code := { maxStack := 2, maxLocals := 2, code := prog_6_method_1_code, exceptionTable := #[], attributes := #[] }
def k9m0 : Method := { name := "<init>", desc := "(Ljava/lang/String;)V", sig := { parameters := [(.object "java/lang/String")], returnType := none }, accessFlags := 2, code := some k9c0 }
def k9c1 : Code := { maxStack := 5, maxLocals := 8, code := prog_6_method_2_code, exceptionTable := #[], attributes := #[] }
def k9m1 : Method := { name := "parse", desc := "(Ljava/lang/String;I)Lcom/example/twince/twince/IdempotencyKey;", sig := { parameters := [(.object "java/lang/String"), .int], returnType := some (.object "com/example/twince/twince/IdempotencyKey") }, accessFlags := 9, code := some k9c1 }
def k9c2 : Code := { maxStack := 3, maxLocals := 1, code := prog_6_method_3_code, exceptionTable := #[], attributes := #[] }
def k9m2 : Method := { name := "checkMinLength", desc := "(I)I", sig := { parameters := [.int], returnType := some .int }, accessFlags := 9, code := some k9c2 }
def k9c3 : Code := { maxStack := 2, maxLocals := 1, code := prog_6_method_4_code, exceptionTable := #[], attributes := #[] }
def k9m3 : Method := { name := "isBlank", desc := "(C)Z", sig := { parameters := [.char], returnType := some .boolean }, accessFlags := 10, code := some k9c3 }
def k9c4 : Code := { maxStack := 2, maxLocals := 1, code := prog_6_method_5_code, exceptionTable := #[], attributes := #[] }
def k9m4 : Method := { name := "isKeyCharacter", desc := "(C)Z", sig := { parameters := [.char], returnType := some .boolean }, accessFlags := 10, code := some k9c4 }
def k9c5 : Code := { maxStack := 1, maxLocals := 1, code := prog_6_method_7_code, exceptionTable := #[], attributes := #[] }
def k9m5 : Method := { name := "value", desc := "()Ljava/lang/String;", sig := { parameters := [], returnType := some (.object "java/lang/String") }, accessFlags := 1, code := some k9c5 }
/-- com/example/twince/twince/IdempotencyKey -/
def k9 : Class := { plain "com/example/twince/twince/IdempotencyKey" (some 0) with
  accessFlags := 49
  interfaces := #[]
  cf := some (fileOf pool9 8 #[] #[{ accessFlags := 2, nameIndex := 5, descriptorIndex := 45, attributes := #[] }, { accessFlags := 9, nameIndex := 82, descriptorIndex := 83, attributes := #[] }, { accessFlags := 9, nameIndex := 21, descriptorIndex := 22, attributes := #[] }, { accessFlags := 10, nameIndex := 35, descriptorIndex := 36, attributes := #[] }, { accessFlags := 10, nameIndex := 48, descriptorIndex := 36, attributes := #[] }, { accessFlags := 1, nameIndex := 11, descriptorIndex := 42, attributes := #[] }] 49 2 #[] #[{ accessFlags := 25, nameIndex := 74, descriptorIndex := 75, attributes := #[] }, { accessFlags := 25, nameIndex := 78, descriptorIndex := 75, attributes := #[] }, { accessFlags := 18, nameIndex := 11, descriptorIndex := 12, attributes := #[] }])
  fields := #[{ name := "DEFAULT_MIN_LENGTH", type := .int, accessFlags := 25, slot := 0, constantValue := 0 }, { name := "MAX_LENGTH", type := .int, accessFlags := 25, slot := 1, constantValue := 0 }, { name := "value", type := (.object "java/lang/String"), accessFlags := 18, slot := 0, constantValue := 0 }]
  methods := #[k9m0, k9m1, k9m2, k9m3, k9m4, k9m5]
  instanceTypes := #[(.object "java/lang/String")]
  staticTypes := #[.int, .int]
  resolved := Array.replicate 108 none
  statics := none }

def pool10 : Array CpInfo := pool [(2, .class_ 4), (1, u "java/lang/Object"), (0, u "<init>"), (0, u "()V"), (35, .class_ 44), (1, u "java/util/Objects"), (0, u "requireNonNull"), (0, u "(Ljava/lang/Object;)Ljava/lang/Object;")] 137

def k10m0 : Method := { name := "<init>", desc := "()V", sig := { parameters := [], returnType := none }, accessFlags := 2, code := none }
def k10c1 : Code := { maxStack := 2, maxLocals := 1, code := jdk_31_method_10_code, exceptionTable := #[], attributes := #[] }
def k10m1 : Method := { name := "requireNonNull", desc := "(Ljava/lang/Object;)Ljava/lang/Object;", sig := { parameters := [(.object "java/lang/Object")], returnType := some (.object "java/lang/Object") }, accessFlags := 9, code := some k10c1 }
/-- java/util/Objects -/
def k10 : Class := { plain "java/util/Objects" (some 0) with
  accessFlags := 49
  interfaces := #[]
  cf := some (fileOf pool10 42 #[] #[{ accessFlags := 2, nameIndex := 5, descriptorIndex := 6, attributes := #[] }, { accessFlags := 9, nameIndex := 45, descriptorIndex := 46, attributes := #[] }] 49 2 #[] #[])
  fields := #[]
  methods := #[k10m0, k10m1]
  instanceTypes := #[]
  staticTypes := #[]
  resolved := Array.replicate 184 none
  statics := none }

def pool11 : Array CpInfo := pool [(1, .class_ 2), (0, u "java/lang/String"), (1, .class_ 6), (1, u "java/lang/Object"), (0, u "<init>"), (0, u "()V"), (0, .methodref 1 10), (0, .nameAndType 11 12), (0, u "checkIndex"), (0, u "(II)V"), (1, .class_ 16), (1, u "java/lang/StringLatin1"), (36, u "([BI)C"), (58, .methodref 1 113), (0, .nameAndType 7 114), (0, u "([BB)V"), (6, u "$assertionsDisabled"), (0, u "Z"), (8, .class_ 133), (1, u "java/util/Arrays"), (62, u "newString"), (0, u "([BII)Ljava/lang/String;"), (23, .class_ 223), (1, u "java/lang/StringLatin1$LinesSpliterator"), (8, .methodref 131 233), (0, .nameAndType 234 235), (0, u "copyOfRange"), (0, u "([BII)[B"), (16, u "charAt"), (137, .class_ 391), (0, u "java/lang/StringLatin1$CharsSpliterator")] 3

def k11m0 : Method := { name := "<init>", desc := "()V", sig := { parameters := [], returnType := none }, accessFlags := 0, code := none }
def k11c1 : Code := { maxStack := 2, maxLocals := 2, code := jdk_43_method_2_code, exceptionTable := #[], attributes := #[] }
def k11m1 : Method := { name := "charAt", desc := "([BI)C", sig := { parameters := [(.array .byte), .int], returnType := some .char }, accessFlags := 9, code := some k11c1 }
def k11c2 : Code := { maxStack := 6, maxLocals := 3, code := jdk_43_method_47_code, exceptionTable := #[], attributes := #[] }
def k11m2 : Method := { name := "newString", desc := "([BII)Ljava/lang/String;", sig := { parameters := [(.array .byte), .int, .int], returnType := some (.object "java/lang/String") }, accessFlags := 9, code := some k11c2 }
/-- java/lang/StringLatin1 -/
def k11 : Class := { plain "java/lang/StringLatin1" (some 0) with
  accessFlags := 48
  interfaces := #[]
  cf := some (fileOf pool11 14 #[.nestMembers #[390, 221]] #[{ accessFlags := 0, nameIndex := 7, descriptorIndex := 8, attributes := #[] }, { accessFlags := 9, nameIndex := 252, descriptorIndex := 53, attributes := #[] }, { accessFlags := 9, nameIndex := 196, descriptorIndex := 197, attributes := #[] }] 48 4 #[] #[{ accessFlags := 4120, nameIndex := 121, descriptorIndex := 122, attributes := #[] }])
  fields := #[{ name := "$assertionsDisabled", type := .boolean, accessFlags := 4120, slot := 0, constantValue := 0 }]
  methods := #[k11m0, k11m1, k11m2]
  instanceTypes := #[]
  staticTypes := #[.boolean]
  resolved := Array.replicate 395 none
  statics := none }

def pool12 : Array CpInfo := pool [(2, .class_ 4), (1, u "java/lang/Object"), (0, u "<init>"), (0, u "()V"), (17, .class_ 26), (1, u "jdk/internal/util/Preconditions"), (6, u "checkIndex"), (13, u "checkFromToIndex"), (7, .class_ 56), (0, u "jdk/internal/util/Preconditions$4"), (57, .class_ 115), (0, u "jdk/internal/util/Preconditions$1"), (7, u "SIOOBE_FORMATTER"), (0, u "Ljava/util/function/BiFunction;"), (0, .class_ 126), (0, u "jdk/internal/util/Preconditions$2"), (3, u "AIOOBE_FORMATTER"), (0, .class_ 132), (0, u "jdk/internal/util/Preconditions$3"), (3, u "IOOBE_FORMATTER"), (41, u "(IILjava/util/function/BiFunction;)I"), (4, u "(IIILjava/util/function/BiFunction;)I")] 10

def k12m0 : Method := { name := "<init>", desc := "()V", sig := { parameters := [], returnType := none }, accessFlags := 1, code := none }
def k12c1 : Code := { maxStack := 3, maxLocals := 3, code := jdk_41_method_11_code, exceptionTable := #[], attributes := #[] }
def k12m1 : Method := { name := "checkIndex", desc := "(IILjava/util/function/BiFunction;)I", sig := { parameters := [.int, .int, (.object "java/util/function/BiFunction")], returnType := some .int }, accessFlags := 9, code := some k12c1 }
def k12c2 : Code := { maxStack := 4, maxLocals := 4, code := jdk_41_method_12_code, exceptionTable := #[], attributes := #[] }
def k12m2 : Method := { name := "checkFromToIndex", desc := "(IIILjava/util/function/BiFunction;)I", sig := { parameters := [.int, .int, .int, (.object "java/util/function/BiFunction")], returnType := some .int }, accessFlags := 9, code := some k12c2 }
/-- jdk/internal/util/Preconditions -/
def k12 : Class := { plain "jdk/internal/util/Preconditions" (some 0) with
  accessFlags := 33
  interfaces := #[]
  cf := some (fileOf pool12 24 #[.nestMembers #[55, 131, 125, 114]] #[{ accessFlags := 1, nameIndex := 5, descriptorIndex := 6, attributes := #[] }, { accessFlags := 9, nameIndex := 33, descriptorIndex := 178, attributes := #[] }, { accessFlags := 9, nameIndex := 47, descriptorIndex := 183, attributes := #[] }] 33 2 #[] #[{ accessFlags := 25, nameIndex := 123, descriptorIndex := 124, attributes := #[] }, { accessFlags := 25, nameIndex := 130, descriptorIndex := 124, attributes := #[] }, { accessFlags := 25, nameIndex := 136, descriptorIndex := 124, attributes := #[] }])
  fields := #[{ name := "SIOOBE_FORMATTER", type := (.object "java/util/function/BiFunction"), accessFlags := 25, slot := 0, constantValue := 0 }, { name := "AIOOBE_FORMATTER", type := (.object "java/util/function/BiFunction"), accessFlags := 25, slot := 1, constantValue := 0 }, { name := "IOOBE_FORMATTER", type := (.object "java/util/function/BiFunction"), accessFlags := 25, slot := 2, constantValue := 0 }]
  methods := #[k12m0, k12m1, k12m2]
  instanceTypes := #[]
  staticTypes := #[(.object "java/util/function/BiFunction"), (.object "java/util/function/BiFunction"), (.object "java/util/function/BiFunction")]
  resolved := Array.replicate 194 none
  statics := some 1 }

def pool13 : Array CpInfo := pool [(2, .class_ 4), (1, u "java/lang/Object"), (0, u "<init>"), (0, u "()V"), (7, .class_ 16), (1, u "java/util/Arrays"), (57, .class_ 76), (1, u "java/util/Arrays$NaturalOrder"), (36, .class_ 115), (1, u "java/util/Arrays$LegacyMergeSort"), (1, u "Z"), (21, u "copyOfRange"), (10, .methodref 151 152), (0, .class_ 153), (0, .nameAndType 154 155), (0, u "java/lang/System"), (0, u "arraycopy"), (0, u "(Ljava/lang/Object;ILjava/lang/Object;II)V"), (148, .methodref 305 306), (0, .class_ 307), (0, .nameAndType 308 309), (0, u "java/lang/Math"), (0, u "min"), (0, u "(II)I"), (29, .methodref 14 340), (0, .nameAndType 341 342), (0, u "copyOfRangeByte"), (0, u "([BII)[B"), (0, .methodref 14 344), (0, .nameAndType 345 346), (0, u "checkLength"), (0, u "(II)V"), (28, .class_ 376), (0, u "java/util/Arrays$ArrayList"), (68, u "$assertionsDisabled"), (269, u "MIN_ARRAY_SORT_GRAN"), (0, u "I"), (2, u "INSERTIONSORT_THRESHOLD"), (255, .class_ 976), (0, u "java/util/Arrays$ArrayItr")] 52

def k13m0 : Method := { name := "<init>", desc := "()V", sig := { parameters := [], returnType := none }, accessFlags := 2, code := none }
def k13c1 : Code := { maxStack := 4, maxLocals := 2, code := jdk_65_method_131_code, exceptionTable := #[], attributes := #[] }
def k13m1 : Method := { name := "checkLength", desc := "(II)V", sig := { parameters := [.int, .int], returnType := none }, accessFlags := 10, code := some k13c1 }
def k13c2 : Code := { maxStack := 3, maxLocals := 3, code := jdk_65_method_132_code, exceptionTable := #[], attributes := #[] }
def k13m2 : Method := { name := "copyOfRange", desc := "([BII)[B", sig := { parameters := [(.array .byte), .int, .int], returnType := some (.array .byte) }, accessFlags := 9, code := some k13c2 }
def k13c3 : Code := { maxStack := 6, maxLocals := 5, code := jdk_65_method_133_code, exceptionTable := #[], attributes := #[] }
def k13m3 : Method := { name := "copyOfRangeByte", desc := "([BII)[B", sig := { parameters := [(.array .byte), .int, .int], returnType := some (.array .byte) }, accessFlags := 10, code := some k13c3 }
/-- java/util/Arrays -/
def k13 : Class := { plain "java/util/Arrays" (some 0) with
  accessFlags := 49
  interfaces := #[]
  cf := some (fileOf pool13 14 #[.nestMembers #[975, 375, 113, 74]] #[{ accessFlags := 2, nameIndex := 5, descriptorIndex := 6, attributes := #[] }, { accessFlags := 10, nameIndex := 345, descriptorIndex := 346, attributes := #[] }, { accessFlags := 9, nameIndex := 139, descriptorIndex := 342, attributes := #[] }, { accessFlags := 10, nameIndex := 341, descriptorIndex := 342, attributes := #[] }] 49 2 #[] #[{ accessFlags := 26, nameIndex := 715, descriptorIndex := 716, attributes := #[] }, { accessFlags := 26, nameIndex := 719, descriptorIndex := 716, attributes := #[] }, { accessFlags := 4120, nameIndex := 445, descriptorIndex := 117, attributes := #[] }])
  fields := #[{ name := "MIN_ARRAY_SORT_GRAN", type := .int, accessFlags := 26, slot := 0, constantValue := 0 }, { name := "INSERTIONSORT_THRESHOLD", type := .int, accessFlags := 26, slot := 1, constantValue := 0 }, { name := "$assertionsDisabled", type := .boolean, accessFlags := 4120, slot := 2, constantValue := 0 }]
  methods := #[k13m0, k13m1, k13m2, k13m3]
  instanceTypes := #[]
  staticTypes := #[.int, .int, .boolean]
  resolved := Array.replicate 1029 none
  statics := none }

def pool14 : Array CpInfo := pool [(1, .class_ 2), (0, u "java/lang/Math"), (1, .class_ 6), (1, u "java/lang/Object"), (0, u "<init>"), (0, u "()V"), (89, .class_ 100), (1, u "java/lang/Math$RandomNumberGeneratorHolder"), (71, u "negativeZeroFloatBits"), (0, u "J"), (2, u "negativeZeroDoubleBits"), (24, u "min"), (43, u "$assertionsDisabled"), (0, u "Z"), (88, u "(II)I"), (2, u "twoToTheDoubleScaleDown"), (0, u "D"), (4, u "twoToTheDoubleScaleUp"), (9, u "E"), (3, u "PI"), (2, u "TAU"), (2, u "DEGREES_TO_RADIANS"), (0, u "RADIANS_TO_DEGREES")] 94

def k14m0 : Method := { name := "<init>", desc := "()V", sig := { parameters := [], returnType := none }, accessFlags := 2, code := none }
def k14c1 : Code := { maxStack := 2, maxLocals := 2, code := jdk_29_method_69_code, exceptionTable := #[], attributes := #[] }
def k14m1 : Method := { name := "min", desc := "(II)I", sig := { parameters := [.int, .int], returnType := some .int }, accessFlags := 9, code := some k14c1 }
/-- java/lang/Math -/
def k14 : Class := { plain "java/lang/Math" (some 0) with
  accessFlags := 49
  interfaces := #[]
  cf := some (fileOf pool14 1 #[.nestMembers #[98]] #[{ accessFlags := 2, nameIndex := 7, descriptorIndex := 8, attributes := #[] }, { accessFlags := 9, nameIndex := 201, descriptorIndex := 335, attributes := #[] }] 49 4 #[] #[{ accessFlags := 25, nameIndex := 354, descriptorIndex := 339, attributes := #[] }, { accessFlags := 25, nameIndex := 358, descriptorIndex := 339, attributes := #[] }, { accessFlags := 25, nameIndex := 361, descriptorIndex := 339, attributes := #[] }, { accessFlags := 26, nameIndex := 364, descriptorIndex := 339, attributes := #[] }, { accessFlags := 26, nameIndex := 365, descriptorIndex := 339, attributes := #[] }, { accessFlags := 26, nameIndex := 172, descriptorIndex := 173, attributes := #[] }, { accessFlags := 26, nameIndex := 176, descriptorIndex := 173, attributes := #[] }, { accessFlags := 8, nameIndex := 344, descriptorIndex := 339, attributes := #[] }, { accessFlags := 8, nameIndex := 338, descriptorIndex := 339, attributes := #[] }, { accessFlags := 4120, nameIndex := 245, descriptorIndex := 246, attributes := #[] }])
  fields := #[{ name := "E", type := .double, accessFlags := 25, slot := 0, constantValue := 0 }, { name := "PI", type := .double, accessFlags := 25, slot := 1, constantValue := 0 }, { name := "TAU", type := .double, accessFlags := 25, slot := 2, constantValue := 0 }, { name := "DEGREES_TO_RADIANS", type := .double, accessFlags := 26, slot := 3, constantValue := 0 }, { name := "RADIANS_TO_DEGREES", type := .double, accessFlags := 26, slot := 4, constantValue := 0 }, { name := "negativeZeroFloatBits", type := .long, accessFlags := 26, slot := 5, constantValue := 0 }, { name := "negativeZeroDoubleBits", type := .long, accessFlags := 26, slot := 6, constantValue := 0 }, { name := "twoToTheDoubleScaleUp", type := .double, accessFlags := 8, slot := 7, constantValue := 0 }, { name := "twoToTheDoubleScaleDown", type := .double, accessFlags := 8, slot := 8, constantValue := 0 }, { name := "$assertionsDisabled", type := .boolean, accessFlags := 4120, slot := 9, constantValue := 0 }]
  methods := #[k14m0, k14m1]
  instanceTypes := #[]
  staticTypes := #[.double, .double, .double, .double, .double, .long, .long, .double, .double, .boolean]
  resolved := Array.replicate 460 none
  statics := none }

def pool15 : Array CpInfo := pool [(2, .class_ 4), (1, u "java/lang/Object"), (0, u "<init>"), (0, u "()V"), (1, .class_ 10), (1, u "java/lang/System"), (0, u "allowSecurityManager"), (0, u "I"), (16, u "cons"), (0, u "Ljava/io/Console;"), (77, .class_ 110), (1, u "java/lang/System$CallersHolder"), (43, u "initialErrStream"), (0, u "Ljava/io/PrintStream;"), (19, u "security"), (0, u "Ljava/lang/SecurityManager;"), (31, .class_ 209), (0, u "java/lang/System$1"), (7, u "props"), (0, u "Ljava/util/Properties;"), (2, u "lineSeparator"), (0, u "Ljava/lang/String;"), (96, .class_ 321), (1, u "java/lang/System$LoggerFinder"), (5, .class_ 328), (0, u "java/lang/System$Logger"), (67, u "err"), (2, u "out"), (91, u "notSupportedJnuEncoding"), (15, u "in"), (17, u "initialIn"), (0, u "Ljava/io/InputStream;"), (35, u "bootLayer"), (0, u "Ljava/lang/ModuleLayer;"), (99, .class_ 664), (0, u "java/lang/System$2"), (9, u "NEVER"), (2, u "MAYBE"), (49, u "arraycopy"), (0, u "(Ljava/lang/Object;ILjava/lang/Object;II)V"), (72, .class_ 802), (0, u "java/lang/System$Logger$Level")] 31

def k15m0 : Method := { name := "<init>", desc := "()V", sig := { parameters := [], returnType := none }, accessFlags := 2, code := none }
def k15m1 : Method := { name := "arraycopy", desc := "(Ljava/lang/Object;ILjava/lang/Object;II)V", sig := { parameters := [(.object "java/lang/Object"), .int, (.object "java/lang/Object"), .int, .int], returnType := none }, accessFlags := 265, code := none }
/-- java/lang/System -/
def k15 : Class := { plain "java/lang/System" (some 0) with
  accessFlags := 49
  interfaces := #[]
  cf := some (fileOf pool15 8 #[.nestMembers #[319, 327, 801, 108, 663, 208]] #[{ accessFlags := 2, nameIndex := 5, descriptorIndex := 6, attributes := #[] }, { accessFlags := 265, nameIndex := 727, descriptorIndex := 728, attributes := #[] }] 49 2 #[] #[{ accessFlags := 25, nameIndex := 507, descriptorIndex := 526, attributes := #[] }, { accessFlags := 25, nameIndex := 399, descriptorIndex := 155, attributes := #[] }, { accessFlags := 25, nameIndex := 396, descriptorIndex := 155, attributes := #[] }, { accessFlags := 10, nameIndex := 525, descriptorIndex := 526, attributes := #[] }, { accessFlags := 26, nameIndex := 674, descriptorIndex := 12, attributes := #[] }, { accessFlags := 26, nameIndex := 677, descriptorIndex := 12, attributes := #[] }, { accessFlags := 10, nameIndex := 11, descriptorIndex := 12, attributes := #[] }, { accessFlags := 74, nameIndex := 175, descriptorIndex := 176, attributes := #[] }, { accessFlags := 10, nameIndex := 491, descriptorIndex := 222, attributes := #[] }, { accessFlags := 74, nameIndex := 29, descriptorIndex := 30, attributes := #[] }, { accessFlags := 74, nameIndex := 154, descriptorIndex := 155, attributes := #[] }, { accessFlags := 10, nameIndex := 217, descriptorIndex := 218, attributes := #[] }, { accessFlags := 10, nameIndex := 221, descriptorIndex := 222, attributes := #[] }, { accessFlags := 8, nameIndex := 562, descriptorIndex := 563, attributes := #[] }])
  fields := #[{ name := "in", type := (.object "java/io/InputStream"), accessFlags := 25, slot := 0, constantValue := 0 }, { name := "out", type := (.object "java/io/PrintStream"), accessFlags := 25, slot := 1, constantValue := 0 }, { name := "err", type := (.object "java/io/PrintStream"), accessFlags := 25, slot := 2, constantValue := 0 }, { name := "initialIn", type := (.object "java/io/InputStream"), accessFlags := 10, slot := 3, constantValue := 0 }, { name := "NEVER", type := .int, accessFlags := 26, slot := 4, constantValue := 0 }, { name := "MAYBE", type := .int, accessFlags := 26, slot := 5, constantValue := 0 }, { name := "allowSecurityManager", type := .int, accessFlags := 10, slot := 6, constantValue := 0 }, { name := "security", type := (.object "java/lang/SecurityManager"), accessFlags := 74, slot := 7, constantValue := 0 }, { name := "notSupportedJnuEncoding", type := (.object "java/lang/String"), accessFlags := 10, slot := 8, constantValue := 0 }, { name := "cons", type := (.object "java/io/Console"), accessFlags := 74, slot := 9, constantValue := 0 }, { name := "initialErrStream", type := (.object "java/io/PrintStream"), accessFlags := 74, slot := 10, constantValue := 0 }, { name := "props", type := (.object "java/util/Properties"), accessFlags := 10, slot := 11, constantValue := 0 }, { name := "lineSeparator", type := (.object "java/lang/String"), accessFlags := 10, slot := 12, constantValue := 0 }, { name := "bootLayer", type := (.object "java/lang/ModuleLayer"), accessFlags := 8, slot := 13, constantValue := 0 }]
  methods := #[k15m0, k15m1]
  instanceTypes := #[]
  staticTypes := #[(.object "java/io/InputStream"), (.object "java/io/PrintStream"), (.object "java/io/PrintStream"), (.object "java/io/InputStream"), .int, .int, .int, (.object "java/lang/SecurityManager"), (.object "java/lang/String"), (.object "java/io/Console"), (.object "java/io/PrintStream"), (.object "java/util/Properties"), (.object "java/lang/String"), (.object "java/lang/ModuleLayer")]
  resolved := Array.replicate 834 none
  statics := none }

def pool16 : Array CpInfo := pool [(9, u "<init>"), (6, .class_ 18), (1, u "java/lang/Object"), (0, u "()V"), (1, .class_ 23), (1, u "jdk/internal/util/ArraysSupport"), (0, u "LOG2_ARRAY_LONG_INDEX_SCALE"), (0, u "I"), (2, u "U"), (0, u "Ljdk/internal/misc/Unsafe;"), (8, u "BIG_ENDIAN"), (0, u "Z"), (8, u "LOG2_BYTE_BIT_SIZE"), (4, u "LOG2_ARRAY_INT_INDEX_SCALE"), (54, u "JLA"), (0, u "Ljdk/internal/access/JavaLangAccess;"), (11, u "LOG2_ARRAY_BOOLEAN_INDEX_SCALE"), (9, u "LOG2_ARRAY_BYTE_INDEX_SCALE"), (5, u "LOG2_ARRAY_CHAR_INDEX_SCALE"), (5, u "LOG2_ARRAY_SHORT_INDEX_SCALE"), (18, u "LOG2_ARRAY_FLOAT_INDEX_SCALE"), (24, u "LOG2_ARRAY_DOUBLE_INDEX_SCALE"), (89, u "T_BOOLEAN"), (2, u "T_CHAR"), (1, u "T_FLOAT"), (1, u "T_DOUBLE"), (1, u "T_BYTE"), (1, u "T_SHORT"), (1, u "T_INT"), (1, u "T_LONG"), (1, u "SOFT_MAX_ARRAY_LENGTH")] 83

def k16m0 : Method := { name := "<init>", desc := "()V", sig := { parameters := [], returnType := none }, accessFlags := 2, code := none }
/-- jdk/internal/util/ArraysSupport -/
def k16 : Class := { plain "jdk/internal/util/ArraysSupport" (some 0) with
  accessFlags := 33
  interfaces := #[]
  cf := some (fileOf pool16 21 #[] #[{ accessFlags := 2, nameIndex := 9, descriptorIndex := 19, attributes := #[] }] 33 16 #[] #[{ accessFlags := 24, nameIndex := 28, descriptorIndex := 29, attributes := #[] }, { accessFlags := 26, nameIndex := 38, descriptorIndex := 39, attributes := #[] }, { accessFlags := 25, nameIndex := 121, descriptorIndex := 25, attributes := #[] }, { accessFlags := 25, nameIndex := 131, descriptorIndex := 25, attributes := #[] }, { accessFlags := 25, nameIndex := 137, descriptorIndex := 25, attributes := #[] }, { accessFlags := 25, nameIndex := 143, descriptorIndex := 25, attributes := #[] }, { accessFlags := 25, nameIndex := 53, descriptorIndex := 25, attributes := #[] }, { accessFlags := 25, nameIndex := 24, descriptorIndex := 25, attributes := #[] }, { accessFlags := 25, nameIndex := 162, descriptorIndex := 25, attributes := #[] }, { accessFlags := 25, nameIndex := 187, descriptorIndex := 25, attributes := #[] }, { accessFlags := 26, nameIndex := 48, descriptorIndex := 25, attributes := #[] }, { accessFlags := 25, nameIndex := 277, descriptorIndex := 25, attributes := #[] }, { accessFlags := 25, nameIndex := 280, descriptorIndex := 25, attributes := #[] }, { accessFlags := 25, nameIndex := 282, descriptorIndex := 25, attributes := #[] }, { accessFlags := 25, nameIndex := 284, descriptorIndex := 25, attributes := #[] }, { accessFlags := 25, nameIndex := 286, descriptorIndex := 25, attributes := #[] }, { accessFlags := 25, nameIndex := 288, descriptorIndex := 25, attributes := #[] }, { accessFlags := 25, nameIndex := 290, descriptorIndex := 25, attributes := #[] }, { accessFlags := 25, nameIndex := 292, descriptorIndex := 25, attributes := #[] }, { accessFlags := 26, nameIndex := 108, descriptorIndex := 109, attributes := #[] }, { accessFlags := 25, nameIndex := 294, descriptorIndex := 25, attributes := #[] }])
  fields := #[{ name := "U", type := (.object "jdk/internal/misc/Unsafe"), accessFlags := 24, slot := 0, constantValue := 0 }, { name := "BIG_ENDIAN", type := .boolean, accessFlags := 26, slot := 1, constantValue := 0 }, { name := "LOG2_ARRAY_BOOLEAN_INDEX_SCALE", type := .int, accessFlags := 25, slot := 2, constantValue := 0 }, { name := "LOG2_ARRAY_BYTE_INDEX_SCALE", type := .int, accessFlags := 25, slot := 3, constantValue := 0 }, { name := "LOG2_ARRAY_CHAR_INDEX_SCALE", type := .int, accessFlags := 25, slot := 4, constantValue := 0 }, { name := "LOG2_ARRAY_SHORT_INDEX_SCALE", type := .int, accessFlags := 25, slot := 5, constantValue := 0 }, { name := "LOG2_ARRAY_INT_INDEX_SCALE", type := .int, accessFlags := 25, slot := 6, constantValue := 0 }, { name := "LOG2_ARRAY_LONG_INDEX_SCALE", type := .int, accessFlags := 25, slot := 7, constantValue := 0 }, { name := "LOG2_ARRAY_FLOAT_INDEX_SCALE", type := .int, accessFlags := 25, slot := 8, constantValue := 0 }, { name := "LOG2_ARRAY_DOUBLE_INDEX_SCALE", type := .int, accessFlags := 25, slot := 9, constantValue := 0 }, { name := "LOG2_BYTE_BIT_SIZE", type := .int, accessFlags := 26, slot := 10, constantValue := 0 }, { name := "T_BOOLEAN", type := .int, accessFlags := 25, slot := 11, constantValue := 0 }, { name := "T_CHAR", type := .int, accessFlags := 25, slot := 12, constantValue := 0 }, { name := "T_FLOAT", type := .int, accessFlags := 25, slot := 13, constantValue := 0 }, { name := "T_DOUBLE", type := .int, accessFlags := 25, slot := 14, constantValue := 0 }, { name := "T_BYTE", type := .int, accessFlags := 25, slot := 15, constantValue := 0 }, { name := "T_SHORT", type := .int, accessFlags := 25, slot := 16, constantValue := 0 }, { name := "T_INT", type := .int, accessFlags := 25, slot := 17, constantValue := 0 }, { name := "T_LONG", type := .int, accessFlags := 25, slot := 18, constantValue := 0 }, { name := "JLA", type := (.object "jdk/internal/access/JavaLangAccess"), accessFlags := 26, slot := 19, constantValue := 0 }, { name := "SOFT_MAX_ARRAY_LENGTH", type := .int, accessFlags := 25, slot := 20, constantValue := 0 }]
  methods := #[k16m0]
  instanceTypes := #[]
  staticTypes := #[(.object "jdk/internal/misc/Unsafe"), .boolean, .int, .int, .int, .int, .int, .int, .int, .int, .int, .int, .int, .int, .int, .int, .int, .int, .int, (.object "jdk/internal/access/JavaLangAccess"), .int]
  resolved := Array.replicate 378 none
  statics := none }

def pool17 : Array CpInfo := pool [(1, u "java/lang/Cloneable"), (0, .class_ 1), (0, u "java/lang/Object"), (0, .class_ 3)] 3

/-- java/lang/Cloneable -/
def k17 : Class := { plain "java/lang/Cloneable" (some 0) with
  accessFlags := 1537
  interfaces := #[]
  cf := some (fileOf pool17 2 #[] #[] 1537 4 #[] #[])
  fields := #[]
  methods := #[]
  instanceTypes := #[]
  staticTypes := #[]
  resolved := Array.replicate 8 none
  statics := none }

/-- the primitive byte -/
def k18 : Class := { plain "byte" none with kind := .primitive 'B', accessFlags := 0x411 }
/-- [B -/
def k19 : Class := { plain "[B" (some 0) with kind := .array 18 .byte, interfaces := #[17, 2], accessFlags := 1041 }

/-- the primitive char -/
def k20 : Class := { plain "char" none with kind := .primitive 'C', accessFlags := 0x411 }
/-- [C -/
def k21 : Class := { plain "[C" (some 0) with kind := .array 20 .char, interfaces := #[17, 2], accessFlags := 1041 }

/-- the primitive int -/
def k22 : Class := { plain "int" none with kind := .primitive 'I', accessFlags := 0x411 }
/-- [I -/
def k23 : Class := { plain "[I" (some 0) with kind := .array 22 .int, interfaces := #[17, 2], accessFlags := 1041 }

def heap : Heap := #[{ cls := 7, slots := #[.long 0, .int 1, .null, .int 0, .null, .int 0, .int 0], vm := .statics 7 },
  { cls := 12, slots := #[.null, .null, .null], vm := .statics 12 }]
def classes : Array Class := #[k0, k1, k2, k3, k4, k5, k6, k7, k8, k9, k10, k11, k12, k13, k14, k15, k16, k17, k18, k19, k20, k21, k22, k23]
def interned : List (Array UInt16 × Addr) := []
def slotsUsed : Nat := 10
def theMethod : MethodId := ⟨1, 1⟩
def args0 : Array Value := #[.int 5, .long 5, .int 5, .int 5]
def aboutOver (below : List Frame) : State where
  vm := { classes := classes, interned := interned.toArray }
  heap := heap
  slotsUsed := slotsUsed
  threads := #[{ frames := .invoking theMethod args0 :: below }]
def below0 : List Frame := [.native { method := ⟨0, 0⟩, args := #[] }]
def about1 : State := aboutOver below0
def p0 : Program := .bare "" "" ""
def e0 : Env := launch0.env 0 0 0
theorem w_frames : about1.frames = Frame.invoking theMethod args0 :: below0 := rfl
set_option maxRecDepth 65536 in
theorem w_args : argsFit about1.vm theMethod args0 = true := by decide +kernel
set_option maxRecDepth 65536 in
theorem w_heap : heapFits about1 = true := by decide +kernel
set_option maxRecDepth 65536 in
theorem w_runnable : about1.curStatus? = some .runnable := by decide +kernel
set_option maxRecDepth 65536 in
theorem w_alone : about1.alone = true := by decide +kernel
set_option maxRecDepth 65536 in
theorem w_named : about1.methodNamed? x = some theMethod := by decide +kernel
set_option maxRecDepth 65536 in
theorem w_hears : about1.hears theMethod below0 = true := by decide +kernel
set_option maxRecDepth 65536 in
theorem w_ripe : about1.ripe theMethod args0 below0 = true := by decide +kernel
theorem w_running : about1.status = .running := rfl
set_option maxRecDepth 65536 in
theorem w_room : about1.hasRoom e0.platform room_1 = true :=
  launch0.hasRoom_least _ room_1 (by decide +kernel) (by decide +kernel) (by decide +kernel) (by decide +kernel) (by decide +kernel) (by decide +kernel)
theorem allAtoms_all (ts : List Jvm.Cond) (a : Array Jvm.Value) (st : Jvm.State) : (allAtoms ts).before a st = ts.all (fun c => c.before a st) := by
  induction ts with
  | nil => rfl
  | cons c t ih =>
    show (Jvm.Cond.and c (allAtoms t)).before a st = _
    rw [Jvm.Cond.before_and, ih, List.all_cons]
def words1 : List Jvm.Cond := Jvm.Cond.code x code maxLocals ret :: tables_1
/-- a 'code' word, met by the world's own term for the bytes: nothing is compared byte by byte -/
theorem code_word {y : MethodName} {bytes : ByteArray} {mx : Nat} {rt : Option FieldType} {a : Array Value} {s : State} {m : MethodId} {meth : Method} {c : Code} (h1 : s.methodNamed? y = some m) (h2 : s.vm.method? m = some meth) (h3 : meth.code = some c) (h4 : c.code = bytes)
    (h5 : (c.maxLocals == mx && c.exceptionTable.isEmpty && decide (c.maxStack ≤ mostOperands) && decide (meth.sig.returnType = rt) && !meth.locks && decide (parseMethodDescriptor y.desc = some meth.sig)) = true) : (Jvm.Cond.code y bytes mx rt).before a s = true := by
  simp only [Bool.and_eq_true, beq_iff_eq, Bool.not_eq_true', decide_eq_true_eq] at h5
  obtain ⟨⟨⟨⟨⟨g1, g2⟩, g3⟩, g4⟩, g5⟩, g6⟩ := h5
  simp [Cond.before, Cond.holds, Cond.value, h1, h2, h3, h4, g1, g2, g3, g4, g5, g6]
def isCode : Jvm.Cond → Bool
  | .code _ _ _ _ => true
  | _ => false
theorem all_split {L : List Jvm.Cond} {P : Jvm.Cond → Bool} (h1 : L.all (fun c => isCode c || P c) = true) (h2 : ∀ c ∈ L.filter isCode, P c = true) : L.all P = true := by
  refine List.all_eq_true.mpr fun c hc => ?_
  have h := List.all_eq_true.mp h1 c hc
  rcases Bool.eq_false_or_eq_true (isCode c) with hi | hi
  · exact h2 c (List.mem_filter.mpr ⟨hc, hi⟩)
  · simpa [hi] using h
set_option maxRecDepth 65536 in
theorem w_c0 : (Jvm.Cond.code x code maxLocals ret).before args0 about1 = true := code_word (m := ⟨1, 1⟩) (meth := k1m1) (c := k1c1) (by decide +kernel) rfl rfl rfl (by decide +kernel)
set_option maxRecDepth 65536 in
theorem w_c1 : (Jvm.Cond.code ({ cls := "com/example/twince/twince/IdempotencyKeyParsePinLaw", name := "at", desc := "(IIIIJI)C" } : Jvm.MethodName) method_4_code (8 : Nat) (Option.some Jvm.ClassFile.FieldType.char)).before args0 about1 = true := code_word (m := ⟨1, 3⟩) (meth := k1m3) (c := k1c3) (by decide +kernel) rfl rfl rfl (by decide +kernel)
set_option maxRecDepth 65536 in
theorem w_c2 : (Jvm.Cond.code ({ cls := "com/example/twince/twince/IdempotencyKeyParsePinLaw", name := "keyChar", desc := "(JI)C" } : Jvm.MethodName) method_6_code (4 : Nat) (Option.some Jvm.ClassFile.FieldType.char)).before args0 about1 = true := code_word (m := ⟨1, 5⟩) (meth := k1m5) (c := k1c5) (by decide +kernel) rfl rfl rfl (by decide +kernel)
set_option maxRecDepth 65536 in
theorem w_c3 : (Jvm.Cond.code ({ cls := "com/example/twince/twince/IdempotencyKeyParsePinLaw", name := "blank", desc := "(II)C" } : Jvm.MethodName) method_5_code (2 : Nat) (Option.some Jvm.ClassFile.FieldType.char)).before args0 about1 = true := code_word (m := ⟨1, 4⟩) (meth := k1m4) (c := k1c4) (by decide +kernel) rfl rfl rfl (by decide +kernel)
set_option maxRecDepth 65536 in
theorem w_c4 : (Jvm.Cond.code ({ cls := "java/lang/String", name := "<init>", desc := "([C)V" } : Jvm.MethodName) jdk_42_method_3_code (2 : Nat) (Option.none : Option Jvm.ClassFile.FieldType)).before args0 about1 = true := code_word (m := ⟨7, 1⟩) (meth := k7m1) (c := k7c1) (by decide +kernel) rfl rfl rfl (by decide +kernel)
set_option maxRecDepth 65536 in
theorem w_c5 : (Jvm.Cond.code ({ cls := "java/lang/String", name := "<init>", desc := "([CIILjava/lang/Void;)V" } : Jvm.MethodName) jdk_42_method_149_code (6 : Nat) (Option.none : Option Jvm.ClassFile.FieldType)).before args0 about1 = true := code_word (m := ⟨7, 5⟩) (meth := k7m5) (c := k7c5) (by decide +kernel) rfl rfl rfl (by decide +kernel)
set_option maxRecDepth 65536 in
theorem w_c6 : (Jvm.Cond.code ({ cls := "java/lang/Object", name := "<init>", desc := "()V" } : Jvm.MethodName) object_method_1_code (1 : Nat) (Option.none : Option Jvm.ClassFile.FieldType)).before args0 about1 = true := code_word (m := ⟨0, 0⟩) (meth := k0m0) (c := k0c0) (by decide +kernel) rfl rfl rfl (by decide +kernel)
set_option maxRecDepth 65536 in
theorem w_c7 : (Jvm.Cond.code ({ cls := "java/lang/StringUTF16", name := "compress", desc := "([CII)[B" } : Jvm.MethodName) jdk_52_method_16_code (6 : Nat) (Option.some (Jvm.ClassFile.FieldType.array Jvm.ClassFile.FieldType.byte))).before args0 about1 = true := code_word (m := ⟨8, 2⟩) (meth := k8m2) (c := k8c2) (by decide +kernel) rfl rfl rfl (by decide +kernel)
set_option maxRecDepth 65536 in
theorem w_c8 : (Jvm.Cond.code ({ cls := "java/lang/StringUTF16", name := "compress", desc := "([CI[BII)I" } : Jvm.MethodName) jdk_52_method_21_code (7 : Nat) (Option.some Jvm.ClassFile.FieldType.int)).before args0 about1 = true := code_word (m := ⟨8, 3⟩) (meth := k8m3) (c := k8c3) (by decide +kernel) rfl rfl rfl (by decide +kernel)
set_option maxRecDepth 65536 in
theorem w_c9 : (Jvm.Cond.code ({ cls := "java/lang/StringUTF16", name := "coderFromArrayLen", desc := "([BI)B" } : Jvm.MethodName) jdk_52_method_15_code (2 : Nat) (Option.some Jvm.ClassFile.FieldType.byte)).before args0 about1 = true := code_word (m := ⟨8, 1⟩) (meth := k8m1) (c := k8c1) (by decide +kernel) rfl rfl rfl (by decide +kernel)
set_option maxRecDepth 65536 in
theorem w_c10 : (Jvm.Cond.code ({ cls := "com/example/twince/twince/IdempotencyKey", name := "parse", desc := "(Ljava/lang/String;I)Lcom/example/twince/twince/IdempotencyKey;" } : Jvm.MethodName) prog_6_method_2_code (8 : Nat) (Option.some (Jvm.ClassFile.FieldType.object "com/example/twince/twince/IdempotencyKey"))).before args0 about1 = true := code_word (m := ⟨9, 1⟩) (meth := k9m1) (c := k9c1) (by decide +kernel) rfl rfl rfl (by decide +kernel)
set_option maxRecDepth 65536 in
theorem w_c11 : (Jvm.Cond.code ({ cls := "java/util/Objects", name := "requireNonNull", desc := "(Ljava/lang/Object;)Ljava/lang/Object;" } : Jvm.MethodName) jdk_31_method_10_code (1 : Nat) (Option.some (Jvm.ClassFile.FieldType.object "java/lang/Object"))).before args0 about1 = true := code_word (m := ⟨10, 1⟩) (meth := k10m1) (c := k10c1) (by decide +kernel) rfl rfl rfl (by decide +kernel)
set_option maxRecDepth 65536 in
theorem w_c12 : (Jvm.Cond.code ({ cls := "com/example/twince/twince/IdempotencyKey", name := "checkMinLength", desc := "(I)I" } : Jvm.MethodName) prog_6_method_3_code (1 : Nat) (Option.some Jvm.ClassFile.FieldType.int)).before args0 about1 = true := code_word (m := ⟨9, 2⟩) (meth := k9m2) (c := k9c2) (by decide +kernel) rfl rfl rfl (by decide +kernel)
set_option maxRecDepth 65536 in
theorem w_c13 : (Jvm.Cond.code ({ cls := "java/lang/String", name := "length", desc := "()I" } : Jvm.MethodName) jdk_42_method_54_code (1 : Nat) (Option.some Jvm.ClassFile.FieldType.int)).before args0 about1 = true := code_word (m := ⟨7, 2⟩) (meth := k7m2) (c := k7c2) (by decide +kernel) rfl rfl rfl (by decide +kernel)
set_option maxRecDepth 65536 in
theorem w_c14 : (Jvm.Cond.code ({ cls := "java/lang/String", name := "coder", desc := "()B" } : Jvm.MethodName) jdk_42_method_152_code (1 : Nat) (Option.some Jvm.ClassFile.FieldType.byte)).before args0 about1 = true := code_word (m := ⟨7, 7⟩) (meth := k7m7) (c := k7c7) (by decide +kernel) rfl rfl rfl (by decide +kernel)
set_option maxRecDepth 65536 in
theorem w_c15 : (Jvm.Cond.code ({ cls := "java/lang/String", name := "charAt", desc := "(I)C" } : Jvm.MethodName) jdk_42_method_56_code (2 : Nat) (Option.some Jvm.ClassFile.FieldType.char)).before args0 about1 = true := code_word (m := ⟨7, 3⟩) (meth := k7m3) (c := k7c3) (by decide +kernel) rfl rfl rfl (by decide +kernel)
set_option maxRecDepth 65536 in
theorem w_c16 : (Jvm.Cond.code ({ cls := "java/lang/String", name := "isLatin1", desc := "()Z" } : Jvm.MethodName) jdk_42_method_154_code (1 : Nat) (Option.some Jvm.ClassFile.FieldType.boolean)).before args0 about1 = true := code_word (m := ⟨7, 8⟩) (meth := k7m8) (c := k7c8) (by decide +kernel) rfl rfl rfl (by decide +kernel)
set_option maxRecDepth 65536 in
theorem w_c17 : (Jvm.Cond.code ({ cls := "java/lang/StringLatin1", name := "charAt", desc := "([BI)C" } : Jvm.MethodName) jdk_43_method_2_code (2 : Nat) (Option.some Jvm.ClassFile.FieldType.char)).before args0 about1 = true := code_word (m := ⟨11, 1⟩) (meth := k11m1) (c := k11c1) (by decide +kernel) rfl rfl rfl (by decide +kernel)
set_option maxRecDepth 65536 in
theorem w_c18 : (Jvm.Cond.code ({ cls := "java/lang/String", name := "checkIndex", desc := "(II)V" } : Jvm.MethodName) jdk_42_method_155_code (2 : Nat) (Option.none : Option Jvm.ClassFile.FieldType)).before args0 about1 = true := code_word (m := ⟨7, 9⟩) (meth := k7m9) (c := k7c9) (by decide +kernel) rfl rfl rfl (by decide +kernel)
set_option maxRecDepth 65536 in
theorem w_c19 : (Jvm.Cond.code ({ cls := "jdk/internal/util/Preconditions", name := "checkIndex", desc := "(IILjava/util/function/BiFunction;)I" } : Jvm.MethodName) jdk_41_method_11_code (3 : Nat) (Option.some Jvm.ClassFile.FieldType.int)).before args0 about1 = true := code_word (m := ⟨12, 1⟩) (meth := k12m1) (c := k12c1) (by decide +kernel) rfl rfl rfl (by decide +kernel)
set_option maxRecDepth 65536 in
theorem w_c20 : (Jvm.Cond.code ({ cls := "com/example/twince/twince/IdempotencyKey", name := "isBlank", desc := "(C)Z" } : Jvm.MethodName) prog_6_method_4_code (1 : Nat) (Option.some Jvm.ClassFile.FieldType.boolean)).before args0 about1 = true := code_word (m := ⟨9, 3⟩) (meth := k9m3) (c := k9c3) (by decide +kernel) rfl rfl rfl (by decide +kernel)
set_option maxRecDepth 65536 in
theorem w_c21 : (Jvm.Cond.code ({ cls := "com/example/twince/twince/IdempotencyKey", name := "isKeyCharacter", desc := "(C)Z" } : Jvm.MethodName) prog_6_method_5_code (1 : Nat) (Option.some Jvm.ClassFile.FieldType.boolean)).before args0 about1 = true := code_word (m := ⟨9, 4⟩) (meth := k9m4) (c := k9c4) (by decide +kernel) rfl rfl rfl (by decide +kernel)
set_option maxRecDepth 65536 in
theorem w_c22 : (Jvm.Cond.code ({ cls := "java/lang/String", name := "substring", desc := "(II)Ljava/lang/String;" } : Jvm.MethodName) jdk_42_method_92_code (5 : Nat) (Option.some (Jvm.ClassFile.FieldType.object "java/lang/String"))).before args0 about1 = true := code_word (m := ⟨7, 4⟩) (meth := k7m4) (c := k7c4) (by decide +kernel) rfl rfl rfl (by decide +kernel)
set_option maxRecDepth 65536 in
theorem w_c23 : (Jvm.Cond.code ({ cls := "java/lang/String", name := "checkBoundsBeginEnd", desc := "(III)V" } : Jvm.MethodName) jdk_42_method_158_code (3 : Nat) (Option.none : Option Jvm.ClassFile.FieldType)).before args0 about1 = true := code_word (m := ⟨7, 10⟩) (meth := k7m10) (c := k7c10) (by decide +kernel) rfl rfl rfl (by decide +kernel)
set_option maxRecDepth 65536 in
theorem w_c24 : (Jvm.Cond.code ({ cls := "jdk/internal/util/Preconditions", name := "checkFromToIndex", desc := "(IIILjava/util/function/BiFunction;)I" } : Jvm.MethodName) jdk_41_method_12_code (4 : Nat) (Option.some Jvm.ClassFile.FieldType.int)).before args0 about1 = true := code_word (m := ⟨12, 2⟩) (meth := k12m2) (c := k12c2) (by decide +kernel) rfl rfl rfl (by decide +kernel)
set_option maxRecDepth 65536 in
theorem w_c25 : (Jvm.Cond.code ({ cls := "java/lang/StringLatin1", name := "newString", desc := "([BII)Ljava/lang/String;" } : Jvm.MethodName) jdk_43_method_47_code (3 : Nat) (Option.some (Jvm.ClassFile.FieldType.object "java/lang/String"))).before args0 about1 = true := code_word (m := ⟨11, 2⟩) (meth := k11m2) (c := k11c2) (by decide +kernel) rfl rfl rfl (by decide +kernel)
set_option maxRecDepth 65536 in
theorem w_c26 : (Jvm.Cond.code ({ cls := "java/util/Arrays", name := "copyOfRange", desc := "([BII)[B" } : Jvm.MethodName) jdk_65_method_132_code (3 : Nat) (Option.some (Jvm.ClassFile.FieldType.array Jvm.ClassFile.FieldType.byte))).before args0 about1 = true := code_word (m := ⟨13, 2⟩) (meth := k13m2) (c := k13c2) (by decide +kernel) rfl rfl rfl (by decide +kernel)
set_option maxRecDepth 65536 in
theorem w_c27 : (Jvm.Cond.code ({ cls := "java/util/Arrays", name := "copyOfRangeByte", desc := "([BII)[B" } : Jvm.MethodName) jdk_65_method_133_code (5 : Nat) (Option.some (Jvm.ClassFile.FieldType.array Jvm.ClassFile.FieldType.byte))).before args0 about1 = true := code_word (m := ⟨13, 3⟩) (meth := k13m3) (c := k13c3) (by decide +kernel) rfl rfl rfl (by decide +kernel)
set_option maxRecDepth 65536 in
theorem w_c28 : (Jvm.Cond.code ({ cls := "java/util/Arrays", name := "checkLength", desc := "(II)V" } : Jvm.MethodName) jdk_65_method_131_code (2 : Nat) (Option.none : Option Jvm.ClassFile.FieldType)).before args0 about1 = true := code_word (m := ⟨13, 1⟩) (meth := k13m1) (c := k13c1) (by decide +kernel) rfl rfl rfl (by decide +kernel)
set_option maxRecDepth 65536 in
theorem w_c29 : (Jvm.Cond.code ({ cls := "java/lang/Math", name := "min", desc := "(II)I" } : Jvm.MethodName) jdk_29_method_69_code (2 : Nat) (Option.some Jvm.ClassFile.FieldType.int)).before args0 about1 = true := code_word (m := ⟨14, 1⟩) (meth := k14m1) (c := k14c1) (by decide +kernel) rfl rfl rfl (by decide +kernel)
set_option maxRecDepth 65536 in
theorem w_c30 : (Jvm.Cond.code ({ cls := "java/lang/String", name := "<init>", desc := "([BB)V" } : Jvm.MethodName) jdk_42_method_151_code (3 : Nat) (Option.none : Option Jvm.ClassFile.FieldType)).before args0 about1 = true := code_word (m := ⟨7, 6⟩) (meth := k7m6) (c := k7c6) (by decide +kernel) rfl rfl rfl (by decide +kernel)
set_option maxRecDepth 65536 in
theorem w_c31 : (Jvm.Cond.code ({ cls := "com/example/twince/twince/IdempotencyKey", name := "<init>", desc := "(Ljava/lang/String;)V" } : Jvm.MethodName) prog_6_method_1_code (2 : Nat) (Option.none : Option Jvm.ClassFile.FieldType)).before args0 about1 = true := code_word (m := ⟨9, 0⟩) (meth := k9m0) (c := k9c0) (by decide +kernel) rfl rfl rfl (by decide +kernel)
set_option maxRecDepth 65536 in
theorem w_c32 : (Jvm.Cond.code ({ cls := "com/example/twince/twince/IdempotencyKey", name := "value", desc := "()Ljava/lang/String;" } : Jvm.MethodName) prog_6_method_7_code (1 : Nat) (Option.some (Jvm.ClassFile.FieldType.object "java/lang/String"))).before args0 about1 = true := code_word (m := ⟨9, 5⟩) (meth := k9m5) (c := k9c5) (by decide +kernel) rfl rfl rfl (by decide +kernel)
set_option maxRecDepth 65536 in
theorem w_c33 : (Jvm.Cond.code ({ cls := "com/example/twince/twince/IdempotencyKeyParsePinLaw", name := "same", desc := "(Ljava/lang/String;IIJ)Z" } : Jvm.MethodName) method_3_code (5 : Nat) (Option.some Jvm.ClassFile.FieldType.boolean)).before args0 about1 = true := code_word (m := ⟨1, 2⟩) (meth := k1m2) (c := k1c2) (by decide +kernel) rfl rfl rfl (by decide +kernel)
def codes1 : List Jvm.Cond := [Jvm.Cond.code x code maxLocals ret, Jvm.Cond.code ({ cls := "com/example/twince/twince/IdempotencyKeyParsePinLaw", name := "at", desc := "(IIIIJI)C" } : Jvm.MethodName) method_4_code (8 : Nat) (Option.some Jvm.ClassFile.FieldType.char), Jvm.Cond.code ({ cls := "com/example/twince/twince/IdempotencyKeyParsePinLaw", name := "keyChar", desc := "(JI)C" } : Jvm.MethodName) method_6_code (4 : Nat) (Option.some Jvm.ClassFile.FieldType.char), Jvm.Cond.code ({ cls := "com/example/twince/twince/IdempotencyKeyParsePinLaw", name := "blank", desc := "(II)C" } : Jvm.MethodName) method_5_code (2 : Nat) (Option.some Jvm.ClassFile.FieldType.char), Jvm.Cond.code ({ cls := "java/lang/String", name := "<init>", desc := "([C)V" } : Jvm.MethodName) jdk_42_method_3_code (2 : Nat) (Option.none : Option Jvm.ClassFile.FieldType), Jvm.Cond.code ({ cls := "java/lang/String", name := "<init>", desc := "([CIILjava/lang/Void;)V" } : Jvm.MethodName) jdk_42_method_149_code (6 : Nat) (Option.none : Option Jvm.ClassFile.FieldType), Jvm.Cond.code ({ cls := "java/lang/Object", name := "<init>", desc := "()V" } : Jvm.MethodName) object_method_1_code (1 : Nat) (Option.none : Option Jvm.ClassFile.FieldType), Jvm.Cond.code ({ cls := "java/lang/StringUTF16", name := "compress", desc := "([CII)[B" } : Jvm.MethodName) jdk_52_method_16_code (6 : Nat) (Option.some (Jvm.ClassFile.FieldType.array Jvm.ClassFile.FieldType.byte)), Jvm.Cond.code ({ cls := "java/lang/StringUTF16", name := "compress", desc := "([CI[BII)I" } : Jvm.MethodName) jdk_52_method_21_code (7 : Nat) (Option.some Jvm.ClassFile.FieldType.int), Jvm.Cond.code ({ cls := "java/lang/StringUTF16", name := "coderFromArrayLen", desc := "([BI)B" } : Jvm.MethodName) jdk_52_method_15_code (2 : Nat) (Option.some Jvm.ClassFile.FieldType.byte), Jvm.Cond.code ({ cls := "com/example/twince/twince/IdempotencyKey", name := "parse", desc := "(Ljava/lang/String;I)Lcom/example/twince/twince/IdempotencyKey;" } : Jvm.MethodName) prog_6_method_2_code (8 : Nat) (Option.some (Jvm.ClassFile.FieldType.object "com/example/twince/twince/IdempotencyKey")), Jvm.Cond.code ({ cls := "java/util/Objects", name := "requireNonNull", desc := "(Ljava/lang/Object;)Ljava/lang/Object;" } : Jvm.MethodName) jdk_31_method_10_code (1 : Nat) (Option.some (Jvm.ClassFile.FieldType.object "java/lang/Object")), Jvm.Cond.code ({ cls := "com/example/twince/twince/IdempotencyKey", name := "checkMinLength", desc := "(I)I" } : Jvm.MethodName) prog_6_method_3_code (1 : Nat) (Option.some Jvm.ClassFile.FieldType.int), Jvm.Cond.code ({ cls := "java/lang/String", name := "length", desc := "()I" } : Jvm.MethodName) jdk_42_method_54_code (1 : Nat) (Option.some Jvm.ClassFile.FieldType.int), Jvm.Cond.code ({ cls := "java/lang/String", name := "coder", desc := "()B" } : Jvm.MethodName) jdk_42_method_152_code (1 : Nat) (Option.some Jvm.ClassFile.FieldType.byte), Jvm.Cond.code ({ cls := "java/lang/String", name := "charAt", desc := "(I)C" } : Jvm.MethodName) jdk_42_method_56_code (2 : Nat) (Option.some Jvm.ClassFile.FieldType.char), Jvm.Cond.code ({ cls := "java/lang/String", name := "isLatin1", desc := "()Z" } : Jvm.MethodName) jdk_42_method_154_code (1 : Nat) (Option.some Jvm.ClassFile.FieldType.boolean), Jvm.Cond.code ({ cls := "java/lang/StringLatin1", name := "charAt", desc := "([BI)C" } : Jvm.MethodName) jdk_43_method_2_code (2 : Nat) (Option.some Jvm.ClassFile.FieldType.char), Jvm.Cond.code ({ cls := "java/lang/String", name := "checkIndex", desc := "(II)V" } : Jvm.MethodName) jdk_42_method_155_code (2 : Nat) (Option.none : Option Jvm.ClassFile.FieldType), Jvm.Cond.code ({ cls := "jdk/internal/util/Preconditions", name := "checkIndex", desc := "(IILjava/util/function/BiFunction;)I" } : Jvm.MethodName) jdk_41_method_11_code (3 : Nat) (Option.some Jvm.ClassFile.FieldType.int), Jvm.Cond.code ({ cls := "com/example/twince/twince/IdempotencyKey", name := "isBlank", desc := "(C)Z" } : Jvm.MethodName) prog_6_method_4_code (1 : Nat) (Option.some Jvm.ClassFile.FieldType.boolean), Jvm.Cond.code ({ cls := "com/example/twince/twince/IdempotencyKey", name := "isKeyCharacter", desc := "(C)Z" } : Jvm.MethodName) prog_6_method_5_code (1 : Nat) (Option.some Jvm.ClassFile.FieldType.boolean), Jvm.Cond.code ({ cls := "java/lang/String", name := "substring", desc := "(II)Ljava/lang/String;" } : Jvm.MethodName) jdk_42_method_92_code (5 : Nat) (Option.some (Jvm.ClassFile.FieldType.object "java/lang/String")), Jvm.Cond.code ({ cls := "java/lang/String", name := "checkBoundsBeginEnd", desc := "(III)V" } : Jvm.MethodName) jdk_42_method_158_code (3 : Nat) (Option.none : Option Jvm.ClassFile.FieldType), Jvm.Cond.code ({ cls := "jdk/internal/util/Preconditions", name := "checkFromToIndex", desc := "(IIILjava/util/function/BiFunction;)I" } : Jvm.MethodName) jdk_41_method_12_code (4 : Nat) (Option.some Jvm.ClassFile.FieldType.int), Jvm.Cond.code ({ cls := "java/lang/StringLatin1", name := "newString", desc := "([BII)Ljava/lang/String;" } : Jvm.MethodName) jdk_43_method_47_code (3 : Nat) (Option.some (Jvm.ClassFile.FieldType.object "java/lang/String")), Jvm.Cond.code ({ cls := "java/util/Arrays", name := "copyOfRange", desc := "([BII)[B" } : Jvm.MethodName) jdk_65_method_132_code (3 : Nat) (Option.some (Jvm.ClassFile.FieldType.array Jvm.ClassFile.FieldType.byte)), Jvm.Cond.code ({ cls := "java/util/Arrays", name := "copyOfRangeByte", desc := "([BII)[B" } : Jvm.MethodName) jdk_65_method_133_code (5 : Nat) (Option.some (Jvm.ClassFile.FieldType.array Jvm.ClassFile.FieldType.byte)), Jvm.Cond.code ({ cls := "java/util/Arrays", name := "checkLength", desc := "(II)V" } : Jvm.MethodName) jdk_65_method_131_code (2 : Nat) (Option.none : Option Jvm.ClassFile.FieldType), Jvm.Cond.code ({ cls := "java/lang/Math", name := "min", desc := "(II)I" } : Jvm.MethodName) jdk_29_method_69_code (2 : Nat) (Option.some Jvm.ClassFile.FieldType.int), Jvm.Cond.code ({ cls := "java/lang/String", name := "<init>", desc := "([BB)V" } : Jvm.MethodName) jdk_42_method_151_code (3 : Nat) (Option.none : Option Jvm.ClassFile.FieldType), Jvm.Cond.code ({ cls := "com/example/twince/twince/IdempotencyKey", name := "<init>", desc := "(Ljava/lang/String;)V" } : Jvm.MethodName) prog_6_method_1_code (2 : Nat) (Option.none : Option Jvm.ClassFile.FieldType), Jvm.Cond.code ({ cls := "com/example/twince/twince/IdempotencyKey", name := "value", desc := "()Ljava/lang/String;" } : Jvm.MethodName) prog_6_method_7_code (1 : Nat) (Option.some (Jvm.ClassFile.FieldType.object "java/lang/String")), Jvm.Cond.code ({ cls := "com/example/twince/twince/IdempotencyKeyParsePinLaw", name := "same", desc := "(Ljava/lang/String;IIJ)Z" } : Jvm.MethodName) method_3_code (5 : Nat) (Option.some Jvm.ClassFile.FieldType.boolean)]
set_option maxRecDepth 65536 in
theorem codes_eq : words1.filter isCode = codes1 := rfl
theorem w_codes : ∀ c ∈ words1.filter isCode, c.before args0 about1 = true := by
  rw [codes_eq]
  intro c hc
  simp only [codes1, List.mem_cons, List.not_mem_nil, or_false] at hc
  rcases hc with rfl | rfl | rfl | rfl | rfl | rfl | rfl | rfl | rfl | rfl | rfl | rfl | rfl | rfl | rfl | rfl | rfl | rfl | rfl | rfl | rfl | rfl | rfl | rfl | rfl | rfl | rfl | rfl | rfl | rfl | rfl | rfl | rfl | rfl
  · exact w_c0
  · exact w_c1
  · exact w_c2
  · exact w_c3
  · exact w_c4
  · exact w_c5
  · exact w_c6
  · exact w_c7
  · exact w_c8
  · exact w_c9
  · exact w_c10
  · exact w_c11
  · exact w_c12
  · exact w_c13
  · exact w_c14
  · exact w_c15
  · exact w_c16
  · exact w_c17
  · exact w_c18
  · exact w_c19
  · exact w_c20
  · exact w_c21
  · exact w_c22
  · exact w_c23
  · exact w_c24
  · exact w_c25
  · exact w_c26
  · exact w_c27
  · exact w_c28
  · exact w_c29
  · exact w_c30
  · exact w_c31
  · exact w_c32
  · exact w_c33
set_option maxRecDepth 65536 in
theorem w_t1 : (words1.take 24).all (fun c => isCode c || c.before args0 about1) = true := by decide +kernel
set_option maxRecDepth 65536 in
theorem w_t2 : ((words1.drop 24).take 24).all (fun c => isCode c || c.before args0 about1) = true := by decide +kernel
set_option maxRecDepth 65536 in
theorem w_t3 : (((words1.drop 24).drop 24).take 24).all (fun c => isCode c || c.before args0 about1) = true := by decide +kernel
set_option maxRecDepth 65536 in
theorem w_t4 : ((((words1.drop 24).drop 24).drop 24).take 24).all (fun c => isCode c || c.before args0 about1) = true := by decide +kernel
set_option maxRecDepth 65536 in
theorem w_t5 : (((((words1.drop 24).drop 24).drop 24).drop 24).take 24).all (fun c => isCode c || c.before args0 about1) = true := by decide +kernel
set_option maxRecDepth 65536 in
theorem w_t6 : ((((((words1.drop 24).drop 24).drop 24).drop 24).drop 24).take 24).all (fun c => isCode c || c.before args0 about1) = true := by decide +kernel
set_option maxRecDepth 65536 in
theorem w_t7 : ((((((words1.drop 24).drop 24).drop 24).drop 24).drop 24).drop 24).all (fun c => isCode c || c.before args0 about1) = true := by decide +kernel
theorem w_tables : (allAtoms (Jvm.Cond.code x code maxLocals ret :: tables_1)).before args0 about1 = true := by
  rw [allAtoms_all]
  show words1.all (fun c => c.before args0 about1) = true
  refine all_split ?_ w_codes
  rw [← List.take_append_drop 24 words1, List.all_append, w_t1, ← List.take_append_drop 24 (words1.drop 24), List.all_append, w_t2, ← List.take_append_drop 24 ((words1.drop 24).drop 24), List.all_append, w_t3, ← List.take_append_drop 24 (((words1.drop 24).drop 24).drop 24), List.all_append, w_t4, ← List.take_append_drop 24 ((((words1.drop 24).drop 24).drop 24).drop 24), List.all_append, w_t5, ← List.take_append_drop 24 (((((words1.drop 24).drop 24).drop 24).drop 24).drop 24), List.all_append, w_t6, w_t7]
  rfl
set_option maxRecDepth 65536 in
theorem w_rest : rest_1_c.before args0 about1 = true := by decide +kernel
set_option maxRecDepth 65536 in
theorem w_case : (Jvm.Cond.and given_1 narrow_1).before args0 about1 = true := by decide +kernel
theorem w_applies : (headSpec (Jvm.Cond.code x code maxLocals ret :: tables_1) room_1).applies x e0.platform about1 = true :=
  (Spec.applies_iff w_frames).mpr ⟨w_running, w_runnable, w_alone, w_named, w_hears, w_ripe, w_room, w_tables⟩
theorem atStart : AtStart classFile x code maxLocals ret World_1 tables_1 room_1 Calls_1 rest_1 Pre_1 launch0 p0 e0 about1 theMethod args0 below0 :=
  ⟨lists_1, trivial, launch0.admits_env _ _ _, launch0.least_env, fairChoices_fair.cas, fairChoices_fair.clock, w_frames, w_args, w_heap, w_applies, trivial, w_rest, w_case⟩
end start1
theorem witness_1 : WitnessClaimed_1 := ⟨start1.p0, start1.e0, start1.about1, start1.theMethod, start1.args0, start1.below0, start1.atStart⟩
end Jvm.Pilot.@@N@@
