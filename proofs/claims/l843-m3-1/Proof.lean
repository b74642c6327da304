import JvmDerived
import JvmDerived.Pilot.@@N@@Statement
import JvmDerived.Pilot.@@N@@Code
set_option linter.unusedVariables false
set_option linter.unusedSimpArgs false
namespace Jvm.RoadKit
open Sem ClassFile Op Lib Jvm.Stand Jvm.Free Jvm.LawKit
section New
variable {p : Program} {l : Launch} {e : Env} {R : Room} {s : State} {m : MethodId} {args : Array Value} {below : List Frame} {meth : Method} {c : Code} {T : State} {locs : List Loc} {cells slots : Nat}
theorem retI (X : Stand p l e R s m args below meth c T locs cells slots) (hx : p.tables.exec = Jvm.exec) {pc : Nat} {Ls : Array Slot} {z : Int32} {rest : List Value} (hret : meth.sig.returnType = some .int) (hd : decode c.code pc = .ok (.ireturn, 1)) {fs : List Frame}
    (hl : ∀ (f : JFrame) (acts : List Action), f.method = m → f.locked = none → f.entered = [] → (doReturn e (T.setTop f) acts (some (.int z))).1 = T.setFrames fs) : Steps p.tables e below (T.setTop (mkF m pc Ls (.int z :: rest))) (T.setFrames fs) := by
  have hm' : T.vm.method? m = some meth := X.method'
  have hn : narrow .int (.int z) = .int z := rfl
  show Steps p.tables e below (T.setTop { method := m, pc := pc, locals := Ls, stack := _ :: rest, locked := none }) _
  jvm_step X.here [X.here.top, hx, hd, hm', hret, hn]
  first | (intro acts; rw [hl _ acts rfl rfl rfl]) | rw [hl _ _ rfl rfl rfl]
  exact Steps.refl _
end New
end Jvm.RoadKit
namespace Jvm.Pilot.@@N@@
open Jvm Jvm.ClassFile Sem Op Lib Jvm.Free Jvm.Stand Jvm.LawKit Jvm.RoadKit Bundle Jvm.Pilot.@@N@@.Jvm.D
/-- what is left to run from S0 is what is left from T with the frame g on top -/
abbrev own_Pr (tb : Tables) (e : Env) (below : List Frame) (S0 T : State) (g : JFrame) : Prop := ∀ t, Steps tb e below (T.setTop g) t → Steps tb e below S0 t
/-- it returns the int r, the heap as it was -/
def own_QI (h0 : Heap) (n0 : Nat) (r : Int32) (v : Option Value) (h : Heap) (L : List Loc) : Prop := ∃ z, v = some (.int z) ∧ z = r ∧ Fr n0 L ∧ h = h0
def own_QJ (h0 : Heap) (n0 : Nat) (r : Int64) (v : Option Value) (h : Heap) (L : List Loc) : Prop := ∃ z, v = some (.long z) ∧ z = r ∧ Fr n0 L ∧ h = h0
def own_QR (h0 : Heap) (n0 : Nat) (r : Addr) (v : Option Value) (h : Heap) (L : List Loc) : Prop := ∃ z, v = some (.ref z) ∧ z = r ∧ Fr n0 L ∧ h = h0
def own_QL (n0 : Nat) (v : Option Value) (L : List Loc) : Prop := ∃ z : Int32, v = some (.int z) ∧ z = 1 ∧ Fr n0 L
def own_QV (h0 : Heap) (n0 : Nat) (v : Option Value) (h : Heap) (L : List Loc) : Prop := v = none ∧ Fr n0 L ∧ h = h0
theorem own_tab_other {Z : State} {h h' : Heap} {a b : Addr} {sl : Nat} {v : Value} {cl : Cell} {ty : FieldType} {n : Int32} (F : Tab Z h b cl ty n) (W : Wr h h' a sl v) (q : b ≠ a) : Tab Z h' b cl ty n := ⟨F.1.other W q, F.2⟩
theorem own_tab_keep {Z : State} {h h' : Heap} {b : Addr} {ws : List Addr} {cl : Cell} {ty : FieldType} {n : Int32} (F : Tab Z h b cl ty n) (K : Keep h h' ws) (q : b ∉ ws) : Tab Z h' b cl ty n := ⟨⟨K.2.1 b cl F.1.1 q, F.1.2⟩, F.2⟩
theorem own_tab {Z : State} {h : Heap} {a : Addr} {k : ClassId} {ty : FieldType} {n : Int32} {xs : List Int32} (F : Arv Z h a k ty n (xs.map Value.int) (.int 0)) : ∃ cl, Tab Z h a cl ty n ∧ ∀ j : Int32, ¬ j < 0 → j < n → atv cl j = xs.getD j.toNatClampNeg 0 := by
  obtain ⟨cl, A, -, S, hn, H, -⟩ := F
  have key : ∀ i, i < cl.slots.size → cl.slots[i]? = some (.int (xs.getD i 0)) := fun i hi => by
    rw [H i hi]; simp only [List.getD_eq_getElem?_getD, List.getElem?_map]
    cases xs[i]? <;> rfl
  have at' : ∀ j : Int32, ¬ (j < 0 ∨ cl.slots.size ≤ j.toNatClampNeg) → atv cl j = xs.getD j.toNatClampNeg 0 := fun j hj => atv_of (key _ (Nat.lt_of_not_le fun q => hj (Or.inr q)))
  exact ⟨cl, ⟨A, S, hn, fun j hj => by rw [at' j hj]; exact key _ (Nat.lt_of_not_le fun q => hj (Or.inr q))⟩, fun j h1 h2 => at' j (inb_of S ⟨h1, h2⟩)⟩
theorem own_lremM {p : Program} {l : Launch} {e : Env} {R : Room} {s : State} {m : MethodId} {args : Array Value} {below : List Frame} {meth : Method} {c : Code} {T : State} {locs : List Loc} {cells slots : Nat} {g : JFrame} {target : State} (X : Stand p l e R s m args below meth c T locs cells slots) (hx : p.tables.exec = Jvm.exec) (hg : g.method = m) {x y : Int64} {rest : List Value} (hd : decode c.code g.pc = .ok (.lrem, 1)) (hs : g.stack = .long y :: .long x :: rest) (hy : y ≠ 0)
    (hr : Steps p.tables e below (T.setTop { g with pc := g.pc + 1, stack := .long (x % y) :: rest }) target) : Steps p.tables e below (T.setTop g) target :=
  XS.lrem X.here hx hg hd hs hy (by rw [lrem_mod x y]; exact hr)
theorem own_wS {a0 : Array Value} {Z : State} (hw : ∀ d ∈ tables_1, d.before a0 Z = true) : ∀ a ∈ Bundle.stringAtoms, a.before a0 Z = true := fun a ha => by
  simp only [Bundle.stringAtoms, List.mem_cons, List.not_mem_nil, or_false] at ha
  rcases ha with rfl | rfl | rfl | rfl | rfl | rfl | rfl
  · exact (hw _ (List.mem_of_getElem? (i := 16) rfl))
  · exact (hw _ (List.mem_of_getElem? (i := 17) rfl))
  · exact (hw _ (List.mem_of_getElem? (i := 18) rfl))
  · exact (hw _ (List.mem_of_getElem? (i := 19) rfl))
  · exact (hw _ (List.mem_of_getElem? (i := 20) rfl))
  · exact (hw _ (List.mem_of_getElem? (i := 21) rfl))
  · exact (hw _ (List.mem_of_getElem? (i := 22) rfl))
theorem d2_0 : decode jdk_30_method_1_code 0 = .ok (.aload_n 0, 1) := by decide +kernel
theorem d2_1 : decode jdk_30_method_1_code 1 = .ok (.invokespecial 1, 3) := by decide +kernel
theorem d2_4 : decode jdk_30_method_1_code 4 = .ok (.return_, 1) := by decide +kernel
theorem pn_2 : plainName "java/lang/Record" = true := by first | (simp [plainName, overriddenIn]; done) | decide +kernel
theorem ef_2 (m : MethodId) (a1 : Addr) : entryFrame m #[(.ref a1)] 1 = mkF m 0 #[.val (.ref a1)] [] := by first | (simp [entryFrame, mkF, argsToLocals, Value.category]; done) | rfl
set_option maxRecDepth 65536 in
set_option maxHeartbeats 40000000 in
theorem rm2 (l : Launch) (Z : State) (a0 : Array Value) (hw : ∀ d ∈ tables_1, d.before a0 Z = true) (ws : List Jvm.Cond) (a1 : Addr)  (h0 : Heap) (n0 : Nat) (Z0 : n0 ≤ h0.size) :
    MetFree l (⟨"java/lang/Record", "<init>", "()V"⟩ : MethodName) (head1 (Jvm.Cond.code (⟨"java/lang/Record", "<init>", "()V"⟩ : MethodName) jdk_30_method_1_code 1 none :: ws) ({ frames := 1, cells := 0, slots := 0, locals := 12 } : Room)) (fun a U => a = #[(.ref a1)] ∧ Z.Warmed39 U.vm ∧ U.heap = h0) (fun _ _ _ _ _ => True) (fun _ U o U' => ∃ v L, o = .returned v ∧ own_QV h0 n0 v U'.heap L ∧ FrameEnd U o U' L ({ frames := 1, cells := 0, slots := 0, locals := 12 } : Room).cells ({ frames := 1, cells := 0, slots := 0, locals := 12 } : Room).slots) := by
  refine MetFree.of_bodySF (plainFor_of_name pn_2) hisR ?_
  intro p e s m args below meth c s₁ Bd hml0 hP hK
  obtain ⟨rfl, hZ, hh⟩ := hP
  have hx := Bd.exec
  have hby := Bd.bytes
  have hml : c.maxLocals = 1 := hml0
  have hown : s.vm.findClass "java/lang/Record" = some m.cls := findClass_of_methodNamed Bd.named
  have hnm := (name_of_methodNamed Bd.named Bd.method).1
  have X0 : Stand p l e ({ frames := 1, cells := 0, slots := 0, locals := 12 } : Room) s m #[(.ref a1)] below meth c s₁ [] 0 0 := Stand.of_body Bd
  have e0 : s₁.heap = h0 := by rw [← hh, Bd.state]; rfl
  have N0 := Fr.nil n0
  obtain ⟨S0, hS0⟩ : ∃ z, z = s₁.setTop (entryFrame m #[(.ref a1)] 1) := ⟨_, rfl⟩
  have P0 : own_Pr p.tables e below S0 s₁ (mkF m 0 #[.val (.ref a1)] []) := fun t k => hS0 ▸ castTop (ef_2 m a1) k
  have P1 : own_Pr p.tables e below S0 s₁ (mkF m 1 #[.val (.ref a1)] [(.ref a1)]) := fun t k => P0 t (by
    refine XS.aloadN X0.here hx rfl (hb hby d2_0) rfl rfl ?_
    show Steps p.tables e below (s₁.setTop (mkF m 1 #[.val (.ref a1)] [(.ref a1)])) _
    exact k)
  obtain ⟨T2, X2, e2, st2⟩ := initO X0 hx hZ hown (hw _ (List.mem_of_getElem? (i := 12) rfl)) (hw _ (List.mem_of_getElem? (i := 13) rfl)) (hw _ (List.mem_of_getElem? (i := 14) rfl)) e0 (g := (mkF m 1 #[.val (.ref a1)] [(.ref a1)])) rfl (by rw [hml]; rfl) rfl (hb hby d2_1) (by decide) (W := 0) (by show 2 * 0 + _ ≤ _; exact Nat.le_of_eq rfl) (by decide)
  have P3 : own_Pr p.tables e below S0 T2 (mkF m 4 #[.val (.ref a1)] []) := fun t k => P1 t (st2 _ k)
  obtain ⟨fs, hr, hrun, hended, hW, hsame⟩ := X2.leave (v := none) (fun _ => rfl)
  have fin : Steps p.tables e below S0 (T2.setFrames fs) := P3 _ (X2.returnOut hx Bd.returns (hb hby d2_4) hr)
  rw [hS0] at fin
  refine ⟨_, _, fin, hrun, hended, _, _, rfl, ?_, ⟨_, rfl⟩, hW, hsame.mono (by decide) (by decide)⟩
  show own_QV h0 n0 _ T2.heap _
  rw [e2]
  exact ⟨rfl, N0, rfl⟩
theorem d4_0 : decode prog_112_method_2_code 0 = .ok (.lload_n 1, 1) := by decide +kernel
theorem d4_1 : decode prog_112_method_2_code 1 = .ok (.lconst 0, 1) := by decide +kernel
theorem d4_2 : decode prog_112_method_2_code 2 = .ok (.lcmp, 1) := by decide +kernel
theorem d4_3 : decode prog_112_method_2_code 3 = .ok (.ifCond .lt 11, 3) := by decide +kernel
theorem d4_6 : decode prog_112_method_2_code 6 = .ok (.lload_n 1, 1) := by decide +kernel
theorem d4_7 : decode prog_112_method_2_code 7 = .ok (.ldc2_w 9, 3) := by decide +kernel
theorem d4_10 : decode prog_112_method_2_code 10 = .ok (.lcmp, 1) := by decide +kernel
theorem d4_11 : decode prog_112_method_2_code 11 = .ok (.ifCond .le 18, 3) := by decide +kernel
theorem d4_29 : decode prog_112_method_2_code 29 = .ok (.lload_n 1, 1) := by decide +kernel
theorem d4_30 : decode prog_112_method_2_code 30 = .ok (.lreturn, 1) := by decide +kernel
theorem pn_4 : plainName "com/example/enqueue_to_disk/enqueuetodisk/format/internal/Unsigned32" = true := by first | (simp [plainName, overriddenIn]; done) | decide +kernel
theorem ef_4 (m : MethodId) (a1 : Addr) (p2 : Int64) : entryFrame m #[(.ref a1), (.long p2)] 3 = mkF m 0 #[.val (.ref a1), .val (.long p2), .second] [] := by first | (simp [entryFrame, mkF, argsToLocals, Value.category]; done) | rfl
def own_f4 (p2 : Int64) : Int64 := p2
set_option maxRecDepth 65536 in
set_option maxHeartbeats 40000000 in
theorem rm4 (l : Launch) (Z : State) (a0 : Array Value) (hw : ∀ d ∈ tables_1, d.before a0 Z = true) (ws : List Jvm.Cond) (a1 : Addr) (p2 : Int64)  (h0 : Heap) (n0 : Nat) (Z0 : n0 ≤ h0.size) (hlo : ¬ (p2 < (0 : Int64))) (hhi : ¬ ((4294967295 : Int64) < p2)) :
    MetFree l (⟨"com/example/enqueue_to_disk/enqueuetodisk/format/internal/Unsigned32", "require", "(Ljava/lang/String;J)J"⟩ : MethodName) (head1 (Jvm.Cond.code (⟨"com/example/enqueue_to_disk/enqueuetodisk/format/internal/Unsigned32", "require", "(Ljava/lang/String;J)J"⟩ : MethodName) prog_112_method_2_code 3 (some .long) :: ws) ({ frames := 0, cells := 0, slots := 0, locals := 0 } : Room)) (fun a U => a = #[(.ref a1), (.long p2)] ∧ Z.Warmed39 U.vm ∧ U.heap = h0) (fun _ _ _ _ _ => True) (fun _ U o U' => ∃ v L, o = .returned v ∧ own_QJ h0 n0 (own_f4 p2) v U'.heap L ∧ FrameEnd U o U' L ({ frames := 0, cells := 0, slots := 0, locals := 0 } : Room).cells ({ frames := 0, cells := 0, slots := 0, locals := 0 } : Room).slots) := by
  refine MetFree.of_bodySF (plainFor_of_name pn_4) hisR ?_
  intro p e s m args below meth c s₁ Bd hml0 hP hK
  obtain ⟨rfl, hZ, hh⟩ := hP
  have hx := Bd.exec
  have hby := Bd.bytes
  have hml : c.maxLocals = 3 := hml0
  have hown : s.vm.findClass "com/example/enqueue_to_disk/enqueuetodisk/format/internal/Unsigned32" = some m.cls := findClass_of_methodNamed Bd.named
  have hnm := (name_of_methodNamed Bd.named Bd.method).1
  have X0 : Stand p l e ({ frames := 0, cells := 0, slots := 0, locals := 0 } : Room) s m #[(.ref a1), (.long p2)] below meth c s₁ [] 0 0 := Stand.of_body Bd
  have e0 : s₁.heap = h0 := by rw [← hh, Bd.state]; rfl
  have N0 := Fr.nil n0
  obtain ⟨S0, hS0⟩ : ∃ z, z = s₁.setTop (entryFrame m #[(.ref a1), (.long p2)] 3) := ⟨_, rfl⟩
  have P0 : own_Pr p.tables e below S0 s₁ (mkF m 0 #[.val (.ref a1), .val (.long p2), .second] []) := fun t k => hS0 ▸ castTop (ef_4 m a1 p2) k
  have P1 : own_Pr p.tables e below S0 s₁ (mkF m 30 #[.val (.ref a1), .val (.long p2), .second] [(.long p2)]) := fun t k => P0 t (by
    refine XS.lloadN X0.here hx rfl (hb hby d4_0) rfl ?_
    show Steps p.tables e below (s₁.setTop (mkF m 1 #[.val (.ref a1), .val (.long p2), .second] [(.long p2)])) _
    refine XS.lconst X0.here hx rfl (hb hby d4_1) ?_
    show Steps p.tables e below (s₁.setTop (mkF m 2 #[.val (.ref a1), .val (.long p2), .second] [(.long (0 : Int64)), (.long p2)])) _
    refine XS.lcmp X0.here hx rfl (hb hby d4_2) rfl ?_
    show Steps p.tables e below (s₁.setTop (mkF m 3 #[.val (.ref a1), .val (.long p2), .second] [(.int (lcmpW p2 (0 : Int64)))])) _
    refine XS.ifNo X0.here hx rfl (hb hby d4_3) rfl (XT.i0_lt_f (fun q => hlo ((lw_lt p2 (0 : Int64)).mp q))) ?_
    show Steps p.tables e below (s₁.setTop (mkF m 6 #[.val (.ref a1), .val (.long p2), .second] [])) _
    refine XS.lloadN X0.here hx rfl (hb hby d4_6) rfl ?_
    show Steps p.tables e below (s₁.setTop (mkF m 7 #[.val (.ref a1), .val (.long p2), .second] [(.long p2)])) _
    refine X0.ldc2Long hx hown (mvT hZ (hw _ (List.mem_of_getElem? (i := 27) rfl))) (g := (mkF m 7 #[.val (.ref a1), .val (.long p2), .second] [(.long p2)])) rfl (hb hby d4_7) _ ?_
    show Steps p.tables e below (s₁.setTop (mkF m 10 #[.val (.ref a1), .val (.long p2), .second] [(.long (4294967295 : Int64)), (.long p2)])) _
    refine XS.lcmp X0.here hx rfl (hb hby d4_10) rfl ?_
    show Steps p.tables e below (s₁.setTop (mkF m 11 #[.val (.ref a1), .val (.long p2), .second] [(.int (lcmpW p2 (4294967295 : Int64)))])) _
    refine XS.ifYes X0.here hx rfl (pc0 := 11) (pc' := 29) rfl (hb hby d4_11) rfl (XT.i0_le_t (fun q => hhi ((lw_gt p2 (4294967295 : Int64)).mp q))) (by decide) (by decide) ?_
    show Steps p.tables e below (s₁.setTop (mkF m 29 #[.val (.ref a1), .val (.long p2), .second] [])) _
    refine XS.lloadN X0.here hx rfl (hb hby d4_29) rfl ?_
    show Steps p.tables e below (s₁.setTop (mkF m 30 #[.val (.ref a1), .val (.long p2), .second] [(.long p2)])) _
    exact k)
  obtain ⟨fs, hr, hrun, hended, hW, hsame⟩ := X0.leave (v := some (.long p2)) (fun h => by rw [Bd.returns] at h; cases h)
  have fin : Steps p.tables e below S0 (s₁.setFrames fs) := P1 _ (by
    jvm_step X0.here [X0.here.top, hx, (hb hby d4_30), X0.method', Bd.returns, narrow]
    first | (intro acts; rw [hr _ acts rfl rfl rfl]) | rw [hr _ _ rfl rfl rfl]
    exact Steps.refl _)
  rw [hS0] at fin
  refine ⟨_, _, fin, hrun, hended, _, _, rfl, ?_, ⟨_, rfl⟩, hW, hsame.mono (by decide) (by decide)⟩
  show own_QJ h0 n0 (own_f4 p2) _ s₁.heap _
  rw [e0]
  exact ⟨_, rfl, (by unfold own_f4; rfl), N0, rfl⟩
def own_Q1 (Z : State) (a : Addr) (x y : Int64) (h0 : Heap) (n0 : Nat) (v : Option Value) (h : Heap) (L : List Loc) : Prop := v = none ∧ Fr n0 L ∧ Keep h0 h [a] ∧ Exa Z h a "com/example/enqueue_to_disk/enqueuetodisk/format/internal/IndexEntry" ∧ Fld Z h a "com/example/enqueue_to_disk/enqueuetodisk/format/internal/IndexEntry" "recordNumber" "J" (.long x) ∧ Fld Z h a "com/example/enqueue_to_disk/enqueuetodisk/format/internal/IndexEntry" "offset" "J" (.long y)
theorem d1_0 : decode prog_104_method_1_code 0 = .ok (.aload_n 0, 1) := by decide +kernel
theorem d1_1 : decode prog_104_method_1_code 1 = .ok (.invokespecial 1, 3) := by decide +kernel
theorem d1_4 : decode prog_104_method_1_code 4 = .ok (.ldc 7, 2) := by decide +kernel
theorem d1_6 : decode prog_104_method_1_code 6 = .ok (.lload_n 1, 1) := by decide +kernel
theorem d1_7 : decode prog_104_method_1_code 7 = .ok (.invokestatic 9, 3) := by decide +kernel
theorem d1_10 : decode prog_104_method_1_code 10 = .ok (.pop2, 1) := by decide +kernel
theorem d1_11 : decode prog_104_method_1_code 11 = .ok (.ldc 15, 2) := by decide +kernel
theorem d1_13 : decode prog_104_method_1_code 13 = .ok (.lload_n 3, 1) := by decide +kernel
theorem d1_14 : decode prog_104_method_1_code 14 = .ok (.invokestatic 9, 3) := by decide +kernel
theorem d1_17 : decode prog_104_method_1_code 17 = .ok (.pop2, 1) := by decide +kernel
theorem d1_18 : decode prog_104_method_1_code 18 = .ok (.aload_n 0, 1) := by decide +kernel
theorem d1_19 : decode prog_104_method_1_code 19 = .ok (.lload_n 1, 1) := by decide +kernel
theorem d1_20 : decode prog_104_method_1_code 20 = .ok (.putfield 17, 3) := by decide +kernel
theorem d1_23 : decode prog_104_method_1_code 23 = .ok (.aload_n 0, 1) := by decide +kernel
theorem d1_24 : decode prog_104_method_1_code 24 = .ok (.lload_n 3, 1) := by decide +kernel
theorem d1_25 : decode prog_104_method_1_code 25 = .ok (.putfield 23, 3) := by decide +kernel
theorem d1_28 : decode prog_104_method_1_code 28 = .ok (.return_, 1) := by decide +kernel
theorem pn_1 : plainName "com/example/enqueue_to_disk/enqueuetodisk/format/internal/IndexEntry" = true := by first | (simp [plainName, overriddenIn]; done) | decide +kernel
theorem pd_0 : parseMethodDescriptor "()V" = some ⟨[], none⟩ := by decide +kernel
theorem pd_1 : parseMethodDescriptor "(Ljava/lang/String;J)J" = some ⟨[(.object "java/lang/String"), .long], some .long⟩ := by decide +kernel
theorem ef_1 (m : MethodId) (a1 : Addr) (p2 : Int64) (p3 : Int64) : entryFrame m #[(.ref a1), (.long p2), (.long p3)] 5 = mkF m 0 #[.val (.ref a1), .val (.long p2), .second, .val (.long p3), .second] [] := by first | (simp [entryFrame, mkF, argsToLocals, Value.category]; done) | rfl
set_option maxRecDepth 65536 in
set_option maxHeartbeats 40000000 in
theorem rm1 (l : Launch) (Z : State) (a0 : Array Value) (hw : ∀ d ∈ tables_1, d.before a0 Z = true) (ws : List Jvm.Cond) (a1 : Addr) (p2 : Int64) (p3 : Int64)  (h0 : Heap) (n0 : Nat) (Z0 : n0 ≤ h0.size) (F1 : Fld Z h0 a1 "com/example/enqueue_to_disk/enqueuetodisk/format/internal/IndexEntry" "recordNumber" "J" (.long (0 : Int64))) (F2 : Fld Z h0 a1 "com/example/enqueue_to_disk/enqueuetodisk/format/internal/IndexEntry" "offset" "J" (.long (0 : Int64))) (E1 : Exa Z h0 a1 "com/example/enqueue_to_disk/enqueuetodisk/format/internal/IndexEntry") (g_a1 : n0 ≤ a1) (hp2a : ¬ (p2 < (0 : Int64))) (hp2b : ¬ ((4294967295 : Int64) < p2)) (hp3a : ¬ (p3 < (0 : Int64))) (hp3b : ¬ ((4294967295 : Int64) < p3)) :
    MetFree l (⟨"com/example/enqueue_to_disk/enqueuetodisk/format/internal/IndexEntry", "<init>", "(JJ)V"⟩ : MethodName) (head1 (Jvm.Cond.code (⟨"com/example/enqueue_to_disk/enqueuetodisk/format/internal/IndexEntry", "<init>", "(JJ)V"⟩ : MethodName) prog_104_method_1_code 5 none :: ws) ({ frames := 2, cells := 4, slots := 84, locals := 24 } : Room)) (fun a U => a = #[(.ref a1), (.long p2), (.long p3)] ∧ Z.Warmed39 U.vm ∧ U.heap = h0) (fun _ _ _ _ _ => True) (fun _ U o U' => ∃ v L, o = .returned v ∧ own_Q1 Z a1 p2 p3 h0 n0 v U'.heap L ∧ ReturnedEndW U o U' L ({ frames := 2, cells := 4, slots := 84, locals := 24 } : Room).cells ({ frames := 2, cells := 4, slots := 84, locals := 24 } : Room).slots) := by
  refine MetFree.of_bodySF (plainFor_of_name pn_1) hisR ?_
  intro p e s m args below meth c s₁ Bd hml0 hP hK
  obtain ⟨rfl, hZ, hh⟩ := hP
  have hx := Bd.exec
  have hby := Bd.bytes
  have hml : c.maxLocals = 5 := hml0
  have hown : s.vm.findClass "com/example/enqueue_to_disk/enqueuetodisk/format/internal/IndexEntry" = some m.cls := findClass_of_methodNamed Bd.named
  have hnm := (name_of_methodNamed Bd.named Bd.method).1
  have X0 : Stand p l e ({ frames := 2, cells := 4, slots := 84, locals := 24 } : Room) (s.setVm s.vm) m #[(.ref a1), (.long p2), (.long p3)] below meth c s₁ [] 0 0 := Stand.of_body Bd
  have e0 : s₁.heap = h0 := by rw [← hh, Bd.state]; rfl
  have N0 := Fr.nil n0
  obtain ⟨S0, hS0⟩ : ∃ z, z = s₁.setTop (entryFrame m #[(.ref a1), (.long p2), (.long p3)] 5) := ⟨_, rfl⟩
  have P0 : own_Pr p.tables e below S0 s₁ (mkF m 0 #[.val (.ref a1), .val (.long p2), .second, .val (.long p3), .second] []) := fun t k => hS0 ▸ castTop (ef_1 m a1 p2 p3) k
  have hSn : s.Since s.vm 0 := (State.WarmedH.refl s).since 0
  have kS0 : 0 ≤ h0.size := Nat.zero_le _
  have K0 := Keep.refl h0 [a1]
  have P1 : own_Pr p.tables e below S0 s₁ (mkF m 1 #[.val (.ref a1), .val (.long p2), .second, .val (.long p3), .second] [(.ref a1)]) := fun t k => P0 t (by
    refine XS.aloadN X0.here hx rfl (hb hby d1_0) rfl rfl ?_
    show Steps p.tables e below (s₁.setTop (mkF m 1 #[.val (.ref a1), .val (.long p2), .second, .val (.long p3), .second] [(.ref a1)])) _
    exact k)
  obtain ⟨_, _, ⟨T2, L2, k2, n2⟩, -, X2, ⟨Lc2, hQ2, l2, y2, z2⟩, st2⟩ := X0.specialBack hx (y := (⟨"java/lang/Record", "<init>", "()V"⟩ : MethodName)) rfl hown (mvT hZ (hw _ (List.mem_of_getElem? (i := 7) rfl))) (mvT hZ (hw _ (List.mem_of_getElem? (i := 8) rfl))) (mvT hZ (hw _ (List.mem_of_getElem? (i := 11) rfl))) (by decide) (backOf (W := 0) (rm2 l Z a0 hw [] a1  h0 n0 Z0 ) hZ (hw _ (List.mem_of_getElem? (i := 11) rfl)) (hw _ (List.mem_of_getElem? (i := 10) rfl)) (by decide) (by decide)) (g := (mkF m 1 #[.val (.ref a1), .val (.long p2), .second, .val (.long p3), .second] [(.ref a1)])) rfl (by rw [hml]; rfl) (Steps.refl _) (a := a1) (argsL := []) (rest := []) (lenOf pd_0 rfl) rfl (by show 2 * 0 + _ ≤ _; exact Nat.le_of_eq rfl) (hb hby d1_1) (fun _ _ => ⟨rfl, e0, (by decide : 0 + 0 ≤ _), (by decide : 0 + 0 ≤ _)⟩)
  dsimp only [Pt.U, Pt.locs, Pt.cells, Pt.slots] at X2 l2 y2 z2 st2 hQ2
  subst l2 y2 z2
  obtain ⟨rfl, Nq2, eq2⟩ := hQ2
  have N2n := Fr.app N0 Nq2
  have P3 : own_Pr p.tables e below S0 T2 (mkF m 4 #[.val (.ref a1), .val (.long p2), .second, .val (.long p3), .second] []) := fun t k => P1 t (st2.trans k)
  obtain ⟨b4, T4, h4, k4, X4, e4, E4, hSn, kS4, hZ, hown, st4⟩ := ldcS X2 hx hZ hown (hw _ (List.mem_of_getElem? (i := 15) rfl)) (own_wS hw) eq2 hSn kS0 (g := (mkF m 4 #[.val (.ref a1), .val (.long p2), .second, .val (.long p3), .second] [])) rfl (hb hby d1_4) (n := 52) (by decide) (by decide) (by decide) (by decide)
  have F5 := E1.ext E4
  have F6 := F1.ext E4
  have F7 := F2.ext E4
  have Z8 : n0 ≤ h4.size := Nat.le_trans Z0 E4.1
  have K9 := K0.ext E4
  have P10 : own_Pr p.tables e below S0 T4 (mkF m 6 #[.val (.ref a1), .val (.long p2), .second, .val (.long p3), .second] [(.ref b4)]) := fun t k => P3 t (st4 _ k)
  have P11 : own_Pr p.tables e below S0 T4 (mkF m 7 #[.val (.ref a1), .val (.long p2), .second, .val (.long p3), .second] [(.long p2), (.ref b4)]) := fun t k => P10 t (by
    refine XS.lloadN X4.here hx rfl (hb hby d1_6) rfl ?_
    show Steps p.tables e below (T4.setTop (mkF m 7 #[.val (.ref a1), .val (.long p2), .second, .val (.long p3), .second] [(.long p2), (.ref b4)])) _
    exact k)
  obtain ⟨_, _, ⟨T12, L12, k12, n12⟩, -, X12, ⟨Lc12, hQ12, l12, y12, z12⟩, st12⟩ := Jvm.LawKit.callS X4 hx (y := (⟨"com/example/enqueue_to_disk/enqueuetodisk/format/internal/Unsigned32", "require", "(Ljava/lang/String;J)J"⟩ : MethodName)) hown (mvT hZ (hw _ (List.mem_of_getElem? (i := 23) rfl))) (mvT hZ (hw _ (List.mem_of_getElem? (i := 24) rfl))) (mvT hZ (hw _ (List.mem_of_getElem? (i := 25) rfl))) (mvT hZ (hw _ (List.mem_of_getElem? (i := 26) rfl))) (by decide) (backOf (W := 0) (rm4 l Z a0 hw [] b4 p2  h4 n0 Z8 hp2a hp2b) hZ (hw _ (List.mem_of_getElem? (i := 26) rfl)) (hw _ (List.mem_of_getElem? (i := 25) rfl)) (by decide) (by decide)) (g := (mkF m 7 #[.val (.ref a1), .val (.long p2), .second, .val (.long p3), .second] [(.long p2), (.ref b4)])) rfl (by rw [hml]; rfl) (argsL := [(.ref b4), (.long p2)]) (rest := []) (lenOf pd_1 rfl) rfl (by show 2 * 0 + _ ≤ _; exact Nat.le_of_eq rfl) (hb hby d1_7) (fun _ _ => ⟨rfl, e4, (by decide : 2 + 0 ≤ _), (by decide : 56 + 0 ≤ _)⟩)
  dsimp only [Pt.U, Pt.locs, Pt.cells, Pt.slots] at X12 l12 y12 z12 st12 hQ12
  subst l12 y12 z12
  obtain ⟨z12v, rfl, hz12v, Nq12, eq12⟩ := hQ12
  have N12n := Fr.app N2n Nq12
  have P13 : own_Pr p.tables e below S0 T12 (mkF m 10 #[.val (.ref a1), .val (.long p2), .second, .val (.long p3), .second] [(.long z12v)]) := fun t k => P11 t (st12 _ k)
  have P14 : own_Pr p.tables e below S0 T12 (mkF m 11 #[.val (.ref a1), .val (.long p2), .second, .val (.long p3), .second] []) := fun t k => P13 t (by
    jvm_step X12.here [X12.here.top, hx, (hb hby d1_10), Value.category]
    show Steps p.tables e below (T12.setTop (mkF m 11 #[.val (.ref a1), .val (.long p2), .second, .val (.long p3), .second] [])) _
    exact k)
  obtain ⟨b15, T15, h15, k15, X15, e15, E15, hSn, kS15, hZ, hown, st15⟩ := ldcS X12 hx hZ hown (hw _ (List.mem_of_getElem? (i := 28) rfl)) (own_wS hw) eq12 hSn kS4 (g := (mkF m 11 #[.val (.ref a1), .val (.long p2), .second, .val (.long p3), .second] [])) rfl (hb hby d1_11) (n := 24) (by decide) (by decide) (by decide) (by decide)
  have F16 := F5.ext E15
  have F17 := F6.ext E15
  have F18 := F7.ext E15
  have Z19 : n0 ≤ h15.size := Nat.le_trans Z8 E15.1
  have K20 := K9.ext E15
  have P21 : own_Pr p.tables e below S0 T15 (mkF m 13 #[.val (.ref a1), .val (.long p2), .second, .val (.long p3), .second] [(.ref b15)]) := fun t k => P14 t (st15 _ k)
  have P22 : own_Pr p.tables e below S0 T15 (mkF m 14 #[.val (.ref a1), .val (.long p2), .second, .val (.long p3), .second] [(.long p3), (.ref b15)]) := fun t k => P21 t (by
    refine XS.lloadN X15.here hx rfl (hb hby d1_13) rfl ?_
    show Steps p.tables e below (T15.setTop (mkF m 14 #[.val (.ref a1), .val (.long p2), .second, .val (.long p3), .second] [(.long p3), (.ref b15)])) _
    exact k)
  obtain ⟨_, _, ⟨T23, L23, k23, n23⟩, -, X23, ⟨Lc23, hQ23, l23, y23, z23⟩, st23⟩ := Jvm.LawKit.callS X15 hx (y := (⟨"com/example/enqueue_to_disk/enqueuetodisk/format/internal/Unsigned32", "require", "(Ljava/lang/String;J)J"⟩ : MethodName)) hown (mvT hZ (hw _ (List.mem_of_getElem? (i := 23) rfl))) (mvT hZ (hw _ (List.mem_of_getElem? (i := 24) rfl))) (mvT hZ (hw _ (List.mem_of_getElem? (i := 25) rfl))) (mvT hZ (hw _ (List.mem_of_getElem? (i := 26) rfl))) (by decide) (backOf (W := 0) (rm4 l Z a0 hw [] b15 p3  h15 n0 Z19 hp3a hp3b) hZ (hw _ (List.mem_of_getElem? (i := 26) rfl)) (hw _ (List.mem_of_getElem? (i := 25) rfl)) (by decide) (by decide)) (g := (mkF m 14 #[.val (.ref a1), .val (.long p2), .second, .val (.long p3), .second] [(.long p3), (.ref b15)])) rfl (by rw [hml]; rfl) (argsL := [(.ref b15), (.long p3)]) (rest := []) (lenOf pd_1 rfl) rfl (by show 2 * 0 + _ ≤ _; exact Nat.le_of_eq rfl) (hb hby d1_14) (fun _ _ => ⟨rfl, e15, (by decide : 4 + 0 ≤ _), (by decide : 84 + 0 ≤ _)⟩)
  dsimp only [Pt.U, Pt.locs, Pt.cells, Pt.slots] at X23 l23 y23 z23 st23 hQ23
  subst l23 y23 z23
  obtain ⟨z23v, rfl, hz23v, Nq23, eq23⟩ := hQ23
  have N23n := Fr.app N12n Nq23
  have P24 : own_Pr p.tables e below S0 T23 (mkF m 17 #[.val (.ref a1), .val (.long p2), .second, .val (.long p3), .second] [(.long z23v)]) := fun t k => P22 t (st23 _ k)
  have P25 : own_Pr p.tables e below S0 T23 (mkF m 20 #[.val (.ref a1), .val (.long p2), .second, .val (.long p3), .second] [(.long p2), (.ref a1)]) := fun t k => P24 t (by
    jvm_step X23.here [X23.here.top, hx, (hb hby d1_17), Value.category]
    show Steps p.tables e below (T23.setTop (mkF m 18 #[.val (.ref a1), .val (.long p2), .second, .val (.long p3), .second] [])) _
    refine XS.aloadN X23.here hx rfl (hb hby d1_18) rfl rfl ?_
    show Steps p.tables e below (T23.setTop (mkF m 19 #[.val (.ref a1), .val (.long p2), .second, .val (.long p3), .second] [(.ref a1)])) _
    refine XS.lloadN X23.here hx rfl (hb hby d1_19) rfl ?_
    show Steps p.tables e below (T23.setTop (mkF m 20 #[.val (.ref a1), .val (.long p2), .second, .val (.long p3), .second] [(.long p2), (.ref a1)])) _
    exact k)
  obtain ⟨T26, h26, X26, e26, W26, st26⟩ := putF X23 hx hZ hown (host := "") (Or.inl (hw _ (List.mem_of_getElem? (i := 29) rfl))) Via.refl eq23 F17 F16 (Or.inr ⟨(hw _ (List.mem_of_getElem? (i := 30) rfl)), rfl, hnm⟩) (hw _ (List.mem_of_getElem? (i := 2) rfl)) (ty := .long) (by decide) rfl rfl (g := (mkF m 20 #[.val (.ref a1), .val (.long p2), .second, .val (.long p3), .second] [(.long p2), (.ref a1)])) rfl rfl (hb hby d1_20)
  have F26 := F17.same W26
  have F27 := F16.wr W26
  have F28 := F18.other W26 (Or.inr (slot_ne (Or.inr (hw _ (List.mem_of_getElem? (i := 32) rfl))) (Or.inr (hw _ (List.mem_of_getElem? (i := 30) rfl))) (by decide) (t := .long) (t' := .long) (by decide) (by decide)))
  have Z29 : n0 ≤ h26.size := by rw [W26.size]; exact Z19
  have kS30 := Nat.le_trans kS15 (Nat.le_of_eq W26.size.symm)
  have NF26 := Fr.snoc X26 N23n g_a1
  have K31 := K20.wr W26 (Or.inl (List.mem_of_getElem? (i := 0) rfl))
  have P32 : own_Pr p.tables e below S0 T26 (mkF m 23 #[.val (.ref a1), .val (.long p2), .second, .val (.long p3), .second] []) := fun t k => P25 t (st26 _ k)
  have P33 : own_Pr p.tables e below S0 T26 (mkF m 25 #[.val (.ref a1), .val (.long p2), .second, .val (.long p3), .second] [(.long p3), (.ref a1)]) := fun t k => P32 t (by
    refine XS.aloadN X26.here hx rfl (hb hby d1_23) rfl rfl ?_
    show Steps p.tables e below (T26.setTop (mkF m 24 #[.val (.ref a1), .val (.long p2), .second, .val (.long p3), .second] [(.ref a1)])) _
    refine XS.lloadN X26.here hx rfl (hb hby d1_24) rfl ?_
    show Steps p.tables e below (T26.setTop (mkF m 25 #[.val (.ref a1), .val (.long p2), .second, .val (.long p3), .second] [(.long p3), (.ref a1)])) _
    exact k)
  obtain ⟨T34, h34, X34, e34, W34, st34⟩ := putF X26 hx hZ hown (host := "") (Or.inl (hw _ (List.mem_of_getElem? (i := 31) rfl))) Via.refl e26 F28 F27 (Or.inr ⟨(hw _ (List.mem_of_getElem? (i := 32) rfl)), rfl, hnm⟩) (hw _ (List.mem_of_getElem? (i := 2) rfl)) (ty := .long) (by decide) rfl rfl (g := (mkF m 25 #[.val (.ref a1), .val (.long p2), .second, .val (.long p3), .second] [(.long p3), (.ref a1)])) rfl rfl (hb hby d1_25)
  have F34 := F28.same W34
  have F35 := F27.wr W34
  have F36 := F26.other W34 (Or.inr (slot_ne (Or.inr (hw _ (List.mem_of_getElem? (i := 30) rfl))) (Or.inr (hw _ (List.mem_of_getElem? (i := 32) rfl))) (by decide) (t := .long) (t' := .long) (by decide) (by decide)))
  have Z37 : n0 ≤ h34.size := by rw [W34.size]; exact Z29
  have kS38 := Nat.le_trans kS30 (Nat.le_of_eq W34.size.symm)
  have NF34 := Fr.snoc X34 NF26 g_a1
  have K39 := K31.wr W34 (Or.inl (List.mem_of_getElem? (i := 0) rfl))
  have P40 : own_Pr p.tables e below S0 T34 (mkF m 28 #[.val (.ref a1), .val (.long p2), .second, .val (.long p3), .second] []) := fun t k => P33 t (st34 _ k)
  obtain ⟨fs, hr, hrun, hended, hend⟩ := X34.leaveW hSn (by rw [e34]; exact kS38) (v := none) (fun _ => rfl)
  have fin : Steps p.tables e below S0 (T34.setFrames fs) := P40 _ (X34.returnOut hx Bd.returns (hb hby d1_28) hr)
  rw [hS0] at fin
  refine ⟨_, _, fin, hrun, hended, _, _, rfl, ?_, hend.1, hend.2.1, hend.2.2.1, hend.2.2.2.mono (by decide) (by decide)⟩
  show own_Q1 Z a1 p2 p3 h0 n0 _ T34.heap _
  rw [e34]
  exact ⟨rfl, NF34, K39, F35, F36, F34⟩
theorem d5_0 : decode prog_104_method_2_code 0 = .ok (.aload_n 0, 1) := by decide +kernel
theorem d5_1 : decode prog_104_method_2_code 1 = .ok (.getfield 17, 3) := by decide +kernel
theorem d5_4 : decode prog_104_method_2_code 4 = .ok (.lconst 0, 1) := by decide +kernel
theorem d5_5 : decode prog_104_method_2_code 5 = .ok (.lcmp, 1) := by decide +kernel
theorem d5_6 : decode prog_104_method_2_code 6 = .ok (.ifCond .ne 16, 3) := by decide +kernel
theorem d5_9 : decode prog_104_method_2_code 9 = .ok (.aload_n 0, 1) := by decide +kernel
theorem d5_10 : decode prog_104_method_2_code 10 = .ok (.getfield 23, 3) := by decide +kernel
theorem d5_13 : decode prog_104_method_2_code 13 = .ok (.lconst 0, 1) := by decide +kernel
theorem d5_14 : decode prog_104_method_2_code 14 = .ok (.lcmp, 1) := by decide +kernel
theorem d5_15 : decode prog_104_method_2_code 15 = .ok (.ifCond .ne 7, 3) := by decide +kernel
theorem d5_18 : decode prog_104_method_2_code 18 = .ok (.iconst 1, 1) := by decide +kernel
theorem d5_19 : decode prog_104_method_2_code 19 = .ok (.goto 4, 3) := by decide +kernel
theorem d5_22 : decode prog_104_method_2_code 22 = .ok (.iconst 0, 1) := by decide +kernel
theorem d5_23 : decode prog_104_method_2_code 23 = .ok (.ireturn, 1) := by decide +kernel
theorem ef_5 (m : MethodId) (a1 : Addr) : entryFrame m #[(.ref a1)] 1 = mkF m 0 #[.val (.ref a1)] [] := by first | (simp [entryFrame, mkF, argsToLocals, Value.category]; done) | rfl
def own_f5 (x y : Int64) : Int32 := (if x = (0 : Int64) then (if y = (0 : Int64) then (1 : Int32) else (0 : Int32)) else (0 : Int32))
set_option maxRecDepth 65536 in
set_option maxHeartbeats 40000000 in
theorem rm5 (l : Launch) (Z : State) (a0 : Array Value) (hw : ∀ d ∈ tables_1, d.before a0 Z = true) (ws : List Jvm.Cond) (a1 : Addr) (x y : Int64) (h0 : Heap) (n0 : Nat) (Z0 : n0 ≤ h0.size) (F1 : Fld Z h0 a1 "com/example/enqueue_to_disk/enqueuetodisk/format/internal/IndexEntry" "recordNumber" "J" (.long x)) (F2 : Fld Z h0 a1 "com/example/enqueue_to_disk/enqueuetodisk/format/internal/IndexEntry" "offset" "J" (.long y)) :
    MetFree l (⟨"com/example/enqueue_to_disk/enqueuetodisk/format/internal/IndexEntry", "isBlank", "()Z"⟩ : MethodName) (head1 (Jvm.Cond.code (⟨"com/example/enqueue_to_disk/enqueuetodisk/format/internal/IndexEntry", "isBlank", "()Z"⟩ : MethodName) prog_104_method_2_code 1 (some .boolean) :: ws) ({ frames := 0, cells := 0, slots := 0, locals := 0 } : Room)) (fun a U => a = #[(.ref a1)] ∧ Z.Warmed39 U.vm ∧ U.heap = h0) (fun _ _ _ _ _ => True) (fun _ U o U' => ∃ v L, o = .returned v ∧ own_QI h0 n0 (own_f5 x y) v U'.heap L ∧ FrameEnd U o U' L ({ frames := 0, cells := 0, slots := 0, locals := 0 } : Room).cells ({ frames := 0, cells := 0, slots := 0, locals := 0 } : Room).slots) := by
  refine MetFree.of_bodySF (plainFor_of_name pn_1) hisR ?_
  intro p e s m args below meth c s₁ Bd hml0 hP hK
  obtain ⟨rfl, hZ, hh⟩ := hP
  have hx := Bd.exec
  have hby := Bd.bytes
  have hml : c.maxLocals = 1 := hml0
  have hown : s.vm.findClass "com/example/enqueue_to_disk/enqueuetodisk/format/internal/IndexEntry" = some m.cls := findClass_of_methodNamed Bd.named
  have hnm := (name_of_methodNamed Bd.named Bd.method).1
  have X0 : Stand p l e ({ frames := 0, cells := 0, slots := 0, locals := 0 } : Room) s m #[(.ref a1)] below meth c s₁ [] 0 0 := Stand.of_body Bd
  have e0 : s₁.heap = h0 := by rw [← hh, Bd.state]; rfl
  have N0 := Fr.nil n0
  obtain ⟨S0, hS0⟩ : ∃ z, z = s₁.setTop (entryFrame m #[(.ref a1)] 1) := ⟨_, rfl⟩
  have P0 : own_Pr p.tables e below S0 s₁ (mkF m 0 #[.val (.ref a1)] []) := fun t k => hS0 ▸ castTop (ef_5 m a1) k
  have P1 : own_Pr p.tables e below S0 s₁ (mkF m 1 #[.val (.ref a1)] [(.ref a1)]) := fun t k => P0 t (by
    refine XS.aloadN X0.here hx rfl (hb hby d5_0) rfl rfl ?_
    show Steps p.tables e below (s₁.setTop (mkF m 1 #[.val (.ref a1)] [(.ref a1)])) _
    exact k)
  obtain ⟨T2, X2, e2, st2⟩ := getF X0 hx hZ hown (host := "") (Or.inl (hw _ (List.mem_of_getElem? (i := 29) rfl))) Via.refl e0 F1 (g := (mkF m 1 #[.val (.ref a1)] [(.ref a1)])) rfl rfl (hb hby d5_1)
  have P3 : own_Pr p.tables e below S0 T2 (mkF m 4 #[.val (.ref a1)] [(.long x)]) := fun t k => P1 t (st2 _ k)
  have P4 : own_Pr p.tables e below S0 T2 (mkF m 6 #[.val (.ref a1)] [(.int (lcmpW x (0 : Int64)))]) := fun t k => P3 t (by
    refine XS.lconst X2.here hx rfl (hb hby d5_4) ?_
    show Steps p.tables e below (T2.setTop (mkF m 5 #[.val (.ref a1)] [(.long (0 : Int64)), (.long x)])) _
    refine XS.lcmp X2.here hx rfl (hb hby d5_5) rfl ?_
    show Steps p.tables e below (T2.setTop (mkF m 6 #[.val (.ref a1)] [(.int (lcmpW x (0 : Int64)))])) _
    exact k)
  by_cases hc6_5 : x = (0 : Int64)
  · have P6 : own_Pr p.tables e below S0 T2 (mkF m 10 #[.val (.ref a1)] [(.ref a1)]) := fun t k => P4 t (by
      refine XS.ifNo X2.here hx rfl (hb hby d5_6) rfl (XT.i0_ne_f ((lw_eq x (0 : Int64)).mpr hc6_5)) ?_
      show Steps p.tables e below (T2.setTop (mkF m 9 #[.val (.ref a1)] [])) _
      refine XS.aloadN X2.here hx rfl (hb hby d5_9) rfl rfl ?_
      show Steps p.tables e below (T2.setTop (mkF m 10 #[.val (.ref a1)] [(.ref a1)])) _
      exact k)
    obtain ⟨T7, X7, e7, st7⟩ := getF X2 hx hZ hown (host := "") (Or.inl (hw _ (List.mem_of_getElem? (i := 31) rfl))) Via.refl e2 F2 (g := (mkF m 10 #[.val (.ref a1)] [(.ref a1)])) rfl rfl (hb hby d5_10)
    have P8 : own_Pr p.tables e below S0 T7 (mkF m 13 #[.val (.ref a1)] [(.long y)]) := fun t k => P6 t (st7 _ k)
    have P9 : own_Pr p.tables e below S0 T7 (mkF m 15 #[.val (.ref a1)] [(.int (lcmpW y (0 : Int64)))]) := fun t k => P8 t (by
      refine XS.lconst X7.here hx rfl (hb hby d5_13) ?_
      show Steps p.tables e below (T7.setTop (mkF m 14 #[.val (.ref a1)] [(.long (0 : Int64)), (.long y)])) _
      refine XS.lcmp X7.here hx rfl (hb hby d5_14) rfl ?_
      show Steps p.tables e below (T7.setTop (mkF m 15 #[.val (.ref a1)] [(.int (lcmpW y (0 : Int64)))])) _
      exact k)
    by_cases hc15_10 : y = (0 : Int64)
    · have P11 : own_Pr p.tables e below S0 T7 (mkF m 23 #[.val (.ref a1)] [(.int (1 : Int32))]) := fun t k => P9 t (by
        refine XS.ifNo X7.here hx rfl (hb hby d5_15) rfl (XT.i0_ne_f ((lw_eq y (0 : Int64)).mpr hc15_10)) ?_
        show Steps p.tables e below (T7.setTop (mkF m 18 #[.val (.ref a1)] [])) _
        refine XS.iconst X7.here hx rfl (hb hby d5_18) ?_
        show Steps p.tables e below (T7.setTop (mkF m 19 #[.val (.ref a1)] [(.int (1 : Int32))])) _
        refine XS.goto X7.here hx rfl (pc0 := 19) (pc' := 23) rfl (hb hby d5_19) (by decide) (by decide) ?_
        show Steps p.tables e below (T7.setTop (mkF m 23 #[.val (.ref a1)] [(.int (1 : Int32))])) _
        exact k)
      obtain ⟨fs, hr, hrun, hended, hW, hsame⟩ := X7.leave (v := some (.int (1 : Int32))) (fun h => by rw [Bd.returns] at h; cases h)
      have fin : Steps p.tables e below S0 (T7.setFrames fs) := P11 _ (retN X7 hx (t := .boolean) Bd.returns (by simp) (hb hby d5_23) hr)
      rw [hS0] at fin
      refine ⟨_, _, fin, hrun, hended, _, _, rfl, ?_, ⟨_, rfl⟩, hW, hsame.mono (by decide) (by decide)⟩
      show own_QI h0 n0 (own_f5 x y) _ T7.heap _
      rw [e7]
      exact ⟨_, rfl, (by unfold own_f5; rw [if_pos hc6_5, if_pos hc15_10]), N0, rfl⟩
    · have P12 : own_Pr p.tables e below S0 T7 (mkF m 23 #[.val (.ref a1)] [(.int (0 : Int32))]) := fun t k => P9 t (by
        refine XS.ifYes X7.here hx rfl (pc0 := 15) (pc' := 22) rfl (hb hby d5_15) rfl (XT.i0_ne_t (fun q => hc15_10 ((lw_eq y (0 : Int64)).mp q))) (by decide) (by decide) ?_
        show Steps p.tables e below (T7.setTop (mkF m 22 #[.val (.ref a1)] [])) _
        refine XS.iconst X7.here hx rfl (hb hby d5_22) ?_
        show Steps p.tables e below (T7.setTop (mkF m 23 #[.val (.ref a1)] [(.int (0 : Int32))])) _
        exact k)
      obtain ⟨fs, hr, hrun, hended, hW, hsame⟩ := X7.leave (v := some (.int (0 : Int32))) (fun h => by rw [Bd.returns] at h; cases h)
      have fin : Steps p.tables e below S0 (T7.setFrames fs) := P12 _ (retN X7 hx (t := .boolean) Bd.returns (by simp) (hb hby d5_23) hr)
      rw [hS0] at fin
      refine ⟨_, _, fin, hrun, hended, _, _, rfl, ?_, ⟨_, rfl⟩, hW, hsame.mono (by decide) (by decide)⟩
      show own_QI h0 n0 (own_f5 x y) _ T7.heap _
      rw [e7]
      exact ⟨_, rfl, (by unfold own_f5; rw [if_pos hc6_5, if_neg hc15_10]), N0, rfl⟩
  · have P13 : own_Pr p.tables e below S0 T2 (mkF m 23 #[.val (.ref a1)] [(.int (0 : Int32))]) := fun t k => P4 t (by
      refine XS.ifYes X2.here hx rfl (pc0 := 6) (pc' := 22) rfl (hb hby d5_6) rfl (XT.i0_ne_t (fun q => hc6_5 ((lw_eq x (0 : Int64)).mp q))) (by decide) (by decide) ?_
      show Steps p.tables e below (T2.setTop (mkF m 22 #[.val (.ref a1)] [])) _
      refine XS.iconst X2.here hx rfl (hb hby d5_22) ?_
      show Steps p.tables e below (T2.setTop (mkF m 23 #[.val (.ref a1)] [(.int (0 : Int32))])) _
      exact k)
    obtain ⟨fs, hr, hrun, hended, hW, hsame⟩ := X2.leave (v := some (.int (0 : Int32))) (fun h => by rw [Bd.returns] at h; cases h)
    have fin : Steps p.tables e below S0 (T2.setFrames fs) := P13 _ (retN X2 hx (t := .boolean) Bd.returns (by simp) (hb hby d5_23) hr)
    rw [hS0] at fin
    refine ⟨_, _, fin, hrun, hended, _, _, rfl, ?_, ⟨_, rfl⟩, hW, hsame.mono (by decide) (by decide)⟩
    show own_QI h0 n0 (own_f5 x y) _ T2.heap _
    rw [e2]
    exact ⟨_, rfl, (by unfold own_f5; rw [if_neg hc6_5]), N0, rfl⟩
theorem own_rngL {c : Prop} [Decidable c] {x z : Int64} (h : z = if c then x &&& 4294967295 else 0) : ¬ z < 0 ∧ ¬ 4294967295 < z := by
  have h1 := c_maskL x 4294967295 32 (by decide) (by decide)
  have e : ((2 ^ 32 : Nat) : Int) = 4294967296 := by decide
  have e0 : (0 : Int64).toInt = 0 := rfl
  have e1 : (4294967295 : Int64).toInt = 4294967295 := rfl
  rw [e] at h1
  rw [h]; split
  · rw [Int64.lt_iff_toInt_lt, Int64.lt_iff_toInt_lt, h1, e0, e1]; omega
  · decide
theorem own_orz (x y : Int64) : x ||| y = 0 ↔ x = 0 ∧ y = 0 := by
  constructor
  · intro h
    have h1 : x.toBitVec ||| y.toBitVec = 0#64 := by rw [← Int64.toBitVec_or, h]; rfl
    rw [BitVec.or_eq_zero_iff] at h1
    exact ⟨Int64.toBitVec_inj.mp h1.1, Int64.toBitVec_inj.mp h1.2⟩
  · rintro ⟨rfl, rfl⟩; rfl
theorem own_blank {x y : Int64} {z w : Int32} (hw : w = if x ||| y = 0 then (1 : Int32) else 0) (hz : z = own_f5 x y) : z = w := by
  rw [hz, hw]; unfold own_f5
  by_cases h1 : x = 0
  · by_cases h2 : y = 0
    · rw [if_pos h1, if_pos h2, if_pos ((own_orz x y).mpr ⟨h1, h2⟩)]
    · rw [if_pos h1, if_neg h2, if_neg fun q => h2 ((own_orz x y).mp q).2]
  · rw [if_neg h1, if_neg fun q => h1 ((own_orz x y).mp q).1]
theorem pn_0 : plainName "com/example/enqueue_to_disk/enqueuetodisk/format/internal/IndexEntryIsBlankPinLaw" = true := by first | (simp [plainName, overriddenIn]; done) | decide +kernel
theorem pd_2 : parseMethodDescriptor "(JJ)V" = some ⟨[.long, .long], none⟩ := by decide +kernel
theorem pd_3 : parseMethodDescriptor "()Z" = some ⟨[], some .boolean⟩ := by decide +kernel
theorem ef_0 (m : MethodId) (p1 : Int64) (p2 : Int64) (p3 : Int32) : entryFrame m #[(.long p1), (.long p2), (.int p3)] maxLocals = mkF m 0 #[.val (.long p1), .second, .val (.long p2), .second, .val (.int p3), .unset, .unset, .unset, .unset, .unset, .unset] [] := by first | (simp [entryFrame, mkF, argsToLocals, Value.category, maxLocals]; done) | rfl
set_option maxRecDepth 65536 in
set_option maxHeartbeats 40000000 in
theorem rm0 (l : Launch) (Z : State) (a0 : Array Value) (hw : ∀ d ∈ tables_1, d.before a0 Z = true) (ws : List Jvm.Cond) (p1 : Int64) (p2 : Int64) (p3 : Int32)  (h0 : Heap) (n0 : Nat) (Z0 : n0 ≤ h0.size) :
    MetFree l x (head1 (Jvm.Cond.code x code maxLocals ret :: ws) room_1) (fun a U => a = #[(.long p1), (.long p2), (.int p3)] ∧ Z.Warmed39 U.vm ∧ U.heap = h0) (fun _ _ _ _ _ => True) (fun _ U o U' => ∃ v L, o = .returned v ∧ own_QL n0 v L ∧ ReturnedEndW U o U' L room_1.cells room_1.slots) := by
  refine MetFree.of_bodySF (plainFor_of_name pn_0) hisR ?_
  intro p e s m args below meth c s₁ Bd hml0 hP hK
  obtain ⟨rfl, hZ, hh⟩ := hP
  have hx := Bd.exec
  have hby := Bd.bytes
  have hml : c.maxLocals = 11 := hml0
  have hown : s.vm.findClass "com/example/enqueue_to_disk/enqueuetodisk/format/internal/IndexEntryIsBlankPinLaw" = some m.cls := findClass_of_methodNamed Bd.named
  have hnm := (name_of_methodNamed Bd.named Bd.method).1
  have X0 : Stand p l e room_1 (s.setVm s.vm) m #[(.long p1), (.long p2), (.int p3)] below meth c s₁ [] 0 0 := Stand.of_body Bd
  have e0 : s₁.heap = h0 := by rw [← hh, Bd.state]; rfl
  have N0 := Fr.nil n0
  obtain ⟨S0, hS0⟩ : ∃ z, z = s₁.setTop (entryFrame m #[(.long p1), (.long p2), (.int p3)] maxLocals) := ⟨_, rfl⟩
  have P0 : own_Pr p.tables e below S0 s₁ (mkF m 0 #[.val (.long p1), .second, .val (.long p2), .second, .val (.int p3), .unset, .unset, .unset, .unset, .unset, .unset] []) := fun t k => hS0 ▸ castTop (ef_0 m p1 p2 p3) k
  have hSn : s.Since s.vm 0 := (State.WarmedH.refl s).since 0
  have kS0 : 0 ≤ h0.size := Nat.zero_le _
  have P1 : own_Pr p.tables e below S0 s₁ (mkF m 4 #[.val (.long p1), .second, .val (.long p2), .second, .val (.int p3), .unset, .unset, .unset, .unset, .unset, .unset] [(.int (p3 &&& (1 : Int32)))]) := fun t k => P0 t (by
    refine XS.iload X0.here hx rfl (hb hby at_0) rfl ?_
    show Steps p.tables e below (s₁.setTop (mkF m 2 #[.val (.long p1), .second, .val (.long p2), .second, .val (.int p3), .unset, .unset, .unset, .unset, .unset, .unset] [(.int p3)])) _
    refine XS.iconst X0.here hx rfl (hb hby at_2) ?_
    show Steps p.tables e below (s₁.setTop (mkF m 3 #[.val (.long p1), .second, .val (.long p2), .second, .val (.int p3), .unset, .unset, .unset, .unset, .unset, .unset] [(.int (1 : Int32)), (.int p3)])) _
    refine XS.iand X0.here hx rfl (hb hby at_3) rfl ?_
    show Steps p.tables e below (s₁.setTop (mkF m 4 #[.val (.long p1), .second, .val (.long p2), .second, .val (.int p3), .unset, .unset, .unset, .unset, .unset, .unset] [(.int (p3 &&& (1 : Int32)))])) _
    exact k)
  have P3 : own_Pr p.tables e below S0 s₁ (mkF m 16 #[.val (.long p1), .second, .val (.long p2), .second, .val (.int p3), .unset, .unset, .unset, .unset, .unset, .unset] [(.long (if (p3 &&& (1 : Int32)) = (0 : Int32) then (p1 &&& (4294967295 : Int64)) else (0 : Int64)))]) := fun t k => P1 t (by
    by_cases hq4_2 : (p3 &&& (1 : Int32)) = (0 : Int32)
    · rw [if_pos hq4_2] at k
      refine XS.ifYes X0.here hx rfl (pc0 := 4) (pc' := 11) rfl (hb hby at_4) rfl (XT.i0_eq_t hq4_2) (by decide) (by decide) ?_
      show Steps p.tables e below (s₁.setTop (mkF m 11 #[.val (.long p1), .second, .val (.long p2), .second, .val (.int p3), .unset, .unset, .unset, .unset, .unset, .unset] [])) _
      refine XS.lloadN X0.here hx rfl (hb hby at_11) rfl ?_
      show Steps p.tables e below (s₁.setTop (mkF m 12 #[.val (.long p1), .second, .val (.long p2), .second, .val (.int p3), .unset, .unset, .unset, .unset, .unset, .unset] [(.long p1)])) _
      refine X0.ldc2Long hx hown (mvT hZ (hw _ (List.mem_of_getElem? (i := 0) rfl))) (g := (mkF m 12 #[.val (.long p1), .second, .val (.long p2), .second, .val (.int p3), .unset, .unset, .unset, .unset, .unset, .unset] [(.long p1)])) rfl (hb hby at_12) _ ?_
      show Steps p.tables e below (s₁.setTop (mkF m 15 #[.val (.long p1), .second, .val (.long p2), .second, .val (.int p3), .unset, .unset, .unset, .unset, .unset, .unset] [(.long (4294967295 : Int64)), (.long p1)])) _
      refine XS.land X0.here hx rfl (hb hby at_15) rfl ?_
      show Steps p.tables e below (s₁.setTop (mkF m 16 #[.val (.long p1), .second, .val (.long p2), .second, .val (.int p3), .unset, .unset, .unset, .unset, .unset, .unset] [(.long (p1 &&& (4294967295 : Int64)))])) _
      exact k
    · rw [if_neg hq4_2] at k
      refine XS.ifNo X0.here hx rfl (hb hby at_4) rfl (XT.i0_eq_f hq4_2) ?_
      show Steps p.tables e below (s₁.setTop (mkF m 7 #[.val (.long p1), .second, .val (.long p2), .second, .val (.int p3), .unset, .unset, .unset, .unset, .unset, .unset] [])) _
      refine XS.lconst X0.here hx rfl (hb hby at_7) ?_
      show Steps p.tables e below (s₁.setTop (mkF m 8 #[.val (.long p1), .second, .val (.long p2), .second, .val (.int p3), .unset, .unset, .unset, .unset, .unset, .unset] [(.long (0 : Int64))])) _
      refine XS.goto X0.here hx rfl (pc0 := 8) (pc' := 16) rfl (hb hby at_8) (by decide) (by decide) ?_
      show Steps p.tables e below (s₁.setTop (mkF m 16 #[.val (.long p1), .second, .val (.long p2), .second, .val (.int p3), .unset, .unset, .unset, .unset, .unset, .unset] [(.long (0 : Int64))])) _
      exact k)
  obtain ⟨z4, hz4⟩ : ∃ z, z = (if (p3 &&& (1 : Int32)) = (0 : Int32) then (p1 &&& (4294967295 : Int64)) else (0 : Int64)) := ⟨_, rfl⟩
  rw [← hz4] at P3
  have P5 : own_Pr p.tables e below S0 s₁ (mkF m 22 #[.val (.long p1), .second, .val (.long p2), .second, .val (.int p3), .val (.long z4), .second, .unset, .unset, .unset, .unset] [(.int (p3 &&& (2 : Int32)))]) := fun t k => P3 t (by
    refine XS.lstore X0.here hx rfl (hb hby at_16) rfl (l' := #[.val (.long p1), .second, .val (.long p2), .second, .val (.int p3), .val (.long z4), .second, .unset, .unset, .unset, .unset]) rfl ?_
    show Steps p.tables e below (s₁.setTop (mkF m 18 #[.val (.long p1), .second, .val (.long p2), .second, .val (.int p3), .val (.long z4), .second, .unset, .unset, .unset, .unset] [])) _
    refine XS.iload X0.here hx rfl (hb hby at_18) rfl ?_
    show Steps p.tables e below (s₁.setTop (mkF m 20 #[.val (.long p1), .second, .val (.long p2), .second, .val (.int p3), .val (.long z4), .second, .unset, .unset, .unset, .unset] [(.int p3)])) _
    refine XS.iconst X0.here hx rfl (hb hby at_20) ?_
    show Steps p.tables e below (s₁.setTop (mkF m 21 #[.val (.long p1), .second, .val (.long p2), .second, .val (.int p3), .val (.long z4), .second, .unset, .unset, .unset, .unset] [(.int (2 : Int32)), (.int p3)])) _
    refine XS.iand X0.here hx rfl (hb hby at_21) rfl ?_
    show Steps p.tables e below (s₁.setTop (mkF m 22 #[.val (.long p1), .second, .val (.long p2), .second, .val (.int p3), .val (.long z4), .second, .unset, .unset, .unset, .unset] [(.int (p3 &&& (2 : Int32)))])) _
    exact k)
  have P7 : own_Pr p.tables e below S0 s₁ (mkF m 34 #[.val (.long p1), .second, .val (.long p2), .second, .val (.int p3), .val (.long z4), .second, .unset, .unset, .unset, .unset] [(.long (if (p3 &&& (2 : Int32)) = (0 : Int32) then (p2 &&& (4294967295 : Int64)) else (0 : Int64)))]) := fun t k => P5 t (by
    by_cases hq22_6 : (p3 &&& (2 : Int32)) = (0 : Int32)
    · rw [if_pos hq22_6] at k
      refine XS.ifYes X0.here hx rfl (pc0 := 22) (pc' := 29) rfl (hb hby at_22) rfl (XT.i0_eq_t hq22_6) (by decide) (by decide) ?_
      show Steps p.tables e below (s₁.setTop (mkF m 29 #[.val (.long p1), .second, .val (.long p2), .second, .val (.int p3), .val (.long z4), .second, .unset, .unset, .unset, .unset] [])) _
      refine XS.lloadN X0.here hx rfl (hb hby at_29) rfl ?_
      show Steps p.tables e below (s₁.setTop (mkF m 30 #[.val (.long p1), .second, .val (.long p2), .second, .val (.int p3), .val (.long z4), .second, .unset, .unset, .unset, .unset] [(.long p2)])) _
      refine X0.ldc2Long hx hown (mvT hZ (hw _ (List.mem_of_getElem? (i := 0) rfl))) (g := (mkF m 30 #[.val (.long p1), .second, .val (.long p2), .second, .val (.int p3), .val (.long z4), .second, .unset, .unset, .unset, .unset] [(.long p2)])) rfl (hb hby at_30) _ ?_
      show Steps p.tables e below (s₁.setTop (mkF m 33 #[.val (.long p1), .second, .val (.long p2), .second, .val (.int p3), .val (.long z4), .second, .unset, .unset, .unset, .unset] [(.long (4294967295 : Int64)), (.long p2)])) _
      refine XS.land X0.here hx rfl (hb hby at_33) rfl ?_
      show Steps p.tables e below (s₁.setTop (mkF m 34 #[.val (.long p1), .second, .val (.long p2), .second, .val (.int p3), .val (.long z4), .second, .unset, .unset, .unset, .unset] [(.long (p2 &&& (4294967295 : Int64)))])) _
      exact k
    · rw [if_neg hq22_6] at k
      refine XS.ifNo X0.here hx rfl (hb hby at_22) rfl (XT.i0_eq_f hq22_6) ?_
      show Steps p.tables e below (s₁.setTop (mkF m 25 #[.val (.long p1), .second, .val (.long p2), .second, .val (.int p3), .val (.long z4), .second, .unset, .unset, .unset, .unset] [])) _
      refine XS.lconst X0.here hx rfl (hb hby at_25) ?_
      show Steps p.tables e below (s₁.setTop (mkF m 26 #[.val (.long p1), .second, .val (.long p2), .second, .val (.int p3), .val (.long z4), .second, .unset, .unset, .unset, .unset] [(.long (0 : Int64))])) _
      refine XS.goto X0.here hx rfl (pc0 := 26) (pc' := 34) rfl (hb hby at_26) (by decide) (by decide) ?_
      show Steps p.tables e below (s₁.setTop (mkF m 34 #[.val (.long p1), .second, .val (.long p2), .second, .val (.int p3), .val (.long z4), .second, .unset, .unset, .unset, .unset] [(.long (0 : Int64))])) _
      exact k)
  obtain ⟨z8, hz8⟩ : ∃ z, z = (if (p3 &&& (2 : Int32)) = (0 : Int32) then (p2 &&& (4294967295 : Int64)) else (0 : Int64)) := ⟨_, rfl⟩
  rw [← hz8] at P7
  have P9 : own_Pr p.tables e below S0 s₁ (mkF m 36 #[.val (.long p1), .second, .val (.long p2), .second, .val (.int p3), .val (.long z4), .second, .val (.long z8), .second, .unset, .unset] []) := fun t k => P7 t (by
    refine XS.lstore X0.here hx rfl (hb hby at_34) rfl (l' := #[.val (.long p1), .second, .val (.long p2), .second, .val (.int p3), .val (.long z4), .second, .val (.long z8), .second, .unset, .unset]) rfl ?_
    show Steps p.tables e below (s₁.setTop (mkF m 36 #[.val (.long p1), .second, .val (.long p2), .second, .val (.int p3), .val (.long z4), .second, .val (.long z8), .second, .unset, .unset] [])) _
    exact k)
  obtain ⟨T10, h10, X10, e10, E10, A10, D10, -, st10⟩ := newO X0 hx hZ hown (hw _ (List.mem_of_getElem? (i := 1) rfl)) (hw _ (List.mem_of_getElem? (i := 2) rfl)) (hw _ (List.mem_of_getElem? (i := 3) rfl)) e0 (g := (mkF m 36 #[.val (.long p1), .second, .val (.long p2), .second, .val (.int p3), .val (.long z4), .second, .val (.long z8), .second, .unset, .unset] [])) rfl (hb hby at_36) (by decide) (by decide)
  obtain ⟨b10, g10⟩ : ∃ z, z = h0.size := ⟨_, rfl⟩
  rw [← g10] at A10 D10 st10
  have g_b10 : n0 ≤ b10 := Nat.le_trans Z0 (Nat.le_of_eq g10.symm)
  have Z11 : n0 ≤ h10.size := Nat.le_trans Z0 E10.1
  have kS12 := Nat.le_trans kS0 E10.1
  have F13 : Fld Z h10 b10 "com/example/enqueue_to_disk/enqueuetodisk/format/internal/IndexEntry" "recordNumber" "J" (.long (0 : Int64)) := D10 (Or.inr (hw _ (List.mem_of_getElem? (i := 30) rfl))) (ty := .long) (by decide)
  have F14 : Fld Z h10 b10 "com/example/enqueue_to_disk/enqueuetodisk/format/internal/IndexEntry" "offset" "J" (.long (0 : Int64)) := D10 (Or.inr (hw _ (List.mem_of_getElem? (i := 32) rfl))) (ty := .long) (by decide)
  have P15 : own_Pr p.tables e below S0 T10 (mkF m 39 #[.val (.long p1), .second, .val (.long p2), .second, .val (.int p3), .val (.long z4), .second, .val (.long z8), .second, .unset, .unset] [(.ref b10)]) := fun t k => P9 t (st10 _ k)
  have P16 : own_Pr p.tables e below S0 T10 (mkF m 44 #[.val (.long p1), .second, .val (.long p2), .second, .val (.int p3), .val (.long z4), .second, .val (.long z8), .second, .unset, .unset] [(.long z8), (.long z4), (.ref b10), (.ref b10)]) := fun t k => P15 t (by
    refine XS.dup X10.here hx rfl (hb hby at_39) rfl rfl ?_
    show Steps p.tables e below (T10.setTop (mkF m 40 #[.val (.long p1), .second, .val (.long p2), .second, .val (.int p3), .val (.long z4), .second, .val (.long z8), .second, .unset, .unset] [(.ref b10), (.ref b10)])) _
    refine XS.lload X10.here hx rfl (hb hby at_40) rfl ?_
    show Steps p.tables e below (T10.setTop (mkF m 42 #[.val (.long p1), .second, .val (.long p2), .second, .val (.int p3), .val (.long z4), .second, .val (.long z8), .second, .unset, .unset] [(.long z4), (.ref b10), (.ref b10)])) _
    refine XS.lload X10.here hx rfl (hb hby at_42) rfl ?_
    show Steps p.tables e below (T10.setTop (mkF m 44 #[.val (.long p1), .second, .val (.long p2), .second, .val (.int p3), .val (.long z4), .second, .val (.long z8), .second, .unset, .unset] [(.long z8), (.long z4), (.ref b10), (.ref b10)])) _
    exact k)
  obtain ⟨_, _, ⟨T17, L17, k17, n17⟩, -, X17, hSq17, gq17, ⟨Lc17, hQ17, l17, y17, z17⟩, st17⟩ := X10.specialBackS hx (y := (⟨"com/example/enqueue_to_disk/enqueuetodisk/format/internal/IndexEntry", "<init>", "(JJ)V"⟩ : MethodName)) rfl hown (mvT hZ (hw _ (List.mem_of_getElem? (i := 4) rfl))) (mvT hZ (hw _ (List.mem_of_getElem? (i := 5) rfl))) (mvT hZ (hw _ (List.mem_of_getElem? (i := 6) rfl))) (by decide) (backOfS (W := 1) (rm1 l Z a0 hw [] b10 z4 z8 h10 n0 Z11 F13 F14 A10 g_b10 (own_rngL hz4).1 (own_rngL hz4).2 (own_rngL hz8).1 (own_rngL hz8).2) hZ (hw _ (List.mem_of_getElem? (i := 6) rfl)) (hw _ (List.mem_of_getElem? (i := 3) rfl)) (by decide) (by decide)) (g := (mkF m 44 #[.val (.long p1), .second, .val (.long p2), .second, .val (.int p3), .val (.long z4), .second, .val (.long z8), .second, .unset, .unset] [(.long z8), (.long z4), (.ref b10), (.ref b10)])) rfl (by rw [hml]; rfl) (Steps.refl _) (a := b10) (argsL := [(.long z4), (.long z8)]) (rest := [(.ref b10)]) (lenOf pd_2 rfl) rfl (by show 2 * 0 + _ ≤ _; exact Nat.le_of_eq rfl) (hb hby at_44) (fun _ _ => ⟨rfl, e10, (by decide : 1 + 4 ≤ _), (by decide : 2 + 84 ≤ _)⟩)
  dsimp only [Pt.U, Pt.locs, Pt.cells, Pt.slots] at X17 l17 y17 z17 st17 hQ17 hSq17 gq17
  subst l17 y17 z17
  obtain ⟨X17, hSn, hZ, hown⟩ := rebS hSn (by rw [e10]; exact kS12) X17 hSq17 gq17 hZ hown
  have kS17 := Nat.le_refl T17.heap.size
  obtain ⟨rfl, Nq17, K17k, Ex17, Fa17, Fb17⟩ := hQ17
  have N17n := Fr.app N0 Nq17
  have Z18 := Nat.le_trans Z11 K17k.1
  have P19 : own_Pr p.tables e below S0 T17 (mkF m 47 #[.val (.long p1), .second, .val (.long p2), .second, .val (.int p3), .val (.long z4), .second, .val (.long z8), .second, .unset, .unset] [(.ref b10)]) := fun t k => P16 t (st17.trans k)
  have P20 : own_Pr p.tables e below S0 T17 (mkF m 56 #[.val (.long p1), .second, .val (.long p2), .second, .val (.int p3), .val (.long z4), .second, .val (.long z8), .second, .val (.ref b10), .unset] [(.int (lcmpW (z4 ||| z8) (0 : Int64)))]) := fun t k => P19 t (by
    refine XS.astore X17.here hx rfl (hb hby at_47) rfl rfl (l' := #[.val (.long p1), .second, .val (.long p2), .second, .val (.int p3), .val (.long z4), .second, .val (.long z8), .second, .val (.ref b10), .unset]) rfl ?_
    show Steps p.tables e below (T17.setTop (mkF m 49 #[.val (.long p1), .second, .val (.long p2), .second, .val (.int p3), .val (.long z4), .second, .val (.long z8), .second, .val (.ref b10), .unset] [])) _
    refine XS.lload X17.here hx rfl (hb hby at_49) rfl ?_
    show Steps p.tables e below (T17.setTop (mkF m 51 #[.val (.long p1), .second, .val (.long p2), .second, .val (.int p3), .val (.long z4), .second, .val (.long z8), .second, .val (.ref b10), .unset] [(.long z4)])) _
    refine XS.lload X17.here hx rfl (hb hby at_51) rfl ?_
    show Steps p.tables e below (T17.setTop (mkF m 53 #[.val (.long p1), .second, .val (.long p2), .second, .val (.int p3), .val (.long z4), .second, .val (.long z8), .second, .val (.ref b10), .unset] [(.long z8), (.long z4)])) _
    refine XS.lor X17.here hx rfl (hb hby at_53) rfl ?_
    show Steps p.tables e below (T17.setTop (mkF m 54 #[.val (.long p1), .second, .val (.long p2), .second, .val (.int p3), .val (.long z4), .second, .val (.long z8), .second, .val (.ref b10), .unset] [(.long (z4 ||| z8))])) _
    refine XS.lconst X17.here hx rfl (hb hby at_54) ?_
    show Steps p.tables e below (T17.setTop (mkF m 55 #[.val (.long p1), .second, .val (.long p2), .second, .val (.int p3), .val (.long z4), .second, .val (.long z8), .second, .val (.ref b10), .unset] [(.long (0 : Int64)), (.long (z4 ||| z8))])) _
    refine XS.lcmp X17.here hx rfl (hb hby at_55) rfl ?_
    show Steps p.tables e below (T17.setTop (mkF m 56 #[.val (.long p1), .second, .val (.long p2), .second, .val (.int p3), .val (.long z4), .second, .val (.long z8), .second, .val (.ref b10), .unset] [(.int (lcmpW (z4 ||| z8) (0 : Int64)))])) _
    exact k)
  have P22 : own_Pr p.tables e below S0 T17 (mkF m 64 #[.val (.long p1), .second, .val (.long p2), .second, .val (.int p3), .val (.long z4), .second, .val (.long z8), .second, .val (.ref b10), .unset] [(.int (if (z4 ||| z8) = (0 : Int64) then (1 : Int32) else (0 : Int32)))]) := fun t k => P20 t (by
    by_cases hq56_21 : (z4 ||| z8) = (0 : Int64)
    · rw [if_pos hq56_21] at k
      refine XS.ifNo X17.here hx rfl (hb hby at_56) rfl (XT.i0_ne_f ((lw_eq (z4 ||| z8) (0 : Int64)).mpr hq56_21)) ?_
      show Steps p.tables e below (T17.setTop (mkF m 59 #[.val (.long p1), .second, .val (.long p2), .second, .val (.int p3), .val (.long z4), .second, .val (.long z8), .second, .val (.ref b10), .unset] [])) _
      refine XS.iconst X17.here hx rfl (hb hby at_59) ?_
      show Steps p.tables e below (T17.setTop (mkF m 60 #[.val (.long p1), .second, .val (.long p2), .second, .val (.int p3), .val (.long z4), .second, .val (.long z8), .second, .val (.ref b10), .unset] [(.int (1 : Int32))])) _
      refine XS.goto X17.here hx rfl (pc0 := 60) (pc' := 64) rfl (hb hby at_60) (by decide) (by decide) ?_
      show Steps p.tables e below (T17.setTop (mkF m 64 #[.val (.long p1), .second, .val (.long p2), .second, .val (.int p3), .val (.long z4), .second, .val (.long z8), .second, .val (.ref b10), .unset] [(.int (1 : Int32))])) _
      exact k
    · rw [if_neg hq56_21] at k
      refine XS.ifYes X17.here hx rfl (pc0 := 56) (pc' := 63) rfl (hb hby at_56) rfl (XT.i0_ne_t (fun q => hq56_21 ((lw_eq (z4 ||| z8) (0 : Int64)).mp q))) (by decide) (by decide) ?_
      show Steps p.tables e below (T17.setTop (mkF m 63 #[.val (.long p1), .second, .val (.long p2), .second, .val (.int p3), .val (.long z4), .second, .val (.long z8), .second, .val (.ref b10), .unset] [])) _
      refine XS.iconst X17.here hx rfl (hb hby at_63) ?_
      show Steps p.tables e below (T17.setTop (mkF m 64 #[.val (.long p1), .second, .val (.long p2), .second, .val (.int p3), .val (.long z4), .second, .val (.long z8), .second, .val (.ref b10), .unset] [(.int (0 : Int32))])) _
      exact k)
  obtain ⟨z23, hz23⟩ : ∃ z, z = (if (z4 ||| z8) = (0 : Int64) then (1 : Int32) else (0 : Int32)) := ⟨_, rfl⟩
  rw [← hz23] at P22
  have P24 : own_Pr p.tables e below S0 T17 (mkF m 68 #[.val (.long p1), .second, .val (.long p2), .second, .val (.int p3), .val (.long z4), .second, .val (.long z8), .second, .val (.ref b10), .val (.int z23)] [(.ref b10)]) := fun t k => P22 t (by
    refine XS.istore X17.here hx rfl (hb hby at_64) rfl (l' := #[.val (.long p1), .second, .val (.long p2), .second, .val (.int p3), .val (.long z4), .second, .val (.long z8), .second, .val (.ref b10), .val (.int z23)]) rfl ?_
    show Steps p.tables e below (T17.setTop (mkF m 66 #[.val (.long p1), .second, .val (.long p2), .second, .val (.int p3), .val (.long z4), .second, .val (.long z8), .second, .val (.ref b10), .val (.int z23)] [])) _
    refine XS.aload X17.here hx rfl (hb hby at_66) rfl rfl ?_
    show Steps p.tables e below (T17.setTop (mkF m 68 #[.val (.long p1), .second, .val (.long p2), .second, .val (.int p3), .val (.long z4), .second, .val (.long z8), .second, .val (.ref b10), .val (.int z23)] [(.ref b10)])) _
    exact k)
  obtain ⟨cq25, kq25, q25a, q25b, q25c⟩ := isOf hZ rfl Ex17
  obtain ⟨_, _, ⟨T25, L25, k25, n25⟩, -, X25, ⟨Lc25, hQ25, l25, y25, z25⟩, st25⟩ := X17.virtualBack hx (y := (⟨"com/example/enqueue_to_disk/enqueuetodisk/format/internal/IndexEntry", "isBlank", "()Z"⟩ : MethodName)) (z := (⟨"com/example/enqueue_to_disk/enqueuetodisk/format/internal/IndexEntry", "isBlank", "()Z"⟩ : MethodName)) hown (mvT hZ (hw _ (List.mem_of_getElem? (i := 33) rfl))) (mvT hZ (hw _ (List.mem_of_getElem? (i := 34) rfl))) (notFace_of_selects (args := #[]) (mvT hZ (hw _ (List.mem_of_getElem? (i := 36) rfl)))) (mvT hZ (hw _ (List.mem_of_getElem? (i := 36) rfl))) (mvT hZ (hw _ (List.mem_of_getElem? (i := 35) rfl))) (by decide) (backOf (W := 0) (rm5 l Z a0 hw [] b10 z4 z8 T17.heap n0 Z18 Fa17 Fb17) hZ (hw _ (List.mem_of_getElem? (i := 37) rfl)) (hw _ (List.mem_of_getElem? (i := 3) rfl)) (by decide) (by decide)) q25a q25c (g := (mkF m 68 #[.val (.long p1), .second, .val (.long p2), .second, .val (.int p3), .val (.long z4), .second, .val (.long z8), .second, .val (.ref b10), .val (.int z23)] [(.ref b10)])) rfl (by rw [hml]; rfl) (Steps.refl _) (argsL := []) (rest := []) (lenOf pd_3 rfl) rfl (by show 2 * 0 + _ ≤ _; exact Nat.le_of_eq rfl) (hb hby at_68) (fun _ _ => ⟨rfl, rfl, (by decide : 5 + 0 ≤ _), (by decide : 86 + 0 ≤ _)⟩)
  dsimp only [Pt.U, Pt.locs, Pt.cells, Pt.slots] at X25 l25 y25 z25 st25 hQ25
  subst l25 y25 z25
  obtain ⟨z25v, rfl, hz25v, Nq25, eq25⟩ := hQ25
  have N25n := Fr.app N17n Nq25
  have P26 : own_Pr p.tables e below S0 T25 (mkF m 71 #[.val (.long p1), .second, .val (.long p2), .second, .val (.int p3), .val (.long z4), .second, .val (.long z8), .second, .val (.ref b10), .val (.int z23)] [(.int z25v)]) := fun t k => P24 t (st25.trans k)
  have P27 : own_Pr p.tables e below S0 T25 (mkF m 81 #[.val (.long p1), .second, .val (.long p2), .second, .val (.int p3), .val (.long z4), .second, .val (.long z8), .second, .val (.ref b10), .val (.int z23)] [(.int (1 : Int32))]) := fun t k => P26 t (by
    refine XS.iload X25.here hx rfl (hb hby at_71) rfl ?_
    show Steps p.tables e below (T25.setTop (mkF m 73 #[.val (.long p1), .second, .val (.long p2), .second, .val (.int p3), .val (.long z4), .second, .val (.long z8), .second, .val (.ref b10), .val (.int z23)] [(.int z23), (.int z25v)])) _
    refine XS.icmpNo X25.here hx rfl (hb hby at_73) rfl (XT.ii_ne_f (own_blank hz23 hz25v)) ?_
    show Steps p.tables e below (T25.setTop (mkF m 76 #[.val (.long p1), .second, .val (.long p2), .second, .val (.int p3), .val (.long z4), .second, .val (.long z8), .second, .val (.ref b10), .val (.int z23)] [])) _
    refine XS.iconst X25.here hx rfl (hb hby at_76) ?_
    show Steps p.tables e below (T25.setTop (mkF m 77 #[.val (.long p1), .second, .val (.long p2), .second, .val (.int p3), .val (.long z4), .second, .val (.long z8), .second, .val (.ref b10), .val (.int z23)] [(.int (1 : Int32))])) _
    refine XS.goto X25.here hx rfl (pc0 := 77) (pc' := 81) rfl (hb hby at_77) (by decide) (by decide) ?_
    show Steps p.tables e below (T25.setTop (mkF m 81 #[.val (.long p1), .second, .val (.long p2), .second, .val (.int p3), .val (.long z4), .second, .val (.long z8), .second, .val (.ref b10), .val (.int z23)] [(.int (1 : Int32))])) _
    exact k)
  obtain ⟨fs, hr, hrun, hended, hend⟩ := X25.leaveW hSn (by rw [eq25]; exact kS17) (v := some (.int (1 : Int32))) (fun h => by rw [Bd.returns] at h; cases h)
  have fin : Steps p.tables e below S0 (T25.setFrames fs) := P27 _ (retN X25 hx (t := .boolean) Bd.returns (by simp) (hb hby at_81) hr)
  rw [hS0] at fin
  refine ⟨_, _, fin, hrun, hended, _, _, rfl, ?_, hend.1, hend.2.1, hend.2.2.1, hend.2.2.2.mono (by decide) (by decide)⟩
  show own_QL n0 _ _
  exact ⟨_, rfl, rfl, N25n⟩
set_option maxRecDepth 65536 in
set_option maxHeartbeats 40000000 in
theorem comes_1 {Post : Tables → Env → Array Value → State → Outcome → State → Prop} (hpost : ∀ tb e args s v u, (limb_1_1.after args s (.returned v) u = true ∧ limb_1_2.after args s (.returned v) u = true ∧ True) → ReturnedEndW s (.returned v) u (Jvm.fieldLocs frame_1_writes args s ++ Jvm.arrayLocs frame_1_arrays args s ++ Jvm.staticLocs frame_1_statics s) 16 2176 → Post tb e args s (.returned v) u) :
    ArmFor flags0 classFile x code maxLocals ret World_1 tables_1 room_1 Calls_1 rest_1 Pre_1 Post := by
  intro l hfl _ _ p e ha hc hk s m args below hf hA hF happ hP
  obtain ⟨hcalls, hrest, hpre⟩ := hP
  obtain ⟨-, -, -, hnamed, -, -, -, hat⟩ := (Spec.applies_iff hf).mp happ
  obtain ⟨hg, hn⟩ := and_e (Cond.before_iff.mp (show (Jvm.Cond.and given_1 narrow_1).before args s = true from hpre))
  obtain ⟨gg1, gg2⟩ := and_e hg
  obtain ⟨gg3, gg4⟩ := and_e gg2
  obtain ⟨gg5, gg6⟩ := and_e gg4
  obtain ⟨w0, w1, w2, rfl⟩ : ∃ w0 w1 w2 : Value, args = #[w0, w1, w2] := by
    have hs : args.size = 3 := by simpa [Cond.value, given_1] using gg1
    obtain ⟨L⟩ := args
    match L, hs with
    | [w0, w1, w2], _ => exact ⟨w0, w1, w2, rfl⟩
  have hw := fun d (hd : d ∈ tables_1) => atoms_spec (ws := Jvm.Cond.code x code maxLocals ret :: tables_1) hat d (List.mem_cons_of_mem _ hd)
  have hfit : Fit s := fun {y c} hc i hi => by
    obtain ⟨ha, rfl⟩ := Array.getElem?_eq_some_iff.mp hc
    have q := List.all_eq_true.mp ((Array.all_eq_true_iff_forall_mem.mp hF) _ (Array.getElem_mem ha)) i (List.mem_range.mpr hi)
    simpa [Array.getElem?_eq_getElem hi] using q
  obtain ⟨i0, ei0⟩ := isL_v gg3
  obtain rfl : w0 = (.long i0) := Option.some.inj ei0
  obtain ⟨i1, ei1⟩ := isL_v gg5
  obtain rfl : w1 = (.long i1) := Option.some.inj ei1
  obtain ⟨i2, ei2⟩ := is_v gg6
  obtain rfl : w2 = (.int i2) := Option.some.inj ei2
  obtain ⟨n, o, h1, h2, h3, _, L, rfl, ⟨z, rfl, rfl, N⟩, hq⟩ := rm0 l s _ hw tables_1 i0 i1 i2  s.heap s.heap.size (Nat.le_refl _)  p e ha hc hk s m _ below hf ((Spec.applies_iff_loose hf).mp happ).1 ⟨rfl, State.Warmed39.refl s, rfl⟩ trivial
  refine ⟨n, _, h1, h2, h3, hpost _ _ _ _ _ _ ⟨Cond.after_iff.mpr rfl, Cond.after_iff.mpr (eq_i res_at (Term.int_eval (1)) rfl), trivial⟩ ⟨hq.1, hq.2.1, hq.2.2.1, (hq.2.2.2.sift fun y hy => Or.inr (N y hy)).mono (by decide) (by decide)⟩⟩
theorem main_1_1 : Claimed_1_1 := comes_1 fun _ _ _ _ _ _ h hF => ⟨h.1, hF⟩
theorem main_1_2 : Claimed_1_2 := comes_1 fun _ _ _ _ _ _ h hF => ⟨h.2.1, hF⟩
end Jvm.Pilot.@@N@@
namespace Jvm.Pilot.@@N@@
open Jvm Jvm.ClassFile Sem Op Lib Jvm.Free Jvm.Stand Jvm.Pilot.@@N@@.Jvm.D
/-! MADE BY PROGRAM (witnessworld.py) out of the Statement's table words and the real class files: 16 classes; the members and pool entries that the words name. The judged class is class 1, her method 1. -/
namespace start1
open Jvm.ClassFile
def u (s : String) : CpInfo := .utf8 (stringToUtf16 s)
/-- a pool by its gaps: so many unusable entries, then the entry; so many at the end -/
def gap : Nat → List CpInfo → List CpInfo
  | 0, r => r
  | n + 1, r => .unusable :: gap n r
def poolList (es : List (Nat × CpInfo)) (last : Nat) : List CpInfo := es.foldr (fun e r => gap e.1 (e.2 :: r)) (gap last [])
def pool (es : List (Nat × CpInfo)) (last : Nat) : Array CpInfo := ⟨poolList es last⟩
def fileOf (pool : Array CpInfo) (this : Nat) (attrs : Array Attribute := #[]) (ms : Array MethodInfo := #[]) (fl : Nat := 33) (sup : Nat := 0) (ifs : Array Nat := #[]) (fds : Array FieldInfo := #[]) : ClassFile where
  minorVersion := 0
  majorVersion := 65
  constantPool := pool
  accessFlags := fl
  thisClass := this
  superClass := sup
  interfaces := ifs
  fields := fds
  methods := ms
  attributes := attrs
def plain (name : String) (sup : Option ClassId) : Class where
  name := name
  kind := .ordinary
  loader := none
  accessFlags := 33
  super := sup
  interfaces := #[]
  cf := none
  fields := #[]
  methods := #[]
  instanceTypes := #[]
  staticTypes := #[]
  resolved := #[]
  callSites := []
  init := .initialized
  statics := none
  mirror := none

def pool0 : Array CpInfo := pool [(5, u "<init>"), (0, u "()V"), (1, .class_ 10), (1, u "java/lang/Object")] 113

def k0c0 : Code := { maxStack := 0, maxLocals := 1, code := object_method_1_code, exceptionTable := #[], attributes := #[] }
def k0m0 : Method := { name := "<init>", desc := "()V", sig := { parameters := [], returnType := none }, accessFlags := 1, code := some k0c0 }
/-- java/lang/Object -/
def k0 : Class := { plain "java/lang/Object" none with
  accessFlags := 33
  interfaces := #[]
  cf := some (fileOf pool0 8 #[] #[{ accessFlags := 1, nameIndex := 5, descriptorIndex := 6, attributes := #[] }] 33 0 #[] #[])
  fields := #[]
  methods := #[k0m0]
  instanceTypes := #[]
  staticTypes := #[]
  resolved := Array.replicate 124 none
  statics := none }

def pool1 : Array CpInfo := pool [(2, .class_ 4), (1, u "java/lang/Object"), (0, u "<init>"), (0, u "()V"), (0, .long 4294967295), (1, .class_ 10), (0, u "com/example/enqueue_to_disk/enqueuetodisk/format/internal/IndexEntry"), (0, .methodref 9 12), (0, .nameAndType 5 13), (0, u "(JJ)V"), (0, .methodref 9 15), (0, .nameAndType 16 17), (0, u "isBlank"), (0, u "()Z"), (0, .class_ 19), (0, u "com/example/enqueue_to_disk/enqueuetodisk/format/internal/IndexEntryIsBlankPinLaw"), (2, u "law"), (0, u "(JJI)Z")] 3

def k1m0 : Method := { name := "<init>", desc := "()V", sig := { parameters := [], returnType := none }, accessFlags := 2, code := none }
def k1c1 : Code := { maxStack := 6, maxLocals := 11, code := code, exceptionTable := #[], attributes := #[] }
def k1m1 : Method := { name := "law", desc := "(JJI)Z", sig := { parameters := [.long, .long, .int], returnType := some .boolean }, accessFlags := 9, code := some k1c1 }
/-- com/example/enqueue_to_disk/enqueuetodisk/format/internal/IndexEntryIsBlankPinLaw -/
def k1 : Class := { plain "com/example/enqueue_to_disk/enqueuetodisk/format/internal/IndexEntryIsBlankPinLaw" (some 0) with
  accessFlags := 49
  interfaces := #[]
  cf := some (fileOf pool1 18 #[] #[{ accessFlags := 2, nameIndex := 5, descriptorIndex := 6, attributes := #[] }, { accessFlags := 9, nameIndex := 22, descriptorIndex := 23, attributes := #[] }] 49 2 #[] #[])
  fields := #[]
  methods := #[k1m0, k1m1]
  instanceTypes := #[]
  staticTypes := #[]
  resolved := Array.replicate 27 none
  statics := none }

def pool2 : Array CpInfo := pool [(1, .methodref 2 3), (0, .class_ 4), (0, .nameAndType 5 6), (0, u "java/lang/Object"), (0, u "<init>"), (0, u "()V"), (0, .class_ 8), (0, u "java/lang/Record")] 13

def k2c0 : Code := { maxStack := 1, maxLocals := 1, code := jdk_30_method_1_code, exceptionTable := #[], attributes := #[] }
def k2m0 : Method := { name := "<init>", desc := "()V", sig := { parameters := [], returnType := none }, accessFlags := 4, code := some k2c0 }
/-- java/lang/Record -/
def k2 : Class := { plain "java/lang/Record" (some 0) with
  accessFlags := 1057
  interfaces := #[]
  cf := some (fileOf pool2 7 #[] #[{ accessFlags := 4, nameIndex := 5, descriptorIndex := 6, attributes := #[] }] 1057 2 #[] #[])
  fields := #[]
  methods := #[k2m0]
  instanceTypes := #[]
  staticTypes := #[]
  resolved := Array.replicate 22 none
  statics := none }

def pool3 : Array CpInfo := pool [(1, .methodref 2 3), (0, .class_ 4), (0, .nameAndType 5 6), (0, u "java/lang/Record"), (0, u "<init>"), (0, u "()V"), (0, .string 8), (0, u "record number"), (0, .methodref 10 11), (0, .class_ 12), (0, .nameAndType 13 14), (0, u "com/example/enqueue_to_disk/enqueuetodisk/format/internal/Unsigned32"), (0, u "require"), (0, u "(Ljava/lang/String;J)J"), (0, .string 16), (0, u "offset"), (0, .fieldref 18 19), (0, .class_ 20), (0, .nameAndType 21 22), (0, u "com/example/enqueue_to_disk/enqueuetodisk/format/internal/IndexEntry"), (0, u "recordNumber"), (0, u "J"), (0, .fieldref 18 24), (0, .nameAndType 16 22), (18, u "(JJ)V"), (12, u "SIZE"), (0, u "I"), (5, u "isBlank"), (0, u "()Z")] 29

def k3c0 : Code := { maxStack := 3, maxLocals := 5, code := prog_104_method_1_code, exceptionTable := #[], attributes := #[] }
def k3m0 : Method := { name := "<init>", desc := "(JJ)V", sig := { parameters := [.long, .long], returnType := none }, accessFlags := 1, code := some k3c0 }
def k3c1 : Code := { maxStack := 4, maxLocals := 1, code := prog_104_method_2_code, exceptionTable := #[], attributes := #[] }
def k3m1 : Method := { name := "isBlank", desc := "()Z", sig := { parameters := [], returnType := some .boolean }, accessFlags := 1, code := some k3c1 }
/-- com/example/enqueue_to_disk/enqueuetodisk/format/internal/IndexEntry -/
def k3 : Class := { plain "com/example/enqueue_to_disk/enqueuetodisk/format/internal/IndexEntry" (some 2) with
  accessFlags := 49
  interfaces := #[]
  cf := some (fileOf pool3 18 #[] #[{ accessFlags := 1, nameIndex := 5, descriptorIndex := 43, attributes := #[] }, { accessFlags := 1, nameIndex := 63, descriptorIndex := 64, attributes := #[] }] 49 2 #[] #[{ accessFlags := 18, nameIndex := 21, descriptorIndex := 22, attributes := #[] }, { accessFlags := 18, nameIndex := 16, descriptorIndex := 22, attributes := #[] }, { accessFlags := 25, nameIndex := 56, descriptorIndex := 57, attributes := #[] }])
  fields := #[{ name := "recordNumber", type := .long, accessFlags := 18, slot := 0, constantValue := 0 }, { name := "offset", type := .long, accessFlags := 18, slot := 1, constantValue := 0 }, { name := "SIZE", type := .int, accessFlags := 25, slot := 0, constantValue := 0 }]
  methods := #[k3m0, k3m1]
  instanceTypes := #[.long, .long]
  staticTypes := #[.int]
  resolved := Array.replicate 94 none
  statics := none }

def pool4 : Array CpInfo := pool [(1, .class_ 2), (0, u "java/io/Serializable"), (0, .class_ 4), (0, u "java/lang/Object")] 2

/-- java/io/Serializable -/
def k4 : Class := { plain "java/io/Serializable" (some 0) with
  accessFlags := 1537
  interfaces := #[]
  cf := some (fileOf pool4 1 #[] #[] 1537 3 #[] #[])
  fields := #[]
  methods := #[]
  instanceTypes := #[]
  staticTypes := #[]
  resolved := Array.replicate 7 none
  statics := none }

def pool5 : Array CpInfo := pool [(1, .class_ 2), (0, u "java/lang/Comparable"), (0, .class_ 4), (0, u "java/lang/Object")] 7

/-- java/lang/Comparable -/
def k5 : Class := { plain "java/lang/Comparable" (some 0) with
  accessFlags := 1537
  interfaces := #[]
  cf := some (fileOf pool5 1 #[] #[] 1537 3 #[] #[])
  fields := #[]
  methods := #[]
  instanceTypes := #[]
  staticTypes := #[]
  resolved := Array.replicate 12 none
  statics := none }

def pool6 : Array CpInfo := pool [(2, .class_ 4), (1, u "java/lang/CharSequence"), (42, .class_ 48), (0, u "java/lang/CharSequence$1CodePointIterator"), (10, .class_ 60), (0, u "java/lang/CharSequence$1CharIterator"), (5, .class_ 67), (0, u "java/lang/Object")] 63

/-- java/lang/CharSequence -/
def k6 : Class := { plain "java/lang/CharSequence" (some 0) with
  accessFlags := 1537
  interfaces := #[]
  cf := some (fileOf pool6 2 #[.nestMembers #[47, 59]] #[] 1537 66 #[] #[])
  fields := #[]
  methods := #[]
  instanceTypes := #[]
  staticTypes := #[]
  resolved := Array.replicate 131 none
  statics := none }

def pool7 : Array CpInfo := pool [(1, .class_ 2), (0, u "java/lang/constant/Constable"), (0, .class_ 4), (0, u "java/lang/Object")] 6

/-- java/lang/constant/Constable -/
def k7 : Class := { plain "java/lang/constant/Constable" (some 0) with
  accessFlags := 1537
  interfaces := #[]
  cf := some (fileOf pool7 1 #[] #[] 1537 3 #[] #[])
  fields := #[]
  methods := #[]
  instanceTypes := #[]
  staticTypes := #[]
  resolved := Array.replicate 11 none
  statics := none }

def pool8 : Array CpInfo := pool [(1, .class_ 2), (0, u "java/lang/constant/ConstantDesc"), (0, .class_ 4), (0, u "java/lang/Object")] 32

/-- java/lang/constant/ConstantDesc -/
def k8 : Class := { plain "java/lang/constant/ConstantDesc" (some 0) with
  accessFlags := 1537
  interfaces := #[]
  cf := some (fileOf pool8 1 #[] #[] 1537 3 #[] #[])
  fields := #[]
  methods := #[]
  instanceTypes := #[]
  staticTypes := #[]
  resolved := Array.replicate 37 none
  statics := none }

def pool9 : Array CpInfo := pool [(2, .class_ 4), (1, u "java/lang/Object"), (0, u "<init>"), (0, u "()V"), (3, .class_ 12), (1, u "java/lang/String"), (0, u "value"), (0, u "[B"), (2, u "coder"), (0, u "B"), (2, u "hash"), (0, u "I"), (2, u "hashIsZero"), (0, u "Z"), (13, u "COMPACT_STRINGS"), (534, .class_ 576), (0, u "java/lang/CharSequence"), (22, u "CASE_INSENSITIVE_ORDER"), (0, u "Ljava/util/Comparator;"), (500, u "serialPersistentFields"), (0, u "[Ljava/io/ObjectStreamField;"), (0, .class_ 1104), (0, u "java/lang/String$CaseInsensitiveComparator"), (1, .class_ 1107), (0, u "java/io/Serializable"), (0, .class_ 1109), (0, u "java/lang/Comparable"), (0, .class_ 1111), (0, u "java/lang/constant/Constable"), (0, .class_ 1113), (0, u "java/lang/constant/ConstantDesc"), (2, u "serialVersionUID"), (0, u "J"), (3, u "REPL"), (0, u "C"), (2, u "LATIN1"), (1, u "UTF16")] 323

def k9m0 : Method := { name := "<init>", desc := "()V", sig := { parameters := [], returnType := none }, accessFlags := 1, code := none }
/-- java/lang/String -/
def k9 : Class := { plain "java/lang/String" (some 0) with
  accessFlags := 49
  interfaces := #[4, 5, 6, 7, 8]
  cf := some (fileOf pool9 10 #[.nestMembers #[1103]] #[{ accessFlags := 1, nameIndex := 5, descriptorIndex := 6, attributes := #[] }] 49 2 #[1106, 1108, 575, 1110, 1112] #[{ accessFlags := 18, nameIndex := 13, descriptorIndex := 14, attributes := #[] }, { accessFlags := 18, nameIndex := 17, descriptorIndex := 18, attributes := #[] }, { accessFlags := 2, nameIndex := 21, descriptorIndex := 22, attributes := #[] }, { accessFlags := 2, nameIndex := 25, descriptorIndex := 26, attributes := #[] }, { accessFlags := 26, nameIndex := 1116, descriptorIndex := 1117, attributes := #[] }, { accessFlags := 24, nameIndex := 40, descriptorIndex := 26, attributes := #[] }, { accessFlags := 26, nameIndex := 1101, descriptorIndex := 1102, attributes := #[] }, { accessFlags := 26, nameIndex := 1121, descriptorIndex := 1122, attributes := #[] }, { accessFlags := 25, nameIndex := 599, descriptorIndex := 600, attributes := #[] }, { accessFlags := 24, nameIndex := 1125, descriptorIndex := 18, attributes := #[] }, { accessFlags := 24, nameIndex := 1127, descriptorIndex := 18, attributes := #[] }])
  fields := #[{ name := "value", type := (.array .byte), accessFlags := 18, slot := 0, constantValue := 0 }, { name := "coder", type := .byte, accessFlags := 18, slot := 1, constantValue := 0 }, { name := "hash", type := .int, accessFlags := 2, slot := 2, constantValue := 0 }, { name := "hashIsZero", type := .boolean, accessFlags := 2, slot := 3, constantValue := 0 }, { name := "serialVersionUID", type := .long, accessFlags := 26, slot := 0, constantValue := 0 }, { name := "COMPACT_STRINGS", type := .boolean, accessFlags := 24, slot := 1, constantValue := 0 }, { name := "serialPersistentFields", type := (.array (.object "java/io/ObjectStreamField")), accessFlags := 26, slot := 2, constantValue := 0 }, { name := "REPL", type := .char, accessFlags := 26, slot := 3, constantValue := 0 }, { name := "CASE_INSENSITIVE_ORDER", type := (.object "java/util/Comparator"), accessFlags := 25, slot := 4, constantValue := 0 }, { name := "LATIN1", type := .byte, accessFlags := 24, slot := 5, constantValue := 0 }, { name := "UTF16", type := .byte, accessFlags := 24, slot := 6, constantValue := 0 }]
  methods := #[k9m0]
  instanceTypes := #[(.array .byte), .byte, .int, .boolean]
  staticTypes := #[.long, .boolean, (.array (.object "java/io/ObjectStreamField")), .char, (.object "java/util/Comparator"), .byte, .byte]
  resolved := Array.replicate 1451 none
  statics := none }

def pool10 : Array CpInfo := pool [(2, .class_ 4), (1, u "java/lang/Object"), (0, u "<init>"), (0, u "()V"), (0, .class_ 8), (0, u "com/example/enqueue_to_disk/enqueuetodisk/format/internal/Unsigned32"), (0, .long 4294967295), (12, u "DIGITS"), (0, u "[C"), (23, u "MAX"), (0, u "J"), (1, u "HEX_DIGITS"), (0, u "I"), (3, u "require"), (0, u "(Ljava/lang/String;J)J")] 23

def k10m0 : Method := { name := "<init>", desc := "()V", sig := { parameters := [], returnType := none }, accessFlags := 2, code := none }
def k10c1 : Code := { maxStack := 5, maxLocals := 3, code := prog_112_method_2_code, exceptionTable := #[], attributes := #[] }
def k10m1 : Method := { name := "require", desc := "(Ljava/lang/String;J)J", sig := { parameters := [(.object "java/lang/String"), .long], returnType := some .long }, accessFlags := 9, code := some k10c1 }
/-- com/example/enqueue_to_disk/enqueuetodisk/format/internal/Unsigned32 -/
def k10 : Class := { plain "com/example/enqueue_to_disk/enqueuetodisk/format/internal/Unsigned32" (some 0) with
  accessFlags := 49
  interfaces := #[]
  cf := some (fileOf pool10 7 #[] #[{ accessFlags := 2, nameIndex := 5, descriptorIndex := 6, attributes := #[] }, { accessFlags := 9, nameIndex := 55, descriptorIndex := 56, attributes := #[] }] 49 2 #[] #[{ accessFlags := 25, nameIndex := 47, descriptorIndex := 48, attributes := #[] }, { accessFlags := 25, nameIndex := 50, descriptorIndex := 51, attributes := #[] }, { accessFlags := 26, nameIndex := 22, descriptorIndex := 23, attributes := #[] }])
  fields := #[{ name := "MAX", type := .long, accessFlags := 25, slot := 0, constantValue := 0 }, { name := "HEX_DIGITS", type := .int, accessFlags := 25, slot := 1, constantValue := 0 }, { name := "DIGITS", type := (.array .char), accessFlags := 26, slot := 2, constantValue := 0 }]
  methods := #[k10m0, k10m1]
  instanceTypes := #[]
  staticTypes := #[.long, .int, (.array .char)]
  resolved := Array.replicate 80 none
  statics := none }

def pool11 : Array CpInfo := pool [(1, u "java/lang/Cloneable"), (0, .class_ 1), (0, u "java/lang/Object"), (0, .class_ 3)] 3

/-- java/lang/Cloneable -/
def k11 : Class := { plain "java/lang/Cloneable" (some 0) with
  accessFlags := 1537
  interfaces := #[]
  cf := some (fileOf pool11 2 #[] #[] 1537 4 #[] #[])
  fields := #[]
  methods := #[]
  instanceTypes := #[]
  staticTypes := #[]
  resolved := Array.replicate 8 none
  statics := none }

/-- the primitive byte -/
def k12 : Class := { plain "byte" none with kind := .primitive 'B', accessFlags := 0x411 }
/-- [B -/
def k13 : Class := { plain "[B" (some 0) with kind := .array 12 .byte, interfaces := #[11, 4], accessFlags := 1041 }

/-- the primitive int -/
def k14 : Class := { plain "int" none with kind := .primitive 'I', accessFlags := 0x411 }
/-- [I -/
def k15 : Class := { plain "[I" (some 0) with kind := .array 14 .int, interfaces := #[11, 4], accessFlags := 1041 }

def heap : Heap := #[]
def classes : Array Class := #[k0, k1, k2, k3, k4, k5, k6, k7, k8, k9, k10, k11, k12, k13, k14, k15]
def interned : List (Array UInt16 × Addr) := []
def slotsUsed : Nat := 0
def theMethod : MethodId := ⟨1, 1⟩
def args0 : Array Value := #[.long 5, .long 5, .int 5]
def aboutOver (below : List Frame) : State where
  vm := { classes := classes, interned := interned.toArray }
  heap := heap
  slotsUsed := slotsUsed
  threads := #[{ frames := .invoking theMethod args0 :: below }]
def below0 : List Frame := [.native { method := ⟨0, 0⟩, args := #[] }]
def about1 : State := aboutOver below0
def p0 : Program := .bare "" "" ""
def e0 : Env := launch0.env 0 0 0
theorem w_frames : about1.frames = Frame.invoking theMethod args0 :: below0 := rfl
set_option maxRecDepth 65536 in
theorem w_args : argsFit about1.vm theMethod args0 = true := by decide +kernel
set_option maxRecDepth 65536 in
theorem w_heap : heapFits about1 = true := by decide +kernel
set_option maxRecDepth 65536 in
theorem w_runnable : about1.curStatus? = some .runnable := by decide +kernel
set_option maxRecDepth 65536 in
theorem w_alone : about1.alone = true := by decide +kernel
set_option maxRecDepth 65536 in
theorem w_named : about1.methodNamed? x = some theMethod := by decide +kernel
set_option maxRecDepth 65536 in
theorem w_hears : about1.hears theMethod below0 = true := by decide +kernel
set_option maxRecDepth 65536 in
theorem w_ripe : about1.ripe theMethod args0 below0 = true := by decide +kernel
theorem w_running : about1.status = .running := rfl
set_option maxRecDepth 65536 in
theorem w_room : about1.hasRoom e0.platform room_1 = true :=
  launch0.hasRoom_least _ room_1 (by decide +kernel) (by decide +kernel) (by decide +kernel) (by decide +kernel) (by decide +kernel) (by decide +kernel)
theorem allAtoms_all (ts : List Jvm.Cond) (a : Array Jvm.Value) (st : Jvm.State) : (allAtoms ts).before a st = ts.all (fun c => c.before a st) := by
  induction ts with
  | nil => rfl
  | cons c t ih =>
    show (Jvm.Cond.and c (allAtoms t)).before a st = _
    rw [Jvm.Cond.before_and, ih, List.all_cons]
def words1 : List Jvm.Cond := Jvm.Cond.code x code maxLocals ret :: tables_1
/-- a 'code' word, met by the world's own term for the bytes: nothing is compared byte by byte -/
theorem code_word {y : MethodName} {bytes : ByteArray} {mx : Nat} {rt : Option FieldType} {a : Array Value} {s : State} {m : MethodId} {meth : Method} {c : Code} (h1 : s.methodNamed? y = some m) (h2 : s.vm.method? m = some meth) (h3 : meth.code = some c) (h4 : c.code = bytes)
    (h5 : (c.maxLocals == mx && c.exceptionTable.isEmpty && decide (c.maxStack ≤ mostOperands) && decide (meth.sig.returnType = rt) && !meth.locks && decide (parseMethodDescriptor y.desc = some meth.sig)) = true) : (Jvm.Cond.code y bytes mx rt).before a s = true := by
  simp only [Bool.and_eq_true, beq_iff_eq, Bool.not_eq_true', decide_eq_true_eq] at h5
  obtain ⟨⟨⟨⟨⟨g1, g2⟩, g3⟩, g4⟩, g5⟩, g6⟩ := h5
  simp [Cond.before, Cond.holds, Cond.value, h1, h2, h3, h4, g1, g2, g3, g4, g5, g6]
def isCode : Jvm.Cond → Bool
  | .code _ _ _ _ => true
  | _ => false
theorem all_split {L : List Jvm.Cond} {P : Jvm.Cond → Bool} (h1 : L.all (fun c => isCode c || P c) = true) (h2 : ∀ c ∈ L.filter isCode, P c = true) : L.all P = true := by
  refine List.all_eq_true.mpr fun c hc => ?_
  have h := List.all_eq_true.mp h1 c hc
  rcases Bool.eq_false_or_eq_true (isCode c) with hi | hi
  · exact h2 c (List.mem_filter.mpr ⟨hc, hi⟩)
  · simpa [hi] using h
set_option maxRecDepth 65536 in
theorem w_c0 : (Jvm.Cond.code x code maxLocals ret).before args0 about1 = true := code_word (m := ⟨1, 1⟩) (meth := k1m1) (c := k1c1) (by decide +kernel) rfl rfl rfl (by decide +kernel)
set_option maxRecDepth 65536 in
theorem w_c1 : (Jvm.Cond.code ({ cls := "com/example/enqueue_to_disk/enqueuetodisk/format/internal/IndexEntry", name := "<init>", desc := "(JJ)V" } : Jvm.MethodName) prog_104_method_1_code (5 : Nat) (Option.none : Option Jvm.ClassFile.FieldType)).before args0 about1 = true := code_word (m := ⟨3, 0⟩) (meth := k3m0) (c := k3c0) (by decide +kernel) rfl rfl rfl (by decide +kernel)
set_option maxRecDepth 65536 in
theorem w_c2 : (Jvm.Cond.code ({ cls := "java/lang/Record", name := "<init>", desc := "()V" } : Jvm.MethodName) jdk_30_method_1_code (1 : Nat) (Option.none : Option Jvm.ClassFile.FieldType)).before args0 about1 = true := code_word (m := ⟨2, 0⟩) (meth := k2m0) (c := k2c0) (by decide +kernel) rfl rfl rfl (by decide +kernel)
set_option maxRecDepth 65536 in
theorem w_c3 : (Jvm.Cond.code ({ cls := "java/lang/Object", name := "<init>", desc := "()V" } : Jvm.MethodName) object_method_1_code (1 : Nat) (Option.none : Option Jvm.ClassFile.FieldType)).before args0 about1 = true := code_word (m := ⟨0, 0⟩) (meth := k0m0) (c := k0c0) (by decide +kernel) rfl rfl rfl (by decide +kernel)
set_option maxRecDepth 65536 in
theorem w_c4 : (Jvm.Cond.code ({ cls := "com/example/enqueue_to_disk/enqueuetodisk/format/internal/Unsigned32", name := "require", desc := "(Ljava/lang/String;J)J" } : Jvm.MethodName) prog_112_method_2_code (3 : Nat) (Option.some Jvm.ClassFile.FieldType.long)).before args0 about1 = true := code_word (m := ⟨10, 1⟩) (meth := k10m1) (c := k10c1) (by decide +kernel) rfl rfl rfl (by decide +kernel)
set_option maxRecDepth 65536 in
theorem w_c5 : (Jvm.Cond.code ({ cls := "com/example/enqueue_to_disk/enqueuetodisk/format/internal/IndexEntry", name := "isBlank", desc := "()Z" } : Jvm.MethodName) prog_104_method_2_code (1 : Nat) (Option.some Jvm.ClassFile.FieldType.boolean)).before args0 about1 = true := code_word (m := ⟨3, 1⟩) (meth := k3m1) (c := k3c1) (by decide +kernel) rfl rfl rfl (by decide +kernel)
def codes1 : List Jvm.Cond := [Jvm.Cond.code x code maxLocals ret, Jvm.Cond.code ({ cls := "com/example/enqueue_to_disk/enqueuetodisk/format/internal/IndexEntry", name := "<init>", desc := "(JJ)V" } : Jvm.MethodName) prog_104_method_1_code (5 : Nat) (Option.none : Option Jvm.ClassFile.FieldType), Jvm.Cond.code ({ cls := "java/lang/Record", name := "<init>", desc := "()V" } : Jvm.MethodName) jdk_30_method_1_code (1 : Nat) (Option.none : Option Jvm.ClassFile.FieldType), Jvm.Cond.code ({ cls := "java/lang/Object", name := "<init>", desc := "()V" } : Jvm.MethodName) object_method_1_code (1 : Nat) (Option.none : Option Jvm.ClassFile.FieldType), Jvm.Cond.code ({ cls := "com/example/enqueue_to_disk/enqueuetodisk/format/internal/Unsigned32", name := "require", desc := "(Ljava/lang/String;J)J" } : Jvm.MethodName) prog_112_method_2_code (3 : Nat) (Option.some Jvm.ClassFile.FieldType.long), Jvm.Cond.code ({ cls := "com/example/enqueue_to_disk/enqueuetodisk/format/internal/IndexEntry", name := "isBlank", desc := "()Z" } : Jvm.MethodName) prog_104_method_2_code (1 : Nat) (Option.some Jvm.ClassFile.FieldType.boolean)]
set_option maxRecDepth 65536 in
theorem codes_eq : words1.filter isCode = codes1 := rfl
theorem w_codes : ∀ c ∈ words1.filter isCode, c.before args0 about1 = true := by
  rw [codes_eq]
  intro c hc
  simp only [codes1, List.mem_cons, List.not_mem_nil, or_false] at hc
  rcases hc with rfl | rfl | rfl | rfl | rfl | rfl
  · exact w_c0
  · exact w_c1
  · exact w_c2
  · exact w_c3
  · exact w_c4
  · exact w_c5
set_option maxRecDepth 65536 in
theorem w_t1 : (words1.take 24).all (fun c => isCode c || c.before args0 about1) = true := by decide +kernel
set_option maxRecDepth 65536 in
theorem w_t2 : (words1.drop 24).all (fun c => isCode c || c.before args0 about1) = true := by decide +kernel
theorem w_tables : (allAtoms (Jvm.Cond.code x code maxLocals ret :: tables_1)).before args0 about1 = true := by
  rw [allAtoms_all]
  show words1.all (fun c => c.before args0 about1) = true
  refine all_split ?_ w_codes
  rw [← List.take_append_drop 24 words1, List.all_append, w_t1, w_t2]
  rfl
set_option maxRecDepth 65536 in
theorem w_case : (Jvm.Cond.and given_1 narrow_1).before args0 about1 = true := by decide +kernel
theorem w_applies : (headSpec (Jvm.Cond.code x code maxLocals ret :: tables_1) room_1).applies x e0.platform about1 = true :=
  (Spec.applies_iff w_frames).mpr ⟨w_running, w_runnable, w_alone, w_named, w_hears, w_ripe, w_room, w_tables⟩
theorem atStart : AtStart classFile x code maxLocals ret World_1 tables_1 room_1 Calls_1 rest_1 Pre_1 launch0 p0 e0 about1 theMethod args0 below0 :=
  ⟨lists_1, trivial, launch0.admits_env _ _ _, launch0.least_env, fairChoices_fair.cas, fairChoices_fair.clock, w_frames, w_args, w_heap, w_applies, trivial, trivial, w_case⟩
end start1
theorem witness_1 : WitnessClaimed_1 := ⟨start1.p0, start1.e0, start1.about1, start1.theMethod, start1.args0, start1.below0, start1.atStart⟩
end Jvm.Pilot.@@N@@
