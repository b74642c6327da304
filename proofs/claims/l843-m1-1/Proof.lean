import JvmDerived
import JvmDerived.Pilot.@@N@@Statement
import JvmDerived.Pilot.@@N@@Code
set_option linter.unusedVariables false
set_option linter.unusedSimpArgs false
namespace Jvm.RoadKit
open Sem ClassFile Op Lib Jvm.Stand Jvm.Free Jvm.LawKit
section New
variable {p : Program} {l : Launch} {e : Env} {R : Room} {s : State} {m : MethodId} {args : Array Value} {below : List Frame} {meth : Method} {c : Code} {T : State} {locs : List Loc} {cells slots : Nat}
theorem retI (X : Stand p l e R s m args below meth c T locs cells slots) (hx : p.tables.exec = Jvm.exec) {pc : Nat} {Ls : Array Slot} {z : Int32} {rest : List Value} (hret : meth.sig.returnType = some .int) (hd : decode c.code pc = .ok (.ireturn, 1)) {fs : List Frame}
    (hl : ∀ (f : JFrame) (acts : List Action), f.method = m → f.locked = none → f.entered = [] → (doReturn e (T.setTop f) acts (some (.int z))).1 = T.setFrames fs) : Steps p.tables e below (T.setTop (mkF m pc Ls (.int z :: rest))) (T.setFrames fs) := by
  have hm' : T.vm.method? m = some meth := X.method'
  have hn : narrow .int (.int z) = .int z := rfl
  show Steps p.tables e below (T.setTop { method := m, pc := pc, locals := Ls, stack := _ :: rest, locked := none }) _
  jvm_step X.here [X.here.top, hx, hd, hm', hret, hn]
  first | (intro acts; rw [hl _ acts rfl rfl rfl]) | rw [hl _ _ rfl rfl rfl]
  exact Steps.refl _
end New
end Jvm.RoadKit
namespace Jvm.Pilot.@@N@@
open Jvm Jvm.ClassFile Sem Op Lib Jvm.Free Jvm.Stand Jvm.LawKit Jvm.RoadKit Bundle Jvm.Pilot.@@N@@.Jvm.D
/-- what is left to run from S0 is what is left from T with the frame g on top -/
abbrev own_Pr (tb : Tables) (e : Env) (below : List Frame) (S0 T : State) (g : JFrame) : Prop := ∀ t, Steps tb e below (T.setTop g) t → Steps tb e below S0 t
/-- it returns the int r, the heap as it was -/
def own_QI (h0 : Heap) (n0 : Nat) (r : Int32) (v : Option Value) (h : Heap) (L : List Loc) : Prop := ∃ z, v = some (.int z) ∧ z = r ∧ Fr n0 L ∧ h = h0
def own_QJ (h0 : Heap) (n0 : Nat) (r : Int64) (v : Option Value) (h : Heap) (L : List Loc) : Prop := ∃ z, v = some (.long z) ∧ z = r ∧ Fr n0 L ∧ h = h0
def own_QR (h0 : Heap) (n0 : Nat) (r : Addr) (v : Option Value) (h : Heap) (L : List Loc) : Prop := ∃ z, v = some (.ref z) ∧ z = r ∧ Fr n0 L ∧ h = h0
def own_QL (n0 : Nat) (v : Option Value) (L : List Loc) : Prop := ∃ z : Int32, v = some (.int z) ∧ z = 1 ∧ Fr n0 L
def own_QV (h0 : Heap) (n0 : Nat) (v : Option Value) (h : Heap) (L : List Loc) : Prop := v = none ∧ Fr n0 L ∧ h = h0
theorem own_tab_other {Z : State} {h h' : Heap} {a b : Addr} {sl : Nat} {v : Value} {cl : Cell} {ty : FieldType} {n : Int32} (F : Tab Z h b cl ty n) (W : Wr h h' a sl v) (q : b ≠ a) : Tab Z h' b cl ty n := ⟨F.1.other W q, F.2⟩
theorem own_tab_keep {Z : State} {h h' : Heap} {b : Addr} {ws : List Addr} {cl : Cell} {ty : FieldType} {n : Int32} (F : Tab Z h b cl ty n) (K : Keep h h' ws) (q : b ∉ ws) : Tab Z h' b cl ty n := ⟨⟨K.2.1 b cl F.1.1 q, F.1.2⟩, F.2⟩
theorem own_tab {Z : State} {h : Heap} {a : Addr} {k : ClassId} {ty : FieldType} {n : Int32} {xs : List Int32} (F : Arv Z h a k ty n (xs.map Value.int) (.int 0)) : ∃ cl, Tab Z h a cl ty n ∧ ∀ j : Int32, ¬ j < 0 → j < n → atv cl j = xs.getD j.toNatClampNeg 0 := by
  obtain ⟨cl, A, -, S, hn, H, -⟩ := F
  have key : ∀ i, i < cl.slots.size → cl.slots[i]? = some (.int (xs.getD i 0)) := fun i hi => by
    rw [H i hi]; simp only [List.getD_eq_getElem?_getD, List.getElem?_map]
    cases xs[i]? <;> rfl
  have at' : ∀ j : Int32, ¬ (j < 0 ∨ cl.slots.size ≤ j.toNatClampNeg) → atv cl j = xs.getD j.toNatClampNeg 0 := fun j hj => atv_of (key _ (Nat.lt_of_not_le fun q => hj (Or.inr q)))
  exact ⟨cl, ⟨A, S, hn, fun j hj => by rw [at' j hj]; exact key _ (Nat.lt_of_not_le fun q => hj (Or.inr q))⟩, fun j h1 h2 => at' j (inb_of S ⟨h1, h2⟩)⟩
theorem own_lremM {p : Program} {l : Launch} {e : Env} {R : Room} {s : State} {m : MethodId} {args : Array Value} {below : List Frame} {meth : Method} {c : Code} {T : State} {locs : List Loc} {cells slots : Nat} {g : JFrame} {target : State} (X : Stand p l e R s m args below meth c T locs cells slots) (hx : p.tables.exec = Jvm.exec) (hg : g.method = m) {x y : Int64} {rest : List Value} (hd : decode c.code g.pc = .ok (.lrem, 1)) (hs : g.stack = .long y :: .long x :: rest) (hy : y ≠ 0)
    (hr : Steps p.tables e below (T.setTop { g with pc := g.pc + 1, stack := .long (x % y) :: rest }) target) : Steps p.tables e below (T.setTop g) target :=
  XS.lrem X.here hx hg hd hs hy (by rw [lrem_mod x y]; exact hr)
/-- the digit that stands at the shift c -/
def own_dg (cd : Cell) (v : Int64) (c : Int32) : Int32 := nar .char (atv cd ((((v.toUInt64 >>> (c &&& 0x3f).toInt64.toUInt64).toInt64).toInt32) &&& (15 : Int32)))
def own_QW (Z : State) (a : Addr) (kk : ClassId) (xs : List Int32) (h0 : Heap) (n0 : Nat) (v : Option Value) (h : Heap) (L : List Loc) : Prop := v = none ∧ Fr n0 L ∧ Keep h0 h [a] ∧ Arv Z h a kk .char 10 (xs.map Value.int) (.int 0)
theorem own_n16 (x : Int32) : ¬ (x &&& 15) < 0 ∧ (x &&& 15) < 16 := by
  have h := c_and x 15 (by decide)
  have e0 : (0 : Int32).toInt = 0 := rfl
  have e1 : (15 : Int32).toInt = 15 := rfl
  have e2 : (16 : Int32).toInt = 16 := rfl
  rw [Int32.lt_iff_toInt_lt, Int32.lt_iff_toInt_lt, e0, e2]; omega
theorem own_pow (q : Int32) : (1 : Int64) <<< (q &&& 0x3f).toInt64 ≠ 0 := fun h => by
  have h1 := c_lshl 1 q (q.toBitVec.toNat % 64) rfl
  have e1 : (1 : Int64).toInt = 1 := rfl
  have e0 : (0 : Int64).toInt = 0 := rfl
  rw [h, e1, e0] at h1
  have h2 : q.toBitVec.toNat % 64 < 64 := Nat.mod_lt _ (by decide)
  have h3 : 2 ^ (q.toBitVec.toNat % 64) ≤ 2 ^ 63 := Nat.pow_le_pow_right (by decide) (by omega)
  have h4 : 0 < 2 ^ (q.toBitVec.toNat % 64) := Nat.pow_pos (by decide)
  generalize 2 ^ (q.toBitVec.toNat % 64) = w at h1 h3 h4
  have h5 : (2 : Nat) ^ 63 = 9223372036854775808 := by decide
  omega
theorem d1_0 : decode prog_111_method_3_code 0 = .ok (.iconst 0, 1) := by decide +kernel
theorem d1_1 : decode prog_111_method_3_code 1 = .ok (.istore 4, 2) := by decide +kernel
theorem d1_3 : decode prog_111_method_3_code 3 = .ok (.iload 4, 2) := by decide +kernel
theorem d1_5 : decode prog_111_method_3_code 5 = .ok (.bipush 8, 2) := by decide +kernel
theorem d1_7 : decode prog_111_method_3_code 7 = .ok (.if_icmp .ge 36, 3) := by decide +kernel
theorem d1_10 : decode prog_111_method_3_code 10 = .ok (.iconst 4, 1) := by decide +kernel
theorem d1_11 : decode prog_111_method_3_code 11 = .ok (.bipush 7, 2) := by decide +kernel
theorem d1_13 : decode prog_111_method_3_code 13 = .ok (.iload 4, 2) := by decide +kernel
theorem d1_15 : decode prog_111_method_3_code 15 = .ok (.isub, 1) := by decide +kernel
theorem d1_16 : decode prog_111_method_3_code 16 = .ok (.imul, 1) := by decide +kernel
theorem d1_17 : decode prog_111_method_3_code 17 = .ok (.istore 5, 2) := by decide +kernel
theorem d1_19 : decode prog_111_method_3_code 19 = .ok (.aload_n 2, 1) := by decide +kernel
theorem d1_20 : decode prog_111_method_3_code 20 = .ok (.iload_n 3, 1) := by decide +kernel
theorem d1_21 : decode prog_111_method_3_code 21 = .ok (.iload 4, 2) := by decide +kernel
theorem d1_23 : decode prog_111_method_3_code 23 = .ok (.iadd, 1) := by decide +kernel
theorem d1_24 : decode prog_111_method_3_code 24 = .ok (.getstatic 20, 3) := by decide +kernel
theorem d1_27 : decode prog_111_method_3_code 27 = .ok (.lload_n 0, 1) := by decide +kernel
theorem d1_28 : decode prog_111_method_3_code 28 = .ok (.iload 5, 2) := by decide +kernel
theorem d1_30 : decode prog_111_method_3_code 30 = .ok (.lushr, 1) := by decide +kernel
theorem d1_31 : decode prog_111_method_3_code 31 = .ok (.l2i, 1) := by decide +kernel
theorem d1_32 : decode prog_111_method_3_code 32 = .ok (.bipush 15, 2) := by decide +kernel
theorem d1_34 : decode prog_111_method_3_code 34 = .ok (.iand, 1) := by decide +kernel
theorem d1_35 : decode prog_111_method_3_code 35 = .ok (.caload, 1) := by decide +kernel
theorem d1_36 : decode prog_111_method_3_code 36 = .ok (.castore, 1) := by decide +kernel
theorem d1_37 : decode prog_111_method_3_code 37 = .ok (.iinc 4 1, 3) := by decide +kernel
theorem d1_40 : decode prog_111_method_3_code 40 = .ok (.goto (-37), 3) := by decide +kernel
theorem d1_43 : decode prog_111_method_3_code 43 = .ok (.return_, 1) := by decide +kernel
theorem pn_1 : plainName "com/example/enqueue_to_disk/enqueuetodisk/format/internal/Unsigned32" = true := by first | (simp [plainName, overriddenIn]; done) | decide +kernel
theorem ef_1_0 (m : MethodId) (p1 : Int64) (a2 : Addr) : entryFrame m #[(.long p1), (.ref a2), (.int (0 : Int32))] 6 = mkF m 0 #[.val (.long p1), .second, .val (.ref a2), .val (.int (0 : Int32)), .unset, .unset] [] := by first | (simp [entryFrame, mkF, argsToLocals, Value.category]; done) | rfl
set_option maxRecDepth 65536 in
set_option maxHeartbeats 40000000 in
theorem rm1_0 (l : Launch) (Z : State) (a0 : Array Value) (hw : ∀ d ∈ tables_1, d.before a0 Z = true) (ws : List Jvm.Cond) (p1 : Int64) (a2 : Addr) (dg : Addr) (cd : Cell) (kk : ClassId) (h0 : Heap) (n0 : Nat) (Z0 : n0 ≤ h0.size) (S_dg : Sta Z h0 "com/example/enqueue_to_disk/enqueuetodisk/format/internal/Unsigned32" "DIGITS" "[C" (.ref dg)) (T_dg : Tab Z h0 dg cd .char 16) (V_a2 : Arv Z h0 a2 kk .char 10 [(.int (35 : Int32)), (.int (35 : Int32)), (.int (35 : Int32)), (.int (35 : Int32)), (.int (35 : Int32)), (.int (35 : Int32)), (.int (35 : Int32)), (.int (35 : Int32)), (.int (35 : Int32)), (.int (35 : Int32))] (.int (0 : Int32))) (g_a2 : n0 ≤ a2) (ne_dg : dg ≠ a2) :
    MetFree l (⟨"com/example/enqueue_to_disk/enqueuetodisk/format/internal/Unsigned32", "writeHex", "(J[CI)V"⟩ : MethodName) (head1 (Jvm.Cond.code (⟨"com/example/enqueue_to_disk/enqueuetodisk/format/internal/Unsigned32", "writeHex", "(J[CI)V"⟩ : MethodName) prog_111_method_3_code 6 none :: ws) ({ frames := 0, cells := 0, slots := 0, locals := 0 } : Room)) (fun a U => a = #[(.long p1), (.ref a2), (.int (0 : Int32))] ∧ Z.Warmed39 U.vm ∧ U.heap = h0) (fun _ _ _ _ _ => True) (fun _ U o U' => ∃ v L, o = .returned v ∧ own_QW Z a2 kk [own_dg cd p1 28, own_dg cd p1 24, own_dg cd p1 20, own_dg cd p1 16, own_dg cd p1 12, own_dg cd p1 8, own_dg cd p1 4, own_dg cd p1 0, 35, 35] h0 n0 v U'.heap L ∧ FrameEnd U o U' L ({ frames := 0, cells := 0, slots := 0, locals := 0 } : Room).cells ({ frames := 0, cells := 0, slots := 0, locals := 0 } : Room).slots) := by
  refine MetFree.of_bodySF (plainFor_of_name pn_1) hisR ?_
  intro p e s m args below meth c s₁ Bd hml0 hP hK
  obtain ⟨rfl, hZ, hh⟩ := hP
  have hx := Bd.exec
  have hby := Bd.bytes
  have hml : c.maxLocals = 6 := hml0
  have hown : s.vm.findClass "com/example/enqueue_to_disk/enqueuetodisk/format/internal/Unsigned32" = some m.cls := findClass_of_methodNamed Bd.named
  have hnm := (name_of_methodNamed Bd.named Bd.method).1
  have X0 : Stand p l e ({ frames := 0, cells := 0, slots := 0, locals := 0 } : Room) s m #[(.long p1), (.ref a2), (.int (0 : Int32))] below meth c s₁ [] 0 0 := Stand.of_body Bd
  have e0 : s₁.heap = h0 := by rw [← hh, Bd.state]; rfl
  have N0 := Fr.nil n0
  obtain ⟨S0, hS0⟩ : ∃ z, z = s₁.setTop (entryFrame m #[(.long p1), (.ref a2), (.int (0 : Int32))] 6) := ⟨_, rfl⟩
  have P0 : own_Pr p.tables e below S0 s₁ (mkF m 0 #[.val (.long p1), .second, .val (.ref a2), .val (.int (0 : Int32)), .unset, .unset] []) := fun t k => hS0 ▸ castTop (ef_1_0 m p1 a2) k
  have K0 := Keep.refl h0 [a2]
  have P21 : own_Pr p.tables e below S0 s₁ (mkF m 24 #[.val (.long p1), .second, .val (.ref a2), .val (.int (0 : Int32)), .val (.int (0 : Int32)), .val (.int (28 : Int32))] [(.int (0 : Int32)), (.ref a2)]) := fun t k => P0 t (by
    refine XS.iconst X0.here hx rfl (hb hby d1_0) ?_
    refine XS.istore X0.here hx rfl (hb hby d1_1) rfl (l' := #[.val (.long p1), .second, .val (.ref a2), .val (.int (0 : Int32)), .val (.int (0 : Int32)), .unset]) rfl ?_
    refine XS.iload X0.here hx rfl (hb hby d1_3) rfl ?_
    refine XS.bipush X0.here hx rfl (hb hby d1_5) ?_
    refine XS.icmpNo X0.here hx rfl (hb hby d1_7) rfl (by decide) ?_
    refine XS.iconst X0.here hx rfl (hb hby d1_10) ?_
    refine XS.bipush X0.here hx rfl (hb hby d1_11) ?_
    refine XS.iload X0.here hx rfl (hb hby d1_13) rfl ?_
    show Steps p.tables e below (s₁.setTop (mkF m 15 #[.val (.long p1), .second, .val (.ref a2), .val (.int (0 : Int32)), .val (.int (0 : Int32)), .unset] [(.int (0 : Int32)), (.int (7 : Int32)), (.int (4 : Int32))])) _
    refine XS.isub X0.here hx rfl (hb hby d1_15) rfl ?_
    refine XS.imul X0.here hx rfl (hb hby d1_16) rfl ?_
    refine XS.istore X0.here hx rfl (hb hby d1_17) rfl (l' := #[.val (.long p1), .second, .val (.ref a2), .val (.int (0 : Int32)), .val (.int (0 : Int32)), .val (.int (28 : Int32))]) rfl ?_
    refine XS.aloadN X0.here hx rfl (hb hby d1_19) rfl rfl ?_
    refine XS.iloadN X0.here hx rfl (hb hby d1_20) rfl ?_
    refine XS.iload X0.here hx rfl (hb hby d1_21) rfl ?_
    refine XS.iadd X0.here hx rfl (hb hby d1_23) rfl ?_
    exact k)
  obtain ⟨T22, X22, e22, st22⟩ := getS2 X0 hx hZ hown (host := "") (Or.inl (hw _ (List.mem_of_getElem? (i := 7) rfl))) Via.refl e0 S_dg (g := (mkF m 24 #[.val (.long p1), .second, .val (.ref a2), .val (.int (0 : Int32)), .val (.int (0 : Int32)), .val (.int (28 : Int32))] [(.int (0 : Int32)), (.ref a2)])) rfl (hb hby d1_24)
  have P23 : own_Pr p.tables e below S0 T22 (mkF m 27 #[.val (.long p1), .second, .val (.ref a2), .val (.int (0 : Int32)), .val (.int (0 : Int32)), .val (.int (28 : Int32))] [(.ref dg), (.int (0 : Int32)), (.ref a2)]) := fun t k => P21 t (st22 _ k)
  have hin35_24 : ¬ (((((p1.toUInt64 >>> ((28 : Int32) &&& 0x3f).toInt64.toUInt64).toInt64).toInt32) &&& (15 : Int32)) < 0 ∨ cd.slots.size ≤ (((((p1.toUInt64 >>> ((28 : Int32) &&& 0x3f).toInt64.toUInt64).toInt64).toInt32) &&& (15 : Int32))).toNatClampNeg) := inb_of T_dg.2.1 (own_n16 _)
  have P25 : own_Pr p.tables e below S0 T22 (mkF m 36 #[.val (.long p1), .second, .val (.ref a2), .val (.int (0 : Int32)), .val (.int (0 : Int32)), .val (.int (28 : Int32))] [(.int (atv cd ((((p1.toUInt64 >>> ((28 : Int32) &&& 0x3f).toInt64.toUInt64).toInt64).toInt32) &&& (15 : Int32)))), (.int (0 : Int32)), (.ref a2)]) := fun t k => P23 t (by
    refine XS.lloadN X22.here hx rfl (hb hby d1_27) rfl ?_
    refine XS.iload X22.here hx rfl (hb hby d1_28) rfl ?_
    refine XS.lushr X22.here hx rfl (hb hby d1_30) rfl ?_
    refine XS.l2i X22.here hx rfl (hb hby d1_31) rfl ?_
    refine XS.bipush X22.here hx rfl (hb hby d1_32) ?_
    refine XS.iand X22.here hx rfl (hb hby d1_34) rfl ?_
    refine X22.caload hx (j := ((((p1.toUInt64 >>> ((28 : Int32) &&& 0x3f).toInt64.toUInt64).toInt64).toInt32) &&& (15 : Int32))) (v := .int (atv cd ((((p1.toUInt64 >>> ((28 : Int32) &&& 0x3f).toInt64.toUInt64).toInt64).toInt32) &&& (15 : Int32)))) (by rw [e22]; exact T_dg.1.1) (State.isArrayOf_alike hZ.alike T_dg.1.2.1) T_dg.1.2.2 hin35_24 (T_dg.2.2.2 _ hin35_24) (g := (mkF m 35 #[.val (.long p1), .second, .val (.ref a2), .val (.int (0 : Int32)), .val (.int (0 : Int32)), .val (.int (28 : Int32))] [(.int ((((p1.toUInt64 >>> ((28 : Int32) &&& 0x3f).toInt64.toUInt64).toInt64).toInt32) &&& (15 : Int32))), (.ref dg), (.int (0 : Int32)), (.ref a2)])) rfl rfl (hb hby d1_35) _ ?_
    exact k)
  obtain ⟨cl26, Ar26, q26, S26, N26, H26, G26⟩ := id V_a2
  have hin26 : ¬ ((0 : Int32) < 0 ∨ cl26.slots.size ≤ ((0 : Int32)).toNatClampNeg) := inb_of S26 ⟨by decide, by decide⟩
  obtain ⟨T26, h26, X26, e26, W26, st26⟩ := stC X22 hx hZ e22 Ar26 (j := (0 : Int32)) hin26 (g := (mkF m 36 #[.val (.long p1), .second, .val (.ref a2), .val (.int (0 : Int32)), .val (.int (0 : Int32)), .val (.int (28 : Int32))] [(.int (atv cd ((((p1.toUInt64 >>> ((28 : Int32) &&& 0x3f).toInt64.toUInt64).toInt64).toInt32) &&& (15 : Int32)))), (.int (0 : Int32)), (.ref a2)])) rfl rfl (hb hby d1_36)
  have V26 : Arv Z h26 a2 kk .char (10 : Int32) [(.int (nar .char (atv cd ((((p1.toUInt64 >>> ((28 : Int32) &&& 0x3f).toInt64.toUInt64).toInt64).toInt32) &&& (15 : Int32))))), (.int (35 : Int32)), (.int (35 : Int32)), (.int (35 : Int32)), (.int (35 : Int32)), (.int (35 : Int32)), (.int (35 : Int32)), (.int (35 : Int32)), (.int (35 : Int32)), (.int (35 : Int32))] (.int (0 : Int32)) := Arv.set Ar26 q26 S26 N26 H26 G26 (fits_nar_char _) W26 0 rfl (Nat.le_of_ble_eq_true rfl)
  have F27 := S_dg.wr W26
  have F28 := own_tab_other T_dg W26 ne_dg
  have Z29 : n0 ≤ h26.size := by rw [W26.size]; exact Z0
  have NF26 := Fr.snoc X26 N0 g_a2
  have K30 := K0.wr W26 (Or.inl (List.mem_of_getElem? (i := 0) rfl))
  have P31 : own_Pr p.tables e below S0 T26 (mkF m 37 #[.val (.long p1), .second, .val (.ref a2), .val (.int (0 : Int32)), .val (.int (0 : Int32)), .val (.int (28 : Int32))] []) := fun t k => P25 t (st26 _ k)
  have P32 : own_Pr p.tables e below S0 T26 (mkF m 24 #[.val (.long p1), .second, .val (.ref a2), .val (.int (0 : Int32)), .val (.int (1 : Int32)), .val (.int (24 : Int32))] [(.int (1 : Int32)), (.ref a2)]) := fun t k => P31 t (by
    refine XS.iinc X26.here hx rfl (hb hby d1_37) rfl (l' := #[.val (.long p1), .second, .val (.ref a2), .val (.int (0 : Int32)), .val (.int (1 : Int32)), .val (.int (28 : Int32))]) rfl ?_
    refine XS.goto X26.here hx rfl (pc0 := 40) (pc' := 3) rfl (hb hby d1_40) (by decide) (by decide) ?_
    refine XS.iload X26.here hx rfl (hb hby d1_3) rfl ?_
    refine XS.bipush X26.here hx rfl (hb hby d1_5) ?_
    refine XS.icmpNo X26.here hx rfl (hb hby d1_7) rfl (by decide) ?_
    refine XS.iconst X26.here hx rfl (hb hby d1_10) ?_
    refine XS.bipush X26.here hx rfl (hb hby d1_11) ?_
    refine XS.iload X26.here hx rfl (hb hby d1_13) rfl ?_
    show Steps p.tables e below (T26.setTop (mkF m 15 #[.val (.long p1), .second, .val (.ref a2), .val (.int (0 : Int32)), .val (.int (1 : Int32)), .val (.int (28 : Int32))] [(.int (1 : Int32)), (.int (7 : Int32)), (.int (4 : Int32))])) _
    refine XS.isub X26.here hx rfl (hb hby d1_15) rfl ?_
    refine XS.imul X26.here hx rfl (hb hby d1_16) rfl ?_
    refine XS.istore X26.here hx rfl (hb hby d1_17) rfl (l' := #[.val (.long p1), .second, .val (.ref a2), .val (.int (0 : Int32)), .val (.int (1 : Int32)), .val (.int (24 : Int32))]) rfl ?_
    refine XS.aloadN X26.here hx rfl (hb hby d1_19) rfl rfl ?_
    refine XS.iloadN X26.here hx rfl (hb hby d1_20) rfl ?_
    refine XS.iload X26.here hx rfl (hb hby d1_21) rfl ?_
    refine XS.iadd X26.here hx rfl (hb hby d1_23) rfl ?_
    exact k)
  obtain ⟨T33, X33, e33, st33⟩ := getS2 X26 hx hZ hown (host := "") (Or.inl (hw _ (List.mem_of_getElem? (i := 7) rfl))) Via.refl e26 F27 (g := (mkF m 24 #[.val (.long p1), .second, .val (.ref a2), .val (.int (0 : Int32)), .val (.int (1 : Int32)), .val (.int (24 : Int32))] [(.int (1 : Int32)), (.ref a2)])) rfl (hb hby d1_24)
  have P34 : own_Pr p.tables e below S0 T33 (mkF m 27 #[.val (.long p1), .second, .val (.ref a2), .val (.int (0 : Int32)), .val (.int (1 : Int32)), .val (.int (24 : Int32))] [(.ref dg), (.int (1 : Int32)), (.ref a2)]) := fun t k => P32 t (st33 _ k)
  have hin35_35 : ¬ (((((p1.toUInt64 >>> ((24 : Int32) &&& 0x3f).toInt64.toUInt64).toInt64).toInt32) &&& (15 : Int32)) < 0 ∨ cd.slots.size ≤ (((((p1.toUInt64 >>> ((24 : Int32) &&& 0x3f).toInt64.toUInt64).toInt64).toInt32) &&& (15 : Int32))).toNatClampNeg) := inb_of F28.2.1 (own_n16 _)
  have P36 : own_Pr p.tables e below S0 T33 (mkF m 36 #[.val (.long p1), .second, .val (.ref a2), .val (.int (0 : Int32)), .val (.int (1 : Int32)), .val (.int (24 : Int32))] [(.int (atv cd ((((p1.toUInt64 >>> ((24 : Int32) &&& 0x3f).toInt64.toUInt64).toInt64).toInt32) &&& (15 : Int32)))), (.int (1 : Int32)), (.ref a2)]) := fun t k => P34 t (by
    refine XS.lloadN X33.here hx rfl (hb hby d1_27) rfl ?_
    refine XS.iload X33.here hx rfl (hb hby d1_28) rfl ?_
    refine XS.lushr X33.here hx rfl (hb hby d1_30) rfl ?_
    refine XS.l2i X33.here hx rfl (hb hby d1_31) rfl ?_
    refine XS.bipush X33.here hx rfl (hb hby d1_32) ?_
    refine XS.iand X33.here hx rfl (hb hby d1_34) rfl ?_
    refine X33.caload hx (j := ((((p1.toUInt64 >>> ((24 : Int32) &&& 0x3f).toInt64.toUInt64).toInt64).toInt32) &&& (15 : Int32))) (v := .int (atv cd ((((p1.toUInt64 >>> ((24 : Int32) &&& 0x3f).toInt64.toUInt64).toInt64).toInt32) &&& (15 : Int32)))) (by rw [e33]; exact F28.1.1) (State.isArrayOf_alike hZ.alike F28.1.2.1) F28.1.2.2 hin35_35 (F28.2.2.2 _ hin35_35) (g := (mkF m 35 #[.val (.long p1), .second, .val (.ref a2), .val (.int (0 : Int32)), .val (.int (1 : Int32)), .val (.int (24 : Int32))] [(.int ((((p1.toUInt64 >>> ((24 : Int32) &&& 0x3f).toInt64.toUInt64).toInt64).toInt32) &&& (15 : Int32))), (.ref dg), (.int (1 : Int32)), (.ref a2)])) rfl rfl (hb hby d1_35) _ ?_
    exact k)
  obtain ⟨cl37, Ar37, q37, S37, N37, H37, G37⟩ := id V26
  have hin37 : ¬ ((1 : Int32) < 0 ∨ cl37.slots.size ≤ ((1 : Int32)).toNatClampNeg) := inb_of S37 ⟨by decide, by decide⟩
  obtain ⟨T37, h37, X37, e37, W37, st37⟩ := stC X33 hx hZ e33 Ar37 (j := (1 : Int32)) hin37 (g := (mkF m 36 #[.val (.long p1), .second, .val (.ref a2), .val (.int (0 : Int32)), .val (.int (1 : Int32)), .val (.int (24 : Int32))] [(.int (atv cd ((((p1.toUInt64 >>> ((24 : Int32) &&& 0x3f).toInt64.toUInt64).toInt64).toInt32) &&& (15 : Int32)))), (.int (1 : Int32)), (.ref a2)])) rfl rfl (hb hby d1_36)
  have V37 : Arv Z h37 a2 kk .char (10 : Int32) [(.int (nar .char (atv cd ((((p1.toUInt64 >>> ((28 : Int32) &&& 0x3f).toInt64.toUInt64).toInt64).toInt32) &&& (15 : Int32))))), (.int (nar .char (atv cd ((((p1.toUInt64 >>> ((24 : Int32) &&& 0x3f).toInt64.toUInt64).toInt64).toInt32) &&& (15 : Int32))))), (.int (35 : Int32)), (.int (35 : Int32)), (.int (35 : Int32)), (.int (35 : Int32)), (.int (35 : Int32)), (.int (35 : Int32)), (.int (35 : Int32)), (.int (35 : Int32))] (.int (0 : Int32)) := Arv.set Ar37 q37 S37 N37 H37 G37 (fits_nar_char _) W37 1 rfl (Nat.le_of_ble_eq_true rfl)
  have F38 := F27.wr W37
  have F39 := own_tab_other F28 W37 ne_dg
  have Z40 : n0 ≤ h37.size := by rw [W37.size]; exact Z29
  have NF37 := Fr.snoc X37 NF26 g_a2
  have K41 := K30.wr W37 (Or.inl (List.mem_of_getElem? (i := 0) rfl))
  have P42 : own_Pr p.tables e below S0 T37 (mkF m 37 #[.val (.long p1), .second, .val (.ref a2), .val (.int (0 : Int32)), .val (.int (1 : Int32)), .val (.int (24 : Int32))] []) := fun t k => P36 t (st37 _ k)
  have P43 : own_Pr p.tables e below S0 T37 (mkF m 24 #[.val (.long p1), .second, .val (.ref a2), .val (.int (0 : Int32)), .val (.int (2 : Int32)), .val (.int (20 : Int32))] [(.int (2 : Int32)), (.ref a2)]) := fun t k => P42 t (by
    refine XS.iinc X37.here hx rfl (hb hby d1_37) rfl (l' := #[.val (.long p1), .second, .val (.ref a2), .val (.int (0 : Int32)), .val (.int (2 : Int32)), .val (.int (24 : Int32))]) rfl ?_
    refine XS.goto X37.here hx rfl (pc0 := 40) (pc' := 3) rfl (hb hby d1_40) (by decide) (by decide) ?_
    refine XS.iload X37.here hx rfl (hb hby d1_3) rfl ?_
    refine XS.bipush X37.here hx rfl (hb hby d1_5) ?_
    refine XS.icmpNo X37.here hx rfl (hb hby d1_7) rfl (by decide) ?_
    refine XS.iconst X37.here hx rfl (hb hby d1_10) ?_
    refine XS.bipush X37.here hx rfl (hb hby d1_11) ?_
    refine XS.iload X37.here hx rfl (hb hby d1_13) rfl ?_
    show Steps p.tables e below (T37.setTop (mkF m 15 #[.val (.long p1), .second, .val (.ref a2), .val (.int (0 : Int32)), .val (.int (2 : Int32)), .val (.int (24 : Int32))] [(.int (2 : Int32)), (.int (7 : Int32)), (.int (4 : Int32))])) _
    refine XS.isub X37.here hx rfl (hb hby d1_15) rfl ?_
    refine XS.imul X37.here hx rfl (hb hby d1_16) rfl ?_
    refine XS.istore X37.here hx rfl (hb hby d1_17) rfl (l' := #[.val (.long p1), .second, .val (.ref a2), .val (.int (0 : Int32)), .val (.int (2 : Int32)), .val (.int (20 : Int32))]) rfl ?_
    refine XS.aloadN X37.here hx rfl (hb hby d1_19) rfl rfl ?_
    refine XS.iloadN X37.here hx rfl (hb hby d1_20) rfl ?_
    refine XS.iload X37.here hx rfl (hb hby d1_21) rfl ?_
    refine XS.iadd X37.here hx rfl (hb hby d1_23) rfl ?_
    exact k)
  obtain ⟨T44, X44, e44, st44⟩ := getS2 X37 hx hZ hown (host := "") (Or.inl (hw _ (List.mem_of_getElem? (i := 7) rfl))) Via.refl e37 F38 (g := (mkF m 24 #[.val (.long p1), .second, .val (.ref a2), .val (.int (0 : Int32)), .val (.int (2 : Int32)), .val (.int (20 : Int32))] [(.int (2 : Int32)), (.ref a2)])) rfl (hb hby d1_24)
  have P45 : own_Pr p.tables e below S0 T44 (mkF m 27 #[.val (.long p1), .second, .val (.ref a2), .val (.int (0 : Int32)), .val (.int (2 : Int32)), .val (.int (20 : Int32))] [(.ref dg), (.int (2 : Int32)), (.ref a2)]) := fun t k => P43 t (st44 _ k)
  have hin35_46 : ¬ (((((p1.toUInt64 >>> ((20 : Int32) &&& 0x3f).toInt64.toUInt64).toInt64).toInt32) &&& (15 : Int32)) < 0 ∨ cd.slots.size ≤ (((((p1.toUInt64 >>> ((20 : Int32) &&& 0x3f).toInt64.toUInt64).toInt64).toInt32) &&& (15 : Int32))).toNatClampNeg) := inb_of F39.2.1 (own_n16 _)
  have P47 : own_Pr p.tables e below S0 T44 (mkF m 36 #[.val (.long p1), .second, .val (.ref a2), .val (.int (0 : Int32)), .val (.int (2 : Int32)), .val (.int (20 : Int32))] [(.int (atv cd ((((p1.toUInt64 >>> ((20 : Int32) &&& 0x3f).toInt64.toUInt64).toInt64).toInt32) &&& (15 : Int32)))), (.int (2 : Int32)), (.ref a2)]) := fun t k => P45 t (by
    refine XS.lloadN X44.here hx rfl (hb hby d1_27) rfl ?_
    refine XS.iload X44.here hx rfl (hb hby d1_28) rfl ?_
    refine XS.lushr X44.here hx rfl (hb hby d1_30) rfl ?_
    refine XS.l2i X44.here hx rfl (hb hby d1_31) rfl ?_
    refine XS.bipush X44.here hx rfl (hb hby d1_32) ?_
    refine XS.iand X44.here hx rfl (hb hby d1_34) rfl ?_
    refine X44.caload hx (j := ((((p1.toUInt64 >>> ((20 : Int32) &&& 0x3f).toInt64.toUInt64).toInt64).toInt32) &&& (15 : Int32))) (v := .int (atv cd ((((p1.toUInt64 >>> ((20 : Int32) &&& 0x3f).toInt64.toUInt64).toInt64).toInt32) &&& (15 : Int32)))) (by rw [e44]; exact F39.1.1) (State.isArrayOf_alike hZ.alike F39.1.2.1) F39.1.2.2 hin35_46 (F39.2.2.2 _ hin35_46) (g := (mkF m 35 #[.val (.long p1), .second, .val (.ref a2), .val (.int (0 : Int32)), .val (.int (2 : Int32)), .val (.int (20 : Int32))] [(.int ((((p1.toUInt64 >>> ((20 : Int32) &&& 0x3f).toInt64.toUInt64).toInt64).toInt32) &&& (15 : Int32))), (.ref dg), (.int (2 : Int32)), (.ref a2)])) rfl rfl (hb hby d1_35) _ ?_
    exact k)
  obtain ⟨cl48, Ar48, q48, S48, N48, H48, G48⟩ := id V37
  have hin48 : ¬ ((2 : Int32) < 0 ∨ cl48.slots.size ≤ ((2 : Int32)).toNatClampNeg) := inb_of S48 ⟨by decide, by decide⟩
  obtain ⟨T48, h48, X48, e48, W48, st48⟩ := stC X44 hx hZ e44 Ar48 (j := (2 : Int32)) hin48 (g := (mkF m 36 #[.val (.long p1), .second, .val (.ref a2), .val (.int (0 : Int32)), .val (.int (2 : Int32)), .val (.int (20 : Int32))] [(.int (atv cd ((((p1.toUInt64 >>> ((20 : Int32) &&& 0x3f).toInt64.toUInt64).toInt64).toInt32) &&& (15 : Int32)))), (.int (2 : Int32)), (.ref a2)])) rfl rfl (hb hby d1_36)
  have V48 : Arv Z h48 a2 kk .char (10 : Int32) [(.int (nar .char (atv cd ((((p1.toUInt64 >>> ((28 : Int32) &&& 0x3f).toInt64.toUInt64).toInt64).toInt32) &&& (15 : Int32))))), (.int (nar .char (atv cd ((((p1.toUInt64 >>> ((24 : Int32) &&& 0x3f).toInt64.toUInt64).toInt64).toInt32) &&& (15 : Int32))))), (.int (nar .char (atv cd ((((p1.toUInt64 >>> ((20 : Int32) &&& 0x3f).toInt64.toUInt64).toInt64).toInt32) &&& (15 : Int32))))), (.int (35 : Int32)), (.int (35 : Int32)), (.int (35 : Int32)), (.int (35 : Int32)), (.int (35 : Int32)), (.int (35 : Int32)), (.int (35 : Int32))] (.int (0 : Int32)) := Arv.set Ar48 q48 S48 N48 H48 G48 (fits_nar_char _) W48 2 rfl (Nat.le_of_ble_eq_true rfl)
  have F49 := F38.wr W48
  have F50 := own_tab_other F39 W48 ne_dg
  have Z51 : n0 ≤ h48.size := by rw [W48.size]; exact Z40
  have NF48 := Fr.snoc X48 NF37 g_a2
  have K52 := K41.wr W48 (Or.inl (List.mem_of_getElem? (i := 0) rfl))
  have P53 : own_Pr p.tables e below S0 T48 (mkF m 37 #[.val (.long p1), .second, .val (.ref a2), .val (.int (0 : Int32)), .val (.int (2 : Int32)), .val (.int (20 : Int32))] []) := fun t k => P47 t (st48 _ k)
  have P54 : own_Pr p.tables e below S0 T48 (mkF m 24 #[.val (.long p1), .second, .val (.ref a2), .val (.int (0 : Int32)), .val (.int (3 : Int32)), .val (.int (16 : Int32))] [(.int (3 : Int32)), (.ref a2)]) := fun t k => P53 t (by
    refine XS.iinc X48.here hx rfl (hb hby d1_37) rfl (l' := #[.val (.long p1), .second, .val (.ref a2), .val (.int (0 : Int32)), .val (.int (3 : Int32)), .val (.int (20 : Int32))]) rfl ?_
    refine XS.goto X48.here hx rfl (pc0 := 40) (pc' := 3) rfl (hb hby d1_40) (by decide) (by decide) ?_
    refine XS.iload X48.here hx rfl (hb hby d1_3) rfl ?_
    refine XS.bipush X48.here hx rfl (hb hby d1_5) ?_
    refine XS.icmpNo X48.here hx rfl (hb hby d1_7) rfl (by decide) ?_
    refine XS.iconst X48.here hx rfl (hb hby d1_10) ?_
    refine XS.bipush X48.here hx rfl (hb hby d1_11) ?_
    refine XS.iload X48.here hx rfl (hb hby d1_13) rfl ?_
    show Steps p.tables e below (T48.setTop (mkF m 15 #[.val (.long p1), .second, .val (.ref a2), .val (.int (0 : Int32)), .val (.int (3 : Int32)), .val (.int (20 : Int32))] [(.int (3 : Int32)), (.int (7 : Int32)), (.int (4 : Int32))])) _
    refine XS.isub X48.here hx rfl (hb hby d1_15) rfl ?_
    refine XS.imul X48.here hx rfl (hb hby d1_16) rfl ?_
    refine XS.istore X48.here hx rfl (hb hby d1_17) rfl (l' := #[.val (.long p1), .second, .val (.ref a2), .val (.int (0 : Int32)), .val (.int (3 : Int32)), .val (.int (16 : Int32))]) rfl ?_
    refine XS.aloadN X48.here hx rfl (hb hby d1_19) rfl rfl ?_
    refine XS.iloadN X48.here hx rfl (hb hby d1_20) rfl ?_
    refine XS.iload X48.here hx rfl (hb hby d1_21) rfl ?_
    refine XS.iadd X48.here hx rfl (hb hby d1_23) rfl ?_
    exact k)
  obtain ⟨T55, X55, e55, st55⟩ := getS2 X48 hx hZ hown (host := "") (Or.inl (hw _ (List.mem_of_getElem? (i := 7) rfl))) Via.refl e48 F49 (g := (mkF m 24 #[.val (.long p1), .second, .val (.ref a2), .val (.int (0 : Int32)), .val (.int (3 : Int32)), .val (.int (16 : Int32))] [(.int (3 : Int32)), (.ref a2)])) rfl (hb hby d1_24)
  have P56 : own_Pr p.tables e below S0 T55 (mkF m 27 #[.val (.long p1), .second, .val (.ref a2), .val (.int (0 : Int32)), .val (.int (3 : Int32)), .val (.int (16 : Int32))] [(.ref dg), (.int (3 : Int32)), (.ref a2)]) := fun t k => P54 t (st55 _ k)
  have hin35_57 : ¬ (((((p1.toUInt64 >>> ((16 : Int32) &&& 0x3f).toInt64.toUInt64).toInt64).toInt32) &&& (15 : Int32)) < 0 ∨ cd.slots.size ≤ (((((p1.toUInt64 >>> ((16 : Int32) &&& 0x3f).toInt64.toUInt64).toInt64).toInt32) &&& (15 : Int32))).toNatClampNeg) := inb_of F50.2.1 (own_n16 _)
  have P58 : own_Pr p.tables e below S0 T55 (mkF m 36 #[.val (.long p1), .second, .val (.ref a2), .val (.int (0 : Int32)), .val (.int (3 : Int32)), .val (.int (16 : Int32))] [(.int (atv cd ((((p1.toUInt64 >>> ((16 : Int32) &&& 0x3f).toInt64.toUInt64).toInt64).toInt32) &&& (15 : Int32)))), (.int (3 : Int32)), (.ref a2)]) := fun t k => P56 t (by
    refine XS.lloadN X55.here hx rfl (hb hby d1_27) rfl ?_
    refine XS.iload X55.here hx rfl (hb hby d1_28) rfl ?_
    refine XS.lushr X55.here hx rfl (hb hby d1_30) rfl ?_
    refine XS.l2i X55.here hx rfl (hb hby d1_31) rfl ?_
    refine XS.bipush X55.here hx rfl (hb hby d1_32) ?_
    refine XS.iand X55.here hx rfl (hb hby d1_34) rfl ?_
    refine X55.caload hx (j := ((((p1.toUInt64 >>> ((16 : Int32) &&& 0x3f).toInt64.toUInt64).toInt64).toInt32) &&& (15 : Int32))) (v := .int (atv cd ((((p1.toUInt64 >>> ((16 : Int32) &&& 0x3f).toInt64.toUInt64).toInt64).toInt32) &&& (15 : Int32)))) (by rw [e55]; exact F50.1.1) (State.isArrayOf_alike hZ.alike F50.1.2.1) F50.1.2.2 hin35_57 (F50.2.2.2 _ hin35_57) (g := (mkF m 35 #[.val (.long p1), .second, .val (.ref a2), .val (.int (0 : Int32)), .val (.int (3 : Int32)), .val (.int (16 : Int32))] [(.int ((((p1.toUInt64 >>> ((16 : Int32) &&& 0x3f).toInt64.toUInt64).toInt64).toInt32) &&& (15 : Int32))), (.ref dg), (.int (3 : Int32)), (.ref a2)])) rfl rfl (hb hby d1_35) _ ?_
    exact k)
  obtain ⟨cl59, Ar59, q59, S59, N59, H59, G59⟩ := id V48
  have hin59 : ¬ ((3 : Int32) < 0 ∨ cl59.slots.size ≤ ((3 : Int32)).toNatClampNeg) := inb_of S59 ⟨by decide, by decide⟩
  obtain ⟨T59, h59, X59, e59, W59, st59⟩ := stC X55 hx hZ e55 Ar59 (j := (3 : Int32)) hin59 (g := (mkF m 36 #[.val (.long p1), .second, .val (.ref a2), .val (.int (0 : Int32)), .val (.int (3 : Int32)), .val (.int (16 : Int32))] [(.int (atv cd ((((p1.toUInt64 >>> ((16 : Int32) &&& 0x3f).toInt64.toUInt64).toInt64).toInt32) &&& (15 : Int32)))), (.int (3 : Int32)), (.ref a2)])) rfl rfl (hb hby d1_36)
  have V59 : Arv Z h59 a2 kk .char (10 : Int32) [(.int (nar .char (atv cd ((((p1.toUInt64 >>> ((28 : Int32) &&& 0x3f).toInt64.toUInt64).toInt64).toInt32) &&& (15 : Int32))))), (.int (nar .char (atv cd ((((p1.toUInt64 >>> ((24 : Int32) &&& 0x3f).toInt64.toUInt64).toInt64).toInt32) &&& (15 : Int32))))), (.int (nar .char (atv cd ((((p1.toUInt64 >>> ((20 : Int32) &&& 0x3f).toInt64.toUInt64).toInt64).toInt32) &&& (15 : Int32))))), (.int (nar .char (atv cd ((((p1.toUInt64 >>> ((16 : Int32) &&& 0x3f).toInt64.toUInt64).toInt64).toInt32) &&& (15 : Int32))))), (.int (35 : Int32)), (.int (35 : Int32)), (.int (35 : Int32)), (.int (35 : Int32)), (.int (35 : Int32)), (.int (35 : Int32))] (.int (0 : Int32)) := Arv.set Ar59 q59 S59 N59 H59 G59 (fits_nar_char _) W59 3 rfl (Nat.le_of_ble_eq_true rfl)
  have F60 := F49.wr W59
  have F61 := own_tab_other F50 W59 ne_dg
  have Z62 : n0 ≤ h59.size := by rw [W59.size]; exact Z51
  have NF59 := Fr.snoc X59 NF48 g_a2
  have K63 := K52.wr W59 (Or.inl (List.mem_of_getElem? (i := 0) rfl))
  have P64 : own_Pr p.tables e below S0 T59 (mkF m 37 #[.val (.long p1), .second, .val (.ref a2), .val (.int (0 : Int32)), .val (.int (3 : Int32)), .val (.int (16 : Int32))] []) := fun t k => P58 t (st59 _ k)
  have P65 : own_Pr p.tables e below S0 T59 (mkF m 24 #[.val (.long p1), .second, .val (.ref a2), .val (.int (0 : Int32)), .val (.int (4 : Int32)), .val (.int (12 : Int32))] [(.int (4 : Int32)), (.ref a2)]) := fun t k => P64 t (by
    refine XS.iinc X59.here hx rfl (hb hby d1_37) rfl (l' := #[.val (.long p1), .second, .val (.ref a2), .val (.int (0 : Int32)), .val (.int (4 : Int32)), .val (.int (16 : Int32))]) rfl ?_
    refine XS.goto X59.here hx rfl (pc0 := 40) (pc' := 3) rfl (hb hby d1_40) (by decide) (by decide) ?_
    refine XS.iload X59.here hx rfl (hb hby d1_3) rfl ?_
    refine XS.bipush X59.here hx rfl (hb hby d1_5) ?_
    refine XS.icmpNo X59.here hx rfl (hb hby d1_7) rfl (by decide) ?_
    refine XS.iconst X59.here hx rfl (hb hby d1_10) ?_
    refine XS.bipush X59.here hx rfl (hb hby d1_11) ?_
    refine XS.iload X59.here hx rfl (hb hby d1_13) rfl ?_
    show Steps p.tables e below (T59.setTop (mkF m 15 #[.val (.long p1), .second, .val (.ref a2), .val (.int (0 : Int32)), .val (.int (4 : Int32)), .val (.int (16 : Int32))] [(.int (4 : Int32)), (.int (7 : Int32)), (.int (4 : Int32))])) _
    refine XS.isub X59.here hx rfl (hb hby d1_15) rfl ?_
    refine XS.imul X59.here hx rfl (hb hby d1_16) rfl ?_
    refine XS.istore X59.here hx rfl (hb hby d1_17) rfl (l' := #[.val (.long p1), .second, .val (.ref a2), .val (.int (0 : Int32)), .val (.int (4 : Int32)), .val (.int (12 : Int32))]) rfl ?_
    refine XS.aloadN X59.here hx rfl (hb hby d1_19) rfl rfl ?_
    refine XS.iloadN X59.here hx rfl (hb hby d1_20) rfl ?_
    refine XS.iload X59.here hx rfl (hb hby d1_21) rfl ?_
    refine XS.iadd X59.here hx rfl (hb hby d1_23) rfl ?_
    exact k)
  obtain ⟨T66, X66, e66, st66⟩ := getS2 X59 hx hZ hown (host := "") (Or.inl (hw _ (List.mem_of_getElem? (i := 7) rfl))) Via.refl e59 F60 (g := (mkF m 24 #[.val (.long p1), .second, .val (.ref a2), .val (.int (0 : Int32)), .val (.int (4 : Int32)), .val (.int (12 : Int32))] [(.int (4 : Int32)), (.ref a2)])) rfl (hb hby d1_24)
  have P67 : own_Pr p.tables e below S0 T66 (mkF m 27 #[.val (.long p1), .second, .val (.ref a2), .val (.int (0 : Int32)), .val (.int (4 : Int32)), .val (.int (12 : Int32))] [(.ref dg), (.int (4 : Int32)), (.ref a2)]) := fun t k => P65 t (st66 _ k)
  have hin35_68 : ¬ (((((p1.toUInt64 >>> ((12 : Int32) &&& 0x3f).toInt64.toUInt64).toInt64).toInt32) &&& (15 : Int32)) < 0 ∨ cd.slots.size ≤ (((((p1.toUInt64 >>> ((12 : Int32) &&& 0x3f).toInt64.toUInt64).toInt64).toInt32) &&& (15 : Int32))).toNatClampNeg) := inb_of F61.2.1 (own_n16 _)
  have P69 : own_Pr p.tables e below S0 T66 (mkF m 36 #[.val (.long p1), .second, .val (.ref a2), .val (.int (0 : Int32)), .val (.int (4 : Int32)), .val (.int (12 : Int32))] [(.int (atv cd ((((p1.toUInt64 >>> ((12 : Int32) &&& 0x3f).toInt64.toUInt64).toInt64).toInt32) &&& (15 : Int32)))), (.int (4 : Int32)), (.ref a2)]) := fun t k => P67 t (by
    refine XS.lloadN X66.here hx rfl (hb hby d1_27) rfl ?_
    refine XS.iload X66.here hx rfl (hb hby d1_28) rfl ?_
    refine XS.lushr X66.here hx rfl (hb hby d1_30) rfl ?_
    refine XS.l2i X66.here hx rfl (hb hby d1_31) rfl ?_
    refine XS.bipush X66.here hx rfl (hb hby d1_32) ?_
    refine XS.iand X66.here hx rfl (hb hby d1_34) rfl ?_
    refine X66.caload hx (j := ((((p1.toUInt64 >>> ((12 : Int32) &&& 0x3f).toInt64.toUInt64).toInt64).toInt32) &&& (15 : Int32))) (v := .int (atv cd ((((p1.toUInt64 >>> ((12 : Int32) &&& 0x3f).toInt64.toUInt64).toInt64).toInt32) &&& (15 : Int32)))) (by rw [e66]; exact F61.1.1) (State.isArrayOf_alike hZ.alike F61.1.2.1) F61.1.2.2 hin35_68 (F61.2.2.2 _ hin35_68) (g := (mkF m 35 #[.val (.long p1), .second, .val (.ref a2), .val (.int (0 : Int32)), .val (.int (4 : Int32)), .val (.int (12 : Int32))] [(.int ((((p1.toUInt64 >>> ((12 : Int32) &&& 0x3f).toInt64.toUInt64).toInt64).toInt32) &&& (15 : Int32))), (.ref dg), (.int (4 : Int32)), (.ref a2)])) rfl rfl (hb hby d1_35) _ ?_
    exact k)
  obtain ⟨cl70, Ar70, q70, S70, N70, H70, G70⟩ := id V59
  have hin70 : ¬ ((4 : Int32) < 0 ∨ cl70.slots.size ≤ ((4 : Int32)).toNatClampNeg) := inb_of S70 ⟨by decide, by decide⟩
  obtain ⟨T70, h70, X70, e70, W70, st70⟩ := stC X66 hx hZ e66 Ar70 (j := (4 : Int32)) hin70 (g := (mkF m 36 #[.val (.long p1), .second, .val (.ref a2), .val (.int (0 : Int32)), .val (.int (4 : Int32)), .val (.int (12 : Int32))] [(.int (atv cd ((((p1.toUInt64 >>> ((12 : Int32) &&& 0x3f).toInt64.toUInt64).toInt64).toInt32) &&& (15 : Int32)))), (.int (4 : Int32)), (.ref a2)])) rfl rfl (hb hby d1_36)
  have V70 : Arv Z h70 a2 kk .char (10 : Int32) [(.int (nar .char (atv cd ((((p1.toUInt64 >>> ((28 : Int32) &&& 0x3f).toInt64.toUInt64).toInt64).toInt32) &&& (15 : Int32))))), (.int (nar .char (atv cd ((((p1.toUInt64 >>> ((24 : Int32) &&& 0x3f).toInt64.toUInt64).toInt64).toInt32) &&& (15 : Int32))))), (.int (nar .char (atv cd ((((p1.toUInt64 >>> ((20 : Int32) &&& 0x3f).toInt64.toUInt64).toInt64).toInt32) &&& (15 : Int32))))), (.int (nar .char (atv cd ((((p1.toUInt64 >>> ((16 : Int32) &&& 0x3f).toInt64.toUInt64).toInt64).toInt32) &&& (15 : Int32))))), (.int (nar .char (atv cd ((((p1.toUInt64 >>> ((12 : Int32) &&& 0x3f).toInt64.toUInt64).toInt64).toInt32) &&& (15 : Int32))))), (.int (35 : Int32)), (.int (35 : Int32)), (.int (35 : Int32)), (.int (35 : Int32)), (.int (35 : Int32))] (.int (0 : Int32)) := Arv.set Ar70 q70 S70 N70 H70 G70 (fits_nar_char _) W70 4 rfl (Nat.le_of_ble_eq_true rfl)
  have F71 := F60.wr W70
  have F72 := own_tab_other F61 W70 ne_dg
  have Z73 : n0 ≤ h70.size := by rw [W70.size]; exact Z62
  have NF70 := Fr.snoc X70 NF59 g_a2
  have K74 := K63.wr W70 (Or.inl (List.mem_of_getElem? (i := 0) rfl))
  have P75 : own_Pr p.tables e below S0 T70 (mkF m 37 #[.val (.long p1), .second, .val (.ref a2), .val (.int (0 : Int32)), .val (.int (4 : Int32)), .val (.int (12 : Int32))] []) := fun t k => P69 t (st70 _ k)
  have P76 : own_Pr p.tables e below S0 T70 (mkF m 24 #[.val (.long p1), .second, .val (.ref a2), .val (.int (0 : Int32)), .val (.int (5 : Int32)), .val (.int (8 : Int32))] [(.int (5 : Int32)), (.ref a2)]) := fun t k => P75 t (by
    refine XS.iinc X70.here hx rfl (hb hby d1_37) rfl (l' := #[.val (.long p1), .second, .val (.ref a2), .val (.int (0 : Int32)), .val (.int (5 : Int32)), .val (.int (12 : Int32))]) rfl ?_
    refine XS.goto X70.here hx rfl (pc0 := 40) (pc' := 3) rfl (hb hby d1_40) (by decide) (by decide) ?_
    refine XS.iload X70.here hx rfl (hb hby d1_3) rfl ?_
    refine XS.bipush X70.here hx rfl (hb hby d1_5) ?_
    refine XS.icmpNo X70.here hx rfl (hb hby d1_7) rfl (by decide) ?_
    refine XS.iconst X70.here hx rfl (hb hby d1_10) ?_
    refine XS.bipush X70.here hx rfl (hb hby d1_11) ?_
    refine XS.iload X70.here hx rfl (hb hby d1_13) rfl ?_
    show Steps p.tables e below (T70.setTop (mkF m 15 #[.val (.long p1), .second, .val (.ref a2), .val (.int (0 : Int32)), .val (.int (5 : Int32)), .val (.int (12 : Int32))] [(.int (5 : Int32)), (.int (7 : Int32)), (.int (4 : Int32))])) _
    refine XS.isub X70.here hx rfl (hb hby d1_15) rfl ?_
    refine XS.imul X70.here hx rfl (hb hby d1_16) rfl ?_
    refine XS.istore X70.here hx rfl (hb hby d1_17) rfl (l' := #[.val (.long p1), .second, .val (.ref a2), .val (.int (0 : Int32)), .val (.int (5 : Int32)), .val (.int (8 : Int32))]) rfl ?_
    refine XS.aloadN X70.here hx rfl (hb hby d1_19) rfl rfl ?_
    refine XS.iloadN X70.here hx rfl (hb hby d1_20) rfl ?_
    refine XS.iload X70.here hx rfl (hb hby d1_21) rfl ?_
    refine XS.iadd X70.here hx rfl (hb hby d1_23) rfl ?_
    exact k)
  obtain ⟨T77, X77, e77, st77⟩ := getS2 X70 hx hZ hown (host := "") (Or.inl (hw _ (List.mem_of_getElem? (i := 7) rfl))) Via.refl e70 F71 (g := (mkF m 24 #[.val (.long p1), .second, .val (.ref a2), .val (.int (0 : Int32)), .val (.int (5 : Int32)), .val (.int (8 : Int32))] [(.int (5 : Int32)), (.ref a2)])) rfl (hb hby d1_24)
  have P78 : own_Pr p.tables e below S0 T77 (mkF m 27 #[.val (.long p1), .second, .val (.ref a2), .val (.int (0 : Int32)), .val (.int (5 : Int32)), .val (.int (8 : Int32))] [(.ref dg), (.int (5 : Int32)), (.ref a2)]) := fun t k => P76 t (st77 _ k)
  have hin35_79 : ¬ (((((p1.toUInt64 >>> ((8 : Int32) &&& 0x3f).toInt64.toUInt64).toInt64).toInt32) &&& (15 : Int32)) < 0 ∨ cd.slots.size ≤ (((((p1.toUInt64 >>> ((8 : Int32) &&& 0x3f).toInt64.toUInt64).toInt64).toInt32) &&& (15 : Int32))).toNatClampNeg) := inb_of F72.2.1 (own_n16 _)
  have P80 : own_Pr p.tables e below S0 T77 (mkF m 36 #[.val (.long p1), .second, .val (.ref a2), .val (.int (0 : Int32)), .val (.int (5 : Int32)), .val (.int (8 : Int32))] [(.int (atv cd ((((p1.toUInt64 >>> ((8 : Int32) &&& 0x3f).toInt64.toUInt64).toInt64).toInt32) &&& (15 : Int32)))), (.int (5 : Int32)), (.ref a2)]) := fun t k => P78 t (by
    refine XS.lloadN X77.here hx rfl (hb hby d1_27) rfl ?_
    refine XS.iload X77.here hx rfl (hb hby d1_28) rfl ?_
    refine XS.lushr X77.here hx rfl (hb hby d1_30) rfl ?_
    refine XS.l2i X77.here hx rfl (hb hby d1_31) rfl ?_
    refine XS.bipush X77.here hx rfl (hb hby d1_32) ?_
    refine XS.iand X77.here hx rfl (hb hby d1_34) rfl ?_
    refine X77.caload hx (j := ((((p1.toUInt64 >>> ((8 : Int32) &&& 0x3f).toInt64.toUInt64).toInt64).toInt32) &&& (15 : Int32))) (v := .int (atv cd ((((p1.toUInt64 >>> ((8 : Int32) &&& 0x3f).toInt64.toUInt64).toInt64).toInt32) &&& (15 : Int32)))) (by rw [e77]; exact F72.1.1) (State.isArrayOf_alike hZ.alike F72.1.2.1) F72.1.2.2 hin35_79 (F72.2.2.2 _ hin35_79) (g := (mkF m 35 #[.val (.long p1), .second, .val (.ref a2), .val (.int (0 : Int32)), .val (.int (5 : Int32)), .val (.int (8 : Int32))] [(.int ((((p1.toUInt64 >>> ((8 : Int32) &&& 0x3f).toInt64.toUInt64).toInt64).toInt32) &&& (15 : Int32))), (.ref dg), (.int (5 : Int32)), (.ref a2)])) rfl rfl (hb hby d1_35) _ ?_
    exact k)
  obtain ⟨cl81, Ar81, q81, S81, N81, H81, G81⟩ := id V70
  have hin81 : ¬ ((5 : Int32) < 0 ∨ cl81.slots.size ≤ ((5 : Int32)).toNatClampNeg) := inb_of S81 ⟨by decide, by decide⟩
  obtain ⟨T81, h81, X81, e81, W81, st81⟩ := stC X77 hx hZ e77 Ar81 (j := (5 : Int32)) hin81 (g := (mkF m 36 #[.val (.long p1), .second, .val (.ref a2), .val (.int (0 : Int32)), .val (.int (5 : Int32)), .val (.int (8 : Int32))] [(.int (atv cd ((((p1.toUInt64 >>> ((8 : Int32) &&& 0x3f).toInt64.toUInt64).toInt64).toInt32) &&& (15 : Int32)))), (.int (5 : Int32)), (.ref a2)])) rfl rfl (hb hby d1_36)
  have V81 : Arv Z h81 a2 kk .char (10 : Int32) [(.int (nar .char (atv cd ((((p1.toUInt64 >>> ((28 : Int32) &&& 0x3f).toInt64.toUInt64).toInt64).toInt32) &&& (15 : Int32))))), (.int (nar .char (atv cd ((((p1.toUInt64 >>> ((24 : Int32) &&& 0x3f).toInt64.toUInt64).toInt64).toInt32) &&& (15 : Int32))))), (.int (nar .char (atv cd ((((p1.toUInt64 >>> ((20 : Int32) &&& 0x3f).toInt64.toUInt64).toInt64).toInt32) &&& (15 : Int32))))), (.int (nar .char (atv cd ((((p1.toUInt64 >>> ((16 : Int32) &&& 0x3f).toInt64.toUInt64).toInt64).toInt32) &&& (15 : Int32))))), (.int (nar .char (atv cd ((((p1.toUInt64 >>> ((12 : Int32) &&& 0x3f).toInt64.toUInt64).toInt64).toInt32) &&& (15 : Int32))))), (.int (nar .char (atv cd ((((p1.toUInt64 >>> ((8 : Int32) &&& 0x3f).toInt64.toUInt64).toInt64).toInt32) &&& (15 : Int32))))), (.int (35 : Int32)), (.int (35 : Int32)), (.int (35 : Int32)), (.int (35 : Int32))] (.int (0 : Int32)) := Arv.set Ar81 q81 S81 N81 H81 G81 (fits_nar_char _) W81 5 rfl (Nat.le_of_ble_eq_true rfl)
  have F82 := F71.wr W81
  have F83 := own_tab_other F72 W81 ne_dg
  have Z84 : n0 ≤ h81.size := by rw [W81.size]; exact Z73
  have NF81 := Fr.snoc X81 NF70 g_a2
  have K85 := K74.wr W81 (Or.inl (List.mem_of_getElem? (i := 0) rfl))
  have P86 : own_Pr p.tables e below S0 T81 (mkF m 37 #[.val (.long p1), .second, .val (.ref a2), .val (.int (0 : Int32)), .val (.int (5 : Int32)), .val (.int (8 : Int32))] []) := fun t k => P80 t (st81 _ k)
  have P87 : own_Pr p.tables e below S0 T81 (mkF m 24 #[.val (.long p1), .second, .val (.ref a2), .val (.int (0 : Int32)), .val (.int (6 : Int32)), .val (.int (4 : Int32))] [(.int (6 : Int32)), (.ref a2)]) := fun t k => P86 t (by
    refine XS.iinc X81.here hx rfl (hb hby d1_37) rfl (l' := #[.val (.long p1), .second, .val (.ref a2), .val (.int (0 : Int32)), .val (.int (6 : Int32)), .val (.int (8 : Int32))]) rfl ?_
    refine XS.goto X81.here hx rfl (pc0 := 40) (pc' := 3) rfl (hb hby d1_40) (by decide) (by decide) ?_
    refine XS.iload X81.here hx rfl (hb hby d1_3) rfl ?_
    refine XS.bipush X81.here hx rfl (hb hby d1_5) ?_
    refine XS.icmpNo X81.here hx rfl (hb hby d1_7) rfl (by decide) ?_
    refine XS.iconst X81.here hx rfl (hb hby d1_10) ?_
    refine XS.bipush X81.here hx rfl (hb hby d1_11) ?_
    refine XS.iload X81.here hx rfl (hb hby d1_13) rfl ?_
    show Steps p.tables e below (T81.setTop (mkF m 15 #[.val (.long p1), .second, .val (.ref a2), .val (.int (0 : Int32)), .val (.int (6 : Int32)), .val (.int (8 : Int32))] [(.int (6 : Int32)), (.int (7 : Int32)), (.int (4 : Int32))])) _
    refine XS.isub X81.here hx rfl (hb hby d1_15) rfl ?_
    refine XS.imul X81.here hx rfl (hb hby d1_16) rfl ?_
    refine XS.istore X81.here hx rfl (hb hby d1_17) rfl (l' := #[.val (.long p1), .second, .val (.ref a2), .val (.int (0 : Int32)), .val (.int (6 : Int32)), .val (.int (4 : Int32))]) rfl ?_
    refine XS.aloadN X81.here hx rfl (hb hby d1_19) rfl rfl ?_
    refine XS.iloadN X81.here hx rfl (hb hby d1_20) rfl ?_
    refine XS.iload X81.here hx rfl (hb hby d1_21) rfl ?_
    refine XS.iadd X81.here hx rfl (hb hby d1_23) rfl ?_
    exact k)
  obtain ⟨T88, X88, e88, st88⟩ := getS2 X81 hx hZ hown (host := "") (Or.inl (hw _ (List.mem_of_getElem? (i := 7) rfl))) Via.refl e81 F82 (g := (mkF m 24 #[.val (.long p1), .second, .val (.ref a2), .val (.int (0 : Int32)), .val (.int (6 : Int32)), .val (.int (4 : Int32))] [(.int (6 : Int32)), (.ref a2)])) rfl (hb hby d1_24)
  have P89 : own_Pr p.tables e below S0 T88 (mkF m 27 #[.val (.long p1), .second, .val (.ref a2), .val (.int (0 : Int32)), .val (.int (6 : Int32)), .val (.int (4 : Int32))] [(.ref dg), (.int (6 : Int32)), (.ref a2)]) := fun t k => P87 t (st88 _ k)
  have hin35_90 : ¬ (((((p1.toUInt64 >>> ((4 : Int32) &&& 0x3f).toInt64.toUInt64).toInt64).toInt32) &&& (15 : Int32)) < 0 ∨ cd.slots.size ≤ (((((p1.toUInt64 >>> ((4 : Int32) &&& 0x3f).toInt64.toUInt64).toInt64).toInt32) &&& (15 : Int32))).toNatClampNeg) := inb_of F83.2.1 (own_n16 _)
  have P91 : own_Pr p.tables e below S0 T88 (mkF m 36 #[.val (.long p1), .second, .val (.ref a2), .val (.int (0 : Int32)), .val (.int (6 : Int32)), .val (.int (4 : Int32))] [(.int (atv cd ((((p1.toUInt64 >>> ((4 : Int32) &&& 0x3f).toInt64.toUInt64).toInt64).toInt32) &&& (15 : Int32)))), (.int (6 : Int32)), (.ref a2)]) := fun t k => P89 t (by
    refine XS.lloadN X88.here hx rfl (hb hby d1_27) rfl ?_
    refine XS.iload X88.here hx rfl (hb hby d1_28) rfl ?_
    refine XS.lushr X88.here hx rfl (hb hby d1_30) rfl ?_
    refine XS.l2i X88.here hx rfl (hb hby d1_31) rfl ?_
    refine XS.bipush X88.here hx rfl (hb hby d1_32) ?_
    refine XS.iand X88.here hx rfl (hb hby d1_34) rfl ?_
    refine X88.caload hx (j := ((((p1.toUInt64 >>> ((4 : Int32) &&& 0x3f).toInt64.toUInt64).toInt64).toInt32) &&& (15 : Int32))) (v := .int (atv cd ((((p1.toUInt64 >>> ((4 : Int32) &&& 0x3f).toInt64.toUInt64).toInt64).toInt32) &&& (15 : Int32)))) (by rw [e88]; exact F83.1.1) (State.isArrayOf_alike hZ.alike F83.1.2.1) F83.1.2.2 hin35_90 (F83.2.2.2 _ hin35_90) (g := (mkF m 35 #[.val (.long p1), .second, .val (.ref a2), .val (.int (0 : Int32)), .val (.int (6 : Int32)), .val (.int (4 : Int32))] [(.int ((((p1.toUInt64 >>> ((4 : Int32) &&& 0x3f).toInt64.toUInt64).toInt64).toInt32) &&& (15 : Int32))), (.ref dg), (.int (6 : Int32)), (.ref a2)])) rfl rfl (hb hby d1_35) _ ?_
    exact k)
  obtain ⟨cl92, Ar92, q92, S92, N92, H92, G92⟩ := id V81
  have hin92 : ¬ ((6 : Int32) < 0 ∨ cl92.slots.size ≤ ((6 : Int32)).toNatClampNeg) := inb_of S92 ⟨by decide, by decide⟩
  obtain ⟨T92, h92, X92, e92, W92, st92⟩ := stC X88 hx hZ e88 Ar92 (j := (6 : Int32)) hin92 (g := (mkF m 36 #[.val (.long p1), .second, .val (.ref a2), .val (.int (0 : Int32)), .val (.int (6 : Int32)), .val (.int (4 : Int32))] [(.int (atv cd ((((p1.toUInt64 >>> ((4 : Int32) &&& 0x3f).toInt64.toUInt64).toInt64).toInt32) &&& (15 : Int32)))), (.int (6 : Int32)), (.ref a2)])) rfl rfl (hb hby d1_36)
  have V92 : Arv Z h92 a2 kk .char (10 : Int32) [(.int (nar .char (atv cd ((((p1.toUInt64 >>> ((28 : Int32) &&& 0x3f).toInt64.toUInt64).toInt64).toInt32) &&& (15 : Int32))))), (.int (nar .char (atv cd ((((p1.toUInt64 >>> ((24 : Int32) &&& 0x3f).toInt64.toUInt64).toInt64).toInt32) &&& (15 : Int32))))), (.int (nar .char (atv cd ((((p1.toUInt64 >>> ((20 : Int32) &&& 0x3f).toInt64.toUInt64).toInt64).toInt32) &&& (15 : Int32))))), (.int (nar .char (atv cd ((((p1.toUInt64 >>> ((16 : Int32) &&& 0x3f).toInt64.toUInt64).toInt64).toInt32) &&& (15 : Int32))))), (.int (nar .char (atv cd ((((p1.toUInt64 >>> ((12 : Int32) &&& 0x3f).toInt64.toUInt64).toInt64).toInt32) &&& (15 : Int32))))), (.int (nar .char (atv cd ((((p1.toUInt64 >>> ((8 : Int32) &&& 0x3f).toInt64.toUInt64).toInt64).toInt32) &&& (15 : Int32))))), (.int (nar .char (atv cd ((((p1.toUInt64 >>> ((4 : Int32) &&& 0x3f).toInt64.toUInt64).toInt64).toInt32) &&& (15 : Int32))))), (.int (35 : Int32)), (.int (35 : Int32)), (.int (35 : Int32))] (.int (0 : Int32)) := Arv.set Ar92 q92 S92 N92 H92 G92 (fits_nar_char _) W92 6 rfl (Nat.le_of_ble_eq_true rfl)
  have F93 := F82.wr W92
  have F94 := own_tab_other F83 W92 ne_dg
  have Z95 : n0 ≤ h92.size := by rw [W92.size]; exact Z84
  have NF92 := Fr.snoc X92 NF81 g_a2
  have K96 := K85.wr W92 (Or.inl (List.mem_of_getElem? (i := 0) rfl))
  have P97 : own_Pr p.tables e below S0 T92 (mkF m 37 #[.val (.long p1), .second, .val (.ref a2), .val (.int (0 : Int32)), .val (.int (6 : Int32)), .val (.int (4 : Int32))] []) := fun t k => P91 t (st92 _ k)
  have P98 : own_Pr p.tables e below S0 T92 (mkF m 24 #[.val (.long p1), .second, .val (.ref a2), .val (.int (0 : Int32)), .val (.int (7 : Int32)), .val (.int (0 : Int32))] [(.int (7 : Int32)), (.ref a2)]) := fun t k => P97 t (by
    refine XS.iinc X92.here hx rfl (hb hby d1_37) rfl (l' := #[.val (.long p1), .second, .val (.ref a2), .val (.int (0 : Int32)), .val (.int (7 : Int32)), .val (.int (4 : Int32))]) rfl ?_
    refine XS.goto X92.here hx rfl (pc0 := 40) (pc' := 3) rfl (hb hby d1_40) (by decide) (by decide) ?_
    refine XS.iload X92.here hx rfl (hb hby d1_3) rfl ?_
    refine XS.bipush X92.here hx rfl (hb hby d1_5) ?_
    refine XS.icmpNo X92.here hx rfl (hb hby d1_7) rfl (by decide) ?_
    refine XS.iconst X92.here hx rfl (hb hby d1_10) ?_
    refine XS.bipush X92.here hx rfl (hb hby d1_11) ?_
    refine XS.iload X92.here hx rfl (hb hby d1_13) rfl ?_
    show Steps p.tables e below (T92.setTop (mkF m 15 #[.val (.long p1), .second, .val (.ref a2), .val (.int (0 : Int32)), .val (.int (7 : Int32)), .val (.int (4 : Int32))] [(.int (7 : Int32)), (.int (7 : Int32)), (.int (4 : Int32))])) _
    refine XS.isub X92.here hx rfl (hb hby d1_15) rfl ?_
    refine XS.imul X92.here hx rfl (hb hby d1_16) rfl ?_
    refine XS.istore X92.here hx rfl (hb hby d1_17) rfl (l' := #[.val (.long p1), .second, .val (.ref a2), .val (.int (0 : Int32)), .val (.int (7 : Int32)), .val (.int (0 : Int32))]) rfl ?_
    refine XS.aloadN X92.here hx rfl (hb hby d1_19) rfl rfl ?_
    refine XS.iloadN X92.here hx rfl (hb hby d1_20) rfl ?_
    refine XS.iload X92.here hx rfl (hb hby d1_21) rfl ?_
    refine XS.iadd X92.here hx rfl (hb hby d1_23) rfl ?_
    exact k)
  obtain ⟨T99, X99, e99, st99⟩ := getS2 X92 hx hZ hown (host := "") (Or.inl (hw _ (List.mem_of_getElem? (i := 7) rfl))) Via.refl e92 F93 (g := (mkF m 24 #[.val (.long p1), .second, .val (.ref a2), .val (.int (0 : Int32)), .val (.int (7 : Int32)), .val (.int (0 : Int32))] [(.int (7 : Int32)), (.ref a2)])) rfl (hb hby d1_24)
  have P100 : own_Pr p.tables e below S0 T99 (mkF m 27 #[.val (.long p1), .second, .val (.ref a2), .val (.int (0 : Int32)), .val (.int (7 : Int32)), .val (.int (0 : Int32))] [(.ref dg), (.int (7 : Int32)), (.ref a2)]) := fun t k => P98 t (st99 _ k)
  have hin35_101 : ¬ (((((p1.toUInt64 >>> ((0 : Int32) &&& 0x3f).toInt64.toUInt64).toInt64).toInt32) &&& (15 : Int32)) < 0 ∨ cd.slots.size ≤ (((((p1.toUInt64 >>> ((0 : Int32) &&& 0x3f).toInt64.toUInt64).toInt64).toInt32) &&& (15 : Int32))).toNatClampNeg) := inb_of F94.2.1 (own_n16 _)
  have P102 : own_Pr p.tables e below S0 T99 (mkF m 36 #[.val (.long p1), .second, .val (.ref a2), .val (.int (0 : Int32)), .val (.int (7 : Int32)), .val (.int (0 : Int32))] [(.int (atv cd ((((p1.toUInt64 >>> ((0 : Int32) &&& 0x3f).toInt64.toUInt64).toInt64).toInt32) &&& (15 : Int32)))), (.int (7 : Int32)), (.ref a2)]) := fun t k => P100 t (by
    refine XS.lloadN X99.here hx rfl (hb hby d1_27) rfl ?_
    refine XS.iload X99.here hx rfl (hb hby d1_28) rfl ?_
    refine XS.lushr X99.here hx rfl (hb hby d1_30) rfl ?_
    refine XS.l2i X99.here hx rfl (hb hby d1_31) rfl ?_
    refine XS.bipush X99.here hx rfl (hb hby d1_32) ?_
    refine XS.iand X99.here hx rfl (hb hby d1_34) rfl ?_
    refine X99.caload hx (j := ((((p1.toUInt64 >>> ((0 : Int32) &&& 0x3f).toInt64.toUInt64).toInt64).toInt32) &&& (15 : Int32))) (v := .int (atv cd ((((p1.toUInt64 >>> ((0 : Int32) &&& 0x3f).toInt64.toUInt64).toInt64).toInt32) &&& (15 : Int32)))) (by rw [e99]; exact F94.1.1) (State.isArrayOf_alike hZ.alike F94.1.2.1) F94.1.2.2 hin35_101 (F94.2.2.2 _ hin35_101) (g := (mkF m 35 #[.val (.long p1), .second, .val (.ref a2), .val (.int (0 : Int32)), .val (.int (7 : Int32)), .val (.int (0 : Int32))] [(.int ((((p1.toUInt64 >>> ((0 : Int32) &&& 0x3f).toInt64.toUInt64).toInt64).toInt32) &&& (15 : Int32))), (.ref dg), (.int (7 : Int32)), (.ref a2)])) rfl rfl (hb hby d1_35) _ ?_
    exact k)
  obtain ⟨cl103, Ar103, q103, S103, N103, H103, G103⟩ := id V92
  have hin103 : ¬ ((7 : Int32) < 0 ∨ cl103.slots.size ≤ ((7 : Int32)).toNatClampNeg) := inb_of S103 ⟨by decide, by decide⟩
  obtain ⟨T103, h103, X103, e103, W103, st103⟩ := stC X99 hx hZ e99 Ar103 (j := (7 : Int32)) hin103 (g := (mkF m 36 #[.val (.long p1), .second, .val (.ref a2), .val (.int (0 : Int32)), .val (.int (7 : Int32)), .val (.int (0 : Int32))] [(.int (atv cd ((((p1.toUInt64 >>> ((0 : Int32) &&& 0x3f).toInt64.toUInt64).toInt64).toInt32) &&& (15 : Int32)))), (.int (7 : Int32)), (.ref a2)])) rfl rfl (hb hby d1_36)
  have V103 : Arv Z h103 a2 kk .char (10 : Int32) [(.int (nar .char (atv cd ((((p1.toUInt64 >>> ((28 : Int32) &&& 0x3f).toInt64.toUInt64).toInt64).toInt32) &&& (15 : Int32))))), (.int (nar .char (atv cd ((((p1.toUInt64 >>> ((24 : Int32) &&& 0x3f).toInt64.toUInt64).toInt64).toInt32) &&& (15 : Int32))))), (.int (nar .char (atv cd ((((p1.toUInt64 >>> ((20 : Int32) &&& 0x3f).toInt64.toUInt64).toInt64).toInt32) &&& (15 : Int32))))), (.int (nar .char (atv cd ((((p1.toUInt64 >>> ((16 : Int32) &&& 0x3f).toInt64.toUInt64).toInt64).toInt32) &&& (15 : Int32))))), (.int (nar .char (atv cd ((((p1.toUInt64 >>> ((12 : Int32) &&& 0x3f).toInt64.toUInt64).toInt64).toInt32) &&& (15 : Int32))))), (.int (nar .char (atv cd ((((p1.toUInt64 >>> ((8 : Int32) &&& 0x3f).toInt64.toUInt64).toInt64).toInt32) &&& (15 : Int32))))), (.int (nar .char (atv cd ((((p1.toUInt64 >>> ((4 : Int32) &&& 0x3f).toInt64.toUInt64).toInt64).toInt32) &&& (15 : Int32))))), (.int (nar .char (atv cd ((((p1.toUInt64 >>> ((0 : Int32) &&& 0x3f).toInt64.toUInt64).toInt64).toInt32) &&& (15 : Int32))))), (.int (35 : Int32)), (.int (35 : Int32))] (.int (0 : Int32)) := Arv.set Ar103 q103 S103 N103 H103 G103 (fits_nar_char _) W103 7 rfl (Nat.le_of_ble_eq_true rfl)
  have F104 := F93.wr W103
  have F105 := own_tab_other F94 W103 ne_dg
  have Z106 : n0 ≤ h103.size := by rw [W103.size]; exact Z95
  have NF103 := Fr.snoc X103 NF92 g_a2
  have K107 := K96.wr W103 (Or.inl (List.mem_of_getElem? (i := 0) rfl))
  have P108 : own_Pr p.tables e below S0 T103 (mkF m 37 #[.val (.long p1), .second, .val (.ref a2), .val (.int (0 : Int32)), .val (.int (7 : Int32)), .val (.int (0 : Int32))] []) := fun t k => P102 t (st103 _ k)
  have P109 : own_Pr p.tables e below S0 T103 (mkF m 43 #[.val (.long p1), .second, .val (.ref a2), .val (.int (0 : Int32)), .val (.int (8 : Int32)), .val (.int (0 : Int32))] []) := fun t k => P108 t (by
    refine XS.iinc X103.here hx rfl (hb hby d1_37) rfl (l' := #[.val (.long p1), .second, .val (.ref a2), .val (.int (0 : Int32)), .val (.int (8 : Int32)), .val (.int (0 : Int32))]) rfl ?_
    refine XS.goto X103.here hx rfl (pc0 := 40) (pc' := 3) rfl (hb hby d1_40) (by decide) (by decide) ?_
    refine XS.iload X103.here hx rfl (hb hby d1_3) rfl ?_
    refine XS.bipush X103.here hx rfl (hb hby d1_5) ?_
    refine XS.icmpYes X103.here hx rfl (pc0 := 7) (pc' := 43) rfl (hb hby d1_7) rfl (by decide) (by decide) (by decide) ?_
    exact k)
  obtain ⟨fs, hr, hrun, hended, hW, hsame⟩ := X103.leave (v := none) (fun _ => rfl)
  have fin : Steps p.tables e below S0 (T103.setFrames fs) := P109 _ (X103.returnOut hx Bd.returns (hb hby d1_43) hr)
  rw [hS0] at fin
  refine ⟨_, _, fin, hrun, hended, _, _, rfl, ?_, ⟨_, rfl⟩, hW, hsame.mono (by decide) (by decide)⟩
  show own_QW Z a2 kk [own_dg cd p1 28, own_dg cd p1 24, own_dg cd p1 20, own_dg cd p1 16, own_dg cd p1 12, own_dg cd p1 8, own_dg cd p1 4, own_dg cd p1 0, 35, 35] h0 n0 _ T103.heap _
  rw [e103]
  exact ⟨rfl, NF103, K107, V103⟩
theorem ef_1_1 (m : MethodId) (p1 : Int64) (a2 : Addr) : entryFrame m #[(.long p1), (.ref a2), (.int (1 : Int32))] 6 = mkF m 0 #[.val (.long p1), .second, .val (.ref a2), .val (.int (1 : Int32)), .unset, .unset] [] := by first | (simp [entryFrame, mkF, argsToLocals, Value.category]; done) | rfl
set_option maxRecDepth 65536 in
set_option maxHeartbeats 40000000 in
theorem rm1_1 (l : Launch) (Z : State) (a0 : Array Value) (hw : ∀ d ∈ tables_1, d.before a0 Z = true) (ws : List Jvm.Cond) (p1 : Int64) (a2 : Addr) (dg : Addr) (cd : Cell) (kk : ClassId) (h0 : Heap) (n0 : Nat) (Z0 : n0 ≤ h0.size) (S_dg : Sta Z h0 "com/example/enqueue_to_disk/enqueuetodisk/format/internal/Unsigned32" "DIGITS" "[C" (.ref dg)) (T_dg : Tab Z h0 dg cd .char 16) (V_a2 : Arv Z h0 a2 kk .char 10 [(.int (35 : Int32)), (.int (35 : Int32)), (.int (35 : Int32)), (.int (35 : Int32)), (.int (35 : Int32)), (.int (35 : Int32)), (.int (35 : Int32)), (.int (35 : Int32)), (.int (35 : Int32)), (.int (35 : Int32))] (.int (0 : Int32))) (g_a2 : n0 ≤ a2) (ne_dg : dg ≠ a2) :
    MetFree l (⟨"com/example/enqueue_to_disk/enqueuetodisk/format/internal/Unsigned32", "writeHex", "(J[CI)V"⟩ : MethodName) (head1 (Jvm.Cond.code (⟨"com/example/enqueue_to_disk/enqueuetodisk/format/internal/Unsigned32", "writeHex", "(J[CI)V"⟩ : MethodName) prog_111_method_3_code 6 none :: ws) ({ frames := 0, cells := 0, slots := 0, locals := 0 } : Room)) (fun a U => a = #[(.long p1), (.ref a2), (.int (1 : Int32))] ∧ Z.Warmed39 U.vm ∧ U.heap = h0) (fun _ _ _ _ _ => True) (fun _ U o U' => ∃ v L, o = .returned v ∧ own_QW Z a2 kk [35, own_dg cd p1 28, own_dg cd p1 24, own_dg cd p1 20, own_dg cd p1 16, own_dg cd p1 12, own_dg cd p1 8, own_dg cd p1 4, own_dg cd p1 0, 35] h0 n0 v U'.heap L ∧ FrameEnd U o U' L ({ frames := 0, cells := 0, slots := 0, locals := 0 } : Room).cells ({ frames := 0, cells := 0, slots := 0, locals := 0 } : Room).slots) := by
  refine MetFree.of_bodySF (plainFor_of_name pn_1) hisR ?_
  intro p e s m args below meth c s₁ Bd hml0 hP hK
  obtain ⟨rfl, hZ, hh⟩ := hP
  have hx := Bd.exec
  have hby := Bd.bytes
  have hml : c.maxLocals = 6 := hml0
  have hown : s.vm.findClass "com/example/enqueue_to_disk/enqueuetodisk/format/internal/Unsigned32" = some m.cls := findClass_of_methodNamed Bd.named
  have hnm := (name_of_methodNamed Bd.named Bd.method).1
  have X0 : Stand p l e ({ frames := 0, cells := 0, slots := 0, locals := 0 } : Room) s m #[(.long p1), (.ref a2), (.int (1 : Int32))] below meth c s₁ [] 0 0 := Stand.of_body Bd
  have e0 : s₁.heap = h0 := by rw [← hh, Bd.state]; rfl
  have N0 := Fr.nil n0
  obtain ⟨S0, hS0⟩ : ∃ z, z = s₁.setTop (entryFrame m #[(.long p1), (.ref a2), (.int (1 : Int32))] 6) := ⟨_, rfl⟩
  have P0 : own_Pr p.tables e below S0 s₁ (mkF m 0 #[.val (.long p1), .second, .val (.ref a2), .val (.int (1 : Int32)), .unset, .unset] []) := fun t k => hS0 ▸ castTop (ef_1_1 m p1 a2) k
  have K0 := Keep.refl h0 [a2]
  have P21 : own_Pr p.tables e below S0 s₁ (mkF m 24 #[.val (.long p1), .second, .val (.ref a2), .val (.int (1 : Int32)), .val (.int (0 : Int32)), .val (.int (28 : Int32))] [(.int (1 : Int32)), (.ref a2)]) := fun t k => P0 t (by
    refine XS.iconst X0.here hx rfl (hb hby d1_0) ?_
    refine XS.istore X0.here hx rfl (hb hby d1_1) rfl (l' := #[.val (.long p1), .second, .val (.ref a2), .val (.int (1 : Int32)), .val (.int (0 : Int32)), .unset]) rfl ?_
    refine XS.iload X0.here hx rfl (hb hby d1_3) rfl ?_
    refine XS.bipush X0.here hx rfl (hb hby d1_5) ?_
    refine XS.icmpNo X0.here hx rfl (hb hby d1_7) rfl (by decide) ?_
    refine XS.iconst X0.here hx rfl (hb hby d1_10) ?_
    refine XS.bipush X0.here hx rfl (hb hby d1_11) ?_
    refine XS.iload X0.here hx rfl (hb hby d1_13) rfl ?_
    show Steps p.tables e below (s₁.setTop (mkF m 15 #[.val (.long p1), .second, .val (.ref a2), .val (.int (1 : Int32)), .val (.int (0 : Int32)), .unset] [(.int (0 : Int32)), (.int (7 : Int32)), (.int (4 : Int32))])) _
    refine XS.isub X0.here hx rfl (hb hby d1_15) rfl ?_
    refine XS.imul X0.here hx rfl (hb hby d1_16) rfl ?_
    refine XS.istore X0.here hx rfl (hb hby d1_17) rfl (l' := #[.val (.long p1), .second, .val (.ref a2), .val (.int (1 : Int32)), .val (.int (0 : Int32)), .val (.int (28 : Int32))]) rfl ?_
    refine XS.aloadN X0.here hx rfl (hb hby d1_19) rfl rfl ?_
    refine XS.iloadN X0.here hx rfl (hb hby d1_20) rfl ?_
    refine XS.iload X0.here hx rfl (hb hby d1_21) rfl ?_
    refine XS.iadd X0.here hx rfl (hb hby d1_23) rfl ?_
    exact k)
  obtain ⟨T22, X22, e22, st22⟩ := getS2 X0 hx hZ hown (host := "") (Or.inl (hw _ (List.mem_of_getElem? (i := 7) rfl))) Via.refl e0 S_dg (g := (mkF m 24 #[.val (.long p1), .second, .val (.ref a2), .val (.int (1 : Int32)), .val (.int (0 : Int32)), .val (.int (28 : Int32))] [(.int (1 : Int32)), (.ref a2)])) rfl (hb hby d1_24)
  have P23 : own_Pr p.tables e below S0 T22 (mkF m 27 #[.val (.long p1), .second, .val (.ref a2), .val (.int (1 : Int32)), .val (.int (0 : Int32)), .val (.int (28 : Int32))] [(.ref dg), (.int (1 : Int32)), (.ref a2)]) := fun t k => P21 t (st22 _ k)
  have hin35_24 : ¬ (((((p1.toUInt64 >>> ((28 : Int32) &&& 0x3f).toInt64.toUInt64).toInt64).toInt32) &&& (15 : Int32)) < 0 ∨ cd.slots.size ≤ (((((p1.toUInt64 >>> ((28 : Int32) &&& 0x3f).toInt64.toUInt64).toInt64).toInt32) &&& (15 : Int32))).toNatClampNeg) := inb_of T_dg.2.1 (own_n16 _)
  have P25 : own_Pr p.tables e below S0 T22 (mkF m 36 #[.val (.long p1), .second, .val (.ref a2), .val (.int (1 : Int32)), .val (.int (0 : Int32)), .val (.int (28 : Int32))] [(.int (atv cd ((((p1.toUInt64 >>> ((28 : Int32) &&& 0x3f).toInt64.toUInt64).toInt64).toInt32) &&& (15 : Int32)))), (.int (1 : Int32)), (.ref a2)]) := fun t k => P23 t (by
    refine XS.lloadN X22.here hx rfl (hb hby d1_27) rfl ?_
    refine XS.iload X22.here hx rfl (hb hby d1_28) rfl ?_
    refine XS.lushr X22.here hx rfl (hb hby d1_30) rfl ?_
    refine XS.l2i X22.here hx rfl (hb hby d1_31) rfl ?_
    refine XS.bipush X22.here hx rfl (hb hby d1_32) ?_
    refine XS.iand X22.here hx rfl (hb hby d1_34) rfl ?_
    refine X22.caload hx (j := ((((p1.toUInt64 >>> ((28 : Int32) &&& 0x3f).toInt64.toUInt64).toInt64).toInt32) &&& (15 : Int32))) (v := .int (atv cd ((((p1.toUInt64 >>> ((28 : Int32) &&& 0x3f).toInt64.toUInt64).toInt64).toInt32) &&& (15 : Int32)))) (by rw [e22]; exact T_dg.1.1) (State.isArrayOf_alike hZ.alike T_dg.1.2.1) T_dg.1.2.2 hin35_24 (T_dg.2.2.2 _ hin35_24) (g := (mkF m 35 #[.val (.long p1), .second, .val (.ref a2), .val (.int (1 : Int32)), .val (.int (0 : Int32)), .val (.int (28 : Int32))] [(.int ((((p1.toUInt64 >>> ((28 : Int32) &&& 0x3f).toInt64.toUInt64).toInt64).toInt32) &&& (15 : Int32))), (.ref dg), (.int (1 : Int32)), (.ref a2)])) rfl rfl (hb hby d1_35) _ ?_
    exact k)
  obtain ⟨cl26, Ar26, q26, S26, N26, H26, G26⟩ := id V_a2
  have hin26 : ¬ ((1 : Int32) < 0 ∨ cl26.slots.size ≤ ((1 : Int32)).toNatClampNeg) := inb_of S26 ⟨by decide, by decide⟩
  obtain ⟨T26, h26, X26, e26, W26, st26⟩ := stC X22 hx hZ e22 Ar26 (j := (1 : Int32)) hin26 (g := (mkF m 36 #[.val (.long p1), .second, .val (.ref a2), .val (.int (1 : Int32)), .val (.int (0 : Int32)), .val (.int (28 : Int32))] [(.int (atv cd ((((p1.toUInt64 >>> ((28 : Int32) &&& 0x3f).toInt64.toUInt64).toInt64).toInt32) &&& (15 : Int32)))), (.int (1 : Int32)), (.ref a2)])) rfl rfl (hb hby d1_36)
  have V26 : Arv Z h26 a2 kk .char (10 : Int32) [(.int (35 : Int32)), (.int (nar .char (atv cd ((((p1.toUInt64 >>> ((28 : Int32) &&& 0x3f).toInt64.toUInt64).toInt64).toInt32) &&& (15 : Int32))))), (.int (35 : Int32)), (.int (35 : Int32)), (.int (35 : Int32)), (.int (35 : Int32)), (.int (35 : Int32)), (.int (35 : Int32)), (.int (35 : Int32)), (.int (35 : Int32))] (.int (0 : Int32)) := Arv.set Ar26 q26 S26 N26 H26 G26 (fits_nar_char _) W26 1 rfl (Nat.le_of_ble_eq_true rfl)
  have F27 := S_dg.wr W26
  have F28 := own_tab_other T_dg W26 ne_dg
  have Z29 : n0 ≤ h26.size := by rw [W26.size]; exact Z0
  have NF26 := Fr.snoc X26 N0 g_a2
  have K30 := K0.wr W26 (Or.inl (List.mem_of_getElem? (i := 0) rfl))
  have P31 : own_Pr p.tables e below S0 T26 (mkF m 37 #[.val (.long p1), .second, .val (.ref a2), .val (.int (1 : Int32)), .val (.int (0 : Int32)), .val (.int (28 : Int32))] []) := fun t k => P25 t (st26 _ k)
  have P32 : own_Pr p.tables e below S0 T26 (mkF m 24 #[.val (.long p1), .second, .val (.ref a2), .val (.int (1 : Int32)), .val (.int (1 : Int32)), .val (.int (24 : Int32))] [(.int (2 : Int32)), (.ref a2)]) := fun t k => P31 t (by
    refine XS.iinc X26.here hx rfl (hb hby d1_37) rfl (l' := #[.val (.long p1), .second, .val (.ref a2), .val (.int (1 : Int32)), .val (.int (1 : Int32)), .val (.int (28 : Int32))]) rfl ?_
    refine XS.goto X26.here hx rfl (pc0 := 40) (pc' := 3) rfl (hb hby d1_40) (by decide) (by decide) ?_
    refine XS.iload X26.here hx rfl (hb hby d1_3) rfl ?_
    refine XS.bipush X26.here hx rfl (hb hby d1_5) ?_
    refine XS.icmpNo X26.here hx rfl (hb hby d1_7) rfl (by decide) ?_
    refine XS.iconst X26.here hx rfl (hb hby d1_10) ?_
    refine XS.bipush X26.here hx rfl (hb hby d1_11) ?_
    refine XS.iload X26.here hx rfl (hb hby d1_13) rfl ?_
    show Steps p.tables e below (T26.setTop (mkF m 15 #[.val (.long p1), .second, .val (.ref a2), .val (.int (1 : Int32)), .val (.int (1 : Int32)), .val (.int (28 : Int32))] [(.int (1 : Int32)), (.int (7 : Int32)), (.int (4 : Int32))])) _
    refine XS.isub X26.here hx rfl (hb hby d1_15) rfl ?_
    refine XS.imul X26.here hx rfl (hb hby d1_16) rfl ?_
    refine XS.istore X26.here hx rfl (hb hby d1_17) rfl (l' := #[.val (.long p1), .second, .val (.ref a2), .val (.int (1 : Int32)), .val (.int (1 : Int32)), .val (.int (24 : Int32))]) rfl ?_
    refine XS.aloadN X26.here hx rfl (hb hby d1_19) rfl rfl ?_
    refine XS.iloadN X26.here hx rfl (hb hby d1_20) rfl ?_
    refine XS.iload X26.here hx rfl (hb hby d1_21) rfl ?_
    refine XS.iadd X26.here hx rfl (hb hby d1_23) rfl ?_
    exact k)
  obtain ⟨T33, X33, e33, st33⟩ := getS2 X26 hx hZ hown (host := "") (Or.inl (hw _ (List.mem_of_getElem? (i := 7) rfl))) Via.refl e26 F27 (g := (mkF m 24 #[.val (.long p1), .second, .val (.ref a2), .val (.int (1 : Int32)), .val (.int (1 : Int32)), .val (.int (24 : Int32))] [(.int (2 : Int32)), (.ref a2)])) rfl (hb hby d1_24)
  have P34 : own_Pr p.tables e below S0 T33 (mkF m 27 #[.val (.long p1), .second, .val (.ref a2), .val (.int (1 : Int32)), .val (.int (1 : Int32)), .val (.int (24 : Int32))] [(.ref dg), (.int (2 : Int32)), (.ref a2)]) := fun t k => P32 t (st33 _ k)
  have hin35_35 : ¬ (((((p1.toUInt64 >>> ((24 : Int32) &&& 0x3f).toInt64.toUInt64).toInt64).toInt32) &&& (15 : Int32)) < 0 ∨ cd.slots.size ≤ (((((p1.toUInt64 >>> ((24 : Int32) &&& 0x3f).toInt64.toUInt64).toInt64).toInt32) &&& (15 : Int32))).toNatClampNeg) := inb_of F28.2.1 (own_n16 _)
  have P36 : own_Pr p.tables e below S0 T33 (mkF m 36 #[.val (.long p1), .second, .val (.ref a2), .val (.int (1 : Int32)), .val (.int (1 : Int32)), .val (.int (24 : Int32))] [(.int (atv cd ((((p1.toUInt64 >>> ((24 : Int32) &&& 0x3f).toInt64.toUInt64).toInt64).toInt32) &&& (15 : Int32)))), (.int (2 : Int32)), (.ref a2)]) := fun t k => P34 t (by
    refine XS.lloadN X33.here hx rfl (hb hby d1_27) rfl ?_
    refine XS.iload X33.here hx rfl (hb hby d1_28) rfl ?_
    refine XS.lushr X33.here hx rfl (hb hby d1_30) rfl ?_
    refine XS.l2i X33.here hx rfl (hb hby d1_31) rfl ?_
    refine XS.bipush X33.here hx rfl (hb hby d1_32) ?_
    refine XS.iand X33.here hx rfl (hb hby d1_34) rfl ?_
    refine X33.caload hx (j := ((((p1.toUInt64 >>> ((24 : Int32) &&& 0x3f).toInt64.toUInt64).toInt64).toInt32) &&& (15 : Int32))) (v := .int (atv cd ((((p1.toUInt64 >>> ((24 : Int32) &&& 0x3f).toInt64.toUInt64).toInt64).toInt32) &&& (15 : Int32)))) (by rw [e33]; exact F28.1.1) (State.isArrayOf_alike hZ.alike F28.1.2.1) F28.1.2.2 hin35_35 (F28.2.2.2 _ hin35_35) (g := (mkF m 35 #[.val (.long p1), .second, .val (.ref a2), .val (.int (1 : Int32)), .val (.int (1 : Int32)), .val (.int (24 : Int32))] [(.int ((((p1.toUInt64 >>> ((24 : Int32) &&& 0x3f).toInt64.toUInt64).toInt64).toInt32) &&& (15 : Int32))), (.ref dg), (.int (2 : Int32)), (.ref a2)])) rfl rfl (hb hby d1_35) _ ?_
    exact k)
  obtain ⟨cl37, Ar37, q37, S37, N37, H37, G37⟩ := id V26
  have hin37 : ¬ ((2 : Int32) < 0 ∨ cl37.slots.size ≤ ((2 : Int32)).toNatClampNeg) := inb_of S37 ⟨by decide, by decide⟩
  obtain ⟨T37, h37, X37, e37, W37, st37⟩ := stC X33 hx hZ e33 Ar37 (j := (2 : Int32)) hin37 (g := (mkF m 36 #[.val (.long p1), .second, .val (.ref a2), .val (.int (1 : Int32)), .val (.int (1 : Int32)), .val (.int (24 : Int32))] [(.int (atv cd ((((p1.toUInt64 >>> ((24 : Int32) &&& 0x3f).toInt64.toUInt64).toInt64).toInt32) &&& (15 : Int32)))), (.int (2 : Int32)), (.ref a2)])) rfl rfl (hb hby d1_36)
  have V37 : Arv Z h37 a2 kk .char (10 : Int32) [(.int (35 : Int32)), (.int (nar .char (atv cd ((((p1.toUInt64 >>> ((28 : Int32) &&& 0x3f).toInt64.toUInt64).toInt64).toInt32) &&& (15 : Int32))))), (.int (nar .char (atv cd ((((p1.toUInt64 >>> ((24 : Int32) &&& 0x3f).toInt64.toUInt64).toInt64).toInt32) &&& (15 : Int32))))), (.int (35 : Int32)), (.int (35 : Int32)), (.int (35 : Int32)), (.int (35 : Int32)), (.int (35 : Int32)), (.int (35 : Int32)), (.int (35 : Int32))] (.int (0 : Int32)) := Arv.set Ar37 q37 S37 N37 H37 G37 (fits_nar_char _) W37 2 rfl (Nat.le_of_ble_eq_true rfl)
  have F38 := F27.wr W37
  have F39 := own_tab_other F28 W37 ne_dg
  have Z40 : n0 ≤ h37.size := by rw [W37.size]; exact Z29
  have NF37 := Fr.snoc X37 NF26 g_a2
  have K41 := K30.wr W37 (Or.inl (List.mem_of_getElem? (i := 0) rfl))
  have P42 : own_Pr p.tables e below S0 T37 (mkF m 37 #[.val (.long p1), .second, .val (.ref a2), .val (.int (1 : Int32)), .val (.int (1 : Int32)), .val (.int (24 : Int32))] []) := fun t k => P36 t (st37 _ k)
  have P43 : own_Pr p.tables e below S0 T37 (mkF m 24 #[.val (.long p1), .second, .val (.ref a2), .val (.int (1 : Int32)), .val (.int (2 : Int32)), .val (.int (20 : Int32))] [(.int (3 : Int32)), (.ref a2)]) := fun t k => P42 t (by
    refine XS.iinc X37.here hx rfl (hb hby d1_37) rfl (l' := #[.val (.long p1), .second, .val (.ref a2), .val (.int (1 : Int32)), .val (.int (2 : Int32)), .val (.int (24 : Int32))]) rfl ?_
    refine XS.goto X37.here hx rfl (pc0 := 40) (pc' := 3) rfl (hb hby d1_40) (by decide) (by decide) ?_
    refine XS.iload X37.here hx rfl (hb hby d1_3) rfl ?_
    refine XS.bipush X37.here hx rfl (hb hby d1_5) ?_
    refine XS.icmpNo X37.here hx rfl (hb hby d1_7) rfl (by decide) ?_
    refine XS.iconst X37.here hx rfl (hb hby d1_10) ?_
    refine XS.bipush X37.here hx rfl (hb hby d1_11) ?_
    refine XS.iload X37.here hx rfl (hb hby d1_13) rfl ?_
    show Steps p.tables e below (T37.setTop (mkF m 15 #[.val (.long p1), .second, .val (.ref a2), .val (.int (1 : Int32)), .val (.int (2 : Int32)), .val (.int (24 : Int32))] [(.int (2 : Int32)), (.int (7 : Int32)), (.int (4 : Int32))])) _
    refine XS.isub X37.here hx rfl (hb hby d1_15) rfl ?_
    refine XS.imul X37.here hx rfl (hb hby d1_16) rfl ?_
    refine XS.istore X37.here hx rfl (hb hby d1_17) rfl (l' := #[.val (.long p1), .second, .val (.ref a2), .val (.int (1 : Int32)), .val (.int (2 : Int32)), .val (.int (20 : Int32))]) rfl ?_
    refine XS.aloadN X37.here hx rfl (hb hby d1_19) rfl rfl ?_
    refine XS.iloadN X37.here hx rfl (hb hby d1_20) rfl ?_
    refine XS.iload X37.here hx rfl (hb hby d1_21) rfl ?_
    refine XS.iadd X37.here hx rfl (hb hby d1_23) rfl ?_
    exact k)
  obtain ⟨T44, X44, e44, st44⟩ := getS2 X37 hx hZ hown (host := "") (Or.inl (hw _ (List.mem_of_getElem? (i := 7) rfl))) Via.refl e37 F38 (g := (mkF m 24 #[.val (.long p1), .second, .val (.ref a2), .val (.int (1 : Int32)), .val (.int (2 : Int32)), .val (.int (20 : Int32))] [(.int (3 : Int32)), (.ref a2)])) rfl (hb hby d1_24)
  have P45 : own_Pr p.tables e below S0 T44 (mkF m 27 #[.val (.long p1), .second, .val (.ref a2), .val (.int (1 : Int32)), .val (.int (2 : Int32)), .val (.int (20 : Int32))] [(.ref dg), (.int (3 : Int32)), (.ref a2)]) := fun t k => P43 t (st44 _ k)
  have hin35_46 : ¬ (((((p1.toUInt64 >>> ((20 : Int32) &&& 0x3f).toInt64.toUInt64).toInt64).toInt32) &&& (15 : Int32)) < 0 ∨ cd.slots.size ≤ (((((p1.toUInt64 >>> ((20 : Int32) &&& 0x3f).toInt64.toUInt64).toInt64).toInt32) &&& (15 : Int32))).toNatClampNeg) := inb_of F39.2.1 (own_n16 _)
  have P47 : own_Pr p.tables e below S0 T44 (mkF m 36 #[.val (.long p1), .second, .val (.ref a2), .val (.int (1 : Int32)), .val (.int (2 : Int32)), .val (.int (20 : Int32))] [(.int (atv cd ((((p1.toUInt64 >>> ((20 : Int32) &&& 0x3f).toInt64.toUInt64).toInt64).toInt32) &&& (15 : Int32)))), (.int (3 : Int32)), (.ref a2)]) := fun t k => P45 t (by
    refine XS.lloadN X44.here hx rfl (hb hby d1_27) rfl ?_
    refine XS.iload X44.here hx rfl (hb hby d1_28) rfl ?_
    refine XS.lushr X44.here hx rfl (hb hby d1_30) rfl ?_
    refine XS.l2i X44.here hx rfl (hb hby d1_31) rfl ?_
    refine XS.bipush X44.here hx rfl (hb hby d1_32) ?_
    refine XS.iand X44.here hx rfl (hb hby d1_34) rfl ?_
    refine X44.caload hx (j := ((((p1.toUInt64 >>> ((20 : Int32) &&& 0x3f).toInt64.toUInt64).toInt64).toInt32) &&& (15 : Int32))) (v := .int (atv cd ((((p1.toUInt64 >>> ((20 : Int32) &&& 0x3f).toInt64.toUInt64).toInt64).toInt32) &&& (15 : Int32)))) (by rw [e44]; exact F39.1.1) (State.isArrayOf_alike hZ.alike F39.1.2.1) F39.1.2.2 hin35_46 (F39.2.2.2 _ hin35_46) (g := (mkF m 35 #[.val (.long p1), .second, .val (.ref a2), .val (.int (1 : Int32)), .val (.int (2 : Int32)), .val (.int (20 : Int32))] [(.int ((((p1.toUInt64 >>> ((20 : Int32) &&& 0x3f).toInt64.toUInt64).toInt64).toInt32) &&& (15 : Int32))), (.ref dg), (.int (3 : Int32)), (.ref a2)])) rfl rfl (hb hby d1_35) _ ?_
    exact k)
  obtain ⟨cl48, Ar48, q48, S48, N48, H48, G48⟩ := id V37
  have hin48 : ¬ ((3 : Int32) < 0 ∨ cl48.slots.size ≤ ((3 : Int32)).toNatClampNeg) := inb_of S48 ⟨by decide, by decide⟩
  obtain ⟨T48, h48, X48, e48, W48, st48⟩ := stC X44 hx hZ e44 Ar48 (j := (3 : Int32)) hin48 (g := (mkF m 36 #[.val (.long p1), .second, .val (.ref a2), .val (.int (1 : Int32)), .val (.int (2 : Int32)), .val (.int (20 : Int32))] [(.int (atv cd ((((p1.toUInt64 >>> ((20 : Int32) &&& 0x3f).toInt64.toUInt64).toInt64).toInt32) &&& (15 : Int32)))), (.int (3 : Int32)), (.ref a2)])) rfl rfl (hb hby d1_36)
  have V48 : Arv Z h48 a2 kk .char (10 : Int32) [(.int (35 : Int32)), (.int (nar .char (atv cd ((((p1.toUInt64 >>> ((28 : Int32) &&& 0x3f).toInt64.toUInt64).toInt64).toInt32) &&& (15 : Int32))))), (.int (nar .char (atv cd ((((p1.toUInt64 >>> ((24 : Int32) &&& 0x3f).toInt64.toUInt64).toInt64).toInt32) &&& (15 : Int32))))), (.int (nar .char (atv cd ((((p1.toUInt64 >>> ((20 : Int32) &&& 0x3f).toInt64.toUInt64).toInt64).toInt32) &&& (15 : Int32))))), (.int (35 : Int32)), (.int (35 : Int32)), (.int (35 : Int32)), (.int (35 : Int32)), (.int (35 : Int32)), (.int (35 : Int32))] (.int (0 : Int32)) := Arv.set Ar48 q48 S48 N48 H48 G48 (fits_nar_char _) W48 3 rfl (Nat.le_of_ble_eq_true rfl)
  have F49 := F38.wr W48
  have F50 := own_tab_other F39 W48 ne_dg
  have Z51 : n0 ≤ h48.size := by rw [W48.size]; exact Z40
  have NF48 := Fr.snoc X48 NF37 g_a2
  have K52 := K41.wr W48 (Or.inl (List.mem_of_getElem? (i := 0) rfl))
  have P53 : own_Pr p.tables e below S0 T48 (mkF m 37 #[.val (.long p1), .second, .val (.ref a2), .val (.int (1 : Int32)), .val (.int (2 : Int32)), .val (.int (20 : Int32))] []) := fun t k => P47 t (st48 _ k)
  have P54 : own_Pr p.tables e below S0 T48 (mkF m 24 #[.val (.long p1), .second, .val (.ref a2), .val (.int (1 : Int32)), .val (.int (3 : Int32)), .val (.int (16 : Int32))] [(.int (4 : Int32)), (.ref a2)]) := fun t k => P53 t (by
    refine XS.iinc X48.here hx rfl (hb hby d1_37) rfl (l' := #[.val (.long p1), .second, .val (.ref a2), .val (.int (1 : Int32)), .val (.int (3 : Int32)), .val (.int (20 : Int32))]) rfl ?_
    refine XS.goto X48.here hx rfl (pc0 := 40) (pc' := 3) rfl (hb hby d1_40) (by decide) (by decide) ?_
    refine XS.iload X48.here hx rfl (hb hby d1_3) rfl ?_
    refine XS.bipush X48.here hx rfl (hb hby d1_5) ?_
    refine XS.icmpNo X48.here hx rfl (hb hby d1_7) rfl (by decide) ?_
    refine XS.iconst X48.here hx rfl (hb hby d1_10) ?_
    refine XS.bipush X48.here hx rfl (hb hby d1_11) ?_
    refine XS.iload X48.here hx rfl (hb hby d1_13) rfl ?_
    show Steps p.tables e below (T48.setTop (mkF m 15 #[.val (.long p1), .second, .val (.ref a2), .val (.int (1 : Int32)), .val (.int (3 : Int32)), .val (.int (20 : Int32))] [(.int (3 : Int32)), (.int (7 : Int32)), (.int (4 : Int32))])) _
    refine XS.isub X48.here hx rfl (hb hby d1_15) rfl ?_
    refine XS.imul X48.here hx rfl (hb hby d1_16) rfl ?_
    refine XS.istore X48.here hx rfl (hb hby d1_17) rfl (l' := #[.val (.long p1), .second, .val (.ref a2), .val (.int (1 : Int32)), .val (.int (3 : Int32)), .val (.int (16 : Int32))]) rfl ?_
    refine XS.aloadN X48.here hx rfl (hb hby d1_19) rfl rfl ?_
    refine XS.iloadN X48.here hx rfl (hb hby d1_20) rfl ?_
    refine XS.iload X48.here hx rfl (hb hby d1_21) rfl ?_
    refine XS.iadd X48.here hx rfl (hb hby d1_23) rfl ?_
    exact k)
  obtain ⟨T55, X55, e55, st55⟩ := getS2 X48 hx hZ hown (host := "") (Or.inl (hw _ (List.mem_of_getElem? (i := 7) rfl))) Via.refl e48 F49 (g := (mkF m 24 #[.val (.long p1), .second, .val (.ref a2), .val (.int (1 : Int32)), .val (.int (3 : Int32)), .val (.int (16 : Int32))] [(.int (4 : Int32)), (.ref a2)])) rfl (hb hby d1_24)
  have P56 : own_Pr p.tables e below S0 T55 (mkF m 27 #[.val (.long p1), .second, .val (.ref a2), .val (.int (1 : Int32)), .val (.int (3 : Int32)), .val (.int (16 : Int32))] [(.ref dg), (.int (4 : Int32)), (.ref a2)]) := fun t k => P54 t (st55 _ k)
  have hin35_57 : ¬ (((((p1.toUInt64 >>> ((16 : Int32) &&& 0x3f).toInt64.toUInt64).toInt64).toInt32) &&& (15 : Int32)) < 0 ∨ cd.slots.size ≤ (((((p1.toUInt64 >>> ((16 : Int32) &&& 0x3f).toInt64.toUInt64).toInt64).toInt32) &&& (15 : Int32))).toNatClampNeg) := inb_of F50.2.1 (own_n16 _)
  have P58 : own_Pr p.tables e below S0 T55 (mkF m 36 #[.val (.long p1), .second, .val (.ref a2), .val (.int (1 : Int32)), .val (.int (3 : Int32)), .val (.int (16 : Int32))] [(.int (atv cd ((((p1.toUInt64 >>> ((16 : Int32) &&& 0x3f).toInt64.toUInt64).toInt64).toInt32) &&& (15 : Int32)))), (.int (4 : Int32)), (.ref a2)]) := fun t k => P56 t (by
    refine XS.lloadN X55.here hx rfl (hb hby d1_27) rfl ?_
    refine XS.iload X55.here hx rfl (hb hby d1_28) rfl ?_
    refine XS.lushr X55.here hx rfl (hb hby d1_30) rfl ?_
    refine XS.l2i X55.here hx rfl (hb hby d1_31) rfl ?_
    refine XS.bipush X55.here hx rfl (hb hby d1_32) ?_
    refine XS.iand X55.here hx rfl (hb hby d1_34) rfl ?_
    refine X55.caload hx (j := ((((p1.toUInt64 >>> ((16 : Int32) &&& 0x3f).toInt64.toUInt64).toInt64).toInt32) &&& (15 : Int32))) (v := .int (atv cd ((((p1.toUInt64 >>> ((16 : Int32) &&& 0x3f).toInt64.toUInt64).toInt64).toInt32) &&& (15 : Int32)))) (by rw [e55]; exact F50.1.1) (State.isArrayOf_alike hZ.alike F50.1.2.1) F50.1.2.2 hin35_57 (F50.2.2.2 _ hin35_57) (g := (mkF m 35 #[.val (.long p1), .second, .val (.ref a2), .val (.int (1 : Int32)), .val (.int (3 : Int32)), .val (.int (16 : Int32))] [(.int ((((p1.toUInt64 >>> ((16 : Int32) &&& 0x3f).toInt64.toUInt64).toInt64).toInt32) &&& (15 : Int32))), (.ref dg), (.int (4 : Int32)), (.ref a2)])) rfl rfl (hb hby d1_35) _ ?_
    exact k)
  obtain ⟨cl59, Ar59, q59, S59, N59, H59, G59⟩ := id V48
  have hin59 : ¬ ((4 : Int32) < 0 ∨ cl59.slots.size ≤ ((4 : Int32)).toNatClampNeg) := inb_of S59 ⟨by decide, by decide⟩
  obtain ⟨T59, h59, X59, e59, W59, st59⟩ := stC X55 hx hZ e55 Ar59 (j := (4 : Int32)) hin59 (g := (mkF m 36 #[.val (.long p1), .second, .val (.ref a2), .val (.int (1 : Int32)), .val (.int (3 : Int32)), .val (.int (16 : Int32))] [(.int (atv cd ((((p1.toUInt64 >>> ((16 : Int32) &&& 0x3f).toInt64.toUInt64).toInt64).toInt32) &&& (15 : Int32)))), (.int (4 : Int32)), (.ref a2)])) rfl rfl (hb hby d1_36)
  have V59 : Arv Z h59 a2 kk .char (10 : Int32) [(.int (35 : Int32)), (.int (nar .char (atv cd ((((p1.toUInt64 >>> ((28 : Int32) &&& 0x3f).toInt64.toUInt64).toInt64).toInt32) &&& (15 : Int32))))), (.int (nar .char (atv cd ((((p1.toUInt64 >>> ((24 : Int32) &&& 0x3f).toInt64.toUInt64).toInt64).toInt32) &&& (15 : Int32))))), (.int (nar .char (atv cd ((((p1.toUInt64 >>> ((20 : Int32) &&& 0x3f).toInt64.toUInt64).toInt64).toInt32) &&& (15 : Int32))))), (.int (nar .char (atv cd ((((p1.toUInt64 >>> ((16 : Int32) &&& 0x3f).toInt64.toUInt64).toInt64).toInt32) &&& (15 : Int32))))), (.int (35 : Int32)), (.int (35 : Int32)), (.int (35 : Int32)), (.int (35 : Int32)), (.int (35 : Int32))] (.int (0 : Int32)) := Arv.set Ar59 q59 S59 N59 H59 G59 (fits_nar_char _) W59 4 rfl (Nat.le_of_ble_eq_true rfl)
  have F60 := F49.wr W59
  have F61 := own_tab_other F50 W59 ne_dg
  have Z62 : n0 ≤ h59.size := by rw [W59.size]; exact Z51
  have NF59 := Fr.snoc X59 NF48 g_a2
  have K63 := K52.wr W59 (Or.inl (List.mem_of_getElem? (i := 0) rfl))
  have P64 : own_Pr p.tables e below S0 T59 (mkF m 37 #[.val (.long p1), .second, .val (.ref a2), .val (.int (1 : Int32)), .val (.int (3 : Int32)), .val (.int (16 : Int32))] []) := fun t k => P58 t (st59 _ k)
  have P65 : own_Pr p.tables e below S0 T59 (mkF m 24 #[.val (.long p1), .second, .val (.ref a2), .val (.int (1 : Int32)), .val (.int (4 : Int32)), .val (.int (12 : Int32))] [(.int (5 : Int32)), (.ref a2)]) := fun t k => P64 t (by
    refine XS.iinc X59.here hx rfl (hb hby d1_37) rfl (l' := #[.val (.long p1), .second, .val (.ref a2), .val (.int (1 : Int32)), .val (.int (4 : Int32)), .val (.int (16 : Int32))]) rfl ?_
    refine XS.goto X59.here hx rfl (pc0 := 40) (pc' := 3) rfl (hb hby d1_40) (by decide) (by decide) ?_
    refine XS.iload X59.here hx rfl (hb hby d1_3) rfl ?_
    refine XS.bipush X59.here hx rfl (hb hby d1_5) ?_
    refine XS.icmpNo X59.here hx rfl (hb hby d1_7) rfl (by decide) ?_
    refine XS.iconst X59.here hx rfl (hb hby d1_10) ?_
    refine XS.bipush X59.here hx rfl (hb hby d1_11) ?_
    refine XS.iload X59.here hx rfl (hb hby d1_13) rfl ?_
    show Steps p.tables e below (T59.setTop (mkF m 15 #[.val (.long p1), .second, .val (.ref a2), .val (.int (1 : Int32)), .val (.int (4 : Int32)), .val (.int (16 : Int32))] [(.int (4 : Int32)), (.int (7 : Int32)), (.int (4 : Int32))])) _
    refine XS.isub X59.here hx rfl (hb hby d1_15) rfl ?_
    refine XS.imul X59.here hx rfl (hb hby d1_16) rfl ?_
    refine XS.istore X59.here hx rfl (hb hby d1_17) rfl (l' := #[.val (.long p1), .second, .val (.ref a2), .val (.int (1 : Int32)), .val (.int (4 : Int32)), .val (.int (12 : Int32))]) rfl ?_
    refine XS.aloadN X59.here hx rfl (hb hby d1_19) rfl rfl ?_
    refine XS.iloadN X59.here hx rfl (hb hby d1_20) rfl ?_
    refine XS.iload X59.here hx rfl (hb hby d1_21) rfl ?_
    refine XS.iadd X59.here hx rfl (hb hby d1_23) rfl ?_
    exact k)
  obtain ⟨T66, X66, e66, st66⟩ := getS2 X59 hx hZ hown (host := "") (Or.inl (hw _ (List.mem_of_getElem? (i := 7) rfl))) Via.refl e59 F60 (g := (mkF m 24 #[.val (.long p1), .second, .val (.ref a2), .val (.int (1 : Int32)), .val (.int (4 : Int32)), .val (.int (12 : Int32))] [(.int (5 : Int32)), (.ref a2)])) rfl (hb hby d1_24)
  have P67 : own_Pr p.tables e below S0 T66 (mkF m 27 #[.val (.long p1), .second, .val (.ref a2), .val (.int (1 : Int32)), .val (.int (4 : Int32)), .val (.int (12 : Int32))] [(.ref dg), (.int (5 : Int32)), (.ref a2)]) := fun t k => P65 t (st66 _ k)
  have hin35_68 : ¬ (((((p1.toUInt64 >>> ((12 : Int32) &&& 0x3f).toInt64.toUInt64).toInt64).toInt32) &&& (15 : Int32)) < 0 ∨ cd.slots.size ≤ (((((p1.toUInt64 >>> ((12 : Int32) &&& 0x3f).toInt64.toUInt64).toInt64).toInt32) &&& (15 : Int32))).toNatClampNeg) := inb_of F61.2.1 (own_n16 _)
  have P69 : own_Pr p.tables e below S0 T66 (mkF m 36 #[.val (.long p1), .second, .val (.ref a2), .val (.int (1 : Int32)), .val (.int (4 : Int32)), .val (.int (12 : Int32))] [(.int (atv cd ((((p1.toUInt64 >>> ((12 : Int32) &&& 0x3f).toInt64.toUInt64).toInt64).toInt32) &&& (15 : Int32)))), (.int (5 : Int32)), (.ref a2)]) := fun t k => P67 t (by
    refine XS.lloadN X66.here hx rfl (hb hby d1_27) rfl ?_
    refine XS.iload X66.here hx rfl (hb hby d1_28) rfl ?_
    refine XS.lushr X66.here hx rfl (hb hby d1_30) rfl ?_
    refine XS.l2i X66.here hx rfl (hb hby d1_31) rfl ?_
    refine XS.bipush X66.here hx rfl (hb hby d1_32) ?_
    refine XS.iand X66.here hx rfl (hb hby d1_34) rfl ?_
    refine X66.caload hx (j := ((((p1.toUInt64 >>> ((12 : Int32) &&& 0x3f).toInt64.toUInt64).toInt64).toInt32) &&& (15 : Int32))) (v := .int (atv cd ((((p1.toUInt64 >>> ((12 : Int32) &&& 0x3f).toInt64.toUInt64).toInt64).toInt32) &&& (15 : Int32)))) (by rw [e66]; exact F61.1.1) (State.isArrayOf_alike hZ.alike F61.1.2.1) F61.1.2.2 hin35_68 (F61.2.2.2 _ hin35_68) (g := (mkF m 35 #[.val (.long p1), .second, .val (.ref a2), .val (.int (1 : Int32)), .val (.int (4 : Int32)), .val (.int (12 : Int32))] [(.int ((((p1.toUInt64 >>> ((12 : Int32) &&& 0x3f).toInt64.toUInt64).toInt64).toInt32) &&& (15 : Int32))), (.ref dg), (.int (5 : Int32)), (.ref a2)])) rfl rfl (hb hby d1_35) _ ?_
    exact k)
  obtain ⟨cl70, Ar70, q70, S70, N70, H70, G70⟩ := id V59
  have hin70 : ¬ ((5 : Int32) < 0 ∨ cl70.slots.size ≤ ((5 : Int32)).toNatClampNeg) := inb_of S70 ⟨by decide, by decide⟩
  obtain ⟨T70, h70, X70, e70, W70, st70⟩ := stC X66 hx hZ e66 Ar70 (j := (5 : Int32)) hin70 (g := (mkF m 36 #[.val (.long p1), .second, .val (.ref a2), .val (.int (1 : Int32)), .val (.int (4 : Int32)), .val (.int (12 : Int32))] [(.int (atv cd ((((p1.toUInt64 >>> ((12 : Int32) &&& 0x3f).toInt64.toUInt64).toInt64).toInt32) &&& (15 : Int32)))), (.int (5 : Int32)), (.ref a2)])) rfl rfl (hb hby d1_36)
  have V70 : Arv Z h70 a2 kk .char (10 : Int32) [(.int (35 : Int32)), (.int (nar .char (atv cd ((((p1.toUInt64 >>> ((28 : Int32) &&& 0x3f).toInt64.toUInt64).toInt64).toInt32) &&& (15 : Int32))))), (.int (nar .char (atv cd ((((p1.toUInt64 >>> ((24 : Int32) &&& 0x3f).toInt64.toUInt64).toInt64).toInt32) &&& (15 : Int32))))), (.int (nar .char (atv cd ((((p1.toUInt64 >>> ((20 : Int32) &&& 0x3f).toInt64.toUInt64).toInt64).toInt32) &&& (15 : Int32))))), (.int (nar .char (atv cd ((((p1.toUInt64 >>> ((16 : Int32) &&& 0x3f).toInt64.toUInt64).toInt64).toInt32) &&& (15 : Int32))))), (.int (nar .char (atv cd ((((p1.toUInt64 >>> ((12 : Int32) &&& 0x3f).toInt64.toUInt64).toInt64).toInt32) &&& (15 : Int32))))), (.int (35 : Int32)), (.int (35 : Int32)), (.int (35 : Int32)), (.int (35 : Int32))] (.int (0 : Int32)) := Arv.set Ar70 q70 S70 N70 H70 G70 (fits_nar_char _) W70 5 rfl (Nat.le_of_ble_eq_true rfl)
  have F71 := F60.wr W70
  have F72 := own_tab_other F61 W70 ne_dg
  have Z73 : n0 ≤ h70.size := by rw [W70.size]; exact Z62
  have NF70 := Fr.snoc X70 NF59 g_a2
  have K74 := K63.wr W70 (Or.inl (List.mem_of_getElem? (i := 0) rfl))
  have P75 : own_Pr p.tables e below S0 T70 (mkF m 37 #[.val (.long p1), .second, .val (.ref a2), .val (.int (1 : Int32)), .val (.int (4 : Int32)), .val (.int (12 : Int32))] []) := fun t k => P69 t (st70 _ k)
  have P76 : own_Pr p.tables e below S0 T70 (mkF m 24 #[.val (.long p1), .second, .val (.ref a2), .val (.int (1 : Int32)), .val (.int (5 : Int32)), .val (.int (8 : Int32))] [(.int (6 : Int32)), (.ref a2)]) := fun t k => P75 t (by
    refine XS.iinc X70.here hx rfl (hb hby d1_37) rfl (l' := #[.val (.long p1), .second, .val (.ref a2), .val (.int (1 : Int32)), .val (.int (5 : Int32)), .val (.int (12 : Int32))]) rfl ?_
    refine XS.goto X70.here hx rfl (pc0 := 40) (pc' := 3) rfl (hb hby d1_40) (by decide) (by decide) ?_
    refine XS.iload X70.here hx rfl (hb hby d1_3) rfl ?_
    refine XS.bipush X70.here hx rfl (hb hby d1_5) ?_
    refine XS.icmpNo X70.here hx rfl (hb hby d1_7) rfl (by decide) ?_
    refine XS.iconst X70.here hx rfl (hb hby d1_10) ?_
    refine XS.bipush X70.here hx rfl (hb hby d1_11) ?_
    refine XS.iload X70.here hx rfl (hb hby d1_13) rfl ?_
    show Steps p.tables e below (T70.setTop (mkF m 15 #[.val (.long p1), .second, .val (.ref a2), .val (.int (1 : Int32)), .val (.int (5 : Int32)), .val (.int (12 : Int32))] [(.int (5 : Int32)), (.int (7 : Int32)), (.int (4 : Int32))])) _
    refine XS.isub X70.here hx rfl (hb hby d1_15) rfl ?_
    refine XS.imul X70.here hx rfl (hb hby d1_16) rfl ?_
    refine XS.istore X70.here hx rfl (hb hby d1_17) rfl (l' := #[.val (.long p1), .second, .val (.ref a2), .val (.int (1 : Int32)), .val (.int (5 : Int32)), .val (.int (8 : Int32))]) rfl ?_
    refine XS.aloadN X70.here hx rfl (hb hby d1_19) rfl rfl ?_
    refine XS.iloadN X70.here hx rfl (hb hby d1_20) rfl ?_
    refine XS.iload X70.here hx rfl (hb hby d1_21) rfl ?_
    refine XS.iadd X70.here hx rfl (hb hby d1_23) rfl ?_
    exact k)
  obtain ⟨T77, X77, e77, st77⟩ := getS2 X70 hx hZ hown (host := "") (Or.inl (hw _ (List.mem_of_getElem? (i := 7) rfl))) Via.refl e70 F71 (g := (mkF m 24 #[.val (.long p1), .second, .val (.ref a2), .val (.int (1 : Int32)), .val (.int (5 : Int32)), .val (.int (8 : Int32))] [(.int (6 : Int32)), (.ref a2)])) rfl (hb hby d1_24)
  have P78 : own_Pr p.tables e below S0 T77 (mkF m 27 #[.val (.long p1), .second, .val (.ref a2), .val (.int (1 : Int32)), .val (.int (5 : Int32)), .val (.int (8 : Int32))] [(.ref dg), (.int (6 : Int32)), (.ref a2)]) := fun t k => P76 t (st77 _ k)
  have hin35_79 : ¬ (((((p1.toUInt64 >>> ((8 : Int32) &&& 0x3f).toInt64.toUInt64).toInt64).toInt32) &&& (15 : Int32)) < 0 ∨ cd.slots.size ≤ (((((p1.toUInt64 >>> ((8 : Int32) &&& 0x3f).toInt64.toUInt64).toInt64).toInt32) &&& (15 : Int32))).toNatClampNeg) := inb_of F72.2.1 (own_n16 _)
  have P80 : own_Pr p.tables e below S0 T77 (mkF m 36 #[.val (.long p1), .second, .val (.ref a2), .val (.int (1 : Int32)), .val (.int (5 : Int32)), .val (.int (8 : Int32))] [(.int (atv cd ((((p1.toUInt64 >>> ((8 : Int32) &&& 0x3f).toInt64.toUInt64).toInt64).toInt32) &&& (15 : Int32)))), (.int (6 : Int32)), (.ref a2)]) := fun t k => P78 t (by
    refine XS.lloadN X77.here hx rfl (hb hby d1_27) rfl ?_
    refine XS.iload X77.here hx rfl (hb hby d1_28) rfl ?_
    refine XS.lushr X77.here hx rfl (hb hby d1_30) rfl ?_
    refine XS.l2i X77.here hx rfl (hb hby d1_31) rfl ?_
    refine XS.bipush X77.here hx rfl (hb hby d1_32) ?_
    refine XS.iand X77.here hx rfl (hb hby d1_34) rfl ?_
    refine X77.caload hx (j := ((((p1.toUInt64 >>> ((8 : Int32) &&& 0x3f).toInt64.toUInt64).toInt64).toInt32) &&& (15 : Int32))) (v := .int (atv cd ((((p1.toUInt64 >>> ((8 : Int32) &&& 0x3f).toInt64.toUInt64).toInt64).toInt32) &&& (15 : Int32)))) (by rw [e77]; exact F72.1.1) (State.isArrayOf_alike hZ.alike F72.1.2.1) F72.1.2.2 hin35_79 (F72.2.2.2 _ hin35_79) (g := (mkF m 35 #[.val (.long p1), .second, .val (.ref a2), .val (.int (1 : Int32)), .val (.int (5 : Int32)), .val (.int (8 : Int32))] [(.int ((((p1.toUInt64 >>> ((8 : Int32) &&& 0x3f).toInt64.toUInt64).toInt64).toInt32) &&& (15 : Int32))), (.ref dg), (.int (6 : Int32)), (.ref a2)])) rfl rfl (hb hby d1_35) _ ?_
    exact k)
  obtain ⟨cl81, Ar81, q81, S81, N81, H81, G81⟩ := id V70
  have hin81 : ¬ ((6 : Int32) < 0 ∨ cl81.slots.size ≤ ((6 : Int32)).toNatClampNeg) := inb_of S81 ⟨by decide, by decide⟩
  obtain ⟨T81, h81, X81, e81, W81, st81⟩ := stC X77 hx hZ e77 Ar81 (j := (6 : Int32)) hin81 (g := (mkF m 36 #[.val (.long p1), .second, .val (.ref a2), .val (.int (1 : Int32)), .val (.int (5 : Int32)), .val (.int (8 : Int32))] [(.int (atv cd ((((p1.toUInt64 >>> ((8 : Int32) &&& 0x3f).toInt64.toUInt64).toInt64).toInt32) &&& (15 : Int32)))), (.int (6 : Int32)), (.ref a2)])) rfl rfl (hb hby d1_36)
  have V81 : Arv Z h81 a2 kk .char (10 : Int32) [(.int (35 : Int32)), (.int (nar .char (atv cd ((((p1.toUInt64 >>> ((28 : Int32) &&& 0x3f).toInt64.toUInt64).toInt64).toInt32) &&& (15 : Int32))))), (.int (nar .char (atv cd ((((p1.toUInt64 >>> ((24 : Int32) &&& 0x3f).toInt64.toUInt64).toInt64).toInt32) &&& (15 : Int32))))), (.int (nar .char (atv cd ((((p1.toUInt64 >>> ((20 : Int32) &&& 0x3f).toInt64.toUInt64).toInt64).toInt32) &&& (15 : Int32))))), (.int (nar .char (atv cd ((((p1.toUInt64 >>> ((16 : Int32) &&& 0x3f).toInt64.toUInt64).toInt64).toInt32) &&& (15 : Int32))))), (.int (nar .char (atv cd ((((p1.toUInt64 >>> ((12 : Int32) &&& 0x3f).toInt64.toUInt64).toInt64).toInt32) &&& (15 : Int32))))), (.int (nar .char (atv cd ((((p1.toUInt64 >>> ((8 : Int32) &&& 0x3f).toInt64.toUInt64).toInt64).toInt32) &&& (15 : Int32))))), (.int (35 : Int32)), (.int (35 : Int32)), (.int (35 : Int32))] (.int (0 : Int32)) := Arv.set Ar81 q81 S81 N81 H81 G81 (fits_nar_char _) W81 6 rfl (Nat.le_of_ble_eq_true rfl)
  have F82 := F71.wr W81
  have F83 := own_tab_other F72 W81 ne_dg
  have Z84 : n0 ≤ h81.size := by rw [W81.size]; exact Z73
  have NF81 := Fr.snoc X81 NF70 g_a2
  have K85 := K74.wr W81 (Or.inl (List.mem_of_getElem? (i := 0) rfl))
  have P86 : own_Pr p.tables e below S0 T81 (mkF m 37 #[.val (.long p1), .second, .val (.ref a2), .val (.int (1 : Int32)), .val (.int (5 : Int32)), .val (.int (8 : Int32))] []) := fun t k => P80 t (st81 _ k)
  have P87 : own_Pr p.tables e below S0 T81 (mkF m 24 #[.val (.long p1), .second, .val (.ref a2), .val (.int (1 : Int32)), .val (.int (6 : Int32)), .val (.int (4 : Int32))] [(.int (7 : Int32)), (.ref a2)]) := fun t k => P86 t (by
    refine XS.iinc X81.here hx rfl (hb hby d1_37) rfl (l' := #[.val (.long p1), .second, .val (.ref a2), .val (.int (1 : Int32)), .val (.int (6 : Int32)), .val (.int (8 : Int32))]) rfl ?_
    refine XS.goto X81.here hx rfl (pc0 := 40) (pc' := 3) rfl (hb hby d1_40) (by decide) (by decide) ?_
    refine XS.iload X81.here hx rfl (hb hby d1_3) rfl ?_
    refine XS.bipush X81.here hx rfl (hb hby d1_5) ?_
    refine XS.icmpNo X81.here hx rfl (hb hby d1_7) rfl (by decide) ?_
    refine XS.iconst X81.here hx rfl (hb hby d1_10) ?_
    refine XS.bipush X81.here hx rfl (hb hby d1_11) ?_
    refine XS.iload X81.here hx rfl (hb hby d1_13) rfl ?_
    show Steps p.tables e below (T81.setTop (mkF m 15 #[.val (.long p1), .second, .val (.ref a2), .val (.int (1 : Int32)), .val (.int (6 : Int32)), .val (.int (8 : Int32))] [(.int (6 : Int32)), (.int (7 : Int32)), (.int (4 : Int32))])) _
    refine XS.isub X81.here hx rfl (hb hby d1_15) rfl ?_
    refine XS.imul X81.here hx rfl (hb hby d1_16) rfl ?_
    refine XS.istore X81.here hx rfl (hb hby d1_17) rfl (l' := #[.val (.long p1), .second, .val (.ref a2), .val (.int (1 : Int32)), .val (.int (6 : Int32)), .val (.int (4 : Int32))]) rfl ?_
    refine XS.aloadN X81.here hx rfl (hb hby d1_19) rfl rfl ?_
    refine XS.iloadN X81.here hx rfl (hb hby d1_20) rfl ?_
    refine XS.iload X81.here hx rfl (hb hby d1_21) rfl ?_
    refine XS.iadd X81.here hx rfl (hb hby d1_23) rfl ?_
    exact k)
  obtain ⟨T88, X88, e88, st88⟩ := getS2 X81 hx hZ hown (host := "") (Or.inl (hw _ (List.mem_of_getElem? (i := 7) rfl))) Via.refl e81 F82 (g := (mkF m 24 #[.val (.long p1), .second, .val (.ref a2), .val (.int (1 : Int32)), .val (.int (6 : Int32)), .val (.int (4 : Int32))] [(.int (7 : Int32)), (.ref a2)])) rfl (hb hby d1_24)
  have P89 : own_Pr p.tables e below S0 T88 (mkF m 27 #[.val (.long p1), .second, .val (.ref a2), .val (.int (1 : Int32)), .val (.int (6 : Int32)), .val (.int (4 : Int32))] [(.ref dg), (.int (7 : Int32)), (.ref a2)]) := fun t k => P87 t (st88 _ k)
  have hin35_90 : ¬ (((((p1.toUInt64 >>> ((4 : Int32) &&& 0x3f).toInt64.toUInt64).toInt64).toInt32) &&& (15 : Int32)) < 0 ∨ cd.slots.size ≤ (((((p1.toUInt64 >>> ((4 : Int32) &&& 0x3f).toInt64.toUInt64).toInt64).toInt32) &&& (15 : Int32))).toNatClampNeg) := inb_of F83.2.1 (own_n16 _)
  have P91 : own_Pr p.tables e below S0 T88 (mkF m 36 #[.val (.long p1), .second, .val (.ref a2), .val (.int (1 : Int32)), .val (.int (6 : Int32)), .val (.int (4 : Int32))] [(.int (atv cd ((((p1.toUInt64 >>> ((4 : Int32) &&& 0x3f).toInt64.toUInt64).toInt64).toInt32) &&& (15 : Int32)))), (.int (7 : Int32)), (.ref a2)]) := fun t k => P89 t (by
    refine XS.lloadN X88.here hx rfl (hb hby d1_27) rfl ?_
    refine XS.iload X88.here hx rfl (hb hby d1_28) rfl ?_
    refine XS.lushr X88.here hx rfl (hb hby d1_30) rfl ?_
    refine XS.l2i X88.here hx rfl (hb hby d1_31) rfl ?_
    refine XS.bipush X88.here hx rfl (hb hby d1_32) ?_
    refine XS.iand X88.here hx rfl (hb hby d1_34) rfl ?_
    refine X88.caload hx (j := ((((p1.toUInt64 >>> ((4 : Int32) &&& 0x3f).toInt64.toUInt64).toInt64).toInt32) &&& (15 : Int32))) (v := .int (atv cd ((((p1.toUInt64 >>> ((4 : Int32) &&& 0x3f).toInt64.toUInt64).toInt64).toInt32) &&& (15 : Int32)))) (by rw [e88]; exact F83.1.1) (State.isArrayOf_alike hZ.alike F83.1.2.1) F83.1.2.2 hin35_90 (F83.2.2.2 _ hin35_90) (g := (mkF m 35 #[.val (.long p1), .second, .val (.ref a2), .val (.int (1 : Int32)), .val (.int (6 : Int32)), .val (.int (4 : Int32))] [(.int ((((p1.toUInt64 >>> ((4 : Int32) &&& 0x3f).toInt64.toUInt64).toInt64).toInt32) &&& (15 : Int32))), (.ref dg), (.int (7 : Int32)), (.ref a2)])) rfl rfl (hb hby d1_35) _ ?_
    exact k)
  obtain ⟨cl92, Ar92, q92, S92, N92, H92, G92⟩ := id V81
  have hin92 : ¬ ((7 : Int32) < 0 ∨ cl92.slots.size ≤ ((7 : Int32)).toNatClampNeg) := inb_of S92 ⟨by decide, by decide⟩
  obtain ⟨T92, h92, X92, e92, W92, st92⟩ := stC X88 hx hZ e88 Ar92 (j := (7 : Int32)) hin92 (g := (mkF m 36 #[.val (.long p1), .second, .val (.ref a2), .val (.int (1 : Int32)), .val (.int (6 : Int32)), .val (.int (4 : Int32))] [(.int (atv cd ((((p1.toUInt64 >>> ((4 : Int32) &&& 0x3f).toInt64.toUInt64).toInt64).toInt32) &&& (15 : Int32)))), (.int (7 : Int32)), (.ref a2)])) rfl rfl (hb hby d1_36)
  have V92 : Arv Z h92 a2 kk .char (10 : Int32) [(.int (35 : Int32)), (.int (nar .char (atv cd ((((p1.toUInt64 >>> ((28 : Int32) &&& 0x3f).toInt64.toUInt64).toInt64).toInt32) &&& (15 : Int32))))), (.int (nar .char (atv cd ((((p1.toUInt64 >>> ((24 : Int32) &&& 0x3f).toInt64.toUInt64).toInt64).toInt32) &&& (15 : Int32))))), (.int (nar .char (atv cd ((((p1.toUInt64 >>> ((20 : Int32) &&& 0x3f).toInt64.toUInt64).toInt64).toInt32) &&& (15 : Int32))))), (.int (nar .char (atv cd ((((p1.toUInt64 >>> ((16 : Int32) &&& 0x3f).toInt64.toUInt64).toInt64).toInt32) &&& (15 : Int32))))), (.int (nar .char (atv cd ((((p1.toUInt64 >>> ((12 : Int32) &&& 0x3f).toInt64.toUInt64).toInt64).toInt32) &&& (15 : Int32))))), (.int (nar .char (atv cd ((((p1.toUInt64 >>> ((8 : Int32) &&& 0x3f).toInt64.toUInt64).toInt64).toInt32) &&& (15 : Int32))))), (.int (nar .char (atv cd ((((p1.toUInt64 >>> ((4 : Int32) &&& 0x3f).toInt64.toUInt64).toInt64).toInt32) &&& (15 : Int32))))), (.int (35 : Int32)), (.int (35 : Int32))] (.int (0 : Int32)) := Arv.set Ar92 q92 S92 N92 H92 G92 (fits_nar_char _) W92 7 rfl (Nat.le_of_ble_eq_true rfl)
  have F93 := F82.wr W92
  have F94 := own_tab_other F83 W92 ne_dg
  have Z95 : n0 ≤ h92.size := by rw [W92.size]; exact Z84
  have NF92 := Fr.snoc X92 NF81 g_a2
  have K96 := K85.wr W92 (Or.inl (List.mem_of_getElem? (i := 0) rfl))
  have P97 : own_Pr p.tables e below S0 T92 (mkF m 37 #[.val (.long p1), .second, .val (.ref a2), .val (.int (1 : Int32)), .val (.int (6 : Int32)), .val (.int (4 : Int32))] []) := fun t k => P91 t (st92 _ k)
  have P98 : own_Pr p.tables e below S0 T92 (mkF m 24 #[.val (.long p1), .second, .val (.ref a2), .val (.int (1 : Int32)), .val (.int (7 : Int32)), .val (.int (0 : Int32))] [(.int (8 : Int32)), (.ref a2)]) := fun t k => P97 t (by
    refine XS.iinc X92.here hx rfl (hb hby d1_37) rfl (l' := #[.val (.long p1), .second, .val (.ref a2), .val (.int (1 : Int32)), .val (.int (7 : Int32)), .val (.int (4 : Int32))]) rfl ?_
    refine XS.goto X92.here hx rfl (pc0 := 40) (pc' := 3) rfl (hb hby d1_40) (by decide) (by decide) ?_
    refine XS.iload X92.here hx rfl (hb hby d1_3) rfl ?_
    refine XS.bipush X92.here hx rfl (hb hby d1_5) ?_
    refine XS.icmpNo X92.here hx rfl (hb hby d1_7) rfl (by decide) ?_
    refine XS.iconst X92.here hx rfl (hb hby d1_10) ?_
    refine XS.bipush X92.here hx rfl (hb hby d1_11) ?_
    refine XS.iload X92.here hx rfl (hb hby d1_13) rfl ?_
    show Steps p.tables e below (T92.setTop (mkF m 15 #[.val (.long p1), .second, .val (.ref a2), .val (.int (1 : Int32)), .val (.int (7 : Int32)), .val (.int (4 : Int32))] [(.int (7 : Int32)), (.int (7 : Int32)), (.int (4 : Int32))])) _
    refine XS.isub X92.here hx rfl (hb hby d1_15) rfl ?_
    refine XS.imul X92.here hx rfl (hb hby d1_16) rfl ?_
    refine XS.istore X92.here hx rfl (hb hby d1_17) rfl (l' := #[.val (.long p1), .second, .val (.ref a2), .val (.int (1 : Int32)), .val (.int (7 : Int32)), .val (.int (0 : Int32))]) rfl ?_
    refine XS.aloadN X92.here hx rfl (hb hby d1_19) rfl rfl ?_
    refine XS.iloadN X92.here hx rfl (hb hby d1_20) rfl ?_
    refine XS.iload X92.here hx rfl (hb hby d1_21) rfl ?_
    refine XS.iadd X92.here hx rfl (hb hby d1_23) rfl ?_
    exact k)
  obtain ⟨T99, X99, e99, st99⟩ := getS2 X92 hx hZ hown (host := "") (Or.inl (hw _ (List.mem_of_getElem? (i := 7) rfl))) Via.refl e92 F93 (g := (mkF m 24 #[.val (.long p1), .second, .val (.ref a2), .val (.int (1 : Int32)), .val (.int (7 : Int32)), .val (.int (0 : Int32))] [(.int (8 : Int32)), (.ref a2)])) rfl (hb hby d1_24)
  have P100 : own_Pr p.tables e below S0 T99 (mkF m 27 #[.val (.long p1), .second, .val (.ref a2), .val (.int (1 : Int32)), .val (.int (7 : Int32)), .val (.int (0 : Int32))] [(.ref dg), (.int (8 : Int32)), (.ref a2)]) := fun t k => P98 t (st99 _ k)
  have hin35_101 : ¬ (((((p1.toUInt64 >>> ((0 : Int32) &&& 0x3f).toInt64.toUInt64).toInt64).toInt32) &&& (15 : Int32)) < 0 ∨ cd.slots.size ≤ (((((p1.toUInt64 >>> ((0 : Int32) &&& 0x3f).toInt64.toUInt64).toInt64).toInt32) &&& (15 : Int32))).toNatClampNeg) := inb_of F94.2.1 (own_n16 _)
  have P102 : own_Pr p.tables e below S0 T99 (mkF m 36 #[.val (.long p1), .second, .val (.ref a2), .val (.int (1 : Int32)), .val (.int (7 : Int32)), .val (.int (0 : Int32))] [(.int (atv cd ((((p1.toUInt64 >>> ((0 : Int32) &&& 0x3f).toInt64.toUInt64).toInt64).toInt32) &&& (15 : Int32)))), (.int (8 : Int32)), (.ref a2)]) := fun t k => P100 t (by
    refine XS.lloadN X99.here hx rfl (hb hby d1_27) rfl ?_
    refine XS.iload X99.here hx rfl (hb hby d1_28) rfl ?_
    refine XS.lushr X99.here hx rfl (hb hby d1_30) rfl ?_
    refine XS.l2i X99.here hx rfl (hb hby d1_31) rfl ?_
    refine XS.bipush X99.here hx rfl (hb hby d1_32) ?_
    refine XS.iand X99.here hx rfl (hb hby d1_34) rfl ?_
    refine X99.caload hx (j := ((((p1.toUInt64 >>> ((0 : Int32) &&& 0x3f).toInt64.toUInt64).toInt64).toInt32) &&& (15 : Int32))) (v := .int (atv cd ((((p1.toUInt64 >>> ((0 : Int32) &&& 0x3f).toInt64.toUInt64).toInt64).toInt32) &&& (15 : Int32)))) (by rw [e99]; exact F94.1.1) (State.isArrayOf_alike hZ.alike F94.1.2.1) F94.1.2.2 hin35_101 (F94.2.2.2 _ hin35_101) (g := (mkF m 35 #[.val (.long p1), .second, .val (.ref a2), .val (.int (1 : Int32)), .val (.int (7 : Int32)), .val (.int (0 : Int32))] [(.int ((((p1.toUInt64 >>> ((0 : Int32) &&& 0x3f).toInt64.toUInt64).toInt64).toInt32) &&& (15 : Int32))), (.ref dg), (.int (8 : Int32)), (.ref a2)])) rfl rfl (hb hby d1_35) _ ?_
    exact k)
  obtain ⟨cl103, Ar103, q103, S103, N103, H103, G103⟩ := id V92
  have hin103 : ¬ ((8 : Int32) < 0 ∨ cl103.slots.size ≤ ((8 : Int32)).toNatClampNeg) := inb_of S103 ⟨by decide, by decide⟩
  obtain ⟨T103, h103, X103, e103, W103, st103⟩ := stC X99 hx hZ e99 Ar103 (j := (8 : Int32)) hin103 (g := (mkF m 36 #[.val (.long p1), .second, .val (.ref a2), .val (.int (1 : Int32)), .val (.int (7 : Int32)), .val (.int (0 : Int32))] [(.int (atv cd ((((p1.toUInt64 >>> ((0 : Int32) &&& 0x3f).toInt64.toUInt64).toInt64).toInt32) &&& (15 : Int32)))), (.int (8 : Int32)), (.ref a2)])) rfl rfl (hb hby d1_36)
  have V103 : Arv Z h103 a2 kk .char (10 : Int32) [(.int (35 : Int32)), (.int (nar .char (atv cd ((((p1.toUInt64 >>> ((28 : Int32) &&& 0x3f).toInt64.toUInt64).toInt64).toInt32) &&& (15 : Int32))))), (.int (nar .char (atv cd ((((p1.toUInt64 >>> ((24 : Int32) &&& 0x3f).toInt64.toUInt64).toInt64).toInt32) &&& (15 : Int32))))), (.int (nar .char (atv cd ((((p1.toUInt64 >>> ((20 : Int32) &&& 0x3f).toInt64.toUInt64).toInt64).toInt32) &&& (15 : Int32))))), (.int (nar .char (atv cd ((((p1.toUInt64 >>> ((16 : Int32) &&& 0x3f).toInt64.toUInt64).toInt64).toInt32) &&& (15 : Int32))))), (.int (nar .char (atv cd ((((p1.toUInt64 >>> ((12 : Int32) &&& 0x3f).toInt64.toUInt64).toInt64).toInt32) &&& (15 : Int32))))), (.int (nar .char (atv cd ((((p1.toUInt64 >>> ((8 : Int32) &&& 0x3f).toInt64.toUInt64).toInt64).toInt32) &&& (15 : Int32))))), (.int (nar .char (atv cd ((((p1.toUInt64 >>> ((4 : Int32) &&& 0x3f).toInt64.toUInt64).toInt64).toInt32) &&& (15 : Int32))))), (.int (nar .char (atv cd ((((p1.toUInt64 >>> ((0 : Int32) &&& 0x3f).toInt64.toUInt64).toInt64).toInt32) &&& (15 : Int32))))), (.int (35 : Int32))] (.int (0 : Int32)) := Arv.set Ar103 q103 S103 N103 H103 G103 (fits_nar_char _) W103 8 rfl (Nat.le_of_ble_eq_true rfl)
  have F104 := F93.wr W103
  have F105 := own_tab_other F94 W103 ne_dg
  have Z106 : n0 ≤ h103.size := by rw [W103.size]; exact Z95
  have NF103 := Fr.snoc X103 NF92 g_a2
  have K107 := K96.wr W103 (Or.inl (List.mem_of_getElem? (i := 0) rfl))
  have P108 : own_Pr p.tables e below S0 T103 (mkF m 37 #[.val (.long p1), .second, .val (.ref a2), .val (.int (1 : Int32)), .val (.int (7 : Int32)), .val (.int (0 : Int32))] []) := fun t k => P102 t (st103 _ k)
  have P109 : own_Pr p.tables e below S0 T103 (mkF m 43 #[.val (.long p1), .second, .val (.ref a2), .val (.int (1 : Int32)), .val (.int (8 : Int32)), .val (.int (0 : Int32))] []) := fun t k => P108 t (by
    refine XS.iinc X103.here hx rfl (hb hby d1_37) rfl (l' := #[.val (.long p1), .second, .val (.ref a2), .val (.int (1 : Int32)), .val (.int (8 : Int32)), .val (.int (0 : Int32))]) rfl ?_
    refine XS.goto X103.here hx rfl (pc0 := 40) (pc' := 3) rfl (hb hby d1_40) (by decide) (by decide) ?_
    refine XS.iload X103.here hx rfl (hb hby d1_3) rfl ?_
    refine XS.bipush X103.here hx rfl (hb hby d1_5) ?_
    refine XS.icmpYes X103.here hx rfl (pc0 := 7) (pc' := 43) rfl (hb hby d1_7) rfl (by decide) (by decide) (by decide) ?_
    exact k)
  obtain ⟨fs, hr, hrun, hended, hW, hsame⟩ := X103.leave (v := none) (fun _ => rfl)
  have fin : Steps p.tables e below S0 (T103.setFrames fs) := P109 _ (X103.returnOut hx Bd.returns (hb hby d1_43) hr)
  rw [hS0] at fin
  refine ⟨_, _, fin, hrun, hended, _, _, rfl, ?_, ⟨_, rfl⟩, hW, hsame.mono (by decide) (by decide)⟩
  show own_QW Z a2 kk [35, own_dg cd p1 28, own_dg cd p1 24, own_dg cd p1 20, own_dg cd p1 16, own_dg cd p1 12, own_dg cd p1 8, own_dg cd p1 4, own_dg cd p1 0, 35] h0 n0 _ T103.heap _
  rw [e103]
  exact ⟨rfl, NF103, K107, V103⟩
theorem ef_1_2 (m : MethodId) (p1 : Int64) (a2 : Addr) : entryFrame m #[(.long p1), (.ref a2), (.int (2 : Int32))] 6 = mkF m 0 #[.val (.long p1), .second, .val (.ref a2), .val (.int (2 : Int32)), .unset, .unset] [] := by first | (simp [entryFrame, mkF, argsToLocals, Value.category]; done) | rfl
set_option maxRecDepth 65536 in
set_option maxHeartbeats 40000000 in
theorem rm1_2 (l : Launch) (Z : State) (a0 : Array Value) (hw : ∀ d ∈ tables_1, d.before a0 Z = true) (ws : List Jvm.Cond) (p1 : Int64) (a2 : Addr) (dg : Addr) (cd : Cell) (kk : ClassId) (h0 : Heap) (n0 : Nat) (Z0 : n0 ≤ h0.size) (S_dg : Sta Z h0 "com/example/enqueue_to_disk/enqueuetodisk/format/internal/Unsigned32" "DIGITS" "[C" (.ref dg)) (T_dg : Tab Z h0 dg cd .char 16) (V_a2 : Arv Z h0 a2 kk .char 10 [(.int (35 : Int32)), (.int (35 : Int32)), (.int (35 : Int32)), (.int (35 : Int32)), (.int (35 : Int32)), (.int (35 : Int32)), (.int (35 : Int32)), (.int (35 : Int32)), (.int (35 : Int32)), (.int (35 : Int32))] (.int (0 : Int32))) (g_a2 : n0 ≤ a2) (ne_dg : dg ≠ a2) :
    MetFree l (⟨"com/example/enqueue_to_disk/enqueuetodisk/format/internal/Unsigned32", "writeHex", "(J[CI)V"⟩ : MethodName) (head1 (Jvm.Cond.code (⟨"com/example/enqueue_to_disk/enqueuetodisk/format/internal/Unsigned32", "writeHex", "(J[CI)V"⟩ : MethodName) prog_111_method_3_code 6 none :: ws) ({ frames := 0, cells := 0, slots := 0, locals := 0 } : Room)) (fun a U => a = #[(.long p1), (.ref a2), (.int (2 : Int32))] ∧ Z.Warmed39 U.vm ∧ U.heap = h0) (fun _ _ _ _ _ => True) (fun _ U o U' => ∃ v L, o = .returned v ∧ own_QW Z a2 kk [35, 35, own_dg cd p1 28, own_dg cd p1 24, own_dg cd p1 20, own_dg cd p1 16, own_dg cd p1 12, own_dg cd p1 8, own_dg cd p1 4, own_dg cd p1 0] h0 n0 v U'.heap L ∧ FrameEnd U o U' L ({ frames := 0, cells := 0, slots := 0, locals := 0 } : Room).cells ({ frames := 0, cells := 0, slots := 0, locals := 0 } : Room).slots) := by
  refine MetFree.of_bodySF (plainFor_of_name pn_1) hisR ?_
  intro p e s m args below meth c s₁ Bd hml0 hP hK
  obtain ⟨rfl, hZ, hh⟩ := hP
  have hx := Bd.exec
  have hby := Bd.bytes
  have hml : c.maxLocals = 6 := hml0
  have hown : s.vm.findClass "com/example/enqueue_to_disk/enqueuetodisk/format/internal/Unsigned32" = some m.cls := findClass_of_methodNamed Bd.named
  have hnm := (name_of_methodNamed Bd.named Bd.method).1
  have X0 : Stand p l e ({ frames := 0, cells := 0, slots := 0, locals := 0 } : Room) s m #[(.long p1), (.ref a2), (.int (2 : Int32))] below meth c s₁ [] 0 0 := Stand.of_body Bd
  have e0 : s₁.heap = h0 := by rw [← hh, Bd.state]; rfl
  have N0 := Fr.nil n0
  obtain ⟨S0, hS0⟩ : ∃ z, z = s₁.setTop (entryFrame m #[(.long p1), (.ref a2), (.int (2 : Int32))] 6) := ⟨_, rfl⟩
  have P0 : own_Pr p.tables e below S0 s₁ (mkF m 0 #[.val (.long p1), .second, .val (.ref a2), .val (.int (2 : Int32)), .unset, .unset] []) := fun t k => hS0 ▸ castTop (ef_1_2 m p1 a2) k
  have K0 := Keep.refl h0 [a2]
  have P21 : own_Pr p.tables e below S0 s₁ (mkF m 24 #[.val (.long p1), .second, .val (.ref a2), .val (.int (2 : Int32)), .val (.int (0 : Int32)), .val (.int (28 : Int32))] [(.int (2 : Int32)), (.ref a2)]) := fun t k => P0 t (by
    refine XS.iconst X0.here hx rfl (hb hby d1_0) ?_
    refine XS.istore X0.here hx rfl (hb hby d1_1) rfl (l' := #[.val (.long p1), .second, .val (.ref a2), .val (.int (2 : Int32)), .val (.int (0 : Int32)), .unset]) rfl ?_
    refine XS.iload X0.here hx rfl (hb hby d1_3) rfl ?_
    refine XS.bipush X0.here hx rfl (hb hby d1_5) ?_
    refine XS.icmpNo X0.here hx rfl (hb hby d1_7) rfl (by decide) ?_
    refine XS.iconst X0.here hx rfl (hb hby d1_10) ?_
    refine XS.bipush X0.here hx rfl (hb hby d1_11) ?_
    refine XS.iload X0.here hx rfl (hb hby d1_13) rfl ?_
    show Steps p.tables e below (s₁.setTop (mkF m 15 #[.val (.long p1), .second, .val (.ref a2), .val (.int (2 : Int32)), .val (.int (0 : Int32)), .unset] [(.int (0 : Int32)), (.int (7 : Int32)), (.int (4 : Int32))])) _
    refine XS.isub X0.here hx rfl (hb hby d1_15) rfl ?_
    refine XS.imul X0.here hx rfl (hb hby d1_16) rfl ?_
    refine XS.istore X0.here hx rfl (hb hby d1_17) rfl (l' := #[.val (.long p1), .second, .val (.ref a2), .val (.int (2 : Int32)), .val (.int (0 : Int32)), .val (.int (28 : Int32))]) rfl ?_
    refine XS.aloadN X0.here hx rfl (hb hby d1_19) rfl rfl ?_
    refine XS.iloadN X0.here hx rfl (hb hby d1_20) rfl ?_
    refine XS.iload X0.here hx rfl (hb hby d1_21) rfl ?_
    refine XS.iadd X0.here hx rfl (hb hby d1_23) rfl ?_
    exact k)
  obtain ⟨T22, X22, e22, st22⟩ := getS2 X0 hx hZ hown (host := "") (Or.inl (hw _ (List.mem_of_getElem? (i := 7) rfl))) Via.refl e0 S_dg (g := (mkF m 24 #[.val (.long p1), .second, .val (.ref a2), .val (.int (2 : Int32)), .val (.int (0 : Int32)), .val (.int (28 : Int32))] [(.int (2 : Int32)), (.ref a2)])) rfl (hb hby d1_24)
  have P23 : own_Pr p.tables e below S0 T22 (mkF m 27 #[.val (.long p1), .second, .val (.ref a2), .val (.int (2 : Int32)), .val (.int (0 : Int32)), .val (.int (28 : Int32))] [(.ref dg), (.int (2 : Int32)), (.ref a2)]) := fun t k => P21 t (st22 _ k)
  have hin35_24 : ¬ (((((p1.toUInt64 >>> ((28 : Int32) &&& 0x3f).toInt64.toUInt64).toInt64).toInt32) &&& (15 : Int32)) < 0 ∨ cd.slots.size ≤ (((((p1.toUInt64 >>> ((28 : Int32) &&& 0x3f).toInt64.toUInt64).toInt64).toInt32) &&& (15 : Int32))).toNatClampNeg) := inb_of T_dg.2.1 (own_n16 _)
  have P25 : own_Pr p.tables e below S0 T22 (mkF m 36 #[.val (.long p1), .second, .val (.ref a2), .val (.int (2 : Int32)), .val (.int (0 : Int32)), .val (.int (28 : Int32))] [(.int (atv cd ((((p1.toUInt64 >>> ((28 : Int32) &&& 0x3f).toInt64.toUInt64).toInt64).toInt32) &&& (15 : Int32)))), (.int (2 : Int32)), (.ref a2)]) := fun t k => P23 t (by
    refine XS.lloadN X22.here hx rfl (hb hby d1_27) rfl ?_
    refine XS.iload X22.here hx rfl (hb hby d1_28) rfl ?_
    refine XS.lushr X22.here hx rfl (hb hby d1_30) rfl ?_
    refine XS.l2i X22.here hx rfl (hb hby d1_31) rfl ?_
    refine XS.bipush X22.here hx rfl (hb hby d1_32) ?_
    refine XS.iand X22.here hx rfl (hb hby d1_34) rfl ?_
    refine X22.caload hx (j := ((((p1.toUInt64 >>> ((28 : Int32) &&& 0x3f).toInt64.toUInt64).toInt64).toInt32) &&& (15 : Int32))) (v := .int (atv cd ((((p1.toUInt64 >>> ((28 : Int32) &&& 0x3f).toInt64.toUInt64).toInt64).toInt32) &&& (15 : Int32)))) (by rw [e22]; exact T_dg.1.1) (State.isArrayOf_alike hZ.alike T_dg.1.2.1) T_dg.1.2.2 hin35_24 (T_dg.2.2.2 _ hin35_24) (g := (mkF m 35 #[.val (.long p1), .second, .val (.ref a2), .val (.int (2 : Int32)), .val (.int (0 : Int32)), .val (.int (28 : Int32))] [(.int ((((p1.toUInt64 >>> ((28 : Int32) &&& 0x3f).toInt64.toUInt64).toInt64).toInt32) &&& (15 : Int32))), (.ref dg), (.int (2 : Int32)), (.ref a2)])) rfl rfl (hb hby d1_35) _ ?_
    exact k)
  obtain ⟨cl26, Ar26, q26, S26, N26, H26, G26⟩ := id V_a2
  have hin26 : ¬ ((2 : Int32) < 0 ∨ cl26.slots.size ≤ ((2 : Int32)).toNatClampNeg) := inb_of S26 ⟨by decide, by decide⟩
  obtain ⟨T26, h26, X26, e26, W26, st26⟩ := stC X22 hx hZ e22 Ar26 (j := (2 : Int32)) hin26 (g := (mkF m 36 #[.val (.long p1), .second, .val (.ref a2), .val (.int (2 : Int32)), .val (.int (0 : Int32)), .val (.int (28 : Int32))] [(.int (atv cd ((((p1.toUInt64 >>> ((28 : Int32) &&& 0x3f).toInt64.toUInt64).toInt64).toInt32) &&& (15 : Int32)))), (.int (2 : Int32)), (.ref a2)])) rfl rfl (hb hby d1_36)
  have V26 : Arv Z h26 a2 kk .char (10 : Int32) [(.int (35 : Int32)), (.int (35 : Int32)), (.int (nar .char (atv cd ((((p1.toUInt64 >>> ((28 : Int32) &&& 0x3f).toInt64.toUInt64).toInt64).toInt32) &&& (15 : Int32))))), (.int (35 : Int32)), (.int (35 : Int32)), (.int (35 : Int32)), (.int (35 : Int32)), (.int (35 : Int32)), (.int (35 : Int32)), (.int (35 : Int32))] (.int (0 : Int32)) := Arv.set Ar26 q26 S26 N26 H26 G26 (fits_nar_char _) W26 2 rfl (Nat.le_of_ble_eq_true rfl)
  have F27 := S_dg.wr W26
  have F28 := own_tab_other T_dg W26 ne_dg
  have Z29 : n0 ≤ h26.size := by rw [W26.size]; exact Z0
  have NF26 := Fr.snoc X26 N0 g_a2
  have K30 := K0.wr W26 (Or.inl (List.mem_of_getElem? (i := 0) rfl))
  have P31 : own_Pr p.tables e below S0 T26 (mkF m 37 #[.val (.long p1), .second, .val (.ref a2), .val (.int (2 : Int32)), .val (.int (0 : Int32)), .val (.int (28 : Int32))] []) := fun t k => P25 t (st26 _ k)
  have P32 : own_Pr p.tables e below S0 T26 (mkF m 24 #[.val (.long p1), .second, .val (.ref a2), .val (.int (2 : Int32)), .val (.int (1 : Int32)), .val (.int (24 : Int32))] [(.int (3 : Int32)), (.ref a2)]) := fun t k => P31 t (by
    refine XS.iinc X26.here hx rfl (hb hby d1_37) rfl (l' := #[.val (.long p1), .second, .val (.ref a2), .val (.int (2 : Int32)), .val (.int (1 : Int32)), .val (.int (28 : Int32))]) rfl ?_
    refine XS.goto X26.here hx rfl (pc0 := 40) (pc' := 3) rfl (hb hby d1_40) (by decide) (by decide) ?_
    refine XS.iload X26.here hx rfl (hb hby d1_3) rfl ?_
    refine XS.bipush X26.here hx rfl (hb hby d1_5) ?_
    refine XS.icmpNo X26.here hx rfl (hb hby d1_7) rfl (by decide) ?_
    refine XS.iconst X26.here hx rfl (hb hby d1_10) ?_
    refine XS.bipush X26.here hx rfl (hb hby d1_11) ?_
    refine XS.iload X26.here hx rfl (hb hby d1_13) rfl ?_
    show Steps p.tables e below (T26.setTop (mkF m 15 #[.val (.long p1), .second, .val (.ref a2), .val (.int (2 : Int32)), .val (.int (1 : Int32)), .val (.int (28 : Int32))] [(.int (1 : Int32)), (.int (7 : Int32)), (.int (4 : Int32))])) _
    refine XS.isub X26.here hx rfl (hb hby d1_15) rfl ?_
    refine XS.imul X26.here hx rfl (hb hby d1_16) rfl ?_
    refine XS.istore X26.here hx rfl (hb hby d1_17) rfl (l' := #[.val (.long p1), .second, .val (.ref a2), .val (.int (2 : Int32)), .val (.int (1 : Int32)), .val (.int (24 : Int32))]) rfl ?_
    refine XS.aloadN X26.here hx rfl (hb hby d1_19) rfl rfl ?_
    refine XS.iloadN X26.here hx rfl (hb hby d1_20) rfl ?_
    refine XS.iload X26.here hx rfl (hb hby d1_21) rfl ?_
    refine XS.iadd X26.here hx rfl (hb hby d1_23) rfl ?_
    exact k)
  obtain ⟨T33, X33, e33, st33⟩ := getS2 X26 hx hZ hown (host := "") (Or.inl (hw _ (List.mem_of_getElem? (i := 7) rfl))) Via.refl e26 F27 (g := (mkF m 24 #[.val (.long p1), .second, .val (.ref a2), .val (.int (2 : Int32)), .val (.int (1 : Int32)), .val (.int (24 : Int32))] [(.int (3 : Int32)), (.ref a2)])) rfl (hb hby d1_24)
  have P34 : own_Pr p.tables e below S0 T33 (mkF m 27 #[.val (.long p1), .second, .val (.ref a2), .val (.int (2 : Int32)), .val (.int (1 : Int32)), .val (.int (24 : Int32))] [(.ref dg), (.int (3 : Int32)), (.ref a2)]) := fun t k => P32 t (st33 _ k)
  have hin35_35 : ¬ (((((p1.toUInt64 >>> ((24 : Int32) &&& 0x3f).toInt64.toUInt64).toInt64).toInt32) &&& (15 : Int32)) < 0 ∨ cd.slots.size ≤ (((((p1.toUInt64 >>> ((24 : Int32) &&& 0x3f).toInt64.toUInt64).toInt64).toInt32) &&& (15 : Int32))).toNatClampNeg) := inb_of F28.2.1 (own_n16 _)
  have P36 : own_Pr p.tables e below S0 T33 (mkF m 36 #[.val (.long p1), .second, .val (.ref a2), .val (.int (2 : Int32)), .val (.int (1 : Int32)), .val (.int (24 : Int32))] [(.int (atv cd ((((p1.toUInt64 >>> ((24 : Int32) &&& 0x3f).toInt64.toUInt64).toInt64).toInt32) &&& (15 : Int32)))), (.int (3 : Int32)), (.ref a2)]) := fun t k => P34 t (by
    refine XS.lloadN X33.here hx rfl (hb hby d1_27) rfl ?_
    refine XS.iload X33.here hx rfl (hb hby d1_28) rfl ?_
    refine XS.lushr X33.here hx rfl (hb hby d1_30) rfl ?_
    refine XS.l2i X33.here hx rfl (hb hby d1_31) rfl ?_
    refine XS.bipush X33.here hx rfl (hb hby d1_32) ?_
    refine XS.iand X33.here hx rfl (hb hby d1_34) rfl ?_
    refine X33.caload hx (j := ((((p1.toUInt64 >>> ((24 : Int32) &&& 0x3f).toInt64.toUInt64).toInt64).toInt32) &&& (15 : Int32))) (v := .int (atv cd ((((p1.toUInt64 >>> ((24 : Int32) &&& 0x3f).toInt64.toUInt64).toInt64).toInt32) &&& (15 : Int32)))) (by rw [e33]; exact F28.1.1) (State.isArrayOf_alike hZ.alike F28.1.2.1) F28.1.2.2 hin35_35 (F28.2.2.2 _ hin35_35) (g := (mkF m 35 #[.val (.long p1), .second, .val (.ref a2), .val (.int (2 : Int32)), .val (.int (1 : Int32)), .val (.int (24 : Int32))] [(.int ((((p1.toUInt64 >>> ((24 : Int32) &&& 0x3f).toInt64.toUInt64).toInt64).toInt32) &&& (15 : Int32))), (.ref dg), (.int (3 : Int32)), (.ref a2)])) rfl rfl (hb hby d1_35) _ ?_
    exact k)
  obtain ⟨cl37, Ar37, q37, S37, N37, H37, G37⟩ := id V26
  have hin37 : ¬ ((3 : Int32) < 0 ∨ cl37.slots.size ≤ ((3 : Int32)).toNatClampNeg) := inb_of S37 ⟨by decide, by decide⟩
  obtain ⟨T37, h37, X37, e37, W37, st37⟩ := stC X33 hx hZ e33 Ar37 (j := (3 : Int32)) hin37 (g := (mkF m 36 #[.val (.long p1), .second, .val (.ref a2), .val (.int (2 : Int32)), .val (.int (1 : Int32)), .val (.int (24 : Int32))] [(.int (atv cd ((((p1.toUInt64 >>> ((24 : Int32) &&& 0x3f).toInt64.toUInt64).toInt64).toInt32) &&& (15 : Int32)))), (.int (3 : Int32)), (.ref a2)])) rfl rfl (hb hby d1_36)
  have V37 : Arv Z h37 a2 kk .char (10 : Int32) [(.int (35 : Int32)), (.int (35 : Int32)), (.int (nar .char (atv cd ((((p1.toUInt64 >>> ((28 : Int32) &&& 0x3f).toInt64.toUInt64).toInt64).toInt32) &&& (15 : Int32))))), (.int (nar .char (atv cd ((((p1.toUInt64 >>> ((24 : Int32) &&& 0x3f).toInt64.toUInt64).toInt64).toInt32) &&& (15 : Int32))))), (.int (35 : Int32)), (.int (35 : Int32)), (.int (35 : Int32)), (.int (35 : Int32)), (.int (35 : Int32)), (.int (35 : Int32))] (.int (0 : Int32)) := Arv.set Ar37 q37 S37 N37 H37 G37 (fits_nar_char _) W37 3 rfl (Nat.le_of_ble_eq_true rfl)
  have F38 := F27.wr W37
  have F39 := own_tab_other F28 W37 ne_dg
  have Z40 : n0 ≤ h37.size := by rw [W37.size]; exact Z29
  have NF37 := Fr.snoc X37 NF26 g_a2
  have K41 := K30.wr W37 (Or.inl (List.mem_of_getElem? (i := 0) rfl))
  have P42 : own_Pr p.tables e below S0 T37 (mkF m 37 #[.val (.long p1), .second, .val (.ref a2), .val (.int (2 : Int32)), .val (.int (1 : Int32)), .val (.int (24 : Int32))] []) := fun t k => P36 t (st37 _ k)
  have P43 : own_Pr p.tables e below S0 T37 (mkF m 24 #[.val (.long p1), .second, .val (.ref a2), .val (.int (2 : Int32)), .val (.int (2 : Int32)), .val (.int (20 : Int32))] [(.int (4 : Int32)), (.ref a2)]) := fun t k => P42 t (by
    refine XS.iinc X37.here hx rfl (hb hby d1_37) rfl (l' := #[.val (.long p1), .second, .val (.ref a2), .val (.int (2 : Int32)), .val (.int (2 : Int32)), .val (.int (24 : Int32))]) rfl ?_
    refine XS.goto X37.here hx rfl (pc0 := 40) (pc' := 3) rfl (hb hby d1_40) (by decide) (by decide) ?_
    refine XS.iload X37.here hx rfl (hb hby d1_3) rfl ?_
    refine XS.bipush X37.here hx rfl (hb hby d1_5) ?_
    refine XS.icmpNo X37.here hx rfl (hb hby d1_7) rfl (by decide) ?_
    refine XS.iconst X37.here hx rfl (hb hby d1_10) ?_
    refine XS.bipush X37.here hx rfl (hb hby d1_11) ?_
    refine XS.iload X37.here hx rfl (hb hby d1_13) rfl ?_
    show Steps p.tables e below (T37.setTop (mkF m 15 #[.val (.long p1), .second, .val (.ref a2), .val (.int (2 : Int32)), .val (.int (2 : Int32)), .val (.int (24 : Int32))] [(.int (2 : Int32)), (.int (7 : Int32)), (.int (4 : Int32))])) _
    refine XS.isub X37.here hx rfl (hb hby d1_15) rfl ?_
    refine XS.imul X37.here hx rfl (hb hby d1_16) rfl ?_
    refine XS.istore X37.here hx rfl (hb hby d1_17) rfl (l' := #[.val (.long p1), .second, .val (.ref a2), .val (.int (2 : Int32)), .val (.int (2 : Int32)), .val (.int (20 : Int32))]) rfl ?_
    refine XS.aloadN X37.here hx rfl (hb hby d1_19) rfl rfl ?_
    refine XS.iloadN X37.here hx rfl (hb hby d1_20) rfl ?_
    refine XS.iload X37.here hx rfl (hb hby d1_21) rfl ?_
    refine XS.iadd X37.here hx rfl (hb hby d1_23) rfl ?_
    exact k)
  obtain ⟨T44, X44, e44, st44⟩ := getS2 X37 hx hZ hown (host := "") (Or.inl (hw _ (List.mem_of_getElem? (i := 7) rfl))) Via.refl e37 F38 (g := (mkF m 24 #[.val (.long p1), .second, .val (.ref a2), .val (.int (2 : Int32)), .val (.int (2 : Int32)), .val (.int (20 : Int32))] [(.int (4 : Int32)), (.ref a2)])) rfl (hb hby d1_24)
  have P45 : own_Pr p.tables e below S0 T44 (mkF m 27 #[.val (.long p1), .second, .val (.ref a2), .val (.int (2 : Int32)), .val (.int (2 : Int32)), .val (.int (20 : Int32))] [(.ref dg), (.int (4 : Int32)), (.ref a2)]) := fun t k => P43 t (st44 _ k)
  have hin35_46 : ¬ (((((p1.toUInt64 >>> ((20 : Int32) &&& 0x3f).toInt64.toUInt64).toInt64).toInt32) &&& (15 : Int32)) < 0 ∨ cd.slots.size ≤ (((((p1.toUInt64 >>> ((20 : Int32) &&& 0x3f).toInt64.toUInt64).toInt64).toInt32) &&& (15 : Int32))).toNatClampNeg) := inb_of F39.2.1 (own_n16 _)
  have P47 : own_Pr p.tables e below S0 T44 (mkF m 36 #[.val (.long p1), .second, .val (.ref a2), .val (.int (2 : Int32)), .val (.int (2 : Int32)), .val (.int (20 : Int32))] [(.int (atv cd ((((p1.toUInt64 >>> ((20 : Int32) &&& 0x3f).toInt64.toUInt64).toInt64).toInt32) &&& (15 : Int32)))), (.int (4 : Int32)), (.ref a2)]) := fun t k => P45 t (by
    refine XS.lloadN X44.here hx rfl (hb hby d1_27) rfl ?_
    refine XS.iload X44.here hx rfl (hb hby d1_28) rfl ?_
    refine XS.lushr X44.here hx rfl (hb hby d1_30) rfl ?_
    refine XS.l2i X44.here hx rfl (hb hby d1_31) rfl ?_
    refine XS.bipush X44.here hx rfl (hb hby d1_32) ?_
    refine XS.iand X44.here hx rfl (hb hby d1_34) rfl ?_
    refine X44.caload hx (j := ((((p1.toUInt64 >>> ((20 : Int32) &&& 0x3f).toInt64.toUInt64).toInt64).toInt32) &&& (15 : Int32))) (v := .int (atv cd ((((p1.toUInt64 >>> ((20 : Int32) &&& 0x3f).toInt64.toUInt64).toInt64).toInt32) &&& (15 : Int32)))) (by rw [e44]; exact F39.1.1) (State.isArrayOf_alike hZ.alike F39.1.2.1) F39.1.2.2 hin35_46 (F39.2.2.2 _ hin35_46) (g := (mkF m 35 #[.val (.long p1), .second, .val (.ref a2), .val (.int (2 : Int32)), .val (.int (2 : Int32)), .val (.int (20 : Int32))] [(.int ((((p1.toUInt64 >>> ((20 : Int32) &&& 0x3f).toInt64.toUInt64).toInt64).toInt32) &&& (15 : Int32))), (.ref dg), (.int (4 : Int32)), (.ref a2)])) rfl rfl (hb hby d1_35) _ ?_
    exact k)
  obtain ⟨cl48, Ar48, q48, S48, N48, H48, G48⟩ := id V37
  have hin48 : ¬ ((4 : Int32) < 0 ∨ cl48.slots.size ≤ ((4 : Int32)).toNatClampNeg) := inb_of S48 ⟨by decide, by decide⟩
  obtain ⟨T48, h48, X48, e48, W48, st48⟩ := stC X44 hx hZ e44 Ar48 (j := (4 : Int32)) hin48 (g := (mkF m 36 #[.val (.long p1), .second, .val (.ref a2), .val (.int (2 : Int32)), .val (.int (2 : Int32)), .val (.int (20 : Int32))] [(.int (atv cd ((((p1.toUInt64 >>> ((20 : Int32) &&& 0x3f).toInt64.toUInt64).toInt64).toInt32) &&& (15 : Int32)))), (.int (4 : Int32)), (.ref a2)])) rfl rfl (hb hby d1_36)
  have V48 : Arv Z h48 a2 kk .char (10 : Int32) [(.int (35 : Int32)), (.int (35 : Int32)), (.int (nar .char (atv cd ((((p1.toUInt64 >>> ((28 : Int32) &&& 0x3f).toInt64.toUInt64).toInt64).toInt32) &&& (15 : Int32))))), (.int (nar .char (atv cd ((((p1.toUInt64 >>> ((24 : Int32) &&& 0x3f).toInt64.toUInt64).toInt64).toInt32) &&& (15 : Int32))))), (.int (nar .char (atv cd ((((p1.toUInt64 >>> ((20 : Int32) &&& 0x3f).toInt64.toUInt64).toInt64).toInt32) &&& (15 : Int32))))), (.int (35 : Int32)), (.int (35 : Int32)), (.int (35 : Int32)), (.int (35 : Int32)), (.int (35 : Int32))] (.int (0 : Int32)) := Arv.set Ar48 q48 S48 N48 H48 G48 (fits_nar_char _) W48 4 rfl (Nat.le_of_ble_eq_true rfl)
  have F49 := F38.wr W48
  have F50 := own_tab_other F39 W48 ne_dg
  have Z51 : n0 ≤ h48.size := by rw [W48.size]; exact Z40
  have NF48 := Fr.snoc X48 NF37 g_a2
  have K52 := K41.wr W48 (Or.inl (List.mem_of_getElem? (i := 0) rfl))
  have P53 : own_Pr p.tables e below S0 T48 (mkF m 37 #[.val (.long p1), .second, .val (.ref a2), .val (.int (2 : Int32)), .val (.int (2 : Int32)), .val (.int (20 : Int32))] []) := fun t k => P47 t (st48 _ k)
  have P54 : own_Pr p.tables e below S0 T48 (mkF m 24 #[.val (.long p1), .second, .val (.ref a2), .val (.int (2 : Int32)), .val (.int (3 : Int32)), .val (.int (16 : Int32))] [(.int (5 : Int32)), (.ref a2)]) := fun t k => P53 t (by
    refine XS.iinc X48.here hx rfl (hb hby d1_37) rfl (l' := #[.val (.long p1), .second, .val (.ref a2), .val (.int (2 : Int32)), .val (.int (3 : Int32)), .val (.int (20 : Int32))]) rfl ?_
    refine XS.goto X48.here hx rfl (pc0 := 40) (pc' := 3) rfl (hb hby d1_40) (by decide) (by decide) ?_
    refine XS.iload X48.here hx rfl (hb hby d1_3) rfl ?_
    refine XS.bipush X48.here hx rfl (hb hby d1_5) ?_
    refine XS.icmpNo X48.here hx rfl (hb hby d1_7) rfl (by decide) ?_
    refine XS.iconst X48.here hx rfl (hb hby d1_10) ?_
    refine XS.bipush X48.here hx rfl (hb hby d1_11) ?_
    refine XS.iload X48.here hx rfl (hb hby d1_13) rfl ?_
    show Steps p.tables e below (T48.setTop (mkF m 15 #[.val (.long p1), .second, .val (.ref a2), .val (.int (2 : Int32)), .val (.int (3 : Int32)), .val (.int (20 : Int32))] [(.int (3 : Int32)), (.int (7 : Int32)), (.int (4 : Int32))])) _
    refine XS.isub X48.here hx rfl (hb hby d1_15) rfl ?_
    refine XS.imul X48.here hx rfl (hb hby d1_16) rfl ?_
    refine XS.istore X48.here hx rfl (hb hby d1_17) rfl (l' := #[.val (.long p1), .second, .val (.ref a2), .val (.int (2 : Int32)), .val (.int (3 : Int32)), .val (.int (16 : Int32))]) rfl ?_
    refine XS.aloadN X48.here hx rfl (hb hby d1_19) rfl rfl ?_
    refine XS.iloadN X48.here hx rfl (hb hby d1_20) rfl ?_
    refine XS.iload X48.here hx rfl (hb hby d1_21) rfl ?_
    refine XS.iadd X48.here hx rfl (hb hby d1_23) rfl ?_
    exact k)
  obtain ⟨T55, X55, e55, st55⟩ := getS2 X48 hx hZ hown (host := "") (Or.inl (hw _ (List.mem_of_getElem? (i := 7) rfl))) Via.refl e48 F49 (g := (mkF m 24 #[.val (.long p1), .second, .val (.ref a2), .val (.int (2 : Int32)), .val (.int (3 : Int32)), .val (.int (16 : Int32))] [(.int (5 : Int32)), (.ref a2)])) rfl (hb hby d1_24)
  have P56 : own_Pr p.tables e below S0 T55 (mkF m 27 #[.val (.long p1), .second, .val (.ref a2), .val (.int (2 : Int32)), .val (.int (3 : Int32)), .val (.int (16 : Int32))] [(.ref dg), (.int (5 : Int32)), (.ref a2)]) := fun t k => P54 t (st55 _ k)
  have hin35_57 : ¬ (((((p1.toUInt64 >>> ((16 : Int32) &&& 0x3f).toInt64.toUInt64).toInt64).toInt32) &&& (15 : Int32)) < 0 ∨ cd.slots.size ≤ (((((p1.toUInt64 >>> ((16 : Int32) &&& 0x3f).toInt64.toUInt64).toInt64).toInt32) &&& (15 : Int32))).toNatClampNeg) := inb_of F50.2.1 (own_n16 _)
  have P58 : own_Pr p.tables e below S0 T55 (mkF m 36 #[.val (.long p1), .second, .val (.ref a2), .val (.int (2 : Int32)), .val (.int (3 : Int32)), .val (.int (16 : Int32))] [(.int (atv cd ((((p1.toUInt64 >>> ((16 : Int32) &&& 0x3f).toInt64.toUInt64).toInt64).toInt32) &&& (15 : Int32)))), (.int (5 : Int32)), (.ref a2)]) := fun t k => P56 t (by
    refine XS.lloadN X55.here hx rfl (hb hby d1_27) rfl ?_
    refine XS.iload X55.here hx rfl (hb hby d1_28) rfl ?_
    refine XS.lushr X55.here hx rfl (hb hby d1_30) rfl ?_
    refine XS.l2i X55.here hx rfl (hb hby d1_31) rfl ?_
    refine XS.bipush X55.here hx rfl (hb hby d1_32) ?_
    refine XS.iand X55.here hx rfl (hb hby d1_34) rfl ?_
    refine X55.caload hx (j := ((((p1.toUInt64 >>> ((16 : Int32) &&& 0x3f).toInt64.toUInt64).toInt64).toInt32) &&& (15 : Int32))) (v := .int (atv cd ((((p1.toUInt64 >>> ((16 : Int32) &&& 0x3f).toInt64.toUInt64).toInt64).toInt32) &&& (15 : Int32)))) (by rw [e55]; exact F50.1.1) (State.isArrayOf_alike hZ.alike F50.1.2.1) F50.1.2.2 hin35_57 (F50.2.2.2 _ hin35_57) (g := (mkF m 35 #[.val (.long p1), .second, .val (.ref a2), .val (.int (2 : Int32)), .val (.int (3 : Int32)), .val (.int (16 : Int32))] [(.int ((((p1.toUInt64 >>> ((16 : Int32) &&& 0x3f).toInt64.toUInt64).toInt64).toInt32) &&& (15 : Int32))), (.ref dg), (.int (5 : Int32)), (.ref a2)])) rfl rfl (hb hby d1_35) _ ?_
    exact k)
  obtain ⟨cl59, Ar59, q59, S59, N59, H59, G59⟩ := id V48
  have hin59 : ¬ ((5 : Int32) < 0 ∨ cl59.slots.size ≤ ((5 : Int32)).toNatClampNeg) := inb_of S59 ⟨by decide, by decide⟩
  obtain ⟨T59, h59, X59, e59, W59, st59⟩ := stC X55 hx hZ e55 Ar59 (j := (5 : Int32)) hin59 (g := (mkF m 36 #[.val (.long p1), .second, .val (.ref a2), .val (.int (2 : Int32)), .val (.int (3 : Int32)), .val (.int (16 : Int32))] [(.int (atv cd ((((p1.toUInt64 >>> ((16 : Int32) &&& 0x3f).toInt64.toUInt64).toInt64).toInt32) &&& (15 : Int32)))), (.int (5 : Int32)), (.ref a2)])) rfl rfl (hb hby d1_36)
  have V59 : Arv Z h59 a2 kk .char (10 : Int32) [(.int (35 : Int32)), (.int (35 : Int32)), (.int (nar .char (atv cd ((((p1.toUInt64 >>> ((28 : Int32) &&& 0x3f).toInt64.toUInt64).toInt64).toInt32) &&& (15 : Int32))))), (.int (nar .char (atv cd ((((p1.toUInt64 >>> ((24 : Int32) &&& 0x3f).toInt64.toUInt64).toInt64).toInt32) &&& (15 : Int32))))), (.int (nar .char (atv cd ((((p1.toUInt64 >>> ((20 : Int32) &&& 0x3f).toInt64.toUInt64).toInt64).toInt32) &&& (15 : Int32))))), (.int (nar .char (atv cd ((((p1.toUInt64 >>> ((16 : Int32) &&& 0x3f).toInt64.toUInt64).toInt64).toInt32) &&& (15 : Int32))))), (.int (35 : Int32)), (.int (35 : Int32)), (.int (35 : Int32)), (.int (35 : Int32))] (.int (0 : Int32)) := Arv.set Ar59 q59 S59 N59 H59 G59 (fits_nar_char _) W59 5 rfl (Nat.le_of_ble_eq_true rfl)
  have F60 := F49.wr W59
  have F61 := own_tab_other F50 W59 ne_dg
  have Z62 : n0 ≤ h59.size := by rw [W59.size]; exact Z51
  have NF59 := Fr.snoc X59 NF48 g_a2
  have K63 := K52.wr W59 (Or.inl (List.mem_of_getElem? (i := 0) rfl))
  have P64 : own_Pr p.tables e below S0 T59 (mkF m 37 #[.val (.long p1), .second, .val (.ref a2), .val (.int (2 : Int32)), .val (.int (3 : Int32)), .val (.int (16 : Int32))] []) := fun t k => P58 t (st59 _ k)
  have P65 : own_Pr p.tables e below S0 T59 (mkF m 24 #[.val (.long p1), .second, .val (.ref a2), .val (.int (2 : Int32)), .val (.int (4 : Int32)), .val (.int (12 : Int32))] [(.int (6 : Int32)), (.ref a2)]) := fun t k => P64 t (by
    refine XS.iinc X59.here hx rfl (hb hby d1_37) rfl (l' := #[.val (.long p1), .second, .val (.ref a2), .val (.int (2 : Int32)), .val (.int (4 : Int32)), .val (.int (16 : Int32))]) rfl ?_
    refine XS.goto X59.here hx rfl (pc0 := 40) (pc' := 3) rfl (hb hby d1_40) (by decide) (by decide) ?_
    refine XS.iload X59.here hx rfl (hb hby d1_3) rfl ?_
    refine XS.bipush X59.here hx rfl (hb hby d1_5) ?_
    refine XS.icmpNo X59.here hx rfl (hb hby d1_7) rfl (by decide) ?_
    refine XS.iconst X59.here hx rfl (hb hby d1_10) ?_
    refine XS.bipush X59.here hx rfl (hb hby d1_11) ?_
    refine XS.iload X59.here hx rfl (hb hby d1_13) rfl ?_
    show Steps p.tables e below (T59.setTop (mkF m 15 #[.val (.long p1), .second, .val (.ref a2), .val (.int (2 : Int32)), .val (.int (4 : Int32)), .val (.int (16 : Int32))] [(.int (4 : Int32)), (.int (7 : Int32)), (.int (4 : Int32))])) _
    refine XS.isub X59.here hx rfl (hb hby d1_15) rfl ?_
    refine XS.imul X59.here hx rfl (hb hby d1_16) rfl ?_
    refine XS.istore X59.here hx rfl (hb hby d1_17) rfl (l' := #[.val (.long p1), .second, .val (.ref a2), .val (.int (2 : Int32)), .val (.int (4 : Int32)), .val (.int (12 : Int32))]) rfl ?_
    refine XS.aloadN X59.here hx rfl (hb hby d1_19) rfl rfl ?_
    refine XS.iloadN X59.here hx rfl (hb hby d1_20) rfl ?_
    refine XS.iload X59.here hx rfl (hb hby d1_21) rfl ?_
    refine XS.iadd X59.here hx rfl (hb hby d1_23) rfl ?_
    exact k)
  obtain ⟨T66, X66, e66, st66⟩ := getS2 X59 hx hZ hown (host := "") (Or.inl (hw _ (List.mem_of_getElem? (i := 7) rfl))) Via.refl e59 F60 (g := (mkF m 24 #[.val (.long p1), .second, .val (.ref a2), .val (.int (2 : Int32)), .val (.int (4 : Int32)), .val (.int (12 : Int32))] [(.int (6 : Int32)), (.ref a2)])) rfl (hb hby d1_24)
  have P67 : own_Pr p.tables e below S0 T66 (mkF m 27 #[.val (.long p1), .second, .val (.ref a2), .val (.int (2 : Int32)), .val (.int (4 : Int32)), .val (.int (12 : Int32))] [(.ref dg), (.int (6 : Int32)), (.ref a2)]) := fun t k => P65 t (st66 _ k)
  have hin35_68 : ¬ (((((p1.toUInt64 >>> ((12 : Int32) &&& 0x3f).toInt64.toUInt64).toInt64).toInt32) &&& (15 : Int32)) < 0 ∨ cd.slots.size ≤ (((((p1.toUInt64 >>> ((12 : Int32) &&& 0x3f).toInt64.toUInt64).toInt64).toInt32) &&& (15 : Int32))).toNatClampNeg) := inb_of F61.2.1 (own_n16 _)
  have P69 : own_Pr p.tables e below S0 T66 (mkF m 36 #[.val (.long p1), .second, .val (.ref a2), .val (.int (2 : Int32)), .val (.int (4 : Int32)), .val (.int (12 : Int32))] [(.int (atv cd ((((p1.toUInt64 >>> ((12 : Int32) &&& 0x3f).toInt64.toUInt64).toInt64).toInt32) &&& (15 : Int32)))), (.int (6 : Int32)), (.ref a2)]) := fun t k => P67 t (by
    refine XS.lloadN X66.here hx rfl (hb hby d1_27) rfl ?_
    refine XS.iload X66.here hx rfl (hb hby d1_28) rfl ?_
    refine XS.lushr X66.here hx rfl (hb hby d1_30) rfl ?_
    refine XS.l2i X66.here hx rfl (hb hby d1_31) rfl ?_
    refine XS.bipush X66.here hx rfl (hb hby d1_32) ?_
    refine XS.iand X66.here hx rfl (hb hby d1_34) rfl ?_
    refine X66.caload hx (j := ((((p1.toUInt64 >>> ((12 : Int32) &&& 0x3f).toInt64.toUInt64).toInt64).toInt32) &&& (15 : Int32))) (v := .int (atv cd ((((p1.toUInt64 >>> ((12 : Int32) &&& 0x3f).toInt64.toUInt64).toInt64).toInt32) &&& (15 : Int32)))) (by rw [e66]; exact F61.1.1) (State.isArrayOf_alike hZ.alike F61.1.2.1) F61.1.2.2 hin35_68 (F61.2.2.2 _ hin35_68) (g := (mkF m 35 #[.val (.long p1), .second, .val (.ref a2), .val (.int (2 : Int32)), .val (.int (4 : Int32)), .val (.int (12 : Int32))] [(.int ((((p1.toUInt64 >>> ((12 : Int32) &&& 0x3f).toInt64.toUInt64).toInt64).toInt32) &&& (15 : Int32))), (.ref dg), (.int (6 : Int32)), (.ref a2)])) rfl rfl (hb hby d1_35) _ ?_
    exact k)
  obtain ⟨cl70, Ar70, q70, S70, N70, H70, G70⟩ := id V59
  have hin70 : ¬ ((6 : Int32) < 0 ∨ cl70.slots.size ≤ ((6 : Int32)).toNatClampNeg) := inb_of S70 ⟨by decide, by decide⟩
  obtain ⟨T70, h70, X70, e70, W70, st70⟩ := stC X66 hx hZ e66 Ar70 (j := (6 : Int32)) hin70 (g := (mkF m 36 #[.val (.long p1), .second, .val (.ref a2), .val (.int (2 : Int32)), .val (.int (4 : Int32)), .val (.int (12 : Int32))] [(.int (atv cd ((((p1.toUInt64 >>> ((12 : Int32) &&& 0x3f).toInt64.toUInt64).toInt64).toInt32) &&& (15 : Int32)))), (.int (6 : Int32)), (.ref a2)])) rfl rfl (hb hby d1_36)
  have V70 : Arv Z h70 a2 kk .char (10 : Int32) [(.int (35 : Int32)), (.int (35 : Int32)), (.int (nar .char (atv cd ((((p1.toUInt64 >>> ((28 : Int32) &&& 0x3f).toInt64.toUInt64).toInt64).toInt32) &&& (15 : Int32))))), (.int (nar .char (atv cd ((((p1.toUInt64 >>> ((24 : Int32) &&& 0x3f).toInt64.toUInt64).toInt64).toInt32) &&& (15 : Int32))))), (.int (nar .char (atv cd ((((p1.toUInt64 >>> ((20 : Int32) &&& 0x3f).toInt64.toUInt64).toInt64).toInt32) &&& (15 : Int32))))), (.int (nar .char (atv cd ((((p1.toUInt64 >>> ((16 : Int32) &&& 0x3f).toInt64.toUInt64).toInt64).toInt32) &&& (15 : Int32))))), (.int (nar .char (atv cd ((((p1.toUInt64 >>> ((12 : Int32) &&& 0x3f).toInt64.toUInt64).toInt64).toInt32) &&& (15 : Int32))))), (.int (35 : Int32)), (.int (35 : Int32)), (.int (35 : Int32))] (.int (0 : Int32)) := Arv.set Ar70 q70 S70 N70 H70 G70 (fits_nar_char _) W70 6 rfl (Nat.le_of_ble_eq_true rfl)
  have F71 := F60.wr W70
  have F72 := own_tab_other F61 W70 ne_dg
  have Z73 : n0 ≤ h70.size := by rw [W70.size]; exact Z62
  have NF70 := Fr.snoc X70 NF59 g_a2
  have K74 := K63.wr W70 (Or.inl (List.mem_of_getElem? (i := 0) rfl))
  have P75 : own_Pr p.tables e below S0 T70 (mkF m 37 #[.val (.long p1), .second, .val (.ref a2), .val (.int (2 : Int32)), .val (.int (4 : Int32)), .val (.int (12 : Int32))] []) := fun t k => P69 t (st70 _ k)
  have P76 : own_Pr p.tables e below S0 T70 (mkF m 24 #[.val (.long p1), .second, .val (.ref a2), .val (.int (2 : Int32)), .val (.int (5 : Int32)), .val (.int (8 : Int32))] [(.int (7 : Int32)), (.ref a2)]) := fun t k => P75 t (by
    refine XS.iinc X70.here hx rfl (hb hby d1_37) rfl (l' := #[.val (.long p1), .second, .val (.ref a2), .val (.int (2 : Int32)), .val (.int (5 : Int32)), .val (.int (12 : Int32))]) rfl ?_
    refine XS.goto X70.here hx rfl (pc0 := 40) (pc' := 3) rfl (hb hby d1_40) (by decide) (by decide) ?_
    refine XS.iload X70.here hx rfl (hb hby d1_3) rfl ?_
    refine XS.bipush X70.here hx rfl (hb hby d1_5) ?_
    refine XS.icmpNo X70.here hx rfl (hb hby d1_7) rfl (by decide) ?_
    refine XS.iconst X70.here hx rfl (hb hby d1_10) ?_
    refine XS.bipush X70.here hx rfl (hb hby d1_11) ?_
    refine XS.iload X70.here hx rfl (hb hby d1_13) rfl ?_
    show Steps p.tables e below (T70.setTop (mkF m 15 #[.val (.long p1), .second, .val (.ref a2), .val (.int (2 : Int32)), .val (.int (5 : Int32)), .val (.int (12 : Int32))] [(.int (5 : Int32)), (.int (7 : Int32)), (.int (4 : Int32))])) _
    refine XS.isub X70.here hx rfl (hb hby d1_15) rfl ?_
    refine XS.imul X70.here hx rfl (hb hby d1_16) rfl ?_
    refine XS.istore X70.here hx rfl (hb hby d1_17) rfl (l' := #[.val (.long p1), .second, .val (.ref a2), .val (.int (2 : Int32)), .val (.int (5 : Int32)), .val (.int (8 : Int32))]) rfl ?_
    refine XS.aloadN X70.here hx rfl (hb hby d1_19) rfl rfl ?_
    refine XS.iloadN X70.here hx rfl (hb hby d1_20) rfl ?_
    refine XS.iload X70.here hx rfl (hb hby d1_21) rfl ?_
    refine XS.iadd X70.here hx rfl (hb hby d1_23) rfl ?_
    exact k)
  obtain ⟨T77, X77, e77, st77⟩ := getS2 X70 hx hZ hown (host := "") (Or.inl (hw _ (List.mem_of_getElem? (i := 7) rfl))) Via.refl e70 F71 (g := (mkF m 24 #[.val (.long p1), .second, .val (.ref a2), .val (.int (2 : Int32)), .val (.int (5 : Int32)), .val (.int (8 : Int32))] [(.int (7 : Int32)), (.ref a2)])) rfl (hb hby d1_24)
  have P78 : own_Pr p.tables e below S0 T77 (mkF m 27 #[.val (.long p1), .second, .val (.ref a2), .val (.int (2 : Int32)), .val (.int (5 : Int32)), .val (.int (8 : Int32))] [(.ref dg), (.int (7 : Int32)), (.ref a2)]) := fun t k => P76 t (st77 _ k)
  have hin35_79 : ¬ (((((p1.toUInt64 >>> ((8 : Int32) &&& 0x3f).toInt64.toUInt64).toInt64).toInt32) &&& (15 : Int32)) < 0 ∨ cd.slots.size ≤ (((((p1.toUInt64 >>> ((8 : Int32) &&& 0x3f).toInt64.toUInt64).toInt64).toInt32) &&& (15 : Int32))).toNatClampNeg) := inb_of F72.2.1 (own_n16 _)
  have P80 : own_Pr p.tables e below S0 T77 (mkF m 36 #[.val (.long p1), .second, .val (.ref a2), .val (.int (2 : Int32)), .val (.int (5 : Int32)), .val (.int (8 : Int32))] [(.int (atv cd ((((p1.toUInt64 >>> ((8 : Int32) &&& 0x3f).toInt64.toUInt64).toInt64).toInt32) &&& (15 : Int32)))), (.int (7 : Int32)), (.ref a2)]) := fun t k => P78 t (by
    refine XS.lloadN X77.here hx rfl (hb hby d1_27) rfl ?_
    refine XS.iload X77.here hx rfl (hb hby d1_28) rfl ?_
    refine XS.lushr X77.here hx rfl (hb hby d1_30) rfl ?_
    refine XS.l2i X77.here hx rfl (hb hby d1_31) rfl ?_
    refine XS.bipush X77.here hx rfl (hb hby d1_32) ?_
    refine XS.iand X77.here hx rfl (hb hby d1_34) rfl ?_
    refine X77.caload hx (j := ((((p1.toUInt64 >>> ((8 : Int32) &&& 0x3f).toInt64.toUInt64).toInt64).toInt32) &&& (15 : Int32))) (v := .int (atv cd ((((p1.toUInt64 >>> ((8 : Int32) &&& 0x3f).toInt64.toUInt64).toInt64).toInt32) &&& (15 : Int32)))) (by rw [e77]; exact F72.1.1) (State.isArrayOf_alike hZ.alike F72.1.2.1) F72.1.2.2 hin35_79 (F72.2.2.2 _ hin35_79) (g := (mkF m 35 #[.val (.long p1), .second, .val (.ref a2), .val (.int (2 : Int32)), .val (.int (5 : Int32)), .val (.int (8 : Int32))] [(.int ((((p1.toUInt64 >>> ((8 : Int32) &&& 0x3f).toInt64.toUInt64).toInt64).toInt32) &&& (15 : Int32))), (.ref dg), (.int (7 : Int32)), (.ref a2)])) rfl rfl (hb hby d1_35) _ ?_
    exact k)
  obtain ⟨cl81, Ar81, q81, S81, N81, H81, G81⟩ := id V70
  have hin81 : ¬ ((7 : Int32) < 0 ∨ cl81.slots.size ≤ ((7 : Int32)).toNatClampNeg) := inb_of S81 ⟨by decide, by decide⟩
  obtain ⟨T81, h81, X81, e81, W81, st81⟩ := stC X77 hx hZ e77 Ar81 (j := (7 : Int32)) hin81 (g := (mkF m 36 #[.val (.long p1), .second, .val (.ref a2), .val (.int (2 : Int32)), .val (.int (5 : Int32)), .val (.int (8 : Int32))] [(.int (atv cd ((((p1.toUInt64 >>> ((8 : Int32) &&& 0x3f).toInt64.toUInt64).toInt64).toInt32) &&& (15 : Int32)))), (.int (7 : Int32)), (.ref a2)])) rfl rfl (hb hby d1_36)
  have V81 : Arv Z h81 a2 kk .char (10 : Int32) [(.int (35 : Int32)), (.int (35 : Int32)), (.int (nar .char (atv cd ((((p1.toUInt64 >>> ((28 : Int32) &&& 0x3f).toInt64.toUInt64).toInt64).toInt32) &&& (15 : Int32))))), (.int (nar .char (atv cd ((((p1.toUInt64 >>> ((24 : Int32) &&& 0x3f).toInt64.toUInt64).toInt64).toInt32) &&& (15 : Int32))))), (.int (nar .char (atv cd ((((p1.toUInt64 >>> ((20 : Int32) &&& 0x3f).toInt64.toUInt64).toInt64).toInt32) &&& (15 : Int32))))), (.int (nar .char (atv cd ((((p1.toUInt64 >>> ((16 : Int32) &&& 0x3f).toInt64.toUInt64).toInt64).toInt32) &&& (15 : Int32))))), (.int (nar .char (atv cd ((((p1.toUInt64 >>> ((12 : Int32) &&& 0x3f).toInt64.toUInt64).toInt64).toInt32) &&& (15 : Int32))))), (.int (nar .char (atv cd ((((p1.toUInt64 >>> ((8 : Int32) &&& 0x3f).toInt64.toUInt64).toInt64).toInt32) &&& (15 : Int32))))), (.int (35 : Int32)), (.int (35 : Int32))] (.int (0 : Int32)) := Arv.set Ar81 q81 S81 N81 H81 G81 (fits_nar_char _) W81 7 rfl (Nat.le_of_ble_eq_true rfl)
  have F82 := F71.wr W81
  have F83 := own_tab_other F72 W81 ne_dg
  have Z84 : n0 ≤ h81.size := by rw [W81.size]; exact Z73
  have NF81 := Fr.snoc X81 NF70 g_a2
  have K85 := K74.wr W81 (Or.inl (List.mem_of_getElem? (i := 0) rfl))
  have P86 : own_Pr p.tables e below S0 T81 (mkF m 37 #[.val (.long p1), .second, .val (.ref a2), .val (.int (2 : Int32)), .val (.int (5 : Int32)), .val (.int (8 : Int32))] []) := fun t k => P80 t (st81 _ k)
  have P87 : own_Pr p.tables e below S0 T81 (mkF m 24 #[.val (.long p1), .second, .val (.ref a2), .val (.int (2 : Int32)), .val (.int (6 : Int32)), .val (.int (4 : Int32))] [(.int (8 : Int32)), (.ref a2)]) := fun t k => P86 t (by
    refine XS.iinc X81.here hx rfl (hb hby d1_37) rfl (l' := #[.val (.long p1), .second, .val (.ref a2), .val (.int (2 : Int32)), .val (.int (6 : Int32)), .val (.int (8 : Int32))]) rfl ?_
    refine XS.goto X81.here hx rfl (pc0 := 40) (pc' := 3) rfl (hb hby d1_40) (by decide) (by decide) ?_
    refine XS.iload X81.here hx rfl (hb hby d1_3) rfl ?_
    refine XS.bipush X81.here hx rfl (hb hby d1_5) ?_
    refine XS.icmpNo X81.here hx rfl (hb hby d1_7) rfl (by decide) ?_
    refine XS.iconst X81.here hx rfl (hb hby d1_10) ?_
    refine XS.bipush X81.here hx rfl (hb hby d1_11) ?_
    refine XS.iload X81.here hx rfl (hb hby d1_13) rfl ?_
    show Steps p.tables e below (T81.setTop (mkF m 15 #[.val (.long p1), .second, .val (.ref a2), .val (.int (2 : Int32)), .val (.int (6 : Int32)), .val (.int (8 : Int32))] [(.int (6 : Int32)), (.int (7 : Int32)), (.int (4 : Int32))])) _
    refine XS.isub X81.here hx rfl (hb hby d1_15) rfl ?_
    refine XS.imul X81.here hx rfl (hb hby d1_16) rfl ?_
    refine XS.istore X81.here hx rfl (hb hby d1_17) rfl (l' := #[.val (.long p1), .second, .val (.ref a2), .val (.int (2 : Int32)), .val (.int (6 : Int32)), .val (.int (4 : Int32))]) rfl ?_
    refine XS.aloadN X81.here hx rfl (hb hby d1_19) rfl rfl ?_
    refine XS.iloadN X81.here hx rfl (hb hby d1_20) rfl ?_
    refine XS.iload X81.here hx rfl (hb hby d1_21) rfl ?_
    refine XS.iadd X81.here hx rfl (hb hby d1_23) rfl ?_
    exact k)
  obtain ⟨T88, X88, e88, st88⟩ := getS2 X81 hx hZ hown (host := "") (Or.inl (hw _ (List.mem_of_getElem? (i := 7) rfl))) Via.refl e81 F82 (g := (mkF m 24 #[.val (.long p1), .second, .val (.ref a2), .val (.int (2 : Int32)), .val (.int (6 : Int32)), .val (.int (4 : Int32))] [(.int (8 : Int32)), (.ref a2)])) rfl (hb hby d1_24)
  have P89 : own_Pr p.tables e below S0 T88 (mkF m 27 #[.val (.long p1), .second, .val (.ref a2), .val (.int (2 : Int32)), .val (.int (6 : Int32)), .val (.int (4 : Int32))] [(.ref dg), (.int (8 : Int32)), (.ref a2)]) := fun t k => P87 t (st88 _ k)
  have hin35_90 : ¬ (((((p1.toUInt64 >>> ((4 : Int32) &&& 0x3f).toInt64.toUInt64).toInt64).toInt32) &&& (15 : Int32)) < 0 ∨ cd.slots.size ≤ (((((p1.toUInt64 >>> ((4 : Int32) &&& 0x3f).toInt64.toUInt64).toInt64).toInt32) &&& (15 : Int32))).toNatClampNeg) := inb_of F83.2.1 (own_n16 _)
  have P91 : own_Pr p.tables e below S0 T88 (mkF m 36 #[.val (.long p1), .second, .val (.ref a2), .val (.int (2 : Int32)), .val (.int (6 : Int32)), .val (.int (4 : Int32))] [(.int (atv cd ((((p1.toUInt64 >>> ((4 : Int32) &&& 0x3f).toInt64.toUInt64).toInt64).toInt32) &&& (15 : Int32)))), (.int (8 : Int32)), (.ref a2)]) := fun t k => P89 t (by
    refine XS.lloadN X88.here hx rfl (hb hby d1_27) rfl ?_
    refine XS.iload X88.here hx rfl (hb hby d1_28) rfl ?_
    refine XS.lushr X88.here hx rfl (hb hby d1_30) rfl ?_
    refine XS.l2i X88.here hx rfl (hb hby d1_31) rfl ?_
    refine XS.bipush X88.here hx rfl (hb hby d1_32) ?_
    refine XS.iand X88.here hx rfl (hb hby d1_34) rfl ?_
    refine X88.caload hx (j := ((((p1.toUInt64 >>> ((4 : Int32) &&& 0x3f).toInt64.toUInt64).toInt64).toInt32) &&& (15 : Int32))) (v := .int (atv cd ((((p1.toUInt64 >>> ((4 : Int32) &&& 0x3f).toInt64.toUInt64).toInt64).toInt32) &&& (15 : Int32)))) (by rw [e88]; exact F83.1.1) (State.isArrayOf_alike hZ.alike F83.1.2.1) F83.1.2.2 hin35_90 (F83.2.2.2 _ hin35_90) (g := (mkF m 35 #[.val (.long p1), .second, .val (.ref a2), .val (.int (2 : Int32)), .val (.int (6 : Int32)), .val (.int (4 : Int32))] [(.int ((((p1.toUInt64 >>> ((4 : Int32) &&& 0x3f).toInt64.toUInt64).toInt64).toInt32) &&& (15 : Int32))), (.ref dg), (.int (8 : Int32)), (.ref a2)])) rfl rfl (hb hby d1_35) _ ?_
    exact k)
  obtain ⟨cl92, Ar92, q92, S92, N92, H92, G92⟩ := id V81
  have hin92 : ¬ ((8 : Int32) < 0 ∨ cl92.slots.size ≤ ((8 : Int32)).toNatClampNeg) := inb_of S92 ⟨by decide, by decide⟩
  obtain ⟨T92, h92, X92, e92, W92, st92⟩ := stC X88 hx hZ e88 Ar92 (j := (8 : Int32)) hin92 (g := (mkF m 36 #[.val (.long p1), .second, .val (.ref a2), .val (.int (2 : Int32)), .val (.int (6 : Int32)), .val (.int (4 : Int32))] [(.int (atv cd ((((p1.toUInt64 >>> ((4 : Int32) &&& 0x3f).toInt64.toUInt64).toInt64).toInt32) &&& (15 : Int32)))), (.int (8 : Int32)), (.ref a2)])) rfl rfl (hb hby d1_36)
  have V92 : Arv Z h92 a2 kk .char (10 : Int32) [(.int (35 : Int32)), (.int (35 : Int32)), (.int (nar .char (atv cd ((((p1.toUInt64 >>> ((28 : Int32) &&& 0x3f).toInt64.toUInt64).toInt64).toInt32) &&& (15 : Int32))))), (.int (nar .char (atv cd ((((p1.toUInt64 >>> ((24 : Int32) &&& 0x3f).toInt64.toUInt64).toInt64).toInt32) &&& (15 : Int32))))), (.int (nar .char (atv cd ((((p1.toUInt64 >>> ((20 : Int32) &&& 0x3f).toInt64.toUInt64).toInt64).toInt32) &&& (15 : Int32))))), (.int (nar .char (atv cd ((((p1.toUInt64 >>> ((16 : Int32) &&& 0x3f).toInt64.toUInt64).toInt64).toInt32) &&& (15 : Int32))))), (.int (nar .char (atv cd ((((p1.toUInt64 >>> ((12 : Int32) &&& 0x3f).toInt64.toUInt64).toInt64).toInt32) &&& (15 : Int32))))), (.int (nar .char (atv cd ((((p1.toUInt64 >>> ((8 : Int32) &&& 0x3f).toInt64.toUInt64).toInt64).toInt32) &&& (15 : Int32))))), (.int (nar .char (atv cd ((((p1.toUInt64 >>> ((4 : Int32) &&& 0x3f).toInt64.toUInt64).toInt64).toInt32) &&& (15 : Int32))))), (.int (35 : Int32))] (.int (0 : Int32)) := Arv.set Ar92 q92 S92 N92 H92 G92 (fits_nar_char _) W92 8 rfl (Nat.le_of_ble_eq_true rfl)
  have F93 := F82.wr W92
  have F94 := own_tab_other F83 W92 ne_dg
  have Z95 : n0 ≤ h92.size := by rw [W92.size]; exact Z84
  have NF92 := Fr.snoc X92 NF81 g_a2
  have K96 := K85.wr W92 (Or.inl (List.mem_of_getElem? (i := 0) rfl))
  have P97 : own_Pr p.tables e below S0 T92 (mkF m 37 #[.val (.long p1), .second, .val (.ref a2), .val (.int (2 : Int32)), .val (.int (6 : Int32)), .val (.int (4 : Int32))] []) := fun t k => P91 t (st92 _ k)
  have P98 : own_Pr p.tables e below S0 T92 (mkF m 24 #[.val (.long p1), .second, .val (.ref a2), .val (.int (2 : Int32)), .val (.int (7 : Int32)), .val (.int (0 : Int32))] [(.int (9 : Int32)), (.ref a2)]) := fun t k => P97 t (by
    refine XS.iinc X92.here hx rfl (hb hby d1_37) rfl (l' := #[.val (.long p1), .second, .val (.ref a2), .val (.int (2 : Int32)), .val (.int (7 : Int32)), .val (.int (4 : Int32))]) rfl ?_
    refine XS.goto X92.here hx rfl (pc0 := 40) (pc' := 3) rfl (hb hby d1_40) (by decide) (by decide) ?_
    refine XS.iload X92.here hx rfl (hb hby d1_3) rfl ?_
    refine XS.bipush X92.here hx rfl (hb hby d1_5) ?_
    refine XS.icmpNo X92.here hx rfl (hb hby d1_7) rfl (by decide) ?_
    refine XS.iconst X92.here hx rfl (hb hby d1_10) ?_
    refine XS.bipush X92.here hx rfl (hb hby d1_11) ?_
    refine XS.iload X92.here hx rfl (hb hby d1_13) rfl ?_
    show Steps p.tables e below (T92.setTop (mkF m 15 #[.val (.long p1), .second, .val (.ref a2), .val (.int (2 : Int32)), .val (.int (7 : Int32)), .val (.int (4 : Int32))] [(.int (7 : Int32)), (.int (7 : Int32)), (.int (4 : Int32))])) _
    refine XS.isub X92.here hx rfl (hb hby d1_15) rfl ?_
    refine XS.imul X92.here hx rfl (hb hby d1_16) rfl ?_
    refine XS.istore X92.here hx rfl (hb hby d1_17) rfl (l' := #[.val (.long p1), .second, .val (.ref a2), .val (.int (2 : Int32)), .val (.int (7 : Int32)), .val (.int (0 : Int32))]) rfl ?_
    refine XS.aloadN X92.here hx rfl (hb hby d1_19) rfl rfl ?_
    refine XS.iloadN X92.here hx rfl (hb hby d1_20) rfl ?_
    refine XS.iload X92.here hx rfl (hb hby d1_21) rfl ?_
    refine XS.iadd X92.here hx rfl (hb hby d1_23) rfl ?_
    exact k)
  obtain ⟨T99, X99, e99, st99⟩ := getS2 X92 hx hZ hown (host := "") (Or.inl (hw _ (List.mem_of_getElem? (i := 7) rfl))) Via.refl e92 F93 (g := (mkF m 24 #[.val (.long p1), .second, .val (.ref a2), .val (.int (2 : Int32)), .val (.int (7 : Int32)), .val (.int (0 : Int32))] [(.int (9 : Int32)), (.ref a2)])) rfl (hb hby d1_24)
  have P100 : own_Pr p.tables e below S0 T99 (mkF m 27 #[.val (.long p1), .second, .val (.ref a2), .val (.int (2 : Int32)), .val (.int (7 : Int32)), .val (.int (0 : Int32))] [(.ref dg), (.int (9 : Int32)), (.ref a2)]) := fun t k => P98 t (st99 _ k)
  have hin35_101 : ¬ (((((p1.toUInt64 >>> ((0 : Int32) &&& 0x3f).toInt64.toUInt64).toInt64).toInt32) &&& (15 : Int32)) < 0 ∨ cd.slots.size ≤ (((((p1.toUInt64 >>> ((0 : Int32) &&& 0x3f).toInt64.toUInt64).toInt64).toInt32) &&& (15 : Int32))).toNatClampNeg) := inb_of F94.2.1 (own_n16 _)
  have P102 : own_Pr p.tables e below S0 T99 (mkF m 36 #[.val (.long p1), .second, .val (.ref a2), .val (.int (2 : Int32)), .val (.int (7 : Int32)), .val (.int (0 : Int32))] [(.int (atv cd ((((p1.toUInt64 >>> ((0 : Int32) &&& 0x3f).toInt64.toUInt64).toInt64).toInt32) &&& (15 : Int32)))), (.int (9 : Int32)), (.ref a2)]) := fun t k => P100 t (by
    refine XS.lloadN X99.here hx rfl (hb hby d1_27) rfl ?_
    refine XS.iload X99.here hx rfl (hb hby d1_28) rfl ?_
    refine XS.lushr X99.here hx rfl (hb hby d1_30) rfl ?_
    refine XS.l2i X99.here hx rfl (hb hby d1_31) rfl ?_
    refine XS.bipush X99.here hx rfl (hb hby d1_32) ?_
    refine XS.iand X99.here hx rfl (hb hby d1_34) rfl ?_
    refine X99.caload hx (j := ((((p1.toUInt64 >>> ((0 : Int32) &&& 0x3f).toInt64.toUInt64).toInt64).toInt32) &&& (15 : Int32))) (v := .int (atv cd ((((p1.toUInt64 >>> ((0 : Int32) &&& 0x3f).toInt64.toUInt64).toInt64).toInt32) &&& (15 : Int32)))) (by rw [e99]; exact F94.1.1) (State.isArrayOf_alike hZ.alike F94.1.2.1) F94.1.2.2 hin35_101 (F94.2.2.2 _ hin35_101) (g := (mkF m 35 #[.val (.long p1), .second, .val (.ref a2), .val (.int (2 : Int32)), .val (.int (7 : Int32)), .val (.int (0 : Int32))] [(.int ((((p1.toUInt64 >>> ((0 : Int32) &&& 0x3f).toInt64.toUInt64).toInt64).toInt32) &&& (15 : Int32))), (.ref dg), (.int (9 : Int32)), (.ref a2)])) rfl rfl (hb hby d1_35) _ ?_
    exact k)
  obtain ⟨cl103, Ar103, q103, S103, N103, H103, G103⟩ := id V92
  have hin103 : ¬ ((9 : Int32) < 0 ∨ cl103.slots.size ≤ ((9 : Int32)).toNatClampNeg) := inb_of S103 ⟨by decide, by decide⟩
  obtain ⟨T103, h103, X103, e103, W103, st103⟩ := stC X99 hx hZ e99 Ar103 (j := (9 : Int32)) hin103 (g := (mkF m 36 #[.val (.long p1), .second, .val (.ref a2), .val (.int (2 : Int32)), .val (.int (7 : Int32)), .val (.int (0 : Int32))] [(.int (atv cd ((((p1.toUInt64 >>> ((0 : Int32) &&& 0x3f).toInt64.toUInt64).toInt64).toInt32) &&& (15 : Int32)))), (.int (9 : Int32)), (.ref a2)])) rfl rfl (hb hby d1_36)
  have V103 : Arv Z h103 a2 kk .char (10 : Int32) [(.int (35 : Int32)), (.int (35 : Int32)), (.int (nar .char (atv cd ((((p1.toUInt64 >>> ((28 : Int32) &&& 0x3f).toInt64.toUInt64).toInt64).toInt32) &&& (15 : Int32))))), (.int (nar .char (atv cd ((((p1.toUInt64 >>> ((24 : Int32) &&& 0x3f).toInt64.toUInt64).toInt64).toInt32) &&& (15 : Int32))))), (.int (nar .char (atv cd ((((p1.toUInt64 >>> ((20 : Int32) &&& 0x3f).toInt64.toUInt64).toInt64).toInt32) &&& (15 : Int32))))), (.int (nar .char (atv cd ((((p1.toUInt64 >>> ((16 : Int32) &&& 0x3f).toInt64.toUInt64).toInt64).toInt32) &&& (15 : Int32))))), (.int (nar .char (atv cd ((((p1.toUInt64 >>> ((12 : Int32) &&& 0x3f).toInt64.toUInt64).toInt64).toInt32) &&& (15 : Int32))))), (.int (nar .char (atv cd ((((p1.toUInt64 >>> ((8 : Int32) &&& 0x3f).toInt64.toUInt64).toInt64).toInt32) &&& (15 : Int32))))), (.int (nar .char (atv cd ((((p1.toUInt64 >>> ((4 : Int32) &&& 0x3f).toInt64.toUInt64).toInt64).toInt32) &&& (15 : Int32))))), (.int (nar .char (atv cd ((((p1.toUInt64 >>> ((0 : Int32) &&& 0x3f).toInt64.toUInt64).toInt64).toInt32) &&& (15 : Int32)))))] (.int (0 : Int32)) := Arv.set Ar103 q103 S103 N103 H103 G103 (fits_nar_char _) W103 9 rfl (Nat.le_of_ble_eq_true rfl)
  have F104 := F93.wr W103
  have F105 := own_tab_other F94 W103 ne_dg
  have Z106 : n0 ≤ h103.size := by rw [W103.size]; exact Z95
  have NF103 := Fr.snoc X103 NF92 g_a2
  have K107 := K96.wr W103 (Or.inl (List.mem_of_getElem? (i := 0) rfl))
  have P108 : own_Pr p.tables e below S0 T103 (mkF m 37 #[.val (.long p1), .second, .val (.ref a2), .val (.int (2 : Int32)), .val (.int (7 : Int32)), .val (.int (0 : Int32))] []) := fun t k => P102 t (st103 _ k)
  have P109 : own_Pr p.tables e below S0 T103 (mkF m 43 #[.val (.long p1), .second, .val (.ref a2), .val (.int (2 : Int32)), .val (.int (8 : Int32)), .val (.int (0 : Int32))] []) := fun t k => P108 t (by
    refine XS.iinc X103.here hx rfl (hb hby d1_37) rfl (l' := #[.val (.long p1), .second, .val (.ref a2), .val (.int (2 : Int32)), .val (.int (8 : Int32)), .val (.int (0 : Int32))]) rfl ?_
    refine XS.goto X103.here hx rfl (pc0 := 40) (pc' := 3) rfl (hb hby d1_40) (by decide) (by decide) ?_
    refine XS.iload X103.here hx rfl (hb hby d1_3) rfl ?_
    refine XS.bipush X103.here hx rfl (hb hby d1_5) ?_
    refine XS.icmpYes X103.here hx rfl (pc0 := 7) (pc' := 43) rfl (hb hby d1_7) rfl (by decide) (by decide) (by decide) ?_
    exact k)
  obtain ⟨fs, hr, hrun, hended, hW, hsame⟩ := X103.leave (v := none) (fun _ => rfl)
  have fin : Steps p.tables e below S0 (T103.setFrames fs) := P109 _ (X103.returnOut hx Bd.returns (hb hby d1_43) hr)
  rw [hS0] at fin
  refine ⟨_, _, fin, hrun, hended, _, _, rfl, ?_, ⟨_, rfl⟩, hW, hsame.mono (by decide) (by decide)⟩
  show own_QW Z a2 kk [35, 35, own_dg cd p1 28, own_dg cd p1 24, own_dg cd p1 20, own_dg cd p1 16, own_dg cd p1 12, own_dg cd p1 8, own_dg cd p1 4, own_dg cd p1 0] h0 n0 _ T103.heap _
  rw [e103]
  exact ⟨rfl, NF103, K107, V103⟩
theorem d2_0 : decode method_3_code 0 = .ok (.iload_n 1, 1) := by decide +kernel
theorem d2_1 : decode method_3_code 1 = .ok (.iload_n 2, 1) := by decide +kernel
theorem d2_2 : decode method_3_code 2 = .ok (.if_icmp .lt 11, 3) := by decide +kernel
theorem d2_5 : decode method_3_code 5 = .ok (.iload_n 1, 1) := by decide +kernel
theorem d2_6 : decode method_3_code 6 = .ok (.iload_n 2, 1) := by decide +kernel
theorem d2_7 : decode method_3_code 7 = .ok (.bipush 8, 2) := by decide +kernel
theorem d2_9 : decode method_3_code 9 = .ok (.iadd, 1) := by decide +kernel
theorem d2_10 : decode method_3_code 10 = .ok (.if_icmp .lt 17, 3) := by decide +kernel
theorem d2_13 : decode method_3_code 13 = .ok (.aload_n 0, 1) := by decide +kernel
theorem d2_14 : decode method_3_code 14 = .ok (.iload_n 1, 1) := by decide +kernel
theorem d2_15 : decode method_3_code 15 = .ok (.caload, 1) := by decide +kernel
theorem d2_16 : decode method_3_code 16 = .ok (.bipush 35, 2) := by decide +kernel
theorem d2_18 : decode method_3_code 18 = .ok (.if_icmp .ne 7, 3) := by decide +kernel
theorem d2_21 : decode method_3_code 21 = .ok (.iconst 1, 1) := by decide +kernel
theorem d2_22 : decode method_3_code 22 = .ok (.goto 4, 3) := by decide +kernel
theorem d2_25 : decode method_3_code 25 = .ok (.iconst 0, 1) := by decide +kernel
theorem d2_26 : decode method_3_code 26 = .ok (.ireturn, 1) := by decide +kernel
theorem d2_27 : decode method_3_code 27 = .ok (.bipush 7, 2) := by decide +kernel
theorem d2_29 : decode method_3_code 29 = .ok (.iload_n 1, 1) := by decide +kernel
theorem d2_30 : decode method_3_code 30 = .ok (.iload_n 2, 1) := by decide +kernel
theorem d2_31 : decode method_3_code 31 = .ok (.isub, 1) := by decide +kernel
theorem d2_32 : decode method_3_code 32 = .ok (.isub, 1) := by decide +kernel
theorem d2_33 : decode method_3_code 33 = .ok (.istore 5, 2) := by decide +kernel
theorem d2_35 : decode method_3_code 35 = .ok (.lconst 1, 1) := by decide +kernel
theorem d2_36 : decode method_3_code 36 = .ok (.iconst 4, 1) := by decide +kernel
theorem d2_37 : decode method_3_code 37 = .ok (.iload 5, 2) := by decide +kernel
theorem d2_39 : decode method_3_code 39 = .ok (.imul, 1) := by decide +kernel
theorem d2_40 : decode method_3_code 40 = .ok (.lshl, 1) := by decide +kernel
theorem d2_41 : decode method_3_code 41 = .ok (.lstore 6, 2) := by decide +kernel
theorem d2_43 : decode method_3_code 43 = .ok (.lload_n 3, 1) := by decide +kernel
theorem d2_44 : decode method_3_code 44 = .ok (.lload 6, 2) := by decide +kernel
theorem d2_46 : decode method_3_code 46 = .ok (.ldiv, 1) := by decide +kernel
theorem d2_47 : decode method_3_code 47 = .ok (.ldc2_w 22, 3) := by decide +kernel
theorem d2_50 : decode method_3_code 50 = .ok (.lrem, 1) := by decide +kernel
theorem d2_51 : decode method_3_code 51 = .ok (.l2i, 1) := by decide +kernel
theorem d2_52 : decode method_3_code 52 = .ok (.istore 8, 2) := by decide +kernel
theorem d2_54 : decode method_3_code 54 = .ok (.iload 8, 2) := by decide +kernel
theorem d2_56 : decode method_3_code 56 = .ok (.bipush 10, 2) := by decide +kernel
theorem d2_58 : decode method_3_code 58 = .ok (.if_icmp .ge 14, 3) := by decide +kernel
theorem d2_61 : decode method_3_code 61 = .ok (.bipush 48, 2) := by decide +kernel
theorem d2_63 : decode method_3_code 63 = .ok (.iload 8, 2) := by decide +kernel
theorem d2_65 : decode method_3_code 65 = .ok (.iadd, 1) := by decide +kernel
theorem d2_66 : decode method_3_code 66 = .ok (.i2c, 1) := by decide +kernel
theorem d2_67 : decode method_3_code 67 = .ok (.istore 9, 2) := by decide +kernel
theorem d2_69 : decode method_3_code 69 = .ok (.goto 14, 3) := by decide +kernel
theorem d2_72 : decode method_3_code 72 = .ok (.bipush 97, 2) := by decide +kernel
theorem d2_74 : decode method_3_code 74 = .ok (.iload 8, 2) := by decide +kernel
theorem d2_76 : decode method_3_code 76 = .ok (.bipush 10, 2) := by decide +kernel
theorem d2_78 : decode method_3_code 78 = .ok (.isub, 1) := by decide +kernel
theorem d2_79 : decode method_3_code 79 = .ok (.iadd, 1) := by decide +kernel
theorem d2_80 : decode method_3_code 80 = .ok (.i2c, 1) := by decide +kernel
theorem d2_81 : decode method_3_code 81 = .ok (.istore 9, 2) := by decide +kernel
theorem d2_83 : decode method_3_code 83 = .ok (.aload_n 0, 1) := by decide +kernel
theorem d2_84 : decode method_3_code 84 = .ok (.iload_n 1, 1) := by decide +kernel
theorem d2_85 : decode method_3_code 85 = .ok (.caload, 1) := by decide +kernel
theorem d2_86 : decode method_3_code 86 = .ok (.iload 9, 2) := by decide +kernel
theorem d2_88 : decode method_3_code 88 = .ok (.if_icmp .ne 7, 3) := by decide +kernel
theorem d2_91 : decode method_3_code 91 = .ok (.iconst 1, 1) := by decide +kernel
theorem d2_92 : decode method_3_code 92 = .ok (.goto 4, 3) := by decide +kernel
theorem d2_95 : decode method_3_code 95 = .ok (.iconst 0, 1) := by decide +kernel
theorem d2_96 : decode method_3_code 96 = .ok (.ireturn, 1) := by decide +kernel
theorem pn_2 : plainName "com/example/enqueue_to_disk/enqueuetodisk/format/internal/Unsigned32WriteHexPinLaw" = true := by first | (simp [plainName, overriddenIn]; done) | decide +kernel
theorem ef_2 (m : MethodId) (a1 : Addr) (p2 : Int32) (p3 : Int32) (p4 : Int64) : entryFrame m #[(.ref a1), (.int p2), (.int p3), (.long p4)] 10 = mkF m 0 #[.val (.ref a1), .val (.int p2), .val (.int p3), .val (.long p4), .second, .unset, .unset, .unset, .unset, .unset] [] := by first | (simp [entryFrame, mkF, argsToLocals, Value.category]; done) | rfl
def own_f2 (cl : Cell) (p2 p3 : Int32) (p4 : Int64) : Int32 := (if p2 < p3 then (if (atv cl p2) = (35 : Int32) then (1 : Int32) else (0 : Int32)) else (if p2 < (p3 + (8 : Int32)) then (if (((p4 / ((1 : Int64) <<< (((4 : Int32) * ((7 : Int32) - (p2 - p3))) &&& 0x3f).toInt64)) % (16 : Int64)).toInt32) < (10 : Int32) then (if (atv cl p2) = (((48 : Int32) + (((p4 / ((1 : Int64) <<< (((4 : Int32) * ((7 : Int32) - (p2 - p3))) &&& 0x3f).toInt64)) % (16 : Int64)).toInt32)).toUInt32.toUInt16.toUInt32.toInt32) then (1 : Int32) else (0 : Int32)) else (if (atv cl p2) = (((97 : Int32) + ((((p4 / ((1 : Int64) <<< (((4 : Int32) * ((7 : Int32) - (p2 - p3))) &&& 0x3f).toInt64)) % (16 : Int64)).toInt32) - (10 : Int32))).toUInt32.toUInt16.toUInt32.toInt32) then (1 : Int32) else (0 : Int32))) else (if (atv cl p2) = (35 : Int32) then (1 : Int32) else (0 : Int32))))
set_option maxRecDepth 65536 in
set_option maxHeartbeats 40000000 in
theorem rm2 (l : Launch) (Z : State) (a0 : Array Value) (hw : ∀ d ∈ tables_1, d.before a0 Z = true) (ws : List Jvm.Cond) (a1 : Addr) (p2 : Int32) (p3 : Int32) (p4 : Int64) (cl : Cell) (h0 : Heap) (n0 : Nat) (Z0 : n0 ≤ h0.size) (T_a1 : Tab Z h0 a1 cl .char 10) (hp : ¬ p2 < 0 ∧ p2 < 10) :
    MetFree l (⟨"com/example/enqueue_to_disk/enqueuetodisk/format/internal/Unsigned32WriteHexPinLaw", "at", "([CIIJ)Z"⟩ : MethodName) (head1 (Jvm.Cond.code (⟨"com/example/enqueue_to_disk/enqueuetodisk/format/internal/Unsigned32WriteHexPinLaw", "at", "([CIIJ)Z"⟩ : MethodName) method_3_code 10 (some .boolean) :: ws) ({ frames := 0, cells := 0, slots := 0, locals := 0 } : Room)) (fun a U => a = #[(.ref a1), (.int p2), (.int p3), (.long p4)] ∧ Z.Warmed39 U.vm ∧ U.heap = h0) (fun _ _ _ _ _ => True) (fun _ U o U' => ∃ v L, o = .returned v ∧ own_QI h0 n0 (own_f2 cl p2 p3 p4) v U'.heap L ∧ FrameEnd U o U' L ({ frames := 0, cells := 0, slots := 0, locals := 0 } : Room).cells ({ frames := 0, cells := 0, slots := 0, locals := 0 } : Room).slots) := by
  refine MetFree.of_bodySF (plainFor_of_name pn_2) hisR ?_
  intro p e s m args below meth c s₁ Bd hml0 hP hK
  obtain ⟨rfl, hZ, hh⟩ := hP
  have hx := Bd.exec
  have hby := Bd.bytes
  have hml : c.maxLocals = 10 := hml0
  have hown : s.vm.findClass "com/example/enqueue_to_disk/enqueuetodisk/format/internal/Unsigned32WriteHexPinLaw" = some m.cls := findClass_of_methodNamed Bd.named
  have hnm := (name_of_methodNamed Bd.named Bd.method).1
  have X0 : Stand p l e ({ frames := 0, cells := 0, slots := 0, locals := 0 } : Room) s m #[(.ref a1), (.int p2), (.int p3), (.long p4)] below meth c s₁ [] 0 0 := Stand.of_body Bd
  have e0 : s₁.heap = h0 := by rw [← hh, Bd.state]; rfl
  have N0 := Fr.nil n0
  obtain ⟨S0, hS0⟩ : ∃ z, z = s₁.setTop (entryFrame m #[(.ref a1), (.int p2), (.int p3), (.long p4)] 10) := ⟨_, rfl⟩
  have P0 : own_Pr p.tables e below S0 s₁ (mkF m 0 #[.val (.ref a1), .val (.int p2), .val (.int p3), .val (.long p4), .second, .unset, .unset, .unset, .unset, .unset] []) := fun t k => hS0 ▸ castTop (ef_2 m a1 p2 p3 p4) k
  have P21 : own_Pr p.tables e below S0 s₁ (mkF m 2 #[.val (.ref a1), .val (.int p2), .val (.int p3), .val (.long p4), .second, .unset, .unset, .unset, .unset, .unset] [(.int p3), (.int p2)]) := fun t k => P0 t (by
    refine XS.iloadN X0.here hx rfl (hb hby d2_0) rfl ?_
    refine XS.iloadN X0.here hx rfl (hb hby d2_1) rfl ?_
    exact k)
  by_cases hc2_22 : p2 < p3
  · have hin15_23 : ¬ (p2 < 0 ∨ cl.slots.size ≤ (p2).toNatClampNeg) := inb_of T_a1.2.1 hp
    have P24 : own_Pr p.tables e below S0 s₁ (mkF m 18 #[.val (.ref a1), .val (.int p2), .val (.int p3), .val (.long p4), .second, .unset, .unset, .unset, .unset, .unset] [(.int (35 : Int32)), (.int (atv cl p2))]) := fun t k => P21 t (by
      refine XS.icmpYes X0.here hx rfl (pc0 := 2) (pc' := 13) rfl (hb hby d2_2) rfl (XT.ii_lt_t hc2_22) (by decide) (by decide) ?_
      refine XS.aloadN X0.here hx rfl (hb hby d2_13) rfl rfl ?_
      refine XS.iloadN X0.here hx rfl (hb hby d2_14) rfl ?_
      refine X0.caload hx (j := p2) (v := .int (atv cl p2)) (by rw [e0]; exact T_a1.1.1) (State.isArrayOf_alike hZ.alike T_a1.1.2.1) T_a1.1.2.2 hin15_23 (T_a1.2.2.2 _ hin15_23) (g := (mkF m 15 #[.val (.ref a1), .val (.int p2), .val (.int p3), .val (.long p4), .second, .unset, .unset, .unset, .unset, .unset] [(.int p2), (.ref a1)])) rfl rfl (hb hby d2_15) _ ?_
      refine XS.bipush X0.here hx rfl (hb hby d2_16) ?_
      exact k)
    by_cases hc18_25 : (atv cl p2) = (35 : Int32)
    · have P26 : own_Pr p.tables e below S0 s₁ (mkF m 26 #[.val (.ref a1), .val (.int p2), .val (.int p3), .val (.long p4), .second, .unset, .unset, .unset, .unset, .unset] [(.int (1 : Int32))]) := fun t k => P24 t (by
        refine XS.icmpNo X0.here hx rfl (hb hby d2_18) rfl (XT.ii_ne_f hc18_25) ?_
        refine XS.iconst X0.here hx rfl (hb hby d2_21) ?_
        refine XS.goto X0.here hx rfl (pc0 := 22) (pc' := 26) rfl (hb hby d2_22) (by decide) (by decide) ?_
        exact k)
      obtain ⟨fs, hr, hrun, hended, hW, hsame⟩ := X0.leave (v := some (.int (1 : Int32))) (fun h => by rw [Bd.returns] at h; cases h)
      have fin : Steps p.tables e below S0 (s₁.setFrames fs) := P26 _ (retN X0 hx (t := .boolean) Bd.returns (by simp) (hb hby d2_26) hr)
      rw [hS0] at fin
      refine ⟨_, _, fin, hrun, hended, _, _, rfl, ?_, ⟨_, rfl⟩, hW, hsame.mono (by decide) (by decide)⟩
      show own_QI h0 n0 (own_f2 cl p2 p3 p4) _ s₁.heap _
      rw [e0]
      exact ⟨_, rfl, (by unfold own_f2; rw [if_pos hc2_22, if_pos hc18_25]), N0, rfl⟩
    · have P27 : own_Pr p.tables e below S0 s₁ (mkF m 26 #[.val (.ref a1), .val (.int p2), .val (.int p3), .val (.long p4), .second, .unset, .unset, .unset, .unset, .unset] [(.int (0 : Int32))]) := fun t k => P24 t (by
        refine XS.icmpYes X0.here hx rfl (pc0 := 18) (pc' := 25) rfl (hb hby d2_18) rfl (XT.ii_ne_t hc18_25) (by decide) (by decide) ?_
        refine XS.iconst X0.here hx rfl (hb hby d2_25) ?_
        exact k)
      obtain ⟨fs, hr, hrun, hended, hW, hsame⟩ := X0.leave (v := some (.int (0 : Int32))) (fun h => by rw [Bd.returns] at h; cases h)
      have fin : Steps p.tables e below S0 (s₁.setFrames fs) := P27 _ (retN X0 hx (t := .boolean) Bd.returns (by simp) (hb hby d2_26) hr)
      rw [hS0] at fin
      refine ⟨_, _, fin, hrun, hended, _, _, rfl, ?_, ⟨_, rfl⟩, hW, hsame.mono (by decide) (by decide)⟩
      show own_QI h0 n0 (own_f2 cl p2 p3 p4) _ s₁.heap _
      rw [e0]
      exact ⟨_, rfl, (by unfold own_f2; rw [if_pos hc2_22, if_neg hc18_25]), N0, rfl⟩
  · have P28 : own_Pr p.tables e below S0 s₁ (mkF m 10 #[.val (.ref a1), .val (.int p2), .val (.int p3), .val (.long p4), .second, .unset, .unset, .unset, .unset, .unset] [(.int (p3 + (8 : Int32))), (.int p2)]) := fun t k => P21 t (by
      refine XS.icmpNo X0.here hx rfl (hb hby d2_2) rfl (XT.ii_lt_f hc2_22) ?_
      refine XS.iloadN X0.here hx rfl (hb hby d2_5) rfl ?_
      refine XS.iloadN X0.here hx rfl (hb hby d2_6) rfl ?_
      refine XS.bipush X0.here hx rfl (hb hby d2_7) ?_
      refine XS.iadd X0.here hx rfl (hb hby d2_9) rfl ?_
      exact k)
    by_cases hc10_29 : p2 < (p3 + (8 : Int32))
    · have P30 : own_Pr p.tables e below S0 s₁ (mkF m 58 #[.val (.ref a1), .val (.int p2), .val (.int p3), .val (.long p4), .second, .val (.int ((7 : Int32) - (p2 - p3))), .val (.long ((1 : Int64) <<< (((4 : Int32) * ((7 : Int32) - (p2 - p3))) &&& 0x3f).toInt64)), .second, .val (.int (((p4 / ((1 : Int64) <<< (((4 : Int32) * ((7 : Int32) - (p2 - p3))) &&& 0x3f).toInt64)) % (16 : Int64)).toInt32)), .unset] [(.int (10 : Int32)), (.int (((p4 / ((1 : Int64) <<< (((4 : Int32) * ((7 : Int32) - (p2 - p3))) &&& 0x3f).toInt64)) % (16 : Int64)).toInt32))]) := fun t k => P28 t (by
        refine XS.icmpYes X0.here hx rfl (pc0 := 10) (pc' := 27) rfl (hb hby d2_10) rfl (XT.ii_lt_t hc10_29) (by decide) (by decide) ?_
        refine XS.bipush X0.here hx rfl (hb hby d2_27) ?_
        refine XS.iloadN X0.here hx rfl (hb hby d2_29) rfl ?_
        refine XS.iloadN X0.here hx rfl (hb hby d2_30) rfl ?_
        refine XS.isub X0.here hx rfl (hb hby d2_31) rfl ?_
        refine XS.isub X0.here hx rfl (hb hby d2_32) rfl ?_
        refine XS.istore X0.here hx rfl (hb hby d2_33) rfl (l' := #[.val (.ref a1), .val (.int p2), .val (.int p3), .val (.long p4), .second, .val (.int ((7 : Int32) - (p2 - p3))), .unset, .unset, .unset, .unset]) rfl ?_
        refine XS.lconst X0.here hx rfl (hb hby d2_35) ?_
        show Steps p.tables e below (s₁.setTop (mkF m 36 #[.val (.ref a1), .val (.int p2), .val (.int p3), .val (.long p4), .second, .val (.int ((7 : Int32) - (p2 - p3))), .unset, .unset, .unset, .unset] [(.long (1 : Int64))])) _
        refine XS.iconst X0.here hx rfl (hb hby d2_36) ?_
        refine XS.iload X0.here hx rfl (hb hby d2_37) rfl ?_
        refine XS.imul X0.here hx rfl (hb hby d2_39) rfl ?_
        refine XS.lshl X0.here hx rfl (hb hby d2_40) rfl ?_
        refine XS.lstore X0.here hx rfl (hb hby d2_41) rfl (l' := #[.val (.ref a1), .val (.int p2), .val (.int p3), .val (.long p4), .second, .val (.int ((7 : Int32) - (p2 - p3))), .val (.long ((1 : Int64) <<< (((4 : Int32) * ((7 : Int32) - (p2 - p3))) &&& 0x3f).toInt64)), .second, .unset, .unset]) rfl ?_
        refine XS.lloadN X0.here hx rfl (hb hby d2_43) rfl ?_
        refine XS.lload X0.here hx rfl (hb hby d2_44) rfl ?_
        refine XS.ldiv X0.here hx rfl (hb hby d2_46) rfl (own_pow _) ?_
        show Steps p.tables e below (s₁.setTop (mkF m 47 #[.val (.ref a1), .val (.int p2), .val (.int p3), .val (.long p4), .second, .val (.int ((7 : Int32) - (p2 - p3))), .val (.long ((1 : Int64) <<< (((4 : Int32) * ((7 : Int32) - (p2 - p3))) &&& 0x3f).toInt64)), .second, .unset, .unset] [(.long (p4 / ((1 : Int64) <<< (((4 : Int32) * ((7 : Int32) - (p2 - p3))) &&& 0x3f).toInt64)))])) _
        refine X0.ldc2Long hx hown (mvT hZ (hw _ (List.mem_of_getElem? (i := 13) rfl))) (g := (mkF m 47 #[.val (.ref a1), .val (.int p2), .val (.int p3), .val (.long p4), .second, .val (.int ((7 : Int32) - (p2 - p3))), .val (.long ((1 : Int64) <<< (((4 : Int32) * ((7 : Int32) - (p2 - p3))) &&& 0x3f).toInt64)), .second, .unset, .unset] [(.long (p4 / ((1 : Int64) <<< (((4 : Int32) * ((7 : Int32) - (p2 - p3))) &&& 0x3f).toInt64)))])) rfl (hb hby d2_47) _ ?_
        refine own_lremM X0 hx rfl (hb hby d2_50) rfl (by decide) ?_
        refine XS.l2i X0.here hx rfl (hb hby d2_51) rfl ?_
        refine XS.istore X0.here hx rfl (hb hby d2_52) rfl (l' := #[.val (.ref a1), .val (.int p2), .val (.int p3), .val (.long p4), .second, .val (.int ((7 : Int32) - (p2 - p3))), .val (.long ((1 : Int64) <<< (((4 : Int32) * ((7 : Int32) - (p2 - p3))) &&& 0x3f).toInt64)), .second, .val (.int (((p4 / ((1 : Int64) <<< (((4 : Int32) * ((7 : Int32) - (p2 - p3))) &&& 0x3f).toInt64)) % (16 : Int64)).toInt32)), .unset]) rfl ?_
        refine XS.iload X0.here hx rfl (hb hby d2_54) rfl ?_
        refine XS.bipush X0.here hx rfl (hb hby d2_56) ?_
        exact k)
      by_cases hc58_31 : (((p4 / ((1 : Int64) <<< (((4 : Int32) * ((7 : Int32) - (p2 - p3))) &&& 0x3f).toInt64)) % (16 : Int64)).toInt32) < (10 : Int32)
      · have hin85_32 : ¬ (p2 < 0 ∨ cl.slots.size ≤ (p2).toNatClampNeg) := inb_of T_a1.2.1 hp
        have P33 : own_Pr p.tables e below S0 s₁ (mkF m 88 #[.val (.ref a1), .val (.int p2), .val (.int p3), .val (.long p4), .second, .val (.int ((7 : Int32) - (p2 - p3))), .val (.long ((1 : Int64) <<< (((4 : Int32) * ((7 : Int32) - (p2 - p3))) &&& 0x3f).toInt64)), .second, .val (.int (((p4 / ((1 : Int64) <<< (((4 : Int32) * ((7 : Int32) - (p2 - p3))) &&& 0x3f).toInt64)) % (16 : Int64)).toInt32)), .val (.int (((48 : Int32) + (((p4 / ((1 : Int64) <<< (((4 : Int32) * ((7 : Int32) - (p2 - p3))) &&& 0x3f).toInt64)) % (16 : Int64)).toInt32)).toUInt32.toUInt16.toUInt32.toInt32))] [(.int (((48 : Int32) + (((p4 / ((1 : Int64) <<< (((4 : Int32) * ((7 : Int32) - (p2 - p3))) &&& 0x3f).toInt64)) % (16 : Int64)).toInt32)).toUInt32.toUInt16.toUInt32.toInt32)), (.int (atv cl p2))]) := fun t k => P30 t (by
          refine XS.icmpNo X0.here hx rfl (hb hby d2_58) rfl (XT.ii_ge_f hc58_31) ?_
          refine XS.bipush X0.here hx rfl (hb hby d2_61) ?_
          refine XS.iload X0.here hx rfl (hb hby d2_63) rfl ?_
          refine XS.iadd X0.here hx rfl (hb hby d2_65) rfl ?_
          refine XS.i2c X0.here hx rfl (hb hby d2_66) rfl ?_
          refine XS.istore X0.here hx rfl (hb hby d2_67) rfl (l' := #[.val (.ref a1), .val (.int p2), .val (.int p3), .val (.long p4), .second, .val (.int ((7 : Int32) - (p2 - p3))), .val (.long ((1 : Int64) <<< (((4 : Int32) * ((7 : Int32) - (p2 - p3))) &&& 0x3f).toInt64)), .second, .val (.int (((p4 / ((1 : Int64) <<< (((4 : Int32) * ((7 : Int32) - (p2 - p3))) &&& 0x3f).toInt64)) % (16 : Int64)).toInt32)), .val (.int (((48 : Int32) + (((p4 / ((1 : Int64) <<< (((4 : Int32) * ((7 : Int32) - (p2 - p3))) &&& 0x3f).toInt64)) % (16 : Int64)).toInt32)).toUInt32.toUInt16.toUInt32.toInt32))]) rfl ?_
          refine XS.goto X0.here hx rfl (pc0 := 69) (pc' := 83) rfl (hb hby d2_69) (by decide) (by decide) ?_
          refine XS.aloadN X0.here hx rfl (hb hby d2_83) rfl rfl ?_
          show Steps p.tables e below (s₁.setTop (mkF m 84 #[.val (.ref a1), .val (.int p2), .val (.int p3), .val (.long p4), .second, .val (.int ((7 : Int32) - (p2 - p3))), .val (.long ((1 : Int64) <<< (((4 : Int32) * ((7 : Int32) - (p2 - p3))) &&& 0x3f).toInt64)), .second, .val (.int (((p4 / ((1 : Int64) <<< (((4 : Int32) * ((7 : Int32) - (p2 - p3))) &&& 0x3f).toInt64)) % (16 : Int64)).toInt32)), .val (.int (((48 : Int32) + (((p4 / ((1 : Int64) <<< (((4 : Int32) * ((7 : Int32) - (p2 - p3))) &&& 0x3f).toInt64)) % (16 : Int64)).toInt32)).toUInt32.toUInt16.toUInt32.toInt32))] [(.ref a1)])) _
          refine XS.iloadN X0.here hx rfl (hb hby d2_84) rfl ?_
          refine X0.caload hx (j := p2) (v := .int (atv cl p2)) (by rw [e0]; exact T_a1.1.1) (State.isArrayOf_alike hZ.alike T_a1.1.2.1) T_a1.1.2.2 hin85_32 (T_a1.2.2.2 _ hin85_32) (g := (mkF m 85 #[.val (.ref a1), .val (.int p2), .val (.int p3), .val (.long p4), .second, .val (.int ((7 : Int32) - (p2 - p3))), .val (.long ((1 : Int64) <<< (((4 : Int32) * ((7 : Int32) - (p2 - p3))) &&& 0x3f).toInt64)), .second, .val (.int (((p4 / ((1 : Int64) <<< (((4 : Int32) * ((7 : Int32) - (p2 - p3))) &&& 0x3f).toInt64)) % (16 : Int64)).toInt32)), .val (.int (((48 : Int32) + (((p4 / ((1 : Int64) <<< (((4 : Int32) * ((7 : Int32) - (p2 - p3))) &&& 0x3f).toInt64)) % (16 : Int64)).toInt32)).toUInt32.toUInt16.toUInt32.toInt32))] [(.int p2), (.ref a1)])) rfl rfl (hb hby d2_85) _ ?_
          refine XS.iload X0.here hx rfl (hb hby d2_86) rfl ?_
          exact k)
        by_cases hc88_34 : (atv cl p2) = (((48 : Int32) + (((p4 / ((1 : Int64) <<< (((4 : Int32) * ((7 : Int32) - (p2 - p3))) &&& 0x3f).toInt64)) % (16 : Int64)).toInt32)).toUInt32.toUInt16.toUInt32.toInt32)
        · have P35 : own_Pr p.tables e below S0 s₁ (mkF m 96 #[.val (.ref a1), .val (.int p2), .val (.int p3), .val (.long p4), .second, .val (.int ((7 : Int32) - (p2 - p3))), .val (.long ((1 : Int64) <<< (((4 : Int32) * ((7 : Int32) - (p2 - p3))) &&& 0x3f).toInt64)), .second, .val (.int (((p4 / ((1 : Int64) <<< (((4 : Int32) * ((7 : Int32) - (p2 - p3))) &&& 0x3f).toInt64)) % (16 : Int64)).toInt32)), .val (.int (((48 : Int32) + (((p4 / ((1 : Int64) <<< (((4 : Int32) * ((7 : Int32) - (p2 - p3))) &&& 0x3f).toInt64)) % (16 : Int64)).toInt32)).toUInt32.toUInt16.toUInt32.toInt32))] [(.int (1 : Int32))]) := fun t k => P33 t (by
            refine XS.icmpNo X0.here hx rfl (hb hby d2_88) rfl (XT.ii_ne_f hc88_34) ?_
            refine XS.iconst X0.here hx rfl (hb hby d2_91) ?_
            refine XS.goto X0.here hx rfl (pc0 := 92) (pc' := 96) rfl (hb hby d2_92) (by decide) (by decide) ?_
            exact k)
          obtain ⟨fs, hr, hrun, hended, hW, hsame⟩ := X0.leave (v := some (.int (1 : Int32))) (fun h => by rw [Bd.returns] at h; cases h)
          have fin : Steps p.tables e below S0 (s₁.setFrames fs) := P35 _ (retN X0 hx (t := .boolean) Bd.returns (by simp) (hb hby d2_96) hr)
          rw [hS0] at fin
          refine ⟨_, _, fin, hrun, hended, _, _, rfl, ?_, ⟨_, rfl⟩, hW, hsame.mono (by decide) (by decide)⟩
          show own_QI h0 n0 (own_f2 cl p2 p3 p4) _ s₁.heap _
          rw [e0]
          exact ⟨_, rfl, (by unfold own_f2; rw [if_neg hc2_22, if_pos hc10_29, if_pos hc58_31, if_pos hc88_34]), N0, rfl⟩
        · have P36 : own_Pr p.tables e below S0 s₁ (mkF m 96 #[.val (.ref a1), .val (.int p2), .val (.int p3), .val (.long p4), .second, .val (.int ((7 : Int32) - (p2 - p3))), .val (.long ((1 : Int64) <<< (((4 : Int32) * ((7 : Int32) - (p2 - p3))) &&& 0x3f).toInt64)), .second, .val (.int (((p4 / ((1 : Int64) <<< (((4 : Int32) * ((7 : Int32) - (p2 - p3))) &&& 0x3f).toInt64)) % (16 : Int64)).toInt32)), .val (.int (((48 : Int32) + (((p4 / ((1 : Int64) <<< (((4 : Int32) * ((7 : Int32) - (p2 - p3))) &&& 0x3f).toInt64)) % (16 : Int64)).toInt32)).toUInt32.toUInt16.toUInt32.toInt32))] [(.int (0 : Int32))]) := fun t k => P33 t (by
            refine XS.icmpYes X0.here hx rfl (pc0 := 88) (pc' := 95) rfl (hb hby d2_88) rfl (XT.ii_ne_t hc88_34) (by decide) (by decide) ?_
            refine XS.iconst X0.here hx rfl (hb hby d2_95) ?_
            exact k)
          obtain ⟨fs, hr, hrun, hended, hW, hsame⟩ := X0.leave (v := some (.int (0 : Int32))) (fun h => by rw [Bd.returns] at h; cases h)
          have fin : Steps p.tables e below S0 (s₁.setFrames fs) := P36 _ (retN X0 hx (t := .boolean) Bd.returns (by simp) (hb hby d2_96) hr)
          rw [hS0] at fin
          refine ⟨_, _, fin, hrun, hended, _, _, rfl, ?_, ⟨_, rfl⟩, hW, hsame.mono (by decide) (by decide)⟩
          show own_QI h0 n0 (own_f2 cl p2 p3 p4) _ s₁.heap _
          rw [e0]
          exact ⟨_, rfl, (by unfold own_f2; rw [if_neg hc2_22, if_pos hc10_29, if_pos hc58_31, if_neg hc88_34]), N0, rfl⟩
      · have hin85_37 : ¬ (p2 < 0 ∨ cl.slots.size ≤ (p2).toNatClampNeg) := inb_of T_a1.2.1 hp
        have P38 : own_Pr p.tables e below S0 s₁ (mkF m 88 #[.val (.ref a1), .val (.int p2), .val (.int p3), .val (.long p4), .second, .val (.int ((7 : Int32) - (p2 - p3))), .val (.long ((1 : Int64) <<< (((4 : Int32) * ((7 : Int32) - (p2 - p3))) &&& 0x3f).toInt64)), .second, .val (.int (((p4 / ((1 : Int64) <<< (((4 : Int32) * ((7 : Int32) - (p2 - p3))) &&& 0x3f).toInt64)) % (16 : Int64)).toInt32)), .val (.int (((97 : Int32) + ((((p4 / ((1 : Int64) <<< (((4 : Int32) * ((7 : Int32) - (p2 - p3))) &&& 0x3f).toInt64)) % (16 : Int64)).toInt32) - (10 : Int32))).toUInt32.toUInt16.toUInt32.toInt32))] [(.int (((97 : Int32) + ((((p4 / ((1 : Int64) <<< (((4 : Int32) * ((7 : Int32) - (p2 - p3))) &&& 0x3f).toInt64)) % (16 : Int64)).toInt32) - (10 : Int32))).toUInt32.toUInt16.toUInt32.toInt32)), (.int (atv cl p2))]) := fun t k => P30 t (by
          refine XS.icmpYes X0.here hx rfl (pc0 := 58) (pc' := 72) rfl (hb hby d2_58) rfl (XT.ii_ge_t hc58_31) (by decide) (by decide) ?_
          refine XS.bipush X0.here hx rfl (hb hby d2_72) ?_
          refine XS.iload X0.here hx rfl (hb hby d2_74) rfl ?_
          refine XS.bipush X0.here hx rfl (hb hby d2_76) ?_
          refine XS.isub X0.here hx rfl (hb hby d2_78) rfl ?_
          refine XS.iadd X0.here hx rfl (hb hby d2_79) rfl ?_
          refine XS.i2c X0.here hx rfl (hb hby d2_80) rfl ?_
          refine XS.istore X0.here hx rfl (hb hby d2_81) rfl (l' := #[.val (.ref a1), .val (.int p2), .val (.int p3), .val (.long p4), .second, .val (.int ((7 : Int32) - (p2 - p3))), .val (.long ((1 : Int64) <<< (((4 : Int32) * ((7 : Int32) - (p2 - p3))) &&& 0x3f).toInt64)), .second, .val (.int (((p4 / ((1 : Int64) <<< (((4 : Int32) * ((7 : Int32) - (p2 - p3))) &&& 0x3f).toInt64)) % (16 : Int64)).toInt32)), .val (.int (((97 : Int32) + ((((p4 / ((1 : Int64) <<< (((4 : Int32) * ((7 : Int32) - (p2 - p3))) &&& 0x3f).toInt64)) % (16 : Int64)).toInt32) - (10 : Int32))).toUInt32.toUInt16.toUInt32.toInt32))]) rfl ?_
          show Steps p.tables e below (s₁.setTop (mkF m 83 #[.val (.ref a1), .val (.int p2), .val (.int p3), .val (.long p4), .second, .val (.int ((7 : Int32) - (p2 - p3))), .val (.long ((1 : Int64) <<< (((4 : Int32) * ((7 : Int32) - (p2 - p3))) &&& 0x3f).toInt64)), .second, .val (.int (((p4 / ((1 : Int64) <<< (((4 : Int32) * ((7 : Int32) - (p2 - p3))) &&& 0x3f).toInt64)) % (16 : Int64)).toInt32)), .val (.int (((97 : Int32) + ((((p4 / ((1 : Int64) <<< (((4 : Int32) * ((7 : Int32) - (p2 - p3))) &&& 0x3f).toInt64)) % (16 : Int64)).toInt32) - (10 : Int32))).toUInt32.toUInt16.toUInt32.toInt32))] [])) _
          refine XS.aloadN X0.here hx rfl (hb hby d2_83) rfl rfl ?_
          refine XS.iloadN X0.here hx rfl (hb hby d2_84) rfl ?_
          refine X0.caload hx (j := p2) (v := .int (atv cl p2)) (by rw [e0]; exact T_a1.1.1) (State.isArrayOf_alike hZ.alike T_a1.1.2.1) T_a1.1.2.2 hin85_37 (T_a1.2.2.2 _ hin85_37) (g := (mkF m 85 #[.val (.ref a1), .val (.int p2), .val (.int p3), .val (.long p4), .second, .val (.int ((7 : Int32) - (p2 - p3))), .val (.long ((1 : Int64) <<< (((4 : Int32) * ((7 : Int32) - (p2 - p3))) &&& 0x3f).toInt64)), .second, .val (.int (((p4 / ((1 : Int64) <<< (((4 : Int32) * ((7 : Int32) - (p2 - p3))) &&& 0x3f).toInt64)) % (16 : Int64)).toInt32)), .val (.int (((97 : Int32) + ((((p4 / ((1 : Int64) <<< (((4 : Int32) * ((7 : Int32) - (p2 - p3))) &&& 0x3f).toInt64)) % (16 : Int64)).toInt32) - (10 : Int32))).toUInt32.toUInt16.toUInt32.toInt32))] [(.int p2), (.ref a1)])) rfl rfl (hb hby d2_85) _ ?_
          refine XS.iload X0.here hx rfl (hb hby d2_86) rfl ?_
          exact k)
        by_cases hc88_39 : (atv cl p2) = (((97 : Int32) + ((((p4 / ((1 : Int64) <<< (((4 : Int32) * ((7 : Int32) - (p2 - p3))) &&& 0x3f).toInt64)) % (16 : Int64)).toInt32) - (10 : Int32))).toUInt32.toUInt16.toUInt32.toInt32)
        · have P40 : own_Pr p.tables e below S0 s₁ (mkF m 96 #[.val (.ref a1), .val (.int p2), .val (.int p3), .val (.long p4), .second, .val (.int ((7 : Int32) - (p2 - p3))), .val (.long ((1 : Int64) <<< (((4 : Int32) * ((7 : Int32) - (p2 - p3))) &&& 0x3f).toInt64)), .second, .val (.int (((p4 / ((1 : Int64) <<< (((4 : Int32) * ((7 : Int32) - (p2 - p3))) &&& 0x3f).toInt64)) % (16 : Int64)).toInt32)), .val (.int (((97 : Int32) + ((((p4 / ((1 : Int64) <<< (((4 : Int32) * ((7 : Int32) - (p2 - p3))) &&& 0x3f).toInt64)) % (16 : Int64)).toInt32) - (10 : Int32))).toUInt32.toUInt16.toUInt32.toInt32))] [(.int (1 : Int32))]) := fun t k => P38 t (by
            refine XS.icmpNo X0.here hx rfl (hb hby d2_88) rfl (XT.ii_ne_f hc88_39) ?_
            refine XS.iconst X0.here hx rfl (hb hby d2_91) ?_
            refine XS.goto X0.here hx rfl (pc0 := 92) (pc' := 96) rfl (hb hby d2_92) (by decide) (by decide) ?_
            exact k)
          obtain ⟨fs, hr, hrun, hended, hW, hsame⟩ := X0.leave (v := some (.int (1 : Int32))) (fun h => by rw [Bd.returns] at h; cases h)
          have fin : Steps p.tables e below S0 (s₁.setFrames fs) := P40 _ (retN X0 hx (t := .boolean) Bd.returns (by simp) (hb hby d2_96) hr)
          rw [hS0] at fin
          refine ⟨_, _, fin, hrun, hended, _, _, rfl, ?_, ⟨_, rfl⟩, hW, hsame.mono (by decide) (by decide)⟩
          show own_QI h0 n0 (own_f2 cl p2 p3 p4) _ s₁.heap _
          rw [e0]
          exact ⟨_, rfl, (by unfold own_f2; rw [if_neg hc2_22, if_pos hc10_29, if_neg hc58_31, if_pos hc88_39]), N0, rfl⟩
        · have P41 : own_Pr p.tables e below S0 s₁ (mkF m 96 #[.val (.ref a1), .val (.int p2), .val (.int p3), .val (.long p4), .second, .val (.int ((7 : Int32) - (p2 - p3))), .val (.long ((1 : Int64) <<< (((4 : Int32) * ((7 : Int32) - (p2 - p3))) &&& 0x3f).toInt64)), .second, .val (.int (((p4 / ((1 : Int64) <<< (((4 : Int32) * ((7 : Int32) - (p2 - p3))) &&& 0x3f).toInt64)) % (16 : Int64)).toInt32)), .val (.int (((97 : Int32) + ((((p4 / ((1 : Int64) <<< (((4 : Int32) * ((7 : Int32) - (p2 - p3))) &&& 0x3f).toInt64)) % (16 : Int64)).toInt32) - (10 : Int32))).toUInt32.toUInt16.toUInt32.toInt32))] [(.int (0 : Int32))]) := fun t k => P38 t (by
            refine XS.icmpYes X0.here hx rfl (pc0 := 88) (pc' := 95) rfl (hb hby d2_88) rfl (XT.ii_ne_t hc88_39) (by decide) (by decide) ?_
            refine XS.iconst X0.here hx rfl (hb hby d2_95) ?_
            exact k)
          obtain ⟨fs, hr, hrun, hended, hW, hsame⟩ := X0.leave (v := some (.int (0 : Int32))) (fun h => by rw [Bd.returns] at h; cases h)
          have fin : Steps p.tables e below S0 (s₁.setFrames fs) := P41 _ (retN X0 hx (t := .boolean) Bd.returns (by simp) (hb hby d2_96) hr)
          rw [hS0] at fin
          refine ⟨_, _, fin, hrun, hended, _, _, rfl, ?_, ⟨_, rfl⟩, hW, hsame.mono (by decide) (by decide)⟩
          show own_QI h0 n0 (own_f2 cl p2 p3 p4) _ s₁.heap _
          rw [e0]
          exact ⟨_, rfl, (by unfold own_f2; rw [if_neg hc2_22, if_pos hc10_29, if_neg hc58_31, if_neg hc88_39]), N0, rfl⟩
    · have hin15_42 : ¬ (p2 < 0 ∨ cl.slots.size ≤ (p2).toNatClampNeg) := inb_of T_a1.2.1 hp
      have P43 : own_Pr p.tables e below S0 s₁ (mkF m 18 #[.val (.ref a1), .val (.int p2), .val (.int p3), .val (.long p4), .second, .unset, .unset, .unset, .unset, .unset] [(.int (35 : Int32)), (.int (atv cl p2))]) := fun t k => P28 t (by
        refine XS.icmpNo X0.here hx rfl (hb hby d2_10) rfl (XT.ii_lt_f hc10_29) ?_
        refine XS.aloadN X0.here hx rfl (hb hby d2_13) rfl rfl ?_
        refine XS.iloadN X0.here hx rfl (hb hby d2_14) rfl ?_
        refine X0.caload hx (j := p2) (v := .int (atv cl p2)) (by rw [e0]; exact T_a1.1.1) (State.isArrayOf_alike hZ.alike T_a1.1.2.1) T_a1.1.2.2 hin15_42 (T_a1.2.2.2 _ hin15_42) (g := (mkF m 15 #[.val (.ref a1), .val (.int p2), .val (.int p3), .val (.long p4), .second, .unset, .unset, .unset, .unset, .unset] [(.int p2), (.ref a1)])) rfl rfl (hb hby d2_15) _ ?_
        refine XS.bipush X0.here hx rfl (hb hby d2_16) ?_
        exact k)
      by_cases hc18_44 : (atv cl p2) = (35 : Int32)
      · have P45 : own_Pr p.tables e below S0 s₁ (mkF m 26 #[.val (.ref a1), .val (.int p2), .val (.int p3), .val (.long p4), .second, .unset, .unset, .unset, .unset, .unset] [(.int (1 : Int32))]) := fun t k => P43 t (by
          refine XS.icmpNo X0.here hx rfl (hb hby d2_18) rfl (XT.ii_ne_f hc18_44) ?_
          refine XS.iconst X0.here hx rfl (hb hby d2_21) ?_
          refine XS.goto X0.here hx rfl (pc0 := 22) (pc' := 26) rfl (hb hby d2_22) (by decide) (by decide) ?_
          exact k)
        obtain ⟨fs, hr, hrun, hended, hW, hsame⟩ := X0.leave (v := some (.int (1 : Int32))) (fun h => by rw [Bd.returns] at h; cases h)
        have fin : Steps p.tables e below S0 (s₁.setFrames fs) := P45 _ (retN X0 hx (t := .boolean) Bd.returns (by simp) (hb hby d2_26) hr)
        rw [hS0] at fin
        refine ⟨_, _, fin, hrun, hended, _, _, rfl, ?_, ⟨_, rfl⟩, hW, hsame.mono (by decide) (by decide)⟩
        show own_QI h0 n0 (own_f2 cl p2 p3 p4) _ s₁.heap _
        rw [e0]
        exact ⟨_, rfl, (by unfold own_f2; rw [if_neg hc2_22, if_neg hc10_29, if_pos hc18_44]), N0, rfl⟩
      · have P46 : own_Pr p.tables e below S0 s₁ (mkF m 26 #[.val (.ref a1), .val (.int p2), .val (.int p3), .val (.long p4), .second, .unset, .unset, .unset, .unset, .unset] [(.int (0 : Int32))]) := fun t k => P43 t (by
          refine XS.icmpYes X0.here hx rfl (pc0 := 18) (pc' := 25) rfl (hb hby d2_18) rfl (XT.ii_ne_t hc18_44) (by decide) (by decide) ?_
          refine XS.iconst X0.here hx rfl (hb hby d2_25) ?_
          exact k)
        obtain ⟨fs, hr, hrun, hended, hW, hsame⟩ := X0.leave (v := some (.int (0 : Int32))) (fun h => by rw [Bd.returns] at h; cases h)
        have fin : Steps p.tables e below S0 (s₁.setFrames fs) := P46 _ (retN X0 hx (t := .boolean) Bd.returns (by simp) (hb hby d2_26) hr)
        rw [hS0] at fin
        refine ⟨_, _, fin, hrun, hended, _, _, rfl, ?_, ⟨_, rfl⟩, hW, hsame.mono (by decide) (by decide)⟩
        show own_QI h0 n0 (own_f2 cl p2 p3 p4) _ s₁.heap _
        rw [e0]
        exact ⟨_, rfl, (by unfold own_f2; rw [if_neg hc2_22, if_neg hc10_29, if_neg hc18_44]), N0, rfl⟩
theorem own_val {x z : Int64} (h : z = x &&& 4294967295) : 0 ≤ z.toInt ∧ z.toInt < 4294967296 := by
  have h1 := c_maskL x 4294967295 32 (by decide) (by decide)
  have e : ((2 ^ 32 : Nat) : Int) = 4294967296 := by decide
  rw [e] at h1
  rw [h, h1]; omega
theorem own_three {x z : Int32} (h : z = (x &&& 2147483647) % 3) : z = 0 ∨ z = 1 ∨ z = 2 := by
  have h1 := c_and x 2147483647 (by decide)
  have h2 := c_irem (x &&& 2147483647) 3 3 (by decide)
  have e0 : (0 : Int32).toInt = 0 := rfl
  have e1 : (1 : Int32).toInt = 1 := rfl
  have e2 : (2 : Int32).toInt = 2 := rfl
  rw [h]; simp only [← Int32.toInt_inj, e0, e1, e2]; omega
/-- the same nibble, by division and by shift -/
theorem own_nibEq {v : Int64} {Y : Int64} {w : Int64} {Q : Int} (hQ : 0 ≤ Q) (hY : Y.toInt = Q) (hw : w.toInt = Q) : Y.toInt32 &&& 15 = (w % 16).toInt32 ∧ 0 ≤ ((w % 16).toInt32).toInt ∧ ((w % 16).toInt32).toInt < 16 := by
  have h1 := c_mask Y.toInt32 15 4 (by decide) (by decide)
  have h2 := c_l2i Y
  have h3 := c_lrem w 16 16 (by decide)
  rw [lrem_mod] at h3
  have h4 := c_l2i (w % 16)
  have h5 := rng32 ((w % 16).toInt32)
  have e : ((2 ^ 4 : Nat) : Int) = 16 := by decide
  rw [e] at h1
  have h6 := h3.1 (by omega)
  refine ⟨Int32.toInt_inj.mp ?_, ?_, ?_⟩ <;> omega
theorem own_nibK {v : Int64} (hv : 0 ≤ v.toInt ∧ v.toInt < 4294967296) (c : Int32) (k : Nat) (hk : c.toBitVec.toNat % 64 = k) (h0 : 0 < k) (D : Int) (hD : ((2 ^ k : Nat) : Int) = D) (hD0 : 0 < D) (hp : ((1 : Int64) <<< (c &&& 0x3f).toInt64).toInt = D) (hp1 : (1 : Int64) <<< (c &&& 0x3f).toInt64 ≠ -1) :
    ((((v.toUInt64 >>> (c &&& 0x3f).toInt64.toUInt64).toInt64).toInt32) &&& (15 : Int32)) = ((v / ((1 : Int64) <<< (c &&& 0x3f).toInt64)) % 16).toInt32 ∧ 0 ≤ (((v / ((1 : Int64) <<< (c &&& 0x3f).toInt64)) % 16).toInt32).toInt ∧ (((v / ((1 : Int64) <<< (c &&& 0x3f).toInt64)) % 16).toInt32).toInt < 16 := by
  have h1 := c_lushr v c k hk h0
  have h2 := (c_ldiv v _ D hp hp1).1 hv.1
  rw [hD] at h1
  rw [Int.emod_eq_of_lt hv.1 (by omega)] at h1
  exact own_nibEq (v := v) (Int.ediv_nonneg hv.1 (by omega)) h1 h2
theorem own_nib0 {v : Int64} (hv : 0 ≤ v.toInt ∧ v.toInt < 4294967296) :
    ((((v.toUInt64 >>> ((0 : Int32) &&& 0x3f).toInt64.toUInt64).toInt64).toInt32) &&& (15 : Int32)) = ((v / ((1 : Int64) <<< ((0 : Int32) &&& 0x3f).toInt64)) % 16).toInt32 ∧ 0 ≤ (((v / ((1 : Int64) <<< ((0 : Int32) &&& 0x3f).toInt64)) % 16).toInt32).toInt ∧ (((v / ((1 : Int64) <<< ((0 : Int32) &&& 0x3f).toInt64)) % 16).toInt32).toInt < 16 := by
  have e : ((v.toUInt64 >>> ((0 : Int32) &&& 0x3f).toInt64.toUInt64).toInt64) = v := by
    have e1 : ((0 : Int32) &&& 0x3f).toInt64.toUInt64 = 0 := by decide
    rw [e1, UInt64.shiftRight_zero]; simp
  have e2 : ((1 : Int64) <<< ((0 : Int32) &&& 0x3f).toInt64) = 1 := by decide
  have h2 := (c_ldiv v 1 1 (by decide) (by decide)).1 hv.1
  rw [Int.ediv_one] at h2
  rw [e, e2]
  exact own_nibEq (v := v) hv.1 rfl h2
/-- the digit of a nibble -/
theorem own_digit {cd : Cell} (HD : ∀ j : Int32, ¬ j < 0 → j < 16 → atv cd j = if j < 10 then j + 48 else j + 87) {d : Int32} (h : 0 ≤ d.toInt ∧ d.toInt < 16) :
    nar .char (atv cd d) = if d < 10 then ((48 : Int32) + d).toUInt32.toUInt16.toUInt32.toInt32 else ((97 : Int32) + (d - 10)).toUInt32.toUInt16.toUInt32.toInt32 := by
  have e0 : (0 : Int32).toInt = 0 := rfl
  have e16 : (16 : Int32).toInt = 16 := rfl
  rw [HD d (by rw [Int32.lt_iff_toInt_lt, e0]; omega) (by rw [Int32.lt_iff_toInt_lt, e16]; omega)]
  have key : ∀ n : Nat, n < 16 → d.toInt = n → d = Int32.ofNat n := fun n hn e => Int32.toInt_inj.mp (by rw [e, Int32.toInt_ofNat_of_lt (by omega)])
  obtain ⟨n, hn, e⟩ : ∃ n : Nat, n < 16 ∧ d.toInt = n := ⟨d.toInt.toNat, by omega, by omega⟩
  rw [key n hn e]
  have all : ∀ n : Fin 16, nar .char (if Int32.ofNat n.val < 10 then Int32.ofNat n.val + 48 else Int32.ofNat n.val + 87) = if Int32.ofNat n.val < 10 then ((48 : Int32) + Int32.ofNat n.val).toUInt32.toUInt16.toUInt32.toInt32 else ((97 : Int32) + (Int32.ofNat n.val - 10)).toUInt32.toUInt16.toUInt32.toInt32 := by decide +kernel
  exact all ⟨n, hn⟩
theorem own_sh0 {cd : Cell} (HD : ∀ j : Int32, ¬ j < 0 → j < 16 → atv cd j = if j < 10 then j + 48 else j + 87) {v : Int64} (hv : 0 ≤ v.toInt ∧ v.toInt < 4294967296) : own_dg cd v 0 = if (((v / ((1 : Int64) <<< ((0 : Int32) &&& 0x3f).toInt64)) % 16).toInt32) < 10 then ((48 : Int32) + (((v / ((1 : Int64) <<< ((0 : Int32) &&& 0x3f).toInt64)) % 16).toInt32)).toUInt32.toUInt16.toUInt32.toInt32 else ((97 : Int32) + ((((v / ((1 : Int64) <<< ((0 : Int32) &&& 0x3f).toInt64)) % 16).toInt32) - 10)).toUInt32.toUInt16.toUInt32.toInt32 := by
  obtain ⟨h1, h2⟩ := own_nib0 hv
  unfold own_dg
  rw [h1]; exact own_digit HD h2
theorem own_sh4 {cd : Cell} (HD : ∀ j : Int32, ¬ j < 0 → j < 16 → atv cd j = if j < 10 then j + 48 else j + 87) {v : Int64} (hv : 0 ≤ v.toInt ∧ v.toInt < 4294967296) : own_dg cd v 4 = if (((v / ((1 : Int64) <<< ((4 : Int32) &&& 0x3f).toInt64)) % 16).toInt32) < 10 then ((48 : Int32) + (((v / ((1 : Int64) <<< ((4 : Int32) &&& 0x3f).toInt64)) % 16).toInt32)).toUInt32.toUInt16.toUInt32.toInt32 else ((97 : Int32) + ((((v / ((1 : Int64) <<< ((4 : Int32) &&& 0x3f).toInt64)) % 16).toInt32) - 10)).toUInt32.toUInt16.toUInt32.toInt32 := by
  obtain ⟨h1, h2⟩ := own_nibK hv 4 4 (by decide) (by decide) 16 (by decide) (by decide) (by decide) (by decide)
  unfold own_dg
  rw [h1]; exact own_digit HD h2
theorem own_sh8 {cd : Cell} (HD : ∀ j : Int32, ¬ j < 0 → j < 16 → atv cd j = if j < 10 then j + 48 else j + 87) {v : Int64} (hv : 0 ≤ v.toInt ∧ v.toInt < 4294967296) : own_dg cd v 8 = if (((v / ((1 : Int64) <<< ((8 : Int32) &&& 0x3f).toInt64)) % 16).toInt32) < 10 then ((48 : Int32) + (((v / ((1 : Int64) <<< ((8 : Int32) &&& 0x3f).toInt64)) % 16).toInt32)).toUInt32.toUInt16.toUInt32.toInt32 else ((97 : Int32) + ((((v / ((1 : Int64) <<< ((8 : Int32) &&& 0x3f).toInt64)) % 16).toInt32) - 10)).toUInt32.toUInt16.toUInt32.toInt32 := by
  obtain ⟨h1, h2⟩ := own_nibK hv 8 8 (by decide) (by decide) 256 (by decide) (by decide) (by decide) (by decide)
  unfold own_dg
  rw [h1]; exact own_digit HD h2
theorem own_sh12 {cd : Cell} (HD : ∀ j : Int32, ¬ j < 0 → j < 16 → atv cd j = if j < 10 then j + 48 else j + 87) {v : Int64} (hv : 0 ≤ v.toInt ∧ v.toInt < 4294967296) : own_dg cd v 12 = if (((v / ((1 : Int64) <<< ((12 : Int32) &&& 0x3f).toInt64)) % 16).toInt32) < 10 then ((48 : Int32) + (((v / ((1 : Int64) <<< ((12 : Int32) &&& 0x3f).toInt64)) % 16).toInt32)).toUInt32.toUInt16.toUInt32.toInt32 else ((97 : Int32) + ((((v / ((1 : Int64) <<< ((12 : Int32) &&& 0x3f).toInt64)) % 16).toInt32) - 10)).toUInt32.toUInt16.toUInt32.toInt32 := by
  obtain ⟨h1, h2⟩ := own_nibK hv 12 12 (by decide) (by decide) 4096 (by decide) (by decide) (by decide) (by decide)
  unfold own_dg
  rw [h1]; exact own_digit HD h2
theorem own_sh16 {cd : Cell} (HD : ∀ j : Int32, ¬ j < 0 → j < 16 → atv cd j = if j < 10 then j + 48 else j + 87) {v : Int64} (hv : 0 ≤ v.toInt ∧ v.toInt < 4294967296) : own_dg cd v 16 = if (((v / ((1 : Int64) <<< ((16 : Int32) &&& 0x3f).toInt64)) % 16).toInt32) < 10 then ((48 : Int32) + (((v / ((1 : Int64) <<< ((16 : Int32) &&& 0x3f).toInt64)) % 16).toInt32)).toUInt32.toUInt16.toUInt32.toInt32 else ((97 : Int32) + ((((v / ((1 : Int64) <<< ((16 : Int32) &&& 0x3f).toInt64)) % 16).toInt32) - 10)).toUInt32.toUInt16.toUInt32.toInt32 := by
  obtain ⟨h1, h2⟩ := own_nibK hv 16 16 (by decide) (by decide) 65536 (by decide) (by decide) (by decide) (by decide)
  unfold own_dg
  rw [h1]; exact own_digit HD h2
theorem own_sh20 {cd : Cell} (HD : ∀ j : Int32, ¬ j < 0 → j < 16 → atv cd j = if j < 10 then j + 48 else j + 87) {v : Int64} (hv : 0 ≤ v.toInt ∧ v.toInt < 4294967296) : own_dg cd v 20 = if (((v / ((1 : Int64) <<< ((20 : Int32) &&& 0x3f).toInt64)) % 16).toInt32) < 10 then ((48 : Int32) + (((v / ((1 : Int64) <<< ((20 : Int32) &&& 0x3f).toInt64)) % 16).toInt32)).toUInt32.toUInt16.toUInt32.toInt32 else ((97 : Int32) + ((((v / ((1 : Int64) <<< ((20 : Int32) &&& 0x3f).toInt64)) % 16).toInt32) - 10)).toUInt32.toUInt16.toUInt32.toInt32 := by
  obtain ⟨h1, h2⟩ := own_nibK hv 20 20 (by decide) (by decide) 1048576 (by decide) (by decide) (by decide) (by decide)
  unfold own_dg
  rw [h1]; exact own_digit HD h2
theorem own_sh24 {cd : Cell} (HD : ∀ j : Int32, ¬ j < 0 → j < 16 → atv cd j = if j < 10 then j + 48 else j + 87) {v : Int64} (hv : 0 ≤ v.toInt ∧ v.toInt < 4294967296) : own_dg cd v 24 = if (((v / ((1 : Int64) <<< ((24 : Int32) &&& 0x3f).toInt64)) % 16).toInt32) < 10 then ((48 : Int32) + (((v / ((1 : Int64) <<< ((24 : Int32) &&& 0x3f).toInt64)) % 16).toInt32)).toUInt32.toUInt16.toUInt32.toInt32 else ((97 : Int32) + ((((v / ((1 : Int64) <<< ((24 : Int32) &&& 0x3f).toInt64)) % 16).toInt32) - 10)).toUInt32.toUInt16.toUInt32.toInt32 := by
  obtain ⟨h1, h2⟩ := own_nibK hv 24 24 (by decide) (by decide) 16777216 (by decide) (by decide) (by decide) (by decide)
  unfold own_dg
  rw [h1]; exact own_digit HD h2
theorem own_sh28 {cd : Cell} (HD : ∀ j : Int32, ¬ j < 0 → j < 16 → atv cd j = if j < 10 then j + 48 else j + 87) {v : Int64} (hv : 0 ≤ v.toInt ∧ v.toInt < 4294967296) : own_dg cd v 28 = if (((v / ((1 : Int64) <<< ((28 : Int32) &&& 0x3f).toInt64)) % 16).toInt32) < 10 then ((48 : Int32) + (((v / ((1 : Int64) <<< ((28 : Int32) &&& 0x3f).toInt64)) % 16).toInt32)).toUInt32.toUInt16.toUInt32.toInt32 else ((97 : Int32) + ((((v / ((1 : Int64) <<< ((28 : Int32) &&& 0x3f).toInt64)) % 16).toInt32) - 10)).toUInt32.toUInt16.toUInt32.toInt32 := by
  obtain ⟨h1, h2⟩ := own_nibK hv 28 28 (by decide) (by decide) 268435456 (by decide) (by decide) (by decide) (by decide)
  unfold own_dg
  rw [h1]; exact own_digit HD h2
theorem own_ok_0_0 {cd ct : Cell} (HD : ∀ j : Int32, ¬ j < 0 → j < 16 → atv cd j = if j < 10 then j + 48 else j + 87) {v : Int64} (hv : 0 ≤ v.toInt ∧ v.toInt < 4294967296) (ha : atv ct 0 = own_dg cd v 28) {z : Int32} (hz : z = own_f2 ct 0 0 v) : ¬ z = 0 := by
  have e : (4 : Int32) * ((7 : Int32) - ((0 : Int32) - (0 : Int32))) = 28 := by decide
  rw [hz]; unfold own_f2
  rw [own_sh28 HD hv] at ha
  rw [e, if_neg (show ¬ (0 : Int32) < 0 by decide), if_pos (show (0 : Int32) < 0 + 8 by decide)]
  split
  · rename_i q
    rw [if_pos q] at ha
    rw [if_pos ha]; decide
  · rename_i q
    rw [if_neg q] at ha
    rw [if_pos ha]; decide
theorem own_ok_0_1 {cd ct : Cell} (HD : ∀ j : Int32, ¬ j < 0 → j < 16 → atv cd j = if j < 10 then j + 48 else j + 87) {v : Int64} (hv : 0 ≤ v.toInt ∧ v.toInt < 4294967296) (ha : atv ct 1 = own_dg cd v 24) {z : Int32} (hz : z = own_f2 ct 1 0 v) : ¬ z = 0 := by
  have e : (4 : Int32) * ((7 : Int32) - ((1 : Int32) - (0 : Int32))) = 24 := by decide
  rw [hz]; unfold own_f2
  rw [own_sh24 HD hv] at ha
  rw [e, if_neg (show ¬ (1 : Int32) < 0 by decide), if_pos (show (1 : Int32) < 0 + 8 by decide)]
  split
  · rename_i q
    rw [if_pos q] at ha
    rw [if_pos ha]; decide
  · rename_i q
    rw [if_neg q] at ha
    rw [if_pos ha]; decide
theorem own_ok_0_2 {cd ct : Cell} (HD : ∀ j : Int32, ¬ j < 0 → j < 16 → atv cd j = if j < 10 then j + 48 else j + 87) {v : Int64} (hv : 0 ≤ v.toInt ∧ v.toInt < 4294967296) (ha : atv ct 2 = own_dg cd v 20) {z : Int32} (hz : z = own_f2 ct 2 0 v) : ¬ z = 0 := by
  have e : (4 : Int32) * ((7 : Int32) - ((2 : Int32) - (0 : Int32))) = 20 := by decide
  rw [hz]; unfold own_f2
  rw [own_sh20 HD hv] at ha
  rw [e, if_neg (show ¬ (2 : Int32) < 0 by decide), if_pos (show (2 : Int32) < 0 + 8 by decide)]
  split
  · rename_i q
    rw [if_pos q] at ha
    rw [if_pos ha]; decide
  · rename_i q
    rw [if_neg q] at ha
    rw [if_pos ha]; decide
theorem own_ok_0_3 {cd ct : Cell} (HD : ∀ j : Int32, ¬ j < 0 → j < 16 → atv cd j = if j < 10 then j + 48 else j + 87) {v : Int64} (hv : 0 ≤ v.toInt ∧ v.toInt < 4294967296) (ha : atv ct 3 = own_dg cd v 16) {z : Int32} (hz : z = own_f2 ct 3 0 v) : ¬ z = 0 := by
  have e : (4 : Int32) * ((7 : Int32) - ((3 : Int32) - (0 : Int32))) = 16 := by decide
  rw [hz]; unfold own_f2
  rw [own_sh16 HD hv] at ha
  rw [e, if_neg (show ¬ (3 : Int32) < 0 by decide), if_pos (show (3 : Int32) < 0 + 8 by decide)]
  split
  · rename_i q
    rw [if_pos q] at ha
    rw [if_pos ha]; decide
  · rename_i q
    rw [if_neg q] at ha
    rw [if_pos ha]; decide
theorem own_ok_0_4 {cd ct : Cell} (HD : ∀ j : Int32, ¬ j < 0 → j < 16 → atv cd j = if j < 10 then j + 48 else j + 87) {v : Int64} (hv : 0 ≤ v.toInt ∧ v.toInt < 4294967296) (ha : atv ct 4 = own_dg cd v 12) {z : Int32} (hz : z = own_f2 ct 4 0 v) : ¬ z = 0 := by
  have e : (4 : Int32) * ((7 : Int32) - ((4 : Int32) - (0 : Int32))) = 12 := by decide
  rw [hz]; unfold own_f2
  rw [own_sh12 HD hv] at ha
  rw [e, if_neg (show ¬ (4 : Int32) < 0 by decide), if_pos (show (4 : Int32) < 0 + 8 by decide)]
  split
  · rename_i q
    rw [if_pos q] at ha
    rw [if_pos ha]; decide
  · rename_i q
    rw [if_neg q] at ha
    rw [if_pos ha]; decide
theorem own_ok_0_5 {cd ct : Cell} (HD : ∀ j : Int32, ¬ j < 0 → j < 16 → atv cd j = if j < 10 then j + 48 else j + 87) {v : Int64} (hv : 0 ≤ v.toInt ∧ v.toInt < 4294967296) (ha : atv ct 5 = own_dg cd v 8) {z : Int32} (hz : z = own_f2 ct 5 0 v) : ¬ z = 0 := by
  have e : (4 : Int32) * ((7 : Int32) - ((5 : Int32) - (0 : Int32))) = 8 := by decide
  rw [hz]; unfold own_f2
  rw [own_sh8 HD hv] at ha
  rw [e, if_neg (show ¬ (5 : Int32) < 0 by decide), if_pos (show (5 : Int32) < 0 + 8 by decide)]
  split
  · rename_i q
    rw [if_pos q] at ha
    rw [if_pos ha]; decide
  · rename_i q
    rw [if_neg q] at ha
    rw [if_pos ha]; decide
theorem own_ok_0_6 {cd ct : Cell} (HD : ∀ j : Int32, ¬ j < 0 → j < 16 → atv cd j = if j < 10 then j + 48 else j + 87) {v : Int64} (hv : 0 ≤ v.toInt ∧ v.toInt < 4294967296) (ha : atv ct 6 = own_dg cd v 4) {z : Int32} (hz : z = own_f2 ct 6 0 v) : ¬ z = 0 := by
  have e : (4 : Int32) * ((7 : Int32) - ((6 : Int32) - (0 : Int32))) = 4 := by decide
  rw [hz]; unfold own_f2
  rw [own_sh4 HD hv] at ha
  rw [e, if_neg (show ¬ (6 : Int32) < 0 by decide), if_pos (show (6 : Int32) < 0 + 8 by decide)]
  split
  · rename_i q
    rw [if_pos q] at ha
    rw [if_pos ha]; decide
  · rename_i q
    rw [if_neg q] at ha
    rw [if_pos ha]; decide
theorem own_ok_0_7 {cd ct : Cell} (HD : ∀ j : Int32, ¬ j < 0 → j < 16 → atv cd j = if j < 10 then j + 48 else j + 87) {v : Int64} (hv : 0 ≤ v.toInt ∧ v.toInt < 4294967296) (ha : atv ct 7 = own_dg cd v 0) {z : Int32} (hz : z = own_f2 ct 7 0 v) : ¬ z = 0 := by
  have e : (4 : Int32) * ((7 : Int32) - ((7 : Int32) - (0 : Int32))) = 0 := by decide
  rw [hz]; unfold own_f2
  rw [own_sh0 HD hv] at ha
  rw [e, if_neg (show ¬ (7 : Int32) < 0 by decide), if_pos (show (7 : Int32) < 0 + 8 by decide)]
  split
  · rename_i q
    rw [if_pos q] at ha
    rw [if_pos ha]; decide
  · rename_i q
    rw [if_neg q] at ha
    rw [if_pos ha]; decide
theorem own_ok_0_8 {cd ct : Cell} (HD : ∀ j : Int32, ¬ j < 0 → j < 16 → atv cd j = if j < 10 then j + 48 else j + 87) {v : Int64} (hv : 0 ≤ v.toInt ∧ v.toInt < 4294967296) (ha : atv ct 8 = 35) {z : Int32} (hz : z = own_f2 ct 8 0 v) : ¬ z = 0 := by
  rw [hz]; unfold own_f2
  rw [if_neg (show ¬ (8 : Int32) < 0 by decide), if_neg (show ¬ (8 : Int32) < 0 + 8 by decide), if_pos ha]; decide
theorem own_ok_0_9 {cd ct : Cell} (HD : ∀ j : Int32, ¬ j < 0 → j < 16 → atv cd j = if j < 10 then j + 48 else j + 87) {v : Int64} (hv : 0 ≤ v.toInt ∧ v.toInt < 4294967296) (ha : atv ct 9 = 35) {z : Int32} (hz : z = own_f2 ct 9 0 v) : ¬ z = 0 := by
  rw [hz]; unfold own_f2
  rw [if_neg (show ¬ (9 : Int32) < 0 by decide), if_neg (show ¬ (9 : Int32) < 0 + 8 by decide), if_pos ha]; decide
theorem own_ok_1_0 {cd ct : Cell} (HD : ∀ j : Int32, ¬ j < 0 → j < 16 → atv cd j = if j < 10 then j + 48 else j + 87) {v : Int64} (hv : 0 ≤ v.toInt ∧ v.toInt < 4294967296) (ha : atv ct 0 = 35) {z : Int32} (hz : z = own_f2 ct 0 1 v) : ¬ z = 0 := by
  rw [hz]; unfold own_f2
  rw [if_pos (show (0 : Int32) < 1 by decide), if_pos ha]; decide
theorem own_ok_1_1 {cd ct : Cell} (HD : ∀ j : Int32, ¬ j < 0 → j < 16 → atv cd j = if j < 10 then j + 48 else j + 87) {v : Int64} (hv : 0 ≤ v.toInt ∧ v.toInt < 4294967296) (ha : atv ct 1 = own_dg cd v 28) {z : Int32} (hz : z = own_f2 ct 1 1 v) : ¬ z = 0 := by
  have e : (4 : Int32) * ((7 : Int32) - ((1 : Int32) - (1 : Int32))) = 28 := by decide
  rw [hz]; unfold own_f2
  rw [own_sh28 HD hv] at ha
  rw [e, if_neg (show ¬ (1 : Int32) < 1 by decide), if_pos (show (1 : Int32) < 1 + 8 by decide)]
  split
  · rename_i q
    rw [if_pos q] at ha
    rw [if_pos ha]; decide
  · rename_i q
    rw [if_neg q] at ha
    rw [if_pos ha]; decide
theorem own_ok_1_2 {cd ct : Cell} (HD : ∀ j : Int32, ¬ j < 0 → j < 16 → atv cd j = if j < 10 then j + 48 else j + 87) {v : Int64} (hv : 0 ≤ v.toInt ∧ v.toInt < 4294967296) (ha : atv ct 2 = own_dg cd v 24) {z : Int32} (hz : z = own_f2 ct 2 1 v) : ¬ z = 0 := by
  have e : (4 : Int32) * ((7 : Int32) - ((2 : Int32) - (1 : Int32))) = 24 := by decide
  rw [hz]; unfold own_f2
  rw [own_sh24 HD hv] at ha
  rw [e, if_neg (show ¬ (2 : Int32) < 1 by decide), if_pos (show (2 : Int32) < 1 + 8 by decide)]
  split
  · rename_i q
    rw [if_pos q] at ha
    rw [if_pos ha]; decide
  · rename_i q
    rw [if_neg q] at ha
    rw [if_pos ha]; decide
theorem own_ok_1_3 {cd ct : Cell} (HD : ∀ j : Int32, ¬ j < 0 → j < 16 → atv cd j = if j < 10 then j + 48 else j + 87) {v : Int64} (hv : 0 ≤ v.toInt ∧ v.toInt < 4294967296) (ha : atv ct 3 = own_dg cd v 20) {z : Int32} (hz : z = own_f2 ct 3 1 v) : ¬ z = 0 := by
  have e : (4 : Int32) * ((7 : Int32) - ((3 : Int32) - (1 : Int32))) = 20 := by decide
  rw [hz]; unfold own_f2
  rw [own_sh20 HD hv] at ha
  rw [e, if_neg (show ¬ (3 : Int32) < 1 by decide), if_pos (show (3 : Int32) < 1 + 8 by decide)]
  split
  · rename_i q
    rw [if_pos q] at ha
    rw [if_pos ha]; decide
  · rename_i q
    rw [if_neg q] at ha
    rw [if_pos ha]; decide
theorem own_ok_1_4 {cd ct : Cell} (HD : ∀ j : Int32, ¬ j < 0 → j < 16 → atv cd j = if j < 10 then j + 48 else j + 87) {v : Int64} (hv : 0 ≤ v.toInt ∧ v.toInt < 4294967296) (ha : atv ct 4 = own_dg cd v 16) {z : Int32} (hz : z = own_f2 ct 4 1 v) : ¬ z = 0 := by
  have e : (4 : Int32) * ((7 : Int32) - ((4 : Int32) - (1 : Int32))) = 16 := by decide
  rw [hz]; unfold own_f2
  rw [own_sh16 HD hv] at ha
  rw [e, if_neg (show ¬ (4 : Int32) < 1 by decide), if_pos (show (4 : Int32) < 1 + 8 by decide)]
  split
  · rename_i q
    rw [if_pos q] at ha
    rw [if_pos ha]; decide
  · rename_i q
    rw [if_neg q] at ha
    rw [if_pos ha]; decide
theorem own_ok_1_5 {cd ct : Cell} (HD : ∀ j : Int32, ¬ j < 0 → j < 16 → atv cd j = if j < 10 then j + 48 else j + 87) {v : Int64} (hv : 0 ≤ v.toInt ∧ v.toInt < 4294967296) (ha : atv ct 5 = own_dg cd v 12) {z : Int32} (hz : z = own_f2 ct 5 1 v) : ¬ z = 0 := by
  have e : (4 : Int32) * ((7 : Int32) - ((5 : Int32) - (1 : Int32))) = 12 := by decide
  rw [hz]; unfold own_f2
  rw [own_sh12 HD hv] at ha
  rw [e, if_neg (show ¬ (5 : Int32) < 1 by decide), if_pos (show (5 : Int32) < 1 + 8 by decide)]
  split
  · rename_i q
    rw [if_pos q] at ha
    rw [if_pos ha]; decide
  · rename_i q
    rw [if_neg q] at ha
    rw [if_pos ha]; decide
theorem own_ok_1_6 {cd ct : Cell} (HD : ∀ j : Int32, ¬ j < 0 → j < 16 → atv cd j = if j < 10 then j + 48 else j + 87) {v : Int64} (hv : 0 ≤ v.toInt ∧ v.toInt < 4294967296) (ha : atv ct 6 = own_dg cd v 8) {z : Int32} (hz : z = own_f2 ct 6 1 v) : ¬ z = 0 := by
  have e : (4 : Int32) * ((7 : Int32) - ((6 : Int32) - (1 : Int32))) = 8 := by decide
  rw [hz]; unfold own_f2
  rw [own_sh8 HD hv] at ha
  rw [e, if_neg (show ¬ (6 : Int32) < 1 by decide), if_pos (show (6 : Int32) < 1 + 8 by decide)]
  split
  · rename_i q
    rw [if_pos q] at ha
    rw [if_pos ha]; decide
  · rename_i q
    rw [if_neg q] at ha
    rw [if_pos ha]; decide
theorem own_ok_1_7 {cd ct : Cell} (HD : ∀ j : Int32, ¬ j < 0 → j < 16 → atv cd j = if j < 10 then j + 48 else j + 87) {v : Int64} (hv : 0 ≤ v.toInt ∧ v.toInt < 4294967296) (ha : atv ct 7 = own_dg cd v 4) {z : Int32} (hz : z = own_f2 ct 7 1 v) : ¬ z = 0 := by
  have e : (4 : Int32) * ((7 : Int32) - ((7 : Int32) - (1 : Int32))) = 4 := by decide
  rw [hz]; unfold own_f2
  rw [own_sh4 HD hv] at ha
  rw [e, if_neg (show ¬ (7 : Int32) < 1 by decide), if_pos (show (7 : Int32) < 1 + 8 by decide)]
  split
  · rename_i q
    rw [if_pos q] at ha
    rw [if_pos ha]; decide
  · rename_i q
    rw [if_neg q] at ha
    rw [if_pos ha]; decide
theorem own_ok_1_8 {cd ct : Cell} (HD : ∀ j : Int32, ¬ j < 0 → j < 16 → atv cd j = if j < 10 then j + 48 else j + 87) {v : Int64} (hv : 0 ≤ v.toInt ∧ v.toInt < 4294967296) (ha : atv ct 8 = own_dg cd v 0) {z : Int32} (hz : z = own_f2 ct 8 1 v) : ¬ z = 0 := by
  have e : (4 : Int32) * ((7 : Int32) - ((8 : Int32) - (1 : Int32))) = 0 := by decide
  rw [hz]; unfold own_f2
  rw [own_sh0 HD hv] at ha
  rw [e, if_neg (show ¬ (8 : Int32) < 1 by decide), if_pos (show (8 : Int32) < 1 + 8 by decide)]
  split
  · rename_i q
    rw [if_pos q] at ha
    rw [if_pos ha]; decide
  · rename_i q
    rw [if_neg q] at ha
    rw [if_pos ha]; decide
theorem own_ok_1_9 {cd ct : Cell} (HD : ∀ j : Int32, ¬ j < 0 → j < 16 → atv cd j = if j < 10 then j + 48 else j + 87) {v : Int64} (hv : 0 ≤ v.toInt ∧ v.toInt < 4294967296) (ha : atv ct 9 = 35) {z : Int32} (hz : z = own_f2 ct 9 1 v) : ¬ z = 0 := by
  rw [hz]; unfold own_f2
  rw [if_neg (show ¬ (9 : Int32) < 1 by decide), if_neg (show ¬ (9 : Int32) < 1 + 8 by decide), if_pos ha]; decide
theorem own_ok_2_0 {cd ct : Cell} (HD : ∀ j : Int32, ¬ j < 0 → j < 16 → atv cd j = if j < 10 then j + 48 else j + 87) {v : Int64} (hv : 0 ≤ v.toInt ∧ v.toInt < 4294967296) (ha : atv ct 0 = 35) {z : Int32} (hz : z = own_f2 ct 0 2 v) : ¬ z = 0 := by
  rw [hz]; unfold own_f2
  rw [if_pos (show (0 : Int32) < 2 by decide), if_pos ha]; decide
theorem own_ok_2_1 {cd ct : Cell} (HD : ∀ j : Int32, ¬ j < 0 → j < 16 → atv cd j = if j < 10 then j + 48 else j + 87) {v : Int64} (hv : 0 ≤ v.toInt ∧ v.toInt < 4294967296) (ha : atv ct 1 = 35) {z : Int32} (hz : z = own_f2 ct 1 2 v) : ¬ z = 0 := by
  rw [hz]; unfold own_f2
  rw [if_pos (show (1 : Int32) < 2 by decide), if_pos ha]; decide
theorem own_ok_2_2 {cd ct : Cell} (HD : ∀ j : Int32, ¬ j < 0 → j < 16 → atv cd j = if j < 10 then j + 48 else j + 87) {v : Int64} (hv : 0 ≤ v.toInt ∧ v.toInt < 4294967296) (ha : atv ct 2 = own_dg cd v 28) {z : Int32} (hz : z = own_f2 ct 2 2 v) : ¬ z = 0 := by
  have e : (4 : Int32) * ((7 : Int32) - ((2 : Int32) - (2 : Int32))) = 28 := by decide
  rw [hz]; unfold own_f2
  rw [own_sh28 HD hv] at ha
  rw [e, if_neg (show ¬ (2 : Int32) < 2 by decide), if_pos (show (2 : Int32) < 2 + 8 by decide)]
  split
  · rename_i q
    rw [if_pos q] at ha
    rw [if_pos ha]; decide
  · rename_i q
    rw [if_neg q] at ha
    rw [if_pos ha]; decide
theorem own_ok_2_3 {cd ct : Cell} (HD : ∀ j : Int32, ¬ j < 0 → j < 16 → atv cd j = if j < 10 then j + 48 else j + 87) {v : Int64} (hv : 0 ≤ v.toInt ∧ v.toInt < 4294967296) (ha : atv ct 3 = own_dg cd v 24) {z : Int32} (hz : z = own_f2 ct 3 2 v) : ¬ z = 0 := by
  have e : (4 : Int32) * ((7 : Int32) - ((3 : Int32) - (2 : Int32))) = 24 := by decide
  rw [hz]; unfold own_f2
  rw [own_sh24 HD hv] at ha
  rw [e, if_neg (show ¬ (3 : Int32) < 2 by decide), if_pos (show (3 : Int32) < 2 + 8 by decide)]
  split
  · rename_i q
    rw [if_pos q] at ha
    rw [if_pos ha]; decide
  · rename_i q
    rw [if_neg q] at ha
    rw [if_pos ha]; decide
theorem own_ok_2_4 {cd ct : Cell} (HD : ∀ j : Int32, ¬ j < 0 → j < 16 → atv cd j = if j < 10 then j + 48 else j + 87) {v : Int64} (hv : 0 ≤ v.toInt ∧ v.toInt < 4294967296) (ha : atv ct 4 = own_dg cd v 20) {z : Int32} (hz : z = own_f2 ct 4 2 v) : ¬ z = 0 := by
  have e : (4 : Int32) * ((7 : Int32) - ((4 : Int32) - (2 : Int32))) = 20 := by decide
  rw [hz]; unfold own_f2
  rw [own_sh20 HD hv] at ha
  rw [e, if_neg (show ¬ (4 : Int32) < 2 by decide), if_pos (show (4 : Int32) < 2 + 8 by decide)]
  split
  · rename_i q
    rw [if_pos q] at ha
    rw [if_pos ha]; decide
  · rename_i q
    rw [if_neg q] at ha
    rw [if_pos ha]; decide
theorem own_ok_2_5 {cd ct : Cell} (HD : ∀ j : Int32, ¬ j < 0 → j < 16 → atv cd j = if j < 10 then j + 48 else j + 87) {v : Int64} (hv : 0 ≤ v.toInt ∧ v.toInt < 4294967296) (ha : atv ct 5 = own_dg cd v 16) {z : Int32} (hz : z = own_f2 ct 5 2 v) : ¬ z = 0 := by
  have e : (4 : Int32) * ((7 : Int32) - ((5 : Int32) - (2 : Int32))) = 16 := by decide
  rw [hz]; unfold own_f2
  rw [own_sh16 HD hv] at ha
  rw [e, if_neg (show ¬ (5 : Int32) < 2 by decide), if_pos (show (5 : Int32) < 2 + 8 by decide)]
  split
  · rename_i q
    rw [if_pos q] at ha
    rw [if_pos ha]; decide
  · rename_i q
    rw [if_neg q] at ha
    rw [if_pos ha]; decide
theorem own_ok_2_6 {cd ct : Cell} (HD : ∀ j : Int32, ¬ j < 0 → j < 16 → atv cd j = if j < 10 then j + 48 else j + 87) {v : Int64} (hv : 0 ≤ v.toInt ∧ v.toInt < 4294967296) (ha : atv ct 6 = own_dg cd v 12) {z : Int32} (hz : z = own_f2 ct 6 2 v) : ¬ z = 0 := by
  have e : (4 : Int32) * ((7 : Int32) - ((6 : Int32) - (2 : Int32))) = 12 := by decide
  rw [hz]; unfold own_f2
  rw [own_sh12 HD hv] at ha
  rw [e, if_neg (show ¬ (6 : Int32) < 2 by decide), if_pos (show (6 : Int32) < 2 + 8 by decide)]
  split
  · rename_i q
    rw [if_pos q] at ha
    rw [if_pos ha]; decide
  · rename_i q
    rw [if_neg q] at ha
    rw [if_pos ha]; decide
theorem own_ok_2_7 {cd ct : Cell} (HD : ∀ j : Int32, ¬ j < 0 → j < 16 → atv cd j = if j < 10 then j + 48 else j + 87) {v : Int64} (hv : 0 ≤ v.toInt ∧ v.toInt < 4294967296) (ha : atv ct 7 = own_dg cd v 8) {z : Int32} (hz : z = own_f2 ct 7 2 v) : ¬ z = 0 := by
  have e : (4 : Int32) * ((7 : Int32) - ((7 : Int32) - (2 : Int32))) = 8 := by decide
  rw [hz]; unfold own_f2
  rw [own_sh8 HD hv] at ha
  rw [e, if_neg (show ¬ (7 : Int32) < 2 by decide), if_pos (show (7 : Int32) < 2 + 8 by decide)]
  split
  · rename_i q
    rw [if_pos q] at ha
    rw [if_pos ha]; decide
  · rename_i q
    rw [if_neg q] at ha
    rw [if_pos ha]; decide
theorem own_ok_2_8 {cd ct : Cell} (HD : ∀ j : Int32, ¬ j < 0 → j < 16 → atv cd j = if j < 10 then j + 48 else j + 87) {v : Int64} (hv : 0 ≤ v.toInt ∧ v.toInt < 4294967296) (ha : atv ct 8 = own_dg cd v 4) {z : Int32} (hz : z = own_f2 ct 8 2 v) : ¬ z = 0 := by
  have e : (4 : Int32) * ((7 : Int32) - ((8 : Int32) - (2 : Int32))) = 4 := by decide
  rw [hz]; unfold own_f2
  rw [own_sh4 HD hv] at ha
  rw [e, if_neg (show ¬ (8 : Int32) < 2 by decide), if_pos (show (8 : Int32) < 2 + 8 by decide)]
  split
  · rename_i q
    rw [if_pos q] at ha
    rw [if_pos ha]; decide
  · rename_i q
    rw [if_neg q] at ha
    rw [if_pos ha]; decide
theorem own_ok_2_9 {cd ct : Cell} (HD : ∀ j : Int32, ¬ j < 0 → j < 16 → atv cd j = if j < 10 then j + 48 else j + 87) {v : Int64} (hv : 0 ≤ v.toInt ∧ v.toInt < 4294967296) (ha : atv ct 9 = own_dg cd v 0) {z : Int32} (hz : z = own_f2 ct 9 2 v) : ¬ z = 0 := by
  have e : (4 : Int32) * ((7 : Int32) - ((9 : Int32) - (2 : Int32))) = 0 := by decide
  rw [hz]; unfold own_f2
  rw [own_sh0 HD hv] at ha
  rw [e, if_neg (show ¬ (9 : Int32) < 2 by decide), if_pos (show (9 : Int32) < 2 + 8 by decide)]
  split
  · rename_i q
    rw [if_pos q] at ha
    rw [if_pos ha]; decide
  · rename_i q
    rw [if_neg q] at ha
    rw [if_pos ha]; decide
/-- the digits, out of the case's words -/
theorem own_case {args : Array Value} {s : State} {t : Term} {a : Addr} {cl : Cell} (ht : ∀ idx, t.eval args s none idx s = some (.ref a)) (hT : Tab s s.heap a cl .char 16) (hA : s.arrayAt? a = some cl)
    (h1 : (Cond.all t (.or (.le (.int 10) (.index 0)) (.eq (.op1 .i2l (.elem t (.index 0))) (.op2 .ladd (.op1 .i2l (.index 0)) (.long 48))))).value args s none s [] = some true)
    (h2 : (Cond.all t (.or (.lt (.index 0) (.int 10)) (.eq (.op1 .i2l (.elem t (.index 0))) (.op2 .ladd (.op1 .i2l (.index 0)) (.long 87))))).value args s none s [] = some true) :
    ∀ j : Int32, ¬ j < 0 → j < 16 → atv cl j = if j < 10 then j + 48 else j + 87 := by
  intro j j0 j1
  have hin := inb_of hT.2.1 ⟨j0, j1⟩
  have hi : j.toNatClampNeg < cl.slots.size := Nat.lt_of_not_le fun q => hin (Or.inr q)
  have g1 := Cond.all_elim (ht []) hA h1 _ hi
  have g2 := Cond.all_elim (ht []) hA h2 _ hi
  have ej : (Term.index 0).eval args s none [j.toNatClampNeg] s = some (.int j) := idx_at j0
  have ev : (Term.elem t (.index 0)).eval args s none [j.toNatClampNeg] s = some (.int (atv cl j)) := (elem_f (ht _) ej hA j0).trans (hT.2.2.2 j hin)
  have el : (Term.op1 .i2l (Term.elem t (.index 0))).eval args s none [j.toNatClampNeg] s = some (.long (atv cl j).toInt64) := (op1_f ev).trans rfl
  have eJ : (Term.op1 .i2l (Term.index 0)).eval args s none [j.toNatClampNeg] s = some (.long j.toInt64) := (op1_f ej).trans rfl
  have eK : ∀ K : Int64, (Term.op2 .ladd (Term.op1 .i2l (Term.index 0)) (.long K)).eval args s none [j.toNatClampNeg] s = some (.long (j.toInt64 + K)) := fun K => (op2_f eJ rfl).trans rfl
  have e10 : (10 : Int32).toInt = 10 := rfl
  have e0 : (0 : Int32).toInt = 0 := rfl
  have e16 : (16 : Int32).toInt = 16 := rfl
  rw [Int32.lt_iff_toInt_lt, e0] at j0
  rw [Int32.lt_iff_toInt_lt, e16] at j1
  have big : ∀ (K : Int64) (k : Int32), K.toInt = k.toInt → 0 ≤ k.toInt ∧ k.toInt < 100 → (atv cl j).toInt64 = j.toInt64 + K → atv cl j = j + k := fun K k hk hb h => by
    apply Int32.toInt_inj.mp
    have h3 := congrArg Int64.toInt h
    have h4 := c_ladd j.toInt64 K
    have h5 := c_iadd j k
    have h6 := rng32 (j + k)
    have h7 := rng32 (atv cl j)
    rw [c_i2l] at h3 h4
    omega
  by_cases q : j < 10
  · rw [if_pos q]
    rw [Int32.lt_iff_toInt_lt, e10] at q
    have hl : (Cond.le (.int 10) (.index 0)).value args s none s [j.toNatClampNeg] = some false := (Cond.le_ints rfl ej).trans (congrArg some (decide_eq_false fun w => by rw [Int32.le_iff_toInt_le, e10] at w; omega))
    rw [Cond.or_of_right hl] at g1
    exact big 48 48 rfl (by decide) (gotT (eq_L el (eK 48)) g1)
  · rw [if_neg q]
    have hl : (Cond.lt (.index 0) (.int 10)).value args s none s [j.toNatClampNeg] = some false := (Cond.lt_ints ej rfl).trans (congrArg some (decide_eq_false q))
    rw [Cond.or_of_right hl] at g2
    exact big 87 87 rfl (by decide) (gotT (eq_L el (eK 87)) g2)
theorem own_len {args : Array Value} {s : State} {t : Term} {a : Addr} {cl : Cell} {n : Int32} (ht : t.eval args s none [] s = some (.ref a)) (hA : s.arrayAt? a = some cl) (h : (Cond.eq (.length t) (.int n)).value args s none s [] = some true) : cl.slots.size < 2 ^ 31 ∧ cl.slots.size.toInt32 = n := by
  obtain ⟨x, y, hx, hy, -, -⟩ := cmp_v (Or.inl h)
  by_cases q : cl.slots.size < 2 ^ 31
  · have e := len_f ht hA q
    exact ⟨q, gotT (Cond.eq_ints e (Term.int_eval n)) h⟩
  · simp [Term.eval, ht, hA, q] at hx
theorem pd_0 : parseMethodDescriptor "(J[CI)V" = some ⟨[.long, (.array .char), .int], none⟩ := by decide +kernel
theorem pd_1 : parseMethodDescriptor "([CIIJ)Z" = some ⟨[(.array .char), .int, .int, .long], some .boolean⟩ := by decide +kernel
theorem ef_0 (m : MethodId) (p1 : Int64) (p2 : Int32) : entryFrame m #[(.long p1), (.int p2)] maxLocals = mkF m 0 #[.val (.long p1), .second, .val (.int p2), .unset, .unset, .unset, .unset] [] := by first | (simp [entryFrame, mkF, argsToLocals, Value.category, maxLocals]; done) | rfl
set_option maxRecDepth 65536 in
set_option maxHeartbeats 40000000 in
theorem rm0 (l : Launch) (Z : State) (a0 : Array Value) (hw : ∀ d ∈ tables_1, d.before a0 Z = true) (ws : List Jvm.Cond) (p1 : Int64) (p2 : Int32) (dg : Addr) (cd : Cell) (h0 : Heap) (n0 : Nat) (Z0 : n0 ≤ h0.size) (S_dg : Sta Z h0 "com/example/enqueue_to_disk/enqueuetodisk/format/internal/Unsigned32" "DIGITS" "[C" (.ref dg)) (T_dg : Tab Z h0 dg cd .char 16) (HD : ∀ j : Int32, ¬ j < 0 → j < 16 → atv cd j = if j < 10 then j + 48 else j + 87) :
    MetFree l x (head1 (Jvm.Cond.code x code maxLocals ret :: ws) room_1) (fun a U => a = #[(.long p1), (.int p2)] ∧ Z.Warmed39 U.vm ∧ U.heap = h0) (fun _ _ _ _ _ => True) (fun _ U o U' => ∃ v L, o = .returned v ∧ own_QL n0 v L ∧ FrameEnd U o U' L room_1.cells room_1.slots) := by
  refine MetFree.of_bodySF (plainFor_of_name pn_2) hisR ?_
  intro p e s m args below meth c s₁ Bd hml0 hP hK
  obtain ⟨rfl, hZ, hh⟩ := hP
  have hx := Bd.exec
  have hby := Bd.bytes
  have hml : c.maxLocals = 7 := hml0
  have hown : s.vm.findClass "com/example/enqueue_to_disk/enqueuetodisk/format/internal/Unsigned32WriteHexPinLaw" = some m.cls := findClass_of_methodNamed Bd.named
  have hnm := (name_of_methodNamed Bd.named Bd.method).1
  have X0 : Stand p l e room_1 s m #[(.long p1), (.int p2)] below meth c s₁ [] 0 0 := Stand.of_body Bd
  have e0 : s₁.heap = h0 := by rw [← hh, Bd.state]; rfl
  have N0 := Fr.nil n0
  obtain ⟨S0, hS0⟩ : ∃ z, z = s₁.setTop (entryFrame m #[(.long p1), (.int p2)] maxLocals) := ⟨_, rfl⟩
  have P0 : own_Pr p.tables e below S0 s₁ (mkF m 0 #[.val (.long p1), .second, .val (.int p2), .unset, .unset, .unset, .unset] []) := fun t k => hS0 ▸ castTop (ef_0 m p1 p2) k
  have P21 : own_Pr p.tables e below S0 s₁ (mkF m 6 #[.val (.long p1), .second, .val (.int p2), .val (.long (p1 &&& (4294967295 : Int64))), .second, .unset, .unset] []) := fun t k => P0 t (by
    refine XS.lloadN X0.here hx rfl (hb hby at_0) rfl ?_
    refine X0.ldc2Long hx hown (mvT hZ (hw _ (List.mem_of_getElem? (i := 0) rfl))) (g := (mkF m 1 #[.val (.long p1), .second, .val (.int p2), .unset, .unset, .unset, .unset] [(.long p1)])) rfl (hb hby at_1) _ ?_
    refine XS.land X0.here hx rfl (hb hby at_4) rfl ?_
    refine XS.lstoreN X0.here hx rfl (hb hby at_5) rfl (l' := #[.val (.long p1), .second, .val (.int p2), .val (.long (p1 &&& (4294967295 : Int64))), .second, .unset, .unset]) rfl ?_
    exact k)
  obtain ⟨z22, hz22⟩ : ∃ z, z = (p1 &&& (4294967295 : Int64)) := ⟨_, rfl⟩
  rw [← hz22] at P21
  have P23 : own_Pr p.tables e below S0 s₁ (mkF m 14 #[.val (.long p1), .second, .val (.int p2), .val (.long z22), .second, .val (.int ((p2 &&& (2147483647 : Int32)) % (3 : Int32))), .unset] []) := fun t k => P21 t (by
    refine XS.iloadN X0.here hx rfl (hb hby at_6) rfl ?_
    refine X0.ldcInt hx hown (mvT hZ (hw _ (List.mem_of_getElem? (i := 1) rfl))) (g := (mkF m 7 #[.val (.long p1), .second, .val (.int p2), .val (.long z22), .second, .unset, .unset] [(.int p2)])) rfl (hb hby at_7) _ ?_
    refine XS.iand X0.here hx rfl (hb hby at_9) rfl ?_
    refine XS.iconst X0.here hx rfl (hb hby at_10) ?_
    refine iremM X0 hx rfl (hb hby at_11) rfl (by decide) ?_
    refine XS.istore X0.here hx rfl (hb hby at_12) rfl (l' := #[.val (.long p1), .second, .val (.int p2), .val (.long z22), .second, .val (.int ((p2 &&& (2147483647 : Int32)) % (3 : Int32))), .unset]) rfl ?_
    exact k)
  obtain ⟨z24, hz24⟩ : ∃ z, z = ((p2 &&& (2147483647 : Int32)) % (3 : Int32)) := ⟨_, rfl⟩
  rw [← hz24] at P23
  rcases own_three hz24 with hk | hk | hk
  · rw [hk] at P23
    have P25 : own_Pr p.tables e below S0 s₁ (mkF m 16 #[.val (.long p1), .second, .val (.int p2), .val (.long z22), .second, .val (.int (0 : Int32)), .unset] [(.int (10 : Int32))]) := fun t k => P23 t (by
      refine XS.bipush X0.here hx rfl (hb hby at_14) ?_
      exact k)
    obtain ⟨T26, h26, k26, X26, e26, E26, A26, st26⟩ := newP X0 hx hZ (hw _ (List.mem_of_getElem? (i := 2) rfl)) e0 (g := (mkF m 16 #[.val (.long p1), .second, .val (.int p2), .val (.long z22), .second, .val (.int (0 : Int32)), .unset] [(.int (10 : Int32))])) rfl (hb hby at_16) rfl (by decide) (cap := 10) (by decide) (by decide) (by decide) (by decide)
    obtain ⟨b26, g26⟩ : ∃ z, z = h0.size := ⟨_, rfl⟩
    rw [← g26] at A26 st26
    have g_b26 : n0 ≤ b26 := Nat.le_trans Z0 (Nat.le_of_eq g26.symm)
    have ne_dg_b26 : dg ≠ b26 := Nat.ne_of_lt (Nat.lt_of_lt_of_le T_dg.lt (Nat.le_of_eq g26.symm))
    have F27 := S_dg.ext E26
    have F28 := T_dg.ext E26
    have Z29 : n0 ≤ h26.size := Nat.le_trans Z0 E26.1
    have F30 : Arv Z h26 b26 k26 .char (10 : Int32) [(.int (0 : Int32)), (.int (0 : Int32)), (.int (0 : Int32)), (.int (0 : Int32)), (.int (0 : Int32)), (.int (0 : Int32)), (.int (0 : Int32)), (.int (0 : Int32)), (.int (0 : Int32)), (.int (0 : Int32))] (.int (0 : Int32)) := (Arv.new A26 (by decide)).pad (pad_rep [] (.int (0 : Int32)) 10)
    have P31 : own_Pr p.tables e below S0 T26 (mkF m 18 #[.val (.long p1), .second, .val (.int p2), .val (.long z22), .second, .val (.int (0 : Int32)), .unset] [(.ref b26)]) := fun t k => P25 t (st26 _ k)
    have P32 : own_Pr p.tables e below S0 T26 (mkF m 25 #[.val (.long p1), .second, .val (.int p2), .val (.long z22), .second, .val (.int (0 : Int32)), .val (.ref b26)] [(.int (35 : Int32)), (.int (0 : Int32)), (.ref b26)]) := fun t k => P31 t (by
      refine XS.astore X26.here hx rfl (hb hby at_18) rfl rfl (l' := #[.val (.long p1), .second, .val (.int p2), .val (.long z22), .second, .val (.int (0 : Int32)), .val (.ref b26)]) rfl ?_
      refine XS.aload X26.here hx rfl (hb hby at_20) rfl rfl ?_
      refine XS.iconst X26.here hx rfl (hb hby at_22) ?_
      refine XS.bipush X26.here hx rfl (hb hby at_23) ?_
      exact k)
    obtain ⟨cl33, Ar33, q33, S33, N33, H33, G33⟩ := id F30
    have hin33 : ¬ ((0 : Int32) < 0 ∨ cl33.slots.size ≤ ((0 : Int32)).toNatClampNeg) := inb_of S33 ⟨by decide, by decide⟩
    obtain ⟨T33, h33, X33, e33, W33, st33⟩ := stC X26 hx hZ e26 Ar33 (j := (0 : Int32)) hin33 (g := (mkF m 25 #[.val (.long p1), .second, .val (.int p2), .val (.long z22), .second, .val (.int (0 : Int32)), .val (.ref b26)] [(.int (35 : Int32)), (.int (0 : Int32)), (.ref b26)])) rfl rfl (hb hby at_25)
    have V33 : Arv Z h33 b26 k26 .char (10 : Int32) [(.int (35 : Int32)), (.int (0 : Int32)), (.int (0 : Int32)), (.int (0 : Int32)), (.int (0 : Int32)), (.int (0 : Int32)), (.int (0 : Int32)), (.int (0 : Int32)), (.int (0 : Int32)), (.int (0 : Int32))] (.int (0 : Int32)) := Arv.set Ar33 q33 S33 N33 H33 G33 (fits_nar_char _) W33 0 rfl (Nat.le_of_ble_eq_true rfl)
    have F34 := F27.wr W33
    have F35 := own_tab_other F28 W33 ne_dg_b26
    have Z36 : n0 ≤ h33.size := by rw [W33.size]; exact Z29
    have NF33 := Fr.snoc X33 N0 g_b26
    have P37 : own_Pr p.tables e below S0 T33 (mkF m 26 #[.val (.long p1), .second, .val (.int p2), .val (.long z22), .second, .val (.int (0 : Int32)), .val (.ref b26)] []) := fun t k => P32 t (st33 _ k)
    have P38 : own_Pr p.tables e below S0 T33 (mkF m 31 #[.val (.long p1), .second, .val (.int p2), .val (.long z22), .second, .val (.int (0 : Int32)), .val (.ref b26)] [(.int (35 : Int32)), (.int (1 : Int32)), (.ref b26)]) := fun t k => P37 t (by
      refine XS.aload X33.here hx rfl (hb hby at_26) rfl rfl ?_
      refine XS.iconst X33.here hx rfl (hb hby at_28) ?_
      refine XS.bipush X33.here hx rfl (hb hby at_29) ?_
      exact k)
    obtain ⟨cl39, Ar39, q39, S39, N39, H39, G39⟩ := id V33
    have hin39 : ¬ ((1 : Int32) < 0 ∨ cl39.slots.size ≤ ((1 : Int32)).toNatClampNeg) := inb_of S39 ⟨by decide, by decide⟩
    obtain ⟨T39, h39, X39, e39, W39, st39⟩ := stC X33 hx hZ e33 Ar39 (j := (1 : Int32)) hin39 (g := (mkF m 31 #[.val (.long p1), .second, .val (.int p2), .val (.long z22), .second, .val (.int (0 : Int32)), .val (.ref b26)] [(.int (35 : Int32)), (.int (1 : Int32)), (.ref b26)])) rfl rfl (hb hby at_31)
    have V39 : Arv Z h39 b26 k26 .char (10 : Int32) [(.int (35 : Int32)), (.int (35 : Int32)), (.int (0 : Int32)), (.int (0 : Int32)), (.int (0 : Int32)), (.int (0 : Int32)), (.int (0 : Int32)), (.int (0 : Int32)), (.int (0 : Int32)), (.int (0 : Int32))] (.int (0 : Int32)) := Arv.set Ar39 q39 S39 N39 H39 G39 (fits_nar_char _) W39 1 rfl (Nat.le_of_ble_eq_true rfl)
    have F40 := F34.wr W39
    have F41 := own_tab_other F35 W39 ne_dg_b26
    have Z42 : n0 ≤ h39.size := by rw [W39.size]; exact Z36
    have NF39 := Fr.snoc X39 NF33 g_b26
    have P43 : own_Pr p.tables e below S0 T39 (mkF m 32 #[.val (.long p1), .second, .val (.int p2), .val (.long z22), .second, .val (.int (0 : Int32)), .val (.ref b26)] []) := fun t k => P38 t (st39 _ k)
    have P44 : own_Pr p.tables e below S0 T39 (mkF m 37 #[.val (.long p1), .second, .val (.int p2), .val (.long z22), .second, .val (.int (0 : Int32)), .val (.ref b26)] [(.int (35 : Int32)), (.int (2 : Int32)), (.ref b26)]) := fun t k => P43 t (by
      refine XS.aload X39.here hx rfl (hb hby at_32) rfl rfl ?_
      refine XS.iconst X39.here hx rfl (hb hby at_34) ?_
      refine XS.bipush X39.here hx rfl (hb hby at_35) ?_
      exact k)
    obtain ⟨cl45, Ar45, q45, S45, N45, H45, G45⟩ := id V39
    have hin45 : ¬ ((2 : Int32) < 0 ∨ cl45.slots.size ≤ ((2 : Int32)).toNatClampNeg) := inb_of S45 ⟨by decide, by decide⟩
    obtain ⟨T45, h45, X45, e45, W45, st45⟩ := stC X39 hx hZ e39 Ar45 (j := (2 : Int32)) hin45 (g := (mkF m 37 #[.val (.long p1), .second, .val (.int p2), .val (.long z22), .second, .val (.int (0 : Int32)), .val (.ref b26)] [(.int (35 : Int32)), (.int (2 : Int32)), (.ref b26)])) rfl rfl (hb hby at_37)
    have V45 : Arv Z h45 b26 k26 .char (10 : Int32) [(.int (35 : Int32)), (.int (35 : Int32)), (.int (35 : Int32)), (.int (0 : Int32)), (.int (0 : Int32)), (.int (0 : Int32)), (.int (0 : Int32)), (.int (0 : Int32)), (.int (0 : Int32)), (.int (0 : Int32))] (.int (0 : Int32)) := Arv.set Ar45 q45 S45 N45 H45 G45 (fits_nar_char _) W45 2 rfl (Nat.le_of_ble_eq_true rfl)
    have F46 := F40.wr W45
    have F47 := own_tab_other F41 W45 ne_dg_b26
    have Z48 : n0 ≤ h45.size := by rw [W45.size]; exact Z42
    have NF45 := Fr.snoc X45 NF39 g_b26
    have P49 : own_Pr p.tables e below S0 T45 (mkF m 38 #[.val (.long p1), .second, .val (.int p2), .val (.long z22), .second, .val (.int (0 : Int32)), .val (.ref b26)] []) := fun t k => P44 t (st45 _ k)
    have P50 : own_Pr p.tables e below S0 T45 (mkF m 43 #[.val (.long p1), .second, .val (.int p2), .val (.long z22), .second, .val (.int (0 : Int32)), .val (.ref b26)] [(.int (35 : Int32)), (.int (3 : Int32)), (.ref b26)]) := fun t k => P49 t (by
      refine XS.aload X45.here hx rfl (hb hby at_38) rfl rfl ?_
      refine XS.iconst X45.here hx rfl (hb hby at_40) ?_
      refine XS.bipush X45.here hx rfl (hb hby at_41) ?_
      exact k)
    obtain ⟨cl51, Ar51, q51, S51, N51, H51, G51⟩ := id V45
    have hin51 : ¬ ((3 : Int32) < 0 ∨ cl51.slots.size ≤ ((3 : Int32)).toNatClampNeg) := inb_of S51 ⟨by decide, by decide⟩
    obtain ⟨T51, h51, X51, e51, W51, st51⟩ := stC X45 hx hZ e45 Ar51 (j := (3 : Int32)) hin51 (g := (mkF m 43 #[.val (.long p1), .second, .val (.int p2), .val (.long z22), .second, .val (.int (0 : Int32)), .val (.ref b26)] [(.int (35 : Int32)), (.int (3 : Int32)), (.ref b26)])) rfl rfl (hb hby at_43)
    have V51 : Arv Z h51 b26 k26 .char (10 : Int32) [(.int (35 : Int32)), (.int (35 : Int32)), (.int (35 : Int32)), (.int (35 : Int32)), (.int (0 : Int32)), (.int (0 : Int32)), (.int (0 : Int32)), (.int (0 : Int32)), (.int (0 : Int32)), (.int (0 : Int32))] (.int (0 : Int32)) := Arv.set Ar51 q51 S51 N51 H51 G51 (fits_nar_char _) W51 3 rfl (Nat.le_of_ble_eq_true rfl)
    have F52 := F46.wr W51
    have F53 := own_tab_other F47 W51 ne_dg_b26
    have Z54 : n0 ≤ h51.size := by rw [W51.size]; exact Z48
    have NF51 := Fr.snoc X51 NF45 g_b26
    have P55 : own_Pr p.tables e below S0 T51 (mkF m 44 #[.val (.long p1), .second, .val (.int p2), .val (.long z22), .second, .val (.int (0 : Int32)), .val (.ref b26)] []) := fun t k => P50 t (st51 _ k)
    have P56 : own_Pr p.tables e below S0 T51 (mkF m 49 #[.val (.long p1), .second, .val (.int p2), .val (.long z22), .second, .val (.int (0 : Int32)), .val (.ref b26)] [(.int (35 : Int32)), (.int (4 : Int32)), (.ref b26)]) := fun t k => P55 t (by
      refine XS.aload X51.here hx rfl (hb hby at_44) rfl rfl ?_
      refine XS.iconst X51.here hx rfl (hb hby at_46) ?_
      refine XS.bipush X51.here hx rfl (hb hby at_47) ?_
      exact k)
    obtain ⟨cl57, Ar57, q57, S57, N57, H57, G57⟩ := id V51
    have hin57 : ¬ ((4 : Int32) < 0 ∨ cl57.slots.size ≤ ((4 : Int32)).toNatClampNeg) := inb_of S57 ⟨by decide, by decide⟩
    obtain ⟨T57, h57, X57, e57, W57, st57⟩ := stC X51 hx hZ e51 Ar57 (j := (4 : Int32)) hin57 (g := (mkF m 49 #[.val (.long p1), .second, .val (.int p2), .val (.long z22), .second, .val (.int (0 : Int32)), .val (.ref b26)] [(.int (35 : Int32)), (.int (4 : Int32)), (.ref b26)])) rfl rfl (hb hby at_49)
    have V57 : Arv Z h57 b26 k26 .char (10 : Int32) [(.int (35 : Int32)), (.int (35 : Int32)), (.int (35 : Int32)), (.int (35 : Int32)), (.int (35 : Int32)), (.int (0 : Int32)), (.int (0 : Int32)), (.int (0 : Int32)), (.int (0 : Int32)), (.int (0 : Int32))] (.int (0 : Int32)) := Arv.set Ar57 q57 S57 N57 H57 G57 (fits_nar_char _) W57 4 rfl (Nat.le_of_ble_eq_true rfl)
    have F58 := F52.wr W57
    have F59 := own_tab_other F53 W57 ne_dg_b26
    have Z60 : n0 ≤ h57.size := by rw [W57.size]; exact Z54
    have NF57 := Fr.snoc X57 NF51 g_b26
    have P61 : own_Pr p.tables e below S0 T57 (mkF m 50 #[.val (.long p1), .second, .val (.int p2), .val (.long z22), .second, .val (.int (0 : Int32)), .val (.ref b26)] []) := fun t k => P56 t (st57 _ k)
    have P62 : own_Pr p.tables e below S0 T57 (mkF m 55 #[.val (.long p1), .second, .val (.int p2), .val (.long z22), .second, .val (.int (0 : Int32)), .val (.ref b26)] [(.int (35 : Int32)), (.int (5 : Int32)), (.ref b26)]) := fun t k => P61 t (by
      refine XS.aload X57.here hx rfl (hb hby at_50) rfl rfl ?_
      refine XS.iconst X57.here hx rfl (hb hby at_52) ?_
      refine XS.bipush X57.here hx rfl (hb hby at_53) ?_
      exact k)
    obtain ⟨cl63, Ar63, q63, S63, N63, H63, G63⟩ := id V57
    have hin63 : ¬ ((5 : Int32) < 0 ∨ cl63.slots.size ≤ ((5 : Int32)).toNatClampNeg) := inb_of S63 ⟨by decide, by decide⟩
    obtain ⟨T63, h63, X63, e63, W63, st63⟩ := stC X57 hx hZ e57 Ar63 (j := (5 : Int32)) hin63 (g := (mkF m 55 #[.val (.long p1), .second, .val (.int p2), .val (.long z22), .second, .val (.int (0 : Int32)), .val (.ref b26)] [(.int (35 : Int32)), (.int (5 : Int32)), (.ref b26)])) rfl rfl (hb hby at_55)
    have V63 : Arv Z h63 b26 k26 .char (10 : Int32) [(.int (35 : Int32)), (.int (35 : Int32)), (.int (35 : Int32)), (.int (35 : Int32)), (.int (35 : Int32)), (.int (35 : Int32)), (.int (0 : Int32)), (.int (0 : Int32)), (.int (0 : Int32)), (.int (0 : Int32))] (.int (0 : Int32)) := Arv.set Ar63 q63 S63 N63 H63 G63 (fits_nar_char _) W63 5 rfl (Nat.le_of_ble_eq_true rfl)
    have F64 := F58.wr W63
    have F65 := own_tab_other F59 W63 ne_dg_b26
    have Z66 : n0 ≤ h63.size := by rw [W63.size]; exact Z60
    have NF63 := Fr.snoc X63 NF57 g_b26
    have P67 : own_Pr p.tables e below S0 T63 (mkF m 56 #[.val (.long p1), .second, .val (.int p2), .val (.long z22), .second, .val (.int (0 : Int32)), .val (.ref b26)] []) := fun t k => P62 t (st63 _ k)
    have P68 : own_Pr p.tables e below S0 T63 (mkF m 62 #[.val (.long p1), .second, .val (.int p2), .val (.long z22), .second, .val (.int (0 : Int32)), .val (.ref b26)] [(.int (35 : Int32)), (.int (6 : Int32)), (.ref b26)]) := fun t k => P67 t (by
      refine XS.aload X63.here hx rfl (hb hby at_56) rfl rfl ?_
      refine XS.bipush X63.here hx rfl (hb hby at_58) ?_
      refine XS.bipush X63.here hx rfl (hb hby at_60) ?_
      exact k)
    obtain ⟨cl69, Ar69, q69, S69, N69, H69, G69⟩ := id V63
    have hin69 : ¬ ((6 : Int32) < 0 ∨ cl69.slots.size ≤ ((6 : Int32)).toNatClampNeg) := inb_of S69 ⟨by decide, by decide⟩
    obtain ⟨T69, h69, X69, e69, W69, st69⟩ := stC X63 hx hZ e63 Ar69 (j := (6 : Int32)) hin69 (g := (mkF m 62 #[.val (.long p1), .second, .val (.int p2), .val (.long z22), .second, .val (.int (0 : Int32)), .val (.ref b26)] [(.int (35 : Int32)), (.int (6 : Int32)), (.ref b26)])) rfl rfl (hb hby at_62)
    have V69 : Arv Z h69 b26 k26 .char (10 : Int32) [(.int (35 : Int32)), (.int (35 : Int32)), (.int (35 : Int32)), (.int (35 : Int32)), (.int (35 : Int32)), (.int (35 : Int32)), (.int (35 : Int32)), (.int (0 : Int32)), (.int (0 : Int32)), (.int (0 : Int32))] (.int (0 : Int32)) := Arv.set Ar69 q69 S69 N69 H69 G69 (fits_nar_char _) W69 6 rfl (Nat.le_of_ble_eq_true rfl)
    have F70 := F64.wr W69
    have F71 := own_tab_other F65 W69 ne_dg_b26
    have Z72 : n0 ≤ h69.size := by rw [W69.size]; exact Z66
    have NF69 := Fr.snoc X69 NF63 g_b26
    have P73 : own_Pr p.tables e below S0 T69 (mkF m 63 #[.val (.long p1), .second, .val (.int p2), .val (.long z22), .second, .val (.int (0 : Int32)), .val (.ref b26)] []) := fun t k => P68 t (st69 _ k)
    have P74 : own_Pr p.tables e below S0 T69 (mkF m 69 #[.val (.long p1), .second, .val (.int p2), .val (.long z22), .second, .val (.int (0 : Int32)), .val (.ref b26)] [(.int (35 : Int32)), (.int (7 : Int32)), (.ref b26)]) := fun t k => P73 t (by
      refine XS.aload X69.here hx rfl (hb hby at_63) rfl rfl ?_
      refine XS.bipush X69.here hx rfl (hb hby at_65) ?_
      refine XS.bipush X69.here hx rfl (hb hby at_67) ?_
      exact k)
    obtain ⟨cl75, Ar75, q75, S75, N75, H75, G75⟩ := id V69
    have hin75 : ¬ ((7 : Int32) < 0 ∨ cl75.slots.size ≤ ((7 : Int32)).toNatClampNeg) := inb_of S75 ⟨by decide, by decide⟩
    obtain ⟨T75, h75, X75, e75, W75, st75⟩ := stC X69 hx hZ e69 Ar75 (j := (7 : Int32)) hin75 (g := (mkF m 69 #[.val (.long p1), .second, .val (.int p2), .val (.long z22), .second, .val (.int (0 : Int32)), .val (.ref b26)] [(.int (35 : Int32)), (.int (7 : Int32)), (.ref b26)])) rfl rfl (hb hby at_69)
    have V75 : Arv Z h75 b26 k26 .char (10 : Int32) [(.int (35 : Int32)), (.int (35 : Int32)), (.int (35 : Int32)), (.int (35 : Int32)), (.int (35 : Int32)), (.int (35 : Int32)), (.int (35 : Int32)), (.int (35 : Int32)), (.int (0 : Int32)), (.int (0 : Int32))] (.int (0 : Int32)) := Arv.set Ar75 q75 S75 N75 H75 G75 (fits_nar_char _) W75 7 rfl (Nat.le_of_ble_eq_true rfl)
    have F76 := F70.wr W75
    have F77 := own_tab_other F71 W75 ne_dg_b26
    have Z78 : n0 ≤ h75.size := by rw [W75.size]; exact Z72
    have NF75 := Fr.snoc X75 NF69 g_b26
    have P79 : own_Pr p.tables e below S0 T75 (mkF m 70 #[.val (.long p1), .second, .val (.int p2), .val (.long z22), .second, .val (.int (0 : Int32)), .val (.ref b26)] []) := fun t k => P74 t (st75 _ k)
    have P80 : own_Pr p.tables e below S0 T75 (mkF m 76 #[.val (.long p1), .second, .val (.int p2), .val (.long z22), .second, .val (.int (0 : Int32)), .val (.ref b26)] [(.int (35 : Int32)), (.int (8 : Int32)), (.ref b26)]) := fun t k => P79 t (by
      refine XS.aload X75.here hx rfl (hb hby at_70) rfl rfl ?_
      refine XS.bipush X75.here hx rfl (hb hby at_72) ?_
      refine XS.bipush X75.here hx rfl (hb hby at_74) ?_
      exact k)
    obtain ⟨cl81, Ar81, q81, S81, N81, H81, G81⟩ := id V75
    have hin81 : ¬ ((8 : Int32) < 0 ∨ cl81.slots.size ≤ ((8 : Int32)).toNatClampNeg) := inb_of S81 ⟨by decide, by decide⟩
    obtain ⟨T81, h81, X81, e81, W81, st81⟩ := stC X75 hx hZ e75 Ar81 (j := (8 : Int32)) hin81 (g := (mkF m 76 #[.val (.long p1), .second, .val (.int p2), .val (.long z22), .second, .val (.int (0 : Int32)), .val (.ref b26)] [(.int (35 : Int32)), (.int (8 : Int32)), (.ref b26)])) rfl rfl (hb hby at_76)
    have V81 : Arv Z h81 b26 k26 .char (10 : Int32) [(.int (35 : Int32)), (.int (35 : Int32)), (.int (35 : Int32)), (.int (35 : Int32)), (.int (35 : Int32)), (.int (35 : Int32)), (.int (35 : Int32)), (.int (35 : Int32)), (.int (35 : Int32)), (.int (0 : Int32))] (.int (0 : Int32)) := Arv.set Ar81 q81 S81 N81 H81 G81 (fits_nar_char _) W81 8 rfl (Nat.le_of_ble_eq_true rfl)
    have F82 := F76.wr W81
    have F83 := own_tab_other F77 W81 ne_dg_b26
    have Z84 : n0 ≤ h81.size := by rw [W81.size]; exact Z78
    have NF81 := Fr.snoc X81 NF75 g_b26
    have P85 : own_Pr p.tables e below S0 T81 (mkF m 77 #[.val (.long p1), .second, .val (.int p2), .val (.long z22), .second, .val (.int (0 : Int32)), .val (.ref b26)] []) := fun t k => P80 t (st81 _ k)
    have P86 : own_Pr p.tables e below S0 T81 (mkF m 83 #[.val (.long p1), .second, .val (.int p2), .val (.long z22), .second, .val (.int (0 : Int32)), .val (.ref b26)] [(.int (35 : Int32)), (.int (9 : Int32)), (.ref b26)]) := fun t k => P85 t (by
      refine XS.aload X81.here hx rfl (hb hby at_77) rfl rfl ?_
      refine XS.bipush X81.here hx rfl (hb hby at_79) ?_
      refine XS.bipush X81.here hx rfl (hb hby at_81) ?_
      exact k)
    obtain ⟨cl87, Ar87, q87, S87, N87, H87, G87⟩ := id V81
    have hin87 : ¬ ((9 : Int32) < 0 ∨ cl87.slots.size ≤ ((9 : Int32)).toNatClampNeg) := inb_of S87 ⟨by decide, by decide⟩
    obtain ⟨T87, h87, X87, e87, W87, st87⟩ := stC X81 hx hZ e81 Ar87 (j := (9 : Int32)) hin87 (g := (mkF m 83 #[.val (.long p1), .second, .val (.int p2), .val (.long z22), .second, .val (.int (0 : Int32)), .val (.ref b26)] [(.int (35 : Int32)), (.int (9 : Int32)), (.ref b26)])) rfl rfl (hb hby at_83)
    have V87 : Arv Z h87 b26 k26 .char (10 : Int32) [(.int (35 : Int32)), (.int (35 : Int32)), (.int (35 : Int32)), (.int (35 : Int32)), (.int (35 : Int32)), (.int (35 : Int32)), (.int (35 : Int32)), (.int (35 : Int32)), (.int (35 : Int32)), (.int (35 : Int32))] (.int (0 : Int32)) := Arv.set Ar87 q87 S87 N87 H87 G87 (fits_nar_char _) W87 9 rfl (Nat.le_of_ble_eq_true rfl)
    have F88 := F82.wr W87
    have F89 := own_tab_other F83 W87 ne_dg_b26
    have Z90 : n0 ≤ h87.size := by rw [W87.size]; exact Z84
    have NF87 := Fr.snoc X87 NF81 g_b26
    have P91 : own_Pr p.tables e below S0 T87 (mkF m 84 #[.val (.long p1), .second, .val (.int p2), .val (.long z22), .second, .val (.int (0 : Int32)), .val (.ref b26)] []) := fun t k => P86 t (st87 _ k)
    have P92 : own_Pr p.tables e below S0 T87 (mkF m 89 #[.val (.long p1), .second, .val (.int p2), .val (.long z22), .second, .val (.int (0 : Int32)), .val (.ref b26)] [(.int (0 : Int32)), (.ref b26), (.long z22)]) := fun t k => P91 t (by
      refine XS.lloadN X87.here hx rfl (hb hby at_84) rfl ?_
      refine XS.aload X87.here hx rfl (hb hby at_85) rfl rfl ?_
      refine XS.iload X87.here hx rfl (hb hby at_87) rfl ?_
      exact k)
    obtain ⟨_, _, ⟨T93, L93, k93, n93⟩, -, X93, ⟨Lc93, hQ93, l93, y93, z93⟩, st93⟩ := Jvm.LawKit.callS X87 hx (y := (⟨"com/example/enqueue_to_disk/enqueuetodisk/format/internal/Unsigned32", "writeHex", "(J[CI)V"⟩ : MethodName)) hown (mvT hZ (hw _ (List.mem_of_getElem? (i := 3) rfl))) (mvT hZ (hw _ (List.mem_of_getElem? (i := 4) rfl))) (mvT hZ (hw _ (List.mem_of_getElem? (i := 5) rfl))) (mvT hZ (hw _ (List.mem_of_getElem? (i := 6) rfl))) (by decide) (backOf (W := 0) (rm1_0 l Z a0 hw [] z22 b26 dg cd k26 h87 n0 Z90 F88 F89 V87 g_b26 ne_dg_b26) hZ (hw _ (List.mem_of_getElem? (i := 6) rfl)) (hw _ (List.mem_of_getElem? (i := 5) rfl)) (by decide) (by decide)) (g := (mkF m 89 #[.val (.long p1), .second, .val (.int p2), .val (.long z22), .second, .val (.int (0 : Int32)), .val (.ref b26)] [(.int (0 : Int32)), (.ref b26), (.long z22)])) rfl (by rw [hml]; rfl) (argsL := [(.long z22), (.ref b26), (.int (0 : Int32))]) (rest := []) (lenOf pd_0 rfl) rfl (by show 2 * 0 + _ ≤ _; exact Nat.le_of_eq rfl) (hb hby at_89) (fun _ _ => ⟨rfl, e87, (by decide : 1 + 0 ≤ _), (by decide : 10 + 0 ≤ _)⟩)
    dsimp only [Pt.U, Pt.locs, Pt.cells, Pt.slots] at X93 l93 y93 z93 st93 hQ93
    rw [l93, y93, z93] at X93
    have X93 := X93.mono (cells' := 1) (slots' := 10) (by decide) (by decide)
    obtain ⟨rfl, Nq93, K93k, V93w⟩ := hQ93
    have N93n := Fr.app NF87 Nq93
    have Z94 := Nat.le_trans Z90 K93k.1
    obtain ⟨ct, Tt, At⟩ := own_tab V93w
    have At_0 := At 0 (by decide) (by decide)
    rw [show (0 : Int32).toNatClampNeg = 0 from rfl] at At_0
    simp only [List.getD_cons_succ, List.getD_cons_zero] at At_0
    have At_1 := At 1 (by decide) (by decide)
    rw [show (1 : Int32).toNatClampNeg = 1 from rfl] at At_1
    simp only [List.getD_cons_succ, List.getD_cons_zero] at At_1
    have At_2 := At 2 (by decide) (by decide)
    rw [show (2 : Int32).toNatClampNeg = 2 from rfl] at At_2
    simp only [List.getD_cons_succ, List.getD_cons_zero] at At_2
    have At_3 := At 3 (by decide) (by decide)
    rw [show (3 : Int32).toNatClampNeg = 3 from rfl] at At_3
    simp only [List.getD_cons_succ, List.getD_cons_zero] at At_3
    have At_4 := At 4 (by decide) (by decide)
    rw [show (4 : Int32).toNatClampNeg = 4 from rfl] at At_4
    simp only [List.getD_cons_succ, List.getD_cons_zero] at At_4
    have At_5 := At 5 (by decide) (by decide)
    rw [show (5 : Int32).toNatClampNeg = 5 from rfl] at At_5
    simp only [List.getD_cons_succ, List.getD_cons_zero] at At_5
    have At_6 := At 6 (by decide) (by decide)
    rw [show (6 : Int32).toNatClampNeg = 6 from rfl] at At_6
    simp only [List.getD_cons_succ, List.getD_cons_zero] at At_6
    have At_7 := At 7 (by decide) (by decide)
    rw [show (7 : Int32).toNatClampNeg = 7 from rfl] at At_7
    simp only [List.getD_cons_succ, List.getD_cons_zero] at At_7
    have At_8 := At 8 (by decide) (by decide)
    rw [show (8 : Int32).toNatClampNeg = 8 from rfl] at At_8
    simp only [List.getD_cons_succ, List.getD_cons_zero] at At_8
    have At_9 := At 9 (by decide) (by decide)
    rw [show (9 : Int32).toNatClampNeg = 9 from rfl] at At_9
    simp only [List.getD_cons_succ, List.getD_cons_zero] at At_9
    have P95 : own_Pr p.tables e below S0 T93 (mkF m 92 #[.val (.long p1), .second, .val (.int p2), .val (.long z22), .second, .val (.int (0 : Int32)), .val (.ref b26)] []) := fun t k => P92 t (st93 _ k)
    have P96 : own_Pr p.tables e below S0 T93 (mkF m 98 #[.val (.long p1), .second, .val (.int p2), .val (.long z22), .second, .val (.int (0 : Int32)), .val (.ref b26)] [(.long z22), (.int (0 : Int32)), (.int (0 : Int32)), (.ref b26)]) := fun t k => P95 t (by
      refine XS.aload X93.here hx rfl (hb hby at_92) rfl rfl ?_
      refine XS.iconst X93.here hx rfl (hb hby at_94) ?_
      refine XS.iload X93.here hx rfl (hb hby at_95) rfl ?_
      refine XS.lloadN X93.here hx rfl (hb hby at_97) rfl ?_
      exact k)
    obtain ⟨_, _, ⟨T97, L97, k97, n97⟩, -, X97, ⟨Lc97, hQ97, l97, y97, z97⟩, st97⟩ := Jvm.LawKit.callS X93 hx (y := (⟨"com/example/enqueue_to_disk/enqueuetodisk/format/internal/Unsigned32WriteHexPinLaw", "at", "([CIIJ)Z"⟩ : MethodName)) hown (mvT hZ (hw _ (List.mem_of_getElem? (i := 9) rfl))) (mvT hZ (hw _ (List.mem_of_getElem? (i := 10) rfl))) (mvT hZ (hw _ (List.mem_of_getElem? (i := 11) rfl))) (mvT hZ (hw _ (List.mem_of_getElem? (i := 12) rfl))) (by decide) (backOf (W := 0) (rm2 l Z a0 hw [] b26 (0 : Int32) (0 : Int32) z22 ct T93.heap n0 Z94 Tt ⟨by decide, by decide⟩) hZ (hw _ (List.mem_of_getElem? (i := 12) rfl)) (hw _ (List.mem_of_getElem? (i := 11) rfl)) (by decide) (by decide)) (g := (mkF m 98 #[.val (.long p1), .second, .val (.int p2), .val (.long z22), .second, .val (.int (0 : Int32)), .val (.ref b26)] [(.long z22), (.int (0 : Int32)), (.int (0 : Int32)), (.ref b26)])) rfl (by rw [hml]; rfl) (argsL := [(.ref b26), (.int (0 : Int32)), (.int (0 : Int32)), (.long z22)]) (rest := []) (lenOf pd_1 rfl) rfl (by show 2 * 0 + _ ≤ _; exact Nat.le_of_eq rfl) (hb hby at_98) (fun _ _ => ⟨rfl, rfl, (by decide : 1 + 0 ≤ _), (by decide : 10 + 0 ≤ _)⟩)
    dsimp only [Pt.U, Pt.locs, Pt.cells, Pt.slots] at X97 l97 y97 z97 st97 hQ97
    rw [l97, y97, z97] at X97
    have X97 := X97.mono (cells' := 1) (slots' := 10) (by decide) (by decide)
    obtain ⟨z97v, rfl, hz97v, Nq97, eq97⟩ := hQ97
    have N97n := Fr.app N93n Nq97
    have P98 : own_Pr p.tables e below S0 T97 (mkF m 101 #[.val (.long p1), .second, .val (.int p2), .val (.long z22), .second, .val (.int (0 : Int32)), .val (.ref b26)] [(.int z97v)]) := fun t k => P96 t (st97 _ k)
    have P99 : own_Pr p.tables e below S0 T97 (mkF m 110 #[.val (.long p1), .second, .val (.int p2), .val (.long z22), .second, .val (.int (0 : Int32)), .val (.ref b26)] [(.long z22), (.int (0 : Int32)), (.int (1 : Int32)), (.ref b26)]) := fun t k => P98 t (by
      refine XS.ifNo X97.here hx rfl (hb hby at_101) rfl (XT.i0_eq_f (own_ok_0_0 HD (own_val hz22) At_0 hz97v)) ?_
      refine XS.aload X97.here hx rfl (hb hby at_104) rfl rfl ?_
      refine XS.iconst X97.here hx rfl (hb hby at_106) ?_
      refine XS.iload X97.here hx rfl (hb hby at_107) rfl ?_
      refine XS.lloadN X97.here hx rfl (hb hby at_109) rfl ?_
      exact k)
    obtain ⟨_, _, ⟨T100, L100, k100, n100⟩, -, X100, ⟨Lc100, hQ100, l100, y100, z100⟩, st100⟩ := Jvm.LawKit.callS X97 hx (y := (⟨"com/example/enqueue_to_disk/enqueuetodisk/format/internal/Unsigned32WriteHexPinLaw", "at", "([CIIJ)Z"⟩ : MethodName)) hown (mvT hZ (hw _ (List.mem_of_getElem? (i := 9) rfl))) (mvT hZ (hw _ (List.mem_of_getElem? (i := 10) rfl))) (mvT hZ (hw _ (List.mem_of_getElem? (i := 11) rfl))) (mvT hZ (hw _ (List.mem_of_getElem? (i := 12) rfl))) (by decide) (backOf (W := 0) (rm2 l Z a0 hw [] b26 (1 : Int32) (0 : Int32) z22 ct T93.heap n0 Z94 Tt ⟨by decide, by decide⟩) hZ (hw _ (List.mem_of_getElem? (i := 12) rfl)) (hw _ (List.mem_of_getElem? (i := 11) rfl)) (by decide) (by decide)) (g := (mkF m 110 #[.val (.long p1), .second, .val (.int p2), .val (.long z22), .second, .val (.int (0 : Int32)), .val (.ref b26)] [(.long z22), (.int (0 : Int32)), (.int (1 : Int32)), (.ref b26)])) rfl (by rw [hml]; rfl) (argsL := [(.ref b26), (.int (1 : Int32)), (.int (0 : Int32)), (.long z22)]) (rest := []) (lenOf pd_1 rfl) rfl (by show 2 * 0 + _ ≤ _; exact Nat.le_of_eq rfl) (hb hby at_110) (fun _ _ => ⟨rfl, eq97, (by decide : 1 + 0 ≤ _), (by decide : 10 + 0 ≤ _)⟩)
    dsimp only [Pt.U, Pt.locs, Pt.cells, Pt.slots] at X100 l100 y100 z100 st100 hQ100
    rw [l100, y100, z100] at X100
    have X100 := X100.mono (cells' := 1) (slots' := 10) (by decide) (by decide)
    obtain ⟨z100v, rfl, hz100v, Nq100, eq100⟩ := hQ100
    have N100n := Fr.app N97n Nq100
    have P101 : own_Pr p.tables e below S0 T100 (mkF m 113 #[.val (.long p1), .second, .val (.int p2), .val (.long z22), .second, .val (.int (0 : Int32)), .val (.ref b26)] [(.int z100v)]) := fun t k => P99 t (st100 _ k)
    have P102 : own_Pr p.tables e below S0 T100 (mkF m 122 #[.val (.long p1), .second, .val (.int p2), .val (.long z22), .second, .val (.int (0 : Int32)), .val (.ref b26)] [(.long z22), (.int (0 : Int32)), (.int (2 : Int32)), (.ref b26)]) := fun t k => P101 t (by
      refine XS.ifNo X100.here hx rfl (hb hby at_113) rfl (XT.i0_eq_f (own_ok_0_1 HD (own_val hz22) At_1 hz100v)) ?_
      refine XS.aload X100.here hx rfl (hb hby at_116) rfl rfl ?_
      refine XS.iconst X100.here hx rfl (hb hby at_118) ?_
      refine XS.iload X100.here hx rfl (hb hby at_119) rfl ?_
      refine XS.lloadN X100.here hx rfl (hb hby at_121) rfl ?_
      exact k)
    obtain ⟨_, _, ⟨T103, L103, k103, n103⟩, -, X103, ⟨Lc103, hQ103, l103, y103, z103⟩, st103⟩ := Jvm.LawKit.callS X100 hx (y := (⟨"com/example/enqueue_to_disk/enqueuetodisk/format/internal/Unsigned32WriteHexPinLaw", "at", "([CIIJ)Z"⟩ : MethodName)) hown (mvT hZ (hw _ (List.mem_of_getElem? (i := 9) rfl))) (mvT hZ (hw _ (List.mem_of_getElem? (i := 10) rfl))) (mvT hZ (hw _ (List.mem_of_getElem? (i := 11) rfl))) (mvT hZ (hw _ (List.mem_of_getElem? (i := 12) rfl))) (by decide) (backOf (W := 0) (rm2 l Z a0 hw [] b26 (2 : Int32) (0 : Int32) z22 ct T93.heap n0 Z94 Tt ⟨by decide, by decide⟩) hZ (hw _ (List.mem_of_getElem? (i := 12) rfl)) (hw _ (List.mem_of_getElem? (i := 11) rfl)) (by decide) (by decide)) (g := (mkF m 122 #[.val (.long p1), .second, .val (.int p2), .val (.long z22), .second, .val (.int (0 : Int32)), .val (.ref b26)] [(.long z22), (.int (0 : Int32)), (.int (2 : Int32)), (.ref b26)])) rfl (by rw [hml]; rfl) (argsL := [(.ref b26), (.int (2 : Int32)), (.int (0 : Int32)), (.long z22)]) (rest := []) (lenOf pd_1 rfl) rfl (by show 2 * 0 + _ ≤ _; exact Nat.le_of_eq rfl) (hb hby at_122) (fun _ _ => ⟨rfl, eq100, (by decide : 1 + 0 ≤ _), (by decide : 10 + 0 ≤ _)⟩)
    dsimp only [Pt.U, Pt.locs, Pt.cells, Pt.slots] at X103 l103 y103 z103 st103 hQ103
    rw [l103, y103, z103] at X103
    have X103 := X103.mono (cells' := 1) (slots' := 10) (by decide) (by decide)
    obtain ⟨z103v, rfl, hz103v, Nq103, eq103⟩ := hQ103
    have N103n := Fr.app N100n Nq103
    have P104 : own_Pr p.tables e below S0 T103 (mkF m 125 #[.val (.long p1), .second, .val (.int p2), .val (.long z22), .second, .val (.int (0 : Int32)), .val (.ref b26)] [(.int z103v)]) := fun t k => P102 t (st103 _ k)
    have P105 : own_Pr p.tables e below S0 T103 (mkF m 134 #[.val (.long p1), .second, .val (.int p2), .val (.long z22), .second, .val (.int (0 : Int32)), .val (.ref b26)] [(.long z22), (.int (0 : Int32)), (.int (3 : Int32)), (.ref b26)]) := fun t k => P104 t (by
      refine XS.ifNo X103.here hx rfl (hb hby at_125) rfl (XT.i0_eq_f (own_ok_0_2 HD (own_val hz22) At_2 hz103v)) ?_
      refine XS.aload X103.here hx rfl (hb hby at_128) rfl rfl ?_
      refine XS.iconst X103.here hx rfl (hb hby at_130) ?_
      refine XS.iload X103.here hx rfl (hb hby at_131) rfl ?_
      refine XS.lloadN X103.here hx rfl (hb hby at_133) rfl ?_
      exact k)
    obtain ⟨_, _, ⟨T106, L106, k106, n106⟩, -, X106, ⟨Lc106, hQ106, l106, y106, z106⟩, st106⟩ := Jvm.LawKit.callS X103 hx (y := (⟨"com/example/enqueue_to_disk/enqueuetodisk/format/internal/Unsigned32WriteHexPinLaw", "at", "([CIIJ)Z"⟩ : MethodName)) hown (mvT hZ (hw _ (List.mem_of_getElem? (i := 9) rfl))) (mvT hZ (hw _ (List.mem_of_getElem? (i := 10) rfl))) (mvT hZ (hw _ (List.mem_of_getElem? (i := 11) rfl))) (mvT hZ (hw _ (List.mem_of_getElem? (i := 12) rfl))) (by decide) (backOf (W := 0) (rm2 l Z a0 hw [] b26 (3 : Int32) (0 : Int32) z22 ct T93.heap n0 Z94 Tt ⟨by decide, by decide⟩) hZ (hw _ (List.mem_of_getElem? (i := 12) rfl)) (hw _ (List.mem_of_getElem? (i := 11) rfl)) (by decide) (by decide)) (g := (mkF m 134 #[.val (.long p1), .second, .val (.int p2), .val (.long z22), .second, .val (.int (0 : Int32)), .val (.ref b26)] [(.long z22), (.int (0 : Int32)), (.int (3 : Int32)), (.ref b26)])) rfl (by rw [hml]; rfl) (argsL := [(.ref b26), (.int (3 : Int32)), (.int (0 : Int32)), (.long z22)]) (rest := []) (lenOf pd_1 rfl) rfl (by show 2 * 0 + _ ≤ _; exact Nat.le_of_eq rfl) (hb hby at_134) (fun _ _ => ⟨rfl, eq103, (by decide : 1 + 0 ≤ _), (by decide : 10 + 0 ≤ _)⟩)
    dsimp only [Pt.U, Pt.locs, Pt.cells, Pt.slots] at X106 l106 y106 z106 st106 hQ106
    rw [l106, y106, z106] at X106
    have X106 := X106.mono (cells' := 1) (slots' := 10) (by decide) (by decide)
    obtain ⟨z106v, rfl, hz106v, Nq106, eq106⟩ := hQ106
    have N106n := Fr.app N103n Nq106
    have P107 : own_Pr p.tables e below S0 T106 (mkF m 137 #[.val (.long p1), .second, .val (.int p2), .val (.long z22), .second, .val (.int (0 : Int32)), .val (.ref b26)] [(.int z106v)]) := fun t k => P105 t (st106 _ k)
    have P108 : own_Pr p.tables e below S0 T106 (mkF m 146 #[.val (.long p1), .second, .val (.int p2), .val (.long z22), .second, .val (.int (0 : Int32)), .val (.ref b26)] [(.long z22), (.int (0 : Int32)), (.int (4 : Int32)), (.ref b26)]) := fun t k => P107 t (by
      refine XS.ifNo X106.here hx rfl (hb hby at_137) rfl (XT.i0_eq_f (own_ok_0_3 HD (own_val hz22) At_3 hz106v)) ?_
      refine XS.aload X106.here hx rfl (hb hby at_140) rfl rfl ?_
      refine XS.iconst X106.here hx rfl (hb hby at_142) ?_
      refine XS.iload X106.here hx rfl (hb hby at_143) rfl ?_
      refine XS.lloadN X106.here hx rfl (hb hby at_145) rfl ?_
      exact k)
    obtain ⟨_, _, ⟨T109, L109, k109, n109⟩, -, X109, ⟨Lc109, hQ109, l109, y109, z109⟩, st109⟩ := Jvm.LawKit.callS X106 hx (y := (⟨"com/example/enqueue_to_disk/enqueuetodisk/format/internal/Unsigned32WriteHexPinLaw", "at", "([CIIJ)Z"⟩ : MethodName)) hown (mvT hZ (hw _ (List.mem_of_getElem? (i := 9) rfl))) (mvT hZ (hw _ (List.mem_of_getElem? (i := 10) rfl))) (mvT hZ (hw _ (List.mem_of_getElem? (i := 11) rfl))) (mvT hZ (hw _ (List.mem_of_getElem? (i := 12) rfl))) (by decide) (backOf (W := 0) (rm2 l Z a0 hw [] b26 (4 : Int32) (0 : Int32) z22 ct T93.heap n0 Z94 Tt ⟨by decide, by decide⟩) hZ (hw _ (List.mem_of_getElem? (i := 12) rfl)) (hw _ (List.mem_of_getElem? (i := 11) rfl)) (by decide) (by decide)) (g := (mkF m 146 #[.val (.long p1), .second, .val (.int p2), .val (.long z22), .second, .val (.int (0 : Int32)), .val (.ref b26)] [(.long z22), (.int (0 : Int32)), (.int (4 : Int32)), (.ref b26)])) rfl (by rw [hml]; rfl) (argsL := [(.ref b26), (.int (4 : Int32)), (.int (0 : Int32)), (.long z22)]) (rest := []) (lenOf pd_1 rfl) rfl (by show 2 * 0 + _ ≤ _; exact Nat.le_of_eq rfl) (hb hby at_146) (fun _ _ => ⟨rfl, eq106, (by decide : 1 + 0 ≤ _), (by decide : 10 + 0 ≤ _)⟩)
    dsimp only [Pt.U, Pt.locs, Pt.cells, Pt.slots] at X109 l109 y109 z109 st109 hQ109
    rw [l109, y109, z109] at X109
    have X109 := X109.mono (cells' := 1) (slots' := 10) (by decide) (by decide)
    obtain ⟨z109v, rfl, hz109v, Nq109, eq109⟩ := hQ109
    have N109n := Fr.app N106n Nq109
    have P110 : own_Pr p.tables e below S0 T109 (mkF m 149 #[.val (.long p1), .second, .val (.int p2), .val (.long z22), .second, .val (.int (0 : Int32)), .val (.ref b26)] [(.int z109v)]) := fun t k => P108 t (st109 _ k)
    have P111 : own_Pr p.tables e below S0 T109 (mkF m 158 #[.val (.long p1), .second, .val (.int p2), .val (.long z22), .second, .val (.int (0 : Int32)), .val (.ref b26)] [(.long z22), (.int (0 : Int32)), (.int (5 : Int32)), (.ref b26)]) := fun t k => P110 t (by
      refine XS.ifNo X109.here hx rfl (hb hby at_149) rfl (XT.i0_eq_f (own_ok_0_4 HD (own_val hz22) At_4 hz109v)) ?_
      refine XS.aload X109.here hx rfl (hb hby at_152) rfl rfl ?_
      refine XS.iconst X109.here hx rfl (hb hby at_154) ?_
      refine XS.iload X109.here hx rfl (hb hby at_155) rfl ?_
      refine XS.lloadN X109.here hx rfl (hb hby at_157) rfl ?_
      exact k)
    obtain ⟨_, _, ⟨T112, L112, k112, n112⟩, -, X112, ⟨Lc112, hQ112, l112, y112, z112⟩, st112⟩ := Jvm.LawKit.callS X109 hx (y := (⟨"com/example/enqueue_to_disk/enqueuetodisk/format/internal/Unsigned32WriteHexPinLaw", "at", "([CIIJ)Z"⟩ : MethodName)) hown (mvT hZ (hw _ (List.mem_of_getElem? (i := 9) rfl))) (mvT hZ (hw _ (List.mem_of_getElem? (i := 10) rfl))) (mvT hZ (hw _ (List.mem_of_getElem? (i := 11) rfl))) (mvT hZ (hw _ (List.mem_of_getElem? (i := 12) rfl))) (by decide) (backOf (W := 0) (rm2 l Z a0 hw [] b26 (5 : Int32) (0 : Int32) z22 ct T93.heap n0 Z94 Tt ⟨by decide, by decide⟩) hZ (hw _ (List.mem_of_getElem? (i := 12) rfl)) (hw _ (List.mem_of_getElem? (i := 11) rfl)) (by decide) (by decide)) (g := (mkF m 158 #[.val (.long p1), .second, .val (.int p2), .val (.long z22), .second, .val (.int (0 : Int32)), .val (.ref b26)] [(.long z22), (.int (0 : Int32)), (.int (5 : Int32)), (.ref b26)])) rfl (by rw [hml]; rfl) (argsL := [(.ref b26), (.int (5 : Int32)), (.int (0 : Int32)), (.long z22)]) (rest := []) (lenOf pd_1 rfl) rfl (by show 2 * 0 + _ ≤ _; exact Nat.le_of_eq rfl) (hb hby at_158) (fun _ _ => ⟨rfl, eq109, (by decide : 1 + 0 ≤ _), (by decide : 10 + 0 ≤ _)⟩)
    dsimp only [Pt.U, Pt.locs, Pt.cells, Pt.slots] at X112 l112 y112 z112 st112 hQ112
    rw [l112, y112, z112] at X112
    have X112 := X112.mono (cells' := 1) (slots' := 10) (by decide) (by decide)
    obtain ⟨z112v, rfl, hz112v, Nq112, eq112⟩ := hQ112
    have N112n := Fr.app N109n Nq112
    have P113 : own_Pr p.tables e below S0 T112 (mkF m 161 #[.val (.long p1), .second, .val (.int p2), .val (.long z22), .second, .val (.int (0 : Int32)), .val (.ref b26)] [(.int z112v)]) := fun t k => P111 t (st112 _ k)
    have P114 : own_Pr p.tables e below S0 T112 (mkF m 171 #[.val (.long p1), .second, .val (.int p2), .val (.long z22), .second, .val (.int (0 : Int32)), .val (.ref b26)] [(.long z22), (.int (0 : Int32)), (.int (6 : Int32)), (.ref b26)]) := fun t k => P113 t (by
      refine XS.ifNo X112.here hx rfl (hb hby at_161) rfl (XT.i0_eq_f (own_ok_0_5 HD (own_val hz22) At_5 hz112v)) ?_
      refine XS.aload X112.here hx rfl (hb hby at_164) rfl rfl ?_
      refine XS.bipush X112.here hx rfl (hb hby at_166) ?_
      refine XS.iload X112.here hx rfl (hb hby at_168) rfl ?_
      refine XS.lloadN X112.here hx rfl (hb hby at_170) rfl ?_
      exact k)
    obtain ⟨_, _, ⟨T115, L115, k115, n115⟩, -, X115, ⟨Lc115, hQ115, l115, y115, z115⟩, st115⟩ := Jvm.LawKit.callS X112 hx (y := (⟨"com/example/enqueue_to_disk/enqueuetodisk/format/internal/Unsigned32WriteHexPinLaw", "at", "([CIIJ)Z"⟩ : MethodName)) hown (mvT hZ (hw _ (List.mem_of_getElem? (i := 9) rfl))) (mvT hZ (hw _ (List.mem_of_getElem? (i := 10) rfl))) (mvT hZ (hw _ (List.mem_of_getElem? (i := 11) rfl))) (mvT hZ (hw _ (List.mem_of_getElem? (i := 12) rfl))) (by decide) (backOf (W := 0) (rm2 l Z a0 hw [] b26 (6 : Int32) (0 : Int32) z22 ct T93.heap n0 Z94 Tt ⟨by decide, by decide⟩) hZ (hw _ (List.mem_of_getElem? (i := 12) rfl)) (hw _ (List.mem_of_getElem? (i := 11) rfl)) (by decide) (by decide)) (g := (mkF m 171 #[.val (.long p1), .second, .val (.int p2), .val (.long z22), .second, .val (.int (0 : Int32)), .val (.ref b26)] [(.long z22), (.int (0 : Int32)), (.int (6 : Int32)), (.ref b26)])) rfl (by rw [hml]; rfl) (argsL := [(.ref b26), (.int (6 : Int32)), (.int (0 : Int32)), (.long z22)]) (rest := []) (lenOf pd_1 rfl) rfl (by show 2 * 0 + _ ≤ _; exact Nat.le_of_eq rfl) (hb hby at_171) (fun _ _ => ⟨rfl, eq112, (by decide : 1 + 0 ≤ _), (by decide : 10 + 0 ≤ _)⟩)
    dsimp only [Pt.U, Pt.locs, Pt.cells, Pt.slots] at X115 l115 y115 z115 st115 hQ115
    rw [l115, y115, z115] at X115
    have X115 := X115.mono (cells' := 1) (slots' := 10) (by decide) (by decide)
    obtain ⟨z115v, rfl, hz115v, Nq115, eq115⟩ := hQ115
    have N115n := Fr.app N112n Nq115
    have P116 : own_Pr p.tables e below S0 T115 (mkF m 174 #[.val (.long p1), .second, .val (.int p2), .val (.long z22), .second, .val (.int (0 : Int32)), .val (.ref b26)] [(.int z115v)]) := fun t k => P114 t (st115 _ k)
    have P117 : own_Pr p.tables e below S0 T115 (mkF m 184 #[.val (.long p1), .second, .val (.int p2), .val (.long z22), .second, .val (.int (0 : Int32)), .val (.ref b26)] [(.long z22), (.int (0 : Int32)), (.int (7 : Int32)), (.ref b26)]) := fun t k => P116 t (by
      refine XS.ifNo X115.here hx rfl (hb hby at_174) rfl (XT.i0_eq_f (own_ok_0_6 HD (own_val hz22) At_6 hz115v)) ?_
      refine XS.aload X115.here hx rfl (hb hby at_177) rfl rfl ?_
      refine XS.bipush X115.here hx rfl (hb hby at_179) ?_
      refine XS.iload X115.here hx rfl (hb hby at_181) rfl ?_
      refine XS.lloadN X115.here hx rfl (hb hby at_183) rfl ?_
      exact k)
    obtain ⟨_, _, ⟨T118, L118, k118, n118⟩, -, X118, ⟨Lc118, hQ118, l118, y118, z118⟩, st118⟩ := Jvm.LawKit.callS X115 hx (y := (⟨"com/example/enqueue_to_disk/enqueuetodisk/format/internal/Unsigned32WriteHexPinLaw", "at", "([CIIJ)Z"⟩ : MethodName)) hown (mvT hZ (hw _ (List.mem_of_getElem? (i := 9) rfl))) (mvT hZ (hw _ (List.mem_of_getElem? (i := 10) rfl))) (mvT hZ (hw _ (List.mem_of_getElem? (i := 11) rfl))) (mvT hZ (hw _ (List.mem_of_getElem? (i := 12) rfl))) (by decide) (backOf (W := 0) (rm2 l Z a0 hw [] b26 (7 : Int32) (0 : Int32) z22 ct T93.heap n0 Z94 Tt ⟨by decide, by decide⟩) hZ (hw _ (List.mem_of_getElem? (i := 12) rfl)) (hw _ (List.mem_of_getElem? (i := 11) rfl)) (by decide) (by decide)) (g := (mkF m 184 #[.val (.long p1), .second, .val (.int p2), .val (.long z22), .second, .val (.int (0 : Int32)), .val (.ref b26)] [(.long z22), (.int (0 : Int32)), (.int (7 : Int32)), (.ref b26)])) rfl (by rw [hml]; rfl) (argsL := [(.ref b26), (.int (7 : Int32)), (.int (0 : Int32)), (.long z22)]) (rest := []) (lenOf pd_1 rfl) rfl (by show 2 * 0 + _ ≤ _; exact Nat.le_of_eq rfl) (hb hby at_184) (fun _ _ => ⟨rfl, eq115, (by decide : 1 + 0 ≤ _), (by decide : 10 + 0 ≤ _)⟩)
    dsimp only [Pt.U, Pt.locs, Pt.cells, Pt.slots] at X118 l118 y118 z118 st118 hQ118
    rw [l118, y118, z118] at X118
    have X118 := X118.mono (cells' := 1) (slots' := 10) (by decide) (by decide)
    obtain ⟨z118v, rfl, hz118v, Nq118, eq118⟩ := hQ118
    have N118n := Fr.app N115n Nq118
    have P119 : own_Pr p.tables e below S0 T118 (mkF m 187 #[.val (.long p1), .second, .val (.int p2), .val (.long z22), .second, .val (.int (0 : Int32)), .val (.ref b26)] [(.int z118v)]) := fun t k => P117 t (st118 _ k)
    have P120 : own_Pr p.tables e below S0 T118 (mkF m 197 #[.val (.long p1), .second, .val (.int p2), .val (.long z22), .second, .val (.int (0 : Int32)), .val (.ref b26)] [(.long z22), (.int (0 : Int32)), (.int (8 : Int32)), (.ref b26)]) := fun t k => P119 t (by
      refine XS.ifNo X118.here hx rfl (hb hby at_187) rfl (XT.i0_eq_f (own_ok_0_7 HD (own_val hz22) At_7 hz118v)) ?_
      refine XS.aload X118.here hx rfl (hb hby at_190) rfl rfl ?_
      refine XS.bipush X118.here hx rfl (hb hby at_192) ?_
      refine XS.iload X118.here hx rfl (hb hby at_194) rfl ?_
      refine XS.lloadN X118.here hx rfl (hb hby at_196) rfl ?_
      exact k)
    obtain ⟨_, _, ⟨T121, L121, k121, n121⟩, -, X121, ⟨Lc121, hQ121, l121, y121, z121⟩, st121⟩ := Jvm.LawKit.callS X118 hx (y := (⟨"com/example/enqueue_to_disk/enqueuetodisk/format/internal/Unsigned32WriteHexPinLaw", "at", "([CIIJ)Z"⟩ : MethodName)) hown (mvT hZ (hw _ (List.mem_of_getElem? (i := 9) rfl))) (mvT hZ (hw _ (List.mem_of_getElem? (i := 10) rfl))) (mvT hZ (hw _ (List.mem_of_getElem? (i := 11) rfl))) (mvT hZ (hw _ (List.mem_of_getElem? (i := 12) rfl))) (by decide) (backOf (W := 0) (rm2 l Z a0 hw [] b26 (8 : Int32) (0 : Int32) z22 ct T93.heap n0 Z94 Tt ⟨by decide, by decide⟩) hZ (hw _ (List.mem_of_getElem? (i := 12) rfl)) (hw _ (List.mem_of_getElem? (i := 11) rfl)) (by decide) (by decide)) (g := (mkF m 197 #[.val (.long p1), .second, .val (.int p2), .val (.long z22), .second, .val (.int (0 : Int32)), .val (.ref b26)] [(.long z22), (.int (0 : Int32)), (.int (8 : Int32)), (.ref b26)])) rfl (by rw [hml]; rfl) (argsL := [(.ref b26), (.int (8 : Int32)), (.int (0 : Int32)), (.long z22)]) (rest := []) (lenOf pd_1 rfl) rfl (by show 2 * 0 + _ ≤ _; exact Nat.le_of_eq rfl) (hb hby at_197) (fun _ _ => ⟨rfl, eq118, (by decide : 1 + 0 ≤ _), (by decide : 10 + 0 ≤ _)⟩)
    dsimp only [Pt.U, Pt.locs, Pt.cells, Pt.slots] at X121 l121 y121 z121 st121 hQ121
    rw [l121, y121, z121] at X121
    have X121 := X121.mono (cells' := 1) (slots' := 10) (by decide) (by decide)
    obtain ⟨z121v, rfl, hz121v, Nq121, eq121⟩ := hQ121
    have N121n := Fr.app N118n Nq121
    have P122 : own_Pr p.tables e below S0 T121 (mkF m 200 #[.val (.long p1), .second, .val (.int p2), .val (.long z22), .second, .val (.int (0 : Int32)), .val (.ref b26)] [(.int z121v)]) := fun t k => P120 t (st121 _ k)
    have P123 : own_Pr p.tables e below S0 T121 (mkF m 210 #[.val (.long p1), .second, .val (.int p2), .val (.long z22), .second, .val (.int (0 : Int32)), .val (.ref b26)] [(.long z22), (.int (0 : Int32)), (.int (9 : Int32)), (.ref b26)]) := fun t k => P122 t (by
      refine XS.ifNo X121.here hx rfl (hb hby at_200) rfl (XT.i0_eq_f (own_ok_0_8 HD (own_val hz22) At_8 hz121v)) ?_
      refine XS.aload X121.here hx rfl (hb hby at_203) rfl rfl ?_
      refine XS.bipush X121.here hx rfl (hb hby at_205) ?_
      refine XS.iload X121.here hx rfl (hb hby at_207) rfl ?_
      refine XS.lloadN X121.here hx rfl (hb hby at_209) rfl ?_
      exact k)
    obtain ⟨_, _, ⟨T124, L124, k124, n124⟩, -, X124, ⟨Lc124, hQ124, l124, y124, z124⟩, st124⟩ := Jvm.LawKit.callS X121 hx (y := (⟨"com/example/enqueue_to_disk/enqueuetodisk/format/internal/Unsigned32WriteHexPinLaw", "at", "([CIIJ)Z"⟩ : MethodName)) hown (mvT hZ (hw _ (List.mem_of_getElem? (i := 9) rfl))) (mvT hZ (hw _ (List.mem_of_getElem? (i := 10) rfl))) (mvT hZ (hw _ (List.mem_of_getElem? (i := 11) rfl))) (mvT hZ (hw _ (List.mem_of_getElem? (i := 12) rfl))) (by decide) (backOf (W := 0) (rm2 l Z a0 hw [] b26 (9 : Int32) (0 : Int32) z22 ct T93.heap n0 Z94 Tt ⟨by decide, by decide⟩) hZ (hw _ (List.mem_of_getElem? (i := 12) rfl)) (hw _ (List.mem_of_getElem? (i := 11) rfl)) (by decide) (by decide)) (g := (mkF m 210 #[.val (.long p1), .second, .val (.int p2), .val (.long z22), .second, .val (.int (0 : Int32)), .val (.ref b26)] [(.long z22), (.int (0 : Int32)), (.int (9 : Int32)), (.ref b26)])) rfl (by rw [hml]; rfl) (argsL := [(.ref b26), (.int (9 : Int32)), (.int (0 : Int32)), (.long z22)]) (rest := []) (lenOf pd_1 rfl) rfl (by show 2 * 0 + _ ≤ _; exact Nat.le_of_eq rfl) (hb hby at_210) (fun _ _ => ⟨rfl, eq121, (by decide : 1 + 0 ≤ _), (by decide : 10 + 0 ≤ _)⟩)
    dsimp only [Pt.U, Pt.locs, Pt.cells, Pt.slots] at X124 l124 y124 z124 st124 hQ124
    rw [l124, y124, z124] at X124
    have X124 := X124.mono (cells' := 1) (slots' := 10) (by decide) (by decide)
    obtain ⟨z124v, rfl, hz124v, Nq124, eq124⟩ := hQ124
    have N124n := Fr.app N121n Nq124
    have P125 : own_Pr p.tables e below S0 T124 (mkF m 213 #[.val (.long p1), .second, .val (.int p2), .val (.long z22), .second, .val (.int (0 : Int32)), .val (.ref b26)] [(.int z124v)]) := fun t k => P123 t (st124 _ k)
    have P126 : own_Pr p.tables e below S0 T124 (mkF m 221 #[.val (.long p1), .second, .val (.int p2), .val (.long z22), .second, .val (.int (0 : Int32)), .val (.ref b26)] [(.int (1 : Int32))]) := fun t k => P125 t (by
      refine XS.ifNo X124.here hx rfl (hb hby at_213) rfl (XT.i0_eq_f (own_ok_0_9 HD (own_val hz22) At_9 hz124v)) ?_
      refine XS.iconst X124.here hx rfl (hb hby at_216) ?_
      refine XS.goto X124.here hx rfl (pc0 := 217) (pc' := 221) rfl (hb hby at_217) (by decide) (by decide) ?_
      exact k)
    obtain ⟨fs, hr, hrun, hended, hW, hsame⟩ := X124.leave (v := some (.int (1 : Int32))) (fun h => by rw [Bd.returns] at h; cases h)
    have fin : Steps p.tables e below S0 (T124.setFrames fs) := P126 _ (retN X124 hx (t := .boolean) Bd.returns (by simp) (hb hby at_221) hr)
    rw [hS0] at fin
    refine ⟨_, _, fin, hrun, hended, _, _, rfl, ?_, ⟨_, rfl⟩, hW, hsame.mono (by decide) (by decide)⟩
    show own_QL n0 _ _
    exact ⟨_, rfl, rfl, N124n⟩
  · rw [hk] at P23
    have P127 : own_Pr p.tables e below S0 s₁ (mkF m 16 #[.val (.long p1), .second, .val (.int p2), .val (.long z22), .second, .val (.int (1 : Int32)), .unset] [(.int (10 : Int32))]) := fun t k => P23 t (by
      refine XS.bipush X0.here hx rfl (hb hby at_14) ?_
      exact k)
    obtain ⟨T128, h128, k128, X128, e128, E128, A128, st128⟩ := newP X0 hx hZ (hw _ (List.mem_of_getElem? (i := 2) rfl)) e0 (g := (mkF m 16 #[.val (.long p1), .second, .val (.int p2), .val (.long z22), .second, .val (.int (1 : Int32)), .unset] [(.int (10 : Int32))])) rfl (hb hby at_16) rfl (by decide) (cap := 10) (by decide) (by decide) (by decide) (by decide)
    obtain ⟨b128, g128⟩ : ∃ z, z = h0.size := ⟨_, rfl⟩
    rw [← g128] at A128 st128
    have g_b128 : n0 ≤ b128 := Nat.le_trans Z0 (Nat.le_of_eq g128.symm)
    have ne_dg_b128 : dg ≠ b128 := Nat.ne_of_lt (Nat.lt_of_lt_of_le T_dg.lt (Nat.le_of_eq g128.symm))
    have F129 := S_dg.ext E128
    have F130 := T_dg.ext E128
    have Z131 : n0 ≤ h128.size := Nat.le_trans Z0 E128.1
    have F132 : Arv Z h128 b128 k128 .char (10 : Int32) [(.int (0 : Int32)), (.int (0 : Int32)), (.int (0 : Int32)), (.int (0 : Int32)), (.int (0 : Int32)), (.int (0 : Int32)), (.int (0 : Int32)), (.int (0 : Int32)), (.int (0 : Int32)), (.int (0 : Int32))] (.int (0 : Int32)) := (Arv.new A128 (by decide)).pad (pad_rep [] (.int (0 : Int32)) 10)
    have P133 : own_Pr p.tables e below S0 T128 (mkF m 18 #[.val (.long p1), .second, .val (.int p2), .val (.long z22), .second, .val (.int (1 : Int32)), .unset] [(.ref b128)]) := fun t k => P127 t (st128 _ k)
    have P134 : own_Pr p.tables e below S0 T128 (mkF m 25 #[.val (.long p1), .second, .val (.int p2), .val (.long z22), .second, .val (.int (1 : Int32)), .val (.ref b128)] [(.int (35 : Int32)), (.int (0 : Int32)), (.ref b128)]) := fun t k => P133 t (by
      refine XS.astore X128.here hx rfl (hb hby at_18) rfl rfl (l' := #[.val (.long p1), .second, .val (.int p2), .val (.long z22), .second, .val (.int (1 : Int32)), .val (.ref b128)]) rfl ?_
      refine XS.aload X128.here hx rfl (hb hby at_20) rfl rfl ?_
      refine XS.iconst X128.here hx rfl (hb hby at_22) ?_
      refine XS.bipush X128.here hx rfl (hb hby at_23) ?_
      exact k)
    obtain ⟨cl135, Ar135, q135, S135, N135, H135, G135⟩ := id F132
    have hin135 : ¬ ((0 : Int32) < 0 ∨ cl135.slots.size ≤ ((0 : Int32)).toNatClampNeg) := inb_of S135 ⟨by decide, by decide⟩
    obtain ⟨T135, h135, X135, e135, W135, st135⟩ := stC X128 hx hZ e128 Ar135 (j := (0 : Int32)) hin135 (g := (mkF m 25 #[.val (.long p1), .second, .val (.int p2), .val (.long z22), .second, .val (.int (1 : Int32)), .val (.ref b128)] [(.int (35 : Int32)), (.int (0 : Int32)), (.ref b128)])) rfl rfl (hb hby at_25)
    have V135 : Arv Z h135 b128 k128 .char (10 : Int32) [(.int (35 : Int32)), (.int (0 : Int32)), (.int (0 : Int32)), (.int (0 : Int32)), (.int (0 : Int32)), (.int (0 : Int32)), (.int (0 : Int32)), (.int (0 : Int32)), (.int (0 : Int32)), (.int (0 : Int32))] (.int (0 : Int32)) := Arv.set Ar135 q135 S135 N135 H135 G135 (fits_nar_char _) W135 0 rfl (Nat.le_of_ble_eq_true rfl)
    have F136 := F129.wr W135
    have F137 := own_tab_other F130 W135 ne_dg_b128
    have Z138 : n0 ≤ h135.size := by rw [W135.size]; exact Z131
    have NF135 := Fr.snoc X135 N0 g_b128
    have P139 : own_Pr p.tables e below S0 T135 (mkF m 26 #[.val (.long p1), .second, .val (.int p2), .val (.long z22), .second, .val (.int (1 : Int32)), .val (.ref b128)] []) := fun t k => P134 t (st135 _ k)
    have P140 : own_Pr p.tables e below S0 T135 (mkF m 31 #[.val (.long p1), .second, .val (.int p2), .val (.long z22), .second, .val (.int (1 : Int32)), .val (.ref b128)] [(.int (35 : Int32)), (.int (1 : Int32)), (.ref b128)]) := fun t k => P139 t (by
      refine XS.aload X135.here hx rfl (hb hby at_26) rfl rfl ?_
      refine XS.iconst X135.here hx rfl (hb hby at_28) ?_
      refine XS.bipush X135.here hx rfl (hb hby at_29) ?_
      exact k)
    obtain ⟨cl141, Ar141, q141, S141, N141, H141, G141⟩ := id V135
    have hin141 : ¬ ((1 : Int32) < 0 ∨ cl141.slots.size ≤ ((1 : Int32)).toNatClampNeg) := inb_of S141 ⟨by decide, by decide⟩
    obtain ⟨T141, h141, X141, e141, W141, st141⟩ := stC X135 hx hZ e135 Ar141 (j := (1 : Int32)) hin141 (g := (mkF m 31 #[.val (.long p1), .second, .val (.int p2), .val (.long z22), .second, .val (.int (1 : Int32)), .val (.ref b128)] [(.int (35 : Int32)), (.int (1 : Int32)), (.ref b128)])) rfl rfl (hb hby at_31)
    have V141 : Arv Z h141 b128 k128 .char (10 : Int32) [(.int (35 : Int32)), (.int (35 : Int32)), (.int (0 : Int32)), (.int (0 : Int32)), (.int (0 : Int32)), (.int (0 : Int32)), (.int (0 : Int32)), (.int (0 : Int32)), (.int (0 : Int32)), (.int (0 : Int32))] (.int (0 : Int32)) := Arv.set Ar141 q141 S141 N141 H141 G141 (fits_nar_char _) W141 1 rfl (Nat.le_of_ble_eq_true rfl)
    have F142 := F136.wr W141
    have F143 := own_tab_other F137 W141 ne_dg_b128
    have Z144 : n0 ≤ h141.size := by rw [W141.size]; exact Z138
    have NF141 := Fr.snoc X141 NF135 g_b128
    have P145 : own_Pr p.tables e below S0 T141 (mkF m 32 #[.val (.long p1), .second, .val (.int p2), .val (.long z22), .second, .val (.int (1 : Int32)), .val (.ref b128)] []) := fun t k => P140 t (st141 _ k)
    have P146 : own_Pr p.tables e below S0 T141 (mkF m 37 #[.val (.long p1), .second, .val (.int p2), .val (.long z22), .second, .val (.int (1 : Int32)), .val (.ref b128)] [(.int (35 : Int32)), (.int (2 : Int32)), (.ref b128)]) := fun t k => P145 t (by
      refine XS.aload X141.here hx rfl (hb hby at_32) rfl rfl ?_
      refine XS.iconst X141.here hx rfl (hb hby at_34) ?_
      refine XS.bipush X141.here hx rfl (hb hby at_35) ?_
      exact k)
    obtain ⟨cl147, Ar147, q147, S147, N147, H147, G147⟩ := id V141
    have hin147 : ¬ ((2 : Int32) < 0 ∨ cl147.slots.size ≤ ((2 : Int32)).toNatClampNeg) := inb_of S147 ⟨by decide, by decide⟩
    obtain ⟨T147, h147, X147, e147, W147, st147⟩ := stC X141 hx hZ e141 Ar147 (j := (2 : Int32)) hin147 (g := (mkF m 37 #[.val (.long p1), .second, .val (.int p2), .val (.long z22), .second, .val (.int (1 : Int32)), .val (.ref b128)] [(.int (35 : Int32)), (.int (2 : Int32)), (.ref b128)])) rfl rfl (hb hby at_37)
    have V147 : Arv Z h147 b128 k128 .char (10 : Int32) [(.int (35 : Int32)), (.int (35 : Int32)), (.int (35 : Int32)), (.int (0 : Int32)), (.int (0 : Int32)), (.int (0 : Int32)), (.int (0 : Int32)), (.int (0 : Int32)), (.int (0 : Int32)), (.int (0 : Int32))] (.int (0 : Int32)) := Arv.set Ar147 q147 S147 N147 H147 G147 (fits_nar_char _) W147 2 rfl (Nat.le_of_ble_eq_true rfl)
    have F148 := F142.wr W147
    have F149 := own_tab_other F143 W147 ne_dg_b128
    have Z150 : n0 ≤ h147.size := by rw [W147.size]; exact Z144
    have NF147 := Fr.snoc X147 NF141 g_b128
    have P151 : own_Pr p.tables e below S0 T147 (mkF m 38 #[.val (.long p1), .second, .val (.int p2), .val (.long z22), .second, .val (.int (1 : Int32)), .val (.ref b128)] []) := fun t k => P146 t (st147 _ k)
    have P152 : own_Pr p.tables e below S0 T147 (mkF m 43 #[.val (.long p1), .second, .val (.int p2), .val (.long z22), .second, .val (.int (1 : Int32)), .val (.ref b128)] [(.int (35 : Int32)), (.int (3 : Int32)), (.ref b128)]) := fun t k => P151 t (by
      refine XS.aload X147.here hx rfl (hb hby at_38) rfl rfl ?_
      refine XS.iconst X147.here hx rfl (hb hby at_40) ?_
      refine XS.bipush X147.here hx rfl (hb hby at_41) ?_
      exact k)
    obtain ⟨cl153, Ar153, q153, S153, N153, H153, G153⟩ := id V147
    have hin153 : ¬ ((3 : Int32) < 0 ∨ cl153.slots.size ≤ ((3 : Int32)).toNatClampNeg) := inb_of S153 ⟨by decide, by decide⟩
    obtain ⟨T153, h153, X153, e153, W153, st153⟩ := stC X147 hx hZ e147 Ar153 (j := (3 : Int32)) hin153 (g := (mkF m 43 #[.val (.long p1), .second, .val (.int p2), .val (.long z22), .second, .val (.int (1 : Int32)), .val (.ref b128)] [(.int (35 : Int32)), (.int (3 : Int32)), (.ref b128)])) rfl rfl (hb hby at_43)
    have V153 : Arv Z h153 b128 k128 .char (10 : Int32) [(.int (35 : Int32)), (.int (35 : Int32)), (.int (35 : Int32)), (.int (35 : Int32)), (.int (0 : Int32)), (.int (0 : Int32)), (.int (0 : Int32)), (.int (0 : Int32)), (.int (0 : Int32)), (.int (0 : Int32))] (.int (0 : Int32)) := Arv.set Ar153 q153 S153 N153 H153 G153 (fits_nar_char _) W153 3 rfl (Nat.le_of_ble_eq_true rfl)
    have F154 := F148.wr W153
    have F155 := own_tab_other F149 W153 ne_dg_b128
    have Z156 : n0 ≤ h153.size := by rw [W153.size]; exact Z150
    have NF153 := Fr.snoc X153 NF147 g_b128
    have P157 : own_Pr p.tables e below S0 T153 (mkF m 44 #[.val (.long p1), .second, .val (.int p2), .val (.long z22), .second, .val (.int (1 : Int32)), .val (.ref b128)] []) := fun t k => P152 t (st153 _ k)
    have P158 : own_Pr p.tables e below S0 T153 (mkF m 49 #[.val (.long p1), .second, .val (.int p2), .val (.long z22), .second, .val (.int (1 : Int32)), .val (.ref b128)] [(.int (35 : Int32)), (.int (4 : Int32)), (.ref b128)]) := fun t k => P157 t (by
      refine XS.aload X153.here hx rfl (hb hby at_44) rfl rfl ?_
      refine XS.iconst X153.here hx rfl (hb hby at_46) ?_
      refine XS.bipush X153.here hx rfl (hb hby at_47) ?_
      exact k)
    obtain ⟨cl159, Ar159, q159, S159, N159, H159, G159⟩ := id V153
    have hin159 : ¬ ((4 : Int32) < 0 ∨ cl159.slots.size ≤ ((4 : Int32)).toNatClampNeg) := inb_of S159 ⟨by decide, by decide⟩
    obtain ⟨T159, h159, X159, e159, W159, st159⟩ := stC X153 hx hZ e153 Ar159 (j := (4 : Int32)) hin159 (g := (mkF m 49 #[.val (.long p1), .second, .val (.int p2), .val (.long z22), .second, .val (.int (1 : Int32)), .val (.ref b128)] [(.int (35 : Int32)), (.int (4 : Int32)), (.ref b128)])) rfl rfl (hb hby at_49)
    have V159 : Arv Z h159 b128 k128 .char (10 : Int32) [(.int (35 : Int32)), (.int (35 : Int32)), (.int (35 : Int32)), (.int (35 : Int32)), (.int (35 : Int32)), (.int (0 : Int32)), (.int (0 : Int32)), (.int (0 : Int32)), (.int (0 : Int32)), (.int (0 : Int32))] (.int (0 : Int32)) := Arv.set Ar159 q159 S159 N159 H159 G159 (fits_nar_char _) W159 4 rfl (Nat.le_of_ble_eq_true rfl)
    have F160 := F154.wr W159
    have F161 := own_tab_other F155 W159 ne_dg_b128
    have Z162 : n0 ≤ h159.size := by rw [W159.size]; exact Z156
    have NF159 := Fr.snoc X159 NF153 g_b128
    have P163 : own_Pr p.tables e below S0 T159 (mkF m 50 #[.val (.long p1), .second, .val (.int p2), .val (.long z22), .second, .val (.int (1 : Int32)), .val (.ref b128)] []) := fun t k => P158 t (st159 _ k)
    have P164 : own_Pr p.tables e below S0 T159 (mkF m 55 #[.val (.long p1), .second, .val (.int p2), .val (.long z22), .second, .val (.int (1 : Int32)), .val (.ref b128)] [(.int (35 : Int32)), (.int (5 : Int32)), (.ref b128)]) := fun t k => P163 t (by
      refine XS.aload X159.here hx rfl (hb hby at_50) rfl rfl ?_
      refine XS.iconst X159.here hx rfl (hb hby at_52) ?_
      refine XS.bipush X159.here hx rfl (hb hby at_53) ?_
      exact k)
    obtain ⟨cl165, Ar165, q165, S165, N165, H165, G165⟩ := id V159
    have hin165 : ¬ ((5 : Int32) < 0 ∨ cl165.slots.size ≤ ((5 : Int32)).toNatClampNeg) := inb_of S165 ⟨by decide, by decide⟩
    obtain ⟨T165, h165, X165, e165, W165, st165⟩ := stC X159 hx hZ e159 Ar165 (j := (5 : Int32)) hin165 (g := (mkF m 55 #[.val (.long p1), .second, .val (.int p2), .val (.long z22), .second, .val (.int (1 : Int32)), .val (.ref b128)] [(.int (35 : Int32)), (.int (5 : Int32)), (.ref b128)])) rfl rfl (hb hby at_55)
    have V165 : Arv Z h165 b128 k128 .char (10 : Int32) [(.int (35 : Int32)), (.int (35 : Int32)), (.int (35 : Int32)), (.int (35 : Int32)), (.int (35 : Int32)), (.int (35 : Int32)), (.int (0 : Int32)), (.int (0 : Int32)), (.int (0 : Int32)), (.int (0 : Int32))] (.int (0 : Int32)) := Arv.set Ar165 q165 S165 N165 H165 G165 (fits_nar_char _) W165 5 rfl (Nat.le_of_ble_eq_true rfl)
    have F166 := F160.wr W165
    have F167 := own_tab_other F161 W165 ne_dg_b128
    have Z168 : n0 ≤ h165.size := by rw [W165.size]; exact Z162
    have NF165 := Fr.snoc X165 NF159 g_b128
    have P169 : own_Pr p.tables e below S0 T165 (mkF m 56 #[.val (.long p1), .second, .val (.int p2), .val (.long z22), .second, .val (.int (1 : Int32)), .val (.ref b128)] []) := fun t k => P164 t (st165 _ k)
    have P170 : own_Pr p.tables e below S0 T165 (mkF m 62 #[.val (.long p1), .second, .val (.int p2), .val (.long z22), .second, .val (.int (1 : Int32)), .val (.ref b128)] [(.int (35 : Int32)), (.int (6 : Int32)), (.ref b128)]) := fun t k => P169 t (by
      refine XS.aload X165.here hx rfl (hb hby at_56) rfl rfl ?_
      refine XS.bipush X165.here hx rfl (hb hby at_58) ?_
      refine XS.bipush X165.here hx rfl (hb hby at_60) ?_
      exact k)
    obtain ⟨cl171, Ar171, q171, S171, N171, H171, G171⟩ := id V165
    have hin171 : ¬ ((6 : Int32) < 0 ∨ cl171.slots.size ≤ ((6 : Int32)).toNatClampNeg) := inb_of S171 ⟨by decide, by decide⟩
    obtain ⟨T171, h171, X171, e171, W171, st171⟩ := stC X165 hx hZ e165 Ar171 (j := (6 : Int32)) hin171 (g := (mkF m 62 #[.val (.long p1), .second, .val (.int p2), .val (.long z22), .second, .val (.int (1 : Int32)), .val (.ref b128)] [(.int (35 : Int32)), (.int (6 : Int32)), (.ref b128)])) rfl rfl (hb hby at_62)
    have V171 : Arv Z h171 b128 k128 .char (10 : Int32) [(.int (35 : Int32)), (.int (35 : Int32)), (.int (35 : Int32)), (.int (35 : Int32)), (.int (35 : Int32)), (.int (35 : Int32)), (.int (35 : Int32)), (.int (0 : Int32)), (.int (0 : Int32)), (.int (0 : Int32))] (.int (0 : Int32)) := Arv.set Ar171 q171 S171 N171 H171 G171 (fits_nar_char _) W171 6 rfl (Nat.le_of_ble_eq_true rfl)
    have F172 := F166.wr W171
    have F173 := own_tab_other F167 W171 ne_dg_b128
    have Z174 : n0 ≤ h171.size := by rw [W171.size]; exact Z168
    have NF171 := Fr.snoc X171 NF165 g_b128
    have P175 : own_Pr p.tables e below S0 T171 (mkF m 63 #[.val (.long p1), .second, .val (.int p2), .val (.long z22), .second, .val (.int (1 : Int32)), .val (.ref b128)] []) := fun t k => P170 t (st171 _ k)
    have P176 : own_Pr p.tables e below S0 T171 (mkF m 69 #[.val (.long p1), .second, .val (.int p2), .val (.long z22), .second, .val (.int (1 : Int32)), .val (.ref b128)] [(.int (35 : Int32)), (.int (7 : Int32)), (.ref b128)]) := fun t k => P175 t (by
      refine XS.aload X171.here hx rfl (hb hby at_63) rfl rfl ?_
      refine XS.bipush X171.here hx rfl (hb hby at_65) ?_
      refine XS.bipush X171.here hx rfl (hb hby at_67) ?_
      exact k)
    obtain ⟨cl177, Ar177, q177, S177, N177, H177, G177⟩ := id V171
    have hin177 : ¬ ((7 : Int32) < 0 ∨ cl177.slots.size ≤ ((7 : Int32)).toNatClampNeg) := inb_of S177 ⟨by decide, by decide⟩
    obtain ⟨T177, h177, X177, e177, W177, st177⟩ := stC X171 hx hZ e171 Ar177 (j := (7 : Int32)) hin177 (g := (mkF m 69 #[.val (.long p1), .second, .val (.int p2), .val (.long z22), .second, .val (.int (1 : Int32)), .val (.ref b128)] [(.int (35 : Int32)), (.int (7 : Int32)), (.ref b128)])) rfl rfl (hb hby at_69)
    have V177 : Arv Z h177 b128 k128 .char (10 : Int32) [(.int (35 : Int32)), (.int (35 : Int32)), (.int (35 : Int32)), (.int (35 : Int32)), (.int (35 : Int32)), (.int (35 : Int32)), (.int (35 : Int32)), (.int (35 : Int32)), (.int (0 : Int32)), (.int (0 : Int32))] (.int (0 : Int32)) := Arv.set Ar177 q177 S177 N177 H177 G177 (fits_nar_char _) W177 7 rfl (Nat.le_of_ble_eq_true rfl)
    have F178 := F172.wr W177
    have F179 := own_tab_other F173 W177 ne_dg_b128
    have Z180 : n0 ≤ h177.size := by rw [W177.size]; exact Z174
    have NF177 := Fr.snoc X177 NF171 g_b128
    have P181 : own_Pr p.tables e below S0 T177 (mkF m 70 #[.val (.long p1), .second, .val (.int p2), .val (.long z22), .second, .val (.int (1 : Int32)), .val (.ref b128)] []) := fun t k => P176 t (st177 _ k)
    have P182 : own_Pr p.tables e below S0 T177 (mkF m 76 #[.val (.long p1), .second, .val (.int p2), .val (.long z22), .second, .val (.int (1 : Int32)), .val (.ref b128)] [(.int (35 : Int32)), (.int (8 : Int32)), (.ref b128)]) := fun t k => P181 t (by
      refine XS.aload X177.here hx rfl (hb hby at_70) rfl rfl ?_
      refine XS.bipush X177.here hx rfl (hb hby at_72) ?_
      refine XS.bipush X177.here hx rfl (hb hby at_74) ?_
      exact k)
    obtain ⟨cl183, Ar183, q183, S183, N183, H183, G183⟩ := id V177
    have hin183 : ¬ ((8 : Int32) < 0 ∨ cl183.slots.size ≤ ((8 : Int32)).toNatClampNeg) := inb_of S183 ⟨by decide, by decide⟩
    obtain ⟨T183, h183, X183, e183, W183, st183⟩ := stC X177 hx hZ e177 Ar183 (j := (8 : Int32)) hin183 (g := (mkF m 76 #[.val (.long p1), .second, .val (.int p2), .val (.long z22), .second, .val (.int (1 : Int32)), .val (.ref b128)] [(.int (35 : Int32)), (.int (8 : Int32)), (.ref b128)])) rfl rfl (hb hby at_76)
    have V183 : Arv Z h183 b128 k128 .char (10 : Int32) [(.int (35 : Int32)), (.int (35 : Int32)), (.int (35 : Int32)), (.int (35 : Int32)), (.int (35 : Int32)), (.int (35 : Int32)), (.int (35 : Int32)), (.int (35 : Int32)), (.int (35 : Int32)), (.int (0 : Int32))] (.int (0 : Int32)) := Arv.set Ar183 q183 S183 N183 H183 G183 (fits_nar_char _) W183 8 rfl (Nat.le_of_ble_eq_true rfl)
    have F184 := F178.wr W183
    have F185 := own_tab_other F179 W183 ne_dg_b128
    have Z186 : n0 ≤ h183.size := by rw [W183.size]; exact Z180
    have NF183 := Fr.snoc X183 NF177 g_b128
    have P187 : own_Pr p.tables e below S0 T183 (mkF m 77 #[.val (.long p1), .second, .val (.int p2), .val (.long z22), .second, .val (.int (1 : Int32)), .val (.ref b128)] []) := fun t k => P182 t (st183 _ k)
    have P188 : own_Pr p.tables e below S0 T183 (mkF m 83 #[.val (.long p1), .second, .val (.int p2), .val (.long z22), .second, .val (.int (1 : Int32)), .val (.ref b128)] [(.int (35 : Int32)), (.int (9 : Int32)), (.ref b128)]) := fun t k => P187 t (by
      refine XS.aload X183.here hx rfl (hb hby at_77) rfl rfl ?_
      refine XS.bipush X183.here hx rfl (hb hby at_79) ?_
      refine XS.bipush X183.here hx rfl (hb hby at_81) ?_
      exact k)
    obtain ⟨cl189, Ar189, q189, S189, N189, H189, G189⟩ := id V183
    have hin189 : ¬ ((9 : Int32) < 0 ∨ cl189.slots.size ≤ ((9 : Int32)).toNatClampNeg) := inb_of S189 ⟨by decide, by decide⟩
    obtain ⟨T189, h189, X189, e189, W189, st189⟩ := stC X183 hx hZ e183 Ar189 (j := (9 : Int32)) hin189 (g := (mkF m 83 #[.val (.long p1), .second, .val (.int p2), .val (.long z22), .second, .val (.int (1 : Int32)), .val (.ref b128)] [(.int (35 : Int32)), (.int (9 : Int32)), (.ref b128)])) rfl rfl (hb hby at_83)
    have V189 : Arv Z h189 b128 k128 .char (10 : Int32) [(.int (35 : Int32)), (.int (35 : Int32)), (.int (35 : Int32)), (.int (35 : Int32)), (.int (35 : Int32)), (.int (35 : Int32)), (.int (35 : Int32)), (.int (35 : Int32)), (.int (35 : Int32)), (.int (35 : Int32))] (.int (0 : Int32)) := Arv.set Ar189 q189 S189 N189 H189 G189 (fits_nar_char _) W189 9 rfl (Nat.le_of_ble_eq_true rfl)
    have F190 := F184.wr W189
    have F191 := own_tab_other F185 W189 ne_dg_b128
    have Z192 : n0 ≤ h189.size := by rw [W189.size]; exact Z186
    have NF189 := Fr.snoc X189 NF183 g_b128
    have P193 : own_Pr p.tables e below S0 T189 (mkF m 84 #[.val (.long p1), .second, .val (.int p2), .val (.long z22), .second, .val (.int (1 : Int32)), .val (.ref b128)] []) := fun t k => P188 t (st189 _ k)
    have P194 : own_Pr p.tables e below S0 T189 (mkF m 89 #[.val (.long p1), .second, .val (.int p2), .val (.long z22), .second, .val (.int (1 : Int32)), .val (.ref b128)] [(.int (1 : Int32)), (.ref b128), (.long z22)]) := fun t k => P193 t (by
      refine XS.lloadN X189.here hx rfl (hb hby at_84) rfl ?_
      refine XS.aload X189.here hx rfl (hb hby at_85) rfl rfl ?_
      refine XS.iload X189.here hx rfl (hb hby at_87) rfl ?_
      exact k)
    obtain ⟨_, _, ⟨T195, L195, k195, n195⟩, -, X195, ⟨Lc195, hQ195, l195, y195, z195⟩, st195⟩ := Jvm.LawKit.callS X189 hx (y := (⟨"com/example/enqueue_to_disk/enqueuetodisk/format/internal/Unsigned32", "writeHex", "(J[CI)V"⟩ : MethodName)) hown (mvT hZ (hw _ (List.mem_of_getElem? (i := 3) rfl))) (mvT hZ (hw _ (List.mem_of_getElem? (i := 4) rfl))) (mvT hZ (hw _ (List.mem_of_getElem? (i := 5) rfl))) (mvT hZ (hw _ (List.mem_of_getElem? (i := 6) rfl))) (by decide) (backOf (W := 0) (rm1_1 l Z a0 hw [] z22 b128 dg cd k128 h189 n0 Z192 F190 F191 V189 g_b128 ne_dg_b128) hZ (hw _ (List.mem_of_getElem? (i := 6) rfl)) (hw _ (List.mem_of_getElem? (i := 5) rfl)) (by decide) (by decide)) (g := (mkF m 89 #[.val (.long p1), .second, .val (.int p2), .val (.long z22), .second, .val (.int (1 : Int32)), .val (.ref b128)] [(.int (1 : Int32)), (.ref b128), (.long z22)])) rfl (by rw [hml]; rfl) (argsL := [(.long z22), (.ref b128), (.int (1 : Int32))]) (rest := []) (lenOf pd_0 rfl) rfl (by show 2 * 0 + _ ≤ _; exact Nat.le_of_eq rfl) (hb hby at_89) (fun _ _ => ⟨rfl, e189, (by decide : 1 + 0 ≤ _), (by decide : 10 + 0 ≤ _)⟩)
    dsimp only [Pt.U, Pt.locs, Pt.cells, Pt.slots] at X195 l195 y195 z195 st195 hQ195
    rw [l195, y195, z195] at X195
    have X195 := X195.mono (cells' := 1) (slots' := 10) (by decide) (by decide)
    obtain ⟨rfl, Nq195, K195k, V195w⟩ := hQ195
    have N195n := Fr.app NF189 Nq195
    have Z196 := Nat.le_trans Z192 K195k.1
    obtain ⟨ct, Tt, At⟩ := own_tab V195w
    have At_0 := At 0 (by decide) (by decide)
    rw [show (0 : Int32).toNatClampNeg = 0 from rfl] at At_0
    simp only [List.getD_cons_succ, List.getD_cons_zero] at At_0
    have At_1 := At 1 (by decide) (by decide)
    rw [show (1 : Int32).toNatClampNeg = 1 from rfl] at At_1
    simp only [List.getD_cons_succ, List.getD_cons_zero] at At_1
    have At_2 := At 2 (by decide) (by decide)
    rw [show (2 : Int32).toNatClampNeg = 2 from rfl] at At_2
    simp only [List.getD_cons_succ, List.getD_cons_zero] at At_2
    have At_3 := At 3 (by decide) (by decide)
    rw [show (3 : Int32).toNatClampNeg = 3 from rfl] at At_3
    simp only [List.getD_cons_succ, List.getD_cons_zero] at At_3
    have At_4 := At 4 (by decide) (by decide)
    rw [show (4 : Int32).toNatClampNeg = 4 from rfl] at At_4
    simp only [List.getD_cons_succ, List.getD_cons_zero] at At_4
    have At_5 := At 5 (by decide) (by decide)
    rw [show (5 : Int32).toNatClampNeg = 5 from rfl] at At_5
    simp only [List.getD_cons_succ, List.getD_cons_zero] at At_5
    have At_6 := At 6 (by decide) (by decide)
    rw [show (6 : Int32).toNatClampNeg = 6 from rfl] at At_6
    simp only [List.getD_cons_succ, List.getD_cons_zero] at At_6
    have At_7 := At 7 (by decide) (by decide)
    rw [show (7 : Int32).toNatClampNeg = 7 from rfl] at At_7
    simp only [List.getD_cons_succ, List.getD_cons_zero] at At_7
    have At_8 := At 8 (by decide) (by decide)
    rw [show (8 : Int32).toNatClampNeg = 8 from rfl] at At_8
    simp only [List.getD_cons_succ, List.getD_cons_zero] at At_8
    have At_9 := At 9 (by decide) (by decide)
    rw [show (9 : Int32).toNatClampNeg = 9 from rfl] at At_9
    simp only [List.getD_cons_succ, List.getD_cons_zero] at At_9
    have P197 : own_Pr p.tables e below S0 T195 (mkF m 92 #[.val (.long p1), .second, .val (.int p2), .val (.long z22), .second, .val (.int (1 : Int32)), .val (.ref b128)] []) := fun t k => P194 t (st195 _ k)
    have P198 : own_Pr p.tables e below S0 T195 (mkF m 98 #[.val (.long p1), .second, .val (.int p2), .val (.long z22), .second, .val (.int (1 : Int32)), .val (.ref b128)] [(.long z22), (.int (1 : Int32)), (.int (0 : Int32)), (.ref b128)]) := fun t k => P197 t (by
      refine XS.aload X195.here hx rfl (hb hby at_92) rfl rfl ?_
      refine XS.iconst X195.here hx rfl (hb hby at_94) ?_
      refine XS.iload X195.here hx rfl (hb hby at_95) rfl ?_
      refine XS.lloadN X195.here hx rfl (hb hby at_97) rfl ?_
      exact k)
    obtain ⟨_, _, ⟨T199, L199, k199, n199⟩, -, X199, ⟨Lc199, hQ199, l199, y199, z199⟩, st199⟩ := Jvm.LawKit.callS X195 hx (y := (⟨"com/example/enqueue_to_disk/enqueuetodisk/format/internal/Unsigned32WriteHexPinLaw", "at", "([CIIJ)Z"⟩ : MethodName)) hown (mvT hZ (hw _ (List.mem_of_getElem? (i := 9) rfl))) (mvT hZ (hw _ (List.mem_of_getElem? (i := 10) rfl))) (mvT hZ (hw _ (List.mem_of_getElem? (i := 11) rfl))) (mvT hZ (hw _ (List.mem_of_getElem? (i := 12) rfl))) (by decide) (backOf (W := 0) (rm2 l Z a0 hw [] b128 (0 : Int32) (1 : Int32) z22 ct T195.heap n0 Z196 Tt ⟨by decide, by decide⟩) hZ (hw _ (List.mem_of_getElem? (i := 12) rfl)) (hw _ (List.mem_of_getElem? (i := 11) rfl)) (by decide) (by decide)) (g := (mkF m 98 #[.val (.long p1), .second, .val (.int p2), .val (.long z22), .second, .val (.int (1 : Int32)), .val (.ref b128)] [(.long z22), (.int (1 : Int32)), (.int (0 : Int32)), (.ref b128)])) rfl (by rw [hml]; rfl) (argsL := [(.ref b128), (.int (0 : Int32)), (.int (1 : Int32)), (.long z22)]) (rest := []) (lenOf pd_1 rfl) rfl (by show 2 * 0 + _ ≤ _; exact Nat.le_of_eq rfl) (hb hby at_98) (fun _ _ => ⟨rfl, rfl, (by decide : 1 + 0 ≤ _), (by decide : 10 + 0 ≤ _)⟩)
    dsimp only [Pt.U, Pt.locs, Pt.cells, Pt.slots] at X199 l199 y199 z199 st199 hQ199
    rw [l199, y199, z199] at X199
    have X199 := X199.mono (cells' := 1) (slots' := 10) (by decide) (by decide)
    obtain ⟨z199v, rfl, hz199v, Nq199, eq199⟩ := hQ199
    have N199n := Fr.app N195n Nq199
    have P200 : own_Pr p.tables e below S0 T199 (mkF m 101 #[.val (.long p1), .second, .val (.int p2), .val (.long z22), .second, .val (.int (1 : Int32)), .val (.ref b128)] [(.int z199v)]) := fun t k => P198 t (st199 _ k)
    have P201 : own_Pr p.tables e below S0 T199 (mkF m 110 #[.val (.long p1), .second, .val (.int p2), .val (.long z22), .second, .val (.int (1 : Int32)), .val (.ref b128)] [(.long z22), (.int (1 : Int32)), (.int (1 : Int32)), (.ref b128)]) := fun t k => P200 t (by
      refine XS.ifNo X199.here hx rfl (hb hby at_101) rfl (XT.i0_eq_f (own_ok_1_0 HD (own_val hz22) At_0 hz199v)) ?_
      refine XS.aload X199.here hx rfl (hb hby at_104) rfl rfl ?_
      refine XS.iconst X199.here hx rfl (hb hby at_106) ?_
      refine XS.iload X199.here hx rfl (hb hby at_107) rfl ?_
      refine XS.lloadN X199.here hx rfl (hb hby at_109) rfl ?_
      exact k)
    obtain ⟨_, _, ⟨T202, L202, k202, n202⟩, -, X202, ⟨Lc202, hQ202, l202, y202, z202⟩, st202⟩ := Jvm.LawKit.callS X199 hx (y := (⟨"com/example/enqueue_to_disk/enqueuetodisk/format/internal/Unsigned32WriteHexPinLaw", "at", "([CIIJ)Z"⟩ : MethodName)) hown (mvT hZ (hw _ (List.mem_of_getElem? (i := 9) rfl))) (mvT hZ (hw _ (List.mem_of_getElem? (i := 10) rfl))) (mvT hZ (hw _ (List.mem_of_getElem? (i := 11) rfl))) (mvT hZ (hw _ (List.mem_of_getElem? (i := 12) rfl))) (by decide) (backOf (W := 0) (rm2 l Z a0 hw [] b128 (1 : Int32) (1 : Int32) z22 ct T195.heap n0 Z196 Tt ⟨by decide, by decide⟩) hZ (hw _ (List.mem_of_getElem? (i := 12) rfl)) (hw _ (List.mem_of_getElem? (i := 11) rfl)) (by decide) (by decide)) (g := (mkF m 110 #[.val (.long p1), .second, .val (.int p2), .val (.long z22), .second, .val (.int (1 : Int32)), .val (.ref b128)] [(.long z22), (.int (1 : Int32)), (.int (1 : Int32)), (.ref b128)])) rfl (by rw [hml]; rfl) (argsL := [(.ref b128), (.int (1 : Int32)), (.int (1 : Int32)), (.long z22)]) (rest := []) (lenOf pd_1 rfl) rfl (by show 2 * 0 + _ ≤ _; exact Nat.le_of_eq rfl) (hb hby at_110) (fun _ _ => ⟨rfl, eq199, (by decide : 1 + 0 ≤ _), (by decide : 10 + 0 ≤ _)⟩)
    dsimp only [Pt.U, Pt.locs, Pt.cells, Pt.slots] at X202 l202 y202 z202 st202 hQ202
    rw [l202, y202, z202] at X202
    have X202 := X202.mono (cells' := 1) (slots' := 10) (by decide) (by decide)
    obtain ⟨z202v, rfl, hz202v, Nq202, eq202⟩ := hQ202
    have N202n := Fr.app N199n Nq202
    have P203 : own_Pr p.tables e below S0 T202 (mkF m 113 #[.val (.long p1), .second, .val (.int p2), .val (.long z22), .second, .val (.int (1 : Int32)), .val (.ref b128)] [(.int z202v)]) := fun t k => P201 t (st202 _ k)
    have P204 : own_Pr p.tables e below S0 T202 (mkF m 122 #[.val (.long p1), .second, .val (.int p2), .val (.long z22), .second, .val (.int (1 : Int32)), .val (.ref b128)] [(.long z22), (.int (1 : Int32)), (.int (2 : Int32)), (.ref b128)]) := fun t k => P203 t (by
      refine XS.ifNo X202.here hx rfl (hb hby at_113) rfl (XT.i0_eq_f (own_ok_1_1 HD (own_val hz22) At_1 hz202v)) ?_
      refine XS.aload X202.here hx rfl (hb hby at_116) rfl rfl ?_
      refine XS.iconst X202.here hx rfl (hb hby at_118) ?_
      refine XS.iload X202.here hx rfl (hb hby at_119) rfl ?_
      refine XS.lloadN X202.here hx rfl (hb hby at_121) rfl ?_
      exact k)
    obtain ⟨_, _, ⟨T205, L205, k205, n205⟩, -, X205, ⟨Lc205, hQ205, l205, y205, z205⟩, st205⟩ := Jvm.LawKit.callS X202 hx (y := (⟨"com/example/enqueue_to_disk/enqueuetodisk/format/internal/Unsigned32WriteHexPinLaw", "at", "([CIIJ)Z"⟩ : MethodName)) hown (mvT hZ (hw _ (List.mem_of_getElem? (i := 9) rfl))) (mvT hZ (hw _ (List.mem_of_getElem? (i := 10) rfl))) (mvT hZ (hw _ (List.mem_of_getElem? (i := 11) rfl))) (mvT hZ (hw _ (List.mem_of_getElem? (i := 12) rfl))) (by decide) (backOf (W := 0) (rm2 l Z a0 hw [] b128 (2 : Int32) (1 : Int32) z22 ct T195.heap n0 Z196 Tt ⟨by decide, by decide⟩) hZ (hw _ (List.mem_of_getElem? (i := 12) rfl)) (hw _ (List.mem_of_getElem? (i := 11) rfl)) (by decide) (by decide)) (g := (mkF m 122 #[.val (.long p1), .second, .val (.int p2), .val (.long z22), .second, .val (.int (1 : Int32)), .val (.ref b128)] [(.long z22), (.int (1 : Int32)), (.int (2 : Int32)), (.ref b128)])) rfl (by rw [hml]; rfl) (argsL := [(.ref b128), (.int (2 : Int32)), (.int (1 : Int32)), (.long z22)]) (rest := []) (lenOf pd_1 rfl) rfl (by show 2 * 0 + _ ≤ _; exact Nat.le_of_eq rfl) (hb hby at_122) (fun _ _ => ⟨rfl, eq202, (by decide : 1 + 0 ≤ _), (by decide : 10 + 0 ≤ _)⟩)
    dsimp only [Pt.U, Pt.locs, Pt.cells, Pt.slots] at X205 l205 y205 z205 st205 hQ205
    rw [l205, y205, z205] at X205
    have X205 := X205.mono (cells' := 1) (slots' := 10) (by decide) (by decide)
    obtain ⟨z205v, rfl, hz205v, Nq205, eq205⟩ := hQ205
    have N205n := Fr.app N202n Nq205
    have P206 : own_Pr p.tables e below S0 T205 (mkF m 125 #[.val (.long p1), .second, .val (.int p2), .val (.long z22), .second, .val (.int (1 : Int32)), .val (.ref b128)] [(.int z205v)]) := fun t k => P204 t (st205 _ k)
    have P207 : own_Pr p.tables e below S0 T205 (mkF m 134 #[.val (.long p1), .second, .val (.int p2), .val (.long z22), .second, .val (.int (1 : Int32)), .val (.ref b128)] [(.long z22), (.int (1 : Int32)), (.int (3 : Int32)), (.ref b128)]) := fun t k => P206 t (by
      refine XS.ifNo X205.here hx rfl (hb hby at_125) rfl (XT.i0_eq_f (own_ok_1_2 HD (own_val hz22) At_2 hz205v)) ?_
      refine XS.aload X205.here hx rfl (hb hby at_128) rfl rfl ?_
      refine XS.iconst X205.here hx rfl (hb hby at_130) ?_
      refine XS.iload X205.here hx rfl (hb hby at_131) rfl ?_
      refine XS.lloadN X205.here hx rfl (hb hby at_133) rfl ?_
      exact k)
    obtain ⟨_, _, ⟨T208, L208, k208, n208⟩, -, X208, ⟨Lc208, hQ208, l208, y208, z208⟩, st208⟩ := Jvm.LawKit.callS X205 hx (y := (⟨"com/example/enqueue_to_disk/enqueuetodisk/format/internal/Unsigned32WriteHexPinLaw", "at", "([CIIJ)Z"⟩ : MethodName)) hown (mvT hZ (hw _ (List.mem_of_getElem? (i := 9) rfl))) (mvT hZ (hw _ (List.mem_of_getElem? (i := 10) rfl))) (mvT hZ (hw _ (List.mem_of_getElem? (i := 11) rfl))) (mvT hZ (hw _ (List.mem_of_getElem? (i := 12) rfl))) (by decide) (backOf (W := 0) (rm2 l Z a0 hw [] b128 (3 : Int32) (1 : Int32) z22 ct T195.heap n0 Z196 Tt ⟨by decide, by decide⟩) hZ (hw _ (List.mem_of_getElem? (i := 12) rfl)) (hw _ (List.mem_of_getElem? (i := 11) rfl)) (by decide) (by decide)) (g := (mkF m 134 #[.val (.long p1), .second, .val (.int p2), .val (.long z22), .second, .val (.int (1 : Int32)), .val (.ref b128)] [(.long z22), (.int (1 : Int32)), (.int (3 : Int32)), (.ref b128)])) rfl (by rw [hml]; rfl) (argsL := [(.ref b128), (.int (3 : Int32)), (.int (1 : Int32)), (.long z22)]) (rest := []) (lenOf pd_1 rfl) rfl (by show 2 * 0 + _ ≤ _; exact Nat.le_of_eq rfl) (hb hby at_134) (fun _ _ => ⟨rfl, eq205, (by decide : 1 + 0 ≤ _), (by decide : 10 + 0 ≤ _)⟩)
    dsimp only [Pt.U, Pt.locs, Pt.cells, Pt.slots] at X208 l208 y208 z208 st208 hQ208
    rw [l208, y208, z208] at X208
    have X208 := X208.mono (cells' := 1) (slots' := 10) (by decide) (by decide)
    obtain ⟨z208v, rfl, hz208v, Nq208, eq208⟩ := hQ208
    have N208n := Fr.app N205n Nq208
    have P209 : own_Pr p.tables e below S0 T208 (mkF m 137 #[.val (.long p1), .second, .val (.int p2), .val (.long z22), .second, .val (.int (1 : Int32)), .val (.ref b128)] [(.int z208v)]) := fun t k => P207 t (st208 _ k)
    have P210 : own_Pr p.tables e below S0 T208 (mkF m 146 #[.val (.long p1), .second, .val (.int p2), .val (.long z22), .second, .val (.int (1 : Int32)), .val (.ref b128)] [(.long z22), (.int (1 : Int32)), (.int (4 : Int32)), (.ref b128)]) := fun t k => P209 t (by
      refine XS.ifNo X208.here hx rfl (hb hby at_137) rfl (XT.i0_eq_f (own_ok_1_3 HD (own_val hz22) At_3 hz208v)) ?_
      refine XS.aload X208.here hx rfl (hb hby at_140) rfl rfl ?_
      refine XS.iconst X208.here hx rfl (hb hby at_142) ?_
      refine XS.iload X208.here hx rfl (hb hby at_143) rfl ?_
      refine XS.lloadN X208.here hx rfl (hb hby at_145) rfl ?_
      exact k)
    obtain ⟨_, _, ⟨T211, L211, k211, n211⟩, -, X211, ⟨Lc211, hQ211, l211, y211, z211⟩, st211⟩ := Jvm.LawKit.callS X208 hx (y := (⟨"com/example/enqueue_to_disk/enqueuetodisk/format/internal/Unsigned32WriteHexPinLaw", "at", "([CIIJ)Z"⟩ : MethodName)) hown (mvT hZ (hw _ (List.mem_of_getElem? (i := 9) rfl))) (mvT hZ (hw _ (List.mem_of_getElem? (i := 10) rfl))) (mvT hZ (hw _ (List.mem_of_getElem? (i := 11) rfl))) (mvT hZ (hw _ (List.mem_of_getElem? (i := 12) rfl))) (by decide) (backOf (W := 0) (rm2 l Z a0 hw [] b128 (4 : Int32) (1 : Int32) z22 ct T195.heap n0 Z196 Tt ⟨by decide, by decide⟩) hZ (hw _ (List.mem_of_getElem? (i := 12) rfl)) (hw _ (List.mem_of_getElem? (i := 11) rfl)) (by decide) (by decide)) (g := (mkF m 146 #[.val (.long p1), .second, .val (.int p2), .val (.long z22), .second, .val (.int (1 : Int32)), .val (.ref b128)] [(.long z22), (.int (1 : Int32)), (.int (4 : Int32)), (.ref b128)])) rfl (by rw [hml]; rfl) (argsL := [(.ref b128), (.int (4 : Int32)), (.int (1 : Int32)), (.long z22)]) (rest := []) (lenOf pd_1 rfl) rfl (by show 2 * 0 + _ ≤ _; exact Nat.le_of_eq rfl) (hb hby at_146) (fun _ _ => ⟨rfl, eq208, (by decide : 1 + 0 ≤ _), (by decide : 10 + 0 ≤ _)⟩)
    dsimp only [Pt.U, Pt.locs, Pt.cells, Pt.slots] at X211 l211 y211 z211 st211 hQ211
    rw [l211, y211, z211] at X211
    have X211 := X211.mono (cells' := 1) (slots' := 10) (by decide) (by decide)
    obtain ⟨z211v, rfl, hz211v, Nq211, eq211⟩ := hQ211
    have N211n := Fr.app N208n Nq211
    have P212 : own_Pr p.tables e below S0 T211 (mkF m 149 #[.val (.long p1), .second, .val (.int p2), .val (.long z22), .second, .val (.int (1 : Int32)), .val (.ref b128)] [(.int z211v)]) := fun t k => P210 t (st211 _ k)
    have P213 : own_Pr p.tables e below S0 T211 (mkF m 158 #[.val (.long p1), .second, .val (.int p2), .val (.long z22), .second, .val (.int (1 : Int32)), .val (.ref b128)] [(.long z22), (.int (1 : Int32)), (.int (5 : Int32)), (.ref b128)]) := fun t k => P212 t (by
      refine XS.ifNo X211.here hx rfl (hb hby at_149) rfl (XT.i0_eq_f (own_ok_1_4 HD (own_val hz22) At_4 hz211v)) ?_
      refine XS.aload X211.here hx rfl (hb hby at_152) rfl rfl ?_
      refine XS.iconst X211.here hx rfl (hb hby at_154) ?_
      refine XS.iload X211.here hx rfl (hb hby at_155) rfl ?_
      refine XS.lloadN X211.here hx rfl (hb hby at_157) rfl ?_
      exact k)
    obtain ⟨_, _, ⟨T214, L214, k214, n214⟩, -, X214, ⟨Lc214, hQ214, l214, y214, z214⟩, st214⟩ := Jvm.LawKit.callS X211 hx (y := (⟨"com/example/enqueue_to_disk/enqueuetodisk/format/internal/Unsigned32WriteHexPinLaw", "at", "([CIIJ)Z"⟩ : MethodName)) hown (mvT hZ (hw _ (List.mem_of_getElem? (i := 9) rfl))) (mvT hZ (hw _ (List.mem_of_getElem? (i := 10) rfl))) (mvT hZ (hw _ (List.mem_of_getElem? (i := 11) rfl))) (mvT hZ (hw _ (List.mem_of_getElem? (i := 12) rfl))) (by decide) (backOf (W := 0) (rm2 l Z a0 hw [] b128 (5 : Int32) (1 : Int32) z22 ct T195.heap n0 Z196 Tt ⟨by decide, by decide⟩) hZ (hw _ (List.mem_of_getElem? (i := 12) rfl)) (hw _ (List.mem_of_getElem? (i := 11) rfl)) (by decide) (by decide)) (g := (mkF m 158 #[.val (.long p1), .second, .val (.int p2), .val (.long z22), .second, .val (.int (1 : Int32)), .val (.ref b128)] [(.long z22), (.int (1 : Int32)), (.int (5 : Int32)), (.ref b128)])) rfl (by rw [hml]; rfl) (argsL := [(.ref b128), (.int (5 : Int32)), (.int (1 : Int32)), (.long z22)]) (rest := []) (lenOf pd_1 rfl) rfl (by show 2 * 0 + _ ≤ _; exact Nat.le_of_eq rfl) (hb hby at_158) (fun _ _ => ⟨rfl, eq211, (by decide : 1 + 0 ≤ _), (by decide : 10 + 0 ≤ _)⟩)
    dsimp only [Pt.U, Pt.locs, Pt.cells, Pt.slots] at X214 l214 y214 z214 st214 hQ214
    rw [l214, y214, z214] at X214
    have X214 := X214.mono (cells' := 1) (slots' := 10) (by decide) (by decide)
    obtain ⟨z214v, rfl, hz214v, Nq214, eq214⟩ := hQ214
    have N214n := Fr.app N211n Nq214
    have P215 : own_Pr p.tables e below S0 T214 (mkF m 161 #[.val (.long p1), .second, .val (.int p2), .val (.long z22), .second, .val (.int (1 : Int32)), .val (.ref b128)] [(.int z214v)]) := fun t k => P213 t (st214 _ k)
    have P216 : own_Pr p.tables e below S0 T214 (mkF m 171 #[.val (.long p1), .second, .val (.int p2), .val (.long z22), .second, .val (.int (1 : Int32)), .val (.ref b128)] [(.long z22), (.int (1 : Int32)), (.int (6 : Int32)), (.ref b128)]) := fun t k => P215 t (by
      refine XS.ifNo X214.here hx rfl (hb hby at_161) rfl (XT.i0_eq_f (own_ok_1_5 HD (own_val hz22) At_5 hz214v)) ?_
      refine XS.aload X214.here hx rfl (hb hby at_164) rfl rfl ?_
      refine XS.bipush X214.here hx rfl (hb hby at_166) ?_
      refine XS.iload X214.here hx rfl (hb hby at_168) rfl ?_
      refine XS.lloadN X214.here hx rfl (hb hby at_170) rfl ?_
      exact k)
    obtain ⟨_, _, ⟨T217, L217, k217, n217⟩, -, X217, ⟨Lc217, hQ217, l217, y217, z217⟩, st217⟩ := Jvm.LawKit.callS X214 hx (y := (⟨"com/example/enqueue_to_disk/enqueuetodisk/format/internal/Unsigned32WriteHexPinLaw", "at", "([CIIJ)Z"⟩ : MethodName)) hown (mvT hZ (hw _ (List.mem_of_getElem? (i := 9) rfl))) (mvT hZ (hw _ (List.mem_of_getElem? (i := 10) rfl))) (mvT hZ (hw _ (List.mem_of_getElem? (i := 11) rfl))) (mvT hZ (hw _ (List.mem_of_getElem? (i := 12) rfl))) (by decide) (backOf (W := 0) (rm2 l Z a0 hw [] b128 (6 : Int32) (1 : Int32) z22 ct T195.heap n0 Z196 Tt ⟨by decide, by decide⟩) hZ (hw _ (List.mem_of_getElem? (i := 12) rfl)) (hw _ (List.mem_of_getElem? (i := 11) rfl)) (by decide) (by decide)) (g := (mkF m 171 #[.val (.long p1), .second, .val (.int p2), .val (.long z22), .second, .val (.int (1 : Int32)), .val (.ref b128)] [(.long z22), (.int (1 : Int32)), (.int (6 : Int32)), (.ref b128)])) rfl (by rw [hml]; rfl) (argsL := [(.ref b128), (.int (6 : Int32)), (.int (1 : Int32)), (.long z22)]) (rest := []) (lenOf pd_1 rfl) rfl (by show 2 * 0 + _ ≤ _; exact Nat.le_of_eq rfl) (hb hby at_171) (fun _ _ => ⟨rfl, eq214, (by decide : 1 + 0 ≤ _), (by decide : 10 + 0 ≤ _)⟩)
    dsimp only [Pt.U, Pt.locs, Pt.cells, Pt.slots] at X217 l217 y217 z217 st217 hQ217
    rw [l217, y217, z217] at X217
    have X217 := X217.mono (cells' := 1) (slots' := 10) (by decide) (by decide)
    obtain ⟨z217v, rfl, hz217v, Nq217, eq217⟩ := hQ217
    have N217n := Fr.app N214n Nq217
    have P218 : own_Pr p.tables e below S0 T217 (mkF m 174 #[.val (.long p1), .second, .val (.int p2), .val (.long z22), .second, .val (.int (1 : Int32)), .val (.ref b128)] [(.int z217v)]) := fun t k => P216 t (st217 _ k)
    have P219 : own_Pr p.tables e below S0 T217 (mkF m 184 #[.val (.long p1), .second, .val (.int p2), .val (.long z22), .second, .val (.int (1 : Int32)), .val (.ref b128)] [(.long z22), (.int (1 : Int32)), (.int (7 : Int32)), (.ref b128)]) := fun t k => P218 t (by
      refine XS.ifNo X217.here hx rfl (hb hby at_174) rfl (XT.i0_eq_f (own_ok_1_6 HD (own_val hz22) At_6 hz217v)) ?_
      refine XS.aload X217.here hx rfl (hb hby at_177) rfl rfl ?_
      refine XS.bipush X217.here hx rfl (hb hby at_179) ?_
      refine XS.iload X217.here hx rfl (hb hby at_181) rfl ?_
      refine XS.lloadN X217.here hx rfl (hb hby at_183) rfl ?_
      exact k)
    obtain ⟨_, _, ⟨T220, L220, k220, n220⟩, -, X220, ⟨Lc220, hQ220, l220, y220, z220⟩, st220⟩ := Jvm.LawKit.callS X217 hx (y := (⟨"com/example/enqueue_to_disk/enqueuetodisk/format/internal/Unsigned32WriteHexPinLaw", "at", "([CIIJ)Z"⟩ : MethodName)) hown (mvT hZ (hw _ (List.mem_of_getElem? (i := 9) rfl))) (mvT hZ (hw _ (List.mem_of_getElem? (i := 10) rfl))) (mvT hZ (hw _ (List.mem_of_getElem? (i := 11) rfl))) (mvT hZ (hw _ (List.mem_of_getElem? (i := 12) rfl))) (by decide) (backOf (W := 0) (rm2 l Z a0 hw [] b128 (7 : Int32) (1 : Int32) z22 ct T195.heap n0 Z196 Tt ⟨by decide, by decide⟩) hZ (hw _ (List.mem_of_getElem? (i := 12) rfl)) (hw _ (List.mem_of_getElem? (i := 11) rfl)) (by decide) (by decide)) (g := (mkF m 184 #[.val (.long p1), .second, .val (.int p2), .val (.long z22), .second, .val (.int (1 : Int32)), .val (.ref b128)] [(.long z22), (.int (1 : Int32)), (.int (7 : Int32)), (.ref b128)])) rfl (by rw [hml]; rfl) (argsL := [(.ref b128), (.int (7 : Int32)), (.int (1 : Int32)), (.long z22)]) (rest := []) (lenOf pd_1 rfl) rfl (by show 2 * 0 + _ ≤ _; exact Nat.le_of_eq rfl) (hb hby at_184) (fun _ _ => ⟨rfl, eq217, (by decide : 1 + 0 ≤ _), (by decide : 10 + 0 ≤ _)⟩)
    dsimp only [Pt.U, Pt.locs, Pt.cells, Pt.slots] at X220 l220 y220 z220 st220 hQ220
    rw [l220, y220, z220] at X220
    have X220 := X220.mono (cells' := 1) (slots' := 10) (by decide) (by decide)
    obtain ⟨z220v, rfl, hz220v, Nq220, eq220⟩ := hQ220
    have N220n := Fr.app N217n Nq220
    have P221 : own_Pr p.tables e below S0 T220 (mkF m 187 #[.val (.long p1), .second, .val (.int p2), .val (.long z22), .second, .val (.int (1 : Int32)), .val (.ref b128)] [(.int z220v)]) := fun t k => P219 t (st220 _ k)
    have P222 : own_Pr p.tables e below S0 T220 (mkF m 197 #[.val (.long p1), .second, .val (.int p2), .val (.long z22), .second, .val (.int (1 : Int32)), .val (.ref b128)] [(.long z22), (.int (1 : Int32)), (.int (8 : Int32)), (.ref b128)]) := fun t k => P221 t (by
      refine XS.ifNo X220.here hx rfl (hb hby at_187) rfl (XT.i0_eq_f (own_ok_1_7 HD (own_val hz22) At_7 hz220v)) ?_
      refine XS.aload X220.here hx rfl (hb hby at_190) rfl rfl ?_
      refine XS.bipush X220.here hx rfl (hb hby at_192) ?_
      refine XS.iload X220.here hx rfl (hb hby at_194) rfl ?_
      refine XS.lloadN X220.here hx rfl (hb hby at_196) rfl ?_
      exact k)
    obtain ⟨_, _, ⟨T223, L223, k223, n223⟩, -, X223, ⟨Lc223, hQ223, l223, y223, z223⟩, st223⟩ := Jvm.LawKit.callS X220 hx (y := (⟨"com/example/enqueue_to_disk/enqueuetodisk/format/internal/Unsigned32WriteHexPinLaw", "at", "([CIIJ)Z"⟩ : MethodName)) hown (mvT hZ (hw _ (List.mem_of_getElem? (i := 9) rfl))) (mvT hZ (hw _ (List.mem_of_getElem? (i := 10) rfl))) (mvT hZ (hw _ (List.mem_of_getElem? (i := 11) rfl))) (mvT hZ (hw _ (List.mem_of_getElem? (i := 12) rfl))) (by decide) (backOf (W := 0) (rm2 l Z a0 hw [] b128 (8 : Int32) (1 : Int32) z22 ct T195.heap n0 Z196 Tt ⟨by decide, by decide⟩) hZ (hw _ (List.mem_of_getElem? (i := 12) rfl)) (hw _ (List.mem_of_getElem? (i := 11) rfl)) (by decide) (by decide)) (g := (mkF m 197 #[.val (.long p1), .second, .val (.int p2), .val (.long z22), .second, .val (.int (1 : Int32)), .val (.ref b128)] [(.long z22), (.int (1 : Int32)), (.int (8 : Int32)), (.ref b128)])) rfl (by rw [hml]; rfl) (argsL := [(.ref b128), (.int (8 : Int32)), (.int (1 : Int32)), (.long z22)]) (rest := []) (lenOf pd_1 rfl) rfl (by show 2 * 0 + _ ≤ _; exact Nat.le_of_eq rfl) (hb hby at_197) (fun _ _ => ⟨rfl, eq220, (by decide : 1 + 0 ≤ _), (by decide : 10 + 0 ≤ _)⟩)
    dsimp only [Pt.U, Pt.locs, Pt.cells, Pt.slots] at X223 l223 y223 z223 st223 hQ223
    rw [l223, y223, z223] at X223
    have X223 := X223.mono (cells' := 1) (slots' := 10) (by decide) (by decide)
    obtain ⟨z223v, rfl, hz223v, Nq223, eq223⟩ := hQ223
    have N223n := Fr.app N220n Nq223
    have P224 : own_Pr p.tables e below S0 T223 (mkF m 200 #[.val (.long p1), .second, .val (.int p2), .val (.long z22), .second, .val (.int (1 : Int32)), .val (.ref b128)] [(.int z223v)]) := fun t k => P222 t (st223 _ k)
    have P225 : own_Pr p.tables e below S0 T223 (mkF m 210 #[.val (.long p1), .second, .val (.int p2), .val (.long z22), .second, .val (.int (1 : Int32)), .val (.ref b128)] [(.long z22), (.int (1 : Int32)), (.int (9 : Int32)), (.ref b128)]) := fun t k => P224 t (by
      refine XS.ifNo X223.here hx rfl (hb hby at_200) rfl (XT.i0_eq_f (own_ok_1_8 HD (own_val hz22) At_8 hz223v)) ?_
      refine XS.aload X223.here hx rfl (hb hby at_203) rfl rfl ?_
      refine XS.bipush X223.here hx rfl (hb hby at_205) ?_
      refine XS.iload X223.here hx rfl (hb hby at_207) rfl ?_
      refine XS.lloadN X223.here hx rfl (hb hby at_209) rfl ?_
      exact k)
    obtain ⟨_, _, ⟨T226, L226, k226, n226⟩, -, X226, ⟨Lc226, hQ226, l226, y226, z226⟩, st226⟩ := Jvm.LawKit.callS X223 hx (y := (⟨"com/example/enqueue_to_disk/enqueuetodisk/format/internal/Unsigned32WriteHexPinLaw", "at", "([CIIJ)Z"⟩ : MethodName)) hown (mvT hZ (hw _ (List.mem_of_getElem? (i := 9) rfl))) (mvT hZ (hw _ (List.mem_of_getElem? (i := 10) rfl))) (mvT hZ (hw _ (List.mem_of_getElem? (i := 11) rfl))) (mvT hZ (hw _ (List.mem_of_getElem? (i := 12) rfl))) (by decide) (backOf (W := 0) (rm2 l Z a0 hw [] b128 (9 : Int32) (1 : Int32) z22 ct T195.heap n0 Z196 Tt ⟨by decide, by decide⟩) hZ (hw _ (List.mem_of_getElem? (i := 12) rfl)) (hw _ (List.mem_of_getElem? (i := 11) rfl)) (by decide) (by decide)) (g := (mkF m 210 #[.val (.long p1), .second, .val (.int p2), .val (.long z22), .second, .val (.int (1 : Int32)), .val (.ref b128)] [(.long z22), (.int (1 : Int32)), (.int (9 : Int32)), (.ref b128)])) rfl (by rw [hml]; rfl) (argsL := [(.ref b128), (.int (9 : Int32)), (.int (1 : Int32)), (.long z22)]) (rest := []) (lenOf pd_1 rfl) rfl (by show 2 * 0 + _ ≤ _; exact Nat.le_of_eq rfl) (hb hby at_210) (fun _ _ => ⟨rfl, eq223, (by decide : 1 + 0 ≤ _), (by decide : 10 + 0 ≤ _)⟩)
    dsimp only [Pt.U, Pt.locs, Pt.cells, Pt.slots] at X226 l226 y226 z226 st226 hQ226
    rw [l226, y226, z226] at X226
    have X226 := X226.mono (cells' := 1) (slots' := 10) (by decide) (by decide)
    obtain ⟨z226v, rfl, hz226v, Nq226, eq226⟩ := hQ226
    have N226n := Fr.app N223n Nq226
    have P227 : own_Pr p.tables e below S0 T226 (mkF m 213 #[.val (.long p1), .second, .val (.int p2), .val (.long z22), .second, .val (.int (1 : Int32)), .val (.ref b128)] [(.int z226v)]) := fun t k => P225 t (st226 _ k)
    have P228 : own_Pr p.tables e below S0 T226 (mkF m 221 #[.val (.long p1), .second, .val (.int p2), .val (.long z22), .second, .val (.int (1 : Int32)), .val (.ref b128)] [(.int (1 : Int32))]) := fun t k => P227 t (by
      refine XS.ifNo X226.here hx rfl (hb hby at_213) rfl (XT.i0_eq_f (own_ok_1_9 HD (own_val hz22) At_9 hz226v)) ?_
      refine XS.iconst X226.here hx rfl (hb hby at_216) ?_
      refine XS.goto X226.here hx rfl (pc0 := 217) (pc' := 221) rfl (hb hby at_217) (by decide) (by decide) ?_
      exact k)
    obtain ⟨fs, hr, hrun, hended, hW, hsame⟩ := X226.leave (v := some (.int (1 : Int32))) (fun h => by rw [Bd.returns] at h; cases h)
    have fin : Steps p.tables e below S0 (T226.setFrames fs) := P228 _ (retN X226 hx (t := .boolean) Bd.returns (by simp) (hb hby at_221) hr)
    rw [hS0] at fin
    refine ⟨_, _, fin, hrun, hended, _, _, rfl, ?_, ⟨_, rfl⟩, hW, hsame.mono (by decide) (by decide)⟩
    show own_QL n0 _ _
    exact ⟨_, rfl, rfl, N226n⟩
  · rw [hk] at P23
    have P229 : own_Pr p.tables e below S0 s₁ (mkF m 16 #[.val (.long p1), .second, .val (.int p2), .val (.long z22), .second, .val (.int (2 : Int32)), .unset] [(.int (10 : Int32))]) := fun t k => P23 t (by
      refine XS.bipush X0.here hx rfl (hb hby at_14) ?_
      exact k)
    obtain ⟨T230, h230, k230, X230, e230, E230, A230, st230⟩ := newP X0 hx hZ (hw _ (List.mem_of_getElem? (i := 2) rfl)) e0 (g := (mkF m 16 #[.val (.long p1), .second, .val (.int p2), .val (.long z22), .second, .val (.int (2 : Int32)), .unset] [(.int (10 : Int32))])) rfl (hb hby at_16) rfl (by decide) (cap := 10) (by decide) (by decide) (by decide) (by decide)
    obtain ⟨b230, g230⟩ : ∃ z, z = h0.size := ⟨_, rfl⟩
    rw [← g230] at A230 st230
    have g_b230 : n0 ≤ b230 := Nat.le_trans Z0 (Nat.le_of_eq g230.symm)
    have ne_dg_b230 : dg ≠ b230 := Nat.ne_of_lt (Nat.lt_of_lt_of_le T_dg.lt (Nat.le_of_eq g230.symm))
    have F231 := S_dg.ext E230
    have F232 := T_dg.ext E230
    have Z233 : n0 ≤ h230.size := Nat.le_trans Z0 E230.1
    have F234 : Arv Z h230 b230 k230 .char (10 : Int32) [(.int (0 : Int32)), (.int (0 : Int32)), (.int (0 : Int32)), (.int (0 : Int32)), (.int (0 : Int32)), (.int (0 : Int32)), (.int (0 : Int32)), (.int (0 : Int32)), (.int (0 : Int32)), (.int (0 : Int32))] (.int (0 : Int32)) := (Arv.new A230 (by decide)).pad (pad_rep [] (.int (0 : Int32)) 10)
    have P235 : own_Pr p.tables e below S0 T230 (mkF m 18 #[.val (.long p1), .second, .val (.int p2), .val (.long z22), .second, .val (.int (2 : Int32)), .unset] [(.ref b230)]) := fun t k => P229 t (st230 _ k)
    have P236 : own_Pr p.tables e below S0 T230 (mkF m 25 #[.val (.long p1), .second, .val (.int p2), .val (.long z22), .second, .val (.int (2 : Int32)), .val (.ref b230)] [(.int (35 : Int32)), (.int (0 : Int32)), (.ref b230)]) := fun t k => P235 t (by
      refine XS.astore X230.here hx rfl (hb hby at_18) rfl rfl (l' := #[.val (.long p1), .second, .val (.int p2), .val (.long z22), .second, .val (.int (2 : Int32)), .val (.ref b230)]) rfl ?_
      refine XS.aload X230.here hx rfl (hb hby at_20) rfl rfl ?_
      refine XS.iconst X230.here hx rfl (hb hby at_22) ?_
      refine XS.bipush X230.here hx rfl (hb hby at_23) ?_
      exact k)
    obtain ⟨cl237, Ar237, q237, S237, N237, H237, G237⟩ := id F234
    have hin237 : ¬ ((0 : Int32) < 0 ∨ cl237.slots.size ≤ ((0 : Int32)).toNatClampNeg) := inb_of S237 ⟨by decide, by decide⟩
    obtain ⟨T237, h237, X237, e237, W237, st237⟩ := stC X230 hx hZ e230 Ar237 (j := (0 : Int32)) hin237 (g := (mkF m 25 #[.val (.long p1), .second, .val (.int p2), .val (.long z22), .second, .val (.int (2 : Int32)), .val (.ref b230)] [(.int (35 : Int32)), (.int (0 : Int32)), (.ref b230)])) rfl rfl (hb hby at_25)
    have V237 : Arv Z h237 b230 k230 .char (10 : Int32) [(.int (35 : Int32)), (.int (0 : Int32)), (.int (0 : Int32)), (.int (0 : Int32)), (.int (0 : Int32)), (.int (0 : Int32)), (.int (0 : Int32)), (.int (0 : Int32)), (.int (0 : Int32)), (.int (0 : Int32))] (.int (0 : Int32)) := Arv.set Ar237 q237 S237 N237 H237 G237 (fits_nar_char _) W237 0 rfl (Nat.le_of_ble_eq_true rfl)
    have F238 := F231.wr W237
    have F239 := own_tab_other F232 W237 ne_dg_b230
    have Z240 : n0 ≤ h237.size := by rw [W237.size]; exact Z233
    have NF237 := Fr.snoc X237 N0 g_b230
    have P241 : own_Pr p.tables e below S0 T237 (mkF m 26 #[.val (.long p1), .second, .val (.int p2), .val (.long z22), .second, .val (.int (2 : Int32)), .val (.ref b230)] []) := fun t k => P236 t (st237 _ k)
    have P242 : own_Pr p.tables e below S0 T237 (mkF m 31 #[.val (.long p1), .second, .val (.int p2), .val (.long z22), .second, .val (.int (2 : Int32)), .val (.ref b230)] [(.int (35 : Int32)), (.int (1 : Int32)), (.ref b230)]) := fun t k => P241 t (by
      refine XS.aload X237.here hx rfl (hb hby at_26) rfl rfl ?_
      refine XS.iconst X237.here hx rfl (hb hby at_28) ?_
      refine XS.bipush X237.here hx rfl (hb hby at_29) ?_
      exact k)
    obtain ⟨cl243, Ar243, q243, S243, N243, H243, G243⟩ := id V237
    have hin243 : ¬ ((1 : Int32) < 0 ∨ cl243.slots.size ≤ ((1 : Int32)).toNatClampNeg) := inb_of S243 ⟨by decide, by decide⟩
    obtain ⟨T243, h243, X243, e243, W243, st243⟩ := stC X237 hx hZ e237 Ar243 (j := (1 : Int32)) hin243 (g := (mkF m 31 #[.val (.long p1), .second, .val (.int p2), .val (.long z22), .second, .val (.int (2 : Int32)), .val (.ref b230)] [(.int (35 : Int32)), (.int (1 : Int32)), (.ref b230)])) rfl rfl (hb hby at_31)
    have V243 : Arv Z h243 b230 k230 .char (10 : Int32) [(.int (35 : Int32)), (.int (35 : Int32)), (.int (0 : Int32)), (.int (0 : Int32)), (.int (0 : Int32)), (.int (0 : Int32)), (.int (0 : Int32)), (.int (0 : Int32)), (.int (0 : Int32)), (.int (0 : Int32))] (.int (0 : Int32)) := Arv.set Ar243 q243 S243 N243 H243 G243 (fits_nar_char _) W243 1 rfl (Nat.le_of_ble_eq_true rfl)
    have F244 := F238.wr W243
    have F245 := own_tab_other F239 W243 ne_dg_b230
    have Z246 : n0 ≤ h243.size := by rw [W243.size]; exact Z240
    have NF243 := Fr.snoc X243 NF237 g_b230
    have P247 : own_Pr p.tables e below S0 T243 (mkF m 32 #[.val (.long p1), .second, .val (.int p2), .val (.long z22), .second, .val (.int (2 : Int32)), .val (.ref b230)] []) := fun t k => P242 t (st243 _ k)
    have P248 : own_Pr p.tables e below S0 T243 (mkF m 37 #[.val (.long p1), .second, .val (.int p2), .val (.long z22), .second, .val (.int (2 : Int32)), .val (.ref b230)] [(.int (35 : Int32)), (.int (2 : Int32)), (.ref b230)]) := fun t k => P247 t (by
      refine XS.aload X243.here hx rfl (hb hby at_32) rfl rfl ?_
      refine XS.iconst X243.here hx rfl (hb hby at_34) ?_
      refine XS.bipush X243.here hx rfl (hb hby at_35) ?_
      exact k)
    obtain ⟨cl249, Ar249, q249, S249, N249, H249, G249⟩ := id V243
    have hin249 : ¬ ((2 : Int32) < 0 ∨ cl249.slots.size ≤ ((2 : Int32)).toNatClampNeg) := inb_of S249 ⟨by decide, by decide⟩
    obtain ⟨T249, h249, X249, e249, W249, st249⟩ := stC X243 hx hZ e243 Ar249 (j := (2 : Int32)) hin249 (g := (mkF m 37 #[.val (.long p1), .second, .val (.int p2), .val (.long z22), .second, .val (.int (2 : Int32)), .val (.ref b230)] [(.int (35 : Int32)), (.int (2 : Int32)), (.ref b230)])) rfl rfl (hb hby at_37)
    have V249 : Arv Z h249 b230 k230 .char (10 : Int32) [(.int (35 : Int32)), (.int (35 : Int32)), (.int (35 : Int32)), (.int (0 : Int32)), (.int (0 : Int32)), (.int (0 : Int32)), (.int (0 : Int32)), (.int (0 : Int32)), (.int (0 : Int32)), (.int (0 : Int32))] (.int (0 : Int32)) := Arv.set Ar249 q249 S249 N249 H249 G249 (fits_nar_char _) W249 2 rfl (Nat.le_of_ble_eq_true rfl)
    have F250 := F244.wr W249
    have F251 := own_tab_other F245 W249 ne_dg_b230
    have Z252 : n0 ≤ h249.size := by rw [W249.size]; exact Z246
    have NF249 := Fr.snoc X249 NF243 g_b230
    have P253 : own_Pr p.tables e below S0 T249 (mkF m 38 #[.val (.long p1), .second, .val (.int p2), .val (.long z22), .second, .val (.int (2 : Int32)), .val (.ref b230)] []) := fun t k => P248 t (st249 _ k)
    have P254 : own_Pr p.tables e below S0 T249 (mkF m 43 #[.val (.long p1), .second, .val (.int p2), .val (.long z22), .second, .val (.int (2 : Int32)), .val (.ref b230)] [(.int (35 : Int32)), (.int (3 : Int32)), (.ref b230)]) := fun t k => P253 t (by
      refine XS.aload X249.here hx rfl (hb hby at_38) rfl rfl ?_
      refine XS.iconst X249.here hx rfl (hb hby at_40) ?_
      refine XS.bipush X249.here hx rfl (hb hby at_41) ?_
      exact k)
    obtain ⟨cl255, Ar255, q255, S255, N255, H255, G255⟩ := id V249
    have hin255 : ¬ ((3 : Int32) < 0 ∨ cl255.slots.size ≤ ((3 : Int32)).toNatClampNeg) := inb_of S255 ⟨by decide, by decide⟩
    obtain ⟨T255, h255, X255, e255, W255, st255⟩ := stC X249 hx hZ e249 Ar255 (j := (3 : Int32)) hin255 (g := (mkF m 43 #[.val (.long p1), .second, .val (.int p2), .val (.long z22), .second, .val (.int (2 : Int32)), .val (.ref b230)] [(.int (35 : Int32)), (.int (3 : Int32)), (.ref b230)])) rfl rfl (hb hby at_43)
    have V255 : Arv Z h255 b230 k230 .char (10 : Int32) [(.int (35 : Int32)), (.int (35 : Int32)), (.int (35 : Int32)), (.int (35 : Int32)), (.int (0 : Int32)), (.int (0 : Int32)), (.int (0 : Int32)), (.int (0 : Int32)), (.int (0 : Int32)), (.int (0 : Int32))] (.int (0 : Int32)) := Arv.set Ar255 q255 S255 N255 H255 G255 (fits_nar_char _) W255 3 rfl (Nat.le_of_ble_eq_true rfl)
    have F256 := F250.wr W255
    have F257 := own_tab_other F251 W255 ne_dg_b230
    have Z258 : n0 ≤ h255.size := by rw [W255.size]; exact Z252
    have NF255 := Fr.snoc X255 NF249 g_b230
    have P259 : own_Pr p.tables e below S0 T255 (mkF m 44 #[.val (.long p1), .second, .val (.int p2), .val (.long z22), .second, .val (.int (2 : Int32)), .val (.ref b230)] []) := fun t k => P254 t (st255 _ k)
    have P260 : own_Pr p.tables e below S0 T255 (mkF m 49 #[.val (.long p1), .second, .val (.int p2), .val (.long z22), .second, .val (.int (2 : Int32)), .val (.ref b230)] [(.int (35 : Int32)), (.int (4 : Int32)), (.ref b230)]) := fun t k => P259 t (by
      refine XS.aload X255.here hx rfl (hb hby at_44) rfl rfl ?_
      refine XS.iconst X255.here hx rfl (hb hby at_46) ?_
      refine XS.bipush X255.here hx rfl (hb hby at_47) ?_
      exact k)
    obtain ⟨cl261, Ar261, q261, S261, N261, H261, G261⟩ := id V255
    have hin261 : ¬ ((4 : Int32) < 0 ∨ cl261.slots.size ≤ ((4 : Int32)).toNatClampNeg) := inb_of S261 ⟨by decide, by decide⟩
    obtain ⟨T261, h261, X261, e261, W261, st261⟩ := stC X255 hx hZ e255 Ar261 (j := (4 : Int32)) hin261 (g := (mkF m 49 #[.val (.long p1), .second, .val (.int p2), .val (.long z22), .second, .val (.int (2 : Int32)), .val (.ref b230)] [(.int (35 : Int32)), (.int (4 : Int32)), (.ref b230)])) rfl rfl (hb hby at_49)
    have V261 : Arv Z h261 b230 k230 .char (10 : Int32) [(.int (35 : Int32)), (.int (35 : Int32)), (.int (35 : Int32)), (.int (35 : Int32)), (.int (35 : Int32)), (.int (0 : Int32)), (.int (0 : Int32)), (.int (0 : Int32)), (.int (0 : Int32)), (.int (0 : Int32))] (.int (0 : Int32)) := Arv.set Ar261 q261 S261 N261 H261 G261 (fits_nar_char _) W261 4 rfl (Nat.le_of_ble_eq_true rfl)
    have F262 := F256.wr W261
    have F263 := own_tab_other F257 W261 ne_dg_b230
    have Z264 : n0 ≤ h261.size := by rw [W261.size]; exact Z258
    have NF261 := Fr.snoc X261 NF255 g_b230
    have P265 : own_Pr p.tables e below S0 T261 (mkF m 50 #[.val (.long p1), .second, .val (.int p2), .val (.long z22), .second, .val (.int (2 : Int32)), .val (.ref b230)] []) := fun t k => P260 t (st261 _ k)
    have P266 : own_Pr p.tables e below S0 T261 (mkF m 55 #[.val (.long p1), .second, .val (.int p2), .val (.long z22), .second, .val (.int (2 : Int32)), .val (.ref b230)] [(.int (35 : Int32)), (.int (5 : Int32)), (.ref b230)]) := fun t k => P265 t (by
      refine XS.aload X261.here hx rfl (hb hby at_50) rfl rfl ?_
      refine XS.iconst X261.here hx rfl (hb hby at_52) ?_
      refine XS.bipush X261.here hx rfl (hb hby at_53) ?_
      exact k)
    obtain ⟨cl267, Ar267, q267, S267, N267, H267, G267⟩ := id V261
    have hin267 : ¬ ((5 : Int32) < 0 ∨ cl267.slots.size ≤ ((5 : Int32)).toNatClampNeg) := inb_of S267 ⟨by decide, by decide⟩
    obtain ⟨T267, h267, X267, e267, W267, st267⟩ := stC X261 hx hZ e261 Ar267 (j := (5 : Int32)) hin267 (g := (mkF m 55 #[.val (.long p1), .second, .val (.int p2), .val (.long z22), .second, .val (.int (2 : Int32)), .val (.ref b230)] [(.int (35 : Int32)), (.int (5 : Int32)), (.ref b230)])) rfl rfl (hb hby at_55)
    have V267 : Arv Z h267 b230 k230 .char (10 : Int32) [(.int (35 : Int32)), (.int (35 : Int32)), (.int (35 : Int32)), (.int (35 : Int32)), (.int (35 : Int32)), (.int (35 : Int32)), (.int (0 : Int32)), (.int (0 : Int32)), (.int (0 : Int32)), (.int (0 : Int32))] (.int (0 : Int32)) := Arv.set Ar267 q267 S267 N267 H267 G267 (fits_nar_char _) W267 5 rfl (Nat.le_of_ble_eq_true rfl)
    have F268 := F262.wr W267
    have F269 := own_tab_other F263 W267 ne_dg_b230
    have Z270 : n0 ≤ h267.size := by rw [W267.size]; exact Z264
    have NF267 := Fr.snoc X267 NF261 g_b230
    have P271 : own_Pr p.tables e below S0 T267 (mkF m 56 #[.val (.long p1), .second, .val (.int p2), .val (.long z22), .second, .val (.int (2 : Int32)), .val (.ref b230)] []) := fun t k => P266 t (st267 _ k)
    have P272 : own_Pr p.tables e below S0 T267 (mkF m 62 #[.val (.long p1), .second, .val (.int p2), .val (.long z22), .second, .val (.int (2 : Int32)), .val (.ref b230)] [(.int (35 : Int32)), (.int (6 : Int32)), (.ref b230)]) := fun t k => P271 t (by
      refine XS.aload X267.here hx rfl (hb hby at_56) rfl rfl ?_
      refine XS.bipush X267.here hx rfl (hb hby at_58) ?_
      refine XS.bipush X267.here hx rfl (hb hby at_60) ?_
      exact k)
    obtain ⟨cl273, Ar273, q273, S273, N273, H273, G273⟩ := id V267
    have hin273 : ¬ ((6 : Int32) < 0 ∨ cl273.slots.size ≤ ((6 : Int32)).toNatClampNeg) := inb_of S273 ⟨by decide, by decide⟩
    obtain ⟨T273, h273, X273, e273, W273, st273⟩ := stC X267 hx hZ e267 Ar273 (j := (6 : Int32)) hin273 (g := (mkF m 62 #[.val (.long p1), .second, .val (.int p2), .val (.long z22), .second, .val (.int (2 : Int32)), .val (.ref b230)] [(.int (35 : Int32)), (.int (6 : Int32)), (.ref b230)])) rfl rfl (hb hby at_62)
    have V273 : Arv Z h273 b230 k230 .char (10 : Int32) [(.int (35 : Int32)), (.int (35 : Int32)), (.int (35 : Int32)), (.int (35 : Int32)), (.int (35 : Int32)), (.int (35 : Int32)), (.int (35 : Int32)), (.int (0 : Int32)), (.int (0 : Int32)), (.int (0 : Int32))] (.int (0 : Int32)) := Arv.set Ar273 q273 S273 N273 H273 G273 (fits_nar_char _) W273 6 rfl (Nat.le_of_ble_eq_true rfl)
    have F274 := F268.wr W273
    have F275 := own_tab_other F269 W273 ne_dg_b230
    have Z276 : n0 ≤ h273.size := by rw [W273.size]; exact Z270
    have NF273 := Fr.snoc X273 NF267 g_b230
    have P277 : own_Pr p.tables e below S0 T273 (mkF m 63 #[.val (.long p1), .second, .val (.int p2), .val (.long z22), .second, .val (.int (2 : Int32)), .val (.ref b230)] []) := fun t k => P272 t (st273 _ k)
    have P278 : own_Pr p.tables e below S0 T273 (mkF m 69 #[.val (.long p1), .second, .val (.int p2), .val (.long z22), .second, .val (.int (2 : Int32)), .val (.ref b230)] [(.int (35 : Int32)), (.int (7 : Int32)), (.ref b230)]) := fun t k => P277 t (by
      refine XS.aload X273.here hx rfl (hb hby at_63) rfl rfl ?_
      refine XS.bipush X273.here hx rfl (hb hby at_65) ?_
      refine XS.bipush X273.here hx rfl (hb hby at_67) ?_
      exact k)
    obtain ⟨cl279, Ar279, q279, S279, N279, H279, G279⟩ := id V273
    have hin279 : ¬ ((7 : Int32) < 0 ∨ cl279.slots.size ≤ ((7 : Int32)).toNatClampNeg) := inb_of S279 ⟨by decide, by decide⟩
    obtain ⟨T279, h279, X279, e279, W279, st279⟩ := stC X273 hx hZ e273 Ar279 (j := (7 : Int32)) hin279 (g := (mkF m 69 #[.val (.long p1), .second, .val (.int p2), .val (.long z22), .second, .val (.int (2 : Int32)), .val (.ref b230)] [(.int (35 : Int32)), (.int (7 : Int32)), (.ref b230)])) rfl rfl (hb hby at_69)
    have V279 : Arv Z h279 b230 k230 .char (10 : Int32) [(.int (35 : Int32)), (.int (35 : Int32)), (.int (35 : Int32)), (.int (35 : Int32)), (.int (35 : Int32)), (.int (35 : Int32)), (.int (35 : Int32)), (.int (35 : Int32)), (.int (0 : Int32)), (.int (0 : Int32))] (.int (0 : Int32)) := Arv.set Ar279 q279 S279 N279 H279 G279 (fits_nar_char _) W279 7 rfl (Nat.le_of_ble_eq_true rfl)
    have F280 := F274.wr W279
    have F281 := own_tab_other F275 W279 ne_dg_b230
    have Z282 : n0 ≤ h279.size := by rw [W279.size]; exact Z276
    have NF279 := Fr.snoc X279 NF273 g_b230
    have P283 : own_Pr p.tables e below S0 T279 (mkF m 70 #[.val (.long p1), .second, .val (.int p2), .val (.long z22), .second, .val (.int (2 : Int32)), .val (.ref b230)] []) := fun t k => P278 t (st279 _ k)
    have P284 : own_Pr p.tables e below S0 T279 (mkF m 76 #[.val (.long p1), .second, .val (.int p2), .val (.long z22), .second, .val (.int (2 : Int32)), .val (.ref b230)] [(.int (35 : Int32)), (.int (8 : Int32)), (.ref b230)]) := fun t k => P283 t (by
      refine XS.aload X279.here hx rfl (hb hby at_70) rfl rfl ?_
      refine XS.bipush X279.here hx rfl (hb hby at_72) ?_
      refine XS.bipush X279.here hx rfl (hb hby at_74) ?_
      exact k)
    obtain ⟨cl285, Ar285, q285, S285, N285, H285, G285⟩ := id V279
    have hin285 : ¬ ((8 : Int32) < 0 ∨ cl285.slots.size ≤ ((8 : Int32)).toNatClampNeg) := inb_of S285 ⟨by decide, by decide⟩
    obtain ⟨T285, h285, X285, e285, W285, st285⟩ := stC X279 hx hZ e279 Ar285 (j := (8 : Int32)) hin285 (g := (mkF m 76 #[.val (.long p1), .second, .val (.int p2), .val (.long z22), .second, .val (.int (2 : Int32)), .val (.ref b230)] [(.int (35 : Int32)), (.int (8 : Int32)), (.ref b230)])) rfl rfl (hb hby at_76)
    have V285 : Arv Z h285 b230 k230 .char (10 : Int32) [(.int (35 : Int32)), (.int (35 : Int32)), (.int (35 : Int32)), (.int (35 : Int32)), (.int (35 : Int32)), (.int (35 : Int32)), (.int (35 : Int32)), (.int (35 : Int32)), (.int (35 : Int32)), (.int (0 : Int32))] (.int (0 : Int32)) := Arv.set Ar285 q285 S285 N285 H285 G285 (fits_nar_char _) W285 8 rfl (Nat.le_of_ble_eq_true rfl)
    have F286 := F280.wr W285
    have F287 := own_tab_other F281 W285 ne_dg_b230
    have Z288 : n0 ≤ h285.size := by rw [W285.size]; exact Z282
    have NF285 := Fr.snoc X285 NF279 g_b230
    have P289 : own_Pr p.tables e below S0 T285 (mkF m 77 #[.val (.long p1), .second, .val (.int p2), .val (.long z22), .second, .val (.int (2 : Int32)), .val (.ref b230)] []) := fun t k => P284 t (st285 _ k)
    have P290 : own_Pr p.tables e below S0 T285 (mkF m 83 #[.val (.long p1), .second, .val (.int p2), .val (.long z22), .second, .val (.int (2 : Int32)), .val (.ref b230)] [(.int (35 : Int32)), (.int (9 : Int32)), (.ref b230)]) := fun t k => P289 t (by
      refine XS.aload X285.here hx rfl (hb hby at_77) rfl rfl ?_
      refine XS.bipush X285.here hx rfl (hb hby at_79) ?_
      refine XS.bipush X285.here hx rfl (hb hby at_81) ?_
      exact k)
    obtain ⟨cl291, Ar291, q291, S291, N291, H291, G291⟩ := id V285
    have hin291 : ¬ ((9 : Int32) < 0 ∨ cl291.slots.size ≤ ((9 : Int32)).toNatClampNeg) := inb_of S291 ⟨by decide, by decide⟩
    obtain ⟨T291, h291, X291, e291, W291, st291⟩ := stC X285 hx hZ e285 Ar291 (j := (9 : Int32)) hin291 (g := (mkF m 83 #[.val (.long p1), .second, .val (.int p2), .val (.long z22), .second, .val (.int (2 : Int32)), .val (.ref b230)] [(.int (35 : Int32)), (.int (9 : Int32)), (.ref b230)])) rfl rfl (hb hby at_83)
    have V291 : Arv Z h291 b230 k230 .char (10 : Int32) [(.int (35 : Int32)), (.int (35 : Int32)), (.int (35 : Int32)), (.int (35 : Int32)), (.int (35 : Int32)), (.int (35 : Int32)), (.int (35 : Int32)), (.int (35 : Int32)), (.int (35 : Int32)), (.int (35 : Int32))] (.int (0 : Int32)) := Arv.set Ar291 q291 S291 N291 H291 G291 (fits_nar_char _) W291 9 rfl (Nat.le_of_ble_eq_true rfl)
    have F292 := F286.wr W291
    have F293 := own_tab_other F287 W291 ne_dg_b230
    have Z294 : n0 ≤ h291.size := by rw [W291.size]; exact Z288
    have NF291 := Fr.snoc X291 NF285 g_b230
    have P295 : own_Pr p.tables e below S0 T291 (mkF m 84 #[.val (.long p1), .second, .val (.int p2), .val (.long z22), .second, .val (.int (2 : Int32)), .val (.ref b230)] []) := fun t k => P290 t (st291 _ k)
    have P296 : own_Pr p.tables e below S0 T291 (mkF m 89 #[.val (.long p1), .second, .val (.int p2), .val (.long z22), .second, .val (.int (2 : Int32)), .val (.ref b230)] [(.int (2 : Int32)), (.ref b230), (.long z22)]) := fun t k => P295 t (by
      refine XS.lloadN X291.here hx rfl (hb hby at_84) rfl ?_
      refine XS.aload X291.here hx rfl (hb hby at_85) rfl rfl ?_
      refine XS.iload X291.here hx rfl (hb hby at_87) rfl ?_
      exact k)
    obtain ⟨_, _, ⟨T297, L297, k297, n297⟩, -, X297, ⟨Lc297, hQ297, l297, y297, z297⟩, st297⟩ := Jvm.LawKit.callS X291 hx (y := (⟨"com/example/enqueue_to_disk/enqueuetodisk/format/internal/Unsigned32", "writeHex", "(J[CI)V"⟩ : MethodName)) hown (mvT hZ (hw _ (List.mem_of_getElem? (i := 3) rfl))) (mvT hZ (hw _ (List.mem_of_getElem? (i := 4) rfl))) (mvT hZ (hw _ (List.mem_of_getElem? (i := 5) rfl))) (mvT hZ (hw _ (List.mem_of_getElem? (i := 6) rfl))) (by decide) (backOf (W := 0) (rm1_2 l Z a0 hw [] z22 b230 dg cd k230 h291 n0 Z294 F292 F293 V291 g_b230 ne_dg_b230) hZ (hw _ (List.mem_of_getElem? (i := 6) rfl)) (hw _ (List.mem_of_getElem? (i := 5) rfl)) (by decide) (by decide)) (g := (mkF m 89 #[.val (.long p1), .second, .val (.int p2), .val (.long z22), .second, .val (.int (2 : Int32)), .val (.ref b230)] [(.int (2 : Int32)), (.ref b230), (.long z22)])) rfl (by rw [hml]; rfl) (argsL := [(.long z22), (.ref b230), (.int (2 : Int32))]) (rest := []) (lenOf pd_0 rfl) rfl (by show 2 * 0 + _ ≤ _; exact Nat.le_of_eq rfl) (hb hby at_89) (fun _ _ => ⟨rfl, e291, (by decide : 1 + 0 ≤ _), (by decide : 10 + 0 ≤ _)⟩)
    dsimp only [Pt.U, Pt.locs, Pt.cells, Pt.slots] at X297 l297 y297 z297 st297 hQ297
    rw [l297, y297, z297] at X297
    have X297 := X297.mono (cells' := 1) (slots' := 10) (by decide) (by decide)
    obtain ⟨rfl, Nq297, K297k, V297w⟩ := hQ297
    have N297n := Fr.app NF291 Nq297
    have Z298 := Nat.le_trans Z294 K297k.1
    obtain ⟨ct, Tt, At⟩ := own_tab V297w
    have At_0 := At 0 (by decide) (by decide)
    rw [show (0 : Int32).toNatClampNeg = 0 from rfl] at At_0
    simp only [List.getD_cons_succ, List.getD_cons_zero] at At_0
    have At_1 := At 1 (by decide) (by decide)
    rw [show (1 : Int32).toNatClampNeg = 1 from rfl] at At_1
    simp only [List.getD_cons_succ, List.getD_cons_zero] at At_1
    have At_2 := At 2 (by decide) (by decide)
    rw [show (2 : Int32).toNatClampNeg = 2 from rfl] at At_2
    simp only [List.getD_cons_succ, List.getD_cons_zero] at At_2
    have At_3 := At 3 (by decide) (by decide)
    rw [show (3 : Int32).toNatClampNeg = 3 from rfl] at At_3
    simp only [List.getD_cons_succ, List.getD_cons_zero] at At_3
    have At_4 := At 4 (by decide) (by decide)
    rw [show (4 : Int32).toNatClampNeg = 4 from rfl] at At_4
    simp only [List.getD_cons_succ, List.getD_cons_zero] at At_4
    have At_5 := At 5 (by decide) (by decide)
    rw [show (5 : Int32).toNatClampNeg = 5 from rfl] at At_5
    simp only [List.getD_cons_succ, List.getD_cons_zero] at At_5
    have At_6 := At 6 (by decide) (by decide)
    rw [show (6 : Int32).toNatClampNeg = 6 from rfl] at At_6
    simp only [List.getD_cons_succ, List.getD_cons_zero] at At_6
    have At_7 := At 7 (by decide) (by decide)
    rw [show (7 : Int32).toNatClampNeg = 7 from rfl] at At_7
    simp only [List.getD_cons_succ, List.getD_cons_zero] at At_7
    have At_8 := At 8 (by decide) (by decide)
    rw [show (8 : Int32).toNatClampNeg = 8 from rfl] at At_8
    simp only [List.getD_cons_succ, List.getD_cons_zero] at At_8
    have At_9 := At 9 (by decide) (by decide)
    rw [show (9 : Int32).toNatClampNeg = 9 from rfl] at At_9
    simp only [List.getD_cons_succ, List.getD_cons_zero] at At_9
    have P299 : own_Pr p.tables e below S0 T297 (mkF m 92 #[.val (.long p1), .second, .val (.int p2), .val (.long z22), .second, .val (.int (2 : Int32)), .val (.ref b230)] []) := fun t k => P296 t (st297 _ k)
    have P300 : own_Pr p.tables e below S0 T297 (mkF m 98 #[.val (.long p1), .second, .val (.int p2), .val (.long z22), .second, .val (.int (2 : Int32)), .val (.ref b230)] [(.long z22), (.int (2 : Int32)), (.int (0 : Int32)), (.ref b230)]) := fun t k => P299 t (by
      refine XS.aload X297.here hx rfl (hb hby at_92) rfl rfl ?_
      refine XS.iconst X297.here hx rfl (hb hby at_94) ?_
      refine XS.iload X297.here hx rfl (hb hby at_95) rfl ?_
      refine XS.lloadN X297.here hx rfl (hb hby at_97) rfl ?_
      exact k)
    obtain ⟨_, _, ⟨T301, L301, k301, n301⟩, -, X301, ⟨Lc301, hQ301, l301, y301, z301⟩, st301⟩ := Jvm.LawKit.callS X297 hx (y := (⟨"com/example/enqueue_to_disk/enqueuetodisk/format/internal/Unsigned32WriteHexPinLaw", "at", "([CIIJ)Z"⟩ : MethodName)) hown (mvT hZ (hw _ (List.mem_of_getElem? (i := 9) rfl))) (mvT hZ (hw _ (List.mem_of_getElem? (i := 10) rfl))) (mvT hZ (hw _ (List.mem_of_getElem? (i := 11) rfl))) (mvT hZ (hw _ (List.mem_of_getElem? (i := 12) rfl))) (by decide) (backOf (W := 0) (rm2 l Z a0 hw [] b230 (0 : Int32) (2 : Int32) z22 ct T297.heap n0 Z298 Tt ⟨by decide, by decide⟩) hZ (hw _ (List.mem_of_getElem? (i := 12) rfl)) (hw _ (List.mem_of_getElem? (i := 11) rfl)) (by decide) (by decide)) (g := (mkF m 98 #[.val (.long p1), .second, .val (.int p2), .val (.long z22), .second, .val (.int (2 : Int32)), .val (.ref b230)] [(.long z22), (.int (2 : Int32)), (.int (0 : Int32)), (.ref b230)])) rfl (by rw [hml]; rfl) (argsL := [(.ref b230), (.int (0 : Int32)), (.int (2 : Int32)), (.long z22)]) (rest := []) (lenOf pd_1 rfl) rfl (by show 2 * 0 + _ ≤ _; exact Nat.le_of_eq rfl) (hb hby at_98) (fun _ _ => ⟨rfl, rfl, (by decide : 1 + 0 ≤ _), (by decide : 10 + 0 ≤ _)⟩)
    dsimp only [Pt.U, Pt.locs, Pt.cells, Pt.slots] at X301 l301 y301 z301 st301 hQ301
    rw [l301, y301, z301] at X301
    have X301 := X301.mono (cells' := 1) (slots' := 10) (by decide) (by decide)
    obtain ⟨z301v, rfl, hz301v, Nq301, eq301⟩ := hQ301
    have N301n := Fr.app N297n Nq301
    have P302 : own_Pr p.tables e below S0 T301 (mkF m 101 #[.val (.long p1), .second, .val (.int p2), .val (.long z22), .second, .val (.int (2 : Int32)), .val (.ref b230)] [(.int z301v)]) := fun t k => P300 t (st301 _ k)
    have P303 : own_Pr p.tables e below S0 T301 (mkF m 110 #[.val (.long p1), .second, .val (.int p2), .val (.long z22), .second, .val (.int (2 : Int32)), .val (.ref b230)] [(.long z22), (.int (2 : Int32)), (.int (1 : Int32)), (.ref b230)]) := fun t k => P302 t (by
      refine XS.ifNo X301.here hx rfl (hb hby at_101) rfl (XT.i0_eq_f (own_ok_2_0 HD (own_val hz22) At_0 hz301v)) ?_
      refine XS.aload X301.here hx rfl (hb hby at_104) rfl rfl ?_
      refine XS.iconst X301.here hx rfl (hb hby at_106) ?_
      refine XS.iload X301.here hx rfl (hb hby at_107) rfl ?_
      refine XS.lloadN X301.here hx rfl (hb hby at_109) rfl ?_
      exact k)
    obtain ⟨_, _, ⟨T304, L304, k304, n304⟩, -, X304, ⟨Lc304, hQ304, l304, y304, z304⟩, st304⟩ := Jvm.LawKit.callS X301 hx (y := (⟨"com/example/enqueue_to_disk/enqueuetodisk/format/internal/Unsigned32WriteHexPinLaw", "at", "([CIIJ)Z"⟩ : MethodName)) hown (mvT hZ (hw _ (List.mem_of_getElem? (i := 9) rfl))) (mvT hZ (hw _ (List.mem_of_getElem? (i := 10) rfl))) (mvT hZ (hw _ (List.mem_of_getElem? (i := 11) rfl))) (mvT hZ (hw _ (List.mem_of_getElem? (i := 12) rfl))) (by decide) (backOf (W := 0) (rm2 l Z a0 hw [] b230 (1 : Int32) (2 : Int32) z22 ct T297.heap n0 Z298 Tt ⟨by decide, by decide⟩) hZ (hw _ (List.mem_of_getElem? (i := 12) rfl)) (hw _ (List.mem_of_getElem? (i := 11) rfl)) (by decide) (by decide)) (g := (mkF m 110 #[.val (.long p1), .second, .val (.int p2), .val (.long z22), .second, .val (.int (2 : Int32)), .val (.ref b230)] [(.long z22), (.int (2 : Int32)), (.int (1 : Int32)), (.ref b230)])) rfl (by rw [hml]; rfl) (argsL := [(.ref b230), (.int (1 : Int32)), (.int (2 : Int32)), (.long z22)]) (rest := []) (lenOf pd_1 rfl) rfl (by show 2 * 0 + _ ≤ _; exact Nat.le_of_eq rfl) (hb hby at_110) (fun _ _ => ⟨rfl, eq301, (by decide : 1 + 0 ≤ _), (by decide : 10 + 0 ≤ _)⟩)
    dsimp only [Pt.U, Pt.locs, Pt.cells, Pt.slots] at X304 l304 y304 z304 st304 hQ304
    rw [l304, y304, z304] at X304
    have X304 := X304.mono (cells' := 1) (slots' := 10) (by decide) (by decide)
    obtain ⟨z304v, rfl, hz304v, Nq304, eq304⟩ := hQ304
    have N304n := Fr.app N301n Nq304
    have P305 : own_Pr p.tables e below S0 T304 (mkF m 113 #[.val (.long p1), .second, .val (.int p2), .val (.long z22), .second, .val (.int (2 : Int32)), .val (.ref b230)] [(.int z304v)]) := fun t k => P303 t (st304 _ k)
    have P306 : own_Pr p.tables e below S0 T304 (mkF m 122 #[.val (.long p1), .second, .val (.int p2), .val (.long z22), .second, .val (.int (2 : Int32)), .val (.ref b230)] [(.long z22), (.int (2 : Int32)), (.int (2 : Int32)), (.ref b230)]) := fun t k => P305 t (by
      refine XS.ifNo X304.here hx rfl (hb hby at_113) rfl (XT.i0_eq_f (own_ok_2_1 HD (own_val hz22) At_1 hz304v)) ?_
      refine XS.aload X304.here hx rfl (hb hby at_116) rfl rfl ?_
      refine XS.iconst X304.here hx rfl (hb hby at_118) ?_
      refine XS.iload X304.here hx rfl (hb hby at_119) rfl ?_
      refine XS.lloadN X304.here hx rfl (hb hby at_121) rfl ?_
      exact k)
    obtain ⟨_, _, ⟨T307, L307, k307, n307⟩, -, X307, ⟨Lc307, hQ307, l307, y307, z307⟩, st307⟩ := Jvm.LawKit.callS X304 hx (y := (⟨"com/example/enqueue_to_disk/enqueuetodisk/format/internal/Unsigned32WriteHexPinLaw", "at", "([CIIJ)Z"⟩ : MethodName)) hown (mvT hZ (hw _ (List.mem_of_getElem? (i := 9) rfl))) (mvT hZ (hw _ (List.mem_of_getElem? (i := 10) rfl))) (mvT hZ (hw _ (List.mem_of_getElem? (i := 11) rfl))) (mvT hZ (hw _ (List.mem_of_getElem? (i := 12) rfl))) (by decide) (backOf (W := 0) (rm2 l Z a0 hw [] b230 (2 : Int32) (2 : Int32) z22 ct T297.heap n0 Z298 Tt ⟨by decide, by decide⟩) hZ (hw _ (List.mem_of_getElem? (i := 12) rfl)) (hw _ (List.mem_of_getElem? (i := 11) rfl)) (by decide) (by decide)) (g := (mkF m 122 #[.val (.long p1), .second, .val (.int p2), .val (.long z22), .second, .val (.int (2 : Int32)), .val (.ref b230)] [(.long z22), (.int (2 : Int32)), (.int (2 : Int32)), (.ref b230)])) rfl (by rw [hml]; rfl) (argsL := [(.ref b230), (.int (2 : Int32)), (.int (2 : Int32)), (.long z22)]) (rest := []) (lenOf pd_1 rfl) rfl (by show 2 * 0 + _ ≤ _; exact Nat.le_of_eq rfl) (hb hby at_122) (fun _ _ => ⟨rfl, eq304, (by decide : 1 + 0 ≤ _), (by decide : 10 + 0 ≤ _)⟩)
    dsimp only [Pt.U, Pt.locs, Pt.cells, Pt.slots] at X307 l307 y307 z307 st307 hQ307
    rw [l307, y307, z307] at X307
    have X307 := X307.mono (cells' := 1) (slots' := 10) (by decide) (by decide)
    obtain ⟨z307v, rfl, hz307v, Nq307, eq307⟩ := hQ307
    have N307n := Fr.app N304n Nq307
    have P308 : own_Pr p.tables e below S0 T307 (mkF m 125 #[.val (.long p1), .second, .val (.int p2), .val (.long z22), .second, .val (.int (2 : Int32)), .val (.ref b230)] [(.int z307v)]) := fun t k => P306 t (st307 _ k)
    have P309 : own_Pr p.tables e below S0 T307 (mkF m 134 #[.val (.long p1), .second, .val (.int p2), .val (.long z22), .second, .val (.int (2 : Int32)), .val (.ref b230)] [(.long z22), (.int (2 : Int32)), (.int (3 : Int32)), (.ref b230)]) := fun t k => P308 t (by
      refine XS.ifNo X307.here hx rfl (hb hby at_125) rfl (XT.i0_eq_f (own_ok_2_2 HD (own_val hz22) At_2 hz307v)) ?_
      refine XS.aload X307.here hx rfl (hb hby at_128) rfl rfl ?_
      refine XS.iconst X307.here hx rfl (hb hby at_130) ?_
      refine XS.iload X307.here hx rfl (hb hby at_131) rfl ?_
      refine XS.lloadN X307.here hx rfl (hb hby at_133) rfl ?_
      exact k)
    obtain ⟨_, _, ⟨T310, L310, k310, n310⟩, -, X310, ⟨Lc310, hQ310, l310, y310, z310⟩, st310⟩ := Jvm.LawKit.callS X307 hx (y := (⟨"com/example/enqueue_to_disk/enqueuetodisk/format/internal/Unsigned32WriteHexPinLaw", "at", "([CIIJ)Z"⟩ : MethodName)) hown (mvT hZ (hw _ (List.mem_of_getElem? (i := 9) rfl))) (mvT hZ (hw _ (List.mem_of_getElem? (i := 10) rfl))) (mvT hZ (hw _ (List.mem_of_getElem? (i := 11) rfl))) (mvT hZ (hw _ (List.mem_of_getElem? (i := 12) rfl))) (by decide) (backOf (W := 0) (rm2 l Z a0 hw [] b230 (3 : Int32) (2 : Int32) z22 ct T297.heap n0 Z298 Tt ⟨by decide, by decide⟩) hZ (hw _ (List.mem_of_getElem? (i := 12) rfl)) (hw _ (List.mem_of_getElem? (i := 11) rfl)) (by decide) (by decide)) (g := (mkF m 134 #[.val (.long p1), .second, .val (.int p2), .val (.long z22), .second, .val (.int (2 : Int32)), .val (.ref b230)] [(.long z22), (.int (2 : Int32)), (.int (3 : Int32)), (.ref b230)])) rfl (by rw [hml]; rfl) (argsL := [(.ref b230), (.int (3 : Int32)), (.int (2 : Int32)), (.long z22)]) (rest := []) (lenOf pd_1 rfl) rfl (by show 2 * 0 + _ ≤ _; exact Nat.le_of_eq rfl) (hb hby at_134) (fun _ _ => ⟨rfl, eq307, (by decide : 1 + 0 ≤ _), (by decide : 10 + 0 ≤ _)⟩)
    dsimp only [Pt.U, Pt.locs, Pt.cells, Pt.slots] at X310 l310 y310 z310 st310 hQ310
    rw [l310, y310, z310] at X310
    have X310 := X310.mono (cells' := 1) (slots' := 10) (by decide) (by decide)
    obtain ⟨z310v, rfl, hz310v, Nq310, eq310⟩ := hQ310
    have N310n := Fr.app N307n Nq310
    have P311 : own_Pr p.tables e below S0 T310 (mkF m 137 #[.val (.long p1), .second, .val (.int p2), .val (.long z22), .second, .val (.int (2 : Int32)), .val (.ref b230)] [(.int z310v)]) := fun t k => P309 t (st310 _ k)
    have P312 : own_Pr p.tables e below S0 T310 (mkF m 146 #[.val (.long p1), .second, .val (.int p2), .val (.long z22), .second, .val (.int (2 : Int32)), .val (.ref b230)] [(.long z22), (.int (2 : Int32)), (.int (4 : Int32)), (.ref b230)]) := fun t k => P311 t (by
      refine XS.ifNo X310.here hx rfl (hb hby at_137) rfl (XT.i0_eq_f (own_ok_2_3 HD (own_val hz22) At_3 hz310v)) ?_
      refine XS.aload X310.here hx rfl (hb hby at_140) rfl rfl ?_
      refine XS.iconst X310.here hx rfl (hb hby at_142) ?_
      refine XS.iload X310.here hx rfl (hb hby at_143) rfl ?_
      refine XS.lloadN X310.here hx rfl (hb hby at_145) rfl ?_
      exact k)
    obtain ⟨_, _, ⟨T313, L313, k313, n313⟩, -, X313, ⟨Lc313, hQ313, l313, y313, z313⟩, st313⟩ := Jvm.LawKit.callS X310 hx (y := (⟨"com/example/enqueue_to_disk/enqueuetodisk/format/internal/Unsigned32WriteHexPinLaw", "at", "([CIIJ)Z"⟩ : MethodName)) hown (mvT hZ (hw _ (List.mem_of_getElem? (i := 9) rfl))) (mvT hZ (hw _ (List.mem_of_getElem? (i := 10) rfl))) (mvT hZ (hw _ (List.mem_of_getElem? (i := 11) rfl))) (mvT hZ (hw _ (List.mem_of_getElem? (i := 12) rfl))) (by decide) (backOf (W := 0) (rm2 l Z a0 hw [] b230 (4 : Int32) (2 : Int32) z22 ct T297.heap n0 Z298 Tt ⟨by decide, by decide⟩) hZ (hw _ (List.mem_of_getElem? (i := 12) rfl)) (hw _ (List.mem_of_getElem? (i := 11) rfl)) (by decide) (by decide)) (g := (mkF m 146 #[.val (.long p1), .second, .val (.int p2), .val (.long z22), .second, .val (.int (2 : Int32)), .val (.ref b230)] [(.long z22), (.int (2 : Int32)), (.int (4 : Int32)), (.ref b230)])) rfl (by rw [hml]; rfl) (argsL := [(.ref b230), (.int (4 : Int32)), (.int (2 : Int32)), (.long z22)]) (rest := []) (lenOf pd_1 rfl) rfl (by show 2 * 0 + _ ≤ _; exact Nat.le_of_eq rfl) (hb hby at_146) (fun _ _ => ⟨rfl, eq310, (by decide : 1 + 0 ≤ _), (by decide : 10 + 0 ≤ _)⟩)
    dsimp only [Pt.U, Pt.locs, Pt.cells, Pt.slots] at X313 l313 y313 z313 st313 hQ313
    rw [l313, y313, z313] at X313
    have X313 := X313.mono (cells' := 1) (slots' := 10) (by decide) (by decide)
    obtain ⟨z313v, rfl, hz313v, Nq313, eq313⟩ := hQ313
    have N313n := Fr.app N310n Nq313
    have P314 : own_Pr p.tables e below S0 T313 (mkF m 149 #[.val (.long p1), .second, .val (.int p2), .val (.long z22), .second, .val (.int (2 : Int32)), .val (.ref b230)] [(.int z313v)]) := fun t k => P312 t (st313 _ k)
    have P315 : own_Pr p.tables e below S0 T313 (mkF m 158 #[.val (.long p1), .second, .val (.int p2), .val (.long z22), .second, .val (.int (2 : Int32)), .val (.ref b230)] [(.long z22), (.int (2 : Int32)), (.int (5 : Int32)), (.ref b230)]) := fun t k => P314 t (by
      refine XS.ifNo X313.here hx rfl (hb hby at_149) rfl (XT.i0_eq_f (own_ok_2_4 HD (own_val hz22) At_4 hz313v)) ?_
      refine XS.aload X313.here hx rfl (hb hby at_152) rfl rfl ?_
      refine XS.iconst X313.here hx rfl (hb hby at_154) ?_
      refine XS.iload X313.here hx rfl (hb hby at_155) rfl ?_
      refine XS.lloadN X313.here hx rfl (hb hby at_157) rfl ?_
      exact k)
    obtain ⟨_, _, ⟨T316, L316, k316, n316⟩, -, X316, ⟨Lc316, hQ316, l316, y316, z316⟩, st316⟩ := Jvm.LawKit.callS X313 hx (y := (⟨"com/example/enqueue_to_disk/enqueuetodisk/format/internal/Unsigned32WriteHexPinLaw", "at", "([CIIJ)Z"⟩ : MethodName)) hown (mvT hZ (hw _ (List.mem_of_getElem? (i := 9) rfl))) (mvT hZ (hw _ (List.mem_of_getElem? (i := 10) rfl))) (mvT hZ (hw _ (List.mem_of_getElem? (i := 11) rfl))) (mvT hZ (hw _ (List.mem_of_getElem? (i := 12) rfl))) (by decide) (backOf (W := 0) (rm2 l Z a0 hw [] b230 (5 : Int32) (2 : Int32) z22 ct T297.heap n0 Z298 Tt ⟨by decide, by decide⟩) hZ (hw _ (List.mem_of_getElem? (i := 12) rfl)) (hw _ (List.mem_of_getElem? (i := 11) rfl)) (by decide) (by decide)) (g := (mkF m 158 #[.val (.long p1), .second, .val (.int p2), .val (.long z22), .second, .val (.int (2 : Int32)), .val (.ref b230)] [(.long z22), (.int (2 : Int32)), (.int (5 : Int32)), (.ref b230)])) rfl (by rw [hml]; rfl) (argsL := [(.ref b230), (.int (5 : Int32)), (.int (2 : Int32)), (.long z22)]) (rest := []) (lenOf pd_1 rfl) rfl (by show 2 * 0 + _ ≤ _; exact Nat.le_of_eq rfl) (hb hby at_158) (fun _ _ => ⟨rfl, eq313, (by decide : 1 + 0 ≤ _), (by decide : 10 + 0 ≤ _)⟩)
    dsimp only [Pt.U, Pt.locs, Pt.cells, Pt.slots] at X316 l316 y316 z316 st316 hQ316
    rw [l316, y316, z316] at X316
    have X316 := X316.mono (cells' := 1) (slots' := 10) (by decide) (by decide)
    obtain ⟨z316v, rfl, hz316v, Nq316, eq316⟩ := hQ316
    have N316n := Fr.app N313n Nq316
    have P317 : own_Pr p.tables e below S0 T316 (mkF m 161 #[.val (.long p1), .second, .val (.int p2), .val (.long z22), .second, .val (.int (2 : Int32)), .val (.ref b230)] [(.int z316v)]) := fun t k => P315 t (st316 _ k)
    have P318 : own_Pr p.tables e below S0 T316 (mkF m 171 #[.val (.long p1), .second, .val (.int p2), .val (.long z22), .second, .val (.int (2 : Int32)), .val (.ref b230)] [(.long z22), (.int (2 : Int32)), (.int (6 : Int32)), (.ref b230)]) := fun t k => P317 t (by
      refine XS.ifNo X316.here hx rfl (hb hby at_161) rfl (XT.i0_eq_f (own_ok_2_5 HD (own_val hz22) At_5 hz316v)) ?_
      refine XS.aload X316.here hx rfl (hb hby at_164) rfl rfl ?_
      refine XS.bipush X316.here hx rfl (hb hby at_166) ?_
      refine XS.iload X316.here hx rfl (hb hby at_168) rfl ?_
      refine XS.lloadN X316.here hx rfl (hb hby at_170) rfl ?_
      exact k)
    obtain ⟨_, _, ⟨T319, L319, k319, n319⟩, -, X319, ⟨Lc319, hQ319, l319, y319, z319⟩, st319⟩ := Jvm.LawKit.callS X316 hx (y := (⟨"com/example/enqueue_to_disk/enqueuetodisk/format/internal/Unsigned32WriteHexPinLaw", "at", "([CIIJ)Z"⟩ : MethodName)) hown (mvT hZ (hw _ (List.mem_of_getElem? (i := 9) rfl))) (mvT hZ (hw _ (List.mem_of_getElem? (i := 10) rfl))) (mvT hZ (hw _ (List.mem_of_getElem? (i := 11) rfl))) (mvT hZ (hw _ (List.mem_of_getElem? (i := 12) rfl))) (by decide) (backOf (W := 0) (rm2 l Z a0 hw [] b230 (6 : Int32) (2 : Int32) z22 ct T297.heap n0 Z298 Tt ⟨by decide, by decide⟩) hZ (hw _ (List.mem_of_getElem? (i := 12) rfl)) (hw _ (List.mem_of_getElem? (i := 11) rfl)) (by decide) (by decide)) (g := (mkF m 171 #[.val (.long p1), .second, .val (.int p2), .val (.long z22), .second, .val (.int (2 : Int32)), .val (.ref b230)] [(.long z22), (.int (2 : Int32)), (.int (6 : Int32)), (.ref b230)])) rfl (by rw [hml]; rfl) (argsL := [(.ref b230), (.int (6 : Int32)), (.int (2 : Int32)), (.long z22)]) (rest := []) (lenOf pd_1 rfl) rfl (by show 2 * 0 + _ ≤ _; exact Nat.le_of_eq rfl) (hb hby at_171) (fun _ _ => ⟨rfl, eq316, (by decide : 1 + 0 ≤ _), (by decide : 10 + 0 ≤ _)⟩)
    dsimp only [Pt.U, Pt.locs, Pt.cells, Pt.slots] at X319 l319 y319 z319 st319 hQ319
    rw [l319, y319, z319] at X319
    have X319 := X319.mono (cells' := 1) (slots' := 10) (by decide) (by decide)
    obtain ⟨z319v, rfl, hz319v, Nq319, eq319⟩ := hQ319
    have N319n := Fr.app N316n Nq319
    have P320 : own_Pr p.tables e below S0 T319 (mkF m 174 #[.val (.long p1), .second, .val (.int p2), .val (.long z22), .second, .val (.int (2 : Int32)), .val (.ref b230)] [(.int z319v)]) := fun t k => P318 t (st319 _ k)
    have P321 : own_Pr p.tables e below S0 T319 (mkF m 184 #[.val (.long p1), .second, .val (.int p2), .val (.long z22), .second, .val (.int (2 : Int32)), .val (.ref b230)] [(.long z22), (.int (2 : Int32)), (.int (7 : Int32)), (.ref b230)]) := fun t k => P320 t (by
      refine XS.ifNo X319.here hx rfl (hb hby at_174) rfl (XT.i0_eq_f (own_ok_2_6 HD (own_val hz22) At_6 hz319v)) ?_
      refine XS.aload X319.here hx rfl (hb hby at_177) rfl rfl ?_
      refine XS.bipush X319.here hx rfl (hb hby at_179) ?_
      refine XS.iload X319.here hx rfl (hb hby at_181) rfl ?_
      refine XS.lloadN X319.here hx rfl (hb hby at_183) rfl ?_
      exact k)
    obtain ⟨_, _, ⟨T322, L322, k322, n322⟩, -, X322, ⟨Lc322, hQ322, l322, y322, z322⟩, st322⟩ := Jvm.LawKit.callS X319 hx (y := (⟨"com/example/enqueue_to_disk/enqueuetodisk/format/internal/Unsigned32WriteHexPinLaw", "at", "([CIIJ)Z"⟩ : MethodName)) hown (mvT hZ (hw _ (List.mem_of_getElem? (i := 9) rfl))) (mvT hZ (hw _ (List.mem_of_getElem? (i := 10) rfl))) (mvT hZ (hw _ (List.mem_of_getElem? (i := 11) rfl))) (mvT hZ (hw _ (List.mem_of_getElem? (i := 12) rfl))) (by decide) (backOf (W := 0) (rm2 l Z a0 hw [] b230 (7 : Int32) (2 : Int32) z22 ct T297.heap n0 Z298 Tt ⟨by decide, by decide⟩) hZ (hw _ (List.mem_of_getElem? (i := 12) rfl)) (hw _ (List.mem_of_getElem? (i := 11) rfl)) (by decide) (by decide)) (g := (mkF m 184 #[.val (.long p1), .second, .val (.int p2), .val (.long z22), .second, .val (.int (2 : Int32)), .val (.ref b230)] [(.long z22), (.int (2 : Int32)), (.int (7 : Int32)), (.ref b230)])) rfl (by rw [hml]; rfl) (argsL := [(.ref b230), (.int (7 : Int32)), (.int (2 : Int32)), (.long z22)]) (rest := []) (lenOf pd_1 rfl) rfl (by show 2 * 0 + _ ≤ _; exact Nat.le_of_eq rfl) (hb hby at_184) (fun _ _ => ⟨rfl, eq319, (by decide : 1 + 0 ≤ _), (by decide : 10 + 0 ≤ _)⟩)
    dsimp only [Pt.U, Pt.locs, Pt.cells, Pt.slots] at X322 l322 y322 z322 st322 hQ322
    rw [l322, y322, z322] at X322
    have X322 := X322.mono (cells' := 1) (slots' := 10) (by decide) (by decide)
    obtain ⟨z322v, rfl, hz322v, Nq322, eq322⟩ := hQ322
    have N322n := Fr.app N319n Nq322
    have P323 : own_Pr p.tables e below S0 T322 (mkF m 187 #[.val (.long p1), .second, .val (.int p2), .val (.long z22), .second, .val (.int (2 : Int32)), .val (.ref b230)] [(.int z322v)]) := fun t k => P321 t (st322 _ k)
    have P324 : own_Pr p.tables e below S0 T322 (mkF m 197 #[.val (.long p1), .second, .val (.int p2), .val (.long z22), .second, .val (.int (2 : Int32)), .val (.ref b230)] [(.long z22), (.int (2 : Int32)), (.int (8 : Int32)), (.ref b230)]) := fun t k => P323 t (by
      refine XS.ifNo X322.here hx rfl (hb hby at_187) rfl (XT.i0_eq_f (own_ok_2_7 HD (own_val hz22) At_7 hz322v)) ?_
      refine XS.aload X322.here hx rfl (hb hby at_190) rfl rfl ?_
      refine XS.bipush X322.here hx rfl (hb hby at_192) ?_
      refine XS.iload X322.here hx rfl (hb hby at_194) rfl ?_
      refine XS.lloadN X322.here hx rfl (hb hby at_196) rfl ?_
      exact k)
    obtain ⟨_, _, ⟨T325, L325, k325, n325⟩, -, X325, ⟨Lc325, hQ325, l325, y325, z325⟩, st325⟩ := Jvm.LawKit.callS X322 hx (y := (⟨"com/example/enqueue_to_disk/enqueuetodisk/format/internal/Unsigned32WriteHexPinLaw", "at", "([CIIJ)Z"⟩ : MethodName)) hown (mvT hZ (hw _ (List.mem_of_getElem? (i := 9) rfl))) (mvT hZ (hw _ (List.mem_of_getElem? (i := 10) rfl))) (mvT hZ (hw _ (List.mem_of_getElem? (i := 11) rfl))) (mvT hZ (hw _ (List.mem_of_getElem? (i := 12) rfl))) (by decide) (backOf (W := 0) (rm2 l Z a0 hw [] b230 (8 : Int32) (2 : Int32) z22 ct T297.heap n0 Z298 Tt ⟨by decide, by decide⟩) hZ (hw _ (List.mem_of_getElem? (i := 12) rfl)) (hw _ (List.mem_of_getElem? (i := 11) rfl)) (by decide) (by decide)) (g := (mkF m 197 #[.val (.long p1), .second, .val (.int p2), .val (.long z22), .second, .val (.int (2 : Int32)), .val (.ref b230)] [(.long z22), (.int (2 : Int32)), (.int (8 : Int32)), (.ref b230)])) rfl (by rw [hml]; rfl) (argsL := [(.ref b230), (.int (8 : Int32)), (.int (2 : Int32)), (.long z22)]) (rest := []) (lenOf pd_1 rfl) rfl (by show 2 * 0 + _ ≤ _; exact Nat.le_of_eq rfl) (hb hby at_197) (fun _ _ => ⟨rfl, eq322, (by decide : 1 + 0 ≤ _), (by decide : 10 + 0 ≤ _)⟩)
    dsimp only [Pt.U, Pt.locs, Pt.cells, Pt.slots] at X325 l325 y325 z325 st325 hQ325
    rw [l325, y325, z325] at X325
    have X325 := X325.mono (cells' := 1) (slots' := 10) (by decide) (by decide)
    obtain ⟨z325v, rfl, hz325v, Nq325, eq325⟩ := hQ325
    have N325n := Fr.app N322n Nq325
    have P326 : own_Pr p.tables e below S0 T325 (mkF m 200 #[.val (.long p1), .second, .val (.int p2), .val (.long z22), .second, .val (.int (2 : Int32)), .val (.ref b230)] [(.int z325v)]) := fun t k => P324 t (st325 _ k)
    have P327 : own_Pr p.tables e below S0 T325 (mkF m 210 #[.val (.long p1), .second, .val (.int p2), .val (.long z22), .second, .val (.int (2 : Int32)), .val (.ref b230)] [(.long z22), (.int (2 : Int32)), (.int (9 : Int32)), (.ref b230)]) := fun t k => P326 t (by
      refine XS.ifNo X325.here hx rfl (hb hby at_200) rfl (XT.i0_eq_f (own_ok_2_8 HD (own_val hz22) At_8 hz325v)) ?_
      refine XS.aload X325.here hx rfl (hb hby at_203) rfl rfl ?_
      refine XS.bipush X325.here hx rfl (hb hby at_205) ?_
      refine XS.iload X325.here hx rfl (hb hby at_207) rfl ?_
      refine XS.lloadN X325.here hx rfl (hb hby at_209) rfl ?_
      exact k)
    obtain ⟨_, _, ⟨T328, L328, k328, n328⟩, -, X328, ⟨Lc328, hQ328, l328, y328, z328⟩, st328⟩ := Jvm.LawKit.callS X325 hx (y := (⟨"com/example/enqueue_to_disk/enqueuetodisk/format/internal/Unsigned32WriteHexPinLaw", "at", "([CIIJ)Z"⟩ : MethodName)) hown (mvT hZ (hw _ (List.mem_of_getElem? (i := 9) rfl))) (mvT hZ (hw _ (List.mem_of_getElem? (i := 10) rfl))) (mvT hZ (hw _ (List.mem_of_getElem? (i := 11) rfl))) (mvT hZ (hw _ (List.mem_of_getElem? (i := 12) rfl))) (by decide) (backOf (W := 0) (rm2 l Z a0 hw [] b230 (9 : Int32) (2 : Int32) z22 ct T297.heap n0 Z298 Tt ⟨by decide, by decide⟩) hZ (hw _ (List.mem_of_getElem? (i := 12) rfl)) (hw _ (List.mem_of_getElem? (i := 11) rfl)) (by decide) (by decide)) (g := (mkF m 210 #[.val (.long p1), .second, .val (.int p2), .val (.long z22), .second, .val (.int (2 : Int32)), .val (.ref b230)] [(.long z22), (.int (2 : Int32)), (.int (9 : Int32)), (.ref b230)])) rfl (by rw [hml]; rfl) (argsL := [(.ref b230), (.int (9 : Int32)), (.int (2 : Int32)), (.long z22)]) (rest := []) (lenOf pd_1 rfl) rfl (by show 2 * 0 + _ ≤ _; exact Nat.le_of_eq rfl) (hb hby at_210) (fun _ _ => ⟨rfl, eq325, (by decide : 1 + 0 ≤ _), (by decide : 10 + 0 ≤ _)⟩)
    dsimp only [Pt.U, Pt.locs, Pt.cells, Pt.slots] at X328 l328 y328 z328 st328 hQ328
    rw [l328, y328, z328] at X328
    have X328 := X328.mono (cells' := 1) (slots' := 10) (by decide) (by decide)
    obtain ⟨z328v, rfl, hz328v, Nq328, eq328⟩ := hQ328
    have N328n := Fr.app N325n Nq328
    have P329 : own_Pr p.tables e below S0 T328 (mkF m 213 #[.val (.long p1), .second, .val (.int p2), .val (.long z22), .second, .val (.int (2 : Int32)), .val (.ref b230)] [(.int z328v)]) := fun t k => P327 t (st328 _ k)
    have P330 : own_Pr p.tables e below S0 T328 (mkF m 221 #[.val (.long p1), .second, .val (.int p2), .val (.long z22), .second, .val (.int (2 : Int32)), .val (.ref b230)] [(.int (1 : Int32))]) := fun t k => P329 t (by
      refine XS.ifNo X328.here hx rfl (hb hby at_213) rfl (XT.i0_eq_f (own_ok_2_9 HD (own_val hz22) At_9 hz328v)) ?_
      refine XS.iconst X328.here hx rfl (hb hby at_216) ?_
      refine XS.goto X328.here hx rfl (pc0 := 217) (pc' := 221) rfl (hb hby at_217) (by decide) (by decide) ?_
      exact k)
    obtain ⟨fs, hr, hrun, hended, hW, hsame⟩ := X328.leave (v := some (.int (1 : Int32))) (fun h => by rw [Bd.returns] at h; cases h)
    have fin : Steps p.tables e below S0 (T328.setFrames fs) := P330 _ (retN X328 hx (t := .boolean) Bd.returns (by simp) (hb hby at_221) hr)
    rw [hS0] at fin
    refine ⟨_, _, fin, hrun, hended, _, _, rfl, ?_, ⟨_, rfl⟩, hW, hsame.mono (by decide) (by decide)⟩
    show own_QL n0 _ _
    exact ⟨_, rfl, rfl, N328n⟩
set_option maxRecDepth 65536 in
set_option maxHeartbeats 40000000 in
theorem comes_1 {Post : Tables → Env → Array Value → State → Outcome → State → Prop} (hpost : ∀ tb e args s v u, (limb_1_1.after args s (.returned v) u = true ∧ limb_1_2.after args s (.returned v) u = true ∧ True) → FrameEnd s (.returned v) u (Jvm.fieldLocs frame_1_writes args s ++ Jvm.arrayLocs frame_1_arrays args s ++ Jvm.staticLocs frame_1_statics s) 16 128 → Post tb e args s (.returned v) u) :
    ArmFor flags0 classFile x code maxLocals ret World_1 tables_1 room_1 Calls_1 rest_1 Pre_1 Post := by
  intro l hfl _ _ p e ha hc hk s m args below hf hA hF happ hP
  obtain ⟨hcalls, hrest, hpre⟩ := hP
  obtain ⟨-, -, -, hnamed, -, -, -, hat⟩ := (Spec.applies_iff hf).mp happ
  obtain ⟨hg, hn⟩ := and_e (Cond.before_iff.mp (show (Jvm.Cond.and given_1 narrow_1).before args s = true from hpre))
  obtain ⟨gg1, gg2⟩ := and_e hg
  obtain ⟨gg3, gg4⟩ := and_e gg2
  obtain ⟨w0, w1, rfl⟩ : ∃ w0 w1 : Value, args = #[w0, w1] := by
    have hs : args.size = 2 := by simpa [Cond.value, given_1] using gg1
    obtain ⟨L⟩ := args
    match L, hs with
    | [w0, w1], _ => exact ⟨w0, w1, rfl⟩
  have hw := fun d (hd : d ∈ tables_1) => atoms_spec (ws := Jvm.Cond.code x code maxLocals ret :: tables_1) hat d (List.mem_cons_of_mem _ hd)
  have hfit : Fit s := fun {y c} hc i hi => by
    obtain ⟨ha, rfl⟩ := Array.getElem?_eq_some_iff.mp hc
    have q := List.all_eq_true.mp ((Array.all_eq_true_iff_forall_mem.mp hF) _ (Array.getElem_mem ha)) i (List.mem_range.mpr hi)
    simpa [Array.getElem?_eq_getElem hi] using q
  obtain ⟨i0, ei0⟩ := isL_v gg3
  obtain rfl : w0 = (.long i0) := Option.some.inj ei0
  obtain ⟨i1, ei1⟩ := is_v gg4
  obtain rfl : w1 = (.int i1) := Option.some.inj ei1
  obtain ⟨nA, hn1⟩ := and_e hn
  obtain ⟨nL, hn2⟩ := and_e hn1
  obtain ⟨n1, n2⟩ := and_e hn2
  obtain ⟨dg, edg⟩ := arr_v nA
  obtain ⟨cd, Ad⟩ := Arr.start edg nA
  have hAt := Ad.fin (Vm.Alike.refl _)
  obtain ⟨hsz, hlen⟩ : cd.slots.size < 2 ^ 31 ∧ cd.slots.size.toInt32 = 16 := own_len edg hAt nL
  have T_dg : Tab s s.heap dg cd .char 16 := Tab.start hfit Ad (by simp) hsz hlen (by decide)
  have HD := own_case (fun _ => edg) T_dg hAt n1 n2
  have S_dg := Sta.start edg (Or.inr ⟨(hw _ (List.mem_of_getElem? (i := 5) rfl)), (hw _ (List.mem_of_getElem? (i := 8) rfl))⟩)
  obtain ⟨n, o, h1, h2, h3, _, L, rfl, ⟨z, rfl, rfl, N⟩, hq⟩ := rm0 l s _ hw tables_1 i0 i1 dg cd s.heap s.heap.size (Nat.le_refl _) S_dg T_dg HD p e ha hc hk s m _ below hf ((Spec.applies_iff_loose hf).mp happ).1 ⟨rfl, State.Warmed39.refl s, rfl⟩ trivial
  refine ⟨n, _, h1, h2, h3, hpost _ _ _ _ _ _ ⟨Cond.after_iff.mpr rfl, Cond.after_iff.mpr (eq_i res_at (Term.int_eval (1)) rfl), trivial⟩ ⟨hq.1, hq.2.1, (hq.2.2.sift fun y hy => Or.inr (N y hy)).mono (by decide) (by decide)⟩⟩
theorem main_1_1 : Claimed_1_1 := comes_1 fun _ _ _ _ _ _ h hF => ⟨h.1, hF⟩
theorem main_1_2 : Claimed_1_2 := comes_1 fun _ _ _ _ _ _ h hF => ⟨h.2.1, hF⟩
end Jvm.Pilot.@@N@@
namespace Jvm.Pilot.@@N@@
open Jvm Jvm.ClassFile Sem Op Lib Jvm.Free Jvm.Stand Jvm.Pilot.@@N@@.Jvm.D
/-! MADE BY PROGRAM (witnessworld.py) out of the Statement's table words and the real class files: 11 classes; the members and pool entries that the words name. The judged class is class 1, her method 1. -/
namespace start1
open Jvm.ClassFile
def u (s : String) : CpInfo := .utf8 (stringToUtf16 s)
/-- a pool by its gaps: so many unusable entries, then the entry; so many at the end -/
def gap : Nat → List CpInfo → List CpInfo
  | 0, r => r
  | n + 1, r => .unusable :: gap n r
def poolList (es : List (Nat × CpInfo)) (last : Nat) : List CpInfo := es.foldr (fun e r => gap e.1 (e.2 :: r)) (gap last [])
def pool (es : List (Nat × CpInfo)) (last : Nat) : Array CpInfo := ⟨poolList es last⟩
def fileOf (pool : Array CpInfo) (this : Nat) (attrs : Array Attribute := #[]) (ms : Array MethodInfo := #[]) (fl : Nat := 33) (sup : Nat := 0) (ifs : Array Nat := #[]) (fds : Array FieldInfo := #[]) : ClassFile where
  minorVersion := 0
  majorVersion := 65
  constantPool := pool
  accessFlags := fl
  thisClass := this
  superClass := sup
  interfaces := ifs
  fields := fds
  methods := ms
  attributes := attrs
def plain (name : String) (sup : Option ClassId) : Class where
  name := name
  kind := .ordinary
  loader := none
  accessFlags := 33
  super := sup
  interfaces := #[]
  cf := none
  fields := #[]
  methods := #[]
  instanceTypes := #[]
  staticTypes := #[]
  resolved := #[]
  callSites := []
  init := .initialized
  statics := none
  mirror := none

def pool0 : Array CpInfo := pool [(5, u "<init>"), (0, u "()V"), (1, .class_ 10), (1, u "java/lang/Object")] 113

def k0m0 : Method := { name := "<init>", desc := "()V", sig := { parameters := [], returnType := none }, accessFlags := 1, code := none }
/-- java/lang/Object -/
def k0 : Class := { plain "java/lang/Object" none with
  accessFlags := 33
  interfaces := #[]
  cf := some (fileOf pool0 8 #[] #[{ accessFlags := 1, nameIndex := 5, descriptorIndex := 6, attributes := #[] }] 33 0 #[] #[])
  fields := #[]
  methods := #[k0m0]
  instanceTypes := #[]
  staticTypes := #[]
  resolved := Array.replicate 124 none
  statics := none }

def pool1 : Array CpInfo := pool [(2, .class_ 4), (1, u "java/lang/Object"), (0, u "<init>"), (0, u "()V"), (0, .long 4294967295), (1, .integer 2147483647), (0, .methodref 11 12), (0, .class_ 13), (0, .nameAndType 14 15), (0, u "com/example/enqueue_to_disk/enqueuetodisk/format/internal/Unsigned32"), (0, u "writeHex"), (0, u "(J[CI)V"), (0, .methodref 17 18), (0, .class_ 19), (0, .nameAndType 20 21), (0, u "com/example/enqueue_to_disk/enqueuetodisk/format/internal/Unsigned32WriteHexPinLaw"), (0, u "at"), (0, u "([CIIJ)Z"), (0, .long 16), (3, u "law"), (0, u "(JI)Z")] 5

def k1m0 : Method := { name := "<init>", desc := "()V", sig := { parameters := [], returnType := none }, accessFlags := 1, code := none }
def k1c1 : Code := { maxStack := 5, maxLocals := 7, code := code, exceptionTable := #[], attributes := #[] }
def k1m1 : Method := { name := "law", desc := "(JI)Z", sig := { parameters := [.long, .int], returnType := some .boolean }, accessFlags := 9, code := some k1c1 }
def k1c2 : Code := { maxStack := 4, maxLocals := 10, code := method_3_code, exceptionTable := #[], attributes := #[] }
def k1m2 : Method := { name := "at", desc := "([CIIJ)Z", sig := { parameters := [(.array .char), .int, .int, .long], returnType := some .boolean }, accessFlags := 10, code := some k1c2 }
/-- com/example/enqueue_to_disk/enqueuetodisk/format/internal/Unsigned32WriteHexPinLaw -/
def k1 : Class := { plain "com/example/enqueue_to_disk/enqueuetodisk/format/internal/Unsigned32WriteHexPinLaw" (some 0) with
  accessFlags := 49
  interfaces := #[]
  cf := some (fileOf pool1 17 #[] #[{ accessFlags := 1, nameIndex := 5, descriptorIndex := 6, attributes := #[] }, { accessFlags := 9, nameIndex := 26, descriptorIndex := 27, attributes := #[] }, { accessFlags := 10, nameIndex := 20, descriptorIndex := 21, attributes := #[] }] 49 2 #[] #[])
  fields := #[]
  methods := #[k1m0, k1m1, k1m2]
  instanceTypes := #[]
  staticTypes := #[]
  resolved := Array.replicate 33 none
  statics := none }

def pool2 : Array CpInfo := pool [(2, .class_ 4), (1, u "java/lang/Object"), (0, u "<init>"), (0, u "()V"), (0, .class_ 8), (0, u "com/example/enqueue_to_disk/enqueuetodisk/format/internal/Unsigned32"), (11, .fieldref 7 21), (0, .nameAndType 22 23), (0, u "DIGITS"), (0, u "[C"), (2, u "writeHex"), (0, u "(J[CI)V"), (19, u "MAX"), (0, u "J"), (1, u "HEX_DIGITS"), (0, u "I")] 28

def k2m0 : Method := { name := "<init>", desc := "()V", sig := { parameters := [], returnType := none }, accessFlags := 2, code := none }
def k2c1 : Code := { maxStack := 6, maxLocals := 6, code := prog_111_method_3_code, exceptionTable := #[], attributes := #[] }
def k2m1 : Method := { name := "writeHex", desc := "(J[CI)V", sig := { parameters := [.long, (.array .char), .int], returnType := none }, accessFlags := 9, code := some k2c1 }
/-- com/example/enqueue_to_disk/enqueuetodisk/format/internal/Unsigned32 -/
def k2 : Class := { plain "com/example/enqueue_to_disk/enqueuetodisk/format/internal/Unsigned32" (some 0) with
  accessFlags := 49
  interfaces := #[]
  cf := some (fileOf pool2 7 #[] #[{ accessFlags := 2, nameIndex := 5, descriptorIndex := 6, attributes := #[] }, { accessFlags := 9, nameIndex := 26, descriptorIndex := 27, attributes := #[] }] 49 2 #[] #[{ accessFlags := 25, nameIndex := 47, descriptorIndex := 48, attributes := #[] }, { accessFlags := 25, nameIndex := 50, descriptorIndex := 51, attributes := #[] }, { accessFlags := 26, nameIndex := 22, descriptorIndex := 23, attributes := #[] }])
  fields := #[{ name := "MAX", type := .long, accessFlags := 25, slot := 0, constantValue := 0 }, { name := "HEX_DIGITS", type := .int, accessFlags := 25, slot := 1, constantValue := 0 }, { name := "DIGITS", type := (.array .char), accessFlags := 26, slot := 2, constantValue := 0 }]
  methods := #[k2m0, k2m1]
  instanceTypes := #[]
  staticTypes := #[.long, .int, (.array .char)]
  resolved := Array.replicate 80 none
  statics := some 0 }

def pool3 : Array CpInfo := pool [(1, u "java/lang/Cloneable"), (0, .class_ 1), (0, u "java/lang/Object"), (0, .class_ 3)] 3

/-- java/lang/Cloneable -/
def k3 : Class := { plain "java/lang/Cloneable" (some 0) with
  accessFlags := 1537
  interfaces := #[]
  cf := some (fileOf pool3 2 #[] #[] 1537 4 #[] #[])
  fields := #[]
  methods := #[]
  instanceTypes := #[]
  staticTypes := #[]
  resolved := Array.replicate 8 none
  statics := none }

def pool4 : Array CpInfo := pool [(1, u "java/io/Serializable"), (0, .class_ 1), (0, u "java/lang/Object"), (0, .class_ 3)] 3

/-- java/io/Serializable -/
def k4 : Class := { plain "java/io/Serializable" (some 0) with
  accessFlags := 1537
  interfaces := #[]
  cf := some (fileOf pool4 2 #[] #[] 1537 4 #[] #[])
  fields := #[]
  methods := #[]
  instanceTypes := #[]
  staticTypes := #[]
  resolved := Array.replicate 8 none
  statics := none }

/-- the primitive byte -/
def k5 : Class := { plain "byte" none with kind := .primitive 'B', accessFlags := 0x411 }
/-- [B -/
def k6 : Class := { plain "[B" (some 0) with kind := .array 5 .byte, interfaces := #[3, 4], accessFlags := 1041 }

/-- the primitive char -/
def k7 : Class := { plain "char" none with kind := .primitive 'C', accessFlags := 0x411 }
/-- [C -/
def k8 : Class := { plain "[C" (some 0) with kind := .array 7 .char, interfaces := #[3, 4], accessFlags := 1041 }

/-- the primitive int -/
def k9 : Class := { plain "int" none with kind := .primitive 'I', accessFlags := 0x411 }
/-- [I -/
def k10 : Class := { plain "[I" (some 0) with kind := .array 9 .int, interfaces := #[3, 4], accessFlags := 1041 }

def heap : Heap := #[{ cls := 2, slots := #[.long 0, .int 0, .ref 1], vm := .statics 2 },
  { cls := 8, slots := #[.int 48, .int 49, .int 50, .int 51, .int 52, .int 53, .int 54, .int 55, .int 56, .int 57, .int 97, .int 98, .int 99, .int 100, .int 101, .int 102], vm := .none }]
def classes : Array Class := #[k0, k1, k2, k3, k4, k5, k6, k7, k8, k9, k10]
def interned : List (Array UInt16 × Addr) := []
def slotsUsed : Nat := 19
def theMethod : MethodId := ⟨1, 1⟩
def args0 : Array Value := #[.long 5, .int 5]
def aboutOver (below : List Frame) : State where
  vm := { classes := classes, interned := interned.toArray }
  heap := heap
  slotsUsed := slotsUsed
  threads := #[{ frames := .invoking theMethod args0 :: below }]
def below0 : List Frame := [.native { method := ⟨0, 0⟩, args := #[] }]
def about1 : State := aboutOver below0
def p0 : Program := .bare "" "" ""
def e0 : Env := launch0.env 0 0 0
theorem w_frames : about1.frames = Frame.invoking theMethod args0 :: below0 := rfl
set_option maxRecDepth 65536 in
theorem w_args : argsFit about1.vm theMethod args0 = true := by decide +kernel
set_option maxRecDepth 65536 in
theorem w_heap : heapFits about1 = true := by decide +kernel
set_option maxRecDepth 65536 in
theorem w_runnable : about1.curStatus? = some .runnable := by decide +kernel
set_option maxRecDepth 65536 in
theorem w_alone : about1.alone = true := by decide +kernel
set_option maxRecDepth 65536 in
theorem w_named : about1.methodNamed? x = some theMethod := by decide +kernel
set_option maxRecDepth 65536 in
theorem w_hears : about1.hears theMethod below0 = true := by decide +kernel
set_option maxRecDepth 65536 in
theorem w_ripe : about1.ripe theMethod args0 below0 = true := by decide +kernel
theorem w_running : about1.status = .running := rfl
set_option maxRecDepth 65536 in
theorem w_room : about1.hasRoom e0.platform room_1 = true :=
  launch0.hasRoom_least _ room_1 (by decide +kernel) (by decide +kernel) (by decide +kernel) (by decide +kernel) (by decide +kernel) (by decide +kernel)
theorem allAtoms_all (ts : List Jvm.Cond) (a : Array Jvm.Value) (st : Jvm.State) : (allAtoms ts).before a st = ts.all (fun c => c.before a st) := by
  induction ts with
  | nil => rfl
  | cons c t ih =>
    show (Jvm.Cond.and c (allAtoms t)).before a st = _
    rw [Jvm.Cond.before_and, ih, List.all_cons]
def words1 : List Jvm.Cond := Jvm.Cond.code x code maxLocals ret :: tables_1
/-- a 'code' word, met by the world's own term for the bytes: nothing is compared byte by byte -/
theorem code_word {y : MethodName} {bytes : ByteArray} {mx : Nat} {rt : Option FieldType} {a : Array Value} {s : State} {m : MethodId} {meth : Method} {c : Code} (h1 : s.methodNamed? y = some m) (h2 : s.vm.method? m = some meth) (h3 : meth.code = some c) (h4 : c.code = bytes)
    (h5 : (c.maxLocals == mx && c.exceptionTable.isEmpty && decide (c.maxStack ≤ mostOperands) && decide (meth.sig.returnType = rt) && !meth.locks && decide (parseMethodDescriptor y.desc = some meth.sig)) = true) : (Jvm.Cond.code y bytes mx rt).before a s = true := by
  simp only [Bool.and_eq_true, beq_iff_eq, Bool.not_eq_true', decide_eq_true_eq] at h5
  obtain ⟨⟨⟨⟨⟨g1, g2⟩, g3⟩, g4⟩, g5⟩, g6⟩ := h5
  simp [Cond.before, Cond.holds, Cond.value, h1, h2, h3, h4, g1, g2, g3, g4, g5, g6]
def isCode : Jvm.Cond → Bool
  | .code _ _ _ _ => true
  | _ => false
theorem all_split {L : List Jvm.Cond} {P : Jvm.Cond → Bool} (h1 : L.all (fun c => isCode c || P c) = true) (h2 : ∀ c ∈ L.filter isCode, P c = true) : L.all P = true := by
  refine List.all_eq_true.mpr fun c hc => ?_
  have h := List.all_eq_true.mp h1 c hc
  rcases Bool.eq_false_or_eq_true (isCode c) with hi | hi
  · exact h2 c (List.mem_filter.mpr ⟨hc, hi⟩)
  · simpa [hi] using h
set_option maxRecDepth 65536 in
theorem w_c0 : (Jvm.Cond.code x code maxLocals ret).before args0 about1 = true := code_word (m := ⟨1, 1⟩) (meth := k1m1) (c := k1c1) (by decide +kernel) rfl rfl rfl (by decide +kernel)
set_option maxRecDepth 65536 in
theorem w_c1 : (Jvm.Cond.code ({ cls := "com/example/enqueue_to_disk/enqueuetodisk/format/internal/Unsigned32", name := "writeHex", desc := "(J[CI)V" } : Jvm.MethodName) prog_111_method_3_code (6 : Nat) (Option.none : Option Jvm.ClassFile.FieldType)).before args0 about1 = true := code_word (m := ⟨2, 1⟩) (meth := k2m1) (c := k2c1) (by decide +kernel) rfl rfl rfl (by decide +kernel)
set_option maxRecDepth 65536 in
theorem w_c2 : (Jvm.Cond.code ({ cls := "com/example/enqueue_to_disk/enqueuetodisk/format/internal/Unsigned32WriteHexPinLaw", name := "at", desc := "([CIIJ)Z" } : Jvm.MethodName) method_3_code (10 : Nat) (Option.some Jvm.ClassFile.FieldType.boolean)).before args0 about1 = true := code_word (m := ⟨1, 2⟩) (meth := k1m2) (c := k1c2) (by decide +kernel) rfl rfl rfl (by decide +kernel)
def codes1 : List Jvm.Cond := [Jvm.Cond.code x code maxLocals ret, Jvm.Cond.code ({ cls := "com/example/enqueue_to_disk/enqueuetodisk/format/internal/Unsigned32", name := "writeHex", desc := "(J[CI)V" } : Jvm.MethodName) prog_111_method_3_code (6 : Nat) (Option.none : Option Jvm.ClassFile.FieldType), Jvm.Cond.code ({ cls := "com/example/enqueue_to_disk/enqueuetodisk/format/internal/Unsigned32WriteHexPinLaw", name := "at", desc := "([CIIJ)Z" } : Jvm.MethodName) method_3_code (10 : Nat) (Option.some Jvm.ClassFile.FieldType.boolean)]
set_option maxRecDepth 65536 in
theorem codes_eq : words1.filter isCode = codes1 := rfl
theorem w_codes : ∀ c ∈ words1.filter isCode, c.before args0 about1 = true := by
  rw [codes_eq]
  intro c hc
  simp only [codes1, List.mem_cons, List.not_mem_nil, or_false] at hc
  rcases hc with rfl | rfl | rfl
  · exact w_c0
  · exact w_c1
  · exact w_c2
set_option maxRecDepth 65536 in
theorem w_t1 : words1.all (fun c => isCode c || c.before args0 about1) = true := by decide +kernel
theorem w_tables : (allAtoms (Jvm.Cond.code x code maxLocals ret :: tables_1)).before args0 about1 = true := by
  rw [allAtoms_all]
  show words1.all (fun c => c.before args0 about1) = true
  refine all_split ?_ w_codes
  rw [w_t1]
set_option maxRecDepth 65536 in
theorem w_case : (Jvm.Cond.and given_1 narrow_1).before args0 about1 = true := by decide +kernel
theorem w_applies : (headSpec (Jvm.Cond.code x code maxLocals ret :: tables_1) room_1).applies x e0.platform about1 = true :=
  (Spec.applies_iff w_frames).mpr ⟨w_running, w_runnable, w_alone, w_named, w_hears, w_ripe, w_room, w_tables⟩
theorem atStart : AtStart classFile x code maxLocals ret World_1 tables_1 room_1 Calls_1 rest_1 Pre_1 launch0 p0 e0 about1 theMethod args0 below0 :=
  ⟨lists_1, trivial, launch0.admits_env _ _ _, launch0.least_env, fairChoices_fair.cas, fairChoices_fair.clock, w_frames, w_args, w_heap, w_applies, trivial, trivial, w_case⟩
end start1
theorem witness_1 : WitnessClaimed_1 := ⟨start1.p0, start1.e0, start1.about1, start1.theMethod, start1.args0, start1.below0, start1.atStart⟩
end Jvm.Pilot.@@N@@
