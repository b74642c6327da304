import JvmDerived
import JvmDerived.Pilot.@@N@@Statement
import JvmDerived.Pilot.@@N@@Code
set_option linter.unusedVariables false
set_option linter.unusedSimpArgs false
namespace Jvm.RoadKit
open Sem ClassFile Op Lib Jvm.Stand Jvm.Free Jvm.LawKit
section New
variable {p : Program} {l : Launch} {e : Env} {R : Room} {s : State} {m : MethodId} {args : Array Value} {below : List Frame} {meth : Method} {c : Code} {T : State} {locs : List Loc} {cells slots : Nat}
theorem retI (X : Stand p l e R s m args below meth c T locs cells slots) (hx : p.tables.exec = Jvm.exec) {pc : Nat} {Ls : Array Slot} {z : Int32} {rest : List Value} (hret : meth.sig.returnType = some .int) (hd : decode c.code pc = .ok (.ireturn, 1)) {fs : List Frame}
    (hl : ∀ (f : JFrame) (acts : List Action), f.method = m → f.locked = none → f.entered = [] → (doReturn e (T.setTop f) acts (some (.int z))).1 = T.setFrames fs) : Steps p.tables e below (T.setTop (mkF m pc Ls (.int z :: rest))) (T.setFrames fs) := by
  have hm' : T.vm.method? m = some meth := X.method'
  have hn : narrow .int (.int z) = .int z := rfl
  show Steps p.tables e below (T.setTop { method := m, pc := pc, locals := Ls, stack := _ :: rest, locked := none }) _
  jvm_step X.here [X.here.top, hx, hd, hm', hret, hn]
  first | (intro acts; rw [hl _ acts rfl rfl rfl]) | rw [hl _ _ rfl rfl rfl]
  exact Steps.refl _
end New
end Jvm.RoadKit
namespace Jvm.Pilot.@@N@@
open Jvm Jvm.ClassFile Sem Op Lib Jvm.Free Jvm.Stand Jvm.LawKit Jvm.RoadKit Bundle Jvm.Pilot.@@N@@.Jvm.D
/-- what is left to run from S0 is what is left from T with the frame g on top -/
abbrev own_Pr (tb : Tables) (e : Env) (below : List Frame) (S0 T : State) (g : JFrame) : Prop := ∀ t, Steps tb e below (T.setTop g) t → Steps tb e below S0 t
/-- it returns the int r, the heap as it was -/
def own_QI (h0 : Heap) (n0 : Nat) (r : Int32) (v : Option Value) (h : Heap) (L : List Loc) : Prop := ∃ z, v = some (.int z) ∧ z = r ∧ Fr n0 L ∧ h = h0
def own_QJ (h0 : Heap) (n0 : Nat) (r : Int64) (v : Option Value) (h : Heap) (L : List Loc) : Prop := ∃ z, v = some (.long z) ∧ z = r ∧ Fr n0 L ∧ h = h0
def own_QR (h0 : Heap) (n0 : Nat) (r : Addr) (v : Option Value) (h : Heap) (L : List Loc) : Prop := ∃ z, v = some (.ref z) ∧ z = r ∧ Fr n0 L ∧ h = h0
def own_QL (n0 : Nat) (v : Option Value) (L : List Loc) : Prop := ∃ z : Int32, v = some (.int z) ∧ z = 1 ∧ Fr n0 L
def own_QV (h0 : Heap) (n0 : Nat) (v : Option Value) (h : Heap) (L : List Loc) : Prop := v = none ∧ Fr n0 L ∧ h = h0
theorem own_tab_other {Z : State} {h h' : Heap} {a b : Addr} {sl : Nat} {v : Value} {cl : Cell} {ty : FieldType} {n : Int32} (F : Tab Z h b cl ty n) (W : Wr h h' a sl v) (q : b ≠ a) : Tab Z h' b cl ty n := ⟨F.1.other W q, F.2⟩
theorem own_tab_keep {Z : State} {h h' : Heap} {b : Addr} {ws : List Addr} {cl : Cell} {ty : FieldType} {n : Int32} (F : Tab Z h b cl ty n) (K : Keep h h' ws) (q : b ∉ ws) : Tab Z h' b cl ty n := ⟨⟨K.2.1 b cl F.1.1 q, F.1.2⟩, F.2⟩
theorem own_tab {Z : State} {h : Heap} {a : Addr} {k : ClassId} {ty : FieldType} {n : Int32} {xs : List Int32} (F : Arv Z h a k ty n (xs.map Value.int) (.int 0)) : ∃ cl, Tab Z h a cl ty n ∧ ∀ j : Int32, ¬ j < 0 → j < n → atv cl j = xs.getD j.toNatClampNeg 0 := by
  obtain ⟨cl, A, -, S, hn, H, -⟩ := F
  have key : ∀ i, i < cl.slots.size → cl.slots[i]? = some (.int (xs.getD i 0)) := fun i hi => by
    rw [H i hi]; simp only [List.getD_eq_getElem?_getD, List.getElem?_map]
    cases xs[i]? <;> rfl
  have at' : ∀ j : Int32, ¬ (j < 0 ∨ cl.slots.size ≤ j.toNatClampNeg) → atv cl j = xs.getD j.toNatClampNeg 0 := fun j hj => atv_of (key _ (Nat.lt_of_not_le fun q => hj (Or.inr q)))
  exact ⟨cl, ⟨A, S, hn, fun j hj => by rw [at' j hj]; exact key _ (Nat.lt_of_not_le fun q => hj (Or.inr q))⟩, fun j h1 h2 => at' j (inb_of S ⟨h1, h2⟩)⟩
theorem own_lremM {p : Program} {l : Launch} {e : Env} {R : Room} {s : State} {m : MethodId} {args : Array Value} {below : List Frame} {meth : Method} {c : Code} {T : State} {locs : List Loc} {cells slots : Nat} {g : JFrame} {target : State} (X : Stand p l e R s m args below meth c T locs cells slots) (hx : p.tables.exec = Jvm.exec) (hg : g.method = m) {x y : Int64} {rest : List Value} (hd : decode c.code g.pc = .ok (.lrem, 1)) (hs : g.stack = .long y :: .long x :: rest) (hy : y ≠ 0)
    (hr : Steps p.tables e below (T.setTop { g with pc := g.pc + 1, stack := .long (x % y) :: rest }) target) : Steps p.tables e below (T.setTop g) target :=
  XS.lrem X.here hx hg hd hs hy (by rw [lrem_mod x y]; exact hr)
theorem own_wS {a0 : Array Value} {Z : State} (hw : ∀ d ∈ tables_1, d.before a0 Z = true) : ∀ a ∈ Bundle.stringAtoms, a.before a0 Z = true := fun a ha => by
  simp only [Bundle.stringAtoms, List.mem_cons, List.not_mem_nil, or_false] at ha
  rcases ha with rfl | rfl | rfl | rfl | rfl | rfl | rfl
  · exact (hw _ (List.mem_of_getElem? (i := 6) rfl))
  · exact (hw _ (List.mem_of_getElem? (i := 5) rfl))
  · exact (hw _ (List.mem_of_getElem? (i := 19) rfl))
  · exact (hw _ (List.mem_of_getElem? (i := 20) rfl))
  · exact (hw _ (List.mem_of_getElem? (i := 21) rfl))
  · exact (hw _ (List.mem_of_getElem? (i := 22) rfl))
  · exact (hw _ (List.mem_of_getElem? (i := 23) rfl))
theorem own_EW {a0 : Array Value} {Z : State} (hw : ∀ d ∈ tables_1, d.before a0 Z = true) : EW Z a0 consts_1 := (EW.cons (hw _ (List.mem_of_getElem? (i := 18) rfl)) (by decide) EW.nil)
/-- a String of n signs, all below 256; xs: its bytes -/
def own_Sc (Z : State) (h : Heap) (a : Addr) (n : Int32) (xs : List Int32) : Prop := ∃ (b : Addr) (k : ClassId), Exa Z h a "java/lang/String" ∧ Fld Z h a "java/lang/String" "coder" "B" (.int 0) ∧ Fld Z h a "java/lang/String" "value" "[B" (.ref b) ∧ Arv Z h b k .byte n (xs.map Value.int) (.int 0)
theorem own_Sc.exa {Z : State} {h : Heap} {a : Addr} {n : Int32} {xs : List Int32} (S : own_Sc Z h a n xs) : Exa Z h a "java/lang/String" := by obtain ⟨_, _, E, -⟩ := S; exact E
theorem own_Sc.ext {Z : State} {h h' : Heap} {a : Addr} {n : Int32} {xs : List Int32} (S : own_Sc Z h a n xs) (E : Ext h h') : own_Sc Z h' a n xs := by
  obtain ⟨b, k, e, c, v, A⟩ := S; exact ⟨b, k, e.ext E, c.ext E, v.ext E, A.ext E⟩
theorem own_Sc.keep0 {Z : State} {h h' : Heap} {a : Addr} {n : Int32} {xs : List Int32} (S : own_Sc Z h a n xs) (K : Keep h h' []) : own_Sc Z h' a n xs := by
  obtain ⟨b, k, e, c, v, A⟩ := S; exact ⟨b, k, e.keep K, c.keep K nin0, v.keep K nin0, A.keep K nin0⟩
/-- over a write to a place made since: both its cells are older -/
theorem own_Sc.keepN {Z : State} {h h' : Heap} {a x : Addr} {n : Int32} {xs : List Int32} {k0 : Nat} (S : own_Sc Z h a n xs) (L : ∃ b, Fld Z h a "java/lang/String" "value" "[B" (.ref b) ∧ a < k0 ∧ b < k0) (K : Keep h h' [x]) (q : k0 ≤ x) : own_Sc Z h' a n xs := by
  obtain ⟨b, k, e, c, v, A⟩ := S
  obtain ⟨b', v', l1, l2⟩ := L
  have eb : b' = b := by
    obtain ⟨c1, _, _, _, _, h1, h2, -, -, -, -, h7⟩ := v
    obtain ⟨c2, _, _, _, _, g1, g2, -, -, -, -, g7⟩ := v'
    cases h1.symm.trans g1; cases h2.symm.trans g2
    exact Value.ref.inj (Option.some.inj (g7.symm.trans h7))
  subst eb
  have n1 : a ≠ x := Nat.ne_of_lt (Nat.lt_of_lt_of_le l1 q)
  have n2 : b' ≠ x := Nat.ne_of_lt (Nat.lt_of_lt_of_le l2 q)
  exact ⟨b', k, e.keep K, c.keep K (ninS n1 nin0), v.keep K (ninS n1 nin0), A.keep K (ninS n2 nin0)⟩
theorem own_sta_keep0 {Z : State} {h h' : Heap} {C n d : String} {v : Value} (F : Sta Z h C n d v) (K : Keep h h' []) : Sta Z h' C n d v := by
  obtain ⟨cf, i, k, f, st, cell, h1, h2, h3, h4, h5, r⟩ := F; exact ⟨cf, i, k, f, st, cell, h1, h2, h3, h4, K.2.1 _ _ h5 nin0, r⟩
theorem own_sta_keep {Z : State} {h h' : Heap} {C n d D : String} {v : Value} {x : Addr} (F : Sta Z h C n d v) (K : Keep h h' [x]) (E : Exa Z h x D) : Sta Z h' C n d v := by
  obtain ⟨cf, i, k, f, st, cell, h1, h2, h3, h4, h5, h6, r⟩ := F
  obtain ⟨cx, _, g1, -, -, g4, -⟩ := E
  refine ⟨cf, i, k, f, st, cell, h1, h2, h3, h4, K.2.1 _ _ h5 (ninS (fun e => ?_) nin0), h6, r⟩
  subst e; cases h5.symm.trans g1; rw [g4] at h6; cases h6
theorem own_narC (y : Int32) : nar .char (y.toUInt32.toUInt16.toUInt32.toInt32) = y.toUInt32.toUInt16.toUInt32.toInt32 := by
  show (y.toUInt32.toUInt16.toUInt32.toInt32).toUInt32.toUInt16.toUInt32.toInt32 = _
  apply Int32.toBitVec_inj.mp
  show ((((y.toBitVec.setWidth 16).setWidth 32).setWidth 16).setWidth 32) = (y.toBitVec.setWidth 16).setWidth 32
  congr 1
  generalize y.toBitVec.setWidth 16 = w
  apply BitVec.eq_of_toNat_eq
  simp only [BitVec.toNat_setWidth]
  have := w.isLt
  omega
theorem own_narB (y : Int32) : nar .byte (y.toInt8.toInt32) = y.toInt8.toInt32 := by
  show (y.toInt8.toInt32).toInt8.toInt32 = _
  simp
theorem own_nar255 (x : Int32) : nar .char (x &&& 255) = x &&& 255 := by rw [← i2c_mask x]; exact own_narC _
theorem own_bm (x : Int32) : x.toInt8.toInt32 &&& 255 = x &&& 255 := by
  apply Int32.toBitVec_inj.mp
  show ((x.toBitVec.signExtend 8).signExtend 32) &&& 255#32 = x.toBitVec &&& 255#32
  generalize x.toBitVec = w
  ext i hi
  have : i = 0 ∨ i = 1 ∨ i = 2 ∨ i = 3 ∨ i = 4 ∨ i = 5 ∨ i = 6 ∨ i = 7 ∨ 8 ≤ i := by omega
  rcases this with rfl | rfl | rfl | rfl | rfl | rfl | rfl | rfl | h8
  iterate 8 simp [BitVec.getElem_signExtend]
  have e : (255#32)[i] = false := by
    have : (255#32).getLsbD i = false := by
      rw [BitVec.getLsbD_ofNat]; simp [hi]
      apply Nat.testBit_lt_two_pow; exact Nat.lt_of_lt_of_le (by decide : 255 < 2^8) (Nat.pow_le_pow_right (by decide) h8)
    simpa [BitVec.getLsbD_eq_getElem hi] using this
  simp [BitVec.getElem_and, e]
theorem own_gcp (c : Int32) : (((((c >>> ((0 : Int32) &&& 31)).toInt8.toInt32) &&& 255) <<< ((0 : Int32) &&& 31)) ||| ((((c >>> ((8 : Int32) &&& 31)).toInt8.toInt32) &&& 255) <<< ((8 : Int32) &&& 31))).toUInt32.toUInt16.toUInt32.toInt32 = c.toUInt32.toUInt16.toUInt32.toInt32 := by
  rw [own_bm, own_bm]
  have e0 : (0 : Int32) &&& 31 = 0 := by decide
  have e8 : (8 : Int32) &&& 31 = 8 := by decide
  rw [e0, e8]
  apply Int32.toBitVec_inj.mp
  show (((((c.toBitVec.sshiftRight 0) &&& 255#32) <<< 0) ||| (((c.toBitVec.sshiftRight 8) &&& 255#32) <<< 8)).setWidth 16).setWidth 32 = (c.toBitVec.setWidth 16).setWidth 32
  generalize c.toBitVec = w
  congr 1
  ext i hi
  have : i = 0 ∨ i = 1 ∨ i = 2 ∨ i = 3 ∨ i = 4 ∨ i = 5 ∨ i = 6 ∨ i = 7 ∨ i = 8 ∨ i = 9 ∨ i = 10 ∨ i = 11 ∨ i = 12 ∨ i = 13 ∨ i = 14 ∨ i = 15 := by omega
  rcases this with rfl | rfl | rfl | rfl | rfl | rfl | rfl | rfl | rfl | rfl | rfl | rfl | rfl | rfl | rfl | rfl
  all_goals simp [BitVec.getElem_sshiftRight]
theorem own_chb {c : Int32} (h : c.toUInt32.toUInt16.toUInt32.toInt32 = c) : 0 ≤ c.toInt ∧ c.toInt < 65536 := by
  have q := congrArg Int32.toInt h.symm
  have e : (c.toUInt32.toUInt16.toUInt32.toInt32).toInt = ((c.toBitVec.setWidth 16).setWidth 32).toInt := rfl
  rw [e, BitVec.toInt_eq_toNat_of_lt (by have := (c.toBitVec.setWidth 16).isLt; simp only [BitVec.toNat_setWidth]; omega)] at q
  have h1 := (c.toBitVec.setWidth 16).isLt
  simp only [BitVec.toNat_setWidth] at q h1
  omega
theorem own_byp {c : Int32} (h : c.toUInt32.toUInt16.toUInt32.toInt32 = c) (hl : ¬ (255 : Int32) < c) : c &&& 255 = c := by
  have q := own_chb h
  have e : (255 : Int32).toInt = 255 := rfl
  rw [Int32.lt_iff_toInt_lt, e] at hl
  apply Int32.toBitVec_inj.mp
  show c.toBitVec &&& 255#32 = c.toBitVec
  apply BitVec.eq_of_toNat_eq
  rw [BitVec.toNat_and]
  show c.toBitVec.toNat &&& (2^8 - 1) = c.toBitVec.toNat
  rw [Nat.and_two_pow_sub_one_eq_mod]
  have : c.toInt = (c.toBitVec.toNat : Int) := by
    show c.toBitVec.toInt = _
    rw [BitVec.toInt_eq_toNat_cond]
    have q1 : 0 ≤ c.toBitVec.toInt := q.1
    rw [BitVec.toInt_eq_toNat_cond] at q1
    split at q1
    · rename_i h; rw [if_pos h]
    · have := c.toBitVec.isLt; omega
  omega
theorem own_safeNull {Z : State} {EL : List (String × Nat)} {vm : Vm} {h : Heap} {x : Addr} (hal : Z.vm.Alike vm) (E : Exa Z h x "java/lang/String") (F : Fld Z h x "java/lang/String" "value" "[B" .null) : Safe Z EL vm h x := fun B => by
  obtain ⟨p, -, u, a, -, q, -, G, rfl | rfl⟩ := B
  · obtain ⟨cS, ⟨⟨s1, s2, s3, ⟨cv, kv, iv, s4, s4'⟩, s5, s6, s7, s8, -⟩, -, -⟩, -⟩ := G
    obtain ⟨kv', z4⟩ := ff_back (U := Wst Z vm h) hal s4
    obtain ⟨c1, _, _, _, f1, g1, g2, -, -, -, -, g7⟩ := F
    cases (show h[q.sa]? = some q.sC from s1).symm.trans g1
    cases z4.symm.trans g2
    have t := s8.symm.trans g7
    cases (Option.some.inj t)
  · obtain ⟨cell, k, e1, e2, e3, -, -⟩ := E
    cases (show h[q.sd]? = some q.SA from G.hd).symm.trans e1
    obtain ⟨cS, -, -, f, -⟩ := G
    have f' : vm.findClass "[B" = some q.SA.cls := f
    rw [hal.findClass] at f'
    obtain ⟨k1, q1, q2⟩ := Vm.findClass_spec f'
    obtain ⟨k2, q3, q4⟩ := Vm.findClass_spec e2
    cases q1.symm.trans q3
    exact absurd (q2.symm.trans q4) (by decide)
theorem own_sta_keepA {Z : State} {h h' : Heap} {C n d : String} {v : Value} {x : Addr} {kk : ClassId} {ty : FieldType} {m : Int32} {vs : List Value} {dv : Value} (F : Sta Z h C n d v) (K : Keep h h' [x]) (A : Arv Z h x kk ty m vs dv) : Sta Z h' C n d v := by
  obtain ⟨cf, i, k, f, st, cell, h1, h2, h3, h4, h5, h6, r⟩ := F
  obtain ⟨cx, ⟨g1, g2, -⟩, -⟩ := A
  refine ⟨cf, i, k, f, st, cell, h1, h2, h3, h4, K.2.1 _ _ h5 (ninS (fun e => ?_) nin0), h6, r⟩
  subst e; cases h5.symm.trans g1
  have q := g2.1
  cases hv : cell.vm <;> first | exact q _ hv | (rw [hv] at h6; exact Bool.noConfusion h6)
/-- a String of wide signs: coder 1, n2 bytes -/
def own_Su (Z : State) (h : Heap) (a : Addr) (n2 : Int32) (xs : List Int32) : Prop := ∃ (b : Addr) (k : ClassId), Exa Z h a "java/lang/String" ∧ Fld Z h a "java/lang/String" "coder" "B" (.int 1) ∧ Fld Z h a "java/lang/String" "value" "[B" (.ref b) ∧ Arv Z h b k .byte n2 (xs.map Value.int) (.int 0)
theorem own_Su.exa {Z : State} {h : Heap} {a : Addr} {n : Int32} {xs : List Int32} (S : own_Su Z h a n xs) : Exa Z h a "java/lang/String" := by obtain ⟨_, _, E, -⟩ := S; exact E
theorem own_Su.ext {Z : State} {h h' : Heap} {a : Addr} {n : Int32} {xs : List Int32} (S : own_Su Z h a n xs) (E : Ext h h') : own_Su Z h' a n xs := by
  obtain ⟨b, k, e, c, v, A⟩ := S; exact ⟨b, k, e.ext E, c.ext E, v.ext E, A.ext E⟩
theorem own_Su.keep0 {Z : State} {h h' : Heap} {a : Addr} {n : Int32} {xs : List Int32} (S : own_Su Z h a n xs) (K : Keep h h' []) : own_Su Z h' a n xs := by
  obtain ⟨b, k, e, c, v, A⟩ := S; exact ⟨b, k, e.keep K, c.keep K nin0, v.keep K nin0, A.keep K nin0⟩
/-- a String of n signs (0, 1 or 2): c0, c1 -/
def own_S (Z : State) (h : Heap) (a : Addr) (n c0 c1 : Int32) : Prop :=
  (n = 0 ∧ own_Sc Z h a 0 []) ∨ (n = 1 ∧ (¬ (255 : Int32) < c0) ∧ own_Sc Z h a 1 [(nar .byte (c0.toInt8.toInt32))]) ∨ (n = 1 ∧ own_Su Z h a 2 [(nar .byte ((c0 >>> ((0 : Int32) &&& 31)).toInt8.toInt32)), (nar .byte ((c0 >>> ((8 : Int32) &&& 31)).toInt8.toInt32))]) ∨ (n = 2 ∧ (¬ (255 : Int32) < c0) ∧ (¬ (255 : Int32) < c1) ∧ own_Sc Z h a 2 [(nar .byte (c0.toInt8.toInt32)), (nar .byte (c1.toInt8.toInt32))]) ∨ (n = 2 ∧ own_Su Z h a 4 [(nar .byte ((c0 >>> ((0 : Int32) &&& 31)).toInt8.toInt32)), (nar .byte ((c0 >>> ((8 : Int32) &&& 31)).toInt8.toInt32)), (nar .byte ((c1 >>> ((0 : Int32) &&& 31)).toInt8.toInt32)), (nar .byte ((c1 >>> ((8 : Int32) &&& 31)).toInt8.toInt32))])
theorem own_S.exa {Z : State} {h : Heap} {a : Addr} {n c0 c1 : Int32} (S : own_S Z h a n c0 c1) : Exa Z h a "java/lang/String" := by
  rcases S with ⟨-, S⟩ | ⟨-, -, S⟩ | ⟨-, S⟩ | ⟨-, -, -, S⟩ | ⟨-, S⟩ <;> exact S.exa
theorem own_S.ext {Z : State} {h h' : Heap} {a : Addr} {n c0 c1 : Int32} (S : own_S Z h a n c0 c1) (E : Ext h h') : own_S Z h' a n c0 c1 := by
  rcases S with ⟨u, S⟩ | ⟨u, v, S⟩ | ⟨u, S⟩ | ⟨u, v, w, S⟩ | ⟨u, S⟩
  · exact Or.inl ⟨u, S.ext E⟩
  · exact Or.inr (Or.inl ⟨u, v, S.ext E⟩)
  · exact Or.inr (Or.inr (Or.inl ⟨u, S.ext E⟩))
  · exact Or.inr (Or.inr (Or.inr (Or.inl ⟨u, v, w, S.ext E⟩)))
  · exact Or.inr (Or.inr (Or.inr (Or.inr ⟨u, S.ext E⟩)))
theorem own_S.keep0 {Z : State} {h h' : Heap} {a : Addr} {n c0 c1 : Int32} (S : own_S Z h a n c0 c1) (E : Keep h h' []) : own_S Z h' a n c0 c1 := by
  rcases S with ⟨u, S⟩ | ⟨u, v, S⟩ | ⟨u, S⟩ | ⟨u, v, w, S⟩ | ⟨u, S⟩
  · exact Or.inl ⟨u, S.keep0 E⟩
  · exact Or.inr (Or.inl ⟨u, v, S.keep0 E⟩)
  · exact Or.inr (Or.inr (Or.inl ⟨u, S.keep0 E⟩))
  · exact Or.inr (Or.inr (Or.inr (Or.inl ⟨u, v, w, S.keep0 E⟩)))
  · exact Or.inr (Or.inr (Or.inr (Or.inr ⟨u, S.keep0 E⟩)))
/-- what getChar makes of two bytes -/
def own_gc (x y : Int32) : Int32 := (((x &&& (255 : Int32)) <<< ((0 : Int32) &&& 31)) ||| ((y &&& (255 : Int32)) <<< ((8 : Int32) &&& 31))).toUInt32.toUInt16.toUInt32.toInt32
/-- a char -/
def own_ch (c : Int32) : Prop := c.toUInt32.toUInt16.toUInt32.toInt32 = c
theorem own_ch.nar {c : Int32} (h : own_ch c) : nar .char c = c := h
theorem own_ch.of (c : Int32) : own_ch (c.toUInt32.toUInt16.toUInt32.toInt32) := own_narC c
theorem own_gc_eq {c : Int32} (h : own_ch c) : own_gc (nar .byte ((c >>> ((0 : Int32) &&& 31)).toInt8.toInt32)) (nar .byte ((c >>> ((8 : Int32) &&& 31)).toInt8.toInt32)) = c := by
  unfold own_gc
  rw [own_narB, own_narB]
  exact (own_gcp c).trans h
theorem own_by_eq {c : Int32} (h : own_ch c) (hl : ¬ (255 : Int32) < c) : (nar .byte (c.toInt8.toInt32)) &&& 255 = c := by
  rw [own_narB, own_bm]
  exact own_byp h hl
theorem d7_0 : decode jdk_42_method_152_code 0 = .ok (.getstatic 38, 3) := by decide +kernel
theorem d7_3 : decode jdk_42_method_152_code 3 = .ok (.ifCond .eq 10, 3) := by decide +kernel
theorem d7_6 : decode jdk_42_method_152_code 6 = .ok (.aload_n 0, 1) := by decide +kernel
theorem d7_7 : decode jdk_42_method_152_code 7 = .ok (.getfield 15, 3) := by decide +kernel
theorem d7_10 : decode jdk_42_method_152_code 10 = .ok (.goto 4, 3) := by decide +kernel
theorem d7_14 : decode jdk_42_method_152_code 14 = .ok (.ireturn, 1) := by decide +kernel
theorem pn_7 : plainName "java/lang/String" = true := by first | (simp [plainName, overriddenIn]; done) | decide +kernel
theorem ef_7 (m : MethodId) (a1 : Addr) : entryFrame m #[(.ref a1)] 1 = mkF m 0 #[.val (.ref a1)] [] := by first | (simp [entryFrame, mkF, argsToLocals, Value.category]; done) | rfl
def own_f7 (cs : Int32) : Int32 := (0 : Int32)
set_option maxRecDepth 65536 in
set_option maxHeartbeats 40000000 in
theorem rm7 (l : Launch) (Z : State) (a0 : Array Value) (hw : ∀ d ∈ tables_1, d.before a0 Z = true) (ws : List Jvm.Cond) (a1 : Addr) (cs : Int32) (h0 : Heap) (n0 : Nat) (Z0 : n0 ≤ h0.size) (Fc : Fld Z h0 a1 "java/lang/String" "coder" "B" (.int (0 : Int32))) (CS : Sta Z h0 "java/lang/String" "COMPACT_STRINGS" "Z" (.int cs)) (hcs : ¬ cs = (0 : Int32)) :
    MetFree l (⟨"java/lang/String", "coder", "()B"⟩ : MethodName) (head1 (Jvm.Cond.code (⟨"java/lang/String", "coder", "()B"⟩ : MethodName) jdk_42_method_152_code 1 (some .byte) :: ws) ({ frames := 0, cells := 0, slots := 0, locals := 0 } : Room)) (fun a U => a = #[(.ref a1)] ∧ Z.Warmed39 U.vm ∧ U.heap = h0) (fun _ _ _ _ _ => True) (fun _ U o U' => ∃ v L, o = .returned v ∧ own_QI h0 n0 (own_f7 cs) v U'.heap L ∧ FrameEnd U o U' L ({ frames := 0, cells := 0, slots := 0, locals := 0 } : Room).cells ({ frames := 0, cells := 0, slots := 0, locals := 0 } : Room).slots) := by
  refine MetFree.of_bodySF (plainFor_of_name pn_7) hisR ?_
  intro p e s m args below meth c s₁ Bd hml0 hP hK
  obtain ⟨rfl, hZ, hh⟩ := hP
  have hx := Bd.exec
  have hby := Bd.bytes
  have hml : c.maxLocals = 1 := hml0
  have hown : s.vm.findClass "java/lang/String" = some m.cls := findClass_of_methodNamed Bd.named
  have hnm := (name_of_methodNamed Bd.named Bd.method).1
  have X0 : Stand p l e ({ frames := 0, cells := 0, slots := 0, locals := 0 } : Room) s m #[(.ref a1)] below meth c s₁ [] 0 0 := Stand.of_body Bd
  have e0 : s₁.heap = h0 := by rw [← hh, Bd.state]; rfl
  have N0 := Fr.nil n0
  obtain ⟨S0, hS0⟩ : ∃ z, z = s₁.setTop (entryFrame m #[(.ref a1)] 1) := ⟨_, rfl⟩
  have P0 : own_Pr p.tables e below S0 s₁ (mkF m 0 #[.val (.ref a1)] []) := fun t k => hS0 ▸ castTop (ef_7 m a1) k
  obtain ⟨T1, X1, e1, st1⟩ := getS2 X0 hx hZ hown (host := "") (Or.inl (hw _ (List.mem_of_getElem? (i := 40) rfl))) Via.refl e0 CS (g := (mkF m 0 #[.val (.ref a1)] [])) rfl (hb hby d7_0)
  have P2 : own_Pr p.tables e below S0 T1 (mkF m 3 #[.val (.ref a1)] [(.int cs)]) := fun t k => P0 t (st1 _ k)
  have P3 : own_Pr p.tables e below S0 T1 (mkF m 7 #[.val (.ref a1)] [(.ref a1)]) := fun t k => P2 t (by
    refine XS.ifNo X1.here hx rfl (hb hby d7_3) rfl (XT.i0_eq_f hcs) ?_
    show Steps p.tables e below (T1.setTop (mkF m 6 #[.val (.ref a1)] [])) _
    refine XS.aloadN X1.here hx rfl (hb hby d7_6) rfl rfl ?_
    show Steps p.tables e below (T1.setTop (mkF m 7 #[.val (.ref a1)] [(.ref a1)])) _
    exact k)
  obtain ⟨T4, X4, e4, st4⟩ := getF X1 hx hZ hown (host := "") (Or.inl (hw _ (List.mem_of_getElem? (i := 25) rfl))) Via.refl e1 Fc (g := (mkF m 7 #[.val (.ref a1)] [(.ref a1)])) rfl rfl (hb hby d7_7)
  have P5 : own_Pr p.tables e below S0 T4 (mkF m 10 #[.val (.ref a1)] [(.int (0 : Int32))]) := fun t k => P3 t (st4 _ k)
  have P6 : own_Pr p.tables e below S0 T4 (mkF m 14 #[.val (.ref a1)] [(.int (0 : Int32))]) := fun t k => P5 t (by
    refine XS.goto X4.here hx rfl (pc0 := 10) (pc' := 14) rfl (hb hby d7_10) (by decide) (by decide) ?_
    show Steps p.tables e below (T4.setTop (mkF m 14 #[.val (.ref a1)] [(.int (0 : Int32))])) _
    exact k)
  obtain ⟨fs, hr, hrun, hended, hW, hsame⟩ := X4.leave (v := some (.int (0 : Int32))) (fun h => by rw [Bd.returns] at h; cases h)
  have fin : Steps p.tables e below S0 (T4.setFrames fs) := P6 _ (retN X4 hx (t := .byte) Bd.returns (by simp) (hb hby d7_14) hr)
  rw [hS0] at fin
  refine ⟨_, _, fin, hrun, hended, _, _, rfl, ?_, ⟨_, rfl⟩, hW, hsame.mono (by decide) (by decide)⟩
  show own_QI h0 n0 (own_f7 cs) _ T4.heap _
  rw [e4]
  exact ⟨_, rfl, (by unfold own_f7; rfl), N0, rfl⟩
theorem d28_0 : decode jdk_42_method_154_code 0 = .ok (.getstatic 38, 3) := by decide +kernel
theorem d28_3 : decode jdk_42_method_154_code 3 = .ok (.ifCond .eq 14, 3) := by decide +kernel
theorem d28_6 : decode jdk_42_method_154_code 6 = .ok (.aload_n 0, 1) := by decide +kernel
theorem d28_7 : decode jdk_42_method_154_code 7 = .ok (.getfield 15, 3) := by decide +kernel
theorem d28_10 : decode jdk_42_method_154_code 10 = .ok (.ifCond .ne 7, 3) := by decide +kernel
theorem d28_13 : decode jdk_42_method_154_code 13 = .ok (.iconst 1, 1) := by decide +kernel
theorem d28_14 : decode jdk_42_method_154_code 14 = .ok (.goto 4, 3) := by decide +kernel
theorem d28_18 : decode jdk_42_method_154_code 18 = .ok (.ireturn, 1) := by decide +kernel
theorem ef_28 (m : MethodId) (a1 : Addr) : entryFrame m #[(.ref a1)] 1 = mkF m 0 #[.val (.ref a1)] [] := by first | (simp [entryFrame, mkF, argsToLocals, Value.category]; done) | rfl
set_option maxRecDepth 65536 in
set_option maxHeartbeats 40000000 in
theorem rm28 (l : Launch) (Z : State) (a0 : Array Value) (hw : ∀ d ∈ tables_1, d.before a0 Z = true) (ws : List Jvm.Cond) (a1 : Addr) (cs : Int32) (h0 : Heap) (n0 : Nat) (Z0 : n0 ≤ h0.size) (Fc : Fld Z h0 a1 "java/lang/String" "coder" "B" (.int (0 : Int32))) (CS : Sta Z h0 "java/lang/String" "COMPACT_STRINGS" "Z" (.int cs)) (hcs : ¬ cs = (0 : Int32)) :
    MetFree l (⟨"java/lang/String", "isLatin1", "()Z"⟩ : MethodName) (head1 (Jvm.Cond.code (⟨"java/lang/String", "isLatin1", "()Z"⟩ : MethodName) jdk_42_method_154_code 1 (some .boolean) :: ws) ({ frames := 0, cells := 0, slots := 0, locals := 0 } : Room)) (fun a U => a = #[(.ref a1)] ∧ Z.Warmed39 U.vm ∧ U.heap = h0) (fun _ _ _ _ _ => True) (fun _ U o U' => ∃ v L, o = .returned v ∧ own_QI h0 n0 1 v U'.heap L ∧ FrameEnd U o U' L ({ frames := 0, cells := 0, slots := 0, locals := 0 } : Room).cells ({ frames := 0, cells := 0, slots := 0, locals := 0 } : Room).slots) := by
  refine MetFree.of_bodySF (plainFor_of_name pn_7) hisR ?_
  intro p e s m args below meth c s₁ Bd hml0 hP hK
  obtain ⟨rfl, hZ, hh⟩ := hP
  have hx := Bd.exec
  have hby := Bd.bytes
  have hml : c.maxLocals = 1 := hml0
  have hown : s.vm.findClass "java/lang/String" = some m.cls := findClass_of_methodNamed Bd.named
  have hnm := (name_of_methodNamed Bd.named Bd.method).1
  have X0 : Stand p l e ({ frames := 0, cells := 0, slots := 0, locals := 0 } : Room) s m #[(.ref a1)] below meth c s₁ [] 0 0 := Stand.of_body Bd
  have e0 : s₁.heap = h0 := by rw [← hh, Bd.state]; rfl
  have N0 := Fr.nil n0
  obtain ⟨S0, hS0⟩ : ∃ z, z = s₁.setTop (entryFrame m #[(.ref a1)] 1) := ⟨_, rfl⟩
  have P0 : own_Pr p.tables e below S0 s₁ (mkF m 0 #[.val (.ref a1)] []) := fun t k => hS0 ▸ castTop (ef_28 m a1) k
  obtain ⟨T1, X1, e1, st1⟩ := getS2 X0 hx hZ hown (host := "") (Or.inl (hw _ (List.mem_of_getElem? (i := 40) rfl))) Via.refl e0 CS (g := (mkF m 0 #[.val (.ref a1)] [])) rfl (hb hby d28_0)
  have P2 : own_Pr p.tables e below S0 T1 (mkF m 3 #[.val (.ref a1)] [(.int cs)]) := fun t k => P0 t (st1 _ k)
  have P3 : own_Pr p.tables e below S0 T1 (mkF m 7 #[.val (.ref a1)] [(.ref a1)]) := fun t k => P2 t (by
    refine XS.ifNo X1.here hx rfl (hb hby d28_3) rfl (XT.i0_eq_f hcs) ?_
    show Steps p.tables e below (T1.setTop (mkF m 6 #[.val (.ref a1)] [])) _
    refine XS.aloadN X1.here hx rfl (hb hby d28_6) rfl rfl ?_
    show Steps p.tables e below (T1.setTop (mkF m 7 #[.val (.ref a1)] [(.ref a1)])) _
    exact k)
  obtain ⟨T4, X4, e4, st4⟩ := getF X1 hx hZ hown (host := "") (Or.inl (hw _ (List.mem_of_getElem? (i := 25) rfl))) Via.refl e1 Fc (g := (mkF m 7 #[.val (.ref a1)] [(.ref a1)])) rfl rfl (hb hby d28_7)
  have P5 : own_Pr p.tables e below S0 T4 (mkF m 10 #[.val (.ref a1)] [(.int (0 : Int32))]) := fun t k => P3 t (st4 _ k)
  have P6 : own_Pr p.tables e below S0 T4 (mkF m 18 #[.val (.ref a1)] [(.int (1 : Int32))]) := fun t k => P5 t (by
    refine XS.ifNo X4.here hx rfl (hb hby d28_10) rfl (by decide) ?_
    show Steps p.tables e below (T4.setTop (mkF m 13 #[.val (.ref a1)] [])) _
    refine XS.iconst X4.here hx rfl (hb hby d28_13) ?_
    show Steps p.tables e below (T4.setTop (mkF m 14 #[.val (.ref a1)] [(.int (1 : Int32))])) _
    refine XS.goto X4.here hx rfl (pc0 := 14) (pc' := 18) rfl (hb hby d28_14) (by decide) (by decide) ?_
    show Steps p.tables e below (T4.setTop (mkF m 18 #[.val (.ref a1)] [(.int (1 : Int32))])) _
    exact k)
  obtain ⟨fs, hr, hrun, hended, hW, hsame⟩ := X4.leave (v := some (.int (1 : Int32))) (fun h => by rw [Bd.returns] at h; cases h)
  have fin : Steps p.tables e below S0 (T4.setFrames fs) := P6 _ (retN X4 hx (t := .boolean) Bd.returns (by simp) (hb hby d28_18) hr)
  rw [hS0] at fin
  refine ⟨_, _, fin, hrun, hended, _, _, rfl, ?_, ⟨_, rfl⟩, hW, hsame.mono (by decide) (by decide)⟩
  show own_QI h0 n0 1 _ T4.heap _
  rw [e4]
  exact ⟨_, rfl, rfl, N0, rfl⟩
theorem own_len_eq (n : Int32) : n >>> ((0 : Int32) &&& 31) = n := by
  have e : (0 : Int32) &&& 31 = 0 := by decide
  rw [e]; simp
theorem d6_0 : decode jdk_42_method_54_code 0 = .ok (.aload_n 0, 1) := by decide +kernel
theorem d6_1 : decode jdk_42_method_54_code 1 = .ok (.getfield 9, 3) := by decide +kernel
theorem d6_4 : decode jdk_42_method_54_code 4 = .ok (.arraylength, 1) := by decide +kernel
theorem d6_5 : decode jdk_42_method_54_code 5 = .ok (.aload_n 0, 1) := by decide +kernel
theorem d6_6 : decode jdk_42_method_54_code 6 = .ok (.invokevirtual 335, 3) := by decide +kernel
theorem d6_9 : decode jdk_42_method_54_code 9 = .ok (.ishr, 1) := by decide +kernel
theorem d6_10 : decode jdk_42_method_54_code 10 = .ok (.ireturn, 1) := by decide +kernel
theorem pd_0 : parseMethodDescriptor "()B" = some ⟨[], some .byte⟩ := by decide +kernel
theorem ef_6 (m : MethodId) (a1 : Addr) : entryFrame m #[(.ref a1)] 1 = mkF m 0 #[.val (.ref a1)] [] := by first | (simp [entryFrame, mkF, argsToLocals, Value.category]; done) | rfl
set_option maxRecDepth 65536 in
set_option maxHeartbeats 40000000 in
theorem rm6 (l : Launch) (Z : State) (a0 : Array Value) (hw : ∀ d ∈ tables_1, d.before a0 Z = true) (ws : List Jvm.Cond) (a1 : Addr) (n : Int32) (xs : List Int32) (cs : Int32) (h0 : Heap) (n0 : Nat) (Z0 : n0 ≤ h0.size) (Sa : own_Sc Z h0 a1 n xs) (CS : Sta Z h0 "java/lang/String" "COMPACT_STRINGS" "Z" (.int cs)) (hcs : ¬ cs = (0 : Int32)) :
    MetFree l (⟨"java/lang/String", "length", "()I"⟩ : MethodName) (head1 (Jvm.Cond.code (⟨"java/lang/String", "length", "()I"⟩ : MethodName) jdk_42_method_54_code 1 (some .int) :: ws) ({ frames := 1, cells := 0, slots := 0, locals := 13 } : Room)) (fun a U => a = #[(.ref a1)] ∧ Z.Warmed39 U.vm ∧ U.heap = h0) (fun _ _ _ _ _ => True) (fun _ U o U' => ∃ v L, o = .returned v ∧ own_QI h0 n0 n v U'.heap L ∧ FrameEnd U o U' L ({ frames := 1, cells := 0, slots := 0, locals := 13 } : Room).cells ({ frames := 1, cells := 0, slots := 0, locals := 13 } : Room).slots) := by
  refine MetFree.of_bodySF (plainFor_of_name pn_7) hisR ?_
  intro p e s m args below meth c s₁ Bd hml0 hP hK
  obtain ⟨rfl, hZ, hh⟩ := hP
  have hx := Bd.exec
  have hby := Bd.bytes
  have hml : c.maxLocals = 1 := hml0
  have hown : s.vm.findClass "java/lang/String" = some m.cls := findClass_of_methodNamed Bd.named
  have hnm := (name_of_methodNamed Bd.named Bd.method).1
  have X0 : Stand p l e ({ frames := 1, cells := 0, slots := 0, locals := 13 } : Room) s m #[(.ref a1)] below meth c s₁ [] 0 0 := Stand.of_body Bd
  have e0 : s₁.heap = h0 := by rw [← hh, Bd.state]; rfl
  have N0 := Fr.nil n0
  obtain ⟨S0, hS0⟩ : ∃ z, z = s₁.setTop (entryFrame m #[(.ref a1)] 1) := ⟨_, rfl⟩
  have P0 : own_Pr p.tables e below S0 s₁ (mkF m 0 #[.val (.ref a1)] []) := fun t k => hS0 ▸ castTop (ef_6 m a1) k
  obtain ⟨vb, kb, Es, Fc, Fv, Av⟩ := Sa
  have P1 : own_Pr p.tables e below S0 s₁ (mkF m 1 #[.val (.ref a1)] [(.ref a1)]) := fun t k => P0 t (by
    refine XS.aloadN X0.here hx rfl (hb hby d6_0) rfl rfl ?_
    show Steps p.tables e below (s₁.setTop (mkF m 1 #[.val (.ref a1)] [(.ref a1)])) _
    exact k)
  obtain ⟨T2, X2, e2, st2⟩ := getF X0 hx hZ hown (host := "") (Or.inl (hw _ (List.mem_of_getElem? (i := 24) rfl))) Via.refl e0 Fv (g := (mkF m 1 #[.val (.ref a1)] [(.ref a1)])) rfl rfl (hb hby d6_1)
  have P3 : own_Pr p.tables e below S0 T2 (mkF m 4 #[.val (.ref a1)] [(.ref vb)]) := fun t k => P1 t (st2 _ k)
  obtain ⟨cl4, Ar4, q4, S4, N4, H4, G4⟩ := id Av
  have P5 : own_Pr p.tables e below S0 T2 (mkF m 6 #[.val (.ref a1)] [(.ref a1), (.int n)]) := fun t k => P3 t (by
    refine X2.arraylength hx (by rw [e2]; exact Ar4.1) (State.isArrayOf_alike hZ.alike Ar4.2.1) (g := (mkF m 4 #[.val (.ref a1)] [(.ref vb)])) rfl rfl (hb hby d6_4) _ ?_
    rw [len_of S4 N4]
    show Steps p.tables e below (T2.setTop (mkF m 5 #[.val (.ref a1)] [(.int n)])) _
    refine XS.aloadN X2.here hx rfl (hb hby d6_5) rfl rfl ?_
    show Steps p.tables e below (T2.setTop (mkF m 6 #[.val (.ref a1)] [(.ref a1), (.int n)])) _
    exact k)
  obtain ⟨cq6, kq6, q6a, q6b, q6c⟩ := isOf hZ e2 Es
  obtain ⟨_, _, ⟨T6, L6, k6, n6⟩, -, X6, ⟨Lc6, hQ6, l6, y6, z6⟩, st6⟩ := X2.virtualBack hx (y := (⟨"java/lang/String", "coder", "()B"⟩ : MethodName)) (z := (⟨"java/lang/String", "coder", "()B"⟩ : MethodName)) hown (mvT hZ (hw _ (List.mem_of_getElem? (i := 35) rfl))) (mvT hZ (hw _ (List.mem_of_getElem? (i := 36) rfl))) (notFace_of_selects (args := #[]) (mvT hZ (hw _ (List.mem_of_getElem? (i := 38) rfl)))) (mvT hZ (hw _ (List.mem_of_getElem? (i := 38) rfl))) (mvT hZ (hw _ (List.mem_of_getElem? (i := 37) rfl))) (by decide) (backOf (W := 1) (rm7 l Z a0 hw [] a1 cs h0 n0 Z0 Fc CS hcs) hZ (hw _ (List.mem_of_getElem? (i := 39) rfl)) (hw _ (List.mem_of_getElem? (i := 6) rfl)) (by decide) (by decide)) q6a q6c (g := (mkF m 6 #[.val (.ref a1)] [(.ref a1), (.int n)])) rfl (by rw [hml]; rfl) (Steps.refl _) (argsL := []) (rest := [(.int n)]) (lenOf pd_0 rfl) rfl (by show 2 * 0 + _ ≤ _; exact Nat.le_of_eq rfl) (hb hby d6_6) (fun _ _ => ⟨rfl, e2, (by decide : 0 + 0 ≤ _), (by decide : 0 + 0 ≤ _)⟩)
  dsimp only [Pt.U, Pt.locs, Pt.cells, Pt.slots] at X6 l6 y6 z6 st6 hQ6
  subst l6 y6 z6
  obtain ⟨z6v, rfl, hz6v, Nq6, eq6⟩ := hQ6
  have N6n := Fr.app N0 Nq6
  have P7 : own_Pr p.tables e below S0 T6 (mkF m 9 #[.val (.ref a1)] [(.int z6v), (.int n)]) := fun t k => P5 t (st6.trans k)
  have P8 : own_Pr p.tables e below S0 T6 (mkF m 10 #[.val (.ref a1)] [(.int (n >>> (z6v &&& 31)))]) := fun t k => P7 t (by
    refine XS.ishr X6.here hx rfl (hb hby d6_9) rfl ?_
    show Steps p.tables e below (T6.setTop (mkF m 10 #[.val (.ref a1)] [(.int (n >>> (z6v &&& 31)))])) _
    exact k)
  obtain ⟨fs, hr, hrun, hended, hW, hsame⟩ := X6.leave (v := some (.int (n >>> (z6v &&& 31)))) (fun h => by rw [Bd.returns] at h; cases h)
  have fin : Steps p.tables e below S0 (T6.setFrames fs) := P8 _ (retI X6 hx Bd.returns (hb hby d6_10) hr)
  rw [hS0] at fin
  refine ⟨_, _, fin, hrun, hended, _, _, rfl, ?_, ⟨_, rfl⟩, hW, hsame.mono (by decide) (by decide)⟩
  show own_QI h0 n0 n _ T6.heap _
  rw [eq6]
  exact ⟨_, rfl, (by rw [hz6v]; exact own_len_eq n), N6n, rfl⟩
theorem ef_7_u (m : MethodId) (a1 : Addr) : entryFrame m #[(.ref a1)] 1 = mkF m 0 #[.val (.ref a1)] [] := by first | (simp [entryFrame, mkF, argsToLocals, Value.category]; done) | rfl
set_option maxRecDepth 65536 in
set_option maxHeartbeats 40000000 in
theorem rm7_u (l : Launch) (Z : State) (a0 : Array Value) (hw : ∀ d ∈ tables_1, d.before a0 Z = true) (ws : List Jvm.Cond) (a1 : Addr) (cs : Int32) (h0 : Heap) (n0 : Nat) (Z0 : n0 ≤ h0.size) (Fc : Fld Z h0 a1 "java/lang/String" "coder" "B" (.int (1 : Int32))) (CS : Sta Z h0 "java/lang/String" "COMPACT_STRINGS" "Z" (.int cs)) (hcs : ¬ cs = (0 : Int32)) :
    MetFree l (⟨"java/lang/String", "coder", "()B"⟩ : MethodName) (head1 (Jvm.Cond.code (⟨"java/lang/String", "coder", "()B"⟩ : MethodName) jdk_42_method_152_code 1 (some .byte) :: ws) ({ frames := 0, cells := 0, slots := 0, locals := 0 } : Room)) (fun a U => a = #[(.ref a1)] ∧ Z.Warmed39 U.vm ∧ U.heap = h0) (fun _ _ _ _ _ => True) (fun _ U o U' => ∃ v L, o = .returned v ∧ own_QI h0 n0 1 v U'.heap L ∧ FrameEnd U o U' L ({ frames := 0, cells := 0, slots := 0, locals := 0 } : Room).cells ({ frames := 0, cells := 0, slots := 0, locals := 0 } : Room).slots) := by
  refine MetFree.of_bodySF (plainFor_of_name pn_7) hisR ?_
  intro p e s m args below meth c s₁ Bd hml0 hP hK
  obtain ⟨rfl, hZ, hh⟩ := hP
  have hx := Bd.exec
  have hby := Bd.bytes
  have hml : c.maxLocals = 1 := hml0
  have hown : s.vm.findClass "java/lang/String" = some m.cls := findClass_of_methodNamed Bd.named
  have hnm := (name_of_methodNamed Bd.named Bd.method).1
  have X0 : Stand p l e ({ frames := 0, cells := 0, slots := 0, locals := 0 } : Room) s m #[(.ref a1)] below meth c s₁ [] 0 0 := Stand.of_body Bd
  have e0 : s₁.heap = h0 := by rw [← hh, Bd.state]; rfl
  have N0 := Fr.nil n0
  obtain ⟨S0, hS0⟩ : ∃ z, z = s₁.setTop (entryFrame m #[(.ref a1)] 1) := ⟨_, rfl⟩
  have P0 : own_Pr p.tables e below S0 s₁ (mkF m 0 #[.val (.ref a1)] []) := fun t k => hS0 ▸ castTop (ef_7_u m a1) k
  obtain ⟨T1, X1, e1, st1⟩ := getS2 X0 hx hZ hown (host := "") (Or.inl (hw _ (List.mem_of_getElem? (i := 40) rfl))) Via.refl e0 CS (g := (mkF m 0 #[.val (.ref a1)] [])) rfl (hb hby d7_0)
  have P2 : own_Pr p.tables e below S0 T1 (mkF m 3 #[.val (.ref a1)] [(.int cs)]) := fun t k => P0 t (st1 _ k)
  have P3 : own_Pr p.tables e below S0 T1 (mkF m 7 #[.val (.ref a1)] [(.ref a1)]) := fun t k => P2 t (by
    refine XS.ifNo X1.here hx rfl (hb hby d7_3) rfl (XT.i0_eq_f hcs) ?_
    show Steps p.tables e below (T1.setTop (mkF m 6 #[.val (.ref a1)] [])) _
    refine XS.aloadN X1.here hx rfl (hb hby d7_6) rfl rfl ?_
    show Steps p.tables e below (T1.setTop (mkF m 7 #[.val (.ref a1)] [(.ref a1)])) _
    exact k)
  obtain ⟨T4, X4, e4, st4⟩ := getF X1 hx hZ hown (host := "") (Or.inl (hw _ (List.mem_of_getElem? (i := 25) rfl))) Via.refl e1 Fc (g := (mkF m 7 #[.val (.ref a1)] [(.ref a1)])) rfl rfl (hb hby d7_7)
  have P5 : own_Pr p.tables e below S0 T4 (mkF m 10 #[.val (.ref a1)] [(.int (1 : Int32))]) := fun t k => P3 t (st4 _ k)
  have P6 : own_Pr p.tables e below S0 T4 (mkF m 14 #[.val (.ref a1)] [(.int (1 : Int32))]) := fun t k => P5 t (by
    refine XS.goto X4.here hx rfl (pc0 := 10) (pc' := 14) rfl (hb hby d7_10) (by decide) (by decide) ?_
    show Steps p.tables e below (T4.setTop (mkF m 14 #[.val (.ref a1)] [(.int (1 : Int32))])) _
    exact k)
  obtain ⟨fs, hr, hrun, hended, hW, hsame⟩ := X4.leave (v := some (.int (1 : Int32))) (fun h => by rw [Bd.returns] at h; cases h)
  have fin : Steps p.tables e below S0 (T4.setFrames fs) := P6 _ (retN X4 hx (t := .byte) Bd.returns (by simp) (hb hby d7_14) hr)
  rw [hS0] at fin
  refine ⟨_, _, fin, hrun, hended, _, _, rfl, ?_, ⟨_, rfl⟩, hW, hsame.mono (by decide) (by decide)⟩
  show own_QI h0 n0 1 _ T4.heap _
  rw [e4]
  exact ⟨_, rfl, rfl, N0, rfl⟩
theorem d28_17 : decode jdk_42_method_154_code 17 = .ok (.iconst 0, 1) := by decide +kernel
theorem ef_28_u (m : MethodId) (a1 : Addr) : entryFrame m #[(.ref a1)] 1 = mkF m 0 #[.val (.ref a1)] [] := by first | (simp [entryFrame, mkF, argsToLocals, Value.category]; done) | rfl
set_option maxRecDepth 65536 in
set_option maxHeartbeats 40000000 in
theorem rm28_u (l : Launch) (Z : State) (a0 : Array Value) (hw : ∀ d ∈ tables_1, d.before a0 Z = true) (ws : List Jvm.Cond) (a1 : Addr) (cs : Int32) (h0 : Heap) (n0 : Nat) (Z0 : n0 ≤ h0.size) (Fc : Fld Z h0 a1 "java/lang/String" "coder" "B" (.int (1 : Int32))) (CS : Sta Z h0 "java/lang/String" "COMPACT_STRINGS" "Z" (.int cs)) (hcs : ¬ cs = (0 : Int32)) :
    MetFree l (⟨"java/lang/String", "isLatin1", "()Z"⟩ : MethodName) (head1 (Jvm.Cond.code (⟨"java/lang/String", "isLatin1", "()Z"⟩ : MethodName) jdk_42_method_154_code 1 (some .boolean) :: ws) ({ frames := 0, cells := 0, slots := 0, locals := 0 } : Room)) (fun a U => a = #[(.ref a1)] ∧ Z.Warmed39 U.vm ∧ U.heap = h0) (fun _ _ _ _ _ => True) (fun _ U o U' => ∃ v L, o = .returned v ∧ own_QI h0 n0 0 v U'.heap L ∧ FrameEnd U o U' L ({ frames := 0, cells := 0, slots := 0, locals := 0 } : Room).cells ({ frames := 0, cells := 0, slots := 0, locals := 0 } : Room).slots) := by
  refine MetFree.of_bodySF (plainFor_of_name pn_7) hisR ?_
  intro p e s m args below meth c s₁ Bd hml0 hP hK
  obtain ⟨rfl, hZ, hh⟩ := hP
  have hx := Bd.exec
  have hby := Bd.bytes
  have hml : c.maxLocals = 1 := hml0
  have hown : s.vm.findClass "java/lang/String" = some m.cls := findClass_of_methodNamed Bd.named
  have hnm := (name_of_methodNamed Bd.named Bd.method).1
  have X0 : Stand p l e ({ frames := 0, cells := 0, slots := 0, locals := 0 } : Room) s m #[(.ref a1)] below meth c s₁ [] 0 0 := Stand.of_body Bd
  have e0 : s₁.heap = h0 := by rw [← hh, Bd.state]; rfl
  have N0 := Fr.nil n0
  obtain ⟨S0, hS0⟩ : ∃ z, z = s₁.setTop (entryFrame m #[(.ref a1)] 1) := ⟨_, rfl⟩
  have P0 : own_Pr p.tables e below S0 s₁ (mkF m 0 #[.val (.ref a1)] []) := fun t k => hS0 ▸ castTop (ef_28_u m a1) k
  obtain ⟨T1, X1, e1, st1⟩ := getS2 X0 hx hZ hown (host := "") (Or.inl (hw _ (List.mem_of_getElem? (i := 40) rfl))) Via.refl e0 CS (g := (mkF m 0 #[.val (.ref a1)] [])) rfl (hb hby d28_0)
  have P2 : own_Pr p.tables e below S0 T1 (mkF m 3 #[.val (.ref a1)] [(.int cs)]) := fun t k => P0 t (st1 _ k)
  have P3 : own_Pr p.tables e below S0 T1 (mkF m 7 #[.val (.ref a1)] [(.ref a1)]) := fun t k => P2 t (by
    refine XS.ifNo X1.here hx rfl (hb hby d28_3) rfl (XT.i0_eq_f hcs) ?_
    show Steps p.tables e below (T1.setTop (mkF m 6 #[.val (.ref a1)] [])) _
    refine XS.aloadN X1.here hx rfl (hb hby d28_6) rfl rfl ?_
    show Steps p.tables e below (T1.setTop (mkF m 7 #[.val (.ref a1)] [(.ref a1)])) _
    exact k)
  obtain ⟨T4, X4, e4, st4⟩ := getF X1 hx hZ hown (host := "") (Or.inl (hw _ (List.mem_of_getElem? (i := 25) rfl))) Via.refl e1 Fc (g := (mkF m 7 #[.val (.ref a1)] [(.ref a1)])) rfl rfl (hb hby d28_7)
  have P5 : own_Pr p.tables e below S0 T4 (mkF m 10 #[.val (.ref a1)] [(.int (1 : Int32))]) := fun t k => P3 t (st4 _ k)
  have P6 : own_Pr p.tables e below S0 T4 (mkF m 18 #[.val (.ref a1)] [(.int (0 : Int32))]) := fun t k => P5 t (by
    refine XS.ifYes X4.here hx rfl (pc0 := 10) (pc' := 17) rfl (hb hby d28_10) rfl (by decide) (by decide) (by decide) ?_
    show Steps p.tables e below (T4.setTop (mkF m 17 #[.val (.ref a1)] [])) _
    refine XS.iconst X4.here hx rfl (hb hby d28_17) ?_
    show Steps p.tables e below (T4.setTop (mkF m 18 #[.val (.ref a1)] [(.int (0 : Int32))])) _
    exact k)
  obtain ⟨fs, hr, hrun, hended, hW, hsame⟩ := X4.leave (v := some (.int (0 : Int32))) (fun h => by rw [Bd.returns] at h; cases h)
  have fin : Steps p.tables e below S0 (T4.setFrames fs) := P6 _ (retN X4 hx (t := .boolean) Bd.returns (by simp) (hb hby d28_18) hr)
  rw [hS0] at fin
  refine ⟨_, _, fin, hrun, hended, _, _, rfl, ?_, ⟨_, rfl⟩, hW, hsame.mono (by decide) (by decide)⟩
  show own_QI h0 n0 0 _ T4.heap _
  rw [e4]
  exact ⟨_, rfl, rfl, N0, rfl⟩
theorem ef_6_u (m : MethodId) (a1 : Addr) : entryFrame m #[(.ref a1)] 1 = mkF m 0 #[.val (.ref a1)] [] := by first | (simp [entryFrame, mkF, argsToLocals, Value.category]; done) | rfl
set_option maxRecDepth 65536 in
set_option maxHeartbeats 40000000 in
theorem rm6_u (l : Launch) (Z : State) (a0 : Array Value) (hw : ∀ d ∈ tables_1, d.before a0 Z = true) (ws : List Jvm.Cond) (a1 : Addr) (n : Int32) (xs : List Int32) (cs : Int32) (h0 : Heap) (n0 : Nat) (Z0 : n0 ≤ h0.size) (Sa : own_Su Z h0 a1 n xs) (CS : Sta Z h0 "java/lang/String" "COMPACT_STRINGS" "Z" (.int cs)) (hcs : ¬ cs = (0 : Int32)) :
    MetFree l (⟨"java/lang/String", "length", "()I"⟩ : MethodName) (head1 (Jvm.Cond.code (⟨"java/lang/String", "length", "()I"⟩ : MethodName) jdk_42_method_54_code 1 (some .int) :: ws) ({ frames := 1, cells := 0, slots := 0, locals := 13 } : Room)) (fun a U => a = #[(.ref a1)] ∧ Z.Warmed39 U.vm ∧ U.heap = h0) (fun _ _ _ _ _ => True) (fun _ U o U' => ∃ v L, o = .returned v ∧ own_QI h0 n0 (n >>> ((1 : Int32) &&& 31)) v U'.heap L ∧ FrameEnd U o U' L ({ frames := 1, cells := 0, slots := 0, locals := 13 } : Room).cells ({ frames := 1, cells := 0, slots := 0, locals := 13 } : Room).slots) := by
  refine MetFree.of_bodySF (plainFor_of_name pn_7) hisR ?_
  intro p e s m args below meth c s₁ Bd hml0 hP hK
  obtain ⟨rfl, hZ, hh⟩ := hP
  have hx := Bd.exec
  have hby := Bd.bytes
  have hml : c.maxLocals = 1 := hml0
  have hown : s.vm.findClass "java/lang/String" = some m.cls := findClass_of_methodNamed Bd.named
  have hnm := (name_of_methodNamed Bd.named Bd.method).1
  have X0 : Stand p l e ({ frames := 1, cells := 0, slots := 0, locals := 13 } : Room) s m #[(.ref a1)] below meth c s₁ [] 0 0 := Stand.of_body Bd
  have e0 : s₁.heap = h0 := by rw [← hh, Bd.state]; rfl
  have N0 := Fr.nil n0
  obtain ⟨S0, hS0⟩ : ∃ z, z = s₁.setTop (entryFrame m #[(.ref a1)] 1) := ⟨_, rfl⟩
  have P0 : own_Pr p.tables e below S0 s₁ (mkF m 0 #[.val (.ref a1)] []) := fun t k => hS0 ▸ castTop (ef_6_u m a1) k
  obtain ⟨vb, kb, Es, Fc, Fv, Av⟩ := Sa
  have P1 : own_Pr p.tables e below S0 s₁ (mkF m 1 #[.val (.ref a1)] [(.ref a1)]) := fun t k => P0 t (by
    refine XS.aloadN X0.here hx rfl (hb hby d6_0) rfl rfl ?_
    show Steps p.tables e below (s₁.setTop (mkF m 1 #[.val (.ref a1)] [(.ref a1)])) _
    exact k)
  obtain ⟨T2, X2, e2, st2⟩ := getF X0 hx hZ hown (host := "") (Or.inl (hw _ (List.mem_of_getElem? (i := 24) rfl))) Via.refl e0 Fv (g := (mkF m 1 #[.val (.ref a1)] [(.ref a1)])) rfl rfl (hb hby d6_1)
  have P3 : own_Pr p.tables e below S0 T2 (mkF m 4 #[.val (.ref a1)] [(.ref vb)]) := fun t k => P1 t (st2 _ k)
  obtain ⟨cl4, Ar4, q4, S4, N4, H4, G4⟩ := id Av
  have P5 : own_Pr p.tables e below S0 T2 (mkF m 6 #[.val (.ref a1)] [(.ref a1), (.int n)]) := fun t k => P3 t (by
    refine X2.arraylength hx (by rw [e2]; exact Ar4.1) (State.isArrayOf_alike hZ.alike Ar4.2.1) (g := (mkF m 4 #[.val (.ref a1)] [(.ref vb)])) rfl rfl (hb hby d6_4) _ ?_
    rw [len_of S4 N4]
    show Steps p.tables e below (T2.setTop (mkF m 5 #[.val (.ref a1)] [(.int n)])) _
    refine XS.aloadN X2.here hx rfl (hb hby d6_5) rfl rfl ?_
    show Steps p.tables e below (T2.setTop (mkF m 6 #[.val (.ref a1)] [(.ref a1), (.int n)])) _
    exact k)
  obtain ⟨cq6, kq6, q6a, q6b, q6c⟩ := isOf hZ e2 Es
  obtain ⟨_, _, ⟨T6, L6, k6, n6⟩, -, X6, ⟨Lc6, hQ6, l6, y6, z6⟩, st6⟩ := X2.virtualBack hx (y := (⟨"java/lang/String", "coder", "()B"⟩ : MethodName)) (z := (⟨"java/lang/String", "coder", "()B"⟩ : MethodName)) hown (mvT hZ (hw _ (List.mem_of_getElem? (i := 35) rfl))) (mvT hZ (hw _ (List.mem_of_getElem? (i := 36) rfl))) (notFace_of_selects (args := #[]) (mvT hZ (hw _ (List.mem_of_getElem? (i := 38) rfl)))) (mvT hZ (hw _ (List.mem_of_getElem? (i := 38) rfl))) (mvT hZ (hw _ (List.mem_of_getElem? (i := 37) rfl))) (by decide) (backOf (W := 1) (rm7_u l Z a0 hw [] a1 cs h0 n0 Z0 Fc CS hcs) hZ (hw _ (List.mem_of_getElem? (i := 39) rfl)) (hw _ (List.mem_of_getElem? (i := 6) rfl)) (by decide) (by decide)) q6a q6c (g := (mkF m 6 #[.val (.ref a1)] [(.ref a1), (.int n)])) rfl (by rw [hml]; rfl) (Steps.refl _) (argsL := []) (rest := [(.int n)]) (lenOf pd_0 rfl) rfl (by show 2 * 0 + _ ≤ _; exact Nat.le_of_eq rfl) (hb hby d6_6) (fun _ _ => ⟨rfl, e2, (by decide : 0 + 0 ≤ _), (by decide : 0 + 0 ≤ _)⟩)
  dsimp only [Pt.U, Pt.locs, Pt.cells, Pt.slots] at X6 l6 y6 z6 st6 hQ6
  subst l6 y6 z6
  obtain ⟨z6v, rfl, hz6v, Nq6, eq6⟩ := hQ6
  have N6n := Fr.app N0 Nq6
  have hy6 := hz6v.symm; subst hy6
  have P7 : own_Pr p.tables e below S0 T6 (mkF m 9 #[.val (.ref a1)] [(.int (1 : Int32)), (.int n)]) := fun t k => P5 t (st6.trans k)
  have P8 : own_Pr p.tables e below S0 T6 (mkF m 10 #[.val (.ref a1)] [(.int (n >>> ((1 : Int32) &&& 31)))]) := fun t k => P7 t (by
    refine XS.ishr X6.here hx rfl (hb hby d6_9) rfl ?_
    show Steps p.tables e below (T6.setTop (mkF m 10 #[.val (.ref a1)] [(.int (n >>> ((1 : Int32) &&& 31)))])) _
    exact k)
  obtain ⟨fs, hr, hrun, hended, hW, hsame⟩ := X6.leave (v := some (.int (n >>> ((1 : Int32) &&& 31)))) (fun h => by rw [Bd.returns] at h; cases h)
  have fin : Steps p.tables e below S0 (T6.setFrames fs) := P8 _ (retI X6 hx Bd.returns (hb hby d6_10) hr)
  rw [hS0] at fin
  refine ⟨_, _, fin, hrun, hended, _, _, rfl, ?_, ⟨_, rfl⟩, hW, hsame.mono (by decide) (by decide)⟩
  show own_QI h0 n0 (n >>> ((1 : Int32) &&& 31)) _ T6.heap _
  rw [eq6]
  exact ⟨_, rfl, rfl, N6n, rfl⟩
theorem rm6_S (l : Launch) (Z : State) (a0 : Array Value) (hw : ∀ d ∈ tables_1, d.before a0 Z = true) (ws : List Jvm.Cond) (a1 : Addr) (n c0 c1 cs : Int32)  (h0 : Heap) (n0 : Nat) (Z0 : n0 ≤ h0.size) (Sa : own_S Z h0 a1 n c0 c1) (CS : Sta Z h0 "java/lang/String" "COMPACT_STRINGS" "Z" (.int cs)) (hcs : ¬ cs = (0 : Int32)) :
    MetFree l (⟨"java/lang/String", "length", "()I"⟩ : MethodName) (head1 (Jvm.Cond.code (⟨"java/lang/String", "length", "()I"⟩ : MethodName) jdk_42_method_54_code 1 (some .int) :: ws) ({ frames := 1, cells := 0, slots := 0, locals := 13 } : Room)) (fun a U => a = #[.ref a1] ∧ Z.Warmed39 U.vm ∧ U.heap = h0) (fun _ _ _ _ _ => True) (fun _ U o U' => ∃ v L, o = .returned v ∧ own_QI h0 n0 n v U'.heap L ∧ FrameEnd U o U' L ({ frames := 1, cells := 0, slots := 0, locals := 13 } : Room).cells ({ frames := 1, cells := 0, slots := 0, locals := 13 } : Room).slots) := by
  rcases Sa with ⟨rfl, Sa⟩ | ⟨rfl, g1, Sa⟩ | ⟨rfl, Sa⟩ | ⟨rfl, g1, g2, Sa⟩ | ⟨rfl, Sa⟩
  · exact rm6 l Z a0 hw ws a1 0 _ cs h0 n0 Z0 Sa CS hcs
  · exact rm6 l Z a0 hw ws a1 1 _ cs h0 n0 Z0 Sa CS hcs
  · exact rm6_u l Z a0 hw ws a1 2 _ cs h0 n0 Z0 Sa CS hcs
  · exact rm6 l Z a0 hw ws a1 2 _ cs h0 n0 Z0 Sa CS hcs
  · exact rm6_u l Z a0 hw ws a1 4 _ cs h0 n0 Z0 Sa CS hcs
theorem d8_0 : decode jdk_33_method_40_code 0 = .ok (.iload_n 0, 1) := by decide +kernel
theorem d8_1 : decode jdk_33_method_40_code 1 = .ok (.iload_n 1, 1) := by decide +kernel
theorem d8_2 : decode jdk_33_method_40_code 2 = .ok (.if_icmp .ge 7, 3) := by decide +kernel
theorem d8_5 : decode jdk_33_method_40_code 5 = .ok (.iconst (-1), 1) := by decide +kernel
theorem d8_6 : decode jdk_33_method_40_code 6 = .ok (.goto 13, 3) := by decide +kernel
theorem d8_9 : decode jdk_33_method_40_code 9 = .ok (.iload_n 0, 1) := by decide +kernel
theorem d8_10 : decode jdk_33_method_40_code 10 = .ok (.iload_n 1, 1) := by decide +kernel
theorem d8_11 : decode jdk_33_method_40_code 11 = .ok (.if_icmp .ne 7, 3) := by decide +kernel
theorem d8_14 : decode jdk_33_method_40_code 14 = .ok (.iconst 0, 1) := by decide +kernel
theorem d8_15 : decode jdk_33_method_40_code 15 = .ok (.goto 4, 3) := by decide +kernel
theorem d8_18 : decode jdk_33_method_40_code 18 = .ok (.iconst 1, 1) := by decide +kernel
theorem d8_19 : decode jdk_33_method_40_code 19 = .ok (.ireturn, 1) := by decide +kernel
theorem pn_8 : plainName "java/lang/Integer" = true := by first | (simp [plainName, overriddenIn]; done) | decide +kernel
theorem ef_8 (m : MethodId) (p1 : Int32) (p2 : Int32) : entryFrame m #[(.int p1), (.int p2)] 2 = mkF m 0 #[.val (.int p1), .val (.int p2)] [] := by first | (simp [entryFrame, mkF, argsToLocals, Value.category]; done) | rfl
def own_f8 (p1 : Int32) (p2 : Int32) : Int32 := (if p1 < p2 then (-1 : Int32) else (if p1 = p2 then (0 : Int32) else (1 : Int32)))
set_option maxRecDepth 65536 in
set_option maxHeartbeats 40000000 in
theorem rm8 (l : Launch) (Z : State) (a0 : Array Value) (hw : ∀ d ∈ tables_1, d.before a0 Z = true) (ws : List Jvm.Cond) (p1 : Int32) (p2 : Int32)  (h0 : Heap) (n0 : Nat) (Z0 : n0 ≤ h0.size) :
    MetFree l (⟨"java/lang/Integer", "compare", "(II)I"⟩ : MethodName) (head1 (Jvm.Cond.code (⟨"java/lang/Integer", "compare", "(II)I"⟩ : MethodName) jdk_33_method_40_code 2 (some .int) :: ws) ({ frames := 0, cells := 0, slots := 0, locals := 0 } : Room)) (fun a U => a = #[(.int p1), (.int p2)] ∧ Z.Warmed39 U.vm ∧ U.heap = h0) (fun _ _ _ _ _ => True) (fun _ U o U' => ∃ v L, o = .returned v ∧ own_QI h0 n0 (own_f8 p1 p2) v U'.heap L ∧ FrameEnd U o U' L ({ frames := 0, cells := 0, slots := 0, locals := 0 } : Room).cells ({ frames := 0, cells := 0, slots := 0, locals := 0 } : Room).slots) := by
  refine MetFree.of_bodySF (plainFor_of_name pn_8) hisR ?_
  intro p e s m args below meth c s₁ Bd hml0 hP hK
  obtain ⟨rfl, hZ, hh⟩ := hP
  have hx := Bd.exec
  have hby := Bd.bytes
  have hml : c.maxLocals = 2 := hml0
  have hown : s.vm.findClass "java/lang/Integer" = some m.cls := findClass_of_methodNamed Bd.named
  have hnm := (name_of_methodNamed Bd.named Bd.method).1
  have X0 : Stand p l e ({ frames := 0, cells := 0, slots := 0, locals := 0 } : Room) s m #[(.int p1), (.int p2)] below meth c s₁ [] 0 0 := Stand.of_body Bd
  have e0 : s₁.heap = h0 := by rw [← hh, Bd.state]; rfl
  have N0 := Fr.nil n0
  obtain ⟨S0, hS0⟩ : ∃ z, z = s₁.setTop (entryFrame m #[(.int p1), (.int p2)] 2) := ⟨_, rfl⟩
  have P0 : own_Pr p.tables e below S0 s₁ (mkF m 0 #[.val (.int p1), .val (.int p2)] []) := fun t k => hS0 ▸ castTop (ef_8 m p1 p2) k
  have P1 : own_Pr p.tables e below S0 s₁ (mkF m 2 #[.val (.int p1), .val (.int p2)] [(.int p2), (.int p1)]) := fun t k => P0 t (by
    refine XS.iloadN X0.here hx rfl (hb hby d8_0) rfl ?_
    show Steps p.tables e below (s₁.setTop (mkF m 1 #[.val (.int p1), .val (.int p2)] [(.int p1)])) _
    refine XS.iloadN X0.here hx rfl (hb hby d8_1) rfl ?_
    show Steps p.tables e below (s₁.setTop (mkF m 2 #[.val (.int p1), .val (.int p2)] [(.int p2), (.int p1)])) _
    exact k)
  by_cases hc2_2 : p1 < p2
  · have P3 : own_Pr p.tables e below S0 s₁ (mkF m 19 #[.val (.int p1), .val (.int p2)] [(.int (-1 : Int32))]) := fun t k => P1 t (by
      refine XS.icmpNo X0.here hx rfl (hb hby d8_2) rfl (XT.ii_ge_f hc2_2) ?_
      show Steps p.tables e below (s₁.setTop (mkF m 5 #[.val (.int p1), .val (.int p2)] [])) _
      refine XS.iconst X0.here hx rfl (hb hby d8_5) ?_
      show Steps p.tables e below (s₁.setTop (mkF m 6 #[.val (.int p1), .val (.int p2)] [(.int (-1 : Int32))])) _
      refine XS.goto X0.here hx rfl (pc0 := 6) (pc' := 19) rfl (hb hby d8_6) (by decide) (by decide) ?_
      show Steps p.tables e below (s₁.setTop (mkF m 19 #[.val (.int p1), .val (.int p2)] [(.int (-1 : Int32))])) _
      exact k)
    obtain ⟨fs, hr, hrun, hended, hW, hsame⟩ := X0.leave (v := some (.int (-1 : Int32))) (fun h => by rw [Bd.returns] at h; cases h)
    have fin : Steps p.tables e below S0 (s₁.setFrames fs) := P3 _ (retI X0 hx Bd.returns (hb hby d8_19) hr)
    rw [hS0] at fin
    refine ⟨_, _, fin, hrun, hended, _, _, rfl, ?_, ⟨_, rfl⟩, hW, hsame.mono (by decide) (by decide)⟩
    show own_QI h0 n0 (own_f8 p1 p2) _ s₁.heap _
    rw [e0]
    exact ⟨_, rfl, (by unfold own_f8; rw [if_pos hc2_2]), N0, rfl⟩
  · have P4 : own_Pr p.tables e below S0 s₁ (mkF m 11 #[.val (.int p1), .val (.int p2)] [(.int p2), (.int p1)]) := fun t k => P1 t (by
      refine XS.icmpYes X0.here hx rfl (pc0 := 2) (pc' := 9) rfl (hb hby d8_2) rfl (XT.ii_ge_t hc2_2) (by decide) (by decide) ?_
      show Steps p.tables e below (s₁.setTop (mkF m 9 #[.val (.int p1), .val (.int p2)] [])) _
      refine XS.iloadN X0.here hx rfl (hb hby d8_9) rfl ?_
      show Steps p.tables e below (s₁.setTop (mkF m 10 #[.val (.int p1), .val (.int p2)] [(.int p1)])) _
      refine XS.iloadN X0.here hx rfl (hb hby d8_10) rfl ?_
      show Steps p.tables e below (s₁.setTop (mkF m 11 #[.val (.int p1), .val (.int p2)] [(.int p2), (.int p1)])) _
      exact k)
    by_cases hc11_5 : p1 = p2
    · have P6 : own_Pr p.tables e below S0 s₁ (mkF m 19 #[.val (.int p1), .val (.int p2)] [(.int (0 : Int32))]) := fun t k => P4 t (by
        refine XS.icmpNo X0.here hx rfl (hb hby d8_11) rfl (XT.ii_ne_f hc11_5) ?_
        show Steps p.tables e below (s₁.setTop (mkF m 14 #[.val (.int p1), .val (.int p2)] [])) _
        refine XS.iconst X0.here hx rfl (hb hby d8_14) ?_
        show Steps p.tables e below (s₁.setTop (mkF m 15 #[.val (.int p1), .val (.int p2)] [(.int (0 : Int32))])) _
        refine XS.goto X0.here hx rfl (pc0 := 15) (pc' := 19) rfl (hb hby d8_15) (by decide) (by decide) ?_
        show Steps p.tables e below (s₁.setTop (mkF m 19 #[.val (.int p1), .val (.int p2)] [(.int (0 : Int32))])) _
        exact k)
      obtain ⟨fs, hr, hrun, hended, hW, hsame⟩ := X0.leave (v := some (.int (0 : Int32))) (fun h => by rw [Bd.returns] at h; cases h)
      have fin : Steps p.tables e below S0 (s₁.setFrames fs) := P6 _ (retI X0 hx Bd.returns (hb hby d8_19) hr)
      rw [hS0] at fin
      refine ⟨_, _, fin, hrun, hended, _, _, rfl, ?_, ⟨_, rfl⟩, hW, hsame.mono (by decide) (by decide)⟩
      show own_QI h0 n0 (own_f8 p1 p2) _ s₁.heap _
      rw [e0]
      exact ⟨_, rfl, (by unfold own_f8; rw [if_neg hc2_2, if_pos hc11_5]), N0, rfl⟩
    · have P7 : own_Pr p.tables e below S0 s₁ (mkF m 19 #[.val (.int p1), .val (.int p2)] [(.int (1 : Int32))]) := fun t k => P4 t (by
        refine XS.icmpYes X0.here hx rfl (pc0 := 11) (pc' := 18) rfl (hb hby d8_11) rfl (XT.ii_ne_t hc11_5) (by decide) (by decide) ?_
        show Steps p.tables e below (s₁.setTop (mkF m 18 #[.val (.int p1), .val (.int p2)] [])) _
        refine XS.iconst X0.here hx rfl (hb hby d8_18) ?_
        show Steps p.tables e below (s₁.setTop (mkF m 19 #[.val (.int p1), .val (.int p2)] [(.int (1 : Int32))])) _
        exact k)
      obtain ⟨fs, hr, hrun, hended, hW, hsame⟩ := X0.leave (v := some (.int (1 : Int32))) (fun h => by rw [Bd.returns] at h; cases h)
      have fin : Steps p.tables e below S0 (s₁.setFrames fs) := P7 _ (retI X0 hx Bd.returns (hb hby d8_19) hr)
      rw [hS0] at fin
      refine ⟨_, _, fin, hrun, hended, _, _, rfl, ?_, ⟨_, rfl⟩, hW, hsame.mono (by decide) (by decide)⟩
      show own_QI h0 n0 (own_f8 p1 p2) _ s₁.heap _
      rw [e0]
      exact ⟨_, rfl, (by unfold own_f8; rw [if_neg hc2_2, if_neg hc11_5]), N0, rfl⟩
theorem d9_0 : decode method_8_code 0 = .ok (.iload_n 0, 1) := by decide +kernel
theorem d9_1 : decode method_8_code 1 = .ok (.ifCond .ge 5, 3) := by decide +kernel
theorem d9_4 : decode method_8_code 4 = .ok (.iconst (-1), 1) := by decide +kernel
theorem d9_5 : decode method_8_code 5 = .ok (.ireturn, 1) := by decide +kernel
theorem d9_6 : decode method_8_code 6 = .ok (.iload_n 0, 1) := by decide +kernel
theorem d9_7 : decode method_8_code 7 = .ok (.ifCond .le 5, 3) := by decide +kernel
theorem d9_10 : decode method_8_code 10 = .ok (.iconst 1, 1) := by decide +kernel
theorem d9_11 : decode method_8_code 11 = .ok (.ireturn, 1) := by decide +kernel
theorem d9_12 : decode method_8_code 12 = .ok (.iconst 0, 1) := by decide +kernel
theorem d9_13 : decode method_8_code 13 = .ok (.ireturn, 1) := by decide +kernel
theorem pn_9 : plainName "com/example/mathir_tools/mathirtools/formats/text/Utf8OrderComparePinLaw" = true := by first | (simp [plainName, overriddenIn]; done) | decide +kernel
theorem ef_9 (m : MethodId) (p1 : Int32) : entryFrame m #[(.int p1)] 1 = mkF m 0 #[.val (.int p1)] [] := by first | (simp [entryFrame, mkF, argsToLocals, Value.category]; done) | rfl
def own_f9 (p1 : Int32) : Int32 := (if p1 < (0 : Int32) then (-1 : Int32) else (if (0 : Int32) < p1 then (1 : Int32) else (0 : Int32)))
set_option maxRecDepth 65536 in
set_option maxHeartbeats 40000000 in
theorem rm9 (l : Launch) (Z : State) (a0 : Array Value) (hw : ∀ d ∈ tables_1, d.before a0 Z = true) (ws : List Jvm.Cond) (p1 : Int32)  (h0 : Heap) (n0 : Nat) (Z0 : n0 ≤ h0.size) :
    MetFree l (⟨"com/example/mathir_tools/mathirtools/formats/text/Utf8OrderComparePinLaw", "sign", "(I)I"⟩ : MethodName) (head1 (Jvm.Cond.code (⟨"com/example/mathir_tools/mathirtools/formats/text/Utf8OrderComparePinLaw", "sign", "(I)I"⟩ : MethodName) method_8_code 1 (some .int) :: ws) ({ frames := 0, cells := 0, slots := 0, locals := 0 } : Room)) (fun a U => a = #[(.int p1)] ∧ Z.Warmed39 U.vm ∧ U.heap = h0) (fun _ _ _ _ _ => True) (fun _ U o U' => ∃ v L, o = .returned v ∧ own_QI h0 n0 (own_f9 p1) v U'.heap L ∧ FrameEnd U o U' L ({ frames := 0, cells := 0, slots := 0, locals := 0 } : Room).cells ({ frames := 0, cells := 0, slots := 0, locals := 0 } : Room).slots) := by
  refine MetFree.of_bodySF (plainFor_of_name pn_9) hisR ?_
  intro p e s m args below meth c s₁ Bd hml0 hP hK
  obtain ⟨rfl, hZ, hh⟩ := hP
  have hx := Bd.exec
  have hby := Bd.bytes
  have hml : c.maxLocals = 1 := hml0
  have hown : s.vm.findClass "com/example/mathir_tools/mathirtools/formats/text/Utf8OrderComparePinLaw" = some m.cls := findClass_of_methodNamed Bd.named
  have hnm := (name_of_methodNamed Bd.named Bd.method).1
  have X0 : Stand p l e ({ frames := 0, cells := 0, slots := 0, locals := 0 } : Room) s m #[(.int p1)] below meth c s₁ [] 0 0 := Stand.of_body Bd
  have e0 : s₁.heap = h0 := by rw [← hh, Bd.state]; rfl
  have N0 := Fr.nil n0
  obtain ⟨S0, hS0⟩ : ∃ z, z = s₁.setTop (entryFrame m #[(.int p1)] 1) := ⟨_, rfl⟩
  have P0 : own_Pr p.tables e below S0 s₁ (mkF m 0 #[.val (.int p1)] []) := fun t k => hS0 ▸ castTop (ef_9 m p1) k
  have P1 : own_Pr p.tables e below S0 s₁ (mkF m 1 #[.val (.int p1)] [(.int p1)]) := fun t k => P0 t (by
    refine XS.iloadN X0.here hx rfl (hb hby d9_0) rfl ?_
    show Steps p.tables e below (s₁.setTop (mkF m 1 #[.val (.int p1)] [(.int p1)])) _
    exact k)
  by_cases hc1_2 : p1 < (0 : Int32)
  · have P3 : own_Pr p.tables e below S0 s₁ (mkF m 5 #[.val (.int p1)] [(.int (-1 : Int32))]) := fun t k => P1 t (by
      refine XS.ifNo X0.here hx rfl (hb hby d9_1) rfl (XT.i0_ge_f hc1_2) ?_
      show Steps p.tables e below (s₁.setTop (mkF m 4 #[.val (.int p1)] [])) _
      refine XS.iconst X0.here hx rfl (hb hby d9_4) ?_
      show Steps p.tables e below (s₁.setTop (mkF m 5 #[.val (.int p1)] [(.int (-1 : Int32))])) _
      exact k)
    obtain ⟨fs, hr, hrun, hended, hW, hsame⟩ := X0.leave (v := some (.int (-1 : Int32))) (fun h => by rw [Bd.returns] at h; cases h)
    have fin : Steps p.tables e below S0 (s₁.setFrames fs) := P3 _ (retI X0 hx Bd.returns (hb hby d9_5) hr)
    rw [hS0] at fin
    refine ⟨_, _, fin, hrun, hended, _, _, rfl, ?_, ⟨_, rfl⟩, hW, hsame.mono (by decide) (by decide)⟩
    show own_QI h0 n0 (own_f9 p1) _ s₁.heap _
    rw [e0]
    exact ⟨_, rfl, (by unfold own_f9; rw [if_pos hc1_2]), N0, rfl⟩
  · have P4 : own_Pr p.tables e below S0 s₁ (mkF m 7 #[.val (.int p1)] [(.int p1)]) := fun t k => P1 t (by
      refine XS.ifYes X0.here hx rfl (pc0 := 1) (pc' := 6) rfl (hb hby d9_1) rfl (XT.i0_ge_t hc1_2) (by decide) (by decide) ?_
      show Steps p.tables e below (s₁.setTop (mkF m 6 #[.val (.int p1)] [])) _
      refine XS.iloadN X0.here hx rfl (hb hby d9_6) rfl ?_
      show Steps p.tables e below (s₁.setTop (mkF m 7 #[.val (.int p1)] [(.int p1)])) _
      exact k)
    by_cases hc7_5 : (0 : Int32) < p1
    · have P6 : own_Pr p.tables e below S0 s₁ (mkF m 11 #[.val (.int p1)] [(.int (1 : Int32))]) := fun t k => P4 t (by
        refine XS.ifNo X0.here hx rfl (hb hby d9_7) rfl (XT.i0_le_f hc7_5) ?_
        show Steps p.tables e below (s₁.setTop (mkF m 10 #[.val (.int p1)] [])) _
        refine XS.iconst X0.here hx rfl (hb hby d9_10) ?_
        show Steps p.tables e below (s₁.setTop (mkF m 11 #[.val (.int p1)] [(.int (1 : Int32))])) _
        exact k)
      obtain ⟨fs, hr, hrun, hended, hW, hsame⟩ := X0.leave (v := some (.int (1 : Int32))) (fun h => by rw [Bd.returns] at h; cases h)
      have fin : Steps p.tables e below S0 (s₁.setFrames fs) := P6 _ (retI X0 hx Bd.returns (hb hby d9_11) hr)
      rw [hS0] at fin
      refine ⟨_, _, fin, hrun, hended, _, _, rfl, ?_, ⟨_, rfl⟩, hW, hsame.mono (by decide) (by decide)⟩
      show own_QI h0 n0 (own_f9 p1) _ s₁.heap _
      rw [e0]
      exact ⟨_, rfl, (by unfold own_f9; rw [if_neg hc1_2, if_pos hc7_5]), N0, rfl⟩
    · have P7 : own_Pr p.tables e below S0 s₁ (mkF m 13 #[.val (.int p1)] [(.int (0 : Int32))]) := fun t k => P4 t (by
        refine XS.ifYes X0.here hx rfl (pc0 := 7) (pc' := 12) rfl (hb hby d9_7) rfl (XT.i0_le_t hc7_5) (by decide) (by decide) ?_
        show Steps p.tables e below (s₁.setTop (mkF m 12 #[.val (.int p1)] [])) _
        refine XS.iconst X0.here hx rfl (hb hby d9_12) ?_
        show Steps p.tables e below (s₁.setTop (mkF m 13 #[.val (.int p1)] [(.int (0 : Int32))])) _
        exact k)
      obtain ⟨fs, hr, hrun, hended, hW, hsame⟩ := X0.leave (v := some (.int (0 : Int32))) (fun h => by rw [Bd.returns] at h; cases h)
      have fin : Steps p.tables e below S0 (s₁.setFrames fs) := P7 _ (retI X0 hx Bd.returns (hb hby d9_13) hr)
      rw [hS0] at fin
      refine ⟨_, _, fin, hrun, hended, _, _, rfl, ?_, ⟨_, rfl⟩, hW, hsame.mono (by decide) (by decide)⟩
      show own_QI h0 n0 (own_f9 p1) _ s₁.heap _
      rw [e0]
      exact ⟨_, rfl, (by unfold own_f9; rw [if_neg hc1_2, if_neg hc7_5]), N0, rfl⟩
theorem d11_0 : decode method_4_code 0 = .ok (.iload_n 0, 1) := by decide +kernel
theorem d11_1 : decode method_4_code 1 = .ok (.iconst 2, 1) := by decide +kernel
theorem d11_2 : decode method_4_code 2 = .ok (.if_icmp .ne 31, 3) := by decide +kernel
theorem d11_5 : decode method_4_code 5 = .ok (.iload_n 1, 1) := by decide +kernel
theorem d11_6 : decode method_4_code 6 = .ok (.ldc 7, 2) := by decide +kernel
theorem d11_8 : decode method_4_code 8 = .ok (.if_icmp .lt 25, 3) := by decide +kernel
theorem d11_11 : decode method_4_code 11 = .ok (.iload_n 1, 1) := by decide +kernel
theorem d11_12 : decode method_4_code 12 = .ok (.ldc 45, 2) := by decide +kernel
theorem d11_14 : decode method_4_code 14 = .ok (.if_icmp .gt 19, 3) := by decide +kernel
theorem d11_17 : decode method_4_code 17 = .ok (.iload_n 2, 1) := by decide +kernel
theorem d11_18 : decode method_4_code 18 = .ok (.ldc 8, 2) := by decide +kernel
theorem d11_20 : decode method_4_code 20 = .ok (.if_icmp .lt 13, 3) := by decide +kernel
theorem d11_23 : decode method_4_code 23 = .ok (.iload_n 2, 1) := by decide +kernel
theorem d11_24 : decode method_4_code 24 = .ok (.ldc 46, 2) := by decide +kernel
theorem d11_26 : decode method_4_code 26 = .ok (.if_icmp .gt 7, 3) := by decide +kernel
theorem d11_29 : decode method_4_code 29 = .ok (.iconst 1, 1) := by decide +kernel
theorem d11_30 : decode method_4_code 30 = .ok (.goto 4, 3) := by decide +kernel
theorem d11_33 : decode method_4_code 33 = .ok (.iconst 0, 1) := by decide +kernel
theorem d11_34 : decode method_4_code 34 = .ok (.ireturn, 1) := by decide +kernel
theorem ef_11 (m : MethodId) (p1 : Int32) (p2 : Int32) (p3 : Int32) : entryFrame m #[(.int p1), (.int p2), (.int p3)] 3 = mkF m 0 #[.val (.int p1), .val (.int p2), .val (.int p3)] [] := by first | (simp [entryFrame, mkF, argsToLocals, Value.category]; done) | rfl
def own_f11 (p1 : Int32) (p2 : Int32) (p3 : Int32) : Int32 := (if p1 = (2 : Int32) then (if p2 < (55296 : Int32) then (0 : Int32) else (if (56319 : Int32) < p2 then (0 : Int32) else (if p3 < (56320 : Int32) then (0 : Int32) else (if (57343 : Int32) < p3 then (0 : Int32) else (1 : Int32))))) else (0 : Int32))
set_option maxRecDepth 65536 in
set_option maxHeartbeats 40000000 in
theorem rm11 (l : Launch) (Z : State) (a0 : Array Value) (hw : ∀ d ∈ tables_1, d.before a0 Z = true) (ws : List Jvm.Cond) (p1 : Int32) (p2 : Int32) (p3 : Int32)  (h0 : Heap) (n0 : Nat) (Z0 : n0 ≤ h0.size) :
    MetFree l (⟨"com/example/mathir_tools/mathirtools/formats/text/Utf8OrderComparePinLaw", "isPair", "(ICC)Z"⟩ : MethodName) (head1 (Jvm.Cond.code (⟨"com/example/mathir_tools/mathirtools/formats/text/Utf8OrderComparePinLaw", "isPair", "(ICC)Z"⟩ : MethodName) method_4_code 3 (some .boolean) :: ws) ({ frames := 0, cells := 0, slots := 0, locals := 0 } : Room)) (fun a U => a = #[(.int p1), (.int p2), (.int p3)] ∧ Z.Warmed39 U.vm ∧ U.heap = h0) (fun _ _ _ _ _ => True) (fun _ U o U' => ∃ v L, o = .returned v ∧ own_QI h0 n0 (own_f11 p1 p2 p3) v U'.heap L ∧ FrameEnd U o U' L ({ frames := 0, cells := 0, slots := 0, locals := 0 } : Room).cells ({ frames := 0, cells := 0, slots := 0, locals := 0 } : Room).slots) := by
  refine MetFree.of_bodySF (plainFor_of_name pn_9) hisR ?_
  intro p e s m args below meth c s₁ Bd hml0 hP hK
  obtain ⟨rfl, hZ, hh⟩ := hP
  have hx := Bd.exec
  have hby := Bd.bytes
  have hml : c.maxLocals = 3 := hml0
  have hown : s.vm.findClass "com/example/mathir_tools/mathirtools/formats/text/Utf8OrderComparePinLaw" = some m.cls := findClass_of_methodNamed Bd.named
  have hnm := (name_of_methodNamed Bd.named Bd.method).1
  have X0 : Stand p l e ({ frames := 0, cells := 0, slots := 0, locals := 0 } : Room) s m #[(.int p1), (.int p2), (.int p3)] below meth c s₁ [] 0 0 := Stand.of_body Bd
  have e0 : s₁.heap = h0 := by rw [← hh, Bd.state]; rfl
  have N0 := Fr.nil n0
  obtain ⟨S0, hS0⟩ : ∃ z, z = s₁.setTop (entryFrame m #[(.int p1), (.int p2), (.int p3)] 3) := ⟨_, rfl⟩
  have P0 : own_Pr p.tables e below S0 s₁ (mkF m 0 #[.val (.int p1), .val (.int p2), .val (.int p3)] []) := fun t k => hS0 ▸ castTop (ef_11 m p1 p2 p3) k
  have P1 : own_Pr p.tables e below S0 s₁ (mkF m 2 #[.val (.int p1), .val (.int p2), .val (.int p3)] [(.int (2 : Int32)), (.int p1)]) := fun t k => P0 t (by
    refine XS.iloadN X0.here hx rfl (hb hby d11_0) rfl ?_
    show Steps p.tables e below (s₁.setTop (mkF m 1 #[.val (.int p1), .val (.int p2), .val (.int p3)] [(.int p1)])) _
    refine XS.iconst X0.here hx rfl (hb hby d11_1) ?_
    show Steps p.tables e below (s₁.setTop (mkF m 2 #[.val (.int p1), .val (.int p2), .val (.int p3)] [(.int (2 : Int32)), (.int p1)])) _
    exact k)
  by_cases hc2_2 : p1 = (2 : Int32)
  · have P3 : own_Pr p.tables e below S0 s₁ (mkF m 8 #[.val (.int p1), .val (.int p2), .val (.int p3)] [(.int (55296 : Int32)), (.int p2)]) := fun t k => P1 t (by
      refine XS.icmpNo X0.here hx rfl (hb hby d11_2) rfl (XT.ii_ne_f hc2_2) ?_
      show Steps p.tables e below (s₁.setTop (mkF m 5 #[.val (.int p1), .val (.int p2), .val (.int p3)] [])) _
      refine XS.iloadN X0.here hx rfl (hb hby d11_5) rfl ?_
      show Steps p.tables e below (s₁.setTop (mkF m 6 #[.val (.int p1), .val (.int p2), .val (.int p3)] [(.int p2)])) _
      refine X0.ldcInt hx hown (mvT hZ (hw _ (List.mem_of_getElem? (i := 70) rfl))) (g := (mkF m 6 #[.val (.int p1), .val (.int p2), .val (.int p3)] [(.int p2)])) rfl (hb hby d11_6) _ ?_
      show Steps p.tables e below (s₁.setTop (mkF m 8 #[.val (.int p1), .val (.int p2), .val (.int p3)] [(.int (55296 : Int32)), (.int p2)])) _
      exact k)
    by_cases hc8_4 : p2 < (55296 : Int32)
    · have P5 : own_Pr p.tables e below S0 s₁ (mkF m 34 #[.val (.int p1), .val (.int p2), .val (.int p3)] [(.int (0 : Int32))]) := fun t k => P3 t (by
        refine XS.icmpYes X0.here hx rfl (pc0 := 8) (pc' := 33) rfl (hb hby d11_8) rfl (XT.ii_lt_t hc8_4) (by decide) (by decide) ?_
        show Steps p.tables e below (s₁.setTop (mkF m 33 #[.val (.int p1), .val (.int p2), .val (.int p3)] [])) _
        refine XS.iconst X0.here hx rfl (hb hby d11_33) ?_
        show Steps p.tables e below (s₁.setTop (mkF m 34 #[.val (.int p1), .val (.int p2), .val (.int p3)] [(.int (0 : Int32))])) _
        exact k)
      obtain ⟨fs, hr, hrun, hended, hW, hsame⟩ := X0.leave (v := some (.int (0 : Int32))) (fun h => by rw [Bd.returns] at h; cases h)
      have fin : Steps p.tables e below S0 (s₁.setFrames fs) := P5 _ (retN X0 hx (t := .boolean) Bd.returns (by simp) (hb hby d11_34) hr)
      rw [hS0] at fin
      refine ⟨_, _, fin, hrun, hended, _, _, rfl, ?_, ⟨_, rfl⟩, hW, hsame.mono (by decide) (by decide)⟩
      show own_QI h0 n0 (own_f11 p1 p2 p3) _ s₁.heap _
      rw [e0]
      exact ⟨_, rfl, (by unfold own_f11; rw [if_pos hc2_2, if_pos hc8_4]), N0, rfl⟩
    · have P6 : own_Pr p.tables e below S0 s₁ (mkF m 14 #[.val (.int p1), .val (.int p2), .val (.int p3)] [(.int (56319 : Int32)), (.int p2)]) := fun t k => P3 t (by
        refine XS.icmpNo X0.here hx rfl (hb hby d11_8) rfl (XT.ii_lt_f hc8_4) ?_
        show Steps p.tables e below (s₁.setTop (mkF m 11 #[.val (.int p1), .val (.int p2), .val (.int p3)] [])) _
        refine XS.iloadN X0.here hx rfl (hb hby d11_11) rfl ?_
        show Steps p.tables e below (s₁.setTop (mkF m 12 #[.val (.int p1), .val (.int p2), .val (.int p3)] [(.int p2)])) _
        refine X0.ldcInt hx hown (mvT hZ (hw _ (List.mem_of_getElem? (i := 108) rfl))) (g := (mkF m 12 #[.val (.int p1), .val (.int p2), .val (.int p3)] [(.int p2)])) rfl (hb hby d11_12) _ ?_
        show Steps p.tables e below (s₁.setTop (mkF m 14 #[.val (.int p1), .val (.int p2), .val (.int p3)] [(.int (56319 : Int32)), (.int p2)])) _
        exact k)
      by_cases hc14_7 : (56319 : Int32) < p2
      · have P8 : own_Pr p.tables e below S0 s₁ (mkF m 34 #[.val (.int p1), .val (.int p2), .val (.int p3)] [(.int (0 : Int32))]) := fun t k => P6 t (by
          refine XS.icmpYes X0.here hx rfl (pc0 := 14) (pc' := 33) rfl (hb hby d11_14) rfl (XT.ii_gt_t hc14_7) (by decide) (by decide) ?_
          show Steps p.tables e below (s₁.setTop (mkF m 33 #[.val (.int p1), .val (.int p2), .val (.int p3)] [])) _
          refine XS.iconst X0.here hx rfl (hb hby d11_33) ?_
          show Steps p.tables e below (s₁.setTop (mkF m 34 #[.val (.int p1), .val (.int p2), .val (.int p3)] [(.int (0 : Int32))])) _
          exact k)
        obtain ⟨fs, hr, hrun, hended, hW, hsame⟩ := X0.leave (v := some (.int (0 : Int32))) (fun h => by rw [Bd.returns] at h; cases h)
        have fin : Steps p.tables e below S0 (s₁.setFrames fs) := P8 _ (retN X0 hx (t := .boolean) Bd.returns (by simp) (hb hby d11_34) hr)
        rw [hS0] at fin
        refine ⟨_, _, fin, hrun, hended, _, _, rfl, ?_, ⟨_, rfl⟩, hW, hsame.mono (by decide) (by decide)⟩
        show own_QI h0 n0 (own_f11 p1 p2 p3) _ s₁.heap _
        rw [e0]
        exact ⟨_, rfl, (by unfold own_f11; rw [if_pos hc2_2, if_neg hc8_4, if_pos hc14_7]), N0, rfl⟩
      · have P9 : own_Pr p.tables e below S0 s₁ (mkF m 20 #[.val (.int p1), .val (.int p2), .val (.int p3)] [(.int (56320 : Int32)), (.int p3)]) := fun t k => P6 t (by
          refine XS.icmpNo X0.here hx rfl (hb hby d11_14) rfl (XT.ii_gt_f hc14_7) ?_
          show Steps p.tables e below (s₁.setTop (mkF m 17 #[.val (.int p1), .val (.int p2), .val (.int p3)] [])) _
          refine XS.iloadN X0.here hx rfl (hb hby d11_17) rfl ?_
          show Steps p.tables e below (s₁.setTop (mkF m 18 #[.val (.int p1), .val (.int p2), .val (.int p3)] [(.int p3)])) _
          refine X0.ldcInt hx hown (mvT hZ (hw _ (List.mem_of_getElem? (i := 71) rfl))) (g := (mkF m 18 #[.val (.int p1), .val (.int p2), .val (.int p3)] [(.int p3)])) rfl (hb hby d11_18) _ ?_
          show Steps p.tables e below (s₁.setTop (mkF m 20 #[.val (.int p1), .val (.int p2), .val (.int p3)] [(.int (56320 : Int32)), (.int p3)])) _
          exact k)
        by_cases hc20_10 : p3 < (56320 : Int32)
        · have P11 : own_Pr p.tables e below S0 s₁ (mkF m 34 #[.val (.int p1), .val (.int p2), .val (.int p3)] [(.int (0 : Int32))]) := fun t k => P9 t (by
            refine XS.icmpYes X0.here hx rfl (pc0 := 20) (pc' := 33) rfl (hb hby d11_20) rfl (XT.ii_lt_t hc20_10) (by decide) (by decide) ?_
            show Steps p.tables e below (s₁.setTop (mkF m 33 #[.val (.int p1), .val (.int p2), .val (.int p3)] [])) _
            refine XS.iconst X0.here hx rfl (hb hby d11_33) ?_
            show Steps p.tables e below (s₁.setTop (mkF m 34 #[.val (.int p1), .val (.int p2), .val (.int p3)] [(.int (0 : Int32))])) _
            exact k)
          obtain ⟨fs, hr, hrun, hended, hW, hsame⟩ := X0.leave (v := some (.int (0 : Int32))) (fun h => by rw [Bd.returns] at h; cases h)
          have fin : Steps p.tables e below S0 (s₁.setFrames fs) := P11 _ (retN X0 hx (t := .boolean) Bd.returns (by simp) (hb hby d11_34) hr)
          rw [hS0] at fin
          refine ⟨_, _, fin, hrun, hended, _, _, rfl, ?_, ⟨_, rfl⟩, hW, hsame.mono (by decide) (by decide)⟩
          show own_QI h0 n0 (own_f11 p1 p2 p3) _ s₁.heap _
          rw [e0]
          exact ⟨_, rfl, (by unfold own_f11; rw [if_pos hc2_2, if_neg hc8_4, if_neg hc14_7, if_pos hc20_10]), N0, rfl⟩
        · have P12 : own_Pr p.tables e below S0 s₁ (mkF m 26 #[.val (.int p1), .val (.int p2), .val (.int p3)] [(.int (57343 : Int32)), (.int p3)]) := fun t k => P9 t (by
            refine XS.icmpNo X0.here hx rfl (hb hby d11_20) rfl (XT.ii_lt_f hc20_10) ?_
            show Steps p.tables e below (s₁.setTop (mkF m 23 #[.val (.int p1), .val (.int p2), .val (.int p3)] [])) _
            refine XS.iloadN X0.here hx rfl (hb hby d11_23) rfl ?_
            show Steps p.tables e below (s₁.setTop (mkF m 24 #[.val (.int p1), .val (.int p2), .val (.int p3)] [(.int p3)])) _
            refine X0.ldcInt hx hown (mvT hZ (hw _ (List.mem_of_getElem? (i := 109) rfl))) (g := (mkF m 24 #[.val (.int p1), .val (.int p2), .val (.int p3)] [(.int p3)])) rfl (hb hby d11_24) _ ?_
            show Steps p.tables e below (s₁.setTop (mkF m 26 #[.val (.int p1), .val (.int p2), .val (.int p3)] [(.int (57343 : Int32)), (.int p3)])) _
            exact k)
          by_cases hc26_13 : (57343 : Int32) < p3
          · have P14 : own_Pr p.tables e below S0 s₁ (mkF m 34 #[.val (.int p1), .val (.int p2), .val (.int p3)] [(.int (0 : Int32))]) := fun t k => P12 t (by
              refine XS.icmpYes X0.here hx rfl (pc0 := 26) (pc' := 33) rfl (hb hby d11_26) rfl (XT.ii_gt_t hc26_13) (by decide) (by decide) ?_
              show Steps p.tables e below (s₁.setTop (mkF m 33 #[.val (.int p1), .val (.int p2), .val (.int p3)] [])) _
              refine XS.iconst X0.here hx rfl (hb hby d11_33) ?_
              show Steps p.tables e below (s₁.setTop (mkF m 34 #[.val (.int p1), .val (.int p2), .val (.int p3)] [(.int (0 : Int32))])) _
              exact k)
            obtain ⟨fs, hr, hrun, hended, hW, hsame⟩ := X0.leave (v := some (.int (0 : Int32))) (fun h => by rw [Bd.returns] at h; cases h)
            have fin : Steps p.tables e below S0 (s₁.setFrames fs) := P14 _ (retN X0 hx (t := .boolean) Bd.returns (by simp) (hb hby d11_34) hr)
            rw [hS0] at fin
            refine ⟨_, _, fin, hrun, hended, _, _, rfl, ?_, ⟨_, rfl⟩, hW, hsame.mono (by decide) (by decide)⟩
            show own_QI h0 n0 (own_f11 p1 p2 p3) _ s₁.heap _
            rw [e0]
            exact ⟨_, rfl, (by unfold own_f11; rw [if_pos hc2_2, if_neg hc8_4, if_neg hc14_7, if_neg hc20_10, if_pos hc26_13]), N0, rfl⟩
          · have P15 : own_Pr p.tables e below S0 s₁ (mkF m 34 #[.val (.int p1), .val (.int p2), .val (.int p3)] [(.int (1 : Int32))]) := fun t k => P12 t (by
              refine XS.icmpNo X0.here hx rfl (hb hby d11_26) rfl (XT.ii_gt_f hc26_13) ?_
              show Steps p.tables e below (s₁.setTop (mkF m 29 #[.val (.int p1), .val (.int p2), .val (.int p3)] [])) _
              refine XS.iconst X0.here hx rfl (hb hby d11_29) ?_
              show Steps p.tables e below (s₁.setTop (mkF m 30 #[.val (.int p1), .val (.int p2), .val (.int p3)] [(.int (1 : Int32))])) _
              refine XS.goto X0.here hx rfl (pc0 := 30) (pc' := 34) rfl (hb hby d11_30) (by decide) (by decide) ?_
              show Steps p.tables e below (s₁.setTop (mkF m 34 #[.val (.int p1), .val (.int p2), .val (.int p3)] [(.int (1 : Int32))])) _
              exact k)
            obtain ⟨fs, hr, hrun, hended, hW, hsame⟩ := X0.leave (v := some (.int (1 : Int32))) (fun h => by rw [Bd.returns] at h; cases h)
            have fin : Steps p.tables e below S0 (s₁.setFrames fs) := P15 _ (retN X0 hx (t := .boolean) Bd.returns (by simp) (hb hby d11_34) hr)
            rw [hS0] at fin
            refine ⟨_, _, fin, hrun, hended, _, _, rfl, ?_, ⟨_, rfl⟩, hW, hsame.mono (by decide) (by decide)⟩
            show own_QI h0 n0 (own_f11 p1 p2 p3) _ s₁.heap _
            rw [e0]
            exact ⟨_, rfl, (by unfold own_f11; rw [if_pos hc2_2, if_neg hc8_4, if_neg hc14_7, if_neg hc20_10, if_neg hc26_13]), N0, rfl⟩
  · have P16 : own_Pr p.tables e below S0 s₁ (mkF m 34 #[.val (.int p1), .val (.int p2), .val (.int p3)] [(.int (0 : Int32))]) := fun t k => P1 t (by
      refine XS.icmpYes X0.here hx rfl (pc0 := 2) (pc' := 33) rfl (hb hby d11_2) rfl (XT.ii_ne_t hc2_2) (by decide) (by decide) ?_
      show Steps p.tables e below (s₁.setTop (mkF m 33 #[.val (.int p1), .val (.int p2), .val (.int p3)] [])) _
      refine XS.iconst X0.here hx rfl (hb hby d11_33) ?_
      show Steps p.tables e below (s₁.setTop (mkF m 34 #[.val (.int p1), .val (.int p2), .val (.int p3)] [(.int (0 : Int32))])) _
      exact k)
    obtain ⟨fs, hr, hrun, hended, hW, hsame⟩ := X0.leave (v := some (.int (0 : Int32))) (fun h => by rw [Bd.returns] at h; cases h)
    have fin : Steps p.tables e below S0 (s₁.setFrames fs) := P16 _ (retN X0 hx (t := .boolean) Bd.returns (by simp) (hb hby d11_34) hr)
    rw [hS0] at fin
    refine ⟨_, _, fin, hrun, hended, _, _, rfl, ?_, ⟨_, rfl⟩, hW, hsame.mono (by decide) (by decide)⟩
    show own_QI h0 n0 (own_f11 p1 p2 p3) _ s₁.heap _
    rw [e0]
    exact ⟨_, rfl, (by unfold own_f11; rw [if_neg hc2_2]), N0, rfl⟩
theorem d18_0 : decode jdk_43_method_3_code 0 = .ok (.iload_n 0, 1) := by decide +kernel
theorem d18_1 : decode jdk_43_method_3_code 1 = .ok (.sipush 255, 3) := by decide +kernel
theorem d18_4 : decode jdk_43_method_3_code 4 = .ok (.if_icmp .gt 7, 3) := by decide +kernel
theorem d18_7 : decode jdk_43_method_3_code 7 = .ok (.iconst 1, 1) := by decide +kernel
theorem d18_8 : decode jdk_43_method_3_code 8 = .ok (.goto 4, 3) := by decide +kernel
theorem d18_11 : decode jdk_43_method_3_code 11 = .ok (.iconst 0, 1) := by decide +kernel
theorem d18_12 : decode jdk_43_method_3_code 12 = .ok (.ireturn, 1) := by decide +kernel
theorem pn_18 : plainName "java/lang/StringLatin1" = true := by first | (simp [plainName, overriddenIn]; done) | decide +kernel
theorem ef_18 (m : MethodId) (p1 : Int32) : entryFrame m #[(.int p1)] 1 = mkF m 0 #[.val (.int p1)] [] := by first | (simp [entryFrame, mkF, argsToLocals, Value.category]; done) | rfl
def own_f18 (p1 : Int32) : Int32 := (if (255 : Int32) < p1 then (0 : Int32) else (1 : Int32))
set_option maxRecDepth 65536 in
set_option maxHeartbeats 40000000 in
theorem rm18 (l : Launch) (Z : State) (a0 : Array Value) (hw : ∀ d ∈ tables_1, d.before a0 Z = true) (ws : List Jvm.Cond) (p1 : Int32)  (h0 : Heap) (n0 : Nat) (Z0 : n0 ≤ h0.size) :
    MetFree l (⟨"java/lang/StringLatin1", "canEncode", "(C)Z"⟩ : MethodName) (head1 (Jvm.Cond.code (⟨"java/lang/StringLatin1", "canEncode", "(C)Z"⟩ : MethodName) jdk_43_method_3_code 1 (some .boolean) :: ws) ({ frames := 0, cells := 0, slots := 0, locals := 0 } : Room)) (fun a U => a = #[(.int p1)] ∧ Z.Warmed39 U.vm ∧ U.heap = h0) (fun _ _ _ _ _ => True) (fun _ U o U' => ∃ v L, o = .returned v ∧ own_QI h0 n0 (own_f18 p1) v U'.heap L ∧ FrameEnd U o U' L ({ frames := 0, cells := 0, slots := 0, locals := 0 } : Room).cells ({ frames := 0, cells := 0, slots := 0, locals := 0 } : Room).slots) := by
  refine MetFree.of_bodySF (plainFor_of_name pn_18) hisR ?_
  intro p e s m args below meth c s₁ Bd hml0 hP hK
  obtain ⟨rfl, hZ, hh⟩ := hP
  have hx := Bd.exec
  have hby := Bd.bytes
  have hml : c.maxLocals = 1 := hml0
  have hown : s.vm.findClass "java/lang/StringLatin1" = some m.cls := findClass_of_methodNamed Bd.named
  have hnm := (name_of_methodNamed Bd.named Bd.method).1
  have X0 : Stand p l e ({ frames := 0, cells := 0, slots := 0, locals := 0 } : Room) s m #[(.int p1)] below meth c s₁ [] 0 0 := Stand.of_body Bd
  have e0 : s₁.heap = h0 := by rw [← hh, Bd.state]; rfl
  have N0 := Fr.nil n0
  obtain ⟨S0, hS0⟩ : ∃ z, z = s₁.setTop (entryFrame m #[(.int p1)] 1) := ⟨_, rfl⟩
  have P0 : own_Pr p.tables e below S0 s₁ (mkF m 0 #[.val (.int p1)] []) := fun t k => hS0 ▸ castTop (ef_18 m p1) k
  have P1 : own_Pr p.tables e below S0 s₁ (mkF m 4 #[.val (.int p1)] [(.int (255 : Int32)), (.int p1)]) := fun t k => P0 t (by
    refine XS.iloadN X0.here hx rfl (hb hby d18_0) rfl ?_
    show Steps p.tables e below (s₁.setTop (mkF m 1 #[.val (.int p1)] [(.int p1)])) _
    refine XS.sipush X0.here hx rfl (hb hby d18_1) ?_
    show Steps p.tables e below (s₁.setTop (mkF m 4 #[.val (.int p1)] [(.int (255 : Int32)), (.int p1)])) _
    exact k)
  by_cases hc4_2 : (255 : Int32) < p1
  · have P3 : own_Pr p.tables e below S0 s₁ (mkF m 12 #[.val (.int p1)] [(.int (0 : Int32))]) := fun t k => P1 t (by
      refine XS.icmpYes X0.here hx rfl (pc0 := 4) (pc' := 11) rfl (hb hby d18_4) rfl (XT.ii_gt_t hc4_2) (by decide) (by decide) ?_
      show Steps p.tables e below (s₁.setTop (mkF m 11 #[.val (.int p1)] [])) _
      refine XS.iconst X0.here hx rfl (hb hby d18_11) ?_
      show Steps p.tables e below (s₁.setTop (mkF m 12 #[.val (.int p1)] [(.int (0 : Int32))])) _
      exact k)
    obtain ⟨fs, hr, hrun, hended, hW, hsame⟩ := X0.leave (v := some (.int (0 : Int32))) (fun h => by rw [Bd.returns] at h; cases h)
    have fin : Steps p.tables e below S0 (s₁.setFrames fs) := P3 _ (retN X0 hx (t := .boolean) Bd.returns (by simp) (hb hby d18_12) hr)
    rw [hS0] at fin
    refine ⟨_, _, fin, hrun, hended, _, _, rfl, ?_, ⟨_, rfl⟩, hW, hsame.mono (by decide) (by decide)⟩
    show own_QI h0 n0 (own_f18 p1) _ s₁.heap _
    rw [e0]
    exact ⟨_, rfl, (by unfold own_f18; rw [if_pos hc4_2]), N0, rfl⟩
  · have P4 : own_Pr p.tables e below S0 s₁ (mkF m 12 #[.val (.int p1)] [(.int (1 : Int32))]) := fun t k => P1 t (by
      refine XS.icmpNo X0.here hx rfl (hb hby d18_4) rfl (XT.ii_gt_f hc4_2) ?_
      show Steps p.tables e below (s₁.setTop (mkF m 7 #[.val (.int p1)] [])) _
      refine XS.iconst X0.here hx rfl (hb hby d18_7) ?_
      show Steps p.tables e below (s₁.setTop (mkF m 8 #[.val (.int p1)] [(.int (1 : Int32))])) _
      refine XS.goto X0.here hx rfl (pc0 := 8) (pc' := 12) rfl (hb hby d18_8) (by decide) (by decide) ?_
      show Steps p.tables e below (s₁.setTop (mkF m 12 #[.val (.int p1)] [(.int (1 : Int32))])) _
      exact k)
    obtain ⟨fs, hr, hrun, hended, hW, hsame⟩ := X0.leave (v := some (.int (1 : Int32))) (fun h => by rw [Bd.returns] at h; cases h)
    have fin : Steps p.tables e below S0 (s₁.setFrames fs) := P4 _ (retN X0 hx (t := .boolean) Bd.returns (by simp) (hb hby d18_12) hr)
    rw [hS0] at fin
    refine ⟨_, _, fin, hrun, hended, _, _, rfl, ?_, ⟨_, rfl⟩, hW, hsame.mono (by decide) (by decide)⟩
    show own_QI h0 n0 (own_f18 p1) _ s₁.heap _
    rw [e0]
    exact ⟨_, rfl, (by unfold own_f18; rw [if_neg hc4_2]), N0, rfl⟩
theorem d33_0 : decode jdk_89_method_14_code 0 = .ok (.iload_n 0, 1) := by decide +kernel
theorem d33_1 : decode jdk_89_method_14_code 1 = .ok (.ldc 75, 2) := by decide +kernel
theorem d33_3 : decode jdk_89_method_14_code 3 = .ok (.if_icmp .lt 13, 3) := by decide +kernel
theorem d33_6 : decode jdk_89_method_14_code 6 = .ok (.iload_n 0, 1) := by decide +kernel
theorem d33_7 : decode jdk_89_method_14_code 7 = .ok (.ldc 76, 2) := by decide +kernel
theorem d33_9 : decode jdk_89_method_14_code 9 = .ok (.if_icmp .ge 7, 3) := by decide +kernel
theorem d33_12 : decode jdk_89_method_14_code 12 = .ok (.iconst 1, 1) := by decide +kernel
theorem d33_13 : decode jdk_89_method_14_code 13 = .ok (.goto 4, 3) := by decide +kernel
theorem d33_16 : decode jdk_89_method_14_code 16 = .ok (.iconst 0, 1) := by decide +kernel
theorem d33_17 : decode jdk_89_method_14_code 17 = .ok (.ireturn, 1) := by decide +kernel
theorem pn_33 : plainName "java/lang/Character" = true := by first | (simp [plainName, overriddenIn]; done) | decide +kernel
theorem ef_33 (m : MethodId) (p1 : Int32) : entryFrame m #[(.int p1)] 1 = mkF m 0 #[.val (.int p1)] [] := by first | (simp [entryFrame, mkF, argsToLocals, Value.category]; done) | rfl
def own_f33 (p1 : Int32) : Int32 := (if p1 < (55296 : Int32) then (0 : Int32) else (if p1 < (56320 : Int32) then (1 : Int32) else (0 : Int32)))
set_option maxRecDepth 65536 in
set_option maxHeartbeats 40000000 in
theorem rm33 (l : Launch) (Z : State) (a0 : Array Value) (hw : ∀ d ∈ tables_1, d.before a0 Z = true) (ws : List Jvm.Cond) (p1 : Int32)  (h0 : Heap) (n0 : Nat) (Z0 : n0 ≤ h0.size) :
    MetFree l (⟨"java/lang/Character", "isHighSurrogate", "(C)Z"⟩ : MethodName) (head1 (Jvm.Cond.code (⟨"java/lang/Character", "isHighSurrogate", "(C)Z"⟩ : MethodName) jdk_89_method_14_code 1 (some .boolean) :: ws) ({ frames := 0, cells := 0, slots := 0, locals := 0 } : Room)) (fun a U => a = #[(.int p1)] ∧ Z.Warmed39 U.vm ∧ U.heap = h0) (fun _ _ _ _ _ => True) (fun _ U o U' => ∃ v L, o = .returned v ∧ own_QI h0 n0 (own_f33 p1) v U'.heap L ∧ FrameEnd U o U' L ({ frames := 0, cells := 0, slots := 0, locals := 0 } : Room).cells ({ frames := 0, cells := 0, slots := 0, locals := 0 } : Room).slots) := by
  refine MetFree.of_bodySF (plainFor_of_name pn_33) hisR ?_
  intro p e s m args below meth c s₁ Bd hml0 hP hK
  obtain ⟨rfl, hZ, hh⟩ := hP
  have hx := Bd.exec
  have hby := Bd.bytes
  have hml : c.maxLocals = 1 := hml0
  have hown : s.vm.findClass "java/lang/Character" = some m.cls := findClass_of_methodNamed Bd.named
  have hnm := (name_of_methodNamed Bd.named Bd.method).1
  have X0 : Stand p l e ({ frames := 0, cells := 0, slots := 0, locals := 0 } : Room) s m #[(.int p1)] below meth c s₁ [] 0 0 := Stand.of_body Bd
  have e0 : s₁.heap = h0 := by rw [← hh, Bd.state]; rfl
  have N0 := Fr.nil n0
  obtain ⟨S0, hS0⟩ : ∃ z, z = s₁.setTop (entryFrame m #[(.int p1)] 1) := ⟨_, rfl⟩
  have P0 : own_Pr p.tables e below S0 s₁ (mkF m 0 #[.val (.int p1)] []) := fun t k => hS0 ▸ castTop (ef_33 m p1) k
  have P1 : own_Pr p.tables e below S0 s₁ (mkF m 3 #[.val (.int p1)] [(.int (55296 : Int32)), (.int p1)]) := fun t k => P0 t (by
    refine XS.iloadN X0.here hx rfl (hb hby d33_0) rfl ?_
    show Steps p.tables e below (s₁.setTop (mkF m 1 #[.val (.int p1)] [(.int p1)])) _
    refine X0.ldcInt hx hown (mvT hZ (hw _ (List.mem_of_getElem? (i := 139) rfl))) (g := (mkF m 1 #[.val (.int p1)] [(.int p1)])) rfl (hb hby d33_1) _ ?_
    show Steps p.tables e below (s₁.setTop (mkF m 3 #[.val (.int p1)] [(.int (55296 : Int32)), (.int p1)])) _
    exact k)
  by_cases hc3_2 : p1 < (55296 : Int32)
  · have P3 : own_Pr p.tables e below S0 s₁ (mkF m 17 #[.val (.int p1)] [(.int (0 : Int32))]) := fun t k => P1 t (by
      refine XS.icmpYes X0.here hx rfl (pc0 := 3) (pc' := 16) rfl (hb hby d33_3) rfl (XT.ii_lt_t hc3_2) (by decide) (by decide) ?_
      show Steps p.tables e below (s₁.setTop (mkF m 16 #[.val (.int p1)] [])) _
      refine XS.iconst X0.here hx rfl (hb hby d33_16) ?_
      show Steps p.tables e below (s₁.setTop (mkF m 17 #[.val (.int p1)] [(.int (0 : Int32))])) _
      exact k)
    obtain ⟨fs, hr, hrun, hended, hW, hsame⟩ := X0.leave (v := some (.int (0 : Int32))) (fun h => by rw [Bd.returns] at h; cases h)
    have fin : Steps p.tables e below S0 (s₁.setFrames fs) := P3 _ (retN X0 hx (t := .boolean) Bd.returns (by simp) (hb hby d33_17) hr)
    rw [hS0] at fin
    refine ⟨_, _, fin, hrun, hended, _, _, rfl, ?_, ⟨_, rfl⟩, hW, hsame.mono (by decide) (by decide)⟩
    show own_QI h0 n0 (own_f33 p1) _ s₁.heap _
    rw [e0]
    exact ⟨_, rfl, (by unfold own_f33; rw [if_pos hc3_2]), N0, rfl⟩
  · have P4 : own_Pr p.tables e below S0 s₁ (mkF m 9 #[.val (.int p1)] [(.int (56320 : Int32)), (.int p1)]) := fun t k => P1 t (by
      refine XS.icmpNo X0.here hx rfl (hb hby d33_3) rfl (XT.ii_lt_f hc3_2) ?_
      show Steps p.tables e below (s₁.setTop (mkF m 6 #[.val (.int p1)] [])) _
      refine XS.iloadN X0.here hx rfl (hb hby d33_6) rfl ?_
      show Steps p.tables e below (s₁.setTop (mkF m 7 #[.val (.int p1)] [(.int p1)])) _
      refine X0.ldcInt hx hown (mvT hZ (hw _ (List.mem_of_getElem? (i := 144) rfl))) (g := (mkF m 7 #[.val (.int p1)] [(.int p1)])) rfl (hb hby d33_7) _ ?_
      show Steps p.tables e below (s₁.setTop (mkF m 9 #[.val (.int p1)] [(.int (56320 : Int32)), (.int p1)])) _
      exact k)
    by_cases hc9_5 : p1 < (56320 : Int32)
    · have P6 : own_Pr p.tables e below S0 s₁ (mkF m 17 #[.val (.int p1)] [(.int (1 : Int32))]) := fun t k => P4 t (by
        refine XS.icmpNo X0.here hx rfl (hb hby d33_9) rfl (XT.ii_ge_f hc9_5) ?_
        show Steps p.tables e below (s₁.setTop (mkF m 12 #[.val (.int p1)] [])) _
        refine XS.iconst X0.here hx rfl (hb hby d33_12) ?_
        show Steps p.tables e below (s₁.setTop (mkF m 13 #[.val (.int p1)] [(.int (1 : Int32))])) _
        refine XS.goto X0.here hx rfl (pc0 := 13) (pc' := 17) rfl (hb hby d33_13) (by decide) (by decide) ?_
        show Steps p.tables e below (s₁.setTop (mkF m 17 #[.val (.int p1)] [(.int (1 : Int32))])) _
        exact k)
      obtain ⟨fs, hr, hrun, hended, hW, hsame⟩ := X0.leave (v := some (.int (1 : Int32))) (fun h => by rw [Bd.returns] at h; cases h)
      have fin : Steps p.tables e below S0 (s₁.setFrames fs) := P6 _ (retN X0 hx (t := .boolean) Bd.returns (by simp) (hb hby d33_17) hr)
      rw [hS0] at fin
      refine ⟨_, _, fin, hrun, hended, _, _, rfl, ?_, ⟨_, rfl⟩, hW, hsame.mono (by decide) (by decide)⟩
      show own_QI h0 n0 (own_f33 p1) _ s₁.heap _
      rw [e0]
      exact ⟨_, rfl, (by unfold own_f33; rw [if_neg hc3_2, if_pos hc9_5]), N0, rfl⟩
    · have P7 : own_Pr p.tables e below S0 s₁ (mkF m 17 #[.val (.int p1)] [(.int (0 : Int32))]) := fun t k => P4 t (by
        refine XS.icmpYes X0.here hx rfl (pc0 := 9) (pc' := 16) rfl (hb hby d33_9) rfl (XT.ii_ge_t hc9_5) (by decide) (by decide) ?_
        show Steps p.tables e below (s₁.setTop (mkF m 16 #[.val (.int p1)] [])) _
        refine XS.iconst X0.here hx rfl (hb hby d33_16) ?_
        show Steps p.tables e below (s₁.setTop (mkF m 17 #[.val (.int p1)] [(.int (0 : Int32))])) _
        exact k)
      obtain ⟨fs, hr, hrun, hended, hW, hsame⟩ := X0.leave (v := some (.int (0 : Int32))) (fun h => by rw [Bd.returns] at h; cases h)
      have fin : Steps p.tables e below S0 (s₁.setFrames fs) := P7 _ (retN X0 hx (t := .boolean) Bd.returns (by simp) (hb hby d33_17) hr)
      rw [hS0] at fin
      refine ⟨_, _, fin, hrun, hended, _, _, rfl, ?_, ⟨_, rfl⟩, hW, hsame.mono (by decide) (by decide)⟩
      show own_QI h0 n0 (own_f33 p1) _ s₁.heap _
      rw [e0]
      exact ⟨_, rfl, (by unfold own_f33; rw [if_neg hc3_2, if_neg hc9_5]), N0, rfl⟩
theorem d35_0 : decode jdk_89_method_15_code 0 = .ok (.iload_n 0, 1) := by decide +kernel
theorem d35_1 : decode jdk_89_method_15_code 1 = .ok (.ldc 76, 2) := by decide +kernel
theorem d35_3 : decode jdk_89_method_15_code 3 = .ok (.if_icmp .lt 13, 3) := by decide +kernel
theorem d35_6 : decode jdk_89_method_15_code 6 = .ok (.iload_n 0, 1) := by decide +kernel
theorem d35_7 : decode jdk_89_method_15_code 7 = .ok (.ldc 77, 2) := by decide +kernel
theorem d35_9 : decode jdk_89_method_15_code 9 = .ok (.if_icmp .ge 7, 3) := by decide +kernel
theorem d35_12 : decode jdk_89_method_15_code 12 = .ok (.iconst 1, 1) := by decide +kernel
theorem d35_13 : decode jdk_89_method_15_code 13 = .ok (.goto 4, 3) := by decide +kernel
theorem d35_16 : decode jdk_89_method_15_code 16 = .ok (.iconst 0, 1) := by decide +kernel
theorem d35_17 : decode jdk_89_method_15_code 17 = .ok (.ireturn, 1) := by decide +kernel
theorem ef_35 (m : MethodId) (p1 : Int32) : entryFrame m #[(.int p1)] 1 = mkF m 0 #[.val (.int p1)] [] := by first | (simp [entryFrame, mkF, argsToLocals, Value.category]; done) | rfl
def own_f35 (p1 : Int32) : Int32 := (if p1 < (56320 : Int32) then (0 : Int32) else (if p1 < (57344 : Int32) then (1 : Int32) else (0 : Int32)))
set_option maxRecDepth 65536 in
set_option maxHeartbeats 40000000 in
theorem rm35 (l : Launch) (Z : State) (a0 : Array Value) (hw : ∀ d ∈ tables_1, d.before a0 Z = true) (ws : List Jvm.Cond) (p1 : Int32)  (h0 : Heap) (n0 : Nat) (Z0 : n0 ≤ h0.size) :
    MetFree l (⟨"java/lang/Character", "isLowSurrogate", "(C)Z"⟩ : MethodName) (head1 (Jvm.Cond.code (⟨"java/lang/Character", "isLowSurrogate", "(C)Z"⟩ : MethodName) jdk_89_method_15_code 1 (some .boolean) :: ws) ({ frames := 0, cells := 0, slots := 0, locals := 0 } : Room)) (fun a U => a = #[(.int p1)] ∧ Z.Warmed39 U.vm ∧ U.heap = h0) (fun _ _ _ _ _ => True) (fun _ U o U' => ∃ v L, o = .returned v ∧ own_QI h0 n0 (own_f35 p1) v U'.heap L ∧ FrameEnd U o U' L ({ frames := 0, cells := 0, slots := 0, locals := 0 } : Room).cells ({ frames := 0, cells := 0, slots := 0, locals := 0 } : Room).slots) := by
  refine MetFree.of_bodySF (plainFor_of_name pn_33) hisR ?_
  intro p e s m args below meth c s₁ Bd hml0 hP hK
  obtain ⟨rfl, hZ, hh⟩ := hP
  have hx := Bd.exec
  have hby := Bd.bytes
  have hml : c.maxLocals = 1 := hml0
  have hown : s.vm.findClass "java/lang/Character" = some m.cls := findClass_of_methodNamed Bd.named
  have hnm := (name_of_methodNamed Bd.named Bd.method).1
  have X0 : Stand p l e ({ frames := 0, cells := 0, slots := 0, locals := 0 } : Room) s m #[(.int p1)] below meth c s₁ [] 0 0 := Stand.of_body Bd
  have e0 : s₁.heap = h0 := by rw [← hh, Bd.state]; rfl
  have N0 := Fr.nil n0
  obtain ⟨S0, hS0⟩ : ∃ z, z = s₁.setTop (entryFrame m #[(.int p1)] 1) := ⟨_, rfl⟩
  have P0 : own_Pr p.tables e below S0 s₁ (mkF m 0 #[.val (.int p1)] []) := fun t k => hS0 ▸ castTop (ef_35 m p1) k
  have P1 : own_Pr p.tables e below S0 s₁ (mkF m 3 #[.val (.int p1)] [(.int (56320 : Int32)), (.int p1)]) := fun t k => P0 t (by
    refine XS.iloadN X0.here hx rfl (hb hby d35_0) rfl ?_
    show Steps p.tables e below (s₁.setTop (mkF m 1 #[.val (.int p1)] [(.int p1)])) _
    refine X0.ldcInt hx hown (mvT hZ (hw _ (List.mem_of_getElem? (i := 144) rfl))) (g := (mkF m 1 #[.val (.int p1)] [(.int p1)])) rfl (hb hby d35_1) _ ?_
    show Steps p.tables e below (s₁.setTop (mkF m 3 #[.val (.int p1)] [(.int (56320 : Int32)), (.int p1)])) _
    exact k)
  by_cases hc3_2 : p1 < (56320 : Int32)
  · have P3 : own_Pr p.tables e below S0 s₁ (mkF m 17 #[.val (.int p1)] [(.int (0 : Int32))]) := fun t k => P1 t (by
      refine XS.icmpYes X0.here hx rfl (pc0 := 3) (pc' := 16) rfl (hb hby d35_3) rfl (XT.ii_lt_t hc3_2) (by decide) (by decide) ?_
      show Steps p.tables e below (s₁.setTop (mkF m 16 #[.val (.int p1)] [])) _
      refine XS.iconst X0.here hx rfl (hb hby d35_16) ?_
      show Steps p.tables e below (s₁.setTop (mkF m 17 #[.val (.int p1)] [(.int (0 : Int32))])) _
      exact k)
    obtain ⟨fs, hr, hrun, hended, hW, hsame⟩ := X0.leave (v := some (.int (0 : Int32))) (fun h => by rw [Bd.returns] at h; cases h)
    have fin : Steps p.tables e below S0 (s₁.setFrames fs) := P3 _ (retN X0 hx (t := .boolean) Bd.returns (by simp) (hb hby d35_17) hr)
    rw [hS0] at fin
    refine ⟨_, _, fin, hrun, hended, _, _, rfl, ?_, ⟨_, rfl⟩, hW, hsame.mono (by decide) (by decide)⟩
    show own_QI h0 n0 (own_f35 p1) _ s₁.heap _
    rw [e0]
    exact ⟨_, rfl, (by unfold own_f35; rw [if_pos hc3_2]), N0, rfl⟩
  · have P4 : own_Pr p.tables e below S0 s₁ (mkF m 9 #[.val (.int p1)] [(.int (57344 : Int32)), (.int p1)]) := fun t k => P1 t (by
      refine XS.icmpNo X0.here hx rfl (hb hby d35_3) rfl (XT.ii_lt_f hc3_2) ?_
      show Steps p.tables e below (s₁.setTop (mkF m 6 #[.val (.int p1)] [])) _
      refine XS.iloadN X0.here hx rfl (hb hby d35_6) rfl ?_
      show Steps p.tables e below (s₁.setTop (mkF m 7 #[.val (.int p1)] [(.int p1)])) _
      refine X0.ldcInt hx hown (mvT hZ (hw _ (List.mem_of_getElem? (i := 148) rfl))) (g := (mkF m 7 #[.val (.int p1)] [(.int p1)])) rfl (hb hby d35_7) _ ?_
      show Steps p.tables e below (s₁.setTop (mkF m 9 #[.val (.int p1)] [(.int (57344 : Int32)), (.int p1)])) _
      exact k)
    by_cases hc9_5 : p1 < (57344 : Int32)
    · have P6 : own_Pr p.tables e below S0 s₁ (mkF m 17 #[.val (.int p1)] [(.int (1 : Int32))]) := fun t k => P4 t (by
        refine XS.icmpNo X0.here hx rfl (hb hby d35_9) rfl (XT.ii_ge_f hc9_5) ?_
        show Steps p.tables e below (s₁.setTop (mkF m 12 #[.val (.int p1)] [])) _
        refine XS.iconst X0.here hx rfl (hb hby d35_12) ?_
        show Steps p.tables e below (s₁.setTop (mkF m 13 #[.val (.int p1)] [(.int (1 : Int32))])) _
        refine XS.goto X0.here hx rfl (pc0 := 13) (pc' := 17) rfl (hb hby d35_13) (by decide) (by decide) ?_
        show Steps p.tables e below (s₁.setTop (mkF m 17 #[.val (.int p1)] [(.int (1 : Int32))])) _
        exact k)
      obtain ⟨fs, hr, hrun, hended, hW, hsame⟩ := X0.leave (v := some (.int (1 : Int32))) (fun h => by rw [Bd.returns] at h; cases h)
      have fin : Steps p.tables e below S0 (s₁.setFrames fs) := P6 _ (retN X0 hx (t := .boolean) Bd.returns (by simp) (hb hby d35_17) hr)
      rw [hS0] at fin
      refine ⟨_, _, fin, hrun, hended, _, _, rfl, ?_, ⟨_, rfl⟩, hW, hsame.mono (by decide) (by decide)⟩
      show own_QI h0 n0 (own_f35 p1) _ s₁.heap _
      rw [e0]
      exact ⟨_, rfl, (by unfold own_f35; rw [if_neg hc3_2, if_pos hc9_5]), N0, rfl⟩
    · have P7 : own_Pr p.tables e below S0 s₁ (mkF m 17 #[.val (.int p1)] [(.int (0 : Int32))]) := fun t k => P4 t (by
        refine XS.icmpYes X0.here hx rfl (pc0 := 9) (pc' := 16) rfl (hb hby d35_9) rfl (XT.ii_ge_t hc9_5) (by decide) (by decide) ?_
        show Steps p.tables e below (s₁.setTop (mkF m 16 #[.val (.int p1)] [])) _
        refine XS.iconst X0.here hx rfl (hb hby d35_16) ?_
        show Steps p.tables e below (s₁.setTop (mkF m 17 #[.val (.int p1)] [(.int (0 : Int32))])) _
        exact k)
      obtain ⟨fs, hr, hrun, hended, hW, hsame⟩ := X0.leave (v := some (.int (0 : Int32))) (fun h => by rw [Bd.returns] at h; cases h)
      have fin : Steps p.tables e below S0 (s₁.setFrames fs) := P7 _ (retN X0 hx (t := .boolean) Bd.returns (by simp) (hb hby d35_17) hr)
      rw [hS0] at fin
      refine ⟨_, _, fin, hrun, hended, _, _, rfl, ?_, ⟨_, rfl⟩, hW, hsame.mono (by decide) (by decide)⟩
      show own_QI h0 n0 (own_f35 p1) _ s₁.heap _
      rw [e0]
      exact ⟨_, rfl, (by unfold own_f35; rw [if_neg hc3_2, if_neg hc9_5]), N0, rfl⟩
theorem d36_0 : decode jdk_89_method_19_code 0 = .ok (.iload_n 0, 1) := by decide +kernel
theorem d36_1 : decode jdk_89_method_19_code 1 = .ok (.bipush 10, 2) := by decide +kernel
theorem d36_3 : decode jdk_89_method_19_code 3 = .ok (.ishl, 1) := by decide +kernel
theorem d36_4 : decode jdk_89_method_19_code 4 = .ok (.iload_n 1, 1) := by decide +kernel
theorem d36_5 : decode jdk_89_method_19_code 5 = .ok (.iadd, 1) := by decide +kernel
theorem d36_6 : decode jdk_89_method_19_code 6 = .ok (.ldc 85, 2) := by decide +kernel
theorem d36_8 : decode jdk_89_method_19_code 8 = .ok (.iadd, 1) := by decide +kernel
theorem d36_9 : decode jdk_89_method_19_code 9 = .ok (.ireturn, 1) := by decide +kernel
theorem ef_36 (m : MethodId) (p1 : Int32) (p2 : Int32) : entryFrame m #[(.int p1), (.int p2)] 2 = mkF m 0 #[.val (.int p1), .val (.int p2)] [] := by first | (simp [entryFrame, mkF, argsToLocals, Value.category]; done) | rfl
def own_f36 (p1 : Int32) (p2 : Int32) : Int32 := (((p1 <<< ((10 : Int32) &&& 31)) + p2) + (-56613888 : Int32))
set_option maxRecDepth 65536 in
set_option maxHeartbeats 40000000 in
theorem rm36 (l : Launch) (Z : State) (a0 : Array Value) (hw : ∀ d ∈ tables_1, d.before a0 Z = true) (ws : List Jvm.Cond) (p1 : Int32) (p2 : Int32)  (h0 : Heap) (n0 : Nat) (Z0 : n0 ≤ h0.size) :
    MetFree l (⟨"java/lang/Character", "toCodePoint", "(CC)I"⟩ : MethodName) (head1 (Jvm.Cond.code (⟨"java/lang/Character", "toCodePoint", "(CC)I"⟩ : MethodName) jdk_89_method_19_code 2 (some .int) :: ws) ({ frames := 0, cells := 0, slots := 0, locals := 0 } : Room)) (fun a U => a = #[(.int p1), (.int p2)] ∧ Z.Warmed39 U.vm ∧ U.heap = h0) (fun _ _ _ _ _ => True) (fun _ U o U' => ∃ v L, o = .returned v ∧ own_QI h0 n0 (own_f36 p1 p2) v U'.heap L ∧ FrameEnd U o U' L ({ frames := 0, cells := 0, slots := 0, locals := 0 } : Room).cells ({ frames := 0, cells := 0, slots := 0, locals := 0 } : Room).slots) := by
  refine MetFree.of_bodySF (plainFor_of_name pn_33) hisR ?_
  intro p e s m args below meth c s₁ Bd hml0 hP hK
  obtain ⟨rfl, hZ, hh⟩ := hP
  have hx := Bd.exec
  have hby := Bd.bytes
  have hml : c.maxLocals = 2 := hml0
  have hown : s.vm.findClass "java/lang/Character" = some m.cls := findClass_of_methodNamed Bd.named
  have hnm := (name_of_methodNamed Bd.named Bd.method).1
  have X0 : Stand p l e ({ frames := 0, cells := 0, slots := 0, locals := 0 } : Room) s m #[(.int p1), (.int p2)] below meth c s₁ [] 0 0 := Stand.of_body Bd
  have e0 : s₁.heap = h0 := by rw [← hh, Bd.state]; rfl
  have N0 := Fr.nil n0
  obtain ⟨S0, hS0⟩ : ∃ z, z = s₁.setTop (entryFrame m #[(.int p1), (.int p2)] 2) := ⟨_, rfl⟩
  have P0 : own_Pr p.tables e below S0 s₁ (mkF m 0 #[.val (.int p1), .val (.int p2)] []) := fun t k => hS0 ▸ castTop (ef_36 m p1 p2) k
  have P1 : own_Pr p.tables e below S0 s₁ (mkF m 9 #[.val (.int p1), .val (.int p2)] [(.int (((p1 <<< ((10 : Int32) &&& 31)) + p2) + (-56613888 : Int32)))]) := fun t k => P0 t (by
    refine XS.iloadN X0.here hx rfl (hb hby d36_0) rfl ?_
    show Steps p.tables e below (s₁.setTop (mkF m 1 #[.val (.int p1), .val (.int p2)] [(.int p1)])) _
    refine XS.bipush X0.here hx rfl (hb hby d36_1) ?_
    show Steps p.tables e below (s₁.setTop (mkF m 3 #[.val (.int p1), .val (.int p2)] [(.int (10 : Int32)), (.int p1)])) _
    refine XS.ishl X0.here hx rfl (hb hby d36_3) rfl ?_
    show Steps p.tables e below (s₁.setTop (mkF m 4 #[.val (.int p1), .val (.int p2)] [(.int (p1 <<< ((10 : Int32) &&& 31)))])) _
    refine XS.iloadN X0.here hx rfl (hb hby d36_4) rfl ?_
    show Steps p.tables e below (s₁.setTop (mkF m 5 #[.val (.int p1), .val (.int p2)] [(.int p2), (.int (p1 <<< ((10 : Int32) &&& 31)))])) _
    refine XS.iadd X0.here hx rfl (hb hby d36_5) rfl ?_
    show Steps p.tables e below (s₁.setTop (mkF m 6 #[.val (.int p1), .val (.int p2)] [(.int ((p1 <<< ((10 : Int32) &&& 31)) + p2))])) _
    refine X0.ldcInt hx hown (mvT hZ (hw _ (List.mem_of_getElem? (i := 152) rfl))) (g := (mkF m 6 #[.val (.int p1), .val (.int p2)] [(.int ((p1 <<< ((10 : Int32) &&& 31)) + p2))])) rfl (hb hby d36_6) _ ?_
    show Steps p.tables e below (s₁.setTop (mkF m 8 #[.val (.int p1), .val (.int p2)] [(.int (-56613888 : Int32)), (.int ((p1 <<< ((10 : Int32) &&& 31)) + p2))])) _
    refine XS.iadd X0.here hx rfl (hb hby d36_8) rfl ?_
    show Steps p.tables e below (s₁.setTop (mkF m 9 #[.val (.int p1), .val (.int p2)] [(.int (((p1 <<< ((10 : Int32) &&& 31)) + p2) + (-56613888 : Int32)))])) _
    exact k)
  obtain ⟨fs, hr, hrun, hended, hW, hsame⟩ := X0.leave (v := some (.int (((p1 <<< ((10 : Int32) &&& 31)) + p2) + (-56613888 : Int32)))) (fun h => by rw [Bd.returns] at h; cases h)
  have fin : Steps p.tables e below S0 (s₁.setFrames fs) := P1 _ (retI X0 hx Bd.returns (hb hby d36_9) hr)
  rw [hS0] at fin
  refine ⟨_, _, fin, hrun, hended, _, _, rfl, ?_, ⟨_, rfl⟩, hW, hsame.mono (by decide) (by decide)⟩
  show own_QI h0 n0 (own_f36 p1 p2) _ s₁.heap _
  rw [e0]
  exact ⟨_, rfl, (by unfold own_f36; rfl), N0, rfl⟩
theorem d34_0 : decode jdk_89_method_18_code 0 = .ok (.iload_n 0, 1) := by decide +kernel
theorem d34_1 : decode jdk_89_method_18_code 1 = .ok (.ldc 73, 2) := by decide +kernel
theorem d34_3 : decode jdk_89_method_18_code 3 = .ok (.if_icmp .lt 7, 3) := by decide +kernel
theorem d34_6 : decode jdk_89_method_18_code 6 = .ok (.iconst 2, 1) := by decide +kernel
theorem d34_7 : decode jdk_89_method_18_code 7 = .ok (.goto 4, 3) := by decide +kernel
theorem d34_10 : decode jdk_89_method_18_code 10 = .ok (.iconst 1, 1) := by decide +kernel
theorem d34_11 : decode jdk_89_method_18_code 11 = .ok (.ireturn, 1) := by decide +kernel
theorem ef_34 (m : MethodId) (p1 : Int32) : entryFrame m #[(.int p1)] 1 = mkF m 0 #[.val (.int p1)] [] := by first | (simp [entryFrame, mkF, argsToLocals, Value.category]; done) | rfl
def own_f34 (p1 : Int32) : Int32 := (if p1 < (65536 : Int32) then (1 : Int32) else (2 : Int32))
set_option maxRecDepth 65536 in
set_option maxHeartbeats 40000000 in
theorem rm34 (l : Launch) (Z : State) (a0 : Array Value) (hw : ∀ d ∈ tables_1, d.before a0 Z = true) (ws : List Jvm.Cond) (p1 : Int32)  (h0 : Heap) (n0 : Nat) (Z0 : n0 ≤ h0.size) :
    MetFree l (⟨"java/lang/Character", "charCount", "(I)I"⟩ : MethodName) (head1 (Jvm.Cond.code (⟨"java/lang/Character", "charCount", "(I)I"⟩ : MethodName) jdk_89_method_18_code 1 (some .int) :: ws) ({ frames := 0, cells := 0, slots := 0, locals := 0 } : Room)) (fun a U => a = #[(.int p1)] ∧ Z.Warmed39 U.vm ∧ U.heap = h0) (fun _ _ _ _ _ => True) (fun _ U o U' => ∃ v L, o = .returned v ∧ own_QI h0 n0 (own_f34 p1) v U'.heap L ∧ FrameEnd U o U' L ({ frames := 0, cells := 0, slots := 0, locals := 0 } : Room).cells ({ frames := 0, cells := 0, slots := 0, locals := 0 } : Room).slots) := by
  refine MetFree.of_bodySF (plainFor_of_name pn_33) hisR ?_
  intro p e s m args below meth c s₁ Bd hml0 hP hK
  obtain ⟨rfl, hZ, hh⟩ := hP
  have hx := Bd.exec
  have hby := Bd.bytes
  have hml : c.maxLocals = 1 := hml0
  have hown : s.vm.findClass "java/lang/Character" = some m.cls := findClass_of_methodNamed Bd.named
  have hnm := (name_of_methodNamed Bd.named Bd.method).1
  have X0 : Stand p l e ({ frames := 0, cells := 0, slots := 0, locals := 0 } : Room) s m #[(.int p1)] below meth c s₁ [] 0 0 := Stand.of_body Bd
  have e0 : s₁.heap = h0 := by rw [← hh, Bd.state]; rfl
  have N0 := Fr.nil n0
  obtain ⟨S0, hS0⟩ : ∃ z, z = s₁.setTop (entryFrame m #[(.int p1)] 1) := ⟨_, rfl⟩
  have P0 : own_Pr p.tables e below S0 s₁ (mkF m 0 #[.val (.int p1)] []) := fun t k => hS0 ▸ castTop (ef_34 m p1) k
  have P1 : own_Pr p.tables e below S0 s₁ (mkF m 3 #[.val (.int p1)] [(.int (65536 : Int32)), (.int p1)]) := fun t k => P0 t (by
    refine XS.iloadN X0.here hx rfl (hb hby d34_0) rfl ?_
    show Steps p.tables e below (s₁.setTop (mkF m 1 #[.val (.int p1)] [(.int p1)])) _
    refine X0.ldcInt hx hown (mvT hZ (hw _ (List.mem_of_getElem? (i := 143) rfl))) (g := (mkF m 1 #[.val (.int p1)] [(.int p1)])) rfl (hb hby d34_1) _ ?_
    show Steps p.tables e below (s₁.setTop (mkF m 3 #[.val (.int p1)] [(.int (65536 : Int32)), (.int p1)])) _
    exact k)
  by_cases hc3_2 : p1 < (65536 : Int32)
  · have P3 : own_Pr p.tables e below S0 s₁ (mkF m 11 #[.val (.int p1)] [(.int (1 : Int32))]) := fun t k => P1 t (by
      refine XS.icmpYes X0.here hx rfl (pc0 := 3) (pc' := 10) rfl (hb hby d34_3) rfl (XT.ii_lt_t hc3_2) (by decide) (by decide) ?_
      show Steps p.tables e below (s₁.setTop (mkF m 10 #[.val (.int p1)] [])) _
      refine XS.iconst X0.here hx rfl (hb hby d34_10) ?_
      show Steps p.tables e below (s₁.setTop (mkF m 11 #[.val (.int p1)] [(.int (1 : Int32))])) _
      exact k)
    obtain ⟨fs, hr, hrun, hended, hW, hsame⟩ := X0.leave (v := some (.int (1 : Int32))) (fun h => by rw [Bd.returns] at h; cases h)
    have fin : Steps p.tables e below S0 (s₁.setFrames fs) := P3 _ (retI X0 hx Bd.returns (hb hby d34_11) hr)
    rw [hS0] at fin
    refine ⟨_, _, fin, hrun, hended, _, _, rfl, ?_, ⟨_, rfl⟩, hW, hsame.mono (by decide) (by decide)⟩
    show own_QI h0 n0 (own_f34 p1) _ s₁.heap _
    rw [e0]
    exact ⟨_, rfl, (by unfold own_f34; rw [if_pos hc3_2]), N0, rfl⟩
  · have P4 : own_Pr p.tables e below S0 s₁ (mkF m 11 #[.val (.int p1)] [(.int (2 : Int32))]) := fun t k => P1 t (by
      refine XS.icmpNo X0.here hx rfl (hb hby d34_3) rfl (XT.ii_lt_f hc3_2) ?_
      show Steps p.tables e below (s₁.setTop (mkF m 6 #[.val (.int p1)] [])) _
      refine XS.iconst X0.here hx rfl (hb hby d34_6) ?_
      show Steps p.tables e below (s₁.setTop (mkF m 7 #[.val (.int p1)] [(.int (2 : Int32))])) _
      refine XS.goto X0.here hx rfl (pc0 := 7) (pc' := 11) rfl (hb hby d34_7) (by decide) (by decide) ?_
      show Steps p.tables e below (s₁.setTop (mkF m 11 #[.val (.int p1)] [(.int (2 : Int32))])) _
      exact k)
    obtain ⟨fs, hr, hrun, hended, hW, hsame⟩ := X0.leave (v := some (.int (2 : Int32))) (fun h => by rw [Bd.returns] at h; cases h)
    have fin : Steps p.tables e below S0 (s₁.setFrames fs) := P4 _ (retI X0 hx Bd.returns (hb hby d34_11) hr)
    rw [hS0] at fin
    refine ⟨_, _, fin, hrun, hended, _, _, rfl, ?_, ⟨_, rfl⟩, hW, hsame.mono (by decide) (by decide)⟩
    show own_QI h0 n0 (own_f34 p1) _ s₁.heap _
    rw [e0]
    exact ⟨_, rfl, (by unfold own_f34; rw [if_neg hc3_2]), N0, rfl⟩
theorem d10_0 : decode method_5_code 0 = .ok (.iload_n 0, 1) := by decide +kernel
theorem d10_1 : decode method_5_code 1 = .ok (.iload_n 1, 1) := by decide +kernel
theorem d10_2 : decode method_5_code 2 = .ok (.iload_n 2, 1) := by decide +kernel
theorem d10_3 : decode method_5_code 3 = .ok (.invokestatic 47, 3) := by decide +kernel
theorem d10_6 : decode method_5_code 6 = .ok (.ifCond .eq 5, 3) := by decide +kernel
theorem d10_9 : decode method_5_code 9 = .ok (.iconst 1, 1) := by decide +kernel
theorem d10_10 : decode method_5_code 10 = .ok (.ireturn, 1) := by decide +kernel
theorem d10_11 : decode method_5_code 11 = .ok (.iload_n 0, 1) := by decide +kernel
theorem d10_12 : decode method_5_code 12 = .ok (.ireturn, 1) := by decide +kernel
theorem pd_1 : parseMethodDescriptor "(ICC)Z" = some ⟨[.int, .char, .char], some .boolean⟩ := by decide +kernel
theorem ef_10 (m : MethodId) (p1 : Int32) (p2 : Int32) (p3 : Int32) : entryFrame m #[(.int p1), (.int p2), (.int p3)] 3 = mkF m 0 #[.val (.int p1), .val (.int p2), .val (.int p3)] [] := by first | (simp [entryFrame, mkF, argsToLocals, Value.category]; done) | rfl
def own_f10 (p1 : Int32) (p2 : Int32) (p3 : Int32) : Int32 := (if (own_f11 p1 p2 p3) = (0 : Int32) then p1 else (1 : Int32))
set_option maxRecDepth 65536 in
set_option maxHeartbeats 40000000 in
theorem rm10 (l : Launch) (Z : State) (a0 : Array Value) (hw : ∀ d ∈ tables_1, d.before a0 Z = true) (ws : List Jvm.Cond) (p1 : Int32) (p2 : Int32) (p3 : Int32)  (h0 : Heap) (n0 : Nat) (Z0 : n0 ≤ h0.size) :
    MetFree l (⟨"com/example/mathir_tools/mathirtools/formats/text/Utf8OrderComparePinLaw", "count", "(ICC)I"⟩ : MethodName) (head1 (Jvm.Cond.code (⟨"com/example/mathir_tools/mathirtools/formats/text/Utf8OrderComparePinLaw", "count", "(ICC)I"⟩ : MethodName) method_5_code 3 (some .int) :: ws) ({ frames := 1, cells := 0, slots := 0, locals := 14 } : Room)) (fun a U => a = #[(.int p1), (.int p2), (.int p3)] ∧ Z.Warmed39 U.vm ∧ U.heap = h0) (fun _ _ _ _ _ => True) (fun _ U o U' => ∃ v L, o = .returned v ∧ own_QI h0 n0 (own_f10 p1 p2 p3) v U'.heap L ∧ FrameEnd U o U' L ({ frames := 1, cells := 0, slots := 0, locals := 14 } : Room).cells ({ frames := 1, cells := 0, slots := 0, locals := 14 } : Room).slots) := by
  refine MetFree.of_bodySF (plainFor_of_name pn_9) hisR ?_
  intro p e s m args below meth c s₁ Bd hml0 hP hK
  obtain ⟨rfl, hZ, hh⟩ := hP
  have hx := Bd.exec
  have hby := Bd.bytes
  have hml : c.maxLocals = 3 := hml0
  have hown : s.vm.findClass "com/example/mathir_tools/mathirtools/formats/text/Utf8OrderComparePinLaw" = some m.cls := findClass_of_methodNamed Bd.named
  have hnm := (name_of_methodNamed Bd.named Bd.method).1
  have X0 : Stand p l e ({ frames := 1, cells := 0, slots := 0, locals := 14 } : Room) s m #[(.int p1), (.int p2), (.int p3)] below meth c s₁ [] 0 0 := Stand.of_body Bd
  have e0 : s₁.heap = h0 := by rw [← hh, Bd.state]; rfl
  have N0 := Fr.nil n0
  obtain ⟨S0, hS0⟩ : ∃ z, z = s₁.setTop (entryFrame m #[(.int p1), (.int p2), (.int p3)] 3) := ⟨_, rfl⟩
  have P0 : own_Pr p.tables e below S0 s₁ (mkF m 0 #[.val (.int p1), .val (.int p2), .val (.int p3)] []) := fun t k => hS0 ▸ castTop (ef_10 m p1 p2 p3) k
  have P1 : own_Pr p.tables e below S0 s₁ (mkF m 3 #[.val (.int p1), .val (.int p2), .val (.int p3)] [(.int p3), (.int p2), (.int p1)]) := fun t k => P0 t (by
    refine XS.iloadN X0.here hx rfl (hb hby d10_0) rfl ?_
    show Steps p.tables e below (s₁.setTop (mkF m 1 #[.val (.int p1), .val (.int p2), .val (.int p3)] [(.int p1)])) _
    refine XS.iloadN X0.here hx rfl (hb hby d10_1) rfl ?_
    show Steps p.tables e below (s₁.setTop (mkF m 2 #[.val (.int p1), .val (.int p2), .val (.int p3)] [(.int p2), (.int p1)])) _
    refine XS.iloadN X0.here hx rfl (hb hby d10_2) rfl ?_
    show Steps p.tables e below (s₁.setTop (mkF m 3 #[.val (.int p1), .val (.int p2), .val (.int p3)] [(.int p3), (.int p2), (.int p1)])) _
    exact k)
  obtain ⟨_, _, ⟨T2, L2, k2, n2⟩, -, X2, ⟨Lc2, hQ2, l2, y2, z2⟩, st2⟩ := Jvm.LawKit.callS X0 hx (y := (⟨"com/example/mathir_tools/mathirtools/formats/text/Utf8OrderComparePinLaw", "isPair", "(ICC)Z"⟩ : MethodName)) hown (mvT hZ (hw _ (List.mem_of_getElem? (i := 51) rfl))) (mvT hZ (hw _ (List.mem_of_getElem? (i := 52) rfl))) (mvT hZ (hw _ (List.mem_of_getElem? (i := 2) rfl))) (mvT hZ (hw _ (List.mem_of_getElem? (i := 53) rfl))) (by decide) (backOf (W := 0) (rm11 l Z a0 hw [] p1 p2 p3  h0 n0 Z0 ) hZ (hw _ (List.mem_of_getElem? (i := 53) rfl)) (hw _ (List.mem_of_getElem? (i := 2) rfl)) (by decide) (by decide)) (g := (mkF m 3 #[.val (.int p1), .val (.int p2), .val (.int p3)] [(.int p3), (.int p2), (.int p1)])) rfl (by rw [hml]; rfl) (argsL := [(.int p1), (.int p2), (.int p3)]) (rest := []) (lenOf pd_1 rfl) rfl (by show 2 * 0 + _ ≤ _; exact Nat.le_of_eq rfl) (hb hby d10_3) (fun _ _ => ⟨rfl, e0, (by decide : 0 + 0 ≤ _), (by decide : 0 + 0 ≤ _)⟩)
  dsimp only [Pt.U, Pt.locs, Pt.cells, Pt.slots] at X2 l2 y2 z2 st2 hQ2
  subst l2 y2 z2
  obtain ⟨z2v, rfl, hz2v, Nq2, eq2⟩ := hQ2
  have N2n := Fr.app N0 Nq2
  have P3 : own_Pr p.tables e below S0 T2 (mkF m 6 #[.val (.int p1), .val (.int p2), .val (.int p3)] [(.int z2v)]) := fun t k => P1 t (st2 _ k)
  by_cases hc6_4 : z2v = (0 : Int32)
  · have P5 : own_Pr p.tables e below S0 T2 (mkF m 12 #[.val (.int p1), .val (.int p2), .val (.int p3)] [(.int p1)]) := fun t k => P3 t (by
      refine XS.ifYes X2.here hx rfl (pc0 := 6) (pc' := 11) rfl (hb hby d10_6) rfl (XT.i0_eq_t hc6_4) (by decide) (by decide) ?_
      show Steps p.tables e below (T2.setTop (mkF m 11 #[.val (.int p1), .val (.int p2), .val (.int p3)] [])) _
      refine XS.iloadN X2.here hx rfl (hb hby d10_11) rfl ?_
      show Steps p.tables e below (T2.setTop (mkF m 12 #[.val (.int p1), .val (.int p2), .val (.int p3)] [(.int p1)])) _
      exact k)
    obtain ⟨fs, hr, hrun, hended, hW, hsame⟩ := X2.leave (v := some (.int p1)) (fun h => by rw [Bd.returns] at h; cases h)
    have fin : Steps p.tables e below S0 (T2.setFrames fs) := P5 _ (retI X2 hx Bd.returns (hb hby d10_12) hr)
    rw [hS0] at fin
    refine ⟨_, _, fin, hrun, hended, _, _, rfl, ?_, ⟨_, rfl⟩, hW, hsame.mono (by decide) (by decide)⟩
    show own_QI h0 n0 (own_f10 p1 p2 p3) _ T2.heap _
    rw [eq2]
    exact ⟨_, rfl, (by subst hz2v; unfold own_f10; rw [if_pos hc6_4]), N2n, rfl⟩
  · have P6 : own_Pr p.tables e below S0 T2 (mkF m 10 #[.val (.int p1), .val (.int p2), .val (.int p3)] [(.int (1 : Int32))]) := fun t k => P3 t (by
      refine XS.ifNo X2.here hx rfl (hb hby d10_6) rfl (XT.i0_eq_f hc6_4) ?_
      show Steps p.tables e below (T2.setTop (mkF m 9 #[.val (.int p1), .val (.int p2), .val (.int p3)] [])) _
      refine XS.iconst X2.here hx rfl (hb hby d10_9) ?_
      show Steps p.tables e below (T2.setTop (mkF m 10 #[.val (.int p1), .val (.int p2), .val (.int p3)] [(.int (1 : Int32))])) _
      exact k)
    obtain ⟨fs, hr, hrun, hended, hW, hsame⟩ := X2.leave (v := some (.int (1 : Int32))) (fun h => by rw [Bd.returns] at h; cases h)
    have fin : Steps p.tables e below S0 (T2.setFrames fs) := P6 _ (retI X2 hx Bd.returns (hb hby d10_10) hr)
    rw [hS0] at fin
    refine ⟨_, _, fin, hrun, hended, _, _, rfl, ?_, ⟨_, rfl⟩, hW, hsame.mono (by decide) (by decide)⟩
    show own_QI h0 n0 (own_f10 p1 p2 p3) _ T2.heap _
    rw [eq2]
    exact ⟨_, rfl, (by subst hz2v; unfold own_f10; rw [if_neg hc6_4]), N2n, rfl⟩
theorem d12_0 : decode method_6_code 0 = .ok (.iload_n 0, 1) := by decide +kernel
theorem d12_1 : decode method_6_code 1 = .ok (.iload_n 1, 1) := by decide +kernel
theorem d12_2 : decode method_6_code 2 = .ok (.iload_n 2, 1) := by decide +kernel
theorem d12_3 : decode method_6_code 3 = .ok (.invokestatic 47, 3) := by decide +kernel
theorem d12_6 : decode method_6_code 6 = .ok (.ifCond .eq 19, 3) := by decide +kernel
theorem d12_9 : decode method_6_code 9 = .ok (.ldc 51, 2) := by decide +kernel
theorem d12_11 : decode method_6_code 11 = .ok (.iload_n 1, 1) := by decide +kernel
theorem d12_12 : decode method_6_code 12 = .ok (.ldc 7, 2) := by decide +kernel
theorem d12_14 : decode method_6_code 14 = .ok (.isub, 1) := by decide +kernel
theorem d12_15 : decode method_6_code 15 = .ok (.bipush 10, 2) := by decide +kernel
theorem d12_17 : decode method_6_code 17 = .ok (.ishl, 1) := by decide +kernel
theorem d12_18 : decode method_6_code 18 = .ok (.iadd, 1) := by decide +kernel
theorem d12_19 : decode method_6_code 19 = .ok (.iload_n 2, 1) := by decide +kernel
theorem d12_20 : decode method_6_code 20 = .ok (.ldc 8, 2) := by decide +kernel
theorem d12_22 : decode method_6_code 22 = .ok (.isub, 1) := by decide +kernel
theorem d12_23 : decode method_6_code 23 = .ok (.iadd, 1) := by decide +kernel
theorem d12_24 : decode method_6_code 24 = .ok (.ireturn, 1) := by decide +kernel
theorem d12_25 : decode method_6_code 25 = .ok (.iload_n 1, 1) := by decide +kernel
theorem d12_26 : decode method_6_code 26 = .ok (.ireturn, 1) := by decide +kernel
theorem ef_12 (m : MethodId) (p1 : Int32) (p2 : Int32) (p3 : Int32) : entryFrame m #[(.int p1), (.int p2), (.int p3)] 3 = mkF m 0 #[.val (.int p1), .val (.int p2), .val (.int p3)] [] := by first | (simp [entryFrame, mkF, argsToLocals, Value.category]; done) | rfl
def own_f12 (p1 : Int32) (p2 : Int32) (p3 : Int32) : Int32 := (if (own_f11 p1 p2 p3) = (0 : Int32) then p2 else (((65536 : Int32) + ((p2 - (55296 : Int32)) <<< ((10 : Int32) &&& 31))) + (p3 - (56320 : Int32))))
set_option maxRecDepth 65536 in
set_option maxHeartbeats 40000000 in
theorem rm12 (l : Launch) (Z : State) (a0 : Array Value) (hw : ∀ d ∈ tables_1, d.before a0 Z = true) (ws : List Jvm.Cond) (p1 : Int32) (p2 : Int32) (p3 : Int32)  (h0 : Heap) (n0 : Nat) (Z0 : n0 ≤ h0.size) :
    MetFree l (⟨"com/example/mathir_tools/mathirtools/formats/text/Utf8OrderComparePinLaw", "first", "(ICC)I"⟩ : MethodName) (head1 (Jvm.Cond.code (⟨"com/example/mathir_tools/mathirtools/formats/text/Utf8OrderComparePinLaw", "first", "(ICC)I"⟩ : MethodName) method_6_code 3 (some .int) :: ws) ({ frames := 1, cells := 0, slots := 0, locals := 14 } : Room)) (fun a U => a = #[(.int p1), (.int p2), (.int p3)] ∧ Z.Warmed39 U.vm ∧ U.heap = h0) (fun _ _ _ _ _ => True) (fun _ U o U' => ∃ v L, o = .returned v ∧ own_QI h0 n0 (own_f12 p1 p2 p3) v U'.heap L ∧ FrameEnd U o U' L ({ frames := 1, cells := 0, slots := 0, locals := 14 } : Room).cells ({ frames := 1, cells := 0, slots := 0, locals := 14 } : Room).slots) := by
  refine MetFree.of_bodySF (plainFor_of_name pn_9) hisR ?_
  intro p e s m args below meth c s₁ Bd hml0 hP hK
  obtain ⟨rfl, hZ, hh⟩ := hP
  have hx := Bd.exec
  have hby := Bd.bytes
  have hml : c.maxLocals = 3 := hml0
  have hown : s.vm.findClass "com/example/mathir_tools/mathirtools/formats/text/Utf8OrderComparePinLaw" = some m.cls := findClass_of_methodNamed Bd.named
  have hnm := (name_of_methodNamed Bd.named Bd.method).1
  have X0 : Stand p l e ({ frames := 1, cells := 0, slots := 0, locals := 14 } : Room) s m #[(.int p1), (.int p2), (.int p3)] below meth c s₁ [] 0 0 := Stand.of_body Bd
  have e0 : s₁.heap = h0 := by rw [← hh, Bd.state]; rfl
  have N0 := Fr.nil n0
  obtain ⟨S0, hS0⟩ : ∃ z, z = s₁.setTop (entryFrame m #[(.int p1), (.int p2), (.int p3)] 3) := ⟨_, rfl⟩
  have P0 : own_Pr p.tables e below S0 s₁ (mkF m 0 #[.val (.int p1), .val (.int p2), .val (.int p3)] []) := fun t k => hS0 ▸ castTop (ef_12 m p1 p2 p3) k
  have P1 : own_Pr p.tables e below S0 s₁ (mkF m 3 #[.val (.int p1), .val (.int p2), .val (.int p3)] [(.int p3), (.int p2), (.int p1)]) := fun t k => P0 t (by
    refine XS.iloadN X0.here hx rfl (hb hby d12_0) rfl ?_
    show Steps p.tables e below (s₁.setTop (mkF m 1 #[.val (.int p1), .val (.int p2), .val (.int p3)] [(.int p1)])) _
    refine XS.iloadN X0.here hx rfl (hb hby d12_1) rfl ?_
    show Steps p.tables e below (s₁.setTop (mkF m 2 #[.val (.int p1), .val (.int p2), .val (.int p3)] [(.int p2), (.int p1)])) _
    refine XS.iloadN X0.here hx rfl (hb hby d12_2) rfl ?_
    show Steps p.tables e below (s₁.setTop (mkF m 3 #[.val (.int p1), .val (.int p2), .val (.int p3)] [(.int p3), (.int p2), (.int p1)])) _
    exact k)
  obtain ⟨_, _, ⟨T2, L2, k2, n2⟩, -, X2, ⟨Lc2, hQ2, l2, y2, z2⟩, st2⟩ := Jvm.LawKit.callS X0 hx (y := (⟨"com/example/mathir_tools/mathirtools/formats/text/Utf8OrderComparePinLaw", "isPair", "(ICC)Z"⟩ : MethodName)) hown (mvT hZ (hw _ (List.mem_of_getElem? (i := 51) rfl))) (mvT hZ (hw _ (List.mem_of_getElem? (i := 52) rfl))) (mvT hZ (hw _ (List.mem_of_getElem? (i := 2) rfl))) (mvT hZ (hw _ (List.mem_of_getElem? (i := 53) rfl))) (by decide) (backOf (W := 0) (rm11 l Z a0 hw [] p1 p2 p3  h0 n0 Z0 ) hZ (hw _ (List.mem_of_getElem? (i := 53) rfl)) (hw _ (List.mem_of_getElem? (i := 2) rfl)) (by decide) (by decide)) (g := (mkF m 3 #[.val (.int p1), .val (.int p2), .val (.int p3)] [(.int p3), (.int p2), (.int p1)])) rfl (by rw [hml]; rfl) (argsL := [(.int p1), (.int p2), (.int p3)]) (rest := []) (lenOf pd_1 rfl) rfl (by show 2 * 0 + _ ≤ _; exact Nat.le_of_eq rfl) (hb hby d12_3) (fun _ _ => ⟨rfl, e0, (by decide : 0 + 0 ≤ _), (by decide : 0 + 0 ≤ _)⟩)
  dsimp only [Pt.U, Pt.locs, Pt.cells, Pt.slots] at X2 l2 y2 z2 st2 hQ2
  subst l2 y2 z2
  obtain ⟨z2v, rfl, hz2v, Nq2, eq2⟩ := hQ2
  have N2n := Fr.app N0 Nq2
  have P3 : own_Pr p.tables e below S0 T2 (mkF m 6 #[.val (.int p1), .val (.int p2), .val (.int p3)] [(.int z2v)]) := fun t k => P1 t (st2 _ k)
  by_cases hc6_4 : z2v = (0 : Int32)
  · have P5 : own_Pr p.tables e below S0 T2 (mkF m 26 #[.val (.int p1), .val (.int p2), .val (.int p3)] [(.int p2)]) := fun t k => P3 t (by
      refine XS.ifYes X2.here hx rfl (pc0 := 6) (pc' := 25) rfl (hb hby d12_6) rfl (XT.i0_eq_t hc6_4) (by decide) (by decide) ?_
      show Steps p.tables e below (T2.setTop (mkF m 25 #[.val (.int p1), .val (.int p2), .val (.int p3)] [])) _
      refine XS.iloadN X2.here hx rfl (hb hby d12_25) rfl ?_
      show Steps p.tables e below (T2.setTop (mkF m 26 #[.val (.int p1), .val (.int p2), .val (.int p3)] [(.int p2)])) _
      exact k)
    obtain ⟨fs, hr, hrun, hended, hW, hsame⟩ := X2.leave (v := some (.int p2)) (fun h => by rw [Bd.returns] at h; cases h)
    have fin : Steps p.tables e below S0 (T2.setFrames fs) := P5 _ (retI X2 hx Bd.returns (hb hby d12_26) hr)
    rw [hS0] at fin
    refine ⟨_, _, fin, hrun, hended, _, _, rfl, ?_, ⟨_, rfl⟩, hW, hsame.mono (by decide) (by decide)⟩
    show own_QI h0 n0 (own_f12 p1 p2 p3) _ T2.heap _
    rw [eq2]
    exact ⟨_, rfl, (by subst hz2v; unfold own_f12; rw [if_pos hc6_4]), N2n, rfl⟩
  · have P6 : own_Pr p.tables e below S0 T2 (mkF m 24 #[.val (.int p1), .val (.int p2), .val (.int p3)] [(.int (((65536 : Int32) + ((p2 - (55296 : Int32)) <<< ((10 : Int32) &&& 31))) + (p3 - (56320 : Int32))))]) := fun t k => P3 t (by
      refine XS.ifNo X2.here hx rfl (hb hby d12_6) rfl (XT.i0_eq_f hc6_4) ?_
      show Steps p.tables e below (T2.setTop (mkF m 9 #[.val (.int p1), .val (.int p2), .val (.int p3)] [])) _
      refine X2.ldcInt hx hown (mvT hZ (hw _ (List.mem_of_getElem? (i := 110) rfl))) (g := (mkF m 9 #[.val (.int p1), .val (.int p2), .val (.int p3)] [])) rfl (hb hby d12_9) _ ?_
      show Steps p.tables e below (T2.setTop (mkF m 11 #[.val (.int p1), .val (.int p2), .val (.int p3)] [(.int (65536 : Int32))])) _
      refine XS.iloadN X2.here hx rfl (hb hby d12_11) rfl ?_
      show Steps p.tables e below (T2.setTop (mkF m 12 #[.val (.int p1), .val (.int p2), .val (.int p3)] [(.int p2), (.int (65536 : Int32))])) _
      refine X2.ldcInt hx hown (mvT hZ (hw _ (List.mem_of_getElem? (i := 70) rfl))) (g := (mkF m 12 #[.val (.int p1), .val (.int p2), .val (.int p3)] [(.int p2), (.int (65536 : Int32))])) rfl (hb hby d12_12) _ ?_
      show Steps p.tables e below (T2.setTop (mkF m 14 #[.val (.int p1), .val (.int p2), .val (.int p3)] [(.int (55296 : Int32)), (.int p2), (.int (65536 : Int32))])) _
      refine XS.isub X2.here hx rfl (hb hby d12_14) rfl ?_
      show Steps p.tables e below (T2.setTop (mkF m 15 #[.val (.int p1), .val (.int p2), .val (.int p3)] [(.int (p2 - (55296 : Int32))), (.int (65536 : Int32))])) _
      refine XS.bipush X2.here hx rfl (hb hby d12_15) ?_
      show Steps p.tables e below (T2.setTop (mkF m 17 #[.val (.int p1), .val (.int p2), .val (.int p3)] [(.int (10 : Int32)), (.int (p2 - (55296 : Int32))), (.int (65536 : Int32))])) _
      refine XS.ishl X2.here hx rfl (hb hby d12_17) rfl ?_
      show Steps p.tables e below (T2.setTop (mkF m 18 #[.val (.int p1), .val (.int p2), .val (.int p3)] [(.int ((p2 - (55296 : Int32)) <<< ((10 : Int32) &&& 31))), (.int (65536 : Int32))])) _
      refine XS.iadd X2.here hx rfl (hb hby d12_18) rfl ?_
      show Steps p.tables e below (T2.setTop (mkF m 19 #[.val (.int p1), .val (.int p2), .val (.int p3)] [(.int ((65536 : Int32) + ((p2 - (55296 : Int32)) <<< ((10 : Int32) &&& 31))))])) _
      refine XS.iloadN X2.here hx rfl (hb hby d12_19) rfl ?_
      show Steps p.tables e below (T2.setTop (mkF m 20 #[.val (.int p1), .val (.int p2), .val (.int p3)] [(.int p3), (.int ((65536 : Int32) + ((p2 - (55296 : Int32)) <<< ((10 : Int32) &&& 31))))])) _
      refine X2.ldcInt hx hown (mvT hZ (hw _ (List.mem_of_getElem? (i := 71) rfl))) (g := (mkF m 20 #[.val (.int p1), .val (.int p2), .val (.int p3)] [(.int p3), (.int ((65536 : Int32) + ((p2 - (55296 : Int32)) <<< ((10 : Int32) &&& 31))))])) rfl (hb hby d12_20) _ ?_
      show Steps p.tables e below (T2.setTop (mkF m 22 #[.val (.int p1), .val (.int p2), .val (.int p3)] [(.int (56320 : Int32)), (.int p3), (.int ((65536 : Int32) + ((p2 - (55296 : Int32)) <<< ((10 : Int32) &&& 31))))])) _
      refine XS.isub X2.here hx rfl (hb hby d12_22) rfl ?_
      show Steps p.tables e below (T2.setTop (mkF m 23 #[.val (.int p1), .val (.int p2), .val (.int p3)] [(.int (p3 - (56320 : Int32))), (.int ((65536 : Int32) + ((p2 - (55296 : Int32)) <<< ((10 : Int32) &&& 31))))])) _
      refine XS.iadd X2.here hx rfl (hb hby d12_23) rfl ?_
      show Steps p.tables e below (T2.setTop (mkF m 24 #[.val (.int p1), .val (.int p2), .val (.int p3)] [(.int (((65536 : Int32) + ((p2 - (55296 : Int32)) <<< ((10 : Int32) &&& 31))) + (p3 - (56320 : Int32))))])) _
      exact k)
    obtain ⟨fs, hr, hrun, hended, hW, hsame⟩ := X2.leave (v := some (.int (((65536 : Int32) + ((p2 - (55296 : Int32)) <<< ((10 : Int32) &&& 31))) + (p3 - (56320 : Int32))))) (fun h => by rw [Bd.returns] at h; cases h)
    have fin : Steps p.tables e below S0 (T2.setFrames fs) := P6 _ (retI X2 hx Bd.returns (hb hby d12_24) hr)
    rw [hS0] at fin
    refine ⟨_, _, fin, hrun, hended, _, _, rfl, ?_, ⟨_, rfl⟩, hW, hsame.mono (by decide) (by decide)⟩
    show own_QI h0 n0 (own_f12 p1 p2 p3) _ T2.heap _
    rw [eq2]
    exact ⟨_, rfl, (by subst hz2v; unfold own_f12; rw [if_neg hc6_4]), N2n, rfl⟩
theorem d13_0 : decode method_7_code 0 = .ok (.iload_n 0, 1) := by decide +kernel
theorem d13_1 : decode method_7_code 1 = .ok (.ifCond .eq 7, 3) := by decide +kernel
theorem d13_4 : decode method_7_code 4 = .ok (.iload_n 3, 1) := by decide +kernel
theorem d13_5 : decode method_7_code 5 = .ok (.ifCond .ne 10, 3) := by decide +kernel
theorem d13_8 : decode method_7_code 8 = .ok (.iload_n 0, 1) := by decide +kernel
theorem d13_9 : decode method_7_code 9 = .ok (.iload_n 3, 1) := by decide +kernel
theorem d13_10 : decode method_7_code 10 = .ok (.isub, 1) := by decide +kernel
theorem d13_11 : decode method_7_code 11 = .ok (.invokestatic 21, 3) := by decide +kernel
theorem d13_14 : decode method_7_code 14 = .ok (.ireturn, 1) := by decide +kernel
theorem d13_15 : decode method_7_code 15 = .ok (.iload_n 1, 1) := by decide +kernel
theorem d13_16 : decode method_7_code 16 = .ok (.iload 4, 2) := by decide +kernel
theorem d13_18 : decode method_7_code 18 = .ok (.if_icmp .eq 11, 3) := by decide +kernel
theorem d13_21 : decode method_7_code 21 = .ok (.iload_n 1, 1) := by decide +kernel
theorem d13_22 : decode method_7_code 22 = .ok (.iload 4, 2) := by decide +kernel
theorem d13_24 : decode method_7_code 24 = .ok (.isub, 1) := by decide +kernel
theorem d13_25 : decode method_7_code 25 = .ok (.invokestatic 21, 3) := by decide +kernel
theorem d13_28 : decode method_7_code 28 = .ok (.ireturn, 1) := by decide +kernel
theorem d13_29 : decode method_7_code 29 = .ok (.iload_n 0, 1) := by decide +kernel
theorem d13_30 : decode method_7_code 30 = .ok (.iconst 1, 1) := by decide +kernel
theorem d13_31 : decode method_7_code 31 = .ok (.if_icmp .eq 8, 3) := by decide +kernel
theorem d13_34 : decode method_7_code 34 = .ok (.iload_n 3, 1) := by decide +kernel
theorem d13_35 : decode method_7_code 35 = .ok (.iconst 1, 1) := by decide +kernel
theorem d13_36 : decode method_7_code 36 = .ok (.if_icmp .ne 10, 3) := by decide +kernel
theorem d13_39 : decode method_7_code 39 = .ok (.iload_n 0, 1) := by decide +kernel
theorem d13_40 : decode method_7_code 40 = .ok (.iload_n 3, 1) := by decide +kernel
theorem d13_41 : decode method_7_code 41 = .ok (.isub, 1) := by decide +kernel
theorem d13_42 : decode method_7_code 42 = .ok (.invokestatic 21, 3) := by decide +kernel
theorem d13_45 : decode method_7_code 45 = .ok (.ireturn, 1) := by decide +kernel
theorem d13_46 : decode method_7_code 46 = .ok (.iload_n 2, 1) := by decide +kernel
theorem d13_47 : decode method_7_code 47 = .ok (.iload 5, 2) := by decide +kernel
theorem d13_49 : decode method_7_code 49 = .ok (.isub, 1) := by decide +kernel
theorem d13_50 : decode method_7_code 50 = .ok (.invokestatic 21, 3) := by decide +kernel
theorem d13_53 : decode method_7_code 53 = .ok (.ireturn, 1) := by decide +kernel
theorem pd_2 : parseMethodDescriptor "(I)I" = some ⟨[.int], some .int⟩ := by decide +kernel
theorem ef_13 (m : MethodId) (p1 : Int32) (p2 : Int32) (p3 : Int32) (p4 : Int32) (p5 : Int32) (p6 : Int32) : entryFrame m #[(.int p1), (.int p2), (.int p3), (.int p4), (.int p5), (.int p6)] 6 = mkF m 0 #[.val (.int p1), .val (.int p2), .val (.int p3), .val (.int p4), .val (.int p5), .val (.int p6)] [] := by first | (simp [entryFrame, mkF, argsToLocals, Value.category]; done) | rfl
def own_f13 (p1 : Int32) (p2 : Int32) (p3 : Int32) (p4 : Int32) (p5 : Int32) (p6 : Int32) : Int32 := (if p1 = (0 : Int32) then (own_f9 (p1 - p4)) else (if p4 = (0 : Int32) then (own_f9 (p1 - p4)) else (if p2 = p5 then (if p1 = (1 : Int32) then (own_f9 (p1 - p4)) else (if p4 = (1 : Int32) then (own_f9 (p1 - p4)) else (own_f9 (p3 - p6)))) else (own_f9 (p2 - p5)))))
set_option maxRecDepth 65536 in
set_option maxHeartbeats 40000000 in
theorem rm13 (l : Launch) (Z : State) (a0 : Array Value) (hw : ∀ d ∈ tables_1, d.before a0 Z = true) (ws : List Jvm.Cond) (p1 : Int32) (p2 : Int32) (p3 : Int32) (p4 : Int32) (p5 : Int32) (p6 : Int32)  (h0 : Heap) (n0 : Nat) (Z0 : n0 ≤ h0.size) :
    MetFree l (⟨"com/example/mathir_tools/mathirtools/formats/text/Utf8OrderComparePinLaw", "ref", "(IIIIII)I"⟩ : MethodName) (head1 (Jvm.Cond.code (⟨"com/example/mathir_tools/mathirtools/formats/text/Utf8OrderComparePinLaw", "ref", "(IIIIII)I"⟩ : MethodName) method_7_code 6 (some .int) :: ws) ({ frames := 1, cells := 0, slots := 0, locals := 12 } : Room)) (fun a U => a = #[(.int p1), (.int p2), (.int p3), (.int p4), (.int p5), (.int p6)] ∧ Z.Warmed39 U.vm ∧ U.heap = h0) (fun _ _ _ _ _ => True) (fun _ U o U' => ∃ v L, o = .returned v ∧ own_QI h0 n0 (own_f13 p1 p2 p3 p4 p5 p6) v U'.heap L ∧ FrameEnd U o U' L ({ frames := 1, cells := 0, slots := 0, locals := 12 } : Room).cells ({ frames := 1, cells := 0, slots := 0, locals := 12 } : Room).slots) := by
  refine MetFree.of_bodySF (plainFor_of_name pn_9) hisR ?_
  intro p e s m args below meth c s₁ Bd hml0 hP hK
  obtain ⟨rfl, hZ, hh⟩ := hP
  have hx := Bd.exec
  have hby := Bd.bytes
  have hml : c.maxLocals = 6 := hml0
  have hown : s.vm.findClass "com/example/mathir_tools/mathirtools/formats/text/Utf8OrderComparePinLaw" = some m.cls := findClass_of_methodNamed Bd.named
  have hnm := (name_of_methodNamed Bd.named Bd.method).1
  have X0 : Stand p l e ({ frames := 1, cells := 0, slots := 0, locals := 12 } : Room) s m #[(.int p1), (.int p2), (.int p3), (.int p4), (.int p5), (.int p6)] below meth c s₁ [] 0 0 := Stand.of_body Bd
  have e0 : s₁.heap = h0 := by rw [← hh, Bd.state]; rfl
  have N0 := Fr.nil n0
  obtain ⟨S0, hS0⟩ : ∃ z, z = s₁.setTop (entryFrame m #[(.int p1), (.int p2), (.int p3), (.int p4), (.int p5), (.int p6)] 6) := ⟨_, rfl⟩
  have P0 : own_Pr p.tables e below S0 s₁ (mkF m 0 #[.val (.int p1), .val (.int p2), .val (.int p3), .val (.int p4), .val (.int p5), .val (.int p6)] []) := fun t k => hS0 ▸ castTop (ef_13 m p1 p2 p3 p4 p5 p6) k
  have P1 : own_Pr p.tables e below S0 s₁ (mkF m 1 #[.val (.int p1), .val (.int p2), .val (.int p3), .val (.int p4), .val (.int p5), .val (.int p6)] [(.int p1)]) := fun t k => P0 t (by
    refine XS.iloadN X0.here hx rfl (hb hby d13_0) rfl ?_
    show Steps p.tables e below (s₁.setTop (mkF m 1 #[.val (.int p1), .val (.int p2), .val (.int p3), .val (.int p4), .val (.int p5), .val (.int p6)] [(.int p1)])) _
    exact k)
  by_cases hc1_2 : p1 = (0 : Int32)
  · have P3 : own_Pr p.tables e below S0 s₁ (mkF m 11 #[.val (.int p1), .val (.int p2), .val (.int p3), .val (.int p4), .val (.int p5), .val (.int p6)] [(.int (p1 - p4))]) := fun t k => P1 t (by
      refine XS.ifYes X0.here hx rfl (pc0 := 1) (pc' := 8) rfl (hb hby d13_1) rfl (XT.i0_eq_t hc1_2) (by decide) (by decide) ?_
      show Steps p.tables e below (s₁.setTop (mkF m 8 #[.val (.int p1), .val (.int p2), .val (.int p3), .val (.int p4), .val (.int p5), .val (.int p6)] [])) _
      refine XS.iloadN X0.here hx rfl (hb hby d13_8) rfl ?_
      show Steps p.tables e below (s₁.setTop (mkF m 9 #[.val (.int p1), .val (.int p2), .val (.int p3), .val (.int p4), .val (.int p5), .val (.int p6)] [(.int p1)])) _
      refine XS.iloadN X0.here hx rfl (hb hby d13_9) rfl ?_
      show Steps p.tables e below (s₁.setTop (mkF m 10 #[.val (.int p1), .val (.int p2), .val (.int p3), .val (.int p4), .val (.int p5), .val (.int p6)] [(.int p4), (.int p1)])) _
      refine XS.isub X0.here hx rfl (hb hby d13_10) rfl ?_
      show Steps p.tables e below (s₁.setTop (mkF m 11 #[.val (.int p1), .val (.int p2), .val (.int p3), .val (.int p4), .val (.int p5), .val (.int p6)] [(.int (p1 - p4))])) _
      exact k)
    obtain ⟨_, _, ⟨T4, L4, k4, n4⟩, -, X4, ⟨Lc4, hQ4, l4, y4, z4⟩, st4⟩ := Jvm.LawKit.callS X0 hx (y := (⟨"com/example/mathir_tools/mathirtools/formats/text/Utf8OrderComparePinLaw", "sign", "(I)I"⟩ : MethodName)) hown (mvT hZ (hw _ (List.mem_of_getElem? (i := 45) rfl))) (mvT hZ (hw _ (List.mem_of_getElem? (i := 46) rfl))) (mvT hZ (hw _ (List.mem_of_getElem? (i := 2) rfl))) (mvT hZ (hw _ (List.mem_of_getElem? (i := 47) rfl))) (by decide) (backOf (W := 0) (rm9 l Z a0 hw [] (p1 - p4)  h0 n0 Z0 ) hZ (hw _ (List.mem_of_getElem? (i := 47) rfl)) (hw _ (List.mem_of_getElem? (i := 2) rfl)) (by decide) (by decide)) (g := (mkF m 11 #[.val (.int p1), .val (.int p2), .val (.int p3), .val (.int p4), .val (.int p5), .val (.int p6)] [(.int (p1 - p4))])) rfl (by rw [hml]; rfl) (argsL := [(.int (p1 - p4))]) (rest := []) (lenOf pd_2 rfl) rfl (by show 2 * 0 + _ ≤ _; exact Nat.le_of_eq rfl) (hb hby d13_11) (fun _ _ => ⟨rfl, e0, (by decide : 0 + 0 ≤ _), (by decide : 0 + 0 ≤ _)⟩)
    dsimp only [Pt.U, Pt.locs, Pt.cells, Pt.slots] at X4 l4 y4 z4 st4 hQ4
    subst l4 y4 z4
    obtain ⟨z4v, rfl, hz4v, Nq4, eq4⟩ := hQ4
    have N4n := Fr.app N0 Nq4
    have P5 : own_Pr p.tables e below S0 T4 (mkF m 14 #[.val (.int p1), .val (.int p2), .val (.int p3), .val (.int p4), .val (.int p5), .val (.int p6)] [(.int z4v)]) := fun t k => P3 t (st4 _ k)
    obtain ⟨fs, hr, hrun, hended, hW, hsame⟩ := X4.leave (v := some (.int z4v)) (fun h => by rw [Bd.returns] at h; cases h)
    have fin : Steps p.tables e below S0 (T4.setFrames fs) := P5 _ (retI X4 hx Bd.returns (hb hby d13_14) hr)
    rw [hS0] at fin
    refine ⟨_, _, fin, hrun, hended, _, _, rfl, ?_, ⟨_, rfl⟩, hW, hsame.mono (by decide) (by decide)⟩
    show own_QI h0 n0 (own_f13 p1 p2 p3 p4 p5 p6) _ T4.heap _
    rw [eq4]
    exact ⟨_, rfl, (by subst hz4v; unfold own_f13; rw [if_pos hc1_2]), N4n, rfl⟩
  · have P6 : own_Pr p.tables e below S0 s₁ (mkF m 5 #[.val (.int p1), .val (.int p2), .val (.int p3), .val (.int p4), .val (.int p5), .val (.int p6)] [(.int p4)]) := fun t k => P1 t (by
      refine XS.ifNo X0.here hx rfl (hb hby d13_1) rfl (XT.i0_eq_f hc1_2) ?_
      show Steps p.tables e below (s₁.setTop (mkF m 4 #[.val (.int p1), .val (.int p2), .val (.int p3), .val (.int p4), .val (.int p5), .val (.int p6)] [])) _
      refine XS.iloadN X0.here hx rfl (hb hby d13_4) rfl ?_
      show Steps p.tables e below (s₁.setTop (mkF m 5 #[.val (.int p1), .val (.int p2), .val (.int p3), .val (.int p4), .val (.int p5), .val (.int p6)] [(.int p4)])) _
      exact k)
    by_cases hc5_7 : p4 = (0 : Int32)
    · have P8 : own_Pr p.tables e below S0 s₁ (mkF m 11 #[.val (.int p1), .val (.int p2), .val (.int p3), .val (.int p4), .val (.int p5), .val (.int p6)] [(.int (p1 - p4))]) := fun t k => P6 t (by
        refine XS.ifNo X0.here hx rfl (hb hby d13_5) rfl (XT.i0_ne_f hc5_7) ?_
        show Steps p.tables e below (s₁.setTop (mkF m 8 #[.val (.int p1), .val (.int p2), .val (.int p3), .val (.int p4), .val (.int p5), .val (.int p6)] [])) _
        refine XS.iloadN X0.here hx rfl (hb hby d13_8) rfl ?_
        show Steps p.tables e below (s₁.setTop (mkF m 9 #[.val (.int p1), .val (.int p2), .val (.int p3), .val (.int p4), .val (.int p5), .val (.int p6)] [(.int p1)])) _
        refine XS.iloadN X0.here hx rfl (hb hby d13_9) rfl ?_
        show Steps p.tables e below (s₁.setTop (mkF m 10 #[.val (.int p1), .val (.int p2), .val (.int p3), .val (.int p4), .val (.int p5), .val (.int p6)] [(.int p4), (.int p1)])) _
        refine XS.isub X0.here hx rfl (hb hby d13_10) rfl ?_
        show Steps p.tables e below (s₁.setTop (mkF m 11 #[.val (.int p1), .val (.int p2), .val (.int p3), .val (.int p4), .val (.int p5), .val (.int p6)] [(.int (p1 - p4))])) _
        exact k)
      obtain ⟨_, _, ⟨T9, L9, k9, n9⟩, -, X9, ⟨Lc9, hQ9, l9, y9, z9⟩, st9⟩ := Jvm.LawKit.callS X0 hx (y := (⟨"com/example/mathir_tools/mathirtools/formats/text/Utf8OrderComparePinLaw", "sign", "(I)I"⟩ : MethodName)) hown (mvT hZ (hw _ (List.mem_of_getElem? (i := 45) rfl))) (mvT hZ (hw _ (List.mem_of_getElem? (i := 46) rfl))) (mvT hZ (hw _ (List.mem_of_getElem? (i := 2) rfl))) (mvT hZ (hw _ (List.mem_of_getElem? (i := 47) rfl))) (by decide) (backOf (W := 0) (rm9 l Z a0 hw [] (p1 - p4)  h0 n0 Z0 ) hZ (hw _ (List.mem_of_getElem? (i := 47) rfl)) (hw _ (List.mem_of_getElem? (i := 2) rfl)) (by decide) (by decide)) (g := (mkF m 11 #[.val (.int p1), .val (.int p2), .val (.int p3), .val (.int p4), .val (.int p5), .val (.int p6)] [(.int (p1 - p4))])) rfl (by rw [hml]; rfl) (argsL := [(.int (p1 - p4))]) (rest := []) (lenOf pd_2 rfl) rfl (by show 2 * 0 + _ ≤ _; exact Nat.le_of_eq rfl) (hb hby d13_11) (fun _ _ => ⟨rfl, e0, (by decide : 0 + 0 ≤ _), (by decide : 0 + 0 ≤ _)⟩)
      dsimp only [Pt.U, Pt.locs, Pt.cells, Pt.slots] at X9 l9 y9 z9 st9 hQ9
      subst l9 y9 z9
      obtain ⟨z9v, rfl, hz9v, Nq9, eq9⟩ := hQ9
      have N9n := Fr.app N0 Nq9
      have P10 : own_Pr p.tables e below S0 T9 (mkF m 14 #[.val (.int p1), .val (.int p2), .val (.int p3), .val (.int p4), .val (.int p5), .val (.int p6)] [(.int z9v)]) := fun t k => P8 t (st9 _ k)
      obtain ⟨fs, hr, hrun, hended, hW, hsame⟩ := X9.leave (v := some (.int z9v)) (fun h => by rw [Bd.returns] at h; cases h)
      have fin : Steps p.tables e below S0 (T9.setFrames fs) := P10 _ (retI X9 hx Bd.returns (hb hby d13_14) hr)
      rw [hS0] at fin
      refine ⟨_, _, fin, hrun, hended, _, _, rfl, ?_, ⟨_, rfl⟩, hW, hsame.mono (by decide) (by decide)⟩
      show own_QI h0 n0 (own_f13 p1 p2 p3 p4 p5 p6) _ T9.heap _
      rw [eq9]
      exact ⟨_, rfl, (by subst hz9v; unfold own_f13; rw [if_neg hc1_2, if_pos hc5_7]), N9n, rfl⟩
    · have P11 : own_Pr p.tables e below S0 s₁ (mkF m 18 #[.val (.int p1), .val (.int p2), .val (.int p3), .val (.int p4), .val (.int p5), .val (.int p6)] [(.int p5), (.int p2)]) := fun t k => P6 t (by
        refine XS.ifYes X0.here hx rfl (pc0 := 5) (pc' := 15) rfl (hb hby d13_5) rfl (XT.i0_ne_t hc5_7) (by decide) (by decide) ?_
        show Steps p.tables e below (s₁.setTop (mkF m 15 #[.val (.int p1), .val (.int p2), .val (.int p3), .val (.int p4), .val (.int p5), .val (.int p6)] [])) _
        refine XS.iloadN X0.here hx rfl (hb hby d13_15) rfl ?_
        show Steps p.tables e below (s₁.setTop (mkF m 16 #[.val (.int p1), .val (.int p2), .val (.int p3), .val (.int p4), .val (.int p5), .val (.int p6)] [(.int p2)])) _
        refine XS.iload X0.here hx rfl (hb hby d13_16) rfl ?_
        show Steps p.tables e below (s₁.setTop (mkF m 18 #[.val (.int p1), .val (.int p2), .val (.int p3), .val (.int p4), .val (.int p5), .val (.int p6)] [(.int p5), (.int p2)])) _
        exact k)
      by_cases hc18_12 : p2 = p5
      · have P13 : own_Pr p.tables e below S0 s₁ (mkF m 31 #[.val (.int p1), .val (.int p2), .val (.int p3), .val (.int p4), .val (.int p5), .val (.int p6)] [(.int (1 : Int32)), (.int p1)]) := fun t k => P11 t (by
          refine XS.icmpYes X0.here hx rfl (pc0 := 18) (pc' := 29) rfl (hb hby d13_18) rfl (XT.ii_eq_t hc18_12) (by decide) (by decide) ?_
          show Steps p.tables e below (s₁.setTop (mkF m 29 #[.val (.int p1), .val (.int p2), .val (.int p3), .val (.int p4), .val (.int p5), .val (.int p6)] [])) _
          refine XS.iloadN X0.here hx rfl (hb hby d13_29) rfl ?_
          show Steps p.tables e below (s₁.setTop (mkF m 30 #[.val (.int p1), .val (.int p2), .val (.int p3), .val (.int p4), .val (.int p5), .val (.int p6)] [(.int p1)])) _
          refine XS.iconst X0.here hx rfl (hb hby d13_30) ?_
          show Steps p.tables e below (s₁.setTop (mkF m 31 #[.val (.int p1), .val (.int p2), .val (.int p3), .val (.int p4), .val (.int p5), .val (.int p6)] [(.int (1 : Int32)), (.int p1)])) _
          exact k)
        by_cases hc31_14 : p1 = (1 : Int32)
        · have P15 : own_Pr p.tables e below S0 s₁ (mkF m 42 #[.val (.int p1), .val (.int p2), .val (.int p3), .val (.int p4), .val (.int p5), .val (.int p6)] [(.int (p1 - p4))]) := fun t k => P13 t (by
            refine XS.icmpYes X0.here hx rfl (pc0 := 31) (pc' := 39) rfl (hb hby d13_31) rfl (XT.ii_eq_t hc31_14) (by decide) (by decide) ?_
            show Steps p.tables e below (s₁.setTop (mkF m 39 #[.val (.int p1), .val (.int p2), .val (.int p3), .val (.int p4), .val (.int p5), .val (.int p6)] [])) _
            refine XS.iloadN X0.here hx rfl (hb hby d13_39) rfl ?_
            show Steps p.tables e below (s₁.setTop (mkF m 40 #[.val (.int p1), .val (.int p2), .val (.int p3), .val (.int p4), .val (.int p5), .val (.int p6)] [(.int p1)])) _
            refine XS.iloadN X0.here hx rfl (hb hby d13_40) rfl ?_
            show Steps p.tables e below (s₁.setTop (mkF m 41 #[.val (.int p1), .val (.int p2), .val (.int p3), .val (.int p4), .val (.int p5), .val (.int p6)] [(.int p4), (.int p1)])) _
            refine XS.isub X0.here hx rfl (hb hby d13_41) rfl ?_
            show Steps p.tables e below (s₁.setTop (mkF m 42 #[.val (.int p1), .val (.int p2), .val (.int p3), .val (.int p4), .val (.int p5), .val (.int p6)] [(.int (p1 - p4))])) _
            exact k)
          obtain ⟨_, _, ⟨T16, L16, k16, n16⟩, -, X16, ⟨Lc16, hQ16, l16, y16, z16⟩, st16⟩ := Jvm.LawKit.callS X0 hx (y := (⟨"com/example/mathir_tools/mathirtools/formats/text/Utf8OrderComparePinLaw", "sign", "(I)I"⟩ : MethodName)) hown (mvT hZ (hw _ (List.mem_of_getElem? (i := 45) rfl))) (mvT hZ (hw _ (List.mem_of_getElem? (i := 46) rfl))) (mvT hZ (hw _ (List.mem_of_getElem? (i := 2) rfl))) (mvT hZ (hw _ (List.mem_of_getElem? (i := 47) rfl))) (by decide) (backOf (W := 0) (rm9 l Z a0 hw [] (p1 - p4)  h0 n0 Z0 ) hZ (hw _ (List.mem_of_getElem? (i := 47) rfl)) (hw _ (List.mem_of_getElem? (i := 2) rfl)) (by decide) (by decide)) (g := (mkF m 42 #[.val (.int p1), .val (.int p2), .val (.int p3), .val (.int p4), .val (.int p5), .val (.int p6)] [(.int (p1 - p4))])) rfl (by rw [hml]; rfl) (argsL := [(.int (p1 - p4))]) (rest := []) (lenOf pd_2 rfl) rfl (by show 2 * 0 + _ ≤ _; exact Nat.le_of_eq rfl) (hb hby d13_42) (fun _ _ => ⟨rfl, e0, (by decide : 0 + 0 ≤ _), (by decide : 0 + 0 ≤ _)⟩)
          dsimp only [Pt.U, Pt.locs, Pt.cells, Pt.slots] at X16 l16 y16 z16 st16 hQ16
          subst l16 y16 z16
          obtain ⟨z16v, rfl, hz16v, Nq16, eq16⟩ := hQ16
          have N16n := Fr.app N0 Nq16
          have P17 : own_Pr p.tables e below S0 T16 (mkF m 45 #[.val (.int p1), .val (.int p2), .val (.int p3), .val (.int p4), .val (.int p5), .val (.int p6)] [(.int z16v)]) := fun t k => P15 t (st16 _ k)
          obtain ⟨fs, hr, hrun, hended, hW, hsame⟩ := X16.leave (v := some (.int z16v)) (fun h => by rw [Bd.returns] at h; cases h)
          have fin : Steps p.tables e below S0 (T16.setFrames fs) := P17 _ (retI X16 hx Bd.returns (hb hby d13_45) hr)
          rw [hS0] at fin
          refine ⟨_, _, fin, hrun, hended, _, _, rfl, ?_, ⟨_, rfl⟩, hW, hsame.mono (by decide) (by decide)⟩
          show own_QI h0 n0 (own_f13 p1 p2 p3 p4 p5 p6) _ T16.heap _
          rw [eq16]
          exact ⟨_, rfl, (by subst hz16v; unfold own_f13; rw [if_neg hc1_2, if_neg hc5_7, if_pos hc18_12, if_pos hc31_14]), N16n, rfl⟩
        · have P18 : own_Pr p.tables e below S0 s₁ (mkF m 36 #[.val (.int p1), .val (.int p2), .val (.int p3), .val (.int p4), .val (.int p5), .val (.int p6)] [(.int (1 : Int32)), (.int p4)]) := fun t k => P13 t (by
            refine XS.icmpNo X0.here hx rfl (hb hby d13_31) rfl (XT.ii_eq_f hc31_14) ?_
            show Steps p.tables e below (s₁.setTop (mkF m 34 #[.val (.int p1), .val (.int p2), .val (.int p3), .val (.int p4), .val (.int p5), .val (.int p6)] [])) _
            refine XS.iloadN X0.here hx rfl (hb hby d13_34) rfl ?_
            show Steps p.tables e below (s₁.setTop (mkF m 35 #[.val (.int p1), .val (.int p2), .val (.int p3), .val (.int p4), .val (.int p5), .val (.int p6)] [(.int p4)])) _
            refine XS.iconst X0.here hx rfl (hb hby d13_35) ?_
            show Steps p.tables e below (s₁.setTop (mkF m 36 #[.val (.int p1), .val (.int p2), .val (.int p3), .val (.int p4), .val (.int p5), .val (.int p6)] [(.int (1 : Int32)), (.int p4)])) _
            exact k)
          by_cases hc36_19 : p4 = (1 : Int32)
          · have P20 : own_Pr p.tables e below S0 s₁ (mkF m 42 #[.val (.int p1), .val (.int p2), .val (.int p3), .val (.int p4), .val (.int p5), .val (.int p6)] [(.int (p1 - p4))]) := fun t k => P18 t (by
              refine XS.icmpNo X0.here hx rfl (hb hby d13_36) rfl (XT.ii_ne_f hc36_19) ?_
              show Steps p.tables e below (s₁.setTop (mkF m 39 #[.val (.int p1), .val (.int p2), .val (.int p3), .val (.int p4), .val (.int p5), .val (.int p6)] [])) _
              refine XS.iloadN X0.here hx rfl (hb hby d13_39) rfl ?_
              show Steps p.tables e below (s₁.setTop (mkF m 40 #[.val (.int p1), .val (.int p2), .val (.int p3), .val (.int p4), .val (.int p5), .val (.int p6)] [(.int p1)])) _
              refine XS.iloadN X0.here hx rfl (hb hby d13_40) rfl ?_
              show Steps p.tables e below (s₁.setTop (mkF m 41 #[.val (.int p1), .val (.int p2), .val (.int p3), .val (.int p4), .val (.int p5), .val (.int p6)] [(.int p4), (.int p1)])) _
              refine XS.isub X0.here hx rfl (hb hby d13_41) rfl ?_
              show Steps p.tables e below (s₁.setTop (mkF m 42 #[.val (.int p1), .val (.int p2), .val (.int p3), .val (.int p4), .val (.int p5), .val (.int p6)] [(.int (p1 - p4))])) _
              exact k)
            obtain ⟨_, _, ⟨T21, L21, k21, n21⟩, -, X21, ⟨Lc21, hQ21, l21, y21, z21⟩, st21⟩ := Jvm.LawKit.callS X0 hx (y := (⟨"com/example/mathir_tools/mathirtools/formats/text/Utf8OrderComparePinLaw", "sign", "(I)I"⟩ : MethodName)) hown (mvT hZ (hw _ (List.mem_of_getElem? (i := 45) rfl))) (mvT hZ (hw _ (List.mem_of_getElem? (i := 46) rfl))) (mvT hZ (hw _ (List.mem_of_getElem? (i := 2) rfl))) (mvT hZ (hw _ (List.mem_of_getElem? (i := 47) rfl))) (by decide) (backOf (W := 0) (rm9 l Z a0 hw [] (p1 - p4)  h0 n0 Z0 ) hZ (hw _ (List.mem_of_getElem? (i := 47) rfl)) (hw _ (List.mem_of_getElem? (i := 2) rfl)) (by decide) (by decide)) (g := (mkF m 42 #[.val (.int p1), .val (.int p2), .val (.int p3), .val (.int p4), .val (.int p5), .val (.int p6)] [(.int (p1 - p4))])) rfl (by rw [hml]; rfl) (argsL := [(.int (p1 - p4))]) (rest := []) (lenOf pd_2 rfl) rfl (by show 2 * 0 + _ ≤ _; exact Nat.le_of_eq rfl) (hb hby d13_42) (fun _ _ => ⟨rfl, e0, (by decide : 0 + 0 ≤ _), (by decide : 0 + 0 ≤ _)⟩)
            dsimp only [Pt.U, Pt.locs, Pt.cells, Pt.slots] at X21 l21 y21 z21 st21 hQ21
            subst l21 y21 z21
            obtain ⟨z21v, rfl, hz21v, Nq21, eq21⟩ := hQ21
            have N21n := Fr.app N0 Nq21
            have P22 : own_Pr p.tables e below S0 T21 (mkF m 45 #[.val (.int p1), .val (.int p2), .val (.int p3), .val (.int p4), .val (.int p5), .val (.int p6)] [(.int z21v)]) := fun t k => P20 t (st21 _ k)
            obtain ⟨fs, hr, hrun, hended, hW, hsame⟩ := X21.leave (v := some (.int z21v)) (fun h => by rw [Bd.returns] at h; cases h)
            have fin : Steps p.tables e below S0 (T21.setFrames fs) := P22 _ (retI X21 hx Bd.returns (hb hby d13_45) hr)
            rw [hS0] at fin
            refine ⟨_, _, fin, hrun, hended, _, _, rfl, ?_, ⟨_, rfl⟩, hW, hsame.mono (by decide) (by decide)⟩
            show own_QI h0 n0 (own_f13 p1 p2 p3 p4 p5 p6) _ T21.heap _
            rw [eq21]
            exact ⟨_, rfl, (by subst hz21v; unfold own_f13; rw [if_neg hc1_2, if_neg hc5_7, if_pos hc18_12, if_neg hc31_14, if_pos hc36_19]), N21n, rfl⟩
          · have P23 : own_Pr p.tables e below S0 s₁ (mkF m 50 #[.val (.int p1), .val (.int p2), .val (.int p3), .val (.int p4), .val (.int p5), .val (.int p6)] [(.int (p3 - p6))]) := fun t k => P18 t (by
              refine XS.icmpYes X0.here hx rfl (pc0 := 36) (pc' := 46) rfl (hb hby d13_36) rfl (XT.ii_ne_t hc36_19) (by decide) (by decide) ?_
              show Steps p.tables e below (s₁.setTop (mkF m 46 #[.val (.int p1), .val (.int p2), .val (.int p3), .val (.int p4), .val (.int p5), .val (.int p6)] [])) _
              refine XS.iloadN X0.here hx rfl (hb hby d13_46) rfl ?_
              show Steps p.tables e below (s₁.setTop (mkF m 47 #[.val (.int p1), .val (.int p2), .val (.int p3), .val (.int p4), .val (.int p5), .val (.int p6)] [(.int p3)])) _
              refine XS.iload X0.here hx rfl (hb hby d13_47) rfl ?_
              show Steps p.tables e below (s₁.setTop (mkF m 49 #[.val (.int p1), .val (.int p2), .val (.int p3), .val (.int p4), .val (.int p5), .val (.int p6)] [(.int p6), (.int p3)])) _
              refine XS.isub X0.here hx rfl (hb hby d13_49) rfl ?_
              show Steps p.tables e below (s₁.setTop (mkF m 50 #[.val (.int p1), .val (.int p2), .val (.int p3), .val (.int p4), .val (.int p5), .val (.int p6)] [(.int (p3 - p6))])) _
              exact k)
            obtain ⟨_, _, ⟨T24, L24, k24, n24⟩, -, X24, ⟨Lc24, hQ24, l24, y24, z24⟩, st24⟩ := Jvm.LawKit.callS X0 hx (y := (⟨"com/example/mathir_tools/mathirtools/formats/text/Utf8OrderComparePinLaw", "sign", "(I)I"⟩ : MethodName)) hown (mvT hZ (hw _ (List.mem_of_getElem? (i := 45) rfl))) (mvT hZ (hw _ (List.mem_of_getElem? (i := 46) rfl))) (mvT hZ (hw _ (List.mem_of_getElem? (i := 2) rfl))) (mvT hZ (hw _ (List.mem_of_getElem? (i := 47) rfl))) (by decide) (backOf (W := 0) (rm9 l Z a0 hw [] (p3 - p6)  h0 n0 Z0 ) hZ (hw _ (List.mem_of_getElem? (i := 47) rfl)) (hw _ (List.mem_of_getElem? (i := 2) rfl)) (by decide) (by decide)) (g := (mkF m 50 #[.val (.int p1), .val (.int p2), .val (.int p3), .val (.int p4), .val (.int p5), .val (.int p6)] [(.int (p3 - p6))])) rfl (by rw [hml]; rfl) (argsL := [(.int (p3 - p6))]) (rest := []) (lenOf pd_2 rfl) rfl (by show 2 * 0 + _ ≤ _; exact Nat.le_of_eq rfl) (hb hby d13_50) (fun _ _ => ⟨rfl, e0, (by decide : 0 + 0 ≤ _), (by decide : 0 + 0 ≤ _)⟩)
            dsimp only [Pt.U, Pt.locs, Pt.cells, Pt.slots] at X24 l24 y24 z24 st24 hQ24
            subst l24 y24 z24
            obtain ⟨z24v, rfl, hz24v, Nq24, eq24⟩ := hQ24
            have N24n := Fr.app N0 Nq24
            have P25 : own_Pr p.tables e below S0 T24 (mkF m 53 #[.val (.int p1), .val (.int p2), .val (.int p3), .val (.int p4), .val (.int p5), .val (.int p6)] [(.int z24v)]) := fun t k => P23 t (st24 _ k)
            obtain ⟨fs, hr, hrun, hended, hW, hsame⟩ := X24.leave (v := some (.int z24v)) (fun h => by rw [Bd.returns] at h; cases h)
            have fin : Steps p.tables e below S0 (T24.setFrames fs) := P25 _ (retI X24 hx Bd.returns (hb hby d13_53) hr)
            rw [hS0] at fin
            refine ⟨_, _, fin, hrun, hended, _, _, rfl, ?_, ⟨_, rfl⟩, hW, hsame.mono (by decide) (by decide)⟩
            show own_QI h0 n0 (own_f13 p1 p2 p3 p4 p5 p6) _ T24.heap _
            rw [eq24]
            exact ⟨_, rfl, (by subst hz24v; unfold own_f13; rw [if_neg hc1_2, if_neg hc5_7, if_pos hc18_12, if_neg hc31_14, if_neg hc36_19]), N24n, rfl⟩
      · have P26 : own_Pr p.tables e below S0 s₁ (mkF m 25 #[.val (.int p1), .val (.int p2), .val (.int p3), .val (.int p4), .val (.int p5), .val (.int p6)] [(.int (p2 - p5))]) := fun t k => P11 t (by
          refine XS.icmpNo X0.here hx rfl (hb hby d13_18) rfl (XT.ii_eq_f hc18_12) ?_
          show Steps p.tables e below (s₁.setTop (mkF m 21 #[.val (.int p1), .val (.int p2), .val (.int p3), .val (.int p4), .val (.int p5), .val (.int p6)] [])) _
          refine XS.iloadN X0.here hx rfl (hb hby d13_21) rfl ?_
          show Steps p.tables e below (s₁.setTop (mkF m 22 #[.val (.int p1), .val (.int p2), .val (.int p3), .val (.int p4), .val (.int p5), .val (.int p6)] [(.int p2)])) _
          refine XS.iload X0.here hx rfl (hb hby d13_22) rfl ?_
          show Steps p.tables e below (s₁.setTop (mkF m 24 #[.val (.int p1), .val (.int p2), .val (.int p3), .val (.int p4), .val (.int p5), .val (.int p6)] [(.int p5), (.int p2)])) _
          refine XS.isub X0.here hx rfl (hb hby d13_24) rfl ?_
          show Steps p.tables e below (s₁.setTop (mkF m 25 #[.val (.int p1), .val (.int p2), .val (.int p3), .val (.int p4), .val (.int p5), .val (.int p6)] [(.int (p2 - p5))])) _
          exact k)
        obtain ⟨_, _, ⟨T27, L27, k27, n27⟩, -, X27, ⟨Lc27, hQ27, l27, y27, z27⟩, st27⟩ := Jvm.LawKit.callS X0 hx (y := (⟨"com/example/mathir_tools/mathirtools/formats/text/Utf8OrderComparePinLaw", "sign", "(I)I"⟩ : MethodName)) hown (mvT hZ (hw _ (List.mem_of_getElem? (i := 45) rfl))) (mvT hZ (hw _ (List.mem_of_getElem? (i := 46) rfl))) (mvT hZ (hw _ (List.mem_of_getElem? (i := 2) rfl))) (mvT hZ (hw _ (List.mem_of_getElem? (i := 47) rfl))) (by decide) (backOf (W := 0) (rm9 l Z a0 hw [] (p2 - p5)  h0 n0 Z0 ) hZ (hw _ (List.mem_of_getElem? (i := 47) rfl)) (hw _ (List.mem_of_getElem? (i := 2) rfl)) (by decide) (by decide)) (g := (mkF m 25 #[.val (.int p1), .val (.int p2), .val (.int p3), .val (.int p4), .val (.int p5), .val (.int p6)] [(.int (p2 - p5))])) rfl (by rw [hml]; rfl) (argsL := [(.int (p2 - p5))]) (rest := []) (lenOf pd_2 rfl) rfl (by show 2 * 0 + _ ≤ _; exact Nat.le_of_eq rfl) (hb hby d13_25) (fun _ _ => ⟨rfl, e0, (by decide : 0 + 0 ≤ _), (by decide : 0 + 0 ≤ _)⟩)
        dsimp only [Pt.U, Pt.locs, Pt.cells, Pt.slots] at X27 l27 y27 z27 st27 hQ27
        subst l27 y27 z27
        obtain ⟨z27v, rfl, hz27v, Nq27, eq27⟩ := hQ27
        have N27n := Fr.app N0 Nq27
        have P28 : own_Pr p.tables e below S0 T27 (mkF m 28 #[.val (.int p1), .val (.int p2), .val (.int p3), .val (.int p4), .val (.int p5), .val (.int p6)] [(.int z27v)]) := fun t k => P26 t (st27 _ k)
        obtain ⟨fs, hr, hrun, hended, hW, hsame⟩ := X27.leave (v := some (.int z27v)) (fun h => by rw [Bd.returns] at h; cases h)
        have fin : Steps p.tables e below S0 (T27.setFrames fs) := P28 _ (retI X27 hx Bd.returns (hb hby d13_28) hr)
        rw [hS0] at fin
        refine ⟨_, _, fin, hrun, hended, _, _, rfl, ?_, ⟨_, rfl⟩, hW, hsame.mono (by decide) (by decide)⟩
        show own_QI h0 n0 (own_f13 p1 p2 p3 p4 p5 p6) _ T27.heap _
        rw [eq27]
        exact ⟨_, rfl, (by subst hz27v; unfold own_f13; rw [if_neg hc1_2, if_neg hc5_7, if_neg hc18_12]), N27n, rfl⟩
theorem d30_0 : decode jdk_41_method_11_code 0 = .ok (.iload_n 0, 1) := by decide +kernel
theorem d30_1 : decode jdk_41_method_11_code 1 = .ok (.ifCond .lt 8, 3) := by decide +kernel
theorem d30_4 : decode jdk_41_method_11_code 4 = .ok (.iload_n 0, 1) := by decide +kernel
theorem d30_5 : decode jdk_41_method_11_code 5 = .ok (.iload_n 1, 1) := by decide +kernel
theorem d30_6 : decode jdk_41_method_11_code 6 = .ok (.if_icmp .lt 10, 3) := by decide +kernel
theorem d30_16 : decode jdk_41_method_11_code 16 = .ok (.iload_n 0, 1) := by decide +kernel
theorem d30_17 : decode jdk_41_method_11_code 17 = .ok (.ireturn, 1) := by decide +kernel
theorem pn_30 : plainName "jdk/internal/util/Preconditions" = true := by first | (simp [plainName, overriddenIn]; done) | decide +kernel
theorem ef_30 (m : MethodId) (p1 : Int32) (p2 : Int32) (fm : Value) (hr_fm : fm.isRef = true) : entryFrame m #[(.int p1), (.int p2), fm] 3 = mkF m 0 #[.val (.int p1), .val (.int p2), .val fm] [] := by
  cases fm
  all_goals first | (simp [Value.isRef] at hr_fm; done) | rfl | (simp [entryFrame, mkF, argsToLocals, Value.category]; done)
def own_f30 (p1 : Int32) : Int32 := p1
set_option maxRecDepth 65536 in
set_option maxHeartbeats 40000000 in
theorem rm30 (l : Launch) (Z : State) (a0 : Array Value) (hw : ∀ d ∈ tables_1, d.before a0 Z = true) (ws : List Jvm.Cond) (p1 : Int32) (p2 : Int32) (fm : Value)  (h0 : Heap) (n0 : Nat) (Z0 : n0 ≤ h0.size) (hr_fm : fm.isRef = true) (h1 : ¬ p1 < (0 : Int32)) (h2 : p1 < p2) :
    MetFree l (⟨"jdk/internal/util/Preconditions", "checkIndex", "(IILjava/util/function/BiFunction;)I"⟩ : MethodName) (head1 (Jvm.Cond.code (⟨"jdk/internal/util/Preconditions", "checkIndex", "(IILjava/util/function/BiFunction;)I"⟩ : MethodName) jdk_41_method_11_code 3 (some .int) :: ws) ({ frames := 0, cells := 0, slots := 0, locals := 0 } : Room)) (fun a U => a = #[(.int p1), (.int p2), fm] ∧ Z.Warmed39 U.vm ∧ U.heap = h0) (fun _ _ _ _ _ => True) (fun _ U o U' => ∃ v L, o = .returned v ∧ own_QI h0 n0 (own_f30 p1) v U'.heap L ∧ FrameEnd U o U' L ({ frames := 0, cells := 0, slots := 0, locals := 0 } : Room).cells ({ frames := 0, cells := 0, slots := 0, locals := 0 } : Room).slots) := by
  refine MetFree.of_bodySF (plainFor_of_name pn_30) hisR ?_
  intro p e s m args below meth c s₁ Bd hml0 hP hK
  obtain ⟨rfl, hZ, hh⟩ := hP
  have hx := Bd.exec
  have hby := Bd.bytes
  have hml : c.maxLocals = 3 := hml0
  have hown : s.vm.findClass "jdk/internal/util/Preconditions" = some m.cls := findClass_of_methodNamed Bd.named
  have hnm := (name_of_methodNamed Bd.named Bd.method).1
  have X0 : Stand p l e ({ frames := 0, cells := 0, slots := 0, locals := 0 } : Room) s m #[(.int p1), (.int p2), fm] below meth c s₁ [] 0 0 := Stand.of_body Bd
  have e0 : s₁.heap = h0 := by rw [← hh, Bd.state]; rfl
  have N0 := Fr.nil n0
  obtain ⟨S0, hS0⟩ : ∃ z, z = s₁.setTop (entryFrame m #[(.int p1), (.int p2), fm] 3) := ⟨_, rfl⟩
  have P0 : own_Pr p.tables e below S0 s₁ (mkF m 0 #[.val (.int p1), .val (.int p2), .val fm] []) := fun t k => hS0 ▸ castTop (ef_30 m p1 p2 fm hr_fm) k
  have P1 : own_Pr p.tables e below S0 s₁ (mkF m 17 #[.val (.int p1), .val (.int p2), .val fm] [(.int p1)]) := fun t k => P0 t (by
    refine XS.iloadN X0.here hx rfl (hb hby d30_0) rfl ?_
    show Steps p.tables e below (s₁.setTop (mkF m 1 #[.val (.int p1), .val (.int p2), .val fm] [(.int p1)])) _
    refine XS.ifNo X0.here hx rfl (hb hby d30_1) rfl (XT.i0_lt_f h1) ?_
    show Steps p.tables e below (s₁.setTop (mkF m 4 #[.val (.int p1), .val (.int p2), .val fm] [])) _
    refine XS.iloadN X0.here hx rfl (hb hby d30_4) rfl ?_
    show Steps p.tables e below (s₁.setTop (mkF m 5 #[.val (.int p1), .val (.int p2), .val fm] [(.int p1)])) _
    refine XS.iloadN X0.here hx rfl (hb hby d30_5) rfl ?_
    show Steps p.tables e below (s₁.setTop (mkF m 6 #[.val (.int p1), .val (.int p2), .val fm] [(.int p2), (.int p1)])) _
    refine XS.icmpYes X0.here hx rfl (pc0 := 6) (pc' := 16) rfl (hb hby d30_6) rfl (XT.ii_lt_t h2) (by decide) (by decide) ?_
    show Steps p.tables e below (s₁.setTop (mkF m 16 #[.val (.int p1), .val (.int p2), .val fm] [])) _
    refine XS.iloadN X0.here hx rfl (hb hby d30_16) rfl ?_
    show Steps p.tables e below (s₁.setTop (mkF m 17 #[.val (.int p1), .val (.int p2), .val fm] [(.int p1)])) _
    exact k)
  obtain ⟨fs, hr, hrun, hended, hW, hsame⟩ := X0.leave (v := some (.int p1)) (fun h => by rw [Bd.returns] at h; cases h)
  have fin : Steps p.tables e below S0 (s₁.setFrames fs) := P1 _ (retI X0 hx Bd.returns (hb hby d30_17) hr)
  rw [hS0] at fin
  refine ⟨_, _, fin, hrun, hended, _, _, rfl, ?_, ⟨_, rfl⟩, hW, hsame.mono (by decide) (by decide)⟩
  show own_QI h0 n0 (own_f30 p1) _ s₁.heap _
  rw [e0]
  exact ⟨_, rfl, (by unfold own_f30; rfl), N0, rfl⟩
theorem d29_0 : decode jdk_42_method_155_code 0 = .ok (.iload_n 0, 1) := by decide +kernel
theorem d29_1 : decode jdk_42_method_155_code 1 = .ok (.iload_n 1, 1) := by decide +kernel
theorem d29_2 : decode jdk_42_method_155_code 2 = .ok (.getstatic 1053, 3) := by decide +kernel
theorem d29_5 : decode jdk_42_method_155_code 5 = .ok (.invokestatic 1059, 3) := by decide +kernel
theorem d29_8 : decode jdk_42_method_155_code 8 = .ok (.pop, 1) := by decide +kernel
theorem d29_9 : decode jdk_42_method_155_code 9 = .ok (.return_, 1) := by decide +kernel
theorem pd_3 : parseMethodDescriptor "(IILjava/util/function/BiFunction;)I" = some ⟨[.int, .int, (.object "java/util/function/BiFunction")], some .int⟩ := by decide +kernel
theorem ef_29 (m : MethodId) (p1 : Int32) (p2 : Int32) : entryFrame m #[(.int p1), (.int p2)] 2 = mkF m 0 #[.val (.int p1), .val (.int p2)] [] := by first | (simp [entryFrame, mkF, argsToLocals, Value.category]; done) | rfl
set_option maxRecDepth 65536 in
set_option maxHeartbeats 40000000 in
theorem rm29 (l : Launch) (Z : State) (a0 : Array Value) (hw : ∀ d ∈ tables_1, d.before a0 Z = true) (ws : List Jvm.Cond) (p1 : Int32) (p2 : Int32) (fm : Value) (h0 : Heap) (n0 : Nat) (Z0 : n0 ≤ h0.size) (FM : Sta Z h0 "jdk/internal/util/Preconditions" "SIOOBE_FORMATTER" "Ljava/util/function/BiFunction;" fm) (hr_fm : fm.isRef = true) (h1 : ¬ p1 < (0 : Int32)) (h2 : p1 < p2) :
    MetFree l (⟨"java/lang/String", "checkIndex", "(II)V"⟩ : MethodName) (head1 (Jvm.Cond.code (⟨"java/lang/String", "checkIndex", "(II)V"⟩ : MethodName) jdk_42_method_155_code 2 none :: ws) ({ frames := 1, cells := 0, slots := 0, locals := 14 } : Room)) (fun a U => a = #[(.int p1), (.int p2)] ∧ Z.Warmed39 U.vm ∧ U.heap = h0) (fun _ _ _ _ _ => True) (fun _ U o U' => ∃ v L, o = .returned v ∧ own_QV h0 n0 v U'.heap L ∧ FrameEnd U o U' L ({ frames := 1, cells := 0, slots := 0, locals := 14 } : Room).cells ({ frames := 1, cells := 0, slots := 0, locals := 14 } : Room).slots) := by
  refine MetFree.of_bodySF (plainFor_of_name pn_7) hisR ?_
  intro p e s m args below meth c s₁ Bd hml0 hP hK
  obtain ⟨rfl, hZ, hh⟩ := hP
  have hx := Bd.exec
  have hby := Bd.bytes
  have hml : c.maxLocals = 2 := hml0
  have hown : s.vm.findClass "java/lang/String" = some m.cls := findClass_of_methodNamed Bd.named
  have hnm := (name_of_methodNamed Bd.named Bd.method).1
  have X0 : Stand p l e ({ frames := 1, cells := 0, slots := 0, locals := 14 } : Room) s m #[(.int p1), (.int p2)] below meth c s₁ [] 0 0 := Stand.of_body Bd
  have e0 : s₁.heap = h0 := by rw [← hh, Bd.state]; rfl
  have N0 := Fr.nil n0
  obtain ⟨S0, hS0⟩ : ∃ z, z = s₁.setTop (entryFrame m #[(.int p1), (.int p2)] 2) := ⟨_, rfl⟩
  have P0 : own_Pr p.tables e below S0 s₁ (mkF m 0 #[.val (.int p1), .val (.int p2)] []) := fun t k => hS0 ▸ castTop (ef_29 m p1 p2) k
  have P1 : own_Pr p.tables e below S0 s₁ (mkF m 2 #[.val (.int p1), .val (.int p2)] [(.int p2), (.int p1)]) := fun t k => P0 t (by
    refine XS.iloadN X0.here hx rfl (hb hby d29_0) rfl ?_
    show Steps p.tables e below (s₁.setTop (mkF m 1 #[.val (.int p1), .val (.int p2)] [(.int p1)])) _
    refine XS.iloadN X0.here hx rfl (hb hby d29_1) rfl ?_
    show Steps p.tables e below (s₁.setTop (mkF m 2 #[.val (.int p1), .val (.int p2)] [(.int p2), (.int p1)])) _
    exact k)
  obtain ⟨T2, X2, e2, st2⟩ := getS2 X0 hx hZ hown (host := "") (Or.inl (hw _ (List.mem_of_getElem? (i := 124) rfl))) Via.refl e0 FM (g := (mkF m 2 #[.val (.int p1), .val (.int p2)] [(.int p2), (.int p1)])) rfl (hb hby d29_2)
  have P3 : own_Pr p.tables e below S0 T2 (mkF m 5 #[.val (.int p1), .val (.int p2)] [fm, (.int p2), (.int p1)]) := fun t k => P1 t (st2 _ k)
  obtain ⟨_, _, ⟨T4, L4, k4, n4⟩, -, X4, ⟨Lc4, hQ4, l4, y4, z4⟩, st4⟩ := Jvm.LawKit.callS X2 hx (y := (⟨"jdk/internal/util/Preconditions", "checkIndex", "(IILjava/util/function/BiFunction;)I"⟩ : MethodName)) hown (mvT hZ (hw _ (List.mem_of_getElem? (i := 126) rfl))) (mvT hZ (hw _ (List.mem_of_getElem? (i := 127) rfl))) (mvT hZ (hw _ (List.mem_of_getElem? (i := 125) rfl))) (mvT hZ (hw _ (List.mem_of_getElem? (i := 128) rfl))) (by decide) (backOf (W := 0) (rm30 l Z a0 hw [] p1 p2 fm h0 n0 Z0 hr_fm h1 h2) hZ (hw _ (List.mem_of_getElem? (i := 128) rfl)) (hw _ (List.mem_of_getElem? (i := 125) rfl)) (by decide) (by decide)) (g := (mkF m 5 #[.val (.int p1), .val (.int p2)] [fm, (.int p2), (.int p1)])) rfl (by rw [hml]; rfl) (argsL := [(.int p1), (.int p2), fm]) (rest := []) (lenOf pd_3 rfl) rfl (by show 2 * 0 + _ ≤ _; exact Nat.le_of_eq rfl) (hb hby d29_5) (fun _ _ => ⟨rfl, e2, (by decide : 0 + 0 ≤ _), (by decide : 0 + 0 ≤ _)⟩)
  dsimp only [Pt.U, Pt.locs, Pt.cells, Pt.slots] at X4 l4 y4 z4 st4 hQ4
  subst l4 y4 z4
  obtain ⟨z4v, rfl, hz4v, Nq4, eq4⟩ := hQ4
  have N4n := Fr.app N0 Nq4
  have P5 : own_Pr p.tables e below S0 T4 (mkF m 8 #[.val (.int p1), .val (.int p2)] [(.int z4v)]) := fun t k => P3 t (st4 _ k)
  have P6 : own_Pr p.tables e below S0 T4 (mkF m 9 #[.val (.int p1), .val (.int p2)] []) := fun t k => P5 t (by
    refine XS.pop X4.here hx rfl (hb hby d29_8) rfl rfl ?_
    show Steps p.tables e below (T4.setTop (mkF m 9 #[.val (.int p1), .val (.int p2)] [])) _
    exact k)
  obtain ⟨fs, hr, hrun, hended, hW, hsame⟩ := X4.leave (v := none) (fun _ => rfl)
  have fin : Steps p.tables e below S0 (T4.setFrames fs) := P6 _ (X4.returnOut hx Bd.returns (hb hby d29_9) hr)
  rw [hS0] at fin
  refine ⟨_, _, fin, hrun, hended, _, _, rfl, ?_, ⟨_, rfl⟩, hW, hsame.mono (by decide) (by decide)⟩
  show own_QV h0 n0 _ T4.heap _
  rw [eq4]
  exact ⟨rfl, N4n, rfl⟩
def own_QP (Z : State) (a : Addr) (kk : ClassId) (n : Int32) (vs : List Value) (h0 : Heap) (n0 : Nat) (v : Option Value) (h : Heap) (L : List Loc) : Prop := v = none ∧ Fr n0 L ∧ Keep h0 h [a] ∧ Arv Z h a kk .byte n vs (.int 0)
def own_QA (Z : State) (n : Int32) (vs : List Value) (h0 : Heap) (n0 : Nat) (v : Option Value) (h : Heap) (L : List Loc) : Prop := ∃ (b : Addr) (kk : ClassId), v = some (.ref b) ∧ Fr n0 L ∧ Keep h0 h [] ∧ h0.size ≤ b ∧ Arv Z h b kk .byte n vs (.int 0)
theorem d20_0 : decode jdk_52_method_4_code 0 = .ok (.getstatic 44, 3) := by decide +kernel
theorem d20_3 : decode jdk_52_method_4_code 3 = .ok (.ifCond .ne 25, 3) := by decide +kernel
theorem d20_28 : decode jdk_52_method_4_code 28 = .ok (.iload_n 1, 1) := by decide +kernel
theorem d20_29 : decode jdk_52_method_4_code 29 = .ok (.iconst 1, 1) := by decide +kernel
theorem d20_30 : decode jdk_52_method_4_code 30 = .ok (.ishl, 1) := by decide +kernel
theorem d20_31 : decode jdk_52_method_4_code 31 = .ok (.istore_n 1, 1) := by decide +kernel
theorem d20_32 : decode jdk_52_method_4_code 32 = .ok (.aload_n 0, 1) := by decide +kernel
theorem d20_33 : decode jdk_52_method_4_code 33 = .ok (.iload_n 1, 1) := by decide +kernel
theorem d20_34 : decode jdk_52_method_4_code 34 = .ok (.iinc 1 1, 3) := by decide +kernel
theorem d20_37 : decode jdk_52_method_4_code 37 = .ok (.iload_n 2, 1) := by decide +kernel
theorem d20_38 : decode jdk_52_method_4_code 38 = .ok (.getstatic 59, 3) := by decide +kernel
theorem d20_41 : decode jdk_52_method_4_code 41 = .ok (.ishr, 1) := by decide +kernel
theorem d20_42 : decode jdk_52_method_4_code 42 = .ok (.i2b, 1) := by decide +kernel
theorem d20_43 : decode jdk_52_method_4_code 43 = .ok (.bastore, 1) := by decide +kernel
theorem d20_44 : decode jdk_52_method_4_code 44 = .ok (.aload_n 0, 1) := by decide +kernel
theorem d20_45 : decode jdk_52_method_4_code 45 = .ok (.iload_n 1, 1) := by decide +kernel
theorem d20_46 : decode jdk_52_method_4_code 46 = .ok (.iload_n 2, 1) := by decide +kernel
theorem d20_47 : decode jdk_52_method_4_code 47 = .ok (.getstatic 63, 3) := by decide +kernel
theorem d20_50 : decode jdk_52_method_4_code 50 = .ok (.ishr, 1) := by decide +kernel
theorem d20_51 : decode jdk_52_method_4_code 51 = .ok (.i2b, 1) := by decide +kernel
theorem d20_52 : decode jdk_52_method_4_code 52 = .ok (.bastore, 1) := by decide +kernel
theorem d20_53 : decode jdk_52_method_4_code 53 = .ok (.return_, 1) := by decide +kernel
theorem pn_20 : plainName "java/lang/StringUTF16" = true := by first | (simp [plainName, overriddenIn]; done) | decide +kernel
theorem ef_20_20 (m : MethodId) (a1 : Addr) (p3 : Int32) : entryFrame m #[(.ref a1), (.int (0 : Int32)), (.int p3)] 3 = mkF m 0 #[.val (.ref a1), .val (.int (0 : Int32)), .val (.int p3)] [] := by first | (simp [entryFrame, mkF, argsToLocals, Value.category]; done) | rfl
set_option maxRecDepth 65536 in
set_option maxHeartbeats 40000000 in
theorem rm20_20 (l : Launch) (Z : State) (a0 : Array Value) (hw : ∀ d ∈ tables_1, d.before a0 Z = true) (ws : List Jvm.Cond) (a1 : Addr) (p3 : Int32) (k1 : ClassId) (x0 x1 : Int32) (h0 : Heap) (n0 : Nat) (Z0 : n0 ≤ h0.size) (V1 : Arv Z h0 a1 k1 .byte 2 [(.int x0), (.int x1)] (.int 0)) (g_a1 : n0 ≤ a1) (AD : Sta Z h0 "java/lang/StringUTF16" "$assertionsDisabled" "Z" (.int (1 : Int32))) (HB : Sta Z h0 "java/lang/StringUTF16" "HI_BYTE_SHIFT" "I" (.int (0 : Int32))) (LB : Sta Z h0 "java/lang/StringUTF16" "LO_BYTE_SHIFT" "I" (.int (8 : Int32))) :
    MetFree l (⟨"java/lang/StringUTF16", "putChar", "([BII)V"⟩ : MethodName) (head1 (Jvm.Cond.code (⟨"java/lang/StringUTF16", "putChar", "([BII)V"⟩ : MethodName) jdk_52_method_4_code 3 none :: ws) ({ frames := 0, cells := 0, slots := 0, locals := 0 } : Room)) (fun a U => a = #[(.ref a1), (.int (0 : Int32)), (.int p3)] ∧ Z.Warmed39 U.vm ∧ U.heap = h0) (fun _ _ _ _ _ => True) (fun _ U o U' => ∃ v L, o = .returned v ∧ own_QP Z a1 k1 2 [(.int (nar .byte ((p3 >>> ((0 : Int32) &&& 31)).toInt8.toInt32))), (.int (nar .byte ((p3 >>> ((8 : Int32) &&& 31)).toInt8.toInt32)))] h0 n0 v U'.heap L ∧ FrameEnd U o U' L ({ frames := 0, cells := 0, slots := 0, locals := 0 } : Room).cells ({ frames := 0, cells := 0, slots := 0, locals := 0 } : Room).slots) := by
  refine MetFree.of_bodySF (plainFor_of_name pn_20) hisR ?_
  intro p e s m args below meth c s₁ Bd hml0 hP hK
  obtain ⟨rfl, hZ, hh⟩ := hP
  have hx := Bd.exec
  have hby := Bd.bytes
  have hml : c.maxLocals = 3 := hml0
  have hown : s.vm.findClass "java/lang/StringUTF16" = some m.cls := findClass_of_methodNamed Bd.named
  have hnm := (name_of_methodNamed Bd.named Bd.method).1
  have X0 : Stand p l e ({ frames := 0, cells := 0, slots := 0, locals := 0 } : Room) s m #[(.ref a1), (.int (0 : Int32)), (.int p3)] below meth c s₁ [] 0 0 := Stand.of_body Bd
  have e0 : s₁.heap = h0 := by rw [← hh, Bd.state]; rfl
  have N0 := Fr.nil n0
  obtain ⟨S0, hS0⟩ : ∃ z, z = s₁.setTop (entryFrame m #[(.ref a1), (.int (0 : Int32)), (.int p3)] 3) := ⟨_, rfl⟩
  have P0 : own_Pr p.tables e below S0 s₁ (mkF m 0 #[.val (.ref a1), .val (.int (0 : Int32)), .val (.int p3)] []) := fun t k => hS0 ▸ castTop (ef_20_20 m a1 p3) k
  have K0 := Keep.refl h0 [a1]
  obtain ⟨T1, X1, e1, st1⟩ := getS2 X0 hx hZ hown (host := "") (Or.inl (hw _ (List.mem_of_getElem? (i := 86) rfl))) Via.refl e0 AD (g := (mkF m 0 #[.val (.ref a1), .val (.int (0 : Int32)), .val (.int p3)] [])) rfl (hb hby d20_0)
  have P2 : own_Pr p.tables e below S0 T1 (mkF m 3 #[.val (.ref a1), .val (.int (0 : Int32)), .val (.int p3)] [(.int (1 : Int32))]) := fun t k => P0 t (st1 _ k)
  have P3 : own_Pr p.tables e below S0 T1 (mkF m 38 #[.val (.ref a1), .val (.int (1 : Int32)), .val (.int p3)] [(.int p3), (.int (0 : Int32)), (.ref a1)]) := fun t k => P2 t (by
    refine XS.ifYes X1.here hx rfl (pc0 := 3) (pc' := 28) rfl (hb hby d20_3) rfl (by decide) (by decide) (by decide) ?_
    show Steps p.tables e below (T1.setTop (mkF m 28 #[.val (.ref a1), .val (.int (0 : Int32)), .val (.int p3)] [])) _
    refine XS.iloadN X1.here hx rfl (hb hby d20_28) rfl ?_
    show Steps p.tables e below (T1.setTop (mkF m 29 #[.val (.ref a1), .val (.int (0 : Int32)), .val (.int p3)] [(.int (0 : Int32))])) _
    refine XS.iconst X1.here hx rfl (hb hby d20_29) ?_
    show Steps p.tables e below (T1.setTop (mkF m 30 #[.val (.ref a1), .val (.int (0 : Int32)), .val (.int p3)] [(.int (1 : Int32)), (.int (0 : Int32))])) _
    refine XS.ishl X1.here hx rfl (hb hby d20_30) rfl ?_
    show Steps p.tables e below (T1.setTop (mkF m 31 #[.val (.ref a1), .val (.int (0 : Int32)), .val (.int p3)] [(.int (0 : Int32))])) _
    refine XS.istoreN X1.here hx rfl (hb hby d20_31) rfl (l' := #[.val (.ref a1), .val (.int (0 : Int32)), .val (.int p3)]) rfl ?_
    show Steps p.tables e below (T1.setTop (mkF m 32 #[.val (.ref a1), .val (.int (0 : Int32)), .val (.int p3)] [])) _
    refine XS.aloadN X1.here hx rfl (hb hby d20_32) rfl rfl ?_
    show Steps p.tables e below (T1.setTop (mkF m 33 #[.val (.ref a1), .val (.int (0 : Int32)), .val (.int p3)] [(.ref a1)])) _
    refine XS.iloadN X1.here hx rfl (hb hby d20_33) rfl ?_
    show Steps p.tables e below (T1.setTop (mkF m 34 #[.val (.ref a1), .val (.int (0 : Int32)), .val (.int p3)] [(.int (0 : Int32)), (.ref a1)])) _
    refine XS.iinc X1.here hx rfl (hb hby d20_34) rfl (l' := #[.val (.ref a1), .val (.int (1 : Int32)), .val (.int p3)]) rfl ?_
    show Steps p.tables e below (T1.setTop (mkF m 37 #[.val (.ref a1), .val (.int (1 : Int32)), .val (.int p3)] [(.int (0 : Int32)), (.ref a1)])) _
    refine XS.iloadN X1.here hx rfl (hb hby d20_37) rfl ?_
    show Steps p.tables e below (T1.setTop (mkF m 38 #[.val (.ref a1), .val (.int (1 : Int32)), .val (.int p3)] [(.int p3), (.int (0 : Int32)), (.ref a1)])) _
    exact k)
  obtain ⟨T4, X4, e4, st4⟩ := getS2 X1 hx hZ hown (host := "") (Or.inl (hw _ (List.mem_of_getElem? (i := 87) rfl))) Via.refl e1 HB (g := (mkF m 38 #[.val (.ref a1), .val (.int (1 : Int32)), .val (.int p3)] [(.int p3), (.int (0 : Int32)), (.ref a1)])) rfl (hb hby d20_38)
  have P5 : own_Pr p.tables e below S0 T4 (mkF m 41 #[.val (.ref a1), .val (.int (1 : Int32)), .val (.int p3)] [(.int (0 : Int32)), (.int p3), (.int (0 : Int32)), (.ref a1)]) := fun t k => P3 t (st4 _ k)
  have P6 : own_Pr p.tables e below S0 T4 (mkF m 43 #[.val (.ref a1), .val (.int (1 : Int32)), .val (.int p3)] [(.int ((p3 >>> ((0 : Int32) &&& 31)).toInt8.toInt32)), (.int (0 : Int32)), (.ref a1)]) := fun t k => P5 t (by
    refine XS.ishr X4.here hx rfl (hb hby d20_41) rfl ?_
    show Steps p.tables e below (T4.setTop (mkF m 42 #[.val (.ref a1), .val (.int (1 : Int32)), .val (.int p3)] [(.int (p3 >>> ((0 : Int32) &&& 31))), (.int (0 : Int32)), (.ref a1)])) _
    refine XS.i2b X4.here hx rfl (hb hby d20_42) rfl ?_
    show Steps p.tables e below (T4.setTop (mkF m 43 #[.val (.ref a1), .val (.int (1 : Int32)), .val (.int p3)] [(.int ((p3 >>> ((0 : Int32) &&& 31)).toInt8.toInt32)), (.int (0 : Int32)), (.ref a1)])) _
    exact k)
  obtain ⟨cl7, Ar7, q7, S7, N7, H7, G7⟩ := id V1
  have hin7 : ¬ ((0 : Int32) < 0 ∨ cl7.slots.size ≤ ((0 : Int32)).toNatClampNeg) := inb_of S7 ⟨by decide, by decide⟩
  obtain ⟨T7, h7, X7, e7, W7, st7⟩ := stB X4 hx hZ e4 Ar7 (j := (0 : Int32)) hin7 (g := (mkF m 43 #[.val (.ref a1), .val (.int (1 : Int32)), .val (.int p3)] [(.int ((p3 >>> ((0 : Int32) &&& 31)).toInt8.toInt32)), (.int (0 : Int32)), (.ref a1)])) rfl rfl (hb hby d20_43)
  have V7 : Arv Z h7 a1 k1 .byte (2 : Int32) [(.int (nar .byte ((p3 >>> ((0 : Int32) &&& 31)).toInt8.toInt32))), (.int x1)] (.int 0) := Arv.set Ar7 q7 S7 N7 H7 G7 (fits_nar_byte _) W7 0 rfl (Nat.le_of_ble_eq_true rfl)
  have F8 := AD.wr W7
  have F9 := HB.wr W7
  have F10 := LB.wr W7
  have Z11 : n0 ≤ h7.size := by rw [W7.size]; exact Z0
  have NF7 := Fr.snoc X7 N0 g_a1
  have K12 := K0.wr W7 (Or.inl (List.mem_of_getElem? (i := 0) rfl))
  have P13 : own_Pr p.tables e below S0 T7 (mkF m 44 #[.val (.ref a1), .val (.int (1 : Int32)), .val (.int p3)] []) := fun t k => P6 t (st7 _ k)
  have P14 : own_Pr p.tables e below S0 T7 (mkF m 47 #[.val (.ref a1), .val (.int (1 : Int32)), .val (.int p3)] [(.int p3), (.int (1 : Int32)), (.ref a1)]) := fun t k => P13 t (by
    refine XS.aloadN X7.here hx rfl (hb hby d20_44) rfl rfl ?_
    show Steps p.tables e below (T7.setTop (mkF m 45 #[.val (.ref a1), .val (.int (1 : Int32)), .val (.int p3)] [(.ref a1)])) _
    refine XS.iloadN X7.here hx rfl (hb hby d20_45) rfl ?_
    show Steps p.tables e below (T7.setTop (mkF m 46 #[.val (.ref a1), .val (.int (1 : Int32)), .val (.int p3)] [(.int (1 : Int32)), (.ref a1)])) _
    refine XS.iloadN X7.here hx rfl (hb hby d20_46) rfl ?_
    show Steps p.tables e below (T7.setTop (mkF m 47 #[.val (.ref a1), .val (.int (1 : Int32)), .val (.int p3)] [(.int p3), (.int (1 : Int32)), (.ref a1)])) _
    exact k)
  obtain ⟨T15, X15, e15, st15⟩ := getS2 X7 hx hZ hown (host := "") (Or.inl (hw _ (List.mem_of_getElem? (i := 88) rfl))) Via.refl e7 F10 (g := (mkF m 47 #[.val (.ref a1), .val (.int (1 : Int32)), .val (.int p3)] [(.int p3), (.int (1 : Int32)), (.ref a1)])) rfl (hb hby d20_47)
  have P16 : own_Pr p.tables e below S0 T15 (mkF m 50 #[.val (.ref a1), .val (.int (1 : Int32)), .val (.int p3)] [(.int (8 : Int32)), (.int p3), (.int (1 : Int32)), (.ref a1)]) := fun t k => P14 t (st15 _ k)
  have P17 : own_Pr p.tables e below S0 T15 (mkF m 52 #[.val (.ref a1), .val (.int (1 : Int32)), .val (.int p3)] [(.int ((p3 >>> ((8 : Int32) &&& 31)).toInt8.toInt32)), (.int (1 : Int32)), (.ref a1)]) := fun t k => P16 t (by
    refine XS.ishr X15.here hx rfl (hb hby d20_50) rfl ?_
    show Steps p.tables e below (T15.setTop (mkF m 51 #[.val (.ref a1), .val (.int (1 : Int32)), .val (.int p3)] [(.int (p3 >>> ((8 : Int32) &&& 31))), (.int (1 : Int32)), (.ref a1)])) _
    refine XS.i2b X15.here hx rfl (hb hby d20_51) rfl ?_
    show Steps p.tables e below (T15.setTop (mkF m 52 #[.val (.ref a1), .val (.int (1 : Int32)), .val (.int p3)] [(.int ((p3 >>> ((8 : Int32) &&& 31)).toInt8.toInt32)), (.int (1 : Int32)), (.ref a1)])) _
    exact k)
  obtain ⟨cl18, Ar18, q18, S18, N18, H18, G18⟩ := id V7
  have hin18 : ¬ ((1 : Int32) < 0 ∨ cl18.slots.size ≤ ((1 : Int32)).toNatClampNeg) := inb_of S18 ⟨by decide, by decide⟩
  obtain ⟨T18, h18, X18, e18, W18, st18⟩ := stB X15 hx hZ e15 Ar18 (j := (1 : Int32)) hin18 (g := (mkF m 52 #[.val (.ref a1), .val (.int (1 : Int32)), .val (.int p3)] [(.int ((p3 >>> ((8 : Int32) &&& 31)).toInt8.toInt32)), (.int (1 : Int32)), (.ref a1)])) rfl rfl (hb hby d20_52)
  have V18 : Arv Z h18 a1 k1 .byte (2 : Int32) [(.int (nar .byte ((p3 >>> ((0 : Int32) &&& 31)).toInt8.toInt32))), (.int (nar .byte ((p3 >>> ((8 : Int32) &&& 31)).toInt8.toInt32)))] (.int 0) := Arv.set Ar18 q18 S18 N18 H18 G18 (fits_nar_byte _) W18 1 rfl (Nat.le_of_ble_eq_true rfl)
  have F19 := F8.wr W18
  have F20 := F9.wr W18
  have F21 := F10.wr W18
  have Z22 : n0 ≤ h18.size := by rw [W18.size]; exact Z11
  have NF18 := Fr.snoc X18 NF7 g_a1
  have K23 := K12.wr W18 (Or.inl (List.mem_of_getElem? (i := 0) rfl))
  have P24 : own_Pr p.tables e below S0 T18 (mkF m 53 #[.val (.ref a1), .val (.int (1 : Int32)), .val (.int p3)] []) := fun t k => P17 t (st18 _ k)
  obtain ⟨fs, hr, hrun, hended, hW, hsame⟩ := X18.leave (v := none) (fun _ => rfl)
  have fin : Steps p.tables e below S0 (T18.setFrames fs) := P24 _ (X18.returnOut hx Bd.returns (hb hby d20_53) hr)
  rw [hS0] at fin
  refine ⟨_, _, fin, hrun, hended, _, _, rfl, ?_, ⟨_, rfl⟩, hW, hsame.mono (by decide) (by decide)⟩
  show own_QP Z a1 k1 2 [(.int (nar .byte ((p3 >>> ((0 : Int32) &&& 31)).toInt8.toInt32))), (.int (nar .byte ((p3 >>> ((8 : Int32) &&& 31)).toInt8.toInt32)))] h0 n0 _ T18.heap _
  rw [e18]
  exact ⟨rfl, NF18, K23, V18⟩
theorem d26_0 : decode jdk_52_method_5_code 0 = .ok (.getstatic 44, 3) := by decide +kernel
theorem d26_3 : decode jdk_52_method_5_code 3 = .ok (.ifCond .ne 25, 3) := by decide +kernel
theorem d26_28 : decode jdk_52_method_5_code 28 = .ok (.iload_n 1, 1) := by decide +kernel
theorem d26_29 : decode jdk_52_method_5_code 29 = .ok (.iconst 1, 1) := by decide +kernel
theorem d26_30 : decode jdk_52_method_5_code 30 = .ok (.ishl, 1) := by decide +kernel
theorem d26_31 : decode jdk_52_method_5_code 31 = .ok (.istore_n 1, 1) := by decide +kernel
theorem d26_32 : decode jdk_52_method_5_code 32 = .ok (.aload_n 0, 1) := by decide +kernel
theorem d26_33 : decode jdk_52_method_5_code 33 = .ok (.iload_n 1, 1) := by decide +kernel
theorem d26_34 : decode jdk_52_method_5_code 34 = .ok (.iinc 1 1, 3) := by decide +kernel
theorem d26_37 : decode jdk_52_method_5_code 37 = .ok (.baload, 1) := by decide +kernel
theorem d26_38 : decode jdk_52_method_5_code 38 = .ok (.sipush 255, 3) := by decide +kernel
theorem d26_41 : decode jdk_52_method_5_code 41 = .ok (.iand, 1) := by decide +kernel
theorem d26_42 : decode jdk_52_method_5_code 42 = .ok (.getstatic 59, 3) := by decide +kernel
theorem d26_45 : decode jdk_52_method_5_code 45 = .ok (.ishl, 1) := by decide +kernel
theorem d26_46 : decode jdk_52_method_5_code 46 = .ok (.aload_n 0, 1) := by decide +kernel
theorem d26_47 : decode jdk_52_method_5_code 47 = .ok (.iload_n 1, 1) := by decide +kernel
theorem d26_48 : decode jdk_52_method_5_code 48 = .ok (.baload, 1) := by decide +kernel
theorem d26_49 : decode jdk_52_method_5_code 49 = .ok (.sipush 255, 3) := by decide +kernel
theorem d26_52 : decode jdk_52_method_5_code 52 = .ok (.iand, 1) := by decide +kernel
theorem d26_53 : decode jdk_52_method_5_code 53 = .ok (.getstatic 63, 3) := by decide +kernel
theorem d26_56 : decode jdk_52_method_5_code 56 = .ok (.ishl, 1) := by decide +kernel
theorem d26_57 : decode jdk_52_method_5_code 57 = .ok (.ior, 1) := by decide +kernel
theorem d26_58 : decode jdk_52_method_5_code 58 = .ok (.i2c, 1) := by decide +kernel
theorem d26_59 : decode jdk_52_method_5_code 59 = .ok (.ireturn, 1) := by decide +kernel
theorem ef_26_20 (m : MethodId) (a1 : Addr) : entryFrame m #[(.ref a1), (.int (0 : Int32))] 2 = mkF m 0 #[.val (.ref a1), .val (.int (0 : Int32))] [] := by first | (simp [entryFrame, mkF, argsToLocals, Value.category]; done) | rfl
set_option maxRecDepth 65536 in
set_option maxHeartbeats 40000000 in
theorem rm26_20 (l : Launch) (Z : State) (a0 : Array Value) (hw : ∀ d ∈ tables_1, d.before a0 Z = true) (ws : List Jvm.Cond) (a1 : Addr) (k1 : ClassId) (x0 x1 : Int32) (h0 : Heap) (n0 : Nat) (Z0 : n0 ≤ h0.size) (V1 : Arv Z h0 a1 k1 .byte 2 [(.int x0), (.int x1)] (.int 0)) (AD : Sta Z h0 "java/lang/StringUTF16" "$assertionsDisabled" "Z" (.int (1 : Int32))) (HB : Sta Z h0 "java/lang/StringUTF16" "HI_BYTE_SHIFT" "I" (.int (0 : Int32))) (LB : Sta Z h0 "java/lang/StringUTF16" "LO_BYTE_SHIFT" "I" (.int (8 : Int32))) :
    MetFree l (⟨"java/lang/StringUTF16", "getChar", "([BI)C"⟩ : MethodName) (head1 (Jvm.Cond.code (⟨"java/lang/StringUTF16", "getChar", "([BI)C"⟩ : MethodName) jdk_52_method_5_code 2 (some .char) :: ws) ({ frames := 0, cells := 0, slots := 0, locals := 0 } : Room)) (fun a U => a = #[(.ref a1), (.int (0 : Int32))] ∧ Z.Warmed39 U.vm ∧ U.heap = h0) (fun _ _ _ _ _ => True) (fun _ U o U' => ∃ v L, o = .returned v ∧ own_QI h0 n0 (own_gc x0 x1) v U'.heap L ∧ FrameEnd U o U' L ({ frames := 0, cells := 0, slots := 0, locals := 0 } : Room).cells ({ frames := 0, cells := 0, slots := 0, locals := 0 } : Room).slots) := by
  refine MetFree.of_bodySF (plainFor_of_name pn_20) hisR ?_
  intro p e s m args below meth c s₁ Bd hml0 hP hK
  obtain ⟨rfl, hZ, hh⟩ := hP
  have hx := Bd.exec
  have hby := Bd.bytes
  have hml : c.maxLocals = 2 := hml0
  have hown : s.vm.findClass "java/lang/StringUTF16" = some m.cls := findClass_of_methodNamed Bd.named
  have hnm := (name_of_methodNamed Bd.named Bd.method).1
  have X0 : Stand p l e ({ frames := 0, cells := 0, slots := 0, locals := 0 } : Room) s m #[(.ref a1), (.int (0 : Int32))] below meth c s₁ [] 0 0 := Stand.of_body Bd
  have e0 : s₁.heap = h0 := by rw [← hh, Bd.state]; rfl
  have N0 := Fr.nil n0
  obtain ⟨S0, hS0⟩ : ∃ z, z = s₁.setTop (entryFrame m #[(.ref a1), (.int (0 : Int32))] 2) := ⟨_, rfl⟩
  have P0 : own_Pr p.tables e below S0 s₁ (mkF m 0 #[.val (.ref a1), .val (.int (0 : Int32))] []) := fun t k => hS0 ▸ castTop (ef_26_20 m a1) k
  obtain ⟨T1, X1, e1, st1⟩ := getS2 X0 hx hZ hown (host := "") (Or.inl (hw _ (List.mem_of_getElem? (i := 86) rfl))) Via.refl e0 AD (g := (mkF m 0 #[.val (.ref a1), .val (.int (0 : Int32))] [])) rfl (hb hby d26_0)
  have P2 : own_Pr p.tables e below S0 T1 (mkF m 3 #[.val (.ref a1), .val (.int (0 : Int32))] [(.int (1 : Int32))]) := fun t k => P0 t (st1 _ k)
  have P3 : own_Pr p.tables e below S0 T1 (mkF m 37 #[.val (.ref a1), .val (.int (1 : Int32))] [(.int (0 : Int32)), (.ref a1)]) := fun t k => P2 t (by
    refine XS.ifYes X1.here hx rfl (pc0 := 3) (pc' := 28) rfl (hb hby d26_3) rfl (by decide) (by decide) (by decide) ?_
    show Steps p.tables e below (T1.setTop (mkF m 28 #[.val (.ref a1), .val (.int (0 : Int32))] [])) _
    refine XS.iloadN X1.here hx rfl (hb hby d26_28) rfl ?_
    show Steps p.tables e below (T1.setTop (mkF m 29 #[.val (.ref a1), .val (.int (0 : Int32))] [(.int (0 : Int32))])) _
    refine XS.iconst X1.here hx rfl (hb hby d26_29) ?_
    show Steps p.tables e below (T1.setTop (mkF m 30 #[.val (.ref a1), .val (.int (0 : Int32))] [(.int (1 : Int32)), (.int (0 : Int32))])) _
    refine XS.ishl X1.here hx rfl (hb hby d26_30) rfl ?_
    show Steps p.tables e below (T1.setTop (mkF m 31 #[.val (.ref a1), .val (.int (0 : Int32))] [(.int (0 : Int32))])) _
    refine XS.istoreN X1.here hx rfl (hb hby d26_31) rfl (l' := #[.val (.ref a1), .val (.int (0 : Int32))]) rfl ?_
    show Steps p.tables e below (T1.setTop (mkF m 32 #[.val (.ref a1), .val (.int (0 : Int32))] [])) _
    refine XS.aloadN X1.here hx rfl (hb hby d26_32) rfl rfl ?_
    show Steps p.tables e below (T1.setTop (mkF m 33 #[.val (.ref a1), .val (.int (0 : Int32))] [(.ref a1)])) _
    refine XS.iloadN X1.here hx rfl (hb hby d26_33) rfl ?_
    show Steps p.tables e below (T1.setTop (mkF m 34 #[.val (.ref a1), .val (.int (0 : Int32))] [(.int (0 : Int32)), (.ref a1)])) _
    refine XS.iinc X1.here hx rfl (hb hby d26_34) rfl (l' := #[.val (.ref a1), .val (.int (1 : Int32))]) rfl ?_
    show Steps p.tables e below (T1.setTop (mkF m 37 #[.val (.ref a1), .val (.int (1 : Int32))] [(.int (0 : Int32)), (.ref a1)])) _
    exact k)
  obtain ⟨cl4, Ar4, q4, S4, N4, H4, G4⟩ := id V1
  have hin4 : ¬ ((0 : Int32) < 0 ∨ cl4.slots.size ≤ ((0 : Int32)).toNatClampNeg) := inb_of S4 ⟨by decide, by decide⟩
  have P5 : own_Pr p.tables e below S0 T1 (mkF m 42 #[.val (.ref a1), .val (.int (1 : Int32))] [(.int (x0 &&& (255 : Int32)))]) := fun t k => P3 t (by
    refine X1.baloadBytes hx (j := (0 : Int32)) (v := (.int x0)) (by rw [e1]; exact Ar4.1) (State.isArrayOf_alike hZ.alike Ar4.2.1) Ar4.2.2 hin4 (H4.at hin4 rfl) (g := (mkF m 37 #[.val (.ref a1), .val (.int (1 : Int32))] [(.int (0 : Int32)), (.ref a1)])) rfl rfl (hb hby d26_37) _ ?_
    show Steps p.tables e below (T1.setTop (mkF m 38 #[.val (.ref a1), .val (.int (1 : Int32))] [(.int x0)])) _
    refine XS.sipush X1.here hx rfl (hb hby d26_38) ?_
    show Steps p.tables e below (T1.setTop (mkF m 41 #[.val (.ref a1), .val (.int (1 : Int32))] [(.int (255 : Int32)), (.int x0)])) _
    refine XS.iand X1.here hx rfl (hb hby d26_41) rfl ?_
    show Steps p.tables e below (T1.setTop (mkF m 42 #[.val (.ref a1), .val (.int (1 : Int32))] [(.int (x0 &&& (255 : Int32)))])) _
    exact k)
  obtain ⟨T6, X6, e6, st6⟩ := getS2 X1 hx hZ hown (host := "") (Or.inl (hw _ (List.mem_of_getElem? (i := 87) rfl))) Via.refl e1 HB (g := (mkF m 42 #[.val (.ref a1), .val (.int (1 : Int32))] [(.int (x0 &&& (255 : Int32)))])) rfl (hb hby d26_42)
  have P7 : own_Pr p.tables e below S0 T6 (mkF m 45 #[.val (.ref a1), .val (.int (1 : Int32))] [(.int (0 : Int32)), (.int (x0 &&& (255 : Int32)))]) := fun t k => P5 t (st6 _ k)
  have P8 : own_Pr p.tables e below S0 T6 (mkF m 48 #[.val (.ref a1), .val (.int (1 : Int32))] [(.int (1 : Int32)), (.ref a1), (.int ((x0 &&& (255 : Int32)) <<< ((0 : Int32) &&& 31)))]) := fun t k => P7 t (by
    refine XS.ishl X6.here hx rfl (hb hby d26_45) rfl ?_
    show Steps p.tables e below (T6.setTop (mkF m 46 #[.val (.ref a1), .val (.int (1 : Int32))] [(.int ((x0 &&& (255 : Int32)) <<< ((0 : Int32) &&& 31)))])) _
    refine XS.aloadN X6.here hx rfl (hb hby d26_46) rfl rfl ?_
    show Steps p.tables e below (T6.setTop (mkF m 47 #[.val (.ref a1), .val (.int (1 : Int32))] [(.ref a1), (.int ((x0 &&& (255 : Int32)) <<< ((0 : Int32) &&& 31)))])) _
    refine XS.iloadN X6.here hx rfl (hb hby d26_47) rfl ?_
    show Steps p.tables e below (T6.setTop (mkF m 48 #[.val (.ref a1), .val (.int (1 : Int32))] [(.int (1 : Int32)), (.ref a1), (.int ((x0 &&& (255 : Int32)) <<< ((0 : Int32) &&& 31)))])) _
    exact k)
  obtain ⟨cl9, Ar9, q9, S9, N9, H9, G9⟩ := id V1
  have hin9 : ¬ ((1 : Int32) < 0 ∨ cl9.slots.size ≤ ((1 : Int32)).toNatClampNeg) := inb_of S9 ⟨by decide, by decide⟩
  have P10 : own_Pr p.tables e below S0 T6 (mkF m 53 #[.val (.ref a1), .val (.int (1 : Int32))] [(.int (x1 &&& (255 : Int32))), (.int ((x0 &&& (255 : Int32)) <<< ((0 : Int32) &&& 31)))]) := fun t k => P8 t (by
    refine X6.baloadBytes hx (j := (1 : Int32)) (v := (.int x1)) (by rw [e6]; exact Ar9.1) (State.isArrayOf_alike hZ.alike Ar9.2.1) Ar9.2.2 hin9 (H9.at hin9 rfl) (g := (mkF m 48 #[.val (.ref a1), .val (.int (1 : Int32))] [(.int (1 : Int32)), (.ref a1), (.int ((x0 &&& (255 : Int32)) <<< ((0 : Int32) &&& 31)))])) rfl rfl (hb hby d26_48) _ ?_
    show Steps p.tables e below (T6.setTop (mkF m 49 #[.val (.ref a1), .val (.int (1 : Int32))] [(.int x1), (.int ((x0 &&& (255 : Int32)) <<< ((0 : Int32) &&& 31)))])) _
    refine XS.sipush X6.here hx rfl (hb hby d26_49) ?_
    show Steps p.tables e below (T6.setTop (mkF m 52 #[.val (.ref a1), .val (.int (1 : Int32))] [(.int (255 : Int32)), (.int x1), (.int ((x0 &&& (255 : Int32)) <<< ((0 : Int32) &&& 31)))])) _
    refine XS.iand X6.here hx rfl (hb hby d26_52) rfl ?_
    show Steps p.tables e below (T6.setTop (mkF m 53 #[.val (.ref a1), .val (.int (1 : Int32))] [(.int (x1 &&& (255 : Int32))), (.int ((x0 &&& (255 : Int32)) <<< ((0 : Int32) &&& 31)))])) _
    exact k)
  obtain ⟨T11, X11, e11, st11⟩ := getS2 X6 hx hZ hown (host := "") (Or.inl (hw _ (List.mem_of_getElem? (i := 88) rfl))) Via.refl e6 LB (g := (mkF m 53 #[.val (.ref a1), .val (.int (1 : Int32))] [(.int (x1 &&& (255 : Int32))), (.int ((x0 &&& (255 : Int32)) <<< ((0 : Int32) &&& 31)))])) rfl (hb hby d26_53)
  have P12 : own_Pr p.tables e below S0 T11 (mkF m 56 #[.val (.ref a1), .val (.int (1 : Int32))] [(.int (8 : Int32)), (.int (x1 &&& (255 : Int32))), (.int ((x0 &&& (255 : Int32)) <<< ((0 : Int32) &&& 31)))]) := fun t k => P10 t (st11 _ k)
  have P13 : own_Pr p.tables e below S0 T11 (mkF m 59 #[.val (.ref a1), .val (.int (1 : Int32))] [(.int ((((x0 &&& (255 : Int32)) <<< ((0 : Int32) &&& 31)) ||| ((x1 &&& (255 : Int32)) <<< ((8 : Int32) &&& 31))).toUInt32.toUInt16.toUInt32.toInt32))]) := fun t k => P12 t (by
    refine XS.ishl X11.here hx rfl (hb hby d26_56) rfl ?_
    show Steps p.tables e below (T11.setTop (mkF m 57 #[.val (.ref a1), .val (.int (1 : Int32))] [(.int ((x1 &&& (255 : Int32)) <<< ((8 : Int32) &&& 31))), (.int ((x0 &&& (255 : Int32)) <<< ((0 : Int32) &&& 31)))])) _
    refine XS.ior X11.here hx rfl (hb hby d26_57) rfl ?_
    show Steps p.tables e below (T11.setTop (mkF m 58 #[.val (.ref a1), .val (.int (1 : Int32))] [(.int (((x0 &&& (255 : Int32)) <<< ((0 : Int32) &&& 31)) ||| ((x1 &&& (255 : Int32)) <<< ((8 : Int32) &&& 31))))])) _
    refine XS.i2c X11.here hx rfl (hb hby d26_58) rfl ?_
    show Steps p.tables e below (T11.setTop (mkF m 59 #[.val (.ref a1), .val (.int (1 : Int32))] [(.int ((((x0 &&& (255 : Int32)) <<< ((0 : Int32) &&& 31)) ||| ((x1 &&& (255 : Int32)) <<< ((8 : Int32) &&& 31))).toUInt32.toUInt16.toUInt32.toInt32))])) _
    exact k)
  obtain ⟨fs, hr, hrun, hended, hW, hsame⟩ := X11.leave (v := some (.int ((((x0 &&& (255 : Int32)) <<< ((0 : Int32) &&& 31)) ||| ((x1 &&& (255 : Int32)) <<< ((8 : Int32) &&& 31))).toUInt32.toUInt16.toUInt32.toInt32))) (fun h => by rw [Bd.returns] at h; cases h)
  have fin : Steps p.tables e below S0 (T11.setFrames fs) := P13 _ (retN X11 hx (t := .char) Bd.returns (by simp) (hb hby d26_59) (by rw [(own_narC _)]; exact hr))
  rw [hS0] at fin
  refine ⟨_, _, fin, hrun, hended, _, _, rfl, ?_, ⟨_, rfl⟩, hW, hsame.mono (by decide) (by decide)⟩
  show own_QI h0 n0 (own_gc x0 x1) _ T11.heap _
  rw [e11]
  exact ⟨_, rfl, rfl, N0, rfl⟩
theorem ef_20_40 (m : MethodId) (a1 : Addr) (p3 : Int32) : entryFrame m #[(.ref a1), (.int (0 : Int32)), (.int p3)] 3 = mkF m 0 #[.val (.ref a1), .val (.int (0 : Int32)), .val (.int p3)] [] := by first | (simp [entryFrame, mkF, argsToLocals, Value.category]; done) | rfl
set_option maxRecDepth 65536 in
set_option maxHeartbeats 40000000 in
theorem rm20_40 (l : Launch) (Z : State) (a0 : Array Value) (hw : ∀ d ∈ tables_1, d.before a0 Z = true) (ws : List Jvm.Cond) (a1 : Addr) (p3 : Int32) (k1 : ClassId) (x0 x1 x2 x3 : Int32) (h0 : Heap) (n0 : Nat) (Z0 : n0 ≤ h0.size) (V1 : Arv Z h0 a1 k1 .byte 4 [(.int x0), (.int x1), (.int x2), (.int x3)] (.int 0)) (g_a1 : n0 ≤ a1) (AD : Sta Z h0 "java/lang/StringUTF16" "$assertionsDisabled" "Z" (.int (1 : Int32))) (HB : Sta Z h0 "java/lang/StringUTF16" "HI_BYTE_SHIFT" "I" (.int (0 : Int32))) (LB : Sta Z h0 "java/lang/StringUTF16" "LO_BYTE_SHIFT" "I" (.int (8 : Int32))) :
    MetFree l (⟨"java/lang/StringUTF16", "putChar", "([BII)V"⟩ : MethodName) (head1 (Jvm.Cond.code (⟨"java/lang/StringUTF16", "putChar", "([BII)V"⟩ : MethodName) jdk_52_method_4_code 3 none :: ws) ({ frames := 0, cells := 0, slots := 0, locals := 0 } : Room)) (fun a U => a = #[(.ref a1), (.int (0 : Int32)), (.int p3)] ∧ Z.Warmed39 U.vm ∧ U.heap = h0) (fun _ _ _ _ _ => True) (fun _ U o U' => ∃ v L, o = .returned v ∧ own_QP Z a1 k1 4 [(.int (nar .byte ((p3 >>> ((0 : Int32) &&& 31)).toInt8.toInt32))), (.int (nar .byte ((p3 >>> ((8 : Int32) &&& 31)).toInt8.toInt32))), (.int x2), (.int x3)] h0 n0 v U'.heap L ∧ FrameEnd U o U' L ({ frames := 0, cells := 0, slots := 0, locals := 0 } : Room).cells ({ frames := 0, cells := 0, slots := 0, locals := 0 } : Room).slots) := by
  refine MetFree.of_bodySF (plainFor_of_name pn_20) hisR ?_
  intro p e s m args below meth c s₁ Bd hml0 hP hK
  obtain ⟨rfl, hZ, hh⟩ := hP
  have hx := Bd.exec
  have hby := Bd.bytes
  have hml : c.maxLocals = 3 := hml0
  have hown : s.vm.findClass "java/lang/StringUTF16" = some m.cls := findClass_of_methodNamed Bd.named
  have hnm := (name_of_methodNamed Bd.named Bd.method).1
  have X0 : Stand p l e ({ frames := 0, cells := 0, slots := 0, locals := 0 } : Room) s m #[(.ref a1), (.int (0 : Int32)), (.int p3)] below meth c s₁ [] 0 0 := Stand.of_body Bd
  have e0 : s₁.heap = h0 := by rw [← hh, Bd.state]; rfl
  have N0 := Fr.nil n0
  obtain ⟨S0, hS0⟩ : ∃ z, z = s₁.setTop (entryFrame m #[(.ref a1), (.int (0 : Int32)), (.int p3)] 3) := ⟨_, rfl⟩
  have P0 : own_Pr p.tables e below S0 s₁ (mkF m 0 #[.val (.ref a1), .val (.int (0 : Int32)), .val (.int p3)] []) := fun t k => hS0 ▸ castTop (ef_20_40 m a1 p3) k
  have K0 := Keep.refl h0 [a1]
  obtain ⟨T1, X1, e1, st1⟩ := getS2 X0 hx hZ hown (host := "") (Or.inl (hw _ (List.mem_of_getElem? (i := 86) rfl))) Via.refl e0 AD (g := (mkF m 0 #[.val (.ref a1), .val (.int (0 : Int32)), .val (.int p3)] [])) rfl (hb hby d20_0)
  have P2 : own_Pr p.tables e below S0 T1 (mkF m 3 #[.val (.ref a1), .val (.int (0 : Int32)), .val (.int p3)] [(.int (1 : Int32))]) := fun t k => P0 t (st1 _ k)
  have P3 : own_Pr p.tables e below S0 T1 (mkF m 38 #[.val (.ref a1), .val (.int (1 : Int32)), .val (.int p3)] [(.int p3), (.int (0 : Int32)), (.ref a1)]) := fun t k => P2 t (by
    refine XS.ifYes X1.here hx rfl (pc0 := 3) (pc' := 28) rfl (hb hby d20_3) rfl (by decide) (by decide) (by decide) ?_
    show Steps p.tables e below (T1.setTop (mkF m 28 #[.val (.ref a1), .val (.int (0 : Int32)), .val (.int p3)] [])) _
    refine XS.iloadN X1.here hx rfl (hb hby d20_28) rfl ?_
    show Steps p.tables e below (T1.setTop (mkF m 29 #[.val (.ref a1), .val (.int (0 : Int32)), .val (.int p3)] [(.int (0 : Int32))])) _
    refine XS.iconst X1.here hx rfl (hb hby d20_29) ?_
    show Steps p.tables e below (T1.setTop (mkF m 30 #[.val (.ref a1), .val (.int (0 : Int32)), .val (.int p3)] [(.int (1 : Int32)), (.int (0 : Int32))])) _
    refine XS.ishl X1.here hx rfl (hb hby d20_30) rfl ?_
    show Steps p.tables e below (T1.setTop (mkF m 31 #[.val (.ref a1), .val (.int (0 : Int32)), .val (.int p3)] [(.int (0 : Int32))])) _
    refine XS.istoreN X1.here hx rfl (hb hby d20_31) rfl (l' := #[.val (.ref a1), .val (.int (0 : Int32)), .val (.int p3)]) rfl ?_
    show Steps p.tables e below (T1.setTop (mkF m 32 #[.val (.ref a1), .val (.int (0 : Int32)), .val (.int p3)] [])) _
    refine XS.aloadN X1.here hx rfl (hb hby d20_32) rfl rfl ?_
    show Steps p.tables e below (T1.setTop (mkF m 33 #[.val (.ref a1), .val (.int (0 : Int32)), .val (.int p3)] [(.ref a1)])) _
    refine XS.iloadN X1.here hx rfl (hb hby d20_33) rfl ?_
    show Steps p.tables e below (T1.setTop (mkF m 34 #[.val (.ref a1), .val (.int (0 : Int32)), .val (.int p3)] [(.int (0 : Int32)), (.ref a1)])) _
    refine XS.iinc X1.here hx rfl (hb hby d20_34) rfl (l' := #[.val (.ref a1), .val (.int (1 : Int32)), .val (.int p3)]) rfl ?_
    show Steps p.tables e below (T1.setTop (mkF m 37 #[.val (.ref a1), .val (.int (1 : Int32)), .val (.int p3)] [(.int (0 : Int32)), (.ref a1)])) _
    refine XS.iloadN X1.here hx rfl (hb hby d20_37) rfl ?_
    show Steps p.tables e below (T1.setTop (mkF m 38 #[.val (.ref a1), .val (.int (1 : Int32)), .val (.int p3)] [(.int p3), (.int (0 : Int32)), (.ref a1)])) _
    exact k)
  obtain ⟨T4, X4, e4, st4⟩ := getS2 X1 hx hZ hown (host := "") (Or.inl (hw _ (List.mem_of_getElem? (i := 87) rfl))) Via.refl e1 HB (g := (mkF m 38 #[.val (.ref a1), .val (.int (1 : Int32)), .val (.int p3)] [(.int p3), (.int (0 : Int32)), (.ref a1)])) rfl (hb hby d20_38)
  have P5 : own_Pr p.tables e below S0 T4 (mkF m 41 #[.val (.ref a1), .val (.int (1 : Int32)), .val (.int p3)] [(.int (0 : Int32)), (.int p3), (.int (0 : Int32)), (.ref a1)]) := fun t k => P3 t (st4 _ k)
  have P6 : own_Pr p.tables e below S0 T4 (mkF m 43 #[.val (.ref a1), .val (.int (1 : Int32)), .val (.int p3)] [(.int ((p3 >>> ((0 : Int32) &&& 31)).toInt8.toInt32)), (.int (0 : Int32)), (.ref a1)]) := fun t k => P5 t (by
    refine XS.ishr X4.here hx rfl (hb hby d20_41) rfl ?_
    show Steps p.tables e below (T4.setTop (mkF m 42 #[.val (.ref a1), .val (.int (1 : Int32)), .val (.int p3)] [(.int (p3 >>> ((0 : Int32) &&& 31))), (.int (0 : Int32)), (.ref a1)])) _
    refine XS.i2b X4.here hx rfl (hb hby d20_42) rfl ?_
    show Steps p.tables e below (T4.setTop (mkF m 43 #[.val (.ref a1), .val (.int (1 : Int32)), .val (.int p3)] [(.int ((p3 >>> ((0 : Int32) &&& 31)).toInt8.toInt32)), (.int (0 : Int32)), (.ref a1)])) _
    exact k)
  obtain ⟨cl7, Ar7, q7, S7, N7, H7, G7⟩ := id V1
  have hin7 : ¬ ((0 : Int32) < 0 ∨ cl7.slots.size ≤ ((0 : Int32)).toNatClampNeg) := inb_of S7 ⟨by decide, by decide⟩
  obtain ⟨T7, h7, X7, e7, W7, st7⟩ := stB X4 hx hZ e4 Ar7 (j := (0 : Int32)) hin7 (g := (mkF m 43 #[.val (.ref a1), .val (.int (1 : Int32)), .val (.int p3)] [(.int ((p3 >>> ((0 : Int32) &&& 31)).toInt8.toInt32)), (.int (0 : Int32)), (.ref a1)])) rfl rfl (hb hby d20_43)
  have V7 : Arv Z h7 a1 k1 .byte (4 : Int32) [(.int (nar .byte ((p3 >>> ((0 : Int32) &&& 31)).toInt8.toInt32))), (.int x1), (.int x2), (.int x3)] (.int 0) := Arv.set Ar7 q7 S7 N7 H7 G7 (fits_nar_byte _) W7 0 rfl (Nat.le_of_ble_eq_true rfl)
  have F8 := AD.wr W7
  have F9 := HB.wr W7
  have F10 := LB.wr W7
  have Z11 : n0 ≤ h7.size := by rw [W7.size]; exact Z0
  have NF7 := Fr.snoc X7 N0 g_a1
  have K12 := K0.wr W7 (Or.inl (List.mem_of_getElem? (i := 0) rfl))
  have P13 : own_Pr p.tables e below S0 T7 (mkF m 44 #[.val (.ref a1), .val (.int (1 : Int32)), .val (.int p3)] []) := fun t k => P6 t (st7 _ k)
  have P14 : own_Pr p.tables e below S0 T7 (mkF m 47 #[.val (.ref a1), .val (.int (1 : Int32)), .val (.int p3)] [(.int p3), (.int (1 : Int32)), (.ref a1)]) := fun t k => P13 t (by
    refine XS.aloadN X7.here hx rfl (hb hby d20_44) rfl rfl ?_
    show Steps p.tables e below (T7.setTop (mkF m 45 #[.val (.ref a1), .val (.int (1 : Int32)), .val (.int p3)] [(.ref a1)])) _
    refine XS.iloadN X7.here hx rfl (hb hby d20_45) rfl ?_
    show Steps p.tables e below (T7.setTop (mkF m 46 #[.val (.ref a1), .val (.int (1 : Int32)), .val (.int p3)] [(.int (1 : Int32)), (.ref a1)])) _
    refine XS.iloadN X7.here hx rfl (hb hby d20_46) rfl ?_
    show Steps p.tables e below (T7.setTop (mkF m 47 #[.val (.ref a1), .val (.int (1 : Int32)), .val (.int p3)] [(.int p3), (.int (1 : Int32)), (.ref a1)])) _
    exact k)
  obtain ⟨T15, X15, e15, st15⟩ := getS2 X7 hx hZ hown (host := "") (Or.inl (hw _ (List.mem_of_getElem? (i := 88) rfl))) Via.refl e7 F10 (g := (mkF m 47 #[.val (.ref a1), .val (.int (1 : Int32)), .val (.int p3)] [(.int p3), (.int (1 : Int32)), (.ref a1)])) rfl (hb hby d20_47)
  have P16 : own_Pr p.tables e below S0 T15 (mkF m 50 #[.val (.ref a1), .val (.int (1 : Int32)), .val (.int p3)] [(.int (8 : Int32)), (.int p3), (.int (1 : Int32)), (.ref a1)]) := fun t k => P14 t (st15 _ k)
  have P17 : own_Pr p.tables e below S0 T15 (mkF m 52 #[.val (.ref a1), .val (.int (1 : Int32)), .val (.int p3)] [(.int ((p3 >>> ((8 : Int32) &&& 31)).toInt8.toInt32)), (.int (1 : Int32)), (.ref a1)]) := fun t k => P16 t (by
    refine XS.ishr X15.here hx rfl (hb hby d20_50) rfl ?_
    show Steps p.tables e below (T15.setTop (mkF m 51 #[.val (.ref a1), .val (.int (1 : Int32)), .val (.int p3)] [(.int (p3 >>> ((8 : Int32) &&& 31))), (.int (1 : Int32)), (.ref a1)])) _
    refine XS.i2b X15.here hx rfl (hb hby d20_51) rfl ?_
    show Steps p.tables e below (T15.setTop (mkF m 52 #[.val (.ref a1), .val (.int (1 : Int32)), .val (.int p3)] [(.int ((p3 >>> ((8 : Int32) &&& 31)).toInt8.toInt32)), (.int (1 : Int32)), (.ref a1)])) _
    exact k)
  obtain ⟨cl18, Ar18, q18, S18, N18, H18, G18⟩ := id V7
  have hin18 : ¬ ((1 : Int32) < 0 ∨ cl18.slots.size ≤ ((1 : Int32)).toNatClampNeg) := inb_of S18 ⟨by decide, by decide⟩
  obtain ⟨T18, h18, X18, e18, W18, st18⟩ := stB X15 hx hZ e15 Ar18 (j := (1 : Int32)) hin18 (g := (mkF m 52 #[.val (.ref a1), .val (.int (1 : Int32)), .val (.int p3)] [(.int ((p3 >>> ((8 : Int32) &&& 31)).toInt8.toInt32)), (.int (1 : Int32)), (.ref a1)])) rfl rfl (hb hby d20_52)
  have V18 : Arv Z h18 a1 k1 .byte (4 : Int32) [(.int (nar .byte ((p3 >>> ((0 : Int32) &&& 31)).toInt8.toInt32))), (.int (nar .byte ((p3 >>> ((8 : Int32) &&& 31)).toInt8.toInt32))), (.int x2), (.int x3)] (.int 0) := Arv.set Ar18 q18 S18 N18 H18 G18 (fits_nar_byte _) W18 1 rfl (Nat.le_of_ble_eq_true rfl)
  have F19 := F8.wr W18
  have F20 := F9.wr W18
  have F21 := F10.wr W18
  have Z22 : n0 ≤ h18.size := by rw [W18.size]; exact Z11
  have NF18 := Fr.snoc X18 NF7 g_a1
  have K23 := K12.wr W18 (Or.inl (List.mem_of_getElem? (i := 0) rfl))
  have P24 : own_Pr p.tables e below S0 T18 (mkF m 53 #[.val (.ref a1), .val (.int (1 : Int32)), .val (.int p3)] []) := fun t k => P17 t (st18 _ k)
  obtain ⟨fs, hr, hrun, hended, hW, hsame⟩ := X18.leave (v := none) (fun _ => rfl)
  have fin : Steps p.tables e below S0 (T18.setFrames fs) := P24 _ (X18.returnOut hx Bd.returns (hb hby d20_53) hr)
  rw [hS0] at fin
  refine ⟨_, _, fin, hrun, hended, _, _, rfl, ?_, ⟨_, rfl⟩, hW, hsame.mono (by decide) (by decide)⟩
  show own_QP Z a1 k1 4 [(.int (nar .byte ((p3 >>> ((0 : Int32) &&& 31)).toInt8.toInt32))), (.int (nar .byte ((p3 >>> ((8 : Int32) &&& 31)).toInt8.toInt32))), (.int x2), (.int x3)] h0 n0 _ T18.heap _
  rw [e18]
  exact ⟨rfl, NF18, K23, V18⟩
theorem ef_26_40 (m : MethodId) (a1 : Addr) : entryFrame m #[(.ref a1), (.int (0 : Int32))] 2 = mkF m 0 #[.val (.ref a1), .val (.int (0 : Int32))] [] := by first | (simp [entryFrame, mkF, argsToLocals, Value.category]; done) | rfl
set_option maxRecDepth 65536 in
set_option maxHeartbeats 40000000 in
theorem rm26_40 (l : Launch) (Z : State) (a0 : Array Value) (hw : ∀ d ∈ tables_1, d.before a0 Z = true) (ws : List Jvm.Cond) (a1 : Addr) (k1 : ClassId) (x0 x1 x2 x3 : Int32) (h0 : Heap) (n0 : Nat) (Z0 : n0 ≤ h0.size) (V1 : Arv Z h0 a1 k1 .byte 4 [(.int x0), (.int x1), (.int x2), (.int x3)] (.int 0)) (AD : Sta Z h0 "java/lang/StringUTF16" "$assertionsDisabled" "Z" (.int (1 : Int32))) (HB : Sta Z h0 "java/lang/StringUTF16" "HI_BYTE_SHIFT" "I" (.int (0 : Int32))) (LB : Sta Z h0 "java/lang/StringUTF16" "LO_BYTE_SHIFT" "I" (.int (8 : Int32))) :
    MetFree l (⟨"java/lang/StringUTF16", "getChar", "([BI)C"⟩ : MethodName) (head1 (Jvm.Cond.code (⟨"java/lang/StringUTF16", "getChar", "([BI)C"⟩ : MethodName) jdk_52_method_5_code 2 (some .char) :: ws) ({ frames := 0, cells := 0, slots := 0, locals := 0 } : Room)) (fun a U => a = #[(.ref a1), (.int (0 : Int32))] ∧ Z.Warmed39 U.vm ∧ U.heap = h0) (fun _ _ _ _ _ => True) (fun _ U o U' => ∃ v L, o = .returned v ∧ own_QI h0 n0 (own_gc x0 x1) v U'.heap L ∧ FrameEnd U o U' L ({ frames := 0, cells := 0, slots := 0, locals := 0 } : Room).cells ({ frames := 0, cells := 0, slots := 0, locals := 0 } : Room).slots) := by
  refine MetFree.of_bodySF (plainFor_of_name pn_20) hisR ?_
  intro p e s m args below meth c s₁ Bd hml0 hP hK
  obtain ⟨rfl, hZ, hh⟩ := hP
  have hx := Bd.exec
  have hby := Bd.bytes
  have hml : c.maxLocals = 2 := hml0
  have hown : s.vm.findClass "java/lang/StringUTF16" = some m.cls := findClass_of_methodNamed Bd.named
  have hnm := (name_of_methodNamed Bd.named Bd.method).1
  have X0 : Stand p l e ({ frames := 0, cells := 0, slots := 0, locals := 0 } : Room) s m #[(.ref a1), (.int (0 : Int32))] below meth c s₁ [] 0 0 := Stand.of_body Bd
  have e0 : s₁.heap = h0 := by rw [← hh, Bd.state]; rfl
  have N0 := Fr.nil n0
  obtain ⟨S0, hS0⟩ : ∃ z, z = s₁.setTop (entryFrame m #[(.ref a1), (.int (0 : Int32))] 2) := ⟨_, rfl⟩
  have P0 : own_Pr p.tables e below S0 s₁ (mkF m 0 #[.val (.ref a1), .val (.int (0 : Int32))] []) := fun t k => hS0 ▸ castTop (ef_26_40 m a1) k
  obtain ⟨T1, X1, e1, st1⟩ := getS2 X0 hx hZ hown (host := "") (Or.inl (hw _ (List.mem_of_getElem? (i := 86) rfl))) Via.refl e0 AD (g := (mkF m 0 #[.val (.ref a1), .val (.int (0 : Int32))] [])) rfl (hb hby d26_0)
  have P2 : own_Pr p.tables e below S0 T1 (mkF m 3 #[.val (.ref a1), .val (.int (0 : Int32))] [(.int (1 : Int32))]) := fun t k => P0 t (st1 _ k)
  have P3 : own_Pr p.tables e below S0 T1 (mkF m 37 #[.val (.ref a1), .val (.int (1 : Int32))] [(.int (0 : Int32)), (.ref a1)]) := fun t k => P2 t (by
    refine XS.ifYes X1.here hx rfl (pc0 := 3) (pc' := 28) rfl (hb hby d26_3) rfl (by decide) (by decide) (by decide) ?_
    show Steps p.tables e below (T1.setTop (mkF m 28 #[.val (.ref a1), .val (.int (0 : Int32))] [])) _
    refine XS.iloadN X1.here hx rfl (hb hby d26_28) rfl ?_
    show Steps p.tables e below (T1.setTop (mkF m 29 #[.val (.ref a1), .val (.int (0 : Int32))] [(.int (0 : Int32))])) _
    refine XS.iconst X1.here hx rfl (hb hby d26_29) ?_
    show Steps p.tables e below (T1.setTop (mkF m 30 #[.val (.ref a1), .val (.int (0 : Int32))] [(.int (1 : Int32)), (.int (0 : Int32))])) _
    refine XS.ishl X1.here hx rfl (hb hby d26_30) rfl ?_
    show Steps p.tables e below (T1.setTop (mkF m 31 #[.val (.ref a1), .val (.int (0 : Int32))] [(.int (0 : Int32))])) _
    refine XS.istoreN X1.here hx rfl (hb hby d26_31) rfl (l' := #[.val (.ref a1), .val (.int (0 : Int32))]) rfl ?_
    show Steps p.tables e below (T1.setTop (mkF m 32 #[.val (.ref a1), .val (.int (0 : Int32))] [])) _
    refine XS.aloadN X1.here hx rfl (hb hby d26_32) rfl rfl ?_
    show Steps p.tables e below (T1.setTop (mkF m 33 #[.val (.ref a1), .val (.int (0 : Int32))] [(.ref a1)])) _
    refine XS.iloadN X1.here hx rfl (hb hby d26_33) rfl ?_
    show Steps p.tables e below (T1.setTop (mkF m 34 #[.val (.ref a1), .val (.int (0 : Int32))] [(.int (0 : Int32)), (.ref a1)])) _
    refine XS.iinc X1.here hx rfl (hb hby d26_34) rfl (l' := #[.val (.ref a1), .val (.int (1 : Int32))]) rfl ?_
    show Steps p.tables e below (T1.setTop (mkF m 37 #[.val (.ref a1), .val (.int (1 : Int32))] [(.int (0 : Int32)), (.ref a1)])) _
    exact k)
  obtain ⟨cl4, Ar4, q4, S4, N4, H4, G4⟩ := id V1
  have hin4 : ¬ ((0 : Int32) < 0 ∨ cl4.slots.size ≤ ((0 : Int32)).toNatClampNeg) := inb_of S4 ⟨by decide, by decide⟩
  have P5 : own_Pr p.tables e below S0 T1 (mkF m 42 #[.val (.ref a1), .val (.int (1 : Int32))] [(.int (x0 &&& (255 : Int32)))]) := fun t k => P3 t (by
    refine X1.baloadBytes hx (j := (0 : Int32)) (v := (.int x0)) (by rw [e1]; exact Ar4.1) (State.isArrayOf_alike hZ.alike Ar4.2.1) Ar4.2.2 hin4 (H4.at hin4 rfl) (g := (mkF m 37 #[.val (.ref a1), .val (.int (1 : Int32))] [(.int (0 : Int32)), (.ref a1)])) rfl rfl (hb hby d26_37) _ ?_
    show Steps p.tables e below (T1.setTop (mkF m 38 #[.val (.ref a1), .val (.int (1 : Int32))] [(.int x0)])) _
    refine XS.sipush X1.here hx rfl (hb hby d26_38) ?_
    show Steps p.tables e below (T1.setTop (mkF m 41 #[.val (.ref a1), .val (.int (1 : Int32))] [(.int (255 : Int32)), (.int x0)])) _
    refine XS.iand X1.here hx rfl (hb hby d26_41) rfl ?_
    show Steps p.tables e below (T1.setTop (mkF m 42 #[.val (.ref a1), .val (.int (1 : Int32))] [(.int (x0 &&& (255 : Int32)))])) _
    exact k)
  obtain ⟨T6, X6, e6, st6⟩ := getS2 X1 hx hZ hown (host := "") (Or.inl (hw _ (List.mem_of_getElem? (i := 87) rfl))) Via.refl e1 HB (g := (mkF m 42 #[.val (.ref a1), .val (.int (1 : Int32))] [(.int (x0 &&& (255 : Int32)))])) rfl (hb hby d26_42)
  have P7 : own_Pr p.tables e below S0 T6 (mkF m 45 #[.val (.ref a1), .val (.int (1 : Int32))] [(.int (0 : Int32)), (.int (x0 &&& (255 : Int32)))]) := fun t k => P5 t (st6 _ k)
  have P8 : own_Pr p.tables e below S0 T6 (mkF m 48 #[.val (.ref a1), .val (.int (1 : Int32))] [(.int (1 : Int32)), (.ref a1), (.int ((x0 &&& (255 : Int32)) <<< ((0 : Int32) &&& 31)))]) := fun t k => P7 t (by
    refine XS.ishl X6.here hx rfl (hb hby d26_45) rfl ?_
    show Steps p.tables e below (T6.setTop (mkF m 46 #[.val (.ref a1), .val (.int (1 : Int32))] [(.int ((x0 &&& (255 : Int32)) <<< ((0 : Int32) &&& 31)))])) _
    refine XS.aloadN X6.here hx rfl (hb hby d26_46) rfl rfl ?_
    show Steps p.tables e below (T6.setTop (mkF m 47 #[.val (.ref a1), .val (.int (1 : Int32))] [(.ref a1), (.int ((x0 &&& (255 : Int32)) <<< ((0 : Int32) &&& 31)))])) _
    refine XS.iloadN X6.here hx rfl (hb hby d26_47) rfl ?_
    show Steps p.tables e below (T6.setTop (mkF m 48 #[.val (.ref a1), .val (.int (1 : Int32))] [(.int (1 : Int32)), (.ref a1), (.int ((x0 &&& (255 : Int32)) <<< ((0 : Int32) &&& 31)))])) _
    exact k)
  obtain ⟨cl9, Ar9, q9, S9, N9, H9, G9⟩ := id V1
  have hin9 : ¬ ((1 : Int32) < 0 ∨ cl9.slots.size ≤ ((1 : Int32)).toNatClampNeg) := inb_of S9 ⟨by decide, by decide⟩
  have P10 : own_Pr p.tables e below S0 T6 (mkF m 53 #[.val (.ref a1), .val (.int (1 : Int32))] [(.int (x1 &&& (255 : Int32))), (.int ((x0 &&& (255 : Int32)) <<< ((0 : Int32) &&& 31)))]) := fun t k => P8 t (by
    refine X6.baloadBytes hx (j := (1 : Int32)) (v := (.int x1)) (by rw [e6]; exact Ar9.1) (State.isArrayOf_alike hZ.alike Ar9.2.1) Ar9.2.2 hin9 (H9.at hin9 rfl) (g := (mkF m 48 #[.val (.ref a1), .val (.int (1 : Int32))] [(.int (1 : Int32)), (.ref a1), (.int ((x0 &&& (255 : Int32)) <<< ((0 : Int32) &&& 31)))])) rfl rfl (hb hby d26_48) _ ?_
    show Steps p.tables e below (T6.setTop (mkF m 49 #[.val (.ref a1), .val (.int (1 : Int32))] [(.int x1), (.int ((x0 &&& (255 : Int32)) <<< ((0 : Int32) &&& 31)))])) _
    refine XS.sipush X6.here hx rfl (hb hby d26_49) ?_
    show Steps p.tables e below (T6.setTop (mkF m 52 #[.val (.ref a1), .val (.int (1 : Int32))] [(.int (255 : Int32)), (.int x1), (.int ((x0 &&& (255 : Int32)) <<< ((0 : Int32) &&& 31)))])) _
    refine XS.iand X6.here hx rfl (hb hby d26_52) rfl ?_
    show Steps p.tables e below (T6.setTop (mkF m 53 #[.val (.ref a1), .val (.int (1 : Int32))] [(.int (x1 &&& (255 : Int32))), (.int ((x0 &&& (255 : Int32)) <<< ((0 : Int32) &&& 31)))])) _
    exact k)
  obtain ⟨T11, X11, e11, st11⟩ := getS2 X6 hx hZ hown (host := "") (Or.inl (hw _ (List.mem_of_getElem? (i := 88) rfl))) Via.refl e6 LB (g := (mkF m 53 #[.val (.ref a1), .val (.int (1 : Int32))] [(.int (x1 &&& (255 : Int32))), (.int ((x0 &&& (255 : Int32)) <<< ((0 : Int32) &&& 31)))])) rfl (hb hby d26_53)
  have P12 : own_Pr p.tables e below S0 T11 (mkF m 56 #[.val (.ref a1), .val (.int (1 : Int32))] [(.int (8 : Int32)), (.int (x1 &&& (255 : Int32))), (.int ((x0 &&& (255 : Int32)) <<< ((0 : Int32) &&& 31)))]) := fun t k => P10 t (st11 _ k)
  have P13 : own_Pr p.tables e below S0 T11 (mkF m 59 #[.val (.ref a1), .val (.int (1 : Int32))] [(.int ((((x0 &&& (255 : Int32)) <<< ((0 : Int32) &&& 31)) ||| ((x1 &&& (255 : Int32)) <<< ((8 : Int32) &&& 31))).toUInt32.toUInt16.toUInt32.toInt32))]) := fun t k => P12 t (by
    refine XS.ishl X11.here hx rfl (hb hby d26_56) rfl ?_
    show Steps p.tables e below (T11.setTop (mkF m 57 #[.val (.ref a1), .val (.int (1 : Int32))] [(.int ((x1 &&& (255 : Int32)) <<< ((8 : Int32) &&& 31))), (.int ((x0 &&& (255 : Int32)) <<< ((0 : Int32) &&& 31)))])) _
    refine XS.ior X11.here hx rfl (hb hby d26_57) rfl ?_
    show Steps p.tables e below (T11.setTop (mkF m 58 #[.val (.ref a1), .val (.int (1 : Int32))] [(.int (((x0 &&& (255 : Int32)) <<< ((0 : Int32) &&& 31)) ||| ((x1 &&& (255 : Int32)) <<< ((8 : Int32) &&& 31))))])) _
    refine XS.i2c X11.here hx rfl (hb hby d26_58) rfl ?_
    show Steps p.tables e below (T11.setTop (mkF m 59 #[.val (.ref a1), .val (.int (1 : Int32))] [(.int ((((x0 &&& (255 : Int32)) <<< ((0 : Int32) &&& 31)) ||| ((x1 &&& (255 : Int32)) <<< ((8 : Int32) &&& 31))).toUInt32.toUInt16.toUInt32.toInt32))])) _
    exact k)
  obtain ⟨fs, hr, hrun, hended, hW, hsame⟩ := X11.leave (v := some (.int ((((x0 &&& (255 : Int32)) <<< ((0 : Int32) &&& 31)) ||| ((x1 &&& (255 : Int32)) <<< ((8 : Int32) &&& 31))).toUInt32.toUInt16.toUInt32.toInt32))) (fun h => by rw [Bd.returns] at h; cases h)
  have fin : Steps p.tables e below S0 (T11.setFrames fs) := P13 _ (retN X11 hx (t := .char) Bd.returns (by simp) (hb hby d26_59) (by rw [(own_narC _)]; exact hr))
  rw [hS0] at fin
  refine ⟨_, _, fin, hrun, hended, _, _, rfl, ?_, ⟨_, rfl⟩, hW, hsame.mono (by decide) (by decide)⟩
  show own_QI h0 n0 (own_gc x0 x1) _ T11.heap _
  rw [e11]
  exact ⟨_, rfl, rfl, N0, rfl⟩
theorem ef_20_41 (m : MethodId) (a1 : Addr) (p3 : Int32) : entryFrame m #[(.ref a1), (.int (1 : Int32)), (.int p3)] 3 = mkF m 0 #[.val (.ref a1), .val (.int (1 : Int32)), .val (.int p3)] [] := by first | (simp [entryFrame, mkF, argsToLocals, Value.category]; done) | rfl
set_option maxRecDepth 65536 in
set_option maxHeartbeats 40000000 in
theorem rm20_41 (l : Launch) (Z : State) (a0 : Array Value) (hw : ∀ d ∈ tables_1, d.before a0 Z = true) (ws : List Jvm.Cond) (a1 : Addr) (p3 : Int32) (k1 : ClassId) (x0 x1 x2 x3 : Int32) (h0 : Heap) (n0 : Nat) (Z0 : n0 ≤ h0.size) (V1 : Arv Z h0 a1 k1 .byte 4 [(.int x0), (.int x1), (.int x2), (.int x3)] (.int 0)) (g_a1 : n0 ≤ a1) (AD : Sta Z h0 "java/lang/StringUTF16" "$assertionsDisabled" "Z" (.int (1 : Int32))) (HB : Sta Z h0 "java/lang/StringUTF16" "HI_BYTE_SHIFT" "I" (.int (0 : Int32))) (LB : Sta Z h0 "java/lang/StringUTF16" "LO_BYTE_SHIFT" "I" (.int (8 : Int32))) :
    MetFree l (⟨"java/lang/StringUTF16", "putChar", "([BII)V"⟩ : MethodName) (head1 (Jvm.Cond.code (⟨"java/lang/StringUTF16", "putChar", "([BII)V"⟩ : MethodName) jdk_52_method_4_code 3 none :: ws) ({ frames := 0, cells := 0, slots := 0, locals := 0 } : Room)) (fun a U => a = #[(.ref a1), (.int (1 : Int32)), (.int p3)] ∧ Z.Warmed39 U.vm ∧ U.heap = h0) (fun _ _ _ _ _ => True) (fun _ U o U' => ∃ v L, o = .returned v ∧ own_QP Z a1 k1 4 [(.int x0), (.int x1), (.int (nar .byte ((p3 >>> ((0 : Int32) &&& 31)).toInt8.toInt32))), (.int (nar .byte ((p3 >>> ((8 : Int32) &&& 31)).toInt8.toInt32)))] h0 n0 v U'.heap L ∧ FrameEnd U o U' L ({ frames := 0, cells := 0, slots := 0, locals := 0 } : Room).cells ({ frames := 0, cells := 0, slots := 0, locals := 0 } : Room).slots) := by
  refine MetFree.of_bodySF (plainFor_of_name pn_20) hisR ?_
  intro p e s m args below meth c s₁ Bd hml0 hP hK
  obtain ⟨rfl, hZ, hh⟩ := hP
  have hx := Bd.exec
  have hby := Bd.bytes
  have hml : c.maxLocals = 3 := hml0
  have hown : s.vm.findClass "java/lang/StringUTF16" = some m.cls := findClass_of_methodNamed Bd.named
  have hnm := (name_of_methodNamed Bd.named Bd.method).1
  have X0 : Stand p l e ({ frames := 0, cells := 0, slots := 0, locals := 0 } : Room) s m #[(.ref a1), (.int (1 : Int32)), (.int p3)] below meth c s₁ [] 0 0 := Stand.of_body Bd
  have e0 : s₁.heap = h0 := by rw [← hh, Bd.state]; rfl
  have N0 := Fr.nil n0
  obtain ⟨S0, hS0⟩ : ∃ z, z = s₁.setTop (entryFrame m #[(.ref a1), (.int (1 : Int32)), (.int p3)] 3) := ⟨_, rfl⟩
  have P0 : own_Pr p.tables e below S0 s₁ (mkF m 0 #[.val (.ref a1), .val (.int (1 : Int32)), .val (.int p3)] []) := fun t k => hS0 ▸ castTop (ef_20_41 m a1 p3) k
  have K0 := Keep.refl h0 [a1]
  obtain ⟨T1, X1, e1, st1⟩ := getS2 X0 hx hZ hown (host := "") (Or.inl (hw _ (List.mem_of_getElem? (i := 86) rfl))) Via.refl e0 AD (g := (mkF m 0 #[.val (.ref a1), .val (.int (1 : Int32)), .val (.int p3)] [])) rfl (hb hby d20_0)
  have P2 : own_Pr p.tables e below S0 T1 (mkF m 3 #[.val (.ref a1), .val (.int (1 : Int32)), .val (.int p3)] [(.int (1 : Int32))]) := fun t k => P0 t (st1 _ k)
  have P3 : own_Pr p.tables e below S0 T1 (mkF m 38 #[.val (.ref a1), .val (.int (3 : Int32)), .val (.int p3)] [(.int p3), (.int (2 : Int32)), (.ref a1)]) := fun t k => P2 t (by
    refine XS.ifYes X1.here hx rfl (pc0 := 3) (pc' := 28) rfl (hb hby d20_3) rfl (by decide) (by decide) (by decide) ?_
    show Steps p.tables e below (T1.setTop (mkF m 28 #[.val (.ref a1), .val (.int (1 : Int32)), .val (.int p3)] [])) _
    refine XS.iloadN X1.here hx rfl (hb hby d20_28) rfl ?_
    show Steps p.tables e below (T1.setTop (mkF m 29 #[.val (.ref a1), .val (.int (1 : Int32)), .val (.int p3)] [(.int (1 : Int32))])) _
    refine XS.iconst X1.here hx rfl (hb hby d20_29) ?_
    show Steps p.tables e below (T1.setTop (mkF m 30 #[.val (.ref a1), .val (.int (1 : Int32)), .val (.int p3)] [(.int (1 : Int32)), (.int (1 : Int32))])) _
    refine XS.ishl X1.here hx rfl (hb hby d20_30) rfl ?_
    show Steps p.tables e below (T1.setTop (mkF m 31 #[.val (.ref a1), .val (.int (1 : Int32)), .val (.int p3)] [(.int (2 : Int32))])) _
    refine XS.istoreN X1.here hx rfl (hb hby d20_31) rfl (l' := #[.val (.ref a1), .val (.int (2 : Int32)), .val (.int p3)]) rfl ?_
    show Steps p.tables e below (T1.setTop (mkF m 32 #[.val (.ref a1), .val (.int (2 : Int32)), .val (.int p3)] [])) _
    refine XS.aloadN X1.here hx rfl (hb hby d20_32) rfl rfl ?_
    show Steps p.tables e below (T1.setTop (mkF m 33 #[.val (.ref a1), .val (.int (2 : Int32)), .val (.int p3)] [(.ref a1)])) _
    refine XS.iloadN X1.here hx rfl (hb hby d20_33) rfl ?_
    show Steps p.tables e below (T1.setTop (mkF m 34 #[.val (.ref a1), .val (.int (2 : Int32)), .val (.int p3)] [(.int (2 : Int32)), (.ref a1)])) _
    refine XS.iinc X1.here hx rfl (hb hby d20_34) rfl (l' := #[.val (.ref a1), .val (.int (3 : Int32)), .val (.int p3)]) rfl ?_
    show Steps p.tables e below (T1.setTop (mkF m 37 #[.val (.ref a1), .val (.int (3 : Int32)), .val (.int p3)] [(.int (2 : Int32)), (.ref a1)])) _
    refine XS.iloadN X1.here hx rfl (hb hby d20_37) rfl ?_
    show Steps p.tables e below (T1.setTop (mkF m 38 #[.val (.ref a1), .val (.int (3 : Int32)), .val (.int p3)] [(.int p3), (.int (2 : Int32)), (.ref a1)])) _
    exact k)
  obtain ⟨T4, X4, e4, st4⟩ := getS2 X1 hx hZ hown (host := "") (Or.inl (hw _ (List.mem_of_getElem? (i := 87) rfl))) Via.refl e1 HB (g := (mkF m 38 #[.val (.ref a1), .val (.int (3 : Int32)), .val (.int p3)] [(.int p3), (.int (2 : Int32)), (.ref a1)])) rfl (hb hby d20_38)
  have P5 : own_Pr p.tables e below S0 T4 (mkF m 41 #[.val (.ref a1), .val (.int (3 : Int32)), .val (.int p3)] [(.int (0 : Int32)), (.int p3), (.int (2 : Int32)), (.ref a1)]) := fun t k => P3 t (st4 _ k)
  have P6 : own_Pr p.tables e below S0 T4 (mkF m 43 #[.val (.ref a1), .val (.int (3 : Int32)), .val (.int p3)] [(.int ((p3 >>> ((0 : Int32) &&& 31)).toInt8.toInt32)), (.int (2 : Int32)), (.ref a1)]) := fun t k => P5 t (by
    refine XS.ishr X4.here hx rfl (hb hby d20_41) rfl ?_
    show Steps p.tables e below (T4.setTop (mkF m 42 #[.val (.ref a1), .val (.int (3 : Int32)), .val (.int p3)] [(.int (p3 >>> ((0 : Int32) &&& 31))), (.int (2 : Int32)), (.ref a1)])) _
    refine XS.i2b X4.here hx rfl (hb hby d20_42) rfl ?_
    show Steps p.tables e below (T4.setTop (mkF m 43 #[.val (.ref a1), .val (.int (3 : Int32)), .val (.int p3)] [(.int ((p3 >>> ((0 : Int32) &&& 31)).toInt8.toInt32)), (.int (2 : Int32)), (.ref a1)])) _
    exact k)
  obtain ⟨cl7, Ar7, q7, S7, N7, H7, G7⟩ := id V1
  have hin7 : ¬ ((2 : Int32) < 0 ∨ cl7.slots.size ≤ ((2 : Int32)).toNatClampNeg) := inb_of S7 ⟨by decide, by decide⟩
  obtain ⟨T7, h7, X7, e7, W7, st7⟩ := stB X4 hx hZ e4 Ar7 (j := (2 : Int32)) hin7 (g := (mkF m 43 #[.val (.ref a1), .val (.int (3 : Int32)), .val (.int p3)] [(.int ((p3 >>> ((0 : Int32) &&& 31)).toInt8.toInt32)), (.int (2 : Int32)), (.ref a1)])) rfl rfl (hb hby d20_43)
  have V7 : Arv Z h7 a1 k1 .byte (4 : Int32) [(.int x0), (.int x1), (.int (nar .byte ((p3 >>> ((0 : Int32) &&& 31)).toInt8.toInt32))), (.int x3)] (.int 0) := Arv.set Ar7 q7 S7 N7 H7 G7 (fits_nar_byte _) W7 2 rfl (Nat.le_of_ble_eq_true rfl)
  have F8 := AD.wr W7
  have F9 := HB.wr W7
  have F10 := LB.wr W7
  have Z11 : n0 ≤ h7.size := by rw [W7.size]; exact Z0
  have NF7 := Fr.snoc X7 N0 g_a1
  have K12 := K0.wr W7 (Or.inl (List.mem_of_getElem? (i := 0) rfl))
  have P13 : own_Pr p.tables e below S0 T7 (mkF m 44 #[.val (.ref a1), .val (.int (3 : Int32)), .val (.int p3)] []) := fun t k => P6 t (st7 _ k)
  have P14 : own_Pr p.tables e below S0 T7 (mkF m 47 #[.val (.ref a1), .val (.int (3 : Int32)), .val (.int p3)] [(.int p3), (.int (3 : Int32)), (.ref a1)]) := fun t k => P13 t (by
    refine XS.aloadN X7.here hx rfl (hb hby d20_44) rfl rfl ?_
    show Steps p.tables e below (T7.setTop (mkF m 45 #[.val (.ref a1), .val (.int (3 : Int32)), .val (.int p3)] [(.ref a1)])) _
    refine XS.iloadN X7.here hx rfl (hb hby d20_45) rfl ?_
    show Steps p.tables e below (T7.setTop (mkF m 46 #[.val (.ref a1), .val (.int (3 : Int32)), .val (.int p3)] [(.int (3 : Int32)), (.ref a1)])) _
    refine XS.iloadN X7.here hx rfl (hb hby d20_46) rfl ?_
    show Steps p.tables e below (T7.setTop (mkF m 47 #[.val (.ref a1), .val (.int (3 : Int32)), .val (.int p3)] [(.int p3), (.int (3 : Int32)), (.ref a1)])) _
    exact k)
  obtain ⟨T15, X15, e15, st15⟩ := getS2 X7 hx hZ hown (host := "") (Or.inl (hw _ (List.mem_of_getElem? (i := 88) rfl))) Via.refl e7 F10 (g := (mkF m 47 #[.val (.ref a1), .val (.int (3 : Int32)), .val (.int p3)] [(.int p3), (.int (3 : Int32)), (.ref a1)])) rfl (hb hby d20_47)
  have P16 : own_Pr p.tables e below S0 T15 (mkF m 50 #[.val (.ref a1), .val (.int (3 : Int32)), .val (.int p3)] [(.int (8 : Int32)), (.int p3), (.int (3 : Int32)), (.ref a1)]) := fun t k => P14 t (st15 _ k)
  have P17 : own_Pr p.tables e below S0 T15 (mkF m 52 #[.val (.ref a1), .val (.int (3 : Int32)), .val (.int p3)] [(.int ((p3 >>> ((8 : Int32) &&& 31)).toInt8.toInt32)), (.int (3 : Int32)), (.ref a1)]) := fun t k => P16 t (by
    refine XS.ishr X15.here hx rfl (hb hby d20_50) rfl ?_
    show Steps p.tables e below (T15.setTop (mkF m 51 #[.val (.ref a1), .val (.int (3 : Int32)), .val (.int p3)] [(.int (p3 >>> ((8 : Int32) &&& 31))), (.int (3 : Int32)), (.ref a1)])) _
    refine XS.i2b X15.here hx rfl (hb hby d20_51) rfl ?_
    show Steps p.tables e below (T15.setTop (mkF m 52 #[.val (.ref a1), .val (.int (3 : Int32)), .val (.int p3)] [(.int ((p3 >>> ((8 : Int32) &&& 31)).toInt8.toInt32)), (.int (3 : Int32)), (.ref a1)])) _
    exact k)
  obtain ⟨cl18, Ar18, q18, S18, N18, H18, G18⟩ := id V7
  have hin18 : ¬ ((3 : Int32) < 0 ∨ cl18.slots.size ≤ ((3 : Int32)).toNatClampNeg) := inb_of S18 ⟨by decide, by decide⟩
  obtain ⟨T18, h18, X18, e18, W18, st18⟩ := stB X15 hx hZ e15 Ar18 (j := (3 : Int32)) hin18 (g := (mkF m 52 #[.val (.ref a1), .val (.int (3 : Int32)), .val (.int p3)] [(.int ((p3 >>> ((8 : Int32) &&& 31)).toInt8.toInt32)), (.int (3 : Int32)), (.ref a1)])) rfl rfl (hb hby d20_52)
  have V18 : Arv Z h18 a1 k1 .byte (4 : Int32) [(.int x0), (.int x1), (.int (nar .byte ((p3 >>> ((0 : Int32) &&& 31)).toInt8.toInt32))), (.int (nar .byte ((p3 >>> ((8 : Int32) &&& 31)).toInt8.toInt32)))] (.int 0) := Arv.set Ar18 q18 S18 N18 H18 G18 (fits_nar_byte _) W18 3 rfl (Nat.le_of_ble_eq_true rfl)
  have F19 := F8.wr W18
  have F20 := F9.wr W18
  have F21 := F10.wr W18
  have Z22 : n0 ≤ h18.size := by rw [W18.size]; exact Z11
  have NF18 := Fr.snoc X18 NF7 g_a1
  have K23 := K12.wr W18 (Or.inl (List.mem_of_getElem? (i := 0) rfl))
  have P24 : own_Pr p.tables e below S0 T18 (mkF m 53 #[.val (.ref a1), .val (.int (3 : Int32)), .val (.int p3)] []) := fun t k => P17 t (st18 _ k)
  obtain ⟨fs, hr, hrun, hended, hW, hsame⟩ := X18.leave (v := none) (fun _ => rfl)
  have fin : Steps p.tables e below S0 (T18.setFrames fs) := P24 _ (X18.returnOut hx Bd.returns (hb hby d20_53) hr)
  rw [hS0] at fin
  refine ⟨_, _, fin, hrun, hended, _, _, rfl, ?_, ⟨_, rfl⟩, hW, hsame.mono (by decide) (by decide)⟩
  show own_QP Z a1 k1 4 [(.int x0), (.int x1), (.int (nar .byte ((p3 >>> ((0 : Int32) &&& 31)).toInt8.toInt32))), (.int (nar .byte ((p3 >>> ((8 : Int32) &&& 31)).toInt8.toInt32)))] h0 n0 _ T18.heap _
  rw [e18]
  exact ⟨rfl, NF18, K23, V18⟩
theorem ef_26_41 (m : MethodId) (a1 : Addr) : entryFrame m #[(.ref a1), (.int (1 : Int32))] 2 = mkF m 0 #[.val (.ref a1), .val (.int (1 : Int32))] [] := by first | (simp [entryFrame, mkF, argsToLocals, Value.category]; done) | rfl
set_option maxRecDepth 65536 in
set_option maxHeartbeats 40000000 in
theorem rm26_41 (l : Launch) (Z : State) (a0 : Array Value) (hw : ∀ d ∈ tables_1, d.before a0 Z = true) (ws : List Jvm.Cond) (a1 : Addr) (k1 : ClassId) (x0 x1 x2 x3 : Int32) (h0 : Heap) (n0 : Nat) (Z0 : n0 ≤ h0.size) (V1 : Arv Z h0 a1 k1 .byte 4 [(.int x0), (.int x1), (.int x2), (.int x3)] (.int 0)) (AD : Sta Z h0 "java/lang/StringUTF16" "$assertionsDisabled" "Z" (.int (1 : Int32))) (HB : Sta Z h0 "java/lang/StringUTF16" "HI_BYTE_SHIFT" "I" (.int (0 : Int32))) (LB : Sta Z h0 "java/lang/StringUTF16" "LO_BYTE_SHIFT" "I" (.int (8 : Int32))) :
    MetFree l (⟨"java/lang/StringUTF16", "getChar", "([BI)C"⟩ : MethodName) (head1 (Jvm.Cond.code (⟨"java/lang/StringUTF16", "getChar", "([BI)C"⟩ : MethodName) jdk_52_method_5_code 2 (some .char) :: ws) ({ frames := 0, cells := 0, slots := 0, locals := 0 } : Room)) (fun a U => a = #[(.ref a1), (.int (1 : Int32))] ∧ Z.Warmed39 U.vm ∧ U.heap = h0) (fun _ _ _ _ _ => True) (fun _ U o U' => ∃ v L, o = .returned v ∧ own_QI h0 n0 (own_gc x2 x3) v U'.heap L ∧ FrameEnd U o U' L ({ frames := 0, cells := 0, slots := 0, locals := 0 } : Room).cells ({ frames := 0, cells := 0, slots := 0, locals := 0 } : Room).slots) := by
  refine MetFree.of_bodySF (plainFor_of_name pn_20) hisR ?_
  intro p e s m args below meth c s₁ Bd hml0 hP hK
  obtain ⟨rfl, hZ, hh⟩ := hP
  have hx := Bd.exec
  have hby := Bd.bytes
  have hml : c.maxLocals = 2 := hml0
  have hown : s.vm.findClass "java/lang/StringUTF16" = some m.cls := findClass_of_methodNamed Bd.named
  have hnm := (name_of_methodNamed Bd.named Bd.method).1
  have X0 : Stand p l e ({ frames := 0, cells := 0, slots := 0, locals := 0 } : Room) s m #[(.ref a1), (.int (1 : Int32))] below meth c s₁ [] 0 0 := Stand.of_body Bd
  have e0 : s₁.heap = h0 := by rw [← hh, Bd.state]; rfl
  have N0 := Fr.nil n0
  obtain ⟨S0, hS0⟩ : ∃ z, z = s₁.setTop (entryFrame m #[(.ref a1), (.int (1 : Int32))] 2) := ⟨_, rfl⟩
  have P0 : own_Pr p.tables e below S0 s₁ (mkF m 0 #[.val (.ref a1), .val (.int (1 : Int32))] []) := fun t k => hS0 ▸ castTop (ef_26_41 m a1) k
  obtain ⟨T1, X1, e1, st1⟩ := getS2 X0 hx hZ hown (host := "") (Or.inl (hw _ (List.mem_of_getElem? (i := 86) rfl))) Via.refl e0 AD (g := (mkF m 0 #[.val (.ref a1), .val (.int (1 : Int32))] [])) rfl (hb hby d26_0)
  have P2 : own_Pr p.tables e below S0 T1 (mkF m 3 #[.val (.ref a1), .val (.int (1 : Int32))] [(.int (1 : Int32))]) := fun t k => P0 t (st1 _ k)
  have P3 : own_Pr p.tables e below S0 T1 (mkF m 37 #[.val (.ref a1), .val (.int (3 : Int32))] [(.int (2 : Int32)), (.ref a1)]) := fun t k => P2 t (by
    refine XS.ifYes X1.here hx rfl (pc0 := 3) (pc' := 28) rfl (hb hby d26_3) rfl (by decide) (by decide) (by decide) ?_
    show Steps p.tables e below (T1.setTop (mkF m 28 #[.val (.ref a1), .val (.int (1 : Int32))] [])) _
    refine XS.iloadN X1.here hx rfl (hb hby d26_28) rfl ?_
    show Steps p.tables e below (T1.setTop (mkF m 29 #[.val (.ref a1), .val (.int (1 : Int32))] [(.int (1 : Int32))])) _
    refine XS.iconst X1.here hx rfl (hb hby d26_29) ?_
    show Steps p.tables e below (T1.setTop (mkF m 30 #[.val (.ref a1), .val (.int (1 : Int32))] [(.int (1 : Int32)), (.int (1 : Int32))])) _
    refine XS.ishl X1.here hx rfl (hb hby d26_30) rfl ?_
    show Steps p.tables e below (T1.setTop (mkF m 31 #[.val (.ref a1), .val (.int (1 : Int32))] [(.int (2 : Int32))])) _
    refine XS.istoreN X1.here hx rfl (hb hby d26_31) rfl (l' := #[.val (.ref a1), .val (.int (2 : Int32))]) rfl ?_
    show Steps p.tables e below (T1.setTop (mkF m 32 #[.val (.ref a1), .val (.int (2 : Int32))] [])) _
    refine XS.aloadN X1.here hx rfl (hb hby d26_32) rfl rfl ?_
    show Steps p.tables e below (T1.setTop (mkF m 33 #[.val (.ref a1), .val (.int (2 : Int32))] [(.ref a1)])) _
    refine XS.iloadN X1.here hx rfl (hb hby d26_33) rfl ?_
    show Steps p.tables e below (T1.setTop (mkF m 34 #[.val (.ref a1), .val (.int (2 : Int32))] [(.int (2 : Int32)), (.ref a1)])) _
    refine XS.iinc X1.here hx rfl (hb hby d26_34) rfl (l' := #[.val (.ref a1), .val (.int (3 : Int32))]) rfl ?_
    show Steps p.tables e below (T1.setTop (mkF m 37 #[.val (.ref a1), .val (.int (3 : Int32))] [(.int (2 : Int32)), (.ref a1)])) _
    exact k)
  obtain ⟨cl4, Ar4, q4, S4, N4, H4, G4⟩ := id V1
  have hin4 : ¬ ((2 : Int32) < 0 ∨ cl4.slots.size ≤ ((2 : Int32)).toNatClampNeg) := inb_of S4 ⟨by decide, by decide⟩
  have P5 : own_Pr p.tables e below S0 T1 (mkF m 42 #[.val (.ref a1), .val (.int (3 : Int32))] [(.int (x2 &&& (255 : Int32)))]) := fun t k => P3 t (by
    refine X1.baloadBytes hx (j := (2 : Int32)) (v := (.int x2)) (by rw [e1]; exact Ar4.1) (State.isArrayOf_alike hZ.alike Ar4.2.1) Ar4.2.2 hin4 (H4.at hin4 rfl) (g := (mkF m 37 #[.val (.ref a1), .val (.int (3 : Int32))] [(.int (2 : Int32)), (.ref a1)])) rfl rfl (hb hby d26_37) _ ?_
    show Steps p.tables e below (T1.setTop (mkF m 38 #[.val (.ref a1), .val (.int (3 : Int32))] [(.int x2)])) _
    refine XS.sipush X1.here hx rfl (hb hby d26_38) ?_
    show Steps p.tables e below (T1.setTop (mkF m 41 #[.val (.ref a1), .val (.int (3 : Int32))] [(.int (255 : Int32)), (.int x2)])) _
    refine XS.iand X1.here hx rfl (hb hby d26_41) rfl ?_
    show Steps p.tables e below (T1.setTop (mkF m 42 #[.val (.ref a1), .val (.int (3 : Int32))] [(.int (x2 &&& (255 : Int32)))])) _
    exact k)
  obtain ⟨T6, X6, e6, st6⟩ := getS2 X1 hx hZ hown (host := "") (Or.inl (hw _ (List.mem_of_getElem? (i := 87) rfl))) Via.refl e1 HB (g := (mkF m 42 #[.val (.ref a1), .val (.int (3 : Int32))] [(.int (x2 &&& (255 : Int32)))])) rfl (hb hby d26_42)
  have P7 : own_Pr p.tables e below S0 T6 (mkF m 45 #[.val (.ref a1), .val (.int (3 : Int32))] [(.int (0 : Int32)), (.int (x2 &&& (255 : Int32)))]) := fun t k => P5 t (st6 _ k)
  have P8 : own_Pr p.tables e below S0 T6 (mkF m 48 #[.val (.ref a1), .val (.int (3 : Int32))] [(.int (3 : Int32)), (.ref a1), (.int ((x2 &&& (255 : Int32)) <<< ((0 : Int32) &&& 31)))]) := fun t k => P7 t (by
    refine XS.ishl X6.here hx rfl (hb hby d26_45) rfl ?_
    show Steps p.tables e below (T6.setTop (mkF m 46 #[.val (.ref a1), .val (.int (3 : Int32))] [(.int ((x2 &&& (255 : Int32)) <<< ((0 : Int32) &&& 31)))])) _
    refine XS.aloadN X6.here hx rfl (hb hby d26_46) rfl rfl ?_
    show Steps p.tables e below (T6.setTop (mkF m 47 #[.val (.ref a1), .val (.int (3 : Int32))] [(.ref a1), (.int ((x2 &&& (255 : Int32)) <<< ((0 : Int32) &&& 31)))])) _
    refine XS.iloadN X6.here hx rfl (hb hby d26_47) rfl ?_
    show Steps p.tables e below (T6.setTop (mkF m 48 #[.val (.ref a1), .val (.int (3 : Int32))] [(.int (3 : Int32)), (.ref a1), (.int ((x2 &&& (255 : Int32)) <<< ((0 : Int32) &&& 31)))])) _
    exact k)
  obtain ⟨cl9, Ar9, q9, S9, N9, H9, G9⟩ := id V1
  have hin9 : ¬ ((3 : Int32) < 0 ∨ cl9.slots.size ≤ ((3 : Int32)).toNatClampNeg) := inb_of S9 ⟨by decide, by decide⟩
  have P10 : own_Pr p.tables e below S0 T6 (mkF m 53 #[.val (.ref a1), .val (.int (3 : Int32))] [(.int (x3 &&& (255 : Int32))), (.int ((x2 &&& (255 : Int32)) <<< ((0 : Int32) &&& 31)))]) := fun t k => P8 t (by
    refine X6.baloadBytes hx (j := (3 : Int32)) (v := (.int x3)) (by rw [e6]; exact Ar9.1) (State.isArrayOf_alike hZ.alike Ar9.2.1) Ar9.2.2 hin9 (H9.at hin9 rfl) (g := (mkF m 48 #[.val (.ref a1), .val (.int (3 : Int32))] [(.int (3 : Int32)), (.ref a1), (.int ((x2 &&& (255 : Int32)) <<< ((0 : Int32) &&& 31)))])) rfl rfl (hb hby d26_48) _ ?_
    show Steps p.tables e below (T6.setTop (mkF m 49 #[.val (.ref a1), .val (.int (3 : Int32))] [(.int x3), (.int ((x2 &&& (255 : Int32)) <<< ((0 : Int32) &&& 31)))])) _
    refine XS.sipush X6.here hx rfl (hb hby d26_49) ?_
    show Steps p.tables e below (T6.setTop (mkF m 52 #[.val (.ref a1), .val (.int (3 : Int32))] [(.int (255 : Int32)), (.int x3), (.int ((x2 &&& (255 : Int32)) <<< ((0 : Int32) &&& 31)))])) _
    refine XS.iand X6.here hx rfl (hb hby d26_52) rfl ?_
    show Steps p.tables e below (T6.setTop (mkF m 53 #[.val (.ref a1), .val (.int (3 : Int32))] [(.int (x3 &&& (255 : Int32))), (.int ((x2 &&& (255 : Int32)) <<< ((0 : Int32) &&& 31)))])) _
    exact k)
  obtain ⟨T11, X11, e11, st11⟩ := getS2 X6 hx hZ hown (host := "") (Or.inl (hw _ (List.mem_of_getElem? (i := 88) rfl))) Via.refl e6 LB (g := (mkF m 53 #[.val (.ref a1), .val (.int (3 : Int32))] [(.int (x3 &&& (255 : Int32))), (.int ((x2 &&& (255 : Int32)) <<< ((0 : Int32) &&& 31)))])) rfl (hb hby d26_53)
  have P12 : own_Pr p.tables e below S0 T11 (mkF m 56 #[.val (.ref a1), .val (.int (3 : Int32))] [(.int (8 : Int32)), (.int (x3 &&& (255 : Int32))), (.int ((x2 &&& (255 : Int32)) <<< ((0 : Int32) &&& 31)))]) := fun t k => P10 t (st11 _ k)
  have P13 : own_Pr p.tables e below S0 T11 (mkF m 59 #[.val (.ref a1), .val (.int (3 : Int32))] [(.int ((((x2 &&& (255 : Int32)) <<< ((0 : Int32) &&& 31)) ||| ((x3 &&& (255 : Int32)) <<< ((8 : Int32) &&& 31))).toUInt32.toUInt16.toUInt32.toInt32))]) := fun t k => P12 t (by
    refine XS.ishl X11.here hx rfl (hb hby d26_56) rfl ?_
    show Steps p.tables e below (T11.setTop (mkF m 57 #[.val (.ref a1), .val (.int (3 : Int32))] [(.int ((x3 &&& (255 : Int32)) <<< ((8 : Int32) &&& 31))), (.int ((x2 &&& (255 : Int32)) <<< ((0 : Int32) &&& 31)))])) _
    refine XS.ior X11.here hx rfl (hb hby d26_57) rfl ?_
    show Steps p.tables e below (T11.setTop (mkF m 58 #[.val (.ref a1), .val (.int (3 : Int32))] [(.int (((x2 &&& (255 : Int32)) <<< ((0 : Int32) &&& 31)) ||| ((x3 &&& (255 : Int32)) <<< ((8 : Int32) &&& 31))))])) _
    refine XS.i2c X11.here hx rfl (hb hby d26_58) rfl ?_
    show Steps p.tables e below (T11.setTop (mkF m 59 #[.val (.ref a1), .val (.int (3 : Int32))] [(.int ((((x2 &&& (255 : Int32)) <<< ((0 : Int32) &&& 31)) ||| ((x3 &&& (255 : Int32)) <<< ((8 : Int32) &&& 31))).toUInt32.toUInt16.toUInt32.toInt32))])) _
    exact k)
  obtain ⟨fs, hr, hrun, hended, hW, hsame⟩ := X11.leave (v := some (.int ((((x2 &&& (255 : Int32)) <<< ((0 : Int32) &&& 31)) ||| ((x3 &&& (255 : Int32)) <<< ((8 : Int32) &&& 31))).toUInt32.toUInt16.toUInt32.toInt32))) (fun h => by rw [Bd.returns] at h; cases h)
  have fin : Steps p.tables e below S0 (T11.setFrames fs) := P13 _ (retN X11 hx (t := .char) Bd.returns (by simp) (hb hby d26_59) (by rw [(own_narC _)]; exact hr))
  rw [hS0] at fin
  refine ⟨_, _, fin, hrun, hended, _, _, rfl, ?_, ⟨_, rfl⟩, hW, hsame.mono (by decide) (by decide)⟩
  show own_QI h0 n0 (own_gc x2 x3) _ T11.heap _
  rw [e11]
  exact ⟨_, rfl, rfl, N0, rfl⟩
theorem d22_0 : decode jdk_43_method_46_code 0 = .ok (.iconst 1, 1) := by decide +kernel
theorem d22_1 : decode jdk_43_method_46_code 1 = .ok (.newarray .byte, 2) := by decide +kernel
theorem d22_3 : decode jdk_43_method_46_code 3 = .ok (.dup, 1) := by decide +kernel
theorem d22_4 : decode jdk_43_method_46_code 4 = .ok (.iconst 0, 1) := by decide +kernel
theorem d22_5 : decode jdk_43_method_46_code 5 = .ok (.iload_n 0, 1) := by decide +kernel
theorem d22_6 : decode jdk_43_method_46_code 6 = .ok (.i2b, 1) := by decide +kernel
theorem d22_7 : decode jdk_43_method_46_code 7 = .ok (.bastore, 1) := by decide +kernel
theorem d22_8 : decode jdk_43_method_46_code 8 = .ok (.areturn, 1) := by decide +kernel
theorem ef_22 (m : MethodId) (p1 : Int32) : entryFrame m #[(.int p1)] 1 = mkF m 0 #[.val (.int p1)] [] := by first | (simp [entryFrame, mkF, argsToLocals, Value.category]; done) | rfl
set_option maxRecDepth 65536 in
set_option maxHeartbeats 40000000 in
theorem rm22 (l : Launch) (Z : State) (a0 : Array Value) (hw : ∀ d ∈ tables_1, d.before a0 Z = true) (ws : List Jvm.Cond) (p1 : Int32)  (h0 : Heap) (n0 : Nat) (Z0 : n0 ≤ h0.size) :
    MetFree l (⟨"java/lang/StringLatin1", "toBytes", "(C)[B"⟩ : MethodName) (head1 (Jvm.Cond.code (⟨"java/lang/StringLatin1", "toBytes", "(C)[B"⟩ : MethodName) jdk_43_method_46_code 1 (some (.array .byte)) :: ws) ({ frames := 0, cells := 1, slots := 1, locals := 0 } : Room)) (fun a U => a = #[(.int p1)] ∧ Z.Warmed39 U.vm ∧ U.heap = h0) (fun _ _ _ _ _ => True) (fun _ U o U' => ∃ v L, o = .returned v ∧ own_QA Z 1 [(.int (nar .byte (p1.toInt8.toInt32)))] h0 n0 v U'.heap L ∧ FrameEnd U o U' L ({ frames := 0, cells := 1, slots := 1, locals := 0 } : Room).cells ({ frames := 0, cells := 1, slots := 1, locals := 0 } : Room).slots) := by
  refine MetFree.of_bodySF (plainFor_of_name pn_18) hisR ?_
  intro p e s m args below meth c s₁ Bd hml0 hP hK
  obtain ⟨rfl, hZ, hh⟩ := hP
  have hx := Bd.exec
  have hby := Bd.bytes
  have hml : c.maxLocals = 1 := hml0
  have hown : s.vm.findClass "java/lang/StringLatin1" = some m.cls := findClass_of_methodNamed Bd.named
  have hnm := (name_of_methodNamed Bd.named Bd.method).1
  have X0 : Stand p l e ({ frames := 0, cells := 1, slots := 1, locals := 0 } : Room) s m #[(.int p1)] below meth c s₁ [] 0 0 := Stand.of_body Bd
  have e0 : s₁.heap = h0 := by rw [← hh, Bd.state]; rfl
  have N0 := Fr.nil n0
  obtain ⟨S0, hS0⟩ : ∃ z, z = s₁.setTop (entryFrame m #[(.int p1)] 1) := ⟨_, rfl⟩
  have P0 : own_Pr p.tables e below S0 s₁ (mkF m 0 #[.val (.int p1)] []) := fun t k => hS0 ▸ castTop (ef_22 m p1) k
  have K0 := Keep.refl h0 []
  have P1 : own_Pr p.tables e below S0 s₁ (mkF m 1 #[.val (.int p1)] [(.int (1 : Int32))]) := fun t k => P0 t (by
    refine XS.iconst X0.here hx rfl (hb hby d22_0) ?_
    show Steps p.tables e below (s₁.setTop (mkF m 1 #[.val (.int p1)] [(.int (1 : Int32))])) _
    exact k)
  obtain ⟨T2, h2, k2, X2, e2, E2, A2, st2⟩ := newP X0 hx hZ (hw _ (List.mem_of_getElem? (i := 19) rfl)) e0 (g := (mkF m 1 #[.val (.int p1)] [(.int (1 : Int32))])) rfl (hb hby d22_1) rfl (by decide) (cap := 1) (by decide) (by decide) (by decide) (by decide)
  obtain ⟨b2, g2⟩ : ∃ z, z = h0.size := ⟨_, rfl⟩
  rw [← g2] at A2 st2
  have g_b2 : n0 ≤ b2 := Nat.le_trans Z0 (Nat.le_of_eq g2.symm)
  have sz_b2 : h0.size ≤ b2 := Nat.le_trans K0.1 (Nat.le_of_eq g2.symm)
  have Z3 : n0 ≤ h2.size := Nat.le_trans Z0 E2.1
  have K4 := K0.ext E2
  have F5 : Arv Z h2 b2 k2 .byte (1 : Int32) [(.int (0 : Int32))] (.int (0 : Int32)) := (Arv.new A2 (by decide)).pad (pad_rep [] (.int (0 : Int32)) 1)
  have P6 : own_Pr p.tables e below S0 T2 (mkF m 3 #[.val (.int p1)] [(.ref b2)]) := fun t k => P1 t (st2 _ k)
  have P7 : own_Pr p.tables e below S0 T2 (mkF m 7 #[.val (.int p1)] [(.int (p1.toInt8.toInt32)), (.int (0 : Int32)), (.ref b2), (.ref b2)]) := fun t k => P6 t (by
    refine XS.dup X2.here hx rfl (hb hby d22_3) rfl rfl ?_
    show Steps p.tables e below (T2.setTop (mkF m 4 #[.val (.int p1)] [(.ref b2), (.ref b2)])) _
    refine XS.iconst X2.here hx rfl (hb hby d22_4) ?_
    show Steps p.tables e below (T2.setTop (mkF m 5 #[.val (.int p1)] [(.int (0 : Int32)), (.ref b2), (.ref b2)])) _
    refine XS.iloadN X2.here hx rfl (hb hby d22_5) rfl ?_
    show Steps p.tables e below (T2.setTop (mkF m 6 #[.val (.int p1)] [(.int p1), (.int (0 : Int32)), (.ref b2), (.ref b2)])) _
    refine XS.i2b X2.here hx rfl (hb hby d22_6) rfl ?_
    show Steps p.tables e below (T2.setTop (mkF m 7 #[.val (.int p1)] [(.int (p1.toInt8.toInt32)), (.int (0 : Int32)), (.ref b2), (.ref b2)])) _
    exact k)
  obtain ⟨cl8, Ar8, q8, S8, N8, H8, G8⟩ := id F5
  have hin8 : ¬ ((0 : Int32) < 0 ∨ cl8.slots.size ≤ ((0 : Int32)).toNatClampNeg) := inb_of S8 ⟨by decide, by decide⟩
  obtain ⟨T8, h8, X8, e8, W8, st8⟩ := stB X2 hx hZ e2 Ar8 (j := (0 : Int32)) hin8 (g := (mkF m 7 #[.val (.int p1)] [(.int (p1.toInt8.toInt32)), (.int (0 : Int32)), (.ref b2), (.ref b2)])) rfl rfl (hb hby d22_7)
  have V8 : Arv Z h8 b2 k2 .byte (1 : Int32) [(.int (nar .byte (p1.toInt8.toInt32)))] (.int (0 : Int32)) := Arv.set Ar8 q8 S8 N8 H8 G8 (fits_nar_byte _) W8 0 rfl (Nat.le_of_ble_eq_true rfl)
  have Z9 : n0 ≤ h8.size := by rw [W8.size]; exact Z3
  have NF8 := Fr.snoc X8 N0 g_b2
  have K10 := K4.wr W8 (Or.inr sz_b2)
  have P11 : own_Pr p.tables e below S0 T8 (mkF m 8 #[.val (.int p1)] [(.ref b2)]) := fun t k => P7 t (st8 _ k)
  obtain ⟨fs, hr, hrun, hended, hW, hsame⟩ := X8.leave (v := some (.ref b2)) (fun h => by rw [Bd.returns] at h; cases h)
  have fin : Steps p.tables e below S0 (T8.setFrames fs) := P11 _ (by
    jvm_step X8.here [X8.here.top, hx, (hb hby d22_8), X8.method', Bd.returns, Value.isRef, FieldType.isReference]
    first | (intro acts; rw [hr _ acts rfl rfl rfl]) | rw [hr _ _ rfl rfl rfl]
    exact Steps.refl _)
  rw [hS0] at fin
  refine ⟨_, _, fin, hrun, hended, _, _, rfl, ?_, ⟨_, rfl⟩, hW, hsame.mono (by decide) (by decide)⟩
  show own_QA Z 1 [(.int (nar .byte (p1.toInt8.toInt32)))] h0 n0 _ T8.heap _
  rw [e8]
  exact ⟨_, _, rfl, NF8, K10, sz_b2, V8⟩
theorem d19_0 : decode jdk_52_method_24_code 0 = .ok (.iconst 2, 1) := by decide +kernel
theorem d19_1 : decode jdk_52_method_24_code 1 = .ok (.newarray .byte, 2) := by decide +kernel
theorem d19_3 : decode jdk_52_method_24_code 3 = .ok (.astore_n 1, 1) := by decide +kernel
theorem d19_4 : decode jdk_52_method_24_code 4 = .ok (.aload_n 1, 1) := by decide +kernel
theorem d19_5 : decode jdk_52_method_24_code 5 = .ok (.iconst 0, 1) := by decide +kernel
theorem d19_6 : decode jdk_52_method_24_code 6 = .ok (.iload_n 0, 1) := by decide +kernel
theorem d19_7 : decode jdk_52_method_24_code 7 = .ok (.invokestatic 111, 3) := by decide +kernel
theorem d19_10 : decode jdk_52_method_24_code 10 = .ok (.aload_n 1, 1) := by decide +kernel
theorem d19_11 : decode jdk_52_method_24_code 11 = .ok (.areturn, 1) := by decide +kernel
theorem pd_4 : parseMethodDescriptor "([BII)V" = some ⟨[(.array .byte), .int, .int], none⟩ := by decide +kernel
theorem ef_19 (m : MethodId) (p1 : Int32) : entryFrame m #[(.int p1)] 2 = mkF m 0 #[.val (.int p1), .unset] [] := by first | (simp [entryFrame, mkF, argsToLocals, Value.category]; done) | rfl
set_option maxRecDepth 65536 in
set_option maxHeartbeats 40000000 in
theorem rm19 (l : Launch) (Z : State) (a0 : Array Value) (hw : ∀ d ∈ tables_1, d.before a0 Z = true) (ws : List Jvm.Cond) (p1 : Int32)  (h0 : Heap) (n0 : Nat) (Z0 : n0 ≤ h0.size) (AD : Sta Z h0 "java/lang/StringUTF16" "$assertionsDisabled" "Z" (.int (1 : Int32))) (HB : Sta Z h0 "java/lang/StringUTF16" "HI_BYTE_SHIFT" "I" (.int (0 : Int32))) (LB : Sta Z h0 "java/lang/StringUTF16" "LO_BYTE_SHIFT" "I" (.int (8 : Int32))) :
    MetFree l (⟨"java/lang/StringUTF16", "toBytes", "(C)[B"⟩ : MethodName) (head1 (Jvm.Cond.code (⟨"java/lang/StringUTF16", "toBytes", "(C)[B"⟩ : MethodName) jdk_52_method_24_code 2 (some (.array .byte)) :: ws) ({ frames := 1, cells := 1, slots := 2, locals := 14 } : Room)) (fun a U => a = #[(.int p1)] ∧ Z.Warmed39 U.vm ∧ U.heap = h0) (fun _ _ _ _ _ => True) (fun _ U o U' => ∃ v L, o = .returned v ∧ own_QA Z 2 [(.int (nar .byte ((p1 >>> ((0 : Int32) &&& 31)).toInt8.toInt32))), (.int (nar .byte ((p1 >>> ((8 : Int32) &&& 31)).toInt8.toInt32)))] h0 n0 v U'.heap L ∧ FrameEnd U o U' L ({ frames := 1, cells := 1, slots := 2, locals := 14 } : Room).cells ({ frames := 1, cells := 1, slots := 2, locals := 14 } : Room).slots) := by
  refine MetFree.of_bodySF (plainFor_of_name pn_20) hisR ?_
  intro p e s m args below meth c s₁ Bd hml0 hP hK
  obtain ⟨rfl, hZ, hh⟩ := hP
  have hx := Bd.exec
  have hby := Bd.bytes
  have hml : c.maxLocals = 2 := hml0
  have hown : s.vm.findClass "java/lang/StringUTF16" = some m.cls := findClass_of_methodNamed Bd.named
  have hnm := (name_of_methodNamed Bd.named Bd.method).1
  have X0 : Stand p l e ({ frames := 1, cells := 1, slots := 2, locals := 14 } : Room) s m #[(.int p1)] below meth c s₁ [] 0 0 := Stand.of_body Bd
  have e0 : s₁.heap = h0 := by rw [← hh, Bd.state]; rfl
  have N0 := Fr.nil n0
  obtain ⟨S0, hS0⟩ : ∃ z, z = s₁.setTop (entryFrame m #[(.int p1)] 2) := ⟨_, rfl⟩
  have P0 : own_Pr p.tables e below S0 s₁ (mkF m 0 #[.val (.int p1), .unset] []) := fun t k => hS0 ▸ castTop (ef_19 m p1) k
  have K0 := Keep.refl h0 []
  have P1 : own_Pr p.tables e below S0 s₁ (mkF m 1 #[.val (.int p1), .unset] [(.int (2 : Int32))]) := fun t k => P0 t (by
    refine XS.iconst X0.here hx rfl (hb hby d19_0) ?_
    show Steps p.tables e below (s₁.setTop (mkF m 1 #[.val (.int p1), .unset] [(.int (2 : Int32))])) _
    exact k)
  obtain ⟨T2, h2, k2, X2, e2, E2, A2, st2⟩ := newP X0 hx hZ (hw _ (List.mem_of_getElem? (i := 19) rfl)) e0 (g := (mkF m 1 #[.val (.int p1), .unset] [(.int (2 : Int32))])) rfl (hb hby d19_1) rfl (by decide) (cap := 2) (by decide) (by decide) (by decide) (by decide)
  obtain ⟨b2, g2⟩ : ∃ z, z = h0.size := ⟨_, rfl⟩
  rw [← g2] at A2 st2
  have g_b2 : n0 ≤ b2 := Nat.le_trans Z0 (Nat.le_of_eq g2.symm)
  have sz_b2 : h0.size ≤ b2 := Nat.le_trans K0.1 (Nat.le_of_eq g2.symm)
  have F3 := AD.ext E2
  have F4 := HB.ext E2
  have F5 := LB.ext E2
  have Z6 : n0 ≤ h2.size := Nat.le_trans Z0 E2.1
  have K7 := K0.ext E2
  have F8 : Arv Z h2 b2 k2 .byte (2 : Int32) [(.int (0 : Int32)), (.int (0 : Int32))] (.int (0 : Int32)) := (Arv.new A2 (by decide)).pad (pad_rep [] (.int (0 : Int32)) 2)
  have P9 : own_Pr p.tables e below S0 T2 (mkF m 3 #[.val (.int p1), .unset] [(.ref b2)]) := fun t k => P1 t (st2 _ k)
  have P10 : own_Pr p.tables e below S0 T2 (mkF m 7 #[.val (.int p1), .val (.ref b2)] [(.int p1), (.int (0 : Int32)), (.ref b2)]) := fun t k => P9 t (by
    refine XS.astoreN X2.here hx rfl (hb hby d19_3) rfl rfl (l' := #[.val (.int p1), .val (.ref b2)]) rfl ?_
    show Steps p.tables e below (T2.setTop (mkF m 4 #[.val (.int p1), .val (.ref b2)] [])) _
    refine XS.aloadN X2.here hx rfl (hb hby d19_4) rfl rfl ?_
    show Steps p.tables e below (T2.setTop (mkF m 5 #[.val (.int p1), .val (.ref b2)] [(.ref b2)])) _
    refine XS.iconst X2.here hx rfl (hb hby d19_5) ?_
    show Steps p.tables e below (T2.setTop (mkF m 6 #[.val (.int p1), .val (.ref b2)] [(.int (0 : Int32)), (.ref b2)])) _
    refine XS.iloadN X2.here hx rfl (hb hby d19_6) rfl ?_
    show Steps p.tables e below (T2.setTop (mkF m 7 #[.val (.int p1), .val (.ref b2)] [(.int p1), (.int (0 : Int32)), (.ref b2)])) _
    exact k)
  obtain ⟨_, _, ⟨T11, L11, k11, n11⟩, -, X11, ⟨Lc11, hQ11, l11, y11, z11⟩, st11⟩ := Jvm.LawKit.callS X2 hx (y := (⟨"java/lang/StringUTF16", "putChar", "([BII)V"⟩ : MethodName)) hown (mvT hZ (hw _ (List.mem_of_getElem? (i := 83) rfl))) (mvT hZ (hw _ (List.mem_of_getElem? (i := 84) rfl))) (mvT hZ (hw _ (List.mem_of_getElem? (i := 62) rfl))) (mvT hZ (hw _ (List.mem_of_getElem? (i := 85) rfl))) (by decide) (backOf (W := 0) (rm20_20 l Z a0 hw [] b2 p1 k2 (0 : Int32) (0 : Int32) h2 n0 Z6 F8 g_b2 F3 F4 F5) hZ (hw _ (List.mem_of_getElem? (i := 85) rfl)) (hw _ (List.mem_of_getElem? (i := 62) rfl)) (by decide) (by decide)) (g := (mkF m 7 #[.val (.int p1), .val (.ref b2)] [(.int p1), (.int (0 : Int32)), (.ref b2)])) rfl (by rw [hml]; rfl) (argsL := [(.ref b2), (.int (0 : Int32)), (.int p1)]) (rest := []) (lenOf pd_4 rfl) rfl (by show 2 * 0 + _ ≤ _; exact Nat.le_of_eq rfl) (hb hby d19_7) (fun _ _ => ⟨rfl, e2, (by decide : 1 + 0 ≤ _), (by decide : 2 + 0 ≤ _)⟩)
  dsimp only [Pt.U, Pt.locs, Pt.cells, Pt.slots] at X11 l11 y11 z11 st11 hQ11
  subst l11 y11 z11
  obtain ⟨rfl, Nq11, Kq11, Vq11⟩ := hQ11
  have N11n := Fr.app N0 Nq11
  have F12 := own_sta_keepA F3 Kq11 F8
  have F13 := own_sta_keepA F4 Kq11 F8
  have F14 := own_sta_keepA F5 Kq11 F8
  have Z16 := Nat.le_trans Z6 Kq11.1
  have K17 := K7.trans Kq11 (allS (Or.inr sz_b2) all0)
  have P18 : own_Pr p.tables e below S0 T11 (mkF m 10 #[.val (.int p1), .val (.ref b2)] []) := fun t k => P10 t (st11 _ k)
  have P19 : own_Pr p.tables e below S0 T11 (mkF m 11 #[.val (.int p1), .val (.ref b2)] [(.ref b2)]) := fun t k => P18 t (by
    refine XS.aloadN X11.here hx rfl (hb hby d19_10) rfl rfl ?_
    show Steps p.tables e below (T11.setTop (mkF m 11 #[.val (.int p1), .val (.ref b2)] [(.ref b2)])) _
    exact k)
  obtain ⟨fs, hr, hrun, hended, hW, hsame⟩ := X11.leave (v := some (.ref b2)) (fun h => by rw [Bd.returns] at h; cases h)
  have fin : Steps p.tables e below S0 (T11.setFrames fs) := P19 _ (by
    jvm_step X11.here [X11.here.top, hx, (hb hby d19_11), X11.method', Bd.returns, Value.isRef, FieldType.isReference]
    first | (intro acts; rw [hr _ acts rfl rfl rfl]) | rw [hr _ _ rfl rfl rfl]
    exact Steps.refl _)
  rw [hS0] at fin
  refine ⟨_, _, fin, hrun, hended, _, _, rfl, ?_, ⟨_, rfl⟩, hW, hsame.mono (by decide) (by decide)⟩
  show own_QA Z 2 [(.int (nar .byte ((p1 >>> ((0 : Int32) &&& 31)).toInt8.toInt32))), (.int (nar .byte ((p1 >>> ((8 : Int32) &&& 31)).toInt8.toInt32)))] h0 n0 _ T11.heap _
  exact ⟨_, _, rfl, N11n, K17, sz_b2, Vq11⟩
theorem d25_0 : decode jdk_52_method_3_code 0 = .ok (.iload_n 0, 1) := by decide +kernel
theorem d25_1 : decode jdk_52_method_3_code 1 = .ok (.ifCond .ge 11, 3) := by decide +kernel
theorem d25_12 : decode jdk_52_method_3_code 12 = .ok (.iload_n 0, 1) := by decide +kernel
theorem d25_13 : decode jdk_52_method_3_code 13 = .ok (.ldc 20, 2) := by decide +kernel
theorem d25_15 : decode jdk_52_method_3_code 15 = .ok (.if_icmp .lt 40, 3) := by decide +kernel
theorem d25_55 : decode jdk_52_method_3_code 55 = .ok (.iload_n 0, 1) := by decide +kernel
theorem d25_56 : decode jdk_52_method_3_code 56 = .ok (.iconst 1, 1) := by decide +kernel
theorem d25_57 : decode jdk_52_method_3_code 57 = .ok (.ishl, 1) := by decide +kernel
theorem d25_58 : decode jdk_52_method_3_code 58 = .ok (.ireturn, 1) := by decide +kernel
theorem ef_25 (m : MethodId)  : entryFrame m #[(.int (2 : Int32))] 1 = mkF m 0 #[.val (.int (2 : Int32))] [] := by first | (simp [entryFrame, mkF, argsToLocals, Value.category]; done) | rfl
set_option maxRecDepth 65536 in
set_option maxHeartbeats 40000000 in
theorem rm25 (l : Launch) (Z : State) (a0 : Array Value) (hw : ∀ d ∈ tables_1, d.before a0 Z = true) (ws : List Jvm.Cond)   (h0 : Heap) (n0 : Nat) (Z0 : n0 ≤ h0.size) :
    MetFree l (⟨"java/lang/StringUTF16", "newBytesLength", "(I)I"⟩ : MethodName) (head1 (Jvm.Cond.code (⟨"java/lang/StringUTF16", "newBytesLength", "(I)I"⟩ : MethodName) jdk_52_method_3_code 1 (some .int) :: ws) ({ frames := 0, cells := 0, slots := 0, locals := 0 } : Room)) (fun a U => a = #[(.int (2 : Int32))] ∧ Z.Warmed39 U.vm ∧ U.heap = h0) (fun _ _ _ _ _ => True) (fun _ U o U' => ∃ v L, o = .returned v ∧ own_QI h0 n0 4 v U'.heap L ∧ FrameEnd U o U' L ({ frames := 0, cells := 0, slots := 0, locals := 0 } : Room).cells ({ frames := 0, cells := 0, slots := 0, locals := 0 } : Room).slots) := by
  refine MetFree.of_bodySF (plainFor_of_name pn_20) hisR ?_
  intro p e s m args below meth c s₁ Bd hml0 hP hK
  obtain ⟨rfl, hZ, hh⟩ := hP
  have hx := Bd.exec
  have hby := Bd.bytes
  have hml : c.maxLocals = 1 := hml0
  have hown : s.vm.findClass "java/lang/StringUTF16" = some m.cls := findClass_of_methodNamed Bd.named
  have hnm := (name_of_methodNamed Bd.named Bd.method).1
  have X0 : Stand p l e ({ frames := 0, cells := 0, slots := 0, locals := 0 } : Room) s m #[(.int (2 : Int32))] below meth c s₁ [] 0 0 := Stand.of_body Bd
  have e0 : s₁.heap = h0 := by rw [← hh, Bd.state]; rfl
  have N0 := Fr.nil n0
  obtain ⟨S0, hS0⟩ : ∃ z, z = s₁.setTop (entryFrame m #[(.int (2 : Int32))] 1) := ⟨_, rfl⟩
  have P0 : own_Pr p.tables e below S0 s₁ (mkF m 0 #[.val (.int (2 : Int32))] []) := fun t k => hS0 ▸ castTop (ef_25 m ) k
  have P1 : own_Pr p.tables e below S0 s₁ (mkF m 58 #[.val (.int (2 : Int32))] [(.int (4 : Int32))]) := fun t k => P0 t (by
    refine XS.iloadN X0.here hx rfl (hb hby d25_0) rfl ?_
    show Steps p.tables e below (s₁.setTop (mkF m 1 #[.val (.int (2 : Int32))] [(.int (2 : Int32))])) _
    refine XS.ifYes X0.here hx rfl (pc0 := 1) (pc' := 12) rfl (hb hby d25_1) rfl (by decide) (by decide) (by decide) ?_
    show Steps p.tables e below (s₁.setTop (mkF m 12 #[.val (.int (2 : Int32))] [])) _
    refine XS.iloadN X0.here hx rfl (hb hby d25_12) rfl ?_
    show Steps p.tables e below (s₁.setTop (mkF m 13 #[.val (.int (2 : Int32))] [(.int (2 : Int32))])) _
    refine X0.ldcInt hx hown (mvT hZ (hw _ (List.mem_of_getElem? (i := 104) rfl))) (g := (mkF m 13 #[.val (.int (2 : Int32))] [(.int (2 : Int32))])) rfl (hb hby d25_13) _ ?_
    show Steps p.tables e below (s₁.setTop (mkF m 15 #[.val (.int (2 : Int32))] [(.int (1073741823 : Int32)), (.int (2 : Int32))])) _
    refine XS.icmpYes X0.here hx rfl (pc0 := 15) (pc' := 55) rfl (hb hby d25_15) rfl (by decide) (by decide) (by decide) ?_
    show Steps p.tables e below (s₁.setTop (mkF m 55 #[.val (.int (2 : Int32))] [])) _
    refine XS.iloadN X0.here hx rfl (hb hby d25_55) rfl ?_
    show Steps p.tables e below (s₁.setTop (mkF m 56 #[.val (.int (2 : Int32))] [(.int (2 : Int32))])) _
    refine XS.iconst X0.here hx rfl (hb hby d25_56) ?_
    show Steps p.tables e below (s₁.setTop (mkF m 57 #[.val (.int (2 : Int32))] [(.int (1 : Int32)), (.int (2 : Int32))])) _
    refine XS.ishl X0.here hx rfl (hb hby d25_57) rfl ?_
    show Steps p.tables e below (s₁.setTop (mkF m 58 #[.val (.int (2 : Int32))] [(.int (4 : Int32))])) _
    exact k)
  obtain ⟨fs, hr, hrun, hended, hW, hsame⟩ := X0.leave (v := some (.int (4 : Int32))) (fun h => by rw [Bd.returns] at h; cases h)
  have fin : Steps p.tables e below S0 (s₁.setFrames fs) := P1 _ (retI X0 hx Bd.returns (hb hby d25_58) hr)
  rw [hS0] at fin
  refine ⟨_, _, fin, hrun, hended, _, _, rfl, ?_, ⟨_, rfl⟩, hW, hsame.mono (by decide) (by decide)⟩
  show own_QI h0 n0 4 _ s₁.heap _
  rw [e0]
  exact ⟨_, rfl, rfl, N0, rfl⟩
theorem d24_0 : decode jdk_52_method_2_code 0 = .ok (.iload_n 0, 1) := by decide +kernel
theorem d24_1 : decode jdk_52_method_2_code 1 = .ok (.invokestatic 11, 3) := by decide +kernel
theorem d24_4 : decode jdk_52_method_2_code 4 = .ok (.newarray .byte, 2) := by decide +kernel
theorem d24_6 : decode jdk_52_method_2_code 6 = .ok (.areturn, 1) := by decide +kernel
theorem ef_24 (m : MethodId)  : entryFrame m #[(.int (2 : Int32))] 1 = mkF m 0 #[.val (.int (2 : Int32))] [] := by first | (simp [entryFrame, mkF, argsToLocals, Value.category]; done) | rfl
set_option maxRecDepth 65536 in
set_option maxHeartbeats 40000000 in
theorem rm24 (l : Launch) (Z : State) (a0 : Array Value) (hw : ∀ d ∈ tables_1, d.before a0 Z = true) (ws : List Jvm.Cond)   (h0 : Heap) (n0 : Nat) (Z0 : n0 ≤ h0.size) :
    MetFree l (⟨"java/lang/StringUTF16", "newBytesFor", "(I)[B"⟩ : MethodName) (head1 (Jvm.Cond.code (⟨"java/lang/StringUTF16", "newBytesFor", "(I)[B"⟩ : MethodName) jdk_52_method_2_code 1 (some (.array .byte)) :: ws) ({ frames := 1, cells := 1, slots := 4, locals := 12 } : Room)) (fun a U => a = #[(.int (2 : Int32))] ∧ Z.Warmed39 U.vm ∧ U.heap = h0) (fun _ _ _ _ _ => True) (fun _ U o U' => ∃ v L, o = .returned v ∧ own_QA Z 4 [(.int 0), (.int 0), (.int 0), (.int 0)] h0 n0 v U'.heap L ∧ FrameEnd U o U' L ({ frames := 1, cells := 1, slots := 4, locals := 12 } : Room).cells ({ frames := 1, cells := 1, slots := 4, locals := 12 } : Room).slots) := by
  refine MetFree.of_bodySF (plainFor_of_name pn_20) hisR ?_
  intro p e s m args below meth c s₁ Bd hml0 hP hK
  obtain ⟨rfl, hZ, hh⟩ := hP
  have hx := Bd.exec
  have hby := Bd.bytes
  have hml : c.maxLocals = 1 := hml0
  have hown : s.vm.findClass "java/lang/StringUTF16" = some m.cls := findClass_of_methodNamed Bd.named
  have hnm := (name_of_methodNamed Bd.named Bd.method).1
  have X0 : Stand p l e ({ frames := 1, cells := 1, slots := 4, locals := 12 } : Room) s m #[(.int (2 : Int32))] below meth c s₁ [] 0 0 := Stand.of_body Bd
  have e0 : s₁.heap = h0 := by rw [← hh, Bd.state]; rfl
  have N0 := Fr.nil n0
  obtain ⟨S0, hS0⟩ : ∃ z, z = s₁.setTop (entryFrame m #[(.int (2 : Int32))] 1) := ⟨_, rfl⟩
  have P0 : own_Pr p.tables e below S0 s₁ (mkF m 0 #[.val (.int (2 : Int32))] []) := fun t k => hS0 ▸ castTop (ef_24 m ) k
  have K0 := Keep.refl h0 []
  have P1 : own_Pr p.tables e below S0 s₁ (mkF m 1 #[.val (.int (2 : Int32))] [(.int (2 : Int32))]) := fun t k => P0 t (by
    refine XS.iloadN X0.here hx rfl (hb hby d24_0) rfl ?_
    show Steps p.tables e below (s₁.setTop (mkF m 1 #[.val (.int (2 : Int32))] [(.int (2 : Int32))])) _
    exact k)
  obtain ⟨_, _, ⟨T2, L2, k2, n2⟩, -, X2, ⟨Lc2, hQ2, l2, y2, z2⟩, st2⟩ := Jvm.LawKit.callS X0 hx (y := (⟨"java/lang/StringUTF16", "newBytesLength", "(I)I"⟩ : MethodName)) hown (mvT hZ (hw _ (List.mem_of_getElem? (i := 101) rfl))) (mvT hZ (hw _ (List.mem_of_getElem? (i := 102) rfl))) (mvT hZ (hw _ (List.mem_of_getElem? (i := 62) rfl))) (mvT hZ (hw _ (List.mem_of_getElem? (i := 103) rfl))) (by decide) (backOf (W := 0) (rm25 l Z a0 hw [] h0 n0 Z0) hZ (hw _ (List.mem_of_getElem? (i := 103) rfl)) (hw _ (List.mem_of_getElem? (i := 62) rfl)) (by decide) (by decide)) (g := (mkF m 1 #[.val (.int (2 : Int32))] [(.int (2 : Int32))])) rfl (by rw [hml]; rfl) (argsL := [(.int (2 : Int32))]) (rest := []) (lenOf pd_2 rfl) rfl (by show 2 * 0 + _ ≤ _; exact Nat.le_of_eq rfl) (hb hby d24_1) (fun _ _ => ⟨rfl, e0, (by decide : 0 + 0 ≤ _), (by decide : 0 + 0 ≤ _)⟩)
  dsimp only [Pt.U, Pt.locs, Pt.cells, Pt.slots] at X2 l2 y2 z2 st2 hQ2
  subst l2 y2 z2
  obtain ⟨z2v, rfl, hz2v, Nq2, eq2⟩ := hQ2
  have N2n := Fr.app N0 Nq2
  have hy2 := hz2v.symm; subst hy2
  have P3 : own_Pr p.tables e below S0 T2 (mkF m 4 #[.val (.int (2 : Int32))] [(.int (4 : Int32))]) := fun t k => P1 t (st2 _ k)
  obtain ⟨T4, h4, k4, X4, e4, E4, A4, st4⟩ := newP X2 hx hZ (hw _ (List.mem_of_getElem? (i := 19) rfl)) eq2 (g := (mkF m 4 #[.val (.int (2 : Int32))] [(.int (4 : Int32))])) rfl (hb hby d24_4) rfl (by decide) (cap := 4) (by decide) (by decide) (by decide) (by decide)
  obtain ⟨b4, g4⟩ : ∃ z, z = h0.size := ⟨_, rfl⟩
  rw [← g4] at A4 st4
  have g_b4 : n0 ≤ b4 := Nat.le_trans Z0 (Nat.le_of_eq g4.symm)
  have sz_b4 : h0.size ≤ b4 := Nat.le_trans K0.1 (Nat.le_of_eq g4.symm)
  have Z5 : n0 ≤ h4.size := Nat.le_trans Z0 E4.1
  have K6 := K0.ext E4
  have F7 : Arv Z h4 b4 k4 .byte (4 : Int32) [(.int (0 : Int32)), (.int (0 : Int32)), (.int (0 : Int32)), (.int (0 : Int32))] (.int (0 : Int32)) := (Arv.new A4 (by decide)).pad (pad_rep [] (.int (0 : Int32)) 4)
  have P8 : own_Pr p.tables e below S0 T4 (mkF m 6 #[.val (.int (2 : Int32))] [(.ref b4)]) := fun t k => P3 t (st4 _ k)
  obtain ⟨fs, hr, hrun, hended, hW, hsame⟩ := X4.leave (v := some (.ref b4)) (fun h => by rw [Bd.returns] at h; cases h)
  have fin : Steps p.tables e below S0 (T4.setFrames fs) := P8 _ (by
    jvm_step X4.here [X4.here.top, hx, (hb hby d24_6), X4.method', Bd.returns, Value.isRef, FieldType.isReference]
    first | (intro acts; rw [hr _ acts rfl rfl rfl]) | rw [hr _ _ rfl rfl rfl]
    exact Steps.refl _)
  rw [hS0] at fin
  refine ⟨_, _, fin, hrun, hended, _, _, rfl, ?_, ⟨_, rfl⟩, hW, hsame.mono (by decide) (by decide)⟩
  show own_QA Z 4 [(.int 0), (.int 0), (.int 0), (.int 0)] h0 n0 _ T4.heap _
  rw [e4]
  exact ⟨_, _, rfl, N2n, K6, sz_b4, F7⟩
theorem d23_0 : decode jdk_52_method_14_code 0 = .ok (.iload_n 2, 1) := by decide +kernel
theorem d23_1 : decode jdk_52_method_14_code 1 = .ok (.invokestatic 107, 3) := by decide +kernel
theorem d23_4 : decode jdk_52_method_14_code 4 = .ok (.astore_n 3, 1) := by decide +kernel
theorem d23_5 : decode jdk_52_method_14_code 5 = .ok (.iconst 0, 1) := by decide +kernel
theorem d23_6 : decode jdk_52_method_14_code 6 = .ok (.istore 4, 2) := by decide +kernel
theorem d23_8 : decode jdk_52_method_14_code 8 = .ok (.iload 4, 2) := by decide +kernel
theorem d23_10 : decode jdk_52_method_14_code 10 = .ok (.iload_n 2, 1) := by decide +kernel
theorem d23_11 : decode jdk_52_method_14_code 11 = .ok (.if_icmp .ge 21, 3) := by decide +kernel
theorem d23_14 : decode jdk_52_method_14_code 14 = .ok (.aload_n 3, 1) := by decide +kernel
theorem d23_15 : decode jdk_52_method_14_code 15 = .ok (.iload 4, 2) := by decide +kernel
theorem d23_17 : decode jdk_52_method_14_code 17 = .ok (.aload_n 0, 1) := by decide +kernel
theorem d23_18 : decode jdk_52_method_14_code 18 = .ok (.iload_n 1, 1) := by decide +kernel
theorem d23_19 : decode jdk_52_method_14_code 19 = .ok (.caload, 1) := by decide +kernel
theorem d23_20 : decode jdk_52_method_14_code 20 = .ok (.invokestatic 111, 3) := by decide +kernel
theorem d23_23 : decode jdk_52_method_14_code 23 = .ok (.iinc 1 1, 3) := by decide +kernel
theorem d23_26 : decode jdk_52_method_14_code 26 = .ok (.iinc 4 1, 3) := by decide +kernel
theorem d23_29 : decode jdk_52_method_14_code 29 = .ok (.goto (-21), 3) := by decide +kernel
theorem d23_32 : decode jdk_52_method_14_code 32 = .ok (.aload_n 3, 1) := by decide +kernel
theorem d23_33 : decode jdk_52_method_14_code 33 = .ok (.areturn, 1) := by decide +kernel
theorem pd_5 : parseMethodDescriptor "(I)[B" = some ⟨[.int], some (.array .byte)⟩ := by decide +kernel
theorem ef_23 (m : MethodId) (a1 : Addr) : entryFrame m #[(.ref a1), (.int (0 : Int32)), (.int (2 : Int32))] 5 = mkF m 0 #[.val (.ref a1), .val (.int (0 : Int32)), .val (.int (2 : Int32)), .unset, .unset] [] := by first | (simp [entryFrame, mkF, argsToLocals, Value.category]; done) | rfl
set_option maxRecDepth 65536 in
set_option maxHeartbeats 40000000 in
theorem rm23 (l : Launch) (Z : State) (a0 : Array Value) (hw : ∀ d ∈ tables_1, d.before a0 Z = true) (ws : List Jvm.Cond) (a1 : Addr) (k1 : ClassId) (u0 u1 : Int32) (h0 : Heap) (n0 : Nat) (Z0 : n0 ≤ h0.size) (V1 : Arv Z h0 a1 k1 .char 2 [(.int u0), (.int u1)] (.int (0 : Int32))) (AD : Sta Z h0 "java/lang/StringUTF16" "$assertionsDisabled" "Z" (.int (1 : Int32))) (HB : Sta Z h0 "java/lang/StringUTF16" "HI_BYTE_SHIFT" "I" (.int (0 : Int32))) (LB : Sta Z h0 "java/lang/StringUTF16" "LO_BYTE_SHIFT" "I" (.int (8 : Int32))) :
    MetFree l (⟨"java/lang/StringUTF16", "toBytes", "([CII)[B"⟩ : MethodName) (head1 (Jvm.Cond.code (⟨"java/lang/StringUTF16", "toBytes", "([CII)[B"⟩ : MethodName) jdk_52_method_14_code 5 (some (.array .byte)) :: ws) ({ frames := 2, cells := 1, slots := 4, locals := 24 } : Room)) (fun a U => a = #[(.ref a1), (.int (0 : Int32)), (.int (2 : Int32))] ∧ Z.Warmed39 U.vm ∧ U.heap = h0) (fun _ _ _ _ _ => True) (fun _ U o U' => ∃ v L, o = .returned v ∧ own_QA Z 4 [(.int (nar .byte ((u0 >>> ((0 : Int32) &&& 31)).toInt8.toInt32))), (.int (nar .byte ((u0 >>> ((8 : Int32) &&& 31)).toInt8.toInt32))), (.int (nar .byte ((u1 >>> ((0 : Int32) &&& 31)).toInt8.toInt32))), (.int (nar .byte ((u1 >>> ((8 : Int32) &&& 31)).toInt8.toInt32)))] h0 n0 v U'.heap L ∧ FrameEnd U o U' L ({ frames := 2, cells := 1, slots := 4, locals := 24 } : Room).cells ({ frames := 2, cells := 1, slots := 4, locals := 24 } : Room).slots) := by
  refine MetFree.of_bodySF (plainFor_of_name pn_20) hisR ?_
  intro p e s m args below meth c s₁ Bd hml0 hP hK
  obtain ⟨rfl, hZ, hh⟩ := hP
  have hx := Bd.exec
  have hby := Bd.bytes
  have hml : c.maxLocals = 5 := hml0
  have hown : s.vm.findClass "java/lang/StringUTF16" = some m.cls := findClass_of_methodNamed Bd.named
  have hnm := (name_of_methodNamed Bd.named Bd.method).1
  have X0 : Stand p l e ({ frames := 2, cells := 1, slots := 4, locals := 24 } : Room) s m #[(.ref a1), (.int (0 : Int32)), (.int (2 : Int32))] below meth c s₁ [] 0 0 := Stand.of_body Bd
  have e0 : s₁.heap = h0 := by rw [← hh, Bd.state]; rfl
  have N0 := Fr.nil n0
  obtain ⟨S0, hS0⟩ : ∃ z, z = s₁.setTop (entryFrame m #[(.ref a1), (.int (0 : Int32)), (.int (2 : Int32))] 5) := ⟨_, rfl⟩
  have P0 : own_Pr p.tables e below S0 s₁ (mkF m 0 #[.val (.ref a1), .val (.int (0 : Int32)), .val (.int (2 : Int32)), .unset, .unset] []) := fun t k => hS0 ▸ castTop (ef_23 m a1) k
  have K0 := Keep.refl h0 []
  have P1 : own_Pr p.tables e below S0 s₁ (mkF m 1 #[.val (.ref a1), .val (.int (0 : Int32)), .val (.int (2 : Int32)), .unset, .unset] [(.int (2 : Int32))]) := fun t k => P0 t (by
    refine XS.iloadN X0.here hx rfl (hb hby d23_0) rfl ?_
    show Steps p.tables e below (s₁.setTop (mkF m 1 #[.val (.ref a1), .val (.int (0 : Int32)), .val (.int (2 : Int32)), .unset, .unset] [(.int (2 : Int32))])) _
    exact k)
  obtain ⟨_, _, ⟨T2, L2, k2, n2⟩, -, X2, ⟨Lc2, hQ2, l2, y2, z2⟩, st2⟩ := Jvm.LawKit.callS X0 hx (y := (⟨"java/lang/StringUTF16", "newBytesFor", "(I)[B"⟩ : MethodName)) hown (mvT hZ (hw _ (List.mem_of_getElem? (i := 98) rfl))) (mvT hZ (hw _ (List.mem_of_getElem? (i := 99) rfl))) (mvT hZ (hw _ (List.mem_of_getElem? (i := 62) rfl))) (mvT hZ (hw _ (List.mem_of_getElem? (i := 100) rfl))) (by decide) (backOf (W := 0) (rm24 l Z a0 hw [] h0 n0 Z0) hZ (hw _ (List.mem_of_getElem? (i := 100) rfl)) (hw _ (List.mem_of_getElem? (i := 62) rfl)) (by decide) (by decide)) (g := (mkF m 1 #[.val (.ref a1), .val (.int (0 : Int32)), .val (.int (2 : Int32)), .unset, .unset] [(.int (2 : Int32))])) rfl (by rw [hml]; rfl) (argsL := [(.int (2 : Int32))]) (rest := []) (lenOf pd_5 rfl) rfl (by show 2 * 0 + _ ≤ _; exact Nat.le_of_eq rfl) (hb hby d23_1) (fun _ _ => ⟨rfl, e0, (by decide : 0 + 1 ≤ _), (by decide : 0 + 4 ≤ _)⟩)
  dsimp only [Pt.U, Pt.locs, Pt.cells, Pt.slots] at X2 l2 y2 z2 st2 hQ2
  subst l2 y2 z2
  obtain ⟨b2, kk2, rfl, Nq2, Kq2, sz2, Vq2⟩ := hQ2
  have N2n := Fr.app N0 Nq2
  have ne_a1_b2 : a1 ≠ b2 := Nat.ne_of_lt (Nat.lt_of_lt_of_le V1.lt sz2)
  have g_b2 : n0 ≤ b2 := Nat.le_trans Z0 sz2
  have sz_b2 : h0.size ≤ b2 := Nat.le_trans K0.1 sz2
  have F3 := own_sta_keep0 AD Kq2
  have F4 := own_sta_keep0 HB Kq2
  have F5 := own_sta_keep0 LB Kq2
  have F6 := V1.keep Kq2 nin0
  have Z7 := Nat.le_trans Z0 Kq2.1
  have K8 := K0.trans Kq2 all0
  have P9 : own_Pr p.tables e below S0 T2 (mkF m 4 #[.val (.ref a1), .val (.int (0 : Int32)), .val (.int (2 : Int32)), .unset, .unset] [(.ref b2)]) := fun t k => P1 t (st2 _ k)
  have P10 : own_Pr p.tables e below S0 T2 (mkF m 19 #[.val (.ref a1), .val (.int (0 : Int32)), .val (.int (2 : Int32)), .val (.ref b2), .val (.int (0 : Int32))] [(.int (0 : Int32)), (.ref a1), (.int (0 : Int32)), (.ref b2)]) := fun t k => P9 t (by
    refine XS.astoreN X2.here hx rfl (hb hby d23_4) rfl rfl (l' := #[.val (.ref a1), .val (.int (0 : Int32)), .val (.int (2 : Int32)), .val (.ref b2), .unset]) rfl ?_
    show Steps p.tables e below (T2.setTop (mkF m 5 #[.val (.ref a1), .val (.int (0 : Int32)), .val (.int (2 : Int32)), .val (.ref b2), .unset] [])) _
    refine XS.iconst X2.here hx rfl (hb hby d23_5) ?_
    show Steps p.tables e below (T2.setTop (mkF m 6 #[.val (.ref a1), .val (.int (0 : Int32)), .val (.int (2 : Int32)), .val (.ref b2), .unset] [(.int (0 : Int32))])) _
    refine XS.istore X2.here hx rfl (hb hby d23_6) rfl (l' := #[.val (.ref a1), .val (.int (0 : Int32)), .val (.int (2 : Int32)), .val (.ref b2), .val (.int (0 : Int32))]) rfl ?_
    show Steps p.tables e below (T2.setTop (mkF m 8 #[.val (.ref a1), .val (.int (0 : Int32)), .val (.int (2 : Int32)), .val (.ref b2), .val (.int (0 : Int32))] [])) _
    refine XS.iload X2.here hx rfl (hb hby d23_8) rfl ?_
    show Steps p.tables e below (T2.setTop (mkF m 10 #[.val (.ref a1), .val (.int (0 : Int32)), .val (.int (2 : Int32)), .val (.ref b2), .val (.int (0 : Int32))] [(.int (0 : Int32))])) _
    refine XS.iloadN X2.here hx rfl (hb hby d23_10) rfl ?_
    show Steps p.tables e below (T2.setTop (mkF m 11 #[.val (.ref a1), .val (.int (0 : Int32)), .val (.int (2 : Int32)), .val (.ref b2), .val (.int (0 : Int32))] [(.int (2 : Int32)), (.int (0 : Int32))])) _
    refine XS.icmpNo X2.here hx rfl (hb hby d23_11) rfl (by decide) ?_
    show Steps p.tables e below (T2.setTop (mkF m 14 #[.val (.ref a1), .val (.int (0 : Int32)), .val (.int (2 : Int32)), .val (.ref b2), .val (.int (0 : Int32))] [])) _
    refine XS.aloadN X2.here hx rfl (hb hby d23_14) rfl rfl ?_
    show Steps p.tables e below (T2.setTop (mkF m 15 #[.val (.ref a1), .val (.int (0 : Int32)), .val (.int (2 : Int32)), .val (.ref b2), .val (.int (0 : Int32))] [(.ref b2)])) _
    refine XS.iload X2.here hx rfl (hb hby d23_15) rfl ?_
    show Steps p.tables e below (T2.setTop (mkF m 17 #[.val (.ref a1), .val (.int (0 : Int32)), .val (.int (2 : Int32)), .val (.ref b2), .val (.int (0 : Int32))] [(.int (0 : Int32)), (.ref b2)])) _
    refine XS.aloadN X2.here hx rfl (hb hby d23_17) rfl rfl ?_
    show Steps p.tables e below (T2.setTop (mkF m 18 #[.val (.ref a1), .val (.int (0 : Int32)), .val (.int (2 : Int32)), .val (.ref b2), .val (.int (0 : Int32))] [(.ref a1), (.int (0 : Int32)), (.ref b2)])) _
    refine XS.iloadN X2.here hx rfl (hb hby d23_18) rfl ?_
    show Steps p.tables e below (T2.setTop (mkF m 19 #[.val (.ref a1), .val (.int (0 : Int32)), .val (.int (2 : Int32)), .val (.ref b2), .val (.int (0 : Int32))] [(.int (0 : Int32)), (.ref a1), (.int (0 : Int32)), (.ref b2)])) _
    exact k)
  obtain ⟨cl11, Ar11, q11, S11, N11, H11, G11⟩ := id F6
  have hin11 : ¬ ((0 : Int32) < 0 ∨ cl11.slots.size ≤ ((0 : Int32)).toNatClampNeg) := inb_of S11 ⟨by decide, by decide⟩
  have P12 : own_Pr p.tables e below S0 T2 (mkF m 20 #[.val (.ref a1), .val (.int (0 : Int32)), .val (.int (2 : Int32)), .val (.ref b2), .val (.int (0 : Int32))] [(.int u0), (.int (0 : Int32)), (.ref b2)]) := fun t k => P10 t (by
    refine X2.caload hx (j := (0 : Int32)) (v := (.int u0)) (by exact Ar11.1) (State.isArrayOf_alike hZ.alike Ar11.2.1) Ar11.2.2 hin11 (H11.at hin11 rfl) (g := (mkF m 19 #[.val (.ref a1), .val (.int (0 : Int32)), .val (.int (2 : Int32)), .val (.ref b2), .val (.int (0 : Int32))] [(.int (0 : Int32)), (.ref a1), (.int (0 : Int32)), (.ref b2)])) rfl rfl (hb hby d23_19) _ ?_
    show Steps p.tables e below (T2.setTop (mkF m 20 #[.val (.ref a1), .val (.int (0 : Int32)), .val (.int (2 : Int32)), .val (.ref b2), .val (.int (0 : Int32))] [(.int u0), (.int (0 : Int32)), (.ref b2)])) _
    exact k)
  obtain ⟨_, _, ⟨T13, L13, k13, n13⟩, -, X13, ⟨Lc13, hQ13, l13, y13, z13⟩, st13⟩ := Jvm.LawKit.callS X2 hx (y := (⟨"java/lang/StringUTF16", "putChar", "([BII)V"⟩ : MethodName)) hown (mvT hZ (hw _ (List.mem_of_getElem? (i := 83) rfl))) (mvT hZ (hw _ (List.mem_of_getElem? (i := 84) rfl))) (mvT hZ (hw _ (List.mem_of_getElem? (i := 62) rfl))) (mvT hZ (hw _ (List.mem_of_getElem? (i := 85) rfl))) (by decide) (backOf (W := 0) (rm20_40 l Z a0 hw [] b2 u0 kk2 0 0 0 0 T2.heap n0 Z7 Vq2 g_b2 F3 F4 F5) hZ (hw _ (List.mem_of_getElem? (i := 85) rfl)) (hw _ (List.mem_of_getElem? (i := 62) rfl)) (by decide) (by decide)) (g := (mkF m 20 #[.val (.ref a1), .val (.int (0 : Int32)), .val (.int (2 : Int32)), .val (.ref b2), .val (.int (0 : Int32))] [(.int u0), (.int (0 : Int32)), (.ref b2)])) rfl (by rw [hml]; rfl) (argsL := [(.ref b2), (.int (0 : Int32)), (.int u0)]) (rest := []) (lenOf pd_4 rfl) rfl (by show 2 * 0 + _ ≤ _; exact Nat.le_of_eq rfl) (hb hby d23_20) (fun _ _ => ⟨rfl, rfl, (by decide : 1 + 0 ≤ _), (by decide : 4 + 0 ≤ _)⟩)
  dsimp only [Pt.U, Pt.locs, Pt.cells, Pt.slots] at X13 l13 y13 z13 st13 hQ13
  subst l13 y13 z13
  obtain ⟨rfl, Nq13, Kq13, Vq13⟩ := hQ13
  have N13n := Fr.app N2n Nq13
  have F14 := own_sta_keepA F3 Kq13 Vq2
  have F15 := own_sta_keepA F4 Kq13 Vq2
  have F16 := own_sta_keepA F5 Kq13 Vq2
  have F17 := F6.keep Kq13 (ninS ne_a1_b2 nin0)
  have Z19 := Nat.le_trans Z7 Kq13.1
  have K20 := K8.trans Kq13 (allS (Or.inr sz_b2) all0)
  have P21 : own_Pr p.tables e below S0 T13 (mkF m 23 #[.val (.ref a1), .val (.int (0 : Int32)), .val (.int (2 : Int32)), .val (.ref b2), .val (.int (0 : Int32))] []) := fun t k => P12 t (st13 _ k)
  have P22 : own_Pr p.tables e below S0 T13 (mkF m 19 #[.val (.ref a1), .val (.int (1 : Int32)), .val (.int (2 : Int32)), .val (.ref b2), .val (.int (1 : Int32))] [(.int (1 : Int32)), (.ref a1), (.int (1 : Int32)), (.ref b2)]) := fun t k => P21 t (by
    refine XS.iinc X13.here hx rfl (hb hby d23_23) rfl (l' := #[.val (.ref a1), .val (.int (1 : Int32)), .val (.int (2 : Int32)), .val (.ref b2), .val (.int (0 : Int32))]) rfl ?_
    show Steps p.tables e below (T13.setTop (mkF m 26 #[.val (.ref a1), .val (.int (1 : Int32)), .val (.int (2 : Int32)), .val (.ref b2), .val (.int (0 : Int32))] [])) _
    refine XS.iinc X13.here hx rfl (hb hby d23_26) rfl (l' := #[.val (.ref a1), .val (.int (1 : Int32)), .val (.int (2 : Int32)), .val (.ref b2), .val (.int (1 : Int32))]) rfl ?_
    show Steps p.tables e below (T13.setTop (mkF m 29 #[.val (.ref a1), .val (.int (1 : Int32)), .val (.int (2 : Int32)), .val (.ref b2), .val (.int (1 : Int32))] [])) _
    refine XS.goto X13.here hx rfl (pc0 := 29) (pc' := 8) rfl (hb hby d23_29) (by decide) (by decide) ?_
    show Steps p.tables e below (T13.setTop (mkF m 8 #[.val (.ref a1), .val (.int (1 : Int32)), .val (.int (2 : Int32)), .val (.ref b2), .val (.int (1 : Int32))] [])) _
    refine XS.iload X13.here hx rfl (hb hby d23_8) rfl ?_
    show Steps p.tables e below (T13.setTop (mkF m 10 #[.val (.ref a1), .val (.int (1 : Int32)), .val (.int (2 : Int32)), .val (.ref b2), .val (.int (1 : Int32))] [(.int (1 : Int32))])) _
    refine XS.iloadN X13.here hx rfl (hb hby d23_10) rfl ?_
    show Steps p.tables e below (T13.setTop (mkF m 11 #[.val (.ref a1), .val (.int (1 : Int32)), .val (.int (2 : Int32)), .val (.ref b2), .val (.int (1 : Int32))] [(.int (2 : Int32)), (.int (1 : Int32))])) _
    refine XS.icmpNo X13.here hx rfl (hb hby d23_11) rfl (by decide) ?_
    show Steps p.tables e below (T13.setTop (mkF m 14 #[.val (.ref a1), .val (.int (1 : Int32)), .val (.int (2 : Int32)), .val (.ref b2), .val (.int (1 : Int32))] [])) _
    refine XS.aloadN X13.here hx rfl (hb hby d23_14) rfl rfl ?_
    show Steps p.tables e below (T13.setTop (mkF m 15 #[.val (.ref a1), .val (.int (1 : Int32)), .val (.int (2 : Int32)), .val (.ref b2), .val (.int (1 : Int32))] [(.ref b2)])) _
    refine XS.iload X13.here hx rfl (hb hby d23_15) rfl ?_
    show Steps p.tables e below (T13.setTop (mkF m 17 #[.val (.ref a1), .val (.int (1 : Int32)), .val (.int (2 : Int32)), .val (.ref b2), .val (.int (1 : Int32))] [(.int (1 : Int32)), (.ref b2)])) _
    refine XS.aloadN X13.here hx rfl (hb hby d23_17) rfl rfl ?_
    show Steps p.tables e below (T13.setTop (mkF m 18 #[.val (.ref a1), .val (.int (1 : Int32)), .val (.int (2 : Int32)), .val (.ref b2), .val (.int (1 : Int32))] [(.ref a1), (.int (1 : Int32)), (.ref b2)])) _
    refine XS.iloadN X13.here hx rfl (hb hby d23_18) rfl ?_
    show Steps p.tables e below (T13.setTop (mkF m 19 #[.val (.ref a1), .val (.int (1 : Int32)), .val (.int (2 : Int32)), .val (.ref b2), .val (.int (1 : Int32))] [(.int (1 : Int32)), (.ref a1), (.int (1 : Int32)), (.ref b2)])) _
    exact k)
  obtain ⟨cl23, Ar23, q23, S23, N23, H23, G23⟩ := id F17
  have hin23 : ¬ ((1 : Int32) < 0 ∨ cl23.slots.size ≤ ((1 : Int32)).toNatClampNeg) := inb_of S23 ⟨by decide, by decide⟩
  have P24 : own_Pr p.tables e below S0 T13 (mkF m 20 #[.val (.ref a1), .val (.int (1 : Int32)), .val (.int (2 : Int32)), .val (.ref b2), .val (.int (1 : Int32))] [(.int u1), (.int (1 : Int32)), (.ref b2)]) := fun t k => P22 t (by
    refine X13.caload hx (j := (1 : Int32)) (v := (.int u1)) (by exact Ar23.1) (State.isArrayOf_alike hZ.alike Ar23.2.1) Ar23.2.2 hin23 (H23.at hin23 rfl) (g := (mkF m 19 #[.val (.ref a1), .val (.int (1 : Int32)), .val (.int (2 : Int32)), .val (.ref b2), .val (.int (1 : Int32))] [(.int (1 : Int32)), (.ref a1), (.int (1 : Int32)), (.ref b2)])) rfl rfl (hb hby d23_19) _ ?_
    show Steps p.tables e below (T13.setTop (mkF m 20 #[.val (.ref a1), .val (.int (1 : Int32)), .val (.int (2 : Int32)), .val (.ref b2), .val (.int (1 : Int32))] [(.int u1), (.int (1 : Int32)), (.ref b2)])) _
    exact k)
  obtain ⟨_, _, ⟨T25, L25, k25, n25⟩, -, X25, ⟨Lc25, hQ25, l25, y25, z25⟩, st25⟩ := Jvm.LawKit.callS X13 hx (y := (⟨"java/lang/StringUTF16", "putChar", "([BII)V"⟩ : MethodName)) hown (mvT hZ (hw _ (List.mem_of_getElem? (i := 83) rfl))) (mvT hZ (hw _ (List.mem_of_getElem? (i := 84) rfl))) (mvT hZ (hw _ (List.mem_of_getElem? (i := 62) rfl))) (mvT hZ (hw _ (List.mem_of_getElem? (i := 85) rfl))) (by decide) (backOf (W := 0) (rm20_41 l Z a0 hw [] b2 u1 kk2 (nar .byte ((u0 >>> ((0 : Int32) &&& 31)).toInt8.toInt32)) (nar .byte ((u0 >>> ((8 : Int32) &&& 31)).toInt8.toInt32)) 0 0 T13.heap n0 Z19 Vq13 g_b2 F14 F15 F16) hZ (hw _ (List.mem_of_getElem? (i := 85) rfl)) (hw _ (List.mem_of_getElem? (i := 62) rfl)) (by decide) (by decide)) (g := (mkF m 20 #[.val (.ref a1), .val (.int (1 : Int32)), .val (.int (2 : Int32)), .val (.ref b2), .val (.int (1 : Int32))] [(.int u1), (.int (1 : Int32)), (.ref b2)])) rfl (by rw [hml]; rfl) (argsL := [(.ref b2), (.int (1 : Int32)), (.int u1)]) (rest := []) (lenOf pd_4 rfl) rfl (by show 2 * 0 + _ ≤ _; exact Nat.le_of_eq rfl) (hb hby d23_20) (fun _ _ => ⟨rfl, rfl, (by decide : 1 + 0 ≤ _), (by decide : 4 + 0 ≤ _)⟩)
  dsimp only [Pt.U, Pt.locs, Pt.cells, Pt.slots] at X25 l25 y25 z25 st25 hQ25
  subst l25 y25 z25
  obtain ⟨rfl, Nq25, Kq25, Vq25⟩ := hQ25
  have N25n := Fr.app N13n Nq25
  have F26 := own_sta_keepA F14 Kq25 Vq13
  have F27 := own_sta_keepA F15 Kq25 Vq13
  have F28 := own_sta_keepA F16 Kq25 Vq13
  have F29 := F17.keep Kq25 (ninS ne_a1_b2 nin0)
  have Z31 := Nat.le_trans Z19 Kq25.1
  have K32 := K20.trans Kq25 (allS (Or.inr sz_b2) all0)
  have P33 : own_Pr p.tables e below S0 T25 (mkF m 23 #[.val (.ref a1), .val (.int (1 : Int32)), .val (.int (2 : Int32)), .val (.ref b2), .val (.int (1 : Int32))] []) := fun t k => P24 t (st25 _ k)
  have P34 : own_Pr p.tables e below S0 T25 (mkF m 33 #[.val (.ref a1), .val (.int (2 : Int32)), .val (.int (2 : Int32)), .val (.ref b2), .val (.int (2 : Int32))] [(.ref b2)]) := fun t k => P33 t (by
    refine XS.iinc X25.here hx rfl (hb hby d23_23) rfl (l' := #[.val (.ref a1), .val (.int (2 : Int32)), .val (.int (2 : Int32)), .val (.ref b2), .val (.int (1 : Int32))]) rfl ?_
    show Steps p.tables e below (T25.setTop (mkF m 26 #[.val (.ref a1), .val (.int (2 : Int32)), .val (.int (2 : Int32)), .val (.ref b2), .val (.int (1 : Int32))] [])) _
    refine XS.iinc X25.here hx rfl (hb hby d23_26) rfl (l' := #[.val (.ref a1), .val (.int (2 : Int32)), .val (.int (2 : Int32)), .val (.ref b2), .val (.int (2 : Int32))]) rfl ?_
    show Steps p.tables e below (T25.setTop (mkF m 29 #[.val (.ref a1), .val (.int (2 : Int32)), .val (.int (2 : Int32)), .val (.ref b2), .val (.int (2 : Int32))] [])) _
    refine XS.goto X25.here hx rfl (pc0 := 29) (pc' := 8) rfl (hb hby d23_29) (by decide) (by decide) ?_
    show Steps p.tables e below (T25.setTop (mkF m 8 #[.val (.ref a1), .val (.int (2 : Int32)), .val (.int (2 : Int32)), .val (.ref b2), .val (.int (2 : Int32))] [])) _
    refine XS.iload X25.here hx rfl (hb hby d23_8) rfl ?_
    show Steps p.tables e below (T25.setTop (mkF m 10 #[.val (.ref a1), .val (.int (2 : Int32)), .val (.int (2 : Int32)), .val (.ref b2), .val (.int (2 : Int32))] [(.int (2 : Int32))])) _
    refine XS.iloadN X25.here hx rfl (hb hby d23_10) rfl ?_
    show Steps p.tables e below (T25.setTop (mkF m 11 #[.val (.ref a1), .val (.int (2 : Int32)), .val (.int (2 : Int32)), .val (.ref b2), .val (.int (2 : Int32))] [(.int (2 : Int32)), (.int (2 : Int32))])) _
    refine XS.icmpYes X25.here hx rfl (pc0 := 11) (pc' := 32) rfl (hb hby d23_11) rfl (by decide) (by decide) (by decide) ?_
    show Steps p.tables e below (T25.setTop (mkF m 32 #[.val (.ref a1), .val (.int (2 : Int32)), .val (.int (2 : Int32)), .val (.ref b2), .val (.int (2 : Int32))] [])) _
    refine XS.aloadN X25.here hx rfl (hb hby d23_32) rfl rfl ?_
    show Steps p.tables e below (T25.setTop (mkF m 33 #[.val (.ref a1), .val (.int (2 : Int32)), .val (.int (2 : Int32)), .val (.ref b2), .val (.int (2 : Int32))] [(.ref b2)])) _
    exact k)
  obtain ⟨fs, hr, hrun, hended, hW, hsame⟩ := X25.leave (v := some (.ref b2)) (fun h => by rw [Bd.returns] at h; cases h)
  have fin : Steps p.tables e below S0 (T25.setFrames fs) := P34 _ (by
    jvm_step X25.here [X25.here.top, hx, (hb hby d23_33), X25.method', Bd.returns, Value.isRef, FieldType.isReference]
    first | (intro acts; rw [hr _ acts rfl rfl rfl]) | rw [hr _ _ rfl rfl rfl]
    exact Steps.refl _)
  rw [hS0] at fin
  refine ⟨_, _, fin, hrun, hended, _, _, rfl, ?_, ⟨_, rfl⟩, hW, hsame.mono (by decide) (by decide)⟩
  show own_QA Z 4 [(.int (nar .byte ((u0 >>> ((0 : Int32) &&& 31)).toInt8.toInt32))), (.int (nar .byte ((u0 >>> ((8 : Int32) &&& 31)).toInt8.toInt32))), (.int (nar .byte ((u1 >>> ((0 : Int32) &&& 31)).toInt8.toInt32))), (.int (nar .byte ((u1 >>> ((8 : Int32) &&& 31)).toInt8.toInt32)))] h0 n0 _ T25.heap _
  exact ⟨_, _, rfl, N25n, K32, sz_b2, Vq25⟩
def own_QB (Z : State) (a : Addr) (kk : ClassId) (r : Int32) (vs : List Value) (h0 : Heap) (n0 : Nat) (v : Option Value) (h : Heap) (L : List Loc) : Prop := v = some (.int r) ∧ Fr n0 L ∧ Keep h0 h [a] ∧ Arv Z h a kk .byte 2 vs (.int (0 : Int32))
def own_QC (Z : State) (a : Addr) (cod n : Int32) (vs : List Value) (h0 : Heap) (n0 : Nat) (v : Option Value) (h : Heap) (L : List Loc) : Prop := v = none ∧ Fr n0 L ∧ Keep h0 h [a] ∧ ∃ (b : Addr) (k : ClassId), Exa Z h a "java/lang/String" ∧ Fld Z h a "java/lang/String" "coder" "B" (.int cod) ∧ Fld Z h a "java/lang/String" "value" "[B" (.ref b) ∧ Arv Z h b k .byte n vs (.int 0)
def own_QD (Z : State) (a b : Addr) (cod : Int32) (h0 : Heap) (n0 : Nat) (v : Option Value) (h : Heap) (L : List Loc) : Prop := v = none ∧ Fr n0 L ∧ Keep h0 h [a] ∧ Exa Z h a "java/lang/String" ∧ Fld Z h a "java/lang/String" "coder" "B" (.int cod) ∧ Fld Z h a "java/lang/String" "value" "[B" (.ref b)
def own_QSc (Z : State) (n : Int32) (xs : List Int32) (h0 : Heap) (n0 : Nat) (v : Option Value) (h : Heap) (L : List Loc) : Prop := ∃ a, v = some (.ref a) ∧ Fr n0 L ∧ Keep h0 h [] ∧ own_Sc Z h a n xs
def own_QSu (Z : State) (n : Int32) (xs : List Int32) (h0 : Heap) (n0 : Nat) (v : Option Value) (h : Heap) (L : List Loc) : Prop := ∃ a, v = some (.ref a) ∧ Fr n0 L ∧ Keep h0 h [] ∧ own_Su Z h a n xs
def own_QM (Z : State) (n c0 c1 : Int32) (h0 : Heap) (n0 : Nat) (v : Option Value) (h : Heap) (L : List Loc) : Prop := ∃ a, v = some (.ref a) ∧ Fr n0 L ∧ Keep h0 h [] ∧ own_S Z h a n c0 c1
theorem d15_0 : decode jdk_52_method_21_code 0 = .ok (.iconst 0, 1) := by decide +kernel
theorem d15_1 : decode jdk_52_method_21_code 1 = .ok (.istore 5, 2) := by decide +kernel
theorem d15_3 : decode jdk_52_method_21_code 3 = .ok (.iload 5, 2) := by decide +kernel
theorem d15_5 : decode jdk_52_method_21_code 5 = .ok (.iload 4, 2) := by decide +kernel
theorem d15_7 : decode jdk_52_method_21_code 7 = .ok (.if_icmp .ge 37, 3) := by decide +kernel
theorem d15_10 : decode jdk_52_method_21_code 10 = .ok (.aload_n 0, 1) := by decide +kernel
theorem d15_11 : decode jdk_52_method_21_code 11 = .ok (.iload_n 1, 1) := by decide +kernel
theorem d15_12 : decode jdk_52_method_21_code 12 = .ok (.caload, 1) := by decide +kernel
theorem d15_13 : decode jdk_52_method_21_code 13 = .ok (.istore 6, 2) := by decide +kernel
theorem d15_15 : decode jdk_52_method_21_code 15 = .ok (.iload 6, 2) := by decide +kernel
theorem d15_17 : decode jdk_52_method_21_code 17 = .ok (.sipush 255, 3) := by decide +kernel
theorem d15_20 : decode jdk_52_method_21_code 20 = .ok (.if_icmp .le 6, 3) := by decide +kernel
theorem d15_26 : decode jdk_52_method_21_code 26 = .ok (.aload_n 2, 1) := by decide +kernel
theorem d15_27 : decode jdk_52_method_21_code 27 = .ok (.iload_n 3, 1) := by decide +kernel
theorem d15_28 : decode jdk_52_method_21_code 28 = .ok (.iload 6, 2) := by decide +kernel
theorem d15_30 : decode jdk_52_method_21_code 30 = .ok (.i2b, 1) := by decide +kernel
theorem d15_31 : decode jdk_52_method_21_code 31 = .ok (.bastore, 1) := by decide +kernel
theorem d15_32 : decode jdk_52_method_21_code 32 = .ok (.iinc 1 1, 3) := by decide +kernel
theorem d15_35 : decode jdk_52_method_21_code 35 = .ok (.iinc 3 1, 3) := by decide +kernel
theorem d15_38 : decode jdk_52_method_21_code 38 = .ok (.iinc 5 1, 3) := by decide +kernel
theorem d15_41 : decode jdk_52_method_21_code 41 = .ok (.goto (-38), 3) := by decide +kernel
theorem d15_44 : decode jdk_52_method_21_code 44 = .ok (.iload 4, 2) := by decide +kernel
theorem d15_46 : decode jdk_52_method_21_code 46 = .ok (.ireturn, 1) := by decide +kernel
theorem ef_15_l (m : MethodId) (a1 : Addr) (a3 : Addr) : entryFrame m #[(.ref a1), (.int (0 : Int32)), (.ref a3), (.int (0 : Int32)), (.int (2 : Int32))] 7 = mkF m 0 #[.val (.ref a1), .val (.int (0 : Int32)), .val (.ref a3), .val (.int (0 : Int32)), .val (.int (2 : Int32)), .unset, .unset] [] := by first | (simp [entryFrame, mkF, argsToLocals, Value.category]; done) | rfl
set_option maxRecDepth 65536 in
set_option maxHeartbeats 40000000 in
theorem rm15_l (l : Launch) (Z : State) (a0 : Array Value) (hw : ∀ d ∈ tables_1, d.before a0 Z = true) (ws : List Jvm.Cond) (a1 : Addr) (a3 : Addr) (k1 k3 : ClassId) (u0 u1 : Int32) (h0 : Heap) (n0 : Nat) (Z0 : n0 ≤ h0.size) (V1 : Arv Z h0 a1 k1 .char 2 [(.int u0), (.int u1)] (.int (0 : Int32))) (V3 : Arv Z h0 a3 k3 .byte 2 [(.int (0 : Int32)), (.int (0 : Int32))] (.int (0 : Int32))) (g_a3 : n0 ≤ a3) (ne13 : a1 ≠ a3) (hl0 : ¬ (255 : Int32) < u0) (hl1 : ¬ (255 : Int32) < u1) :
    MetFree l (⟨"java/lang/StringUTF16", "compress", "([CI[BII)I"⟩ : MethodName) (head1 (Jvm.Cond.code (⟨"java/lang/StringUTF16", "compress", "([CI[BII)I"⟩ : MethodName) jdk_52_method_21_code 7 (some .int) :: ws) ({ frames := 0, cells := 0, slots := 0, locals := 0 } : Room)) (fun a U => a = #[(.ref a1), (.int (0 : Int32)), (.ref a3), (.int (0 : Int32)), (.int (2 : Int32))] ∧ Z.Warmed39 U.vm ∧ U.heap = h0) (fun _ _ _ _ _ => True) (fun _ U o U' => ∃ v L, o = .returned v ∧ own_QB Z a3 k3 2 [(.int (nar .byte (u0.toInt8.toInt32))), (.int (nar .byte (u1.toInt8.toInt32)))] h0 n0 v U'.heap L ∧ FrameEnd U o U' L ({ frames := 0, cells := 0, slots := 0, locals := 0 } : Room).cells ({ frames := 0, cells := 0, slots := 0, locals := 0 } : Room).slots) := by
  refine MetFree.of_bodySF (plainFor_of_name pn_20) hisR ?_
  intro p e s m args below meth c s₁ Bd hml0 hP hK
  obtain ⟨rfl, hZ, hh⟩ := hP
  have hx := Bd.exec
  have hby := Bd.bytes
  have hml : c.maxLocals = 7 := hml0
  have hown : s.vm.findClass "java/lang/StringUTF16" = some m.cls := findClass_of_methodNamed Bd.named
  have hnm := (name_of_methodNamed Bd.named Bd.method).1
  have X0 : Stand p l e ({ frames := 0, cells := 0, slots := 0, locals := 0 } : Room) s m #[(.ref a1), (.int (0 : Int32)), (.ref a3), (.int (0 : Int32)), (.int (2 : Int32))] below meth c s₁ [] 0 0 := Stand.of_body Bd
  have e0 : s₁.heap = h0 := by rw [← hh, Bd.state]; rfl
  have N0 := Fr.nil n0
  obtain ⟨S0, hS0⟩ : ∃ z, z = s₁.setTop (entryFrame m #[(.ref a1), (.int (0 : Int32)), (.ref a3), (.int (0 : Int32)), (.int (2 : Int32))] 7) := ⟨_, rfl⟩
  have P0 : own_Pr p.tables e below S0 s₁ (mkF m 0 #[.val (.ref a1), .val (.int (0 : Int32)), .val (.ref a3), .val (.int (0 : Int32)), .val (.int (2 : Int32)), .unset, .unset] []) := fun t k => hS0 ▸ castTop (ef_15_l m a1 a3) k
  have K0 := Keep.refl h0 [a3]
  have P1 : own_Pr p.tables e below S0 s₁ (mkF m 12 #[.val (.ref a1), .val (.int (0 : Int32)), .val (.ref a3), .val (.int (0 : Int32)), .val (.int (2 : Int32)), .val (.int (0 : Int32)), .unset] [(.int (0 : Int32)), (.ref a1)]) := fun t k => P0 t (by
    refine XS.iconst X0.here hx rfl (hb hby d15_0) ?_
    show Steps p.tables e below (s₁.setTop (mkF m 1 #[.val (.ref a1), .val (.int (0 : Int32)), .val (.ref a3), .val (.int (0 : Int32)), .val (.int (2 : Int32)), .unset, .unset] [(.int (0 : Int32))])) _
    refine XS.istore X0.here hx rfl (hb hby d15_1) rfl (l' := #[.val (.ref a1), .val (.int (0 : Int32)), .val (.ref a3), .val (.int (0 : Int32)), .val (.int (2 : Int32)), .val (.int (0 : Int32)), .unset]) rfl ?_
    show Steps p.tables e below (s₁.setTop (mkF m 3 #[.val (.ref a1), .val (.int (0 : Int32)), .val (.ref a3), .val (.int (0 : Int32)), .val (.int (2 : Int32)), .val (.int (0 : Int32)), .unset] [])) _
    refine XS.iload X0.here hx rfl (hb hby d15_3) rfl ?_
    show Steps p.tables e below (s₁.setTop (mkF m 5 #[.val (.ref a1), .val (.int (0 : Int32)), .val (.ref a3), .val (.int (0 : Int32)), .val (.int (2 : Int32)), .val (.int (0 : Int32)), .unset] [(.int (0 : Int32))])) _
    refine XS.iload X0.here hx rfl (hb hby d15_5) rfl ?_
    show Steps p.tables e below (s₁.setTop (mkF m 7 #[.val (.ref a1), .val (.int (0 : Int32)), .val (.ref a3), .val (.int (0 : Int32)), .val (.int (2 : Int32)), .val (.int (0 : Int32)), .unset] [(.int (2 : Int32)), (.int (0 : Int32))])) _
    refine XS.icmpNo X0.here hx rfl (hb hby d15_7) rfl (by decide) ?_
    show Steps p.tables e below (s₁.setTop (mkF m 10 #[.val (.ref a1), .val (.int (0 : Int32)), .val (.ref a3), .val (.int (0 : Int32)), .val (.int (2 : Int32)), .val (.int (0 : Int32)), .unset] [])) _
    refine XS.aloadN X0.here hx rfl (hb hby d15_10) rfl rfl ?_
    show Steps p.tables e below (s₁.setTop (mkF m 11 #[.val (.ref a1), .val (.int (0 : Int32)), .val (.ref a3), .val (.int (0 : Int32)), .val (.int (2 : Int32)), .val (.int (0 : Int32)), .unset] [(.ref a1)])) _
    refine XS.iloadN X0.here hx rfl (hb hby d15_11) rfl ?_
    show Steps p.tables e below (s₁.setTop (mkF m 12 #[.val (.ref a1), .val (.int (0 : Int32)), .val (.ref a3), .val (.int (0 : Int32)), .val (.int (2 : Int32)), .val (.int (0 : Int32)), .unset] [(.int (0 : Int32)), (.ref a1)])) _
    exact k)
  obtain ⟨cl2, Ar2, q2, S2, N2, H2, G2⟩ := id V1
  have hin2 : ¬ ((0 : Int32) < 0 ∨ cl2.slots.size ≤ ((0 : Int32)).toNatClampNeg) := inb_of S2 ⟨by decide, by decide⟩
  have P3 : own_Pr p.tables e below S0 s₁ (mkF m 31 #[.val (.ref a1), .val (.int (0 : Int32)), .val (.ref a3), .val (.int (0 : Int32)), .val (.int (2 : Int32)), .val (.int (0 : Int32)), .val (.int u0)] [(.int (u0.toInt8.toInt32)), (.int (0 : Int32)), (.ref a3)]) := fun t k => P1 t (by
    refine X0.caload hx (j := (0 : Int32)) (v := (.int u0)) (by rw [e0]; exact Ar2.1) (State.isArrayOf_alike hZ.alike Ar2.2.1) Ar2.2.2 hin2 (H2.at hin2 rfl) (g := (mkF m 12 #[.val (.ref a1), .val (.int (0 : Int32)), .val (.ref a3), .val (.int (0 : Int32)), .val (.int (2 : Int32)), .val (.int (0 : Int32)), .unset] [(.int (0 : Int32)), (.ref a1)])) rfl rfl (hb hby d15_12) _ ?_
    show Steps p.tables e below (s₁.setTop (mkF m 13 #[.val (.ref a1), .val (.int (0 : Int32)), .val (.ref a3), .val (.int (0 : Int32)), .val (.int (2 : Int32)), .val (.int (0 : Int32)), .unset] [(.int u0)])) _
    refine XS.istore X0.here hx rfl (hb hby d15_13) rfl (l' := #[.val (.ref a1), .val (.int (0 : Int32)), .val (.ref a3), .val (.int (0 : Int32)), .val (.int (2 : Int32)), .val (.int (0 : Int32)), .val (.int u0)]) rfl ?_
    show Steps p.tables e below (s₁.setTop (mkF m 15 #[.val (.ref a1), .val (.int (0 : Int32)), .val (.ref a3), .val (.int (0 : Int32)), .val (.int (2 : Int32)), .val (.int (0 : Int32)), .val (.int u0)] [])) _
    refine XS.iload X0.here hx rfl (hb hby d15_15) rfl ?_
    show Steps p.tables e below (s₁.setTop (mkF m 17 #[.val (.ref a1), .val (.int (0 : Int32)), .val (.ref a3), .val (.int (0 : Int32)), .val (.int (2 : Int32)), .val (.int (0 : Int32)), .val (.int u0)] [(.int u0)])) _
    refine XS.sipush X0.here hx rfl (hb hby d15_17) ?_
    show Steps p.tables e below (s₁.setTop (mkF m 20 #[.val (.ref a1), .val (.int (0 : Int32)), .val (.ref a3), .val (.int (0 : Int32)), .val (.int (2 : Int32)), .val (.int (0 : Int32)), .val (.int u0)] [(.int (255 : Int32)), (.int u0)])) _
    refine XS.icmpYes X0.here hx rfl (pc0 := 20) (pc' := 26) rfl (hb hby d15_20) rfl (XT.ii_le_t hl0) (by decide) (by decide) ?_
    show Steps p.tables e below (s₁.setTop (mkF m 26 #[.val (.ref a1), .val (.int (0 : Int32)), .val (.ref a3), .val (.int (0 : Int32)), .val (.int (2 : Int32)), .val (.int (0 : Int32)), .val (.int u0)] [])) _
    refine XS.aloadN X0.here hx rfl (hb hby d15_26) rfl rfl ?_
    show Steps p.tables e below (s₁.setTop (mkF m 27 #[.val (.ref a1), .val (.int (0 : Int32)), .val (.ref a3), .val (.int (0 : Int32)), .val (.int (2 : Int32)), .val (.int (0 : Int32)), .val (.int u0)] [(.ref a3)])) _
    refine XS.iloadN X0.here hx rfl (hb hby d15_27) rfl ?_
    show Steps p.tables e below (s₁.setTop (mkF m 28 #[.val (.ref a1), .val (.int (0 : Int32)), .val (.ref a3), .val (.int (0 : Int32)), .val (.int (2 : Int32)), .val (.int (0 : Int32)), .val (.int u0)] [(.int (0 : Int32)), (.ref a3)])) _
    refine XS.iload X0.here hx rfl (hb hby d15_28) rfl ?_
    show Steps p.tables e below (s₁.setTop (mkF m 30 #[.val (.ref a1), .val (.int (0 : Int32)), .val (.ref a3), .val (.int (0 : Int32)), .val (.int (2 : Int32)), .val (.int (0 : Int32)), .val (.int u0)] [(.int u0), (.int (0 : Int32)), (.ref a3)])) _
    refine XS.i2b X0.here hx rfl (hb hby d15_30) rfl ?_
    show Steps p.tables e below (s₁.setTop (mkF m 31 #[.val (.ref a1), .val (.int (0 : Int32)), .val (.ref a3), .val (.int (0 : Int32)), .val (.int (2 : Int32)), .val (.int (0 : Int32)), .val (.int u0)] [(.int (u0.toInt8.toInt32)), (.int (0 : Int32)), (.ref a3)])) _
    exact k)
  obtain ⟨cl4, Ar4, q4, S4, N4, H4, G4⟩ := id V3
  have hin4 : ¬ ((0 : Int32) < 0 ∨ cl4.slots.size ≤ ((0 : Int32)).toNatClampNeg) := inb_of S4 ⟨by decide, by decide⟩
  obtain ⟨T4, h4, X4, e4, W4, st4⟩ := stB X0 hx hZ e0 Ar4 (j := (0 : Int32)) hin4 (g := (mkF m 31 #[.val (.ref a1), .val (.int (0 : Int32)), .val (.ref a3), .val (.int (0 : Int32)), .val (.int (2 : Int32)), .val (.int (0 : Int32)), .val (.int u0)] [(.int (u0.toInt8.toInt32)), (.int (0 : Int32)), (.ref a3)])) rfl rfl (hb hby d15_31)
  have V4 : Arv Z h4 a3 k3 .byte (2 : Int32) [(.int (nar .byte (u0.toInt8.toInt32))), (.int (0 : Int32))] (.int (0 : Int32)) := Arv.set Ar4 q4 S4 N4 H4 G4 (fits_nar_byte _) W4 0 rfl (Nat.le_of_ble_eq_true rfl)
  have F5 := V1.other W4 ne13
  have Z6 : n0 ≤ h4.size := by rw [W4.size]; exact Z0
  have NF4 := Fr.snoc X4 N0 g_a3
  have K7 := K0.wr W4 (Or.inl (List.mem_of_getElem? (i := 0) rfl))
  have P8 : own_Pr p.tables e below S0 T4 (mkF m 32 #[.val (.ref a1), .val (.int (0 : Int32)), .val (.ref a3), .val (.int (0 : Int32)), .val (.int (2 : Int32)), .val (.int (0 : Int32)), .val (.int u0)] []) := fun t k => P3 t (st4 _ k)
  have P9 : own_Pr p.tables e below S0 T4 (mkF m 12 #[.val (.ref a1), .val (.int (1 : Int32)), .val (.ref a3), .val (.int (1 : Int32)), .val (.int (2 : Int32)), .val (.int (1 : Int32)), .val (.int u0)] [(.int (1 : Int32)), (.ref a1)]) := fun t k => P8 t (by
    refine XS.iinc X4.here hx rfl (hb hby d15_32) rfl (l' := #[.val (.ref a1), .val (.int (1 : Int32)), .val (.ref a3), .val (.int (0 : Int32)), .val (.int (2 : Int32)), .val (.int (0 : Int32)), .val (.int u0)]) rfl ?_
    show Steps p.tables e below (T4.setTop (mkF m 35 #[.val (.ref a1), .val (.int (1 : Int32)), .val (.ref a3), .val (.int (0 : Int32)), .val (.int (2 : Int32)), .val (.int (0 : Int32)), .val (.int u0)] [])) _
    refine XS.iinc X4.here hx rfl (hb hby d15_35) rfl (l' := #[.val (.ref a1), .val (.int (1 : Int32)), .val (.ref a3), .val (.int (1 : Int32)), .val (.int (2 : Int32)), .val (.int (0 : Int32)), .val (.int u0)]) rfl ?_
    show Steps p.tables e below (T4.setTop (mkF m 38 #[.val (.ref a1), .val (.int (1 : Int32)), .val (.ref a3), .val (.int (1 : Int32)), .val (.int (2 : Int32)), .val (.int (0 : Int32)), .val (.int u0)] [])) _
    refine XS.iinc X4.here hx rfl (hb hby d15_38) rfl (l' := #[.val (.ref a1), .val (.int (1 : Int32)), .val (.ref a3), .val (.int (1 : Int32)), .val (.int (2 : Int32)), .val (.int (1 : Int32)), .val (.int u0)]) rfl ?_
    show Steps p.tables e below (T4.setTop (mkF m 41 #[.val (.ref a1), .val (.int (1 : Int32)), .val (.ref a3), .val (.int (1 : Int32)), .val (.int (2 : Int32)), .val (.int (1 : Int32)), .val (.int u0)] [])) _
    refine XS.goto X4.here hx rfl (pc0 := 41) (pc' := 3) rfl (hb hby d15_41) (by decide) (by decide) ?_
    show Steps p.tables e below (T4.setTop (mkF m 3 #[.val (.ref a1), .val (.int (1 : Int32)), .val (.ref a3), .val (.int (1 : Int32)), .val (.int (2 : Int32)), .val (.int (1 : Int32)), .val (.int u0)] [])) _
    refine XS.iload X4.here hx rfl (hb hby d15_3) rfl ?_
    show Steps p.tables e below (T4.setTop (mkF m 5 #[.val (.ref a1), .val (.int (1 : Int32)), .val (.ref a3), .val (.int (1 : Int32)), .val (.int (2 : Int32)), .val (.int (1 : Int32)), .val (.int u0)] [(.int (1 : Int32))])) _
    refine XS.iload X4.here hx rfl (hb hby d15_5) rfl ?_
    show Steps p.tables e below (T4.setTop (mkF m 7 #[.val (.ref a1), .val (.int (1 : Int32)), .val (.ref a3), .val (.int (1 : Int32)), .val (.int (2 : Int32)), .val (.int (1 : Int32)), .val (.int u0)] [(.int (2 : Int32)), (.int (1 : Int32))])) _
    refine XS.icmpNo X4.here hx rfl (hb hby d15_7) rfl (by decide) ?_
    show Steps p.tables e below (T4.setTop (mkF m 10 #[.val (.ref a1), .val (.int (1 : Int32)), .val (.ref a3), .val (.int (1 : Int32)), .val (.int (2 : Int32)), .val (.int (1 : Int32)), .val (.int u0)] [])) _
    refine XS.aloadN X4.here hx rfl (hb hby d15_10) rfl rfl ?_
    show Steps p.tables e below (T4.setTop (mkF m 11 #[.val (.ref a1), .val (.int (1 : Int32)), .val (.ref a3), .val (.int (1 : Int32)), .val (.int (2 : Int32)), .val (.int (1 : Int32)), .val (.int u0)] [(.ref a1)])) _
    refine XS.iloadN X4.here hx rfl (hb hby d15_11) rfl ?_
    show Steps p.tables e below (T4.setTop (mkF m 12 #[.val (.ref a1), .val (.int (1 : Int32)), .val (.ref a3), .val (.int (1 : Int32)), .val (.int (2 : Int32)), .val (.int (1 : Int32)), .val (.int u0)] [(.int (1 : Int32)), (.ref a1)])) _
    exact k)
  obtain ⟨cl10, Ar10, q10, S10, N10, H10, G10⟩ := id F5
  have hin10 : ¬ ((1 : Int32) < 0 ∨ cl10.slots.size ≤ ((1 : Int32)).toNatClampNeg) := inb_of S10 ⟨by decide, by decide⟩
  have P11 : own_Pr p.tables e below S0 T4 (mkF m 31 #[.val (.ref a1), .val (.int (1 : Int32)), .val (.ref a3), .val (.int (1 : Int32)), .val (.int (2 : Int32)), .val (.int (1 : Int32)), .val (.int u1)] [(.int (u1.toInt8.toInt32)), (.int (1 : Int32)), (.ref a3)]) := fun t k => P9 t (by
    refine X4.caload hx (j := (1 : Int32)) (v := (.int u1)) (by rw [e4]; exact Ar10.1) (State.isArrayOf_alike hZ.alike Ar10.2.1) Ar10.2.2 hin10 (H10.at hin10 rfl) (g := (mkF m 12 #[.val (.ref a1), .val (.int (1 : Int32)), .val (.ref a3), .val (.int (1 : Int32)), .val (.int (2 : Int32)), .val (.int (1 : Int32)), .val (.int u0)] [(.int (1 : Int32)), (.ref a1)])) rfl rfl (hb hby d15_12) _ ?_
    show Steps p.tables e below (T4.setTop (mkF m 13 #[.val (.ref a1), .val (.int (1 : Int32)), .val (.ref a3), .val (.int (1 : Int32)), .val (.int (2 : Int32)), .val (.int (1 : Int32)), .val (.int u0)] [(.int u1)])) _
    refine XS.istore X4.here hx rfl (hb hby d15_13) rfl (l' := #[.val (.ref a1), .val (.int (1 : Int32)), .val (.ref a3), .val (.int (1 : Int32)), .val (.int (2 : Int32)), .val (.int (1 : Int32)), .val (.int u1)]) rfl ?_
    show Steps p.tables e below (T4.setTop (mkF m 15 #[.val (.ref a1), .val (.int (1 : Int32)), .val (.ref a3), .val (.int (1 : Int32)), .val (.int (2 : Int32)), .val (.int (1 : Int32)), .val (.int u1)] [])) _
    refine XS.iload X4.here hx rfl (hb hby d15_15) rfl ?_
    show Steps p.tables e below (T4.setTop (mkF m 17 #[.val (.ref a1), .val (.int (1 : Int32)), .val (.ref a3), .val (.int (1 : Int32)), .val (.int (2 : Int32)), .val (.int (1 : Int32)), .val (.int u1)] [(.int u1)])) _
    refine XS.sipush X4.here hx rfl (hb hby d15_17) ?_
    show Steps p.tables e below (T4.setTop (mkF m 20 #[.val (.ref a1), .val (.int (1 : Int32)), .val (.ref a3), .val (.int (1 : Int32)), .val (.int (2 : Int32)), .val (.int (1 : Int32)), .val (.int u1)] [(.int (255 : Int32)), (.int u1)])) _
    refine XS.icmpYes X4.here hx rfl (pc0 := 20) (pc' := 26) rfl (hb hby d15_20) rfl (XT.ii_le_t hl1) (by decide) (by decide) ?_
    show Steps p.tables e below (T4.setTop (mkF m 26 #[.val (.ref a1), .val (.int (1 : Int32)), .val (.ref a3), .val (.int (1 : Int32)), .val (.int (2 : Int32)), .val (.int (1 : Int32)), .val (.int u1)] [])) _
    refine XS.aloadN X4.here hx rfl (hb hby d15_26) rfl rfl ?_
    show Steps p.tables e below (T4.setTop (mkF m 27 #[.val (.ref a1), .val (.int (1 : Int32)), .val (.ref a3), .val (.int (1 : Int32)), .val (.int (2 : Int32)), .val (.int (1 : Int32)), .val (.int u1)] [(.ref a3)])) _
    refine XS.iloadN X4.here hx rfl (hb hby d15_27) rfl ?_
    show Steps p.tables e below (T4.setTop (mkF m 28 #[.val (.ref a1), .val (.int (1 : Int32)), .val (.ref a3), .val (.int (1 : Int32)), .val (.int (2 : Int32)), .val (.int (1 : Int32)), .val (.int u1)] [(.int (1 : Int32)), (.ref a3)])) _
    refine XS.iload X4.here hx rfl (hb hby d15_28) rfl ?_
    show Steps p.tables e below (T4.setTop (mkF m 30 #[.val (.ref a1), .val (.int (1 : Int32)), .val (.ref a3), .val (.int (1 : Int32)), .val (.int (2 : Int32)), .val (.int (1 : Int32)), .val (.int u1)] [(.int u1), (.int (1 : Int32)), (.ref a3)])) _
    refine XS.i2b X4.here hx rfl (hb hby d15_30) rfl ?_
    show Steps p.tables e below (T4.setTop (mkF m 31 #[.val (.ref a1), .val (.int (1 : Int32)), .val (.ref a3), .val (.int (1 : Int32)), .val (.int (2 : Int32)), .val (.int (1 : Int32)), .val (.int u1)] [(.int (u1.toInt8.toInt32)), (.int (1 : Int32)), (.ref a3)])) _
    exact k)
  obtain ⟨cl12, Ar12, q12, S12, N12, H12, G12⟩ := id V4
  have hin12 : ¬ ((1 : Int32) < 0 ∨ cl12.slots.size ≤ ((1 : Int32)).toNatClampNeg) := inb_of S12 ⟨by decide, by decide⟩
  obtain ⟨T12, h12, X12, e12, W12, st12⟩ := stB X4 hx hZ e4 Ar12 (j := (1 : Int32)) hin12 (g := (mkF m 31 #[.val (.ref a1), .val (.int (1 : Int32)), .val (.ref a3), .val (.int (1 : Int32)), .val (.int (2 : Int32)), .val (.int (1 : Int32)), .val (.int u1)] [(.int (u1.toInt8.toInt32)), (.int (1 : Int32)), (.ref a3)])) rfl rfl (hb hby d15_31)
  have V12 : Arv Z h12 a3 k3 .byte (2 : Int32) [(.int (nar .byte (u0.toInt8.toInt32))), (.int (nar .byte (u1.toInt8.toInt32)))] (.int (0 : Int32)) := Arv.set Ar12 q12 S12 N12 H12 G12 (fits_nar_byte _) W12 1 rfl (Nat.le_of_ble_eq_true rfl)
  have F13 := F5.other W12 ne13
  have Z14 : n0 ≤ h12.size := by rw [W12.size]; exact Z6
  have NF12 := Fr.snoc X12 NF4 g_a3
  have K15 := K7.wr W12 (Or.inl (List.mem_of_getElem? (i := 0) rfl))
  have P16 : own_Pr p.tables e below S0 T12 (mkF m 32 #[.val (.ref a1), .val (.int (1 : Int32)), .val (.ref a3), .val (.int (1 : Int32)), .val (.int (2 : Int32)), .val (.int (1 : Int32)), .val (.int u1)] []) := fun t k => P11 t (st12 _ k)
  have P17 : own_Pr p.tables e below S0 T12 (mkF m 46 #[.val (.ref a1), .val (.int (2 : Int32)), .val (.ref a3), .val (.int (2 : Int32)), .val (.int (2 : Int32)), .val (.int (2 : Int32)), .val (.int u1)] [(.int (2 : Int32))]) := fun t k => P16 t (by
    refine XS.iinc X12.here hx rfl (hb hby d15_32) rfl (l' := #[.val (.ref a1), .val (.int (2 : Int32)), .val (.ref a3), .val (.int (1 : Int32)), .val (.int (2 : Int32)), .val (.int (1 : Int32)), .val (.int u1)]) rfl ?_
    show Steps p.tables e below (T12.setTop (mkF m 35 #[.val (.ref a1), .val (.int (2 : Int32)), .val (.ref a3), .val (.int (1 : Int32)), .val (.int (2 : Int32)), .val (.int (1 : Int32)), .val (.int u1)] [])) _
    refine XS.iinc X12.here hx rfl (hb hby d15_35) rfl (l' := #[.val (.ref a1), .val (.int (2 : Int32)), .val (.ref a3), .val (.int (2 : Int32)), .val (.int (2 : Int32)), .val (.int (1 : Int32)), .val (.int u1)]) rfl ?_
    show Steps p.tables e below (T12.setTop (mkF m 38 #[.val (.ref a1), .val (.int (2 : Int32)), .val (.ref a3), .val (.int (2 : Int32)), .val (.int (2 : Int32)), .val (.int (1 : Int32)), .val (.int u1)] [])) _
    refine XS.iinc X12.here hx rfl (hb hby d15_38) rfl (l' := #[.val (.ref a1), .val (.int (2 : Int32)), .val (.ref a3), .val (.int (2 : Int32)), .val (.int (2 : Int32)), .val (.int (2 : Int32)), .val (.int u1)]) rfl ?_
    show Steps p.tables e below (T12.setTop (mkF m 41 #[.val (.ref a1), .val (.int (2 : Int32)), .val (.ref a3), .val (.int (2 : Int32)), .val (.int (2 : Int32)), .val (.int (2 : Int32)), .val (.int u1)] [])) _
    refine XS.goto X12.here hx rfl (pc0 := 41) (pc' := 3) rfl (hb hby d15_41) (by decide) (by decide) ?_
    show Steps p.tables e below (T12.setTop (mkF m 3 #[.val (.ref a1), .val (.int (2 : Int32)), .val (.ref a3), .val (.int (2 : Int32)), .val (.int (2 : Int32)), .val (.int (2 : Int32)), .val (.int u1)] [])) _
    refine XS.iload X12.here hx rfl (hb hby d15_3) rfl ?_
    show Steps p.tables e below (T12.setTop (mkF m 5 #[.val (.ref a1), .val (.int (2 : Int32)), .val (.ref a3), .val (.int (2 : Int32)), .val (.int (2 : Int32)), .val (.int (2 : Int32)), .val (.int u1)] [(.int (2 : Int32))])) _
    refine XS.iload X12.here hx rfl (hb hby d15_5) rfl ?_
    show Steps p.tables e below (T12.setTop (mkF m 7 #[.val (.ref a1), .val (.int (2 : Int32)), .val (.ref a3), .val (.int (2 : Int32)), .val (.int (2 : Int32)), .val (.int (2 : Int32)), .val (.int u1)] [(.int (2 : Int32)), (.int (2 : Int32))])) _
    refine XS.icmpYes X12.here hx rfl (pc0 := 7) (pc' := 44) rfl (hb hby d15_7) rfl (by decide) (by decide) (by decide) ?_
    show Steps p.tables e below (T12.setTop (mkF m 44 #[.val (.ref a1), .val (.int (2 : Int32)), .val (.ref a3), .val (.int (2 : Int32)), .val (.int (2 : Int32)), .val (.int (2 : Int32)), .val (.int u1)] [])) _
    refine XS.iload X12.here hx rfl (hb hby d15_44) rfl ?_
    show Steps p.tables e below (T12.setTop (mkF m 46 #[.val (.ref a1), .val (.int (2 : Int32)), .val (.ref a3), .val (.int (2 : Int32)), .val (.int (2 : Int32)), .val (.int (2 : Int32)), .val (.int u1)] [(.int (2 : Int32))])) _
    exact k)
  obtain ⟨fs, hr, hrun, hended, hW, hsame⟩ := X12.leave (v := some (.int (2 : Int32))) (fun h => by rw [Bd.returns] at h; cases h)
  have fin : Steps p.tables e below S0 (T12.setFrames fs) := P17 _ (retI X12 hx Bd.returns (hb hby d15_46) hr)
  rw [hS0] at fin
  refine ⟨_, _, fin, hrun, hended, _, _, rfl, ?_, ⟨_, rfl⟩, hW, hsame.mono (by decide) (by decide)⟩
  show own_QB Z a3 k3 2 [(.int (nar .byte (u0.toInt8.toInt32))), (.int (nar .byte (u1.toInt8.toInt32)))] h0 n0 _ T12.heap _
  rw [e12]
  exact ⟨rfl, NF12, K15, V12⟩
theorem d15_23 : decode jdk_52_method_21_code 23 = .ok (.iload 5, 2) := by decide +kernel
theorem d15_25 : decode jdk_52_method_21_code 25 = .ok (.ireturn, 1) := by decide +kernel
theorem ef_15_m (m : MethodId) (a1 : Addr) (a3 : Addr) : entryFrame m #[(.ref a1), (.int (0 : Int32)), (.ref a3), (.int (0 : Int32)), (.int (2 : Int32))] 7 = mkF m 0 #[.val (.ref a1), .val (.int (0 : Int32)), .val (.ref a3), .val (.int (0 : Int32)), .val (.int (2 : Int32)), .unset, .unset] [] := by first | (simp [entryFrame, mkF, argsToLocals, Value.category]; done) | rfl
set_option maxRecDepth 65536 in
set_option maxHeartbeats 40000000 in
theorem rm15_m (l : Launch) (Z : State) (a0 : Array Value) (hw : ∀ d ∈ tables_1, d.before a0 Z = true) (ws : List Jvm.Cond) (a1 : Addr) (a3 : Addr) (k1 k3 : ClassId) (u0 u1 : Int32) (h0 : Heap) (n0 : Nat) (Z0 : n0 ≤ h0.size) (V1 : Arv Z h0 a1 k1 .char 2 [(.int u0), (.int u1)] (.int (0 : Int32))) (V3 : Arv Z h0 a3 k3 .byte 2 [(.int (0 : Int32)), (.int (0 : Int32))] (.int (0 : Int32))) (g_a3 : n0 ≤ a3) (ne13 : a1 ≠ a3) (hl0 : ¬ (255 : Int32) < u0) (hm1 : (255 : Int32) < u1) :
    MetFree l (⟨"java/lang/StringUTF16", "compress", "([CI[BII)I"⟩ : MethodName) (head1 (Jvm.Cond.code (⟨"java/lang/StringUTF16", "compress", "([CI[BII)I"⟩ : MethodName) jdk_52_method_21_code 7 (some .int) :: ws) ({ frames := 0, cells := 0, slots := 0, locals := 0 } : Room)) (fun a U => a = #[(.ref a1), (.int (0 : Int32)), (.ref a3), (.int (0 : Int32)), (.int (2 : Int32))] ∧ Z.Warmed39 U.vm ∧ U.heap = h0) (fun _ _ _ _ _ => True) (fun _ U o U' => ∃ v L, o = .returned v ∧ own_QB Z a3 k3 1 [(.int (nar .byte (u0.toInt8.toInt32))), (.int (0 : Int32))] h0 n0 v U'.heap L ∧ FrameEnd U o U' L ({ frames := 0, cells := 0, slots := 0, locals := 0 } : Room).cells ({ frames := 0, cells := 0, slots := 0, locals := 0 } : Room).slots) := by
  refine MetFree.of_bodySF (plainFor_of_name pn_20) hisR ?_
  intro p e s m args below meth c s₁ Bd hml0 hP hK
  obtain ⟨rfl, hZ, hh⟩ := hP
  have hx := Bd.exec
  have hby := Bd.bytes
  have hml : c.maxLocals = 7 := hml0
  have hown : s.vm.findClass "java/lang/StringUTF16" = some m.cls := findClass_of_methodNamed Bd.named
  have hnm := (name_of_methodNamed Bd.named Bd.method).1
  have X0 : Stand p l e ({ frames := 0, cells := 0, slots := 0, locals := 0 } : Room) s m #[(.ref a1), (.int (0 : Int32)), (.ref a3), (.int (0 : Int32)), (.int (2 : Int32))] below meth c s₁ [] 0 0 := Stand.of_body Bd
  have e0 : s₁.heap = h0 := by rw [← hh, Bd.state]; rfl
  have N0 := Fr.nil n0
  obtain ⟨S0, hS0⟩ : ∃ z, z = s₁.setTop (entryFrame m #[(.ref a1), (.int (0 : Int32)), (.ref a3), (.int (0 : Int32)), (.int (2 : Int32))] 7) := ⟨_, rfl⟩
  have P0 : own_Pr p.tables e below S0 s₁ (mkF m 0 #[.val (.ref a1), .val (.int (0 : Int32)), .val (.ref a3), .val (.int (0 : Int32)), .val (.int (2 : Int32)), .unset, .unset] []) := fun t k => hS0 ▸ castTop (ef_15_m m a1 a3) k
  have K0 := Keep.refl h0 [a3]
  have P1 : own_Pr p.tables e below S0 s₁ (mkF m 12 #[.val (.ref a1), .val (.int (0 : Int32)), .val (.ref a3), .val (.int (0 : Int32)), .val (.int (2 : Int32)), .val (.int (0 : Int32)), .unset] [(.int (0 : Int32)), (.ref a1)]) := fun t k => P0 t (by
    refine XS.iconst X0.here hx rfl (hb hby d15_0) ?_
    show Steps p.tables e below (s₁.setTop (mkF m 1 #[.val (.ref a1), .val (.int (0 : Int32)), .val (.ref a3), .val (.int (0 : Int32)), .val (.int (2 : Int32)), .unset, .unset] [(.int (0 : Int32))])) _
    refine XS.istore X0.here hx rfl (hb hby d15_1) rfl (l' := #[.val (.ref a1), .val (.int (0 : Int32)), .val (.ref a3), .val (.int (0 : Int32)), .val (.int (2 : Int32)), .val (.int (0 : Int32)), .unset]) rfl ?_
    show Steps p.tables e below (s₁.setTop (mkF m 3 #[.val (.ref a1), .val (.int (0 : Int32)), .val (.ref a3), .val (.int (0 : Int32)), .val (.int (2 : Int32)), .val (.int (0 : Int32)), .unset] [])) _
    refine XS.iload X0.here hx rfl (hb hby d15_3) rfl ?_
    show Steps p.tables e below (s₁.setTop (mkF m 5 #[.val (.ref a1), .val (.int (0 : Int32)), .val (.ref a3), .val (.int (0 : Int32)), .val (.int (2 : Int32)), .val (.int (0 : Int32)), .unset] [(.int (0 : Int32))])) _
    refine XS.iload X0.here hx rfl (hb hby d15_5) rfl ?_
    show Steps p.tables e below (s₁.setTop (mkF m 7 #[.val (.ref a1), .val (.int (0 : Int32)), .val (.ref a3), .val (.int (0 : Int32)), .val (.int (2 : Int32)), .val (.int (0 : Int32)), .unset] [(.int (2 : Int32)), (.int (0 : Int32))])) _
    refine XS.icmpNo X0.here hx rfl (hb hby d15_7) rfl (by decide) ?_
    show Steps p.tables e below (s₁.setTop (mkF m 10 #[.val (.ref a1), .val (.int (0 : Int32)), .val (.ref a3), .val (.int (0 : Int32)), .val (.int (2 : Int32)), .val (.int (0 : Int32)), .unset] [])) _
    refine XS.aloadN X0.here hx rfl (hb hby d15_10) rfl rfl ?_
    show Steps p.tables e below (s₁.setTop (mkF m 11 #[.val (.ref a1), .val (.int (0 : Int32)), .val (.ref a3), .val (.int (0 : Int32)), .val (.int (2 : Int32)), .val (.int (0 : Int32)), .unset] [(.ref a1)])) _
    refine XS.iloadN X0.here hx rfl (hb hby d15_11) rfl ?_
    show Steps p.tables e below (s₁.setTop (mkF m 12 #[.val (.ref a1), .val (.int (0 : Int32)), .val (.ref a3), .val (.int (0 : Int32)), .val (.int (2 : Int32)), .val (.int (0 : Int32)), .unset] [(.int (0 : Int32)), (.ref a1)])) _
    exact k)
  obtain ⟨cl2, Ar2, q2, S2, N2, H2, G2⟩ := id V1
  have hin2 : ¬ ((0 : Int32) < 0 ∨ cl2.slots.size ≤ ((0 : Int32)).toNatClampNeg) := inb_of S2 ⟨by decide, by decide⟩
  have P3 : own_Pr p.tables e below S0 s₁ (mkF m 31 #[.val (.ref a1), .val (.int (0 : Int32)), .val (.ref a3), .val (.int (0 : Int32)), .val (.int (2 : Int32)), .val (.int (0 : Int32)), .val (.int u0)] [(.int (u0.toInt8.toInt32)), (.int (0 : Int32)), (.ref a3)]) := fun t k => P1 t (by
    refine X0.caload hx (j := (0 : Int32)) (v := (.int u0)) (by rw [e0]; exact Ar2.1) (State.isArrayOf_alike hZ.alike Ar2.2.1) Ar2.2.2 hin2 (H2.at hin2 rfl) (g := (mkF m 12 #[.val (.ref a1), .val (.int (0 : Int32)), .val (.ref a3), .val (.int (0 : Int32)), .val (.int (2 : Int32)), .val (.int (0 : Int32)), .unset] [(.int (0 : Int32)), (.ref a1)])) rfl rfl (hb hby d15_12) _ ?_
    show Steps p.tables e below (s₁.setTop (mkF m 13 #[.val (.ref a1), .val (.int (0 : Int32)), .val (.ref a3), .val (.int (0 : Int32)), .val (.int (2 : Int32)), .val (.int (0 : Int32)), .unset] [(.int u0)])) _
    refine XS.istore X0.here hx rfl (hb hby d15_13) rfl (l' := #[.val (.ref a1), .val (.int (0 : Int32)), .val (.ref a3), .val (.int (0 : Int32)), .val (.int (2 : Int32)), .val (.int (0 : Int32)), .val (.int u0)]) rfl ?_
    show Steps p.tables e below (s₁.setTop (mkF m 15 #[.val (.ref a1), .val (.int (0 : Int32)), .val (.ref a3), .val (.int (0 : Int32)), .val (.int (2 : Int32)), .val (.int (0 : Int32)), .val (.int u0)] [])) _
    refine XS.iload X0.here hx rfl (hb hby d15_15) rfl ?_
    show Steps p.tables e below (s₁.setTop (mkF m 17 #[.val (.ref a1), .val (.int (0 : Int32)), .val (.ref a3), .val (.int (0 : Int32)), .val (.int (2 : Int32)), .val (.int (0 : Int32)), .val (.int u0)] [(.int u0)])) _
    refine XS.sipush X0.here hx rfl (hb hby d15_17) ?_
    show Steps p.tables e below (s₁.setTop (mkF m 20 #[.val (.ref a1), .val (.int (0 : Int32)), .val (.ref a3), .val (.int (0 : Int32)), .val (.int (2 : Int32)), .val (.int (0 : Int32)), .val (.int u0)] [(.int (255 : Int32)), (.int u0)])) _
    refine XS.icmpYes X0.here hx rfl (pc0 := 20) (pc' := 26) rfl (hb hby d15_20) rfl (XT.ii_le_t hl0) (by decide) (by decide) ?_
    show Steps p.tables e below (s₁.setTop (mkF m 26 #[.val (.ref a1), .val (.int (0 : Int32)), .val (.ref a3), .val (.int (0 : Int32)), .val (.int (2 : Int32)), .val (.int (0 : Int32)), .val (.int u0)] [])) _
    refine XS.aloadN X0.here hx rfl (hb hby d15_26) rfl rfl ?_
    show Steps p.tables e below (s₁.setTop (mkF m 27 #[.val (.ref a1), .val (.int (0 : Int32)), .val (.ref a3), .val (.int (0 : Int32)), .val (.int (2 : Int32)), .val (.int (0 : Int32)), .val (.int u0)] [(.ref a3)])) _
    refine XS.iloadN X0.here hx rfl (hb hby d15_27) rfl ?_
    show Steps p.tables e below (s₁.setTop (mkF m 28 #[.val (.ref a1), .val (.int (0 : Int32)), .val (.ref a3), .val (.int (0 : Int32)), .val (.int (2 : Int32)), .val (.int (0 : Int32)), .val (.int u0)] [(.int (0 : Int32)), (.ref a3)])) _
    refine XS.iload X0.here hx rfl (hb hby d15_28) rfl ?_
    show Steps p.tables e below (s₁.setTop (mkF m 30 #[.val (.ref a1), .val (.int (0 : Int32)), .val (.ref a3), .val (.int (0 : Int32)), .val (.int (2 : Int32)), .val (.int (0 : Int32)), .val (.int u0)] [(.int u0), (.int (0 : Int32)), (.ref a3)])) _
    refine XS.i2b X0.here hx rfl (hb hby d15_30) rfl ?_
    show Steps p.tables e below (s₁.setTop (mkF m 31 #[.val (.ref a1), .val (.int (0 : Int32)), .val (.ref a3), .val (.int (0 : Int32)), .val (.int (2 : Int32)), .val (.int (0 : Int32)), .val (.int u0)] [(.int (u0.toInt8.toInt32)), (.int (0 : Int32)), (.ref a3)])) _
    exact k)
  obtain ⟨cl4, Ar4, q4, S4, N4, H4, G4⟩ := id V3
  have hin4 : ¬ ((0 : Int32) < 0 ∨ cl4.slots.size ≤ ((0 : Int32)).toNatClampNeg) := inb_of S4 ⟨by decide, by decide⟩
  obtain ⟨T4, h4, X4, e4, W4, st4⟩ := stB X0 hx hZ e0 Ar4 (j := (0 : Int32)) hin4 (g := (mkF m 31 #[.val (.ref a1), .val (.int (0 : Int32)), .val (.ref a3), .val (.int (0 : Int32)), .val (.int (2 : Int32)), .val (.int (0 : Int32)), .val (.int u0)] [(.int (u0.toInt8.toInt32)), (.int (0 : Int32)), (.ref a3)])) rfl rfl (hb hby d15_31)
  have V4 : Arv Z h4 a3 k3 .byte (2 : Int32) [(.int (nar .byte (u0.toInt8.toInt32))), (.int (0 : Int32))] (.int (0 : Int32)) := Arv.set Ar4 q4 S4 N4 H4 G4 (fits_nar_byte _) W4 0 rfl (Nat.le_of_ble_eq_true rfl)
  have F5 := V1.other W4 ne13
  have Z6 : n0 ≤ h4.size := by rw [W4.size]; exact Z0
  have NF4 := Fr.snoc X4 N0 g_a3
  have K7 := K0.wr W4 (Or.inl (List.mem_of_getElem? (i := 0) rfl))
  have P8 : own_Pr p.tables e below S0 T4 (mkF m 32 #[.val (.ref a1), .val (.int (0 : Int32)), .val (.ref a3), .val (.int (0 : Int32)), .val (.int (2 : Int32)), .val (.int (0 : Int32)), .val (.int u0)] []) := fun t k => P3 t (st4 _ k)
  have P9 : own_Pr p.tables e below S0 T4 (mkF m 12 #[.val (.ref a1), .val (.int (1 : Int32)), .val (.ref a3), .val (.int (1 : Int32)), .val (.int (2 : Int32)), .val (.int (1 : Int32)), .val (.int u0)] [(.int (1 : Int32)), (.ref a1)]) := fun t k => P8 t (by
    refine XS.iinc X4.here hx rfl (hb hby d15_32) rfl (l' := #[.val (.ref a1), .val (.int (1 : Int32)), .val (.ref a3), .val (.int (0 : Int32)), .val (.int (2 : Int32)), .val (.int (0 : Int32)), .val (.int u0)]) rfl ?_
    show Steps p.tables e below (T4.setTop (mkF m 35 #[.val (.ref a1), .val (.int (1 : Int32)), .val (.ref a3), .val (.int (0 : Int32)), .val (.int (2 : Int32)), .val (.int (0 : Int32)), .val (.int u0)] [])) _
    refine XS.iinc X4.here hx rfl (hb hby d15_35) rfl (l' := #[.val (.ref a1), .val (.int (1 : Int32)), .val (.ref a3), .val (.int (1 : Int32)), .val (.int (2 : Int32)), .val (.int (0 : Int32)), .val (.int u0)]) rfl ?_
    show Steps p.tables e below (T4.setTop (mkF m 38 #[.val (.ref a1), .val (.int (1 : Int32)), .val (.ref a3), .val (.int (1 : Int32)), .val (.int (2 : Int32)), .val (.int (0 : Int32)), .val (.int u0)] [])) _
    refine XS.iinc X4.here hx rfl (hb hby d15_38) rfl (l' := #[.val (.ref a1), .val (.int (1 : Int32)), .val (.ref a3), .val (.int (1 : Int32)), .val (.int (2 : Int32)), .val (.int (1 : Int32)), .val (.int u0)]) rfl ?_
    show Steps p.tables e below (T4.setTop (mkF m 41 #[.val (.ref a1), .val (.int (1 : Int32)), .val (.ref a3), .val (.int (1 : Int32)), .val (.int (2 : Int32)), .val (.int (1 : Int32)), .val (.int u0)] [])) _
    refine XS.goto X4.here hx rfl (pc0 := 41) (pc' := 3) rfl (hb hby d15_41) (by decide) (by decide) ?_
    show Steps p.tables e below (T4.setTop (mkF m 3 #[.val (.ref a1), .val (.int (1 : Int32)), .val (.ref a3), .val (.int (1 : Int32)), .val (.int (2 : Int32)), .val (.int (1 : Int32)), .val (.int u0)] [])) _
    refine XS.iload X4.here hx rfl (hb hby d15_3) rfl ?_
    show Steps p.tables e below (T4.setTop (mkF m 5 #[.val (.ref a1), .val (.int (1 : Int32)), .val (.ref a3), .val (.int (1 : Int32)), .val (.int (2 : Int32)), .val (.int (1 : Int32)), .val (.int u0)] [(.int (1 : Int32))])) _
    refine XS.iload X4.here hx rfl (hb hby d15_5) rfl ?_
    show Steps p.tables e below (T4.setTop (mkF m 7 #[.val (.ref a1), .val (.int (1 : Int32)), .val (.ref a3), .val (.int (1 : Int32)), .val (.int (2 : Int32)), .val (.int (1 : Int32)), .val (.int u0)] [(.int (2 : Int32)), (.int (1 : Int32))])) _
    refine XS.icmpNo X4.here hx rfl (hb hby d15_7) rfl (by decide) ?_
    show Steps p.tables e below (T4.setTop (mkF m 10 #[.val (.ref a1), .val (.int (1 : Int32)), .val (.ref a3), .val (.int (1 : Int32)), .val (.int (2 : Int32)), .val (.int (1 : Int32)), .val (.int u0)] [])) _
    refine XS.aloadN X4.here hx rfl (hb hby d15_10) rfl rfl ?_
    show Steps p.tables e below (T4.setTop (mkF m 11 #[.val (.ref a1), .val (.int (1 : Int32)), .val (.ref a3), .val (.int (1 : Int32)), .val (.int (2 : Int32)), .val (.int (1 : Int32)), .val (.int u0)] [(.ref a1)])) _
    refine XS.iloadN X4.here hx rfl (hb hby d15_11) rfl ?_
    show Steps p.tables e below (T4.setTop (mkF m 12 #[.val (.ref a1), .val (.int (1 : Int32)), .val (.ref a3), .val (.int (1 : Int32)), .val (.int (2 : Int32)), .val (.int (1 : Int32)), .val (.int u0)] [(.int (1 : Int32)), (.ref a1)])) _
    exact k)
  obtain ⟨cl10, Ar10, q10, S10, N10, H10, G10⟩ := id F5
  have hin10 : ¬ ((1 : Int32) < 0 ∨ cl10.slots.size ≤ ((1 : Int32)).toNatClampNeg) := inb_of S10 ⟨by decide, by decide⟩
  have P11 : own_Pr p.tables e below S0 T4 (mkF m 25 #[.val (.ref a1), .val (.int (1 : Int32)), .val (.ref a3), .val (.int (1 : Int32)), .val (.int (2 : Int32)), .val (.int (1 : Int32)), .val (.int u1)] [(.int (1 : Int32))]) := fun t k => P9 t (by
    refine X4.caload hx (j := (1 : Int32)) (v := (.int u1)) (by rw [e4]; exact Ar10.1) (State.isArrayOf_alike hZ.alike Ar10.2.1) Ar10.2.2 hin10 (H10.at hin10 rfl) (g := (mkF m 12 #[.val (.ref a1), .val (.int (1 : Int32)), .val (.ref a3), .val (.int (1 : Int32)), .val (.int (2 : Int32)), .val (.int (1 : Int32)), .val (.int u0)] [(.int (1 : Int32)), (.ref a1)])) rfl rfl (hb hby d15_12) _ ?_
    show Steps p.tables e below (T4.setTop (mkF m 13 #[.val (.ref a1), .val (.int (1 : Int32)), .val (.ref a3), .val (.int (1 : Int32)), .val (.int (2 : Int32)), .val (.int (1 : Int32)), .val (.int u0)] [(.int u1)])) _
    refine XS.istore X4.here hx rfl (hb hby d15_13) rfl (l' := #[.val (.ref a1), .val (.int (1 : Int32)), .val (.ref a3), .val (.int (1 : Int32)), .val (.int (2 : Int32)), .val (.int (1 : Int32)), .val (.int u1)]) rfl ?_
    show Steps p.tables e below (T4.setTop (mkF m 15 #[.val (.ref a1), .val (.int (1 : Int32)), .val (.ref a3), .val (.int (1 : Int32)), .val (.int (2 : Int32)), .val (.int (1 : Int32)), .val (.int u1)] [])) _
    refine XS.iload X4.here hx rfl (hb hby d15_15) rfl ?_
    show Steps p.tables e below (T4.setTop (mkF m 17 #[.val (.ref a1), .val (.int (1 : Int32)), .val (.ref a3), .val (.int (1 : Int32)), .val (.int (2 : Int32)), .val (.int (1 : Int32)), .val (.int u1)] [(.int u1)])) _
    refine XS.sipush X4.here hx rfl (hb hby d15_17) ?_
    show Steps p.tables e below (T4.setTop (mkF m 20 #[.val (.ref a1), .val (.int (1 : Int32)), .val (.ref a3), .val (.int (1 : Int32)), .val (.int (2 : Int32)), .val (.int (1 : Int32)), .val (.int u1)] [(.int (255 : Int32)), (.int u1)])) _
    refine XS.icmpNo X4.here hx rfl (hb hby d15_20) rfl (XT.ii_le_f hm1) ?_
    show Steps p.tables e below (T4.setTop (mkF m 23 #[.val (.ref a1), .val (.int (1 : Int32)), .val (.ref a3), .val (.int (1 : Int32)), .val (.int (2 : Int32)), .val (.int (1 : Int32)), .val (.int u1)] [])) _
    refine XS.iload X4.here hx rfl (hb hby d15_23) rfl ?_
    show Steps p.tables e below (T4.setTop (mkF m 25 #[.val (.ref a1), .val (.int (1 : Int32)), .val (.ref a3), .val (.int (1 : Int32)), .val (.int (2 : Int32)), .val (.int (1 : Int32)), .val (.int u1)] [(.int (1 : Int32))])) _
    exact k)
  obtain ⟨fs, hr, hrun, hended, hW, hsame⟩ := X4.leave (v := some (.int (1 : Int32))) (fun h => by rw [Bd.returns] at h; cases h)
  have fin : Steps p.tables e below S0 (T4.setFrames fs) := P11 _ (retI X4 hx Bd.returns (hb hby d15_25) hr)
  rw [hS0] at fin
  refine ⟨_, _, fin, hrun, hended, _, _, rfl, ?_, ⟨_, rfl⟩, hW, hsame.mono (by decide) (by decide)⟩
  show own_QB Z a3 k3 1 [(.int (nar .byte (u0.toInt8.toInt32))), (.int (0 : Int32))] h0 n0 _ T4.heap _
  rw [e4]
  exact ⟨rfl, NF4, K7, V4⟩
theorem ef_15_h (m : MethodId) (a1 : Addr) (a3 : Addr) : entryFrame m #[(.ref a1), (.int (0 : Int32)), (.ref a3), (.int (0 : Int32)), (.int (2 : Int32))] 7 = mkF m 0 #[.val (.ref a1), .val (.int (0 : Int32)), .val (.ref a3), .val (.int (0 : Int32)), .val (.int (2 : Int32)), .unset, .unset] [] := by first | (simp [entryFrame, mkF, argsToLocals, Value.category]; done) | rfl
set_option maxRecDepth 65536 in
set_option maxHeartbeats 40000000 in
theorem rm15_h (l : Launch) (Z : State) (a0 : Array Value) (hw : ∀ d ∈ tables_1, d.before a0 Z = true) (ws : List Jvm.Cond) (a1 : Addr) (a3 : Addr) (k1 k3 : ClassId) (u0 u1 : Int32) (h0 : Heap) (n0 : Nat) (Z0 : n0 ≤ h0.size) (V1 : Arv Z h0 a1 k1 .char 2 [(.int u0), (.int u1)] (.int (0 : Int32))) (V3 : Arv Z h0 a3 k3 .byte 2 [(.int (0 : Int32)), (.int (0 : Int32))] (.int (0 : Int32))) (g_a3 : n0 ≤ a3) (ne13 : a1 ≠ a3) (hm0 : (255 : Int32) < u0) :
    MetFree l (⟨"java/lang/StringUTF16", "compress", "([CI[BII)I"⟩ : MethodName) (head1 (Jvm.Cond.code (⟨"java/lang/StringUTF16", "compress", "([CI[BII)I"⟩ : MethodName) jdk_52_method_21_code 7 (some .int) :: ws) ({ frames := 0, cells := 0, slots := 0, locals := 0 } : Room)) (fun a U => a = #[(.ref a1), (.int (0 : Int32)), (.ref a3), (.int (0 : Int32)), (.int (2 : Int32))] ∧ Z.Warmed39 U.vm ∧ U.heap = h0) (fun _ _ _ _ _ => True) (fun _ U o U' => ∃ v L, o = .returned v ∧ own_QB Z a3 k3 0 [(.int (0 : Int32)), (.int (0 : Int32))] h0 n0 v U'.heap L ∧ FrameEnd U o U' L ({ frames := 0, cells := 0, slots := 0, locals := 0 } : Room).cells ({ frames := 0, cells := 0, slots := 0, locals := 0 } : Room).slots) := by
  refine MetFree.of_bodySF (plainFor_of_name pn_20) hisR ?_
  intro p e s m args below meth c s₁ Bd hml0 hP hK
  obtain ⟨rfl, hZ, hh⟩ := hP
  have hx := Bd.exec
  have hby := Bd.bytes
  have hml : c.maxLocals = 7 := hml0
  have hown : s.vm.findClass "java/lang/StringUTF16" = some m.cls := findClass_of_methodNamed Bd.named
  have hnm := (name_of_methodNamed Bd.named Bd.method).1
  have X0 : Stand p l e ({ frames := 0, cells := 0, slots := 0, locals := 0 } : Room) s m #[(.ref a1), (.int (0 : Int32)), (.ref a3), (.int (0 : Int32)), (.int (2 : Int32))] below meth c s₁ [] 0 0 := Stand.of_body Bd
  have e0 : s₁.heap = h0 := by rw [← hh, Bd.state]; rfl
  have N0 := Fr.nil n0
  obtain ⟨S0, hS0⟩ : ∃ z, z = s₁.setTop (entryFrame m #[(.ref a1), (.int (0 : Int32)), (.ref a3), (.int (0 : Int32)), (.int (2 : Int32))] 7) := ⟨_, rfl⟩
  have P0 : own_Pr p.tables e below S0 s₁ (mkF m 0 #[.val (.ref a1), .val (.int (0 : Int32)), .val (.ref a3), .val (.int (0 : Int32)), .val (.int (2 : Int32)), .unset, .unset] []) := fun t k => hS0 ▸ castTop (ef_15_h m a1 a3) k
  have K0 := Keep.refl h0 [a3]
  have P1 : own_Pr p.tables e below S0 s₁ (mkF m 12 #[.val (.ref a1), .val (.int (0 : Int32)), .val (.ref a3), .val (.int (0 : Int32)), .val (.int (2 : Int32)), .val (.int (0 : Int32)), .unset] [(.int (0 : Int32)), (.ref a1)]) := fun t k => P0 t (by
    refine XS.iconst X0.here hx rfl (hb hby d15_0) ?_
    show Steps p.tables e below (s₁.setTop (mkF m 1 #[.val (.ref a1), .val (.int (0 : Int32)), .val (.ref a3), .val (.int (0 : Int32)), .val (.int (2 : Int32)), .unset, .unset] [(.int (0 : Int32))])) _
    refine XS.istore X0.here hx rfl (hb hby d15_1) rfl (l' := #[.val (.ref a1), .val (.int (0 : Int32)), .val (.ref a3), .val (.int (0 : Int32)), .val (.int (2 : Int32)), .val (.int (0 : Int32)), .unset]) rfl ?_
    show Steps p.tables e below (s₁.setTop (mkF m 3 #[.val (.ref a1), .val (.int (0 : Int32)), .val (.ref a3), .val (.int (0 : Int32)), .val (.int (2 : Int32)), .val (.int (0 : Int32)), .unset] [])) _
    refine XS.iload X0.here hx rfl (hb hby d15_3) rfl ?_
    show Steps p.tables e below (s₁.setTop (mkF m 5 #[.val (.ref a1), .val (.int (0 : Int32)), .val (.ref a3), .val (.int (0 : Int32)), .val (.int (2 : Int32)), .val (.int (0 : Int32)), .unset] [(.int (0 : Int32))])) _
    refine XS.iload X0.here hx rfl (hb hby d15_5) rfl ?_
    show Steps p.tables e below (s₁.setTop (mkF m 7 #[.val (.ref a1), .val (.int (0 : Int32)), .val (.ref a3), .val (.int (0 : Int32)), .val (.int (2 : Int32)), .val (.int (0 : Int32)), .unset] [(.int (2 : Int32)), (.int (0 : Int32))])) _
    refine XS.icmpNo X0.here hx rfl (hb hby d15_7) rfl (by decide) ?_
    show Steps p.tables e below (s₁.setTop (mkF m 10 #[.val (.ref a1), .val (.int (0 : Int32)), .val (.ref a3), .val (.int (0 : Int32)), .val (.int (2 : Int32)), .val (.int (0 : Int32)), .unset] [])) _
    refine XS.aloadN X0.here hx rfl (hb hby d15_10) rfl rfl ?_
    show Steps p.tables e below (s₁.setTop (mkF m 11 #[.val (.ref a1), .val (.int (0 : Int32)), .val (.ref a3), .val (.int (0 : Int32)), .val (.int (2 : Int32)), .val (.int (0 : Int32)), .unset] [(.ref a1)])) _
    refine XS.iloadN X0.here hx rfl (hb hby d15_11) rfl ?_
    show Steps p.tables e below (s₁.setTop (mkF m 12 #[.val (.ref a1), .val (.int (0 : Int32)), .val (.ref a3), .val (.int (0 : Int32)), .val (.int (2 : Int32)), .val (.int (0 : Int32)), .unset] [(.int (0 : Int32)), (.ref a1)])) _
    exact k)
  obtain ⟨cl2, Ar2, q2, S2, N2, H2, G2⟩ := id V1
  have hin2 : ¬ ((0 : Int32) < 0 ∨ cl2.slots.size ≤ ((0 : Int32)).toNatClampNeg) := inb_of S2 ⟨by decide, by decide⟩
  have P3 : own_Pr p.tables e below S0 s₁ (mkF m 25 #[.val (.ref a1), .val (.int (0 : Int32)), .val (.ref a3), .val (.int (0 : Int32)), .val (.int (2 : Int32)), .val (.int (0 : Int32)), .val (.int u0)] [(.int (0 : Int32))]) := fun t k => P1 t (by
    refine X0.caload hx (j := (0 : Int32)) (v := (.int u0)) (by rw [e0]; exact Ar2.1) (State.isArrayOf_alike hZ.alike Ar2.2.1) Ar2.2.2 hin2 (H2.at hin2 rfl) (g := (mkF m 12 #[.val (.ref a1), .val (.int (0 : Int32)), .val (.ref a3), .val (.int (0 : Int32)), .val (.int (2 : Int32)), .val (.int (0 : Int32)), .unset] [(.int (0 : Int32)), (.ref a1)])) rfl rfl (hb hby d15_12) _ ?_
    show Steps p.tables e below (s₁.setTop (mkF m 13 #[.val (.ref a1), .val (.int (0 : Int32)), .val (.ref a3), .val (.int (0 : Int32)), .val (.int (2 : Int32)), .val (.int (0 : Int32)), .unset] [(.int u0)])) _
    refine XS.istore X0.here hx rfl (hb hby d15_13) rfl (l' := #[.val (.ref a1), .val (.int (0 : Int32)), .val (.ref a3), .val (.int (0 : Int32)), .val (.int (2 : Int32)), .val (.int (0 : Int32)), .val (.int u0)]) rfl ?_
    show Steps p.tables e below (s₁.setTop (mkF m 15 #[.val (.ref a1), .val (.int (0 : Int32)), .val (.ref a3), .val (.int (0 : Int32)), .val (.int (2 : Int32)), .val (.int (0 : Int32)), .val (.int u0)] [])) _
    refine XS.iload X0.here hx rfl (hb hby d15_15) rfl ?_
    show Steps p.tables e below (s₁.setTop (mkF m 17 #[.val (.ref a1), .val (.int (0 : Int32)), .val (.ref a3), .val (.int (0 : Int32)), .val (.int (2 : Int32)), .val (.int (0 : Int32)), .val (.int u0)] [(.int u0)])) _
    refine XS.sipush X0.here hx rfl (hb hby d15_17) ?_
    show Steps p.tables e below (s₁.setTop (mkF m 20 #[.val (.ref a1), .val (.int (0 : Int32)), .val (.ref a3), .val (.int (0 : Int32)), .val (.int (2 : Int32)), .val (.int (0 : Int32)), .val (.int u0)] [(.int (255 : Int32)), (.int u0)])) _
    refine XS.icmpNo X0.here hx rfl (hb hby d15_20) rfl (XT.ii_le_f hm0) ?_
    show Steps p.tables e below (s₁.setTop (mkF m 23 #[.val (.ref a1), .val (.int (0 : Int32)), .val (.ref a3), .val (.int (0 : Int32)), .val (.int (2 : Int32)), .val (.int (0 : Int32)), .val (.int u0)] [])) _
    refine XS.iload X0.here hx rfl (hb hby d15_23) rfl ?_
    show Steps p.tables e below (s₁.setTop (mkF m 25 #[.val (.ref a1), .val (.int (0 : Int32)), .val (.ref a3), .val (.int (0 : Int32)), .val (.int (2 : Int32)), .val (.int (0 : Int32)), .val (.int u0)] [(.int (0 : Int32))])) _
    exact k)
  obtain ⟨fs, hr, hrun, hended, hW, hsame⟩ := X0.leave (v := some (.int (0 : Int32))) (fun h => by rw [Bd.returns] at h; cases h)
  have fin : Steps p.tables e below S0 (s₁.setFrames fs) := P3 _ (retI X0 hx Bd.returns (hb hby d15_25) hr)
  rw [hS0] at fin
  refine ⟨_, _, fin, hrun, hended, _, _, rfl, ?_, ⟨_, rfl⟩, hW, hsame.mono (by decide) (by decide)⟩
  show own_QB Z a3 k3 0 [(.int (0 : Int32)), (.int (0 : Int32))] h0 n0 _ s₁.heap _
  rw [e0]
  exact ⟨rfl, N0, K0, V3⟩
theorem d14_0 : decode jdk_52_method_16_code 0 = .ok (.iload_n 2, 1) := by decide +kernel
theorem d14_1 : decode jdk_52_method_16_code 1 = .ok (.newarray .byte, 2) := by decide +kernel
theorem d14_3 : decode jdk_52_method_16_code 3 = .ok (.astore_n 3, 1) := by decide +kernel
theorem d14_4 : decode jdk_52_method_16_code 4 = .ok (.aload_n 0, 1) := by decide +kernel
theorem d14_5 : decode jdk_52_method_16_code 5 = .ok (.iload_n 1, 1) := by decide +kernel
theorem d14_6 : decode jdk_52_method_16_code 6 = .ok (.aload_n 3, 1) := by decide +kernel
theorem d14_7 : decode jdk_52_method_16_code 7 = .ok (.iconst 0, 1) := by decide +kernel
theorem d14_8 : decode jdk_52_method_16_code 8 = .ok (.iload_n 2, 1) := by decide +kernel
theorem d14_9 : decode jdk_52_method_16_code 9 = .ok (.invokestatic 115, 3) := by decide +kernel
theorem d14_12 : decode jdk_52_method_16_code 12 = .ok (.istore 4, 2) := by decide +kernel
theorem d14_14 : decode jdk_52_method_16_code 14 = .ok (.iload 4, 2) := by decide +kernel
theorem d14_16 : decode jdk_52_method_16_code 16 = .ok (.iload_n 2, 1) := by decide +kernel
theorem d14_17 : decode jdk_52_method_16_code 17 = .ok (.if_icmp .eq 40, 3) := by decide +kernel
theorem d14_57 : decode jdk_52_method_16_code 57 = .ok (.aload_n 3, 1) := by decide +kernel
theorem d14_58 : decode jdk_52_method_16_code 58 = .ok (.areturn, 1) := by decide +kernel
theorem pd_6 : parseMethodDescriptor "([CI[BII)I" = some ⟨[(.array .char), .int, (.array .byte), .int, .int], some .int⟩ := by decide +kernel
theorem ef_14_l (m : MethodId) (a1 : Addr) : entryFrame m #[(.ref a1), (.int (0 : Int32)), (.int (2 : Int32))] 6 = mkF m 0 #[.val (.ref a1), .val (.int (0 : Int32)), .val (.int (2 : Int32)), .unset, .unset, .unset] [] := by first | (simp [entryFrame, mkF, argsToLocals, Value.category]; done) | rfl
set_option maxRecDepth 65536 in
set_option maxHeartbeats 40000000 in
theorem rm14_l (l : Launch) (Z : State) (a0 : Array Value) (hw : ∀ d ∈ tables_1, d.before a0 Z = true) (ws : List Jvm.Cond) (a1 : Addr) (k1 : ClassId) (u0 u1 : Int32) (h0 : Heap) (n0 : Nat) (Z0 : n0 ≤ h0.size) (V1 : Arv Z h0 a1 k1 .char 2 [(.int u0), (.int u1)] (.int (0 : Int32))) (hl0 : ¬ (255 : Int32) < u0) (hl1 : ¬ (255 : Int32) < u1) :
    MetFree l (⟨"java/lang/StringUTF16", "compress", "([CII)[B"⟩ : MethodName) (head1 (Jvm.Cond.code (⟨"java/lang/StringUTF16", "compress", "([CII)[B"⟩ : MethodName) jdk_52_method_16_code 6 (some (.array .byte)) :: ws) ({ frames := 1, cells := 1, slots := 2, locals := 18 } : Room)) (fun a U => a = #[(.ref a1), (.int (0 : Int32)), (.int (2 : Int32))] ∧ Z.Warmed39 U.vm ∧ U.heap = h0) (fun _ _ _ _ _ => True) (fun _ U o U' => ∃ v L, o = .returned v ∧ own_QA Z 2 [(.int (nar .byte (u0.toInt8.toInt32))), (.int (nar .byte (u1.toInt8.toInt32)))] h0 n0 v U'.heap L ∧ FrameEnd U o U' L ({ frames := 1, cells := 1, slots := 2, locals := 18 } : Room).cells ({ frames := 1, cells := 1, slots := 2, locals := 18 } : Room).slots) := by
  refine MetFree.of_bodySF (plainFor_of_name pn_20) hisR ?_
  intro p e s m args below meth c s₁ Bd hml0 hP hK
  obtain ⟨rfl, hZ, hh⟩ := hP
  have hx := Bd.exec
  have hby := Bd.bytes
  have hml : c.maxLocals = 6 := hml0
  have hown : s.vm.findClass "java/lang/StringUTF16" = some m.cls := findClass_of_methodNamed Bd.named
  have hnm := (name_of_methodNamed Bd.named Bd.method).1
  have X0 : Stand p l e ({ frames := 1, cells := 1, slots := 2, locals := 18 } : Room) s m #[(.ref a1), (.int (0 : Int32)), (.int (2 : Int32))] below meth c s₁ [] 0 0 := Stand.of_body Bd
  have e0 : s₁.heap = h0 := by rw [← hh, Bd.state]; rfl
  have N0 := Fr.nil n0
  obtain ⟨S0, hS0⟩ : ∃ z, z = s₁.setTop (entryFrame m #[(.ref a1), (.int (0 : Int32)), (.int (2 : Int32))] 6) := ⟨_, rfl⟩
  have P0 : own_Pr p.tables e below S0 s₁ (mkF m 0 #[.val (.ref a1), .val (.int (0 : Int32)), .val (.int (2 : Int32)), .unset, .unset, .unset] []) := fun t k => hS0 ▸ castTop (ef_14_l m a1) k
  have K0 := Keep.refl h0 []
  have P1 : own_Pr p.tables e below S0 s₁ (mkF m 1 #[.val (.ref a1), .val (.int (0 : Int32)), .val (.int (2 : Int32)), .unset, .unset, .unset] [(.int (2 : Int32))]) := fun t k => P0 t (by
    refine XS.iloadN X0.here hx rfl (hb hby d14_0) rfl ?_
    show Steps p.tables e below (s₁.setTop (mkF m 1 #[.val (.ref a1), .val (.int (0 : Int32)), .val (.int (2 : Int32)), .unset, .unset, .unset] [(.int (2 : Int32))])) _
    exact k)
  obtain ⟨T2, h2, k2, X2, e2, E2, A2, st2⟩ := newP X0 hx hZ (hw _ (List.mem_of_getElem? (i := 19) rfl)) e0 (g := (mkF m 1 #[.val (.ref a1), .val (.int (0 : Int32)), .val (.int (2 : Int32)), .unset, .unset, .unset] [(.int (2 : Int32))])) rfl (hb hby d14_1) rfl (by decide) (cap := 2) (by decide) (by decide) (by decide) (by decide)
  obtain ⟨b2, g2⟩ : ∃ z, z = h0.size := ⟨_, rfl⟩
  rw [← g2] at A2 st2
  have g_b2 : n0 ≤ b2 := Nat.le_trans Z0 (Nat.le_of_eq g2.symm)
  have sz_b2 : h0.size ≤ b2 := Nat.le_trans K0.1 (Nat.le_of_eq g2.symm)
  have ne_a1_b2 : a1 ≠ b2 := Nat.ne_of_lt (Nat.lt_of_lt_of_le V1.lt (Nat.le_of_eq g2.symm))
  have F3 := V1.ext E2
  have Z4 : n0 ≤ h2.size := Nat.le_trans Z0 E2.1
  have K5 := K0.ext E2
  have F6 : Arv Z h2 b2 k2 .byte (2 : Int32) [(.int (0 : Int32)), (.int (0 : Int32))] (.int (0 : Int32)) := (Arv.new A2 (by decide)).pad (pad_rep [] (.int (0 : Int32)) 2)
  have P7 : own_Pr p.tables e below S0 T2 (mkF m 3 #[.val (.ref a1), .val (.int (0 : Int32)), .val (.int (2 : Int32)), .unset, .unset, .unset] [(.ref b2)]) := fun t k => P1 t (st2 _ k)
  have P8 : own_Pr p.tables e below S0 T2 (mkF m 9 #[.val (.ref a1), .val (.int (0 : Int32)), .val (.int (2 : Int32)), .val (.ref b2), .unset, .unset] [(.int (2 : Int32)), (.int (0 : Int32)), (.ref b2), (.int (0 : Int32)), (.ref a1)]) := fun t k => P7 t (by
    refine XS.astoreN X2.here hx rfl (hb hby d14_3) rfl rfl (l' := #[.val (.ref a1), .val (.int (0 : Int32)), .val (.int (2 : Int32)), .val (.ref b2), .unset, .unset]) rfl ?_
    show Steps p.tables e below (T2.setTop (mkF m 4 #[.val (.ref a1), .val (.int (0 : Int32)), .val (.int (2 : Int32)), .val (.ref b2), .unset, .unset] [])) _
    refine XS.aloadN X2.here hx rfl (hb hby d14_4) rfl rfl ?_
    show Steps p.tables e below (T2.setTop (mkF m 5 #[.val (.ref a1), .val (.int (0 : Int32)), .val (.int (2 : Int32)), .val (.ref b2), .unset, .unset] [(.ref a1)])) _
    refine XS.iloadN X2.here hx rfl (hb hby d14_5) rfl ?_
    show Steps p.tables e below (T2.setTop (mkF m 6 #[.val (.ref a1), .val (.int (0 : Int32)), .val (.int (2 : Int32)), .val (.ref b2), .unset, .unset] [(.int (0 : Int32)), (.ref a1)])) _
    refine XS.aloadN X2.here hx rfl (hb hby d14_6) rfl rfl ?_
    show Steps p.tables e below (T2.setTop (mkF m 7 #[.val (.ref a1), .val (.int (0 : Int32)), .val (.int (2 : Int32)), .val (.ref b2), .unset, .unset] [(.ref b2), (.int (0 : Int32)), (.ref a1)])) _
    refine XS.iconst X2.here hx rfl (hb hby d14_7) ?_
    show Steps p.tables e below (T2.setTop (mkF m 8 #[.val (.ref a1), .val (.int (0 : Int32)), .val (.int (2 : Int32)), .val (.ref b2), .unset, .unset] [(.int (0 : Int32)), (.ref b2), (.int (0 : Int32)), (.ref a1)])) _
    refine XS.iloadN X2.here hx rfl (hb hby d14_8) rfl ?_
    show Steps p.tables e below (T2.setTop (mkF m 9 #[.val (.ref a1), .val (.int (0 : Int32)), .val (.int (2 : Int32)), .val (.ref b2), .unset, .unset] [(.int (2 : Int32)), (.int (0 : Int32)), (.ref b2), (.int (0 : Int32)), (.ref a1)])) _
    exact k)
  obtain ⟨_, _, ⟨T9, L9, k9, n9⟩, -, X9, ⟨Lc9, hQ9, l9, y9, z9⟩, st9⟩ := Jvm.LawKit.callS X2 hx (y := (⟨"java/lang/StringUTF16", "compress", "([CI[BII)I"⟩ : MethodName)) hown (mvT hZ (hw _ (List.mem_of_getElem? (i := 64) rfl))) (mvT hZ (hw _ (List.mem_of_getElem? (i := 65) rfl))) (mvT hZ (hw _ (List.mem_of_getElem? (i := 62) rfl))) (mvT hZ (hw _ (List.mem_of_getElem? (i := 66) rfl))) (by decide) (backOf (W := 0) (rm15_l l Z a0 hw [] a1 b2 k1 k2 u0 u1 h2 n0 Z4 F3 F6 g_b2 ne_a1_b2 hl0 hl1) hZ (hw _ (List.mem_of_getElem? (i := 66) rfl)) (hw _ (List.mem_of_getElem? (i := 62) rfl)) (by decide) (by decide)) (g := (mkF m 9 #[.val (.ref a1), .val (.int (0 : Int32)), .val (.int (2 : Int32)), .val (.ref b2), .unset, .unset] [(.int (2 : Int32)), (.int (0 : Int32)), (.ref b2), (.int (0 : Int32)), (.ref a1)])) rfl (by rw [hml]; rfl) (argsL := [(.ref a1), (.int (0 : Int32)), (.ref b2), (.int (0 : Int32)), (.int (2 : Int32))]) (rest := []) (lenOf pd_6 rfl) rfl (by show 2 * 0 + _ ≤ _; exact Nat.le_of_eq rfl) (hb hby d14_9) (fun _ _ => ⟨rfl, e2, (by decide : 1 + 0 ≤ _), (by decide : 2 + 0 ≤ _)⟩)
  dsimp only [Pt.U, Pt.locs, Pt.cells, Pt.slots] at X9 l9 y9 z9 st9 hQ9
  subst l9 y9 z9
  obtain ⟨rfl, Nq9, Kq9, Vq9⟩ := hQ9
  have N9n := Fr.app N0 Nq9
  have F10 := F3.keep Kq9 (ninS ne_a1_b2 nin0)
  have Z12 := Nat.le_trans Z4 Kq9.1
  have K13 := K5.trans Kq9 (allS (Or.inr sz_b2) all0)
  have P14 : own_Pr p.tables e below S0 T9 (mkF m 12 #[.val (.ref a1), .val (.int (0 : Int32)), .val (.int (2 : Int32)), .val (.ref b2), .unset, .unset] [(.int (2 : Int32))]) := fun t k => P8 t (st9 _ k)
  have P15 : own_Pr p.tables e below S0 T9 (mkF m 58 #[.val (.ref a1), .val (.int (0 : Int32)), .val (.int (2 : Int32)), .val (.ref b2), .val (.int (2 : Int32)), .unset] [(.ref b2)]) := fun t k => P14 t (by
    refine XS.istore X9.here hx rfl (hb hby d14_12) rfl (l' := #[.val (.ref a1), .val (.int (0 : Int32)), .val (.int (2 : Int32)), .val (.ref b2), .val (.int (2 : Int32)), .unset]) rfl ?_
    show Steps p.tables e below (T9.setTop (mkF m 14 #[.val (.ref a1), .val (.int (0 : Int32)), .val (.int (2 : Int32)), .val (.ref b2), .val (.int (2 : Int32)), .unset] [])) _
    refine XS.iload X9.here hx rfl (hb hby d14_14) rfl ?_
    show Steps p.tables e below (T9.setTop (mkF m 16 #[.val (.ref a1), .val (.int (0 : Int32)), .val (.int (2 : Int32)), .val (.ref b2), .val (.int (2 : Int32)), .unset] [(.int (2 : Int32))])) _
    refine XS.iloadN X9.here hx rfl (hb hby d14_16) rfl ?_
    show Steps p.tables e below (T9.setTop (mkF m 17 #[.val (.ref a1), .val (.int (0 : Int32)), .val (.int (2 : Int32)), .val (.ref b2), .val (.int (2 : Int32)), .unset] [(.int (2 : Int32)), (.int (2 : Int32))])) _
    refine XS.icmpYes X9.here hx rfl (pc0 := 17) (pc' := 57) rfl (hb hby d14_17) rfl (by decide) (by decide) (by decide) ?_
    show Steps p.tables e below (T9.setTop (mkF m 57 #[.val (.ref a1), .val (.int (0 : Int32)), .val (.int (2 : Int32)), .val (.ref b2), .val (.int (2 : Int32)), .unset] [])) _
    refine XS.aloadN X9.here hx rfl (hb hby d14_57) rfl rfl ?_
    show Steps p.tables e below (T9.setTop (mkF m 58 #[.val (.ref a1), .val (.int (0 : Int32)), .val (.int (2 : Int32)), .val (.ref b2), .val (.int (2 : Int32)), .unset] [(.ref b2)])) _
    exact k)
  obtain ⟨fs, hr, hrun, hended, hW, hsame⟩ := X9.leave (v := some (.ref b2)) (fun h => by rw [Bd.returns] at h; cases h)
  have fin : Steps p.tables e below S0 (T9.setFrames fs) := P15 _ (by
    jvm_step X9.here [X9.here.top, hx, (hb hby d14_58), X9.method', Bd.returns, Value.isRef, FieldType.isReference]
    first | (intro acts; rw [hr _ acts rfl rfl rfl]) | rw [hr _ _ rfl rfl rfl]
    exact Steps.refl _)
  rw [hS0] at fin
  refine ⟨_, _, fin, hrun, hended, _, _, rfl, ?_, ⟨_, rfl⟩, hW, hsame.mono (by decide) (by decide)⟩
  show own_QA Z 2 [(.int (nar .byte (u0.toInt8.toInt32))), (.int (nar .byte (u1.toInt8.toInt32)))] h0 n0 _ T9.heap _
  exact ⟨_, _, rfl, N9n, K13, sz_b2, Vq9⟩
theorem d14_20 : decode jdk_52_method_16_code 20 = .ok (.aload_n 0, 1) := by decide +kernel
theorem d14_21 : decode jdk_52_method_16_code 21 = .ok (.iload_n 1, 1) := by decide +kernel
theorem d14_22 : decode jdk_52_method_16_code 22 = .ok (.iload_n 2, 1) := by decide +kernel
theorem d14_23 : decode jdk_52_method_16_code 23 = .ok (.invokestatic 119, 3) := by decide +kernel
theorem d14_26 : decode jdk_52_method_16_code 26 = .ok (.astore 5, 2) := by decide +kernel
theorem d14_28 : decode jdk_52_method_16_code 28 = .ok (.aload 5, 2) := by decide +kernel
theorem d14_30 : decode jdk_52_method_16_code 30 = .ok (.iload 4, 2) := by decide +kernel
theorem d14_32 : decode jdk_52_method_16_code 32 = .ok (.invokestatic 71, 3) := by decide +kernel
theorem d14_35 : decode jdk_52_method_16_code 35 = .ok (.sipush 255, 3) := by decide +kernel
theorem d14_38 : decode jdk_52_method_16_code 38 = .ok (.if_icmp .gt 16, 3) := by decide +kernel
theorem d14_54 : decode jdk_52_method_16_code 54 = .ok (.aload 5, 2) := by decide +kernel
theorem d14_56 : decode jdk_52_method_16_code 56 = .ok (.areturn, 1) := by decide +kernel
theorem pd_7 : parseMethodDescriptor "([CII)[B" = some ⟨[(.array .char), .int, .int], some (.array .byte)⟩ := by decide +kernel
theorem pd_8 : parseMethodDescriptor "([BI)C" = some ⟨[(.array .byte), .int], some .char⟩ := by decide +kernel
theorem ef_14_u (m : MethodId) (a1 : Addr) : entryFrame m #[(.ref a1), (.int (0 : Int32)), (.int (2 : Int32))] 6 = mkF m 0 #[.val (.ref a1), .val (.int (0 : Int32)), .val (.int (2 : Int32)), .unset, .unset, .unset] [] := by first | (simp [entryFrame, mkF, argsToLocals, Value.category]; done) | rfl
set_option maxRecDepth 65536 in
set_option maxHeartbeats 40000000 in
theorem rm14_u (l : Launch) (Z : State) (a0 : Array Value) (hw : ∀ d ∈ tables_1, d.before a0 Z = true) (ws : List Jvm.Cond) (a1 : Addr) (k1 : ClassId) (u0 u1 : Int32) (h0 : Heap) (n0 : Nat) (Z0 : n0 ≤ h0.size) (V1 : Arv Z h0 a1 k1 .char 2 [(.int u0), (.int u1)] (.int (0 : Int32))) (AD : Sta Z h0 "java/lang/StringUTF16" "$assertionsDisabled" "Z" (.int (1 : Int32))) (HB : Sta Z h0 "java/lang/StringUTF16" "HI_BYTE_SHIFT" "I" (.int (0 : Int32))) (LB : Sta Z h0 "java/lang/StringUTF16" "LO_BYTE_SHIFT" "I" (.int (8 : Int32))) (hU : (255 : Int32) < u0 ∨ (¬ (255 : Int32) < u0 ∧ (255 : Int32) < u1)) (hc0 : own_ch u0) (hc1 : own_ch u1) :
    MetFree l (⟨"java/lang/StringUTF16", "compress", "([CII)[B"⟩ : MethodName) (head1 (Jvm.Cond.code (⟨"java/lang/StringUTF16", "compress", "([CII)[B"⟩ : MethodName) jdk_52_method_16_code 6 (some (.array .byte)) :: ws) ({ frames := 3, cells := 2, slots := 6, locals := 40 } : Room)) (fun a U => a = #[(.ref a1), (.int (0 : Int32)), (.int (2 : Int32))] ∧ Z.Warmed39 U.vm ∧ U.heap = h0) (fun _ _ _ _ _ => True) (fun _ U o U' => ∃ v L, o = .returned v ∧ own_QA Z 4 [(.int (nar .byte ((u0 >>> ((0 : Int32) &&& 31)).toInt8.toInt32))), (.int (nar .byte ((u0 >>> ((8 : Int32) &&& 31)).toInt8.toInt32))), (.int (nar .byte ((u1 >>> ((0 : Int32) &&& 31)).toInt8.toInt32))), (.int (nar .byte ((u1 >>> ((8 : Int32) &&& 31)).toInt8.toInt32)))] h0 n0 v U'.heap L ∧ FrameEnd U o U' L ({ frames := 3, cells := 2, slots := 6, locals := 40 } : Room).cells ({ frames := 3, cells := 2, slots := 6, locals := 40 } : Room).slots) := by
  refine MetFree.of_bodySF (plainFor_of_name pn_20) hisR ?_
  intro p e s m args below meth c s₁ Bd hml0 hP hK
  obtain ⟨rfl, hZ, hh⟩ := hP
  have hx := Bd.exec
  have hby := Bd.bytes
  have hml : c.maxLocals = 6 := hml0
  have hown : s.vm.findClass "java/lang/StringUTF16" = some m.cls := findClass_of_methodNamed Bd.named
  have hnm := (name_of_methodNamed Bd.named Bd.method).1
  have X0 : Stand p l e ({ frames := 3, cells := 2, slots := 6, locals := 40 } : Room) s m #[(.ref a1), (.int (0 : Int32)), (.int (2 : Int32))] below meth c s₁ [] 0 0 := Stand.of_body Bd
  have e0 : s₁.heap = h0 := by rw [← hh, Bd.state]; rfl
  have N0 := Fr.nil n0
  obtain ⟨S0, hS0⟩ : ∃ z, z = s₁.setTop (entryFrame m #[(.ref a1), (.int (0 : Int32)), (.int (2 : Int32))] 6) := ⟨_, rfl⟩
  have P0 : own_Pr p.tables e below S0 s₁ (mkF m 0 #[.val (.ref a1), .val (.int (0 : Int32)), .val (.int (2 : Int32)), .unset, .unset, .unset] []) := fun t k => hS0 ▸ castTop (ef_14_u m a1) k
  have K0 := Keep.refl h0 []
  have P1 : own_Pr p.tables e below S0 s₁ (mkF m 1 #[.val (.ref a1), .val (.int (0 : Int32)), .val (.int (2 : Int32)), .unset, .unset, .unset] [(.int (2 : Int32))]) := fun t k => P0 t (by
    refine XS.iloadN X0.here hx rfl (hb hby d14_0) rfl ?_
    show Steps p.tables e below (s₁.setTop (mkF m 1 #[.val (.ref a1), .val (.int (0 : Int32)), .val (.int (2 : Int32)), .unset, .unset, .unset] [(.int (2 : Int32))])) _
    exact k)
  obtain ⟨T2, h2, k2, X2, e2, E2, A2, st2⟩ := newP X0 hx hZ (hw _ (List.mem_of_getElem? (i := 19) rfl)) e0 (g := (mkF m 1 #[.val (.ref a1), .val (.int (0 : Int32)), .val (.int (2 : Int32)), .unset, .unset, .unset] [(.int (2 : Int32))])) rfl (hb hby d14_1) rfl (by decide) (cap := 2) (by decide) (by decide) (by decide) (by decide)
  obtain ⟨b2, g2⟩ : ∃ z, z = h0.size := ⟨_, rfl⟩
  rw [← g2] at A2 st2
  have g_b2 : n0 ≤ b2 := Nat.le_trans Z0 (Nat.le_of_eq g2.symm)
  have sz_b2 : h0.size ≤ b2 := Nat.le_trans K0.1 (Nat.le_of_eq g2.symm)
  have ne_a1_b2 : a1 ≠ b2 := Nat.ne_of_lt (Nat.lt_of_lt_of_le V1.lt (Nat.le_of_eq g2.symm))
  have F3 := AD.ext E2
  have F4 := HB.ext E2
  have F5 := LB.ext E2
  have F6 := V1.ext E2
  have Z7 : n0 ≤ h2.size := Nat.le_trans Z0 E2.1
  have K8 := K0.ext E2
  have F9 : Arv Z h2 b2 k2 .byte (2 : Int32) [(.int (0 : Int32)), (.int (0 : Int32))] (.int (0 : Int32)) := (Arv.new A2 (by decide)).pad (pad_rep [] (.int (0 : Int32)) 2)
  have P10 : own_Pr p.tables e below S0 T2 (mkF m 3 #[.val (.ref a1), .val (.int (0 : Int32)), .val (.int (2 : Int32)), .unset, .unset, .unset] [(.ref b2)]) := fun t k => P1 t (st2 _ k)
  have P11 : own_Pr p.tables e below S0 T2 (mkF m 4 #[.val (.ref a1), .val (.int (0 : Int32)), .val (.int (2 : Int32)), .val (.ref b2), .unset, .unset] []) := fun t k => P10 t (by
    refine XS.astoreN X2.here hx rfl (hb hby d14_3) rfl rfl (l' := #[.val (.ref a1), .val (.int (0 : Int32)), .val (.int (2 : Int32)), .val (.ref b2), .unset, .unset]) rfl ?_
    show Steps p.tables e below (T2.setTop (mkF m 4 #[.val (.ref a1), .val (.int (0 : Int32)), .val (.int (2 : Int32)), .val (.ref b2), .unset, .unset] [])) _
    exact k)
  rcases hU with hm0 | ⟨hl0, hm1⟩
  · have _u := hm0
    have P12 : own_Pr p.tables e below S0 T2 (mkF m 9 #[.val (.ref a1), .val (.int (0 : Int32)), .val (.int (2 : Int32)), .val (.ref b2), .unset, .unset] [(.int (2 : Int32)), (.int (0 : Int32)), (.ref b2), (.int (0 : Int32)), (.ref a1)]) := fun t k => P11 t (by
      refine XS.aloadN X2.here hx rfl (hb hby d14_4) rfl rfl ?_
      show Steps p.tables e below (T2.setTop (mkF m 5 #[.val (.ref a1), .val (.int (0 : Int32)), .val (.int (2 : Int32)), .val (.ref b2), .unset, .unset] [(.ref a1)])) _
      refine XS.iloadN X2.here hx rfl (hb hby d14_5) rfl ?_
      show Steps p.tables e below (T2.setTop (mkF m 6 #[.val (.ref a1), .val (.int (0 : Int32)), .val (.int (2 : Int32)), .val (.ref b2), .unset, .unset] [(.int (0 : Int32)), (.ref a1)])) _
      refine XS.aloadN X2.here hx rfl (hb hby d14_6) rfl rfl ?_
      show Steps p.tables e below (T2.setTop (mkF m 7 #[.val (.ref a1), .val (.int (0 : Int32)), .val (.int (2 : Int32)), .val (.ref b2), .unset, .unset] [(.ref b2), (.int (0 : Int32)), (.ref a1)])) _
      refine XS.iconst X2.here hx rfl (hb hby d14_7) ?_
      show Steps p.tables e below (T2.setTop (mkF m 8 #[.val (.ref a1), .val (.int (0 : Int32)), .val (.int (2 : Int32)), .val (.ref b2), .unset, .unset] [(.int (0 : Int32)), (.ref b2), (.int (0 : Int32)), (.ref a1)])) _
      refine XS.iloadN X2.here hx rfl (hb hby d14_8) rfl ?_
      show Steps p.tables e below (T2.setTop (mkF m 9 #[.val (.ref a1), .val (.int (0 : Int32)), .val (.int (2 : Int32)), .val (.ref b2), .unset, .unset] [(.int (2 : Int32)), (.int (0 : Int32)), (.ref b2), (.int (0 : Int32)), (.ref a1)])) _
      exact k)
    obtain ⟨_, _, ⟨T13, L13, k13, n13⟩, -, X13, ⟨Lc13, hQ13, l13, y13, z13⟩, st13⟩ := Jvm.LawKit.callS X2 hx (y := (⟨"java/lang/StringUTF16", "compress", "([CI[BII)I"⟩ : MethodName)) hown (mvT hZ (hw _ (List.mem_of_getElem? (i := 64) rfl))) (mvT hZ (hw _ (List.mem_of_getElem? (i := 65) rfl))) (mvT hZ (hw _ (List.mem_of_getElem? (i := 62) rfl))) (mvT hZ (hw _ (List.mem_of_getElem? (i := 66) rfl))) (by decide) (backOf (W := 0) (rm15_h l Z a0 hw [] a1 b2 k1 k2 u0 u1 h2 n0 Z7 F6 F9 g_b2 ne_a1_b2 hm0) hZ (hw _ (List.mem_of_getElem? (i := 66) rfl)) (hw _ (List.mem_of_getElem? (i := 62) rfl)) (by decide) (by decide)) (g := (mkF m 9 #[.val (.ref a1), .val (.int (0 : Int32)), .val (.int (2 : Int32)), .val (.ref b2), .unset, .unset] [(.int (2 : Int32)), (.int (0 : Int32)), (.ref b2), (.int (0 : Int32)), (.ref a1)])) rfl (by rw [hml]; rfl) (argsL := [(.ref a1), (.int (0 : Int32)), (.ref b2), (.int (0 : Int32)), (.int (2 : Int32))]) (rest := []) (lenOf pd_6 rfl) rfl (by show 2 * 0 + _ ≤ _; exact Nat.le_of_eq rfl) (hb hby d14_9) (fun _ _ => ⟨rfl, e2, (by decide : 1 + 0 ≤ _), (by decide : 2 + 0 ≤ _)⟩)
    dsimp only [Pt.U, Pt.locs, Pt.cells, Pt.slots] at X13 l13 y13 z13 st13 hQ13
    subst l13 y13 z13
    obtain ⟨rfl, Nq13, Kq13, Vq13⟩ := hQ13
    have N13n := Fr.app N0 Nq13
    have F14 := own_sta_keepA F3 Kq13 F9
    have F15 := own_sta_keepA F4 Kq13 F9
    have F16 := own_sta_keepA F5 Kq13 F9
    have F17 := F6.keep Kq13 (ninS ne_a1_b2 nin0)
    have Z19 := Nat.le_trans Z7 Kq13.1
    have K20 := K8.trans Kq13 (allS (Or.inr sz_b2) all0)
    have P21 : own_Pr p.tables e below S0 T13 (mkF m 12 #[.val (.ref a1), .val (.int (0 : Int32)), .val (.int (2 : Int32)), .val (.ref b2), .unset, .unset] [(.int (0 : Int32))]) := fun t k => P12 t (st13 _ k)
    have P22 : own_Pr p.tables e below S0 T13 (mkF m 23 #[.val (.ref a1), .val (.int (0 : Int32)), .val (.int (2 : Int32)), .val (.ref b2), .val (.int (0 : Int32)), .unset] [(.int (2 : Int32)), (.int (0 : Int32)), (.ref a1)]) := fun t k => P21 t (by
      refine XS.istore X13.here hx rfl (hb hby d14_12) rfl (l' := #[.val (.ref a1), .val (.int (0 : Int32)), .val (.int (2 : Int32)), .val (.ref b2), .val (.int (0 : Int32)), .unset]) rfl ?_
      show Steps p.tables e below (T13.setTop (mkF m 14 #[.val (.ref a1), .val (.int (0 : Int32)), .val (.int (2 : Int32)), .val (.ref b2), .val (.int (0 : Int32)), .unset] [])) _
      refine XS.iload X13.here hx rfl (hb hby d14_14) rfl ?_
      show Steps p.tables e below (T13.setTop (mkF m 16 #[.val (.ref a1), .val (.int (0 : Int32)), .val (.int (2 : Int32)), .val (.ref b2), .val (.int (0 : Int32)), .unset] [(.int (0 : Int32))])) _
      refine XS.iloadN X13.here hx rfl (hb hby d14_16) rfl ?_
      show Steps p.tables e below (T13.setTop (mkF m 17 #[.val (.ref a1), .val (.int (0 : Int32)), .val (.int (2 : Int32)), .val (.ref b2), .val (.int (0 : Int32)), .unset] [(.int (2 : Int32)), (.int (0 : Int32))])) _
      refine XS.icmpNo X13.here hx rfl (hb hby d14_17) rfl (by decide) ?_
      show Steps p.tables e below (T13.setTop (mkF m 20 #[.val (.ref a1), .val (.int (0 : Int32)), .val (.int (2 : Int32)), .val (.ref b2), .val (.int (0 : Int32)), .unset] [])) _
      refine XS.aloadN X13.here hx rfl (hb hby d14_20) rfl rfl ?_
      show Steps p.tables e below (T13.setTop (mkF m 21 #[.val (.ref a1), .val (.int (0 : Int32)), .val (.int (2 : Int32)), .val (.ref b2), .val (.int (0 : Int32)), .unset] [(.ref a1)])) _
      refine XS.iloadN X13.here hx rfl (hb hby d14_21) rfl ?_
      show Steps p.tables e below (T13.setTop (mkF m 22 #[.val (.ref a1), .val (.int (0 : Int32)), .val (.int (2 : Int32)), .val (.ref b2), .val (.int (0 : Int32)), .unset] [(.int (0 : Int32)), (.ref a1)])) _
      refine XS.iloadN X13.here hx rfl (hb hby d14_22) rfl ?_
      show Steps p.tables e below (T13.setTop (mkF m 23 #[.val (.ref a1), .val (.int (0 : Int32)), .val (.int (2 : Int32)), .val (.ref b2), .val (.int (0 : Int32)), .unset] [(.int (2 : Int32)), (.int (0 : Int32)), (.ref a1)])) _
      exact k)
    obtain ⟨_, _, ⟨T23, L23, k23, n23⟩, -, X23, ⟨Lc23, hQ23, l23, y23, z23⟩, st23⟩ := Jvm.LawKit.callS X13 hx (y := (⟨"java/lang/StringUTF16", "toBytes", "([CII)[B"⟩ : MethodName)) hown (mvT hZ (hw _ (List.mem_of_getElem? (i := 95) rfl))) (mvT hZ (hw _ (List.mem_of_getElem? (i := 96) rfl))) (mvT hZ (hw _ (List.mem_of_getElem? (i := 62) rfl))) (mvT hZ (hw _ (List.mem_of_getElem? (i := 97) rfl))) (by decide) (backOf (W := 0) (rm23 l Z a0 hw [] a1 k1 u0 u1 T13.heap n0 Z19 F17 F14 F15 F16) hZ (hw _ (List.mem_of_getElem? (i := 97) rfl)) (hw _ (List.mem_of_getElem? (i := 62) rfl)) (by decide) (by decide)) (g := (mkF m 23 #[.val (.ref a1), .val (.int (0 : Int32)), .val (.int (2 : Int32)), .val (.ref b2), .val (.int (0 : Int32)), .unset] [(.int (2 : Int32)), (.int (0 : Int32)), (.ref a1)])) rfl (by rw [hml]; rfl) (argsL := [(.ref a1), (.int (0 : Int32)), (.int (2 : Int32))]) (rest := []) (lenOf pd_7 rfl) rfl (by show 2 * 0 + _ ≤ _; exact Nat.le_of_eq rfl) (hb hby d14_23) (fun _ _ => ⟨rfl, rfl, (by decide : 1 + 1 ≤ _), (by decide : 2 + 4 ≤ _)⟩)
    dsimp only [Pt.U, Pt.locs, Pt.cells, Pt.slots] at X23 l23 y23 z23 st23 hQ23
    subst l23 y23 z23
    obtain ⟨b23, kk23, rfl, Nq23, Kq23, sz23, Vq23⟩ := hQ23
    have N23n := Fr.app N13n Nq23
    have ne_a1_b23 : a1 ≠ b23 := Nat.ne_of_lt (Nat.lt_of_lt_of_le F17.lt sz23)
    have ne_b2_b23 : b2 ≠ b23 := Nat.ne_of_lt (Nat.lt_of_lt_of_le Vq13.lt sz23)
    have g_b23 : n0 ≤ b23 := Nat.le_trans Z19 sz23
    have sz_b23 : h0.size ≤ b23 := Nat.le_trans K20.1 sz23
    have F24 := own_sta_keep0 F14 Kq23
    have F25 := own_sta_keep0 F15 Kq23
    have F26 := own_sta_keep0 F16 Kq23
    have F27 := F17.keep Kq23 nin0
    have F28 := Vq13.keep Kq23 nin0
    have Z29 := Nat.le_trans Z19 Kq23.1
    have K30 := K20.trans Kq23 all0
    have P31 : own_Pr p.tables e below S0 T23 (mkF m 26 #[.val (.ref a1), .val (.int (0 : Int32)), .val (.int (2 : Int32)), .val (.ref b2), .val (.int (0 : Int32)), .unset] [(.ref b23)]) := fun t k => P22 t (st23 _ k)
    have P32 : own_Pr p.tables e below S0 T23 (mkF m 32 #[.val (.ref a1), .val (.int (0 : Int32)), .val (.int (2 : Int32)), .val (.ref b2), .val (.int (0 : Int32)), .val (.ref b23)] [(.int (0 : Int32)), (.ref b23)]) := fun t k => P31 t (by
      refine XS.astore X23.here hx rfl (hb hby d14_26) rfl rfl (l' := #[.val (.ref a1), .val (.int (0 : Int32)), .val (.int (2 : Int32)), .val (.ref b2), .val (.int (0 : Int32)), .val (.ref b23)]) rfl ?_
      show Steps p.tables e below (T23.setTop (mkF m 28 #[.val (.ref a1), .val (.int (0 : Int32)), .val (.int (2 : Int32)), .val (.ref b2), .val (.int (0 : Int32)), .val (.ref b23)] [])) _
      refine XS.aload X23.here hx rfl (hb hby d14_28) rfl rfl ?_
      show Steps p.tables e below (T23.setTop (mkF m 30 #[.val (.ref a1), .val (.int (0 : Int32)), .val (.int (2 : Int32)), .val (.ref b2), .val (.int (0 : Int32)), .val (.ref b23)] [(.ref b23)])) _
      refine XS.iload X23.here hx rfl (hb hby d14_30) rfl ?_
      show Steps p.tables e below (T23.setTop (mkF m 32 #[.val (.ref a1), .val (.int (0 : Int32)), .val (.int (2 : Int32)), .val (.ref b2), .val (.int (0 : Int32)), .val (.ref b23)] [(.int (0 : Int32)), (.ref b23)])) _
      exact k)
    obtain ⟨_, _, ⟨T33, L33, k33, n33⟩, -, X33, ⟨Lc33, hQ33, l33, y33, z33⟩, st33⟩ := Jvm.LawKit.callS X23 hx (y := (⟨"java/lang/StringUTF16", "getChar", "([BI)C"⟩ : MethodName)) hown (mvT hZ (hw _ (List.mem_of_getElem? (i := 105) rfl))) (mvT hZ (hw _ (List.mem_of_getElem? (i := 106) rfl))) (mvT hZ (hw _ (List.mem_of_getElem? (i := 62) rfl))) (mvT hZ (hw _ (List.mem_of_getElem? (i := 107) rfl))) (by decide) (backOf (W := 0) (rm26_40 l Z a0 hw [] b23 kk23 (nar .byte ((u0 >>> ((0 : Int32) &&& 31)).toInt8.toInt32)) (nar .byte ((u0 >>> ((8 : Int32) &&& 31)).toInt8.toInt32)) (nar .byte ((u1 >>> ((0 : Int32) &&& 31)).toInt8.toInt32)) (nar .byte ((u1 >>> ((8 : Int32) &&& 31)).toInt8.toInt32)) T23.heap n0 Z29 Vq23 F24 F25 F26) hZ (hw _ (List.mem_of_getElem? (i := 107) rfl)) (hw _ (List.mem_of_getElem? (i := 62) rfl)) (by decide) (by decide)) (g := (mkF m 32 #[.val (.ref a1), .val (.int (0 : Int32)), .val (.int (2 : Int32)), .val (.ref b2), .val (.int (0 : Int32)), .val (.ref b23)] [(.int (0 : Int32)), (.ref b23)])) rfl (by rw [hml]; rfl) (argsL := [(.ref b23), (.int (0 : Int32))]) (rest := []) (lenOf pd_8 rfl) rfl (by show 2 * 0 + _ ≤ _; exact Nat.le_of_eq rfl) (hb hby d14_32) (fun _ _ => ⟨rfl, rfl, (by decide : 2 + 0 ≤ _), (by decide : 6 + 0 ≤ _)⟩)
    dsimp only [Pt.U, Pt.locs, Pt.cells, Pt.slots] at X33 l33 y33 z33 st33 hQ33
    subst l33 y33 z33
    obtain ⟨z33v, rfl, hz33v, Nq33, eq33⟩ := hQ33
    have N33n := Fr.app N23n Nq33
    have P34 : own_Pr p.tables e below S0 T33 (mkF m 35 #[.val (.ref a1), .val (.int (0 : Int32)), .val (.int (2 : Int32)), .val (.ref b2), .val (.int (0 : Int32)), .val (.ref b23)] [(.int z33v)]) := fun t k => P32 t (st33 _ k)
    have P35 : own_Pr p.tables e below S0 T33 (mkF m 56 #[.val (.ref a1), .val (.int (0 : Int32)), .val (.int (2 : Int32)), .val (.ref b2), .val (.int (0 : Int32)), .val (.ref b23)] [(.ref b23)]) := fun t k => P34 t (by
      refine XS.sipush X33.here hx rfl (hb hby d14_35) ?_
      show Steps p.tables e below (T33.setTop (mkF m 38 #[.val (.ref a1), .val (.int (0 : Int32)), .val (.int (2 : Int32)), .val (.ref b2), .val (.int (0 : Int32)), .val (.ref b23)] [(.int (255 : Int32)), (.int z33v)])) _
      refine XS.icmpYes X33.here hx rfl (pc0 := 38) (pc' := 54) rfl (hb hby d14_38) rfl (XT.ii_gt_t (by rw [hz33v, own_gc_eq hc0]; exact hm0)) (by decide) (by decide) ?_
      show Steps p.tables e below (T33.setTop (mkF m 54 #[.val (.ref a1), .val (.int (0 : Int32)), .val (.int (2 : Int32)), .val (.ref b2), .val (.int (0 : Int32)), .val (.ref b23)] [])) _
      refine XS.aload X33.here hx rfl (hb hby d14_54) rfl rfl ?_
      show Steps p.tables e below (T33.setTop (mkF m 56 #[.val (.ref a1), .val (.int (0 : Int32)), .val (.int (2 : Int32)), .val (.ref b2), .val (.int (0 : Int32)), .val (.ref b23)] [(.ref b23)])) _
      exact k)
    obtain ⟨fs, hr, hrun, hended, hW, hsame⟩ := X33.leave (v := some (.ref b23)) (fun h => by rw [Bd.returns] at h; cases h)
    have fin : Steps p.tables e below S0 (T33.setFrames fs) := P35 _ (by
      jvm_step X33.here [X33.here.top, hx, (hb hby d14_56), X33.method', Bd.returns, Value.isRef, FieldType.isReference]
      first | (intro acts; rw [hr _ acts rfl rfl rfl]) | rw [hr _ _ rfl rfl rfl]
      exact Steps.refl _)
    rw [hS0] at fin
    refine ⟨_, _, fin, hrun, hended, _, _, rfl, ?_, ⟨_, rfl⟩, hW, hsame.mono (by decide) (by decide)⟩
    show own_QA Z 4 [(.int (nar .byte ((u0 >>> ((0 : Int32) &&& 31)).toInt8.toInt32))), (.int (nar .byte ((u0 >>> ((8 : Int32) &&& 31)).toInt8.toInt32))), (.int (nar .byte ((u1 >>> ((0 : Int32) &&& 31)).toInt8.toInt32))), (.int (nar .byte ((u1 >>> ((8 : Int32) &&& 31)).toInt8.toInt32)))] h0 n0 _ T33.heap _
    rw [eq33]
    exact ⟨_, _, rfl, N33n, K30, sz_b23, Vq23⟩
  · have _u := hm1
    have P36 : own_Pr p.tables e below S0 T2 (mkF m 9 #[.val (.ref a1), .val (.int (0 : Int32)), .val (.int (2 : Int32)), .val (.ref b2), .unset, .unset] [(.int (2 : Int32)), (.int (0 : Int32)), (.ref b2), (.int (0 : Int32)), (.ref a1)]) := fun t k => P11 t (by
      refine XS.aloadN X2.here hx rfl (hb hby d14_4) rfl rfl ?_
      show Steps p.tables e below (T2.setTop (mkF m 5 #[.val (.ref a1), .val (.int (0 : Int32)), .val (.int (2 : Int32)), .val (.ref b2), .unset, .unset] [(.ref a1)])) _
      refine XS.iloadN X2.here hx rfl (hb hby d14_5) rfl ?_
      show Steps p.tables e below (T2.setTop (mkF m 6 #[.val (.ref a1), .val (.int (0 : Int32)), .val (.int (2 : Int32)), .val (.ref b2), .unset, .unset] [(.int (0 : Int32)), (.ref a1)])) _
      refine XS.aloadN X2.here hx rfl (hb hby d14_6) rfl rfl ?_
      show Steps p.tables e below (T2.setTop (mkF m 7 #[.val (.ref a1), .val (.int (0 : Int32)), .val (.int (2 : Int32)), .val (.ref b2), .unset, .unset] [(.ref b2), (.int (0 : Int32)), (.ref a1)])) _
      refine XS.iconst X2.here hx rfl (hb hby d14_7) ?_
      show Steps p.tables e below (T2.setTop (mkF m 8 #[.val (.ref a1), .val (.int (0 : Int32)), .val (.int (2 : Int32)), .val (.ref b2), .unset, .unset] [(.int (0 : Int32)), (.ref b2), (.int (0 : Int32)), (.ref a1)])) _
      refine XS.iloadN X2.here hx rfl (hb hby d14_8) rfl ?_
      show Steps p.tables e below (T2.setTop (mkF m 9 #[.val (.ref a1), .val (.int (0 : Int32)), .val (.int (2 : Int32)), .val (.ref b2), .unset, .unset] [(.int (2 : Int32)), (.int (0 : Int32)), (.ref b2), (.int (0 : Int32)), (.ref a1)])) _
      exact k)
    obtain ⟨_, _, ⟨T37, L37, k37, n37⟩, -, X37, ⟨Lc37, hQ37, l37, y37, z37⟩, st37⟩ := Jvm.LawKit.callS X2 hx (y := (⟨"java/lang/StringUTF16", "compress", "([CI[BII)I"⟩ : MethodName)) hown (mvT hZ (hw _ (List.mem_of_getElem? (i := 64) rfl))) (mvT hZ (hw _ (List.mem_of_getElem? (i := 65) rfl))) (mvT hZ (hw _ (List.mem_of_getElem? (i := 62) rfl))) (mvT hZ (hw _ (List.mem_of_getElem? (i := 66) rfl))) (by decide) (backOf (W := 0) (rm15_m l Z a0 hw [] a1 b2 k1 k2 u0 u1 h2 n0 Z7 F6 F9 g_b2 ne_a1_b2 hl0 hm1) hZ (hw _ (List.mem_of_getElem? (i := 66) rfl)) (hw _ (List.mem_of_getElem? (i := 62) rfl)) (by decide) (by decide)) (g := (mkF m 9 #[.val (.ref a1), .val (.int (0 : Int32)), .val (.int (2 : Int32)), .val (.ref b2), .unset, .unset] [(.int (2 : Int32)), (.int (0 : Int32)), (.ref b2), (.int (0 : Int32)), (.ref a1)])) rfl (by rw [hml]; rfl) (argsL := [(.ref a1), (.int (0 : Int32)), (.ref b2), (.int (0 : Int32)), (.int (2 : Int32))]) (rest := []) (lenOf pd_6 rfl) rfl (by show 2 * 0 + _ ≤ _; exact Nat.le_of_eq rfl) (hb hby d14_9) (fun _ _ => ⟨rfl, e2, (by decide : 1 + 0 ≤ _), (by decide : 2 + 0 ≤ _)⟩)
    dsimp only [Pt.U, Pt.locs, Pt.cells, Pt.slots] at X37 l37 y37 z37 st37 hQ37
    subst l37 y37 z37
    obtain ⟨rfl, Nq37, Kq37, Vq37⟩ := hQ37
    have N37n := Fr.app N0 Nq37
    have F38 := own_sta_keepA F3 Kq37 F9
    have F39 := own_sta_keepA F4 Kq37 F9
    have F40 := own_sta_keepA F5 Kq37 F9
    have F41 := F6.keep Kq37 (ninS ne_a1_b2 nin0)
    have Z43 := Nat.le_trans Z7 Kq37.1
    have K44 := K8.trans Kq37 (allS (Or.inr sz_b2) all0)
    have P45 : own_Pr p.tables e below S0 T37 (mkF m 12 #[.val (.ref a1), .val (.int (0 : Int32)), .val (.int (2 : Int32)), .val (.ref b2), .unset, .unset] [(.int (1 : Int32))]) := fun t k => P36 t (st37 _ k)
    have P46 : own_Pr p.tables e below S0 T37 (mkF m 23 #[.val (.ref a1), .val (.int (0 : Int32)), .val (.int (2 : Int32)), .val (.ref b2), .val (.int (1 : Int32)), .unset] [(.int (2 : Int32)), (.int (0 : Int32)), (.ref a1)]) := fun t k => P45 t (by
      refine XS.istore X37.here hx rfl (hb hby d14_12) rfl (l' := #[.val (.ref a1), .val (.int (0 : Int32)), .val (.int (2 : Int32)), .val (.ref b2), .val (.int (1 : Int32)), .unset]) rfl ?_
      show Steps p.tables e below (T37.setTop (mkF m 14 #[.val (.ref a1), .val (.int (0 : Int32)), .val (.int (2 : Int32)), .val (.ref b2), .val (.int (1 : Int32)), .unset] [])) _
      refine XS.iload X37.here hx rfl (hb hby d14_14) rfl ?_
      show Steps p.tables e below (T37.setTop (mkF m 16 #[.val (.ref a1), .val (.int (0 : Int32)), .val (.int (2 : Int32)), .val (.ref b2), .val (.int (1 : Int32)), .unset] [(.int (1 : Int32))])) _
      refine XS.iloadN X37.here hx rfl (hb hby d14_16) rfl ?_
      show Steps p.tables e below (T37.setTop (mkF m 17 #[.val (.ref a1), .val (.int (0 : Int32)), .val (.int (2 : Int32)), .val (.ref b2), .val (.int (1 : Int32)), .unset] [(.int (2 : Int32)), (.int (1 : Int32))])) _
      refine XS.icmpNo X37.here hx rfl (hb hby d14_17) rfl (by decide) ?_
      show Steps p.tables e below (T37.setTop (mkF m 20 #[.val (.ref a1), .val (.int (0 : Int32)), .val (.int (2 : Int32)), .val (.ref b2), .val (.int (1 : Int32)), .unset] [])) _
      refine XS.aloadN X37.here hx rfl (hb hby d14_20) rfl rfl ?_
      show Steps p.tables e below (T37.setTop (mkF m 21 #[.val (.ref a1), .val (.int (0 : Int32)), .val (.int (2 : Int32)), .val (.ref b2), .val (.int (1 : Int32)), .unset] [(.ref a1)])) _
      refine XS.iloadN X37.here hx rfl (hb hby d14_21) rfl ?_
      show Steps p.tables e below (T37.setTop (mkF m 22 #[.val (.ref a1), .val (.int (0 : Int32)), .val (.int (2 : Int32)), .val (.ref b2), .val (.int (1 : Int32)), .unset] [(.int (0 : Int32)), (.ref a1)])) _
      refine XS.iloadN X37.here hx rfl (hb hby d14_22) rfl ?_
      show Steps p.tables e below (T37.setTop (mkF m 23 #[.val (.ref a1), .val (.int (0 : Int32)), .val (.int (2 : Int32)), .val (.ref b2), .val (.int (1 : Int32)), .unset] [(.int (2 : Int32)), (.int (0 : Int32)), (.ref a1)])) _
      exact k)
    obtain ⟨_, _, ⟨T47, L47, k47, n47⟩, -, X47, ⟨Lc47, hQ47, l47, y47, z47⟩, st47⟩ := Jvm.LawKit.callS X37 hx (y := (⟨"java/lang/StringUTF16", "toBytes", "([CII)[B"⟩ : MethodName)) hown (mvT hZ (hw _ (List.mem_of_getElem? (i := 95) rfl))) (mvT hZ (hw _ (List.mem_of_getElem? (i := 96) rfl))) (mvT hZ (hw _ (List.mem_of_getElem? (i := 62) rfl))) (mvT hZ (hw _ (List.mem_of_getElem? (i := 97) rfl))) (by decide) (backOf (W := 0) (rm23 l Z a0 hw [] a1 k1 u0 u1 T37.heap n0 Z43 F41 F38 F39 F40) hZ (hw _ (List.mem_of_getElem? (i := 97) rfl)) (hw _ (List.mem_of_getElem? (i := 62) rfl)) (by decide) (by decide)) (g := (mkF m 23 #[.val (.ref a1), .val (.int (0 : Int32)), .val (.int (2 : Int32)), .val (.ref b2), .val (.int (1 : Int32)), .unset] [(.int (2 : Int32)), (.int (0 : Int32)), (.ref a1)])) rfl (by rw [hml]; rfl) (argsL := [(.ref a1), (.int (0 : Int32)), (.int (2 : Int32))]) (rest := []) (lenOf pd_7 rfl) rfl (by show 2 * 0 + _ ≤ _; exact Nat.le_of_eq rfl) (hb hby d14_23) (fun _ _ => ⟨rfl, rfl, (by decide : 1 + 1 ≤ _), (by decide : 2 + 4 ≤ _)⟩)
    dsimp only [Pt.U, Pt.locs, Pt.cells, Pt.slots] at X47 l47 y47 z47 st47 hQ47
    subst l47 y47 z47
    obtain ⟨b47, kk47, rfl, Nq47, Kq47, sz47, Vq47⟩ := hQ47
    have N47n := Fr.app N37n Nq47
    have ne_a1_b47 : a1 ≠ b47 := Nat.ne_of_lt (Nat.lt_of_lt_of_le F41.lt sz47)
    have ne_b2_b47 : b2 ≠ b47 := Nat.ne_of_lt (Nat.lt_of_lt_of_le Vq37.lt sz47)
    have g_b47 : n0 ≤ b47 := Nat.le_trans Z43 sz47
    have sz_b47 : h0.size ≤ b47 := Nat.le_trans K44.1 sz47
    have F48 := own_sta_keep0 F38 Kq47
    have F49 := own_sta_keep0 F39 Kq47
    have F50 := own_sta_keep0 F40 Kq47
    have F51 := F41.keep Kq47 nin0
    have F52 := Vq37.keep Kq47 nin0
    have Z53 := Nat.le_trans Z43 Kq47.1
    have K54 := K44.trans Kq47 all0
    have P55 : own_Pr p.tables e below S0 T47 (mkF m 26 #[.val (.ref a1), .val (.int (0 : Int32)), .val (.int (2 : Int32)), .val (.ref b2), .val (.int (1 : Int32)), .unset] [(.ref b47)]) := fun t k => P46 t (st47 _ k)
    have P56 : own_Pr p.tables e below S0 T47 (mkF m 32 #[.val (.ref a1), .val (.int (0 : Int32)), .val (.int (2 : Int32)), .val (.ref b2), .val (.int (1 : Int32)), .val (.ref b47)] [(.int (1 : Int32)), (.ref b47)]) := fun t k => P55 t (by
      refine XS.astore X47.here hx rfl (hb hby d14_26) rfl rfl (l' := #[.val (.ref a1), .val (.int (0 : Int32)), .val (.int (2 : Int32)), .val (.ref b2), .val (.int (1 : Int32)), .val (.ref b47)]) rfl ?_
      show Steps p.tables e below (T47.setTop (mkF m 28 #[.val (.ref a1), .val (.int (0 : Int32)), .val (.int (2 : Int32)), .val (.ref b2), .val (.int (1 : Int32)), .val (.ref b47)] [])) _
      refine XS.aload X47.here hx rfl (hb hby d14_28) rfl rfl ?_
      show Steps p.tables e below (T47.setTop (mkF m 30 #[.val (.ref a1), .val (.int (0 : Int32)), .val (.int (2 : Int32)), .val (.ref b2), .val (.int (1 : Int32)), .val (.ref b47)] [(.ref b47)])) _
      refine XS.iload X47.here hx rfl (hb hby d14_30) rfl ?_
      show Steps p.tables e below (T47.setTop (mkF m 32 #[.val (.ref a1), .val (.int (0 : Int32)), .val (.int (2 : Int32)), .val (.ref b2), .val (.int (1 : Int32)), .val (.ref b47)] [(.int (1 : Int32)), (.ref b47)])) _
      exact k)
    obtain ⟨_, _, ⟨T57, L57, k57, n57⟩, -, X57, ⟨Lc57, hQ57, l57, y57, z57⟩, st57⟩ := Jvm.LawKit.callS X47 hx (y := (⟨"java/lang/StringUTF16", "getChar", "([BI)C"⟩ : MethodName)) hown (mvT hZ (hw _ (List.mem_of_getElem? (i := 105) rfl))) (mvT hZ (hw _ (List.mem_of_getElem? (i := 106) rfl))) (mvT hZ (hw _ (List.mem_of_getElem? (i := 62) rfl))) (mvT hZ (hw _ (List.mem_of_getElem? (i := 107) rfl))) (by decide) (backOf (W := 0) (rm26_41 l Z a0 hw [] b47 kk47 (nar .byte ((u0 >>> ((0 : Int32) &&& 31)).toInt8.toInt32)) (nar .byte ((u0 >>> ((8 : Int32) &&& 31)).toInt8.toInt32)) (nar .byte ((u1 >>> ((0 : Int32) &&& 31)).toInt8.toInt32)) (nar .byte ((u1 >>> ((8 : Int32) &&& 31)).toInt8.toInt32)) T47.heap n0 Z53 Vq47 F48 F49 F50) hZ (hw _ (List.mem_of_getElem? (i := 107) rfl)) (hw _ (List.mem_of_getElem? (i := 62) rfl)) (by decide) (by decide)) (g := (mkF m 32 #[.val (.ref a1), .val (.int (0 : Int32)), .val (.int (2 : Int32)), .val (.ref b2), .val (.int (1 : Int32)), .val (.ref b47)] [(.int (1 : Int32)), (.ref b47)])) rfl (by rw [hml]; rfl) (argsL := [(.ref b47), (.int (1 : Int32))]) (rest := []) (lenOf pd_8 rfl) rfl (by show 2 * 0 + _ ≤ _; exact Nat.le_of_eq rfl) (hb hby d14_32) (fun _ _ => ⟨rfl, rfl, (by decide : 2 + 0 ≤ _), (by decide : 6 + 0 ≤ _)⟩)
    dsimp only [Pt.U, Pt.locs, Pt.cells, Pt.slots] at X57 l57 y57 z57 st57 hQ57
    subst l57 y57 z57
    obtain ⟨z57v, rfl, hz57v, Nq57, eq57⟩ := hQ57
    have N57n := Fr.app N47n Nq57
    have P58 : own_Pr p.tables e below S0 T57 (mkF m 35 #[.val (.ref a1), .val (.int (0 : Int32)), .val (.int (2 : Int32)), .val (.ref b2), .val (.int (1 : Int32)), .val (.ref b47)] [(.int z57v)]) := fun t k => P56 t (st57 _ k)
    have P59 : own_Pr p.tables e below S0 T57 (mkF m 56 #[.val (.ref a1), .val (.int (0 : Int32)), .val (.int (2 : Int32)), .val (.ref b2), .val (.int (1 : Int32)), .val (.ref b47)] [(.ref b47)]) := fun t k => P58 t (by
      refine XS.sipush X57.here hx rfl (hb hby d14_35) ?_
      show Steps p.tables e below (T57.setTop (mkF m 38 #[.val (.ref a1), .val (.int (0 : Int32)), .val (.int (2 : Int32)), .val (.ref b2), .val (.int (1 : Int32)), .val (.ref b47)] [(.int (255 : Int32)), (.int z57v)])) _
      refine XS.icmpYes X57.here hx rfl (pc0 := 38) (pc' := 54) rfl (hb hby d14_38) rfl (XT.ii_gt_t (by rw [hz57v, own_gc_eq hc1]; exact hm1)) (by decide) (by decide) ?_
      show Steps p.tables e below (T57.setTop (mkF m 54 #[.val (.ref a1), .val (.int (0 : Int32)), .val (.int (2 : Int32)), .val (.ref b2), .val (.int (1 : Int32)), .val (.ref b47)] [])) _
      refine XS.aload X57.here hx rfl (hb hby d14_54) rfl rfl ?_
      show Steps p.tables e below (T57.setTop (mkF m 56 #[.val (.ref a1), .val (.int (0 : Int32)), .val (.int (2 : Int32)), .val (.ref b2), .val (.int (1 : Int32)), .val (.ref b47)] [(.ref b47)])) _
      exact k)
    obtain ⟨fs, hr, hrun, hended, hW, hsame⟩ := X57.leave (v := some (.ref b47)) (fun h => by rw [Bd.returns] at h; cases h)
    have fin : Steps p.tables e below S0 (T57.setFrames fs) := P59 _ (by
      jvm_step X57.here [X57.here.top, hx, (hb hby d14_56), X57.method', Bd.returns, Value.isRef, FieldType.isReference]
      first | (intro acts; rw [hr _ acts rfl rfl rfl]) | rw [hr _ _ rfl rfl rfl]
      exact Steps.refl _)
    rw [hS0] at fin
    refine ⟨_, _, fin, hrun, hended, _, _, rfl, ?_, ⟨_, rfl⟩, hW, hsame.mono (by decide) (by decide)⟩
    show own_QA Z 4 [(.int (nar .byte ((u0 >>> ((0 : Int32) &&& 31)).toInt8.toInt32))), (.int (nar .byte ((u0 >>> ((8 : Int32) &&& 31)).toInt8.toInt32))), (.int (nar .byte ((u1 >>> ((0 : Int32) &&& 31)).toInt8.toInt32))), (.int (nar .byte ((u1 >>> ((8 : Int32) &&& 31)).toInt8.toInt32)))] h0 n0 _ T57.heap _
    rw [eq57]
    exact ⟨_, _, rfl, N57n, K54, sz_b47, Vq47⟩
theorem d16_0 : decode jdk_52_method_15_code 0 = .ok (.iload_n 1, 1) := by decide +kernel
theorem d16_1 : decode jdk_52_method_15_code 1 = .ok (.aload_n 0, 1) := by decide +kernel
theorem d16_2 : decode jdk_52_method_15_code 2 = .ok (.arraylength, 1) := by decide +kernel
theorem d16_3 : decode jdk_52_method_15_code 3 = .ok (.isub, 1) := by decide +kernel
theorem d16_4 : decode jdk_52_method_15_code 4 = .ok (.bipush 31, 2) := by decide +kernel
theorem d16_6 : decode jdk_52_method_15_code 6 = .ok (.iushr, 1) := by decide +kernel
theorem d16_7 : decode jdk_52_method_15_code 7 = .ok (.i2b, 1) := by decide +kernel
theorem d16_8 : decode jdk_52_method_15_code 8 = .ok (.ireturn, 1) := by decide +kernel
theorem ef_16_l (m : MethodId) (a1 : Addr) : entryFrame m #[(.ref a1), (.int (2 : Int32))] 2 = mkF m 0 #[.val (.ref a1), .val (.int (2 : Int32))] [] := by first | (simp [entryFrame, mkF, argsToLocals, Value.category]; done) | rfl
set_option maxRecDepth 65536 in
set_option maxHeartbeats 40000000 in
theorem rm16_l (l : Launch) (Z : State) (a0 : Array Value) (hw : ∀ d ∈ tables_1, d.before a0 Z = true) (ws : List Jvm.Cond) (a1 : Addr) (kb : ClassId) (vs : List Value) (h0 : Heap) (n0 : Nat) (Z0 : n0 ≤ h0.size) (Av : Arv Z h0 a1 kb .byte 2 vs (.int 0)) :
    MetFree l (⟨"java/lang/StringUTF16", "coderFromArrayLen", "([BI)B"⟩ : MethodName) (head1 (Jvm.Cond.code (⟨"java/lang/StringUTF16", "coderFromArrayLen", "([BI)B"⟩ : MethodName) jdk_52_method_15_code 2 (some .byte) :: ws) ({ frames := 0, cells := 0, slots := 0, locals := 0 } : Room)) (fun a U => a = #[(.ref a1), (.int (2 : Int32))] ∧ Z.Warmed39 U.vm ∧ U.heap = h0) (fun _ _ _ _ _ => True) (fun _ U o U' => ∃ v L, o = .returned v ∧ own_QI h0 n0 0 v U'.heap L ∧ FrameEnd U o U' L ({ frames := 0, cells := 0, slots := 0, locals := 0 } : Room).cells ({ frames := 0, cells := 0, slots := 0, locals := 0 } : Room).slots) := by
  refine MetFree.of_bodySF (plainFor_of_name pn_20) hisR ?_
  intro p e s m args below meth c s₁ Bd hml0 hP hK
  obtain ⟨rfl, hZ, hh⟩ := hP
  have hx := Bd.exec
  have hby := Bd.bytes
  have hml : c.maxLocals = 2 := hml0
  have hown : s.vm.findClass "java/lang/StringUTF16" = some m.cls := findClass_of_methodNamed Bd.named
  have hnm := (name_of_methodNamed Bd.named Bd.method).1
  have X0 : Stand p l e ({ frames := 0, cells := 0, slots := 0, locals := 0 } : Room) s m #[(.ref a1), (.int (2 : Int32))] below meth c s₁ [] 0 0 := Stand.of_body Bd
  have e0 : s₁.heap = h0 := by rw [← hh, Bd.state]; rfl
  have N0 := Fr.nil n0
  obtain ⟨S0, hS0⟩ : ∃ z, z = s₁.setTop (entryFrame m #[(.ref a1), (.int (2 : Int32))] 2) := ⟨_, rfl⟩
  have P0 : own_Pr p.tables e below S0 s₁ (mkF m 0 #[.val (.ref a1), .val (.int (2 : Int32))] []) := fun t k => hS0 ▸ castTop (ef_16_l m a1) k
  have P1 : own_Pr p.tables e below S0 s₁ (mkF m 2 #[.val (.ref a1), .val (.int (2 : Int32))] [(.ref a1), (.int (2 : Int32))]) := fun t k => P0 t (by
    refine XS.iloadN X0.here hx rfl (hb hby d16_0) rfl ?_
    show Steps p.tables e below (s₁.setTop (mkF m 1 #[.val (.ref a1), .val (.int (2 : Int32))] [(.int (2 : Int32))])) _
    refine XS.aloadN X0.here hx rfl (hb hby d16_1) rfl rfl ?_
    show Steps p.tables e below (s₁.setTop (mkF m 2 #[.val (.ref a1), .val (.int (2 : Int32))] [(.ref a1), (.int (2 : Int32))])) _
    exact k)
  obtain ⟨cl2, Ar2, q2, S2, N2, H2, G2⟩ := id Av
  have P3 : own_Pr p.tables e below S0 s₁ (mkF m 8 #[.val (.ref a1), .val (.int (2 : Int32))] [(.int (0 : Int32))]) := fun t k => P1 t (by
    refine X0.arraylength hx (by rw [e0]; exact Ar2.1) (State.isArrayOf_alike hZ.alike Ar2.2.1) (g := (mkF m 2 #[.val (.ref a1), .val (.int (2 : Int32))] [(.ref a1), (.int (2 : Int32))])) rfl rfl (hb hby d16_2) _ ?_
    rw [len_of S2 N2]
    show Steps p.tables e below (s₁.setTop (mkF m 3 #[.val (.ref a1), .val (.int (2 : Int32))] [(.int (2 : Int32)), (.int (2 : Int32))])) _
    refine XS.isub X0.here hx rfl (hb hby d16_3) rfl ?_
    show Steps p.tables e below (s₁.setTop (mkF m 4 #[.val (.ref a1), .val (.int (2 : Int32))] [(.int (0 : Int32))])) _
    refine XS.bipush X0.here hx rfl (hb hby d16_4) ?_
    show Steps p.tables e below (s₁.setTop (mkF m 6 #[.val (.ref a1), .val (.int (2 : Int32))] [(.int (31 : Int32)), (.int (0 : Int32))])) _
    refine XS.iushr X0.here hx rfl (hb hby d16_6) rfl ?_
    show Steps p.tables e below (s₁.setTop (mkF m 7 #[.val (.ref a1), .val (.int (2 : Int32))] [(.int (0 : Int32))])) _
    refine XS.i2b X0.here hx rfl (hb hby d16_7) rfl ?_
    show Steps p.tables e below (s₁.setTop (mkF m 8 #[.val (.ref a1), .val (.int (2 : Int32))] [(.int (0 : Int32))])) _
    exact k)
  obtain ⟨fs, hr, hrun, hended, hW, hsame⟩ := X0.leave (v := some (.int (0 : Int32))) (fun h => by rw [Bd.returns] at h; cases h)
  have fin : Steps p.tables e below S0 (s₁.setFrames fs) := P3 _ (retN X0 hx (t := .byte) Bd.returns (by simp) (hb hby d16_8) hr)
  rw [hS0] at fin
  refine ⟨_, _, fin, hrun, hended, _, _, rfl, ?_, ⟨_, rfl⟩, hW, hsame.mono (by decide) (by decide)⟩
  show own_QI h0 n0 0 _ s₁.heap _
  rw [e0]
  exact ⟨_, rfl, rfl, N0, rfl⟩
theorem ef_16_u (m : MethodId) (a1 : Addr) : entryFrame m #[(.ref a1), (.int (2 : Int32))] 2 = mkF m 0 #[.val (.ref a1), .val (.int (2 : Int32))] [] := by first | (simp [entryFrame, mkF, argsToLocals, Value.category]; done) | rfl
set_option maxRecDepth 65536 in
set_option maxHeartbeats 40000000 in
theorem rm16_u (l : Launch) (Z : State) (a0 : Array Value) (hw : ∀ d ∈ tables_1, d.before a0 Z = true) (ws : List Jvm.Cond) (a1 : Addr) (kb : ClassId) (vs : List Value) (h0 : Heap) (n0 : Nat) (Z0 : n0 ≤ h0.size) (Av : Arv Z h0 a1 kb .byte 4 vs (.int 0)) :
    MetFree l (⟨"java/lang/StringUTF16", "coderFromArrayLen", "([BI)B"⟩ : MethodName) (head1 (Jvm.Cond.code (⟨"java/lang/StringUTF16", "coderFromArrayLen", "([BI)B"⟩ : MethodName) jdk_52_method_15_code 2 (some .byte) :: ws) ({ frames := 0, cells := 0, slots := 0, locals := 0 } : Room)) (fun a U => a = #[(.ref a1), (.int (2 : Int32))] ∧ Z.Warmed39 U.vm ∧ U.heap = h0) (fun _ _ _ _ _ => True) (fun _ U o U' => ∃ v L, o = .returned v ∧ own_QI h0 n0 1 v U'.heap L ∧ FrameEnd U o U' L ({ frames := 0, cells := 0, slots := 0, locals := 0 } : Room).cells ({ frames := 0, cells := 0, slots := 0, locals := 0 } : Room).slots) := by
  refine MetFree.of_bodySF (plainFor_of_name pn_20) hisR ?_
  intro p e s m args below meth c s₁ Bd hml0 hP hK
  obtain ⟨rfl, hZ, hh⟩ := hP
  have hx := Bd.exec
  have hby := Bd.bytes
  have hml : c.maxLocals = 2 := hml0
  have hown : s.vm.findClass "java/lang/StringUTF16" = some m.cls := findClass_of_methodNamed Bd.named
  have hnm := (name_of_methodNamed Bd.named Bd.method).1
  have X0 : Stand p l e ({ frames := 0, cells := 0, slots := 0, locals := 0 } : Room) s m #[(.ref a1), (.int (2 : Int32))] below meth c s₁ [] 0 0 := Stand.of_body Bd
  have e0 : s₁.heap = h0 := by rw [← hh, Bd.state]; rfl
  have N0 := Fr.nil n0
  obtain ⟨S0, hS0⟩ : ∃ z, z = s₁.setTop (entryFrame m #[(.ref a1), (.int (2 : Int32))] 2) := ⟨_, rfl⟩
  have P0 : own_Pr p.tables e below S0 s₁ (mkF m 0 #[.val (.ref a1), .val (.int (2 : Int32))] []) := fun t k => hS0 ▸ castTop (ef_16_u m a1) k
  have P1 : own_Pr p.tables e below S0 s₁ (mkF m 2 #[.val (.ref a1), .val (.int (2 : Int32))] [(.ref a1), (.int (2 : Int32))]) := fun t k => P0 t (by
    refine XS.iloadN X0.here hx rfl (hb hby d16_0) rfl ?_
    show Steps p.tables e below (s₁.setTop (mkF m 1 #[.val (.ref a1), .val (.int (2 : Int32))] [(.int (2 : Int32))])) _
    refine XS.aloadN X0.here hx rfl (hb hby d16_1) rfl rfl ?_
    show Steps p.tables e below (s₁.setTop (mkF m 2 #[.val (.ref a1), .val (.int (2 : Int32))] [(.ref a1), (.int (2 : Int32))])) _
    exact k)
  obtain ⟨cl2, Ar2, q2, S2, N2, H2, G2⟩ := id Av
  have P3 : own_Pr p.tables e below S0 s₁ (mkF m 8 #[.val (.ref a1), .val (.int (2 : Int32))] [(.int (1 : Int32))]) := fun t k => P1 t (by
    refine X0.arraylength hx (by rw [e0]; exact Ar2.1) (State.isArrayOf_alike hZ.alike Ar2.2.1) (g := (mkF m 2 #[.val (.ref a1), .val (.int (2 : Int32))] [(.ref a1), (.int (2 : Int32))])) rfl rfl (hb hby d16_2) _ ?_
    rw [len_of S2 N2]
    show Steps p.tables e below (s₁.setTop (mkF m 3 #[.val (.ref a1), .val (.int (2 : Int32))] [(.int (4 : Int32)), (.int (2 : Int32))])) _
    refine XS.isub X0.here hx rfl (hb hby d16_3) rfl ?_
    show Steps p.tables e below (s₁.setTop (mkF m 4 #[.val (.ref a1), .val (.int (2 : Int32))] [(.int (-2 : Int32))])) _
    refine XS.bipush X0.here hx rfl (hb hby d16_4) ?_
    show Steps p.tables e below (s₁.setTop (mkF m 6 #[.val (.ref a1), .val (.int (2 : Int32))] [(.int (31 : Int32)), (.int (-2 : Int32))])) _
    refine XS.iushr X0.here hx rfl (hb hby d16_6) rfl ?_
    show Steps p.tables e below (s₁.setTop (mkF m 7 #[.val (.ref a1), .val (.int (2 : Int32))] [(.int (1 : Int32))])) _
    refine XS.i2b X0.here hx rfl (hb hby d16_7) rfl ?_
    show Steps p.tables e below (s₁.setTop (mkF m 8 #[.val (.ref a1), .val (.int (2 : Int32))] [(.int (1 : Int32))])) _
    exact k)
  obtain ⟨fs, hr, hrun, hended, hW, hsame⟩ := X0.leave (v := some (.int (1 : Int32))) (fun h => by rw [Bd.returns] at h; cases h)
  have fin : Steps p.tables e below S0 (s₁.setFrames fs) := P3 _ (retN X0 hx (t := .byte) Bd.returns (by simp) (hb hby d16_8) hr)
  rw [hS0] at fin
  refine ⟨_, _, fin, hrun, hended, _, _, rfl, ?_, ⟨_, rfl⟩, hW, hsame.mono (by decide) (by decide)⟩
  show own_QI h0 n0 1 _ s₁.heap _
  rw [e0]
  exact ⟨_, rfl, rfl, N0, rfl⟩
theorem d3_0 : decode jdk_42_method_149_code 0 = .ok (.aload_n 0, 1) := by decide +kernel
theorem d3_1 : decode jdk_42_method_149_code 1 = .ok (.invokespecial 1, 3) := by decide +kernel
theorem d3_4 : decode jdk_42_method_149_code 4 = .ok (.iload_n 3, 1) := by decide +kernel
theorem d3_5 : decode jdk_42_method_149_code 5 = .ok (.ifCond .ne 22, 3) := by decide +kernel
theorem d3_27 : decode jdk_42_method_149_code 27 = .ok (.getstatic 38, 3) := by decide +kernel
theorem d3_30 : decode jdk_42_method_149_code 30 = .ok (.ifCond .eq 28, 3) := by decide +kernel
theorem d3_33 : decode jdk_42_method_149_code 33 = .ok (.aload_n 1, 1) := by decide +kernel
theorem d3_34 : decode jdk_42_method_149_code 34 = .ok (.iload_n 2, 1) := by decide +kernel
theorem d3_35 : decode jdk_42_method_149_code 35 = .ok (.iload_n 3, 1) := by decide +kernel
theorem d3_36 : decode jdk_42_method_149_code 36 = .ok (.invokestatic 177, 3) := by decide +kernel
theorem d3_39 : decode jdk_42_method_149_code 39 = .ok (.astore 5, 2) := by decide +kernel
theorem d3_41 : decode jdk_42_method_149_code 41 = .ok (.aload_n 0, 1) := by decide +kernel
theorem d3_42 : decode jdk_42_method_149_code 42 = .ok (.aload 5, 2) := by decide +kernel
theorem d3_44 : decode jdk_42_method_149_code 44 = .ok (.iload_n 3, 1) := by decide +kernel
theorem d3_45 : decode jdk_42_method_149_code 45 = .ok (.invokestatic 47, 3) := by decide +kernel
theorem d3_48 : decode jdk_42_method_149_code 48 = .ok (.putfield 15, 3) := by decide +kernel
theorem d3_51 : decode jdk_42_method_149_code 51 = .ok (.aload_n 0, 1) := by decide +kernel
theorem d3_52 : decode jdk_42_method_149_code 52 = .ok (.aload 5, 2) := by decide +kernel
theorem d3_54 : decode jdk_42_method_149_code 54 = .ok (.putfield 9, 3) := by decide +kernel
theorem d3_57 : decode jdk_42_method_149_code 57 = .ok (.return_, 1) := by decide +kernel
theorem pd_9 : parseMethodDescriptor "([BI)B" = some ⟨[(.array .byte), .int], some .byte⟩ := by decide +kernel
theorem ef_3_l (m : MethodId) (a1 : Addr) (a2 : Addr) : entryFrame m #[(.ref a1), (.ref a2), (.int (0 : Int32)), (.int (2 : Int32)), .null] 6 = mkF m 0 #[.val (.ref a1), .val (.ref a2), .val (.int (0 : Int32)), .val (.int (2 : Int32)), .val .null, .unset] [] := by first | (simp [entryFrame, mkF, argsToLocals, Value.category]; done) | rfl
set_option maxRecDepth 65536 in
set_option maxHeartbeats 40000000 in
theorem rm3_l (l : Launch) (Z : State) (a0 : Array Value) (hw : ∀ d ∈ tables_1, d.before a0 Z = true) (ws : List Jvm.Cond) (a1 : Addr) (a2 : Addr) (k2 : ClassId) (cs : Int32) (u0 u1 : Int32) (h0 : Heap) (n0 : Nat) (Z0 : n0 ≤ h0.size) (E1 : Exa Z h0 a1 "java/lang/String") (F1 : Fld Z h0 a1 "java/lang/String" "coder" "B" (.int (0 : Int32))) (F2 : Fld Z h0 a1 "java/lang/String" "value" "[B" .null) (g_a1 : n0 ≤ a1) (V2 : Arv Z h0 a2 k2 .char 2 [(.int u0), (.int u1)] (.int (0 : Int32))) (CS : Sta Z h0 "java/lang/String" "COMPACT_STRINGS" "Z" (.int cs)) (hcs : ¬ cs = (0 : Int32)) (hl0 : ¬ (255 : Int32) < u0) (hl1 : ¬ (255 : Int32) < u1) :
    MetFree l (⟨"java/lang/String", "<init>", "([CIILjava/lang/Void;)V"⟩ : MethodName) (head1 (Jvm.Cond.code (⟨"java/lang/String", "<init>", "([CIILjava/lang/Void;)V"⟩ : MethodName) jdk_42_method_149_code 6 none :: ws) ({ frames := 2, cells := 1, slots := 2, locals := 35 } : Room)) (fun a U => a = #[(.ref a1), (.ref a2), (.int (0 : Int32)), (.int (2 : Int32)), .null] ∧ Z.Warmed39 U.vm ∧ U.heap = h0) (fun _ _ _ _ _ => True) (fun _ U o U' => ∃ v L, o = .returned v ∧ own_QC Z a1 0 2 [(.int (nar .byte (u0.toInt8.toInt32))), (.int (nar .byte (u1.toInt8.toInt32)))] h0 n0 v U'.heap L ∧ FrameEnd U o U' L ({ frames := 2, cells := 1, slots := 2, locals := 35 } : Room).cells ({ frames := 2, cells := 1, slots := 2, locals := 35 } : Room).slots) := by
  refine MetFree.of_bodySF (plainFor_of_name pn_7) hisR ?_
  intro p e s m args below meth c s₁ Bd hml0 hP hK
  obtain ⟨rfl, hZ, hh⟩ := hP
  have hx := Bd.exec
  have hby := Bd.bytes
  have hml : c.maxLocals = 6 := hml0
  have hown : s.vm.findClass "java/lang/String" = some m.cls := findClass_of_methodNamed Bd.named
  have hnm := (name_of_methodNamed Bd.named Bd.method).1
  have X0 : Stand p l e ({ frames := 2, cells := 1, slots := 2, locals := 35 } : Room) s m #[(.ref a1), (.ref a2), (.int (0 : Int32)), (.int (2 : Int32)), .null] below meth c s₁ [] 0 0 := Stand.of_body Bd
  have e0 : s₁.heap = h0 := by rw [← hh, Bd.state]; rfl
  have N0 := Fr.nil n0
  obtain ⟨S0, hS0⟩ : ∃ z, z = s₁.setTop (entryFrame m #[(.ref a1), (.ref a2), (.int (0 : Int32)), (.int (2 : Int32)), .null] 6) := ⟨_, rfl⟩
  have P0 : own_Pr p.tables e below S0 s₁ (mkF m 0 #[.val (.ref a1), .val (.ref a2), .val (.int (0 : Int32)), .val (.int (2 : Int32)), .val .null, .unset] []) := fun t k => hS0 ▸ castTop (ef_3_l m a1 a2) k
  have K0 := Keep.refl h0 [a1]
  have P1 : own_Pr p.tables e below S0 s₁ (mkF m 1 #[.val (.ref a1), .val (.ref a2), .val (.int (0 : Int32)), .val (.int (2 : Int32)), .val .null, .unset] [(.ref a1)]) := fun t k => P0 t (by
    refine XS.aloadN X0.here hx rfl (hb hby d3_0) rfl rfl ?_
    show Steps p.tables e below (s₁.setTop (mkF m 1 #[.val (.ref a1), .val (.ref a2), .val (.int (0 : Int32)), .val (.int (2 : Int32)), .val .null, .unset] [(.ref a1)])) _
    exact k)
  obtain ⟨T2, X2, e2, st2⟩ := initO X0 hx hZ hown (hw _ (List.mem_of_getElem? (i := 15) rfl)) (hw _ (List.mem_of_getElem? (i := 16) rfl)) (hw _ (List.mem_of_getElem? (i := 17) rfl)) e0 (g := (mkF m 1 #[.val (.ref a1), .val (.ref a2), .val (.int (0 : Int32)), .val (.int (2 : Int32)), .val .null, .unset] [(.ref a1)])) rfl (by rw [hml]; rfl) rfl (hb hby d3_1) (by decide) (W := 0) (by show 2 * 0 + _ ≤ _; exact Nat.le_of_eq rfl) (by decide)
  have P3 : own_Pr p.tables e below S0 T2 (mkF m 4 #[.val (.ref a1), .val (.ref a2), .val (.int (0 : Int32)), .val (.int (2 : Int32)), .val .null, .unset] []) := fun t k => P1 t (st2 _ k)
  have P4 : own_Pr p.tables e below S0 T2 (mkF m 27 #[.val (.ref a1), .val (.ref a2), .val (.int (0 : Int32)), .val (.int (2 : Int32)), .val .null, .unset] []) := fun t k => P3 t (by
    refine XS.iloadN X2.here hx rfl (hb hby d3_4) rfl ?_
    show Steps p.tables e below (T2.setTop (mkF m 5 #[.val (.ref a1), .val (.ref a2), .val (.int (0 : Int32)), .val (.int (2 : Int32)), .val .null, .unset] [(.int (2 : Int32))])) _
    refine XS.ifYes X2.here hx rfl (pc0 := 5) (pc' := 27) rfl (hb hby d3_5) rfl (by decide) (by decide) (by decide) ?_
    show Steps p.tables e below (T2.setTop (mkF m 27 #[.val (.ref a1), .val (.ref a2), .val (.int (0 : Int32)), .val (.int (2 : Int32)), .val .null, .unset] [])) _
    exact k)
  obtain ⟨T5, X5, e5, st5⟩ := getS2 X2 hx hZ hown (host := "") (Or.inl (hw _ (List.mem_of_getElem? (i := 40) rfl))) Via.refl e2 CS (g := (mkF m 27 #[.val (.ref a1), .val (.ref a2), .val (.int (0 : Int32)), .val (.int (2 : Int32)), .val .null, .unset] [])) rfl (hb hby d3_27)
  have P6 : own_Pr p.tables e below S0 T5 (mkF m 30 #[.val (.ref a1), .val (.ref a2), .val (.int (0 : Int32)), .val (.int (2 : Int32)), .val .null, .unset] [(.int cs)]) := fun t k => P4 t (st5 _ k)
  have P7 : own_Pr p.tables e below S0 T5 (mkF m 36 #[.val (.ref a1), .val (.ref a2), .val (.int (0 : Int32)), .val (.int (2 : Int32)), .val .null, .unset] [(.int (2 : Int32)), (.int (0 : Int32)), (.ref a2)]) := fun t k => P6 t (by
    refine XS.ifNo X5.here hx rfl (hb hby d3_30) rfl (XT.i0_eq_f hcs) ?_
    show Steps p.tables e below (T5.setTop (mkF m 33 #[.val (.ref a1), .val (.ref a2), .val (.int (0 : Int32)), .val (.int (2 : Int32)), .val .null, .unset] [])) _
    refine XS.aloadN X5.here hx rfl (hb hby d3_33) rfl rfl ?_
    show Steps p.tables e below (T5.setTop (mkF m 34 #[.val (.ref a1), .val (.ref a2), .val (.int (0 : Int32)), .val (.int (2 : Int32)), .val .null, .unset] [(.ref a2)])) _
    refine XS.iloadN X5.here hx rfl (hb hby d3_34) rfl ?_
    show Steps p.tables e below (T5.setTop (mkF m 35 #[.val (.ref a1), .val (.ref a2), .val (.int (0 : Int32)), .val (.int (2 : Int32)), .val .null, .unset] [(.int (0 : Int32)), (.ref a2)])) _
    refine XS.iloadN X5.here hx rfl (hb hby d3_35) rfl ?_
    show Steps p.tables e below (T5.setTop (mkF m 36 #[.val (.ref a1), .val (.ref a2), .val (.int (0 : Int32)), .val (.int (2 : Int32)), .val .null, .unset] [(.int (2 : Int32)), (.int (0 : Int32)), (.ref a2)])) _
    exact k)
  obtain ⟨_, _, ⟨T8, L8, k8, n8⟩, -, X8, ⟨Lc8, hQ8, l8, y8, z8⟩, st8⟩ := Jvm.LawKit.callS X5 hx (y := (⟨"java/lang/StringUTF16", "compress", "([CII)[B"⟩ : MethodName)) hown (mvT hZ (hw _ (List.mem_of_getElem? (i := 60) rfl))) (mvT hZ (hw _ (List.mem_of_getElem? (i := 61) rfl))) (mvT hZ (hw _ (List.mem_of_getElem? (i := 62) rfl))) (mvT hZ (hw _ (List.mem_of_getElem? (i := 63) rfl))) (by decide) (backOf (W := 0) (rm14_l l Z a0 hw [] a2 k2 u0 u1 h0 n0 Z0 V2  hl0 hl1) hZ (hw _ (List.mem_of_getElem? (i := 63) rfl)) (hw _ (List.mem_of_getElem? (i := 62) rfl)) (by decide) (by decide)) (g := (mkF m 36 #[.val (.ref a1), .val (.ref a2), .val (.int (0 : Int32)), .val (.int (2 : Int32)), .val .null, .unset] [(.int (2 : Int32)), (.int (0 : Int32)), (.ref a2)])) rfl (by rw [hml]; rfl) (argsL := [(.ref a2), (.int (0 : Int32)), (.int (2 : Int32))]) (rest := []) (lenOf pd_7 rfl) rfl (by show 2 * 0 + _ ≤ _; exact Nat.le_of_eq rfl) (hb hby d3_36) (fun _ _ => ⟨rfl, e5, (by decide : 0 + 1 ≤ _), (by decide : 0 + 2 ≤ _)⟩)
  dsimp only [Pt.U, Pt.locs, Pt.cells, Pt.slots] at X8 l8 y8 z8 st8 hQ8
  subst l8 y8 z8
  obtain ⟨b8, kk8, rfl, Nq8, Kq8, sz8, Vq8⟩ := hQ8
  have N8n := Fr.app N0 Nq8
  have ne_a1_b8 : a1 ≠ b8 := Nat.ne_of_lt (Nat.lt_of_lt_of_le E1.lt sz8)
  have ne_a2_b8 : a2 ≠ b8 := Nat.ne_of_lt (Nat.lt_of_lt_of_le V2.lt sz8)
  have g_b8 : n0 ≤ b8 := Nat.le_trans Z0 sz8
  have sz_b8 : h0.size ≤ b8 := Nat.le_trans K0.1 sz8
  have F9 := own_sta_keep0 CS Kq8
  have F10 := E1.keep Kq8
  have F11 := F1.keep Kq8 nin0
  have F12 := F2.keep Kq8 nin0
  have F13 := V2.keep Kq8 nin0
  have Z14 := Nat.le_trans Z0 Kq8.1
  have K15 := K0.trans Kq8 all0
  have P16 : own_Pr p.tables e below S0 T8 (mkF m 39 #[.val (.ref a1), .val (.ref a2), .val (.int (0 : Int32)), .val (.int (2 : Int32)), .val .null, .unset] [(.ref b8)]) := fun t k => P7 t (st8 _ k)
  have P17 : own_Pr p.tables e below S0 T8 (mkF m 45 #[.val (.ref a1), .val (.ref a2), .val (.int (0 : Int32)), .val (.int (2 : Int32)), .val .null, .val (.ref b8)] [(.int (2 : Int32)), (.ref b8), (.ref a1)]) := fun t k => P16 t (by
    refine XS.astore X8.here hx rfl (hb hby d3_39) rfl rfl (l' := #[.val (.ref a1), .val (.ref a2), .val (.int (0 : Int32)), .val (.int (2 : Int32)), .val .null, .val (.ref b8)]) rfl ?_
    show Steps p.tables e below (T8.setTop (mkF m 41 #[.val (.ref a1), .val (.ref a2), .val (.int (0 : Int32)), .val (.int (2 : Int32)), .val .null, .val (.ref b8)] [])) _
    refine XS.aloadN X8.here hx rfl (hb hby d3_41) rfl rfl ?_
    show Steps p.tables e below (T8.setTop (mkF m 42 #[.val (.ref a1), .val (.ref a2), .val (.int (0 : Int32)), .val (.int (2 : Int32)), .val .null, .val (.ref b8)] [(.ref a1)])) _
    refine XS.aload X8.here hx rfl (hb hby d3_42) rfl rfl ?_
    show Steps p.tables e below (T8.setTop (mkF m 44 #[.val (.ref a1), .val (.ref a2), .val (.int (0 : Int32)), .val (.int (2 : Int32)), .val .null, .val (.ref b8)] [(.ref b8), (.ref a1)])) _
    refine XS.iloadN X8.here hx rfl (hb hby d3_44) rfl ?_
    show Steps p.tables e below (T8.setTop (mkF m 45 #[.val (.ref a1), .val (.ref a2), .val (.int (0 : Int32)), .val (.int (2 : Int32)), .val .null, .val (.ref b8)] [(.int (2 : Int32)), (.ref b8), (.ref a1)])) _
    exact k)
  obtain ⟨_, _, ⟨T18, L18, k18, n18⟩, -, X18, ⟨Lc18, hQ18, l18, y18, z18⟩, st18⟩ := Jvm.LawKit.callS X8 hx (y := (⟨"java/lang/StringUTF16", "coderFromArrayLen", "([BI)B"⟩ : MethodName)) hown (mvT hZ (hw _ (List.mem_of_getElem? (i := 67) rfl))) (mvT hZ (hw _ (List.mem_of_getElem? (i := 68) rfl))) (mvT hZ (hw _ (List.mem_of_getElem? (i := 62) rfl))) (mvT hZ (hw _ (List.mem_of_getElem? (i := 69) rfl))) (by decide) (backOf (W := 1) (rm16_l l Z a0 hw [] b8 kk8 _ T8.heap n0 Z14 Vq8) hZ (hw _ (List.mem_of_getElem? (i := 69) rfl)) (hw _ (List.mem_of_getElem? (i := 62) rfl)) (by decide) (by decide)) (g := (mkF m 45 #[.val (.ref a1), .val (.ref a2), .val (.int (0 : Int32)), .val (.int (2 : Int32)), .val .null, .val (.ref b8)] [(.int (2 : Int32)), (.ref b8), (.ref a1)])) rfl (by rw [hml]; rfl) (argsL := [(.ref b8), (.int (2 : Int32))]) (rest := [(.ref a1)]) (lenOf pd_9 rfl) rfl (by show 2 * 0 + _ ≤ _; exact Nat.le_of_eq rfl) (hb hby d3_45) (fun _ _ => ⟨rfl, rfl, (by decide : 1 + 0 ≤ _), (by decide : 2 + 0 ≤ _)⟩)
  dsimp only [Pt.U, Pt.locs, Pt.cells, Pt.slots] at X18 l18 y18 z18 st18 hQ18
  subst l18 y18 z18
  obtain ⟨z18v, rfl, hz18v, Nq18, eq18⟩ := hQ18
  have N18n := Fr.app N8n Nq18
  have hy18 := hz18v.symm; subst hy18
  have P19 : own_Pr p.tables e below S0 T18 (mkF m 48 #[.val (.ref a1), .val (.ref a2), .val (.int (0 : Int32)), .val (.int (2 : Int32)), .val .null, .val (.ref b8)] [(.int (0 : Int32)), (.ref a1)]) := fun t k => P17 t (st18 _ k)
  obtain ⟨T20, h20, X20, e20, W20, st20⟩ := putFN X18 hx hZ hown (hw _ (List.mem_of_getElem? (i := 25) rfl)) Via.refl eq18 F11 F10 (Or.inr ⟨(hw _ (List.mem_of_getElem? (i := 21) rfl)), rfl, hnm⟩) (hw _ (List.mem_of_getElem? (i := 5) rfl)) (ty := .byte) (v' := (.int (0 : Int32))) (by decide) rfl rfl (g := (mkF m 48 #[.val (.ref a1), .val (.ref a2), .val (.int (0 : Int32)), .val (.int (2 : Int32)), .val .null, .val (.ref b8)] [(.int (0 : Int32)), (.ref a1)])) rfl rfl (hb hby d3_48)
  have F20 := F11.same W20
  have F21 := F9.wr W20
  have F22 := F10.wr W20
  have F23 := F12.other W20 (Or.inr (slot_ne (Or.inr (hw _ (List.mem_of_getElem? (i := 20) rfl))) (Or.inr (hw _ (List.mem_of_getElem? (i := 21) rfl))) (by decide) (t := (.array .byte)) (t' := .byte) (by decide) (by decide)))
  have F24 := Vq8.other W20 (Ne.symm ne_a1_b8)
  have Z25 : n0 ≤ h20.size := by rw [W20.size]; exact Z14
  have NF20 := Fr.snoc X20 N18n g_a1
  have K26 := K15.wr W20 (Or.inl (List.mem_of_getElem? (i := 0) rfl))
  have P27 : own_Pr p.tables e below S0 T20 (mkF m 51 #[.val (.ref a1), .val (.ref a2), .val (.int (0 : Int32)), .val (.int (2 : Int32)), .val .null, .val (.ref b8)] []) := fun t k => P19 t (st20 _ k)
  have P28 : own_Pr p.tables e below S0 T20 (mkF m 54 #[.val (.ref a1), .val (.ref a2), .val (.int (0 : Int32)), .val (.int (2 : Int32)), .val .null, .val (.ref b8)] [(.ref b8), (.ref a1)]) := fun t k => P27 t (by
    refine XS.aloadN X20.here hx rfl (hb hby d3_51) rfl rfl ?_
    show Steps p.tables e below (T20.setTop (mkF m 52 #[.val (.ref a1), .val (.ref a2), .val (.int (0 : Int32)), .val (.int (2 : Int32)), .val .null, .val (.ref b8)] [(.ref a1)])) _
    refine XS.aload X20.here hx rfl (hb hby d3_52) rfl rfl ?_
    show Steps p.tables e below (T20.setTop (mkF m 54 #[.val (.ref a1), .val (.ref a2), .val (.int (0 : Int32)), .val (.int (2 : Int32)), .val .null, .val (.ref b8)] [(.ref b8), (.ref a1)])) _
    exact k)
  obtain ⟨T29, h29, X29, e29, W29, st29⟩ := putF X20 hx hZ hown (host := "") (Or.inl (hw _ (List.mem_of_getElem? (i := 24) rfl))) Via.refl e20 F23 F22 (Or.inr ⟨(hw _ (List.mem_of_getElem? (i := 20) rfl)), rfl, hnm⟩) (hw _ (List.mem_of_getElem? (i := 5) rfl)) (ty := (.array .byte)) (by decide) rfl rfl (g := (mkF m 54 #[.val (.ref a1), .val (.ref a2), .val (.int (0 : Int32)), .val (.int (2 : Int32)), .val .null, .val (.ref b8)] [(.ref b8), (.ref a1)])) rfl rfl (hb hby d3_54)
  have F29 := F23.same W29
  have F30 := F21.wr W29
  have F31 := F22.wr W29
  have F32 := F20.other W29 (Or.inr (slot_ne (Or.inr (hw _ (List.mem_of_getElem? (i := 21) rfl))) (Or.inr (hw _ (List.mem_of_getElem? (i := 20) rfl))) (by decide) (t := .byte) (t' := (.array .byte)) (by decide) (by decide)))
  have F33 := F24.other W29 (Ne.symm ne_a1_b8)
  have Z34 : n0 ≤ h29.size := by rw [W29.size]; exact Z25
  have NF29 := Fr.snoc X29 NF20 g_a1
  have K35 := K26.wr W29 (Or.inl (List.mem_of_getElem? (i := 0) rfl))
  have P36 : own_Pr p.tables e below S0 T29 (mkF m 57 #[.val (.ref a1), .val (.ref a2), .val (.int (0 : Int32)), .val (.int (2 : Int32)), .val .null, .val (.ref b8)] []) := fun t k => P28 t (st29 _ k)
  obtain ⟨fs, hr, hrun, hended, hW, hsame⟩ := X29.leave (v := none) (fun _ => rfl)
  have fin : Steps p.tables e below S0 (T29.setFrames fs) := P36 _ (X29.returnOut hx Bd.returns (hb hby d3_57) hr)
  rw [hS0] at fin
  refine ⟨_, _, fin, hrun, hended, _, _, rfl, ?_, ⟨_, rfl⟩, hW, hsame.mono (by decide) (by decide)⟩
  show own_QC Z a1 0 2 [(.int (nar .byte (u0.toInt8.toInt32))), (.int (nar .byte (u1.toInt8.toInt32)))] h0 n0 _ T29.heap _
  rw [e29]
  exact ⟨rfl, NF29, K35, _, _, F31, F32, F29, F33⟩
theorem d2_0 : decode jdk_42_method_3_code 0 = .ok (.aload_n 0, 1) := by decide +kernel
theorem d2_1 : decode jdk_42_method_3_code 1 = .ok (.aload_n 1, 1) := by decide +kernel
theorem d2_2 : decode jdk_42_method_3_code 2 = .ok (.iconst 0, 1) := by decide +kernel
theorem d2_3 : decode jdk_42_method_3_code 3 = .ok (.aload_n 1, 1) := by decide +kernel
theorem d2_4 : decode jdk_42_method_3_code 4 = .ok (.arraylength, 1) := by decide +kernel
theorem d2_5 : decode jdk_42_method_3_code 5 = .ok (.aconst_null, 1) := by decide +kernel
theorem d2_6 : decode jdk_42_method_3_code 6 = .ok (.invokespecial 27, 3) := by decide +kernel
theorem d2_9 : decode jdk_42_method_3_code 9 = .ok (.return_, 1) := by decide +kernel
theorem pd_10 : parseMethodDescriptor "([CIILjava/lang/Void;)V" = some ⟨[(.array .char), .int, .int, (.object "java/lang/Void")], none⟩ := by decide +kernel
theorem ef_2_l (m : MethodId) (a1 : Addr) (a2 : Addr) : entryFrame m #[(.ref a1), (.ref a2)] 2 = mkF m 0 #[.val (.ref a1), .val (.ref a2)] [] := by first | (simp [entryFrame, mkF, argsToLocals, Value.category]; done) | rfl
set_option maxRecDepth 65536 in
set_option maxHeartbeats 40000000 in
theorem rm2_l (l : Launch) (Z : State) (a0 : Array Value) (hw : ∀ d ∈ tables_1, d.before a0 Z = true) (ws : List Jvm.Cond) (a1 : Addr) (a2 : Addr) (k2 : ClassId) (cs : Int32) (u0 u1 : Int32) (h0 : Heap) (n0 : Nat) (Z0 : n0 ≤ h0.size) (E1 : Exa Z h0 a1 "java/lang/String") (F1 : Fld Z h0 a1 "java/lang/String" "coder" "B" (.int (0 : Int32))) (F2 : Fld Z h0 a1 "java/lang/String" "value" "[B" .null) (g_a1 : n0 ≤ a1) (V2 : Arv Z h0 a2 k2 .char 2 [(.int u0), (.int u1)] (.int (0 : Int32))) (CS : Sta Z h0 "java/lang/String" "COMPACT_STRINGS" "Z" (.int cs)) (hcs : ¬ cs = (0 : Int32)) (hl0 : ¬ (255 : Int32) < u0) (hl1 : ¬ (255 : Int32) < u1) :
    MetFree l (⟨"java/lang/String", "<init>", "([C)V"⟩ : MethodName) (head1 (Jvm.Cond.code (⟨"java/lang/String", "<init>", "([C)V"⟩ : MethodName) jdk_42_method_3_code 2 none :: ws) ({ frames := 3, cells := 1, slots := 2, locals := 52 } : Room)) (fun a U => a = #[(.ref a1), (.ref a2)] ∧ Z.Warmed39 U.vm ∧ U.heap = h0) (fun _ _ _ _ _ => True) (fun _ U o U' => ∃ v L, o = .returned v ∧ own_QC Z a1 0 2 [(.int (nar .byte (u0.toInt8.toInt32))), (.int (nar .byte (u1.toInt8.toInt32)))] h0 n0 v U'.heap L ∧ FrameEnd U o U' L ({ frames := 3, cells := 1, slots := 2, locals := 52 } : Room).cells ({ frames := 3, cells := 1, slots := 2, locals := 52 } : Room).slots) := by
  refine MetFree.of_bodySF (plainFor_of_name pn_7) hisR ?_
  intro p e s m args below meth c s₁ Bd hml0 hP hK
  obtain ⟨rfl, hZ, hh⟩ := hP
  have hx := Bd.exec
  have hby := Bd.bytes
  have hml : c.maxLocals = 2 := hml0
  have hown : s.vm.findClass "java/lang/String" = some m.cls := findClass_of_methodNamed Bd.named
  have hnm := (name_of_methodNamed Bd.named Bd.method).1
  have X0 : Stand p l e ({ frames := 3, cells := 1, slots := 2, locals := 52 } : Room) s m #[(.ref a1), (.ref a2)] below meth c s₁ [] 0 0 := Stand.of_body Bd
  have e0 : s₁.heap = h0 := by rw [← hh, Bd.state]; rfl
  have N0 := Fr.nil n0
  obtain ⟨S0, hS0⟩ : ∃ z, z = s₁.setTop (entryFrame m #[(.ref a1), (.ref a2)] 2) := ⟨_, rfl⟩
  have P0 : own_Pr p.tables e below S0 s₁ (mkF m 0 #[.val (.ref a1), .val (.ref a2)] []) := fun t k => hS0 ▸ castTop (ef_2_l m a1 a2) k
  have P1 : own_Pr p.tables e below S0 s₁ (mkF m 4 #[.val (.ref a1), .val (.ref a2)] [(.ref a2), (.int (0 : Int32)), (.ref a2), (.ref a1)]) := fun t k => P0 t (by
    refine XS.aloadN X0.here hx rfl (hb hby d2_0) rfl rfl ?_
    show Steps p.tables e below (s₁.setTop (mkF m 1 #[.val (.ref a1), .val (.ref a2)] [(.ref a1)])) _
    refine XS.aloadN X0.here hx rfl (hb hby d2_1) rfl rfl ?_
    show Steps p.tables e below (s₁.setTop (mkF m 2 #[.val (.ref a1), .val (.ref a2)] [(.ref a2), (.ref a1)])) _
    refine XS.iconst X0.here hx rfl (hb hby d2_2) ?_
    show Steps p.tables e below (s₁.setTop (mkF m 3 #[.val (.ref a1), .val (.ref a2)] [(.int (0 : Int32)), (.ref a2), (.ref a1)])) _
    refine XS.aloadN X0.here hx rfl (hb hby d2_3) rfl rfl ?_
    show Steps p.tables e below (s₁.setTop (mkF m 4 #[.val (.ref a1), .val (.ref a2)] [(.ref a2), (.int (0 : Int32)), (.ref a2), (.ref a1)])) _
    exact k)
  obtain ⟨cl2, Ar2, q2, S2, N2, H2, G2⟩ := id V2
  have P3 : own_Pr p.tables e below S0 s₁ (mkF m 6 #[.val (.ref a1), .val (.ref a2)] [.null, (.int (2 : Int32)), (.int (0 : Int32)), (.ref a2), (.ref a1)]) := fun t k => P1 t (by
    refine X0.arraylength hx (by rw [e0]; exact Ar2.1) (State.isArrayOf_alike hZ.alike Ar2.2.1) (g := (mkF m 4 #[.val (.ref a1), .val (.ref a2)] [(.ref a2), (.int (0 : Int32)), (.ref a2), (.ref a1)])) rfl rfl (hb hby d2_4) _ ?_
    rw [len_of S2 N2]
    show Steps p.tables e below (s₁.setTop (mkF m 5 #[.val (.ref a1), .val (.ref a2)] [(.int (2 : Int32)), (.int (0 : Int32)), (.ref a2), (.ref a1)])) _
    refine XS.aconstNull X0.here hx rfl (hb hby d2_5) ?_
    show Steps p.tables e below (s₁.setTop (mkF m 6 #[.val (.ref a1), .val (.ref a2)] [.null, (.int (2 : Int32)), (.int (0 : Int32)), (.ref a2), (.ref a1)])) _
    exact k)
  obtain ⟨_, _, ⟨T4, L4, k4, n4⟩, -, X4, ⟨Lc4, hQ4, l4, y4, z4⟩, st4⟩ := X0.specialBack hx (y := (⟨"java/lang/String", "<init>", "([CIILjava/lang/Void;)V"⟩ : MethodName)) rfl hown (mvT hZ (hw _ (List.mem_of_getElem? (i := 11) rfl))) (mvT hZ (hw _ (List.mem_of_getElem? (i := 12) rfl))) (mvT hZ (hw _ (List.mem_of_getElem? (i := 14) rfl))) (by decide) (backOf (W := 0) (rm3_l l Z a0 hw [] a1 a2 k2 cs u0 u1 h0 n0 Z0 E1 F1 F2 g_a1 V2 CS hcs  hl0 hl1) hZ (hw _ (List.mem_of_getElem? (i := 14) rfl)) (hw _ (List.mem_of_getElem? (i := 6) rfl)) (by decide) (by decide)) (g := (mkF m 6 #[.val (.ref a1), .val (.ref a2)] [.null, (.int (2 : Int32)), (.int (0 : Int32)), (.ref a2), (.ref a1)])) rfl (by rw [hml]; rfl) (Steps.refl _) (a := a1) (argsL := [(.ref a2), (.int (0 : Int32)), (.int (2 : Int32)), .null]) (rest := []) (lenOf pd_10 rfl) rfl (by show 2 * 0 + _ ≤ _; exact Nat.le_of_eq rfl) (hb hby d2_6) (fun _ _ => ⟨rfl, e0, (by decide : 0 + 1 ≤ _), (by decide : 0 + 2 ≤ _)⟩)
  dsimp only [Pt.U, Pt.locs, Pt.cells, Pt.slots] at X4 l4 y4 z4 st4 hQ4
  subst l4 y4 z4
  obtain ⟨rfl, Nq4, Kq4, Rq4⟩ := hQ4
  have N4n := Fr.app N0 Nq4
  have P5 : own_Pr p.tables e below S0 T4 (mkF m 9 #[.val (.ref a1), .val (.ref a2)] []) := fun t k => P3 t (st4.trans k)
  obtain ⟨fs, hr, hrun, hended, hW, hsame⟩ := X4.leave (v := none) (fun _ => rfl)
  have fin : Steps p.tables e below S0 (T4.setFrames fs) := P5 _ (X4.returnOut hx Bd.returns (hb hby d2_9) hr)
  rw [hS0] at fin
  refine ⟨_, _, fin, hrun, hended, _, _, rfl, ?_, ⟨_, rfl⟩, hW, hsame.mono (by decide) (by decide)⟩
  show own_QC Z a1 0 2 [(.int (nar .byte (u0.toInt8.toInt32))), (.int (nar .byte (u1.toInt8.toInt32)))] h0 n0 _ T4.heap _
  exact ⟨rfl, N4n, Kq4, Rq4⟩
theorem ef_3_u (m : MethodId) (a1 : Addr) (a2 : Addr) : entryFrame m #[(.ref a1), (.ref a2), (.int (0 : Int32)), (.int (2 : Int32)), .null] 6 = mkF m 0 #[.val (.ref a1), .val (.ref a2), .val (.int (0 : Int32)), .val (.int (2 : Int32)), .val .null, .unset] [] := by first | (simp [entryFrame, mkF, argsToLocals, Value.category]; done) | rfl
set_option maxRecDepth 65536 in
set_option maxHeartbeats 40000000 in
theorem rm3_u (l : Launch) (Z : State) (a0 : Array Value) (hw : ∀ d ∈ tables_1, d.before a0 Z = true) (ws : List Jvm.Cond) (a1 : Addr) (a2 : Addr) (k2 : ClassId) (cs : Int32) (u0 u1 : Int32) (h0 : Heap) (n0 : Nat) (Z0 : n0 ≤ h0.size) (E1 : Exa Z h0 a1 "java/lang/String") (F1 : Fld Z h0 a1 "java/lang/String" "coder" "B" (.int (0 : Int32))) (F2 : Fld Z h0 a1 "java/lang/String" "value" "[B" .null) (g_a1 : n0 ≤ a1) (V2 : Arv Z h0 a2 k2 .char 2 [(.int u0), (.int u1)] (.int (0 : Int32))) (CS : Sta Z h0 "java/lang/String" "COMPACT_STRINGS" "Z" (.int cs)) (hcs : ¬ cs = (0 : Int32)) (AD : Sta Z h0 "java/lang/StringUTF16" "$assertionsDisabled" "Z" (.int (1 : Int32))) (HB : Sta Z h0 "java/lang/StringUTF16" "HI_BYTE_SHIFT" "I" (.int (0 : Int32))) (LB : Sta Z h0 "java/lang/StringUTF16" "LO_BYTE_SHIFT" "I" (.int (8 : Int32))) (hU : (255 : Int32) < u0 ∨ (¬ (255 : Int32) < u0 ∧ (255 : Int32) < u1)) (hc0 : own_ch u0) (hc1 : own_ch u1) :
    MetFree l (⟨"java/lang/String", "<init>", "([CIILjava/lang/Void;)V"⟩ : MethodName) (head1 (Jvm.Cond.code (⟨"java/lang/String", "<init>", "([CIILjava/lang/Void;)V"⟩ : MethodName) jdk_42_method_149_code 6 none :: ws) ({ frames := 4, cells := 2, slots := 6, locals := 57 } : Room)) (fun a U => a = #[(.ref a1), (.ref a2), (.int (0 : Int32)), (.int (2 : Int32)), .null] ∧ Z.Warmed39 U.vm ∧ U.heap = h0) (fun _ _ _ _ _ => True) (fun _ U o U' => ∃ v L, o = .returned v ∧ own_QC Z a1 1 4 [(.int (nar .byte ((u0 >>> ((0 : Int32) &&& 31)).toInt8.toInt32))), (.int (nar .byte ((u0 >>> ((8 : Int32) &&& 31)).toInt8.toInt32))), (.int (nar .byte ((u1 >>> ((0 : Int32) &&& 31)).toInt8.toInt32))), (.int (nar .byte ((u1 >>> ((8 : Int32) &&& 31)).toInt8.toInt32)))] h0 n0 v U'.heap L ∧ FrameEnd U o U' L ({ frames := 4, cells := 2, slots := 6, locals := 57 } : Room).cells ({ frames := 4, cells := 2, slots := 6, locals := 57 } : Room).slots) := by
  refine MetFree.of_bodySF (plainFor_of_name pn_7) hisR ?_
  intro p e s m args below meth c s₁ Bd hml0 hP hK
  obtain ⟨rfl, hZ, hh⟩ := hP
  have hx := Bd.exec
  have hby := Bd.bytes
  have hml : c.maxLocals = 6 := hml0
  have hown : s.vm.findClass "java/lang/String" = some m.cls := findClass_of_methodNamed Bd.named
  have hnm := (name_of_methodNamed Bd.named Bd.method).1
  have X0 : Stand p l e ({ frames := 4, cells := 2, slots := 6, locals := 57 } : Room) s m #[(.ref a1), (.ref a2), (.int (0 : Int32)), (.int (2 : Int32)), .null] below meth c s₁ [] 0 0 := Stand.of_body Bd
  have e0 : s₁.heap = h0 := by rw [← hh, Bd.state]; rfl
  have N0 := Fr.nil n0
  obtain ⟨S0, hS0⟩ : ∃ z, z = s₁.setTop (entryFrame m #[(.ref a1), (.ref a2), (.int (0 : Int32)), (.int (2 : Int32)), .null] 6) := ⟨_, rfl⟩
  have P0 : own_Pr p.tables e below S0 s₁ (mkF m 0 #[.val (.ref a1), .val (.ref a2), .val (.int (0 : Int32)), .val (.int (2 : Int32)), .val .null, .unset] []) := fun t k => hS0 ▸ castTop (ef_3_u m a1 a2) k
  have K0 := Keep.refl h0 [a1]
  have P1 : own_Pr p.tables e below S0 s₁ (mkF m 1 #[.val (.ref a1), .val (.ref a2), .val (.int (0 : Int32)), .val (.int (2 : Int32)), .val .null, .unset] [(.ref a1)]) := fun t k => P0 t (by
    refine XS.aloadN X0.here hx rfl (hb hby d3_0) rfl rfl ?_
    show Steps p.tables e below (s₁.setTop (mkF m 1 #[.val (.ref a1), .val (.ref a2), .val (.int (0 : Int32)), .val (.int (2 : Int32)), .val .null, .unset] [(.ref a1)])) _
    exact k)
  obtain ⟨T2, X2, e2, st2⟩ := initO X0 hx hZ hown (hw _ (List.mem_of_getElem? (i := 15) rfl)) (hw _ (List.mem_of_getElem? (i := 16) rfl)) (hw _ (List.mem_of_getElem? (i := 17) rfl)) e0 (g := (mkF m 1 #[.val (.ref a1), .val (.ref a2), .val (.int (0 : Int32)), .val (.int (2 : Int32)), .val .null, .unset] [(.ref a1)])) rfl (by rw [hml]; rfl) rfl (hb hby d3_1) (by decide) (W := 0) (by show 2 * 0 + _ ≤ _; exact Nat.le_of_eq rfl) (by decide)
  have P3 : own_Pr p.tables e below S0 T2 (mkF m 4 #[.val (.ref a1), .val (.ref a2), .val (.int (0 : Int32)), .val (.int (2 : Int32)), .val .null, .unset] []) := fun t k => P1 t (st2 _ k)
  have P4 : own_Pr p.tables e below S0 T2 (mkF m 27 #[.val (.ref a1), .val (.ref a2), .val (.int (0 : Int32)), .val (.int (2 : Int32)), .val .null, .unset] []) := fun t k => P3 t (by
    refine XS.iloadN X2.here hx rfl (hb hby d3_4) rfl ?_
    show Steps p.tables e below (T2.setTop (mkF m 5 #[.val (.ref a1), .val (.ref a2), .val (.int (0 : Int32)), .val (.int (2 : Int32)), .val .null, .unset] [(.int (2 : Int32))])) _
    refine XS.ifYes X2.here hx rfl (pc0 := 5) (pc' := 27) rfl (hb hby d3_5) rfl (by decide) (by decide) (by decide) ?_
    show Steps p.tables e below (T2.setTop (mkF m 27 #[.val (.ref a1), .val (.ref a2), .val (.int (0 : Int32)), .val (.int (2 : Int32)), .val .null, .unset] [])) _
    exact k)
  obtain ⟨T5, X5, e5, st5⟩ := getS2 X2 hx hZ hown (host := "") (Or.inl (hw _ (List.mem_of_getElem? (i := 40) rfl))) Via.refl e2 CS (g := (mkF m 27 #[.val (.ref a1), .val (.ref a2), .val (.int (0 : Int32)), .val (.int (2 : Int32)), .val .null, .unset] [])) rfl (hb hby d3_27)
  have P6 : own_Pr p.tables e below S0 T5 (mkF m 30 #[.val (.ref a1), .val (.ref a2), .val (.int (0 : Int32)), .val (.int (2 : Int32)), .val .null, .unset] [(.int cs)]) := fun t k => P4 t (st5 _ k)
  have P7 : own_Pr p.tables e below S0 T5 (mkF m 36 #[.val (.ref a1), .val (.ref a2), .val (.int (0 : Int32)), .val (.int (2 : Int32)), .val .null, .unset] [(.int (2 : Int32)), (.int (0 : Int32)), (.ref a2)]) := fun t k => P6 t (by
    refine XS.ifNo X5.here hx rfl (hb hby d3_30) rfl (XT.i0_eq_f hcs) ?_
    show Steps p.tables e below (T5.setTop (mkF m 33 #[.val (.ref a1), .val (.ref a2), .val (.int (0 : Int32)), .val (.int (2 : Int32)), .val .null, .unset] [])) _
    refine XS.aloadN X5.here hx rfl (hb hby d3_33) rfl rfl ?_
    show Steps p.tables e below (T5.setTop (mkF m 34 #[.val (.ref a1), .val (.ref a2), .val (.int (0 : Int32)), .val (.int (2 : Int32)), .val .null, .unset] [(.ref a2)])) _
    refine XS.iloadN X5.here hx rfl (hb hby d3_34) rfl ?_
    show Steps p.tables e below (T5.setTop (mkF m 35 #[.val (.ref a1), .val (.ref a2), .val (.int (0 : Int32)), .val (.int (2 : Int32)), .val .null, .unset] [(.int (0 : Int32)), (.ref a2)])) _
    refine XS.iloadN X5.here hx rfl (hb hby d3_35) rfl ?_
    show Steps p.tables e below (T5.setTop (mkF m 36 #[.val (.ref a1), .val (.ref a2), .val (.int (0 : Int32)), .val (.int (2 : Int32)), .val .null, .unset] [(.int (2 : Int32)), (.int (0 : Int32)), (.ref a2)])) _
    exact k)
  obtain ⟨_, _, ⟨T8, L8, k8, n8⟩, -, X8, ⟨Lc8, hQ8, l8, y8, z8⟩, st8⟩ := Jvm.LawKit.callS X5 hx (y := (⟨"java/lang/StringUTF16", "compress", "([CII)[B"⟩ : MethodName)) hown (mvT hZ (hw _ (List.mem_of_getElem? (i := 60) rfl))) (mvT hZ (hw _ (List.mem_of_getElem? (i := 61) rfl))) (mvT hZ (hw _ (List.mem_of_getElem? (i := 62) rfl))) (mvT hZ (hw _ (List.mem_of_getElem? (i := 63) rfl))) (by decide) (backOf (W := 0) (rm14_u l Z a0 hw [] a2 k2 u0 u1 h0 n0 Z0 V2 AD HB LB hU hc0 hc1) hZ (hw _ (List.mem_of_getElem? (i := 63) rfl)) (hw _ (List.mem_of_getElem? (i := 62) rfl)) (by decide) (by decide)) (g := (mkF m 36 #[.val (.ref a1), .val (.ref a2), .val (.int (0 : Int32)), .val (.int (2 : Int32)), .val .null, .unset] [(.int (2 : Int32)), (.int (0 : Int32)), (.ref a2)])) rfl (by rw [hml]; rfl) (argsL := [(.ref a2), (.int (0 : Int32)), (.int (2 : Int32))]) (rest := []) (lenOf pd_7 rfl) rfl (by show 2 * 0 + _ ≤ _; exact Nat.le_of_eq rfl) (hb hby d3_36) (fun _ _ => ⟨rfl, e5, (by decide : 0 + 2 ≤ _), (by decide : 0 + 6 ≤ _)⟩)
  dsimp only [Pt.U, Pt.locs, Pt.cells, Pt.slots] at X8 l8 y8 z8 st8 hQ8
  subst l8 y8 z8
  obtain ⟨b8, kk8, rfl, Nq8, Kq8, sz8, Vq8⟩ := hQ8
  have N8n := Fr.app N0 Nq8
  have ne_a1_b8 : a1 ≠ b8 := Nat.ne_of_lt (Nat.lt_of_lt_of_le E1.lt sz8)
  have ne_a2_b8 : a2 ≠ b8 := Nat.ne_of_lt (Nat.lt_of_lt_of_le V2.lt sz8)
  have g_b8 : n0 ≤ b8 := Nat.le_trans Z0 sz8
  have sz_b8 : h0.size ≤ b8 := Nat.le_trans K0.1 sz8
  have F9 := own_sta_keep0 CS Kq8
  have F10 := own_sta_keep0 AD Kq8
  have F11 := own_sta_keep0 HB Kq8
  have F12 := own_sta_keep0 LB Kq8
  have F13 := E1.keep Kq8
  have F14 := F1.keep Kq8 nin0
  have F15 := F2.keep Kq8 nin0
  have F16 := V2.keep Kq8 nin0
  have Z17 := Nat.le_trans Z0 Kq8.1
  have K18 := K0.trans Kq8 all0
  have P19 : own_Pr p.tables e below S0 T8 (mkF m 39 #[.val (.ref a1), .val (.ref a2), .val (.int (0 : Int32)), .val (.int (2 : Int32)), .val .null, .unset] [(.ref b8)]) := fun t k => P7 t (st8 _ k)
  have P20 : own_Pr p.tables e below S0 T8 (mkF m 45 #[.val (.ref a1), .val (.ref a2), .val (.int (0 : Int32)), .val (.int (2 : Int32)), .val .null, .val (.ref b8)] [(.int (2 : Int32)), (.ref b8), (.ref a1)]) := fun t k => P19 t (by
    refine XS.astore X8.here hx rfl (hb hby d3_39) rfl rfl (l' := #[.val (.ref a1), .val (.ref a2), .val (.int (0 : Int32)), .val (.int (2 : Int32)), .val .null, .val (.ref b8)]) rfl ?_
    show Steps p.tables e below (T8.setTop (mkF m 41 #[.val (.ref a1), .val (.ref a2), .val (.int (0 : Int32)), .val (.int (2 : Int32)), .val .null, .val (.ref b8)] [])) _
    refine XS.aloadN X8.here hx rfl (hb hby d3_41) rfl rfl ?_
    show Steps p.tables e below (T8.setTop (mkF m 42 #[.val (.ref a1), .val (.ref a2), .val (.int (0 : Int32)), .val (.int (2 : Int32)), .val .null, .val (.ref b8)] [(.ref a1)])) _
    refine XS.aload X8.here hx rfl (hb hby d3_42) rfl rfl ?_
    show Steps p.tables e below (T8.setTop (mkF m 44 #[.val (.ref a1), .val (.ref a2), .val (.int (0 : Int32)), .val (.int (2 : Int32)), .val .null, .val (.ref b8)] [(.ref b8), (.ref a1)])) _
    refine XS.iloadN X8.here hx rfl (hb hby d3_44) rfl ?_
    show Steps p.tables e below (T8.setTop (mkF m 45 #[.val (.ref a1), .val (.ref a2), .val (.int (0 : Int32)), .val (.int (2 : Int32)), .val .null, .val (.ref b8)] [(.int (2 : Int32)), (.ref b8), (.ref a1)])) _
    exact k)
  obtain ⟨_, _, ⟨T21, L21, k21, n21⟩, -, X21, ⟨Lc21, hQ21, l21, y21, z21⟩, st21⟩ := Jvm.LawKit.callS X8 hx (y := (⟨"java/lang/StringUTF16", "coderFromArrayLen", "([BI)B"⟩ : MethodName)) hown (mvT hZ (hw _ (List.mem_of_getElem? (i := 67) rfl))) (mvT hZ (hw _ (List.mem_of_getElem? (i := 68) rfl))) (mvT hZ (hw _ (List.mem_of_getElem? (i := 62) rfl))) (mvT hZ (hw _ (List.mem_of_getElem? (i := 69) rfl))) (by decide) (backOf (W := 1) (rm16_u l Z a0 hw [] b8 kk8 _ T8.heap n0 Z17 Vq8) hZ (hw _ (List.mem_of_getElem? (i := 69) rfl)) (hw _ (List.mem_of_getElem? (i := 62) rfl)) (by decide) (by decide)) (g := (mkF m 45 #[.val (.ref a1), .val (.ref a2), .val (.int (0 : Int32)), .val (.int (2 : Int32)), .val .null, .val (.ref b8)] [(.int (2 : Int32)), (.ref b8), (.ref a1)])) rfl (by rw [hml]; rfl) (argsL := [(.ref b8), (.int (2 : Int32))]) (rest := [(.ref a1)]) (lenOf pd_9 rfl) rfl (by show 2 * 0 + _ ≤ _; exact Nat.le_of_eq rfl) (hb hby d3_45) (fun _ _ => ⟨rfl, rfl, (by decide : 2 + 0 ≤ _), (by decide : 6 + 0 ≤ _)⟩)
  dsimp only [Pt.U, Pt.locs, Pt.cells, Pt.slots] at X21 l21 y21 z21 st21 hQ21
  subst l21 y21 z21
  obtain ⟨z21v, rfl, hz21v, Nq21, eq21⟩ := hQ21
  have N21n := Fr.app N8n Nq21
  have hy21 := hz21v.symm; subst hy21
  have P22 : own_Pr p.tables e below S0 T21 (mkF m 48 #[.val (.ref a1), .val (.ref a2), .val (.int (0 : Int32)), .val (.int (2 : Int32)), .val .null, .val (.ref b8)] [(.int (1 : Int32)), (.ref a1)]) := fun t k => P20 t (st21 _ k)
  obtain ⟨T23, h23, X23, e23, W23, st23⟩ := putFN X21 hx hZ hown (hw _ (List.mem_of_getElem? (i := 25) rfl)) Via.refl eq21 F14 F13 (Or.inr ⟨(hw _ (List.mem_of_getElem? (i := 21) rfl)), rfl, hnm⟩) (hw _ (List.mem_of_getElem? (i := 5) rfl)) (ty := .byte) (v' := (.int (1 : Int32))) (by decide) rfl rfl (g := (mkF m 48 #[.val (.ref a1), .val (.ref a2), .val (.int (0 : Int32)), .val (.int (2 : Int32)), .val .null, .val (.ref b8)] [(.int (1 : Int32)), (.ref a1)])) rfl rfl (hb hby d3_48)
  have F23 := F14.same W23
  have F24 := F9.wr W23
  have F25 := F10.wr W23
  have F26 := F11.wr W23
  have F27 := F12.wr W23
  have F28 := F13.wr W23
  have F29 := F15.other W23 (Or.inr (slot_ne (Or.inr (hw _ (List.mem_of_getElem? (i := 20) rfl))) (Or.inr (hw _ (List.mem_of_getElem? (i := 21) rfl))) (by decide) (t := (.array .byte)) (t' := .byte) (by decide) (by decide)))
  have F30 := Vq8.other W23 (Ne.symm ne_a1_b8)
  have Z31 : n0 ≤ h23.size := by rw [W23.size]; exact Z17
  have NF23 := Fr.snoc X23 N21n g_a1
  have K32 := K18.wr W23 (Or.inl (List.mem_of_getElem? (i := 0) rfl))
  have P33 : own_Pr p.tables e below S0 T23 (mkF m 51 #[.val (.ref a1), .val (.ref a2), .val (.int (0 : Int32)), .val (.int (2 : Int32)), .val .null, .val (.ref b8)] []) := fun t k => P22 t (st23 _ k)
  have P34 : own_Pr p.tables e below S0 T23 (mkF m 54 #[.val (.ref a1), .val (.ref a2), .val (.int (0 : Int32)), .val (.int (2 : Int32)), .val .null, .val (.ref b8)] [(.ref b8), (.ref a1)]) := fun t k => P33 t (by
    refine XS.aloadN X23.here hx rfl (hb hby d3_51) rfl rfl ?_
    show Steps p.tables e below (T23.setTop (mkF m 52 #[.val (.ref a1), .val (.ref a2), .val (.int (0 : Int32)), .val (.int (2 : Int32)), .val .null, .val (.ref b8)] [(.ref a1)])) _
    refine XS.aload X23.here hx rfl (hb hby d3_52) rfl rfl ?_
    show Steps p.tables e below (T23.setTop (mkF m 54 #[.val (.ref a1), .val (.ref a2), .val (.int (0 : Int32)), .val (.int (2 : Int32)), .val .null, .val (.ref b8)] [(.ref b8), (.ref a1)])) _
    exact k)
  obtain ⟨T35, h35, X35, e35, W35, st35⟩ := putF X23 hx hZ hown (host := "") (Or.inl (hw _ (List.mem_of_getElem? (i := 24) rfl))) Via.refl e23 F29 F28 (Or.inr ⟨(hw _ (List.mem_of_getElem? (i := 20) rfl)), rfl, hnm⟩) (hw _ (List.mem_of_getElem? (i := 5) rfl)) (ty := (.array .byte)) (by decide) rfl rfl (g := (mkF m 54 #[.val (.ref a1), .val (.ref a2), .val (.int (0 : Int32)), .val (.int (2 : Int32)), .val .null, .val (.ref b8)] [(.ref b8), (.ref a1)])) rfl rfl (hb hby d3_54)
  have F35 := F29.same W35
  have F36 := F24.wr W35
  have F37 := F25.wr W35
  have F38 := F26.wr W35
  have F39 := F27.wr W35
  have F40 := F28.wr W35
  have F41 := F23.other W35 (Or.inr (slot_ne (Or.inr (hw _ (List.mem_of_getElem? (i := 21) rfl))) (Or.inr (hw _ (List.mem_of_getElem? (i := 20) rfl))) (by decide) (t := .byte) (t' := (.array .byte)) (by decide) (by decide)))
  have F42 := F30.other W35 (Ne.symm ne_a1_b8)
  have Z43 : n0 ≤ h35.size := by rw [W35.size]; exact Z31
  have NF35 := Fr.snoc X35 NF23 g_a1
  have K44 := K32.wr W35 (Or.inl (List.mem_of_getElem? (i := 0) rfl))
  have P45 : own_Pr p.tables e below S0 T35 (mkF m 57 #[.val (.ref a1), .val (.ref a2), .val (.int (0 : Int32)), .val (.int (2 : Int32)), .val .null, .val (.ref b8)] []) := fun t k => P34 t (st35 _ k)
  obtain ⟨fs, hr, hrun, hended, hW, hsame⟩ := X35.leave (v := none) (fun _ => rfl)
  have fin : Steps p.tables e below S0 (T35.setFrames fs) := P45 _ (X35.returnOut hx Bd.returns (hb hby d3_57) hr)
  rw [hS0] at fin
  refine ⟨_, _, fin, hrun, hended, _, _, rfl, ?_, ⟨_, rfl⟩, hW, hsame.mono (by decide) (by decide)⟩
  show own_QC Z a1 1 4 [(.int (nar .byte ((u0 >>> ((0 : Int32) &&& 31)).toInt8.toInt32))), (.int (nar .byte ((u0 >>> ((8 : Int32) &&& 31)).toInt8.toInt32))), (.int (nar .byte ((u1 >>> ((0 : Int32) &&& 31)).toInt8.toInt32))), (.int (nar .byte ((u1 >>> ((8 : Int32) &&& 31)).toInt8.toInt32)))] h0 n0 _ T35.heap _
  rw [e35]
  exact ⟨rfl, NF35, K44, _, _, F40, F41, F35, F42⟩
theorem ef_2_u (m : MethodId) (a1 : Addr) (a2 : Addr) : entryFrame m #[(.ref a1), (.ref a2)] 2 = mkF m 0 #[.val (.ref a1), .val (.ref a2)] [] := by first | (simp [entryFrame, mkF, argsToLocals, Value.category]; done) | rfl
set_option maxRecDepth 65536 in
set_option maxHeartbeats 40000000 in
theorem rm2_u (l : Launch) (Z : State) (a0 : Array Value) (hw : ∀ d ∈ tables_1, d.before a0 Z = true) (ws : List Jvm.Cond) (a1 : Addr) (a2 : Addr) (k2 : ClassId) (cs : Int32) (u0 u1 : Int32) (h0 : Heap) (n0 : Nat) (Z0 : n0 ≤ h0.size) (E1 : Exa Z h0 a1 "java/lang/String") (F1 : Fld Z h0 a1 "java/lang/String" "coder" "B" (.int (0 : Int32))) (F2 : Fld Z h0 a1 "java/lang/String" "value" "[B" .null) (g_a1 : n0 ≤ a1) (V2 : Arv Z h0 a2 k2 .char 2 [(.int u0), (.int u1)] (.int (0 : Int32))) (CS : Sta Z h0 "java/lang/String" "COMPACT_STRINGS" "Z" (.int cs)) (hcs : ¬ cs = (0 : Int32)) (AD : Sta Z h0 "java/lang/StringUTF16" "$assertionsDisabled" "Z" (.int (1 : Int32))) (HB : Sta Z h0 "java/lang/StringUTF16" "HI_BYTE_SHIFT" "I" (.int (0 : Int32))) (LB : Sta Z h0 "java/lang/StringUTF16" "LO_BYTE_SHIFT" "I" (.int (8 : Int32))) (hU : (255 : Int32) < u0 ∨ (¬ (255 : Int32) < u0 ∧ (255 : Int32) < u1)) (hc0 : own_ch u0) (hc1 : own_ch u1) :
    MetFree l (⟨"java/lang/String", "<init>", "([C)V"⟩ : MethodName) (head1 (Jvm.Cond.code (⟨"java/lang/String", "<init>", "([C)V"⟩ : MethodName) jdk_42_method_3_code 2 none :: ws) ({ frames := 5, cells := 2, slots := 6, locals := 74 } : Room)) (fun a U => a = #[(.ref a1), (.ref a2)] ∧ Z.Warmed39 U.vm ∧ U.heap = h0) (fun _ _ _ _ _ => True) (fun _ U o U' => ∃ v L, o = .returned v ∧ own_QC Z a1 1 4 [(.int (nar .byte ((u0 >>> ((0 : Int32) &&& 31)).toInt8.toInt32))), (.int (nar .byte ((u0 >>> ((8 : Int32) &&& 31)).toInt8.toInt32))), (.int (nar .byte ((u1 >>> ((0 : Int32) &&& 31)).toInt8.toInt32))), (.int (nar .byte ((u1 >>> ((8 : Int32) &&& 31)).toInt8.toInt32)))] h0 n0 v U'.heap L ∧ FrameEnd U o U' L ({ frames := 5, cells := 2, slots := 6, locals := 74 } : Room).cells ({ frames := 5, cells := 2, slots := 6, locals := 74 } : Room).slots) := by
  refine MetFree.of_bodySF (plainFor_of_name pn_7) hisR ?_
  intro p e s m args below meth c s₁ Bd hml0 hP hK
  obtain ⟨rfl, hZ, hh⟩ := hP
  have hx := Bd.exec
  have hby := Bd.bytes
  have hml : c.maxLocals = 2 := hml0
  have hown : s.vm.findClass "java/lang/String" = some m.cls := findClass_of_methodNamed Bd.named
  have hnm := (name_of_methodNamed Bd.named Bd.method).1
  have X0 : Stand p l e ({ frames := 5, cells := 2, slots := 6, locals := 74 } : Room) s m #[(.ref a1), (.ref a2)] below meth c s₁ [] 0 0 := Stand.of_body Bd
  have e0 : s₁.heap = h0 := by rw [← hh, Bd.state]; rfl
  have N0 := Fr.nil n0
  obtain ⟨S0, hS0⟩ : ∃ z, z = s₁.setTop (entryFrame m #[(.ref a1), (.ref a2)] 2) := ⟨_, rfl⟩
  have P0 : own_Pr p.tables e below S0 s₁ (mkF m 0 #[.val (.ref a1), .val (.ref a2)] []) := fun t k => hS0 ▸ castTop (ef_2_u m a1 a2) k
  have P1 : own_Pr p.tables e below S0 s₁ (mkF m 4 #[.val (.ref a1), .val (.ref a2)] [(.ref a2), (.int (0 : Int32)), (.ref a2), (.ref a1)]) := fun t k => P0 t (by
    refine XS.aloadN X0.here hx rfl (hb hby d2_0) rfl rfl ?_
    show Steps p.tables e below (s₁.setTop (mkF m 1 #[.val (.ref a1), .val (.ref a2)] [(.ref a1)])) _
    refine XS.aloadN X0.here hx rfl (hb hby d2_1) rfl rfl ?_
    show Steps p.tables e below (s₁.setTop (mkF m 2 #[.val (.ref a1), .val (.ref a2)] [(.ref a2), (.ref a1)])) _
    refine XS.iconst X0.here hx rfl (hb hby d2_2) ?_
    show Steps p.tables e below (s₁.setTop (mkF m 3 #[.val (.ref a1), .val (.ref a2)] [(.int (0 : Int32)), (.ref a2), (.ref a1)])) _
    refine XS.aloadN X0.here hx rfl (hb hby d2_3) rfl rfl ?_
    show Steps p.tables e below (s₁.setTop (mkF m 4 #[.val (.ref a1), .val (.ref a2)] [(.ref a2), (.int (0 : Int32)), (.ref a2), (.ref a1)])) _
    exact k)
  obtain ⟨cl2, Ar2, q2, S2, N2, H2, G2⟩ := id V2
  have P3 : own_Pr p.tables e below S0 s₁ (mkF m 6 #[.val (.ref a1), .val (.ref a2)] [.null, (.int (2 : Int32)), (.int (0 : Int32)), (.ref a2), (.ref a1)]) := fun t k => P1 t (by
    refine X0.arraylength hx (by rw [e0]; exact Ar2.1) (State.isArrayOf_alike hZ.alike Ar2.2.1) (g := (mkF m 4 #[.val (.ref a1), .val (.ref a2)] [(.ref a2), (.int (0 : Int32)), (.ref a2), (.ref a1)])) rfl rfl (hb hby d2_4) _ ?_
    rw [len_of S2 N2]
    show Steps p.tables e below (s₁.setTop (mkF m 5 #[.val (.ref a1), .val (.ref a2)] [(.int (2 : Int32)), (.int (0 : Int32)), (.ref a2), (.ref a1)])) _
    refine XS.aconstNull X0.here hx rfl (hb hby d2_5) ?_
    show Steps p.tables e below (s₁.setTop (mkF m 6 #[.val (.ref a1), .val (.ref a2)] [.null, (.int (2 : Int32)), (.int (0 : Int32)), (.ref a2), (.ref a1)])) _
    exact k)
  obtain ⟨_, _, ⟨T4, L4, k4, n4⟩, -, X4, ⟨Lc4, hQ4, l4, y4, z4⟩, st4⟩ := X0.specialBack hx (y := (⟨"java/lang/String", "<init>", "([CIILjava/lang/Void;)V"⟩ : MethodName)) rfl hown (mvT hZ (hw _ (List.mem_of_getElem? (i := 11) rfl))) (mvT hZ (hw _ (List.mem_of_getElem? (i := 12) rfl))) (mvT hZ (hw _ (List.mem_of_getElem? (i := 14) rfl))) (by decide) (backOf (W := 0) (rm3_u l Z a0 hw [] a1 a2 k2 cs u0 u1 h0 n0 Z0 E1 F1 F2 g_a1 V2 CS hcs AD HB LB hU hc0 hc1) hZ (hw _ (List.mem_of_getElem? (i := 14) rfl)) (hw _ (List.mem_of_getElem? (i := 6) rfl)) (by decide) (by decide)) (g := (mkF m 6 #[.val (.ref a1), .val (.ref a2)] [.null, (.int (2 : Int32)), (.int (0 : Int32)), (.ref a2), (.ref a1)])) rfl (by rw [hml]; rfl) (Steps.refl _) (a := a1) (argsL := [(.ref a2), (.int (0 : Int32)), (.int (2 : Int32)), .null]) (rest := []) (lenOf pd_10 rfl) rfl (by show 2 * 0 + _ ≤ _; exact Nat.le_of_eq rfl) (hb hby d2_6) (fun _ _ => ⟨rfl, e0, (by decide : 0 + 2 ≤ _), (by decide : 0 + 6 ≤ _)⟩)
  dsimp only [Pt.U, Pt.locs, Pt.cells, Pt.slots] at X4 l4 y4 z4 st4 hQ4
  subst l4 y4 z4
  obtain ⟨rfl, Nq4, Kq4, Rq4⟩ := hQ4
  have N4n := Fr.app N0 Nq4
  have P5 : own_Pr p.tables e below S0 T4 (mkF m 9 #[.val (.ref a1), .val (.ref a2)] []) := fun t k => P3 t (st4.trans k)
  obtain ⟨fs, hr, hrun, hended, hW, hsame⟩ := X4.leave (v := none) (fun _ => rfl)
  have fin : Steps p.tables e below S0 (T4.setFrames fs) := P5 _ (X4.returnOut hx Bd.returns (hb hby d2_9) hr)
  rw [hS0] at fin
  refine ⟨_, _, fin, hrun, hended, _, _, rfl, ?_, ⟨_, rfl⟩, hW, hsame.mono (by decide) (by decide)⟩
  show own_QC Z a1 1 4 [(.int (nar .byte ((u0 >>> ((0 : Int32) &&& 31)).toInt8.toInt32))), (.int (nar .byte ((u0 >>> ((8 : Int32) &&& 31)).toInt8.toInt32))), (.int (nar .byte ((u1 >>> ((0 : Int32) &&& 31)).toInt8.toInt32))), (.int (nar .byte ((u1 >>> ((8 : Int32) &&& 31)).toInt8.toInt32)))] h0 n0 _ T4.heap _
  exact ⟨rfl, N4n, Kq4, Rq4⟩
theorem d3_8 : decode jdk_42_method_149_code 8 = .ok (.aload_n 0, 1) := by decide +kernel
theorem d3_9 : decode jdk_42_method_149_code 9 = .ok (.ldc 7, 2) := by decide +kernel
theorem d3_11 : decode jdk_42_method_149_code 11 = .ok (.getfield 9, 3) := by decide +kernel
theorem d3_14 : decode jdk_42_method_149_code 14 = .ok (.putfield 9, 3) := by decide +kernel
theorem d3_17 : decode jdk_42_method_149_code 17 = .ok (.aload_n 0, 1) := by decide +kernel
theorem d3_18 : decode jdk_42_method_149_code 18 = .ok (.ldc 7, 2) := by decide +kernel
theorem d3_20 : decode jdk_42_method_149_code 20 = .ok (.getfield 15, 3) := by decide +kernel
theorem d3_23 : decode jdk_42_method_149_code 23 = .ok (.putfield 15, 3) := by decide +kernel
theorem d3_26 : decode jdk_42_method_149_code 26 = .ok (.return_, 1) := by decide +kernel
theorem ef_3_e (m : MethodId) (a1 : Addr) (a2 : Addr) : entryFrame m #[(.ref a1), (.ref a2), (.int (0 : Int32)), (.int (0 : Int32)), .null] 6 = mkF m 0 #[.val (.ref a1), .val (.ref a2), .val (.int (0 : Int32)), .val (.int (0 : Int32)), .val .null, .unset] [] := by first | (simp [entryFrame, mkF, argsToLocals, Value.category]; done) | rfl
set_option maxRecDepth 65536 in
set_option maxHeartbeats 40000000 in
theorem rm3_e (l : Launch) (Z : State) (a0 : Array Value) (hw : ∀ d ∈ tables_1, d.before a0 Z = true) (ws : List Jvm.Cond) (a1 : Addr) (a2 : Addr)  (h0 : Heap) (n0 : Nat) (Z0 : n0 ≤ h0.size) (E1 : Exa Z h0 a1 "java/lang/String") (F1 : Fld Z h0 a1 "java/lang/String" "coder" "B" (.int (0 : Int32))) (F2 : Fld Z h0 a1 "java/lang/String" "value" "[B" .null) (g_a1 : n0 ≤ a1) :
    MetFree l (⟨"java/lang/String", "<init>", "([CIILjava/lang/Void;)V"⟩ : MethodName) (head1 (Jvm.Cond.code (⟨"java/lang/String", "<init>", "([CIILjava/lang/Void;)V"⟩ : MethodName) jdk_42_method_149_code 6 none :: ws) ({ frames := 1, cells := 4, slots := 8, locals := 12 } : Room)) (fun a U => a = #[(.ref a1), (.ref a2), (.int (0 : Int32)), (.int (0 : Int32)), .null] ∧ Z.Warmed39 U.vm ∧ U.heap = h0 ∧ CHv Z consts_1 U.vm h0) (fun _ _ _ _ _ => True) (fun _ U o U' => ∃ v L, o = .returned v ∧ own_QC Z a1 0 0 [] h0 n0 v U'.heap L ∧ CHr Z consts_1 U.vm U.heap U'.vm U'.heap ∧ ReturnedEndW U o U' L ({ frames := 1, cells := 4, slots := 8, locals := 12 } : Room).cells ({ frames := 1, cells := 4, slots := 8, locals := 12 } : Room).slots) := by
  refine MetFree.of_bodySF (plainFor_of_name pn_7) hisR ?_
  intro p e s m args below meth c s₁ Bd hml0 hP hK
  obtain ⟨rfl, hZ, hh, hCH⟩ := hP
  have hx := Bd.exec
  have hby := Bd.bytes
  have hml : c.maxLocals = 6 := hml0
  have hown : s.vm.findClass "java/lang/String" = some m.cls := findClass_of_methodNamed Bd.named
  have hnm := (name_of_methodNamed Bd.named Bd.method).1
  have X0 : Stand p l e ({ frames := 1, cells := 4, slots := 8, locals := 12 } : Room) (s.setVm s.vm) m #[(.ref a1), (.ref a2), (.int (0 : Int32)), (.int (0 : Int32)), .null] below meth c s₁ [] 0 0 := Stand.of_body Bd
  have e0 : s₁.heap = h0 := by rw [← hh, Bd.state]; rfl
  have N0 := Fr.nil n0
  obtain ⟨S0, hS0⟩ : ∃ z, z = s₁.setTop (entryFrame m #[(.ref a1), (.ref a2), (.int (0 : Int32)), (.int (0 : Int32)), .null] 6) := ⟨_, rfl⟩
  have P0 : own_Pr p.tables e below S0 s₁ (mkF m 0 #[.val (.ref a1), .val (.ref a2), .val (.int (0 : Int32)), .val (.int (0 : Int32)), .val .null, .unset] []) := fun t k => hS0 ▸ castTop (ef_3_e m a1 a2) k
  have hSn : s.Since s.vm 0 := (State.WarmedH.refl s).since 0
  have kS0 : 0 ≤ h0.size := Nat.zero_le _
  have CR0 := CHr.refl hCH
  have K0 := Keep.refl h0 [a1]
  have P1 : own_Pr p.tables e below S0 s₁ (mkF m 1 #[.val (.ref a1), .val (.ref a2), .val (.int (0 : Int32)), .val (.int (0 : Int32)), .val .null, .unset] [(.ref a1)]) := fun t k => P0 t (by
    refine XS.aloadN X0.here hx rfl (hb hby d3_0) rfl rfl ?_
    show Steps p.tables e below (s₁.setTop (mkF m 1 #[.val (.ref a1), .val (.ref a2), .val (.int (0 : Int32)), .val (.int (0 : Int32)), .val .null, .unset] [(.ref a1)])) _
    exact k)
  obtain ⟨T2, X2, e2, st2⟩ := initO X0 hx hZ hown (hw _ (List.mem_of_getElem? (i := 15) rfl)) (hw _ (List.mem_of_getElem? (i := 16) rfl)) (hw _ (List.mem_of_getElem? (i := 17) rfl)) e0 (g := (mkF m 1 #[.val (.ref a1), .val (.ref a2), .val (.int (0 : Int32)), .val (.int (0 : Int32)), .val .null, .unset] [(.ref a1)])) rfl (by rw [hml]; rfl) rfl (hb hby d3_1) (by decide) (W := 0) (by show 2 * 0 + _ ≤ _; exact Nat.le_of_eq rfl) (by decide)
  have P3 : own_Pr p.tables e below S0 T2 (mkF m 4 #[.val (.ref a1), .val (.ref a2), .val (.int (0 : Int32)), .val (.int (0 : Int32)), .val .null, .unset] []) := fun t k => P1 t (st2 _ k)
  have P4 : own_Pr p.tables e below S0 T2 (mkF m 8 #[.val (.ref a1), .val (.ref a2), .val (.int (0 : Int32)), .val (.int (0 : Int32)), .val .null, .unset] []) := fun t k => P3 t (by
    refine XS.iloadN X2.here hx rfl (hb hby d3_4) rfl ?_
    show Steps p.tables e below (T2.setTop (mkF m 5 #[.val (.ref a1), .val (.ref a2), .val (.int (0 : Int32)), .val (.int (0 : Int32)), .val .null, .unset] [(.int (0 : Int32))])) _
    refine XS.ifNo X2.here hx rfl (hb hby d3_5) rfl (by decide) ?_
    show Steps p.tables e below (T2.setTop (mkF m 8 #[.val (.ref a1), .val (.ref a2), .val (.int (0 : Int32)), .val (.int (0 : Int32)), .val .null, .unset] [])) _
    exact k)
  have Sf0 : Safe Z consts_1 _ _ a1 := own_safeNull hZ.alike E1 F2
  have P5 : own_Pr p.tables e below S0 T2 (mkF m 9 #[.val (.ref a1), .val (.ref a2), .val (.int (0 : Int32)), .val (.int (0 : Int32)), .val .null, .unset] [(.ref a1)]) := fun t k => P4 t (by
    refine XS.aloadN X2.here hx rfl (hb hby d3_8) rfl rfl ?_
    show Steps p.tables e below (T2.setTop (mkF m 9 #[.val (.ref a1), .val (.ref a2), .val (.int (0 : Int32)), .val (.int (0 : Int32)), .val .null, .unset] [(.ref a1)])) _
    exact k)
  obtain ⟨b6, T6, h6, k6, v6, kb6, X6, e6, E6, hSn, kS6, hZ, hown, Es6, Fc6, Fv6, Av6, -, -, CRl6, -, nb6, st6⟩ := ldcCH X2 hx hZ hown (hw _ (List.mem_of_getElem? (i := 18) rfl)) (own_wS hw) e2 hSn kS0 (own_EW hw) (List.mem_of_getElem? (i := 0) rfl) CR0.1 (vs := []) (z := 0) ⟨by decide, by decide⟩ (by decide) (by decide) (g := (mkF m 9 #[.val (.ref a1), .val (.ref a2), .val (.int (0 : Int32)), .val (.int (0 : Int32)), .val .null, .unset] [(.ref a1)])) rfl (hb hby d3_9) (n := 0) (by decide) (by decide) (by decide) (by decide)
  have F7 := CRl6.safe E1.lt Sf0
  have ne_a1_b6 : a1 ≠ b6 := (nb6 _ F7).1
  have ne_a1_v6 : a1 ≠ v6 := (nb6 _ F7).2
  have F8 := E1.ext E6
  have F9 := F1.ext E6
  have F10 := F2.ext E6
  have Z12 : n0 ≤ h6.size := Nat.le_trans Z0 E6.1
  have K13 := K0.ext E6
  have CR6 := CR0.trans CRl6
  have P14 : own_Pr p.tables e below S0 T6 (mkF m 11 #[.val (.ref a1), .val (.ref a2), .val (.int (0 : Int32)), .val (.int (0 : Int32)), .val .null, .unset] [(.ref b6), (.ref a1)]) := fun t k => P5 t (st6 _ k)
  obtain ⟨T15, X15, e15, st15⟩ := getF X6 hx hZ hown (host := "") (Or.inl (hw _ (List.mem_of_getElem? (i := 24) rfl))) Via.refl e6 Fv6 (g := (mkF m 11 #[.val (.ref a1), .val (.ref a2), .val (.int (0 : Int32)), .val (.int (0 : Int32)), .val .null, .unset] [(.ref b6), (.ref a1)])) rfl rfl (hb hby d3_11)
  have P16 : own_Pr p.tables e below S0 T15 (mkF m 14 #[.val (.ref a1), .val (.ref a2), .val (.int (0 : Int32)), .val (.int (0 : Int32)), .val .null, .unset] [(.ref v6), (.ref a1)]) := fun t k => P14 t (st15 _ k)
  obtain ⟨T17, h17, X17, e17, W17, st17⟩ := putF X15 hx hZ hown (host := "") (Or.inl (hw _ (List.mem_of_getElem? (i := 24) rfl))) Via.refl e15 F10 F8 (Or.inr ⟨(hw _ (List.mem_of_getElem? (i := 20) rfl)), rfl, hnm⟩) (hw _ (List.mem_of_getElem? (i := 5) rfl)) (ty := (.array .byte)) (by decide) rfl rfl (g := (mkF m 14 #[.val (.ref a1), .val (.ref a2), .val (.int (0 : Int32)), .val (.int (0 : Int32)), .val .null, .unset] [(.ref v6), (.ref a1)])) rfl rfl (hb hby d3_14)
  have F17 := F10.same W17
  have F19 := Safe.wr W17 F7 CR6.1 F7
  have CR18 := CR6.trans (CHr.wr W17 F7 CR6.1)
  have F20 := F8.wr W17
  have F21 := F9.other W17 (Or.inr (slot_ne (Or.inr (hw _ (List.mem_of_getElem? (i := 21) rfl))) (Or.inr (hw _ (List.mem_of_getElem? (i := 20) rfl))) (by decide) (t := .byte) (t' := (.array .byte)) (by decide) (by decide)))
  have F22 := Es6.wr W17
  have F23 := Fc6.other W17 (Or.inl (Ne.symm ne_a1_b6))
  have F24 := Fv6.other W17 (Or.inl (Ne.symm ne_a1_b6))
  have F25 := Av6.other W17 (Ne.symm ne_a1_v6)
  have Z26 : n0 ≤ h17.size := by rw [W17.size]; exact Z12
  have kS27 := Nat.le_trans kS6 (Nat.le_of_eq W17.size.symm)
  have NF17 := Fr.snoc X17 N0 g_a1
  have K28 := K13.wr W17 (Or.inl (List.mem_of_getElem? (i := 0) rfl))
  have P29 : own_Pr p.tables e below S0 T17 (mkF m 17 #[.val (.ref a1), .val (.ref a2), .val (.int (0 : Int32)), .val (.int (0 : Int32)), .val .null, .unset] []) := fun t k => P16 t (st17 _ k)
  have P30 : own_Pr p.tables e below S0 T17 (mkF m 18 #[.val (.ref a1), .val (.ref a2), .val (.int (0 : Int32)), .val (.int (0 : Int32)), .val .null, .unset] [(.ref a1)]) := fun t k => P29 t (by
    refine XS.aloadN X17.here hx rfl (hb hby d3_17) rfl rfl ?_
    show Steps p.tables e below (T17.setTop (mkF m 18 #[.val (.ref a1), .val (.ref a2), .val (.int (0 : Int32)), .val (.int (0 : Int32)), .val .null, .unset] [(.ref a1)])) _
    exact k)
  obtain ⟨b31, T31, h31, k31, v31, kb31, X31, e31, E31, hSn, kS31, hZ, hown, Es31, Fc31, Fv31, Av31, -, -, CRl31, -, nb31, st31⟩ := ldcCH X17 hx hZ hown (hw _ (List.mem_of_getElem? (i := 18) rfl)) (own_wS hw) e17 hSn kS27 (own_EW hw) (List.mem_of_getElem? (i := 0) rfl) CR18.1 (vs := []) (z := 0) ⟨by decide, by decide⟩ (by decide) (by decide) (g := (mkF m 18 #[.val (.ref a1), .val (.ref a2), .val (.int (0 : Int32)), .val (.int (0 : Int32)), .val .null, .unset] [(.ref a1)])) rfl (hb hby d3_18) (n := 0) (by decide) (by decide) (by decide) (by decide)
  have F32 := CRl31.safe F20.lt F19
  have ne_a1_b31 : a1 ≠ b31 := (nb31 _ F32).1
  have ne_a1_v31 : a1 ≠ v31 := (nb31 _ F32).2
  have F33 := F20.ext E31
  have F34 := F21.ext E31
  have F35 := F17.ext E31
  have F37 := F22.ext E31
  have F38 := F23.ext E31
  have F39 := F24.ext E31
  have F40 := F25.ext E31
  have Z41 : n0 ≤ h31.size := Nat.le_trans Z26 E31.1
  have K42 := K28.ext E31
  have CR31 := CR18.trans CRl31
  have P43 : own_Pr p.tables e below S0 T31 (mkF m 20 #[.val (.ref a1), .val (.ref a2), .val (.int (0 : Int32)), .val (.int (0 : Int32)), .val .null, .unset] [(.ref b31), (.ref a1)]) := fun t k => P30 t (st31 _ k)
  obtain ⟨T44, X44, e44, st44⟩ := getF X31 hx hZ hown (host := "") (Or.inl (hw _ (List.mem_of_getElem? (i := 25) rfl))) Via.refl e31 Fc31 (g := (mkF m 20 #[.val (.ref a1), .val (.ref a2), .val (.int (0 : Int32)), .val (.int (0 : Int32)), .val .null, .unset] [(.ref b31), (.ref a1)])) rfl rfl (hb hby d3_20)
  have P45 : own_Pr p.tables e below S0 T44 (mkF m 23 #[.val (.ref a1), .val (.ref a2), .val (.int (0 : Int32)), .val (.int (0 : Int32)), .val .null, .unset] [(.int (0 : Int32)), (.ref a1)]) := fun t k => P43 t (st44 _ k)
  obtain ⟨T46, h46, X46, e46, W46, st46⟩ := putFN X44 hx hZ hown (hw _ (List.mem_of_getElem? (i := 25) rfl)) Via.refl e44 F34 F33 (Or.inr ⟨(hw _ (List.mem_of_getElem? (i := 21) rfl)), rfl, hnm⟩) (hw _ (List.mem_of_getElem? (i := 5) rfl)) (ty := .byte) (v' := (.int (0 : Int32))) (by decide) rfl rfl (g := (mkF m 23 #[.val (.ref a1), .val (.ref a2), .val (.int (0 : Int32)), .val (.int (0 : Int32)), .val .null, .unset] [(.int (0 : Int32)), (.ref a1)])) rfl rfl (hb hby d3_23)
  have F46 := F34.same W46
  have F48 := Safe.wr W46 F32 CR31.1 F32
  have CR47 := CR31.trans (CHr.wr W46 F32 CR31.1)
  have F49 := F33.wr W46
  have F50 := F35.other W46 (Or.inr (slot_ne (Or.inr (hw _ (List.mem_of_getElem? (i := 20) rfl))) (Or.inr (hw _ (List.mem_of_getElem? (i := 21) rfl))) (by decide) (t := (.array .byte)) (t' := .byte) (by decide) (by decide)))
  have F51 := F37.wr W46
  have F52 := F38.other W46 (Or.inl (Ne.symm ne_a1_b6))
  have F53 := F39.other W46 (Or.inl (Ne.symm ne_a1_b6))
  have F54 := F40.other W46 (Ne.symm ne_a1_v6)
  have F55 := Es31.wr W46
  have F56 := Fc31.other W46 (Or.inl (Ne.symm ne_a1_b31))
  have F57 := Fv31.other W46 (Or.inl (Ne.symm ne_a1_b31))
  have F58 := Av31.other W46 (Ne.symm ne_a1_v31)
  have Z59 : n0 ≤ h46.size := by rw [W46.size]; exact Z41
  have kS60 := Nat.le_trans kS31 (Nat.le_of_eq W46.size.symm)
  have NF46 := Fr.snoc X46 NF17 g_a1
  have K61 := K42.wr W46 (Or.inl (List.mem_of_getElem? (i := 0) rfl))
  have P62 : own_Pr p.tables e below S0 T46 (mkF m 26 #[.val (.ref a1), .val (.ref a2), .val (.int (0 : Int32)), .val (.int (0 : Int32)), .val .null, .unset] []) := fun t k => P45 t (st46 _ k)
  obtain ⟨fs, hr, hrun, hended, hend⟩ := X46.leaveW hSn (by rw [e46]; exact kS60) (v := none) (fun _ => rfl)
  have fin : Steps p.tables e below S0 (T46.setFrames fs) := P62 _ (X46.returnOut hx Bd.returns (hb hby d3_26) hr)
  rw [hS0] at fin
  refine ⟨_, _, fin, hrun, hended, _, _, rfl, ?_, (show CHr Z consts_1 s.vm s.heap T46.vm T46.heap by rw [hh, e46]; exact CR47.trans (CHv.at X46 hZ (own_EW hw) CR47.1)), hend.1, hend.2.1, hend.2.2.1, hend.2.2.2.mono (by decide) (by decide)⟩
  show own_QC Z a1 0 0 [] h0 n0 _ T46.heap _
  rw [e46]
  exact ⟨rfl, NF46, K61, _, _, F49, F46, F50, F54⟩
theorem ef_2_e (m : MethodId) (a1 : Addr) (a2 : Addr) : entryFrame m #[(.ref a1), (.ref a2)] 2 = mkF m 0 #[.val (.ref a1), .val (.ref a2)] [] := by first | (simp [entryFrame, mkF, argsToLocals, Value.category]; done) | rfl
set_option maxRecDepth 65536 in
set_option maxHeartbeats 40000000 in
theorem rm2_e (l : Launch) (Z : State) (a0 : Array Value) (hw : ∀ d ∈ tables_1, d.before a0 Z = true) (ws : List Jvm.Cond) (a1 : Addr) (a2 : Addr) (k2 : ClassId) (h0 : Heap) (n0 : Nat) (Z0 : n0 ≤ h0.size) (E1 : Exa Z h0 a1 "java/lang/String") (F1 : Fld Z h0 a1 "java/lang/String" "coder" "B" (.int (0 : Int32))) (F2 : Fld Z h0 a1 "java/lang/String" "value" "[B" .null) (g_a1 : n0 ≤ a1) (V2 : Arv Z h0 a2 k2 .char 0 [] (.int (0 : Int32))) :
    MetFree l (⟨"java/lang/String", "<init>", "([C)V"⟩ : MethodName) (head1 (Jvm.Cond.code (⟨"java/lang/String", "<init>", "([C)V"⟩ : MethodName) jdk_42_method_3_code 2 none :: ws) ({ frames := 2, cells := 4, slots := 8, locals := 29 } : Room)) (fun a U => a = #[(.ref a1), (.ref a2)] ∧ Z.Warmed39 U.vm ∧ U.heap = h0 ∧ CHv Z consts_1 U.vm h0) (fun _ _ _ _ _ => True) (fun _ U o U' => ∃ v L, o = .returned v ∧ own_QC Z a1 0 0 [] h0 n0 v U'.heap L ∧ CHr Z consts_1 U.vm U.heap U'.vm U'.heap ∧ ReturnedEndW U o U' L ({ frames := 2, cells := 4, slots := 8, locals := 29 } : Room).cells ({ frames := 2, cells := 4, slots := 8, locals := 29 } : Room).slots) := by
  refine MetFree.of_bodySF (plainFor_of_name pn_7) hisR ?_
  intro p e s m args below meth c s₁ Bd hml0 hP hK
  obtain ⟨rfl, hZ, hh, hCH⟩ := hP
  have hx := Bd.exec
  have hby := Bd.bytes
  have hml : c.maxLocals = 2 := hml0
  have hown : s.vm.findClass "java/lang/String" = some m.cls := findClass_of_methodNamed Bd.named
  have hnm := (name_of_methodNamed Bd.named Bd.method).1
  have X0 : Stand p l e ({ frames := 2, cells := 4, slots := 8, locals := 29 } : Room) (s.setVm s.vm) m #[(.ref a1), (.ref a2)] below meth c s₁ [] 0 0 := Stand.of_body Bd
  have e0 : s₁.heap = h0 := by rw [← hh, Bd.state]; rfl
  have N0 := Fr.nil n0
  obtain ⟨S0, hS0⟩ : ∃ z, z = s₁.setTop (entryFrame m #[(.ref a1), (.ref a2)] 2) := ⟨_, rfl⟩
  have P0 : own_Pr p.tables e below S0 s₁ (mkF m 0 #[.val (.ref a1), .val (.ref a2)] []) := fun t k => hS0 ▸ castTop (ef_2_e m a1 a2) k
  have hSn : s.Since s.vm 0 := (State.WarmedH.refl s).since 0
  have kS0 : 0 ≤ h0.size := Nat.zero_le _
  have CR0 := CHr.refl hCH
  have P1 : own_Pr p.tables e below S0 s₁ (mkF m 4 #[.val (.ref a1), .val (.ref a2)] [(.ref a2), (.int (0 : Int32)), (.ref a2), (.ref a1)]) := fun t k => P0 t (by
    refine XS.aloadN X0.here hx rfl (hb hby d2_0) rfl rfl ?_
    show Steps p.tables e below (s₁.setTop (mkF m 1 #[.val (.ref a1), .val (.ref a2)] [(.ref a1)])) _
    refine XS.aloadN X0.here hx rfl (hb hby d2_1) rfl rfl ?_
    show Steps p.tables e below (s₁.setTop (mkF m 2 #[.val (.ref a1), .val (.ref a2)] [(.ref a2), (.ref a1)])) _
    refine XS.iconst X0.here hx rfl (hb hby d2_2) ?_
    show Steps p.tables e below (s₁.setTop (mkF m 3 #[.val (.ref a1), .val (.ref a2)] [(.int (0 : Int32)), (.ref a2), (.ref a1)])) _
    refine XS.aloadN X0.here hx rfl (hb hby d2_3) rfl rfl ?_
    show Steps p.tables e below (s₁.setTop (mkF m 4 #[.val (.ref a1), .val (.ref a2)] [(.ref a2), (.int (0 : Int32)), (.ref a2), (.ref a1)])) _
    exact k)
  obtain ⟨cl2, Ar2, q2, S2, N2, H2, G2⟩ := id V2
  have P3 : own_Pr p.tables e below S0 s₁ (mkF m 6 #[.val (.ref a1), .val (.ref a2)] [.null, (.int (0 : Int32)), (.int (0 : Int32)), (.ref a2), (.ref a1)]) := fun t k => P1 t (by
    refine X0.arraylength hx (by rw [e0]; exact Ar2.1) (State.isArrayOf_alike hZ.alike Ar2.2.1) (g := (mkF m 4 #[.val (.ref a1), .val (.ref a2)] [(.ref a2), (.int (0 : Int32)), (.ref a2), (.ref a1)])) rfl rfl (hb hby d2_4) _ ?_
    rw [len_of S2 N2]
    show Steps p.tables e below (s₁.setTop (mkF m 5 #[.val (.ref a1), .val (.ref a2)] [(.int (0 : Int32)), (.int (0 : Int32)), (.ref a2), (.ref a1)])) _
    refine XS.aconstNull X0.here hx rfl (hb hby d2_5) ?_
    show Steps p.tables e below (s₁.setTop (mkF m 6 #[.val (.ref a1), .val (.ref a2)] [.null, (.int (0 : Int32)), (.int (0 : Int32)), (.ref a2), (.ref a1)])) _
    exact k)
  obtain ⟨_, _, ⟨T4, L4, k4, n4⟩, -, X4, hSq4, gq4, ⟨Lc4, hQ4, l4, y4, z4, CRq4⟩, st4⟩ := X0.specialBackS hx (y := (⟨"java/lang/String", "<init>", "([CIILjava/lang/Void;)V"⟩ : MethodName)) rfl hown (mvT hZ (hw _ (List.mem_of_getElem? (i := 11) rfl))) (mvT hZ (hw _ (List.mem_of_getElem? (i := 12) rfl))) (mvT hZ (hw _ (List.mem_of_getElem? (i := 14) rfl))) (by decide) (backOfSH (W := 0) (rm3_e l Z a0 hw [] a1 a2 h0 n0 Z0 E1 F1 F2 g_a1) hZ (hw _ (List.mem_of_getElem? (i := 14) rfl)) (hw _ (List.mem_of_getElem? (i := 6) rfl)) (by decide) (by decide) (own_EW hw) CR0.1) (g := (mkF m 6 #[.val (.ref a1), .val (.ref a2)] [.null, (.int (0 : Int32)), (.int (0 : Int32)), (.ref a2), (.ref a1)])) rfl (by rw [hml]; rfl) (Steps.refl _) (a := a1) (argsL := [(.ref a2), (.int (0 : Int32)), (.int (0 : Int32)), .null]) (rest := []) (lenOf pd_10 rfl) rfl (by show 2 * 0 + _ ≤ _; exact Nat.le_of_eq rfl) (hb hby d2_6) (fun _ _ => ⟨rfl, e0, (by decide : 0 + 4 ≤ _), (by decide : 0 + 8 ≤ _)⟩)
  dsimp only [Pt.U, Pt.locs, Pt.cells, Pt.slots] at X4 l4 y4 z4 st4 hQ4 hSq4 gq4 CRq4
  subst l4 y4 z4
  obtain ⟨X4, hSn, hZ, hown⟩ := rebS hSn (by rw [e0]; exact kS0) X4 hSq4 gq4 hZ hown
  have kS4 := Nat.le_refl T4.heap.size
  have CR4q := CR0.trans CRq4
  obtain ⟨rfl, Nq4, Kq4, Rq4⟩ := hQ4
  have N4n := Fr.app N0 Nq4
  have P5 : own_Pr p.tables e below S0 T4 (mkF m 9 #[.val (.ref a1), .val (.ref a2)] []) := fun t k => P3 t (st4.trans k)
  obtain ⟨fs, hr, hrun, hended, hend⟩ := X4.leaveW hSn kS4 (v := none) (fun _ => rfl)
  have fin : Steps p.tables e below S0 (T4.setFrames fs) := P5 _ (X4.returnOut hx Bd.returns (hb hby d2_9) hr)
  rw [hS0] at fin
  refine ⟨_, _, fin, hrun, hended, _, _, rfl, ?_, (show CHr Z consts_1 s.vm s.heap T4.vm T4.heap by rw [hh]; exact CR4q.trans (CHv.at X4 hZ (own_EW hw) CR4q.1)), hend.1, hend.2.1, hend.2.2.1, hend.2.2.2.mono (by decide) (by decide)⟩
  show own_QC Z a1 0 0 [] h0 n0 _ T4.heap _
  exact ⟨rfl, N4n, Kq4, Rq4⟩
theorem d21_0 : decode jdk_42_method_151_code 0 = .ok (.aload_n 0, 1) := by decide +kernel
theorem d21_1 : decode jdk_42_method_151_code 1 = .ok (.invokespecial 1, 3) := by decide +kernel
theorem d21_4 : decode jdk_42_method_151_code 4 = .ok (.aload_n 0, 1) := by decide +kernel
theorem d21_5 : decode jdk_42_method_151_code 5 = .ok (.aload_n 1, 1) := by decide +kernel
theorem d21_6 : decode jdk_42_method_151_code 6 = .ok (.putfield 9, 3) := by decide +kernel
theorem d21_9 : decode jdk_42_method_151_code 9 = .ok (.aload_n 0, 1) := by decide +kernel
theorem d21_10 : decode jdk_42_method_151_code 10 = .ok (.iload_n 2, 1) := by decide +kernel
theorem d21_11 : decode jdk_42_method_151_code 11 = .ok (.putfield 15, 3) := by decide +kernel
theorem d21_14 : decode jdk_42_method_151_code 14 = .ok (.return_, 1) := by decide +kernel
theorem ef_21_l (m : MethodId) (a1 : Addr) (a2 : Addr) : entryFrame m #[(.ref a1), (.ref a2), (.int (0 : Int32))] 3 = mkF m 0 #[.val (.ref a1), .val (.ref a2), .val (.int (0 : Int32))] [] := by first | (simp [entryFrame, mkF, argsToLocals, Value.category]; done) | rfl
set_option maxRecDepth 65536 in
set_option maxHeartbeats 40000000 in
theorem rm21_l (l : Launch) (Z : State) (a0 : Array Value) (hw : ∀ d ∈ tables_1, d.before a0 Z = true) (ws : List Jvm.Cond) (a1 : Addr) (a2 : Addr)  (h0 : Heap) (n0 : Nat) (Z0 : n0 ≤ h0.size) (E1 : Exa Z h0 a1 "java/lang/String") (F1 : Fld Z h0 a1 "java/lang/String" "coder" "B" (.int (0 : Int32))) (F2 : Fld Z h0 a1 "java/lang/String" "value" "[B" .null) (g_a1 : n0 ≤ a1) :
    MetFree l (⟨"java/lang/String", "<init>", "([BB)V"⟩ : MethodName) (head1 (Jvm.Cond.code (⟨"java/lang/String", "<init>", "([BB)V"⟩ : MethodName) jdk_42_method_151_code 3 none :: ws) ({ frames := 1, cells := 0, slots := 0, locals := 12 } : Room)) (fun a U => a = #[(.ref a1), (.ref a2), (.int (0 : Int32))] ∧ Z.Warmed39 U.vm ∧ U.heap = h0) (fun _ _ _ _ _ => True) (fun _ U o U' => ∃ v L, o = .returned v ∧ own_QD Z a1 a2 0 h0 n0 v U'.heap L ∧ FrameEnd U o U' L ({ frames := 1, cells := 0, slots := 0, locals := 12 } : Room).cells ({ frames := 1, cells := 0, slots := 0, locals := 12 } : Room).slots) := by
  refine MetFree.of_bodySF (plainFor_of_name pn_7) hisR ?_
  intro p e s m args below meth c s₁ Bd hml0 hP hK
  obtain ⟨rfl, hZ, hh⟩ := hP
  have hx := Bd.exec
  have hby := Bd.bytes
  have hml : c.maxLocals = 3 := hml0
  have hown : s.vm.findClass "java/lang/String" = some m.cls := findClass_of_methodNamed Bd.named
  have hnm := (name_of_methodNamed Bd.named Bd.method).1
  have X0 : Stand p l e ({ frames := 1, cells := 0, slots := 0, locals := 12 } : Room) s m #[(.ref a1), (.ref a2), (.int (0 : Int32))] below meth c s₁ [] 0 0 := Stand.of_body Bd
  have e0 : s₁.heap = h0 := by rw [← hh, Bd.state]; rfl
  have N0 := Fr.nil n0
  obtain ⟨S0, hS0⟩ : ∃ z, z = s₁.setTop (entryFrame m #[(.ref a1), (.ref a2), (.int (0 : Int32))] 3) := ⟨_, rfl⟩
  have P0 : own_Pr p.tables e below S0 s₁ (mkF m 0 #[.val (.ref a1), .val (.ref a2), .val (.int (0 : Int32))] []) := fun t k => hS0 ▸ castTop (ef_21_l m a1 a2) k
  have K0 := Keep.refl h0 [a1]
  have P1 : own_Pr p.tables e below S0 s₁ (mkF m 1 #[.val (.ref a1), .val (.ref a2), .val (.int (0 : Int32))] [(.ref a1)]) := fun t k => P0 t (by
    refine XS.aloadN X0.here hx rfl (hb hby d21_0) rfl rfl ?_
    show Steps p.tables e below (s₁.setTop (mkF m 1 #[.val (.ref a1), .val (.ref a2), .val (.int (0 : Int32))] [(.ref a1)])) _
    exact k)
  obtain ⟨T2, X2, e2, st2⟩ := initO X0 hx hZ hown (hw _ (List.mem_of_getElem? (i := 15) rfl)) (hw _ (List.mem_of_getElem? (i := 16) rfl)) (hw _ (List.mem_of_getElem? (i := 17) rfl)) e0 (g := (mkF m 1 #[.val (.ref a1), .val (.ref a2), .val (.int (0 : Int32))] [(.ref a1)])) rfl (by rw [hml]; rfl) rfl (hb hby d21_1) (by decide) (W := 0) (by show 2 * 0 + _ ≤ _; exact Nat.le_of_eq rfl) (by decide)
  have P3 : own_Pr p.tables e below S0 T2 (mkF m 4 #[.val (.ref a1), .val (.ref a2), .val (.int (0 : Int32))] []) := fun t k => P1 t (st2 _ k)
  have P4 : own_Pr p.tables e below S0 T2 (mkF m 6 #[.val (.ref a1), .val (.ref a2), .val (.int (0 : Int32))] [(.ref a2), (.ref a1)]) := fun t k => P3 t (by
    refine XS.aloadN X2.here hx rfl (hb hby d21_4) rfl rfl ?_
    show Steps p.tables e below (T2.setTop (mkF m 5 #[.val (.ref a1), .val (.ref a2), .val (.int (0 : Int32))] [(.ref a1)])) _
    refine XS.aloadN X2.here hx rfl (hb hby d21_5) rfl rfl ?_
    show Steps p.tables e below (T2.setTop (mkF m 6 #[.val (.ref a1), .val (.ref a2), .val (.int (0 : Int32))] [(.ref a2), (.ref a1)])) _
    exact k)
  obtain ⟨T5, h5, X5, e5, W5, st5⟩ := putF X2 hx hZ hown (host := "") (Or.inl (hw _ (List.mem_of_getElem? (i := 24) rfl))) Via.refl e2 F2 E1 (Or.inr ⟨(hw _ (List.mem_of_getElem? (i := 20) rfl)), rfl, hnm⟩) (hw _ (List.mem_of_getElem? (i := 5) rfl)) (ty := (.array .byte)) (by decide) rfl rfl (g := (mkF m 6 #[.val (.ref a1), .val (.ref a2), .val (.int (0 : Int32))] [(.ref a2), (.ref a1)])) rfl rfl (hb hby d21_6)
  have F5 := F2.same W5
  have F6 := E1.wr W5
  have F7 := F1.other W5 (Or.inr (slot_ne (Or.inr (hw _ (List.mem_of_getElem? (i := 21) rfl))) (Or.inr (hw _ (List.mem_of_getElem? (i := 20) rfl))) (by decide) (t := .byte) (t' := (.array .byte)) (by decide) (by decide)))
  have Z8 : n0 ≤ h5.size := by rw [W5.size]; exact Z0
  have NF5 := Fr.snoc X5 N0 g_a1
  have K9 := K0.wr W5 (Or.inl (List.mem_of_getElem? (i := 0) rfl))
  have P10 : own_Pr p.tables e below S0 T5 (mkF m 9 #[.val (.ref a1), .val (.ref a2), .val (.int (0 : Int32))] []) := fun t k => P4 t (st5 _ k)
  have P11 : own_Pr p.tables e below S0 T5 (mkF m 11 #[.val (.ref a1), .val (.ref a2), .val (.int (0 : Int32))] [(.int (0 : Int32)), (.ref a1)]) := fun t k => P10 t (by
    refine XS.aloadN X5.here hx rfl (hb hby d21_9) rfl rfl ?_
    show Steps p.tables e below (T5.setTop (mkF m 10 #[.val (.ref a1), .val (.ref a2), .val (.int (0 : Int32))] [(.ref a1)])) _
    refine XS.iloadN X5.here hx rfl (hb hby d21_10) rfl ?_
    show Steps p.tables e below (T5.setTop (mkF m 11 #[.val (.ref a1), .val (.ref a2), .val (.int (0 : Int32))] [(.int (0 : Int32)), (.ref a1)])) _
    exact k)
  obtain ⟨T12, h12, X12, e12, W12, st12⟩ := putFN X5 hx hZ hown (hw _ (List.mem_of_getElem? (i := 25) rfl)) Via.refl e5 F7 F6 (Or.inr ⟨(hw _ (List.mem_of_getElem? (i := 21) rfl)), rfl, hnm⟩) (hw _ (List.mem_of_getElem? (i := 5) rfl)) (ty := .byte) (v' := (.int (0 : Int32))) (by decide) rfl rfl (g := (mkF m 11 #[.val (.ref a1), .val (.ref a2), .val (.int (0 : Int32))] [(.int (0 : Int32)), (.ref a1)])) rfl rfl (hb hby d21_11)
  have F12 := F7.same W12
  have F13 := F6.wr W12
  have F14 := F5.other W12 (Or.inr (slot_ne (Or.inr (hw _ (List.mem_of_getElem? (i := 20) rfl))) (Or.inr (hw _ (List.mem_of_getElem? (i := 21) rfl))) (by decide) (t := (.array .byte)) (t' := .byte) (by decide) (by decide)))
  have Z15 : n0 ≤ h12.size := by rw [W12.size]; exact Z8
  have NF12 := Fr.snoc X12 NF5 g_a1
  have K16 := K9.wr W12 (Or.inl (List.mem_of_getElem? (i := 0) rfl))
  have P17 : own_Pr p.tables e below S0 T12 (mkF m 14 #[.val (.ref a1), .val (.ref a2), .val (.int (0 : Int32))] []) := fun t k => P11 t (st12 _ k)
  obtain ⟨fs, hr, hrun, hended, hW, hsame⟩ := X12.leave (v := none) (fun _ => rfl)
  have fin : Steps p.tables e below S0 (T12.setFrames fs) := P17 _ (X12.returnOut hx Bd.returns (hb hby d21_14) hr)
  rw [hS0] at fin
  refine ⟨_, _, fin, hrun, hended, _, _, rfl, ?_, ⟨_, rfl⟩, hW, hsame.mono (by decide) (by decide)⟩
  show own_QD Z a1 a2 0 h0 n0 _ T12.heap _
  rw [e12]
  exact ⟨rfl, NF12, K16, F13, F12, F14⟩
theorem ef_21_u (m : MethodId) (a1 : Addr) (a2 : Addr) : entryFrame m #[(.ref a1), (.ref a2), (.int (1 : Int32))] 3 = mkF m 0 #[.val (.ref a1), .val (.ref a2), .val (.int (1 : Int32))] [] := by first | (simp [entryFrame, mkF, argsToLocals, Value.category]; done) | rfl
set_option maxRecDepth 65536 in
set_option maxHeartbeats 40000000 in
theorem rm21_u (l : Launch) (Z : State) (a0 : Array Value) (hw : ∀ d ∈ tables_1, d.before a0 Z = true) (ws : List Jvm.Cond) (a1 : Addr) (a2 : Addr)  (h0 : Heap) (n0 : Nat) (Z0 : n0 ≤ h0.size) (E1 : Exa Z h0 a1 "java/lang/String") (F1 : Fld Z h0 a1 "java/lang/String" "coder" "B" (.int (0 : Int32))) (F2 : Fld Z h0 a1 "java/lang/String" "value" "[B" .null) (g_a1 : n0 ≤ a1) :
    MetFree l (⟨"java/lang/String", "<init>", "([BB)V"⟩ : MethodName) (head1 (Jvm.Cond.code (⟨"java/lang/String", "<init>", "([BB)V"⟩ : MethodName) jdk_42_method_151_code 3 none :: ws) ({ frames := 1, cells := 0, slots := 0, locals := 12 } : Room)) (fun a U => a = #[(.ref a1), (.ref a2), (.int (1 : Int32))] ∧ Z.Warmed39 U.vm ∧ U.heap = h0) (fun _ _ _ _ _ => True) (fun _ U o U' => ∃ v L, o = .returned v ∧ own_QD Z a1 a2 1 h0 n0 v U'.heap L ∧ FrameEnd U o U' L ({ frames := 1, cells := 0, slots := 0, locals := 12 } : Room).cells ({ frames := 1, cells := 0, slots := 0, locals := 12 } : Room).slots) := by
  refine MetFree.of_bodySF (plainFor_of_name pn_7) hisR ?_
  intro p e s m args below meth c s₁ Bd hml0 hP hK
  obtain ⟨rfl, hZ, hh⟩ := hP
  have hx := Bd.exec
  have hby := Bd.bytes
  have hml : c.maxLocals = 3 := hml0
  have hown : s.vm.findClass "java/lang/String" = some m.cls := findClass_of_methodNamed Bd.named
  have hnm := (name_of_methodNamed Bd.named Bd.method).1
  have X0 : Stand p l e ({ frames := 1, cells := 0, slots := 0, locals := 12 } : Room) s m #[(.ref a1), (.ref a2), (.int (1 : Int32))] below meth c s₁ [] 0 0 := Stand.of_body Bd
  have e0 : s₁.heap = h0 := by rw [← hh, Bd.state]; rfl
  have N0 := Fr.nil n0
  obtain ⟨S0, hS0⟩ : ∃ z, z = s₁.setTop (entryFrame m #[(.ref a1), (.ref a2), (.int (1 : Int32))] 3) := ⟨_, rfl⟩
  have P0 : own_Pr p.tables e below S0 s₁ (mkF m 0 #[.val (.ref a1), .val (.ref a2), .val (.int (1 : Int32))] []) := fun t k => hS0 ▸ castTop (ef_21_u m a1 a2) k
  have K0 := Keep.refl h0 [a1]
  have P1 : own_Pr p.tables e below S0 s₁ (mkF m 1 #[.val (.ref a1), .val (.ref a2), .val (.int (1 : Int32))] [(.ref a1)]) := fun t k => P0 t (by
    refine XS.aloadN X0.here hx rfl (hb hby d21_0) rfl rfl ?_
    show Steps p.tables e below (s₁.setTop (mkF m 1 #[.val (.ref a1), .val (.ref a2), .val (.int (1 : Int32))] [(.ref a1)])) _
    exact k)
  obtain ⟨T2, X2, e2, st2⟩ := initO X0 hx hZ hown (hw _ (List.mem_of_getElem? (i := 15) rfl)) (hw _ (List.mem_of_getElem? (i := 16) rfl)) (hw _ (List.mem_of_getElem? (i := 17) rfl)) e0 (g := (mkF m 1 #[.val (.ref a1), .val (.ref a2), .val (.int (1 : Int32))] [(.ref a1)])) rfl (by rw [hml]; rfl) rfl (hb hby d21_1) (by decide) (W := 0) (by show 2 * 0 + _ ≤ _; exact Nat.le_of_eq rfl) (by decide)
  have P3 : own_Pr p.tables e below S0 T2 (mkF m 4 #[.val (.ref a1), .val (.ref a2), .val (.int (1 : Int32))] []) := fun t k => P1 t (st2 _ k)
  have P4 : own_Pr p.tables e below S0 T2 (mkF m 6 #[.val (.ref a1), .val (.ref a2), .val (.int (1 : Int32))] [(.ref a2), (.ref a1)]) := fun t k => P3 t (by
    refine XS.aloadN X2.here hx rfl (hb hby d21_4) rfl rfl ?_
    show Steps p.tables e below (T2.setTop (mkF m 5 #[.val (.ref a1), .val (.ref a2), .val (.int (1 : Int32))] [(.ref a1)])) _
    refine XS.aloadN X2.here hx rfl (hb hby d21_5) rfl rfl ?_
    show Steps p.tables e below (T2.setTop (mkF m 6 #[.val (.ref a1), .val (.ref a2), .val (.int (1 : Int32))] [(.ref a2), (.ref a1)])) _
    exact k)
  obtain ⟨T5, h5, X5, e5, W5, st5⟩ := putF X2 hx hZ hown (host := "") (Or.inl (hw _ (List.mem_of_getElem? (i := 24) rfl))) Via.refl e2 F2 E1 (Or.inr ⟨(hw _ (List.mem_of_getElem? (i := 20) rfl)), rfl, hnm⟩) (hw _ (List.mem_of_getElem? (i := 5) rfl)) (ty := (.array .byte)) (by decide) rfl rfl (g := (mkF m 6 #[.val (.ref a1), .val (.ref a2), .val (.int (1 : Int32))] [(.ref a2), (.ref a1)])) rfl rfl (hb hby d21_6)
  have F5 := F2.same W5
  have F6 := E1.wr W5
  have F7 := F1.other W5 (Or.inr (slot_ne (Or.inr (hw _ (List.mem_of_getElem? (i := 21) rfl))) (Or.inr (hw _ (List.mem_of_getElem? (i := 20) rfl))) (by decide) (t := .byte) (t' := (.array .byte)) (by decide) (by decide)))
  have Z8 : n0 ≤ h5.size := by rw [W5.size]; exact Z0
  have NF5 := Fr.snoc X5 N0 g_a1
  have K9 := K0.wr W5 (Or.inl (List.mem_of_getElem? (i := 0) rfl))
  have P10 : own_Pr p.tables e below S0 T5 (mkF m 9 #[.val (.ref a1), .val (.ref a2), .val (.int (1 : Int32))] []) := fun t k => P4 t (st5 _ k)
  have P11 : own_Pr p.tables e below S0 T5 (mkF m 11 #[.val (.ref a1), .val (.ref a2), .val (.int (1 : Int32))] [(.int (1 : Int32)), (.ref a1)]) := fun t k => P10 t (by
    refine XS.aloadN X5.here hx rfl (hb hby d21_9) rfl rfl ?_
    show Steps p.tables e below (T5.setTop (mkF m 10 #[.val (.ref a1), .val (.ref a2), .val (.int (1 : Int32))] [(.ref a1)])) _
    refine XS.iloadN X5.here hx rfl (hb hby d21_10) rfl ?_
    show Steps p.tables e below (T5.setTop (mkF m 11 #[.val (.ref a1), .val (.ref a2), .val (.int (1 : Int32))] [(.int (1 : Int32)), (.ref a1)])) _
    exact k)
  obtain ⟨T12, h12, X12, e12, W12, st12⟩ := putFN X5 hx hZ hown (hw _ (List.mem_of_getElem? (i := 25) rfl)) Via.refl e5 F7 F6 (Or.inr ⟨(hw _ (List.mem_of_getElem? (i := 21) rfl)), rfl, hnm⟩) (hw _ (List.mem_of_getElem? (i := 5) rfl)) (ty := .byte) (v' := (.int (1 : Int32))) (by decide) rfl rfl (g := (mkF m 11 #[.val (.ref a1), .val (.ref a2), .val (.int (1 : Int32))] [(.int (1 : Int32)), (.ref a1)])) rfl rfl (hb hby d21_11)
  have F12 := F7.same W12
  have F13 := F6.wr W12
  have F14 := F5.other W12 (Or.inr (slot_ne (Or.inr (hw _ (List.mem_of_getElem? (i := 20) rfl))) (Or.inr (hw _ (List.mem_of_getElem? (i := 21) rfl))) (by decide) (t := (.array .byte)) (t' := .byte) (by decide) (by decide)))
  have Z15 : n0 ≤ h12.size := by rw [W12.size]; exact Z8
  have NF12 := Fr.snoc X12 NF5 g_a1
  have K16 := K9.wr W12 (Or.inl (List.mem_of_getElem? (i := 0) rfl))
  have P17 : own_Pr p.tables e below S0 T12 (mkF m 14 #[.val (.ref a1), .val (.ref a2), .val (.int (1 : Int32))] []) := fun t k => P11 t (st12 _ k)
  obtain ⟨fs, hr, hrun, hended, hW, hsame⟩ := X12.leave (v := none) (fun _ => rfl)
  have fin : Steps p.tables e below S0 (T12.setFrames fs) := P17 _ (X12.returnOut hx Bd.returns (hb hby d21_14) hr)
  rw [hS0] at fin
  refine ⟨_, _, fin, hrun, hended, _, _, rfl, ?_, ⟨_, rfl⟩, hW, hsame.mono (by decide) (by decide)⟩
  show own_QD Z a1 a2 1 h0 n0 _ T12.heap _
  rw [e12]
  exact ⟨rfl, NF12, K16, F13, F12, F14⟩
theorem d17_0 : decode jdk_42_method_139_code 0 = .ok (.getstatic 38, 3) := by decide +kernel
theorem d17_3 : decode jdk_42_method_139_code 3 = .ok (.ifCond .eq 23, 3) := by decide +kernel
theorem d17_6 : decode jdk_42_method_139_code 6 = .ok (.iload_n 0, 1) := by decide +kernel
theorem d17_7 : decode jdk_42_method_139_code 7 = .ok (.invokestatic 1015, 3) := by decide +kernel
theorem d17_10 : decode jdk_42_method_139_code 10 = .ok (.ifCond .eq 16, 3) := by decide +kernel
theorem d17_13 : decode jdk_42_method_139_code 13 = .ok (.new 10, 3) := by decide +kernel
theorem d17_16 : decode jdk_42_method_139_code 16 = .ok (.dup, 1) := by decide +kernel
theorem d17_17 : decode jdk_42_method_139_code 17 = .ok (.iload_n 0, 1) := by decide +kernel
theorem d17_18 : decode jdk_42_method_139_code 18 = .ok (.invokestatic 1018, 3) := by decide +kernel
theorem d17_21 : decode jdk_42_method_139_code 21 = .ok (.iconst 0, 1) := by decide +kernel
theorem d17_22 : decode jdk_42_method_139_code 22 = .ok (.invokespecial 209, 3) := by decide +kernel
theorem d17_25 : decode jdk_42_method_139_code 25 = .ok (.areturn, 1) := by decide +kernel
theorem pd_11 : parseMethodDescriptor "(C)Z" = some ⟨[.char], some .boolean⟩ := by decide +kernel
theorem pd_12 : parseMethodDescriptor "(C)[B" = some ⟨[.char], some (.array .byte)⟩ := by decide +kernel
theorem pd_13 : parseMethodDescriptor "([BB)V" = some ⟨[(.array .byte), .byte], none⟩ := by decide +kernel
theorem ef_17_l (m : MethodId) (p1 : Int32) : entryFrame m #[(.int p1)] 1 = mkF m 0 #[.val (.int p1)] [] := by first | (simp [entryFrame, mkF, argsToLocals, Value.category]; done) | rfl
set_option maxRecDepth 65536 in
set_option maxHeartbeats 40000000 in
theorem rm17_l (l : Launch) (Z : State) (a0 : Array Value) (hw : ∀ d ∈ tables_1, d.before a0 Z = true) (ws : List Jvm.Cond) (p1 : Int32) (cs : Int32) (h0 : Heap) (n0 : Nat) (Z0 : n0 ≤ h0.size) (CS : Sta Z h0 "java/lang/String" "COMPACT_STRINGS" "Z" (.int cs)) (hcs : ¬ cs = (0 : Int32)) (AD : Sta Z h0 "java/lang/StringUTF16" "$assertionsDisabled" "Z" (.int (1 : Int32))) (HB : Sta Z h0 "java/lang/StringUTF16" "HI_BYTE_SHIFT" "I" (.int (0 : Int32))) (LB : Sta Z h0 "java/lang/StringUTF16" "LO_BYTE_SHIFT" "I" (.int (8 : Int32))) (hv : ¬ (255 : Int32) < p1) :
    MetFree l (⟨"java/lang/String", "valueOf", "(C)Ljava/lang/String;"⟩ : MethodName) (head1 (Jvm.Cond.code (⟨"java/lang/String", "valueOf", "(C)Ljava/lang/String;"⟩ : MethodName) jdk_42_method_139_code 1 (some (.object "java/lang/String")) :: ws) ({ frames := 2, cells := 2, slots := 5, locals := 27 } : Room)) (fun a U => a = #[(.int p1)] ∧ Z.Warmed39 U.vm ∧ U.heap = h0) (fun _ _ _ _ _ => True) (fun _ U o U' => ∃ v L, o = .returned v ∧ own_QSc Z 1 [(nar .byte (p1.toInt8.toInt32))] h0 n0 v U'.heap L ∧ FrameEnd U o U' L ({ frames := 2, cells := 2, slots := 5, locals := 27 } : Room).cells ({ frames := 2, cells := 2, slots := 5, locals := 27 } : Room).slots) := by
  refine MetFree.of_bodySF (plainFor_of_name pn_7) hisR ?_
  intro p e s m args below meth c s₁ Bd hml0 hP hK
  obtain ⟨rfl, hZ, hh⟩ := hP
  have hx := Bd.exec
  have hby := Bd.bytes
  have hml : c.maxLocals = 1 := hml0
  have hown : s.vm.findClass "java/lang/String" = some m.cls := findClass_of_methodNamed Bd.named
  have hnm := (name_of_methodNamed Bd.named Bd.method).1
  have X0 : Stand p l e ({ frames := 2, cells := 2, slots := 5, locals := 27 } : Room) s m #[(.int p1)] below meth c s₁ [] 0 0 := Stand.of_body Bd
  have e0 : s₁.heap = h0 := by rw [← hh, Bd.state]; rfl
  have N0 := Fr.nil n0
  obtain ⟨S0, hS0⟩ : ∃ z, z = s₁.setTop (entryFrame m #[(.int p1)] 1) := ⟨_, rfl⟩
  have P0 : own_Pr p.tables e below S0 s₁ (mkF m 0 #[.val (.int p1)] []) := fun t k => hS0 ▸ castTop (ef_17_l m p1) k
  have K0 := Keep.refl h0 []
  obtain ⟨T1, X1, e1, st1⟩ := getS2 X0 hx hZ hown (host := "") (Or.inl (hw _ (List.mem_of_getElem? (i := 40) rfl))) Via.refl e0 CS (g := (mkF m 0 #[.val (.int p1)] [])) rfl (hb hby d17_0)
  have P2 : own_Pr p.tables e below S0 T1 (mkF m 3 #[.val (.int p1)] [(.int cs)]) := fun t k => P0 t (st1 _ k)
  have P3 : own_Pr p.tables e below S0 T1 (mkF m 7 #[.val (.int p1)] [(.int p1)]) := fun t k => P2 t (by
    refine XS.ifNo X1.here hx rfl (hb hby d17_3) rfl (XT.i0_eq_f hcs) ?_
    show Steps p.tables e below (T1.setTop (mkF m 6 #[.val (.int p1)] [])) _
    refine XS.iloadN X1.here hx rfl (hb hby d17_6) rfl ?_
    show Steps p.tables e below (T1.setTop (mkF m 7 #[.val (.int p1)] [(.int p1)])) _
    exact k)
  obtain ⟨_, _, ⟨T4, L4, k4, n4⟩, -, X4, ⟨Lc4, hQ4, l4, y4, z4⟩, st4⟩ := Jvm.LawKit.callS X1 hx (y := (⟨"java/lang/StringLatin1", "canEncode", "(C)Z"⟩ : MethodName)) hown (mvT hZ (hw _ (List.mem_of_getElem? (i := 75) rfl))) (mvT hZ (hw _ (List.mem_of_getElem? (i := 76) rfl))) (mvT hZ (hw _ (List.mem_of_getElem? (i := 77) rfl))) (mvT hZ (hw _ (List.mem_of_getElem? (i := 78) rfl))) (by decide) (backOf (W := 0) (rm18 l Z a0 hw [] p1  h0 n0 Z0 ) hZ (hw _ (List.mem_of_getElem? (i := 78) rfl)) (hw _ (List.mem_of_getElem? (i := 77) rfl)) (by decide) (by decide)) (g := (mkF m 7 #[.val (.int p1)] [(.int p1)])) rfl (by rw [hml]; rfl) (argsL := [(.int p1)]) (rest := []) (lenOf pd_11 rfl) rfl (by show 2 * 0 + _ ≤ _; exact Nat.le_of_eq rfl) (hb hby d17_7) (fun _ _ => ⟨rfl, e1, (by decide : 0 + 0 ≤ _), (by decide : 0 + 0 ≤ _)⟩)
  dsimp only [Pt.U, Pt.locs, Pt.cells, Pt.slots] at X4 l4 y4 z4 st4 hQ4
  subst l4 y4 z4
  obtain ⟨z4v, rfl, hz4v, Nq4, eq4⟩ := hQ4
  have N4n := Fr.app N0 Nq4
  have P5 : own_Pr p.tables e below S0 T4 (mkF m 10 #[.val (.int p1)] [(.int z4v)]) := fun t k => P3 t (st4 _ k)
  have P6 : own_Pr p.tables e below S0 T4 (mkF m 13 #[.val (.int p1)] []) := fun t k => P5 t (by
    refine XS.ifNo X4.here hx rfl (hb hby d17_10) rfl (XT.i0_eq_f (by rw [hz4v]; unfold own_f18; rw [if_neg hv]; decide)) ?_
    show Steps p.tables e below (T4.setTop (mkF m 13 #[.val (.int p1)] [])) _
    exact k)
  obtain ⟨T7, h7, X7, e7, E7, A7, D7, -, st7⟩ := newO X4 hx hZ hown (hw _ (List.mem_of_getElem? (i := 79) rfl)) (hw _ (List.mem_of_getElem? (i := 5) rfl)) (hw _ (List.mem_of_getElem? (i := 6) rfl)) eq4 (g := (mkF m 13 #[.val (.int p1)] [])) rfl (hb hby d17_13) (by decide) (by decide)
  obtain ⟨b7, g7⟩ : ∃ z, z = h0.size := ⟨_, rfl⟩
  rw [← g7] at A7 D7 st7
  have g_b7 : n0 ≤ b7 := Nat.le_trans Z0 (Nat.le_of_eq g7.symm)
  have sz_b7 : h0.size ≤ b7 := Nat.le_trans K0.1 (Nat.le_of_eq g7.symm)
  have F8 := CS.ext E7
  have F9 := AD.ext E7
  have F10 := HB.ext E7
  have F11 := LB.ext E7
  have Z12 : n0 ≤ h7.size := Nat.le_trans Z0 E7.1
  have K13 := K0.ext E7
  have F14 : Fld Z h7 b7 "java/lang/String" "value" "[B" .null := D7 (Or.inr (hw _ (List.mem_of_getElem? (i := 20) rfl))) (ty := (.array .byte)) (by decide)
  have F15 : Fld Z h7 b7 "java/lang/String" "coder" "B" (.int (0 : Int32)) := D7 (Or.inr (hw _ (List.mem_of_getElem? (i := 21) rfl))) (ty := .byte) (by decide)
  have P16 : own_Pr p.tables e below S0 T7 (mkF m 16 #[.val (.int p1)] [(.ref b7)]) := fun t k => P6 t (st7 _ k)
  have P17 : own_Pr p.tables e below S0 T7 (mkF m 18 #[.val (.int p1)] [(.int p1), (.ref b7), (.ref b7)]) := fun t k => P16 t (by
    refine XS.dup X7.here hx rfl (hb hby d17_16) rfl rfl ?_
    show Steps p.tables e below (T7.setTop (mkF m 17 #[.val (.int p1)] [(.ref b7), (.ref b7)])) _
    refine XS.iloadN X7.here hx rfl (hb hby d17_17) rfl ?_
    show Steps p.tables e below (T7.setTop (mkF m 18 #[.val (.int p1)] [(.int p1), (.ref b7), (.ref b7)])) _
    exact k)
  obtain ⟨_, _, ⟨T18, L18, k18, n18⟩, -, X18, ⟨Lc18, hQ18, l18, y18, z18⟩, st18⟩ := Jvm.LawKit.callS X7 hx (y := (⟨"java/lang/StringLatin1", "toBytes", "(C)[B"⟩ : MethodName)) hown (mvT hZ (hw _ (List.mem_of_getElem? (i := 92) rfl))) (mvT hZ (hw _ (List.mem_of_getElem? (i := 93) rfl))) (mvT hZ (hw _ (List.mem_of_getElem? (i := 77) rfl))) (mvT hZ (hw _ (List.mem_of_getElem? (i := 94) rfl))) (by decide) (backOf (W := 2) (rm22 l Z a0 hw [] p1 h7 n0 Z12 ) hZ (hw _ (List.mem_of_getElem? (i := 94) rfl)) (hw _ (List.mem_of_getElem? (i := 77) rfl)) (by decide) (by decide)) (g := (mkF m 18 #[.val (.int p1)] [(.int p1), (.ref b7), (.ref b7)])) rfl (by rw [hml]; rfl) (argsL := [(.int p1)]) (rest := [(.ref b7), (.ref b7)]) (lenOf pd_12 rfl) rfl (by show 2 * 0 + _ ≤ _; exact Nat.le_of_eq rfl) (hb hby d17_18) (fun _ _ => ⟨rfl, e7, (by decide : 1 + 1 ≤ _), (by decide : 4 + 1 ≤ _)⟩)
  dsimp only [Pt.U, Pt.locs, Pt.cells, Pt.slots] at X18 l18 y18 z18 st18 hQ18
  subst l18 y18 z18
  obtain ⟨b18, kk18, rfl, Nq18, Kq18, sz18, Vq18⟩ := hQ18
  have N18n := Fr.app N4n Nq18
  have ne_b7_b18 : b7 ≠ b18 := Nat.ne_of_lt (Nat.lt_of_lt_of_le A7.lt sz18)
  have g_b18 : n0 ≤ b18 := Nat.le_trans Z12 sz18
  have sz_b18 : h0.size ≤ b18 := Nat.le_trans K13.1 sz18
  have F19 := own_sta_keep0 F8 Kq18
  have F20 := own_sta_keep0 F9 Kq18
  have F21 := own_sta_keep0 F10 Kq18
  have F22 := own_sta_keep0 F11 Kq18
  have F23 := A7.keep Kq18
  have F24 := F14.keep Kq18 nin0
  have F25 := F15.keep Kq18 nin0
  have Z26 := Nat.le_trans Z12 Kq18.1
  have K27 := K13.trans Kq18 all0
  have P28 : own_Pr p.tables e below S0 T18 (mkF m 21 #[.val (.int p1)] [(.ref b18), (.ref b7), (.ref b7)]) := fun t k => P17 t (st18 _ k)
  have P29 : own_Pr p.tables e below S0 T18 (mkF m 22 #[.val (.int p1)] [(.int (0 : Int32)), (.ref b18), (.ref b7), (.ref b7)]) := fun t k => P28 t (by
    refine XS.iconst X18.here hx rfl (hb hby d17_21) ?_
    show Steps p.tables e below (T18.setTop (mkF m 22 #[.val (.int p1)] [(.int (0 : Int32)), (.ref b18), (.ref b7), (.ref b7)])) _
    exact k)
  obtain ⟨_, _, ⟨T30, L30, k30, n30⟩, -, X30, ⟨Lc30, hQ30, l30, y30, z30⟩, st30⟩ := X18.specialBack hx (y := (⟨"java/lang/String", "<init>", "([BB)V"⟩ : MethodName)) rfl hown (mvT hZ (hw _ (List.mem_of_getElem? (i := 89) rfl))) (mvT hZ (hw _ (List.mem_of_getElem? (i := 90) rfl))) (mvT hZ (hw _ (List.mem_of_getElem? (i := 91) rfl))) (by decide) (backOf (W := 1) (rm21_l l Z a0 hw [] b7 b18 T18.heap n0 Z26 F23 F25 F24 g_b7) hZ (hw _ (List.mem_of_getElem? (i := 91) rfl)) (hw _ (List.mem_of_getElem? (i := 6) rfl)) (by decide) (by decide)) (g := (mkF m 22 #[.val (.int p1)] [(.int (0 : Int32)), (.ref b18), (.ref b7), (.ref b7)])) rfl (by rw [hml]; rfl) (Steps.refl _) (a := b7) (argsL := [(.ref b18), (.int (0 : Int32))]) (rest := [(.ref b7)]) (lenOf pd_13 rfl) rfl (by show 2 * 0 + _ ≤ _; exact Nat.le_of_eq rfl) (hb hby d17_22) (fun _ _ => ⟨rfl, rfl, (by decide : 2 + 0 ≤ _), (by decide : 5 + 0 ≤ _)⟩)
  dsimp only [Pt.U, Pt.locs, Pt.cells, Pt.slots] at X30 l30 y30 z30 st30 hQ30
  subst l30 y30 z30
  obtain ⟨rfl, Nq30, Kq30, Eq30, Fc30, Fv30⟩ := hQ30
  have N30n := Fr.app N18n Nq30
  have F31 := own_sta_keep F19 Kq30 F23
  have F32 := own_sta_keep F20 Kq30 F23
  have F33 := own_sta_keep F21 Kq30 F23
  have F34 := own_sta_keep F22 Kq30 F23
  have F35 := F23.keep Kq30
  have F38 := Vq18.keep Kq30 (ninS (Ne.symm ne_b7_b18) nin0)
  have Z39 := Nat.le_trans Z26 Kq30.1
  have K40 := K27.trans Kq30 (allS (Or.inr sz_b7) all0)
  have P41 : own_Pr p.tables e below S0 T30 (mkF m 25 #[.val (.int p1)] [(.ref b7)]) := fun t k => P29 t (st30.trans k)
  obtain ⟨fs, hr, hrun, hended, hW, hsame⟩ := X30.leave (v := some (.ref b7)) (fun h => by rw [Bd.returns] at h; cases h)
  have fin : Steps p.tables e below S0 (T30.setFrames fs) := P41 _ (by
    jvm_step X30.here [X30.here.top, hx, (hb hby d17_25), X30.method', Bd.returns, Value.isRef, FieldType.isReference]
    first | (intro acts; rw [hr _ acts rfl rfl rfl]) | rw [hr _ _ rfl rfl rfl]
    exact Steps.refl _)
  rw [hS0] at fin
  refine ⟨_, _, fin, hrun, hended, _, _, rfl, ?_, ⟨_, rfl⟩, hW, hsame.mono (by decide) (by decide)⟩
  show own_QSc Z 1 [(nar .byte (p1.toInt8.toInt32))] h0 n0 _ T30.heap _
  exact ⟨_, rfl, N30n, K40, _, _, Eq30, Fc30, Fv30, F38⟩
theorem d17_26 : decode jdk_42_method_139_code 26 = .ok (.new 10, 3) := by decide +kernel
theorem d17_29 : decode jdk_42_method_139_code 29 = .ok (.dup, 1) := by decide +kernel
theorem d17_30 : decode jdk_42_method_139_code 30 = .ok (.iload_n 0, 1) := by decide +kernel
theorem d17_31 : decode jdk_42_method_139_code 31 = .ok (.invokestatic 1021, 3) := by decide +kernel
theorem d17_34 : decode jdk_42_method_139_code 34 = .ok (.iconst 1, 1) := by decide +kernel
theorem d17_35 : decode jdk_42_method_139_code 35 = .ok (.invokespecial 209, 3) := by decide +kernel
theorem d17_38 : decode jdk_42_method_139_code 38 = .ok (.areturn, 1) := by decide +kernel
theorem ef_17_u (m : MethodId) (p1 : Int32) : entryFrame m #[(.int p1)] 1 = mkF m 0 #[.val (.int p1)] [] := by first | (simp [entryFrame, mkF, argsToLocals, Value.category]; done) | rfl
set_option maxRecDepth 65536 in
set_option maxHeartbeats 40000000 in
theorem rm17_u (l : Launch) (Z : State) (a0 : Array Value) (hw : ∀ d ∈ tables_1, d.before a0 Z = true) (ws : List Jvm.Cond) (p1 : Int32) (cs : Int32) (h0 : Heap) (n0 : Nat) (Z0 : n0 ≤ h0.size) (CS : Sta Z h0 "java/lang/String" "COMPACT_STRINGS" "Z" (.int cs)) (hcs : ¬ cs = (0 : Int32)) (AD : Sta Z h0 "java/lang/StringUTF16" "$assertionsDisabled" "Z" (.int (1 : Int32))) (HB : Sta Z h0 "java/lang/StringUTF16" "HI_BYTE_SHIFT" "I" (.int (0 : Int32))) (LB : Sta Z h0 "java/lang/StringUTF16" "LO_BYTE_SHIFT" "I" (.int (8 : Int32))) (hv : (255 : Int32) < p1) :
    MetFree l (⟨"java/lang/String", "valueOf", "(C)Ljava/lang/String;"⟩ : MethodName) (head1 (Jvm.Cond.code (⟨"java/lang/String", "valueOf", "(C)Ljava/lang/String;"⟩ : MethodName) jdk_42_method_139_code 1 (some (.object "java/lang/String")) :: ws) ({ frames := 2, cells := 2, slots := 6, locals := 29 } : Room)) (fun a U => a = #[(.int p1)] ∧ Z.Warmed39 U.vm ∧ U.heap = h0) (fun _ _ _ _ _ => True) (fun _ U o U' => ∃ v L, o = .returned v ∧ own_QSu Z 2 [(nar .byte ((p1 >>> ((0 : Int32) &&& 31)).toInt8.toInt32)), (nar .byte ((p1 >>> ((8 : Int32) &&& 31)).toInt8.toInt32))] h0 n0 v U'.heap L ∧ FrameEnd U o U' L ({ frames := 2, cells := 2, slots := 6, locals := 29 } : Room).cells ({ frames := 2, cells := 2, slots := 6, locals := 29 } : Room).slots) := by
  refine MetFree.of_bodySF (plainFor_of_name pn_7) hisR ?_
  intro p e s m args below meth c s₁ Bd hml0 hP hK
  obtain ⟨rfl, hZ, hh⟩ := hP
  have hx := Bd.exec
  have hby := Bd.bytes
  have hml : c.maxLocals = 1 := hml0
  have hown : s.vm.findClass "java/lang/String" = some m.cls := findClass_of_methodNamed Bd.named
  have hnm := (name_of_methodNamed Bd.named Bd.method).1
  have X0 : Stand p l e ({ frames := 2, cells := 2, slots := 6, locals := 29 } : Room) s m #[(.int p1)] below meth c s₁ [] 0 0 := Stand.of_body Bd
  have e0 : s₁.heap = h0 := by rw [← hh, Bd.state]; rfl
  have N0 := Fr.nil n0
  obtain ⟨S0, hS0⟩ : ∃ z, z = s₁.setTop (entryFrame m #[(.int p1)] 1) := ⟨_, rfl⟩
  have P0 : own_Pr p.tables e below S0 s₁ (mkF m 0 #[.val (.int p1)] []) := fun t k => hS0 ▸ castTop (ef_17_u m p1) k
  have K0 := Keep.refl h0 []
  obtain ⟨T1, X1, e1, st1⟩ := getS2 X0 hx hZ hown (host := "") (Or.inl (hw _ (List.mem_of_getElem? (i := 40) rfl))) Via.refl e0 CS (g := (mkF m 0 #[.val (.int p1)] [])) rfl (hb hby d17_0)
  have P2 : own_Pr p.tables e below S0 T1 (mkF m 3 #[.val (.int p1)] [(.int cs)]) := fun t k => P0 t (st1 _ k)
  have P3 : own_Pr p.tables e below S0 T1 (mkF m 7 #[.val (.int p1)] [(.int p1)]) := fun t k => P2 t (by
    refine XS.ifNo X1.here hx rfl (hb hby d17_3) rfl (XT.i0_eq_f hcs) ?_
    show Steps p.tables e below (T1.setTop (mkF m 6 #[.val (.int p1)] [])) _
    refine XS.iloadN X1.here hx rfl (hb hby d17_6) rfl ?_
    show Steps p.tables e below (T1.setTop (mkF m 7 #[.val (.int p1)] [(.int p1)])) _
    exact k)
  obtain ⟨_, _, ⟨T4, L4, k4, n4⟩, -, X4, ⟨Lc4, hQ4, l4, y4, z4⟩, st4⟩ := Jvm.LawKit.callS X1 hx (y := (⟨"java/lang/StringLatin1", "canEncode", "(C)Z"⟩ : MethodName)) hown (mvT hZ (hw _ (List.mem_of_getElem? (i := 75) rfl))) (mvT hZ (hw _ (List.mem_of_getElem? (i := 76) rfl))) (mvT hZ (hw _ (List.mem_of_getElem? (i := 77) rfl))) (mvT hZ (hw _ (List.mem_of_getElem? (i := 78) rfl))) (by decide) (backOf (W := 0) (rm18 l Z a0 hw [] p1  h0 n0 Z0 ) hZ (hw _ (List.mem_of_getElem? (i := 78) rfl)) (hw _ (List.mem_of_getElem? (i := 77) rfl)) (by decide) (by decide)) (g := (mkF m 7 #[.val (.int p1)] [(.int p1)])) rfl (by rw [hml]; rfl) (argsL := [(.int p1)]) (rest := []) (lenOf pd_11 rfl) rfl (by show 2 * 0 + _ ≤ _; exact Nat.le_of_eq rfl) (hb hby d17_7) (fun _ _ => ⟨rfl, e1, (by decide : 0 + 0 ≤ _), (by decide : 0 + 0 ≤ _)⟩)
  dsimp only [Pt.U, Pt.locs, Pt.cells, Pt.slots] at X4 l4 y4 z4 st4 hQ4
  subst l4 y4 z4
  obtain ⟨z4v, rfl, hz4v, Nq4, eq4⟩ := hQ4
  have N4n := Fr.app N0 Nq4
  have P5 : own_Pr p.tables e below S0 T4 (mkF m 10 #[.val (.int p1)] [(.int z4v)]) := fun t k => P3 t (st4 _ k)
  have P6 : own_Pr p.tables e below S0 T4 (mkF m 26 #[.val (.int p1)] []) := fun t k => P5 t (by
    refine XS.ifYes X4.here hx rfl (pc0 := 10) (pc' := 26) rfl (hb hby d17_10) rfl (XT.i0_eq_t (by rw [hz4v]; unfold own_f18; rw [if_pos hv])) (by decide) (by decide) ?_
    show Steps p.tables e below (T4.setTop (mkF m 26 #[.val (.int p1)] [])) _
    exact k)
  obtain ⟨T7, h7, X7, e7, E7, A7, D7, -, st7⟩ := newO X4 hx hZ hown (hw _ (List.mem_of_getElem? (i := 79) rfl)) (hw _ (List.mem_of_getElem? (i := 5) rfl)) (hw _ (List.mem_of_getElem? (i := 6) rfl)) eq4 (g := (mkF m 26 #[.val (.int p1)] [])) rfl (hb hby d17_26) (by decide) (by decide)
  obtain ⟨b7, g7⟩ : ∃ z, z = h0.size := ⟨_, rfl⟩
  rw [← g7] at A7 D7 st7
  have g_b7 : n0 ≤ b7 := Nat.le_trans Z0 (Nat.le_of_eq g7.symm)
  have sz_b7 : h0.size ≤ b7 := Nat.le_trans K0.1 (Nat.le_of_eq g7.symm)
  have F8 := CS.ext E7
  have F9 := AD.ext E7
  have F10 := HB.ext E7
  have F11 := LB.ext E7
  have Z12 : n0 ≤ h7.size := Nat.le_trans Z0 E7.1
  have K13 := K0.ext E7
  have F14 : Fld Z h7 b7 "java/lang/String" "value" "[B" .null := D7 (Or.inr (hw _ (List.mem_of_getElem? (i := 20) rfl))) (ty := (.array .byte)) (by decide)
  have F15 : Fld Z h7 b7 "java/lang/String" "coder" "B" (.int (0 : Int32)) := D7 (Or.inr (hw _ (List.mem_of_getElem? (i := 21) rfl))) (ty := .byte) (by decide)
  have P16 : own_Pr p.tables e below S0 T7 (mkF m 29 #[.val (.int p1)] [(.ref b7)]) := fun t k => P6 t (st7 _ k)
  have P17 : own_Pr p.tables e below S0 T7 (mkF m 31 #[.val (.int p1)] [(.int p1), (.ref b7), (.ref b7)]) := fun t k => P16 t (by
    refine XS.dup X7.here hx rfl (hb hby d17_29) rfl rfl ?_
    show Steps p.tables e below (T7.setTop (mkF m 30 #[.val (.int p1)] [(.ref b7), (.ref b7)])) _
    refine XS.iloadN X7.here hx rfl (hb hby d17_30) rfl ?_
    show Steps p.tables e below (T7.setTop (mkF m 31 #[.val (.int p1)] [(.int p1), (.ref b7), (.ref b7)])) _
    exact k)
  obtain ⟨_, _, ⟨T18, L18, k18, n18⟩, -, X18, ⟨Lc18, hQ18, l18, y18, z18⟩, st18⟩ := Jvm.LawKit.callS X7 hx (y := (⟨"java/lang/StringUTF16", "toBytes", "(C)[B"⟩ : MethodName)) hown (mvT hZ (hw _ (List.mem_of_getElem? (i := 80) rfl))) (mvT hZ (hw _ (List.mem_of_getElem? (i := 81) rfl))) (mvT hZ (hw _ (List.mem_of_getElem? (i := 62) rfl))) (mvT hZ (hw _ (List.mem_of_getElem? (i := 82) rfl))) (by decide) (backOf (W := 2) (rm19 l Z a0 hw [] p1 h7 n0 Z12 F9 F10 F11) hZ (hw _ (List.mem_of_getElem? (i := 82) rfl)) (hw _ (List.mem_of_getElem? (i := 62) rfl)) (by decide) (by decide)) (g := (mkF m 31 #[.val (.int p1)] [(.int p1), (.ref b7), (.ref b7)])) rfl (by rw [hml]; rfl) (argsL := [(.int p1)]) (rest := [(.ref b7), (.ref b7)]) (lenOf pd_12 rfl) rfl (by show 2 * 0 + _ ≤ _; exact Nat.le_of_eq rfl) (hb hby d17_31) (fun _ _ => ⟨rfl, e7, (by decide : 1 + 1 ≤ _), (by decide : 4 + 2 ≤ _)⟩)
  dsimp only [Pt.U, Pt.locs, Pt.cells, Pt.slots] at X18 l18 y18 z18 st18 hQ18
  subst l18 y18 z18
  obtain ⟨b18, kk18, rfl, Nq18, Kq18, sz18, Vq18⟩ := hQ18
  have N18n := Fr.app N4n Nq18
  have ne_b7_b18 : b7 ≠ b18 := Nat.ne_of_lt (Nat.lt_of_lt_of_le A7.lt sz18)
  have g_b18 : n0 ≤ b18 := Nat.le_trans Z12 sz18
  have sz_b18 : h0.size ≤ b18 := Nat.le_trans K13.1 sz18
  have F19 := own_sta_keep0 F8 Kq18
  have F20 := own_sta_keep0 F9 Kq18
  have F21 := own_sta_keep0 F10 Kq18
  have F22 := own_sta_keep0 F11 Kq18
  have F23 := A7.keep Kq18
  have F24 := F14.keep Kq18 nin0
  have F25 := F15.keep Kq18 nin0
  have Z26 := Nat.le_trans Z12 Kq18.1
  have K27 := K13.trans Kq18 all0
  have P28 : own_Pr p.tables e below S0 T18 (mkF m 34 #[.val (.int p1)] [(.ref b18), (.ref b7), (.ref b7)]) := fun t k => P17 t (st18 _ k)
  have P29 : own_Pr p.tables e below S0 T18 (mkF m 35 #[.val (.int p1)] [(.int (1 : Int32)), (.ref b18), (.ref b7), (.ref b7)]) := fun t k => P28 t (by
    refine XS.iconst X18.here hx rfl (hb hby d17_34) ?_
    show Steps p.tables e below (T18.setTop (mkF m 35 #[.val (.int p1)] [(.int (1 : Int32)), (.ref b18), (.ref b7), (.ref b7)])) _
    exact k)
  obtain ⟨_, _, ⟨T30, L30, k30, n30⟩, -, X30, ⟨Lc30, hQ30, l30, y30, z30⟩, st30⟩ := X18.specialBack hx (y := (⟨"java/lang/String", "<init>", "([BB)V"⟩ : MethodName)) rfl hown (mvT hZ (hw _ (List.mem_of_getElem? (i := 89) rfl))) (mvT hZ (hw _ (List.mem_of_getElem? (i := 90) rfl))) (mvT hZ (hw _ (List.mem_of_getElem? (i := 91) rfl))) (by decide) (backOf (W := 1) (rm21_u l Z a0 hw [] b7 b18 T18.heap n0 Z26 F23 F25 F24 g_b7) hZ (hw _ (List.mem_of_getElem? (i := 91) rfl)) (hw _ (List.mem_of_getElem? (i := 6) rfl)) (by decide) (by decide)) (g := (mkF m 35 #[.val (.int p1)] [(.int (1 : Int32)), (.ref b18), (.ref b7), (.ref b7)])) rfl (by rw [hml]; rfl) (Steps.refl _) (a := b7) (argsL := [(.ref b18), (.int (1 : Int32))]) (rest := [(.ref b7)]) (lenOf pd_13 rfl) rfl (by show 2 * 0 + _ ≤ _; exact Nat.le_of_eq rfl) (hb hby d17_35) (fun _ _ => ⟨rfl, rfl, (by decide : 2 + 0 ≤ _), (by decide : 6 + 0 ≤ _)⟩)
  dsimp only [Pt.U, Pt.locs, Pt.cells, Pt.slots] at X30 l30 y30 z30 st30 hQ30
  subst l30 y30 z30
  obtain ⟨rfl, Nq30, Kq30, Eq30, Fc30, Fv30⟩ := hQ30
  have N30n := Fr.app N18n Nq30
  have F31 := own_sta_keep F19 Kq30 F23
  have F32 := own_sta_keep F20 Kq30 F23
  have F33 := own_sta_keep F21 Kq30 F23
  have F34 := own_sta_keep F22 Kq30 F23
  have F35 := F23.keep Kq30
  have F38 := Vq18.keep Kq30 (ninS (Ne.symm ne_b7_b18) nin0)
  have Z39 := Nat.le_trans Z26 Kq30.1
  have K40 := K27.trans Kq30 (allS (Or.inr sz_b7) all0)
  have P41 : own_Pr p.tables e below S0 T30 (mkF m 38 #[.val (.int p1)] [(.ref b7)]) := fun t k => P29 t (st30.trans k)
  obtain ⟨fs, hr, hrun, hended, hW, hsame⟩ := X30.leave (v := some (.ref b7)) (fun h => by rw [Bd.returns] at h; cases h)
  have fin : Steps p.tables e below S0 (T30.setFrames fs) := P41 _ (by
    jvm_step X30.here [X30.here.top, hx, (hb hby d17_38), X30.method', Bd.returns, Value.isRef, FieldType.isReference]
    first | (intro acts; rw [hr _ acts rfl rfl rfl]) | rw [hr _ _ rfl rfl rfl]
    exact Steps.refl _)
  rw [hS0] at fin
  refine ⟨_, _, fin, hrun, hended, _, _, rfl, ?_, ⟨_, rfl⟩, hW, hsame.mono (by decide) (by decide)⟩
  show own_QSu Z 2 [(nar .byte ((p1 >>> ((0 : Int32) &&& 31)).toInt8.toInt32)), (nar .byte ((p1 >>> ((8 : Int32) &&& 31)).toInt8.toInt32))] h0 n0 _ T30.heap _
  exact ⟨_, rfl, N30n, K40, _, _, Eq30, Fc30, Fv30, F38⟩
theorem own_3way (a b : Int32) : ((255 : Int32) < a ∨ (¬ (255 : Int32) < a ∧ (255 : Int32) < b)) ∨ (¬ (255 : Int32) < a ∧ ¬ (255 : Int32) < b) := by
  by_cases h1 : (255 : Int32) < a
  · exact Or.inl (Or.inl h1)
  · by_cases h2 : (255 : Int32) < b
    · exact Or.inl (Or.inr ⟨h1, h2⟩)
    · exact Or.inr ⟨h1, h2⟩
theorem d1_0 : decode method_3_code 0 = .ok (.iload_n 0, 1) := by decide +kernel
theorem d1_1 : decode method_3_code 1 = .ok (.ifCond .ne 14, 3) := by decide +kernel
theorem d1_4 : decode method_3_code 4 = .ok (.new 36, 3) := by decide +kernel
theorem d1_7 : decode method_3_code 7 = .ok (.dup, 1) := by decide +kernel
theorem d1_8 : decode method_3_code 8 = .ok (.iconst 0, 1) := by decide +kernel
theorem d1_9 : decode method_3_code 9 = .ok (.newarray .char, 2) := by decide +kernel
theorem d1_11 : decode method_3_code 11 = .ok (.invokespecial 38, 3) := by decide +kernel
theorem d1_14 : decode method_3_code 14 = .ok (.areturn, 1) := by decide +kernel
theorem d1_15 : decode method_3_code 15 = .ok (.iload_n 0, 1) := by decide +kernel
theorem d1_16 : decode method_3_code 16 = .ok (.iconst 1, 1) := by decide +kernel
theorem d1_17 : decode method_3_code 17 = .ok (.if_icmp .ne 8, 3) := by decide +kernel
theorem d1_20 : decode method_3_code 20 = .ok (.iload_n 1, 1) := by decide +kernel
theorem d1_21 : decode method_3_code 21 = .ok (.invokestatic 41, 3) := by decide +kernel
theorem d1_24 : decode method_3_code 24 = .ok (.areturn, 1) := by decide +kernel
theorem d1_25 : decode method_3_code 25 = .ok (.iconst 2, 1) := by decide +kernel
theorem d1_26 : decode method_3_code 26 = .ok (.newarray .char, 2) := by decide +kernel
theorem d1_28 : decode method_3_code 28 = .ok (.astore_n 3, 1) := by decide +kernel
theorem d1_29 : decode method_3_code 29 = .ok (.aload_n 3, 1) := by decide +kernel
theorem d1_30 : decode method_3_code 30 = .ok (.iconst 0, 1) := by decide +kernel
theorem d1_31 : decode method_3_code 31 = .ok (.iload_n 1, 1) := by decide +kernel
theorem d1_32 : decode method_3_code 32 = .ok (.castore, 1) := by decide +kernel
theorem d1_33 : decode method_3_code 33 = .ok (.aload_n 3, 1) := by decide +kernel
theorem d1_34 : decode method_3_code 34 = .ok (.iconst 1, 1) := by decide +kernel
theorem d1_35 : decode method_3_code 35 = .ok (.iload_n 2, 1) := by decide +kernel
theorem d1_36 : decode method_3_code 36 = .ok (.castore, 1) := by decide +kernel
theorem d1_37 : decode method_3_code 37 = .ok (.new 36, 3) := by decide +kernel
theorem d1_40 : decode method_3_code 40 = .ok (.dup, 1) := by decide +kernel
theorem d1_41 : decode method_3_code 41 = .ok (.aload_n 3, 1) := by decide +kernel
theorem d1_42 : decode method_3_code 42 = .ok (.invokespecial 38, 3) := by decide +kernel
theorem d1_45 : decode method_3_code 45 = .ok (.areturn, 1) := by decide +kernel
theorem pd_14 : parseMethodDescriptor "([C)V" = some ⟨[(.array .char)], none⟩ := by decide +kernel
theorem pd_15 : parseMethodDescriptor "(C)Ljava/lang/String;" = some ⟨[.char], some (.object "java/lang/String")⟩ := by decide +kernel
theorem ef_1 (m : MethodId) (p1 : Int32) (p2 : Int32) (p3 : Int32) : entryFrame m #[(.int p1), (.int p2), (.int p3)] 4 = mkF m 0 #[.val (.int p1), .val (.int p2), .val (.int p3), .unset] [] := by first | (simp [entryFrame, mkF, argsToLocals, Value.category]; done) | rfl
set_option maxRecDepth 65536 in
set_option maxHeartbeats 40000000 in
theorem rm1 (l : Launch) (Z : State) (a0 : Array Value) (hw : ∀ d ∈ tables_1, d.before a0 Z = true) (ws : List Jvm.Cond) (p1 : Int32) (p2 : Int32) (p3 : Int32) (cs : Int32) (h0 : Heap) (n0 : Nat) (Z0 : n0 ≤ h0.size) (CS : Sta Z h0 "java/lang/String" "COMPACT_STRINGS" "Z" (.int cs)) (hcs : ¬ cs = (0 : Int32)) (AD : Sta Z h0 "java/lang/StringUTF16" "$assertionsDisabled" "Z" (.int (1 : Int32))) (HB : Sta Z h0 "java/lang/StringUTF16" "HI_BYTE_SHIFT" "I" (.int (0 : Int32))) (LB : Sta Z h0 "java/lang/StringUTF16" "LO_BYTE_SHIFT" "I" (.int (8 : Int32))) (hp : p1 = 0 ∨ p1 = 1 ∨ p1 = 2) (hc2 : own_ch p2) (hc3 : own_ch p3) :
    MetFree l (⟨"com/example/mathir_tools/mathirtools/formats/text/Utf8OrderComparePinLaw", "make", "(ICC)Ljava/lang/String;"⟩ : MethodName) (head1 (Jvm.Cond.code (⟨"com/example/mathir_tools/mathirtools/formats/text/Utf8OrderComparePinLaw", "make", "(ICC)Ljava/lang/String;"⟩ : MethodName) method_3_code 4 (some (.object "java/lang/String")) :: ws) ({ frames := 6, cells := 6, slots := 12, locals := 88 } : Room)) (fun a U => a = #[(.int p1), (.int p2), (.int p3)] ∧ Z.Warmed39 U.vm ∧ U.heap = h0 ∧ CHv Z consts_1 U.vm h0) (fun _ _ _ _ _ => True) (fun _ U o U' => ∃ v L, o = .returned v ∧ own_QM Z p1 p2 p3 h0 n0 v U'.heap L ∧ CHr Z consts_1 U.vm U.heap U'.vm U'.heap ∧ ReturnedEndW U o U' L ({ frames := 6, cells := 6, slots := 12, locals := 88 } : Room).cells ({ frames := 6, cells := 6, slots := 12, locals := 88 } : Room).slots) := by
  refine MetFree.of_bodySF (plainFor_of_name pn_9) hisR ?_
  intro p e s m args below meth c s₁ Bd hml0 hP hK
  obtain ⟨rfl, hZ, hh, hCH⟩ := hP
  have hx := Bd.exec
  have hby := Bd.bytes
  have hml : c.maxLocals = 4 := hml0
  have hown : s.vm.findClass "com/example/mathir_tools/mathirtools/formats/text/Utf8OrderComparePinLaw" = some m.cls := findClass_of_methodNamed Bd.named
  have hnm := (name_of_methodNamed Bd.named Bd.method).1
  have X0 : Stand p l e ({ frames := 6, cells := 6, slots := 12, locals := 88 } : Room) (s.setVm s.vm) m #[(.int p1), (.int p2), (.int p3)] below meth c s₁ [] 0 0 := Stand.of_body Bd
  have e0 : s₁.heap = h0 := by rw [← hh, Bd.state]; rfl
  have N0 := Fr.nil n0
  obtain ⟨S0, hS0⟩ : ∃ z, z = s₁.setTop (entryFrame m #[(.int p1), (.int p2), (.int p3)] 4) := ⟨_, rfl⟩
  have P0 : own_Pr p.tables e below S0 s₁ (mkF m 0 #[.val (.int p1), .val (.int p2), .val (.int p3), .unset] []) := fun t k => hS0 ▸ castTop (ef_1 m p1 p2 p3) k
  have hSn : s.Since s.vm 0 := (State.WarmedH.refl s).since 0
  have kS0 : 0 ≤ h0.size := Nat.zero_le _
  have CR0 := CHr.refl hCH
  have K0 := Keep.refl h0 []
  have P1 : own_Pr p.tables e below S0 s₁ (mkF m 1 #[.val (.int p1), .val (.int p2), .val (.int p3), .unset] [(.int p1)]) := fun t k => P0 t (by
    refine XS.iloadN X0.here hx rfl (hb hby d1_0) rfl ?_
    show Steps p.tables e below (s₁.setTop (mkF m 1 #[.val (.int p1), .val (.int p2), .val (.int p3), .unset] [(.int p1)])) _
    exact k)
  by_cases hc1_2 : p1 = (0 : Int32)
  · have P3 : own_Pr p.tables e below S0 s₁ (mkF m 4 #[.val (.int p1), .val (.int p2), .val (.int p3), .unset] []) := fun t k => P1 t (by
      refine XS.ifNo X0.here hx rfl (hb hby d1_1) rfl (XT.i0_ne_f hc1_2) ?_
      show Steps p.tables e below (s₁.setTop (mkF m 4 #[.val (.int p1), .val (.int p2), .val (.int p3), .unset] [])) _
      exact k)
    obtain ⟨T4, h4, X4, e4, E4, A4, D4, -, st4⟩ := newO X0 hx hZ hown (hw _ (List.mem_of_getElem? (i := 4) rfl)) (hw _ (List.mem_of_getElem? (i := 5) rfl)) (hw _ (List.mem_of_getElem? (i := 6) rfl)) e0 (g := (mkF m 4 #[.val (.int p1), .val (.int p2), .val (.int p3), .unset] [])) rfl (hb hby d1_4) (by decide) (by decide)
    obtain ⟨b4, g4⟩ : ∃ z, z = h0.size := ⟨_, rfl⟩
    rw [← g4] at A4 D4 st4
    have g_b4 : n0 ≤ b4 := Nat.le_trans Z0 (Nat.le_of_eq g4.symm)
    have sz_b4 : h0.size ≤ b4 := Nat.le_trans K0.1 (Nat.le_of_eq g4.symm)
    have F5 := CS.ext E4
    have F6 := AD.ext E4
    have F7 := HB.ext E4
    have F8 := LB.ext E4
    have Z9 : n0 ≤ h4.size := Nat.le_trans Z0 E4.1
    have K10 := K0.ext E4
    have CR11 := CR0.trans (CHr.ext E4 CR0.1)
    have kS12 := Nat.le_trans kS0 E4.1
    have F13 : Fld Z h4 b4 "java/lang/String" "value" "[B" .null := D4 (Or.inr (hw _ (List.mem_of_getElem? (i := 20) rfl))) (ty := (.array .byte)) (by decide)
    have F14 : Fld Z h4 b4 "java/lang/String" "coder" "B" (.int (0 : Int32)) := D4 (Or.inr (hw _ (List.mem_of_getElem? (i := 21) rfl))) (ty := .byte) (by decide)
    have P15 : own_Pr p.tables e below S0 T4 (mkF m 7 #[.val (.int p1), .val (.int p2), .val (.int p3), .unset] [(.ref b4)]) := fun t k => P3 t (st4 _ k)
    have P16 : own_Pr p.tables e below S0 T4 (mkF m 9 #[.val (.int p1), .val (.int p2), .val (.int p3), .unset] [(.int (0 : Int32)), (.ref b4), (.ref b4)]) := fun t k => P15 t (by
      refine XS.dup X4.here hx rfl (hb hby d1_7) rfl rfl ?_
      show Steps p.tables e below (T4.setTop (mkF m 8 #[.val (.int p1), .val (.int p2), .val (.int p3), .unset] [(.ref b4), (.ref b4)])) _
      refine XS.iconst X4.here hx rfl (hb hby d1_8) ?_
      show Steps p.tables e below (T4.setTop (mkF m 9 #[.val (.int p1), .val (.int p2), .val (.int p3), .unset] [(.int (0 : Int32)), (.ref b4), (.ref b4)])) _
      exact k)
    obtain ⟨T17, h17, k17, X17, e17, E17, A17, st17⟩ := newP X4 hx hZ (hw _ (List.mem_of_getElem? (i := 7) rfl)) e4 (g := (mkF m 9 #[.val (.int p1), .val (.int p2), .val (.int p3), .unset] [(.int (0 : Int32)), (.ref b4), (.ref b4)])) rfl (hb hby d1_9) rfl (by decide) (cap := 0) (by decide) (by decide) (by decide) (by decide)
    obtain ⟨b17, g17⟩ : ∃ z, z = h4.size := ⟨_, rfl⟩
    rw [← g17] at A17 st17
    have g_b17 : n0 ≤ b17 := Nat.le_trans Z9 (Nat.le_of_eq g17.symm)
    have sz_b17 : h0.size ≤ b17 := Nat.le_trans K10.1 (Nat.le_of_eq g17.symm)
    have ne_b4_b17 : b4 ≠ b17 := Nat.ne_of_lt (Nat.lt_of_lt_of_le A4.lt (Nat.le_of_eq g17.symm))
    have F18 := F5.ext E17
    have F19 := F6.ext E17
    have F20 := F7.ext E17
    have F21 := F8.ext E17
    have F22 := A4.ext E17
    have F23 := F13.ext E17
    have F24 := F14.ext E17
    have Z25 : n0 ≤ h17.size := Nat.le_trans Z9 E17.1
    have K26 := K10.ext E17
    have CR27 := CR11.trans (CHr.ext E17 CR11.1)
    have kS28 := Nat.le_trans kS12 E17.1
    have F29 : Arv Z h17 b17 k17 .char (0 : Int32) [] (.int (0 : Int32)) := (Arv.new A17 (by decide)).pad (pad_rep [] (.int (0 : Int32)) 0)
    have P30 : own_Pr p.tables e below S0 T17 (mkF m 11 #[.val (.int p1), .val (.int p2), .val (.int p3), .unset] [(.ref b17), (.ref b4), (.ref b4)]) := fun t k => P16 t (st17 _ k)
    obtain ⟨_, _, ⟨T31, L31, k31, n31⟩, -, X31, hSq31, gq31, ⟨Lc31, hQ31, l31, y31, z31, CRq31⟩, st31⟩ := X17.specialBackS hx (y := (⟨"java/lang/String", "<init>", "([C)V"⟩ : MethodName)) rfl hown (mvT hZ (hw _ (List.mem_of_getElem? (i := 8) rfl))) (mvT hZ (hw _ (List.mem_of_getElem? (i := 9) rfl))) (mvT hZ (hw _ (List.mem_of_getElem? (i := 10) rfl))) (by decide) (backOfSH (W := 1) (rm2_e l Z a0 hw [] b4 b17 k17 h17 n0 Z25 F22 F24 F23 g_b4 F29) hZ (hw _ (List.mem_of_getElem? (i := 10) rfl)) (hw _ (List.mem_of_getElem? (i := 6) rfl)) (by decide) (by decide) (own_EW hw) CR27.1) (g := (mkF m 11 #[.val (.int p1), .val (.int p2), .val (.int p3), .unset] [(.ref b17), (.ref b4), (.ref b4)])) rfl (by rw [hml]; rfl) (Steps.refl _) (a := b4) (argsL := [(.ref b17)]) (rest := [(.ref b4)]) (lenOf pd_14 rfl) rfl (by show 2 * 0 + _ ≤ _; exact Nat.le_of_eq rfl) (hb hby d1_11) (fun _ _ => ⟨rfl, e17, (by decide : 2 + 4 ≤ _), (by decide : 4 + 8 ≤ _)⟩)
    dsimp only [Pt.U, Pt.locs, Pt.cells, Pt.slots] at X31 l31 y31 z31 st31 hQ31 hSq31 gq31 CRq31
    subst l31 y31 z31
    obtain ⟨X31, hSn, hZ, hown⟩ := rebS hSn (by rw [e17]; exact kS28) X31 hSq31 gq31 hZ hown
    have kS31 := Nat.le_refl T31.heap.size
    have CR31q := CR27.trans CRq31
    obtain ⟨rfl, Nq31, Kq31, bq31, kk31, Eq31, Fc31, Fv31, Av31⟩ := hQ31
    have N31n := Fr.app N0 Nq31
    have F32 := own_sta_keep F18 Kq31 F22
    have F33 := own_sta_keep F19 Kq31 F22
    have F34 := own_sta_keep F20 Kq31 F22
    have F35 := own_sta_keep F21 Kq31 F22
    have F36 := F22.keep Kq31
    have F39 := F29.keep Kq31 (ninS (Ne.symm ne_b4_b17) nin0)
    have Z40 := Nat.le_trans Z25 Kq31.1
    have K41 := K26.trans Kq31 (allS (Or.inr sz_b4) all0)
    have P42 : own_Pr p.tables e below S0 T31 (mkF m 14 #[.val (.int p1), .val (.int p2), .val (.int p3), .unset] [(.ref b4)]) := fun t k => P30 t (st31.trans k)
    obtain ⟨fs, hr, hrun, hended, hend⟩ := X31.leaveW hSn kS31 (v := some (.ref b4)) (fun h => by rw [Bd.returns] at h; cases h)
    have fin : Steps p.tables e below S0 (T31.setFrames fs) := P42 _ (by
      jvm_step X31.here [X31.here.top, hx, (hb hby d1_14), X31.method', Bd.returns, Value.isRef, FieldType.isReference]
      first | (intro acts; rw [hr _ acts rfl rfl rfl]) | rw [hr _ _ rfl rfl rfl]
      exact Steps.refl _)
    rw [hS0] at fin
    refine ⟨_, _, fin, hrun, hended, _, _, rfl, ?_, (show CHr Z consts_1 s.vm s.heap T31.vm T31.heap by rw [hh]; exact CR31q.trans (CHv.at X31 hZ (own_EW hw) CR31q.1)), hend.1, hend.2.1, hend.2.2.1, hend.2.2.2.mono (by decide) (by decide)⟩
    show own_QM Z p1 p2 p3 h0 n0 _ T31.heap _
    exact ⟨_, rfl, N31n, K41, Or.inl ⟨hc1_2, ⟨_, _, Eq31, Fc31, Fv31, Av31⟩⟩⟩
  · have P43 : own_Pr p.tables e below S0 s₁ (mkF m 17 #[.val (.int p1), .val (.int p2), .val (.int p3), .unset] [(.int (1 : Int32)), (.int p1)]) := fun t k => P1 t (by
      refine XS.ifYes X0.here hx rfl (pc0 := 1) (pc' := 15) rfl (hb hby d1_1) rfl (XT.i0_ne_t hc1_2) (by decide) (by decide) ?_
      show Steps p.tables e below (s₁.setTop (mkF m 15 #[.val (.int p1), .val (.int p2), .val (.int p3), .unset] [])) _
      refine XS.iloadN X0.here hx rfl (hb hby d1_15) rfl ?_
      show Steps p.tables e below (s₁.setTop (mkF m 16 #[.val (.int p1), .val (.int p2), .val (.int p3), .unset] [(.int p1)])) _
      refine XS.iconst X0.here hx rfl (hb hby d1_16) ?_
      show Steps p.tables e below (s₁.setTop (mkF m 17 #[.val (.int p1), .val (.int p2), .val (.int p3), .unset] [(.int (1 : Int32)), (.int p1)])) _
      exact k)
    by_cases hc17_44 : p1 = (1 : Int32)
    · have P45 : own_Pr p.tables e below S0 s₁ (mkF m 20 #[.val (.int p1), .val (.int p2), .val (.int p3), .unset] []) := fun t k => P43 t (by
        refine XS.icmpNo X0.here hx rfl (hb hby d1_17) rfl (XT.ii_ne_f hc17_44) ?_
        show Steps p.tables e below (s₁.setTop (mkF m 20 #[.val (.int p1), .val (.int p2), .val (.int p3), .unset] [])) _
        exact k)
      by_cases hv : (255 : Int32) < p2
      · have _u := hv
        have P46 : own_Pr p.tables e below S0 s₁ (mkF m 21 #[.val (.int p1), .val (.int p2), .val (.int p3), .unset] [(.int p2)]) := fun t k => P45 t (by
          refine XS.iloadN X0.here hx rfl (hb hby d1_20) rfl ?_
          show Steps p.tables e below (s₁.setTop (mkF m 21 #[.val (.int p1), .val (.int p2), .val (.int p3), .unset] [(.int p2)])) _
          exact k)
        obtain ⟨_, _, ⟨T47, L47, k47, n47⟩, -, X47, ⟨Lc47, hQ47, l47, y47, z47⟩, st47⟩ := Jvm.LawKit.callS X0 hx (y := (⟨"java/lang/String", "valueOf", "(C)Ljava/lang/String;"⟩ : MethodName)) hown (mvT hZ (hw _ (List.mem_of_getElem? (i := 72) rfl))) (mvT hZ (hw _ (List.mem_of_getElem? (i := 73) rfl))) (mvT hZ (hw _ (List.mem_of_getElem? (i := 6) rfl))) (mvT hZ (hw _ (List.mem_of_getElem? (i := 74) rfl))) (by decide) (backOf (W := 0) (rm17_u l Z a0 hw [] p2 cs h0 n0 Z0 CS hcs AD HB LB hv) hZ (hw _ (List.mem_of_getElem? (i := 74) rfl)) (hw _ (List.mem_of_getElem? (i := 6) rfl)) (by decide) (by decide)) (g := (mkF m 21 #[.val (.int p1), .val (.int p2), .val (.int p3), .unset] [(.int p2)])) rfl (by rw [hml]; rfl) (argsL := [(.int p2)]) (rest := []) (lenOf pd_15 rfl) rfl (by show 2 * 0 + _ ≤ _; exact Nat.le_of_eq rfl) (hb hby d1_21) (fun _ _ => ⟨rfl, e0, (by decide : 0 + 2 ≤ _), (by decide : 0 + 6 ≤ _)⟩)
        dsimp only [Pt.U, Pt.locs, Pt.cells, Pt.slots] at X47 l47 y47 z47 st47 hQ47
        subst l47 y47 z47
        obtain ⟨s47, rfl, Nq47, Kq47, Sq47⟩ := hQ47
        have N47n := Fr.app N0 Nq47
        have CR48 := CR0.trans (CHr.keep Kq47 sf0 CR0.1)
        have F49 := own_sta_keep0 CS Kq47
        have F50 := own_sta_keep0 AD Kq47
        have F51 := own_sta_keep0 HB Kq47
        have F52 := own_sta_keep0 LB Kq47
        have Z53 := Nat.le_trans Z0 Kq47.1
        have K54 := K0.trans Kq47 all0
        have kS55 := Nat.le_trans kS0 Kq47.1
        have P56 : own_Pr p.tables e below S0 T47 (mkF m 24 #[.val (.int p1), .val (.int p2), .val (.int p3), .unset] [(.ref s47)]) := fun t k => P46 t (st47 _ k)
        obtain ⟨fs, hr, hrun, hended, hend⟩ := X47.leaveW hSn kS55 (v := some (.ref s47)) (fun h => by rw [Bd.returns] at h; cases h)
        have fin : Steps p.tables e below S0 (T47.setFrames fs) := P56 _ (by
          jvm_step X47.here [X47.here.top, hx, (hb hby d1_24), X47.method', Bd.returns, Value.isRef, FieldType.isReference]
          first | (intro acts; rw [hr _ acts rfl rfl rfl]) | rw [hr _ _ rfl rfl rfl]
          exact Steps.refl _)
        rw [hS0] at fin
        refine ⟨_, _, fin, hrun, hended, _, _, rfl, ?_, (show CHr Z consts_1 s.vm s.heap T47.vm T47.heap by rw [hh]; exact CR48.trans (CHv.at X47 hZ (own_EW hw) CR48.1)), hend.1, hend.2.1, hend.2.2.1, hend.2.2.2.mono (by decide) (by decide)⟩
        show own_QM Z p1 p2 p3 h0 n0 _ T47.heap _
        exact ⟨_, rfl, N47n, K54, Or.inr (Or.inr (Or.inl ⟨hc17_44, Sq47⟩))⟩
      · have _u := hv
        have P57 : own_Pr p.tables e below S0 s₁ (mkF m 21 #[.val (.int p1), .val (.int p2), .val (.int p3), .unset] [(.int p2)]) := fun t k => P45 t (by
          refine XS.iloadN X0.here hx rfl (hb hby d1_20) rfl ?_
          show Steps p.tables e below (s₁.setTop (mkF m 21 #[.val (.int p1), .val (.int p2), .val (.int p3), .unset] [(.int p2)])) _
          exact k)
        obtain ⟨_, _, ⟨T58, L58, k58, n58⟩, -, X58, ⟨Lc58, hQ58, l58, y58, z58⟩, st58⟩ := Jvm.LawKit.callS X0 hx (y := (⟨"java/lang/String", "valueOf", "(C)Ljava/lang/String;"⟩ : MethodName)) hown (mvT hZ (hw _ (List.mem_of_getElem? (i := 72) rfl))) (mvT hZ (hw _ (List.mem_of_getElem? (i := 73) rfl))) (mvT hZ (hw _ (List.mem_of_getElem? (i := 6) rfl))) (mvT hZ (hw _ (List.mem_of_getElem? (i := 74) rfl))) (by decide) (backOf (W := 0) (rm17_l l Z a0 hw [] p2 cs h0 n0 Z0 CS hcs AD HB LB hv) hZ (hw _ (List.mem_of_getElem? (i := 74) rfl)) (hw _ (List.mem_of_getElem? (i := 6) rfl)) (by decide) (by decide)) (g := (mkF m 21 #[.val (.int p1), .val (.int p2), .val (.int p3), .unset] [(.int p2)])) rfl (by rw [hml]; rfl) (argsL := [(.int p2)]) (rest := []) (lenOf pd_15 rfl) rfl (by show 2 * 0 + _ ≤ _; exact Nat.le_of_eq rfl) (hb hby d1_21) (fun _ _ => ⟨rfl, e0, (by decide : 0 + 2 ≤ _), (by decide : 0 + 5 ≤ _)⟩)
        dsimp only [Pt.U, Pt.locs, Pt.cells, Pt.slots] at X58 l58 y58 z58 st58 hQ58
        subst l58 y58 z58
        obtain ⟨s58, rfl, Nq58, Kq58, Sq58⟩ := hQ58
        have N58n := Fr.app N0 Nq58
        have CR59 := CR0.trans (CHr.keep Kq58 sf0 CR0.1)
        have F60 := own_sta_keep0 CS Kq58
        have F61 := own_sta_keep0 AD Kq58
        have F62 := own_sta_keep0 HB Kq58
        have F63 := own_sta_keep0 LB Kq58
        have Z64 := Nat.le_trans Z0 Kq58.1
        have K65 := K0.trans Kq58 all0
        have kS66 := Nat.le_trans kS0 Kq58.1
        have P67 : own_Pr p.tables e below S0 T58 (mkF m 24 #[.val (.int p1), .val (.int p2), .val (.int p3), .unset] [(.ref s58)]) := fun t k => P57 t (st58 _ k)
        obtain ⟨fs, hr, hrun, hended, hend⟩ := X58.leaveW hSn kS66 (v := some (.ref s58)) (fun h => by rw [Bd.returns] at h; cases h)
        have fin : Steps p.tables e below S0 (T58.setFrames fs) := P67 _ (by
          jvm_step X58.here [X58.here.top, hx, (hb hby d1_24), X58.method', Bd.returns, Value.isRef, FieldType.isReference]
          first | (intro acts; rw [hr _ acts rfl rfl rfl]) | rw [hr _ _ rfl rfl rfl]
          exact Steps.refl _)
        rw [hS0] at fin
        refine ⟨_, _, fin, hrun, hended, _, _, rfl, ?_, (show CHr Z consts_1 s.vm s.heap T58.vm T58.heap by rw [hh]; exact CR59.trans (CHv.at X58 hZ (own_EW hw) CR59.1)), hend.1, hend.2.1, hend.2.2.1, hend.2.2.2.mono (by decide) (by decide)⟩
        show own_QM Z p1 p2 p3 h0 n0 _ T58.heap _
        exact ⟨_, rfl, N58n, K65, Or.inr (Or.inl ⟨hc17_44, hv, Sq58⟩)⟩
    · have P68 : own_Pr p.tables e below S0 s₁ (mkF m 26 #[.val (.int p1), .val (.int p2), .val (.int p3), .unset] [(.int (2 : Int32))]) := fun t k => P43 t (by
        refine XS.icmpYes X0.here hx rfl (pc0 := 17) (pc' := 25) rfl (hb hby d1_17) rfl (XT.ii_ne_t hc17_44) (by decide) (by decide) ?_
        show Steps p.tables e below (s₁.setTop (mkF m 25 #[.val (.int p1), .val (.int p2), .val (.int p3), .unset] [])) _
        refine XS.iconst X0.here hx rfl (hb hby d1_25) ?_
        show Steps p.tables e below (s₁.setTop (mkF m 26 #[.val (.int p1), .val (.int p2), .val (.int p3), .unset] [(.int (2 : Int32))])) _
        exact k)
      obtain ⟨T69, h69, k69, X69, e69, E69, A69, st69⟩ := newP X0 hx hZ (hw _ (List.mem_of_getElem? (i := 7) rfl)) e0 (g := (mkF m 26 #[.val (.int p1), .val (.int p2), .val (.int p3), .unset] [(.int (2 : Int32))])) rfl (hb hby d1_26) rfl (by decide) (cap := 2) (by decide) (by decide) (by decide) (by decide)
      obtain ⟨b69, g69⟩ : ∃ z, z = h0.size := ⟨_, rfl⟩
      rw [← g69] at A69 st69
      have g_b69 : n0 ≤ b69 := Nat.le_trans Z0 (Nat.le_of_eq g69.symm)
      have sz_b69 : h0.size ≤ b69 := Nat.le_trans K0.1 (Nat.le_of_eq g69.symm)
      have F70 := CS.ext E69
      have F71 := AD.ext E69
      have F72 := HB.ext E69
      have F73 := LB.ext E69
      have Z74 : n0 ≤ h69.size := Nat.le_trans Z0 E69.1
      have K75 := K0.ext E69
      have CR76 := CR0.trans (CHr.ext E69 CR0.1)
      have kS77 := Nat.le_trans kS0 E69.1
      have F78 : Arv Z h69 b69 k69 .char (2 : Int32) [(.int (0 : Int32)), (.int (0 : Int32))] (.int (0 : Int32)) := (Arv.new A69 (by decide)).pad (pad_rep [] (.int (0 : Int32)) 2)
      have P79 : own_Pr p.tables e below S0 T69 (mkF m 28 #[.val (.int p1), .val (.int p2), .val (.int p3), .unset] [(.ref b69)]) := fun t k => P68 t (st69 _ k)
      have P80 : own_Pr p.tables e below S0 T69 (mkF m 32 #[.val (.int p1), .val (.int p2), .val (.int p3), .val (.ref b69)] [(.int p2), (.int (0 : Int32)), (.ref b69)]) := fun t k => P79 t (by
        refine XS.astoreN X69.here hx rfl (hb hby d1_28) rfl rfl (l' := #[.val (.int p1), .val (.int p2), .val (.int p3), .val (.ref b69)]) rfl ?_
        show Steps p.tables e below (T69.setTop (mkF m 29 #[.val (.int p1), .val (.int p2), .val (.int p3), .val (.ref b69)] [])) _
        refine XS.aloadN X69.here hx rfl (hb hby d1_29) rfl rfl ?_
        show Steps p.tables e below (T69.setTop (mkF m 30 #[.val (.int p1), .val (.int p2), .val (.int p3), .val (.ref b69)] [(.ref b69)])) _
        refine XS.iconst X69.here hx rfl (hb hby d1_30) ?_
        show Steps p.tables e below (T69.setTop (mkF m 31 #[.val (.int p1), .val (.int p2), .val (.int p3), .val (.ref b69)] [(.int (0 : Int32)), (.ref b69)])) _
        refine XS.iloadN X69.here hx rfl (hb hby d1_31) rfl ?_
        show Steps p.tables e below (T69.setTop (mkF m 32 #[.val (.int p1), .val (.int p2), .val (.int p3), .val (.ref b69)] [(.int p2), (.int (0 : Int32)), (.ref b69)])) _
        exact k)
      obtain ⟨cl81, Ar81, q81, S81, N81, H81, G81⟩ := id F78
      have hin81 : ¬ ((0 : Int32) < 0 ∨ cl81.slots.size ≤ ((0 : Int32)).toNatClampNeg) := inb_of S81 ⟨by decide, by decide⟩
      obtain ⟨T81, h81, X81, e81, W81, st81⟩ := stC X69 hx hZ e69 Ar81 (j := (0 : Int32)) hin81 (g := (mkF m 32 #[.val (.int p1), .val (.int p2), .val (.int p3), .val (.ref b69)] [(.int p2), (.int (0 : Int32)), (.ref b69)])) rfl rfl (hb hby d1_32)
      have V81 : Arv Z h81 b69 k69 .char (2 : Int32) [(.int (nar .char p2)), (.int (0 : Int32))] (.int (0 : Int32)) := Arv.set Ar81 q81 S81 N81 H81 G81 (fits_nar_char _) W81 0 rfl (Nat.le_of_ble_eq_true rfl)
      have CR82 := CR76.trans (CHr.wr W81 (Safe.arv hZ.alike F78 (by decide)) CR76.1)
      have F83 := F70.wr W81
      have F84 := F71.wr W81
      have F85 := F72.wr W81
      have F86 := F73.wr W81
      have Z87 : n0 ≤ h81.size := by rw [W81.size]; exact Z74
      have kS88 := Nat.le_trans kS77 (Nat.le_of_eq W81.size.symm)
      have NF81 := Fr.snoc X81 N0 g_b69
      have K89 := K75.wr W81 (Or.inr sz_b69)
      have P90 : own_Pr p.tables e below S0 T81 (mkF m 33 #[.val (.int p1), .val (.int p2), .val (.int p3), .val (.ref b69)] []) := fun t k => P80 t (st81 _ k)
      have P91 : own_Pr p.tables e below S0 T81 (mkF m 36 #[.val (.int p1), .val (.int p2), .val (.int p3), .val (.ref b69)] [(.int p3), (.int (1 : Int32)), (.ref b69)]) := fun t k => P90 t (by
        refine XS.aloadN X81.here hx rfl (hb hby d1_33) rfl rfl ?_
        show Steps p.tables e below (T81.setTop (mkF m 34 #[.val (.int p1), .val (.int p2), .val (.int p3), .val (.ref b69)] [(.ref b69)])) _
        refine XS.iconst X81.here hx rfl (hb hby d1_34) ?_
        show Steps p.tables e below (T81.setTop (mkF m 35 #[.val (.int p1), .val (.int p2), .val (.int p3), .val (.ref b69)] [(.int (1 : Int32)), (.ref b69)])) _
        refine XS.iloadN X81.here hx rfl (hb hby d1_35) rfl ?_
        show Steps p.tables e below (T81.setTop (mkF m 36 #[.val (.int p1), .val (.int p2), .val (.int p3), .val (.ref b69)] [(.int p3), (.int (1 : Int32)), (.ref b69)])) _
        exact k)
      obtain ⟨cl92, Ar92, q92, S92, N92, H92, G92⟩ := id V81
      have hin92 : ¬ ((1 : Int32) < 0 ∨ cl92.slots.size ≤ ((1 : Int32)).toNatClampNeg) := inb_of S92 ⟨by decide, by decide⟩
      obtain ⟨T92, h92, X92, e92, W92, st92⟩ := stC X81 hx hZ e81 Ar92 (j := (1 : Int32)) hin92 (g := (mkF m 36 #[.val (.int p1), .val (.int p2), .val (.int p3), .val (.ref b69)] [(.int p3), (.int (1 : Int32)), (.ref b69)])) rfl rfl (hb hby d1_36)
      have V92 : Arv Z h92 b69 k69 .char (2 : Int32) [(.int (nar .char p2)), (.int (nar .char p3))] (.int (0 : Int32)) := Arv.set Ar92 q92 S92 N92 H92 G92 (fits_nar_char _) W92 1 rfl (Nat.le_of_ble_eq_true rfl)
      have CR93 := CR82.trans (CHr.wr W92 (Safe.arv hZ.alike V81 (by decide)) CR82.1)
      have F94 := F83.wr W92
      have F95 := F84.wr W92
      have F96 := F85.wr W92
      have F97 := F86.wr W92
      have Z98 : n0 ≤ h92.size := by rw [W92.size]; exact Z87
      have kS99 := Nat.le_trans kS88 (Nat.le_of_eq W92.size.symm)
      have NF92 := Fr.snoc X92 NF81 g_b69
      have K100 := K89.wr W92 (Or.inr sz_b69)
      have P101 : own_Pr p.tables e below S0 T92 (mkF m 37 #[.val (.int p1), .val (.int p2), .val (.int p3), .val (.ref b69)] []) := fun t k => P91 t (st92 _ k)
      rw [hc2.nar, hc3.nar] at V92
      rcases (own_3way p2 p3) with hU | ⟨hl0, hl1⟩
      · have _u := hU
        obtain ⟨T102, h102, X102, e102, E102, A102, D102, -, st102⟩ := newO X92 hx hZ hown (hw _ (List.mem_of_getElem? (i := 4) rfl)) (hw _ (List.mem_of_getElem? (i := 5) rfl)) (hw _ (List.mem_of_getElem? (i := 6) rfl)) e92 (g := (mkF m 37 #[.val (.int p1), .val (.int p2), .val (.int p3), .val (.ref b69)] [])) rfl (hb hby d1_37) (by decide) (by decide)
        obtain ⟨b102, g102⟩ : ∃ z, z = h92.size := ⟨_, rfl⟩
        rw [← g102] at A102 D102 st102
        have g_b102 : n0 ≤ b102 := Nat.le_trans Z98 (Nat.le_of_eq g102.symm)
        have sz_b102 : h0.size ≤ b102 := Nat.le_trans K100.1 (Nat.le_of_eq g102.symm)
        have ne_b69_b102 : b69 ≠ b102 := Nat.ne_of_lt (Nat.lt_of_lt_of_le V92.lt (Nat.le_of_eq g102.symm))
        have F103 := F94.ext E102
        have F104 := F95.ext E102
        have F105 := F96.ext E102
        have F106 := F97.ext E102
        have F107 := V92.ext E102
        have Z108 : n0 ≤ h102.size := Nat.le_trans Z98 E102.1
        have K109 := K100.ext E102
        have CR110 := CR93.trans (CHr.ext E102 CR93.1)
        have kS111 := Nat.le_trans kS99 E102.1
        have F112 : Fld Z h102 b102 "java/lang/String" "value" "[B" .null := D102 (Or.inr (hw _ (List.mem_of_getElem? (i := 20) rfl))) (ty := (.array .byte)) (by decide)
        have F113 : Fld Z h102 b102 "java/lang/String" "coder" "B" (.int (0 : Int32)) := D102 (Or.inr (hw _ (List.mem_of_getElem? (i := 21) rfl))) (ty := .byte) (by decide)
        have P114 : own_Pr p.tables e below S0 T102 (mkF m 40 #[.val (.int p1), .val (.int p2), .val (.int p3), .val (.ref b69)] [(.ref b102)]) := fun t k => P101 t (st102 _ k)
        have P115 : own_Pr p.tables e below S0 T102 (mkF m 42 #[.val (.int p1), .val (.int p2), .val (.int p3), .val (.ref b69)] [(.ref b69), (.ref b102), (.ref b102)]) := fun t k => P114 t (by
          refine XS.dup X102.here hx rfl (hb hby d1_40) rfl rfl ?_
          show Steps p.tables e below (T102.setTop (mkF m 41 #[.val (.int p1), .val (.int p2), .val (.int p3), .val (.ref b69)] [(.ref b102), (.ref b102)])) _
          refine XS.aloadN X102.here hx rfl (hb hby d1_41) rfl rfl ?_
          show Steps p.tables e below (T102.setTop (mkF m 42 #[.val (.int p1), .val (.int p2), .val (.int p3), .val (.ref b69)] [(.ref b69), (.ref b102), (.ref b102)])) _
          exact k)
        obtain ⟨_, _, ⟨T116, L116, k116, n116⟩, -, X116, ⟨Lc116, hQ116, l116, y116, z116⟩, st116⟩ := X102.specialBack hx (y := (⟨"java/lang/String", "<init>", "([C)V"⟩ : MethodName)) rfl hown (mvT hZ (hw _ (List.mem_of_getElem? (i := 8) rfl))) (mvT hZ (hw _ (List.mem_of_getElem? (i := 9) rfl))) (mvT hZ (hw _ (List.mem_of_getElem? (i := 10) rfl))) (by decide) (backOf (W := 1) (rm2_u l Z a0 hw [] b102 b69 k69 cs p2 p3 h102 n0 Z108 A102 F113 F112 g_b102 F107 F103 hcs F104 F105 F106 hU hc2 hc3) hZ (hw _ (List.mem_of_getElem? (i := 10) rfl)) (hw _ (List.mem_of_getElem? (i := 6) rfl)) (by decide) (by decide)) (g := (mkF m 42 #[.val (.int p1), .val (.int p2), .val (.int p3), .val (.ref b69)] [(.ref b69), (.ref b102), (.ref b102)])) rfl (by rw [hml]; rfl) (Steps.refl _) (a := b102) (argsL := [(.ref b69)]) (rest := [(.ref b102)]) (lenOf pd_14 rfl) rfl (by show 2 * 0 + _ ≤ _; exact Nat.le_of_eq rfl) (hb hby d1_42) (fun _ _ => ⟨rfl, e102, (by decide : 2 + 2 ≤ _), (by decide : 6 + 6 ≤ _)⟩)
        dsimp only [Pt.U, Pt.locs, Pt.cells, Pt.slots] at X116 l116 y116 z116 st116 hQ116
        subst l116 y116 z116
        obtain ⟨rfl, Nq116, Kq116, bq116, kk116, Eq116, Fc116, Fv116, Av116⟩ := hQ116
        have N116n := Fr.app NF92 Nq116
        have CR117 := CR110.trans (CHr.keep Kq116 (sfS (own_safeNull hZ.alike A102 F112) sf0) CR110.1)
        have F118 := own_sta_keep F103 Kq116 A102
        have F119 := own_sta_keep F104 Kq116 A102
        have F120 := own_sta_keep F105 Kq116 A102
        have F121 := own_sta_keep F106 Kq116 A102
        have F122 := F107.keep Kq116 (ninS ne_b69_b102 nin0)
        have F123 := A102.keep Kq116
        have Z126 := Nat.le_trans Z108 Kq116.1
        have K127 := K109.trans Kq116 (allS (Or.inr sz_b102) all0)
        have kS128 := Nat.le_trans kS111 Kq116.1
        have P129 : own_Pr p.tables e below S0 T116 (mkF m 45 #[.val (.int p1), .val (.int p2), .val (.int p3), .val (.ref b69)] [(.ref b102)]) := fun t k => P115 t (st116.trans k)
        obtain ⟨fs, hr, hrun, hended, hend⟩ := X116.leaveW hSn kS128 (v := some (.ref b102)) (fun h => by rw [Bd.returns] at h; cases h)
        have fin : Steps p.tables e below S0 (T116.setFrames fs) := P129 _ (by
          jvm_step X116.here [X116.here.top, hx, (hb hby d1_45), X116.method', Bd.returns, Value.isRef, FieldType.isReference]
          first | (intro acts; rw [hr _ acts rfl rfl rfl]) | rw [hr _ _ rfl rfl rfl]
          exact Steps.refl _)
        rw [hS0] at fin
        refine ⟨_, _, fin, hrun, hended, _, _, rfl, ?_, (show CHr Z consts_1 s.vm s.heap T116.vm T116.heap by rw [hh]; exact CR117.trans (CHv.at X116 hZ (own_EW hw) CR117.1)), hend.1, hend.2.1, hend.2.2.1, hend.2.2.2.mono (by decide) (by decide)⟩
        show own_QM Z p1 p2 p3 h0 n0 _ T116.heap _
        exact ⟨_, rfl, N116n, K127, Or.inr (Or.inr (Or.inr (Or.inr ⟨(hp.resolve_left hc1_2).resolve_left hc17_44, ⟨_, _, Eq116, Fc116, Fv116, Av116⟩⟩)))⟩
      · have _u := hl0
        obtain ⟨T130, h130, X130, e130, E130, A130, D130, -, st130⟩ := newO X92 hx hZ hown (hw _ (List.mem_of_getElem? (i := 4) rfl)) (hw _ (List.mem_of_getElem? (i := 5) rfl)) (hw _ (List.mem_of_getElem? (i := 6) rfl)) e92 (g := (mkF m 37 #[.val (.int p1), .val (.int p2), .val (.int p3), .val (.ref b69)] [])) rfl (hb hby d1_37) (by decide) (by decide)
        obtain ⟨b130, g130⟩ : ∃ z, z = h92.size := ⟨_, rfl⟩
        rw [← g130] at A130 D130 st130
        have g_b130 : n0 ≤ b130 := Nat.le_trans Z98 (Nat.le_of_eq g130.symm)
        have sz_b130 : h0.size ≤ b130 := Nat.le_trans K100.1 (Nat.le_of_eq g130.symm)
        have ne_b69_b130 : b69 ≠ b130 := Nat.ne_of_lt (Nat.lt_of_lt_of_le V92.lt (Nat.le_of_eq g130.symm))
        have F131 := F94.ext E130
        have F132 := F95.ext E130
        have F133 := F96.ext E130
        have F134 := F97.ext E130
        have F135 := V92.ext E130
        have Z136 : n0 ≤ h130.size := Nat.le_trans Z98 E130.1
        have K137 := K100.ext E130
        have CR138 := CR93.trans (CHr.ext E130 CR93.1)
        have kS139 := Nat.le_trans kS99 E130.1
        have F140 : Fld Z h130 b130 "java/lang/String" "value" "[B" .null := D130 (Or.inr (hw _ (List.mem_of_getElem? (i := 20) rfl))) (ty := (.array .byte)) (by decide)
        have F141 : Fld Z h130 b130 "java/lang/String" "coder" "B" (.int (0 : Int32)) := D130 (Or.inr (hw _ (List.mem_of_getElem? (i := 21) rfl))) (ty := .byte) (by decide)
        have P142 : own_Pr p.tables e below S0 T130 (mkF m 40 #[.val (.int p1), .val (.int p2), .val (.int p3), .val (.ref b69)] [(.ref b130)]) := fun t k => P101 t (st130 _ k)
        have P143 : own_Pr p.tables e below S0 T130 (mkF m 42 #[.val (.int p1), .val (.int p2), .val (.int p3), .val (.ref b69)] [(.ref b69), (.ref b130), (.ref b130)]) := fun t k => P142 t (by
          refine XS.dup X130.here hx rfl (hb hby d1_40) rfl rfl ?_
          show Steps p.tables e below (T130.setTop (mkF m 41 #[.val (.int p1), .val (.int p2), .val (.int p3), .val (.ref b69)] [(.ref b130), (.ref b130)])) _
          refine XS.aloadN X130.here hx rfl (hb hby d1_41) rfl rfl ?_
          show Steps p.tables e below (T130.setTop (mkF m 42 #[.val (.int p1), .val (.int p2), .val (.int p3), .val (.ref b69)] [(.ref b69), (.ref b130), (.ref b130)])) _
          exact k)
        obtain ⟨_, _, ⟨T144, L144, k144, n144⟩, -, X144, ⟨Lc144, hQ144, l144, y144, z144⟩, st144⟩ := X130.specialBack hx (y := (⟨"java/lang/String", "<init>", "([C)V"⟩ : MethodName)) rfl hown (mvT hZ (hw _ (List.mem_of_getElem? (i := 8) rfl))) (mvT hZ (hw _ (List.mem_of_getElem? (i := 9) rfl))) (mvT hZ (hw _ (List.mem_of_getElem? (i := 10) rfl))) (by decide) (backOf (W := 1) (rm2_l l Z a0 hw [] b130 b69 k69 cs p2 p3 h130 n0 Z136 A130 F141 F140 g_b130 F135 F131 hcs  hl0 hl1) hZ (hw _ (List.mem_of_getElem? (i := 10) rfl)) (hw _ (List.mem_of_getElem? (i := 6) rfl)) (by decide) (by decide)) (g := (mkF m 42 #[.val (.int p1), .val (.int p2), .val (.int p3), .val (.ref b69)] [(.ref b69), (.ref b130), (.ref b130)])) rfl (by rw [hml]; rfl) (Steps.refl _) (a := b130) (argsL := [(.ref b69)]) (rest := [(.ref b130)]) (lenOf pd_14 rfl) rfl (by show 2 * 0 + _ ≤ _; exact Nat.le_of_eq rfl) (hb hby d1_42) (fun _ _ => ⟨rfl, e130, (by decide : 2 + 1 ≤ _), (by decide : 6 + 2 ≤ _)⟩)
        dsimp only [Pt.U, Pt.locs, Pt.cells, Pt.slots] at X144 l144 y144 z144 st144 hQ144
        subst l144 y144 z144
        obtain ⟨rfl, Nq144, Kq144, bq144, kk144, Eq144, Fc144, Fv144, Av144⟩ := hQ144
        have N144n := Fr.app NF92 Nq144
        have CR145 := CR138.trans (CHr.keep Kq144 (sfS (own_safeNull hZ.alike A130 F140) sf0) CR138.1)
        have F146 := own_sta_keep F131 Kq144 A130
        have F147 := own_sta_keep F132 Kq144 A130
        have F148 := own_sta_keep F133 Kq144 A130
        have F149 := own_sta_keep F134 Kq144 A130
        have F150 := F135.keep Kq144 (ninS ne_b69_b130 nin0)
        have F151 := A130.keep Kq144
        have Z154 := Nat.le_trans Z136 Kq144.1
        have K155 := K137.trans Kq144 (allS (Or.inr sz_b130) all0)
        have kS156 := Nat.le_trans kS139 Kq144.1
        have P157 : own_Pr p.tables e below S0 T144 (mkF m 45 #[.val (.int p1), .val (.int p2), .val (.int p3), .val (.ref b69)] [(.ref b130)]) := fun t k => P143 t (st144.trans k)
        obtain ⟨fs, hr, hrun, hended, hend⟩ := X144.leaveW hSn kS156 (v := some (.ref b130)) (fun h => by rw [Bd.returns] at h; cases h)
        have fin : Steps p.tables e below S0 (T144.setFrames fs) := P157 _ (by
          jvm_step X144.here [X144.here.top, hx, (hb hby d1_45), X144.method', Bd.returns, Value.isRef, FieldType.isReference]
          first | (intro acts; rw [hr _ acts rfl rfl rfl]) | rw [hr _ _ rfl rfl rfl]
          exact Steps.refl _)
        rw [hS0] at fin
        refine ⟨_, _, fin, hrun, hended, _, _, rfl, ?_, (show CHr Z consts_1 s.vm s.heap T144.vm T144.heap by rw [hh]; exact CR145.trans (CHv.at X144 hZ (own_EW hw) CR145.1)), hend.1, hend.2.1, hend.2.2.1, hend.2.2.2.mono (by decide) (by decide)⟩
        show own_QM Z p1 p2 p3 h0 n0 _ T144.heap _
        exact ⟨_, rfl, N144n, K155, Or.inr (Or.inr (Or.inr (Or.inl ⟨(hp.resolve_left hc1_2).resolve_left hc17_44, hl0, hl1, ⟨_, _, Eq144, Fc144, Fv144, Av144⟩⟩)))⟩
theorem d32_0 : decode jdk_52_method_7_code 0 = .ok (.getstatic 44, 3) := by decide +kernel
theorem d32_3 : decode jdk_52_method_7_code 3 = .ok (.ifCond .ne 16, 3) := by decide +kernel
theorem d32_19 : decode jdk_52_method_7_code 19 = .ok (.iload_n 3, 1) := by decide +kernel
theorem d32_20 : decode jdk_52_method_7_code 20 = .ok (.ifCond .eq 8, 3) := by decide +kernel
theorem d32_28 : decode jdk_52_method_7_code 28 = .ok (.aload_n 0, 1) := by decide +kernel
theorem d32_29 : decode jdk_52_method_7_code 29 = .ok (.iload_n 1, 1) := by decide +kernel
theorem d32_30 : decode jdk_52_method_7_code 30 = .ok (.invokestatic 71, 3) := by decide +kernel
theorem d32_33 : decode jdk_52_method_7_code 33 = .ok (.istore 4, 2) := by decide +kernel
theorem d32_35 : decode jdk_52_method_7_code 35 = .ok (.iload 4, 2) := by decide +kernel
theorem d32_37 : decode jdk_52_method_7_code 37 = .ok (.invokestatic 75, 3) := by decide +kernel
theorem d32_40 : decode jdk_52_method_7_code 40 = .ok (.ifCond .eq 43, 3) := by decide +kernel
theorem d32_43 : decode jdk_52_method_7_code 43 = .ok (.iinc 1 1, 3) := by decide +kernel
theorem d32_46 : decode jdk_52_method_7_code 46 = .ok (.iload_n 1, 1) := by decide +kernel
theorem d32_47 : decode jdk_52_method_7_code 47 = .ok (.iload_n 2, 1) := by decide +kernel
theorem d32_48 : decode jdk_52_method_7_code 48 = .ok (.if_icmp .ge 35, 3) := by decide +kernel
theorem d32_83 : decode jdk_52_method_7_code 83 = .ok (.iload 4, 2) := by decide +kernel
theorem d32_85 : decode jdk_52_method_7_code 85 = .ok (.ireturn, 1) := by decide +kernel
theorem ef_32_20 (m : MethodId) (a1 : Addr) : entryFrame m #[(.ref a1), (.int (0 : Int32)), (.int (1 : Int32)), (.int (0 : Int32))] 6 = mkF m 0 #[.val (.ref a1), .val (.int (0 : Int32)), .val (.int (1 : Int32)), .val (.int (0 : Int32)), .unset, .unset] [] := by first | (simp [entryFrame, mkF, argsToLocals, Value.category]; done) | rfl
set_option maxRecDepth 65536 in
set_option maxHeartbeats 40000000 in
theorem rm32_20 (l : Launch) (Z : State) (a0 : Array Value) (hw : ∀ d ∈ tables_1, d.before a0 Z = true) (ws : List Jvm.Cond) (a1 : Addr) (k1 : ClassId) (x0 x1 : Int32) (h0 : Heap) (n0 : Nat) (Z0 : n0 ≤ h0.size) (V1 : Arv Z h0 a1 k1 .byte 2 [(.int x0), (.int x1)] (.int 0)) (AD : Sta Z h0 "java/lang/StringUTF16" "$assertionsDisabled" "Z" (.int (1 : Int32))) (HB : Sta Z h0 "java/lang/StringUTF16" "HI_BYTE_SHIFT" "I" (.int (0 : Int32))) (LB : Sta Z h0 "java/lang/StringUTF16" "LO_BYTE_SHIFT" "I" (.int (8 : Int32))) :
    MetFree l (⟨"java/lang/StringUTF16", "codePointAt", "([BIIZ)I"⟩ : MethodName) (head1 (Jvm.Cond.code (⟨"java/lang/StringUTF16", "codePointAt", "([BIIZ)I"⟩ : MethodName) jdk_52_method_7_code 6 (some .int) :: ws) ({ frames := 1, cells := 0, slots := 0, locals := 13 } : Room)) (fun a U => a = #[(.ref a1), (.int (0 : Int32)), (.int (1 : Int32)), (.int (0 : Int32))] ∧ Z.Warmed39 U.vm ∧ U.heap = h0) (fun _ _ _ _ _ => True) (fun _ U o U' => ∃ v L, o = .returned v ∧ own_QI h0 n0 (own_gc x0 x1) v U'.heap L ∧ FrameEnd U o U' L ({ frames := 1, cells := 0, slots := 0, locals := 13 } : Room).cells ({ frames := 1, cells := 0, slots := 0, locals := 13 } : Room).slots) := by
  refine MetFree.of_bodySF (plainFor_of_name pn_20) hisR ?_
  intro p e s m args below meth c s₁ Bd hml0 hP hK
  obtain ⟨rfl, hZ, hh⟩ := hP
  have hx := Bd.exec
  have hby := Bd.bytes
  have hml : c.maxLocals = 6 := hml0
  have hown : s.vm.findClass "java/lang/StringUTF16" = some m.cls := findClass_of_methodNamed Bd.named
  have hnm := (name_of_methodNamed Bd.named Bd.method).1
  have X0 : Stand p l e ({ frames := 1, cells := 0, slots := 0, locals := 13 } : Room) s m #[(.ref a1), (.int (0 : Int32)), (.int (1 : Int32)), (.int (0 : Int32))] below meth c s₁ [] 0 0 := Stand.of_body Bd
  have e0 : s₁.heap = h0 := by rw [← hh, Bd.state]; rfl
  have N0 := Fr.nil n0
  obtain ⟨S0, hS0⟩ : ∃ z, z = s₁.setTop (entryFrame m #[(.ref a1), (.int (0 : Int32)), (.int (1 : Int32)), (.int (0 : Int32))] 6) := ⟨_, rfl⟩
  have P0 : own_Pr p.tables e below S0 s₁ (mkF m 0 #[.val (.ref a1), .val (.int (0 : Int32)), .val (.int (1 : Int32)), .val (.int (0 : Int32)), .unset, .unset] []) := fun t k => hS0 ▸ castTop (ef_32_20 m a1) k
  obtain ⟨T1, X1, e1, st1⟩ := getS2 X0 hx hZ hown (host := "") (Or.inl (hw _ (List.mem_of_getElem? (i := 86) rfl))) Via.refl e0 AD (g := (mkF m 0 #[.val (.ref a1), .val (.int (0 : Int32)), .val (.int (1 : Int32)), .val (.int (0 : Int32)), .unset, .unset] [])) rfl (hb hby d32_0)
  have P2 : own_Pr p.tables e below S0 T1 (mkF m 3 #[.val (.ref a1), .val (.int (0 : Int32)), .val (.int (1 : Int32)), .val (.int (0 : Int32)), .unset, .unset] [(.int (1 : Int32))]) := fun t k => P0 t (st1 _ k)
  have P3 : own_Pr p.tables e below S0 T1 (mkF m 30 #[.val (.ref a1), .val (.int (0 : Int32)), .val (.int (1 : Int32)), .val (.int (0 : Int32)), .unset, .unset] [(.int (0 : Int32)), (.ref a1)]) := fun t k => P2 t (by
    refine XS.ifYes X1.here hx rfl (pc0 := 3) (pc' := 19) rfl (hb hby d32_3) rfl (by decide) (by decide) (by decide) ?_
    show Steps p.tables e below (T1.setTop (mkF m 19 #[.val (.ref a1), .val (.int (0 : Int32)), .val (.int (1 : Int32)), .val (.int (0 : Int32)), .unset, .unset] [])) _
    refine XS.iloadN X1.here hx rfl (hb hby d32_19) rfl ?_
    show Steps p.tables e below (T1.setTop (mkF m 20 #[.val (.ref a1), .val (.int (0 : Int32)), .val (.int (1 : Int32)), .val (.int (0 : Int32)), .unset, .unset] [(.int (0 : Int32))])) _
    refine XS.ifYes X1.here hx rfl (pc0 := 20) (pc' := 28) rfl (hb hby d32_20) rfl (by decide) (by decide) (by decide) ?_
    show Steps p.tables e below (T1.setTop (mkF m 28 #[.val (.ref a1), .val (.int (0 : Int32)), .val (.int (1 : Int32)), .val (.int (0 : Int32)), .unset, .unset] [])) _
    refine XS.aloadN X1.here hx rfl (hb hby d32_28) rfl rfl ?_
    show Steps p.tables e below (T1.setTop (mkF m 29 #[.val (.ref a1), .val (.int (0 : Int32)), .val (.int (1 : Int32)), .val (.int (0 : Int32)), .unset, .unset] [(.ref a1)])) _
    refine XS.iloadN X1.here hx rfl (hb hby d32_29) rfl ?_
    show Steps p.tables e below (T1.setTop (mkF m 30 #[.val (.ref a1), .val (.int (0 : Int32)), .val (.int (1 : Int32)), .val (.int (0 : Int32)), .unset, .unset] [(.int (0 : Int32)), (.ref a1)])) _
    exact k)
  obtain ⟨_, _, ⟨T4, L4, k4, n4⟩, -, X4, ⟨Lc4, hQ4, l4, y4, z4⟩, st4⟩ := Jvm.LawKit.callS X1 hx (y := (⟨"java/lang/StringUTF16", "getChar", "([BI)C"⟩ : MethodName)) hown (mvT hZ (hw _ (List.mem_of_getElem? (i := 105) rfl))) (mvT hZ (hw _ (List.mem_of_getElem? (i := 106) rfl))) (mvT hZ (hw _ (List.mem_of_getElem? (i := 62) rfl))) (mvT hZ (hw _ (List.mem_of_getElem? (i := 107) rfl))) (by decide) (backOf (W := 0) (rm26_20 l Z a0 hw [] a1 k1 x0 x1 h0 n0 Z0 V1 AD HB LB) hZ (hw _ (List.mem_of_getElem? (i := 107) rfl)) (hw _ (List.mem_of_getElem? (i := 62) rfl)) (by decide) (by decide)) (g := (mkF m 30 #[.val (.ref a1), .val (.int (0 : Int32)), .val (.int (1 : Int32)), .val (.int (0 : Int32)), .unset, .unset] [(.int (0 : Int32)), (.ref a1)])) rfl (by rw [hml]; rfl) (argsL := [(.ref a1), (.int (0 : Int32))]) (rest := []) (lenOf pd_8 rfl) rfl (by show 2 * 0 + _ ≤ _; exact Nat.le_of_eq rfl) (hb hby d32_30) (fun _ _ => ⟨rfl, e1, (by decide : 0 + 0 ≤ _), (by decide : 0 + 0 ≤ _)⟩)
  dsimp only [Pt.U, Pt.locs, Pt.cells, Pt.slots] at X4 l4 y4 z4 st4 hQ4
  subst l4 y4 z4
  obtain ⟨z4v, rfl, hz4v, Nq4, eq4⟩ := hQ4
  have N4n := Fr.app N0 Nq4
  have P5 : own_Pr p.tables e below S0 T4 (mkF m 33 #[.val (.ref a1), .val (.int (0 : Int32)), .val (.int (1 : Int32)), .val (.int (0 : Int32)), .unset, .unset] [(.int z4v)]) := fun t k => P3 t (st4 _ k)
  have P6 : own_Pr p.tables e below S0 T4 (mkF m 37 #[.val (.ref a1), .val (.int (0 : Int32)), .val (.int (1 : Int32)), .val (.int (0 : Int32)), .val (.int z4v), .unset] [(.int z4v)]) := fun t k => P5 t (by
    refine XS.istore X4.here hx rfl (hb hby d32_33) rfl (l' := #[.val (.ref a1), .val (.int (0 : Int32)), .val (.int (1 : Int32)), .val (.int (0 : Int32)), .val (.int z4v), .unset]) rfl ?_
    show Steps p.tables e below (T4.setTop (mkF m 35 #[.val (.ref a1), .val (.int (0 : Int32)), .val (.int (1 : Int32)), .val (.int (0 : Int32)), .val (.int z4v), .unset] [])) _
    refine XS.iload X4.here hx rfl (hb hby d32_35) rfl ?_
    show Steps p.tables e below (T4.setTop (mkF m 37 #[.val (.ref a1), .val (.int (0 : Int32)), .val (.int (1 : Int32)), .val (.int (0 : Int32)), .val (.int z4v), .unset] [(.int z4v)])) _
    exact k)
  obtain ⟨_, _, ⟨T7, L7, k7, n7⟩, -, X7, ⟨Lc7, hQ7, l7, y7, z7⟩, st7⟩ := Jvm.LawKit.callS X4 hx (y := (⟨"java/lang/Character", "isHighSurrogate", "(C)Z"⟩ : MethodName)) hown (mvT hZ (hw _ (List.mem_of_getElem? (i := 135) rfl))) (mvT hZ (hw _ (List.mem_of_getElem? (i := 136) rfl))) (mvT hZ (hw _ (List.mem_of_getElem? (i := 137) rfl))) (mvT hZ (hw _ (List.mem_of_getElem? (i := 138) rfl))) (by decide) (backOf (W := 0) (rm33 l Z a0 hw [] z4v  h0 n0 Z0 ) hZ (hw _ (List.mem_of_getElem? (i := 138) rfl)) (hw _ (List.mem_of_getElem? (i := 137) rfl)) (by decide) (by decide)) (g := (mkF m 37 #[.val (.ref a1), .val (.int (0 : Int32)), .val (.int (1 : Int32)), .val (.int (0 : Int32)), .val (.int z4v), .unset] [(.int z4v)])) rfl (by rw [hml]; rfl) (argsL := [(.int z4v)]) (rest := []) (lenOf pd_11 rfl) rfl (by show 2 * 0 + _ ≤ _; exact Nat.le_of_eq rfl) (hb hby d32_37) (fun _ _ => ⟨rfl, eq4, (by decide : 0 + 0 ≤ _), (by decide : 0 + 0 ≤ _)⟩)
  dsimp only [Pt.U, Pt.locs, Pt.cells, Pt.slots] at X7 l7 y7 z7 st7 hQ7
  subst l7 y7 z7
  obtain ⟨z7v, rfl, hz7v, Nq7, eq7⟩ := hQ7
  have N7n := Fr.app N4n Nq7
  have P8 : own_Pr p.tables e below S0 T7 (mkF m 40 #[.val (.ref a1), .val (.int (0 : Int32)), .val (.int (1 : Int32)), .val (.int (0 : Int32)), .val (.int z4v), .unset] [(.int z7v)]) := fun t k => P6 t (st7 _ k)
  by_cases hc40_9 : z7v = (0 : Int32)
  · have P10 : own_Pr p.tables e below S0 T7 (mkF m 85 #[.val (.ref a1), .val (.int (0 : Int32)), .val (.int (1 : Int32)), .val (.int (0 : Int32)), .val (.int z4v), .unset] [(.int z4v)]) := fun t k => P8 t (by
      refine XS.ifYes X7.here hx rfl (pc0 := 40) (pc' := 83) rfl (hb hby d32_40) rfl (XT.i0_eq_t hc40_9) (by decide) (by decide) ?_
      show Steps p.tables e below (T7.setTop (mkF m 83 #[.val (.ref a1), .val (.int (0 : Int32)), .val (.int (1 : Int32)), .val (.int (0 : Int32)), .val (.int z4v), .unset] [])) _
      refine XS.iload X7.here hx rfl (hb hby d32_83) rfl ?_
      show Steps p.tables e below (T7.setTop (mkF m 85 #[.val (.ref a1), .val (.int (0 : Int32)), .val (.int (1 : Int32)), .val (.int (0 : Int32)), .val (.int z4v), .unset] [(.int z4v)])) _
      exact k)
    obtain ⟨fs, hr, hrun, hended, hW, hsame⟩ := X7.leave (v := some (.int z4v)) (fun h => by rw [Bd.returns] at h; cases h)
    have fin : Steps p.tables e below S0 (T7.setFrames fs) := P10 _ (retI X7 hx Bd.returns (hb hby d32_85) hr)
    rw [hS0] at fin
    refine ⟨_, _, fin, hrun, hended, _, _, rfl, ?_, ⟨_, rfl⟩, hW, hsame.mono (by decide) (by decide)⟩
    show own_QI h0 n0 (own_gc x0 x1) _ T7.heap _
    rw [eq7]
    exact ⟨_, rfl, hz4v, N7n, rfl⟩
  · have P11 : own_Pr p.tables e below S0 T7 (mkF m 85 #[.val (.ref a1), .val (.int (1 : Int32)), .val (.int (1 : Int32)), .val (.int (0 : Int32)), .val (.int z4v), .unset] [(.int z4v)]) := fun t k => P8 t (by
      refine XS.ifNo X7.here hx rfl (hb hby d32_40) rfl (XT.i0_eq_f hc40_9) ?_
      show Steps p.tables e below (T7.setTop (mkF m 43 #[.val (.ref a1), .val (.int (0 : Int32)), .val (.int (1 : Int32)), .val (.int (0 : Int32)), .val (.int z4v), .unset] [])) _
      refine XS.iinc X7.here hx rfl (hb hby d32_43) rfl (l' := #[.val (.ref a1), .val (.int (1 : Int32)), .val (.int (1 : Int32)), .val (.int (0 : Int32)), .val (.int z4v), .unset]) rfl ?_
      show Steps p.tables e below (T7.setTop (mkF m 46 #[.val (.ref a1), .val (.int (1 : Int32)), .val (.int (1 : Int32)), .val (.int (0 : Int32)), .val (.int z4v), .unset] [])) _
      refine XS.iloadN X7.here hx rfl (hb hby d32_46) rfl ?_
      show Steps p.tables e below (T7.setTop (mkF m 47 #[.val (.ref a1), .val (.int (1 : Int32)), .val (.int (1 : Int32)), .val (.int (0 : Int32)), .val (.int z4v), .unset] [(.int (1 : Int32))])) _
      refine XS.iloadN X7.here hx rfl (hb hby d32_47) rfl ?_
      show Steps p.tables e below (T7.setTop (mkF m 48 #[.val (.ref a1), .val (.int (1 : Int32)), .val (.int (1 : Int32)), .val (.int (0 : Int32)), .val (.int z4v), .unset] [(.int (1 : Int32)), (.int (1 : Int32))])) _
      refine XS.icmpYes X7.here hx rfl (pc0 := 48) (pc' := 83) rfl (hb hby d32_48) rfl (by decide) (by decide) (by decide) ?_
      show Steps p.tables e below (T7.setTop (mkF m 83 #[.val (.ref a1), .val (.int (1 : Int32)), .val (.int (1 : Int32)), .val (.int (0 : Int32)), .val (.int z4v), .unset] [])) _
      refine XS.iload X7.here hx rfl (hb hby d32_83) rfl ?_
      show Steps p.tables e below (T7.setTop (mkF m 85 #[.val (.ref a1), .val (.int (1 : Int32)), .val (.int (1 : Int32)), .val (.int (0 : Int32)), .val (.int z4v), .unset] [(.int z4v)])) _
      exact k)
    obtain ⟨fs, hr, hrun, hended, hW, hsame⟩ := X7.leave (v := some (.int z4v)) (fun h => by rw [Bd.returns] at h; cases h)
    have fin : Steps p.tables e below S0 (T7.setFrames fs) := P11 _ (retI X7 hx Bd.returns (hb hby d32_85) hr)
    rw [hS0] at fin
    refine ⟨_, _, fin, hrun, hended, _, _, rfl, ?_, ⟨_, rfl⟩, hW, hsame.mono (by decide) (by decide)⟩
    show own_QI h0 n0 (own_gc x0 x1) _ T7.heap _
    rw [eq7]
    exact ⟨_, rfl, hz4v, N7n, rfl⟩
theorem d31_0 : decode jdk_52_method_8_code 0 = .ok (.aload_n 0, 1) := by decide +kernel
theorem d31_1 : decode jdk_52_method_8_code 1 = .ok (.iload_n 1, 1) := by decide +kernel
theorem d31_2 : decode jdk_52_method_8_code 2 = .ok (.iload_n 2, 1) := by decide +kernel
theorem d31_3 : decode jdk_52_method_8_code 3 = .ok (.iconst 0, 1) := by decide +kernel
theorem d31_4 : decode jdk_52_method_8_code 4 = .ok (.invokestatic 88, 3) := by decide +kernel
theorem d31_7 : decode jdk_52_method_8_code 7 = .ok (.ireturn, 1) := by decide +kernel
theorem pd_16 : parseMethodDescriptor "([BIIZ)I" = some ⟨[(.array .byte), .int, .int, .boolean], some .int⟩ := by decide +kernel
theorem ef_31_20 (m : MethodId) (a1 : Addr) : entryFrame m #[(.ref a1), (.int (0 : Int32)), (.int (1 : Int32))] 3 = mkF m 0 #[.val (.ref a1), .val (.int (0 : Int32)), .val (.int (1 : Int32))] [] := by first | (simp [entryFrame, mkF, argsToLocals, Value.category]; done) | rfl
set_option maxRecDepth 65536 in
set_option maxHeartbeats 40000000 in
theorem rm31_20 (l : Launch) (Z : State) (a0 : Array Value) (hw : ∀ d ∈ tables_1, d.before a0 Z = true) (ws : List Jvm.Cond) (a1 : Addr) (k1 : ClassId) (x0 x1 : Int32) (h0 : Heap) (n0 : Nat) (Z0 : n0 ≤ h0.size) (V1 : Arv Z h0 a1 k1 .byte 2 [(.int x0), (.int x1)] (.int 0)) (AD : Sta Z h0 "java/lang/StringUTF16" "$assertionsDisabled" "Z" (.int (1 : Int32))) (HB : Sta Z h0 "java/lang/StringUTF16" "HI_BYTE_SHIFT" "I" (.int (0 : Int32))) (LB : Sta Z h0 "java/lang/StringUTF16" "LO_BYTE_SHIFT" "I" (.int (8 : Int32))) :
    MetFree l (⟨"java/lang/StringUTF16", "codePointAt", "([BII)I"⟩ : MethodName) (head1 (Jvm.Cond.code (⟨"java/lang/StringUTF16", "codePointAt", "([BII)I"⟩ : MethodName) jdk_52_method_8_code 3 (some .int) :: ws) ({ frames := 2, cells := 0, slots := 0, locals := 30 } : Room)) (fun a U => a = #[(.ref a1), (.int (0 : Int32)), (.int (1 : Int32))] ∧ Z.Warmed39 U.vm ∧ U.heap = h0) (fun _ _ _ _ _ => True) (fun _ U o U' => ∃ v L, o = .returned v ∧ own_QI h0 n0 (own_gc x0 x1) v U'.heap L ∧ FrameEnd U o U' L ({ frames := 2, cells := 0, slots := 0, locals := 30 } : Room).cells ({ frames := 2, cells := 0, slots := 0, locals := 30 } : Room).slots) := by
  refine MetFree.of_bodySF (plainFor_of_name pn_20) hisR ?_
  intro p e s m args below meth c s₁ Bd hml0 hP hK
  obtain ⟨rfl, hZ, hh⟩ := hP
  have hx := Bd.exec
  have hby := Bd.bytes
  have hml : c.maxLocals = 3 := hml0
  have hown : s.vm.findClass "java/lang/StringUTF16" = some m.cls := findClass_of_methodNamed Bd.named
  have hnm := (name_of_methodNamed Bd.named Bd.method).1
  have X0 : Stand p l e ({ frames := 2, cells := 0, slots := 0, locals := 30 } : Room) s m #[(.ref a1), (.int (0 : Int32)), (.int (1 : Int32))] below meth c s₁ [] 0 0 := Stand.of_body Bd
  have e0 : s₁.heap = h0 := by rw [← hh, Bd.state]; rfl
  have N0 := Fr.nil n0
  obtain ⟨S0, hS0⟩ : ∃ z, z = s₁.setTop (entryFrame m #[(.ref a1), (.int (0 : Int32)), (.int (1 : Int32))] 3) := ⟨_, rfl⟩
  have P0 : own_Pr p.tables e below S0 s₁ (mkF m 0 #[.val (.ref a1), .val (.int (0 : Int32)), .val (.int (1 : Int32))] []) := fun t k => hS0 ▸ castTop (ef_31_20 m a1) k
  have P1 : own_Pr p.tables e below S0 s₁ (mkF m 4 #[.val (.ref a1), .val (.int (0 : Int32)), .val (.int (1 : Int32))] [(.int (0 : Int32)), (.int (1 : Int32)), (.int (0 : Int32)), (.ref a1)]) := fun t k => P0 t (by
    refine XS.aloadN X0.here hx rfl (hb hby d31_0) rfl rfl ?_
    show Steps p.tables e below (s₁.setTop (mkF m 1 #[.val (.ref a1), .val (.int (0 : Int32)), .val (.int (1 : Int32))] [(.ref a1)])) _
    refine XS.iloadN X0.here hx rfl (hb hby d31_1) rfl ?_
    show Steps p.tables e below (s₁.setTop (mkF m 2 #[.val (.ref a1), .val (.int (0 : Int32)), .val (.int (1 : Int32))] [(.int (0 : Int32)), (.ref a1)])) _
    refine XS.iloadN X0.here hx rfl (hb hby d31_2) rfl ?_
    show Steps p.tables e below (s₁.setTop (mkF m 3 #[.val (.ref a1), .val (.int (0 : Int32)), .val (.int (1 : Int32))] [(.int (1 : Int32)), (.int (0 : Int32)), (.ref a1)])) _
    refine XS.iconst X0.here hx rfl (hb hby d31_3) ?_
    show Steps p.tables e below (s₁.setTop (mkF m 4 #[.val (.ref a1), .val (.int (0 : Int32)), .val (.int (1 : Int32))] [(.int (0 : Int32)), (.int (1 : Int32)), (.int (0 : Int32)), (.ref a1)])) _
    exact k)
  obtain ⟨_, _, ⟨T2, L2, k2, n2⟩, -, X2, ⟨Lc2, hQ2, l2, y2, z2⟩, st2⟩ := Jvm.LawKit.callS X0 hx (y := (⟨"java/lang/StringUTF16", "codePointAt", "([BIIZ)I"⟩ : MethodName)) hown (mvT hZ (hw _ (List.mem_of_getElem? (i := 132) rfl))) (mvT hZ (hw _ (List.mem_of_getElem? (i := 133) rfl))) (mvT hZ (hw _ (List.mem_of_getElem? (i := 62) rfl))) (mvT hZ (hw _ (List.mem_of_getElem? (i := 134) rfl))) (by decide) (backOf (W := 0) (rm32_20 l Z a0 hw [] a1 k1 x0 x1 h0 n0 Z0 V1 AD HB LB) hZ (hw _ (List.mem_of_getElem? (i := 134) rfl)) (hw _ (List.mem_of_getElem? (i := 62) rfl)) (by decide) (by decide)) (g := (mkF m 4 #[.val (.ref a1), .val (.int (0 : Int32)), .val (.int (1 : Int32))] [(.int (0 : Int32)), (.int (1 : Int32)), (.int (0 : Int32)), (.ref a1)])) rfl (by rw [hml]; rfl) (argsL := [(.ref a1), (.int (0 : Int32)), (.int (1 : Int32)), (.int (0 : Int32))]) (rest := []) (lenOf pd_16 rfl) rfl (by show 2 * 0 + _ ≤ _; exact Nat.le_of_eq rfl) (hb hby d31_4) (fun _ _ => ⟨rfl, e0, (by decide : 0 + 0 ≤ _), (by decide : 0 + 0 ≤ _)⟩)
  dsimp only [Pt.U, Pt.locs, Pt.cells, Pt.slots] at X2 l2 y2 z2 st2 hQ2
  subst l2 y2 z2
  obtain ⟨z2v, rfl, hz2v, Nq2, eq2⟩ := hQ2
  have N2n := Fr.app N0 Nq2
  have P3 : own_Pr p.tables e below S0 T2 (mkF m 7 #[.val (.ref a1), .val (.int (0 : Int32)), .val (.int (1 : Int32))] [(.int z2v)]) := fun t k => P1 t (st2 _ k)
  obtain ⟨fs, hr, hrun, hended, hW, hsame⟩ := X2.leave (v := some (.int z2v)) (fun h => by rw [Bd.returns] at h; cases h)
  have fin : Steps p.tables e below S0 (T2.setFrames fs) := P3 _ (retI X2 hx Bd.returns (hb hby d31_7) hr)
  rw [hS0] at fin
  refine ⟨_, _, fin, hrun, hended, _, _, rfl, ?_, ⟨_, rfl⟩, hW, hsame.mono (by decide) (by decide)⟩
  show own_QI h0 n0 (own_gc x0 x1) _ T2.heap _
  rw [eq2]
  exact ⟨_, rfl, hz2v, N2n, rfl⟩
theorem d32_51 : decode jdk_52_method_7_code 51 = .ok (.iload_n 3, 1) := by decide +kernel
theorem d32_52 : decode jdk_52_method_7_code 52 = .ok (.ifCond .eq 8, 3) := by decide +kernel
theorem d32_60 : decode jdk_52_method_7_code 60 = .ok (.aload_n 0, 1) := by decide +kernel
theorem d32_61 : decode jdk_52_method_7_code 61 = .ok (.iload_n 1, 1) := by decide +kernel
theorem d32_62 : decode jdk_52_method_7_code 62 = .ok (.invokestatic 71, 3) := by decide +kernel
theorem d32_65 : decode jdk_52_method_7_code 65 = .ok (.istore 5, 2) := by decide +kernel
theorem d32_67 : decode jdk_52_method_7_code 67 = .ok (.iload 5, 2) := by decide +kernel
theorem d32_69 : decode jdk_52_method_7_code 69 = .ok (.invokestatic 81, 3) := by decide +kernel
theorem d32_72 : decode jdk_52_method_7_code 72 = .ok (.ifCond .eq 11, 3) := by decide +kernel
theorem d32_75 : decode jdk_52_method_7_code 75 = .ok (.iload 4, 2) := by decide +kernel
theorem d32_77 : decode jdk_52_method_7_code 77 = .ok (.iload 5, 2) := by decide +kernel
theorem d32_79 : decode jdk_52_method_7_code 79 = .ok (.invokestatic 84, 3) := by decide +kernel
theorem d32_82 : decode jdk_52_method_7_code 82 = .ok (.ireturn, 1) := by decide +kernel
theorem pd_17 : parseMethodDescriptor "(CC)I" = some ⟨[.char, .char], some .int⟩ := by decide +kernel
theorem ef_32_40 (m : MethodId) (a1 : Addr) : entryFrame m #[(.ref a1), (.int (0 : Int32)), (.int (2 : Int32)), (.int (0 : Int32))] 6 = mkF m 0 #[.val (.ref a1), .val (.int (0 : Int32)), .val (.int (2 : Int32)), .val (.int (0 : Int32)), .unset, .unset] [] := by first | (simp [entryFrame, mkF, argsToLocals, Value.category]; done) | rfl
def own_cpu (x0 x1 x2 x3 : Int32) : Int32 := (if (own_f33 (own_gc x0 x1)) = (0 : Int32) then (own_gc x0 x1) else (if (own_f35 (own_gc x2 x3)) = (0 : Int32) then (own_gc x0 x1) else (own_f36 (own_gc x0 x1) (own_gc x2 x3))))
set_option maxRecDepth 65536 in
set_option maxHeartbeats 40000000 in
theorem rm32_40 (l : Launch) (Z : State) (a0 : Array Value) (hw : ∀ d ∈ tables_1, d.before a0 Z = true) (ws : List Jvm.Cond) (a1 : Addr) (k1 : ClassId) (x0 x1 x2 x3 : Int32) (h0 : Heap) (n0 : Nat) (Z0 : n0 ≤ h0.size) (V1 : Arv Z h0 a1 k1 .byte 4 [(.int x0), (.int x1), (.int x2), (.int x3)] (.int 0)) (AD : Sta Z h0 "java/lang/StringUTF16" "$assertionsDisabled" "Z" (.int (1 : Int32))) (HB : Sta Z h0 "java/lang/StringUTF16" "HI_BYTE_SHIFT" "I" (.int (0 : Int32))) (LB : Sta Z h0 "java/lang/StringUTF16" "LO_BYTE_SHIFT" "I" (.int (8 : Int32))) :
    MetFree l (⟨"java/lang/StringUTF16", "codePointAt", "([BIIZ)I"⟩ : MethodName) (head1 (Jvm.Cond.code (⟨"java/lang/StringUTF16", "codePointAt", "([BIIZ)I"⟩ : MethodName) jdk_52_method_7_code 6 (some .int) :: ws) ({ frames := 1, cells := 0, slots := 0, locals := 13 } : Room)) (fun a U => a = #[(.ref a1), (.int (0 : Int32)), (.int (2 : Int32)), (.int (0 : Int32))] ∧ Z.Warmed39 U.vm ∧ U.heap = h0) (fun _ _ _ _ _ => True) (fun _ U o U' => ∃ v L, o = .returned v ∧ own_QI h0 n0 (own_cpu x0 x1 x2 x3) v U'.heap L ∧ FrameEnd U o U' L ({ frames := 1, cells := 0, slots := 0, locals := 13 } : Room).cells ({ frames := 1, cells := 0, slots := 0, locals := 13 } : Room).slots) := by
  refine MetFree.of_bodySF (plainFor_of_name pn_20) hisR ?_
  intro p e s m args below meth c s₁ Bd hml0 hP hK
  obtain ⟨rfl, hZ, hh⟩ := hP
  have hx := Bd.exec
  have hby := Bd.bytes
  have hml : c.maxLocals = 6 := hml0
  have hown : s.vm.findClass "java/lang/StringUTF16" = some m.cls := findClass_of_methodNamed Bd.named
  have hnm := (name_of_methodNamed Bd.named Bd.method).1
  have X0 : Stand p l e ({ frames := 1, cells := 0, slots := 0, locals := 13 } : Room) s m #[(.ref a1), (.int (0 : Int32)), (.int (2 : Int32)), (.int (0 : Int32))] below meth c s₁ [] 0 0 := Stand.of_body Bd
  have e0 : s₁.heap = h0 := by rw [← hh, Bd.state]; rfl
  have N0 := Fr.nil n0
  obtain ⟨S0, hS0⟩ : ∃ z, z = s₁.setTop (entryFrame m #[(.ref a1), (.int (0 : Int32)), (.int (2 : Int32)), (.int (0 : Int32))] 6) := ⟨_, rfl⟩
  have P0 : own_Pr p.tables e below S0 s₁ (mkF m 0 #[.val (.ref a1), .val (.int (0 : Int32)), .val (.int (2 : Int32)), .val (.int (0 : Int32)), .unset, .unset] []) := fun t k => hS0 ▸ castTop (ef_32_40 m a1) k
  obtain ⟨T1, X1, e1, st1⟩ := getS2 X0 hx hZ hown (host := "") (Or.inl (hw _ (List.mem_of_getElem? (i := 86) rfl))) Via.refl e0 AD (g := (mkF m 0 #[.val (.ref a1), .val (.int (0 : Int32)), .val (.int (2 : Int32)), .val (.int (0 : Int32)), .unset, .unset] [])) rfl (hb hby d32_0)
  have P2 : own_Pr p.tables e below S0 T1 (mkF m 3 #[.val (.ref a1), .val (.int (0 : Int32)), .val (.int (2 : Int32)), .val (.int (0 : Int32)), .unset, .unset] [(.int (1 : Int32))]) := fun t k => P0 t (st1 _ k)
  have P3 : own_Pr p.tables e below S0 T1 (mkF m 30 #[.val (.ref a1), .val (.int (0 : Int32)), .val (.int (2 : Int32)), .val (.int (0 : Int32)), .unset, .unset] [(.int (0 : Int32)), (.ref a1)]) := fun t k => P2 t (by
    refine XS.ifYes X1.here hx rfl (pc0 := 3) (pc' := 19) rfl (hb hby d32_3) rfl (by decide) (by decide) (by decide) ?_
    show Steps p.tables e below (T1.setTop (mkF m 19 #[.val (.ref a1), .val (.int (0 : Int32)), .val (.int (2 : Int32)), .val (.int (0 : Int32)), .unset, .unset] [])) _
    refine XS.iloadN X1.here hx rfl (hb hby d32_19) rfl ?_
    show Steps p.tables e below (T1.setTop (mkF m 20 #[.val (.ref a1), .val (.int (0 : Int32)), .val (.int (2 : Int32)), .val (.int (0 : Int32)), .unset, .unset] [(.int (0 : Int32))])) _
    refine XS.ifYes X1.here hx rfl (pc0 := 20) (pc' := 28) rfl (hb hby d32_20) rfl (by decide) (by decide) (by decide) ?_
    show Steps p.tables e below (T1.setTop (mkF m 28 #[.val (.ref a1), .val (.int (0 : Int32)), .val (.int (2 : Int32)), .val (.int (0 : Int32)), .unset, .unset] [])) _
    refine XS.aloadN X1.here hx rfl (hb hby d32_28) rfl rfl ?_
    show Steps p.tables e below (T1.setTop (mkF m 29 #[.val (.ref a1), .val (.int (0 : Int32)), .val (.int (2 : Int32)), .val (.int (0 : Int32)), .unset, .unset] [(.ref a1)])) _
    refine XS.iloadN X1.here hx rfl (hb hby d32_29) rfl ?_
    show Steps p.tables e below (T1.setTop (mkF m 30 #[.val (.ref a1), .val (.int (0 : Int32)), .val (.int (2 : Int32)), .val (.int (0 : Int32)), .unset, .unset] [(.int (0 : Int32)), (.ref a1)])) _
    exact k)
  obtain ⟨_, _, ⟨T4, L4, k4, n4⟩, -, X4, ⟨Lc4, hQ4, l4, y4, z4⟩, st4⟩ := Jvm.LawKit.callS X1 hx (y := (⟨"java/lang/StringUTF16", "getChar", "([BI)C"⟩ : MethodName)) hown (mvT hZ (hw _ (List.mem_of_getElem? (i := 105) rfl))) (mvT hZ (hw _ (List.mem_of_getElem? (i := 106) rfl))) (mvT hZ (hw _ (List.mem_of_getElem? (i := 62) rfl))) (mvT hZ (hw _ (List.mem_of_getElem? (i := 107) rfl))) (by decide) (backOf (W := 0) (rm26_40 l Z a0 hw [] a1 k1 x0 x1 x2 x3 h0 n0 Z0 V1 AD HB LB) hZ (hw _ (List.mem_of_getElem? (i := 107) rfl)) (hw _ (List.mem_of_getElem? (i := 62) rfl)) (by decide) (by decide)) (g := (mkF m 30 #[.val (.ref a1), .val (.int (0 : Int32)), .val (.int (2 : Int32)), .val (.int (0 : Int32)), .unset, .unset] [(.int (0 : Int32)), (.ref a1)])) rfl (by rw [hml]; rfl) (argsL := [(.ref a1), (.int (0 : Int32))]) (rest := []) (lenOf pd_8 rfl) rfl (by show 2 * 0 + _ ≤ _; exact Nat.le_of_eq rfl) (hb hby d32_30) (fun _ _ => ⟨rfl, e1, (by decide : 0 + 0 ≤ _), (by decide : 0 + 0 ≤ _)⟩)
  dsimp only [Pt.U, Pt.locs, Pt.cells, Pt.slots] at X4 l4 y4 z4 st4 hQ4
  subst l4 y4 z4
  obtain ⟨z4v, rfl, hz4v, Nq4, eq4⟩ := hQ4
  have N4n := Fr.app N0 Nq4
  have P5 : own_Pr p.tables e below S0 T4 (mkF m 33 #[.val (.ref a1), .val (.int (0 : Int32)), .val (.int (2 : Int32)), .val (.int (0 : Int32)), .unset, .unset] [(.int z4v)]) := fun t k => P3 t (st4 _ k)
  have P6 : own_Pr p.tables e below S0 T4 (mkF m 37 #[.val (.ref a1), .val (.int (0 : Int32)), .val (.int (2 : Int32)), .val (.int (0 : Int32)), .val (.int z4v), .unset] [(.int z4v)]) := fun t k => P5 t (by
    refine XS.istore X4.here hx rfl (hb hby d32_33) rfl (l' := #[.val (.ref a1), .val (.int (0 : Int32)), .val (.int (2 : Int32)), .val (.int (0 : Int32)), .val (.int z4v), .unset]) rfl ?_
    show Steps p.tables e below (T4.setTop (mkF m 35 #[.val (.ref a1), .val (.int (0 : Int32)), .val (.int (2 : Int32)), .val (.int (0 : Int32)), .val (.int z4v), .unset] [])) _
    refine XS.iload X4.here hx rfl (hb hby d32_35) rfl ?_
    show Steps p.tables e below (T4.setTop (mkF m 37 #[.val (.ref a1), .val (.int (0 : Int32)), .val (.int (2 : Int32)), .val (.int (0 : Int32)), .val (.int z4v), .unset] [(.int z4v)])) _
    exact k)
  obtain ⟨_, _, ⟨T7, L7, k7, n7⟩, -, X7, ⟨Lc7, hQ7, l7, y7, z7⟩, st7⟩ := Jvm.LawKit.callS X4 hx (y := (⟨"java/lang/Character", "isHighSurrogate", "(C)Z"⟩ : MethodName)) hown (mvT hZ (hw _ (List.mem_of_getElem? (i := 135) rfl))) (mvT hZ (hw _ (List.mem_of_getElem? (i := 136) rfl))) (mvT hZ (hw _ (List.mem_of_getElem? (i := 137) rfl))) (mvT hZ (hw _ (List.mem_of_getElem? (i := 138) rfl))) (by decide) (backOf (W := 0) (rm33 l Z a0 hw [] z4v  h0 n0 Z0 ) hZ (hw _ (List.mem_of_getElem? (i := 138) rfl)) (hw _ (List.mem_of_getElem? (i := 137) rfl)) (by decide) (by decide)) (g := (mkF m 37 #[.val (.ref a1), .val (.int (0 : Int32)), .val (.int (2 : Int32)), .val (.int (0 : Int32)), .val (.int z4v), .unset] [(.int z4v)])) rfl (by rw [hml]; rfl) (argsL := [(.int z4v)]) (rest := []) (lenOf pd_11 rfl) rfl (by show 2 * 0 + _ ≤ _; exact Nat.le_of_eq rfl) (hb hby d32_37) (fun _ _ => ⟨rfl, eq4, (by decide : 0 + 0 ≤ _), (by decide : 0 + 0 ≤ _)⟩)
  dsimp only [Pt.U, Pt.locs, Pt.cells, Pt.slots] at X7 l7 y7 z7 st7 hQ7
  subst l7 y7 z7
  obtain ⟨z7v, rfl, hz7v, Nq7, eq7⟩ := hQ7
  have N7n := Fr.app N4n Nq7
  have P8 : own_Pr p.tables e below S0 T7 (mkF m 40 #[.val (.ref a1), .val (.int (0 : Int32)), .val (.int (2 : Int32)), .val (.int (0 : Int32)), .val (.int z4v), .unset] [(.int z7v)]) := fun t k => P6 t (st7 _ k)
  by_cases hc40_9 : z7v = (0 : Int32)
  · have P10 : own_Pr p.tables e below S0 T7 (mkF m 85 #[.val (.ref a1), .val (.int (0 : Int32)), .val (.int (2 : Int32)), .val (.int (0 : Int32)), .val (.int z4v), .unset] [(.int z4v)]) := fun t k => P8 t (by
      refine XS.ifYes X7.here hx rfl (pc0 := 40) (pc' := 83) rfl (hb hby d32_40) rfl (XT.i0_eq_t hc40_9) (by decide) (by decide) ?_
      show Steps p.tables e below (T7.setTop (mkF m 83 #[.val (.ref a1), .val (.int (0 : Int32)), .val (.int (2 : Int32)), .val (.int (0 : Int32)), .val (.int z4v), .unset] [])) _
      refine XS.iload X7.here hx rfl (hb hby d32_83) rfl ?_
      show Steps p.tables e below (T7.setTop (mkF m 85 #[.val (.ref a1), .val (.int (0 : Int32)), .val (.int (2 : Int32)), .val (.int (0 : Int32)), .val (.int z4v), .unset] [(.int z4v)])) _
      exact k)
    obtain ⟨fs, hr, hrun, hended, hW, hsame⟩ := X7.leave (v := some (.int z4v)) (fun h => by rw [Bd.returns] at h; cases h)
    have fin : Steps p.tables e below S0 (T7.setFrames fs) := P10 _ (retI X7 hx Bd.returns (hb hby d32_85) hr)
    rw [hS0] at fin
    refine ⟨_, _, fin, hrun, hended, _, _, rfl, ?_, ⟨_, rfl⟩, hW, hsame.mono (by decide) (by decide)⟩
    show own_QI h0 n0 (own_cpu x0 x1 x2 x3) _ T7.heap _
    rw [eq7]
    exact ⟨_, rfl, (by subst hz7v; subst hz4v; unfold own_cpu; rw [if_pos hc40_9]), N7n, rfl⟩
  · have P11 : own_Pr p.tables e below S0 T7 (mkF m 62 #[.val (.ref a1), .val (.int (1 : Int32)), .val (.int (2 : Int32)), .val (.int (0 : Int32)), .val (.int z4v), .unset] [(.int (1 : Int32)), (.ref a1)]) := fun t k => P8 t (by
      refine XS.ifNo X7.here hx rfl (hb hby d32_40) rfl (XT.i0_eq_f hc40_9) ?_
      show Steps p.tables e below (T7.setTop (mkF m 43 #[.val (.ref a1), .val (.int (0 : Int32)), .val (.int (2 : Int32)), .val (.int (0 : Int32)), .val (.int z4v), .unset] [])) _
      refine XS.iinc X7.here hx rfl (hb hby d32_43) rfl (l' := #[.val (.ref a1), .val (.int (1 : Int32)), .val (.int (2 : Int32)), .val (.int (0 : Int32)), .val (.int z4v), .unset]) rfl ?_
      show Steps p.tables e below (T7.setTop (mkF m 46 #[.val (.ref a1), .val (.int (1 : Int32)), .val (.int (2 : Int32)), .val (.int (0 : Int32)), .val (.int z4v), .unset] [])) _
      refine XS.iloadN X7.here hx rfl (hb hby d32_46) rfl ?_
      show Steps p.tables e below (T7.setTop (mkF m 47 #[.val (.ref a1), .val (.int (1 : Int32)), .val (.int (2 : Int32)), .val (.int (0 : Int32)), .val (.int z4v), .unset] [(.int (1 : Int32))])) _
      refine XS.iloadN X7.here hx rfl (hb hby d32_47) rfl ?_
      show Steps p.tables e below (T7.setTop (mkF m 48 #[.val (.ref a1), .val (.int (1 : Int32)), .val (.int (2 : Int32)), .val (.int (0 : Int32)), .val (.int z4v), .unset] [(.int (2 : Int32)), (.int (1 : Int32))])) _
      refine XS.icmpNo X7.here hx rfl (hb hby d32_48) rfl (by decide) ?_
      show Steps p.tables e below (T7.setTop (mkF m 51 #[.val (.ref a1), .val (.int (1 : Int32)), .val (.int (2 : Int32)), .val (.int (0 : Int32)), .val (.int z4v), .unset] [])) _
      refine XS.iloadN X7.here hx rfl (hb hby d32_51) rfl ?_
      show Steps p.tables e below (T7.setTop (mkF m 52 #[.val (.ref a1), .val (.int (1 : Int32)), .val (.int (2 : Int32)), .val (.int (0 : Int32)), .val (.int z4v), .unset] [(.int (0 : Int32))])) _
      refine XS.ifYes X7.here hx rfl (pc0 := 52) (pc' := 60) rfl (hb hby d32_52) rfl (by decide) (by decide) (by decide) ?_
      show Steps p.tables e below (T7.setTop (mkF m 60 #[.val (.ref a1), .val (.int (1 : Int32)), .val (.int (2 : Int32)), .val (.int (0 : Int32)), .val (.int z4v), .unset] [])) _
      refine XS.aloadN X7.here hx rfl (hb hby d32_60) rfl rfl ?_
      show Steps p.tables e below (T7.setTop (mkF m 61 #[.val (.ref a1), .val (.int (1 : Int32)), .val (.int (2 : Int32)), .val (.int (0 : Int32)), .val (.int z4v), .unset] [(.ref a1)])) _
      refine XS.iloadN X7.here hx rfl (hb hby d32_61) rfl ?_
      show Steps p.tables e below (T7.setTop (mkF m 62 #[.val (.ref a1), .val (.int (1 : Int32)), .val (.int (2 : Int32)), .val (.int (0 : Int32)), .val (.int z4v), .unset] [(.int (1 : Int32)), (.ref a1)])) _
      exact k)
    obtain ⟨_, _, ⟨T12, L12, k12, n12⟩, -, X12, ⟨Lc12, hQ12, l12, y12, z12⟩, st12⟩ := Jvm.LawKit.callS X7 hx (y := (⟨"java/lang/StringUTF16", "getChar", "([BI)C"⟩ : MethodName)) hown (mvT hZ (hw _ (List.mem_of_getElem? (i := 105) rfl))) (mvT hZ (hw _ (List.mem_of_getElem? (i := 106) rfl))) (mvT hZ (hw _ (List.mem_of_getElem? (i := 62) rfl))) (mvT hZ (hw _ (List.mem_of_getElem? (i := 107) rfl))) (by decide) (backOf (W := 0) (rm26_41 l Z a0 hw [] a1 k1 x0 x1 x2 x3 h0 n0 Z0 V1 AD HB LB) hZ (hw _ (List.mem_of_getElem? (i := 107) rfl)) (hw _ (List.mem_of_getElem? (i := 62) rfl)) (by decide) (by decide)) (g := (mkF m 62 #[.val (.ref a1), .val (.int (1 : Int32)), .val (.int (2 : Int32)), .val (.int (0 : Int32)), .val (.int z4v), .unset] [(.int (1 : Int32)), (.ref a1)])) rfl (by rw [hml]; rfl) (argsL := [(.ref a1), (.int (1 : Int32))]) (rest := []) (lenOf pd_8 rfl) rfl (by show 2 * 0 + _ ≤ _; exact Nat.le_of_eq rfl) (hb hby d32_62) (fun _ _ => ⟨rfl, eq7, (by decide : 0 + 0 ≤ _), (by decide : 0 + 0 ≤ _)⟩)
    dsimp only [Pt.U, Pt.locs, Pt.cells, Pt.slots] at X12 l12 y12 z12 st12 hQ12
    subst l12 y12 z12
    obtain ⟨z12v, rfl, hz12v, Nq12, eq12⟩ := hQ12
    have N12n := Fr.app N7n Nq12
    have P13 : own_Pr p.tables e below S0 T12 (mkF m 65 #[.val (.ref a1), .val (.int (1 : Int32)), .val (.int (2 : Int32)), .val (.int (0 : Int32)), .val (.int z4v), .unset] [(.int z12v)]) := fun t k => P11 t (st12 _ k)
    have P14 : own_Pr p.tables e below S0 T12 (mkF m 69 #[.val (.ref a1), .val (.int (1 : Int32)), .val (.int (2 : Int32)), .val (.int (0 : Int32)), .val (.int z4v), .val (.int z12v)] [(.int z12v)]) := fun t k => P13 t (by
      refine XS.istore X12.here hx rfl (hb hby d32_65) rfl (l' := #[.val (.ref a1), .val (.int (1 : Int32)), .val (.int (2 : Int32)), .val (.int (0 : Int32)), .val (.int z4v), .val (.int z12v)]) rfl ?_
      show Steps p.tables e below (T12.setTop (mkF m 67 #[.val (.ref a1), .val (.int (1 : Int32)), .val (.int (2 : Int32)), .val (.int (0 : Int32)), .val (.int z4v), .val (.int z12v)] [])) _
      refine XS.iload X12.here hx rfl (hb hby d32_67) rfl ?_
      show Steps p.tables e below (T12.setTop (mkF m 69 #[.val (.ref a1), .val (.int (1 : Int32)), .val (.int (2 : Int32)), .val (.int (0 : Int32)), .val (.int z4v), .val (.int z12v)] [(.int z12v)])) _
      exact k)
    obtain ⟨_, _, ⟨T15, L15, k15, n15⟩, -, X15, ⟨Lc15, hQ15, l15, y15, z15⟩, st15⟩ := Jvm.LawKit.callS X12 hx (y := (⟨"java/lang/Character", "isLowSurrogate", "(C)Z"⟩ : MethodName)) hown (mvT hZ (hw _ (List.mem_of_getElem? (i := 145) rfl))) (mvT hZ (hw _ (List.mem_of_getElem? (i := 146) rfl))) (mvT hZ (hw _ (List.mem_of_getElem? (i := 137) rfl))) (mvT hZ (hw _ (List.mem_of_getElem? (i := 147) rfl))) (by decide) (backOf (W := 0) (rm35 l Z a0 hw [] z12v  h0 n0 Z0 ) hZ (hw _ (List.mem_of_getElem? (i := 147) rfl)) (hw _ (List.mem_of_getElem? (i := 137) rfl)) (by decide) (by decide)) (g := (mkF m 69 #[.val (.ref a1), .val (.int (1 : Int32)), .val (.int (2 : Int32)), .val (.int (0 : Int32)), .val (.int z4v), .val (.int z12v)] [(.int z12v)])) rfl (by rw [hml]; rfl) (argsL := [(.int z12v)]) (rest := []) (lenOf pd_11 rfl) rfl (by show 2 * 0 + _ ≤ _; exact Nat.le_of_eq rfl) (hb hby d32_69) (fun _ _ => ⟨rfl, eq12, (by decide : 0 + 0 ≤ _), (by decide : 0 + 0 ≤ _)⟩)
    dsimp only [Pt.U, Pt.locs, Pt.cells, Pt.slots] at X15 l15 y15 z15 st15 hQ15
    subst l15 y15 z15
    obtain ⟨z15v, rfl, hz15v, Nq15, eq15⟩ := hQ15
    have N15n := Fr.app N12n Nq15
    have P16 : own_Pr p.tables e below S0 T15 (mkF m 72 #[.val (.ref a1), .val (.int (1 : Int32)), .val (.int (2 : Int32)), .val (.int (0 : Int32)), .val (.int z4v), .val (.int z12v)] [(.int z15v)]) := fun t k => P14 t (st15 _ k)
    by_cases hc72_17 : z15v = (0 : Int32)
    · have P18 : own_Pr p.tables e below S0 T15 (mkF m 85 #[.val (.ref a1), .val (.int (1 : Int32)), .val (.int (2 : Int32)), .val (.int (0 : Int32)), .val (.int z4v), .val (.int z12v)] [(.int z4v)]) := fun t k => P16 t (by
        refine XS.ifYes X15.here hx rfl (pc0 := 72) (pc' := 83) rfl (hb hby d32_72) rfl (XT.i0_eq_t hc72_17) (by decide) (by decide) ?_
        show Steps p.tables e below (T15.setTop (mkF m 83 #[.val (.ref a1), .val (.int (1 : Int32)), .val (.int (2 : Int32)), .val (.int (0 : Int32)), .val (.int z4v), .val (.int z12v)] [])) _
        refine XS.iload X15.here hx rfl (hb hby d32_83) rfl ?_
        show Steps p.tables e below (T15.setTop (mkF m 85 #[.val (.ref a1), .val (.int (1 : Int32)), .val (.int (2 : Int32)), .val (.int (0 : Int32)), .val (.int z4v), .val (.int z12v)] [(.int z4v)])) _
        exact k)
      obtain ⟨fs, hr, hrun, hended, hW, hsame⟩ := X15.leave (v := some (.int z4v)) (fun h => by rw [Bd.returns] at h; cases h)
      have fin : Steps p.tables e below S0 (T15.setFrames fs) := P18 _ (retI X15 hx Bd.returns (hb hby d32_85) hr)
      rw [hS0] at fin
      refine ⟨_, _, fin, hrun, hended, _, _, rfl, ?_, ⟨_, rfl⟩, hW, hsame.mono (by decide) (by decide)⟩
      show own_QI h0 n0 (own_cpu x0 x1 x2 x3) _ T15.heap _
      rw [eq15]
      exact ⟨_, rfl, (by subst hz15v; subst hz12v; subst hz7v; subst hz4v; unfold own_cpu; rw [if_neg hc40_9, if_pos hc72_17]), N15n, rfl⟩
    · have P19 : own_Pr p.tables e below S0 T15 (mkF m 79 #[.val (.ref a1), .val (.int (1 : Int32)), .val (.int (2 : Int32)), .val (.int (0 : Int32)), .val (.int z4v), .val (.int z12v)] [(.int z12v), (.int z4v)]) := fun t k => P16 t (by
        refine XS.ifNo X15.here hx rfl (hb hby d32_72) rfl (XT.i0_eq_f hc72_17) ?_
        show Steps p.tables e below (T15.setTop (mkF m 75 #[.val (.ref a1), .val (.int (1 : Int32)), .val (.int (2 : Int32)), .val (.int (0 : Int32)), .val (.int z4v), .val (.int z12v)] [])) _
        refine XS.iload X15.here hx rfl (hb hby d32_75) rfl ?_
        show Steps p.tables e below (T15.setTop (mkF m 77 #[.val (.ref a1), .val (.int (1 : Int32)), .val (.int (2 : Int32)), .val (.int (0 : Int32)), .val (.int z4v), .val (.int z12v)] [(.int z4v)])) _
        refine XS.iload X15.here hx rfl (hb hby d32_77) rfl ?_
        show Steps p.tables e below (T15.setTop (mkF m 79 #[.val (.ref a1), .val (.int (1 : Int32)), .val (.int (2 : Int32)), .val (.int (0 : Int32)), .val (.int z4v), .val (.int z12v)] [(.int z12v), (.int z4v)])) _
        exact k)
      obtain ⟨_, _, ⟨T20, L20, k20, n20⟩, -, X20, ⟨Lc20, hQ20, l20, y20, z20⟩, st20⟩ := Jvm.LawKit.callS X15 hx (y := (⟨"java/lang/Character", "toCodePoint", "(CC)I"⟩ : MethodName)) hown (mvT hZ (hw _ (List.mem_of_getElem? (i := 149) rfl))) (mvT hZ (hw _ (List.mem_of_getElem? (i := 150) rfl))) (mvT hZ (hw _ (List.mem_of_getElem? (i := 137) rfl))) (mvT hZ (hw _ (List.mem_of_getElem? (i := 151) rfl))) (by decide) (backOf (W := 0) (rm36 l Z a0 hw [] z4v z12v  h0 n0 Z0 ) hZ (hw _ (List.mem_of_getElem? (i := 151) rfl)) (hw _ (List.mem_of_getElem? (i := 137) rfl)) (by decide) (by decide)) (g := (mkF m 79 #[.val (.ref a1), .val (.int (1 : Int32)), .val (.int (2 : Int32)), .val (.int (0 : Int32)), .val (.int z4v), .val (.int z12v)] [(.int z12v), (.int z4v)])) rfl (by rw [hml]; rfl) (argsL := [(.int z4v), (.int z12v)]) (rest := []) (lenOf pd_17 rfl) rfl (by show 2 * 0 + _ ≤ _; exact Nat.le_of_eq rfl) (hb hby d32_79) (fun _ _ => ⟨rfl, eq15, (by decide : 0 + 0 ≤ _), (by decide : 0 + 0 ≤ _)⟩)
      dsimp only [Pt.U, Pt.locs, Pt.cells, Pt.slots] at X20 l20 y20 z20 st20 hQ20
      subst l20 y20 z20
      obtain ⟨z20v, rfl, hz20v, Nq20, eq20⟩ := hQ20
      have N20n := Fr.app N15n Nq20
      have P21 : own_Pr p.tables e below S0 T20 (mkF m 82 #[.val (.ref a1), .val (.int (1 : Int32)), .val (.int (2 : Int32)), .val (.int (0 : Int32)), .val (.int z4v), .val (.int z12v)] [(.int z20v)]) := fun t k => P19 t (st20 _ k)
      obtain ⟨fs, hr, hrun, hended, hW, hsame⟩ := X20.leave (v := some (.int z20v)) (fun h => by rw [Bd.returns] at h; cases h)
      have fin : Steps p.tables e below S0 (T20.setFrames fs) := P21 _ (retI X20 hx Bd.returns (hb hby d32_82) hr)
      rw [hS0] at fin
      refine ⟨_, _, fin, hrun, hended, _, _, rfl, ?_, ⟨_, rfl⟩, hW, hsame.mono (by decide) (by decide)⟩
      show own_QI h0 n0 (own_cpu x0 x1 x2 x3) _ T20.heap _
      rw [eq20]
      exact ⟨_, rfl, (by subst hz20v; subst hz15v; subst hz12v; subst hz7v; subst hz4v; unfold own_cpu; rw [if_neg hc40_9, if_neg hc72_17]), N20n, rfl⟩
theorem ef_31_40 (m : MethodId) (a1 : Addr) : entryFrame m #[(.ref a1), (.int (0 : Int32)), (.int (2 : Int32))] 3 = mkF m 0 #[.val (.ref a1), .val (.int (0 : Int32)), .val (.int (2 : Int32))] [] := by first | (simp [entryFrame, mkF, argsToLocals, Value.category]; done) | rfl
set_option maxRecDepth 65536 in
set_option maxHeartbeats 40000000 in
theorem rm31_40 (l : Launch) (Z : State) (a0 : Array Value) (hw : ∀ d ∈ tables_1, d.before a0 Z = true) (ws : List Jvm.Cond) (a1 : Addr) (k1 : ClassId) (x0 x1 x2 x3 : Int32) (h0 : Heap) (n0 : Nat) (Z0 : n0 ≤ h0.size) (V1 : Arv Z h0 a1 k1 .byte 4 [(.int x0), (.int x1), (.int x2), (.int x3)] (.int 0)) (AD : Sta Z h0 "java/lang/StringUTF16" "$assertionsDisabled" "Z" (.int (1 : Int32))) (HB : Sta Z h0 "java/lang/StringUTF16" "HI_BYTE_SHIFT" "I" (.int (0 : Int32))) (LB : Sta Z h0 "java/lang/StringUTF16" "LO_BYTE_SHIFT" "I" (.int (8 : Int32))) :
    MetFree l (⟨"java/lang/StringUTF16", "codePointAt", "([BII)I"⟩ : MethodName) (head1 (Jvm.Cond.code (⟨"java/lang/StringUTF16", "codePointAt", "([BII)I"⟩ : MethodName) jdk_52_method_8_code 3 (some .int) :: ws) ({ frames := 2, cells := 0, slots := 0, locals := 30 } : Room)) (fun a U => a = #[(.ref a1), (.int (0 : Int32)), (.int (2 : Int32))] ∧ Z.Warmed39 U.vm ∧ U.heap = h0) (fun _ _ _ _ _ => True) (fun _ U o U' => ∃ v L, o = .returned v ∧ own_QI h0 n0 (own_cpu x0 x1 x2 x3) v U'.heap L ∧ FrameEnd U o U' L ({ frames := 2, cells := 0, slots := 0, locals := 30 } : Room).cells ({ frames := 2, cells := 0, slots := 0, locals := 30 } : Room).slots) := by
  refine MetFree.of_bodySF (plainFor_of_name pn_20) hisR ?_
  intro p e s m args below meth c s₁ Bd hml0 hP hK
  obtain ⟨rfl, hZ, hh⟩ := hP
  have hx := Bd.exec
  have hby := Bd.bytes
  have hml : c.maxLocals = 3 := hml0
  have hown : s.vm.findClass "java/lang/StringUTF16" = some m.cls := findClass_of_methodNamed Bd.named
  have hnm := (name_of_methodNamed Bd.named Bd.method).1
  have X0 : Stand p l e ({ frames := 2, cells := 0, slots := 0, locals := 30 } : Room) s m #[(.ref a1), (.int (0 : Int32)), (.int (2 : Int32))] below meth c s₁ [] 0 0 := Stand.of_body Bd
  have e0 : s₁.heap = h0 := by rw [← hh, Bd.state]; rfl
  have N0 := Fr.nil n0
  obtain ⟨S0, hS0⟩ : ∃ z, z = s₁.setTop (entryFrame m #[(.ref a1), (.int (0 : Int32)), (.int (2 : Int32))] 3) := ⟨_, rfl⟩
  have P0 : own_Pr p.tables e below S0 s₁ (mkF m 0 #[.val (.ref a1), .val (.int (0 : Int32)), .val (.int (2 : Int32))] []) := fun t k => hS0 ▸ castTop (ef_31_40 m a1) k
  have P1 : own_Pr p.tables e below S0 s₁ (mkF m 4 #[.val (.ref a1), .val (.int (0 : Int32)), .val (.int (2 : Int32))] [(.int (0 : Int32)), (.int (2 : Int32)), (.int (0 : Int32)), (.ref a1)]) := fun t k => P0 t (by
    refine XS.aloadN X0.here hx rfl (hb hby d31_0) rfl rfl ?_
    show Steps p.tables e below (s₁.setTop (mkF m 1 #[.val (.ref a1), .val (.int (0 : Int32)), .val (.int (2 : Int32))] [(.ref a1)])) _
    refine XS.iloadN X0.here hx rfl (hb hby d31_1) rfl ?_
    show Steps p.tables e below (s₁.setTop (mkF m 2 #[.val (.ref a1), .val (.int (0 : Int32)), .val (.int (2 : Int32))] [(.int (0 : Int32)), (.ref a1)])) _
    refine XS.iloadN X0.here hx rfl (hb hby d31_2) rfl ?_
    show Steps p.tables e below (s₁.setTop (mkF m 3 #[.val (.ref a1), .val (.int (0 : Int32)), .val (.int (2 : Int32))] [(.int (2 : Int32)), (.int (0 : Int32)), (.ref a1)])) _
    refine XS.iconst X0.here hx rfl (hb hby d31_3) ?_
    show Steps p.tables e below (s₁.setTop (mkF m 4 #[.val (.ref a1), .val (.int (0 : Int32)), .val (.int (2 : Int32))] [(.int (0 : Int32)), (.int (2 : Int32)), (.int (0 : Int32)), (.ref a1)])) _
    exact k)
  obtain ⟨_, _, ⟨T2, L2, k2, n2⟩, -, X2, ⟨Lc2, hQ2, l2, y2, z2⟩, st2⟩ := Jvm.LawKit.callS X0 hx (y := (⟨"java/lang/StringUTF16", "codePointAt", "([BIIZ)I"⟩ : MethodName)) hown (mvT hZ (hw _ (List.mem_of_getElem? (i := 132) rfl))) (mvT hZ (hw _ (List.mem_of_getElem? (i := 133) rfl))) (mvT hZ (hw _ (List.mem_of_getElem? (i := 62) rfl))) (mvT hZ (hw _ (List.mem_of_getElem? (i := 134) rfl))) (by decide) (backOf (W := 0) (rm32_40 l Z a0 hw [] a1 k1 x0 x1 x2 x3 h0 n0 Z0 V1 AD HB LB) hZ (hw _ (List.mem_of_getElem? (i := 134) rfl)) (hw _ (List.mem_of_getElem? (i := 62) rfl)) (by decide) (by decide)) (g := (mkF m 4 #[.val (.ref a1), .val (.int (0 : Int32)), .val (.int (2 : Int32))] [(.int (0 : Int32)), (.int (2 : Int32)), (.int (0 : Int32)), (.ref a1)])) rfl (by rw [hml]; rfl) (argsL := [(.ref a1), (.int (0 : Int32)), (.int (2 : Int32)), (.int (0 : Int32))]) (rest := []) (lenOf pd_16 rfl) rfl (by show 2 * 0 + _ ≤ _; exact Nat.le_of_eq rfl) (hb hby d31_4) (fun _ _ => ⟨rfl, e0, (by decide : 0 + 0 ≤ _), (by decide : 0 + 0 ≤ _)⟩)
  dsimp only [Pt.U, Pt.locs, Pt.cells, Pt.slots] at X2 l2 y2 z2 st2 hQ2
  subst l2 y2 z2
  obtain ⟨z2v, rfl, hz2v, Nq2, eq2⟩ := hQ2
  have N2n := Fr.app N0 Nq2
  have P3 : own_Pr p.tables e below S0 T2 (mkF m 7 #[.val (.ref a1), .val (.int (0 : Int32)), .val (.int (2 : Int32))] [(.int z2v)]) := fun t k => P1 t (st2 _ k)
  obtain ⟨fs, hr, hrun, hended, hW, hsame⟩ := X2.leave (v := some (.int z2v)) (fun h => by rw [Bd.returns] at h; cases h)
  have fin : Steps p.tables e below S0 (T2.setFrames fs) := P3 _ (retI X2 hx Bd.returns (hb hby d31_7) hr)
  rw [hS0] at fin
  refine ⟨_, _, fin, hrun, hended, _, _, rfl, ?_, ⟨_, rfl⟩, hW, hsame.mono (by decide) (by decide)⟩
  show own_QI h0 n0 (own_cpu x0 x1 x2 x3) _ T2.heap _
  rw [eq2]
  exact ⟨_, rfl, hz2v, N2n, rfl⟩
theorem ef_32_41 (m : MethodId) (a1 : Addr) : entryFrame m #[(.ref a1), (.int (1 : Int32)), (.int (2 : Int32)), (.int (0 : Int32))] 6 = mkF m 0 #[.val (.ref a1), .val (.int (1 : Int32)), .val (.int (2 : Int32)), .val (.int (0 : Int32)), .unset, .unset] [] := by first | (simp [entryFrame, mkF, argsToLocals, Value.category]; done) | rfl
set_option maxRecDepth 65536 in
set_option maxHeartbeats 40000000 in
theorem rm32_41 (l : Launch) (Z : State) (a0 : Array Value) (hw : ∀ d ∈ tables_1, d.before a0 Z = true) (ws : List Jvm.Cond) (a1 : Addr) (k1 : ClassId) (x0 x1 x2 x3 : Int32) (h0 : Heap) (n0 : Nat) (Z0 : n0 ≤ h0.size) (V1 : Arv Z h0 a1 k1 .byte 4 [(.int x0), (.int x1), (.int x2), (.int x3)] (.int 0)) (AD : Sta Z h0 "java/lang/StringUTF16" "$assertionsDisabled" "Z" (.int (1 : Int32))) (HB : Sta Z h0 "java/lang/StringUTF16" "HI_BYTE_SHIFT" "I" (.int (0 : Int32))) (LB : Sta Z h0 "java/lang/StringUTF16" "LO_BYTE_SHIFT" "I" (.int (8 : Int32))) :
    MetFree l (⟨"java/lang/StringUTF16", "codePointAt", "([BIIZ)I"⟩ : MethodName) (head1 (Jvm.Cond.code (⟨"java/lang/StringUTF16", "codePointAt", "([BIIZ)I"⟩ : MethodName) jdk_52_method_7_code 6 (some .int) :: ws) ({ frames := 1, cells := 0, slots := 0, locals := 13 } : Room)) (fun a U => a = #[(.ref a1), (.int (1 : Int32)), (.int (2 : Int32)), (.int (0 : Int32))] ∧ Z.Warmed39 U.vm ∧ U.heap = h0) (fun _ _ _ _ _ => True) (fun _ U o U' => ∃ v L, o = .returned v ∧ own_QI h0 n0 (own_gc x2 x3) v U'.heap L ∧ FrameEnd U o U' L ({ frames := 1, cells := 0, slots := 0, locals := 13 } : Room).cells ({ frames := 1, cells := 0, slots := 0, locals := 13 } : Room).slots) := by
  refine MetFree.of_bodySF (plainFor_of_name pn_20) hisR ?_
  intro p e s m args below meth c s₁ Bd hml0 hP hK
  obtain ⟨rfl, hZ, hh⟩ := hP
  have hx := Bd.exec
  have hby := Bd.bytes
  have hml : c.maxLocals = 6 := hml0
  have hown : s.vm.findClass "java/lang/StringUTF16" = some m.cls := findClass_of_methodNamed Bd.named
  have hnm := (name_of_methodNamed Bd.named Bd.method).1
  have X0 : Stand p l e ({ frames := 1, cells := 0, slots := 0, locals := 13 } : Room) s m #[(.ref a1), (.int (1 : Int32)), (.int (2 : Int32)), (.int (0 : Int32))] below meth c s₁ [] 0 0 := Stand.of_body Bd
  have e0 : s₁.heap = h0 := by rw [← hh, Bd.state]; rfl
  have N0 := Fr.nil n0
  obtain ⟨S0, hS0⟩ : ∃ z, z = s₁.setTop (entryFrame m #[(.ref a1), (.int (1 : Int32)), (.int (2 : Int32)), (.int (0 : Int32))] 6) := ⟨_, rfl⟩
  have P0 : own_Pr p.tables e below S0 s₁ (mkF m 0 #[.val (.ref a1), .val (.int (1 : Int32)), .val (.int (2 : Int32)), .val (.int (0 : Int32)), .unset, .unset] []) := fun t k => hS0 ▸ castTop (ef_32_41 m a1) k
  obtain ⟨T1, X1, e1, st1⟩ := getS2 X0 hx hZ hown (host := "") (Or.inl (hw _ (List.mem_of_getElem? (i := 86) rfl))) Via.refl e0 AD (g := (mkF m 0 #[.val (.ref a1), .val (.int (1 : Int32)), .val (.int (2 : Int32)), .val (.int (0 : Int32)), .unset, .unset] [])) rfl (hb hby d32_0)
  have P2 : own_Pr p.tables e below S0 T1 (mkF m 3 #[.val (.ref a1), .val (.int (1 : Int32)), .val (.int (2 : Int32)), .val (.int (0 : Int32)), .unset, .unset] [(.int (1 : Int32))]) := fun t k => P0 t (st1 _ k)
  have P3 : own_Pr p.tables e below S0 T1 (mkF m 30 #[.val (.ref a1), .val (.int (1 : Int32)), .val (.int (2 : Int32)), .val (.int (0 : Int32)), .unset, .unset] [(.int (1 : Int32)), (.ref a1)]) := fun t k => P2 t (by
    refine XS.ifYes X1.here hx rfl (pc0 := 3) (pc' := 19) rfl (hb hby d32_3) rfl (by decide) (by decide) (by decide) ?_
    show Steps p.tables e below (T1.setTop (mkF m 19 #[.val (.ref a1), .val (.int (1 : Int32)), .val (.int (2 : Int32)), .val (.int (0 : Int32)), .unset, .unset] [])) _
    refine XS.iloadN X1.here hx rfl (hb hby d32_19) rfl ?_
    show Steps p.tables e below (T1.setTop (mkF m 20 #[.val (.ref a1), .val (.int (1 : Int32)), .val (.int (2 : Int32)), .val (.int (0 : Int32)), .unset, .unset] [(.int (0 : Int32))])) _
    refine XS.ifYes X1.here hx rfl (pc0 := 20) (pc' := 28) rfl (hb hby d32_20) rfl (by decide) (by decide) (by decide) ?_
    show Steps p.tables e below (T1.setTop (mkF m 28 #[.val (.ref a1), .val (.int (1 : Int32)), .val (.int (2 : Int32)), .val (.int (0 : Int32)), .unset, .unset] [])) _
    refine XS.aloadN X1.here hx rfl (hb hby d32_28) rfl rfl ?_
    show Steps p.tables e below (T1.setTop (mkF m 29 #[.val (.ref a1), .val (.int (1 : Int32)), .val (.int (2 : Int32)), .val (.int (0 : Int32)), .unset, .unset] [(.ref a1)])) _
    refine XS.iloadN X1.here hx rfl (hb hby d32_29) rfl ?_
    show Steps p.tables e below (T1.setTop (mkF m 30 #[.val (.ref a1), .val (.int (1 : Int32)), .val (.int (2 : Int32)), .val (.int (0 : Int32)), .unset, .unset] [(.int (1 : Int32)), (.ref a1)])) _
    exact k)
  obtain ⟨_, _, ⟨T4, L4, k4, n4⟩, -, X4, ⟨Lc4, hQ4, l4, y4, z4⟩, st4⟩ := Jvm.LawKit.callS X1 hx (y := (⟨"java/lang/StringUTF16", "getChar", "([BI)C"⟩ : MethodName)) hown (mvT hZ (hw _ (List.mem_of_getElem? (i := 105) rfl))) (mvT hZ (hw _ (List.mem_of_getElem? (i := 106) rfl))) (mvT hZ (hw _ (List.mem_of_getElem? (i := 62) rfl))) (mvT hZ (hw _ (List.mem_of_getElem? (i := 107) rfl))) (by decide) (backOf (W := 0) (rm26_41 l Z a0 hw [] a1 k1 x0 x1 x2 x3 h0 n0 Z0 V1 AD HB LB) hZ (hw _ (List.mem_of_getElem? (i := 107) rfl)) (hw _ (List.mem_of_getElem? (i := 62) rfl)) (by decide) (by decide)) (g := (mkF m 30 #[.val (.ref a1), .val (.int (1 : Int32)), .val (.int (2 : Int32)), .val (.int (0 : Int32)), .unset, .unset] [(.int (1 : Int32)), (.ref a1)])) rfl (by rw [hml]; rfl) (argsL := [(.ref a1), (.int (1 : Int32))]) (rest := []) (lenOf pd_8 rfl) rfl (by show 2 * 0 + _ ≤ _; exact Nat.le_of_eq rfl) (hb hby d32_30) (fun _ _ => ⟨rfl, e1, (by decide : 0 + 0 ≤ _), (by decide : 0 + 0 ≤ _)⟩)
  dsimp only [Pt.U, Pt.locs, Pt.cells, Pt.slots] at X4 l4 y4 z4 st4 hQ4
  subst l4 y4 z4
  obtain ⟨z4v, rfl, hz4v, Nq4, eq4⟩ := hQ4
  have N4n := Fr.app N0 Nq4
  have P5 : own_Pr p.tables e below S0 T4 (mkF m 33 #[.val (.ref a1), .val (.int (1 : Int32)), .val (.int (2 : Int32)), .val (.int (0 : Int32)), .unset, .unset] [(.int z4v)]) := fun t k => P3 t (st4 _ k)
  have P6 : own_Pr p.tables e below S0 T4 (mkF m 37 #[.val (.ref a1), .val (.int (1 : Int32)), .val (.int (2 : Int32)), .val (.int (0 : Int32)), .val (.int z4v), .unset] [(.int z4v)]) := fun t k => P5 t (by
    refine XS.istore X4.here hx rfl (hb hby d32_33) rfl (l' := #[.val (.ref a1), .val (.int (1 : Int32)), .val (.int (2 : Int32)), .val (.int (0 : Int32)), .val (.int z4v), .unset]) rfl ?_
    show Steps p.tables e below (T4.setTop (mkF m 35 #[.val (.ref a1), .val (.int (1 : Int32)), .val (.int (2 : Int32)), .val (.int (0 : Int32)), .val (.int z4v), .unset] [])) _
    refine XS.iload X4.here hx rfl (hb hby d32_35) rfl ?_
    show Steps p.tables e below (T4.setTop (mkF m 37 #[.val (.ref a1), .val (.int (1 : Int32)), .val (.int (2 : Int32)), .val (.int (0 : Int32)), .val (.int z4v), .unset] [(.int z4v)])) _
    exact k)
  obtain ⟨_, _, ⟨T7, L7, k7, n7⟩, -, X7, ⟨Lc7, hQ7, l7, y7, z7⟩, st7⟩ := Jvm.LawKit.callS X4 hx (y := (⟨"java/lang/Character", "isHighSurrogate", "(C)Z"⟩ : MethodName)) hown (mvT hZ (hw _ (List.mem_of_getElem? (i := 135) rfl))) (mvT hZ (hw _ (List.mem_of_getElem? (i := 136) rfl))) (mvT hZ (hw _ (List.mem_of_getElem? (i := 137) rfl))) (mvT hZ (hw _ (List.mem_of_getElem? (i := 138) rfl))) (by decide) (backOf (W := 0) (rm33 l Z a0 hw [] z4v  h0 n0 Z0 ) hZ (hw _ (List.mem_of_getElem? (i := 138) rfl)) (hw _ (List.mem_of_getElem? (i := 137) rfl)) (by decide) (by decide)) (g := (mkF m 37 #[.val (.ref a1), .val (.int (1 : Int32)), .val (.int (2 : Int32)), .val (.int (0 : Int32)), .val (.int z4v), .unset] [(.int z4v)])) rfl (by rw [hml]; rfl) (argsL := [(.int z4v)]) (rest := []) (lenOf pd_11 rfl) rfl (by show 2 * 0 + _ ≤ _; exact Nat.le_of_eq rfl) (hb hby d32_37) (fun _ _ => ⟨rfl, eq4, (by decide : 0 + 0 ≤ _), (by decide : 0 + 0 ≤ _)⟩)
  dsimp only [Pt.U, Pt.locs, Pt.cells, Pt.slots] at X7 l7 y7 z7 st7 hQ7
  subst l7 y7 z7
  obtain ⟨z7v, rfl, hz7v, Nq7, eq7⟩ := hQ7
  have N7n := Fr.app N4n Nq7
  have P8 : own_Pr p.tables e below S0 T7 (mkF m 40 #[.val (.ref a1), .val (.int (1 : Int32)), .val (.int (2 : Int32)), .val (.int (0 : Int32)), .val (.int z4v), .unset] [(.int z7v)]) := fun t k => P6 t (st7 _ k)
  by_cases hc40_9 : z7v = (0 : Int32)
  · have P10 : own_Pr p.tables e below S0 T7 (mkF m 85 #[.val (.ref a1), .val (.int (1 : Int32)), .val (.int (2 : Int32)), .val (.int (0 : Int32)), .val (.int z4v), .unset] [(.int z4v)]) := fun t k => P8 t (by
      refine XS.ifYes X7.here hx rfl (pc0 := 40) (pc' := 83) rfl (hb hby d32_40) rfl (XT.i0_eq_t hc40_9) (by decide) (by decide) ?_
      show Steps p.tables e below (T7.setTop (mkF m 83 #[.val (.ref a1), .val (.int (1 : Int32)), .val (.int (2 : Int32)), .val (.int (0 : Int32)), .val (.int z4v), .unset] [])) _
      refine XS.iload X7.here hx rfl (hb hby d32_83) rfl ?_
      show Steps p.tables e below (T7.setTop (mkF m 85 #[.val (.ref a1), .val (.int (1 : Int32)), .val (.int (2 : Int32)), .val (.int (0 : Int32)), .val (.int z4v), .unset] [(.int z4v)])) _
      exact k)
    obtain ⟨fs, hr, hrun, hended, hW, hsame⟩ := X7.leave (v := some (.int z4v)) (fun h => by rw [Bd.returns] at h; cases h)
    have fin : Steps p.tables e below S0 (T7.setFrames fs) := P10 _ (retI X7 hx Bd.returns (hb hby d32_85) hr)
    rw [hS0] at fin
    refine ⟨_, _, fin, hrun, hended, _, _, rfl, ?_, ⟨_, rfl⟩, hW, hsame.mono (by decide) (by decide)⟩
    show own_QI h0 n0 (own_gc x2 x3) _ T7.heap _
    rw [eq7]
    exact ⟨_, rfl, hz4v, N7n, rfl⟩
  · have P11 : own_Pr p.tables e below S0 T7 (mkF m 85 #[.val (.ref a1), .val (.int (2 : Int32)), .val (.int (2 : Int32)), .val (.int (0 : Int32)), .val (.int z4v), .unset] [(.int z4v)]) := fun t k => P8 t (by
      refine XS.ifNo X7.here hx rfl (hb hby d32_40) rfl (XT.i0_eq_f hc40_9) ?_
      show Steps p.tables e below (T7.setTop (mkF m 43 #[.val (.ref a1), .val (.int (1 : Int32)), .val (.int (2 : Int32)), .val (.int (0 : Int32)), .val (.int z4v), .unset] [])) _
      refine XS.iinc X7.here hx rfl (hb hby d32_43) rfl (l' := #[.val (.ref a1), .val (.int (2 : Int32)), .val (.int (2 : Int32)), .val (.int (0 : Int32)), .val (.int z4v), .unset]) rfl ?_
      show Steps p.tables e below (T7.setTop (mkF m 46 #[.val (.ref a1), .val (.int (2 : Int32)), .val (.int (2 : Int32)), .val (.int (0 : Int32)), .val (.int z4v), .unset] [])) _
      refine XS.iloadN X7.here hx rfl (hb hby d32_46) rfl ?_
      show Steps p.tables e below (T7.setTop (mkF m 47 #[.val (.ref a1), .val (.int (2 : Int32)), .val (.int (2 : Int32)), .val (.int (0 : Int32)), .val (.int z4v), .unset] [(.int (2 : Int32))])) _
      refine XS.iloadN X7.here hx rfl (hb hby d32_47) rfl ?_
      show Steps p.tables e below (T7.setTop (mkF m 48 #[.val (.ref a1), .val (.int (2 : Int32)), .val (.int (2 : Int32)), .val (.int (0 : Int32)), .val (.int z4v), .unset] [(.int (2 : Int32)), (.int (2 : Int32))])) _
      refine XS.icmpYes X7.here hx rfl (pc0 := 48) (pc' := 83) rfl (hb hby d32_48) rfl (by decide) (by decide) (by decide) ?_
      show Steps p.tables e below (T7.setTop (mkF m 83 #[.val (.ref a1), .val (.int (2 : Int32)), .val (.int (2 : Int32)), .val (.int (0 : Int32)), .val (.int z4v), .unset] [])) _
      refine XS.iload X7.here hx rfl (hb hby d32_83) rfl ?_
      show Steps p.tables e below (T7.setTop (mkF m 85 #[.val (.ref a1), .val (.int (2 : Int32)), .val (.int (2 : Int32)), .val (.int (0 : Int32)), .val (.int z4v), .unset] [(.int z4v)])) _
      exact k)
    obtain ⟨fs, hr, hrun, hended, hW, hsame⟩ := X7.leave (v := some (.int z4v)) (fun h => by rw [Bd.returns] at h; cases h)
    have fin : Steps p.tables e below S0 (T7.setFrames fs) := P11 _ (retI X7 hx Bd.returns (hb hby d32_85) hr)
    rw [hS0] at fin
    refine ⟨_, _, fin, hrun, hended, _, _, rfl, ?_, ⟨_, rfl⟩, hW, hsame.mono (by decide) (by decide)⟩
    show own_QI h0 n0 (own_gc x2 x3) _ T7.heap _
    rw [eq7]
    exact ⟨_, rfl, hz4v, N7n, rfl⟩
theorem ef_31_41 (m : MethodId) (a1 : Addr) : entryFrame m #[(.ref a1), (.int (1 : Int32)), (.int (2 : Int32))] 3 = mkF m 0 #[.val (.ref a1), .val (.int (1 : Int32)), .val (.int (2 : Int32))] [] := by first | (simp [entryFrame, mkF, argsToLocals, Value.category]; done) | rfl
set_option maxRecDepth 65536 in
set_option maxHeartbeats 40000000 in
theorem rm31_41 (l : Launch) (Z : State) (a0 : Array Value) (hw : ∀ d ∈ tables_1, d.before a0 Z = true) (ws : List Jvm.Cond) (a1 : Addr) (k1 : ClassId) (x0 x1 x2 x3 : Int32) (h0 : Heap) (n0 : Nat) (Z0 : n0 ≤ h0.size) (V1 : Arv Z h0 a1 k1 .byte 4 [(.int x0), (.int x1), (.int x2), (.int x3)] (.int 0)) (AD : Sta Z h0 "java/lang/StringUTF16" "$assertionsDisabled" "Z" (.int (1 : Int32))) (HB : Sta Z h0 "java/lang/StringUTF16" "HI_BYTE_SHIFT" "I" (.int (0 : Int32))) (LB : Sta Z h0 "java/lang/StringUTF16" "LO_BYTE_SHIFT" "I" (.int (8 : Int32))) :
    MetFree l (⟨"java/lang/StringUTF16", "codePointAt", "([BII)I"⟩ : MethodName) (head1 (Jvm.Cond.code (⟨"java/lang/StringUTF16", "codePointAt", "([BII)I"⟩ : MethodName) jdk_52_method_8_code 3 (some .int) :: ws) ({ frames := 2, cells := 0, slots := 0, locals := 30 } : Room)) (fun a U => a = #[(.ref a1), (.int (1 : Int32)), (.int (2 : Int32))] ∧ Z.Warmed39 U.vm ∧ U.heap = h0) (fun _ _ _ _ _ => True) (fun _ U o U' => ∃ v L, o = .returned v ∧ own_QI h0 n0 (own_gc x2 x3) v U'.heap L ∧ FrameEnd U o U' L ({ frames := 2, cells := 0, slots := 0, locals := 30 } : Room).cells ({ frames := 2, cells := 0, slots := 0, locals := 30 } : Room).slots) := by
  refine MetFree.of_bodySF (plainFor_of_name pn_20) hisR ?_
  intro p e s m args below meth c s₁ Bd hml0 hP hK
  obtain ⟨rfl, hZ, hh⟩ := hP
  have hx := Bd.exec
  have hby := Bd.bytes
  have hml : c.maxLocals = 3 := hml0
  have hown : s.vm.findClass "java/lang/StringUTF16" = some m.cls := findClass_of_methodNamed Bd.named
  have hnm := (name_of_methodNamed Bd.named Bd.method).1
  have X0 : Stand p l e ({ frames := 2, cells := 0, slots := 0, locals := 30 } : Room) s m #[(.ref a1), (.int (1 : Int32)), (.int (2 : Int32))] below meth c s₁ [] 0 0 := Stand.of_body Bd
  have e0 : s₁.heap = h0 := by rw [← hh, Bd.state]; rfl
  have N0 := Fr.nil n0
  obtain ⟨S0, hS0⟩ : ∃ z, z = s₁.setTop (entryFrame m #[(.ref a1), (.int (1 : Int32)), (.int (2 : Int32))] 3) := ⟨_, rfl⟩
  have P0 : own_Pr p.tables e below S0 s₁ (mkF m 0 #[.val (.ref a1), .val (.int (1 : Int32)), .val (.int (2 : Int32))] []) := fun t k => hS0 ▸ castTop (ef_31_41 m a1) k
  have P1 : own_Pr p.tables e below S0 s₁ (mkF m 4 #[.val (.ref a1), .val (.int (1 : Int32)), .val (.int (2 : Int32))] [(.int (0 : Int32)), (.int (2 : Int32)), (.int (1 : Int32)), (.ref a1)]) := fun t k => P0 t (by
    refine XS.aloadN X0.here hx rfl (hb hby d31_0) rfl rfl ?_
    show Steps p.tables e below (s₁.setTop (mkF m 1 #[.val (.ref a1), .val (.int (1 : Int32)), .val (.int (2 : Int32))] [(.ref a1)])) _
    refine XS.iloadN X0.here hx rfl (hb hby d31_1) rfl ?_
    show Steps p.tables e below (s₁.setTop (mkF m 2 #[.val (.ref a1), .val (.int (1 : Int32)), .val (.int (2 : Int32))] [(.int (1 : Int32)), (.ref a1)])) _
    refine XS.iloadN X0.here hx rfl (hb hby d31_2) rfl ?_
    show Steps p.tables e below (s₁.setTop (mkF m 3 #[.val (.ref a1), .val (.int (1 : Int32)), .val (.int (2 : Int32))] [(.int (2 : Int32)), (.int (1 : Int32)), (.ref a1)])) _
    refine XS.iconst X0.here hx rfl (hb hby d31_3) ?_
    show Steps p.tables e below (s₁.setTop (mkF m 4 #[.val (.ref a1), .val (.int (1 : Int32)), .val (.int (2 : Int32))] [(.int (0 : Int32)), (.int (2 : Int32)), (.int (1 : Int32)), (.ref a1)])) _
    exact k)
  obtain ⟨_, _, ⟨T2, L2, k2, n2⟩, -, X2, ⟨Lc2, hQ2, l2, y2, z2⟩, st2⟩ := Jvm.LawKit.callS X0 hx (y := (⟨"java/lang/StringUTF16", "codePointAt", "([BIIZ)I"⟩ : MethodName)) hown (mvT hZ (hw _ (List.mem_of_getElem? (i := 132) rfl))) (mvT hZ (hw _ (List.mem_of_getElem? (i := 133) rfl))) (mvT hZ (hw _ (List.mem_of_getElem? (i := 62) rfl))) (mvT hZ (hw _ (List.mem_of_getElem? (i := 134) rfl))) (by decide) (backOf (W := 0) (rm32_41 l Z a0 hw [] a1 k1 x0 x1 x2 x3 h0 n0 Z0 V1 AD HB LB) hZ (hw _ (List.mem_of_getElem? (i := 134) rfl)) (hw _ (List.mem_of_getElem? (i := 62) rfl)) (by decide) (by decide)) (g := (mkF m 4 #[.val (.ref a1), .val (.int (1 : Int32)), .val (.int (2 : Int32))] [(.int (0 : Int32)), (.int (2 : Int32)), (.int (1 : Int32)), (.ref a1)])) rfl (by rw [hml]; rfl) (argsL := [(.ref a1), (.int (1 : Int32)), (.int (2 : Int32)), (.int (0 : Int32))]) (rest := []) (lenOf pd_16 rfl) rfl (by show 2 * 0 + _ ≤ _; exact Nat.le_of_eq rfl) (hb hby d31_4) (fun _ _ => ⟨rfl, e0, (by decide : 0 + 0 ≤ _), (by decide : 0 + 0 ≤ _)⟩)
  dsimp only [Pt.U, Pt.locs, Pt.cells, Pt.slots] at X2 l2 y2 z2 st2 hQ2
  subst l2 y2 z2
  obtain ⟨z2v, rfl, hz2v, Nq2, eq2⟩ := hQ2
  have N2n := Fr.app N0 Nq2
  have P3 : own_Pr p.tables e below S0 T2 (mkF m 7 #[.val (.ref a1), .val (.int (1 : Int32)), .val (.int (2 : Int32))] [(.int z2v)]) := fun t k => P1 t (st2 _ k)
  obtain ⟨fs, hr, hrun, hended, hW, hsame⟩ := X2.leave (v := some (.int z2v)) (fun h => by rw [Bd.returns] at h; cases h)
  have fin : Steps p.tables e below S0 (T2.setFrames fs) := P3 _ (retI X2 hx Bd.returns (hb hby d31_7) hr)
  rw [hS0] at fin
  refine ⟨_, _, fin, hrun, hended, _, _, rfl, ?_, ⟨_, rfl⟩, hW, hsame.mono (by decide) (by decide)⟩
  show own_QI h0 n0 (own_gc x2 x3) _ T2.heap _
  rw [eq2]
  exact ⟨_, rfl, hz2v, N2n, rfl⟩
theorem d27_0 : decode jdk_42_method_57_code 0 = .ok (.aload_n 0, 1) := by decide +kernel
theorem d27_1 : decode jdk_42_method_57_code 1 = .ok (.invokevirtual 492, 3) := by decide +kernel
theorem d27_4 : decode jdk_42_method_57_code 4 = .ok (.ifCond .eq 23, 3) := by decide +kernel
theorem d27_27 : decode jdk_42_method_57_code 27 = .ok (.aload_n 0, 1) := by decide +kernel
theorem d27_28 : decode jdk_42_method_57_code 28 = .ok (.getfield 9, 3) := by decide +kernel
theorem d27_31 : decode jdk_42_method_57_code 31 = .ok (.arraylength, 1) := by decide +kernel
theorem d27_32 : decode jdk_42_method_57_code 32 = .ok (.iconst 1, 1) := by decide +kernel
theorem d27_33 : decode jdk_42_method_57_code 33 = .ok (.ishr, 1) := by decide +kernel
theorem d27_34 : decode jdk_42_method_57_code 34 = .ok (.istore_n 2, 1) := by decide +kernel
theorem d27_35 : decode jdk_42_method_57_code 35 = .ok (.iload_n 1, 1) := by decide +kernel
theorem d27_36 : decode jdk_42_method_57_code 36 = .ok (.iload_n 2, 1) := by decide +kernel
theorem d27_37 : decode jdk_42_method_57_code 37 = .ok (.invokestatic 499, 3) := by decide +kernel
theorem d27_40 : decode jdk_42_method_57_code 40 = .ok (.aload_n 0, 1) := by decide +kernel
theorem d27_41 : decode jdk_42_method_57_code 41 = .ok (.getfield 9, 3) := by decide +kernel
theorem d27_44 : decode jdk_42_method_57_code 44 = .ok (.iload_n 1, 1) := by decide +kernel
theorem d27_45 : decode jdk_42_method_57_code 45 = .ok (.iload_n 2, 1) := by decide +kernel
theorem d27_46 : decode jdk_42_method_57_code 46 = .ok (.invokestatic 502, 3) := by decide +kernel
theorem d27_49 : decode jdk_42_method_57_code 49 = .ok (.ireturn, 1) := by decide +kernel
theorem pd_18 : parseMethodDescriptor "()Z" = some ⟨[], some .boolean⟩ := by decide +kernel
theorem pd_19 : parseMethodDescriptor "(II)V" = some ⟨[.int, .int], none⟩ := by decide +kernel
theorem pd_20 : parseMethodDescriptor "([BII)I" = some ⟨[(.array .byte), .int, .int], some .int⟩ := by decide +kernel
theorem ef_27_20 (m : MethodId) (a1 : Addr) : entryFrame m #[(.ref a1), (.int (0 : Int32))] 3 = mkF m 0 #[.val (.ref a1), .val (.int (0 : Int32)), .unset] [] := by first | (simp [entryFrame, mkF, argsToLocals, Value.category]; done) | rfl
set_option maxRecDepth 65536 in
set_option maxHeartbeats 40000000 in
theorem rm27_20 (l : Launch) (Z : State) (a0 : Array Value) (hw : ∀ d ∈ tables_1, d.before a0 Z = true) (ws : List Jvm.Cond) (a1 : Addr) (x0 x1 : Int32) (cs : Int32) (fm : Value) (h0 : Heap) (n0 : Nat) (Z0 : n0 ≤ h0.size) (Sa : own_Su Z h0 a1 2 [x0, x1]) (CS : Sta Z h0 "java/lang/String" "COMPACT_STRINGS" "Z" (.int cs)) (hcs : ¬ cs = (0 : Int32)) (FM : Sta Z h0 "jdk/internal/util/Preconditions" "SIOOBE_FORMATTER" "Ljava/util/function/BiFunction;" fm) (hr_fm : fm.isRef = true) (AD : Sta Z h0 "java/lang/StringUTF16" "$assertionsDisabled" "Z" (.int (1 : Int32))) (HB : Sta Z h0 "java/lang/StringUTF16" "HI_BYTE_SHIFT" "I" (.int (0 : Int32))) (LB : Sta Z h0 "java/lang/StringUTF16" "LO_BYTE_SHIFT" "I" (.int (8 : Int32))) :
    MetFree l (⟨"java/lang/String", "codePointAt", "(I)I"⟩ : MethodName) (head1 (Jvm.Cond.code (⟨"java/lang/String", "codePointAt", "(I)I"⟩ : MethodName) jdk_42_method_57_code 3 (some .int) :: ws) ({ frames := 3, cells := 0, slots := 0, locals := 44 } : Room)) (fun a U => a = #[(.ref a1), (.int (0 : Int32))] ∧ Z.Warmed39 U.vm ∧ U.heap = h0) (fun _ _ _ _ _ => True) (fun _ U o U' => ∃ v L, o = .returned v ∧ own_QI h0 n0 (own_gc x0 x1) v U'.heap L ∧ FrameEnd U o U' L ({ frames := 3, cells := 0, slots := 0, locals := 44 } : Room).cells ({ frames := 3, cells := 0, slots := 0, locals := 44 } : Room).slots) := by
  refine MetFree.of_bodySF (plainFor_of_name pn_7) hisR ?_
  intro p e s m args below meth c s₁ Bd hml0 hP hK
  obtain ⟨rfl, hZ, hh⟩ := hP
  have hx := Bd.exec
  have hby := Bd.bytes
  have hml : c.maxLocals = 3 := hml0
  have hown : s.vm.findClass "java/lang/String" = some m.cls := findClass_of_methodNamed Bd.named
  have hnm := (name_of_methodNamed Bd.named Bd.method).1
  have X0 : Stand p l e ({ frames := 3, cells := 0, slots := 0, locals := 44 } : Room) s m #[(.ref a1), (.int (0 : Int32))] below meth c s₁ [] 0 0 := Stand.of_body Bd
  have e0 : s₁.heap = h0 := by rw [← hh, Bd.state]; rfl
  have N0 := Fr.nil n0
  obtain ⟨S0, hS0⟩ : ∃ z, z = s₁.setTop (entryFrame m #[(.ref a1), (.int (0 : Int32))] 3) := ⟨_, rfl⟩
  have P0 : own_Pr p.tables e below S0 s₁ (mkF m 0 #[.val (.ref a1), .val (.int (0 : Int32)), .unset] []) := fun t k => hS0 ▸ castTop (ef_27_20 m a1) k
  obtain ⟨vb, kb, Es, Fc, Fv, Av⟩ := Sa
  have Av : Arv Z h0 vb kb .byte 2 [(.int x0), (.int x1)] (.int 0) := Av
  have P1 : own_Pr p.tables e below S0 s₁ (mkF m 1 #[.val (.ref a1), .val (.int (0 : Int32)), .unset] [(.ref a1)]) := fun t k => P0 t (by
    refine XS.aloadN X0.here hx rfl (hb hby d27_0) rfl rfl ?_
    show Steps p.tables e below (s₁.setTop (mkF m 1 #[.val (.ref a1), .val (.int (0 : Int32)), .unset] [(.ref a1)])) _
    exact k)
  obtain ⟨cq2, kq2, q2a, q2b, q2c⟩ := isOf hZ e0 Es
  obtain ⟨_, _, ⟨T2, L2, k2, n2⟩, -, X2, ⟨Lc2, hQ2, l2, y2, z2⟩, st2⟩ := X0.virtualBack hx (y := (⟨"java/lang/String", "isLatin1", "()Z"⟩ : MethodName)) (z := (⟨"java/lang/String", "isLatin1", "()Z"⟩ : MethodName)) hown (mvT hZ (hw _ (List.mem_of_getElem? (i := 116) rfl))) (mvT hZ (hw _ (List.mem_of_getElem? (i := 117) rfl))) (notFace_of_selects (args := #[]) (mvT hZ (hw _ (List.mem_of_getElem? (i := 119) rfl)))) (mvT hZ (hw _ (List.mem_of_getElem? (i := 119) rfl))) (mvT hZ (hw _ (List.mem_of_getElem? (i := 118) rfl))) (by decide) (backOf (W := 0) (rm28_u l Z a0 hw [] a1 cs h0 n0 Z0 Fc CS hcs) hZ (hw _ (List.mem_of_getElem? (i := 120) rfl)) (hw _ (List.mem_of_getElem? (i := 6) rfl)) (by decide) (by decide)) q2a q2c (g := (mkF m 1 #[.val (.ref a1), .val (.int (0 : Int32)), .unset] [(.ref a1)])) rfl (by rw [hml]; rfl) (Steps.refl _) (argsL := []) (rest := []) (lenOf pd_18 rfl) rfl (by show 2 * 0 + _ ≤ _; exact Nat.le_of_eq rfl) (hb hby d27_1) (fun _ _ => ⟨rfl, e0, (by decide : 0 + 0 ≤ _), (by decide : 0 + 0 ≤ _)⟩)
  dsimp only [Pt.U, Pt.locs, Pt.cells, Pt.slots] at X2 l2 y2 z2 st2 hQ2
  subst l2 y2 z2
  obtain ⟨z2v, rfl, hz2v, Nq2, eq2⟩ := hQ2
  have N2n := Fr.app N0 Nq2
  have hy2 := hz2v.symm; subst hy2
  have P3 : own_Pr p.tables e below S0 T2 (mkF m 4 #[.val (.ref a1), .val (.int (0 : Int32)), .unset] [(.int (0 : Int32))]) := fun t k => P1 t (st2.trans k)
  have P4 : own_Pr p.tables e below S0 T2 (mkF m 28 #[.val (.ref a1), .val (.int (0 : Int32)), .unset] [(.ref a1)]) := fun t k => P3 t (by
    refine XS.ifYes X2.here hx rfl (pc0 := 4) (pc' := 27) rfl (hb hby d27_4) rfl (by decide) (by decide) (by decide) ?_
    show Steps p.tables e below (T2.setTop (mkF m 27 #[.val (.ref a1), .val (.int (0 : Int32)), .unset] [])) _
    refine XS.aloadN X2.here hx rfl (hb hby d27_27) rfl rfl ?_
    show Steps p.tables e below (T2.setTop (mkF m 28 #[.val (.ref a1), .val (.int (0 : Int32)), .unset] [(.ref a1)])) _
    exact k)
  obtain ⟨T5, X5, e5, st5⟩ := getF X2 hx hZ hown (host := "") (Or.inl (hw _ (List.mem_of_getElem? (i := 24) rfl))) Via.refl eq2 Fv (g := (mkF m 28 #[.val (.ref a1), .val (.int (0 : Int32)), .unset] [(.ref a1)])) rfl rfl (hb hby d27_28)
  have P6 : own_Pr p.tables e below S0 T5 (mkF m 31 #[.val (.ref a1), .val (.int (0 : Int32)), .unset] [(.ref vb)]) := fun t k => P4 t (st5 _ k)
  obtain ⟨cl7, Ar7, q7, S7, N7, H7, G7⟩ := id Av
  have P8 : own_Pr p.tables e below S0 T5 (mkF m 37 #[.val (.ref a1), .val (.int (0 : Int32)), .val (.int (1 : Int32))] [(.int (1 : Int32)), (.int (0 : Int32))]) := fun t k => P6 t (by
    refine X5.arraylength hx (by rw [e5]; exact Ar7.1) (State.isArrayOf_alike hZ.alike Ar7.2.1) (g := (mkF m 31 #[.val (.ref a1), .val (.int (0 : Int32)), .unset] [(.ref vb)])) rfl rfl (hb hby d27_31) _ ?_
    rw [len_of S7 N7]
    show Steps p.tables e below (T5.setTop (mkF m 32 #[.val (.ref a1), .val (.int (0 : Int32)), .unset] [(.int (2 : Int32))])) _
    refine XS.iconst X5.here hx rfl (hb hby d27_32) ?_
    show Steps p.tables e below (T5.setTop (mkF m 33 #[.val (.ref a1), .val (.int (0 : Int32)), .unset] [(.int (1 : Int32)), (.int (2 : Int32))])) _
    refine XS.ishr X5.here hx rfl (hb hby d27_33) rfl ?_
    show Steps p.tables e below (T5.setTop (mkF m 34 #[.val (.ref a1), .val (.int (0 : Int32)), .unset] [(.int (1 : Int32))])) _
    refine XS.istoreN X5.here hx rfl (hb hby d27_34) rfl (l' := #[.val (.ref a1), .val (.int (0 : Int32)), .val (.int (1 : Int32))]) rfl ?_
    show Steps p.tables e below (T5.setTop (mkF m 35 #[.val (.ref a1), .val (.int (0 : Int32)), .val (.int (1 : Int32))] [])) _
    refine XS.iloadN X5.here hx rfl (hb hby d27_35) rfl ?_
    show Steps p.tables e below (T5.setTop (mkF m 36 #[.val (.ref a1), .val (.int (0 : Int32)), .val (.int (1 : Int32))] [(.int (0 : Int32))])) _
    refine XS.iloadN X5.here hx rfl (hb hby d27_36) rfl ?_
    show Steps p.tables e below (T5.setTop (mkF m 37 #[.val (.ref a1), .val (.int (0 : Int32)), .val (.int (1 : Int32))] [(.int (1 : Int32)), (.int (0 : Int32))])) _
    exact k)
  obtain ⟨_, _, ⟨T9, L9, k9, n9⟩, -, X9, ⟨Lc9, hQ9, l9, y9, z9⟩, st9⟩ := Jvm.LawKit.callS X5 hx (y := (⟨"java/lang/String", "checkIndex", "(II)V"⟩ : MethodName)) hown (mvT hZ (hw _ (List.mem_of_getElem? (i := 121) rfl))) (mvT hZ (hw _ (List.mem_of_getElem? (i := 122) rfl))) (mvT hZ (hw _ (List.mem_of_getElem? (i := 6) rfl))) (mvT hZ (hw _ (List.mem_of_getElem? (i := 123) rfl))) (by decide) (backOf (W := 0) (rm29 l Z a0 hw [] (0 : Int32) (1 : Int32) fm h0 n0 Z0 FM hr_fm (by decide) (by decide)) hZ (hw _ (List.mem_of_getElem? (i := 123) rfl)) (hw _ (List.mem_of_getElem? (i := 6) rfl)) (by decide) (by decide)) (g := (mkF m 37 #[.val (.ref a1), .val (.int (0 : Int32)), .val (.int (1 : Int32))] [(.int (1 : Int32)), (.int (0 : Int32))])) rfl (by rw [hml]; rfl) (argsL := [(.int (0 : Int32)), (.int (1 : Int32))]) (rest := []) (lenOf pd_19 rfl) rfl (by show 2 * 0 + _ ≤ _; exact Nat.le_of_eq rfl) (hb hby d27_37) (fun _ _ => ⟨rfl, e5, (by decide : 0 + 0 ≤ _), (by decide : 0 + 0 ≤ _)⟩)
  dsimp only [Pt.U, Pt.locs, Pt.cells, Pt.slots] at X9 l9 y9 z9 st9 hQ9
  subst l9 y9 z9
  obtain ⟨rfl, Nq9, eq9⟩ := hQ9
  have N9n := Fr.app N2n Nq9
  have P10 : own_Pr p.tables e below S0 T9 (mkF m 40 #[.val (.ref a1), .val (.int (0 : Int32)), .val (.int (1 : Int32))] []) := fun t k => P8 t (st9 _ k)
  have P11 : own_Pr p.tables e below S0 T9 (mkF m 41 #[.val (.ref a1), .val (.int (0 : Int32)), .val (.int (1 : Int32))] [(.ref a1)]) := fun t k => P10 t (by
    refine XS.aloadN X9.here hx rfl (hb hby d27_40) rfl rfl ?_
    show Steps p.tables e below (T9.setTop (mkF m 41 #[.val (.ref a1), .val (.int (0 : Int32)), .val (.int (1 : Int32))] [(.ref a1)])) _
    exact k)
  obtain ⟨T12, X12, e12, st12⟩ := getF X9 hx hZ hown (host := "") (Or.inl (hw _ (List.mem_of_getElem? (i := 24) rfl))) Via.refl eq9 Fv (g := (mkF m 41 #[.val (.ref a1), .val (.int (0 : Int32)), .val (.int (1 : Int32))] [(.ref a1)])) rfl rfl (hb hby d27_41)
  have P13 : own_Pr p.tables e below S0 T12 (mkF m 44 #[.val (.ref a1), .val (.int (0 : Int32)), .val (.int (1 : Int32))] [(.ref vb)]) := fun t k => P11 t (st12 _ k)
  have P14 : own_Pr p.tables e below S0 T12 (mkF m 46 #[.val (.ref a1), .val (.int (0 : Int32)), .val (.int (1 : Int32))] [(.int (1 : Int32)), (.int (0 : Int32)), (.ref vb)]) := fun t k => P13 t (by
    refine XS.iloadN X12.here hx rfl (hb hby d27_44) rfl ?_
    show Steps p.tables e below (T12.setTop (mkF m 45 #[.val (.ref a1), .val (.int (0 : Int32)), .val (.int (1 : Int32))] [(.int (0 : Int32)), (.ref vb)])) _
    refine XS.iloadN X12.here hx rfl (hb hby d27_45) rfl ?_
    show Steps p.tables e below (T12.setTop (mkF m 46 #[.val (.ref a1), .val (.int (0 : Int32)), .val (.int (1 : Int32))] [(.int (1 : Int32)), (.int (0 : Int32)), (.ref vb)])) _
    exact k)
  obtain ⟨_, _, ⟨T15, L15, k15, n15⟩, -, X15, ⟨Lc15, hQ15, l15, y15, z15⟩, st15⟩ := Jvm.LawKit.callS X12 hx (y := (⟨"java/lang/StringUTF16", "codePointAt", "([BII)I"⟩ : MethodName)) hown (mvT hZ (hw _ (List.mem_of_getElem? (i := 129) rfl))) (mvT hZ (hw _ (List.mem_of_getElem? (i := 130) rfl))) (mvT hZ (hw _ (List.mem_of_getElem? (i := 62) rfl))) (mvT hZ (hw _ (List.mem_of_getElem? (i := 131) rfl))) (by decide) (backOf (W := 0) (rm31_20 l Z a0 hw [] vb kb x0 x1 h0 n0 Z0 Av AD HB LB) hZ (hw _ (List.mem_of_getElem? (i := 131) rfl)) (hw _ (List.mem_of_getElem? (i := 62) rfl)) (by decide) (by decide)) (g := (mkF m 46 #[.val (.ref a1), .val (.int (0 : Int32)), .val (.int (1 : Int32))] [(.int (1 : Int32)), (.int (0 : Int32)), (.ref vb)])) rfl (by rw [hml]; rfl) (argsL := [(.ref vb), (.int (0 : Int32)), (.int (1 : Int32))]) (rest := []) (lenOf pd_20 rfl) rfl (by show 2 * 0 + _ ≤ _; exact Nat.le_of_eq rfl) (hb hby d27_46) (fun _ _ => ⟨rfl, e12, (by decide : 0 + 0 ≤ _), (by decide : 0 + 0 ≤ _)⟩)
  dsimp only [Pt.U, Pt.locs, Pt.cells, Pt.slots] at X15 l15 y15 z15 st15 hQ15
  subst l15 y15 z15
  obtain ⟨z15v, rfl, hz15v, Nq15, eq15⟩ := hQ15
  have N15n := Fr.app N9n Nq15
  have P16 : own_Pr p.tables e below S0 T15 (mkF m 49 #[.val (.ref a1), .val (.int (0 : Int32)), .val (.int (1 : Int32))] [(.int z15v)]) := fun t k => P14 t (st15 _ k)
  obtain ⟨fs, hr, hrun, hended, hW, hsame⟩ := X15.leave (v := some (.int z15v)) (fun h => by rw [Bd.returns] at h; cases h)
  have fin : Steps p.tables e below S0 (T15.setFrames fs) := P16 _ (retI X15 hx Bd.returns (hb hby d27_49) hr)
  rw [hS0] at fin
  refine ⟨_, _, fin, hrun, hended, _, _, rfl, ?_, ⟨_, rfl⟩, hW, hsame.mono (by decide) (by decide)⟩
  show own_QI h0 n0 (own_gc x0 x1) _ T15.heap _
  rw [eq15]
  exact ⟨_, rfl, hz15v, N15n, rfl⟩
theorem ef_27_40 (m : MethodId) (a1 : Addr) : entryFrame m #[(.ref a1), (.int (0 : Int32))] 3 = mkF m 0 #[.val (.ref a1), .val (.int (0 : Int32)), .unset] [] := by first | (simp [entryFrame, mkF, argsToLocals, Value.category]; done) | rfl
set_option maxRecDepth 65536 in
set_option maxHeartbeats 40000000 in
theorem rm27_40 (l : Launch) (Z : State) (a0 : Array Value) (hw : ∀ d ∈ tables_1, d.before a0 Z = true) (ws : List Jvm.Cond) (a1 : Addr) (x0 x1 x2 x3 : Int32) (cs : Int32) (fm : Value) (h0 : Heap) (n0 : Nat) (Z0 : n0 ≤ h0.size) (Sa : own_Su Z h0 a1 4 [x0, x1, x2, x3]) (CS : Sta Z h0 "java/lang/String" "COMPACT_STRINGS" "Z" (.int cs)) (hcs : ¬ cs = (0 : Int32)) (FM : Sta Z h0 "jdk/internal/util/Preconditions" "SIOOBE_FORMATTER" "Ljava/util/function/BiFunction;" fm) (hr_fm : fm.isRef = true) (AD : Sta Z h0 "java/lang/StringUTF16" "$assertionsDisabled" "Z" (.int (1 : Int32))) (HB : Sta Z h0 "java/lang/StringUTF16" "HI_BYTE_SHIFT" "I" (.int (0 : Int32))) (LB : Sta Z h0 "java/lang/StringUTF16" "LO_BYTE_SHIFT" "I" (.int (8 : Int32))) :
    MetFree l (⟨"java/lang/String", "codePointAt", "(I)I"⟩ : MethodName) (head1 (Jvm.Cond.code (⟨"java/lang/String", "codePointAt", "(I)I"⟩ : MethodName) jdk_42_method_57_code 3 (some .int) :: ws) ({ frames := 3, cells := 0, slots := 0, locals := 44 } : Room)) (fun a U => a = #[(.ref a1), (.int (0 : Int32))] ∧ Z.Warmed39 U.vm ∧ U.heap = h0) (fun _ _ _ _ _ => True) (fun _ U o U' => ∃ v L, o = .returned v ∧ own_QI h0 n0 (own_cpu x0 x1 x2 x3) v U'.heap L ∧ FrameEnd U o U' L ({ frames := 3, cells := 0, slots := 0, locals := 44 } : Room).cells ({ frames := 3, cells := 0, slots := 0, locals := 44 } : Room).slots) := by
  refine MetFree.of_bodySF (plainFor_of_name pn_7) hisR ?_
  intro p e s m args below meth c s₁ Bd hml0 hP hK
  obtain ⟨rfl, hZ, hh⟩ := hP
  have hx := Bd.exec
  have hby := Bd.bytes
  have hml : c.maxLocals = 3 := hml0
  have hown : s.vm.findClass "java/lang/String" = some m.cls := findClass_of_methodNamed Bd.named
  have hnm := (name_of_methodNamed Bd.named Bd.method).1
  have X0 : Stand p l e ({ frames := 3, cells := 0, slots := 0, locals := 44 } : Room) s m #[(.ref a1), (.int (0 : Int32))] below meth c s₁ [] 0 0 := Stand.of_body Bd
  have e0 : s₁.heap = h0 := by rw [← hh, Bd.state]; rfl
  have N0 := Fr.nil n0
  obtain ⟨S0, hS0⟩ : ∃ z, z = s₁.setTop (entryFrame m #[(.ref a1), (.int (0 : Int32))] 3) := ⟨_, rfl⟩
  have P0 : own_Pr p.tables e below S0 s₁ (mkF m 0 #[.val (.ref a1), .val (.int (0 : Int32)), .unset] []) := fun t k => hS0 ▸ castTop (ef_27_40 m a1) k
  obtain ⟨vb, kb, Es, Fc, Fv, Av⟩ := Sa
  have Av : Arv Z h0 vb kb .byte 4 [(.int x0), (.int x1), (.int x2), (.int x3)] (.int 0) := Av
  have P1 : own_Pr p.tables e below S0 s₁ (mkF m 1 #[.val (.ref a1), .val (.int (0 : Int32)), .unset] [(.ref a1)]) := fun t k => P0 t (by
    refine XS.aloadN X0.here hx rfl (hb hby d27_0) rfl rfl ?_
    show Steps p.tables e below (s₁.setTop (mkF m 1 #[.val (.ref a1), .val (.int (0 : Int32)), .unset] [(.ref a1)])) _
    exact k)
  obtain ⟨cq2, kq2, q2a, q2b, q2c⟩ := isOf hZ e0 Es
  obtain ⟨_, _, ⟨T2, L2, k2, n2⟩, -, X2, ⟨Lc2, hQ2, l2, y2, z2⟩, st2⟩ := X0.virtualBack hx (y := (⟨"java/lang/String", "isLatin1", "()Z"⟩ : MethodName)) (z := (⟨"java/lang/String", "isLatin1", "()Z"⟩ : MethodName)) hown (mvT hZ (hw _ (List.mem_of_getElem? (i := 116) rfl))) (mvT hZ (hw _ (List.mem_of_getElem? (i := 117) rfl))) (notFace_of_selects (args := #[]) (mvT hZ (hw _ (List.mem_of_getElem? (i := 119) rfl)))) (mvT hZ (hw _ (List.mem_of_getElem? (i := 119) rfl))) (mvT hZ (hw _ (List.mem_of_getElem? (i := 118) rfl))) (by decide) (backOf (W := 0) (rm28_u l Z a0 hw [] a1 cs h0 n0 Z0 Fc CS hcs) hZ (hw _ (List.mem_of_getElem? (i := 120) rfl)) (hw _ (List.mem_of_getElem? (i := 6) rfl)) (by decide) (by decide)) q2a q2c (g := (mkF m 1 #[.val (.ref a1), .val (.int (0 : Int32)), .unset] [(.ref a1)])) rfl (by rw [hml]; rfl) (Steps.refl _) (argsL := []) (rest := []) (lenOf pd_18 rfl) rfl (by show 2 * 0 + _ ≤ _; exact Nat.le_of_eq rfl) (hb hby d27_1) (fun _ _ => ⟨rfl, e0, (by decide : 0 + 0 ≤ _), (by decide : 0 + 0 ≤ _)⟩)
  dsimp only [Pt.U, Pt.locs, Pt.cells, Pt.slots] at X2 l2 y2 z2 st2 hQ2
  subst l2 y2 z2
  obtain ⟨z2v, rfl, hz2v, Nq2, eq2⟩ := hQ2
  have N2n := Fr.app N0 Nq2
  have hy2 := hz2v.symm; subst hy2
  have P3 : own_Pr p.tables e below S0 T2 (mkF m 4 #[.val (.ref a1), .val (.int (0 : Int32)), .unset] [(.int (0 : Int32))]) := fun t k => P1 t (st2.trans k)
  have P4 : own_Pr p.tables e below S0 T2 (mkF m 28 #[.val (.ref a1), .val (.int (0 : Int32)), .unset] [(.ref a1)]) := fun t k => P3 t (by
    refine XS.ifYes X2.here hx rfl (pc0 := 4) (pc' := 27) rfl (hb hby d27_4) rfl (by decide) (by decide) (by decide) ?_
    show Steps p.tables e below (T2.setTop (mkF m 27 #[.val (.ref a1), .val (.int (0 : Int32)), .unset] [])) _
    refine XS.aloadN X2.here hx rfl (hb hby d27_27) rfl rfl ?_
    show Steps p.tables e below (T2.setTop (mkF m 28 #[.val (.ref a1), .val (.int (0 : Int32)), .unset] [(.ref a1)])) _
    exact k)
  obtain ⟨T5, X5, e5, st5⟩ := getF X2 hx hZ hown (host := "") (Or.inl (hw _ (List.mem_of_getElem? (i := 24) rfl))) Via.refl eq2 Fv (g := (mkF m 28 #[.val (.ref a1), .val (.int (0 : Int32)), .unset] [(.ref a1)])) rfl rfl (hb hby d27_28)
  have P6 : own_Pr p.tables e below S0 T5 (mkF m 31 #[.val (.ref a1), .val (.int (0 : Int32)), .unset] [(.ref vb)]) := fun t k => P4 t (st5 _ k)
  obtain ⟨cl7, Ar7, q7, S7, N7, H7, G7⟩ := id Av
  have P8 : own_Pr p.tables e below S0 T5 (mkF m 37 #[.val (.ref a1), .val (.int (0 : Int32)), .val (.int (2 : Int32))] [(.int (2 : Int32)), (.int (0 : Int32))]) := fun t k => P6 t (by
    refine X5.arraylength hx (by rw [e5]; exact Ar7.1) (State.isArrayOf_alike hZ.alike Ar7.2.1) (g := (mkF m 31 #[.val (.ref a1), .val (.int (0 : Int32)), .unset] [(.ref vb)])) rfl rfl (hb hby d27_31) _ ?_
    rw [len_of S7 N7]
    show Steps p.tables e below (T5.setTop (mkF m 32 #[.val (.ref a1), .val (.int (0 : Int32)), .unset] [(.int (4 : Int32))])) _
    refine XS.iconst X5.here hx rfl (hb hby d27_32) ?_
    show Steps p.tables e below (T5.setTop (mkF m 33 #[.val (.ref a1), .val (.int (0 : Int32)), .unset] [(.int (1 : Int32)), (.int (4 : Int32))])) _
    refine XS.ishr X5.here hx rfl (hb hby d27_33) rfl ?_
    show Steps p.tables e below (T5.setTop (mkF m 34 #[.val (.ref a1), .val (.int (0 : Int32)), .unset] [(.int (2 : Int32))])) _
    refine XS.istoreN X5.here hx rfl (hb hby d27_34) rfl (l' := #[.val (.ref a1), .val (.int (0 : Int32)), .val (.int (2 : Int32))]) rfl ?_
    show Steps p.tables e below (T5.setTop (mkF m 35 #[.val (.ref a1), .val (.int (0 : Int32)), .val (.int (2 : Int32))] [])) _
    refine XS.iloadN X5.here hx rfl (hb hby d27_35) rfl ?_
    show Steps p.tables e below (T5.setTop (mkF m 36 #[.val (.ref a1), .val (.int (0 : Int32)), .val (.int (2 : Int32))] [(.int (0 : Int32))])) _
    refine XS.iloadN X5.here hx rfl (hb hby d27_36) rfl ?_
    show Steps p.tables e below (T5.setTop (mkF m 37 #[.val (.ref a1), .val (.int (0 : Int32)), .val (.int (2 : Int32))] [(.int (2 : Int32)), (.int (0 : Int32))])) _
    exact k)
  obtain ⟨_, _, ⟨T9, L9, k9, n9⟩, -, X9, ⟨Lc9, hQ9, l9, y9, z9⟩, st9⟩ := Jvm.LawKit.callS X5 hx (y := (⟨"java/lang/String", "checkIndex", "(II)V"⟩ : MethodName)) hown (mvT hZ (hw _ (List.mem_of_getElem? (i := 121) rfl))) (mvT hZ (hw _ (List.mem_of_getElem? (i := 122) rfl))) (mvT hZ (hw _ (List.mem_of_getElem? (i := 6) rfl))) (mvT hZ (hw _ (List.mem_of_getElem? (i := 123) rfl))) (by decide) (backOf (W := 0) (rm29 l Z a0 hw [] (0 : Int32) (2 : Int32) fm h0 n0 Z0 FM hr_fm (by decide) (by decide)) hZ (hw _ (List.mem_of_getElem? (i := 123) rfl)) (hw _ (List.mem_of_getElem? (i := 6) rfl)) (by decide) (by decide)) (g := (mkF m 37 #[.val (.ref a1), .val (.int (0 : Int32)), .val (.int (2 : Int32))] [(.int (2 : Int32)), (.int (0 : Int32))])) rfl (by rw [hml]; rfl) (argsL := [(.int (0 : Int32)), (.int (2 : Int32))]) (rest := []) (lenOf pd_19 rfl) rfl (by show 2 * 0 + _ ≤ _; exact Nat.le_of_eq rfl) (hb hby d27_37) (fun _ _ => ⟨rfl, e5, (by decide : 0 + 0 ≤ _), (by decide : 0 + 0 ≤ _)⟩)
  dsimp only [Pt.U, Pt.locs, Pt.cells, Pt.slots] at X9 l9 y9 z9 st9 hQ9
  subst l9 y9 z9
  obtain ⟨rfl, Nq9, eq9⟩ := hQ9
  have N9n := Fr.app N2n Nq9
  have P10 : own_Pr p.tables e below S0 T9 (mkF m 40 #[.val (.ref a1), .val (.int (0 : Int32)), .val (.int (2 : Int32))] []) := fun t k => P8 t (st9 _ k)
  have P11 : own_Pr p.tables e below S0 T9 (mkF m 41 #[.val (.ref a1), .val (.int (0 : Int32)), .val (.int (2 : Int32))] [(.ref a1)]) := fun t k => P10 t (by
    refine XS.aloadN X9.here hx rfl (hb hby d27_40) rfl rfl ?_
    show Steps p.tables e below (T9.setTop (mkF m 41 #[.val (.ref a1), .val (.int (0 : Int32)), .val (.int (2 : Int32))] [(.ref a1)])) _
    exact k)
  obtain ⟨T12, X12, e12, st12⟩ := getF X9 hx hZ hown (host := "") (Or.inl (hw _ (List.mem_of_getElem? (i := 24) rfl))) Via.refl eq9 Fv (g := (mkF m 41 #[.val (.ref a1), .val (.int (0 : Int32)), .val (.int (2 : Int32))] [(.ref a1)])) rfl rfl (hb hby d27_41)
  have P13 : own_Pr p.tables e below S0 T12 (mkF m 44 #[.val (.ref a1), .val (.int (0 : Int32)), .val (.int (2 : Int32))] [(.ref vb)]) := fun t k => P11 t (st12 _ k)
  have P14 : own_Pr p.tables e below S0 T12 (mkF m 46 #[.val (.ref a1), .val (.int (0 : Int32)), .val (.int (2 : Int32))] [(.int (2 : Int32)), (.int (0 : Int32)), (.ref vb)]) := fun t k => P13 t (by
    refine XS.iloadN X12.here hx rfl (hb hby d27_44) rfl ?_
    show Steps p.tables e below (T12.setTop (mkF m 45 #[.val (.ref a1), .val (.int (0 : Int32)), .val (.int (2 : Int32))] [(.int (0 : Int32)), (.ref vb)])) _
    refine XS.iloadN X12.here hx rfl (hb hby d27_45) rfl ?_
    show Steps p.tables e below (T12.setTop (mkF m 46 #[.val (.ref a1), .val (.int (0 : Int32)), .val (.int (2 : Int32))] [(.int (2 : Int32)), (.int (0 : Int32)), (.ref vb)])) _
    exact k)
  obtain ⟨_, _, ⟨T15, L15, k15, n15⟩, -, X15, ⟨Lc15, hQ15, l15, y15, z15⟩, st15⟩ := Jvm.LawKit.callS X12 hx (y := (⟨"java/lang/StringUTF16", "codePointAt", "([BII)I"⟩ : MethodName)) hown (mvT hZ (hw _ (List.mem_of_getElem? (i := 129) rfl))) (mvT hZ (hw _ (List.mem_of_getElem? (i := 130) rfl))) (mvT hZ (hw _ (List.mem_of_getElem? (i := 62) rfl))) (mvT hZ (hw _ (List.mem_of_getElem? (i := 131) rfl))) (by decide) (backOf (W := 0) (rm31_40 l Z a0 hw [] vb kb x0 x1 x2 x3 h0 n0 Z0 Av AD HB LB) hZ (hw _ (List.mem_of_getElem? (i := 131) rfl)) (hw _ (List.mem_of_getElem? (i := 62) rfl)) (by decide) (by decide)) (g := (mkF m 46 #[.val (.ref a1), .val (.int (0 : Int32)), .val (.int (2 : Int32))] [(.int (2 : Int32)), (.int (0 : Int32)), (.ref vb)])) rfl (by rw [hml]; rfl) (argsL := [(.ref vb), (.int (0 : Int32)), (.int (2 : Int32))]) (rest := []) (lenOf pd_20 rfl) rfl (by show 2 * 0 + _ ≤ _; exact Nat.le_of_eq rfl) (hb hby d27_46) (fun _ _ => ⟨rfl, e12, (by decide : 0 + 0 ≤ _), (by decide : 0 + 0 ≤ _)⟩)
  dsimp only [Pt.U, Pt.locs, Pt.cells, Pt.slots] at X15 l15 y15 z15 st15 hQ15
  subst l15 y15 z15
  obtain ⟨z15v, rfl, hz15v, Nq15, eq15⟩ := hQ15
  have N15n := Fr.app N9n Nq15
  have P16 : own_Pr p.tables e below S0 T15 (mkF m 49 #[.val (.ref a1), .val (.int (0 : Int32)), .val (.int (2 : Int32))] [(.int z15v)]) := fun t k => P14 t (st15 _ k)
  obtain ⟨fs, hr, hrun, hended, hW, hsame⟩ := X15.leave (v := some (.int z15v)) (fun h => by rw [Bd.returns] at h; cases h)
  have fin : Steps p.tables e below S0 (T15.setFrames fs) := P16 _ (retI X15 hx Bd.returns (hb hby d27_49) hr)
  rw [hS0] at fin
  refine ⟨_, _, fin, hrun, hended, _, _, rfl, ?_, ⟨_, rfl⟩, hW, hsame.mono (by decide) (by decide)⟩
  show own_QI h0 n0 (own_cpu x0 x1 x2 x3) _ T15.heap _
  rw [eq15]
  exact ⟨_, rfl, hz15v, N15n, rfl⟩
theorem ef_27_41 (m : MethodId) (a1 : Addr) : entryFrame m #[(.ref a1), (.int (1 : Int32))] 3 = mkF m 0 #[.val (.ref a1), .val (.int (1 : Int32)), .unset] [] := by first | (simp [entryFrame, mkF, argsToLocals, Value.category]; done) | rfl
set_option maxRecDepth 65536 in
set_option maxHeartbeats 40000000 in
theorem rm27_41 (l : Launch) (Z : State) (a0 : Array Value) (hw : ∀ d ∈ tables_1, d.before a0 Z = true) (ws : List Jvm.Cond) (a1 : Addr) (x0 x1 x2 x3 : Int32) (cs : Int32) (fm : Value) (h0 : Heap) (n0 : Nat) (Z0 : n0 ≤ h0.size) (Sa : own_Su Z h0 a1 4 [x0, x1, x2, x3]) (CS : Sta Z h0 "java/lang/String" "COMPACT_STRINGS" "Z" (.int cs)) (hcs : ¬ cs = (0 : Int32)) (FM : Sta Z h0 "jdk/internal/util/Preconditions" "SIOOBE_FORMATTER" "Ljava/util/function/BiFunction;" fm) (hr_fm : fm.isRef = true) (AD : Sta Z h0 "java/lang/StringUTF16" "$assertionsDisabled" "Z" (.int (1 : Int32))) (HB : Sta Z h0 "java/lang/StringUTF16" "HI_BYTE_SHIFT" "I" (.int (0 : Int32))) (LB : Sta Z h0 "java/lang/StringUTF16" "LO_BYTE_SHIFT" "I" (.int (8 : Int32))) :
    MetFree l (⟨"java/lang/String", "codePointAt", "(I)I"⟩ : MethodName) (head1 (Jvm.Cond.code (⟨"java/lang/String", "codePointAt", "(I)I"⟩ : MethodName) jdk_42_method_57_code 3 (some .int) :: ws) ({ frames := 3, cells := 0, slots := 0, locals := 44 } : Room)) (fun a U => a = #[(.ref a1), (.int (1 : Int32))] ∧ Z.Warmed39 U.vm ∧ U.heap = h0) (fun _ _ _ _ _ => True) (fun _ U o U' => ∃ v L, o = .returned v ∧ own_QI h0 n0 (own_gc x2 x3) v U'.heap L ∧ FrameEnd U o U' L ({ frames := 3, cells := 0, slots := 0, locals := 44 } : Room).cells ({ frames := 3, cells := 0, slots := 0, locals := 44 } : Room).slots) := by
  refine MetFree.of_bodySF (plainFor_of_name pn_7) hisR ?_
  intro p e s m args below meth c s₁ Bd hml0 hP hK
  obtain ⟨rfl, hZ, hh⟩ := hP
  have hx := Bd.exec
  have hby := Bd.bytes
  have hml : c.maxLocals = 3 := hml0
  have hown : s.vm.findClass "java/lang/String" = some m.cls := findClass_of_methodNamed Bd.named
  have hnm := (name_of_methodNamed Bd.named Bd.method).1
  have X0 : Stand p l e ({ frames := 3, cells := 0, slots := 0, locals := 44 } : Room) s m #[(.ref a1), (.int (1 : Int32))] below meth c s₁ [] 0 0 := Stand.of_body Bd
  have e0 : s₁.heap = h0 := by rw [← hh, Bd.state]; rfl
  have N0 := Fr.nil n0
  obtain ⟨S0, hS0⟩ : ∃ z, z = s₁.setTop (entryFrame m #[(.ref a1), (.int (1 : Int32))] 3) := ⟨_, rfl⟩
  have P0 : own_Pr p.tables e below S0 s₁ (mkF m 0 #[.val (.ref a1), .val (.int (1 : Int32)), .unset] []) := fun t k => hS0 ▸ castTop (ef_27_41 m a1) k
  obtain ⟨vb, kb, Es, Fc, Fv, Av⟩ := Sa
  have Av : Arv Z h0 vb kb .byte 4 [(.int x0), (.int x1), (.int x2), (.int x3)] (.int 0) := Av
  have P1 : own_Pr p.tables e below S0 s₁ (mkF m 1 #[.val (.ref a1), .val (.int (1 : Int32)), .unset] [(.ref a1)]) := fun t k => P0 t (by
    refine XS.aloadN X0.here hx rfl (hb hby d27_0) rfl rfl ?_
    show Steps p.tables e below (s₁.setTop (mkF m 1 #[.val (.ref a1), .val (.int (1 : Int32)), .unset] [(.ref a1)])) _
    exact k)
  obtain ⟨cq2, kq2, q2a, q2b, q2c⟩ := isOf hZ e0 Es
  obtain ⟨_, _, ⟨T2, L2, k2, n2⟩, -, X2, ⟨Lc2, hQ2, l2, y2, z2⟩, st2⟩ := X0.virtualBack hx (y := (⟨"java/lang/String", "isLatin1", "()Z"⟩ : MethodName)) (z := (⟨"java/lang/String", "isLatin1", "()Z"⟩ : MethodName)) hown (mvT hZ (hw _ (List.mem_of_getElem? (i := 116) rfl))) (mvT hZ (hw _ (List.mem_of_getElem? (i := 117) rfl))) (notFace_of_selects (args := #[]) (mvT hZ (hw _ (List.mem_of_getElem? (i := 119) rfl)))) (mvT hZ (hw _ (List.mem_of_getElem? (i := 119) rfl))) (mvT hZ (hw _ (List.mem_of_getElem? (i := 118) rfl))) (by decide) (backOf (W := 0) (rm28_u l Z a0 hw [] a1 cs h0 n0 Z0 Fc CS hcs) hZ (hw _ (List.mem_of_getElem? (i := 120) rfl)) (hw _ (List.mem_of_getElem? (i := 6) rfl)) (by decide) (by decide)) q2a q2c (g := (mkF m 1 #[.val (.ref a1), .val (.int (1 : Int32)), .unset] [(.ref a1)])) rfl (by rw [hml]; rfl) (Steps.refl _) (argsL := []) (rest := []) (lenOf pd_18 rfl) rfl (by show 2 * 0 + _ ≤ _; exact Nat.le_of_eq rfl) (hb hby d27_1) (fun _ _ => ⟨rfl, e0, (by decide : 0 + 0 ≤ _), (by decide : 0 + 0 ≤ _)⟩)
  dsimp only [Pt.U, Pt.locs, Pt.cells, Pt.slots] at X2 l2 y2 z2 st2 hQ2
  subst l2 y2 z2
  obtain ⟨z2v, rfl, hz2v, Nq2, eq2⟩ := hQ2
  have N2n := Fr.app N0 Nq2
  have hy2 := hz2v.symm; subst hy2
  have P3 : own_Pr p.tables e below S0 T2 (mkF m 4 #[.val (.ref a1), .val (.int (1 : Int32)), .unset] [(.int (0 : Int32))]) := fun t k => P1 t (st2.trans k)
  have P4 : own_Pr p.tables e below S0 T2 (mkF m 28 #[.val (.ref a1), .val (.int (1 : Int32)), .unset] [(.ref a1)]) := fun t k => P3 t (by
    refine XS.ifYes X2.here hx rfl (pc0 := 4) (pc' := 27) rfl (hb hby d27_4) rfl (by decide) (by decide) (by decide) ?_
    show Steps p.tables e below (T2.setTop (mkF m 27 #[.val (.ref a1), .val (.int (1 : Int32)), .unset] [])) _
    refine XS.aloadN X2.here hx rfl (hb hby d27_27) rfl rfl ?_
    show Steps p.tables e below (T2.setTop (mkF m 28 #[.val (.ref a1), .val (.int (1 : Int32)), .unset] [(.ref a1)])) _
    exact k)
  obtain ⟨T5, X5, e5, st5⟩ := getF X2 hx hZ hown (host := "") (Or.inl (hw _ (List.mem_of_getElem? (i := 24) rfl))) Via.refl eq2 Fv (g := (mkF m 28 #[.val (.ref a1), .val (.int (1 : Int32)), .unset] [(.ref a1)])) rfl rfl (hb hby d27_28)
  have P6 : own_Pr p.tables e below S0 T5 (mkF m 31 #[.val (.ref a1), .val (.int (1 : Int32)), .unset] [(.ref vb)]) := fun t k => P4 t (st5 _ k)
  obtain ⟨cl7, Ar7, q7, S7, N7, H7, G7⟩ := id Av
  have P8 : own_Pr p.tables e below S0 T5 (mkF m 37 #[.val (.ref a1), .val (.int (1 : Int32)), .val (.int (2 : Int32))] [(.int (2 : Int32)), (.int (1 : Int32))]) := fun t k => P6 t (by
    refine X5.arraylength hx (by rw [e5]; exact Ar7.1) (State.isArrayOf_alike hZ.alike Ar7.2.1) (g := (mkF m 31 #[.val (.ref a1), .val (.int (1 : Int32)), .unset] [(.ref vb)])) rfl rfl (hb hby d27_31) _ ?_
    rw [len_of S7 N7]
    show Steps p.tables e below (T5.setTop (mkF m 32 #[.val (.ref a1), .val (.int (1 : Int32)), .unset] [(.int (4 : Int32))])) _
    refine XS.iconst X5.here hx rfl (hb hby d27_32) ?_
    show Steps p.tables e below (T5.setTop (mkF m 33 #[.val (.ref a1), .val (.int (1 : Int32)), .unset] [(.int (1 : Int32)), (.int (4 : Int32))])) _
    refine XS.ishr X5.here hx rfl (hb hby d27_33) rfl ?_
    show Steps p.tables e below (T5.setTop (mkF m 34 #[.val (.ref a1), .val (.int (1 : Int32)), .unset] [(.int (2 : Int32))])) _
    refine XS.istoreN X5.here hx rfl (hb hby d27_34) rfl (l' := #[.val (.ref a1), .val (.int (1 : Int32)), .val (.int (2 : Int32))]) rfl ?_
    show Steps p.tables e below (T5.setTop (mkF m 35 #[.val (.ref a1), .val (.int (1 : Int32)), .val (.int (2 : Int32))] [])) _
    refine XS.iloadN X5.here hx rfl (hb hby d27_35) rfl ?_
    show Steps p.tables e below (T5.setTop (mkF m 36 #[.val (.ref a1), .val (.int (1 : Int32)), .val (.int (2 : Int32))] [(.int (1 : Int32))])) _
    refine XS.iloadN X5.here hx rfl (hb hby d27_36) rfl ?_
    show Steps p.tables e below (T5.setTop (mkF m 37 #[.val (.ref a1), .val (.int (1 : Int32)), .val (.int (2 : Int32))] [(.int (2 : Int32)), (.int (1 : Int32))])) _
    exact k)
  obtain ⟨_, _, ⟨T9, L9, k9, n9⟩, -, X9, ⟨Lc9, hQ9, l9, y9, z9⟩, st9⟩ := Jvm.LawKit.callS X5 hx (y := (⟨"java/lang/String", "checkIndex", "(II)V"⟩ : MethodName)) hown (mvT hZ (hw _ (List.mem_of_getElem? (i := 121) rfl))) (mvT hZ (hw _ (List.mem_of_getElem? (i := 122) rfl))) (mvT hZ (hw _ (List.mem_of_getElem? (i := 6) rfl))) (mvT hZ (hw _ (List.mem_of_getElem? (i := 123) rfl))) (by decide) (backOf (W := 0) (rm29 l Z a0 hw [] (1 : Int32) (2 : Int32) fm h0 n0 Z0 FM hr_fm (by decide) (by decide)) hZ (hw _ (List.mem_of_getElem? (i := 123) rfl)) (hw _ (List.mem_of_getElem? (i := 6) rfl)) (by decide) (by decide)) (g := (mkF m 37 #[.val (.ref a1), .val (.int (1 : Int32)), .val (.int (2 : Int32))] [(.int (2 : Int32)), (.int (1 : Int32))])) rfl (by rw [hml]; rfl) (argsL := [(.int (1 : Int32)), (.int (2 : Int32))]) (rest := []) (lenOf pd_19 rfl) rfl (by show 2 * 0 + _ ≤ _; exact Nat.le_of_eq rfl) (hb hby d27_37) (fun _ _ => ⟨rfl, e5, (by decide : 0 + 0 ≤ _), (by decide : 0 + 0 ≤ _)⟩)
  dsimp only [Pt.U, Pt.locs, Pt.cells, Pt.slots] at X9 l9 y9 z9 st9 hQ9
  subst l9 y9 z9
  obtain ⟨rfl, Nq9, eq9⟩ := hQ9
  have N9n := Fr.app N2n Nq9
  have P10 : own_Pr p.tables e below S0 T9 (mkF m 40 #[.val (.ref a1), .val (.int (1 : Int32)), .val (.int (2 : Int32))] []) := fun t k => P8 t (st9 _ k)
  have P11 : own_Pr p.tables e below S0 T9 (mkF m 41 #[.val (.ref a1), .val (.int (1 : Int32)), .val (.int (2 : Int32))] [(.ref a1)]) := fun t k => P10 t (by
    refine XS.aloadN X9.here hx rfl (hb hby d27_40) rfl rfl ?_
    show Steps p.tables e below (T9.setTop (mkF m 41 #[.val (.ref a1), .val (.int (1 : Int32)), .val (.int (2 : Int32))] [(.ref a1)])) _
    exact k)
  obtain ⟨T12, X12, e12, st12⟩ := getF X9 hx hZ hown (host := "") (Or.inl (hw _ (List.mem_of_getElem? (i := 24) rfl))) Via.refl eq9 Fv (g := (mkF m 41 #[.val (.ref a1), .val (.int (1 : Int32)), .val (.int (2 : Int32))] [(.ref a1)])) rfl rfl (hb hby d27_41)
  have P13 : own_Pr p.tables e below S0 T12 (mkF m 44 #[.val (.ref a1), .val (.int (1 : Int32)), .val (.int (2 : Int32))] [(.ref vb)]) := fun t k => P11 t (st12 _ k)
  have P14 : own_Pr p.tables e below S0 T12 (mkF m 46 #[.val (.ref a1), .val (.int (1 : Int32)), .val (.int (2 : Int32))] [(.int (2 : Int32)), (.int (1 : Int32)), (.ref vb)]) := fun t k => P13 t (by
    refine XS.iloadN X12.here hx rfl (hb hby d27_44) rfl ?_
    show Steps p.tables e below (T12.setTop (mkF m 45 #[.val (.ref a1), .val (.int (1 : Int32)), .val (.int (2 : Int32))] [(.int (1 : Int32)), (.ref vb)])) _
    refine XS.iloadN X12.here hx rfl (hb hby d27_45) rfl ?_
    show Steps p.tables e below (T12.setTop (mkF m 46 #[.val (.ref a1), .val (.int (1 : Int32)), .val (.int (2 : Int32))] [(.int (2 : Int32)), (.int (1 : Int32)), (.ref vb)])) _
    exact k)
  obtain ⟨_, _, ⟨T15, L15, k15, n15⟩, -, X15, ⟨Lc15, hQ15, l15, y15, z15⟩, st15⟩ := Jvm.LawKit.callS X12 hx (y := (⟨"java/lang/StringUTF16", "codePointAt", "([BII)I"⟩ : MethodName)) hown (mvT hZ (hw _ (List.mem_of_getElem? (i := 129) rfl))) (mvT hZ (hw _ (List.mem_of_getElem? (i := 130) rfl))) (mvT hZ (hw _ (List.mem_of_getElem? (i := 62) rfl))) (mvT hZ (hw _ (List.mem_of_getElem? (i := 131) rfl))) (by decide) (backOf (W := 0) (rm31_41 l Z a0 hw [] vb kb x0 x1 x2 x3 h0 n0 Z0 Av AD HB LB) hZ (hw _ (List.mem_of_getElem? (i := 131) rfl)) (hw _ (List.mem_of_getElem? (i := 62) rfl)) (by decide) (by decide)) (g := (mkF m 46 #[.val (.ref a1), .val (.int (1 : Int32)), .val (.int (2 : Int32))] [(.int (2 : Int32)), (.int (1 : Int32)), (.ref vb)])) rfl (by rw [hml]; rfl) (argsL := [(.ref vb), (.int (1 : Int32)), (.int (2 : Int32))]) (rest := []) (lenOf pd_20 rfl) rfl (by show 2 * 0 + _ ≤ _; exact Nat.le_of_eq rfl) (hb hby d27_46) (fun _ _ => ⟨rfl, e12, (by decide : 0 + 0 ≤ _), (by decide : 0 + 0 ≤ _)⟩)
  dsimp only [Pt.U, Pt.locs, Pt.cells, Pt.slots] at X15 l15 y15 z15 st15 hQ15
  subst l15 y15 z15
  obtain ⟨z15v, rfl, hz15v, Nq15, eq15⟩ := hQ15
  have N15n := Fr.app N9n Nq15
  have P16 : own_Pr p.tables e below S0 T15 (mkF m 49 #[.val (.ref a1), .val (.int (1 : Int32)), .val (.int (2 : Int32))] [(.int z15v)]) := fun t k => P14 t (st15 _ k)
  obtain ⟨fs, hr, hrun, hended, hW, hsame⟩ := X15.leave (v := some (.int z15v)) (fun h => by rw [Bd.returns] at h; cases h)
  have fin : Steps p.tables e below S0 (T15.setFrames fs) := P16 _ (retI X15 hx Bd.returns (hb hby d27_49) hr)
  rw [hS0] at fin
  refine ⟨_, _, fin, hrun, hended, _, _, rfl, ?_, ⟨_, rfl⟩, hW, hsame.mono (by decide) (by decide)⟩
  show own_QI h0 n0 (own_gc x2 x3) _ T15.heap _
  rw [eq15]
  exact ⟨_, rfl, hz15v, N15n, rfl⟩
theorem d27_7 : decode jdk_42_method_57_code 7 = .ok (.iload_n 1, 1) := by decide +kernel
theorem d27_8 : decode jdk_42_method_57_code 8 = .ok (.aload_n 0, 1) := by decide +kernel
theorem d27_9 : decode jdk_42_method_57_code 9 = .ok (.getfield 9, 3) := by decide +kernel
theorem d27_12 : decode jdk_42_method_57_code 12 = .ok (.arraylength, 1) := by decide +kernel
theorem d27_13 : decode jdk_42_method_57_code 13 = .ok (.invokestatic 499, 3) := by decide +kernel
theorem d27_16 : decode jdk_42_method_57_code 16 = .ok (.aload_n 0, 1) := by decide +kernel
theorem d27_17 : decode jdk_42_method_57_code 17 = .ok (.getfield 9, 3) := by decide +kernel
theorem d27_20 : decode jdk_42_method_57_code 20 = .ok (.iload_n 1, 1) := by decide +kernel
theorem d27_21 : decode jdk_42_method_57_code 21 = .ok (.baload, 1) := by decide +kernel
theorem d27_22 : decode jdk_42_method_57_code 22 = .ok (.sipush 255, 3) := by decide +kernel
theorem d27_25 : decode jdk_42_method_57_code 25 = .ok (.iand, 1) := by decide +kernel
theorem d27_26 : decode jdk_42_method_57_code 26 = .ok (.ireturn, 1) := by decide +kernel
theorem ef_27_l (m : MethodId) (a1 : Addr) (p2 : Int32) : entryFrame m #[(.ref a1), (.int p2)] 3 = mkF m 0 #[.val (.ref a1), .val (.int p2), .unset] [] := by first | (simp [entryFrame, mkF, argsToLocals, Value.category]; done) | rfl
set_option maxRecDepth 65536 in
set_option maxHeartbeats 40000000 in
theorem rm27_l (l : Launch) (Z : State) (a0 : Array Value) (hw : ∀ d ∈ tables_1, d.before a0 Z = true) (ws : List Jvm.Cond) (a1 : Addr) (p2 : Int32) (n : Int32) (xs : List Int32) (cs : Int32) (fm : Value) (h0 : Heap) (n0 : Nat) (Z0 : n0 ≤ h0.size) (Sa : own_Sc Z h0 a1 n xs) (CS : Sta Z h0 "java/lang/String" "COMPACT_STRINGS" "Z" (.int cs)) (hcs : ¬ cs = (0 : Int32)) (FM : Sta Z h0 "jdk/internal/util/Preconditions" "SIOOBE_FORMATTER" "Ljava/util/function/BiFunction;" fm) (hr_fm : fm.isRef = true) (h1 : ¬ p2 < (0 : Int32)) (h2 : p2 < n) :
    MetFree l (⟨"java/lang/String", "codePointAt", "(I)I"⟩ : MethodName) (head1 (Jvm.Cond.code (⟨"java/lang/String", "codePointAt", "(I)I"⟩ : MethodName) jdk_42_method_57_code 3 (some .int) :: ws) ({ frames := 3, cells := 0, slots := 0, locals := 44 } : Room)) (fun a U => a = #[(.ref a1), (.int p2)] ∧ Z.Warmed39 U.vm ∧ U.heap = h0) (fun _ _ _ _ _ => True) (fun _ U o U' => ∃ v L, o = .returned v ∧ own_QI h0 n0 ((xs.getD p2.toNatClampNeg 0) &&& 255) v U'.heap L ∧ FrameEnd U o U' L ({ frames := 3, cells := 0, slots := 0, locals := 44 } : Room).cells ({ frames := 3, cells := 0, slots := 0, locals := 44 } : Room).slots) := by
  refine MetFree.of_bodySF (plainFor_of_name pn_7) hisR ?_
  intro p e s m args below meth c s₁ Bd hml0 hP hK
  obtain ⟨rfl, hZ, hh⟩ := hP
  have hx := Bd.exec
  have hby := Bd.bytes
  have hml : c.maxLocals = 3 := hml0
  have hown : s.vm.findClass "java/lang/String" = some m.cls := findClass_of_methodNamed Bd.named
  have hnm := (name_of_methodNamed Bd.named Bd.method).1
  have X0 : Stand p l e ({ frames := 3, cells := 0, slots := 0, locals := 44 } : Room) s m #[(.ref a1), (.int p2)] below meth c s₁ [] 0 0 := Stand.of_body Bd
  have e0 : s₁.heap = h0 := by rw [← hh, Bd.state]; rfl
  have N0 := Fr.nil n0
  obtain ⟨S0, hS0⟩ : ∃ z, z = s₁.setTop (entryFrame m #[(.ref a1), (.int p2)] 3) := ⟨_, rfl⟩
  have P0 : own_Pr p.tables e below S0 s₁ (mkF m 0 #[.val (.ref a1), .val (.int p2), .unset] []) := fun t k => hS0 ▸ castTop (ef_27_l m a1 p2) k
  obtain ⟨vb, kb, Es, Fc, Fv, Av⟩ := Sa
  obtain ⟨cl, Tc, At⟩ := own_tab Av
  have P1 : own_Pr p.tables e below S0 s₁ (mkF m 1 #[.val (.ref a1), .val (.int p2), .unset] [(.ref a1)]) := fun t k => P0 t (by
    refine XS.aloadN X0.here hx rfl (hb hby d27_0) rfl rfl ?_
    show Steps p.tables e below (s₁.setTop (mkF m 1 #[.val (.ref a1), .val (.int p2), .unset] [(.ref a1)])) _
    exact k)
  obtain ⟨cq2, kq2, q2a, q2b, q2c⟩ := isOf hZ e0 Es
  obtain ⟨_, _, ⟨T2, L2, k2, n2⟩, -, X2, ⟨Lc2, hQ2, l2, y2, z2⟩, st2⟩ := X0.virtualBack hx (y := (⟨"java/lang/String", "isLatin1", "()Z"⟩ : MethodName)) (z := (⟨"java/lang/String", "isLatin1", "()Z"⟩ : MethodName)) hown (mvT hZ (hw _ (List.mem_of_getElem? (i := 116) rfl))) (mvT hZ (hw _ (List.mem_of_getElem? (i := 117) rfl))) (notFace_of_selects (args := #[]) (mvT hZ (hw _ (List.mem_of_getElem? (i := 119) rfl)))) (mvT hZ (hw _ (List.mem_of_getElem? (i := 119) rfl))) (mvT hZ (hw _ (List.mem_of_getElem? (i := 118) rfl))) (by decide) (backOf (W := 0) (rm28 l Z a0 hw [] a1 cs h0 n0 Z0 Fc CS hcs) hZ (hw _ (List.mem_of_getElem? (i := 120) rfl)) (hw _ (List.mem_of_getElem? (i := 6) rfl)) (by decide) (by decide)) q2a q2c (g := (mkF m 1 #[.val (.ref a1), .val (.int p2), .unset] [(.ref a1)])) rfl (by rw [hml]; rfl) (Steps.refl _) (argsL := []) (rest := []) (lenOf pd_18 rfl) rfl (by show 2 * 0 + _ ≤ _; exact Nat.le_of_eq rfl) (hb hby d27_1) (fun _ _ => ⟨rfl, e0, (by decide : 0 + 0 ≤ _), (by decide : 0 + 0 ≤ _)⟩)
  dsimp only [Pt.U, Pt.locs, Pt.cells, Pt.slots] at X2 l2 y2 z2 st2 hQ2
  subst l2 y2 z2
  obtain ⟨z2v, rfl, hz2v, Nq2, eq2⟩ := hQ2
  have N2n := Fr.app N0 Nq2
  have hy2 := hz2v.symm; subst hy2
  have P3 : own_Pr p.tables e below S0 T2 (mkF m 4 #[.val (.ref a1), .val (.int p2), .unset] [(.int (1 : Int32))]) := fun t k => P1 t (st2.trans k)
  have P4 : own_Pr p.tables e below S0 T2 (mkF m 9 #[.val (.ref a1), .val (.int p2), .unset] [(.ref a1), (.int p2)]) := fun t k => P3 t (by
    refine XS.ifNo X2.here hx rfl (hb hby d27_4) rfl (by decide) ?_
    show Steps p.tables e below (T2.setTop (mkF m 7 #[.val (.ref a1), .val (.int p2), .unset] [])) _
    refine XS.iloadN X2.here hx rfl (hb hby d27_7) rfl ?_
    show Steps p.tables e below (T2.setTop (mkF m 8 #[.val (.ref a1), .val (.int p2), .unset] [(.int p2)])) _
    refine XS.aloadN X2.here hx rfl (hb hby d27_8) rfl rfl ?_
    show Steps p.tables e below (T2.setTop (mkF m 9 #[.val (.ref a1), .val (.int p2), .unset] [(.ref a1), (.int p2)])) _
    exact k)
  obtain ⟨T5, X5, e5, st5⟩ := getF X2 hx hZ hown (host := "") (Or.inl (hw _ (List.mem_of_getElem? (i := 24) rfl))) Via.refl eq2 Fv (g := (mkF m 9 #[.val (.ref a1), .val (.int p2), .unset] [(.ref a1), (.int p2)])) rfl rfl (hb hby d27_9)
  have P6 : own_Pr p.tables e below S0 T5 (mkF m 12 #[.val (.ref a1), .val (.int p2), .unset] [(.ref vb), (.int p2)]) := fun t k => P4 t (st5 _ k)
  have P7 : own_Pr p.tables e below S0 T5 (mkF m 13 #[.val (.ref a1), .val (.int p2), .unset] [(.int n), (.int p2)]) := fun t k => P6 t (by
    refine X5.arraylength hx (by rw [e5]; exact Tc.1.1) (State.isArrayOf_alike hZ.alike Tc.1.2.1) (g := (mkF m 12 #[.val (.ref a1), .val (.int p2), .unset] [(.ref vb), (.int p2)])) rfl rfl (hb hby d27_12) _ ?_
    rw [len_of Tc.2.1 Tc.2.2.1]
    show Steps p.tables e below (T5.setTop (mkF m 13 #[.val (.ref a1), .val (.int p2), .unset] [(.int n), (.int p2)])) _
    exact k)
  obtain ⟨_, _, ⟨T8, L8, k8, n8⟩, -, X8, ⟨Lc8, hQ8, l8, y8, z8⟩, st8⟩ := Jvm.LawKit.callS X5 hx (y := (⟨"java/lang/String", "checkIndex", "(II)V"⟩ : MethodName)) hown (mvT hZ (hw _ (List.mem_of_getElem? (i := 121) rfl))) (mvT hZ (hw _ (List.mem_of_getElem? (i := 122) rfl))) (mvT hZ (hw _ (List.mem_of_getElem? (i := 6) rfl))) (mvT hZ (hw _ (List.mem_of_getElem? (i := 123) rfl))) (by decide) (backOf (W := 0) (rm29 l Z a0 hw [] p2 n fm h0 n0 Z0 FM hr_fm h1 h2) hZ (hw _ (List.mem_of_getElem? (i := 123) rfl)) (hw _ (List.mem_of_getElem? (i := 6) rfl)) (by decide) (by decide)) (g := (mkF m 13 #[.val (.ref a1), .val (.int p2), .unset] [(.int n), (.int p2)])) rfl (by rw [hml]; rfl) (argsL := [(.int p2), (.int n)]) (rest := []) (lenOf pd_19 rfl) rfl (by show 2 * 0 + _ ≤ _; exact Nat.le_of_eq rfl) (hb hby d27_13) (fun _ _ => ⟨rfl, e5, (by decide : 0 + 0 ≤ _), (by decide : 0 + 0 ≤ _)⟩)
  dsimp only [Pt.U, Pt.locs, Pt.cells, Pt.slots] at X8 l8 y8 z8 st8 hQ8
  subst l8 y8 z8
  obtain ⟨rfl, Nq8, eq8⟩ := hQ8
  have N8n := Fr.app N2n Nq8
  have P9 : own_Pr p.tables e below S0 T8 (mkF m 16 #[.val (.ref a1), .val (.int p2), .unset] []) := fun t k => P7 t (st8 _ k)
  have P10 : own_Pr p.tables e below S0 T8 (mkF m 17 #[.val (.ref a1), .val (.int p2), .unset] [(.ref a1)]) := fun t k => P9 t (by
    refine XS.aloadN X8.here hx rfl (hb hby d27_16) rfl rfl ?_
    show Steps p.tables e below (T8.setTop (mkF m 17 #[.val (.ref a1), .val (.int p2), .unset] [(.ref a1)])) _
    exact k)
  obtain ⟨T11, X11, e11, st11⟩ := getF X8 hx hZ hown (host := "") (Or.inl (hw _ (List.mem_of_getElem? (i := 24) rfl))) Via.refl eq8 Fv (g := (mkF m 17 #[.val (.ref a1), .val (.int p2), .unset] [(.ref a1)])) rfl rfl (hb hby d27_17)
  have P12 : own_Pr p.tables e below S0 T11 (mkF m 20 #[.val (.ref a1), .val (.int p2), .unset] [(.ref vb)]) := fun t k => P10 t (st11 _ k)
  have hin21_13 : ¬ (p2 < 0 ∨ cl.slots.size ≤ (p2).toNatClampNeg) := inb_of Tc.2.1 ⟨h1, h2⟩
  have P14 : own_Pr p.tables e below S0 T11 (mkF m 26 #[.val (.ref a1), .val (.int p2), .unset] [(.int ((atv cl p2) &&& (255 : Int32)))]) := fun t k => P12 t (by
    refine XS.iloadN X11.here hx rfl (hb hby d27_20) rfl ?_
    show Steps p.tables e below (T11.setTop (mkF m 21 #[.val (.ref a1), .val (.int p2), .unset] [(.int p2), (.ref vb)])) _
    refine X11.baloadBytes hx (j := p2) (v := .int (atv cl p2)) (by rw [e11]; exact Tc.1.1) (State.isArrayOf_alike hZ.alike Tc.1.2.1) Tc.1.2.2 hin21_13 (Tc.2.2.2 _ hin21_13) (g := (mkF m 21 #[.val (.ref a1), .val (.int p2), .unset] [(.int p2), (.ref vb)])) rfl rfl (hb hby d27_21) _ ?_
    show Steps p.tables e below (T11.setTop (mkF m 22 #[.val (.ref a1), .val (.int p2), .unset] [(.int (atv cl p2))])) _
    refine XS.sipush X11.here hx rfl (hb hby d27_22) ?_
    show Steps p.tables e below (T11.setTop (mkF m 25 #[.val (.ref a1), .val (.int p2), .unset] [(.int (255 : Int32)), (.int (atv cl p2))])) _
    refine XS.iand X11.here hx rfl (hb hby d27_25) rfl ?_
    show Steps p.tables e below (T11.setTop (mkF m 26 #[.val (.ref a1), .val (.int p2), .unset] [(.int ((atv cl p2) &&& (255 : Int32)))])) _
    exact k)
  obtain ⟨fs, hr, hrun, hended, hW, hsame⟩ := X11.leave (v := some (.int ((atv cl p2) &&& (255 : Int32)))) (fun h => by rw [Bd.returns] at h; cases h)
  have fin : Steps p.tables e below S0 (T11.setFrames fs) := P14 _ (retI X11 hx Bd.returns (hb hby d27_26) hr)
  rw [hS0] at fin
  refine ⟨_, _, fin, hrun, hended, _, _, rfl, ?_, ⟨_, rfl⟩, hW, hsame.mono (by decide) (by decide)⟩
  show own_QI h0 n0 ((xs.getD p2.toNatClampNeg 0) &&& 255) _ T11.heap _
  rw [e11]
  exact ⟨_, rfl, (by rw [At _ h1 h2]), N8n, rfl⟩
/-- the sign at 0 -/
def own_cp0 (n c0 c1 : Int32) : Int32 := if n = 2 then (if (own_f33 c0) = (0 : Int32) then c0 else (if (own_f35 c1) = (0 : Int32) then c0 else (own_f36 c0 c1))) else c0
theorem own_hs0 {c : Int32} (h : ¬ (255 : Int32) < c) : own_f33 c = 0 := by
  unfold own_f33
  have q : c < (55296 : Int32) := by
    have e1 : (255 : Int32).toInt = 255 := rfl
    have e2 : (55296 : Int32).toInt = 55296 := rfl
    rw [Int32.lt_iff_toInt_lt, e1] at h; rw [Int32.lt_iff_toInt_lt, e2]; omega
  rw [if_pos q]
theorem own_cpu_eq {c0 c1 : Int32} (h0 : own_ch c0) (h1 : own_ch c1) : own_cpu (nar .byte ((c0 >>> ((0 : Int32) &&& 31)).toInt8.toInt32)) (nar .byte ((c0 >>> ((8 : Int32) &&& 31)).toInt8.toInt32)) (nar .byte ((c1 >>> ((0 : Int32) &&& 31)).toInt8.toInt32)) (nar .byte ((c1 >>> ((8 : Int32) &&& 31)).toInt8.toInt32)) = own_cp0 2 c0 c1 := by
  unfold own_cpu own_cp0
  rw [own_gc_eq h0, own_gc_eq h1, if_pos rfl]
theorem own_cp0_lat {c0 c1 : Int32} (h : ¬ (255 : Int32) < c0) : own_cp0 2 c0 c1 = c0 := by
  unfold own_cp0
  rw [if_pos rfl, if_pos (own_hs0 h)]
theorem own_QI.eq {h0 : Heap} {n0 : Nat} {r r' : Int32} (e : r = r') {v : Option Value} {h : Heap} {L : List Loc} (q : own_QI h0 n0 r v h L) : own_QI h0 n0 r' v h L := e ▸ q
theorem rm27_S0 (l : Launch) (Z : State) (a0 : Array Value) (hw : ∀ d ∈ tables_1, d.before a0 Z = true) (ws : List Jvm.Cond) (a1 : Addr) (n c0 c1 cs : Int32) (fm : Value) (h0 : Heap) (n0 : Nat) (Z0 : n0 ≤ h0.size) (Sa : own_S Z h0 a1 n c0 c1) (CS : Sta Z h0 "java/lang/String" "COMPACT_STRINGS" "Z" (.int cs)) (hcs : ¬ cs = (0 : Int32)) (FM : Sta Z h0 "jdk/internal/util/Preconditions" "SIOOBE_FORMATTER" "Ljava/util/function/BiFunction;" fm) (hr_fm : fm.isRef = true) (AD : Sta Z h0 "java/lang/StringUTF16" "$assertionsDisabled" "Z" (.int (1 : Int32))) (HB : Sta Z h0 "java/lang/StringUTF16" "HI_BYTE_SHIFT" "I" (.int (0 : Int32))) (LB : Sta Z h0 "java/lang/StringUTF16" "LO_BYTE_SHIFT" "I" (.int (8 : Int32))) (hc0 : own_ch c0) (hc1 : own_ch c1) (h : (0 : Int32) < n) :
    MetFree l (⟨"java/lang/String", "codePointAt", "(I)I"⟩ : MethodName) (head1 (Jvm.Cond.code (⟨"java/lang/String", "codePointAt", "(I)I"⟩ : MethodName) jdk_42_method_57_code 3 (some .int) :: ws) ({ frames := 3, cells := 0, slots := 0, locals := 44 } : Room)) (fun a U => a = #[.ref a1, .int 0] ∧ Z.Warmed39 U.vm ∧ U.heap = h0) (fun _ _ _ _ _ => True) (fun _ U o U' => ∃ v L, o = .returned v ∧ own_QI h0 n0 (own_cp0 n c0 c1) v U'.heap L ∧ FrameEnd U o U' L ({ frames := 3, cells := 0, slots := 0, locals := 44 } : Room).cells ({ frames := 3, cells := 0, slots := 0, locals := 44 } : Room).slots) := by
  rcases Sa with ⟨rfl, Sa⟩ | ⟨rfl, g1, Sa⟩ | ⟨rfl, Sa⟩ | ⟨rfl, g1, g2, Sa⟩ | ⟨rfl, Sa⟩
  · exact absurd h (by decide)
  · have M := rm27_l l Z a0 hw ws a1 0 1 _ cs fm h0 n0 Z0 Sa CS hcs FM hr_fm (by decide) (by decide)
    rw [show (([(nar .byte (c0.toInt8.toInt32))] : List Int32).getD (0 : Int32).toNatClampNeg 0 &&& 255) = own_cp0 1 c0 c1 from own_by_eq hc0 g1] at M; exact M
  · have M := rm27_20 l Z a0 hw ws a1 _ _ cs fm h0 n0 Z0 Sa CS hcs FM hr_fm AD HB LB
    rw [show own_gc (nar .byte ((c0 >>> ((0 : Int32) &&& 31)).toInt8.toInt32)) (nar .byte ((c0 >>> ((8 : Int32) &&& 31)).toInt8.toInt32)) = own_cp0 1 c0 c1 from own_gc_eq hc0] at M; exact M
  · have M := rm27_l l Z a0 hw ws a1 0 2 _ cs fm h0 n0 Z0 Sa CS hcs FM hr_fm (by decide) (by decide)
    rw [show (([(nar .byte (c0.toInt8.toInt32)), (nar .byte (c1.toInt8.toInt32))] : List Int32).getD (0 : Int32).toNatClampNeg 0 &&& 255) = own_cp0 2 c0 c1 from (own_by_eq hc0 g1).trans (own_cp0_lat g1).symm] at M; exact M
  · have M := rm27_40 l Z a0 hw ws a1 _ _ _ _ cs fm h0 n0 Z0 Sa CS hcs FM hr_fm AD HB LB
    rw [own_cpu_eq hc0 hc1] at M; exact M
theorem rm27_S1 (l : Launch) (Z : State) (a0 : Array Value) (hw : ∀ d ∈ tables_1, d.before a0 Z = true) (ws : List Jvm.Cond) (a1 : Addr) (n c0 c1 cs : Int32) (fm : Value) (h0 : Heap) (n0 : Nat) (Z0 : n0 ≤ h0.size) (Sa : own_S Z h0 a1 n c0 c1) (CS : Sta Z h0 "java/lang/String" "COMPACT_STRINGS" "Z" (.int cs)) (hcs : ¬ cs = (0 : Int32)) (FM : Sta Z h0 "jdk/internal/util/Preconditions" "SIOOBE_FORMATTER" "Ljava/util/function/BiFunction;" fm) (hr_fm : fm.isRef = true) (AD : Sta Z h0 "java/lang/StringUTF16" "$assertionsDisabled" "Z" (.int (1 : Int32))) (HB : Sta Z h0 "java/lang/StringUTF16" "HI_BYTE_SHIFT" "I" (.int (0 : Int32))) (LB : Sta Z h0 "java/lang/StringUTF16" "LO_BYTE_SHIFT" "I" (.int (8 : Int32))) (hc0 : own_ch c0) (hc1 : own_ch c1) (h : (1 : Int32) < n) :
    MetFree l (⟨"java/lang/String", "codePointAt", "(I)I"⟩ : MethodName) (head1 (Jvm.Cond.code (⟨"java/lang/String", "codePointAt", "(I)I"⟩ : MethodName) jdk_42_method_57_code 3 (some .int) :: ws) ({ frames := 3, cells := 0, slots := 0, locals := 44 } : Room)) (fun a U => a = #[.ref a1, .int 1] ∧ Z.Warmed39 U.vm ∧ U.heap = h0) (fun _ _ _ _ _ => True) (fun _ U o U' => ∃ v L, o = .returned v ∧ own_QI h0 n0 c1 v U'.heap L ∧ FrameEnd U o U' L ({ frames := 3, cells := 0, slots := 0, locals := 44 } : Room).cells ({ frames := 3, cells := 0, slots := 0, locals := 44 } : Room).slots) := by
  rcases Sa with ⟨rfl, Sa⟩ | ⟨rfl, g1, Sa⟩ | ⟨rfl, Sa⟩ | ⟨rfl, g1, g2, Sa⟩ | ⟨rfl, Sa⟩
  · exact absurd h (by decide)
  · exact absurd h (by decide)
  · exact absurd h (by decide)
  · have M := rm27_l l Z a0 hw ws a1 1 2 _ cs fm h0 n0 Z0 Sa CS hcs FM hr_fm (by decide) (by decide)
    rw [show (([(nar .byte (c0.toInt8.toInt32)), (nar .byte (c1.toInt8.toInt32))] : List Int32).getD (1 : Int32).toNatClampNeg 0 &&& 255) = c1 from own_by_eq hc1 g2] at M; exact M
  · have M := rm27_41 l Z a0 hw ws a1 _ _ _ _ cs fm h0 n0 Z0 Sa CS hcs FM hr_fm AD HB LB
    rw [own_gc_eq hc1] at M; exact M
def own_cmp (na c0 c1 nb d0 d1 : Int32) : Int32 :=
  if (0 : Int32) < na then
    if (0 : Int32) < nb then
      if own_cp0 na c0 c1 = own_cp0 nb d0 d1 then
        if own_cp0 na c0 c1 < (65536 : Int32) then
          if (1 : Int32) < na then
            if (1 : Int32) < nb then
              if c1 = d1 then (if c1 < (65536 : Int32) then own_f8 na nb else own_f8 na nb) else own_f8 c1 d1
            else own_f8 na nb
          else own_f8 na nb
        else own_f8 na nb
      else own_f8 (own_cp0 na c0 c1) (own_cp0 nb d0 d1)
    else own_f8 na nb
  else own_f8 na nb
theorem own_n3 {n : Int32} (h : n = 0 ∨ n = 1 ∨ n = 2) : ¬ (2 : Int32) < n ∧ ¬ (3 : Int32) < n := by
  rcases h with rfl | rfl | rfl <;> decide
theorem d5_0 : decode prog_58_method_2_code 0 = .ok (.iconst 0, 1) := by decide +kernel
theorem d5_1 : decode prog_58_method_2_code 1 = .ok (.istore_n 2, 1) := by decide +kernel
theorem d5_2 : decode prog_58_method_2_code 2 = .ok (.iload_n 2, 1) := by decide +kernel
theorem d5_3 : decode prog_58_method_2_code 3 = .ok (.aload_n 0, 1) := by decide +kernel
theorem d5_4 : decode prog_58_method_2_code 4 = .ok (.invokevirtual 7, 3) := by decide +kernel
theorem d5_7 : decode prog_58_method_2_code 7 = .ok (.if_icmp .ge 47, 3) := by decide +kernel
theorem d5_10 : decode prog_58_method_2_code 10 = .ok (.iload_n 2, 1) := by decide +kernel
theorem d5_11 : decode prog_58_method_2_code 11 = .ok (.aload_n 1, 1) := by decide +kernel
theorem d5_12 : decode prog_58_method_2_code 12 = .ok (.invokevirtual 7, 3) := by decide +kernel
theorem d5_15 : decode prog_58_method_2_code 15 = .ok (.if_icmp .ge 39, 3) := by decide +kernel
theorem d5_18 : decode prog_58_method_2_code 18 = .ok (.aload_n 0, 1) := by decide +kernel
theorem d5_19 : decode prog_58_method_2_code 19 = .ok (.iload_n 2, 1) := by decide +kernel
theorem d5_20 : decode prog_58_method_2_code 20 = .ok (.invokevirtual 13, 3) := by decide +kernel
theorem d5_23 : decode prog_58_method_2_code 23 = .ok (.istore_n 3, 1) := by decide +kernel
theorem d5_24 : decode prog_58_method_2_code 24 = .ok (.aload_n 1, 1) := by decide +kernel
theorem d5_25 : decode prog_58_method_2_code 25 = .ok (.iload_n 2, 1) := by decide +kernel
theorem d5_26 : decode prog_58_method_2_code 26 = .ok (.invokevirtual 13, 3) := by decide +kernel
theorem d5_29 : decode prog_58_method_2_code 29 = .ok (.istore 4, 2) := by decide +kernel
theorem d5_31 : decode prog_58_method_2_code 31 = .ok (.iload_n 3, 1) := by decide +kernel
theorem d5_32 : decode prog_58_method_2_code 32 = .ok (.iload 4, 2) := by decide +kernel
theorem d5_34 : decode prog_58_method_2_code 34 = .ok (.if_icmp .eq 10, 3) := by decide +kernel
theorem d5_37 : decode prog_58_method_2_code 37 = .ok (.iload_n 3, 1) := by decide +kernel
theorem d5_38 : decode prog_58_method_2_code 38 = .ok (.iload 4, 2) := by decide +kernel
theorem d5_40 : decode prog_58_method_2_code 40 = .ok (.invokestatic 17, 3) := by decide +kernel
theorem d5_43 : decode prog_58_method_2_code 43 = .ok (.ireturn, 1) := by decide +kernel
theorem d5_44 : decode prog_58_method_2_code 44 = .ok (.iload_n 2, 1) := by decide +kernel
theorem d5_45 : decode prog_58_method_2_code 45 = .ok (.iload_n 3, 1) := by decide +kernel
theorem d5_46 : decode prog_58_method_2_code 46 = .ok (.invokestatic 23, 3) := by decide +kernel
theorem d5_49 : decode prog_58_method_2_code 49 = .ok (.iadd, 1) := by decide +kernel
theorem d5_50 : decode prog_58_method_2_code 50 = .ok (.istore_n 2, 1) := by decide +kernel
theorem d5_51 : decode prog_58_method_2_code 51 = .ok (.goto (-49), 3) := by decide +kernel
theorem d5_54 : decode prog_58_method_2_code 54 = .ok (.aload_n 0, 1) := by decide +kernel
theorem d5_55 : decode prog_58_method_2_code 55 = .ok (.invokevirtual 7, 3) := by decide +kernel
theorem d5_58 : decode prog_58_method_2_code 58 = .ok (.aload_n 1, 1) := by decide +kernel
theorem d5_59 : decode prog_58_method_2_code 59 = .ok (.invokevirtual 7, 3) := by decide +kernel
theorem d5_62 : decode prog_58_method_2_code 62 = .ok (.invokestatic 17, 3) := by decide +kernel
theorem d5_65 : decode prog_58_method_2_code 65 = .ok (.ireturn, 1) := by decide +kernel
theorem pn_5 : plainName "com/example/mathir_tools/mathirtools/formats/text/Utf8Order" = true := by first | (simp [plainName, overriddenIn]; done) | decide +kernel
theorem pd_21 : parseMethodDescriptor "()I" = some ⟨[], some .int⟩ := by decide +kernel
theorem pd_22 : parseMethodDescriptor "(II)I" = some ⟨[.int, .int], some .int⟩ := by decide +kernel
theorem ef_5 (m : MethodId) (a1 : Addr) (a2 : Addr) : entryFrame m #[(.ref a1), (.ref a2)] 5 = mkF m 0 #[.val (.ref a1), .val (.ref a2), .unset, .unset, .unset] [] := by first | (simp [entryFrame, mkF, argsToLocals, Value.category]; done) | rfl
set_option maxRecDepth 65536 in
set_option maxHeartbeats 40000000 in
theorem rm5 (l : Launch) (Z : State) (a0 : Array Value) (hw : ∀ d ∈ tables_1, d.before a0 Z = true) (ws : List Jvm.Cond) (a1 : Addr) (a2 : Addr) (na c0 c1 nb d0 d1 cs : Int32) (fm : Value) (h0 : Heap) (n0 : Nat) (Z0 : n0 ≤ h0.size) (Sa1 : own_S Z h0 a1 na c0 c1) (Sa2 : own_S Z h0 a2 nb d0 d1) (CS : Sta Z h0 "java/lang/String" "COMPACT_STRINGS" "Z" (.int cs)) (hcs : ¬ cs = (0 : Int32)) (FM : Sta Z h0 "jdk/internal/util/Preconditions" "SIOOBE_FORMATTER" "Ljava/util/function/BiFunction;" fm) (hr_fm : fm.isRef = true) (AD : Sta Z h0 "java/lang/StringUTF16" "$assertionsDisabled" "Z" (.int (1 : Int32))) (HB : Sta Z h0 "java/lang/StringUTF16" "HI_BYTE_SHIFT" "I" (.int (0 : Int32))) (LB : Sta Z h0 "java/lang/StringUTF16" "LO_BYTE_SHIFT" "I" (.int (8 : Int32))) (hc0 : own_ch c0) (hc1 : own_ch c1) (hd0 : own_ch d0) (hd1 : own_ch d1) (hna : na = 0 ∨ na = 1 ∨ na = 2) (hnb : nb = 0 ∨ nb = 1 ∨ nb = 2) :
    MetFree l (⟨"com/example/mathir_tools/mathirtools/formats/text/Utf8Order", "compare", "(Ljava/lang/String;Ljava/lang/String;)I"⟩ : MethodName) (head1 (Jvm.Cond.code (⟨"com/example/mathir_tools/mathirtools/formats/text/Utf8Order", "compare", "(Ljava/lang/String;Ljava/lang/String;)I"⟩ : MethodName) prog_58_method_2_code 5 (some .int) :: ws) ({ frames := 4, cells := 0, slots := 0, locals := 58 } : Room)) (fun a U => a = #[(.ref a1), (.ref a2)] ∧ Z.Warmed39 U.vm ∧ U.heap = h0) (fun _ _ _ _ _ => True) (fun _ U o U' => ∃ v L, o = .returned v ∧ own_QI h0 n0 (own_cmp na c0 c1 nb d0 d1) v U'.heap L ∧ FrameEnd U o U' L ({ frames := 4, cells := 0, slots := 0, locals := 58 } : Room).cells ({ frames := 4, cells := 0, slots := 0, locals := 58 } : Room).slots) := by
  refine MetFree.of_bodySF (plainFor_of_name pn_5) hisR ?_
  intro p e s m args below meth c s₁ Bd hml0 hP hK
  obtain ⟨rfl, hZ, hh⟩ := hP
  have hx := Bd.exec
  have hby := Bd.bytes
  have hml : c.maxLocals = 5 := hml0
  have hown : s.vm.findClass "com/example/mathir_tools/mathirtools/formats/text/Utf8Order" = some m.cls := findClass_of_methodNamed Bd.named
  have hnm := (name_of_methodNamed Bd.named Bd.method).1
  have X0 : Stand p l e ({ frames := 4, cells := 0, slots := 0, locals := 58 } : Room) s m #[(.ref a1), (.ref a2)] below meth c s₁ [] 0 0 := Stand.of_body Bd
  have e0 : s₁.heap = h0 := by rw [← hh, Bd.state]; rfl
  have N0 := Fr.nil n0
  obtain ⟨S0, hS0⟩ : ∃ z, z = s₁.setTop (entryFrame m #[(.ref a1), (.ref a2)] 5) := ⟨_, rfl⟩
  have P0 : own_Pr p.tables e below S0 s₁ (mkF m 0 #[.val (.ref a1), .val (.ref a2), .unset, .unset, .unset] []) := fun t k => hS0 ▸ castTop (ef_5 m a1 a2) k
  have Ea1 := Sa1.exa
  have Ea2 := Sa2.exa
  have P1 : own_Pr p.tables e below S0 s₁ (mkF m 4 #[.val (.ref a1), .val (.ref a2), .val (.int (0 : Int32)), .unset, .unset] [(.ref a1), (.int (0 : Int32))]) := fun t k => P0 t (by
    refine XS.iconst X0.here hx rfl (hb hby d5_0) ?_
    show Steps p.tables e below (s₁.setTop (mkF m 1 #[.val (.ref a1), .val (.ref a2), .unset, .unset, .unset] [(.int (0 : Int32))])) _
    refine XS.istoreN X0.here hx rfl (hb hby d5_1) rfl (l' := #[.val (.ref a1), .val (.ref a2), .val (.int (0 : Int32)), .unset, .unset]) rfl ?_
    show Steps p.tables e below (s₁.setTop (mkF m 2 #[.val (.ref a1), .val (.ref a2), .val (.int (0 : Int32)), .unset, .unset] [])) _
    refine XS.iloadN X0.here hx rfl (hb hby d5_2) rfl ?_
    show Steps p.tables e below (s₁.setTop (mkF m 3 #[.val (.ref a1), .val (.ref a2), .val (.int (0 : Int32)), .unset, .unset] [(.int (0 : Int32))])) _
    refine XS.aloadN X0.here hx rfl (hb hby d5_3) rfl rfl ?_
    show Steps p.tables e below (s₁.setTop (mkF m 4 #[.val (.ref a1), .val (.ref a2), .val (.int (0 : Int32)), .unset, .unset] [(.ref a1), (.int (0 : Int32))])) _
    exact k)
  obtain ⟨cq2, kq2, q2a, q2b, q2c⟩ := isOf hZ e0 Ea1
  obtain ⟨_, _, ⟨T2, L2, k2, n2⟩, -, X2, ⟨Lc2, hQ2, l2, y2, z2⟩, st2⟩ := X0.virtualBack hx (y := (⟨"java/lang/String", "length", "()I"⟩ : MethodName)) (z := (⟨"java/lang/String", "length", "()I"⟩ : MethodName)) hown (mvT hZ (hw _ (List.mem_of_getElem? (i := 30) rfl))) (mvT hZ (hw _ (List.mem_of_getElem? (i := 31) rfl))) (notFace_of_selects (args := #[]) (mvT hZ (hw _ (List.mem_of_getElem? (i := 33) rfl)))) (mvT hZ (hw _ (List.mem_of_getElem? (i := 33) rfl))) (mvT hZ (hw _ (List.mem_of_getElem? (i := 32) rfl))) (by decide) (backOf (W := 1) (rm6_S l Z a0 hw [] a1 na c0 c1 cs h0 n0 Z0 Sa1 CS hcs) hZ (hw _ (List.mem_of_getElem? (i := 34) rfl)) (hw _ (List.mem_of_getElem? (i := 6) rfl)) (by decide) (by decide)) q2a q2c (g := (mkF m 4 #[.val (.ref a1), .val (.ref a2), .val (.int (0 : Int32)), .unset, .unset] [(.ref a1), (.int (0 : Int32))])) rfl (by rw [hml]; rfl) (Steps.refl _) (argsL := []) (rest := [(.int (0 : Int32))]) (lenOf pd_21 rfl) rfl (by show 2 * 0 + _ ≤ _; exact Nat.le_of_eq rfl) (hb hby d5_4) (fun _ _ => ⟨rfl, e0, (by decide : 0 + 0 ≤ _), (by decide : 0 + 0 ≤ _)⟩)
  dsimp only [Pt.U, Pt.locs, Pt.cells, Pt.slots] at X2 l2 y2 z2 st2 hQ2
  subst l2 y2 z2
  obtain ⟨z2v, rfl, hz2v, Nq2, eq2⟩ := hQ2
  have N2n := Fr.app N0 Nq2
  have hy2 := hz2v.symm; subst hy2
  have P3 : own_Pr p.tables e below S0 T2 (mkF m 7 #[.val (.ref a1), .val (.ref a2), .val (.int (0 : Int32)), .unset, .unset] [(.int na), (.int (0 : Int32))]) := fun t k => P1 t (st2.trans k)
  by_cases hc7_4 : (0 : Int32) < na
  · have P5 : own_Pr p.tables e below S0 T2 (mkF m 12 #[.val (.ref a1), .val (.ref a2), .val (.int (0 : Int32)), .unset, .unset] [(.ref a2), (.int (0 : Int32))]) := fun t k => P3 t (by
      refine XS.icmpNo X2.here hx rfl (hb hby d5_7) rfl (XT.ii_ge_f hc7_4) ?_
      show Steps p.tables e below (T2.setTop (mkF m 10 #[.val (.ref a1), .val (.ref a2), .val (.int (0 : Int32)), .unset, .unset] [])) _
      refine XS.iloadN X2.here hx rfl (hb hby d5_10) rfl ?_
      show Steps p.tables e below (T2.setTop (mkF m 11 #[.val (.ref a1), .val (.ref a2), .val (.int (0 : Int32)), .unset, .unset] [(.int (0 : Int32))])) _
      refine XS.aloadN X2.here hx rfl (hb hby d5_11) rfl rfl ?_
      show Steps p.tables e below (T2.setTop (mkF m 12 #[.val (.ref a1), .val (.ref a2), .val (.int (0 : Int32)), .unset, .unset] [(.ref a2), (.int (0 : Int32))])) _
      exact k)
    obtain ⟨cq6, kq6, q6a, q6b, q6c⟩ := isOf hZ eq2 Ea2
    obtain ⟨_, _, ⟨T6, L6, k6, n6⟩, -, X6, ⟨Lc6, hQ6, l6, y6, z6⟩, st6⟩ := X2.virtualBack hx (y := (⟨"java/lang/String", "length", "()I"⟩ : MethodName)) (z := (⟨"java/lang/String", "length", "()I"⟩ : MethodName)) hown (mvT hZ (hw _ (List.mem_of_getElem? (i := 30) rfl))) (mvT hZ (hw _ (List.mem_of_getElem? (i := 31) rfl))) (notFace_of_selects (args := #[]) (mvT hZ (hw _ (List.mem_of_getElem? (i := 33) rfl)))) (mvT hZ (hw _ (List.mem_of_getElem? (i := 33) rfl))) (mvT hZ (hw _ (List.mem_of_getElem? (i := 32) rfl))) (by decide) (backOf (W := 1) (rm6_S l Z a0 hw [] a2 nb d0 d1 cs h0 n0 Z0 Sa2 CS hcs) hZ (hw _ (List.mem_of_getElem? (i := 34) rfl)) (hw _ (List.mem_of_getElem? (i := 6) rfl)) (by decide) (by decide)) q6a q6c (g := (mkF m 12 #[.val (.ref a1), .val (.ref a2), .val (.int (0 : Int32)), .unset, .unset] [(.ref a2), (.int (0 : Int32))])) rfl (by rw [hml]; rfl) (Steps.refl _) (argsL := []) (rest := [(.int (0 : Int32))]) (lenOf pd_21 rfl) rfl (by show 2 * 0 + _ ≤ _; exact Nat.le_of_eq rfl) (hb hby d5_12) (fun _ _ => ⟨rfl, eq2, (by decide : 0 + 0 ≤ _), (by decide : 0 + 0 ≤ _)⟩)
    dsimp only [Pt.U, Pt.locs, Pt.cells, Pt.slots] at X6 l6 y6 z6 st6 hQ6
    subst l6 y6 z6
    obtain ⟨z6v, rfl, hz6v, Nq6, eq6⟩ := hQ6
    have N6n := Fr.app N2n Nq6
    have hy6 := hz6v.symm; subst hy6
    have P7 : own_Pr p.tables e below S0 T6 (mkF m 15 #[.val (.ref a1), .val (.ref a2), .val (.int (0 : Int32)), .unset, .unset] [(.int nb), (.int (0 : Int32))]) := fun t k => P5 t (st6.trans k)
    by_cases hc15_8 : (0 : Int32) < nb
    · have P9 : own_Pr p.tables e below S0 T6 (mkF m 20 #[.val (.ref a1), .val (.ref a2), .val (.int (0 : Int32)), .unset, .unset] [(.int (0 : Int32)), (.ref a1)]) := fun t k => P7 t (by
        refine XS.icmpNo X6.here hx rfl (hb hby d5_15) rfl (XT.ii_ge_f hc15_8) ?_
        show Steps p.tables e below (T6.setTop (mkF m 18 #[.val (.ref a1), .val (.ref a2), .val (.int (0 : Int32)), .unset, .unset] [])) _
        refine XS.aloadN X6.here hx rfl (hb hby d5_18) rfl rfl ?_
        show Steps p.tables e below (T6.setTop (mkF m 19 #[.val (.ref a1), .val (.ref a2), .val (.int (0 : Int32)), .unset, .unset] [(.ref a1)])) _
        refine XS.iloadN X6.here hx rfl (hb hby d5_19) rfl ?_
        show Steps p.tables e below (T6.setTop (mkF m 20 #[.val (.ref a1), .val (.ref a2), .val (.int (0 : Int32)), .unset, .unset] [(.int (0 : Int32)), (.ref a1)])) _
        exact k)
      obtain ⟨cq10, kq10, q10a, q10b, q10c⟩ := isOf hZ eq6 Ea1
      obtain ⟨_, _, ⟨T10, L10, k10, n10⟩, -, X10, ⟨Lc10, hQ10, l10, y10, z10⟩, st10⟩ := X6.virtualBack hx (y := (⟨"java/lang/String", "codePointAt", "(I)I"⟩ : MethodName)) (z := (⟨"java/lang/String", "codePointAt", "(I)I"⟩ : MethodName)) hown (mvT hZ (hw _ (List.mem_of_getElem? (i := 111) rfl))) (mvT hZ (hw _ (List.mem_of_getElem? (i := 112) rfl))) (notFace_of_selects (args := #[]) (mvT hZ (hw _ (List.mem_of_getElem? (i := 114) rfl)))) (mvT hZ (hw _ (List.mem_of_getElem? (i := 114) rfl))) (mvT hZ (hw _ (List.mem_of_getElem? (i := 113) rfl))) (by decide) (backOf (W := 0) (rm27_S0 l Z a0 hw [] a1 na c0 c1 cs fm h0 n0 Z0 Sa1 CS hcs FM hr_fm AD HB LB hc0 hc1 hc7_4) hZ (hw _ (List.mem_of_getElem? (i := 115) rfl)) (hw _ (List.mem_of_getElem? (i := 6) rfl)) (by decide) (by decide)) q10a q10c (g := (mkF m 20 #[.val (.ref a1), .val (.ref a2), .val (.int (0 : Int32)), .unset, .unset] [(.int (0 : Int32)), (.ref a1)])) rfl (by rw [hml]; rfl) (Steps.refl _) (argsL := [(.int (0 : Int32))]) (rest := []) (lenOf pd_2 rfl) rfl (by show 2 * 0 + _ ≤ _; exact Nat.le_of_eq rfl) (hb hby d5_20) (fun _ _ => ⟨rfl, eq6, (by decide : 0 + 0 ≤ _), (by decide : 0 + 0 ≤ _)⟩)
      dsimp only [Pt.U, Pt.locs, Pt.cells, Pt.slots] at X10 l10 y10 z10 st10 hQ10
      subst l10 y10 z10
      obtain ⟨z10v, rfl, hz10v, Nq10, eq10⟩ := hQ10
      have N10n := Fr.app N6n Nq10
      have P11 : own_Pr p.tables e below S0 T10 (mkF m 23 #[.val (.ref a1), .val (.ref a2), .val (.int (0 : Int32)), .unset, .unset] [(.int z10v)]) := fun t k => P9 t (st10.trans k)
      have P12 : own_Pr p.tables e below S0 T10 (mkF m 26 #[.val (.ref a1), .val (.ref a2), .val (.int (0 : Int32)), .val (.int z10v), .unset] [(.int (0 : Int32)), (.ref a2)]) := fun t k => P11 t (by
        refine XS.istoreN X10.here hx rfl (hb hby d5_23) rfl (l' := #[.val (.ref a1), .val (.ref a2), .val (.int (0 : Int32)), .val (.int z10v), .unset]) rfl ?_
        show Steps p.tables e below (T10.setTop (mkF m 24 #[.val (.ref a1), .val (.ref a2), .val (.int (0 : Int32)), .val (.int z10v), .unset] [])) _
        refine XS.aloadN X10.here hx rfl (hb hby d5_24) rfl rfl ?_
        show Steps p.tables e below (T10.setTop (mkF m 25 #[.val (.ref a1), .val (.ref a2), .val (.int (0 : Int32)), .val (.int z10v), .unset] [(.ref a2)])) _
        refine XS.iloadN X10.here hx rfl (hb hby d5_25) rfl ?_
        show Steps p.tables e below (T10.setTop (mkF m 26 #[.val (.ref a1), .val (.ref a2), .val (.int (0 : Int32)), .val (.int z10v), .unset] [(.int (0 : Int32)), (.ref a2)])) _
        exact k)
      obtain ⟨cq13, kq13, q13a, q13b, q13c⟩ := isOf hZ eq10 Ea2
      obtain ⟨_, _, ⟨T13, L13, k13, n13⟩, -, X13, ⟨Lc13, hQ13, l13, y13, z13⟩, st13⟩ := X10.virtualBack hx (y := (⟨"java/lang/String", "codePointAt", "(I)I"⟩ : MethodName)) (z := (⟨"java/lang/String", "codePointAt", "(I)I"⟩ : MethodName)) hown (mvT hZ (hw _ (List.mem_of_getElem? (i := 111) rfl))) (mvT hZ (hw _ (List.mem_of_getElem? (i := 112) rfl))) (notFace_of_selects (args := #[]) (mvT hZ (hw _ (List.mem_of_getElem? (i := 114) rfl)))) (mvT hZ (hw _ (List.mem_of_getElem? (i := 114) rfl))) (mvT hZ (hw _ (List.mem_of_getElem? (i := 113) rfl))) (by decide) (backOf (W := 0) (rm27_S0 l Z a0 hw [] a2 nb d0 d1 cs fm h0 n0 Z0 Sa2 CS hcs FM hr_fm AD HB LB hd0 hd1 hc15_8) hZ (hw _ (List.mem_of_getElem? (i := 115) rfl)) (hw _ (List.mem_of_getElem? (i := 6) rfl)) (by decide) (by decide)) q13a q13c (g := (mkF m 26 #[.val (.ref a1), .val (.ref a2), .val (.int (0 : Int32)), .val (.int z10v), .unset] [(.int (0 : Int32)), (.ref a2)])) rfl (by rw [hml]; rfl) (Steps.refl _) (argsL := [(.int (0 : Int32))]) (rest := []) (lenOf pd_2 rfl) rfl (by show 2 * 0 + _ ≤ _; exact Nat.le_of_eq rfl) (hb hby d5_26) (fun _ _ => ⟨rfl, eq10, (by decide : 0 + 0 ≤ _), (by decide : 0 + 0 ≤ _)⟩)
      dsimp only [Pt.U, Pt.locs, Pt.cells, Pt.slots] at X13 l13 y13 z13 st13 hQ13
      subst l13 y13 z13
      obtain ⟨z13v, rfl, hz13v, Nq13, eq13⟩ := hQ13
      have N13n := Fr.app N10n Nq13
      have P14 : own_Pr p.tables e below S0 T13 (mkF m 29 #[.val (.ref a1), .val (.ref a2), .val (.int (0 : Int32)), .val (.int z10v), .unset] [(.int z13v)]) := fun t k => P12 t (st13.trans k)
      have P15 : own_Pr p.tables e below S0 T13 (mkF m 34 #[.val (.ref a1), .val (.ref a2), .val (.int (0 : Int32)), .val (.int z10v), .val (.int z13v)] [(.int z13v), (.int z10v)]) := fun t k => P14 t (by
        refine XS.istore X13.here hx rfl (hb hby d5_29) rfl (l' := #[.val (.ref a1), .val (.ref a2), .val (.int (0 : Int32)), .val (.int z10v), .val (.int z13v)]) rfl ?_
        show Steps p.tables e below (T13.setTop (mkF m 31 #[.val (.ref a1), .val (.ref a2), .val (.int (0 : Int32)), .val (.int z10v), .val (.int z13v)] [])) _
        refine XS.iloadN X13.here hx rfl (hb hby d5_31) rfl ?_
        show Steps p.tables e below (T13.setTop (mkF m 32 #[.val (.ref a1), .val (.ref a2), .val (.int (0 : Int32)), .val (.int z10v), .val (.int z13v)] [(.int z10v)])) _
        refine XS.iload X13.here hx rfl (hb hby d5_32) rfl ?_
        show Steps p.tables e below (T13.setTop (mkF m 34 #[.val (.ref a1), .val (.ref a2), .val (.int (0 : Int32)), .val (.int z10v), .val (.int z13v)] [(.int z13v), (.int z10v)])) _
        exact k)
      by_cases hc34_16 : z10v = z13v
      · have P17 : own_Pr p.tables e below S0 T13 (mkF m 46 #[.val (.ref a1), .val (.ref a2), .val (.int (0 : Int32)), .val (.int z10v), .val (.int z13v)] [(.int z10v), (.int (0 : Int32))]) := fun t k => P15 t (by
          refine XS.icmpYes X13.here hx rfl (pc0 := 34) (pc' := 44) rfl (hb hby d5_34) rfl (XT.ii_eq_t hc34_16) (by decide) (by decide) ?_
          show Steps p.tables e below (T13.setTop (mkF m 44 #[.val (.ref a1), .val (.ref a2), .val (.int (0 : Int32)), .val (.int z10v), .val (.int z13v)] [])) _
          refine XS.iloadN X13.here hx rfl (hb hby d5_44) rfl ?_
          show Steps p.tables e below (T13.setTop (mkF m 45 #[.val (.ref a1), .val (.ref a2), .val (.int (0 : Int32)), .val (.int z10v), .val (.int z13v)] [(.int (0 : Int32))])) _
          refine XS.iloadN X13.here hx rfl (hb hby d5_45) rfl ?_
          show Steps p.tables e below (T13.setTop (mkF m 46 #[.val (.ref a1), .val (.ref a2), .val (.int (0 : Int32)), .val (.int z10v), .val (.int z13v)] [(.int z10v), (.int (0 : Int32))])) _
          exact k)
        obtain ⟨_, _, ⟨T18, L18, k18, n18⟩, -, X18, ⟨Lc18, hQ18, l18, y18, z18⟩, st18⟩ := Jvm.LawKit.callS X13 hx (y := (⟨"java/lang/Character", "charCount", "(I)I"⟩ : MethodName)) hown (mvT hZ (hw _ (List.mem_of_getElem? (i := 140) rfl))) (mvT hZ (hw _ (List.mem_of_getElem? (i := 141) rfl))) (mvT hZ (hw _ (List.mem_of_getElem? (i := 137) rfl))) (mvT hZ (hw _ (List.mem_of_getElem? (i := 142) rfl))) (by decide) (backOf (W := 1) (rm34 l Z a0 hw [] z10v  h0 n0 Z0 ) hZ (hw _ (List.mem_of_getElem? (i := 142) rfl)) (hw _ (List.mem_of_getElem? (i := 137) rfl)) (by decide) (by decide)) (g := (mkF m 46 #[.val (.ref a1), .val (.ref a2), .val (.int (0 : Int32)), .val (.int z10v), .val (.int z13v)] [(.int z10v), (.int (0 : Int32))])) rfl (by rw [hml]; rfl) (argsL := [(.int z10v)]) (rest := [(.int (0 : Int32))]) (lenOf pd_2 rfl) rfl (by show 2 * 0 + _ ≤ _; exact Nat.le_of_eq rfl) (hb hby d5_46) (fun _ _ => ⟨rfl, eq13, (by decide : 0 + 0 ≤ _), (by decide : 0 + 0 ≤ _)⟩)
        dsimp only [Pt.U, Pt.locs, Pt.cells, Pt.slots] at X18 l18 y18 z18 st18 hQ18
        subst l18 y18 z18
        obtain ⟨z18v, rfl, hz18v, Nq18, eq18⟩ := hQ18
        have N18n := Fr.app N13n Nq18
        by_cases hb18 : z10v < (65536 : Int32)
        · have _u := hb18
          obtain rfl : z18v = (1 : Int32) := hz18v.trans (by unfold own_f34; rw [if_pos hb18])
          have P19 : own_Pr p.tables e below S0 T18 (mkF m 49 #[.val (.ref a1), .val (.ref a2), .val (.int (0 : Int32)), .val (.int z10v), .val (.int z13v)] [(.int (1 : Int32)), (.int (0 : Int32))]) := fun t k => P17 t (st18 _ k)
          have P20 : own_Pr p.tables e below S0 T18 (mkF m 4 #[.val (.ref a1), .val (.ref a2), .val (.int (1 : Int32)), .val (.int z10v), .val (.int z13v)] [(.ref a1), (.int (1 : Int32))]) := fun t k => P19 t (by
            refine XS.iadd X18.here hx rfl (hb hby d5_49) rfl ?_
            show Steps p.tables e below (T18.setTop (mkF m 50 #[.val (.ref a1), .val (.ref a2), .val (.int (0 : Int32)), .val (.int z10v), .val (.int z13v)] [(.int (1 : Int32))])) _
            refine XS.istoreN X18.here hx rfl (hb hby d5_50) rfl (l' := #[.val (.ref a1), .val (.ref a2), .val (.int (1 : Int32)), .val (.int z10v), .val (.int z13v)]) rfl ?_
            show Steps p.tables e below (T18.setTop (mkF m 51 #[.val (.ref a1), .val (.ref a2), .val (.int (1 : Int32)), .val (.int z10v), .val (.int z13v)] [])) _
            refine XS.goto X18.here hx rfl (pc0 := 51) (pc' := 2) rfl (hb hby d5_51) (by decide) (by decide) ?_
            show Steps p.tables e below (T18.setTop (mkF m 2 #[.val (.ref a1), .val (.ref a2), .val (.int (1 : Int32)), .val (.int z10v), .val (.int z13v)] [])) _
            refine XS.iloadN X18.here hx rfl (hb hby d5_2) rfl ?_
            show Steps p.tables e below (T18.setTop (mkF m 3 #[.val (.ref a1), .val (.ref a2), .val (.int (1 : Int32)), .val (.int z10v), .val (.int z13v)] [(.int (1 : Int32))])) _
            refine XS.aloadN X18.here hx rfl (hb hby d5_3) rfl rfl ?_
            show Steps p.tables e below (T18.setTop (mkF m 4 #[.val (.ref a1), .val (.ref a2), .val (.int (1 : Int32)), .val (.int z10v), .val (.int z13v)] [(.ref a1), (.int (1 : Int32))])) _
            exact k)
          obtain ⟨cq21, kq21, q21a, q21b, q21c⟩ := isOf hZ eq18 Ea1
          obtain ⟨_, _, ⟨T21, L21, k21, n21⟩, -, X21, ⟨Lc21, hQ21, l21, y21, z21⟩, st21⟩ := X18.virtualBack hx (y := (⟨"java/lang/String", "length", "()I"⟩ : MethodName)) (z := (⟨"java/lang/String", "length", "()I"⟩ : MethodName)) hown (mvT hZ (hw _ (List.mem_of_getElem? (i := 30) rfl))) (mvT hZ (hw _ (List.mem_of_getElem? (i := 31) rfl))) (notFace_of_selects (args := #[]) (mvT hZ (hw _ (List.mem_of_getElem? (i := 33) rfl)))) (mvT hZ (hw _ (List.mem_of_getElem? (i := 33) rfl))) (mvT hZ (hw _ (List.mem_of_getElem? (i := 32) rfl))) (by decide) (backOf (W := 1) (rm6_S l Z a0 hw [] a1 na c0 c1 cs h0 n0 Z0 Sa1 CS hcs) hZ (hw _ (List.mem_of_getElem? (i := 34) rfl)) (hw _ (List.mem_of_getElem? (i := 6) rfl)) (by decide) (by decide)) q21a q21c (g := (mkF m 4 #[.val (.ref a1), .val (.ref a2), .val (.int (1 : Int32)), .val (.int z10v), .val (.int z13v)] [(.ref a1), (.int (1 : Int32))])) rfl (by rw [hml]; rfl) (Steps.refl _) (argsL := []) (rest := [(.int (1 : Int32))]) (lenOf pd_21 rfl) rfl (by show 2 * 0 + _ ≤ _; exact Nat.le_of_eq rfl) (hb hby d5_4) (fun _ _ => ⟨rfl, eq18, (by decide : 0 + 0 ≤ _), (by decide : 0 + 0 ≤ _)⟩)
          dsimp only [Pt.U, Pt.locs, Pt.cells, Pt.slots] at X21 l21 y21 z21 st21 hQ21
          subst l21 y21 z21
          obtain ⟨z21v, rfl, hz21v, Nq21, eq21⟩ := hQ21
          have N21n := Fr.app N18n Nq21
          have hy21 := hz21v.symm; subst hy21
          have P22 : own_Pr p.tables e below S0 T21 (mkF m 7 #[.val (.ref a1), .val (.ref a2), .val (.int (1 : Int32)), .val (.int z10v), .val (.int z13v)] [(.int na), (.int (1 : Int32))]) := fun t k => P20 t (st21.trans k)
          by_cases hc7_23 : (1 : Int32) < na
          · have P24 : own_Pr p.tables e below S0 T21 (mkF m 12 #[.val (.ref a1), .val (.ref a2), .val (.int (1 : Int32)), .val (.int z10v), .val (.int z13v)] [(.ref a2), (.int (1 : Int32))]) := fun t k => P22 t (by
              refine XS.icmpNo X21.here hx rfl (hb hby d5_7) rfl (XT.ii_ge_f hc7_23) ?_
              show Steps p.tables e below (T21.setTop (mkF m 10 #[.val (.ref a1), .val (.ref a2), .val (.int (1 : Int32)), .val (.int z10v), .val (.int z13v)] [])) _
              refine XS.iloadN X21.here hx rfl (hb hby d5_10) rfl ?_
              show Steps p.tables e below (T21.setTop (mkF m 11 #[.val (.ref a1), .val (.ref a2), .val (.int (1 : Int32)), .val (.int z10v), .val (.int z13v)] [(.int (1 : Int32))])) _
              refine XS.aloadN X21.here hx rfl (hb hby d5_11) rfl rfl ?_
              show Steps p.tables e below (T21.setTop (mkF m 12 #[.val (.ref a1), .val (.ref a2), .val (.int (1 : Int32)), .val (.int z10v), .val (.int z13v)] [(.ref a2), (.int (1 : Int32))])) _
              exact k)
            obtain ⟨cq25, kq25, q25a, q25b, q25c⟩ := isOf hZ eq21 Ea2
            obtain ⟨_, _, ⟨T25, L25, k25, n25⟩, -, X25, ⟨Lc25, hQ25, l25, y25, z25⟩, st25⟩ := X21.virtualBack hx (y := (⟨"java/lang/String", "length", "()I"⟩ : MethodName)) (z := (⟨"java/lang/String", "length", "()I"⟩ : MethodName)) hown (mvT hZ (hw _ (List.mem_of_getElem? (i := 30) rfl))) (mvT hZ (hw _ (List.mem_of_getElem? (i := 31) rfl))) (notFace_of_selects (args := #[]) (mvT hZ (hw _ (List.mem_of_getElem? (i := 33) rfl)))) (mvT hZ (hw _ (List.mem_of_getElem? (i := 33) rfl))) (mvT hZ (hw _ (List.mem_of_getElem? (i := 32) rfl))) (by decide) (backOf (W := 1) (rm6_S l Z a0 hw [] a2 nb d0 d1 cs h0 n0 Z0 Sa2 CS hcs) hZ (hw _ (List.mem_of_getElem? (i := 34) rfl)) (hw _ (List.mem_of_getElem? (i := 6) rfl)) (by decide) (by decide)) q25a q25c (g := (mkF m 12 #[.val (.ref a1), .val (.ref a2), .val (.int (1 : Int32)), .val (.int z10v), .val (.int z13v)] [(.ref a2), (.int (1 : Int32))])) rfl (by rw [hml]; rfl) (Steps.refl _) (argsL := []) (rest := [(.int (1 : Int32))]) (lenOf pd_21 rfl) rfl (by show 2 * 0 + _ ≤ _; exact Nat.le_of_eq rfl) (hb hby d5_12) (fun _ _ => ⟨rfl, eq21, (by decide : 0 + 0 ≤ _), (by decide : 0 + 0 ≤ _)⟩)
            dsimp only [Pt.U, Pt.locs, Pt.cells, Pt.slots] at X25 l25 y25 z25 st25 hQ25
            subst l25 y25 z25
            obtain ⟨z25v, rfl, hz25v, Nq25, eq25⟩ := hQ25
            have N25n := Fr.app N21n Nq25
            have hy25 := hz25v.symm; subst hy25
            have P26 : own_Pr p.tables e below S0 T25 (mkF m 15 #[.val (.ref a1), .val (.ref a2), .val (.int (1 : Int32)), .val (.int z10v), .val (.int z13v)] [(.int nb), (.int (1 : Int32))]) := fun t k => P24 t (st25.trans k)
            by_cases hc15_27 : (1 : Int32) < nb
            · have P28 : own_Pr p.tables e below S0 T25 (mkF m 20 #[.val (.ref a1), .val (.ref a2), .val (.int (1 : Int32)), .val (.int z10v), .val (.int z13v)] [(.int (1 : Int32)), (.ref a1)]) := fun t k => P26 t (by
                refine XS.icmpNo X25.here hx rfl (hb hby d5_15) rfl (XT.ii_ge_f hc15_27) ?_
                show Steps p.tables e below (T25.setTop (mkF m 18 #[.val (.ref a1), .val (.ref a2), .val (.int (1 : Int32)), .val (.int z10v), .val (.int z13v)] [])) _
                refine XS.aloadN X25.here hx rfl (hb hby d5_18) rfl rfl ?_
                show Steps p.tables e below (T25.setTop (mkF m 19 #[.val (.ref a1), .val (.ref a2), .val (.int (1 : Int32)), .val (.int z10v), .val (.int z13v)] [(.ref a1)])) _
                refine XS.iloadN X25.here hx rfl (hb hby d5_19) rfl ?_
                show Steps p.tables e below (T25.setTop (mkF m 20 #[.val (.ref a1), .val (.ref a2), .val (.int (1 : Int32)), .val (.int z10v), .val (.int z13v)] [(.int (1 : Int32)), (.ref a1)])) _
                exact k)
              obtain ⟨cq29, kq29, q29a, q29b, q29c⟩ := isOf hZ eq25 Ea1
              obtain ⟨_, _, ⟨T29, L29, k29, n29⟩, -, X29, ⟨Lc29, hQ29, l29, y29, z29⟩, st29⟩ := X25.virtualBack hx (y := (⟨"java/lang/String", "codePointAt", "(I)I"⟩ : MethodName)) (z := (⟨"java/lang/String", "codePointAt", "(I)I"⟩ : MethodName)) hown (mvT hZ (hw _ (List.mem_of_getElem? (i := 111) rfl))) (mvT hZ (hw _ (List.mem_of_getElem? (i := 112) rfl))) (notFace_of_selects (args := #[]) (mvT hZ (hw _ (List.mem_of_getElem? (i := 114) rfl)))) (mvT hZ (hw _ (List.mem_of_getElem? (i := 114) rfl))) (mvT hZ (hw _ (List.mem_of_getElem? (i := 113) rfl))) (by decide) (backOf (W := 0) (rm27_S1 l Z a0 hw [] a1 na c0 c1 cs fm h0 n0 Z0 Sa1 CS hcs FM hr_fm AD HB LB hc0 hc1 hc7_23) hZ (hw _ (List.mem_of_getElem? (i := 115) rfl)) (hw _ (List.mem_of_getElem? (i := 6) rfl)) (by decide) (by decide)) q29a q29c (g := (mkF m 20 #[.val (.ref a1), .val (.ref a2), .val (.int (1 : Int32)), .val (.int z10v), .val (.int z13v)] [(.int (1 : Int32)), (.ref a1)])) rfl (by rw [hml]; rfl) (Steps.refl _) (argsL := [(.int (1 : Int32))]) (rest := []) (lenOf pd_2 rfl) rfl (by show 2 * 0 + _ ≤ _; exact Nat.le_of_eq rfl) (hb hby d5_20) (fun _ _ => ⟨rfl, eq25, (by decide : 0 + 0 ≤ _), (by decide : 0 + 0 ≤ _)⟩)
              dsimp only [Pt.U, Pt.locs, Pt.cells, Pt.slots] at X29 l29 y29 z29 st29 hQ29
              subst l29 y29 z29
              obtain ⟨z29v, rfl, hz29v, Nq29, eq29⟩ := hQ29
              have N29n := Fr.app N25n Nq29
              have P30 : own_Pr p.tables e below S0 T29 (mkF m 23 #[.val (.ref a1), .val (.ref a2), .val (.int (1 : Int32)), .val (.int z10v), .val (.int z13v)] [(.int z29v)]) := fun t k => P28 t (st29.trans k)
              have P31 : own_Pr p.tables e below S0 T29 (mkF m 26 #[.val (.ref a1), .val (.ref a2), .val (.int (1 : Int32)), .val (.int z29v), .val (.int z13v)] [(.int (1 : Int32)), (.ref a2)]) := fun t k => P30 t (by
                refine XS.istoreN X29.here hx rfl (hb hby d5_23) rfl (l' := #[.val (.ref a1), .val (.ref a2), .val (.int (1 : Int32)), .val (.int z29v), .val (.int z13v)]) rfl ?_
                show Steps p.tables e below (T29.setTop (mkF m 24 #[.val (.ref a1), .val (.ref a2), .val (.int (1 : Int32)), .val (.int z29v), .val (.int z13v)] [])) _
                refine XS.aloadN X29.here hx rfl (hb hby d5_24) rfl rfl ?_
                show Steps p.tables e below (T29.setTop (mkF m 25 #[.val (.ref a1), .val (.ref a2), .val (.int (1 : Int32)), .val (.int z29v), .val (.int z13v)] [(.ref a2)])) _
                refine XS.iloadN X29.here hx rfl (hb hby d5_25) rfl ?_
                show Steps p.tables e below (T29.setTop (mkF m 26 #[.val (.ref a1), .val (.ref a2), .val (.int (1 : Int32)), .val (.int z29v), .val (.int z13v)] [(.int (1 : Int32)), (.ref a2)])) _
                exact k)
              obtain ⟨cq32, kq32, q32a, q32b, q32c⟩ := isOf hZ eq29 Ea2
              obtain ⟨_, _, ⟨T32, L32, k32, n32⟩, -, X32, ⟨Lc32, hQ32, l32, y32, z32⟩, st32⟩ := X29.virtualBack hx (y := (⟨"java/lang/String", "codePointAt", "(I)I"⟩ : MethodName)) (z := (⟨"java/lang/String", "codePointAt", "(I)I"⟩ : MethodName)) hown (mvT hZ (hw _ (List.mem_of_getElem? (i := 111) rfl))) (mvT hZ (hw _ (List.mem_of_getElem? (i := 112) rfl))) (notFace_of_selects (args := #[]) (mvT hZ (hw _ (List.mem_of_getElem? (i := 114) rfl)))) (mvT hZ (hw _ (List.mem_of_getElem? (i := 114) rfl))) (mvT hZ (hw _ (List.mem_of_getElem? (i := 113) rfl))) (by decide) (backOf (W := 0) (rm27_S1 l Z a0 hw [] a2 nb d0 d1 cs fm h0 n0 Z0 Sa2 CS hcs FM hr_fm AD HB LB hd0 hd1 hc15_27) hZ (hw _ (List.mem_of_getElem? (i := 115) rfl)) (hw _ (List.mem_of_getElem? (i := 6) rfl)) (by decide) (by decide)) q32a q32c (g := (mkF m 26 #[.val (.ref a1), .val (.ref a2), .val (.int (1 : Int32)), .val (.int z29v), .val (.int z13v)] [(.int (1 : Int32)), (.ref a2)])) rfl (by rw [hml]; rfl) (Steps.refl _) (argsL := [(.int (1 : Int32))]) (rest := []) (lenOf pd_2 rfl) rfl (by show 2 * 0 + _ ≤ _; exact Nat.le_of_eq rfl) (hb hby d5_26) (fun _ _ => ⟨rfl, eq29, (by decide : 0 + 0 ≤ _), (by decide : 0 + 0 ≤ _)⟩)
              dsimp only [Pt.U, Pt.locs, Pt.cells, Pt.slots] at X32 l32 y32 z32 st32 hQ32
              subst l32 y32 z32
              obtain ⟨z32v, rfl, hz32v, Nq32, eq32⟩ := hQ32
              have N32n := Fr.app N29n Nq32
              have P33 : own_Pr p.tables e below S0 T32 (mkF m 29 #[.val (.ref a1), .val (.ref a2), .val (.int (1 : Int32)), .val (.int z29v), .val (.int z13v)] [(.int z32v)]) := fun t k => P31 t (st32.trans k)
              have P34 : own_Pr p.tables e below S0 T32 (mkF m 34 #[.val (.ref a1), .val (.ref a2), .val (.int (1 : Int32)), .val (.int z29v), .val (.int z32v)] [(.int z32v), (.int z29v)]) := fun t k => P33 t (by
                refine XS.istore X32.here hx rfl (hb hby d5_29) rfl (l' := #[.val (.ref a1), .val (.ref a2), .val (.int (1 : Int32)), .val (.int z29v), .val (.int z32v)]) rfl ?_
                show Steps p.tables e below (T32.setTop (mkF m 31 #[.val (.ref a1), .val (.ref a2), .val (.int (1 : Int32)), .val (.int z29v), .val (.int z32v)] [])) _
                refine XS.iloadN X32.here hx rfl (hb hby d5_31) rfl ?_
                show Steps p.tables e below (T32.setTop (mkF m 32 #[.val (.ref a1), .val (.ref a2), .val (.int (1 : Int32)), .val (.int z29v), .val (.int z32v)] [(.int z29v)])) _
                refine XS.iload X32.here hx rfl (hb hby d5_32) rfl ?_
                show Steps p.tables e below (T32.setTop (mkF m 34 #[.val (.ref a1), .val (.ref a2), .val (.int (1 : Int32)), .val (.int z29v), .val (.int z32v)] [(.int z32v), (.int z29v)])) _
                exact k)
              by_cases hc34_35 : z29v = z32v
              · have P36 : own_Pr p.tables e below S0 T32 (mkF m 46 #[.val (.ref a1), .val (.ref a2), .val (.int (1 : Int32)), .val (.int z29v), .val (.int z32v)] [(.int z29v), (.int (1 : Int32))]) := fun t k => P34 t (by
                  refine XS.icmpYes X32.here hx rfl (pc0 := 34) (pc' := 44) rfl (hb hby d5_34) rfl (XT.ii_eq_t hc34_35) (by decide) (by decide) ?_
                  show Steps p.tables e below (T32.setTop (mkF m 44 #[.val (.ref a1), .val (.ref a2), .val (.int (1 : Int32)), .val (.int z29v), .val (.int z32v)] [])) _
                  refine XS.iloadN X32.here hx rfl (hb hby d5_44) rfl ?_
                  show Steps p.tables e below (T32.setTop (mkF m 45 #[.val (.ref a1), .val (.ref a2), .val (.int (1 : Int32)), .val (.int z29v), .val (.int z32v)] [(.int (1 : Int32))])) _
                  refine XS.iloadN X32.here hx rfl (hb hby d5_45) rfl ?_
                  show Steps p.tables e below (T32.setTop (mkF m 46 #[.val (.ref a1), .val (.ref a2), .val (.int (1 : Int32)), .val (.int z29v), .val (.int z32v)] [(.int z29v), (.int (1 : Int32))])) _
                  exact k)
                obtain ⟨_, _, ⟨T37, L37, k37, n37⟩, -, X37, ⟨Lc37, hQ37, l37, y37, z37⟩, st37⟩ := Jvm.LawKit.callS X32 hx (y := (⟨"java/lang/Character", "charCount", "(I)I"⟩ : MethodName)) hown (mvT hZ (hw _ (List.mem_of_getElem? (i := 140) rfl))) (mvT hZ (hw _ (List.mem_of_getElem? (i := 141) rfl))) (mvT hZ (hw _ (List.mem_of_getElem? (i := 137) rfl))) (mvT hZ (hw _ (List.mem_of_getElem? (i := 142) rfl))) (by decide) (backOf (W := 1) (rm34 l Z a0 hw [] z29v  h0 n0 Z0 ) hZ (hw _ (List.mem_of_getElem? (i := 142) rfl)) (hw _ (List.mem_of_getElem? (i := 137) rfl)) (by decide) (by decide)) (g := (mkF m 46 #[.val (.ref a1), .val (.ref a2), .val (.int (1 : Int32)), .val (.int z29v), .val (.int z32v)] [(.int z29v), (.int (1 : Int32))])) rfl (by rw [hml]; rfl) (argsL := [(.int z29v)]) (rest := [(.int (1 : Int32))]) (lenOf pd_2 rfl) rfl (by show 2 * 0 + _ ≤ _; exact Nat.le_of_eq rfl) (hb hby d5_46) (fun _ _ => ⟨rfl, eq32, (by decide : 0 + 0 ≤ _), (by decide : 0 + 0 ≤ _)⟩)
                dsimp only [Pt.U, Pt.locs, Pt.cells, Pt.slots] at X37 l37 y37 z37 st37 hQ37
                subst l37 y37 z37
                obtain ⟨z37v, rfl, hz37v, Nq37, eq37⟩ := hQ37
                have N37n := Fr.app N32n Nq37
                by_cases hb37 : z29v < (65536 : Int32)
                · have _u := hb37
                  obtain rfl : z37v = (1 : Int32) := hz37v.trans (by unfold own_f34; rw [if_pos hb37])
                  have P38 : own_Pr p.tables e below S0 T37 (mkF m 49 #[.val (.ref a1), .val (.ref a2), .val (.int (1 : Int32)), .val (.int z29v), .val (.int z32v)] [(.int (1 : Int32)), (.int (1 : Int32))]) := fun t k => P36 t (st37 _ k)
                  have P39 : own_Pr p.tables e below S0 T37 (mkF m 4 #[.val (.ref a1), .val (.ref a2), .val (.int (2 : Int32)), .val (.int z29v), .val (.int z32v)] [(.ref a1), (.int (2 : Int32))]) := fun t k => P38 t (by
                    refine XS.iadd X37.here hx rfl (hb hby d5_49) rfl ?_
                    show Steps p.tables e below (T37.setTop (mkF m 50 #[.val (.ref a1), .val (.ref a2), .val (.int (1 : Int32)), .val (.int z29v), .val (.int z32v)] [(.int (2 : Int32))])) _
                    refine XS.istoreN X37.here hx rfl (hb hby d5_50) rfl (l' := #[.val (.ref a1), .val (.ref a2), .val (.int (2 : Int32)), .val (.int z29v), .val (.int z32v)]) rfl ?_
                    show Steps p.tables e below (T37.setTop (mkF m 51 #[.val (.ref a1), .val (.ref a2), .val (.int (2 : Int32)), .val (.int z29v), .val (.int z32v)] [])) _
                    refine XS.goto X37.here hx rfl (pc0 := 51) (pc' := 2) rfl (hb hby d5_51) (by decide) (by decide) ?_
                    show Steps p.tables e below (T37.setTop (mkF m 2 #[.val (.ref a1), .val (.ref a2), .val (.int (2 : Int32)), .val (.int z29v), .val (.int z32v)] [])) _
                    refine XS.iloadN X37.here hx rfl (hb hby d5_2) rfl ?_
                    show Steps p.tables e below (T37.setTop (mkF m 3 #[.val (.ref a1), .val (.ref a2), .val (.int (2 : Int32)), .val (.int z29v), .val (.int z32v)] [(.int (2 : Int32))])) _
                    refine XS.aloadN X37.here hx rfl (hb hby d5_3) rfl rfl ?_
                    show Steps p.tables e below (T37.setTop (mkF m 4 #[.val (.ref a1), .val (.ref a2), .val (.int (2 : Int32)), .val (.int z29v), .val (.int z32v)] [(.ref a1), (.int (2 : Int32))])) _
                    exact k)
                  obtain ⟨cq40, kq40, q40a, q40b, q40c⟩ := isOf hZ eq37 Ea1
                  obtain ⟨_, _, ⟨T40, L40, k40, n40⟩, -, X40, ⟨Lc40, hQ40, l40, y40, z40⟩, st40⟩ := X37.virtualBack hx (y := (⟨"java/lang/String", "length", "()I"⟩ : MethodName)) (z := (⟨"java/lang/String", "length", "()I"⟩ : MethodName)) hown (mvT hZ (hw _ (List.mem_of_getElem? (i := 30) rfl))) (mvT hZ (hw _ (List.mem_of_getElem? (i := 31) rfl))) (notFace_of_selects (args := #[]) (mvT hZ (hw _ (List.mem_of_getElem? (i := 33) rfl)))) (mvT hZ (hw _ (List.mem_of_getElem? (i := 33) rfl))) (mvT hZ (hw _ (List.mem_of_getElem? (i := 32) rfl))) (by decide) (backOf (W := 1) (rm6_S l Z a0 hw [] a1 na c0 c1 cs h0 n0 Z0 Sa1 CS hcs) hZ (hw _ (List.mem_of_getElem? (i := 34) rfl)) (hw _ (List.mem_of_getElem? (i := 6) rfl)) (by decide) (by decide)) q40a q40c (g := (mkF m 4 #[.val (.ref a1), .val (.ref a2), .val (.int (2 : Int32)), .val (.int z29v), .val (.int z32v)] [(.ref a1), (.int (2 : Int32))])) rfl (by rw [hml]; rfl) (Steps.refl _) (argsL := []) (rest := [(.int (2 : Int32))]) (lenOf pd_21 rfl) rfl (by show 2 * 0 + _ ≤ _; exact Nat.le_of_eq rfl) (hb hby d5_4) (fun _ _ => ⟨rfl, eq37, (by decide : 0 + 0 ≤ _), (by decide : 0 + 0 ≤ _)⟩)
                  dsimp only [Pt.U, Pt.locs, Pt.cells, Pt.slots] at X40 l40 y40 z40 st40 hQ40
                  subst l40 y40 z40
                  obtain ⟨z40v, rfl, hz40v, Nq40, eq40⟩ := hQ40
                  have N40n := Fr.app N37n Nq40
                  have hy40 := hz40v.symm; subst hy40
                  have P41 : own_Pr p.tables e below S0 T40 (mkF m 7 #[.val (.ref a1), .val (.ref a2), .val (.int (2 : Int32)), .val (.int z29v), .val (.int z32v)] [(.int na), (.int (2 : Int32))]) := fun t k => P39 t (st40.trans k)
                  have P42 : own_Pr p.tables e below S0 T40 (mkF m 55 #[.val (.ref a1), .val (.ref a2), .val (.int (2 : Int32)), .val (.int z29v), .val (.int z32v)] [(.ref a1)]) := fun t k => P41 t (by
                    refine XS.icmpYes X40.here hx rfl (pc0 := 7) (pc' := 54) rfl (hb hby d5_7) rfl (XT.ii_ge_t (own_n3 hna).1) (by decide) (by decide) ?_
                    show Steps p.tables e below (T40.setTop (mkF m 54 #[.val (.ref a1), .val (.ref a2), .val (.int (2 : Int32)), .val (.int z29v), .val (.int z32v)] [])) _
                    refine XS.aloadN X40.here hx rfl (hb hby d5_54) rfl rfl ?_
                    show Steps p.tables e below (T40.setTop (mkF m 55 #[.val (.ref a1), .val (.ref a2), .val (.int (2 : Int32)), .val (.int z29v), .val (.int z32v)] [(.ref a1)])) _
                    exact k)
                  obtain ⟨cq43, kq43, q43a, q43b, q43c⟩ := isOf hZ eq40 Ea1
                  obtain ⟨_, _, ⟨T43, L43, k43, n43⟩, -, X43, ⟨Lc43, hQ43, l43, y43, z43⟩, st43⟩ := X40.virtualBack hx (y := (⟨"java/lang/String", "length", "()I"⟩ : MethodName)) (z := (⟨"java/lang/String", "length", "()I"⟩ : MethodName)) hown (mvT hZ (hw _ (List.mem_of_getElem? (i := 30) rfl))) (mvT hZ (hw _ (List.mem_of_getElem? (i := 31) rfl))) (notFace_of_selects (args := #[]) (mvT hZ (hw _ (List.mem_of_getElem? (i := 33) rfl)))) (mvT hZ (hw _ (List.mem_of_getElem? (i := 33) rfl))) (mvT hZ (hw _ (List.mem_of_getElem? (i := 32) rfl))) (by decide) (backOf (W := 0) (rm6_S l Z a0 hw [] a1 na c0 c1 cs h0 n0 Z0 Sa1 CS hcs) hZ (hw _ (List.mem_of_getElem? (i := 34) rfl)) (hw _ (List.mem_of_getElem? (i := 6) rfl)) (by decide) (by decide)) q43a q43c (g := (mkF m 55 #[.val (.ref a1), .val (.ref a2), .val (.int (2 : Int32)), .val (.int z29v), .val (.int z32v)] [(.ref a1)])) rfl (by rw [hml]; rfl) (Steps.refl _) (argsL := []) (rest := []) (lenOf pd_21 rfl) rfl (by show 2 * 0 + _ ≤ _; exact Nat.le_of_eq rfl) (hb hby d5_55) (fun _ _ => ⟨rfl, eq40, (by decide : 0 + 0 ≤ _), (by decide : 0 + 0 ≤ _)⟩)
                  dsimp only [Pt.U, Pt.locs, Pt.cells, Pt.slots] at X43 l43 y43 z43 st43 hQ43
                  subst l43 y43 z43
                  obtain ⟨z43v, rfl, hz43v, Nq43, eq43⟩ := hQ43
                  have N43n := Fr.app N40n Nq43
                  have hy43 := hz43v.symm; subst hy43
                  have P44 : own_Pr p.tables e below S0 T43 (mkF m 58 #[.val (.ref a1), .val (.ref a2), .val (.int (2 : Int32)), .val (.int z29v), .val (.int z32v)] [(.int na)]) := fun t k => P42 t (st43.trans k)
                  have P45 : own_Pr p.tables e below S0 T43 (mkF m 59 #[.val (.ref a1), .val (.ref a2), .val (.int (2 : Int32)), .val (.int z29v), .val (.int z32v)] [(.ref a2), (.int na)]) := fun t k => P44 t (by
                    refine XS.aloadN X43.here hx rfl (hb hby d5_58) rfl rfl ?_
                    show Steps p.tables e below (T43.setTop (mkF m 59 #[.val (.ref a1), .val (.ref a2), .val (.int (2 : Int32)), .val (.int z29v), .val (.int z32v)] [(.ref a2), (.int na)])) _
                    exact k)
                  obtain ⟨cq46, kq46, q46a, q46b, q46c⟩ := isOf hZ eq43 Ea2
                  obtain ⟨_, _, ⟨T46, L46, k46, n46⟩, -, X46, ⟨Lc46, hQ46, l46, y46, z46⟩, st46⟩ := X43.virtualBack hx (y := (⟨"java/lang/String", "length", "()I"⟩ : MethodName)) (z := (⟨"java/lang/String", "length", "()I"⟩ : MethodName)) hown (mvT hZ (hw _ (List.mem_of_getElem? (i := 30) rfl))) (mvT hZ (hw _ (List.mem_of_getElem? (i := 31) rfl))) (notFace_of_selects (args := #[]) (mvT hZ (hw _ (List.mem_of_getElem? (i := 33) rfl)))) (mvT hZ (hw _ (List.mem_of_getElem? (i := 33) rfl))) (mvT hZ (hw _ (List.mem_of_getElem? (i := 32) rfl))) (by decide) (backOf (W := 1) (rm6_S l Z a0 hw [] a2 nb d0 d1 cs h0 n0 Z0 Sa2 CS hcs) hZ (hw _ (List.mem_of_getElem? (i := 34) rfl)) (hw _ (List.mem_of_getElem? (i := 6) rfl)) (by decide) (by decide)) q46a q46c (g := (mkF m 59 #[.val (.ref a1), .val (.ref a2), .val (.int (2 : Int32)), .val (.int z29v), .val (.int z32v)] [(.ref a2), (.int na)])) rfl (by rw [hml]; rfl) (Steps.refl _) (argsL := []) (rest := [(.int na)]) (lenOf pd_21 rfl) rfl (by show 2 * 0 + _ ≤ _; exact Nat.le_of_eq rfl) (hb hby d5_59) (fun _ _ => ⟨rfl, eq43, (by decide : 0 + 0 ≤ _), (by decide : 0 + 0 ≤ _)⟩)
                  dsimp only [Pt.U, Pt.locs, Pt.cells, Pt.slots] at X46 l46 y46 z46 st46 hQ46
                  subst l46 y46 z46
                  obtain ⟨z46v, rfl, hz46v, Nq46, eq46⟩ := hQ46
                  have N46n := Fr.app N43n Nq46
                  have hy46 := hz46v.symm; subst hy46
                  have P47 : own_Pr p.tables e below S0 T46 (mkF m 62 #[.val (.ref a1), .val (.ref a2), .val (.int (2 : Int32)), .val (.int z29v), .val (.int z32v)] [(.int nb), (.int na)]) := fun t k => P45 t (st46.trans k)
                  obtain ⟨_, _, ⟨T48, L48, k48, n48⟩, -, X48, ⟨Lc48, hQ48, l48, y48, z48⟩, st48⟩ := Jvm.LawKit.callS X46 hx (y := (⟨"java/lang/Integer", "compare", "(II)I"⟩ : MethodName)) hown (mvT hZ (hw _ (List.mem_of_getElem? (i := 41) rfl))) (mvT hZ (hw _ (List.mem_of_getElem? (i := 42) rfl))) (mvT hZ (hw _ (List.mem_of_getElem? (i := 43) rfl))) (mvT hZ (hw _ (List.mem_of_getElem? (i := 44) rfl))) (by decide) (backOf (W := 0) (rm8 l Z a0 hw [] na nb  h0 n0 Z0 ) hZ (hw _ (List.mem_of_getElem? (i := 44) rfl)) (hw _ (List.mem_of_getElem? (i := 43) rfl)) (by decide) (by decide)) (g := (mkF m 62 #[.val (.ref a1), .val (.ref a2), .val (.int (2 : Int32)), .val (.int z29v), .val (.int z32v)] [(.int nb), (.int na)])) rfl (by rw [hml]; rfl) (argsL := [(.int na), (.int nb)]) (rest := []) (lenOf pd_22 rfl) rfl (by show 2 * 0 + _ ≤ _; exact Nat.le_of_eq rfl) (hb hby d5_62) (fun _ _ => ⟨rfl, eq46, (by decide : 0 + 0 ≤ _), (by decide : 0 + 0 ≤ _)⟩)
                  dsimp only [Pt.U, Pt.locs, Pt.cells, Pt.slots] at X48 l48 y48 z48 st48 hQ48
                  subst l48 y48 z48
                  obtain ⟨z48v, rfl, hz48v, Nq48, eq48⟩ := hQ48
                  have N48n := Fr.app N46n Nq48
                  have P49 : own_Pr p.tables e below S0 T48 (mkF m 65 #[.val (.ref a1), .val (.ref a2), .val (.int (2 : Int32)), .val (.int z29v), .val (.int z32v)] [(.int z48v)]) := fun t k => P47 t (st48 _ k)
                  obtain ⟨fs, hr, hrun, hended, hW, hsame⟩ := X48.leave (v := some (.int z48v)) (fun h => by rw [Bd.returns] at h; cases h)
                  have fin : Steps p.tables e below S0 (T48.setFrames fs) := P49 _ (retI X48 hx Bd.returns (hb hby d5_65) hr)
                  rw [hS0] at fin
                  refine ⟨_, _, fin, hrun, hended, _, _, rfl, ?_, ⟨_, rfl⟩, hW, hsame.mono (by decide) (by decide)⟩
                  show own_QI h0 n0 (own_cmp na c0 c1 nb d0 d1) _ T48.heap _
                  rw [eq48]
                  exact ⟨_, rfl, (by subst hz48v; subst hz32v; subst hz29v; subst hz13v; subst hz10v; unfold own_cmp; rw [if_pos hc7_4, if_pos hc15_8, if_pos hc34_16, if_pos hb18, if_pos hc7_23, if_pos hc15_27, if_pos hc34_35, if_pos hb37]), N48n, rfl⟩
                · have _u := hb37
                  obtain rfl : z37v = (2 : Int32) := hz37v.trans (by unfold own_f34; rw [if_neg hb37])
                  have P50 : own_Pr p.tables e below S0 T37 (mkF m 49 #[.val (.ref a1), .val (.ref a2), .val (.int (1 : Int32)), .val (.int z29v), .val (.int z32v)] [(.int (2 : Int32)), (.int (1 : Int32))]) := fun t k => P36 t (st37 _ k)
                  have P51 : own_Pr p.tables e below S0 T37 (mkF m 4 #[.val (.ref a1), .val (.ref a2), .val (.int (3 : Int32)), .val (.int z29v), .val (.int z32v)] [(.ref a1), (.int (3 : Int32))]) := fun t k => P50 t (by
                    refine XS.iadd X37.here hx rfl (hb hby d5_49) rfl ?_
                    show Steps p.tables e below (T37.setTop (mkF m 50 #[.val (.ref a1), .val (.ref a2), .val (.int (1 : Int32)), .val (.int z29v), .val (.int z32v)] [(.int (3 : Int32))])) _
                    refine XS.istoreN X37.here hx rfl (hb hby d5_50) rfl (l' := #[.val (.ref a1), .val (.ref a2), .val (.int (3 : Int32)), .val (.int z29v), .val (.int z32v)]) rfl ?_
                    show Steps p.tables e below (T37.setTop (mkF m 51 #[.val (.ref a1), .val (.ref a2), .val (.int (3 : Int32)), .val (.int z29v), .val (.int z32v)] [])) _
                    refine XS.goto X37.here hx rfl (pc0 := 51) (pc' := 2) rfl (hb hby d5_51) (by decide) (by decide) ?_
                    show Steps p.tables e below (T37.setTop (mkF m 2 #[.val (.ref a1), .val (.ref a2), .val (.int (3 : Int32)), .val (.int z29v), .val (.int z32v)] [])) _
                    refine XS.iloadN X37.here hx rfl (hb hby d5_2) rfl ?_
                    show Steps p.tables e below (T37.setTop (mkF m 3 #[.val (.ref a1), .val (.ref a2), .val (.int (3 : Int32)), .val (.int z29v), .val (.int z32v)] [(.int (3 : Int32))])) _
                    refine XS.aloadN X37.here hx rfl (hb hby d5_3) rfl rfl ?_
                    show Steps p.tables e below (T37.setTop (mkF m 4 #[.val (.ref a1), .val (.ref a2), .val (.int (3 : Int32)), .val (.int z29v), .val (.int z32v)] [(.ref a1), (.int (3 : Int32))])) _
                    exact k)
                  obtain ⟨cq52, kq52, q52a, q52b, q52c⟩ := isOf hZ eq37 Ea1
                  obtain ⟨_, _, ⟨T52, L52, k52, n52⟩, -, X52, ⟨Lc52, hQ52, l52, y52, z52⟩, st52⟩ := X37.virtualBack hx (y := (⟨"java/lang/String", "length", "()I"⟩ : MethodName)) (z := (⟨"java/lang/String", "length", "()I"⟩ : MethodName)) hown (mvT hZ (hw _ (List.mem_of_getElem? (i := 30) rfl))) (mvT hZ (hw _ (List.mem_of_getElem? (i := 31) rfl))) (notFace_of_selects (args := #[]) (mvT hZ (hw _ (List.mem_of_getElem? (i := 33) rfl)))) (mvT hZ (hw _ (List.mem_of_getElem? (i := 33) rfl))) (mvT hZ (hw _ (List.mem_of_getElem? (i := 32) rfl))) (by decide) (backOf (W := 1) (rm6_S l Z a0 hw [] a1 na c0 c1 cs h0 n0 Z0 Sa1 CS hcs) hZ (hw _ (List.mem_of_getElem? (i := 34) rfl)) (hw _ (List.mem_of_getElem? (i := 6) rfl)) (by decide) (by decide)) q52a q52c (g := (mkF m 4 #[.val (.ref a1), .val (.ref a2), .val (.int (3 : Int32)), .val (.int z29v), .val (.int z32v)] [(.ref a1), (.int (3 : Int32))])) rfl (by rw [hml]; rfl) (Steps.refl _) (argsL := []) (rest := [(.int (3 : Int32))]) (lenOf pd_21 rfl) rfl (by show 2 * 0 + _ ≤ _; exact Nat.le_of_eq rfl) (hb hby d5_4) (fun _ _ => ⟨rfl, eq37, (by decide : 0 + 0 ≤ _), (by decide : 0 + 0 ≤ _)⟩)
                  dsimp only [Pt.U, Pt.locs, Pt.cells, Pt.slots] at X52 l52 y52 z52 st52 hQ52
                  subst l52 y52 z52
                  obtain ⟨z52v, rfl, hz52v, Nq52, eq52⟩ := hQ52
                  have N52n := Fr.app N37n Nq52
                  have hy52 := hz52v.symm; subst hy52
                  have P53 : own_Pr p.tables e below S0 T52 (mkF m 7 #[.val (.ref a1), .val (.ref a2), .val (.int (3 : Int32)), .val (.int z29v), .val (.int z32v)] [(.int na), (.int (3 : Int32))]) := fun t k => P51 t (st52.trans k)
                  have P54 : own_Pr p.tables e below S0 T52 (mkF m 55 #[.val (.ref a1), .val (.ref a2), .val (.int (3 : Int32)), .val (.int z29v), .val (.int z32v)] [(.ref a1)]) := fun t k => P53 t (by
                    refine XS.icmpYes X52.here hx rfl (pc0 := 7) (pc' := 54) rfl (hb hby d5_7) rfl (XT.ii_ge_t (own_n3 hna).2) (by decide) (by decide) ?_
                    show Steps p.tables e below (T52.setTop (mkF m 54 #[.val (.ref a1), .val (.ref a2), .val (.int (3 : Int32)), .val (.int z29v), .val (.int z32v)] [])) _
                    refine XS.aloadN X52.here hx rfl (hb hby d5_54) rfl rfl ?_
                    show Steps p.tables e below (T52.setTop (mkF m 55 #[.val (.ref a1), .val (.ref a2), .val (.int (3 : Int32)), .val (.int z29v), .val (.int z32v)] [(.ref a1)])) _
                    exact k)
                  obtain ⟨cq55, kq55, q55a, q55b, q55c⟩ := isOf hZ eq52 Ea1
                  obtain ⟨_, _, ⟨T55, L55, k55, n55⟩, -, X55, ⟨Lc55, hQ55, l55, y55, z55⟩, st55⟩ := X52.virtualBack hx (y := (⟨"java/lang/String", "length", "()I"⟩ : MethodName)) (z := (⟨"java/lang/String", "length", "()I"⟩ : MethodName)) hown (mvT hZ (hw _ (List.mem_of_getElem? (i := 30) rfl))) (mvT hZ (hw _ (List.mem_of_getElem? (i := 31) rfl))) (notFace_of_selects (args := #[]) (mvT hZ (hw _ (List.mem_of_getElem? (i := 33) rfl)))) (mvT hZ (hw _ (List.mem_of_getElem? (i := 33) rfl))) (mvT hZ (hw _ (List.mem_of_getElem? (i := 32) rfl))) (by decide) (backOf (W := 0) (rm6_S l Z a0 hw [] a1 na c0 c1 cs h0 n0 Z0 Sa1 CS hcs) hZ (hw _ (List.mem_of_getElem? (i := 34) rfl)) (hw _ (List.mem_of_getElem? (i := 6) rfl)) (by decide) (by decide)) q55a q55c (g := (mkF m 55 #[.val (.ref a1), .val (.ref a2), .val (.int (3 : Int32)), .val (.int z29v), .val (.int z32v)] [(.ref a1)])) rfl (by rw [hml]; rfl) (Steps.refl _) (argsL := []) (rest := []) (lenOf pd_21 rfl) rfl (by show 2 * 0 + _ ≤ _; exact Nat.le_of_eq rfl) (hb hby d5_55) (fun _ _ => ⟨rfl, eq52, (by decide : 0 + 0 ≤ _), (by decide : 0 + 0 ≤ _)⟩)
                  dsimp only [Pt.U, Pt.locs, Pt.cells, Pt.slots] at X55 l55 y55 z55 st55 hQ55
                  subst l55 y55 z55
                  obtain ⟨z55v, rfl, hz55v, Nq55, eq55⟩ := hQ55
                  have N55n := Fr.app N52n Nq55
                  have hy55 := hz55v.symm; subst hy55
                  have P56 : own_Pr p.tables e below S0 T55 (mkF m 58 #[.val (.ref a1), .val (.ref a2), .val (.int (3 : Int32)), .val (.int z29v), .val (.int z32v)] [(.int na)]) := fun t k => P54 t (st55.trans k)
                  have P57 : own_Pr p.tables e below S0 T55 (mkF m 59 #[.val (.ref a1), .val (.ref a2), .val (.int (3 : Int32)), .val (.int z29v), .val (.int z32v)] [(.ref a2), (.int na)]) := fun t k => P56 t (by
                    refine XS.aloadN X55.here hx rfl (hb hby d5_58) rfl rfl ?_
                    show Steps p.tables e below (T55.setTop (mkF m 59 #[.val (.ref a1), .val (.ref a2), .val (.int (3 : Int32)), .val (.int z29v), .val (.int z32v)] [(.ref a2), (.int na)])) _
                    exact k)
                  obtain ⟨cq58, kq58, q58a, q58b, q58c⟩ := isOf hZ eq55 Ea2
                  obtain ⟨_, _, ⟨T58, L58, k58, n58⟩, -, X58, ⟨Lc58, hQ58, l58, y58, z58⟩, st58⟩ := X55.virtualBack hx (y := (⟨"java/lang/String", "length", "()I"⟩ : MethodName)) (z := (⟨"java/lang/String", "length", "()I"⟩ : MethodName)) hown (mvT hZ (hw _ (List.mem_of_getElem? (i := 30) rfl))) (mvT hZ (hw _ (List.mem_of_getElem? (i := 31) rfl))) (notFace_of_selects (args := #[]) (mvT hZ (hw _ (List.mem_of_getElem? (i := 33) rfl)))) (mvT hZ (hw _ (List.mem_of_getElem? (i := 33) rfl))) (mvT hZ (hw _ (List.mem_of_getElem? (i := 32) rfl))) (by decide) (backOf (W := 1) (rm6_S l Z a0 hw [] a2 nb d0 d1 cs h0 n0 Z0 Sa2 CS hcs) hZ (hw _ (List.mem_of_getElem? (i := 34) rfl)) (hw _ (List.mem_of_getElem? (i := 6) rfl)) (by decide) (by decide)) q58a q58c (g := (mkF m 59 #[.val (.ref a1), .val (.ref a2), .val (.int (3 : Int32)), .val (.int z29v), .val (.int z32v)] [(.ref a2), (.int na)])) rfl (by rw [hml]; rfl) (Steps.refl _) (argsL := []) (rest := [(.int na)]) (lenOf pd_21 rfl) rfl (by show 2 * 0 + _ ≤ _; exact Nat.le_of_eq rfl) (hb hby d5_59) (fun _ _ => ⟨rfl, eq55, (by decide : 0 + 0 ≤ _), (by decide : 0 + 0 ≤ _)⟩)
                  dsimp only [Pt.U, Pt.locs, Pt.cells, Pt.slots] at X58 l58 y58 z58 st58 hQ58
                  subst l58 y58 z58
                  obtain ⟨z58v, rfl, hz58v, Nq58, eq58⟩ := hQ58
                  have N58n := Fr.app N55n Nq58
                  have hy58 := hz58v.symm; subst hy58
                  have P59 : own_Pr p.tables e below S0 T58 (mkF m 62 #[.val (.ref a1), .val (.ref a2), .val (.int (3 : Int32)), .val (.int z29v), .val (.int z32v)] [(.int nb), (.int na)]) := fun t k => P57 t (st58.trans k)
                  obtain ⟨_, _, ⟨T60, L60, k60, n60⟩, -, X60, ⟨Lc60, hQ60, l60, y60, z60⟩, st60⟩ := Jvm.LawKit.callS X58 hx (y := (⟨"java/lang/Integer", "compare", "(II)I"⟩ : MethodName)) hown (mvT hZ (hw _ (List.mem_of_getElem? (i := 41) rfl))) (mvT hZ (hw _ (List.mem_of_getElem? (i := 42) rfl))) (mvT hZ (hw _ (List.mem_of_getElem? (i := 43) rfl))) (mvT hZ (hw _ (List.mem_of_getElem? (i := 44) rfl))) (by decide) (backOf (W := 0) (rm8 l Z a0 hw [] na nb  h0 n0 Z0 ) hZ (hw _ (List.mem_of_getElem? (i := 44) rfl)) (hw _ (List.mem_of_getElem? (i := 43) rfl)) (by decide) (by decide)) (g := (mkF m 62 #[.val (.ref a1), .val (.ref a2), .val (.int (3 : Int32)), .val (.int z29v), .val (.int z32v)] [(.int nb), (.int na)])) rfl (by rw [hml]; rfl) (argsL := [(.int na), (.int nb)]) (rest := []) (lenOf pd_22 rfl) rfl (by show 2 * 0 + _ ≤ _; exact Nat.le_of_eq rfl) (hb hby d5_62) (fun _ _ => ⟨rfl, eq58, (by decide : 0 + 0 ≤ _), (by decide : 0 + 0 ≤ _)⟩)
                  dsimp only [Pt.U, Pt.locs, Pt.cells, Pt.slots] at X60 l60 y60 z60 st60 hQ60
                  subst l60 y60 z60
                  obtain ⟨z60v, rfl, hz60v, Nq60, eq60⟩ := hQ60
                  have N60n := Fr.app N58n Nq60
                  have P61 : own_Pr p.tables e below S0 T60 (mkF m 65 #[.val (.ref a1), .val (.ref a2), .val (.int (3 : Int32)), .val (.int z29v), .val (.int z32v)] [(.int z60v)]) := fun t k => P59 t (st60 _ k)
                  obtain ⟨fs, hr, hrun, hended, hW, hsame⟩ := X60.leave (v := some (.int z60v)) (fun h => by rw [Bd.returns] at h; cases h)
                  have fin : Steps p.tables e below S0 (T60.setFrames fs) := P61 _ (retI X60 hx Bd.returns (hb hby d5_65) hr)
                  rw [hS0] at fin
                  refine ⟨_, _, fin, hrun, hended, _, _, rfl, ?_, ⟨_, rfl⟩, hW, hsame.mono (by decide) (by decide)⟩
                  show own_QI h0 n0 (own_cmp na c0 c1 nb d0 d1) _ T60.heap _
                  rw [eq60]
                  exact ⟨_, rfl, (by subst hz60v; subst hz32v; subst hz29v; subst hz13v; subst hz10v; unfold own_cmp; rw [if_pos hc7_4, if_pos hc15_8, if_pos hc34_16, if_pos hb18, if_pos hc7_23, if_pos hc15_27, if_pos hc34_35, if_neg hb37]), N60n, rfl⟩
              · have P62 : own_Pr p.tables e below S0 T32 (mkF m 40 #[.val (.ref a1), .val (.ref a2), .val (.int (1 : Int32)), .val (.int z29v), .val (.int z32v)] [(.int z32v), (.int z29v)]) := fun t k => P34 t (by
                  refine XS.icmpNo X32.here hx rfl (hb hby d5_34) rfl (XT.ii_eq_f hc34_35) ?_
                  show Steps p.tables e below (T32.setTop (mkF m 37 #[.val (.ref a1), .val (.ref a2), .val (.int (1 : Int32)), .val (.int z29v), .val (.int z32v)] [])) _
                  refine XS.iloadN X32.here hx rfl (hb hby d5_37) rfl ?_
                  show Steps p.tables e below (T32.setTop (mkF m 38 #[.val (.ref a1), .val (.ref a2), .val (.int (1 : Int32)), .val (.int z29v), .val (.int z32v)] [(.int z29v)])) _
                  refine XS.iload X32.here hx rfl (hb hby d5_38) rfl ?_
                  show Steps p.tables e below (T32.setTop (mkF m 40 #[.val (.ref a1), .val (.ref a2), .val (.int (1 : Int32)), .val (.int z29v), .val (.int z32v)] [(.int z32v), (.int z29v)])) _
                  exact k)
                obtain ⟨_, _, ⟨T63, L63, k63, n63⟩, -, X63, ⟨Lc63, hQ63, l63, y63, z63⟩, st63⟩ := Jvm.LawKit.callS X32 hx (y := (⟨"java/lang/Integer", "compare", "(II)I"⟩ : MethodName)) hown (mvT hZ (hw _ (List.mem_of_getElem? (i := 41) rfl))) (mvT hZ (hw _ (List.mem_of_getElem? (i := 42) rfl))) (mvT hZ (hw _ (List.mem_of_getElem? (i := 43) rfl))) (mvT hZ (hw _ (List.mem_of_getElem? (i := 44) rfl))) (by decide) (backOf (W := 0) (rm8 l Z a0 hw [] z29v z32v  h0 n0 Z0 ) hZ (hw _ (List.mem_of_getElem? (i := 44) rfl)) (hw _ (List.mem_of_getElem? (i := 43) rfl)) (by decide) (by decide)) (g := (mkF m 40 #[.val (.ref a1), .val (.ref a2), .val (.int (1 : Int32)), .val (.int z29v), .val (.int z32v)] [(.int z32v), (.int z29v)])) rfl (by rw [hml]; rfl) (argsL := [(.int z29v), (.int z32v)]) (rest := []) (lenOf pd_22 rfl) rfl (by show 2 * 0 + _ ≤ _; exact Nat.le_of_eq rfl) (hb hby d5_40) (fun _ _ => ⟨rfl, eq32, (by decide : 0 + 0 ≤ _), (by decide : 0 + 0 ≤ _)⟩)
                dsimp only [Pt.U, Pt.locs, Pt.cells, Pt.slots] at X63 l63 y63 z63 st63 hQ63
                subst l63 y63 z63
                obtain ⟨z63v, rfl, hz63v, Nq63, eq63⟩ := hQ63
                have N63n := Fr.app N32n Nq63
                have P64 : own_Pr p.tables e below S0 T63 (mkF m 43 #[.val (.ref a1), .val (.ref a2), .val (.int (1 : Int32)), .val (.int z29v), .val (.int z32v)] [(.int z63v)]) := fun t k => P62 t (st63 _ k)
                obtain ⟨fs, hr, hrun, hended, hW, hsame⟩ := X63.leave (v := some (.int z63v)) (fun h => by rw [Bd.returns] at h; cases h)
                have fin : Steps p.tables e below S0 (T63.setFrames fs) := P64 _ (retI X63 hx Bd.returns (hb hby d5_43) hr)
                rw [hS0] at fin
                refine ⟨_, _, fin, hrun, hended, _, _, rfl, ?_, ⟨_, rfl⟩, hW, hsame.mono (by decide) (by decide)⟩
                show own_QI h0 n0 (own_cmp na c0 c1 nb d0 d1) _ T63.heap _
                rw [eq63]
                exact ⟨_, rfl, (by subst hz63v; subst hz32v; subst hz29v; subst hz13v; subst hz10v; unfold own_cmp; rw [if_pos hc7_4, if_pos hc15_8, if_pos hc34_16, if_pos hb18, if_pos hc7_23, if_pos hc15_27, if_neg hc34_35]), N63n, rfl⟩
            · have P65 : own_Pr p.tables e below S0 T25 (mkF m 55 #[.val (.ref a1), .val (.ref a2), .val (.int (1 : Int32)), .val (.int z10v), .val (.int z13v)] [(.ref a1)]) := fun t k => P26 t (by
                refine XS.icmpYes X25.here hx rfl (pc0 := 15) (pc' := 54) rfl (hb hby d5_15) rfl (XT.ii_ge_t hc15_27) (by decide) (by decide) ?_
                show Steps p.tables e below (T25.setTop (mkF m 54 #[.val (.ref a1), .val (.ref a2), .val (.int (1 : Int32)), .val (.int z10v), .val (.int z13v)] [])) _
                refine XS.aloadN X25.here hx rfl (hb hby d5_54) rfl rfl ?_
                show Steps p.tables e below (T25.setTop (mkF m 55 #[.val (.ref a1), .val (.ref a2), .val (.int (1 : Int32)), .val (.int z10v), .val (.int z13v)] [(.ref a1)])) _
                exact k)
              obtain ⟨cq66, kq66, q66a, q66b, q66c⟩ := isOf hZ eq25 Ea1
              obtain ⟨_, _, ⟨T66, L66, k66, n66⟩, -, X66, ⟨Lc66, hQ66, l66, y66, z66⟩, st66⟩ := X25.virtualBack hx (y := (⟨"java/lang/String", "length", "()I"⟩ : MethodName)) (z := (⟨"java/lang/String", "length", "()I"⟩ : MethodName)) hown (mvT hZ (hw _ (List.mem_of_getElem? (i := 30) rfl))) (mvT hZ (hw _ (List.mem_of_getElem? (i := 31) rfl))) (notFace_of_selects (args := #[]) (mvT hZ (hw _ (List.mem_of_getElem? (i := 33) rfl)))) (mvT hZ (hw _ (List.mem_of_getElem? (i := 33) rfl))) (mvT hZ (hw _ (List.mem_of_getElem? (i := 32) rfl))) (by decide) (backOf (W := 0) (rm6_S l Z a0 hw [] a1 na c0 c1 cs h0 n0 Z0 Sa1 CS hcs) hZ (hw _ (List.mem_of_getElem? (i := 34) rfl)) (hw _ (List.mem_of_getElem? (i := 6) rfl)) (by decide) (by decide)) q66a q66c (g := (mkF m 55 #[.val (.ref a1), .val (.ref a2), .val (.int (1 : Int32)), .val (.int z10v), .val (.int z13v)] [(.ref a1)])) rfl (by rw [hml]; rfl) (Steps.refl _) (argsL := []) (rest := []) (lenOf pd_21 rfl) rfl (by show 2 * 0 + _ ≤ _; exact Nat.le_of_eq rfl) (hb hby d5_55) (fun _ _ => ⟨rfl, eq25, (by decide : 0 + 0 ≤ _), (by decide : 0 + 0 ≤ _)⟩)
              dsimp only [Pt.U, Pt.locs, Pt.cells, Pt.slots] at X66 l66 y66 z66 st66 hQ66
              subst l66 y66 z66
              obtain ⟨z66v, rfl, hz66v, Nq66, eq66⟩ := hQ66
              have N66n := Fr.app N25n Nq66
              have hy66 := hz66v.symm; subst hy66
              have P67 : own_Pr p.tables e below S0 T66 (mkF m 58 #[.val (.ref a1), .val (.ref a2), .val (.int (1 : Int32)), .val (.int z10v), .val (.int z13v)] [(.int na)]) := fun t k => P65 t (st66.trans k)
              have P68 : own_Pr p.tables e below S0 T66 (mkF m 59 #[.val (.ref a1), .val (.ref a2), .val (.int (1 : Int32)), .val (.int z10v), .val (.int z13v)] [(.ref a2), (.int na)]) := fun t k => P67 t (by
                refine XS.aloadN X66.here hx rfl (hb hby d5_58) rfl rfl ?_
                show Steps p.tables e below (T66.setTop (mkF m 59 #[.val (.ref a1), .val (.ref a2), .val (.int (1 : Int32)), .val (.int z10v), .val (.int z13v)] [(.ref a2), (.int na)])) _
                exact k)
              obtain ⟨cq69, kq69, q69a, q69b, q69c⟩ := isOf hZ eq66 Ea2
              obtain ⟨_, _, ⟨T69, L69, k69, n69⟩, -, X69, ⟨Lc69, hQ69, l69, y69, z69⟩, st69⟩ := X66.virtualBack hx (y := (⟨"java/lang/String", "length", "()I"⟩ : MethodName)) (z := (⟨"java/lang/String", "length", "()I"⟩ : MethodName)) hown (mvT hZ (hw _ (List.mem_of_getElem? (i := 30) rfl))) (mvT hZ (hw _ (List.mem_of_getElem? (i := 31) rfl))) (notFace_of_selects (args := #[]) (mvT hZ (hw _ (List.mem_of_getElem? (i := 33) rfl)))) (mvT hZ (hw _ (List.mem_of_getElem? (i := 33) rfl))) (mvT hZ (hw _ (List.mem_of_getElem? (i := 32) rfl))) (by decide) (backOf (W := 1) (rm6_S l Z a0 hw [] a2 nb d0 d1 cs h0 n0 Z0 Sa2 CS hcs) hZ (hw _ (List.mem_of_getElem? (i := 34) rfl)) (hw _ (List.mem_of_getElem? (i := 6) rfl)) (by decide) (by decide)) q69a q69c (g := (mkF m 59 #[.val (.ref a1), .val (.ref a2), .val (.int (1 : Int32)), .val (.int z10v), .val (.int z13v)] [(.ref a2), (.int na)])) rfl (by rw [hml]; rfl) (Steps.refl _) (argsL := []) (rest := [(.int na)]) (lenOf pd_21 rfl) rfl (by show 2 * 0 + _ ≤ _; exact Nat.le_of_eq rfl) (hb hby d5_59) (fun _ _ => ⟨rfl, eq66, (by decide : 0 + 0 ≤ _), (by decide : 0 + 0 ≤ _)⟩)
              dsimp only [Pt.U, Pt.locs, Pt.cells, Pt.slots] at X69 l69 y69 z69 st69 hQ69
              subst l69 y69 z69
              obtain ⟨z69v, rfl, hz69v, Nq69, eq69⟩ := hQ69
              have N69n := Fr.app N66n Nq69
              have hy69 := hz69v.symm; subst hy69
              have P70 : own_Pr p.tables e below S0 T69 (mkF m 62 #[.val (.ref a1), .val (.ref a2), .val (.int (1 : Int32)), .val (.int z10v), .val (.int z13v)] [(.int nb), (.int na)]) := fun t k => P68 t (st69.trans k)
              obtain ⟨_, _, ⟨T71, L71, k71, n71⟩, -, X71, ⟨Lc71, hQ71, l71, y71, z71⟩, st71⟩ := Jvm.LawKit.callS X69 hx (y := (⟨"java/lang/Integer", "compare", "(II)I"⟩ : MethodName)) hown (mvT hZ (hw _ (List.mem_of_getElem? (i := 41) rfl))) (mvT hZ (hw _ (List.mem_of_getElem? (i := 42) rfl))) (mvT hZ (hw _ (List.mem_of_getElem? (i := 43) rfl))) (mvT hZ (hw _ (List.mem_of_getElem? (i := 44) rfl))) (by decide) (backOf (W := 0) (rm8 l Z a0 hw [] na nb  h0 n0 Z0 ) hZ (hw _ (List.mem_of_getElem? (i := 44) rfl)) (hw _ (List.mem_of_getElem? (i := 43) rfl)) (by decide) (by decide)) (g := (mkF m 62 #[.val (.ref a1), .val (.ref a2), .val (.int (1 : Int32)), .val (.int z10v), .val (.int z13v)] [(.int nb), (.int na)])) rfl (by rw [hml]; rfl) (argsL := [(.int na), (.int nb)]) (rest := []) (lenOf pd_22 rfl) rfl (by show 2 * 0 + _ ≤ _; exact Nat.le_of_eq rfl) (hb hby d5_62) (fun _ _ => ⟨rfl, eq69, (by decide : 0 + 0 ≤ _), (by decide : 0 + 0 ≤ _)⟩)
              dsimp only [Pt.U, Pt.locs, Pt.cells, Pt.slots] at X71 l71 y71 z71 st71 hQ71
              subst l71 y71 z71
              obtain ⟨z71v, rfl, hz71v, Nq71, eq71⟩ := hQ71
              have N71n := Fr.app N69n Nq71
              have P72 : own_Pr p.tables e below S0 T71 (mkF m 65 #[.val (.ref a1), .val (.ref a2), .val (.int (1 : Int32)), .val (.int z10v), .val (.int z13v)] [(.int z71v)]) := fun t k => P70 t (st71 _ k)
              obtain ⟨fs, hr, hrun, hended, hW, hsame⟩ := X71.leave (v := some (.int z71v)) (fun h => by rw [Bd.returns] at h; cases h)
              have fin : Steps p.tables e below S0 (T71.setFrames fs) := P72 _ (retI X71 hx Bd.returns (hb hby d5_65) hr)
              rw [hS0] at fin
              refine ⟨_, _, fin, hrun, hended, _, _, rfl, ?_, ⟨_, rfl⟩, hW, hsame.mono (by decide) (by decide)⟩
              show own_QI h0 n0 (own_cmp na c0 c1 nb d0 d1) _ T71.heap _
              rw [eq71]
              exact ⟨_, rfl, (by subst hz71v; subst hz13v; subst hz10v; unfold own_cmp; rw [if_pos hc7_4, if_pos hc15_8, if_pos hc34_16, if_pos hb18, if_pos hc7_23, if_neg hc15_27]), N71n, rfl⟩
          · have P73 : own_Pr p.tables e below S0 T21 (mkF m 55 #[.val (.ref a1), .val (.ref a2), .val (.int (1 : Int32)), .val (.int z10v), .val (.int z13v)] [(.ref a1)]) := fun t k => P22 t (by
              refine XS.icmpYes X21.here hx rfl (pc0 := 7) (pc' := 54) rfl (hb hby d5_7) rfl (XT.ii_ge_t hc7_23) (by decide) (by decide) ?_
              show Steps p.tables e below (T21.setTop (mkF m 54 #[.val (.ref a1), .val (.ref a2), .val (.int (1 : Int32)), .val (.int z10v), .val (.int z13v)] [])) _
              refine XS.aloadN X21.here hx rfl (hb hby d5_54) rfl rfl ?_
              show Steps p.tables e below (T21.setTop (mkF m 55 #[.val (.ref a1), .val (.ref a2), .val (.int (1 : Int32)), .val (.int z10v), .val (.int z13v)] [(.ref a1)])) _
              exact k)
            obtain ⟨cq74, kq74, q74a, q74b, q74c⟩ := isOf hZ eq21 Ea1
            obtain ⟨_, _, ⟨T74, L74, k74, n74⟩, -, X74, ⟨Lc74, hQ74, l74, y74, z74⟩, st74⟩ := X21.virtualBack hx (y := (⟨"java/lang/String", "length", "()I"⟩ : MethodName)) (z := (⟨"java/lang/String", "length", "()I"⟩ : MethodName)) hown (mvT hZ (hw _ (List.mem_of_getElem? (i := 30) rfl))) (mvT hZ (hw _ (List.mem_of_getElem? (i := 31) rfl))) (notFace_of_selects (args := #[]) (mvT hZ (hw _ (List.mem_of_getElem? (i := 33) rfl)))) (mvT hZ (hw _ (List.mem_of_getElem? (i := 33) rfl))) (mvT hZ (hw _ (List.mem_of_getElem? (i := 32) rfl))) (by decide) (backOf (W := 0) (rm6_S l Z a0 hw [] a1 na c0 c1 cs h0 n0 Z0 Sa1 CS hcs) hZ (hw _ (List.mem_of_getElem? (i := 34) rfl)) (hw _ (List.mem_of_getElem? (i := 6) rfl)) (by decide) (by decide)) q74a q74c (g := (mkF m 55 #[.val (.ref a1), .val (.ref a2), .val (.int (1 : Int32)), .val (.int z10v), .val (.int z13v)] [(.ref a1)])) rfl (by rw [hml]; rfl) (Steps.refl _) (argsL := []) (rest := []) (lenOf pd_21 rfl) rfl (by show 2 * 0 + _ ≤ _; exact Nat.le_of_eq rfl) (hb hby d5_55) (fun _ _ => ⟨rfl, eq21, (by decide : 0 + 0 ≤ _), (by decide : 0 + 0 ≤ _)⟩)
            dsimp only [Pt.U, Pt.locs, Pt.cells, Pt.slots] at X74 l74 y74 z74 st74 hQ74
            subst l74 y74 z74
            obtain ⟨z74v, rfl, hz74v, Nq74, eq74⟩ := hQ74
            have N74n := Fr.app N21n Nq74
            have hy74 := hz74v.symm; subst hy74
            have P75 : own_Pr p.tables e below S0 T74 (mkF m 58 #[.val (.ref a1), .val (.ref a2), .val (.int (1 : Int32)), .val (.int z10v), .val (.int z13v)] [(.int na)]) := fun t k => P73 t (st74.trans k)
            have P76 : own_Pr p.tables e below S0 T74 (mkF m 59 #[.val (.ref a1), .val (.ref a2), .val (.int (1 : Int32)), .val (.int z10v), .val (.int z13v)] [(.ref a2), (.int na)]) := fun t k => P75 t (by
              refine XS.aloadN X74.here hx rfl (hb hby d5_58) rfl rfl ?_
              show Steps p.tables e below (T74.setTop (mkF m 59 #[.val (.ref a1), .val (.ref a2), .val (.int (1 : Int32)), .val (.int z10v), .val (.int z13v)] [(.ref a2), (.int na)])) _
              exact k)
            obtain ⟨cq77, kq77, q77a, q77b, q77c⟩ := isOf hZ eq74 Ea2
            obtain ⟨_, _, ⟨T77, L77, k77, n77⟩, -, X77, ⟨Lc77, hQ77, l77, y77, z77⟩, st77⟩ := X74.virtualBack hx (y := (⟨"java/lang/String", "length", "()I"⟩ : MethodName)) (z := (⟨"java/lang/String", "length", "()I"⟩ : MethodName)) hown (mvT hZ (hw _ (List.mem_of_getElem? (i := 30) rfl))) (mvT hZ (hw _ (List.mem_of_getElem? (i := 31) rfl))) (notFace_of_selects (args := #[]) (mvT hZ (hw _ (List.mem_of_getElem? (i := 33) rfl)))) (mvT hZ (hw _ (List.mem_of_getElem? (i := 33) rfl))) (mvT hZ (hw _ (List.mem_of_getElem? (i := 32) rfl))) (by decide) (backOf (W := 1) (rm6_S l Z a0 hw [] a2 nb d0 d1 cs h0 n0 Z0 Sa2 CS hcs) hZ (hw _ (List.mem_of_getElem? (i := 34) rfl)) (hw _ (List.mem_of_getElem? (i := 6) rfl)) (by decide) (by decide)) q77a q77c (g := (mkF m 59 #[.val (.ref a1), .val (.ref a2), .val (.int (1 : Int32)), .val (.int z10v), .val (.int z13v)] [(.ref a2), (.int na)])) rfl (by rw [hml]; rfl) (Steps.refl _) (argsL := []) (rest := [(.int na)]) (lenOf pd_21 rfl) rfl (by show 2 * 0 + _ ≤ _; exact Nat.le_of_eq rfl) (hb hby d5_59) (fun _ _ => ⟨rfl, eq74, (by decide : 0 + 0 ≤ _), (by decide : 0 + 0 ≤ _)⟩)
            dsimp only [Pt.U, Pt.locs, Pt.cells, Pt.slots] at X77 l77 y77 z77 st77 hQ77
            subst l77 y77 z77
            obtain ⟨z77v, rfl, hz77v, Nq77, eq77⟩ := hQ77
            have N77n := Fr.app N74n Nq77
            have hy77 := hz77v.symm; subst hy77
            have P78 : own_Pr p.tables e below S0 T77 (mkF m 62 #[.val (.ref a1), .val (.ref a2), .val (.int (1 : Int32)), .val (.int z10v), .val (.int z13v)] [(.int nb), (.int na)]) := fun t k => P76 t (st77.trans k)
            obtain ⟨_, _, ⟨T79, L79, k79, n79⟩, -, X79, ⟨Lc79, hQ79, l79, y79, z79⟩, st79⟩ := Jvm.LawKit.callS X77 hx (y := (⟨"java/lang/Integer", "compare", "(II)I"⟩ : MethodName)) hown (mvT hZ (hw _ (List.mem_of_getElem? (i := 41) rfl))) (mvT hZ (hw _ (List.mem_of_getElem? (i := 42) rfl))) (mvT hZ (hw _ (List.mem_of_getElem? (i := 43) rfl))) (mvT hZ (hw _ (List.mem_of_getElem? (i := 44) rfl))) (by decide) (backOf (W := 0) (rm8 l Z a0 hw [] na nb  h0 n0 Z0 ) hZ (hw _ (List.mem_of_getElem? (i := 44) rfl)) (hw _ (List.mem_of_getElem? (i := 43) rfl)) (by decide) (by decide)) (g := (mkF m 62 #[.val (.ref a1), .val (.ref a2), .val (.int (1 : Int32)), .val (.int z10v), .val (.int z13v)] [(.int nb), (.int na)])) rfl (by rw [hml]; rfl) (argsL := [(.int na), (.int nb)]) (rest := []) (lenOf pd_22 rfl) rfl (by show 2 * 0 + _ ≤ _; exact Nat.le_of_eq rfl) (hb hby d5_62) (fun _ _ => ⟨rfl, eq77, (by decide : 0 + 0 ≤ _), (by decide : 0 + 0 ≤ _)⟩)
            dsimp only [Pt.U, Pt.locs, Pt.cells, Pt.slots] at X79 l79 y79 z79 st79 hQ79
            subst l79 y79 z79
            obtain ⟨z79v, rfl, hz79v, Nq79, eq79⟩ := hQ79
            have N79n := Fr.app N77n Nq79
            have P80 : own_Pr p.tables e below S0 T79 (mkF m 65 #[.val (.ref a1), .val (.ref a2), .val (.int (1 : Int32)), .val (.int z10v), .val (.int z13v)] [(.int z79v)]) := fun t k => P78 t (st79 _ k)
            obtain ⟨fs, hr, hrun, hended, hW, hsame⟩ := X79.leave (v := some (.int z79v)) (fun h => by rw [Bd.returns] at h; cases h)
            have fin : Steps p.tables e below S0 (T79.setFrames fs) := P80 _ (retI X79 hx Bd.returns (hb hby d5_65) hr)
            rw [hS0] at fin
            refine ⟨_, _, fin, hrun, hended, _, _, rfl, ?_, ⟨_, rfl⟩, hW, hsame.mono (by decide) (by decide)⟩
            show own_QI h0 n0 (own_cmp na c0 c1 nb d0 d1) _ T79.heap _
            rw [eq79]
            exact ⟨_, rfl, (by subst hz79v; subst hz13v; subst hz10v; unfold own_cmp; rw [if_pos hc7_4, if_pos hc15_8, if_pos hc34_16, if_pos hb18, if_neg hc7_23]), N79n, rfl⟩
        · have _u := hb18
          obtain rfl : z18v = (2 : Int32) := hz18v.trans (by unfold own_f34; rw [if_neg hb18])
          have P81 : own_Pr p.tables e below S0 T18 (mkF m 49 #[.val (.ref a1), .val (.ref a2), .val (.int (0 : Int32)), .val (.int z10v), .val (.int z13v)] [(.int (2 : Int32)), (.int (0 : Int32))]) := fun t k => P17 t (st18 _ k)
          have P82 : own_Pr p.tables e below S0 T18 (mkF m 4 #[.val (.ref a1), .val (.ref a2), .val (.int (2 : Int32)), .val (.int z10v), .val (.int z13v)] [(.ref a1), (.int (2 : Int32))]) := fun t k => P81 t (by
            refine XS.iadd X18.here hx rfl (hb hby d5_49) rfl ?_
            show Steps p.tables e below (T18.setTop (mkF m 50 #[.val (.ref a1), .val (.ref a2), .val (.int (0 : Int32)), .val (.int z10v), .val (.int z13v)] [(.int (2 : Int32))])) _
            refine XS.istoreN X18.here hx rfl (hb hby d5_50) rfl (l' := #[.val (.ref a1), .val (.ref a2), .val (.int (2 : Int32)), .val (.int z10v), .val (.int z13v)]) rfl ?_
            show Steps p.tables e below (T18.setTop (mkF m 51 #[.val (.ref a1), .val (.ref a2), .val (.int (2 : Int32)), .val (.int z10v), .val (.int z13v)] [])) _
            refine XS.goto X18.here hx rfl (pc0 := 51) (pc' := 2) rfl (hb hby d5_51) (by decide) (by decide) ?_
            show Steps p.tables e below (T18.setTop (mkF m 2 #[.val (.ref a1), .val (.ref a2), .val (.int (2 : Int32)), .val (.int z10v), .val (.int z13v)] [])) _
            refine XS.iloadN X18.here hx rfl (hb hby d5_2) rfl ?_
            show Steps p.tables e below (T18.setTop (mkF m 3 #[.val (.ref a1), .val (.ref a2), .val (.int (2 : Int32)), .val (.int z10v), .val (.int z13v)] [(.int (2 : Int32))])) _
            refine XS.aloadN X18.here hx rfl (hb hby d5_3) rfl rfl ?_
            show Steps p.tables e below (T18.setTop (mkF m 4 #[.val (.ref a1), .val (.ref a2), .val (.int (2 : Int32)), .val (.int z10v), .val (.int z13v)] [(.ref a1), (.int (2 : Int32))])) _
            exact k)
          obtain ⟨cq83, kq83, q83a, q83b, q83c⟩ := isOf hZ eq18 Ea1
          obtain ⟨_, _, ⟨T83, L83, k83, n83⟩, -, X83, ⟨Lc83, hQ83, l83, y83, z83⟩, st83⟩ := X18.virtualBack hx (y := (⟨"java/lang/String", "length", "()I"⟩ : MethodName)) (z := (⟨"java/lang/String", "length", "()I"⟩ : MethodName)) hown (mvT hZ (hw _ (List.mem_of_getElem? (i := 30) rfl))) (mvT hZ (hw _ (List.mem_of_getElem? (i := 31) rfl))) (notFace_of_selects (args := #[]) (mvT hZ (hw _ (List.mem_of_getElem? (i := 33) rfl)))) (mvT hZ (hw _ (List.mem_of_getElem? (i := 33) rfl))) (mvT hZ (hw _ (List.mem_of_getElem? (i := 32) rfl))) (by decide) (backOf (W := 1) (rm6_S l Z a0 hw [] a1 na c0 c1 cs h0 n0 Z0 Sa1 CS hcs) hZ (hw _ (List.mem_of_getElem? (i := 34) rfl)) (hw _ (List.mem_of_getElem? (i := 6) rfl)) (by decide) (by decide)) q83a q83c (g := (mkF m 4 #[.val (.ref a1), .val (.ref a2), .val (.int (2 : Int32)), .val (.int z10v), .val (.int z13v)] [(.ref a1), (.int (2 : Int32))])) rfl (by rw [hml]; rfl) (Steps.refl _) (argsL := []) (rest := [(.int (2 : Int32))]) (lenOf pd_21 rfl) rfl (by show 2 * 0 + _ ≤ _; exact Nat.le_of_eq rfl) (hb hby d5_4) (fun _ _ => ⟨rfl, eq18, (by decide : 0 + 0 ≤ _), (by decide : 0 + 0 ≤ _)⟩)
          dsimp only [Pt.U, Pt.locs, Pt.cells, Pt.slots] at X83 l83 y83 z83 st83 hQ83
          subst l83 y83 z83
          obtain ⟨z83v, rfl, hz83v, Nq83, eq83⟩ := hQ83
          have N83n := Fr.app N18n Nq83
          have hy83 := hz83v.symm; subst hy83
          have P84 : own_Pr p.tables e below S0 T83 (mkF m 7 #[.val (.ref a1), .val (.ref a2), .val (.int (2 : Int32)), .val (.int z10v), .val (.int z13v)] [(.int na), (.int (2 : Int32))]) := fun t k => P82 t (st83.trans k)
          have P85 : own_Pr p.tables e below S0 T83 (mkF m 55 #[.val (.ref a1), .val (.ref a2), .val (.int (2 : Int32)), .val (.int z10v), .val (.int z13v)] [(.ref a1)]) := fun t k => P84 t (by
            refine XS.icmpYes X83.here hx rfl (pc0 := 7) (pc' := 54) rfl (hb hby d5_7) rfl (XT.ii_ge_t (own_n3 hna).1) (by decide) (by decide) ?_
            show Steps p.tables e below (T83.setTop (mkF m 54 #[.val (.ref a1), .val (.ref a2), .val (.int (2 : Int32)), .val (.int z10v), .val (.int z13v)] [])) _
            refine XS.aloadN X83.here hx rfl (hb hby d5_54) rfl rfl ?_
            show Steps p.tables e below (T83.setTop (mkF m 55 #[.val (.ref a1), .val (.ref a2), .val (.int (2 : Int32)), .val (.int z10v), .val (.int z13v)] [(.ref a1)])) _
            exact k)
          obtain ⟨cq86, kq86, q86a, q86b, q86c⟩ := isOf hZ eq83 Ea1
          obtain ⟨_, _, ⟨T86, L86, k86, n86⟩, -, X86, ⟨Lc86, hQ86, l86, y86, z86⟩, st86⟩ := X83.virtualBack hx (y := (⟨"java/lang/String", "length", "()I"⟩ : MethodName)) (z := (⟨"java/lang/String", "length", "()I"⟩ : MethodName)) hown (mvT hZ (hw _ (List.mem_of_getElem? (i := 30) rfl))) (mvT hZ (hw _ (List.mem_of_getElem? (i := 31) rfl))) (notFace_of_selects (args := #[]) (mvT hZ (hw _ (List.mem_of_getElem? (i := 33) rfl)))) (mvT hZ (hw _ (List.mem_of_getElem? (i := 33) rfl))) (mvT hZ (hw _ (List.mem_of_getElem? (i := 32) rfl))) (by decide) (backOf (W := 0) (rm6_S l Z a0 hw [] a1 na c0 c1 cs h0 n0 Z0 Sa1 CS hcs) hZ (hw _ (List.mem_of_getElem? (i := 34) rfl)) (hw _ (List.mem_of_getElem? (i := 6) rfl)) (by decide) (by decide)) q86a q86c (g := (mkF m 55 #[.val (.ref a1), .val (.ref a2), .val (.int (2 : Int32)), .val (.int z10v), .val (.int z13v)] [(.ref a1)])) rfl (by rw [hml]; rfl) (Steps.refl _) (argsL := []) (rest := []) (lenOf pd_21 rfl) rfl (by show 2 * 0 + _ ≤ _; exact Nat.le_of_eq rfl) (hb hby d5_55) (fun _ _ => ⟨rfl, eq83, (by decide : 0 + 0 ≤ _), (by decide : 0 + 0 ≤ _)⟩)
          dsimp only [Pt.U, Pt.locs, Pt.cells, Pt.slots] at X86 l86 y86 z86 st86 hQ86
          subst l86 y86 z86
          obtain ⟨z86v, rfl, hz86v, Nq86, eq86⟩ := hQ86
          have N86n := Fr.app N83n Nq86
          have hy86 := hz86v.symm; subst hy86
          have P87 : own_Pr p.tables e below S0 T86 (mkF m 58 #[.val (.ref a1), .val (.ref a2), .val (.int (2 : Int32)), .val (.int z10v), .val (.int z13v)] [(.int na)]) := fun t k => P85 t (st86.trans k)
          have P88 : own_Pr p.tables e below S0 T86 (mkF m 59 #[.val (.ref a1), .val (.ref a2), .val (.int (2 : Int32)), .val (.int z10v), .val (.int z13v)] [(.ref a2), (.int na)]) := fun t k => P87 t (by
            refine XS.aloadN X86.here hx rfl (hb hby d5_58) rfl rfl ?_
            show Steps p.tables e below (T86.setTop (mkF m 59 #[.val (.ref a1), .val (.ref a2), .val (.int (2 : Int32)), .val (.int z10v), .val (.int z13v)] [(.ref a2), (.int na)])) _
            exact k)
          obtain ⟨cq89, kq89, q89a, q89b, q89c⟩ := isOf hZ eq86 Ea2
          obtain ⟨_, _, ⟨T89, L89, k89, n89⟩, -, X89, ⟨Lc89, hQ89, l89, y89, z89⟩, st89⟩ := X86.virtualBack hx (y := (⟨"java/lang/String", "length", "()I"⟩ : MethodName)) (z := (⟨"java/lang/String", "length", "()I"⟩ : MethodName)) hown (mvT hZ (hw _ (List.mem_of_getElem? (i := 30) rfl))) (mvT hZ (hw _ (List.mem_of_getElem? (i := 31) rfl))) (notFace_of_selects (args := #[]) (mvT hZ (hw _ (List.mem_of_getElem? (i := 33) rfl)))) (mvT hZ (hw _ (List.mem_of_getElem? (i := 33) rfl))) (mvT hZ (hw _ (List.mem_of_getElem? (i := 32) rfl))) (by decide) (backOf (W := 1) (rm6_S l Z a0 hw [] a2 nb d0 d1 cs h0 n0 Z0 Sa2 CS hcs) hZ (hw _ (List.mem_of_getElem? (i := 34) rfl)) (hw _ (List.mem_of_getElem? (i := 6) rfl)) (by decide) (by decide)) q89a q89c (g := (mkF m 59 #[.val (.ref a1), .val (.ref a2), .val (.int (2 : Int32)), .val (.int z10v), .val (.int z13v)] [(.ref a2), (.int na)])) rfl (by rw [hml]; rfl) (Steps.refl _) (argsL := []) (rest := [(.int na)]) (lenOf pd_21 rfl) rfl (by show 2 * 0 + _ ≤ _; exact Nat.le_of_eq rfl) (hb hby d5_59) (fun _ _ => ⟨rfl, eq86, (by decide : 0 + 0 ≤ _), (by decide : 0 + 0 ≤ _)⟩)
          dsimp only [Pt.U, Pt.locs, Pt.cells, Pt.slots] at X89 l89 y89 z89 st89 hQ89
          subst l89 y89 z89
          obtain ⟨z89v, rfl, hz89v, Nq89, eq89⟩ := hQ89
          have N89n := Fr.app N86n Nq89
          have hy89 := hz89v.symm; subst hy89
          have P90 : own_Pr p.tables e below S0 T89 (mkF m 62 #[.val (.ref a1), .val (.ref a2), .val (.int (2 : Int32)), .val (.int z10v), .val (.int z13v)] [(.int nb), (.int na)]) := fun t k => P88 t (st89.trans k)
          obtain ⟨_, _, ⟨T91, L91, k91, n91⟩, -, X91, ⟨Lc91, hQ91, l91, y91, z91⟩, st91⟩ := Jvm.LawKit.callS X89 hx (y := (⟨"java/lang/Integer", "compare", "(II)I"⟩ : MethodName)) hown (mvT hZ (hw _ (List.mem_of_getElem? (i := 41) rfl))) (mvT hZ (hw _ (List.mem_of_getElem? (i := 42) rfl))) (mvT hZ (hw _ (List.mem_of_getElem? (i := 43) rfl))) (mvT hZ (hw _ (List.mem_of_getElem? (i := 44) rfl))) (by decide) (backOf (W := 0) (rm8 l Z a0 hw [] na nb  h0 n0 Z0 ) hZ (hw _ (List.mem_of_getElem? (i := 44) rfl)) (hw _ (List.mem_of_getElem? (i := 43) rfl)) (by decide) (by decide)) (g := (mkF m 62 #[.val (.ref a1), .val (.ref a2), .val (.int (2 : Int32)), .val (.int z10v), .val (.int z13v)] [(.int nb), (.int na)])) rfl (by rw [hml]; rfl) (argsL := [(.int na), (.int nb)]) (rest := []) (lenOf pd_22 rfl) rfl (by show 2 * 0 + _ ≤ _; exact Nat.le_of_eq rfl) (hb hby d5_62) (fun _ _ => ⟨rfl, eq89, (by decide : 0 + 0 ≤ _), (by decide : 0 + 0 ≤ _)⟩)
          dsimp only [Pt.U, Pt.locs, Pt.cells, Pt.slots] at X91 l91 y91 z91 st91 hQ91
          subst l91 y91 z91
          obtain ⟨z91v, rfl, hz91v, Nq91, eq91⟩ := hQ91
          have N91n := Fr.app N89n Nq91
          have P92 : own_Pr p.tables e below S0 T91 (mkF m 65 #[.val (.ref a1), .val (.ref a2), .val (.int (2 : Int32)), .val (.int z10v), .val (.int z13v)] [(.int z91v)]) := fun t k => P90 t (st91 _ k)
          obtain ⟨fs, hr, hrun, hended, hW, hsame⟩ := X91.leave (v := some (.int z91v)) (fun h => by rw [Bd.returns] at h; cases h)
          have fin : Steps p.tables e below S0 (T91.setFrames fs) := P92 _ (retI X91 hx Bd.returns (hb hby d5_65) hr)
          rw [hS0] at fin
          refine ⟨_, _, fin, hrun, hended, _, _, rfl, ?_, ⟨_, rfl⟩, hW, hsame.mono (by decide) (by decide)⟩
          show own_QI h0 n0 (own_cmp na c0 c1 nb d0 d1) _ T91.heap _
          rw [eq91]
          exact ⟨_, rfl, (by subst hz91v; subst hz13v; subst hz10v; unfold own_cmp; rw [if_pos hc7_4, if_pos hc15_8, if_pos hc34_16, if_neg hb18]), N91n, rfl⟩
      · have P93 : own_Pr p.tables e below S0 T13 (mkF m 40 #[.val (.ref a1), .val (.ref a2), .val (.int (0 : Int32)), .val (.int z10v), .val (.int z13v)] [(.int z13v), (.int z10v)]) := fun t k => P15 t (by
          refine XS.icmpNo X13.here hx rfl (hb hby d5_34) rfl (XT.ii_eq_f hc34_16) ?_
          show Steps p.tables e below (T13.setTop (mkF m 37 #[.val (.ref a1), .val (.ref a2), .val (.int (0 : Int32)), .val (.int z10v), .val (.int z13v)] [])) _
          refine XS.iloadN X13.here hx rfl (hb hby d5_37) rfl ?_
          show Steps p.tables e below (T13.setTop (mkF m 38 #[.val (.ref a1), .val (.ref a2), .val (.int (0 : Int32)), .val (.int z10v), .val (.int z13v)] [(.int z10v)])) _
          refine XS.iload X13.here hx rfl (hb hby d5_38) rfl ?_
          show Steps p.tables e below (T13.setTop (mkF m 40 #[.val (.ref a1), .val (.ref a2), .val (.int (0 : Int32)), .val (.int z10v), .val (.int z13v)] [(.int z13v), (.int z10v)])) _
          exact k)
        obtain ⟨_, _, ⟨T94, L94, k94, n94⟩, -, X94, ⟨Lc94, hQ94, l94, y94, z94⟩, st94⟩ := Jvm.LawKit.callS X13 hx (y := (⟨"java/lang/Integer", "compare", "(II)I"⟩ : MethodName)) hown (mvT hZ (hw _ (List.mem_of_getElem? (i := 41) rfl))) (mvT hZ (hw _ (List.mem_of_getElem? (i := 42) rfl))) (mvT hZ (hw _ (List.mem_of_getElem? (i := 43) rfl))) (mvT hZ (hw _ (List.mem_of_getElem? (i := 44) rfl))) (by decide) (backOf (W := 0) (rm8 l Z a0 hw [] z10v z13v  h0 n0 Z0 ) hZ (hw _ (List.mem_of_getElem? (i := 44) rfl)) (hw _ (List.mem_of_getElem? (i := 43) rfl)) (by decide) (by decide)) (g := (mkF m 40 #[.val (.ref a1), .val (.ref a2), .val (.int (0 : Int32)), .val (.int z10v), .val (.int z13v)] [(.int z13v), (.int z10v)])) rfl (by rw [hml]; rfl) (argsL := [(.int z10v), (.int z13v)]) (rest := []) (lenOf pd_22 rfl) rfl (by show 2 * 0 + _ ≤ _; exact Nat.le_of_eq rfl) (hb hby d5_40) (fun _ _ => ⟨rfl, eq13, (by decide : 0 + 0 ≤ _), (by decide : 0 + 0 ≤ _)⟩)
        dsimp only [Pt.U, Pt.locs, Pt.cells, Pt.slots] at X94 l94 y94 z94 st94 hQ94
        subst l94 y94 z94
        obtain ⟨z94v, rfl, hz94v, Nq94, eq94⟩ := hQ94
        have N94n := Fr.app N13n Nq94
        have P95 : own_Pr p.tables e below S0 T94 (mkF m 43 #[.val (.ref a1), .val (.ref a2), .val (.int (0 : Int32)), .val (.int z10v), .val (.int z13v)] [(.int z94v)]) := fun t k => P93 t (st94 _ k)
        obtain ⟨fs, hr, hrun, hended, hW, hsame⟩ := X94.leave (v := some (.int z94v)) (fun h => by rw [Bd.returns] at h; cases h)
        have fin : Steps p.tables e below S0 (T94.setFrames fs) := P95 _ (retI X94 hx Bd.returns (hb hby d5_43) hr)
        rw [hS0] at fin
        refine ⟨_, _, fin, hrun, hended, _, _, rfl, ?_, ⟨_, rfl⟩, hW, hsame.mono (by decide) (by decide)⟩
        show own_QI h0 n0 (own_cmp na c0 c1 nb d0 d1) _ T94.heap _
        rw [eq94]
        exact ⟨_, rfl, (by subst hz94v; subst hz13v; subst hz10v; unfold own_cmp; rw [if_pos hc7_4, if_pos hc15_8, if_neg hc34_16]), N94n, rfl⟩
    · have P96 : own_Pr p.tables e below S0 T6 (mkF m 55 #[.val (.ref a1), .val (.ref a2), .val (.int (0 : Int32)), .unset, .unset] [(.ref a1)]) := fun t k => P7 t (by
        refine XS.icmpYes X6.here hx rfl (pc0 := 15) (pc' := 54) rfl (hb hby d5_15) rfl (XT.ii_ge_t hc15_8) (by decide) (by decide) ?_
        show Steps p.tables e below (T6.setTop (mkF m 54 #[.val (.ref a1), .val (.ref a2), .val (.int (0 : Int32)), .unset, .unset] [])) _
        refine XS.aloadN X6.here hx rfl (hb hby d5_54) rfl rfl ?_
        show Steps p.tables e below (T6.setTop (mkF m 55 #[.val (.ref a1), .val (.ref a2), .val (.int (0 : Int32)), .unset, .unset] [(.ref a1)])) _
        exact k)
      obtain ⟨cq97, kq97, q97a, q97b, q97c⟩ := isOf hZ eq6 Ea1
      obtain ⟨_, _, ⟨T97, L97, k97, n97⟩, -, X97, ⟨Lc97, hQ97, l97, y97, z97⟩, st97⟩ := X6.virtualBack hx (y := (⟨"java/lang/String", "length", "()I"⟩ : MethodName)) (z := (⟨"java/lang/String", "length", "()I"⟩ : MethodName)) hown (mvT hZ (hw _ (List.mem_of_getElem? (i := 30) rfl))) (mvT hZ (hw _ (List.mem_of_getElem? (i := 31) rfl))) (notFace_of_selects (args := #[]) (mvT hZ (hw _ (List.mem_of_getElem? (i := 33) rfl)))) (mvT hZ (hw _ (List.mem_of_getElem? (i := 33) rfl))) (mvT hZ (hw _ (List.mem_of_getElem? (i := 32) rfl))) (by decide) (backOf (W := 0) (rm6_S l Z a0 hw [] a1 na c0 c1 cs h0 n0 Z0 Sa1 CS hcs) hZ (hw _ (List.mem_of_getElem? (i := 34) rfl)) (hw _ (List.mem_of_getElem? (i := 6) rfl)) (by decide) (by decide)) q97a q97c (g := (mkF m 55 #[.val (.ref a1), .val (.ref a2), .val (.int (0 : Int32)), .unset, .unset] [(.ref a1)])) rfl (by rw [hml]; rfl) (Steps.refl _) (argsL := []) (rest := []) (lenOf pd_21 rfl) rfl (by show 2 * 0 + _ ≤ _; exact Nat.le_of_eq rfl) (hb hby d5_55) (fun _ _ => ⟨rfl, eq6, (by decide : 0 + 0 ≤ _), (by decide : 0 + 0 ≤ _)⟩)
      dsimp only [Pt.U, Pt.locs, Pt.cells, Pt.slots] at X97 l97 y97 z97 st97 hQ97
      subst l97 y97 z97
      obtain ⟨z97v, rfl, hz97v, Nq97, eq97⟩ := hQ97
      have N97n := Fr.app N6n Nq97
      have hy97 := hz97v.symm; subst hy97
      have P98 : own_Pr p.tables e below S0 T97 (mkF m 58 #[.val (.ref a1), .val (.ref a2), .val (.int (0 : Int32)), .unset, .unset] [(.int na)]) := fun t k => P96 t (st97.trans k)
      have P99 : own_Pr p.tables e below S0 T97 (mkF m 59 #[.val (.ref a1), .val (.ref a2), .val (.int (0 : Int32)), .unset, .unset] [(.ref a2), (.int na)]) := fun t k => P98 t (by
        refine XS.aloadN X97.here hx rfl (hb hby d5_58) rfl rfl ?_
        show Steps p.tables e below (T97.setTop (mkF m 59 #[.val (.ref a1), .val (.ref a2), .val (.int (0 : Int32)), .unset, .unset] [(.ref a2), (.int na)])) _
        exact k)
      obtain ⟨cq100, kq100, q100a, q100b, q100c⟩ := isOf hZ eq97 Ea2
      obtain ⟨_, _, ⟨T100, L100, k100, n100⟩, -, X100, ⟨Lc100, hQ100, l100, y100, z100⟩, st100⟩ := X97.virtualBack hx (y := (⟨"java/lang/String", "length", "()I"⟩ : MethodName)) (z := (⟨"java/lang/String", "length", "()I"⟩ : MethodName)) hown (mvT hZ (hw _ (List.mem_of_getElem? (i := 30) rfl))) (mvT hZ (hw _ (List.mem_of_getElem? (i := 31) rfl))) (notFace_of_selects (args := #[]) (mvT hZ (hw _ (List.mem_of_getElem? (i := 33) rfl)))) (mvT hZ (hw _ (List.mem_of_getElem? (i := 33) rfl))) (mvT hZ (hw _ (List.mem_of_getElem? (i := 32) rfl))) (by decide) (backOf (W := 1) (rm6_S l Z a0 hw [] a2 nb d0 d1 cs h0 n0 Z0 Sa2 CS hcs) hZ (hw _ (List.mem_of_getElem? (i := 34) rfl)) (hw _ (List.mem_of_getElem? (i := 6) rfl)) (by decide) (by decide)) q100a q100c (g := (mkF m 59 #[.val (.ref a1), .val (.ref a2), .val (.int (0 : Int32)), .unset, .unset] [(.ref a2), (.int na)])) rfl (by rw [hml]; rfl) (Steps.refl _) (argsL := []) (rest := [(.int na)]) (lenOf pd_21 rfl) rfl (by show 2 * 0 + _ ≤ _; exact Nat.le_of_eq rfl) (hb hby d5_59) (fun _ _ => ⟨rfl, eq97, (by decide : 0 + 0 ≤ _), (by decide : 0 + 0 ≤ _)⟩)
      dsimp only [Pt.U, Pt.locs, Pt.cells, Pt.slots] at X100 l100 y100 z100 st100 hQ100
      subst l100 y100 z100
      obtain ⟨z100v, rfl, hz100v, Nq100, eq100⟩ := hQ100
      have N100n := Fr.app N97n Nq100
      have hy100 := hz100v.symm; subst hy100
      have P101 : own_Pr p.tables e below S0 T100 (mkF m 62 #[.val (.ref a1), .val (.ref a2), .val (.int (0 : Int32)), .unset, .unset] [(.int nb), (.int na)]) := fun t k => P99 t (st100.trans k)
      obtain ⟨_, _, ⟨T102, L102, k102, n102⟩, -, X102, ⟨Lc102, hQ102, l102, y102, z102⟩, st102⟩ := Jvm.LawKit.callS X100 hx (y := (⟨"java/lang/Integer", "compare", "(II)I"⟩ : MethodName)) hown (mvT hZ (hw _ (List.mem_of_getElem? (i := 41) rfl))) (mvT hZ (hw _ (List.mem_of_getElem? (i := 42) rfl))) (mvT hZ (hw _ (List.mem_of_getElem? (i := 43) rfl))) (mvT hZ (hw _ (List.mem_of_getElem? (i := 44) rfl))) (by decide) (backOf (W := 0) (rm8 l Z a0 hw [] na nb  h0 n0 Z0 ) hZ (hw _ (List.mem_of_getElem? (i := 44) rfl)) (hw _ (List.mem_of_getElem? (i := 43) rfl)) (by decide) (by decide)) (g := (mkF m 62 #[.val (.ref a1), .val (.ref a2), .val (.int (0 : Int32)), .unset, .unset] [(.int nb), (.int na)])) rfl (by rw [hml]; rfl) (argsL := [(.int na), (.int nb)]) (rest := []) (lenOf pd_22 rfl) rfl (by show 2 * 0 + _ ≤ _; exact Nat.le_of_eq rfl) (hb hby d5_62) (fun _ _ => ⟨rfl, eq100, (by decide : 0 + 0 ≤ _), (by decide : 0 + 0 ≤ _)⟩)
      dsimp only [Pt.U, Pt.locs, Pt.cells, Pt.slots] at X102 l102 y102 z102 st102 hQ102
      subst l102 y102 z102
      obtain ⟨z102v, rfl, hz102v, Nq102, eq102⟩ := hQ102
      have N102n := Fr.app N100n Nq102
      have P103 : own_Pr p.tables e below S0 T102 (mkF m 65 #[.val (.ref a1), .val (.ref a2), .val (.int (0 : Int32)), .unset, .unset] [(.int z102v)]) := fun t k => P101 t (st102 _ k)
      obtain ⟨fs, hr, hrun, hended, hW, hsame⟩ := X102.leave (v := some (.int z102v)) (fun h => by rw [Bd.returns] at h; cases h)
      have fin : Steps p.tables e below S0 (T102.setFrames fs) := P103 _ (retI X102 hx Bd.returns (hb hby d5_65) hr)
      rw [hS0] at fin
      refine ⟨_, _, fin, hrun, hended, _, _, rfl, ?_, ⟨_, rfl⟩, hW, hsame.mono (by decide) (by decide)⟩
      show own_QI h0 n0 (own_cmp na c0 c1 nb d0 d1) _ T102.heap _
      rw [eq102]
      exact ⟨_, rfl, (by subst hz102v; unfold own_cmp; rw [if_pos hc7_4, if_neg hc15_8]), N102n, rfl⟩
  · have P104 : own_Pr p.tables e below S0 T2 (mkF m 55 #[.val (.ref a1), .val (.ref a2), .val (.int (0 : Int32)), .unset, .unset] [(.ref a1)]) := fun t k => P3 t (by
      refine XS.icmpYes X2.here hx rfl (pc0 := 7) (pc' := 54) rfl (hb hby d5_7) rfl (XT.ii_ge_t hc7_4) (by decide) (by decide) ?_
      show Steps p.tables e below (T2.setTop (mkF m 54 #[.val (.ref a1), .val (.ref a2), .val (.int (0 : Int32)), .unset, .unset] [])) _
      refine XS.aloadN X2.here hx rfl (hb hby d5_54) rfl rfl ?_
      show Steps p.tables e below (T2.setTop (mkF m 55 #[.val (.ref a1), .val (.ref a2), .val (.int (0 : Int32)), .unset, .unset] [(.ref a1)])) _
      exact k)
    obtain ⟨cq105, kq105, q105a, q105b, q105c⟩ := isOf hZ eq2 Ea1
    obtain ⟨_, _, ⟨T105, L105, k105, n105⟩, -, X105, ⟨Lc105, hQ105, l105, y105, z105⟩, st105⟩ := X2.virtualBack hx (y := (⟨"java/lang/String", "length", "()I"⟩ : MethodName)) (z := (⟨"java/lang/String", "length", "()I"⟩ : MethodName)) hown (mvT hZ (hw _ (List.mem_of_getElem? (i := 30) rfl))) (mvT hZ (hw _ (List.mem_of_getElem? (i := 31) rfl))) (notFace_of_selects (args := #[]) (mvT hZ (hw _ (List.mem_of_getElem? (i := 33) rfl)))) (mvT hZ (hw _ (List.mem_of_getElem? (i := 33) rfl))) (mvT hZ (hw _ (List.mem_of_getElem? (i := 32) rfl))) (by decide) (backOf (W := 0) (rm6_S l Z a0 hw [] a1 na c0 c1 cs h0 n0 Z0 Sa1 CS hcs) hZ (hw _ (List.mem_of_getElem? (i := 34) rfl)) (hw _ (List.mem_of_getElem? (i := 6) rfl)) (by decide) (by decide)) q105a q105c (g := (mkF m 55 #[.val (.ref a1), .val (.ref a2), .val (.int (0 : Int32)), .unset, .unset] [(.ref a1)])) rfl (by rw [hml]; rfl) (Steps.refl _) (argsL := []) (rest := []) (lenOf pd_21 rfl) rfl (by show 2 * 0 + _ ≤ _; exact Nat.le_of_eq rfl) (hb hby d5_55) (fun _ _ => ⟨rfl, eq2, (by decide : 0 + 0 ≤ _), (by decide : 0 + 0 ≤ _)⟩)
    dsimp only [Pt.U, Pt.locs, Pt.cells, Pt.slots] at X105 l105 y105 z105 st105 hQ105
    subst l105 y105 z105
    obtain ⟨z105v, rfl, hz105v, Nq105, eq105⟩ := hQ105
    have N105n := Fr.app N2n Nq105
    have hy105 := hz105v.symm; subst hy105
    have P106 : own_Pr p.tables e below S0 T105 (mkF m 58 #[.val (.ref a1), .val (.ref a2), .val (.int (0 : Int32)), .unset, .unset] [(.int na)]) := fun t k => P104 t (st105.trans k)
    have P107 : own_Pr p.tables e below S0 T105 (mkF m 59 #[.val (.ref a1), .val (.ref a2), .val (.int (0 : Int32)), .unset, .unset] [(.ref a2), (.int na)]) := fun t k => P106 t (by
      refine XS.aloadN X105.here hx rfl (hb hby d5_58) rfl rfl ?_
      show Steps p.tables e below (T105.setTop (mkF m 59 #[.val (.ref a1), .val (.ref a2), .val (.int (0 : Int32)), .unset, .unset] [(.ref a2), (.int na)])) _
      exact k)
    obtain ⟨cq108, kq108, q108a, q108b, q108c⟩ := isOf hZ eq105 Ea2
    obtain ⟨_, _, ⟨T108, L108, k108, n108⟩, -, X108, ⟨Lc108, hQ108, l108, y108, z108⟩, st108⟩ := X105.virtualBack hx (y := (⟨"java/lang/String", "length", "()I"⟩ : MethodName)) (z := (⟨"java/lang/String", "length", "()I"⟩ : MethodName)) hown (mvT hZ (hw _ (List.mem_of_getElem? (i := 30) rfl))) (mvT hZ (hw _ (List.mem_of_getElem? (i := 31) rfl))) (notFace_of_selects (args := #[]) (mvT hZ (hw _ (List.mem_of_getElem? (i := 33) rfl)))) (mvT hZ (hw _ (List.mem_of_getElem? (i := 33) rfl))) (mvT hZ (hw _ (List.mem_of_getElem? (i := 32) rfl))) (by decide) (backOf (W := 1) (rm6_S l Z a0 hw [] a2 nb d0 d1 cs h0 n0 Z0 Sa2 CS hcs) hZ (hw _ (List.mem_of_getElem? (i := 34) rfl)) (hw _ (List.mem_of_getElem? (i := 6) rfl)) (by decide) (by decide)) q108a q108c (g := (mkF m 59 #[.val (.ref a1), .val (.ref a2), .val (.int (0 : Int32)), .unset, .unset] [(.ref a2), (.int na)])) rfl (by rw [hml]; rfl) (Steps.refl _) (argsL := []) (rest := [(.int na)]) (lenOf pd_21 rfl) rfl (by show 2 * 0 + _ ≤ _; exact Nat.le_of_eq rfl) (hb hby d5_59) (fun _ _ => ⟨rfl, eq105, (by decide : 0 + 0 ≤ _), (by decide : 0 + 0 ≤ _)⟩)
    dsimp only [Pt.U, Pt.locs, Pt.cells, Pt.slots] at X108 l108 y108 z108 st108 hQ108
    subst l108 y108 z108
    obtain ⟨z108v, rfl, hz108v, Nq108, eq108⟩ := hQ108
    have N108n := Fr.app N105n Nq108
    have hy108 := hz108v.symm; subst hy108
    have P109 : own_Pr p.tables e below S0 T108 (mkF m 62 #[.val (.ref a1), .val (.ref a2), .val (.int (0 : Int32)), .unset, .unset] [(.int nb), (.int na)]) := fun t k => P107 t (st108.trans k)
    obtain ⟨_, _, ⟨T110, L110, k110, n110⟩, -, X110, ⟨Lc110, hQ110, l110, y110, z110⟩, st110⟩ := Jvm.LawKit.callS X108 hx (y := (⟨"java/lang/Integer", "compare", "(II)I"⟩ : MethodName)) hown (mvT hZ (hw _ (List.mem_of_getElem? (i := 41) rfl))) (mvT hZ (hw _ (List.mem_of_getElem? (i := 42) rfl))) (mvT hZ (hw _ (List.mem_of_getElem? (i := 43) rfl))) (mvT hZ (hw _ (List.mem_of_getElem? (i := 44) rfl))) (by decide) (backOf (W := 0) (rm8 l Z a0 hw [] na nb  h0 n0 Z0 ) hZ (hw _ (List.mem_of_getElem? (i := 44) rfl)) (hw _ (List.mem_of_getElem? (i := 43) rfl)) (by decide) (by decide)) (g := (mkF m 62 #[.val (.ref a1), .val (.ref a2), .val (.int (0 : Int32)), .unset, .unset] [(.int nb), (.int na)])) rfl (by rw [hml]; rfl) (argsL := [(.int na), (.int nb)]) (rest := []) (lenOf pd_22 rfl) rfl (by show 2 * 0 + _ ≤ _; exact Nat.le_of_eq rfl) (hb hby d5_62) (fun _ _ => ⟨rfl, eq108, (by decide : 0 + 0 ≤ _), (by decide : 0 + 0 ≤ _)⟩)
    dsimp only [Pt.U, Pt.locs, Pt.cells, Pt.slots] at X110 l110 y110 z110 st110 hQ110
    subst l110 y110 z110
    obtain ⟨z110v, rfl, hz110v, Nq110, eq110⟩ := hQ110
    have N110n := Fr.app N108n Nq110
    have P111 : own_Pr p.tables e below S0 T110 (mkF m 65 #[.val (.ref a1), .val (.ref a2), .val (.int (0 : Int32)), .unset, .unset] [(.int z110v)]) := fun t k => P109 t (st110 _ k)
    obtain ⟨fs, hr, hrun, hended, hW, hsame⟩ := X110.leave (v := some (.int z110v)) (fun h => by rw [Bd.returns] at h; cases h)
    have fin : Steps p.tables e below S0 (T110.setFrames fs) := P111 _ (retI X110 hx Bd.returns (hb hby d5_65) hr)
    rw [hS0] at fin
    refine ⟨_, _, fin, hrun, hended, _, _, rfl, ?_, ⟨_, rfl⟩, hW, hsame.mono (by decide) (by decide)⟩
    show own_QI h0 n0 (own_cmp na c0 c1 nb d0 d1) _ T110.heap _
    rw [eq110]
    exact ⟨_, rfl, (by subst hz110v; unfold own_cmp; rw [if_neg hc7_4]), N110n, rfl⟩
theorem own_rem3 {y z : Int32} (h : z = (y &&& (255 : Int32)) % (3 : Int32)) : z = 0 ∨ z = 1 ∨ z = 2 := by
  have h1 := c_and y 255 (by decide)
  have h2 := (c_iremV (y &&& 255) 3).1 h1.1 (by decide)
  rw [← h] at h2
  have e3 : (3 : Int32).toInt = 3 := rfl
  have e0 : (0 : Int32).toInt = 0 := rfl
  have e1 : (1 : Int32).toInt = 1 := rfl
  have e2 : (2 : Int32).toInt = 2 := rfl
  rw [e3] at h2
  rw [← Int32.toInt_inj, ← Int32.toInt_inj, ← Int32.toInt_inj, e0, e1, e2]
  omega
theorem own_ltI {x : Int32} {k : Int32} : x < k ↔ x.toInt < k.toInt := Int32.lt_iff_toInt_lt
theorem own_sg {x y : Int32} (hx : 0 ≤ x.toInt ∧ x.toInt < 2000000) (hy : 0 ≤ y.toInt ∧ y.toInt < 2000000) : own_f9 (own_f8 x y) = own_f9 (x - y) := by
  have e := c_isub x y
  have r := rng32 (x - y)
  have e0 : (0 : Int32).toInt = 0 := rfl
  have d : (x - y).toInt = x.toInt - y.toInt := by omega
  unfold own_f8
  by_cases h1 : x < y
  · rw [if_pos h1]
    unfold own_f9
    rw [own_ltI] at h1
    have q : (x - y) < 0 := by rw [own_ltI, e0, d]; omega
    rw [if_pos q]; decide
  · rw [if_neg h1]
    by_cases h2 : x = y
    · subst h2
      rw [if_pos rfl, show x - x = 0 by simp]
    · rw [if_neg h2]
      rw [own_ltI] at h1
      have h3 : x.toInt ≠ y.toInt := fun w => h2 (Int32.toInt_inj.mp w)
      unfold own_f9
      have q : ¬ (x - y) < 0 := by rw [own_ltI, e0, d]; omega
      have q2 : (0 : Int32) < (x - y) := by rw [own_ltI, e0, d]; omega
      rw [if_neg q, if_pos q2]; decide
theorem own_pair {c0 c1 : Int32} : own_f11 2 c0 c1 = if own_f33 c0 = 0 then 0 else if own_f35 c1 = 0 then 0 else 1 := by
  have e1 : (55296 : Int32).toInt = 55296 := rfl
  have e2 : (56319 : Int32).toInt = 56319 := rfl
  have e3 : (56320 : Int32).toInt = 56320 := rfl
  have e4 : (57343 : Int32).toInt = 57343 := rfl
  have e5 : (57344 : Int32).toInt = 57344 := rfl
  unfold own_f11 own_f33 own_f35
  rw [if_pos rfl]
  by_cases h1 : c0 < (55296 : Int32)
  · rw [if_pos h1, if_pos h1]; rfl
  · rw [if_neg h1, if_neg h1]
    by_cases h2 : c0 < (56320 : Int32)
    · have h2' : ¬ (56319 : Int32) < c0 := by rw [own_ltI, e3] at h2; rw [own_ltI, e2]; omega
      rw [if_pos h2, if_neg h2', if_neg (show ¬ ((1 : Int32) = 0) by decide)]
      by_cases h3 : c1 < (56320 : Int32)
      · rw [if_pos h3, if_pos h3]; rfl
      · rw [if_neg h3, if_neg h3]
        by_cases h4 : c1 < (57344 : Int32)
        · have h4' : ¬ (57343 : Int32) < c1 := by rw [own_ltI, e5] at h4; rw [own_ltI, e4]; omega
          rw [if_pos h4, if_neg h4']; rfl
        · have h4' : (57343 : Int32) < c1 := by rw [own_ltI, e5] at h4; rw [own_ltI, e4]; omega
          rw [if_neg h4, if_pos h4']; rfl
    · have h2' : (56319 : Int32) < c0 := by rw [own_ltI, e3] at h2; rw [own_ltI, e2]; omega
      rw [if_neg h2, if_pos h2']; rfl
theorem own_shl (x : Int32) : x <<< ((10 : Int32) &&& 31) = x * 1024 := by
  have e : (10 : Int32) &&& 31 = 10 := by decide
  rw [e]
  apply Int32.toBitVec_inj.mp
  show x.toBitVec <<< 10 = x.toBitVec * 1024#32
  apply BitVec.eq_of_toNat_eq
  rw [BitVec.toNat_shiftLeft, BitVec.toNat_mul, Nat.shiftLeft_eq]; rfl
theorem own_cpv (c0 c1 : Int32) : own_f36 c0 c1 = (((65536 : Int32) + ((c0 - (55296 : Int32)) <<< ((10 : Int32) &&& 31))) + (c1 - (56320 : Int32))) := by
  unfold own_f36
  rw [own_shl, own_shl]
  grind
theorem own_P {n c0 c1 : Int32} (hn : n = 1 ∨ n = 2) (h0 : own_ch c0) (h1 : own_ch c1) : own_f12 n c0 c1 = own_cp0 n c0 c1 ∧
    ((own_f10 n c0 c1 = n ∧ own_cp0 n c0 c1 = c0 ∧ (0 ≤ c0.toInt ∧ c0.toInt < 65536)) ∨ (n = 2 ∧ own_f10 n c0 c1 = 1 ∧ (65536 ≤ (own_cp0 n c0 c1).toInt ∧ (own_cp0 n c0 c1).toInt < 2000000))) := by
  have b0 := own_chb h0
  have b1 := own_chb h1
  rcases hn with rfl | rfl
  · have z : own_f11 1 c0 c1 = 0 := by unfold own_f11; rw [if_neg (by decide)]
    have y : own_cp0 1 c0 c1 = c0 := by unfold own_cp0; rw [if_neg (by decide)]
    refine ⟨?_, Or.inl ⟨?_, y, b0⟩⟩
    · unfold own_f12; rw [z, if_pos rfl, y]
    · unfold own_f10; rw [z, if_pos rfl]
  · unfold own_f12 own_f10
    rw [own_pair]
    unfold own_cp0
    rw [if_pos rfl]
    by_cases p : own_f33 c0 = 0
    · rw [if_pos p, if_pos rfl, if_pos p, if_pos rfl]
      exact ⟨rfl, Or.inl ⟨rfl, rfl, b0⟩⟩
    · by_cases q : own_f35 c1 = 0
      · rw [if_neg p, if_pos q, if_pos rfl, if_neg p, if_pos q, if_pos rfl]
        exact ⟨rfl, Or.inl ⟨rfl, rfl, b0⟩⟩
      · rw [if_neg p, if_neg q, if_neg (by decide), if_neg p, if_neg q, if_neg (by decide)]
        refine ⟨(own_cpv c0 c1).symm, Or.inr ⟨rfl, rfl, ?_⟩⟩
        have e1 : (55296 : Int32).toInt = 55296 := rfl
        have e3 : (56320 : Int32).toInt = 56320 := rfl
        have e5 : (57344 : Int32).toInt = 57344 := rfl
        have a1 : 55296 ≤ c0.toInt ∧ c0.toInt < 56320 := by
          unfold own_f33 at p
          by_cases w : c0 < (55296 : Int32)
          · rw [if_pos w] at p; exact absurd rfl p
          · rw [if_neg w] at p
            by_cases w2 : c0 < (56320 : Int32)
            · rw [own_ltI, e1] at w; rw [own_ltI, e3] at w2; omega
            · rw [if_neg w2] at p; exact absurd rfl p
        have a2 : 56320 ≤ c1.toInt ∧ c1.toInt < 57344 := by
          unfold own_f35 at q
          by_cases w : c1 < (56320 : Int32)
          · rw [if_pos w] at q; exact absurd rfl q
          · rw [if_neg w] at q
            by_cases w2 : c1 < (57344 : Int32)
            · rw [own_ltI, e3] at w; rw [own_ltI, e5] at w2; omega
            · rw [if_neg w2] at q; exact absurd rfl q
        have v : (own_f36 c0 c1).toInt = c0.toInt * 1024 + c1.toInt - 56613888 := by
          unfold own_f36
          rw [own_shl]
          have k1 : (1024 : Int32).toInt = 1024 := rfl
          have k2 : (-56613888 : Int32).toInt = -56613888 := rfl
          generalize (-56613888 : Int32) = k at k2 ⊢
          have m1 := c_imul c0 1024
          rw [k1] at m1
          generalize c0 * 1024 = w at m1 ⊢
          have m2 := c_iadd w c1
          have m3 := c_iadd (w + c1) k
          have r1 := rng32 w
          have r2 := rng32 (w + c1)
          have r3 := rng32 (w + c1 + k)
          generalize (w + c1 + k).toInt = t3 at m3 r3 ⊢
          generalize (w + c1).toInt = t2 at m2 m3 r2
          generalize w.toInt = t1 at m1 m2 r1
          rw [k2] at m3
          omega
        rw [v]; omega
theorem own_law {la lb c0 c1 d0 d1 z g na nb fa fb r : Int32} (ha : la = 0 ∨ la = 1 ∨ la = 2) (hb : lb = 0 ∨ lb = 1 ∨ lb = 2) (hc0 : own_ch c0) (hc1 : own_ch c1) (hd0 : own_ch d0) (hd1 : own_ch d1) (hz : z = own_cmp la c0 c1 lb d0 d1) (hg : g = own_f9 z) (hna : na = own_f10 la c0 c1) (hnb : nb = own_f10 lb d0 d1) (hfa : fa = own_f12 la c0 c1) (hfb : fb = own_f12 lb d0 d1) (hr : r = own_f13 na fa c1 nb fb d1) : g = r := by
  have k0 : (0 : Int32).toInt = 0 := rfl
  have k6 : (65536 : Int32).toInt = 65536 := rfl
  have z0 : ∀ x y : Int32, own_f10 0 x y = 0 := fun x y => by
    have q : own_f11 0 x y = 0 := by unfold own_f11; rw [if_neg (by decide)]
    unfold own_f10; rw [q, if_pos rfl]
  have cn : ∀ {n x y : Int32}, (n = 1 ∨ n = 2) → own_ch x → own_ch y → own_f10 n x y = 1 ∨ own_f10 n x y = 2 := fun {n x y} hn hx hy => by
    rcases (own_P hn hx hy).2 with ⟨q, -⟩ | ⟨-, q, -⟩
    · rw [q]; exact hn
    · rw [q]; exact Or.inl rfl
  subst hg hr
  rcases ha with rfl | ha
  · rw [z0] at hna
    subst hna
    have hz' : z = own_f8 0 lb := by rw [hz]; unfold own_cmp; rw [if_neg (by decide)]
    unfold own_f13
    rw [if_pos rfl, hz']
    rcases hb with rfl | hb
    · rw [z0] at hnb; subst hnb; decide
    · have q := cn hb hd0 hd1
      rw [← hnb] at q
      rcases hb with rfl | rfl <;> rcases q with q | q <;> rw [q] <;> decide
  · have lp : (0 : Int32) < la := by rcases ha with rfl | rfl <;> decide
    have qa := cn ha hc0 hc1
    have na0 : ¬ na = 0 := by rw [hna]; rcases qa with q | q <;> rw [q] <;> decide
    rcases hb with rfl | hb
    · rw [z0] at hnb
      subst hnb
      have hz' : z = own_f8 la 0 := by rw [hz]; unfold own_cmp; rw [if_pos lp, if_neg (by decide)]
      unfold own_f13
      rw [if_neg na0, if_pos rfl, hz']
      rw [← hna] at qa
      rcases ha with rfl | rfl <;> rcases qa with q | q <;> rw [q] <;> decide
    · have mp : (0 : Int32) < lb := by rcases hb with rfl | rfl <;> decide
      have qb := cn hb hd0 hd1
      have nb0 : ¬ nb = 0 := by rw [hnb]; rcases qb with q | q <;> rw [q] <;> decide
      obtain ⟨f1, pa⟩ := own_P ha hc0 hc1
      obtain ⟨f2, pb⟩ := own_P hb hd0 hd1
      rw [f1] at hfa; rw [f2] at hfb
      unfold own_f13
      rw [if_neg na0, if_neg nb0, hz]
      unfold own_cmp
      rw [if_pos lp, if_pos mp]
      have ba : 0 ≤ (own_cp0 la c0 c1).toInt ∧ (own_cp0 la c0 c1).toInt < 2000000 := by
        rcases pa with ⟨-, q, w⟩ | ⟨-, -, w⟩
        · rw [q]; omega
        · omega
      have bb : 0 ≤ (own_cp0 lb d0 d1).toInt ∧ (own_cp0 lb d0 d1).toInt < 2000000 := by
        rcases pb with ⟨-, q, w⟩ | ⟨-, -, w⟩
        · rw [q]; omega
        · omega
      by_cases e : own_cp0 la c0 c1 = own_cp0 lb d0 d1
      · have e' : fa = fb := by rw [hfa, hfb]; exact e
        rw [if_pos e, if_pos e']
        rcases pa with ⟨na', xa, wa⟩ | ⟨rfl, na', wa⟩
        · have lt : own_cp0 la c0 c1 < (65536 : Int32) := by rw [xa, own_ltI, k6]; exact wa.2
          rw [if_pos lt]
          rcases pb with ⟨nb', xb, wb⟩ | ⟨-, nb', wb⟩
          · rw [← hna] at na'; rw [← hnb] at nb'
            subst na' nb'
            rcases ha with rfl | rfl
            · rw [if_neg (show ¬ (1 : Int32) < 1 by decide), if_pos rfl]
              rcases hb with rfl | rfl <;> decide
            · have g1 : (1 : Int32) < 2 := by decide
              have g2 : ¬ (2 : Int32) = 1 := by decide
              rcases hb with rfl | rfl
              · rw [if_pos g1, if_neg (show ¬ (1 : Int32) < 1 by decide), if_neg g2, if_pos rfl]; decide
              · rw [if_pos g1, if_pos g1, if_neg g2, if_neg g2]
                by_cases u : c1 = d1
                · rw [if_pos u]
                  have s0 : c1 - d1 = 0 := by rw [u]; simp
                  rw [s0]
                  split <;> decide
                · rw [if_neg u]
                  have v1 := own_chb hc1
                  have v2 := own_chb hd1
                  exact own_sg (by omega) (by omega)
          · rw [← e, xa] at wb; omega
        · have lt : ¬ own_cp0 2 c0 c1 < (65536 : Int32) := by rw [own_ltI, k6]; omega
          rw [if_neg lt]
          rcases pb with ⟨nb', xb, wb⟩ | ⟨rfl, nb', wb⟩
          · rw [e, xb] at wa; omega
          · rw [← hna] at na'; rw [← hnb] at nb'
            rw [na', nb', if_pos rfl]; decide
      · have e' : ¬ fa = fb := by rw [hfa, hfb]; exact e
        rw [if_neg e, if_neg e', hfa, hfb]
        exact own_sg ba bb
theorem own_eqk {args : Array Value} {s : State} {t : Term} {k : Int32} (h : (Cond.eq t (.int k)).value args s none s [] = some true) : t.eval args s none [] s = some (.int k) := by
  obtain ⟨x, y, hx, hy, k1, k2⟩ := cmp_v (Or.inl h)
  have ey : y = .int k := Option.some.inj (hy.symm.trans rfl)
  subst ey
  obtain ⟨z, rfl⟩ := k2
  have e := gotT (Cond.eq_ints hx rfl) h
  rw [e] at hx; exact hx
theorem pd_23 : parseMethodDescriptor "(ICC)Ljava/lang/String;" = some ⟨[.int, .char, .char], some (.object "java/lang/String")⟩ := by decide +kernel
theorem pd_24 : parseMethodDescriptor "(Ljava/lang/String;Ljava/lang/String;)I" = some ⟨[(.object "java/lang/String"), (.object "java/lang/String")], some .int⟩ := by decide +kernel
theorem pd_25 : parseMethodDescriptor "(ICC)I" = some ⟨[.int, .char, .char], some .int⟩ := by decide +kernel
theorem pd_26 : parseMethodDescriptor "(IIIIII)I" = some ⟨[.int, .int, .int, .int, .int, .int], some .int⟩ := by decide +kernel
theorem ef_0 (m : MethodId) (p1 : Int32) (p2 : Int32) (p3 : Int32) (p4 : Int32) (p5 : Int32) (p6 : Int32) : entryFrame m #[(.int p1), (.int p2), (.int p3), (.int p4), (.int p5), (.int p6)] maxLocals = mkF m 0 #[.val (.int p1), .val (.int p2), .val (.int p3), .val (.int p4), .val (.int p5), .val (.int p6), .unset, .unset, .unset, .unset, .unset, .unset, .unset, .unset, .unset, .unset, .unset, .unset, .unset] [] := by first | (simp [entryFrame, mkF, argsToLocals, Value.category, maxLocals]; done) | rfl
set_option maxRecDepth 65536 in
set_option maxHeartbeats 40000000 in
theorem rm0 (l : Launch) (Z : State) (a0 : Array Value) (hw : ∀ d ∈ tables_1, d.before a0 Z = true) (ws : List Jvm.Cond) (p1 : Int32) (p2 : Int32) (p3 : Int32) (p4 : Int32) (p5 : Int32) (p6 : Int32) (cs : Int32) (fm : Value) (h0 : Heap) (n0 : Nat) (Z0 : n0 ≤ h0.size) (CS : Sta Z h0 "java/lang/String" "COMPACT_STRINGS" "Z" (.int cs)) (hcs : ¬ cs = (0 : Int32)) (FM : Sta Z h0 "jdk/internal/util/Preconditions" "SIOOBE_FORMATTER" "Ljava/util/function/BiFunction;" fm) (hr_fm : fm.isRef = true) (AD : Sta Z h0 "java/lang/StringUTF16" "$assertionsDisabled" "Z" (.int (1 : Int32))) (HB : Sta Z h0 "java/lang/StringUTF16" "HI_BYTE_SHIFT" "I" (.int (0 : Int32))) (LB : Sta Z h0 "java/lang/StringUTF16" "LO_BYTE_SHIFT" "I" (.int (8 : Int32))) :
    MetFree l x (head1 (Jvm.Cond.code x code maxLocals ret :: ws) room_1) (fun a U => a = #[(.int p1), (.int p2), (.int p3), (.int p4), (.int p5), (.int p6)] ∧ Z.Warmed39 U.vm ∧ U.heap = h0 ∧ CHv Z consts_1 U.vm h0) (fun _ _ _ _ _ => True) (fun _ U o U' => ∃ v L, o = .returned v ∧ own_QL n0 v L ∧ CHr Z consts_1 U.vm U.heap U'.vm U'.heap ∧ ReturnedEndW U o U' L room_1.cells room_1.slots) := by
  refine MetFree.of_bodySF (plainFor_of_name pn_9) hisR ?_
  intro p e s m args below meth c s₁ Bd hml0 hP hK
  obtain ⟨rfl, hZ, hh, hCH⟩ := hP
  have hx := Bd.exec
  have hby := Bd.bytes
  have hml : c.maxLocals = 19 := hml0
  have hown : s.vm.findClass "com/example/mathir_tools/mathirtools/formats/text/Utf8OrderComparePinLaw" = some m.cls := findClass_of_methodNamed Bd.named
  have hnm := (name_of_methodNamed Bd.named Bd.method).1
  have X0 : Stand p l e room_1 (s.setVm s.vm) m #[(.int p1), (.int p2), (.int p3), (.int p4), (.int p5), (.int p6)] below meth c s₁ [] 0 0 := Stand.of_body Bd
  have e0 : s₁.heap = h0 := by rw [← hh, Bd.state]; rfl
  have N0 := Fr.nil n0
  obtain ⟨S0, hS0⟩ : ∃ z, z = s₁.setTop (entryFrame m #[(.int p1), (.int p2), (.int p3), (.int p4), (.int p5), (.int p6)] maxLocals) := ⟨_, rfl⟩
  have P0 : own_Pr p.tables e below S0 s₁ (mkF m 0 #[.val (.int p1), .val (.int p2), .val (.int p3), .val (.int p4), .val (.int p5), .val (.int p6), .unset, .unset, .unset, .unset, .unset, .unset, .unset, .unset, .unset, .unset, .unset, .unset, .unset] []) := fun t k => hS0 ▸ castTop (ef_0 m p1 p2 p3 p4 p5 p6) k
  have hSn : s.Since s.vm 0 := (State.WarmedH.refl s).since 0
  have kS0 : 0 ≤ h0.size := Nat.zero_le _
  have CR0 := CHr.refl hCH
  have P1 : own_Pr p.tables e below S0 s₁ (mkF m 10 #[.val (.int p1), .val (.int p2), .val (.int p3), .val (.int p4), .val (.int p5), .val (.int p6), .val (.int ((p5 &&& (255 : Int32)) % (3 : Int32))), .unset, .unset, .unset, .unset, .unset, .unset, .unset, .unset, .unset, .unset, .unset, .unset] []) := fun t k => P0 t (by
    refine XS.iload X0.here hx rfl (hb hby at_0) rfl ?_
    show Steps p.tables e below (s₁.setTop (mkF m 2 #[.val (.int p1), .val (.int p2), .val (.int p3), .val (.int p4), .val (.int p5), .val (.int p6), .unset, .unset, .unset, .unset, .unset, .unset, .unset, .unset, .unset, .unset, .unset, .unset, .unset] [(.int p5)])) _
    refine XS.sipush X0.here hx rfl (hb hby at_2) ?_
    show Steps p.tables e below (s₁.setTop (mkF m 5 #[.val (.int p1), .val (.int p2), .val (.int p3), .val (.int p4), .val (.int p5), .val (.int p6), .unset, .unset, .unset, .unset, .unset, .unset, .unset, .unset, .unset, .unset, .unset, .unset, .unset] [(.int (255 : Int32)), (.int p5)])) _
    refine XS.iand X0.here hx rfl (hb hby at_5) rfl ?_
    show Steps p.tables e below (s₁.setTop (mkF m 6 #[.val (.int p1), .val (.int p2), .val (.int p3), .val (.int p4), .val (.int p5), .val (.int p6), .unset, .unset, .unset, .unset, .unset, .unset, .unset, .unset, .unset, .unset, .unset, .unset, .unset] [(.int (p5 &&& (255 : Int32)))])) _
    refine XS.iconst X0.here hx rfl (hb hby at_6) ?_
    show Steps p.tables e below (s₁.setTop (mkF m 7 #[.val (.int p1), .val (.int p2), .val (.int p3), .val (.int p4), .val (.int p5), .val (.int p6), .unset, .unset, .unset, .unset, .unset, .unset, .unset, .unset, .unset, .unset, .unset, .unset, .unset] [(.int (3 : Int32)), (.int (p5 &&& (255 : Int32)))])) _
    refine iremM X0 hx rfl (hb hby at_7) rfl (by decide) ?_
    show Steps p.tables e below (s₁.setTop (mkF m 8 #[.val (.int p1), .val (.int p2), .val (.int p3), .val (.int p4), .val (.int p5), .val (.int p6), .unset, .unset, .unset, .unset, .unset, .unset, .unset, .unset, .unset, .unset, .unset, .unset, .unset] [(.int ((p5 &&& (255 : Int32)) % (3 : Int32)))])) _
    refine XS.istore X0.here hx rfl (hb hby at_8) rfl (l' := #[.val (.int p1), .val (.int p2), .val (.int p3), .val (.int p4), .val (.int p5), .val (.int p6), .val (.int ((p5 &&& (255 : Int32)) % (3 : Int32))), .unset, .unset, .unset, .unset, .unset, .unset, .unset, .unset, .unset, .unset, .unset, .unset]) rfl ?_
    show Steps p.tables e below (s₁.setTop (mkF m 10 #[.val (.int p1), .val (.int p2), .val (.int p3), .val (.int p4), .val (.int p5), .val (.int p6), .val (.int ((p5 &&& (255 : Int32)) % (3 : Int32))), .unset, .unset, .unset, .unset, .unset, .unset, .unset, .unset, .unset, .unset, .unset, .unset] [])) _
    exact k)
  obtain ⟨z2, hz2⟩ : ∃ z, z = ((p5 &&& (255 : Int32)) % (3 : Int32)) := ⟨_, rfl⟩
  rw [← hz2] at P1
  have P3 : own_Pr p.tables e below S0 s₁ (mkF m 23 #[.val (.int p1), .val (.int p2), .val (.int p3), .val (.int p4), .val (.int p5), .val (.int p6), .val (.int z2), .val (.int ((((p5.toUInt32 >>> ((8 : Int32) &&& 31).toUInt32).toInt32) &&& (255 : Int32)) % (3 : Int32))), .unset, .unset, .unset, .unset, .unset, .unset, .unset, .unset, .unset, .unset, .unset] []) := fun t k => P1 t (by
    refine XS.iload X0.here hx rfl (hb hby at_10) rfl ?_
    show Steps p.tables e below (s₁.setTop (mkF m 12 #[.val (.int p1), .val (.int p2), .val (.int p3), .val (.int p4), .val (.int p5), .val (.int p6), .val (.int z2), .unset, .unset, .unset, .unset, .unset, .unset, .unset, .unset, .unset, .unset, .unset, .unset] [(.int p5)])) _
    refine XS.bipush X0.here hx rfl (hb hby at_12) ?_
    show Steps p.tables e below (s₁.setTop (mkF m 14 #[.val (.int p1), .val (.int p2), .val (.int p3), .val (.int p4), .val (.int p5), .val (.int p6), .val (.int z2), .unset, .unset, .unset, .unset, .unset, .unset, .unset, .unset, .unset, .unset, .unset, .unset] [(.int (8 : Int32)), (.int p5)])) _
    refine XS.iushr X0.here hx rfl (hb hby at_14) rfl ?_
    show Steps p.tables e below (s₁.setTop (mkF m 15 #[.val (.int p1), .val (.int p2), .val (.int p3), .val (.int p4), .val (.int p5), .val (.int p6), .val (.int z2), .unset, .unset, .unset, .unset, .unset, .unset, .unset, .unset, .unset, .unset, .unset, .unset] [(.int ((p5.toUInt32 >>> ((8 : Int32) &&& 31).toUInt32).toInt32))])) _
    refine XS.sipush X0.here hx rfl (hb hby at_15) ?_
    show Steps p.tables e below (s₁.setTop (mkF m 18 #[.val (.int p1), .val (.int p2), .val (.int p3), .val (.int p4), .val (.int p5), .val (.int p6), .val (.int z2), .unset, .unset, .unset, .unset, .unset, .unset, .unset, .unset, .unset, .unset, .unset, .unset] [(.int (255 : Int32)), (.int ((p5.toUInt32 >>> ((8 : Int32) &&& 31).toUInt32).toInt32))])) _
    refine XS.iand X0.here hx rfl (hb hby at_18) rfl ?_
    show Steps p.tables e below (s₁.setTop (mkF m 19 #[.val (.int p1), .val (.int p2), .val (.int p3), .val (.int p4), .val (.int p5), .val (.int p6), .val (.int z2), .unset, .unset, .unset, .unset, .unset, .unset, .unset, .unset, .unset, .unset, .unset, .unset] [(.int (((p5.toUInt32 >>> ((8 : Int32) &&& 31).toUInt32).toInt32) &&& (255 : Int32)))])) _
    refine XS.iconst X0.here hx rfl (hb hby at_19) ?_
    show Steps p.tables e below (s₁.setTop (mkF m 20 #[.val (.int p1), .val (.int p2), .val (.int p3), .val (.int p4), .val (.int p5), .val (.int p6), .val (.int z2), .unset, .unset, .unset, .unset, .unset, .unset, .unset, .unset, .unset, .unset, .unset, .unset] [(.int (3 : Int32)), (.int (((p5.toUInt32 >>> ((8 : Int32) &&& 31).toUInt32).toInt32) &&& (255 : Int32)))])) _
    refine iremM X0 hx rfl (hb hby at_20) rfl (by decide) ?_
    show Steps p.tables e below (s₁.setTop (mkF m 21 #[.val (.int p1), .val (.int p2), .val (.int p3), .val (.int p4), .val (.int p5), .val (.int p6), .val (.int z2), .unset, .unset, .unset, .unset, .unset, .unset, .unset, .unset, .unset, .unset, .unset, .unset] [(.int ((((p5.toUInt32 >>> ((8 : Int32) &&& 31).toUInt32).toInt32) &&& (255 : Int32)) % (3 : Int32)))])) _
    refine XS.istore X0.here hx rfl (hb hby at_21) rfl (l' := #[.val (.int p1), .val (.int p2), .val (.int p3), .val (.int p4), .val (.int p5), .val (.int p6), .val (.int z2), .val (.int ((((p5.toUInt32 >>> ((8 : Int32) &&& 31).toUInt32).toInt32) &&& (255 : Int32)) % (3 : Int32))), .unset, .unset, .unset, .unset, .unset, .unset, .unset, .unset, .unset, .unset, .unset]) rfl ?_
    show Steps p.tables e below (s₁.setTop (mkF m 23 #[.val (.int p1), .val (.int p2), .val (.int p3), .val (.int p4), .val (.int p5), .val (.int p6), .val (.int z2), .val (.int ((((p5.toUInt32 >>> ((8 : Int32) &&& 31).toUInt32).toInt32) &&& (255 : Int32)) % (3 : Int32))), .unset, .unset, .unset, .unset, .unset, .unset, .unset, .unset, .unset, .unset, .unset] [])) _
    exact k)
  obtain ⟨z4, hz4⟩ : ∃ z, z = ((((p5.toUInt32 >>> ((8 : Int32) &&& 31).toUInt32).toInt32) &&& (255 : Int32)) % (3 : Int32)) := ⟨_, rfl⟩
  rw [← hz4] at P3
  have P5 : own_Pr p.tables e below S0 s₁ (mkF m 27 #[.val (.int p1), .val (.int p2), .val (.int p3), .val (.int p4), .val (.int p5), .val (.int p6), .val (.int z2), .val (.int z4), .val (.int (p1.toUInt32.toUInt16.toUInt32.toInt32)), .unset, .unset, .unset, .unset, .unset, .unset, .unset, .unset, .unset, .unset] []) := fun t k => P3 t (by
    refine XS.iloadN X0.here hx rfl (hb hby at_23) rfl ?_
    show Steps p.tables e below (s₁.setTop (mkF m 24 #[.val (.int p1), .val (.int p2), .val (.int p3), .val (.int p4), .val (.int p5), .val (.int p6), .val (.int z2), .val (.int z4), .unset, .unset, .unset, .unset, .unset, .unset, .unset, .unset, .unset, .unset, .unset] [(.int p1)])) _
    refine XS.i2c X0.here hx rfl (hb hby at_24) rfl ?_
    show Steps p.tables e below (s₁.setTop (mkF m 25 #[.val (.int p1), .val (.int p2), .val (.int p3), .val (.int p4), .val (.int p5), .val (.int p6), .val (.int z2), .val (.int z4), .unset, .unset, .unset, .unset, .unset, .unset, .unset, .unset, .unset, .unset, .unset] [(.int (p1.toUInt32.toUInt16.toUInt32.toInt32))])) _
    refine XS.istore X0.here hx rfl (hb hby at_25) rfl (l' := #[.val (.int p1), .val (.int p2), .val (.int p3), .val (.int p4), .val (.int p5), .val (.int p6), .val (.int z2), .val (.int z4), .val (.int (p1.toUInt32.toUInt16.toUInt32.toInt32)), .unset, .unset, .unset, .unset, .unset, .unset, .unset, .unset, .unset, .unset]) rfl ?_
    show Steps p.tables e below (s₁.setTop (mkF m 27 #[.val (.int p1), .val (.int p2), .val (.int p3), .val (.int p4), .val (.int p5), .val (.int p6), .val (.int z2), .val (.int z4), .val (.int (p1.toUInt32.toUInt16.toUInt32.toInt32)), .unset, .unset, .unset, .unset, .unset, .unset, .unset, .unset, .unset, .unset] [])) _
    exact k)
  obtain ⟨z6, hz6⟩ : ∃ z, z = (p1.toUInt32.toUInt16.toUInt32.toInt32) := ⟨_, rfl⟩
  rw [← hz6] at P5
  have P7 : own_Pr p.tables e below S0 s₁ (mkF m 31 #[.val (.int p1), .val (.int p2), .val (.int p3), .val (.int p4), .val (.int p5), .val (.int p6), .val (.int z2), .val (.int z4), .val (.int z6), .val (.int (p2.toUInt32.toUInt16.toUInt32.toInt32)), .unset, .unset, .unset, .unset, .unset, .unset, .unset, .unset, .unset] []) := fun t k => P5 t (by
    refine XS.iloadN X0.here hx rfl (hb hby at_27) rfl ?_
    show Steps p.tables e below (s₁.setTop (mkF m 28 #[.val (.int p1), .val (.int p2), .val (.int p3), .val (.int p4), .val (.int p5), .val (.int p6), .val (.int z2), .val (.int z4), .val (.int z6), .unset, .unset, .unset, .unset, .unset, .unset, .unset, .unset, .unset, .unset] [(.int p2)])) _
    refine XS.i2c X0.here hx rfl (hb hby at_28) rfl ?_
    show Steps p.tables e below (s₁.setTop (mkF m 29 #[.val (.int p1), .val (.int p2), .val (.int p3), .val (.int p4), .val (.int p5), .val (.int p6), .val (.int z2), .val (.int z4), .val (.int z6), .unset, .unset, .unset, .unset, .unset, .unset, .unset, .unset, .unset, .unset] [(.int (p2.toUInt32.toUInt16.toUInt32.toInt32))])) _
    refine XS.istore X0.here hx rfl (hb hby at_29) rfl (l' := #[.val (.int p1), .val (.int p2), .val (.int p3), .val (.int p4), .val (.int p5), .val (.int p6), .val (.int z2), .val (.int z4), .val (.int z6), .val (.int (p2.toUInt32.toUInt16.toUInt32.toInt32)), .unset, .unset, .unset, .unset, .unset, .unset, .unset, .unset, .unset]) rfl ?_
    show Steps p.tables e below (s₁.setTop (mkF m 31 #[.val (.int p1), .val (.int p2), .val (.int p3), .val (.int p4), .val (.int p5), .val (.int p6), .val (.int z2), .val (.int z4), .val (.int z6), .val (.int (p2.toUInt32.toUInt16.toUInt32.toInt32)), .unset, .unset, .unset, .unset, .unset, .unset, .unset, .unset, .unset] [])) _
    exact k)
  obtain ⟨z8, hz8⟩ : ∃ z, z = (p2.toUInt32.toUInt16.toUInt32.toInt32) := ⟨_, rfl⟩
  rw [← hz8] at P7
  have P9 : own_Pr p.tables e below S0 s₁ (mkF m 35 #[.val (.int p1), .val (.int p2), .val (.int p3), .val (.int p4), .val (.int p5), .val (.int p6), .val (.int z2), .val (.int z4), .val (.int z6), .val (.int z8), .val (.int (p3.toUInt32.toUInt16.toUInt32.toInt32)), .unset, .unset, .unset, .unset, .unset, .unset, .unset, .unset] []) := fun t k => P7 t (by
    refine XS.iloadN X0.here hx rfl (hb hby at_31) rfl ?_
    show Steps p.tables e below (s₁.setTop (mkF m 32 #[.val (.int p1), .val (.int p2), .val (.int p3), .val (.int p4), .val (.int p5), .val (.int p6), .val (.int z2), .val (.int z4), .val (.int z6), .val (.int z8), .unset, .unset, .unset, .unset, .unset, .unset, .unset, .unset, .unset] [(.int p3)])) _
    refine XS.i2c X0.here hx rfl (hb hby at_32) rfl ?_
    show Steps p.tables e below (s₁.setTop (mkF m 33 #[.val (.int p1), .val (.int p2), .val (.int p3), .val (.int p4), .val (.int p5), .val (.int p6), .val (.int z2), .val (.int z4), .val (.int z6), .val (.int z8), .unset, .unset, .unset, .unset, .unset, .unset, .unset, .unset, .unset] [(.int (p3.toUInt32.toUInt16.toUInt32.toInt32))])) _
    refine XS.istore X0.here hx rfl (hb hby at_33) rfl (l' := #[.val (.int p1), .val (.int p2), .val (.int p3), .val (.int p4), .val (.int p5), .val (.int p6), .val (.int z2), .val (.int z4), .val (.int z6), .val (.int z8), .val (.int (p3.toUInt32.toUInt16.toUInt32.toInt32)), .unset, .unset, .unset, .unset, .unset, .unset, .unset, .unset]) rfl ?_
    show Steps p.tables e below (s₁.setTop (mkF m 35 #[.val (.int p1), .val (.int p2), .val (.int p3), .val (.int p4), .val (.int p5), .val (.int p6), .val (.int z2), .val (.int z4), .val (.int z6), .val (.int z8), .val (.int (p3.toUInt32.toUInt16.toUInt32.toInt32)), .unset, .unset, .unset, .unset, .unset, .unset, .unset, .unset] [])) _
    exact k)
  obtain ⟨z10, hz10⟩ : ∃ z, z = (p3.toUInt32.toUInt16.toUInt32.toInt32) := ⟨_, rfl⟩
  rw [← hz10] at P9
  have P11 : own_Pr p.tables e below S0 s₁ (mkF m 39 #[.val (.int p1), .val (.int p2), .val (.int p3), .val (.int p4), .val (.int p5), .val (.int p6), .val (.int z2), .val (.int z4), .val (.int z6), .val (.int z8), .val (.int z10), .val (.int (p4.toUInt32.toUInt16.toUInt32.toInt32)), .unset, .unset, .unset, .unset, .unset, .unset, .unset] []) := fun t k => P9 t (by
    refine XS.iloadN X0.here hx rfl (hb hby at_35) rfl ?_
    show Steps p.tables e below (s₁.setTop (mkF m 36 #[.val (.int p1), .val (.int p2), .val (.int p3), .val (.int p4), .val (.int p5), .val (.int p6), .val (.int z2), .val (.int z4), .val (.int z6), .val (.int z8), .val (.int z10), .unset, .unset, .unset, .unset, .unset, .unset, .unset, .unset] [(.int p4)])) _
    refine XS.i2c X0.here hx rfl (hb hby at_36) rfl ?_
    show Steps p.tables e below (s₁.setTop (mkF m 37 #[.val (.int p1), .val (.int p2), .val (.int p3), .val (.int p4), .val (.int p5), .val (.int p6), .val (.int z2), .val (.int z4), .val (.int z6), .val (.int z8), .val (.int z10), .unset, .unset, .unset, .unset, .unset, .unset, .unset, .unset] [(.int (p4.toUInt32.toUInt16.toUInt32.toInt32))])) _
    refine XS.istore X0.here hx rfl (hb hby at_37) rfl (l' := #[.val (.int p1), .val (.int p2), .val (.int p3), .val (.int p4), .val (.int p5), .val (.int p6), .val (.int z2), .val (.int z4), .val (.int z6), .val (.int z8), .val (.int z10), .val (.int (p4.toUInt32.toUInt16.toUInt32.toInt32)), .unset, .unset, .unset, .unset, .unset, .unset, .unset]) rfl ?_
    show Steps p.tables e below (s₁.setTop (mkF m 39 #[.val (.int p1), .val (.int p2), .val (.int p3), .val (.int p4), .val (.int p5), .val (.int p6), .val (.int z2), .val (.int z4), .val (.int z6), .val (.int z8), .val (.int z10), .val (.int (p4.toUInt32.toUInt16.toUInt32.toInt32)), .unset, .unset, .unset, .unset, .unset, .unset, .unset] [])) _
    exact k)
  obtain ⟨z12, hz12⟩ : ∃ z, z = (p4.toUInt32.toUInt16.toUInt32.toInt32) := ⟨_, rfl⟩
  rw [← hz12] at P11
  have P13 : own_Pr p.tables e below S0 s₁ (mkF m 43 #[.val (.int p1), .val (.int p2), .val (.int p3), .val (.int p4), .val (.int p5), .val (.int p6), .val (.int z2), .val (.int z4), .val (.int z6), .val (.int z8), .val (.int z10), .val (.int z12), .unset, .unset, .unset, .unset, .unset, .unset, .unset] [(.int (p6 &&& (4 : Int32)))]) := fun t k => P11 t (by
    refine XS.iload X0.here hx rfl (hb hby at_39) rfl ?_
    show Steps p.tables e below (s₁.setTop (mkF m 41 #[.val (.int p1), .val (.int p2), .val (.int p3), .val (.int p4), .val (.int p5), .val (.int p6), .val (.int z2), .val (.int z4), .val (.int z6), .val (.int z8), .val (.int z10), .val (.int z12), .unset, .unset, .unset, .unset, .unset, .unset, .unset] [(.int p6)])) _
    refine XS.iconst X0.here hx rfl (hb hby at_41) ?_
    show Steps p.tables e below (s₁.setTop (mkF m 42 #[.val (.int p1), .val (.int p2), .val (.int p3), .val (.int p4), .val (.int p5), .val (.int p6), .val (.int z2), .val (.int z4), .val (.int z6), .val (.int z8), .val (.int z10), .val (.int z12), .unset, .unset, .unset, .unset, .unset, .unset, .unset] [(.int (4 : Int32)), (.int p6)])) _
    refine XS.iand X0.here hx rfl (hb hby at_42) rfl ?_
    show Steps p.tables e below (s₁.setTop (mkF m 43 #[.val (.int p1), .val (.int p2), .val (.int p3), .val (.int p4), .val (.int p5), .val (.int p6), .val (.int z2), .val (.int z4), .val (.int z6), .val (.int z8), .val (.int z10), .val (.int z12), .unset, .unset, .unset, .unset, .unset, .unset, .unset] [(.int (p6 &&& (4 : Int32)))])) _
    exact k)
  have P15 : own_Pr p.tables e below S0 s₁ (mkF m 68 #[.val (.int p1), .val (.int p2), .val (.int p3), .val (.int p4), .val (.int p5), .val (.int p6), .val (.int z2), .val (.int z4), .val (.int (if (p6 &&& (4 : Int32)) = (0 : Int32) then z6 else (((55296 : Int32) ||| (p1 &&& (1023 : Int32))).toUInt32.toUInt16.toUInt32.toInt32))), .val (.int (if (p6 &&& (4 : Int32)) = (0 : Int32) then z8 else (((56320 : Int32) ||| (p2 &&& (1023 : Int32))).toUInt32.toUInt16.toUInt32.toInt32))), .val (.int z10), .val (.int z12), .unset, .unset, .unset, .unset, .unset, .unset, .unset] []) := fun t k => P13 t (by
    by_cases hq43_14 : (p6 &&& (4 : Int32)) = (0 : Int32)
    · rw [if_pos hq43_14, if_pos hq43_14] at k
      refine XS.ifYes X0.here hx rfl (pc0 := 43) (pc' := 68) rfl (hb hby at_43) rfl (XT.i0_eq_t hq43_14) (by decide) (by decide) ?_
      show Steps p.tables e below (s₁.setTop (mkF m 68 #[.val (.int p1), .val (.int p2), .val (.int p3), .val (.int p4), .val (.int p5), .val (.int p6), .val (.int z2), .val (.int z4), .val (.int z6), .val (.int z8), .val (.int z10), .val (.int z12), .unset, .unset, .unset, .unset, .unset, .unset, .unset] [])) _
      exact k
    · rw [if_neg hq43_14, if_neg hq43_14] at k
      refine XS.ifNo X0.here hx rfl (hb hby at_43) rfl (XT.i0_eq_f hq43_14) ?_
      show Steps p.tables e below (s₁.setTop (mkF m 46 #[.val (.int p1), .val (.int p2), .val (.int p3), .val (.int p4), .val (.int p5), .val (.int p6), .val (.int z2), .val (.int z4), .val (.int z6), .val (.int z8), .val (.int z10), .val (.int z12), .unset, .unset, .unset, .unset, .unset, .unset, .unset] [])) _
      refine X0.ldcInt hx hown (mvT hZ (hw _ (List.mem_of_getElem? (i := 70) rfl))) (g := (mkF m 46 #[.val (.int p1), .val (.int p2), .val (.int p3), .val (.int p4), .val (.int p5), .val (.int p6), .val (.int z2), .val (.int z4), .val (.int z6), .val (.int z8), .val (.int z10), .val (.int z12), .unset, .unset, .unset, .unset, .unset, .unset, .unset] [])) rfl (hb hby at_46) _ ?_
      show Steps p.tables e below (s₁.setTop (mkF m 48 #[.val (.int p1), .val (.int p2), .val (.int p3), .val (.int p4), .val (.int p5), .val (.int p6), .val (.int z2), .val (.int z4), .val (.int z6), .val (.int z8), .val (.int z10), .val (.int z12), .unset, .unset, .unset, .unset, .unset, .unset, .unset] [(.int (55296 : Int32))])) _
      refine XS.iloadN X0.here hx rfl (hb hby at_48) rfl ?_
      show Steps p.tables e below (s₁.setTop (mkF m 49 #[.val (.int p1), .val (.int p2), .val (.int p3), .val (.int p4), .val (.int p5), .val (.int p6), .val (.int z2), .val (.int z4), .val (.int z6), .val (.int z8), .val (.int z10), .val (.int z12), .unset, .unset, .unset, .unset, .unset, .unset, .unset] [(.int p1), (.int (55296 : Int32))])) _
      refine XS.sipush X0.here hx rfl (hb hby at_49) ?_
      show Steps p.tables e below (s₁.setTop (mkF m 52 #[.val (.int p1), .val (.int p2), .val (.int p3), .val (.int p4), .val (.int p5), .val (.int p6), .val (.int z2), .val (.int z4), .val (.int z6), .val (.int z8), .val (.int z10), .val (.int z12), .unset, .unset, .unset, .unset, .unset, .unset, .unset] [(.int (1023 : Int32)), (.int p1), (.int (55296 : Int32))])) _
      refine XS.iand X0.here hx rfl (hb hby at_52) rfl ?_
      show Steps p.tables e below (s₁.setTop (mkF m 53 #[.val (.int p1), .val (.int p2), .val (.int p3), .val (.int p4), .val (.int p5), .val (.int p6), .val (.int z2), .val (.int z4), .val (.int z6), .val (.int z8), .val (.int z10), .val (.int z12), .unset, .unset, .unset, .unset, .unset, .unset, .unset] [(.int (p1 &&& (1023 : Int32))), (.int (55296 : Int32))])) _
      refine XS.ior X0.here hx rfl (hb hby at_53) rfl ?_
      show Steps p.tables e below (s₁.setTop (mkF m 54 #[.val (.int p1), .val (.int p2), .val (.int p3), .val (.int p4), .val (.int p5), .val (.int p6), .val (.int z2), .val (.int z4), .val (.int z6), .val (.int z8), .val (.int z10), .val (.int z12), .unset, .unset, .unset, .unset, .unset, .unset, .unset] [(.int ((55296 : Int32) ||| (p1 &&& (1023 : Int32))))])) _
      refine XS.i2c X0.here hx rfl (hb hby at_54) rfl ?_
      show Steps p.tables e below (s₁.setTop (mkF m 55 #[.val (.int p1), .val (.int p2), .val (.int p3), .val (.int p4), .val (.int p5), .val (.int p6), .val (.int z2), .val (.int z4), .val (.int z6), .val (.int z8), .val (.int z10), .val (.int z12), .unset, .unset, .unset, .unset, .unset, .unset, .unset] [(.int (((55296 : Int32) ||| (p1 &&& (1023 : Int32))).toUInt32.toUInt16.toUInt32.toInt32))])) _
      refine XS.istore X0.here hx rfl (hb hby at_55) rfl (l' := #[.val (.int p1), .val (.int p2), .val (.int p3), .val (.int p4), .val (.int p5), .val (.int p6), .val (.int z2), .val (.int z4), .val (.int (((55296 : Int32) ||| (p1 &&& (1023 : Int32))).toUInt32.toUInt16.toUInt32.toInt32)), .val (.int z8), .val (.int z10), .val (.int z12), .unset, .unset, .unset, .unset, .unset, .unset, .unset]) rfl ?_
      show Steps p.tables e below (s₁.setTop (mkF m 57 #[.val (.int p1), .val (.int p2), .val (.int p3), .val (.int p4), .val (.int p5), .val (.int p6), .val (.int z2), .val (.int z4), .val (.int (((55296 : Int32) ||| (p1 &&& (1023 : Int32))).toUInt32.toUInt16.toUInt32.toInt32)), .val (.int z8), .val (.int z10), .val (.int z12), .unset, .unset, .unset, .unset, .unset, .unset, .unset] [])) _
      refine X0.ldcInt hx hown (mvT hZ (hw _ (List.mem_of_getElem? (i := 71) rfl))) (g := (mkF m 57 #[.val (.int p1), .val (.int p2), .val (.int p3), .val (.int p4), .val (.int p5), .val (.int p6), .val (.int z2), .val (.int z4), .val (.int (((55296 : Int32) ||| (p1 &&& (1023 : Int32))).toUInt32.toUInt16.toUInt32.toInt32)), .val (.int z8), .val (.int z10), .val (.int z12), .unset, .unset, .unset, .unset, .unset, .unset, .unset] [])) rfl (hb hby at_57) _ ?_
      show Steps p.tables e below (s₁.setTop (mkF m 59 #[.val (.int p1), .val (.int p2), .val (.int p3), .val (.int p4), .val (.int p5), .val (.int p6), .val (.int z2), .val (.int z4), .val (.int (((55296 : Int32) ||| (p1 &&& (1023 : Int32))).toUInt32.toUInt16.toUInt32.toInt32)), .val (.int z8), .val (.int z10), .val (.int z12), .unset, .unset, .unset, .unset, .unset, .unset, .unset] [(.int (56320 : Int32))])) _
      refine XS.iloadN X0.here hx rfl (hb hby at_59) rfl ?_
      show Steps p.tables e below (s₁.setTop (mkF m 60 #[.val (.int p1), .val (.int p2), .val (.int p3), .val (.int p4), .val (.int p5), .val (.int p6), .val (.int z2), .val (.int z4), .val (.int (((55296 : Int32) ||| (p1 &&& (1023 : Int32))).toUInt32.toUInt16.toUInt32.toInt32)), .val (.int z8), .val (.int z10), .val (.int z12), .unset, .unset, .unset, .unset, .unset, .unset, .unset] [(.int p2), (.int (56320 : Int32))])) _
      refine XS.sipush X0.here hx rfl (hb hby at_60) ?_
      show Steps p.tables e below (s₁.setTop (mkF m 63 #[.val (.int p1), .val (.int p2), .val (.int p3), .val (.int p4), .val (.int p5), .val (.int p6), .val (.int z2), .val (.int z4), .val (.int (((55296 : Int32) ||| (p1 &&& (1023 : Int32))).toUInt32.toUInt16.toUInt32.toInt32)), .val (.int z8), .val (.int z10), .val (.int z12), .unset, .unset, .unset, .unset, .unset, .unset, .unset] [(.int (1023 : Int32)), (.int p2), (.int (56320 : Int32))])) _
      refine XS.iand X0.here hx rfl (hb hby at_63) rfl ?_
      show Steps p.tables e below (s₁.setTop (mkF m 64 #[.val (.int p1), .val (.int p2), .val (.int p3), .val (.int p4), .val (.int p5), .val (.int p6), .val (.int z2), .val (.int z4), .val (.int (((55296 : Int32) ||| (p1 &&& (1023 : Int32))).toUInt32.toUInt16.toUInt32.toInt32)), .val (.int z8), .val (.int z10), .val (.int z12), .unset, .unset, .unset, .unset, .unset, .unset, .unset] [(.int (p2 &&& (1023 : Int32))), (.int (56320 : Int32))])) _
      refine XS.ior X0.here hx rfl (hb hby at_64) rfl ?_
      show Steps p.tables e below (s₁.setTop (mkF m 65 #[.val (.int p1), .val (.int p2), .val (.int p3), .val (.int p4), .val (.int p5), .val (.int p6), .val (.int z2), .val (.int z4), .val (.int (((55296 : Int32) ||| (p1 &&& (1023 : Int32))).toUInt32.toUInt16.toUInt32.toInt32)), .val (.int z8), .val (.int z10), .val (.int z12), .unset, .unset, .unset, .unset, .unset, .unset, .unset] [(.int ((56320 : Int32) ||| (p2 &&& (1023 : Int32))))])) _
      refine XS.i2c X0.here hx rfl (hb hby at_65) rfl ?_
      show Steps p.tables e below (s₁.setTop (mkF m 66 #[.val (.int p1), .val (.int p2), .val (.int p3), .val (.int p4), .val (.int p5), .val (.int p6), .val (.int z2), .val (.int z4), .val (.int (((55296 : Int32) ||| (p1 &&& (1023 : Int32))).toUInt32.toUInt16.toUInt32.toInt32)), .val (.int z8), .val (.int z10), .val (.int z12), .unset, .unset, .unset, .unset, .unset, .unset, .unset] [(.int (((56320 : Int32) ||| (p2 &&& (1023 : Int32))).toUInt32.toUInt16.toUInt32.toInt32))])) _
      refine XS.istore X0.here hx rfl (hb hby at_66) rfl (l' := #[.val (.int p1), .val (.int p2), .val (.int p3), .val (.int p4), .val (.int p5), .val (.int p6), .val (.int z2), .val (.int z4), .val (.int (((55296 : Int32) ||| (p1 &&& (1023 : Int32))).toUInt32.toUInt16.toUInt32.toInt32)), .val (.int (((56320 : Int32) ||| (p2 &&& (1023 : Int32))).toUInt32.toUInt16.toUInt32.toInt32)), .val (.int z10), .val (.int z12), .unset, .unset, .unset, .unset, .unset, .unset, .unset]) rfl ?_
      show Steps p.tables e below (s₁.setTop (mkF m 68 #[.val (.int p1), .val (.int p2), .val (.int p3), .val (.int p4), .val (.int p5), .val (.int p6), .val (.int z2), .val (.int z4), .val (.int (((55296 : Int32) ||| (p1 &&& (1023 : Int32))).toUInt32.toUInt16.toUInt32.toInt32)), .val (.int (((56320 : Int32) ||| (p2 &&& (1023 : Int32))).toUInt32.toUInt16.toUInt32.toInt32)), .val (.int z10), .val (.int z12), .unset, .unset, .unset, .unset, .unset, .unset, .unset] [])) _
      exact k)
  obtain ⟨z16, hz16⟩ : ∃ z, z = (if (p6 &&& (4 : Int32)) = (0 : Int32) then z6 else (((55296 : Int32) ||| (p1 &&& (1023 : Int32))).toUInt32.toUInt16.toUInt32.toInt32)) := ⟨_, rfl⟩
  rw [← hz16] at P15
  obtain ⟨z17, hz17⟩ : ∃ z, z = (if (p6 &&& (4 : Int32)) = (0 : Int32) then z8 else (((56320 : Int32) ||| (p2 &&& (1023 : Int32))).toUInt32.toUInt16.toUInt32.toInt32)) := ⟨_, rfl⟩
  rw [← hz17] at P15
  have P18 : own_Pr p.tables e below S0 s₁ (mkF m 73 #[.val (.int p1), .val (.int p2), .val (.int p3), .val (.int p4), .val (.int p5), .val (.int p6), .val (.int z2), .val (.int z4), .val (.int z16), .val (.int z17), .val (.int z10), .val (.int z12), .unset, .unset, .unset, .unset, .unset, .unset, .unset] [(.int (p6 &&& (8 : Int32)))]) := fun t k => P15 t (by
    refine XS.iload X0.here hx rfl (hb hby at_68) rfl ?_
    show Steps p.tables e below (s₁.setTop (mkF m 70 #[.val (.int p1), .val (.int p2), .val (.int p3), .val (.int p4), .val (.int p5), .val (.int p6), .val (.int z2), .val (.int z4), .val (.int z16), .val (.int z17), .val (.int z10), .val (.int z12), .unset, .unset, .unset, .unset, .unset, .unset, .unset] [(.int p6)])) _
    refine XS.bipush X0.here hx rfl (hb hby at_70) ?_
    show Steps p.tables e below (s₁.setTop (mkF m 72 #[.val (.int p1), .val (.int p2), .val (.int p3), .val (.int p4), .val (.int p5), .val (.int p6), .val (.int z2), .val (.int z4), .val (.int z16), .val (.int z17), .val (.int z10), .val (.int z12), .unset, .unset, .unset, .unset, .unset, .unset, .unset] [(.int (8 : Int32)), (.int p6)])) _
    refine XS.iand X0.here hx rfl (hb hby at_72) rfl ?_
    show Steps p.tables e below (s₁.setTop (mkF m 73 #[.val (.int p1), .val (.int p2), .val (.int p3), .val (.int p4), .val (.int p5), .val (.int p6), .val (.int z2), .val (.int z4), .val (.int z16), .val (.int z17), .val (.int z10), .val (.int z12), .unset, .unset, .unset, .unset, .unset, .unset, .unset] [(.int (p6 &&& (8 : Int32)))])) _
    exact k)
  have P20 : own_Pr p.tables e below S0 s₁ (mkF m 98 #[.val (.int p1), .val (.int p2), .val (.int p3), .val (.int p4), .val (.int p5), .val (.int p6), .val (.int z2), .val (.int z4), .val (.int z16), .val (.int z17), .val (.int (if (p6 &&& (8 : Int32)) = (0 : Int32) then z10 else (((55296 : Int32) ||| (p3 &&& (1023 : Int32))).toUInt32.toUInt16.toUInt32.toInt32))), .val (.int (if (p6 &&& (8 : Int32)) = (0 : Int32) then z12 else (((56320 : Int32) ||| (p4 &&& (1023 : Int32))).toUInt32.toUInt16.toUInt32.toInt32))), .unset, .unset, .unset, .unset, .unset, .unset, .unset] []) := fun t k => P18 t (by
    by_cases hq73_19 : (p6 &&& (8 : Int32)) = (0 : Int32)
    · rw [if_pos hq73_19, if_pos hq73_19] at k
      refine XS.ifYes X0.here hx rfl (pc0 := 73) (pc' := 98) rfl (hb hby at_73) rfl (XT.i0_eq_t hq73_19) (by decide) (by decide) ?_
      show Steps p.tables e below (s₁.setTop (mkF m 98 #[.val (.int p1), .val (.int p2), .val (.int p3), .val (.int p4), .val (.int p5), .val (.int p6), .val (.int z2), .val (.int z4), .val (.int z16), .val (.int z17), .val (.int z10), .val (.int z12), .unset, .unset, .unset, .unset, .unset, .unset, .unset] [])) _
      exact k
    · rw [if_neg hq73_19, if_neg hq73_19] at k
      refine XS.ifNo X0.here hx rfl (hb hby at_73) rfl (XT.i0_eq_f hq73_19) ?_
      show Steps p.tables e below (s₁.setTop (mkF m 76 #[.val (.int p1), .val (.int p2), .val (.int p3), .val (.int p4), .val (.int p5), .val (.int p6), .val (.int z2), .val (.int z4), .val (.int z16), .val (.int z17), .val (.int z10), .val (.int z12), .unset, .unset, .unset, .unset, .unset, .unset, .unset] [])) _
      refine X0.ldcInt hx hown (mvT hZ (hw _ (List.mem_of_getElem? (i := 70) rfl))) (g := (mkF m 76 #[.val (.int p1), .val (.int p2), .val (.int p3), .val (.int p4), .val (.int p5), .val (.int p6), .val (.int z2), .val (.int z4), .val (.int z16), .val (.int z17), .val (.int z10), .val (.int z12), .unset, .unset, .unset, .unset, .unset, .unset, .unset] [])) rfl (hb hby at_76) _ ?_
      show Steps p.tables e below (s₁.setTop (mkF m 78 #[.val (.int p1), .val (.int p2), .val (.int p3), .val (.int p4), .val (.int p5), .val (.int p6), .val (.int z2), .val (.int z4), .val (.int z16), .val (.int z17), .val (.int z10), .val (.int z12), .unset, .unset, .unset, .unset, .unset, .unset, .unset] [(.int (55296 : Int32))])) _
      refine XS.iloadN X0.here hx rfl (hb hby at_78) rfl ?_
      show Steps p.tables e below (s₁.setTop (mkF m 79 #[.val (.int p1), .val (.int p2), .val (.int p3), .val (.int p4), .val (.int p5), .val (.int p6), .val (.int z2), .val (.int z4), .val (.int z16), .val (.int z17), .val (.int z10), .val (.int z12), .unset, .unset, .unset, .unset, .unset, .unset, .unset] [(.int p3), (.int (55296 : Int32))])) _
      refine XS.sipush X0.here hx rfl (hb hby at_79) ?_
      show Steps p.tables e below (s₁.setTop (mkF m 82 #[.val (.int p1), .val (.int p2), .val (.int p3), .val (.int p4), .val (.int p5), .val (.int p6), .val (.int z2), .val (.int z4), .val (.int z16), .val (.int z17), .val (.int z10), .val (.int z12), .unset, .unset, .unset, .unset, .unset, .unset, .unset] [(.int (1023 : Int32)), (.int p3), (.int (55296 : Int32))])) _
      refine XS.iand X0.here hx rfl (hb hby at_82) rfl ?_
      show Steps p.tables e below (s₁.setTop (mkF m 83 #[.val (.int p1), .val (.int p2), .val (.int p3), .val (.int p4), .val (.int p5), .val (.int p6), .val (.int z2), .val (.int z4), .val (.int z16), .val (.int z17), .val (.int z10), .val (.int z12), .unset, .unset, .unset, .unset, .unset, .unset, .unset] [(.int (p3 &&& (1023 : Int32))), (.int (55296 : Int32))])) _
      refine XS.ior X0.here hx rfl (hb hby at_83) rfl ?_
      show Steps p.tables e below (s₁.setTop (mkF m 84 #[.val (.int p1), .val (.int p2), .val (.int p3), .val (.int p4), .val (.int p5), .val (.int p6), .val (.int z2), .val (.int z4), .val (.int z16), .val (.int z17), .val (.int z10), .val (.int z12), .unset, .unset, .unset, .unset, .unset, .unset, .unset] [(.int ((55296 : Int32) ||| (p3 &&& (1023 : Int32))))])) _
      refine XS.i2c X0.here hx rfl (hb hby at_84) rfl ?_
      show Steps p.tables e below (s₁.setTop (mkF m 85 #[.val (.int p1), .val (.int p2), .val (.int p3), .val (.int p4), .val (.int p5), .val (.int p6), .val (.int z2), .val (.int z4), .val (.int z16), .val (.int z17), .val (.int z10), .val (.int z12), .unset, .unset, .unset, .unset, .unset, .unset, .unset] [(.int (((55296 : Int32) ||| (p3 &&& (1023 : Int32))).toUInt32.toUInt16.toUInt32.toInt32))])) _
      refine XS.istore X0.here hx rfl (hb hby at_85) rfl (l' := #[.val (.int p1), .val (.int p2), .val (.int p3), .val (.int p4), .val (.int p5), .val (.int p6), .val (.int z2), .val (.int z4), .val (.int z16), .val (.int z17), .val (.int (((55296 : Int32) ||| (p3 &&& (1023 : Int32))).toUInt32.toUInt16.toUInt32.toInt32)), .val (.int z12), .unset, .unset, .unset, .unset, .unset, .unset, .unset]) rfl ?_
      show Steps p.tables e below (s₁.setTop (mkF m 87 #[.val (.int p1), .val (.int p2), .val (.int p3), .val (.int p4), .val (.int p5), .val (.int p6), .val (.int z2), .val (.int z4), .val (.int z16), .val (.int z17), .val (.int (((55296 : Int32) ||| (p3 &&& (1023 : Int32))).toUInt32.toUInt16.toUInt32.toInt32)), .val (.int z12), .unset, .unset, .unset, .unset, .unset, .unset, .unset] [])) _
      refine X0.ldcInt hx hown (mvT hZ (hw _ (List.mem_of_getElem? (i := 71) rfl))) (g := (mkF m 87 #[.val (.int p1), .val (.int p2), .val (.int p3), .val (.int p4), .val (.int p5), .val (.int p6), .val (.int z2), .val (.int z4), .val (.int z16), .val (.int z17), .val (.int (((55296 : Int32) ||| (p3 &&& (1023 : Int32))).toUInt32.toUInt16.toUInt32.toInt32)), .val (.int z12), .unset, .unset, .unset, .unset, .unset, .unset, .unset] [])) rfl (hb hby at_87) _ ?_
      show Steps p.tables e below (s₁.setTop (mkF m 89 #[.val (.int p1), .val (.int p2), .val (.int p3), .val (.int p4), .val (.int p5), .val (.int p6), .val (.int z2), .val (.int z4), .val (.int z16), .val (.int z17), .val (.int (((55296 : Int32) ||| (p3 &&& (1023 : Int32))).toUInt32.toUInt16.toUInt32.toInt32)), .val (.int z12), .unset, .unset, .unset, .unset, .unset, .unset, .unset] [(.int (56320 : Int32))])) _
      refine XS.iloadN X0.here hx rfl (hb hby at_89) rfl ?_
      show Steps p.tables e below (s₁.setTop (mkF m 90 #[.val (.int p1), .val (.int p2), .val (.int p3), .val (.int p4), .val (.int p5), .val (.int p6), .val (.int z2), .val (.int z4), .val (.int z16), .val (.int z17), .val (.int (((55296 : Int32) ||| (p3 &&& (1023 : Int32))).toUInt32.toUInt16.toUInt32.toInt32)), .val (.int z12), .unset, .unset, .unset, .unset, .unset, .unset, .unset] [(.int p4), (.int (56320 : Int32))])) _
      refine XS.sipush X0.here hx rfl (hb hby at_90) ?_
      show Steps p.tables e below (s₁.setTop (mkF m 93 #[.val (.int p1), .val (.int p2), .val (.int p3), .val (.int p4), .val (.int p5), .val (.int p6), .val (.int z2), .val (.int z4), .val (.int z16), .val (.int z17), .val (.int (((55296 : Int32) ||| (p3 &&& (1023 : Int32))).toUInt32.toUInt16.toUInt32.toInt32)), .val (.int z12), .unset, .unset, .unset, .unset, .unset, .unset, .unset] [(.int (1023 : Int32)), (.int p4), (.int (56320 : Int32))])) _
      refine XS.iand X0.here hx rfl (hb hby at_93) rfl ?_
      show Steps p.tables e below (s₁.setTop (mkF m 94 #[.val (.int p1), .val (.int p2), .val (.int p3), .val (.int p4), .val (.int p5), .val (.int p6), .val (.int z2), .val (.int z4), .val (.int z16), .val (.int z17), .val (.int (((55296 : Int32) ||| (p3 &&& (1023 : Int32))).toUInt32.toUInt16.toUInt32.toInt32)), .val (.int z12), .unset, .unset, .unset, .unset, .unset, .unset, .unset] [(.int (p4 &&& (1023 : Int32))), (.int (56320 : Int32))])) _
      refine XS.ior X0.here hx rfl (hb hby at_94) rfl ?_
      show Steps p.tables e below (s₁.setTop (mkF m 95 #[.val (.int p1), .val (.int p2), .val (.int p3), .val (.int p4), .val (.int p5), .val (.int p6), .val (.int z2), .val (.int z4), .val (.int z16), .val (.int z17), .val (.int (((55296 : Int32) ||| (p3 &&& (1023 : Int32))).toUInt32.toUInt16.toUInt32.toInt32)), .val (.int z12), .unset, .unset, .unset, .unset, .unset, .unset, .unset] [(.int ((56320 : Int32) ||| (p4 &&& (1023 : Int32))))])) _
      refine XS.i2c X0.here hx rfl (hb hby at_95) rfl ?_
      show Steps p.tables e below (s₁.setTop (mkF m 96 #[.val (.int p1), .val (.int p2), .val (.int p3), .val (.int p4), .val (.int p5), .val (.int p6), .val (.int z2), .val (.int z4), .val (.int z16), .val (.int z17), .val (.int (((55296 : Int32) ||| (p3 &&& (1023 : Int32))).toUInt32.toUInt16.toUInt32.toInt32)), .val (.int z12), .unset, .unset, .unset, .unset, .unset, .unset, .unset] [(.int (((56320 : Int32) ||| (p4 &&& (1023 : Int32))).toUInt32.toUInt16.toUInt32.toInt32))])) _
      refine XS.istore X0.here hx rfl (hb hby at_96) rfl (l' := #[.val (.int p1), .val (.int p2), .val (.int p3), .val (.int p4), .val (.int p5), .val (.int p6), .val (.int z2), .val (.int z4), .val (.int z16), .val (.int z17), .val (.int (((55296 : Int32) ||| (p3 &&& (1023 : Int32))).toUInt32.toUInt16.toUInt32.toInt32)), .val (.int (((56320 : Int32) ||| (p4 &&& (1023 : Int32))).toUInt32.toUInt16.toUInt32.toInt32)), .unset, .unset, .unset, .unset, .unset, .unset, .unset]) rfl ?_
      show Steps p.tables e below (s₁.setTop (mkF m 98 #[.val (.int p1), .val (.int p2), .val (.int p3), .val (.int p4), .val (.int p5), .val (.int p6), .val (.int z2), .val (.int z4), .val (.int z16), .val (.int z17), .val (.int (((55296 : Int32) ||| (p3 &&& (1023 : Int32))).toUInt32.toUInt16.toUInt32.toInt32)), .val (.int (((56320 : Int32) ||| (p4 &&& (1023 : Int32))).toUInt32.toUInt16.toUInt32.toInt32)), .unset, .unset, .unset, .unset, .unset, .unset, .unset] [])) _
      exact k)
  obtain ⟨z21, hz21⟩ : ∃ z, z = (if (p6 &&& (8 : Int32)) = (0 : Int32) then z10 else (((55296 : Int32) ||| (p3 &&& (1023 : Int32))).toUInt32.toUInt16.toUInt32.toInt32)) := ⟨_, rfl⟩
  rw [← hz21] at P20
  obtain ⟨z22, hz22⟩ : ∃ z, z = (if (p6 &&& (8 : Int32)) = (0 : Int32) then z12 else (((56320 : Int32) ||| (p4 &&& (1023 : Int32))).toUInt32.toUInt16.toUInt32.toInt32)) := ⟨_, rfl⟩
  rw [← hz22] at P20
  have P23 : own_Pr p.tables e below S0 s₁ (mkF m 102 #[.val (.int p1), .val (.int p2), .val (.int p3), .val (.int p4), .val (.int p5), .val (.int p6), .val (.int z2), .val (.int z4), .val (.int z16), .val (.int z17), .val (.int z21), .val (.int z22), .unset, .unset, .unset, .unset, .unset, .unset, .unset] [(.int (p6 &&& (1 : Int32)))]) := fun t k => P20 t (by
    refine XS.iload X0.here hx rfl (hb hby at_98) rfl ?_
    show Steps p.tables e below (s₁.setTop (mkF m 100 #[.val (.int p1), .val (.int p2), .val (.int p3), .val (.int p4), .val (.int p5), .val (.int p6), .val (.int z2), .val (.int z4), .val (.int z16), .val (.int z17), .val (.int z21), .val (.int z22), .unset, .unset, .unset, .unset, .unset, .unset, .unset] [(.int p6)])) _
    refine XS.iconst X0.here hx rfl (hb hby at_100) ?_
    show Steps p.tables e below (s₁.setTop (mkF m 101 #[.val (.int p1), .val (.int p2), .val (.int p3), .val (.int p4), .val (.int p5), .val (.int p6), .val (.int z2), .val (.int z4), .val (.int z16), .val (.int z17), .val (.int z21), .val (.int z22), .unset, .unset, .unset, .unset, .unset, .unset, .unset] [(.int (1 : Int32)), (.int p6)])) _
    refine XS.iand X0.here hx rfl (hb hby at_101) rfl ?_
    show Steps p.tables e below (s₁.setTop (mkF m 102 #[.val (.int p1), .val (.int p2), .val (.int p3), .val (.int p4), .val (.int p5), .val (.int p6), .val (.int z2), .val (.int z4), .val (.int z16), .val (.int z17), .val (.int z21), .val (.int z22), .unset, .unset, .unset, .unset, .unset, .unset, .unset] [(.int (p6 &&& (1 : Int32)))])) _
    exact k)
  have P25 : own_Pr p.tables e below S0 s₁ (mkF m 109 #[.val (.int p1), .val (.int p2), .val (.int p3), .val (.int p4), .val (.int p5), .val (.int p6), .val (.int z2), .val (.int z4), .val (.int z16), .val (.int z17), .val (.int (if (p6 &&& (1 : Int32)) = (0 : Int32) then z21 else z16)), .val (.int z22), .unset, .unset, .unset, .unset, .unset, .unset, .unset] []) := fun t k => P23 t (by
    by_cases hq102_24 : (p6 &&& (1 : Int32)) = (0 : Int32)
    · rw [if_pos hq102_24] at k
      refine XS.ifYes X0.here hx rfl (pc0 := 102) (pc' := 109) rfl (hb hby at_102) rfl (XT.i0_eq_t hq102_24) (by decide) (by decide) ?_
      show Steps p.tables e below (s₁.setTop (mkF m 109 #[.val (.int p1), .val (.int p2), .val (.int p3), .val (.int p4), .val (.int p5), .val (.int p6), .val (.int z2), .val (.int z4), .val (.int z16), .val (.int z17), .val (.int z21), .val (.int z22), .unset, .unset, .unset, .unset, .unset, .unset, .unset] [])) _
      exact k
    · rw [if_neg hq102_24] at k
      refine XS.ifNo X0.here hx rfl (hb hby at_102) rfl (XT.i0_eq_f hq102_24) ?_
      show Steps p.tables e below (s₁.setTop (mkF m 105 #[.val (.int p1), .val (.int p2), .val (.int p3), .val (.int p4), .val (.int p5), .val (.int p6), .val (.int z2), .val (.int z4), .val (.int z16), .val (.int z17), .val (.int z21), .val (.int z22), .unset, .unset, .unset, .unset, .unset, .unset, .unset] [])) _
      refine XS.iload X0.here hx rfl (hb hby at_105) rfl ?_
      show Steps p.tables e below (s₁.setTop (mkF m 107 #[.val (.int p1), .val (.int p2), .val (.int p3), .val (.int p4), .val (.int p5), .val (.int p6), .val (.int z2), .val (.int z4), .val (.int z16), .val (.int z17), .val (.int z21), .val (.int z22), .unset, .unset, .unset, .unset, .unset, .unset, .unset] [(.int z16)])) _
      refine XS.istore X0.here hx rfl (hb hby at_107) rfl (l' := #[.val (.int p1), .val (.int p2), .val (.int p3), .val (.int p4), .val (.int p5), .val (.int p6), .val (.int z2), .val (.int z4), .val (.int z16), .val (.int z17), .val (.int z16), .val (.int z22), .unset, .unset, .unset, .unset, .unset, .unset, .unset]) rfl ?_
      show Steps p.tables e below (s₁.setTop (mkF m 109 #[.val (.int p1), .val (.int p2), .val (.int p3), .val (.int p4), .val (.int p5), .val (.int p6), .val (.int z2), .val (.int z4), .val (.int z16), .val (.int z17), .val (.int z16), .val (.int z22), .unset, .unset, .unset, .unset, .unset, .unset, .unset] [])) _
      exact k)
  obtain ⟨z26, hz26⟩ : ∃ z, z = (if (p6 &&& (1 : Int32)) = (0 : Int32) then z21 else z16) := ⟨_, rfl⟩
  rw [← hz26] at P25
  have P27 : own_Pr p.tables e below S0 s₁ (mkF m 113 #[.val (.int p1), .val (.int p2), .val (.int p3), .val (.int p4), .val (.int p5), .val (.int p6), .val (.int z2), .val (.int z4), .val (.int z16), .val (.int z17), .val (.int z26), .val (.int z22), .unset, .unset, .unset, .unset, .unset, .unset, .unset] [(.int (p6 &&& (2 : Int32)))]) := fun t k => P25 t (by
    refine XS.iload X0.here hx rfl (hb hby at_109) rfl ?_
    show Steps p.tables e below (s₁.setTop (mkF m 111 #[.val (.int p1), .val (.int p2), .val (.int p3), .val (.int p4), .val (.int p5), .val (.int p6), .val (.int z2), .val (.int z4), .val (.int z16), .val (.int z17), .val (.int z26), .val (.int z22), .unset, .unset, .unset, .unset, .unset, .unset, .unset] [(.int p6)])) _
    refine XS.iconst X0.here hx rfl (hb hby at_111) ?_
    show Steps p.tables e below (s₁.setTop (mkF m 112 #[.val (.int p1), .val (.int p2), .val (.int p3), .val (.int p4), .val (.int p5), .val (.int p6), .val (.int z2), .val (.int z4), .val (.int z16), .val (.int z17), .val (.int z26), .val (.int z22), .unset, .unset, .unset, .unset, .unset, .unset, .unset] [(.int (2 : Int32)), (.int p6)])) _
    refine XS.iand X0.here hx rfl (hb hby at_112) rfl ?_
    show Steps p.tables e below (s₁.setTop (mkF m 113 #[.val (.int p1), .val (.int p2), .val (.int p3), .val (.int p4), .val (.int p5), .val (.int p6), .val (.int z2), .val (.int z4), .val (.int z16), .val (.int z17), .val (.int z26), .val (.int z22), .unset, .unset, .unset, .unset, .unset, .unset, .unset] [(.int (p6 &&& (2 : Int32)))])) _
    exact k)
  have P29 : own_Pr p.tables e below S0 s₁ (mkF m 120 #[.val (.int p1), .val (.int p2), .val (.int p3), .val (.int p4), .val (.int p5), .val (.int p6), .val (.int z2), .val (.int z4), .val (.int z16), .val (.int z17), .val (.int z26), .val (.int (if (p6 &&& (2 : Int32)) = (0 : Int32) then z22 else z17)), .unset, .unset, .unset, .unset, .unset, .unset, .unset] []) := fun t k => P27 t (by
    by_cases hq113_28 : (p6 &&& (2 : Int32)) = (0 : Int32)
    · rw [if_pos hq113_28] at k
      refine XS.ifYes X0.here hx rfl (pc0 := 113) (pc' := 120) rfl (hb hby at_113) rfl (XT.i0_eq_t hq113_28) (by decide) (by decide) ?_
      show Steps p.tables e below (s₁.setTop (mkF m 120 #[.val (.int p1), .val (.int p2), .val (.int p3), .val (.int p4), .val (.int p5), .val (.int p6), .val (.int z2), .val (.int z4), .val (.int z16), .val (.int z17), .val (.int z26), .val (.int z22), .unset, .unset, .unset, .unset, .unset, .unset, .unset] [])) _
      exact k
    · rw [if_neg hq113_28] at k
      refine XS.ifNo X0.here hx rfl (hb hby at_113) rfl (XT.i0_eq_f hq113_28) ?_
      show Steps p.tables e below (s₁.setTop (mkF m 116 #[.val (.int p1), .val (.int p2), .val (.int p3), .val (.int p4), .val (.int p5), .val (.int p6), .val (.int z2), .val (.int z4), .val (.int z16), .val (.int z17), .val (.int z26), .val (.int z22), .unset, .unset, .unset, .unset, .unset, .unset, .unset] [])) _
      refine XS.iload X0.here hx rfl (hb hby at_116) rfl ?_
      show Steps p.tables e below (s₁.setTop (mkF m 118 #[.val (.int p1), .val (.int p2), .val (.int p3), .val (.int p4), .val (.int p5), .val (.int p6), .val (.int z2), .val (.int z4), .val (.int z16), .val (.int z17), .val (.int z26), .val (.int z22), .unset, .unset, .unset, .unset, .unset, .unset, .unset] [(.int z17)])) _
      refine XS.istore X0.here hx rfl (hb hby at_118) rfl (l' := #[.val (.int p1), .val (.int p2), .val (.int p3), .val (.int p4), .val (.int p5), .val (.int p6), .val (.int z2), .val (.int z4), .val (.int z16), .val (.int z17), .val (.int z26), .val (.int z17), .unset, .unset, .unset, .unset, .unset, .unset, .unset]) rfl ?_
      show Steps p.tables e below (s₁.setTop (mkF m 120 #[.val (.int p1), .val (.int p2), .val (.int p3), .val (.int p4), .val (.int p5), .val (.int p6), .val (.int z2), .val (.int z4), .val (.int z16), .val (.int z17), .val (.int z26), .val (.int z17), .unset, .unset, .unset, .unset, .unset, .unset, .unset] [])) _
      exact k)
  obtain ⟨z30, hz30⟩ : ∃ z, z = (if (p6 &&& (2 : Int32)) = (0 : Int32) then z22 else z17) := ⟨_, rfl⟩
  rw [← hz30] at P29
  have hp_z2 := own_rem3 hz2
  have hp_z4 := own_rem3 hz4
  have hc_z6 : own_ch z6 := by rw [hz6]; exact own_ch.of _
  have hc_z8 : own_ch z8 := by rw [hz8]; exact own_ch.of _
  have hc_z10 : own_ch z10 := by rw [hz10]; exact own_ch.of _
  have hc_z12 : own_ch z12 := by rw [hz12]; exact own_ch.of _
  have hc_z16 : own_ch z16 := by rw [hz16]; split <;> first | assumption | exact own_ch.of _
  have hc_z17 : own_ch z17 := by rw [hz17]; split <;> first | assumption | exact own_ch.of _
  have hc_z21 : own_ch z21 := by rw [hz21]; split <;> first | assumption | exact own_ch.of _
  have hc_z22 : own_ch z22 := by rw [hz22]; split <;> first | assumption | exact own_ch.of _
  have hc_z26 : own_ch z26 := by rw [hz26]; split <;> first | assumption | exact own_ch.of _
  have hc_z30 : own_ch z30 := by rw [hz30]; split <;> first | assumption | exact own_ch.of _
  have P31 : own_Pr p.tables e below S0 s₁ (mkF m 126 #[.val (.int p1), .val (.int p2), .val (.int p3), .val (.int p4), .val (.int p5), .val (.int p6), .val (.int z2), .val (.int z4), .val (.int z16), .val (.int z17), .val (.int z26), .val (.int z30), .unset, .unset, .unset, .unset, .unset, .unset, .unset] [(.int z17), (.int z16), (.int z2)]) := fun t k => P29 t (by
    refine XS.iload X0.here hx rfl (hb hby at_120) rfl ?_
    show Steps p.tables e below (s₁.setTop (mkF m 122 #[.val (.int p1), .val (.int p2), .val (.int p3), .val (.int p4), .val (.int p5), .val (.int p6), .val (.int z2), .val (.int z4), .val (.int z16), .val (.int z17), .val (.int z26), .val (.int z30), .unset, .unset, .unset, .unset, .unset, .unset, .unset] [(.int z2)])) _
    refine XS.iload X0.here hx rfl (hb hby at_122) rfl ?_
    show Steps p.tables e below (s₁.setTop (mkF m 124 #[.val (.int p1), .val (.int p2), .val (.int p3), .val (.int p4), .val (.int p5), .val (.int p6), .val (.int z2), .val (.int z4), .val (.int z16), .val (.int z17), .val (.int z26), .val (.int z30), .unset, .unset, .unset, .unset, .unset, .unset, .unset] [(.int z16), (.int z2)])) _
    refine XS.iload X0.here hx rfl (hb hby at_124) rfl ?_
    show Steps p.tables e below (s₁.setTop (mkF m 126 #[.val (.int p1), .val (.int p2), .val (.int p3), .val (.int p4), .val (.int p5), .val (.int p6), .val (.int z2), .val (.int z4), .val (.int z16), .val (.int z17), .val (.int z26), .val (.int z30), .unset, .unset, .unset, .unset, .unset, .unset, .unset] [(.int z17), (.int z16), (.int z2)])) _
    exact k)
  obtain ⟨_, _, ⟨T32, L32, k32, n32⟩, -, X32, hSq32, gq32, ⟨Lc32, hQ32, l32, y32, z32, CRq32⟩, st32⟩ := callSS X0 hx (y := (⟨"com/example/mathir_tools/mathirtools/formats/text/Utf8OrderComparePinLaw", "make", "(ICC)Ljava/lang/String;"⟩ : MethodName)) hown (mvT hZ (hw _ (List.mem_of_getElem? (i := 0) rfl))) (mvT hZ (hw _ (List.mem_of_getElem? (i := 1) rfl))) (mvT hZ (hw _ (List.mem_of_getElem? (i := 2) rfl))) (mvT hZ (hw _ (List.mem_of_getElem? (i := 3) rfl))) (by decide) (backOfSH (W := 0) (rm1 l Z a0 hw [] z2 z16 z17 cs h0 n0 Z0 CS hcs AD HB LB hp_z2 hc_z16 hc_z17) hZ (hw _ (List.mem_of_getElem? (i := 3) rfl)) (hw _ (List.mem_of_getElem? (i := 2) rfl)) (by decide) (by decide) (own_EW hw) CR0.1) (g := (mkF m 126 #[.val (.int p1), .val (.int p2), .val (.int p3), .val (.int p4), .val (.int p5), .val (.int p6), .val (.int z2), .val (.int z4), .val (.int z16), .val (.int z17), .val (.int z26), .val (.int z30), .unset, .unset, .unset, .unset, .unset, .unset, .unset] [(.int z17), (.int z16), (.int z2)])) rfl (by rw [hml]; rfl) (argsL := [(.int z2), (.int z16), (.int z17)]) (rest := []) (lenOf pd_23 rfl) rfl (by show 2 * 0 + _ ≤ _; exact Nat.le_of_eq rfl) (hb hby at_126) (fun _ _ => ⟨rfl, e0, (by decide : 0 + 6 ≤ _), (by decide : 0 + 12 ≤ _)⟩)
  dsimp only [Pt.U, Pt.locs, Pt.cells, Pt.slots] at X32 l32 y32 z32 st32 hQ32 hSq32 gq32 CRq32
  subst l32 y32 z32
  obtain ⟨X32, hSn, hZ, hown⟩ := rebS hSn (by rw [e0]; exact kS0) X32 hSq32 gq32 hZ hown
  have kS32 := Nat.le_refl T32.heap.size
  have CR32q := CR0.trans CRq32
  obtain ⟨s32, rfl, Nq32, Kq32, Sq32⟩ := hQ32
  have N32n := Fr.app N0 Nq32
  have F33 := own_sta_keep0 CS Kq32
  have F34 := own_sta_keep0 FM Kq32
  have F35 := own_sta_keep0 AD Kq32
  have F36 := own_sta_keep0 HB Kq32
  have F37 := own_sta_keep0 LB Kq32
  have Z38 := Nat.le_trans Z0 Kq32.1
  have P39 : own_Pr p.tables e below S0 T32 (mkF m 129 #[.val (.int p1), .val (.int p2), .val (.int p3), .val (.int p4), .val (.int p5), .val (.int p6), .val (.int z2), .val (.int z4), .val (.int z16), .val (.int z17), .val (.int z26), .val (.int z30), .unset, .unset, .unset, .unset, .unset, .unset, .unset] [(.ref s32)]) := fun t k => P31 t (st32.trans k)
  have P40 : own_Pr p.tables e below S0 T32 (mkF m 137 #[.val (.int p1), .val (.int p2), .val (.int p3), .val (.int p4), .val (.int p5), .val (.int p6), .val (.int z2), .val (.int z4), .val (.int z16), .val (.int z17), .val (.int z26), .val (.int z30), .val (.ref s32), .unset, .unset, .unset, .unset, .unset, .unset] [(.int z30), (.int z26), (.int z4)]) := fun t k => P39 t (by
    refine XS.astore X32.here hx rfl (hb hby at_129) rfl rfl (l' := #[.val (.int p1), .val (.int p2), .val (.int p3), .val (.int p4), .val (.int p5), .val (.int p6), .val (.int z2), .val (.int z4), .val (.int z16), .val (.int z17), .val (.int z26), .val (.int z30), .val (.ref s32), .unset, .unset, .unset, .unset, .unset, .unset]) rfl ?_
    show Steps p.tables e below (T32.setTop (mkF m 131 #[.val (.int p1), .val (.int p2), .val (.int p3), .val (.int p4), .val (.int p5), .val (.int p6), .val (.int z2), .val (.int z4), .val (.int z16), .val (.int z17), .val (.int z26), .val (.int z30), .val (.ref s32), .unset, .unset, .unset, .unset, .unset, .unset] [])) _
    refine XS.iload X32.here hx rfl (hb hby at_131) rfl ?_
    show Steps p.tables e below (T32.setTop (mkF m 133 #[.val (.int p1), .val (.int p2), .val (.int p3), .val (.int p4), .val (.int p5), .val (.int p6), .val (.int z2), .val (.int z4), .val (.int z16), .val (.int z17), .val (.int z26), .val (.int z30), .val (.ref s32), .unset, .unset, .unset, .unset, .unset, .unset] [(.int z4)])) _
    refine XS.iload X32.here hx rfl (hb hby at_133) rfl ?_
    show Steps p.tables e below (T32.setTop (mkF m 135 #[.val (.int p1), .val (.int p2), .val (.int p3), .val (.int p4), .val (.int p5), .val (.int p6), .val (.int z2), .val (.int z4), .val (.int z16), .val (.int z17), .val (.int z26), .val (.int z30), .val (.ref s32), .unset, .unset, .unset, .unset, .unset, .unset] [(.int z26), (.int z4)])) _
    refine XS.iload X32.here hx rfl (hb hby at_135) rfl ?_
    show Steps p.tables e below (T32.setTop (mkF m 137 #[.val (.int p1), .val (.int p2), .val (.int p3), .val (.int p4), .val (.int p5), .val (.int p6), .val (.int z2), .val (.int z4), .val (.int z16), .val (.int z17), .val (.int z26), .val (.int z30), .val (.ref s32), .unset, .unset, .unset, .unset, .unset, .unset] [(.int z30), (.int z26), (.int z4)])) _
    exact k)
  obtain ⟨_, _, ⟨T41, L41, k41, n41⟩, -, X41, hSq41, gq41, ⟨Lc41, hQ41, l41, y41, z41, CRq41⟩, st41⟩ := callSS X32 hx (y := (⟨"com/example/mathir_tools/mathirtools/formats/text/Utf8OrderComparePinLaw", "make", "(ICC)Ljava/lang/String;"⟩ : MethodName)) hown (mvT hZ (hw _ (List.mem_of_getElem? (i := 0) rfl))) (mvT hZ (hw _ (List.mem_of_getElem? (i := 1) rfl))) (mvT hZ (hw _ (List.mem_of_getElem? (i := 2) rfl))) (mvT hZ (hw _ (List.mem_of_getElem? (i := 3) rfl))) (by decide) (backOfSH (W := 0) (rm1 l Z a0 hw [] z4 z26 z30 cs T32.heap n0 Z38 F33 hcs F35 F36 F37 hp_z4 hc_z26 hc_z30) hZ (hw _ (List.mem_of_getElem? (i := 3) rfl)) (hw _ (List.mem_of_getElem? (i := 2) rfl)) (by decide) (by decide) (own_EW hw) CR32q.1) (g := (mkF m 137 #[.val (.int p1), .val (.int p2), .val (.int p3), .val (.int p4), .val (.int p5), .val (.int p6), .val (.int z2), .val (.int z4), .val (.int z16), .val (.int z17), .val (.int z26), .val (.int z30), .val (.ref s32), .unset, .unset, .unset, .unset, .unset, .unset] [(.int z30), (.int z26), (.int z4)])) rfl (by rw [hml]; rfl) (argsL := [(.int z4), (.int z26), (.int z30)]) (rest := []) (lenOf pd_23 rfl) rfl (by show 2 * 0 + _ ≤ _; exact Nat.le_of_eq rfl) (hb hby at_137) (fun _ _ => ⟨rfl, rfl, (by decide : 6 + 6 ≤ _), (by decide : 12 + 12 ≤ _)⟩)
  dsimp only [Pt.U, Pt.locs, Pt.cells, Pt.slots] at X41 l41 y41 z41 st41 hQ41 hSq41 gq41 CRq41
  subst l41 y41 z41
  obtain ⟨X41, hSn, hZ, hown⟩ := rebS hSn kS32 X41 hSq41 gq41 hZ hown
  have kS41 := Nat.le_refl T41.heap.size
  have CR41q := CR32q.trans CRq41
  obtain ⟨s41, rfl, Nq41, Kq41, Sq41⟩ := hQ41
  have N41n := Fr.app N32n Nq41
  have F42 := own_sta_keep0 F33 Kq41
  have F43 := own_sta_keep0 F34 Kq41
  have F44 := own_sta_keep0 F35 Kq41
  have F45 := own_sta_keep0 F36 Kq41
  have F46 := own_sta_keep0 F37 Kq41
  have F47 := Sq32.keep0 Kq41
  have Z48 := Nat.le_trans Z38 Kq41.1
  have P49 : own_Pr p.tables e below S0 T41 (mkF m 140 #[.val (.int p1), .val (.int p2), .val (.int p3), .val (.int p4), .val (.int p5), .val (.int p6), .val (.int z2), .val (.int z4), .val (.int z16), .val (.int z17), .val (.int z26), .val (.int z30), .val (.ref s32), .unset, .unset, .unset, .unset, .unset, .unset] [(.ref s41)]) := fun t k => P40 t (st41.trans k)
  have P50 : own_Pr p.tables e below S0 T41 (mkF m 146 #[.val (.int p1), .val (.int p2), .val (.int p3), .val (.int p4), .val (.int p5), .val (.int p6), .val (.int z2), .val (.int z4), .val (.int z16), .val (.int z17), .val (.int z26), .val (.int z30), .val (.ref s32), .val (.ref s41), .unset, .unset, .unset, .unset, .unset] [(.ref s41), (.ref s32)]) := fun t k => P49 t (by
    refine XS.astore X41.here hx rfl (hb hby at_140) rfl rfl (l' := #[.val (.int p1), .val (.int p2), .val (.int p3), .val (.int p4), .val (.int p5), .val (.int p6), .val (.int z2), .val (.int z4), .val (.int z16), .val (.int z17), .val (.int z26), .val (.int z30), .val (.ref s32), .val (.ref s41), .unset, .unset, .unset, .unset, .unset]) rfl ?_
    show Steps p.tables e below (T41.setTop (mkF m 142 #[.val (.int p1), .val (.int p2), .val (.int p3), .val (.int p4), .val (.int p5), .val (.int p6), .val (.int z2), .val (.int z4), .val (.int z16), .val (.int z17), .val (.int z26), .val (.int z30), .val (.ref s32), .val (.ref s41), .unset, .unset, .unset, .unset, .unset] [])) _
    refine XS.aload X41.here hx rfl (hb hby at_142) rfl rfl ?_
    show Steps p.tables e below (T41.setTop (mkF m 144 #[.val (.int p1), .val (.int p2), .val (.int p3), .val (.int p4), .val (.int p5), .val (.int p6), .val (.int z2), .val (.int z4), .val (.int z16), .val (.int z17), .val (.int z26), .val (.int z30), .val (.ref s32), .val (.ref s41), .unset, .unset, .unset, .unset, .unset] [(.ref s32)])) _
    refine XS.aload X41.here hx rfl (hb hby at_144) rfl rfl ?_
    show Steps p.tables e below (T41.setTop (mkF m 146 #[.val (.int p1), .val (.int p2), .val (.int p3), .val (.int p4), .val (.int p5), .val (.int p6), .val (.int z2), .val (.int z4), .val (.int z16), .val (.int z17), .val (.int z26), .val (.int z30), .val (.ref s32), .val (.ref s41), .unset, .unset, .unset, .unset, .unset] [(.ref s41), (.ref s32)])) _
    exact k)
  obtain ⟨_, _, ⟨T51, L51, k51, n51⟩, -, X51, ⟨Lc51, hQ51, l51, y51, z51⟩, st51⟩ := Jvm.LawKit.callS X41 hx (y := (⟨"com/example/mathir_tools/mathirtools/formats/text/Utf8Order", "compare", "(Ljava/lang/String;Ljava/lang/String;)I"⟩ : MethodName)) hown (mvT hZ (hw _ (List.mem_of_getElem? (i := 26) rfl))) (mvT hZ (hw _ (List.mem_of_getElem? (i := 27) rfl))) (mvT hZ (hw _ (List.mem_of_getElem? (i := 28) rfl))) (mvT hZ (hw _ (List.mem_of_getElem? (i := 29) rfl))) (by decide) (backOf (W := 0) (rm5 l Z a0 hw [] s32 s41 z2 z16 z17 z4 z26 z30 cs fm T41.heap n0 Z48 F47 Sq41 F42 hcs F43 hr_fm F44 F45 F46 hc_z16 hc_z17 hc_z26 hc_z30 hp_z2 hp_z4) hZ (hw _ (List.mem_of_getElem? (i := 29) rfl)) (hw _ (List.mem_of_getElem? (i := 28) rfl)) (by decide) (by decide)) (g := (mkF m 146 #[.val (.int p1), .val (.int p2), .val (.int p3), .val (.int p4), .val (.int p5), .val (.int p6), .val (.int z2), .val (.int z4), .val (.int z16), .val (.int z17), .val (.int z26), .val (.int z30), .val (.ref s32), .val (.ref s41), .unset, .unset, .unset, .unset, .unset] [(.ref s41), (.ref s32)])) rfl (by rw [hml]; rfl) (argsL := [(.ref s32), (.ref s41)]) (rest := []) (lenOf pd_24 rfl) rfl (by show 2 * 0 + _ ≤ _; exact Nat.le_of_eq rfl) (hb hby at_146) (fun _ _ => ⟨rfl, rfl, (by decide : 12 + 0 ≤ _), (by decide : 24 + 0 ≤ _)⟩)
  dsimp only [Pt.U, Pt.locs, Pt.cells, Pt.slots] at X51 l51 y51 z51 st51 hQ51
  subst l51 y51 z51
  obtain ⟨z51v, rfl, hz51v, Nq51, eq51⟩ := hQ51
  have N51n := Fr.app N41n Nq51
  have P52 : own_Pr p.tables e below S0 T51 (mkF m 149 #[.val (.int p1), .val (.int p2), .val (.int p3), .val (.int p4), .val (.int p5), .val (.int p6), .val (.int z2), .val (.int z4), .val (.int z16), .val (.int z17), .val (.int z26), .val (.int z30), .val (.ref s32), .val (.ref s41), .unset, .unset, .unset, .unset, .unset] [(.int z51v)]) := fun t k => P50 t (st51 _ k)
  obtain ⟨_, _, ⟨T53, L53, k53, n53⟩, -, X53, ⟨Lc53, hQ53, l53, y53, z53⟩, st53⟩ := Jvm.LawKit.callS X51 hx (y := (⟨"com/example/mathir_tools/mathirtools/formats/text/Utf8OrderComparePinLaw", "sign", "(I)I"⟩ : MethodName)) hown (mvT hZ (hw _ (List.mem_of_getElem? (i := 45) rfl))) (mvT hZ (hw _ (List.mem_of_getElem? (i := 46) rfl))) (mvT hZ (hw _ (List.mem_of_getElem? (i := 2) rfl))) (mvT hZ (hw _ (List.mem_of_getElem? (i := 47) rfl))) (by decide) (backOf (W := 0) (rm9 l Z a0 hw [] z51v  T41.heap n0 Z48 ) hZ (hw _ (List.mem_of_getElem? (i := 47) rfl)) (hw _ (List.mem_of_getElem? (i := 2) rfl)) (by decide) (by decide)) (g := (mkF m 149 #[.val (.int p1), .val (.int p2), .val (.int p3), .val (.int p4), .val (.int p5), .val (.int p6), .val (.int z2), .val (.int z4), .val (.int z16), .val (.int z17), .val (.int z26), .val (.int z30), .val (.ref s32), .val (.ref s41), .unset, .unset, .unset, .unset, .unset] [(.int z51v)])) rfl (by rw [hml]; rfl) (argsL := [(.int z51v)]) (rest := []) (lenOf pd_2 rfl) rfl (by show 2 * 0 + _ ≤ _; exact Nat.le_of_eq rfl) (hb hby at_149) (fun _ _ => ⟨rfl, eq51, (by decide : 12 + 0 ≤ _), (by decide : 24 + 0 ≤ _)⟩)
  dsimp only [Pt.U, Pt.locs, Pt.cells, Pt.slots] at X53 l53 y53 z53 st53 hQ53
  subst l53 y53 z53
  obtain ⟨z53v, rfl, hz53v, Nq53, eq53⟩ := hQ53
  have N53n := Fr.app N51n Nq53
  have P54 : own_Pr p.tables e below S0 T53 (mkF m 152 #[.val (.int p1), .val (.int p2), .val (.int p3), .val (.int p4), .val (.int p5), .val (.int p6), .val (.int z2), .val (.int z4), .val (.int z16), .val (.int z17), .val (.int z26), .val (.int z30), .val (.ref s32), .val (.ref s41), .unset, .unset, .unset, .unset, .unset] [(.int z53v)]) := fun t k => P52 t (st53 _ k)
  have P55 : own_Pr p.tables e below S0 T53 (mkF m 160 #[.val (.int p1), .val (.int p2), .val (.int p3), .val (.int p4), .val (.int p5), .val (.int p6), .val (.int z2), .val (.int z4), .val (.int z16), .val (.int z17), .val (.int z26), .val (.int z30), .val (.ref s32), .val (.ref s41), .val (.int z53v), .unset, .unset, .unset, .unset] [(.int z17), (.int z16), (.int z2)]) := fun t k => P54 t (by
    refine XS.istore X53.here hx rfl (hb hby at_152) rfl (l' := #[.val (.int p1), .val (.int p2), .val (.int p3), .val (.int p4), .val (.int p5), .val (.int p6), .val (.int z2), .val (.int z4), .val (.int z16), .val (.int z17), .val (.int z26), .val (.int z30), .val (.ref s32), .val (.ref s41), .val (.int z53v), .unset, .unset, .unset, .unset]) rfl ?_
    show Steps p.tables e below (T53.setTop (mkF m 154 #[.val (.int p1), .val (.int p2), .val (.int p3), .val (.int p4), .val (.int p5), .val (.int p6), .val (.int z2), .val (.int z4), .val (.int z16), .val (.int z17), .val (.int z26), .val (.int z30), .val (.ref s32), .val (.ref s41), .val (.int z53v), .unset, .unset, .unset, .unset] [])) _
    refine XS.iload X53.here hx rfl (hb hby at_154) rfl ?_
    show Steps p.tables e below (T53.setTop (mkF m 156 #[.val (.int p1), .val (.int p2), .val (.int p3), .val (.int p4), .val (.int p5), .val (.int p6), .val (.int z2), .val (.int z4), .val (.int z16), .val (.int z17), .val (.int z26), .val (.int z30), .val (.ref s32), .val (.ref s41), .val (.int z53v), .unset, .unset, .unset, .unset] [(.int z2)])) _
    refine XS.iload X53.here hx rfl (hb hby at_156) rfl ?_
    show Steps p.tables e below (T53.setTop (mkF m 158 #[.val (.int p1), .val (.int p2), .val (.int p3), .val (.int p4), .val (.int p5), .val (.int p6), .val (.int z2), .val (.int z4), .val (.int z16), .val (.int z17), .val (.int z26), .val (.int z30), .val (.ref s32), .val (.ref s41), .val (.int z53v), .unset, .unset, .unset, .unset] [(.int z16), (.int z2)])) _
    refine XS.iload X53.here hx rfl (hb hby at_158) rfl ?_
    show Steps p.tables e below (T53.setTop (mkF m 160 #[.val (.int p1), .val (.int p2), .val (.int p3), .val (.int p4), .val (.int p5), .val (.int p6), .val (.int z2), .val (.int z4), .val (.int z16), .val (.int z17), .val (.int z26), .val (.int z30), .val (.ref s32), .val (.ref s41), .val (.int z53v), .unset, .unset, .unset, .unset] [(.int z17), (.int z16), (.int z2)])) _
    exact k)
  obtain ⟨_, _, ⟨T56, L56, k56, n56⟩, -, X56, ⟨Lc56, hQ56, l56, y56, z56⟩, st56⟩ := Jvm.LawKit.callS X53 hx (y := (⟨"com/example/mathir_tools/mathirtools/formats/text/Utf8OrderComparePinLaw", "count", "(ICC)I"⟩ : MethodName)) hown (mvT hZ (hw _ (List.mem_of_getElem? (i := 48) rfl))) (mvT hZ (hw _ (List.mem_of_getElem? (i := 49) rfl))) (mvT hZ (hw _ (List.mem_of_getElem? (i := 2) rfl))) (mvT hZ (hw _ (List.mem_of_getElem? (i := 50) rfl))) (by decide) (backOf (W := 0) (rm10 l Z a0 hw [] z2 z16 z17  T41.heap n0 Z48 ) hZ (hw _ (List.mem_of_getElem? (i := 50) rfl)) (hw _ (List.mem_of_getElem? (i := 2) rfl)) (by decide) (by decide)) (g := (mkF m 160 #[.val (.int p1), .val (.int p2), .val (.int p3), .val (.int p4), .val (.int p5), .val (.int p6), .val (.int z2), .val (.int z4), .val (.int z16), .val (.int z17), .val (.int z26), .val (.int z30), .val (.ref s32), .val (.ref s41), .val (.int z53v), .unset, .unset, .unset, .unset] [(.int z17), (.int z16), (.int z2)])) rfl (by rw [hml]; rfl) (argsL := [(.int z2), (.int z16), (.int z17)]) (rest := []) (lenOf pd_25 rfl) rfl (by show 2 * 0 + _ ≤ _; exact Nat.le_of_eq rfl) (hb hby at_160) (fun _ _ => ⟨rfl, eq53, (by decide : 12 + 0 ≤ _), (by decide : 24 + 0 ≤ _)⟩)
  dsimp only [Pt.U, Pt.locs, Pt.cells, Pt.slots] at X56 l56 y56 z56 st56 hQ56
  subst l56 y56 z56
  obtain ⟨z56v, rfl, hz56v, Nq56, eq56⟩ := hQ56
  have N56n := Fr.app N53n Nq56
  have P57 : own_Pr p.tables e below S0 T56 (mkF m 163 #[.val (.int p1), .val (.int p2), .val (.int p3), .val (.int p4), .val (.int p5), .val (.int p6), .val (.int z2), .val (.int z4), .val (.int z16), .val (.int z17), .val (.int z26), .val (.int z30), .val (.ref s32), .val (.ref s41), .val (.int z53v), .unset, .unset, .unset, .unset] [(.int z56v)]) := fun t k => P55 t (st56 _ k)
  have P58 : own_Pr p.tables e below S0 T56 (mkF m 171 #[.val (.int p1), .val (.int p2), .val (.int p3), .val (.int p4), .val (.int p5), .val (.int p6), .val (.int z2), .val (.int z4), .val (.int z16), .val (.int z17), .val (.int z26), .val (.int z30), .val (.ref s32), .val (.ref s41), .val (.int z53v), .val (.int z56v), .unset, .unset, .unset] [(.int z30), (.int z26), (.int z4)]) := fun t k => P57 t (by
    refine XS.istore X56.here hx rfl (hb hby at_163) rfl (l' := #[.val (.int p1), .val (.int p2), .val (.int p3), .val (.int p4), .val (.int p5), .val (.int p6), .val (.int z2), .val (.int z4), .val (.int z16), .val (.int z17), .val (.int z26), .val (.int z30), .val (.ref s32), .val (.ref s41), .val (.int z53v), .val (.int z56v), .unset, .unset, .unset]) rfl ?_
    show Steps p.tables e below (T56.setTop (mkF m 165 #[.val (.int p1), .val (.int p2), .val (.int p3), .val (.int p4), .val (.int p5), .val (.int p6), .val (.int z2), .val (.int z4), .val (.int z16), .val (.int z17), .val (.int z26), .val (.int z30), .val (.ref s32), .val (.ref s41), .val (.int z53v), .val (.int z56v), .unset, .unset, .unset] [])) _
    refine XS.iload X56.here hx rfl (hb hby at_165) rfl ?_
    show Steps p.tables e below (T56.setTop (mkF m 167 #[.val (.int p1), .val (.int p2), .val (.int p3), .val (.int p4), .val (.int p5), .val (.int p6), .val (.int z2), .val (.int z4), .val (.int z16), .val (.int z17), .val (.int z26), .val (.int z30), .val (.ref s32), .val (.ref s41), .val (.int z53v), .val (.int z56v), .unset, .unset, .unset] [(.int z4)])) _
    refine XS.iload X56.here hx rfl (hb hby at_167) rfl ?_
    show Steps p.tables e below (T56.setTop (mkF m 169 #[.val (.int p1), .val (.int p2), .val (.int p3), .val (.int p4), .val (.int p5), .val (.int p6), .val (.int z2), .val (.int z4), .val (.int z16), .val (.int z17), .val (.int z26), .val (.int z30), .val (.ref s32), .val (.ref s41), .val (.int z53v), .val (.int z56v), .unset, .unset, .unset] [(.int z26), (.int z4)])) _
    refine XS.iload X56.here hx rfl (hb hby at_169) rfl ?_
    show Steps p.tables e below (T56.setTop (mkF m 171 #[.val (.int p1), .val (.int p2), .val (.int p3), .val (.int p4), .val (.int p5), .val (.int p6), .val (.int z2), .val (.int z4), .val (.int z16), .val (.int z17), .val (.int z26), .val (.int z30), .val (.ref s32), .val (.ref s41), .val (.int z53v), .val (.int z56v), .unset, .unset, .unset] [(.int z30), (.int z26), (.int z4)])) _
    exact k)
  obtain ⟨_, _, ⟨T59, L59, k59, n59⟩, -, X59, ⟨Lc59, hQ59, l59, y59, z59⟩, st59⟩ := Jvm.LawKit.callS X56 hx (y := (⟨"com/example/mathir_tools/mathirtools/formats/text/Utf8OrderComparePinLaw", "count", "(ICC)I"⟩ : MethodName)) hown (mvT hZ (hw _ (List.mem_of_getElem? (i := 48) rfl))) (mvT hZ (hw _ (List.mem_of_getElem? (i := 49) rfl))) (mvT hZ (hw _ (List.mem_of_getElem? (i := 2) rfl))) (mvT hZ (hw _ (List.mem_of_getElem? (i := 50) rfl))) (by decide) (backOf (W := 0) (rm10 l Z a0 hw [] z4 z26 z30  T41.heap n0 Z48 ) hZ (hw _ (List.mem_of_getElem? (i := 50) rfl)) (hw _ (List.mem_of_getElem? (i := 2) rfl)) (by decide) (by decide)) (g := (mkF m 171 #[.val (.int p1), .val (.int p2), .val (.int p3), .val (.int p4), .val (.int p5), .val (.int p6), .val (.int z2), .val (.int z4), .val (.int z16), .val (.int z17), .val (.int z26), .val (.int z30), .val (.ref s32), .val (.ref s41), .val (.int z53v), .val (.int z56v), .unset, .unset, .unset] [(.int z30), (.int z26), (.int z4)])) rfl (by rw [hml]; rfl) (argsL := [(.int z4), (.int z26), (.int z30)]) (rest := []) (lenOf pd_25 rfl) rfl (by show 2 * 0 + _ ≤ _; exact Nat.le_of_eq rfl) (hb hby at_171) (fun _ _ => ⟨rfl, eq56, (by decide : 12 + 0 ≤ _), (by decide : 24 + 0 ≤ _)⟩)
  dsimp only [Pt.U, Pt.locs, Pt.cells, Pt.slots] at X59 l59 y59 z59 st59 hQ59
  subst l59 y59 z59
  obtain ⟨z59v, rfl, hz59v, Nq59, eq59⟩ := hQ59
  have N59n := Fr.app N56n Nq59
  have P60 : own_Pr p.tables e below S0 T59 (mkF m 174 #[.val (.int p1), .val (.int p2), .val (.int p3), .val (.int p4), .val (.int p5), .val (.int p6), .val (.int z2), .val (.int z4), .val (.int z16), .val (.int z17), .val (.int z26), .val (.int z30), .val (.ref s32), .val (.ref s41), .val (.int z53v), .val (.int z56v), .unset, .unset, .unset] [(.int z59v)]) := fun t k => P58 t (st59 _ k)
  have P61 : own_Pr p.tables e below S0 T59 (mkF m 182 #[.val (.int p1), .val (.int p2), .val (.int p3), .val (.int p4), .val (.int p5), .val (.int p6), .val (.int z2), .val (.int z4), .val (.int z16), .val (.int z17), .val (.int z26), .val (.int z30), .val (.ref s32), .val (.ref s41), .val (.int z53v), .val (.int z56v), .val (.int z59v), .unset, .unset] [(.int z17), (.int z16), (.int z2)]) := fun t k => P60 t (by
    refine XS.istore X59.here hx rfl (hb hby at_174) rfl (l' := #[.val (.int p1), .val (.int p2), .val (.int p3), .val (.int p4), .val (.int p5), .val (.int p6), .val (.int z2), .val (.int z4), .val (.int z16), .val (.int z17), .val (.int z26), .val (.int z30), .val (.ref s32), .val (.ref s41), .val (.int z53v), .val (.int z56v), .val (.int z59v), .unset, .unset]) rfl ?_
    show Steps p.tables e below (T59.setTop (mkF m 176 #[.val (.int p1), .val (.int p2), .val (.int p3), .val (.int p4), .val (.int p5), .val (.int p6), .val (.int z2), .val (.int z4), .val (.int z16), .val (.int z17), .val (.int z26), .val (.int z30), .val (.ref s32), .val (.ref s41), .val (.int z53v), .val (.int z56v), .val (.int z59v), .unset, .unset] [])) _
    refine XS.iload X59.here hx rfl (hb hby at_176) rfl ?_
    show Steps p.tables e below (T59.setTop (mkF m 178 #[.val (.int p1), .val (.int p2), .val (.int p3), .val (.int p4), .val (.int p5), .val (.int p6), .val (.int z2), .val (.int z4), .val (.int z16), .val (.int z17), .val (.int z26), .val (.int z30), .val (.ref s32), .val (.ref s41), .val (.int z53v), .val (.int z56v), .val (.int z59v), .unset, .unset] [(.int z2)])) _
    refine XS.iload X59.here hx rfl (hb hby at_178) rfl ?_
    show Steps p.tables e below (T59.setTop (mkF m 180 #[.val (.int p1), .val (.int p2), .val (.int p3), .val (.int p4), .val (.int p5), .val (.int p6), .val (.int z2), .val (.int z4), .val (.int z16), .val (.int z17), .val (.int z26), .val (.int z30), .val (.ref s32), .val (.ref s41), .val (.int z53v), .val (.int z56v), .val (.int z59v), .unset, .unset] [(.int z16), (.int z2)])) _
    refine XS.iload X59.here hx rfl (hb hby at_180) rfl ?_
    show Steps p.tables e below (T59.setTop (mkF m 182 #[.val (.int p1), .val (.int p2), .val (.int p3), .val (.int p4), .val (.int p5), .val (.int p6), .val (.int z2), .val (.int z4), .val (.int z16), .val (.int z17), .val (.int z26), .val (.int z30), .val (.ref s32), .val (.ref s41), .val (.int z53v), .val (.int z56v), .val (.int z59v), .unset, .unset] [(.int z17), (.int z16), (.int z2)])) _
    exact k)
  obtain ⟨_, _, ⟨T62, L62, k62, n62⟩, -, X62, ⟨Lc62, hQ62, l62, y62, z62⟩, st62⟩ := Jvm.LawKit.callS X59 hx (y := (⟨"com/example/mathir_tools/mathirtools/formats/text/Utf8OrderComparePinLaw", "first", "(ICC)I"⟩ : MethodName)) hown (mvT hZ (hw _ (List.mem_of_getElem? (i := 54) rfl))) (mvT hZ (hw _ (List.mem_of_getElem? (i := 55) rfl))) (mvT hZ (hw _ (List.mem_of_getElem? (i := 2) rfl))) (mvT hZ (hw _ (List.mem_of_getElem? (i := 56) rfl))) (by decide) (backOf (W := 0) (rm12 l Z a0 hw [] z2 z16 z17  T41.heap n0 Z48 ) hZ (hw _ (List.mem_of_getElem? (i := 56) rfl)) (hw _ (List.mem_of_getElem? (i := 2) rfl)) (by decide) (by decide)) (g := (mkF m 182 #[.val (.int p1), .val (.int p2), .val (.int p3), .val (.int p4), .val (.int p5), .val (.int p6), .val (.int z2), .val (.int z4), .val (.int z16), .val (.int z17), .val (.int z26), .val (.int z30), .val (.ref s32), .val (.ref s41), .val (.int z53v), .val (.int z56v), .val (.int z59v), .unset, .unset] [(.int z17), (.int z16), (.int z2)])) rfl (by rw [hml]; rfl) (argsL := [(.int z2), (.int z16), (.int z17)]) (rest := []) (lenOf pd_25 rfl) rfl (by show 2 * 0 + _ ≤ _; exact Nat.le_of_eq rfl) (hb hby at_182) (fun _ _ => ⟨rfl, eq59, (by decide : 12 + 0 ≤ _), (by decide : 24 + 0 ≤ _)⟩)
  dsimp only [Pt.U, Pt.locs, Pt.cells, Pt.slots] at X62 l62 y62 z62 st62 hQ62
  subst l62 y62 z62
  obtain ⟨z62v, rfl, hz62v, Nq62, eq62⟩ := hQ62
  have N62n := Fr.app N59n Nq62
  have P63 : own_Pr p.tables e below S0 T62 (mkF m 185 #[.val (.int p1), .val (.int p2), .val (.int p3), .val (.int p4), .val (.int p5), .val (.int p6), .val (.int z2), .val (.int z4), .val (.int z16), .val (.int z17), .val (.int z26), .val (.int z30), .val (.ref s32), .val (.ref s41), .val (.int z53v), .val (.int z56v), .val (.int z59v), .unset, .unset] [(.int z62v)]) := fun t k => P61 t (st62 _ k)
  have P64 : own_Pr p.tables e below S0 T62 (mkF m 193 #[.val (.int p1), .val (.int p2), .val (.int p3), .val (.int p4), .val (.int p5), .val (.int p6), .val (.int z2), .val (.int z4), .val (.int z16), .val (.int z17), .val (.int z26), .val (.int z30), .val (.ref s32), .val (.ref s41), .val (.int z53v), .val (.int z56v), .val (.int z59v), .val (.int z62v), .unset] [(.int z30), (.int z26), (.int z4)]) := fun t k => P63 t (by
    refine XS.istore X62.here hx rfl (hb hby at_185) rfl (l' := #[.val (.int p1), .val (.int p2), .val (.int p3), .val (.int p4), .val (.int p5), .val (.int p6), .val (.int z2), .val (.int z4), .val (.int z16), .val (.int z17), .val (.int z26), .val (.int z30), .val (.ref s32), .val (.ref s41), .val (.int z53v), .val (.int z56v), .val (.int z59v), .val (.int z62v), .unset]) rfl ?_
    show Steps p.tables e below (T62.setTop (mkF m 187 #[.val (.int p1), .val (.int p2), .val (.int p3), .val (.int p4), .val (.int p5), .val (.int p6), .val (.int z2), .val (.int z4), .val (.int z16), .val (.int z17), .val (.int z26), .val (.int z30), .val (.ref s32), .val (.ref s41), .val (.int z53v), .val (.int z56v), .val (.int z59v), .val (.int z62v), .unset] [])) _
    refine XS.iload X62.here hx rfl (hb hby at_187) rfl ?_
    show Steps p.tables e below (T62.setTop (mkF m 189 #[.val (.int p1), .val (.int p2), .val (.int p3), .val (.int p4), .val (.int p5), .val (.int p6), .val (.int z2), .val (.int z4), .val (.int z16), .val (.int z17), .val (.int z26), .val (.int z30), .val (.ref s32), .val (.ref s41), .val (.int z53v), .val (.int z56v), .val (.int z59v), .val (.int z62v), .unset] [(.int z4)])) _
    refine XS.iload X62.here hx rfl (hb hby at_189) rfl ?_
    show Steps p.tables e below (T62.setTop (mkF m 191 #[.val (.int p1), .val (.int p2), .val (.int p3), .val (.int p4), .val (.int p5), .val (.int p6), .val (.int z2), .val (.int z4), .val (.int z16), .val (.int z17), .val (.int z26), .val (.int z30), .val (.ref s32), .val (.ref s41), .val (.int z53v), .val (.int z56v), .val (.int z59v), .val (.int z62v), .unset] [(.int z26), (.int z4)])) _
    refine XS.iload X62.here hx rfl (hb hby at_191) rfl ?_
    show Steps p.tables e below (T62.setTop (mkF m 193 #[.val (.int p1), .val (.int p2), .val (.int p3), .val (.int p4), .val (.int p5), .val (.int p6), .val (.int z2), .val (.int z4), .val (.int z16), .val (.int z17), .val (.int z26), .val (.int z30), .val (.ref s32), .val (.ref s41), .val (.int z53v), .val (.int z56v), .val (.int z59v), .val (.int z62v), .unset] [(.int z30), (.int z26), (.int z4)])) _
    exact k)
  obtain ⟨_, _, ⟨T65, L65, k65, n65⟩, -, X65, ⟨Lc65, hQ65, l65, y65, z65⟩, st65⟩ := Jvm.LawKit.callS X62 hx (y := (⟨"com/example/mathir_tools/mathirtools/formats/text/Utf8OrderComparePinLaw", "first", "(ICC)I"⟩ : MethodName)) hown (mvT hZ (hw _ (List.mem_of_getElem? (i := 54) rfl))) (mvT hZ (hw _ (List.mem_of_getElem? (i := 55) rfl))) (mvT hZ (hw _ (List.mem_of_getElem? (i := 2) rfl))) (mvT hZ (hw _ (List.mem_of_getElem? (i := 56) rfl))) (by decide) (backOf (W := 0) (rm12 l Z a0 hw [] z4 z26 z30  T41.heap n0 Z48 ) hZ (hw _ (List.mem_of_getElem? (i := 56) rfl)) (hw _ (List.mem_of_getElem? (i := 2) rfl)) (by decide) (by decide)) (g := (mkF m 193 #[.val (.int p1), .val (.int p2), .val (.int p3), .val (.int p4), .val (.int p5), .val (.int p6), .val (.int z2), .val (.int z4), .val (.int z16), .val (.int z17), .val (.int z26), .val (.int z30), .val (.ref s32), .val (.ref s41), .val (.int z53v), .val (.int z56v), .val (.int z59v), .val (.int z62v), .unset] [(.int z30), (.int z26), (.int z4)])) rfl (by rw [hml]; rfl) (argsL := [(.int z4), (.int z26), (.int z30)]) (rest := []) (lenOf pd_25 rfl) rfl (by show 2 * 0 + _ ≤ _; exact Nat.le_of_eq rfl) (hb hby at_193) (fun _ _ => ⟨rfl, eq62, (by decide : 12 + 0 ≤ _), (by decide : 24 + 0 ≤ _)⟩)
  dsimp only [Pt.U, Pt.locs, Pt.cells, Pt.slots] at X65 l65 y65 z65 st65 hQ65
  subst l65 y65 z65
  obtain ⟨z65v, rfl, hz65v, Nq65, eq65⟩ := hQ65
  have N65n := Fr.app N62n Nq65
  have P66 : own_Pr p.tables e below S0 T65 (mkF m 196 #[.val (.int p1), .val (.int p2), .val (.int p3), .val (.int p4), .val (.int p5), .val (.int p6), .val (.int z2), .val (.int z4), .val (.int z16), .val (.int z17), .val (.int z26), .val (.int z30), .val (.ref s32), .val (.ref s41), .val (.int z53v), .val (.int z56v), .val (.int z59v), .val (.int z62v), .unset] [(.int z65v)]) := fun t k => P64 t (st65 _ k)
  have P67 : own_Pr p.tables e below S0 T65 (mkF m 212 #[.val (.int p1), .val (.int p2), .val (.int p3), .val (.int p4), .val (.int p5), .val (.int p6), .val (.int z2), .val (.int z4), .val (.int z16), .val (.int z17), .val (.int z26), .val (.int z30), .val (.ref s32), .val (.ref s41), .val (.int z53v), .val (.int z56v), .val (.int z59v), .val (.int z62v), .val (.int z65v)] [(.int z30), (.int z65v), (.int z59v), (.int z17), (.int z62v), (.int z56v), (.int z53v)]) := fun t k => P66 t (by
    refine XS.istore X65.here hx rfl (hb hby at_196) rfl (l' := #[.val (.int p1), .val (.int p2), .val (.int p3), .val (.int p4), .val (.int p5), .val (.int p6), .val (.int z2), .val (.int z4), .val (.int z16), .val (.int z17), .val (.int z26), .val (.int z30), .val (.ref s32), .val (.ref s41), .val (.int z53v), .val (.int z56v), .val (.int z59v), .val (.int z62v), .val (.int z65v)]) rfl ?_
    show Steps p.tables e below (T65.setTop (mkF m 198 #[.val (.int p1), .val (.int p2), .val (.int p3), .val (.int p4), .val (.int p5), .val (.int p6), .val (.int z2), .val (.int z4), .val (.int z16), .val (.int z17), .val (.int z26), .val (.int z30), .val (.ref s32), .val (.ref s41), .val (.int z53v), .val (.int z56v), .val (.int z59v), .val (.int z62v), .val (.int z65v)] [])) _
    refine XS.iload X65.here hx rfl (hb hby at_198) rfl ?_
    show Steps p.tables e below (T65.setTop (mkF m 200 #[.val (.int p1), .val (.int p2), .val (.int p3), .val (.int p4), .val (.int p5), .val (.int p6), .val (.int z2), .val (.int z4), .val (.int z16), .val (.int z17), .val (.int z26), .val (.int z30), .val (.ref s32), .val (.ref s41), .val (.int z53v), .val (.int z56v), .val (.int z59v), .val (.int z62v), .val (.int z65v)] [(.int z53v)])) _
    refine XS.iload X65.here hx rfl (hb hby at_200) rfl ?_
    show Steps p.tables e below (T65.setTop (mkF m 202 #[.val (.int p1), .val (.int p2), .val (.int p3), .val (.int p4), .val (.int p5), .val (.int p6), .val (.int z2), .val (.int z4), .val (.int z16), .val (.int z17), .val (.int z26), .val (.int z30), .val (.ref s32), .val (.ref s41), .val (.int z53v), .val (.int z56v), .val (.int z59v), .val (.int z62v), .val (.int z65v)] [(.int z56v), (.int z53v)])) _
    refine XS.iload X65.here hx rfl (hb hby at_202) rfl ?_
    show Steps p.tables e below (T65.setTop (mkF m 204 #[.val (.int p1), .val (.int p2), .val (.int p3), .val (.int p4), .val (.int p5), .val (.int p6), .val (.int z2), .val (.int z4), .val (.int z16), .val (.int z17), .val (.int z26), .val (.int z30), .val (.ref s32), .val (.ref s41), .val (.int z53v), .val (.int z56v), .val (.int z59v), .val (.int z62v), .val (.int z65v)] [(.int z62v), (.int z56v), (.int z53v)])) _
    refine XS.iload X65.here hx rfl (hb hby at_204) rfl ?_
    show Steps p.tables e below (T65.setTop (mkF m 206 #[.val (.int p1), .val (.int p2), .val (.int p3), .val (.int p4), .val (.int p5), .val (.int p6), .val (.int z2), .val (.int z4), .val (.int z16), .val (.int z17), .val (.int z26), .val (.int z30), .val (.ref s32), .val (.ref s41), .val (.int z53v), .val (.int z56v), .val (.int z59v), .val (.int z62v), .val (.int z65v)] [(.int z17), (.int z62v), (.int z56v), (.int z53v)])) _
    refine XS.iload X65.here hx rfl (hb hby at_206) rfl ?_
    show Steps p.tables e below (T65.setTop (mkF m 208 #[.val (.int p1), .val (.int p2), .val (.int p3), .val (.int p4), .val (.int p5), .val (.int p6), .val (.int z2), .val (.int z4), .val (.int z16), .val (.int z17), .val (.int z26), .val (.int z30), .val (.ref s32), .val (.ref s41), .val (.int z53v), .val (.int z56v), .val (.int z59v), .val (.int z62v), .val (.int z65v)] [(.int z59v), (.int z17), (.int z62v), (.int z56v), (.int z53v)])) _
    refine XS.iload X65.here hx rfl (hb hby at_208) rfl ?_
    show Steps p.tables e below (T65.setTop (mkF m 210 #[.val (.int p1), .val (.int p2), .val (.int p3), .val (.int p4), .val (.int p5), .val (.int p6), .val (.int z2), .val (.int z4), .val (.int z16), .val (.int z17), .val (.int z26), .val (.int z30), .val (.ref s32), .val (.ref s41), .val (.int z53v), .val (.int z56v), .val (.int z59v), .val (.int z62v), .val (.int z65v)] [(.int z65v), (.int z59v), (.int z17), (.int z62v), (.int z56v), (.int z53v)])) _
    refine XS.iload X65.here hx rfl (hb hby at_210) rfl ?_
    show Steps p.tables e below (T65.setTop (mkF m 212 #[.val (.int p1), .val (.int p2), .val (.int p3), .val (.int p4), .val (.int p5), .val (.int p6), .val (.int z2), .val (.int z4), .val (.int z16), .val (.int z17), .val (.int z26), .val (.int z30), .val (.ref s32), .val (.ref s41), .val (.int z53v), .val (.int z56v), .val (.int z59v), .val (.int z62v), .val (.int z65v)] [(.int z30), (.int z65v), (.int z59v), (.int z17), (.int z62v), (.int z56v), (.int z53v)])) _
    exact k)
  obtain ⟨_, _, ⟨T68, L68, k68, n68⟩, -, X68, ⟨Lc68, hQ68, l68, y68, z68⟩, st68⟩ := Jvm.LawKit.callS X65 hx (y := (⟨"com/example/mathir_tools/mathirtools/formats/text/Utf8OrderComparePinLaw", "ref", "(IIIIII)I"⟩ : MethodName)) hown (mvT hZ (hw _ (List.mem_of_getElem? (i := 57) rfl))) (mvT hZ (hw _ (List.mem_of_getElem? (i := 58) rfl))) (mvT hZ (hw _ (List.mem_of_getElem? (i := 2) rfl))) (mvT hZ (hw _ (List.mem_of_getElem? (i := 59) rfl))) (by decide) (backOf (W := 1) (rm13 l Z a0 hw [] z56v z62v z17 z59v z65v z30  T41.heap n0 Z48 ) hZ (hw _ (List.mem_of_getElem? (i := 59) rfl)) (hw _ (List.mem_of_getElem? (i := 2) rfl)) (by decide) (by decide)) (g := (mkF m 212 #[.val (.int p1), .val (.int p2), .val (.int p3), .val (.int p4), .val (.int p5), .val (.int p6), .val (.int z2), .val (.int z4), .val (.int z16), .val (.int z17), .val (.int z26), .val (.int z30), .val (.ref s32), .val (.ref s41), .val (.int z53v), .val (.int z56v), .val (.int z59v), .val (.int z62v), .val (.int z65v)] [(.int z30), (.int z65v), (.int z59v), (.int z17), (.int z62v), (.int z56v), (.int z53v)])) rfl (by rw [hml]; rfl) (argsL := [(.int z56v), (.int z62v), (.int z17), (.int z59v), (.int z65v), (.int z30)]) (rest := [(.int z53v)]) (lenOf pd_26 rfl) rfl (by show 2 * 0 + _ ≤ _; exact Nat.le_of_eq rfl) (hb hby at_212) (fun _ _ => ⟨rfl, eq65, (by decide : 12 + 0 ≤ _), (by decide : 24 + 0 ≤ _)⟩)
  dsimp only [Pt.U, Pt.locs, Pt.cells, Pt.slots] at X68 l68 y68 z68 st68 hQ68
  subst l68 y68 z68
  obtain ⟨z68v, rfl, hz68v, Nq68, eq68⟩ := hQ68
  have N68n := Fr.app N65n Nq68
  have P69 : own_Pr p.tables e below S0 T68 (mkF m 215 #[.val (.int p1), .val (.int p2), .val (.int p3), .val (.int p4), .val (.int p5), .val (.int p6), .val (.int z2), .val (.int z4), .val (.int z16), .val (.int z17), .val (.int z26), .val (.int z30), .val (.ref s32), .val (.ref s41), .val (.int z53v), .val (.int z56v), .val (.int z59v), .val (.int z62v), .val (.int z65v)] [(.int z68v), (.int z53v)]) := fun t k => P67 t (st68 _ k)
  have P70 : own_Pr p.tables e below S0 T68 (mkF m 223 #[.val (.int p1), .val (.int p2), .val (.int p3), .val (.int p4), .val (.int p5), .val (.int p6), .val (.int z2), .val (.int z4), .val (.int z16), .val (.int z17), .val (.int z26), .val (.int z30), .val (.ref s32), .val (.ref s41), .val (.int z53v), .val (.int z56v), .val (.int z59v), .val (.int z62v), .val (.int z65v)] [(.int (1 : Int32))]) := fun t k => P69 t (by
    refine XS.icmpNo X68.here hx rfl (hb hby at_215) rfl (XT.ii_ne_f (own_law hp_z2 hp_z4 hc_z16 hc_z17 hc_z26 hc_z30 hz51v hz53v hz56v hz59v hz62v hz65v hz68v)) ?_
    show Steps p.tables e below (T68.setTop (mkF m 218 #[.val (.int p1), .val (.int p2), .val (.int p3), .val (.int p4), .val (.int p5), .val (.int p6), .val (.int z2), .val (.int z4), .val (.int z16), .val (.int z17), .val (.int z26), .val (.int z30), .val (.ref s32), .val (.ref s41), .val (.int z53v), .val (.int z56v), .val (.int z59v), .val (.int z62v), .val (.int z65v)] [])) _
    refine XS.iconst X68.here hx rfl (hb hby at_218) ?_
    show Steps p.tables e below (T68.setTop (mkF m 219 #[.val (.int p1), .val (.int p2), .val (.int p3), .val (.int p4), .val (.int p5), .val (.int p6), .val (.int z2), .val (.int z4), .val (.int z16), .val (.int z17), .val (.int z26), .val (.int z30), .val (.ref s32), .val (.ref s41), .val (.int z53v), .val (.int z56v), .val (.int z59v), .val (.int z62v), .val (.int z65v)] [(.int (1 : Int32))])) _
    refine XS.goto X68.here hx rfl (pc0 := 219) (pc' := 223) rfl (hb hby at_219) (by decide) (by decide) ?_
    show Steps p.tables e below (T68.setTop (mkF m 223 #[.val (.int p1), .val (.int p2), .val (.int p3), .val (.int p4), .val (.int p5), .val (.int p6), .val (.int z2), .val (.int z4), .val (.int z16), .val (.int z17), .val (.int z26), .val (.int z30), .val (.ref s32), .val (.ref s41), .val (.int z53v), .val (.int z56v), .val (.int z59v), .val (.int z62v), .val (.int z65v)] [(.int (1 : Int32))])) _
    exact k)
  obtain ⟨fs, hr, hrun, hended, hend⟩ := X68.leaveW hSn (by rw [eq68]; exact kS41) (v := some (.int (1 : Int32))) (fun h => by rw [Bd.returns] at h; cases h)
  have fin : Steps p.tables e below S0 (T68.setFrames fs) := P70 _ (retN X68 hx (t := .boolean) Bd.returns (by simp) (hb hby at_223) hr)
  rw [hS0] at fin
  refine ⟨_, _, fin, hrun, hended, _, _, rfl, ?_, (show CHr Z consts_1 s.vm s.heap T68.vm T68.heap by rw [hh, eq68]; exact CR41q.trans (CHv.at X68 hZ (own_EW hw) CR41q.1)), hend.1, hend.2.1, hend.2.2.1, hend.2.2.2.mono (by decide) (by decide)⟩
  show own_QL n0 _ _
  exact ⟨_, rfl, rfl, N68n⟩
set_option maxRecDepth 65536 in
set_option maxHeartbeats 40000000 in
theorem comes_1 {Post : Tables → Env → Array Value → State → Outcome → State → Prop} (hpost : ∀ tb e args s v u, (limb_1_1.after args s (.returned v) u = true ∧ limb_1_2.after args s (.returned v) u = true ∧ True) → ReturnedEndW s (.returned v) u (Jvm.fieldLocs frame_1_writes args s ++ Jvm.arrayLocs frame_1_arrays args s ++ Jvm.staticLocs frame_1_statics s) 32 1152 → Post tb e args s (.returned v) u) :
    ArmFor flags0 classFile x code maxLocals ret World_1 tables_1 room_1 Calls_1 rest_1 Pre_1 Post := by
  intro l hfl _ _ p e ha hc hk s m args below hf hA hF happ hP
  obtain ⟨hcalls, hrest, hpre⟩ := hP
  obtain ⟨-, -, -, hnamed, -, -, -, hat⟩ := (Spec.applies_iff hf).mp happ
  obtain ⟨hg, hn⟩ := and_e (Cond.before_iff.mp (show (Jvm.Cond.and given_1 narrow_1).before args s = true from hpre))
  obtain ⟨gg1, gg2⟩ := and_e hg
  obtain ⟨gg3, gg4⟩ := and_e gg2
  obtain ⟨gg5, gg6⟩ := and_e gg4
  obtain ⟨gg7, gg8⟩ := and_e gg6
  obtain ⟨gg9, gg10⟩ := and_e gg8
  obtain ⟨gg11, gg12⟩ := and_e gg10
  obtain ⟨w0, w1, w2, w3, w4, w5, rfl⟩ : ∃ w0 w1 w2 w3 w4 w5 : Value, args = #[w0, w1, w2, w3, w4, w5] := by
    have hs : args.size = 6 := by simpa [Cond.value, given_1] using gg1
    obtain ⟨L⟩ := args
    match L, hs with
    | [w0, w1, w2, w3, w4, w5], _ => exact ⟨w0, w1, w2, w3, w4, w5, rfl⟩
  have hw := fun d (hd : d ∈ tables_1) => atoms_spec (ws := Jvm.Cond.code x code maxLocals ret :: tables_1) hat d (List.mem_cons_of_mem _ hd)
  have hfit : Fit s := fun {y c} hc i hi => by
    obtain ⟨ha, rfl⟩ := Array.getElem?_eq_some_iff.mp hc
    have q := List.all_eq_true.mp ((Array.all_eq_true_iff_forall_mem.mp hF) _ (Array.getElem_mem ha)) i (List.mem_range.mpr hi)
    simpa [Array.getElem?_eq_getElem hi] using q
  obtain ⟨i0, ei0⟩ := is_v gg3
  obtain rfl : w0 = (.int i0) := Option.some.inj ei0
  obtain ⟨i1, ei1⟩ := is_v gg5
  obtain rfl : w1 = (.int i1) := Option.some.inj ei1
  obtain ⟨i2, ei2⟩ := is_v gg7
  obtain rfl : w2 = (.int i2) := Option.some.inj ei2
  obtain ⟨i3, ei3⟩ := is_v gg9
  obtain rfl : w3 = (.int i3) := Option.some.inj ei3
  obtain ⟨i4, ei4⟩ := is_v gg11
  obtain rfl : w4 = (.int i4) := Option.some.inj ei4
  obtain ⟨i5, ei5⟩ := is_v gg12
  obtain rfl : w5 = (.int i5) := Option.some.inj ei5
  obtain ⟨hsets, hown0⟩ := atoms_of _ (rest_1_c_eq ▸ (show rest_1_c.before _ s = true from hrest))
  obtain ⟨cs, ecs⟩ := is_v (Cond.before_iff.mp (hsets _ (List.mem_of_getElem? (i := 1) rfl)))
  have CS := Sta.start ecs (Or.inl (hsets _ (List.mem_of_getElem? (i := 0) rfl)))
  have hcs : ¬ cs = (0 : Int32) := gotF (Cond.eq_ints ecs (Term.int_eval 0)) (not_v (Cond.before_iff.mp (hsets _ (List.mem_of_getElem? (i := 2) rfl))))
  obtain ⟨fm, efm, hr_fm⟩ := isR_v (Cond.before_iff.mp (hsets _ (List.mem_of_getElem? (i := 8) rfl)))
  have FM := Sta.start efm (Or.inl (hsets _ (List.mem_of_getElem? (i := 7) rfl)))
  have eAD := own_eqk (Cond.before_iff.mp (hsets _ (List.mem_of_getElem? (i := 12) rfl)))
  have AD := Sta.start eAD (Or.inl (hsets _ (List.mem_of_getElem? (i := 11) rfl)))
  have eHB := own_eqk (Cond.before_iff.mp (hsets _ (List.mem_of_getElem? (i := 15) rfl)))
  have HB := Sta.start eHB (Or.inl (hsets _ (List.mem_of_getElem? (i := 14) rfl)))
  have eLB := own_eqk (Cond.before_iff.mp (hsets _ (List.mem_of_getElem? (i := 18) rfl)))
  have LB := Sta.start eLB (Or.inl (hsets _ (List.mem_of_getElem? (i := 17) rfl)))
  have hCH0 := CHv.start (own_EW hw) hcalls.1 (show Jvm.Lit.compactW.before _ s = true from hsets _ (List.mem_of_getElem? (i := 2) rfl)) (hw _ (List.mem_of_getElem? (i := 19) rfl)) (hw _ (List.mem_of_getElem? (i := 5) rfl))
  obtain ⟨n, o, h1, h2, h3, _, L, rfl, ⟨z, rfl, rfl, N⟩, -, hq⟩ := rm0 l s _ hw tables_1 i0 i1 i2 i3 i4 i5 cs fm s.heap s.heap.size (Nat.le_refl _) CS hcs FM hr_fm AD HB LB p e ha hc hk s m _ below hf ((Spec.applies_iff_loose hf).mp happ).1 ⟨rfl, State.Warmed39.refl s, rfl, hCH0⟩ trivial
  refine ⟨n, _, h1, h2, h3, hpost _ _ _ _ _ _ ⟨Cond.after_iff.mpr rfl, Cond.after_iff.mpr (eq_i res_at (Term.int_eval (1)) rfl), trivial⟩ ⟨hq.1, hq.2.1, hq.2.2.1, (hq.2.2.2.sift fun y hy => Or.inr (N y hy)).mono (by decide) (by decide)⟩⟩
theorem main_1_1 : Claimed_1_1 := comes_1 fun _ _ _ _ _ _ h hF => ⟨h.1, hF⟩
theorem main_1_2 : Claimed_1_2 := comes_1 fun _ _ _ _ _ _ h hF => ⟨h.2.1, hF⟩
end Jvm.Pilot.@@N@@
namespace Jvm.Pilot.@@N@@
open Jvm Jvm.ClassFile Sem Op Lib Jvm.Free Jvm.Stand Jvm.Pilot.@@N@@.Jvm.D
/-! MADE BY PROGRAM (witnessworld.py) out of the Statement's table words and the real class files: 23 classes; the members and pool entries that the words name. The judged class is class 1, her method 1. -/
namespace start1
open Jvm.ClassFile
def u (s : String) : CpInfo := .utf8 (stringToUtf16 s)
/-- a pool by its gaps: so many unusable entries, then the entry; so many at the end -/
def gap : Nat → List CpInfo → List CpInfo
  | 0, r => r
  | n + 1, r => .unusable :: gap n r
def poolList (es : List (Nat × CpInfo)) (last : Nat) : List CpInfo := es.foldr (fun e r => gap e.1 (e.2 :: r)) (gap last [])
def pool (es : List (Nat × CpInfo)) (last : Nat) : Array CpInfo := ⟨poolList es last⟩
def fileOf (pool : Array CpInfo) (this : Nat) (attrs : Array Attribute := #[]) (ms : Array MethodInfo := #[]) (fl : Nat := 33) (sup : Nat := 0) (ifs : Array Nat := #[]) (fds : Array FieldInfo := #[]) : ClassFile where
  minorVersion := 0
  majorVersion := 65
  constantPool := pool
  accessFlags := fl
  thisClass := this
  superClass := sup
  interfaces := ifs
  fields := fds
  methods := ms
  attributes := attrs
def plain (name : String) (sup : Option ClassId) : Class where
  name := name
  kind := .ordinary
  loader := none
  accessFlags := 33
  super := sup
  interfaces := #[]
  cf := none
  fields := #[]
  methods := #[]
  instanceTypes := #[]
  staticTypes := #[]
  resolved := #[]
  callSites := []
  init := .initialized
  statics := none
  mirror := none

def pool0 : Array CpInfo := pool [(5, u "<init>"), (0, u "()V"), (1, .class_ 10), (1, u "java/lang/Object")] 113

def k0c0 : Code := { maxStack := 0, maxLocals := 1, code := object_method_1_code, exceptionTable := #[], attributes := #[] }
def k0m0 : Method := { name := "<init>", desc := "()V", sig := { parameters := [], returnType := none }, accessFlags := 1, code := some k0c0 }
/-- java/lang/Object -/
def k0 : Class := { plain "java/lang/Object" none with
  accessFlags := 33
  interfaces := #[]
  cf := some (fileOf pool0 8 #[] #[{ accessFlags := 1, nameIndex := 5, descriptorIndex := 6, attributes := #[] }] 33 0 #[] #[])
  fields := #[]
  methods := #[k0m0]
  instanceTypes := #[]
  staticTypes := #[]
  resolved := Array.replicate 124 none
  statics := none }

def pool1 : Array CpInfo := pool [(2, .class_ 4), (1, u "java/lang/Object"), (0, u "<init>"), (0, u "()V"), (0, .integer 55296), (0, .integer 56320), (0, .methodref 10 11), (0, .class_ 12), (0, .nameAndType 13 14), (0, u "com/example/mathir_tools/mathirtools/formats/text/Utf8OrderComparePinLaw"), (0, u "make"), (0, u "(ICC)Ljava/lang/String;"), (0, .methodref 16 17), (0, .class_ 18), (0, .nameAndType 19 20), (0, u "com/example/mathir_tools/mathirtools/formats/text/Utf8Order"), (0, u "compare"), (0, u "(Ljava/lang/String;Ljava/lang/String;)I"), (0, .methodref 10 22), (0, .nameAndType 23 24), (0, u "sign"), (0, u "(I)I"), (0, .methodref 10 26), (0, .nameAndType 27 28), (0, u "count"), (0, u "(ICC)I"), (0, .methodref 10 30), (0, .nameAndType 31 28), (0, u "first"), (0, .methodref 10 33), (0, .nameAndType 34 35), (0, u "ref"), (0, u "(IIIIII)I"), (0, .class_ 37), (0, u "java/lang/String"), (0, .methodref 36 39), (0, .nameAndType 5 40), (0, u "([C)V"), (0, .methodref 36 42), (0, .nameAndType 43 44), (0, u "valueOf"), (0, u "(C)Ljava/lang/String;"), (0, .integer 56319), (0, .integer 57343), (0, .methodref 10 48), (0, .nameAndType 49 50), (0, u "isPair"), (0, u "(ICC)Z"), (0, .integer 65536), (2, u "law"), (0, u "(IIIIII)Z")] 3

def k1m0 : Method := { name := "<init>", desc := "()V", sig := { parameters := [], returnType := none }, accessFlags := 2, code := none }
def k1c1 : Code := { maxStack := 7, maxLocals := 19, code := code, exceptionTable := #[], attributes := #[] }
def k1m1 : Method := { name := "law", desc := "(IIIIII)Z", sig := { parameters := [.int, .int, .int, .int, .int, .int], returnType := some .boolean }, accessFlags := 9, code := some k1c1 }
def k1c2 : Code := { maxStack := 3, maxLocals := 4, code := method_3_code, exceptionTable := #[], attributes := #[] }
def k1m2 : Method := { name := "make", desc := "(ICC)Ljava/lang/String;", sig := { parameters := [.int, .char, .char], returnType := some (.object "java/lang/String") }, accessFlags := 10, code := some k1c2 }
def k1c3 : Code := { maxStack := 2, maxLocals := 3, code := method_4_code, exceptionTable := #[], attributes := #[] }
def k1m3 : Method := { name := "isPair", desc := "(ICC)Z", sig := { parameters := [.int, .char, .char], returnType := some .boolean }, accessFlags := 10, code := some k1c3 }
def k1c4 : Code := { maxStack := 3, maxLocals := 3, code := method_5_code, exceptionTable := #[], attributes := #[] }
def k1m4 : Method := { name := "count", desc := "(ICC)I", sig := { parameters := [.int, .char, .char], returnType := some .int }, accessFlags := 10, code := some k1c4 }
def k1c5 : Code := { maxStack := 3, maxLocals := 3, code := method_6_code, exceptionTable := #[], attributes := #[] }
def k1m5 : Method := { name := "first", desc := "(ICC)I", sig := { parameters := [.int, .char, .char], returnType := some .int }, accessFlags := 10, code := some k1c5 }
def k1c6 : Code := { maxStack := 2, maxLocals := 6, code := method_7_code, exceptionTable := #[], attributes := #[] }
def k1m6 : Method := { name := "ref", desc := "(IIIIII)I", sig := { parameters := [.int, .int, .int, .int, .int, .int], returnType := some .int }, accessFlags := 10, code := some k1c6 }
def k1c7 : Code := { maxStack := 1, maxLocals := 1, code := method_8_code, exceptionTable := #[], attributes := #[] }
def k1m7 : Method := { name := "sign", desc := "(I)I", sig := { parameters := [.int], returnType := some .int }, accessFlags := 10, code := some k1c7 }
/-- com/example/mathir_tools/mathirtools/formats/text/Utf8OrderComparePinLaw -/
def k1 : Class := { plain "com/example/mathir_tools/mathirtools/formats/text/Utf8OrderComparePinLaw" (some 0) with
  accessFlags := 49
  interfaces := #[]
  cf := some (fileOf pool1 10 #[] #[{ accessFlags := 2, nameIndex := 5, descriptorIndex := 6, attributes := #[] }, { accessFlags := 9, nameIndex := 54, descriptorIndex := 55, attributes := #[] }, { accessFlags := 10, nameIndex := 13, descriptorIndex := 14, attributes := #[] }, { accessFlags := 10, nameIndex := 49, descriptorIndex := 50, attributes := #[] }, { accessFlags := 10, nameIndex := 27, descriptorIndex := 28, attributes := #[] }, { accessFlags := 10, nameIndex := 31, descriptorIndex := 28, attributes := #[] }, { accessFlags := 10, nameIndex := 34, descriptorIndex := 35, attributes := #[] }, { accessFlags := 10, nameIndex := 23, descriptorIndex := 24, attributes := #[] }] 49 2 #[] #[])
  fields := #[]
  methods := #[k1m0, k1m1, k1m2, k1m3, k1m4, k1m5, k1m6, k1m7]
  instanceTypes := #[]
  staticTypes := #[]
  resolved := Array.replicate 59 none
  statics := none }

def pool2 : Array CpInfo := pool [(1, .class_ 2), (0, u "java/io/Serializable"), (0, .class_ 4), (0, u "java/lang/Object")] 2

/-- java/io/Serializable -/
def k2 : Class := { plain "java/io/Serializable" (some 0) with
  accessFlags := 1537
  interfaces := #[]
  cf := some (fileOf pool2 1 #[] #[] 1537 3 #[] #[])
  fields := #[]
  methods := #[]
  instanceTypes := #[]
  staticTypes := #[]
  resolved := Array.replicate 7 none
  statics := none }

def pool3 : Array CpInfo := pool [(1, .class_ 2), (0, u "java/lang/Comparable"), (0, .class_ 4), (0, u "java/lang/Object")] 7

/-- java/lang/Comparable -/
def k3 : Class := { plain "java/lang/Comparable" (some 0) with
  accessFlags := 1537
  interfaces := #[]
  cf := some (fileOf pool3 1 #[] #[] 1537 3 #[] #[])
  fields := #[]
  methods := #[]
  instanceTypes := #[]
  staticTypes := #[]
  resolved := Array.replicate 12 none
  statics := none }

def pool4 : Array CpInfo := pool [(2, .class_ 4), (1, u "java/lang/CharSequence"), (42, .class_ 48), (0, u "java/lang/CharSequence$1CodePointIterator"), (10, .class_ 60), (0, u "java/lang/CharSequence$1CharIterator"), (5, .class_ 67), (0, u "java/lang/Object")] 63

/-- java/lang/CharSequence -/
def k4 : Class := { plain "java/lang/CharSequence" (some 0) with
  accessFlags := 1537
  interfaces := #[]
  cf := some (fileOf pool4 2 #[.nestMembers #[47, 59]] #[] 1537 66 #[] #[])
  fields := #[]
  methods := #[]
  instanceTypes := #[]
  staticTypes := #[]
  resolved := Array.replicate 131 none
  statics := none }

def pool5 : Array CpInfo := pool [(1, .class_ 2), (0, u "java/lang/constant/Constable"), (0, .class_ 4), (0, u "java/lang/Object")] 6

/-- java/lang/constant/Constable -/
def k5 : Class := { plain "java/lang/constant/Constable" (some 0) with
  accessFlags := 1537
  interfaces := #[]
  cf := some (fileOf pool5 1 #[] #[] 1537 3 #[] #[])
  fields := #[]
  methods := #[]
  instanceTypes := #[]
  staticTypes := #[]
  resolved := Array.replicate 11 none
  statics := none }

def pool6 : Array CpInfo := pool [(1, .class_ 2), (0, u "java/lang/constant/ConstantDesc"), (0, .class_ 4), (0, u "java/lang/Object")] 32

/-- java/lang/constant/ConstantDesc -/
def k6 : Class := { plain "java/lang/constant/ConstantDesc" (some 0) with
  accessFlags := 1537
  interfaces := #[]
  cf := some (fileOf pool6 1 #[] #[] 1537 3 #[] #[])
  fields := #[]
  methods := #[]
  instanceTypes := #[]
  staticTypes := #[]
  resolved := Array.replicate 37 none
  statics := none }

def pool7 : Array CpInfo := pool [(1, .methodref 2 3), (0, .class_ 4), (0, .nameAndType 5 6), (0, u "java/lang/Object"), (0, u "<init>"), (0, u "()V"), (0, .string 8), (0, u ""), (0, .fieldref 10 11), (0, .class_ 12), (0, .nameAndType 13 14), (0, u "java/lang/String"), (0, u "value"), (0, u "[B"), (0, .fieldref 10 16), (0, .nameAndType 17 18), (0, u "coder"), (0, u "B"), (2, u "hash"), (0, u "I"), (2, u "hashIsZero"), (0, u "Z"), (0, .methodref 10 28), (0, .nameAndType 5 29), (0, u "([CIILjava/lang/Void;)V"), (8, .fieldref 10 39), (0, .nameAndType 40 26), (0, u "COMPACT_STRINGS"), (1, .class_ 44), (1, u "java/lang/StringUTF16"), (0, u "compress"), (1, .methodref 42 48), (0, .nameAndType 49 50), (0, u "coderFromArrayLen"), (0, u "([BI)B"), (2, u "toBytes"), (43, u "([BII)I"), (9, .class_ 109), (1, u "java/lang/StringLatin1"), (32, u "()Z"), (34, .methodref 42 178), (0, .nameAndType 45 179), (0, u "([CII)[B"), (29, .methodref 10 210), (0, .nameAndType 5 211), (0, u "([BB)V"), (122, u "()I"), (0, .methodref 10 336), (0, .nameAndType 17 337), (0, u "()B"), (31, u "(C)Z"), (21, u "(II)V"), (100, .methodref 10 493), (0, .nameAndType 494 142), (0, u "isLatin1"), (4, .methodref 10 500), (0, .nameAndType 501 391), (0, u "checkIndex"), (0, .methodref 42 503), (0, .nameAndType 504 97), (0, u "codePointAt"), (2, u "length"), (67, .class_ 576), (0, u "java/lang/CharSequence"), (22, u "CASE_INSENSITIVE_ORDER"), (0, u "Ljava/util/Comparator;"), (164, u "(I)I"), (16, u "valueOf"), (0, u "(C)Ljava/lang/String;"), (226, u "([C)V"), (4, .methodref 107 1016), (0, .nameAndType 1017 369), (0, u "canEncode"), (0, .methodref 107 1019), (0, .nameAndType 53 1020), (0, u "(C)[B"), (0, .methodref 42 1019), (31, .fieldref 1054 1055), (0, .class_ 1056), (0, .nameAndType 1057 1058), (0, u "jdk/internal/util/Preconditions"), (0, u "SIOOBE_FORMATTER"), (0, u "Ljava/util/function/BiFunction;"), (0, .methodref 1054 1060), (0, .nameAndType 501 1061), (0, u "(IILjava/util/function/BiFunction;)I"), (39, u "serialPersistentFields"), (0, u "[Ljava/io/ObjectStreamField;"), (0, .class_ 1104), (0, u "java/lang/String$CaseInsensitiveComparator"), (1, .class_ 1107), (0, u "java/io/Serializable"), (0, .class_ 1109), (0, u "java/lang/Comparable"), (0, .class_ 1111), (0, u "java/lang/constant/Constable"), (0, .class_ 1113), (0, u "java/lang/constant/ConstantDesc"), (2, u "serialVersionUID"), (0, u "J"), (3, u "REPL"), (0, u "C"), (2, u "LATIN1"), (1, u "UTF16")] 323

def k7m0 : Method := { name := "<init>", desc := "()V", sig := { parameters := [], returnType := none }, accessFlags := 1, code := none }
def k7c1 : Code := { maxStack := 5, maxLocals := 2, code := jdk_42_method_3_code, exceptionTable := #[], attributes := #[] }
def k7m1 : Method := { name := "<init>", desc := "([C)V", sig := { parameters := [(.array .char)], returnType := none }, accessFlags := 1, code := some k7c1 }
def k7c2 : Code := { maxStack := 2, maxLocals := 1, code := jdk_42_method_54_code, exceptionTable := #[], attributes := #[] }
def k7m2 : Method := { name := "length", desc := "()I", sig := { parameters := [], returnType := some .int }, accessFlags := 1, code := some k7c2 }
def k7c3 : Code := { maxStack := 3, maxLocals := 3, code := jdk_42_method_57_code, exceptionTable := #[], attributes := #[] }
def k7m3 : Method := { name := "codePointAt", desc := "(I)I", sig := { parameters := [.int], returnType := some .int }, accessFlags := 1, code := some k7c3 }
def k7c4 : Code := { maxStack := 4, maxLocals := 1, code := jdk_42_method_139_code, exceptionTable := #[], attributes := #[] }
def k7m4 : Method := { name := "valueOf", desc := "(C)Ljava/lang/String;", sig := { parameters := [.char], returnType := some (.object "java/lang/String") }, accessFlags := 9, code := some k7c4 }
def k7c5 : Code := { maxStack := 4, maxLocals := 6, code := jdk_42_method_149_code, exceptionTable := #[], attributes := #[] }
def k7m5 : Method := { name := "<init>", desc := "([CIILjava/lang/Void;)V", sig := { parameters := [(.array .char), .int, .int, (.object "java/lang/Void")], returnType := none }, accessFlags := 2, code := some k7c5 }
def k7c6 : Code := { maxStack := 2, maxLocals := 3, code := jdk_42_method_151_code, exceptionTable := #[], attributes := #[] }
def k7m6 : Method := { name := "<init>", desc := "([BB)V", sig := { parameters := [(.array .byte), .byte], returnType := none }, accessFlags := 0, code := some k7c6 }
def k7c7 : Code := { maxStack := 1, maxLocals := 1, code := jdk_42_method_152_code, exceptionTable := #[], attributes := #[] }
def k7m7 : Method := { name := "coder", desc := "()B", sig := { parameters := [], returnType := some .byte }, accessFlags := 0, code := some k7c7 }
def k7c8 : Code := { maxStack := 1, maxLocals := 1, code := jdk_42_method_154_code, exceptionTable := #[], attributes := #[] }
def k7m8 : Method := { name := "isLatin1", desc := "()Z", sig := { parameters := [], returnType := some .boolean }, accessFlags := 0, code := some k7c8 }
def k7c9 : Code := { maxStack := 3, maxLocals := 2, code := jdk_42_method_155_code, exceptionTable := #[], attributes := #[] }
def k7m9 : Method := { name := "checkIndex", desc := "(II)V", sig := { parameters := [.int, .int], returnType := none }, accessFlags := 8, code := some k7c9 }
/-- java/lang/String -/
def k7 : Class := { plain "java/lang/String" (some 0) with
  accessFlags := 49
  interfaces := #[2, 3, 4, 5, 6]
  cf := some (fileOf pool7 10 #[.nestMembers #[1103]] #[{ accessFlags := 1, nameIndex := 5, descriptorIndex := 6, attributes := #[] }, { accessFlags := 1, nameIndex := 5, descriptorIndex := 1010, attributes := #[] }, { accessFlags := 1, nameIndex := 507, descriptorIndex := 334, attributes := #[] }, { accessFlags := 1, nameIndex := 504, descriptorIndex := 765, attributes := #[] }, { accessFlags := 9, nameIndex := 782, descriptorIndex := 783, attributes := #[] }, { accessFlags := 2, nameIndex := 5, descriptorIndex := 29, attributes := #[] }, { accessFlags := 0, nameIndex := 5, descriptorIndex := 211, attributes := #[] }, { accessFlags := 0, nameIndex := 17, descriptorIndex := 337, attributes := #[] }, { accessFlags := 0, nameIndex := 494, descriptorIndex := 142, attributes := #[] }, { accessFlags := 8, nameIndex := 501, descriptorIndex := 391, attributes := #[] }] 49 2 #[1106, 1108, 575, 1110, 1112] #[{ accessFlags := 18, nameIndex := 13, descriptorIndex := 14, attributes := #[] }, { accessFlags := 18, nameIndex := 17, descriptorIndex := 18, attributes := #[] }, { accessFlags := 2, nameIndex := 21, descriptorIndex := 22, attributes := #[] }, { accessFlags := 2, nameIndex := 25, descriptorIndex := 26, attributes := #[] }, { accessFlags := 26, nameIndex := 1116, descriptorIndex := 1117, attributes := #[] }, { accessFlags := 24, nameIndex := 40, descriptorIndex := 26, attributes := #[] }, { accessFlags := 26, nameIndex := 1101, descriptorIndex := 1102, attributes := #[] }, { accessFlags := 26, nameIndex := 1121, descriptorIndex := 1122, attributes := #[] }, { accessFlags := 25, nameIndex := 599, descriptorIndex := 600, attributes := #[] }, { accessFlags := 24, nameIndex := 1125, descriptorIndex := 18, attributes := #[] }, { accessFlags := 24, nameIndex := 1127, descriptorIndex := 18, attributes := #[] }])
  fields := #[{ name := "value", type := (.array .byte), accessFlags := 18, slot := 0, constantValue := 0 }, { name := "coder", type := .byte, accessFlags := 18, slot := 1, constantValue := 0 }, { name := "hash", type := .int, accessFlags := 2, slot := 2, constantValue := 0 }, { name := "hashIsZero", type := .boolean, accessFlags := 2, slot := 3, constantValue := 0 }, { name := "serialVersionUID", type := .long, accessFlags := 26, slot := 0, constantValue := 0 }, { name := "COMPACT_STRINGS", type := .boolean, accessFlags := 24, slot := 1, constantValue := 0 }, { name := "serialPersistentFields", type := (.array (.object "java/io/ObjectStreamField")), accessFlags := 26, slot := 2, constantValue := 0 }, { name := "REPL", type := .char, accessFlags := 26, slot := 3, constantValue := 0 }, { name := "CASE_INSENSITIVE_ORDER", type := (.object "java/util/Comparator"), accessFlags := 25, slot := 4, constantValue := 0 }, { name := "LATIN1", type := .byte, accessFlags := 24, slot := 5, constantValue := 0 }, { name := "UTF16", type := .byte, accessFlags := 24, slot := 6, constantValue := 0 }]
  methods := #[k7m0, k7m1, k7m2, k7m3, k7m4, k7m5, k7m6, k7m7, k7m8, k7m9]
  instanceTypes := #[(.array .byte), .byte, .int, .boolean]
  staticTypes := #[.long, .boolean, (.array (.object "java/io/ObjectStreamField")), .char, (.object "java/util/Comparator"), .byte, .byte]
  resolved := Array.replicate 1451 none
  statics := some 0 }

def pool8 : Array CpInfo := pool [(2, .class_ 4), (1, u "java/lang/Object"), (0, u "<init>"), (0, u "()V"), (0, .methodref 8 9), (0, .class_ 10), (0, .nameAndType 11 12), (0, u "java/lang/String"), (0, u "length"), (0, u "()I"), (0, .methodref 8 14), (0, .nameAndType 15 16), (0, u "codePointAt"), (0, u "(I)I"), (0, .methodref 18 19), (0, .class_ 20), (0, .nameAndType 21 22), (0, u "java/lang/Integer"), (0, u "compare"), (0, u "(II)I"), (0, .methodref 24 25), (0, .class_ 26), (0, .nameAndType 27 16), (0, u "java/lang/Character"), (0, u "charCount"), (0, .class_ 29), (0, u "com/example/mathir_tools/mathirtools/formats/text/Utf8Order"), (2, u "(Ljava/lang/String;Ljava/lang/String;)I")] 3

def k8m0 : Method := { name := "<init>", desc := "()V", sig := { parameters := [], returnType := none }, accessFlags := 2, code := none }
def k8c1 : Code := { maxStack := 2, maxLocals := 5, code := prog_58_method_2_code, exceptionTable := #[], attributes := #[] }
def k8m1 : Method := { name := "compare", desc := "(Ljava/lang/String;Ljava/lang/String;)I", sig := { parameters := [(.object "java/lang/String"), (.object "java/lang/String")], returnType := some .int }, accessFlags := 9, code := some k8c1 }
/-- com/example/mathir_tools/mathirtools/formats/text/Utf8Order -/
def k8 : Class := { plain "com/example/mathir_tools/mathirtools/formats/text/Utf8Order" (some 0) with
  accessFlags := 49
  interfaces := #[]
  cf := some (fileOf pool8 28 #[] #[{ accessFlags := 2, nameIndex := 5, descriptorIndex := 6, attributes := #[] }, { accessFlags := 9, nameIndex := 21, descriptorIndex := 32, attributes := #[] }] 49 2 #[] #[])
  fields := #[]
  methods := #[k8m0, k8m1]
  instanceTypes := #[]
  staticTypes := #[]
  resolved := Array.replicate 36 none
  statics := none }

def pool9 : Array CpInfo := pool [(2, .class_ 4), (1, u "java/lang/Object"), (0, u "<init>"), (0, u "()V"), (1, .class_ 10), (1, u "java/lang/Number"), (2, .class_ 14), (0, u "java/io/Serializable"), (0, u "serialVersionUID"), (0, u "J")] 20

def k9m0 : Method := { name := "<init>", desc := "()V", sig := { parameters := [], returnType := none }, accessFlags := 1, code := none }
/-- java/lang/Number -/
def k9 : Class := { plain "java/lang/Number" (some 0) with
  accessFlags := 1057
  interfaces := #[2]
  cf := some (fileOf pool9 8 #[] #[{ accessFlags := 1, nameIndex := 5, descriptorIndex := 6, attributes := #[] }] 1057 2 #[13] #[{ accessFlags := 26, nameIndex := 15, descriptorIndex := 16, attributes := #[] }])
  fields := #[{ name := "serialVersionUID", type := .long, accessFlags := 26, slot := 0, constantValue := 0 }]
  methods := #[k9m0]
  instanceTypes := #[]
  staticTypes := #[.long]
  resolved := Array.replicate 37 none
  statics := none }

def pool10 : Array CpInfo := pool [(1, .class_ 2), (0, u "java/lang/Integer"), (16, u "digits"), (0, u "[C"), (39, u "(II)I"), (24, u "DigitOnes"), (0, u "[B"), (2, u "DigitTens"), (99, .class_ 190), (0, u "java/lang/Integer$IntegerCache"), (3, u "I"), (8, .class_ 204), (0, u "java/lang/Number"), (2, u "value"), (53, u "compare"), (40, u "TYPE"), (0, u "Ljava/lang/Class;"), (0, .class_ 305), (0, u "java/lang/Comparable"), (0, .class_ 307), (0, u "java/lang/constant/Constable"), (0, .class_ 309), (0, u "java/lang/constant/ConstantDesc"), (0, u "MIN_VALUE"), (1, u "MAX_VALUE"), (3, u "SIZE"), (1, u "BYTES"), (1, u "serialVersionUID"), (0, u "J")] 131

def k10c0 : Code := { maxStack := 2, maxLocals := 2, code := jdk_33_method_40_code, exceptionTable := #[], attributes := #[] }
def k10m0 : Method := { name := "compare", desc := "(II)I", sig := { parameters := [.int, .int], returnType := some .int }, accessFlags := 9, code := some k10c0 }
/-- java/lang/Integer -/
def k10 : Class := { plain "java/lang/Integer" (some 9) with
  accessFlags := 49
  interfaces := #[3, 5, 6]
  cf := some (fileOf pool10 1 #[.nestMembers #[189]] #[{ accessFlags := 9, nameIndex := 261, descriptorIndex := 60, attributes := #[] }] 49 203 #[304, 306, 308] #[{ accessFlags := 25, nameIndex := 310, descriptorIndex := 194, attributes := #[] }, { accessFlags := 25, nameIndex := 312, descriptorIndex := 194, attributes := #[] }, { accessFlags := 25, nameIndex := 302, descriptorIndex := 303, attributes := #[] }, { accessFlags := 24, nameIndex := 19, descriptorIndex := 20, attributes := #[] }, { accessFlags := 24, nameIndex := 89, descriptorIndex := 86, attributes := #[] }, { accessFlags := 24, nameIndex := 85, descriptorIndex := 86, attributes := #[] }, { accessFlags := 18, nameIndex := 207, descriptorIndex := 194, attributes := #[] }, { accessFlags := 25, nameIndex := 316, descriptorIndex := 194, attributes := #[] }, { accessFlags := 25, nameIndex := 318, descriptorIndex := 194, attributes := #[] }, { accessFlags := 26, nameIndex := 320, descriptorIndex := 321, attributes := #[] }])
  fields := #[{ name := "MIN_VALUE", type := .int, accessFlags := 25, slot := 0, constantValue := 0 }, { name := "MAX_VALUE", type := .int, accessFlags := 25, slot := 1, constantValue := 0 }, { name := "TYPE", type := (.object "java/lang/Class"), accessFlags := 25, slot := 2, constantValue := 0 }, { name := "digits", type := (.array .char), accessFlags := 24, slot := 3, constantValue := 0 }, { name := "DigitTens", type := (.array .byte), accessFlags := 24, slot := 4, constantValue := 0 }, { name := "DigitOnes", type := (.array .byte), accessFlags := 24, slot := 5, constantValue := 0 }, { name := "value", type := .int, accessFlags := 18, slot := 0, constantValue := 0 }, { name := "SIZE", type := .int, accessFlags := 25, slot := 6, constantValue := 0 }, { name := "BYTES", type := .int, accessFlags := 25, slot := 7, constantValue := 0 }, { name := "serialVersionUID", type := .long, accessFlags := 26, slot := 8, constantValue := 0 }]
  methods := #[k10m0]
  instanceTypes := #[.int]
  staticTypes := #[.int, .int, (.object "java/lang/Class"), (.array .char), (.array .byte), (.array .byte), .int, .int, .long]
  resolved := Array.replicate 453 none
  statics := none }

def pool11 : Array CpInfo := pool [(6, .class_ 8), (1, u "java/lang/Object"), (0, u "<init>"), (0, u "()V"), (0, .methodref 12 13), (0, .class_ 14), (0, .nameAndType 15 16), (0, u "java/lang/StringUTF16"), (0, u "newBytesLength"), (0, u "(I)I"), (3, .integer 1073741823), (23, .fieldref 12 45), (0, .nameAndType 46 47), (0, u "$assertionsDisabled"), (0, u "Z"), (11, .fieldref 12 60), (0, .nameAndType 61 62), (0, u "HI_BYTE_SHIFT"), (0, u "I"), (0, .fieldref 12 64), (0, .nameAndType 65 62), (0, u "LO_BYTE_SHIFT"), (5, .methodref 12 72), (0, .nameAndType 73 74), (0, u "getChar"), (0, u "([BI)C"), (0, .methodref 76 77), (0, .class_ 78), (0, .nameAndType 79 80), (0, u "java/lang/Character"), (0, u "isHighSurrogate"), (0, u "(C)Z"), (0, .methodref 76 82), (0, .nameAndType 83 80), (0, u "isLowSurrogate"), (0, .methodref 76 85), (0, .nameAndType 86 87), (0, u "toCodePoint"), (0, u "(CC)I"), (0, .methodref 12 89), (0, .nameAndType 90 91), (0, u "codePointAt"), (0, u "([BIIZ)I"), (15, .methodref 12 108), (0, .nameAndType 109 110), (0, u "newBytesFor"), (0, u "(I)[B"), (0, .methodref 12 112), (0, .nameAndType 113 114), (0, u "putChar"), (0, u "([BII)V"), (0, .methodref 12 116), (0, .nameAndType 117 118), (0, u "compress"), (0, u "([CI[BII)I"), (0, .methodref 12 120), (0, .nameAndType 121 122), (0, u "toBytes"), (0, u "([CII)[B"), (127, u "([BII)I"), (10, u "coderFromArrayLen"), (0, u "([BI)B"), (106, .class_ 371), (1, u "java/lang/StringUTF16$LinesSpliterator"), (58, u "MAX_LENGTH"), (44, u "(C)[B"), (151, .class_ 628), (0, u "java/lang/StringUTF16$CodePointsSpliterator"), (0, .class_ 630), (0, u "java/lang/StringUTF16$CharsSpliterator")] 4

def k11m0 : Method := { name := "<init>", desc := "()V", sig := { parameters := [], returnType := none }, accessFlags := 0, code := none }
def k11c1 : Code := { maxStack := 1, maxLocals := 1, code := jdk_52_method_2_code, exceptionTable := #[], attributes := #[] }
def k11m1 : Method := { name := "newBytesFor", desc := "(I)[B", sig := { parameters := [.int], returnType := some (.array .byte) }, accessFlags := 9, code := some k11c1 }
def k11c2 : Code := { maxStack := 4, maxLocals := 1, code := jdk_52_method_3_code, exceptionTable := #[], attributes := #[] }
def k11m2 : Method := { name := "newBytesLength", desc := "(I)I", sig := { parameters := [.int], returnType := some .int }, accessFlags := 9, code := some k11c2 }
def k11c3 : Code := { maxStack := 4, maxLocals := 3, code := jdk_52_method_4_code, exceptionTable := #[], attributes := #[] }
def k11m3 : Method := { name := "putChar", desc := "([BII)V", sig := { parameters := [(.array .byte), .int, .int], returnType := none }, accessFlags := 8, code := some k11c3 }
def k11c4 : Code := { maxStack := 3, maxLocals := 2, code := jdk_52_method_5_code, exceptionTable := #[], attributes := #[] }
def k11m4 : Method := { name := "getChar", desc := "([BI)C", sig := { parameters := [(.array .byte), .int], returnType := some .char }, accessFlags := 8, code := some k11c4 }
def k11c5 : Code := { maxStack := 2, maxLocals := 6, code := jdk_52_method_7_code, exceptionTable := #[], attributes := #[] }
def k11m5 : Method := { name := "codePointAt", desc := "([BIIZ)I", sig := { parameters := [(.array .byte), .int, .int, .boolean], returnType := some .int }, accessFlags := 10, code := some k11c5 }
def k11c6 : Code := { maxStack := 4, maxLocals := 3, code := jdk_52_method_8_code, exceptionTable := #[], attributes := #[] }
def k11m6 : Method := { name := "codePointAt", desc := "([BII)I", sig := { parameters := [(.array .byte), .int, .int], returnType := some .int }, accessFlags := 9, code := some k11c6 }
def k11c7 : Code := { maxStack := 4, maxLocals := 5, code := jdk_52_method_14_code, exceptionTable := #[], attributes := #[] }
def k11m7 : Method := { name := "toBytes", desc := "([CII)[B", sig := { parameters := [(.array .char), .int, .int], returnType := some (.array .byte) }, accessFlags := 9, code := some k11c7 }
def k11c8 : Code := { maxStack := 2, maxLocals := 2, code := jdk_52_method_15_code, exceptionTable := #[], attributes := #[] }
def k11m8 : Method := { name := "coderFromArrayLen", desc := "([BI)B", sig := { parameters := [(.array .byte), .int], returnType := some .byte }, accessFlags := 8, code := some k11c8 }
def k11c9 : Code := { maxStack := 5, maxLocals := 6, code := jdk_52_method_16_code, exceptionTable := #[], attributes := #[] }
def k11m9 : Method := { name := "compress", desc := "([CII)[B", sig := { parameters := [(.array .char), .int, .int], returnType := some (.array .byte) }, accessFlags := 9, code := some k11c9 }
def k11c10 : Code := { maxStack := 3, maxLocals := 7, code := jdk_52_method_21_code, exceptionTable := #[], attributes := #[] }
def k11m10 : Method := { name := "compress", desc := "([CI[BII)I", sig := { parameters := [(.array .char), .int, (.array .byte), .int, .int], returnType := some .int }, accessFlags := 9, code := some k11c10 }
def k11c11 : Code := { maxStack := 3, maxLocals := 2, code := jdk_52_method_24_code, exceptionTable := #[], attributes := #[] }
def k11m11 : Method := { name := "toBytes", desc := "(C)[B", sig := { parameters := [.char], returnType := some (.array .byte) }, accessFlags := 9, code := some k11c11 }
/-- java/lang/StringUTF16 -/
def k11 : Class := { plain "java/lang/StringUTF16" (some 0) with
  accessFlags := 48
  interfaces := #[]
  cf := some (fileOf pool11 12 #[.nestMembers #[627, 629, 369]] #[{ accessFlags := 0, nameIndex := 9, descriptorIndex := 10, attributes := #[] }, { accessFlags := 9, nameIndex := 109, descriptorIndex := 110, attributes := #[] }, { accessFlags := 9, nameIndex := 15, descriptorIndex := 16, attributes := #[] }, { accessFlags := 8, nameIndex := 113, descriptorIndex := 114, attributes := #[] }, { accessFlags := 8, nameIndex := 73, descriptorIndex := 74, attributes := #[] }, { accessFlags := 10, nameIndex := 90, descriptorIndex := 91, attributes := #[] }, { accessFlags := 9, nameIndex := 90, descriptorIndex := 250, attributes := #[] }, { accessFlags := 9, nameIndex := 121, descriptorIndex := 122, attributes := #[] }, { accessFlags := 8, nameIndex := 261, descriptorIndex := 262, attributes := #[] }, { accessFlags := 9, nameIndex := 117, descriptorIndex := 122, attributes := #[] }, { accessFlags := 9, nameIndex := 117, descriptorIndex := 118, attributes := #[] }, { accessFlags := 9, nameIndex := 121, descriptorIndex := 475, attributes := #[] }] 48 6 #[] #[{ accessFlags := 26, nameIndex := 61, descriptorIndex := 62, attributes := #[] }, { accessFlags := 26, nameIndex := 65, descriptorIndex := 62, attributes := #[] }, { accessFlags := 24, nameIndex := 430, descriptorIndex := 62, attributes := #[] }, { accessFlags := 4120, nameIndex := 46, descriptorIndex := 47, attributes := #[] }])
  fields := #[{ name := "HI_BYTE_SHIFT", type := .int, accessFlags := 26, slot := 0, constantValue := 0 }, { name := "LO_BYTE_SHIFT", type := .int, accessFlags := 26, slot := 1, constantValue := 0 }, { name := "MAX_LENGTH", type := .int, accessFlags := 24, slot := 2, constantValue := 0 }, { name := "$assertionsDisabled", type := .boolean, accessFlags := 4120, slot := 3, constantValue := 0 }]
  methods := #[k11m0, k11m1, k11m2, k11m3, k11m4, k11m5, k11m6, k11m7, k11m8, k11m9, k11m10, k11m11]
  instanceTypes := #[]
  staticTypes := #[.int, .int, .int, .boolean]
  resolved := Array.replicate 635 none
  statics := some 1 }

def pool12 : Array CpInfo := pool [(4, .class_ 6), (1, u "java/lang/Object"), (0, u "<init>"), (0, u "()V"), (5, .class_ 16), (1, u "java/lang/StringLatin1"), (73, u "canEncode"), (14, u "(C)Z"), (15, u "$assertionsDisabled"), (0, u "Z"), (98, .class_ 223), (1, u "java/lang/StringLatin1$LinesSpliterator"), (156, u "toBytes"), (1, u "(C)[B"), (7, .class_ 391), (0, u "java/lang/StringLatin1$CharsSpliterator")] 3

def k12m0 : Method := { name := "<init>", desc := "()V", sig := { parameters := [], returnType := none }, accessFlags := 0, code := none }
def k12c1 : Code := { maxStack := 2, maxLocals := 1, code := jdk_43_method_3_code, exceptionTable := #[], attributes := #[] }
def k12m1 : Method := { name := "canEncode", desc := "(C)Z", sig := { parameters := [.char], returnType := some .boolean }, accessFlags := 9, code := some k12c1 }
def k12c2 : Code := { maxStack := 4, maxLocals := 1, code := jdk_43_method_46_code, exceptionTable := #[], attributes := #[] }
def k12m2 : Method := { name := "toBytes", desc := "(C)[B", sig := { parameters := [.char], returnType := some (.array .byte) }, accessFlags := 9, code := some k12c2 }
/-- java/lang/StringLatin1 -/
def k12 : Class := { plain "java/lang/StringLatin1" (some 0) with
  accessFlags := 48
  interfaces := #[]
  cf := some (fileOf pool12 14 #[.nestMembers #[390, 221]] #[{ accessFlags := 0, nameIndex := 7, descriptorIndex := 8, attributes := #[] }, { accessFlags := 9, nameIndex := 90, descriptorIndex := 105, attributes := #[] }, { accessFlags := 9, nameIndex := 380, descriptorIndex := 382, attributes := #[] }] 48 4 #[] #[{ accessFlags := 4120, nameIndex := 121, descriptorIndex := 122, attributes := #[] }])
  fields := #[{ name := "$assertionsDisabled", type := .boolean, accessFlags := 4120, slot := 0, constantValue := 0 }]
  methods := #[k12m0, k12m1, k12m2]
  instanceTypes := #[]
  staticTypes := #[.boolean]
  resolved := Array.replicate 395 none
  statics := none }

def pool13 : Array CpInfo := pool [(2, .class_ 4), (1, u "java/lang/Object"), (0, u "<init>"), (0, u "()V"), (17, .class_ 26), (1, u "jdk/internal/util/Preconditions"), (6, u "checkIndex"), (21, .class_ 56), (0, u "jdk/internal/util/Preconditions$4"), (57, .class_ 115), (0, u "jdk/internal/util/Preconditions$1"), (7, u "SIOOBE_FORMATTER"), (0, u "Ljava/util/function/BiFunction;"), (0, .class_ 126), (0, u "jdk/internal/util/Preconditions$2"), (3, u "AIOOBE_FORMATTER"), (0, .class_ 132), (0, u "jdk/internal/util/Preconditions$3"), (3, u "IOOBE_FORMATTER"), (41, u "(IILjava/util/function/BiFunction;)I")] 15

def k13m0 : Method := { name := "<init>", desc := "()V", sig := { parameters := [], returnType := none }, accessFlags := 1, code := none }
def k13c1 : Code := { maxStack := 3, maxLocals := 3, code := jdk_41_method_11_code, exceptionTable := #[], attributes := #[] }
def k13m1 : Method := { name := "checkIndex", desc := "(IILjava/util/function/BiFunction;)I", sig := { parameters := [.int, .int, (.object "java/util/function/BiFunction")], returnType := some .int }, accessFlags := 9, code := some k13c1 }
/-- jdk/internal/util/Preconditions -/
def k13 : Class := { plain "jdk/internal/util/Preconditions" (some 0) with
  accessFlags := 33
  interfaces := #[]
  cf := some (fileOf pool13 24 #[.nestMembers #[55, 131, 125, 114]] #[{ accessFlags := 1, nameIndex := 5, descriptorIndex := 6, attributes := #[] }, { accessFlags := 9, nameIndex := 33, descriptorIndex := 178, attributes := #[] }] 33 2 #[] #[{ accessFlags := 25, nameIndex := 123, descriptorIndex := 124, attributes := #[] }, { accessFlags := 25, nameIndex := 130, descriptorIndex := 124, attributes := #[] }, { accessFlags := 25, nameIndex := 136, descriptorIndex := 124, attributes := #[] }])
  fields := #[{ name := "SIOOBE_FORMATTER", type := (.object "java/util/function/BiFunction"), accessFlags := 25, slot := 0, constantValue := 0 }, { name := "AIOOBE_FORMATTER", type := (.object "java/util/function/BiFunction"), accessFlags := 25, slot := 1, constantValue := 0 }, { name := "IOOBE_FORMATTER", type := (.object "java/util/function/BiFunction"), accessFlags := 25, slot := 2, constantValue := 0 }]
  methods := #[k13m0, k13m1]
  instanceTypes := #[]
  staticTypes := #[(.object "java/util/function/BiFunction"), (.object "java/util/function/BiFunction"), (.object "java/util/function/BiFunction")]
  resolved := Array.replicate 194 none
  statics := some 2 }

def pool14 : Array CpInfo := pool [(1, .class_ 2), (0, u "java/lang/Character"), (18, u "value"), (0, u "C"), (19, .class_ 44), (1, u "java/lang/Object"), (3, .class_ 50), (1, u "java/lang/Character$CharacterCache"), (22, .integer 65536), (1, .integer 55296), (0, .integer 56320), (0, .integer 57344), (2, u "isHighSurrogate"), (0, u "(C)Z"), (2, u "isLowSurrogate"), (0, .integer 4238353408), (12, u "toCodePoint"), (0, u "(CC)I"), (74, u "(I)I"), (109, u "$assertionsDisabled"), (0, u "Z"), (21, .class_ 309), (1, u "java/lang/Character$UnicodeBlock"), (73, u "TYPE"), (0, u "Ljava/lang/Class;"), (0, .class_ 386), (0, u "java/io/Serializable"), (0, .class_ 388), (0, u "java/lang/Comparable"), (0, .class_ 390), (0, u "java/lang/constant/Constable"), (0, u "MIN_RADIX"), (0, u "I"), (2, u "MAX_RADIX"), (1, u "MIN_VALUE"), (1, u "MAX_VALUE"), (3, u "UNASSIGNED"), (0, u "B"), (0, u "UPPERCASE_LETTER"), (1, u "LOWERCASE_LETTER"), (0, u "TITLECASE_LETTER"), (1, u "MODIFIER_LETTER"), (1, u "OTHER_LETTER"), (1, u "NON_SPACING_MARK"), (1, u "ENCLOSING_MARK"), (1, u "COMBINING_SPACING_MARK"), (1, u "DECIMAL_DIGIT_NUMBER"), (1, u "LETTER_NUMBER"), (1, u "OTHER_NUMBER"), (1, u "SPACE_SEPARATOR"), (1, u "LINE_SEPARATOR"), (1, u "PARAGRAPH_SEPARATOR"), (1, u "CONTROL"), (1, u "FORMAT"), (1, u "PRIVATE_USE"), (1, u "SURROGATE"), (1, u "DASH_PUNCTUATION"), (1, u "START_PUNCTUATION"), (1, u "END_PUNCTUATION"), (1, u "CONNECTOR_PUNCTUATION"), (1, u "OTHER_PUNCTUATION"), (1, u "MATH_SYMBOL"), (1, u "CURRENCY_SYMBOL"), (1, u "MODIFIER_SYMBOL"), (1, u "OTHER_SYMBOL"), (1, u "INITIAL_QUOTE_PUNCTUATION"), (1, u "FINAL_QUOTE_PUNCTUATION"), (1, u "ERROR"), (1, u "DIRECTIONALITY_UNDEFINED"), (0, u "DIRECTIONALITY_LEFT_TO_RIGHT"), (0, u "DIRECTIONALITY_RIGHT_TO_LEFT"), (0, u "DIRECTIONALITY_RIGHT_TO_LEFT_ARABIC"), (0, u "DIRECTIONALITY_EUROPEAN_NUMBER"), (0, u "DIRECTIONALITY_EUROPEAN_NUMBER_SEPARATOR"), (0, u "DIRECTIONALITY_EUROPEAN_NUMBER_TERMINATOR"), (0, u "DIRECTIONALITY_ARABIC_NUMBER"), (0, u "DIRECTIONALITY_COMMON_NUMBER_SEPARATOR"), (0, u "DIRECTIONALITY_NONSPACING_MARK"), (0, u "DIRECTIONALITY_BOUNDARY_NEUTRAL"), (0, u "DIRECTIONALITY_PARAGRAPH_SEPARATOR"), (0, u "DIRECTIONALITY_SEGMENT_SEPARATOR"), (0, u "DIRECTIONALITY_WHITESPACE"), (0, u "DIRECTIONALITY_OTHER_NEUTRALS"), (0, u "DIRECTIONALITY_LEFT_TO_RIGHT_EMBEDDING"), (0, u "DIRECTIONALITY_LEFT_TO_RIGHT_OVERRIDE"), (0, u "DIRECTIONALITY_RIGHT_TO_LEFT_EMBEDDING"), (0, u "DIRECTIONALITY_RIGHT_TO_LEFT_OVERRIDE"), (1, u "DIRECTIONALITY_POP_DIRECTIONAL_FORMAT"), (0, u "DIRECTIONALITY_LEFT_TO_RIGHT_ISOLATE"), (0, u "DIRECTIONALITY_RIGHT_TO_LEFT_ISOLATE"), (0, u "DIRECTIONALITY_FIRST_STRONG_ISOLATE"), (0, u "DIRECTIONALITY_POP_DIRECTIONAL_ISOLATE"), (0, u "MIN_HIGH_SURROGATE"), (0, u "MAX_HIGH_SURROGATE"), (1, u "MIN_LOW_SURROGATE"), (0, u "MAX_LOW_SURROGATE"), (1, u "MIN_SURROGATE"), (0, u "MAX_SURROGATE"), (0, u "MIN_SUPPLEMENTARY_CODE_POINT"), (0, u "MIN_CODE_POINT"), (0, u "MAX_CODE_POINT"), (1, u "serialVersionUID"), (0, u "J"), (2, u "SIZE"), (0, u "BYTES"), (29, u "charCount"), (58, .class_ 596), (0, u "java/lang/Character$UnicodeScript"), (0, .class_ 598), (0, u "java/lang/Character$Subset")] 5

def k14c0 : Code := { maxStack := 2, maxLocals := 1, code := jdk_89_method_14_code, exceptionTable := #[], attributes := #[] }
def k14m0 : Method := { name := "isHighSurrogate", desc := "(C)Z", sig := { parameters := [.char], returnType := some .boolean }, accessFlags := 9, code := some k14c0 }
def k14c1 : Code := { maxStack := 2, maxLocals := 1, code := jdk_89_method_15_code, exceptionTable := #[], attributes := #[] }
def k14m1 : Method := { name := "isLowSurrogate", desc := "(C)Z", sig := { parameters := [.char], returnType := some .boolean }, accessFlags := 9, code := some k14c1 }
def k14c2 : Code := { maxStack := 2, maxLocals := 1, code := jdk_89_method_18_code, exceptionTable := #[], attributes := #[] }
def k14m2 : Method := { name := "charCount", desc := "(I)I", sig := { parameters := [.int], returnType := some .int }, accessFlags := 9, code := some k14c2 }
def k14c3 : Code := { maxStack := 2, maxLocals := 2, code := jdk_89_method_19_code, exceptionTable := #[], attributes := #[] }
def k14m3 : Method := { name := "toCodePoint", desc := "(CC)I", sig := { parameters := [.char, .char], returnType := some .int }, accessFlags := 9, code := some k14c3 }
/-- java/lang/Character -/
def k14 : Class := { plain "java/lang/Character" (some 0) with
  accessFlags := 49
  interfaces := #[2, 3, 5]
  cf := some (fileOf pool14 1 #[.nestMembers #[48, 595, 307, 597]] #[{ accessFlags := 9, nameIndex := 80, descriptorIndex := 81, attributes := #[] }, { accessFlags := 9, nameIndex := 84, descriptorIndex := 81, attributes := #[] }, { accessFlags := 9, nameIndex := 536, descriptorIndex := 174, attributes := #[] }, { accessFlags := 9, nameIndex := 98, descriptorIndex := 99, attributes := #[] }] 49 42 #[385, 387, 389] #[{ accessFlags := 25, nameIndex := 391, descriptorIndex := 392, attributes := #[] }, { accessFlags := 25, nameIndex := 395, descriptorIndex := 392, attributes := #[] }, { accessFlags := 25, nameIndex := 397, descriptorIndex := 22, attributes := #[] }, { accessFlags := 25, nameIndex := 399, descriptorIndex := 22, attributes := #[] }, { accessFlags := 25, nameIndex := 383, descriptorIndex := 384, attributes := #[] }, { accessFlags := 25, nameIndex := 403, descriptorIndex := 404, attributes := #[] }, { accessFlags := 25, nameIndex := 405, descriptorIndex := 404, attributes := #[] }, { accessFlags := 25, nameIndex := 407, descriptorIndex := 404, attributes := #[] }, { accessFlags := 25, nameIndex := 408, descriptorIndex := 404, attributes := #[] }, { accessFlags := 25, nameIndex := 410, descriptorIndex := 404, attributes := #[] }, { accessFlags := 25, nameIndex := 412, descriptorIndex := 404, attributes := #[] }, { accessFlags := 25, nameIndex := 414, descriptorIndex := 404, attributes := #[] }, { accessFlags := 25, nameIndex := 416, descriptorIndex := 404, attributes := #[] }, { accessFlags := 25, nameIndex := 418, descriptorIndex := 404, attributes := #[] }, { accessFlags := 25, nameIndex := 420, descriptorIndex := 404, attributes := #[] }, { accessFlags := 25, nameIndex := 422, descriptorIndex := 404, attributes := #[] }, { accessFlags := 25, nameIndex := 424, descriptorIndex := 404, attributes := #[] }, { accessFlags := 25, nameIndex := 426, descriptorIndex := 404, attributes := #[] }, { accessFlags := 25, nameIndex := 428, descriptorIndex := 404, attributes := #[] }, { accessFlags := 25, nameIndex := 430, descriptorIndex := 404, attributes := #[] }, { accessFlags := 25, nameIndex := 432, descriptorIndex := 404, attributes := #[] }, { accessFlags := 25, nameIndex := 434, descriptorIndex := 404, attributes := #[] }, { accessFlags := 25, nameIndex := 436, descriptorIndex := 404, attributes := #[] }, { accessFlags := 25, nameIndex := 438, descriptorIndex := 404, attributes := #[] }, { accessFlags := 25, nameIndex := 440, descriptorIndex := 404, attributes := #[] }, { accessFlags := 25, nameIndex := 442, descriptorIndex := 404, attributes := #[] }, { accessFlags := 25, nameIndex := 444, descriptorIndex := 404, attributes := #[] }, { accessFlags := 25, nameIndex := 446, descriptorIndex := 404, attributes := #[] }, { accessFlags := 25, nameIndex := 448, descriptorIndex := 404, attributes := #[] }, { accessFlags := 25, nameIndex := 450, descriptorIndex := 404, attributes := #[] }, { accessFlags := 25, nameIndex := 452, descriptorIndex := 404, attributes := #[] }, { accessFlags := 25, nameIndex := 454, descriptorIndex := 404, attributes := #[] }, { accessFlags := 25, nameIndex := 456, descriptorIndex := 404, attributes := #[] }, { accessFlags := 25, nameIndex := 458, descriptorIndex := 404, attributes := #[] }, { accessFlags := 25, nameIndex := 460, descriptorIndex := 404, attributes := #[] }, { accessFlags := 24, nameIndex := 462, descriptorIndex := 392, attributes := #[] }, { accessFlags := 25, nameIndex := 464, descriptorIndex := 404, attributes := #[] }, { accessFlags := 25, nameIndex := 465, descriptorIndex := 404, attributes := #[] }, { accessFlags := 25, nameIndex := 466, descriptorIndex := 404, attributes := #[] }, { accessFlags := 25, nameIndex := 467, descriptorIndex := 404, attributes := #[] }, { accessFlags := 25, nameIndex := 468, descriptorIndex := 404, attributes := #[] }, { accessFlags := 25, nameIndex := 469, descriptorIndex := 404, attributes := #[] }, { accessFlags := 25, nameIndex := 470, descriptorIndex := 404, attributes := #[] }, { accessFlags := 25, nameIndex := 471, descriptorIndex := 404, attributes := #[] }, { accessFlags := 25, nameIndex := 472, descriptorIndex := 404, attributes := #[] }, { accessFlags := 25, nameIndex := 473, descriptorIndex := 404, attributes := #[] }, { accessFlags := 25, nameIndex := 474, descriptorIndex := 404, attributes := #[] }, { accessFlags := 25, nameIndex := 475, descriptorIndex := 404, attributes := #[] }, { accessFlags := 25, nameIndex := 476, descriptorIndex := 404, attributes := #[] }, { accessFlags := 25, nameIndex := 477, descriptorIndex := 404, attributes := #[] }, { accessFlags := 25, nameIndex := 478, descriptorIndex := 404, attributes := #[] }, { accessFlags := 25, nameIndex := 479, descriptorIndex := 404, attributes := #[] }, { accessFlags := 25, nameIndex := 480, descriptorIndex := 404, attributes := #[] }, { accessFlags := 25, nameIndex := 481, descriptorIndex := 404, attributes := #[] }, { accessFlags := 25, nameIndex := 482, descriptorIndex := 404, attributes := #[] }, { accessFlags := 25, nameIndex := 484, descriptorIndex := 404, attributes := #[] }, { accessFlags := 25, nameIndex := 485, descriptorIndex := 404, attributes := #[] }, { accessFlags := 25, nameIndex := 486, descriptorIndex := 404, attributes := #[] }, { accessFlags := 25, nameIndex := 487, descriptorIndex := 404, attributes := #[] }, { accessFlags := 25, nameIndex := 488, descriptorIndex := 404, attributes := #[] }, { accessFlags := 25, nameIndex := 489, descriptorIndex := 22, attributes := #[] }, { accessFlags := 25, nameIndex := 490, descriptorIndex := 22, attributes := #[] }, { accessFlags := 25, nameIndex := 492, descriptorIndex := 22, attributes := #[] }, { accessFlags := 25, nameIndex := 493, descriptorIndex := 22, attributes := #[] }, { accessFlags := 25, nameIndex := 495, descriptorIndex := 22, attributes := #[] }, { accessFlags := 25, nameIndex := 496, descriptorIndex := 22, attributes := #[] }, { accessFlags := 25, nameIndex := 497, descriptorIndex := 392, attributes := #[] }, { accessFlags := 25, nameIndex := 498, descriptorIndex := 392, attributes := #[] }, { accessFlags := 25, nameIndex := 499, descriptorIndex := 392, attributes := #[] }, { accessFlags := 18, nameIndex := 21, descriptorIndex := 22, attributes := #[] }, { accessFlags := 26, nameIndex := 501, descriptorIndex := 502, attributes := #[] }, { accessFlags := 25, nameIndex := 505, descriptorIndex := 392, attributes := #[] }, { accessFlags := 25, nameIndex := 506, descriptorIndex := 392, attributes := #[] }, { accessFlags := 4120, nameIndex := 284, descriptorIndex := 285, attributes := #[] }])
  fields := #[{ name := "MIN_RADIX", type := .int, accessFlags := 25, slot := 0, constantValue := 0 }, { name := "MAX_RADIX", type := .int, accessFlags := 25, slot := 1, constantValue := 0 }, { name := "MIN_VALUE", type := .char, accessFlags := 25, slot := 2, constantValue := 0 }, { name := "MAX_VALUE", type := .char, accessFlags := 25, slot := 3, constantValue := 0 }, { name := "TYPE", type := (.object "java/lang/Class"), accessFlags := 25, slot := 4, constantValue := 0 }, { name := "UNASSIGNED", type := .byte, accessFlags := 25, slot := 5, constantValue := 0 }, { name := "UPPERCASE_LETTER", type := .byte, accessFlags := 25, slot := 6, constantValue := 0 }, { name := "LOWERCASE_LETTER", type := .byte, accessFlags := 25, slot := 7, constantValue := 0 }, { name := "TITLECASE_LETTER", type := .byte, accessFlags := 25, slot := 8, constantValue := 0 }, { name := "MODIFIER_LETTER", type := .byte, accessFlags := 25, slot := 9, constantValue := 0 }, { name := "OTHER_LETTER", type := .byte, accessFlags := 25, slot := 10, constantValue := 0 }, { name := "NON_SPACING_MARK", type := .byte, accessFlags := 25, slot := 11, constantValue := 0 }, { name := "ENCLOSING_MARK", type := .byte, accessFlags := 25, slot := 12, constantValue := 0 }, { name := "COMBINING_SPACING_MARK", type := .byte, accessFlags := 25, slot := 13, constantValue := 0 }, { name := "DECIMAL_DIGIT_NUMBER", type := .byte, accessFlags := 25, slot := 14, constantValue := 0 }, { name := "LETTER_NUMBER", type := .byte, accessFlags := 25, slot := 15, constantValue := 0 }, { name := "OTHER_NUMBER", type := .byte, accessFlags := 25, slot := 16, constantValue := 0 }, { name := "SPACE_SEPARATOR", type := .byte, accessFlags := 25, slot := 17, constantValue := 0 }, { name := "LINE_SEPARATOR", type := .byte, accessFlags := 25, slot := 18, constantValue := 0 }, { name := "PARAGRAPH_SEPARATOR", type := .byte, accessFlags := 25, slot := 19, constantValue := 0 }, { name := "CONTROL", type := .byte, accessFlags := 25, slot := 20, constantValue := 0 }, { name := "FORMAT", type := .byte, accessFlags := 25, slot := 21, constantValue := 0 }, { name := "PRIVATE_USE", type := .byte, accessFlags := 25, slot := 22, constantValue := 0 }, { name := "SURROGATE", type := .byte, accessFlags := 25, slot := 23, constantValue := 0 }, { name := "DASH_PUNCTUATION", type := .byte, accessFlags := 25, slot := 24, constantValue := 0 }, { name := "START_PUNCTUATION", type := .byte, accessFlags := 25, slot := 25, constantValue := 0 }, { name := "END_PUNCTUATION", type := .byte, accessFlags := 25, slot := 26, constantValue := 0 }, { name := "CONNECTOR_PUNCTUATION", type := .byte, accessFlags := 25, slot := 27, constantValue := 0 }, { name := "OTHER_PUNCTUATION", type := .byte, accessFlags := 25, slot := 28, constantValue := 0 }, { name := "MATH_SYMBOL", type := .byte, accessFlags := 25, slot := 29, constantValue := 0 }, { name := "CURRENCY_SYMBOL", type := .byte, accessFlags := 25, slot := 30, constantValue := 0 }, { name := "MODIFIER_SYMBOL", type := .byte, accessFlags := 25, slot := 31, constantValue := 0 }, { name := "OTHER_SYMBOL", type := .byte, accessFlags := 25, slot := 32, constantValue := 0 }, { name := "INITIAL_QUOTE_PUNCTUATION", type := .byte, accessFlags := 25, slot := 33, constantValue := 0 }, { name := "FINAL_QUOTE_PUNCTUATION", type := .byte, accessFlags := 25, slot := 34, constantValue := 0 }, { name := "ERROR", type := .int, accessFlags := 24, slot := 35, constantValue := 0 }, { name := "DIRECTIONALITY_UNDEFINED", type := .byte, accessFlags := 25, slot := 36, constantValue := 0 }, { name := "DIRECTIONALITY_LEFT_TO_RIGHT", type := .byte, accessFlags := 25, slot := 37, constantValue := 0 }, { name := "DIRECTIONALITY_RIGHT_TO_LEFT", type := .byte, accessFlags := 25, slot := 38, constantValue := 0 }, { name := "DIRECTIONALITY_RIGHT_TO_LEFT_ARABIC", type := .byte, accessFlags := 25, slot := 39, constantValue := 0 }, { name := "DIRECTIONALITY_EUROPEAN_NUMBER", type := .byte, accessFlags := 25, slot := 40, constantValue := 0 }, { name := "DIRECTIONALITY_EUROPEAN_NUMBER_SEPARATOR", type := .byte, accessFlags := 25, slot := 41, constantValue := 0 }, { name := "DIRECTIONALITY_EUROPEAN_NUMBER_TERMINATOR", type := .byte, accessFlags := 25, slot := 42, constantValue := 0 }, { name := "DIRECTIONALITY_ARABIC_NUMBER", type := .byte, accessFlags := 25, slot := 43, constantValue := 0 }, { name := "DIRECTIONALITY_COMMON_NUMBER_SEPARATOR", type := .byte, accessFlags := 25, slot := 44, constantValue := 0 }, { name := "DIRECTIONALITY_NONSPACING_MARK", type := .byte, accessFlags := 25, slot := 45, constantValue := 0 }, { name := "DIRECTIONALITY_BOUNDARY_NEUTRAL", type := .byte, accessFlags := 25, slot := 46, constantValue := 0 }, { name := "DIRECTIONALITY_PARAGRAPH_SEPARATOR", type := .byte, accessFlags := 25, slot := 47, constantValue := 0 }, { name := "DIRECTIONALITY_SEGMENT_SEPARATOR", type := .byte, accessFlags := 25, slot := 48, constantValue := 0 }, { name := "DIRECTIONALITY_WHITESPACE", type := .byte, accessFlags := 25, slot := 49, constantValue := 0 }, { name := "DIRECTIONALITY_OTHER_NEUTRALS", type := .byte, accessFlags := 25, slot := 50, constantValue := 0 }, { name := "DIRECTIONALITY_LEFT_TO_RIGHT_EMBEDDING", type := .byte, accessFlags := 25, slot := 51, constantValue := 0 }, { name := "DIRECTIONALITY_LEFT_TO_RIGHT_OVERRIDE", type := .byte, accessFlags := 25, slot := 52, constantValue := 0 }, { name := "DIRECTIONALITY_RIGHT_TO_LEFT_EMBEDDING", type := .byte, accessFlags := 25, slot := 53, constantValue := 0 }, { name := "DIRECTIONALITY_RIGHT_TO_LEFT_OVERRIDE", type := .byte, accessFlags := 25, slot := 54, constantValue := 0 }, { name := "DIRECTIONALITY_POP_DIRECTIONAL_FORMAT", type := .byte, accessFlags := 25, slot := 55, constantValue := 0 }, { name := "DIRECTIONALITY_LEFT_TO_RIGHT_ISOLATE", type := .byte, accessFlags := 25, slot := 56, constantValue := 0 }, { name := "DIRECTIONALITY_RIGHT_TO_LEFT_ISOLATE", type := .byte, accessFlags := 25, slot := 57, constantValue := 0 }, { name := "DIRECTIONALITY_FIRST_STRONG_ISOLATE", type := .byte, accessFlags := 25, slot := 58, constantValue := 0 }, { name := "DIRECTIONALITY_POP_DIRECTIONAL_ISOLATE", type := .byte, accessFlags := 25, slot := 59, constantValue := 0 }, { name := "MIN_HIGH_SURROGATE", type := .char, accessFlags := 25, slot := 60, constantValue := 0 }, { name := "MAX_HIGH_SURROGATE", type := .char, accessFlags := 25, slot := 61, constantValue := 0 }, { name := "MIN_LOW_SURROGATE", type := .char, accessFlags := 25, slot := 62, constantValue := 0 }, { name := "MAX_LOW_SURROGATE", type := .char, accessFlags := 25, slot := 63, constantValue := 0 }, { name := "MIN_SURROGATE", type := .char, accessFlags := 25, slot := 64, constantValue := 0 }, { name := "MAX_SURROGATE", type := .char, accessFlags := 25, slot := 65, constantValue := 0 }, { name := "MIN_SUPPLEMENTARY_CODE_POINT", type := .int, accessFlags := 25, slot := 66, constantValue := 0 }, { name := "MIN_CODE_POINT", type := .int, accessFlags := 25, slot := 67, constantValue := 0 }, { name := "MAX_CODE_POINT", type := .int, accessFlags := 25, slot := 68, constantValue := 0 }, { name := "value", type := .char, accessFlags := 18, slot := 0, constantValue := 0 }, { name := "serialVersionUID", type := .long, accessFlags := 26, slot := 69, constantValue := 0 }, { name := "SIZE", type := .int, accessFlags := 25, slot := 70, constantValue := 0 }, { name := "BYTES", type := .int, accessFlags := 25, slot := 71, constantValue := 0 }, { name := "$assertionsDisabled", type := .boolean, accessFlags := 4120, slot := 72, constantValue := 0 }]
  methods := #[k14m0, k14m1, k14m2, k14m3]
  instanceTypes := #[.char]
  staticTypes := #[.int, .int, .char, .char, (.object "java/lang/Class"), .byte, .byte, .byte, .byte, .byte, .byte, .byte, .byte, .byte, .byte, .byte, .byte, .byte, .byte, .byte, .byte, .byte, .byte, .byte, .byte, .byte, .byte, .byte, .byte, .byte, .byte, .byte, .byte, .byte, .byte, .int, .byte, .byte, .byte, .byte, .byte, .byte, .byte, .byte, .byte, .byte, .byte, .byte, .byte, .byte, .byte, .byte, .byte, .byte, .byte, .byte, .byte, .byte, .byte, .byte, .char, .char, .char, .char, .char, .char, .int, .int, .int, .long, .int, .int, .boolean]
  resolved := Array.replicate 604 none
  statics := none }

def pool15 : Array CpInfo := pool [(9, u "<init>"), (6, .class_ 18), (1, u "java/lang/Object"), (0, u "()V"), (1, .class_ 23), (1, u "jdk/internal/util/ArraysSupport"), (0, u "LOG2_ARRAY_LONG_INDEX_SCALE"), (0, u "I"), (2, u "U"), (0, u "Ljdk/internal/misc/Unsafe;"), (8, u "BIG_ENDIAN"), (0, u "Z"), (8, u "LOG2_BYTE_BIT_SIZE"), (4, u "LOG2_ARRAY_INT_INDEX_SCALE"), (54, u "JLA"), (0, u "Ljdk/internal/access/JavaLangAccess;"), (11, u "LOG2_ARRAY_BOOLEAN_INDEX_SCALE"), (9, u "LOG2_ARRAY_BYTE_INDEX_SCALE"), (5, u "LOG2_ARRAY_CHAR_INDEX_SCALE"), (5, u "LOG2_ARRAY_SHORT_INDEX_SCALE"), (18, u "LOG2_ARRAY_FLOAT_INDEX_SCALE"), (24, u "LOG2_ARRAY_DOUBLE_INDEX_SCALE"), (89, u "T_BOOLEAN"), (2, u "T_CHAR"), (1, u "T_FLOAT"), (1, u "T_DOUBLE"), (1, u "T_BYTE"), (1, u "T_SHORT"), (1, u "T_INT"), (1, u "T_LONG"), (1, u "SOFT_MAX_ARRAY_LENGTH")] 83

def k15m0 : Method := { name := "<init>", desc := "()V", sig := { parameters := [], returnType := none }, accessFlags := 2, code := none }
/-- jdk/internal/util/ArraysSupport -/
def k15 : Class := { plain "jdk/internal/util/ArraysSupport" (some 0) with
  accessFlags := 33
  interfaces := #[]
  cf := some (fileOf pool15 21 #[] #[{ accessFlags := 2, nameIndex := 9, descriptorIndex := 19, attributes := #[] }] 33 16 #[] #[{ accessFlags := 24, nameIndex := 28, descriptorIndex := 29, attributes := #[] }, { accessFlags := 26, nameIndex := 38, descriptorIndex := 39, attributes := #[] }, { accessFlags := 25, nameIndex := 121, descriptorIndex := 25, attributes := #[] }, { accessFlags := 25, nameIndex := 131, descriptorIndex := 25, attributes := #[] }, { accessFlags := 25, nameIndex := 137, descriptorIndex := 25, attributes := #[] }, { accessFlags := 25, nameIndex := 143, descriptorIndex := 25, attributes := #[] }, { accessFlags := 25, nameIndex := 53, descriptorIndex := 25, attributes := #[] }, { accessFlags := 25, nameIndex := 24, descriptorIndex := 25, attributes := #[] }, { accessFlags := 25, nameIndex := 162, descriptorIndex := 25, attributes := #[] }, { accessFlags := 25, nameIndex := 187, descriptorIndex := 25, attributes := #[] }, { accessFlags := 26, nameIndex := 48, descriptorIndex := 25, attributes := #[] }, { accessFlags := 25, nameIndex := 277, descriptorIndex := 25, attributes := #[] }, { accessFlags := 25, nameIndex := 280, descriptorIndex := 25, attributes := #[] }, { accessFlags := 25, nameIndex := 282, descriptorIndex := 25, attributes := #[] }, { accessFlags := 25, nameIndex := 284, descriptorIndex := 25, attributes := #[] }, { accessFlags := 25, nameIndex := 286, descriptorIndex := 25, attributes := #[] }, { accessFlags := 25, nameIndex := 288, descriptorIndex := 25, attributes := #[] }, { accessFlags := 25, nameIndex := 290, descriptorIndex := 25, attributes := #[] }, { accessFlags := 25, nameIndex := 292, descriptorIndex := 25, attributes := #[] }, { accessFlags := 26, nameIndex := 108, descriptorIndex := 109, attributes := #[] }, { accessFlags := 25, nameIndex := 294, descriptorIndex := 25, attributes := #[] }])
  fields := #[{ name := "U", type := (.object "jdk/internal/misc/Unsafe"), accessFlags := 24, slot := 0, constantValue := 0 }, { name := "BIG_ENDIAN", type := .boolean, accessFlags := 26, slot := 1, constantValue := 0 }, { name := "LOG2_ARRAY_BOOLEAN_INDEX_SCALE", type := .int, accessFlags := 25, slot := 2, constantValue := 0 }, { name := "LOG2_ARRAY_BYTE_INDEX_SCALE", type := .int, accessFlags := 25, slot := 3, constantValue := 0 }, { name := "LOG2_ARRAY_CHAR_INDEX_SCALE", type := .int, accessFlags := 25, slot := 4, constantValue := 0 }, { name := "LOG2_ARRAY_SHORT_INDEX_SCALE", type := .int, accessFlags := 25, slot := 5, constantValue := 0 }, { name := "LOG2_ARRAY_INT_INDEX_SCALE", type := .int, accessFlags := 25, slot := 6, constantValue := 0 }, { name := "LOG2_ARRAY_LONG_INDEX_SCALE", type := .int, accessFlags := 25, slot := 7, constantValue := 0 }, { name := "LOG2_ARRAY_FLOAT_INDEX_SCALE", type := .int, accessFlags := 25, slot := 8, constantValue := 0 }, { name := "LOG2_ARRAY_DOUBLE_INDEX_SCALE", type := .int, accessFlags := 25, slot := 9, constantValue := 0 }, { name := "LOG2_BYTE_BIT_SIZE", type := .int, accessFlags := 26, slot := 10, constantValue := 0 }, { name := "T_BOOLEAN", type := .int, accessFlags := 25, slot := 11, constantValue := 0 }, { name := "T_CHAR", type := .int, accessFlags := 25, slot := 12, constantValue := 0 }, { name := "T_FLOAT", type := .int, accessFlags := 25, slot := 13, constantValue := 0 }, { name := "T_DOUBLE", type := .int, accessFlags := 25, slot := 14, constantValue := 0 }, { name := "T_BYTE", type := .int, accessFlags := 25, slot := 15, constantValue := 0 }, { name := "T_SHORT", type := .int, accessFlags := 25, slot := 16, constantValue := 0 }, { name := "T_INT", type := .int, accessFlags := 25, slot := 17, constantValue := 0 }, { name := "T_LONG", type := .int, accessFlags := 25, slot := 18, constantValue := 0 }, { name := "JLA", type := (.object "jdk/internal/access/JavaLangAccess"), accessFlags := 26, slot := 19, constantValue := 0 }, { name := "SOFT_MAX_ARRAY_LENGTH", type := .int, accessFlags := 25, slot := 20, constantValue := 0 }]
  methods := #[k15m0]
  instanceTypes := #[]
  staticTypes := #[(.object "jdk/internal/misc/Unsafe"), .boolean, .int, .int, .int, .int, .int, .int, .int, .int, .int, .int, .int, .int, .int, .int, .int, .int, .int, (.object "jdk/internal/access/JavaLangAccess"), .int]
  resolved := Array.replicate 378 none
  statics := none }

def pool16 : Array CpInfo := pool [(1, u "java/lang/Cloneable"), (0, .class_ 1), (0, u "java/lang/Object"), (0, .class_ 3)] 3

/-- java/lang/Cloneable -/
def k16 : Class := { plain "java/lang/Cloneable" (some 0) with
  accessFlags := 1537
  interfaces := #[]
  cf := some (fileOf pool16 2 #[] #[] 1537 4 #[] #[])
  fields := #[]
  methods := #[]
  instanceTypes := #[]
  staticTypes := #[]
  resolved := Array.replicate 8 none
  statics := none }

/-- the primitive byte -/
def k17 : Class := { plain "byte" none with kind := .primitive 'B', accessFlags := 0x411 }
/-- [B -/
def k18 : Class := { plain "[B" (some 0) with kind := .array 17 .byte, interfaces := #[16, 2], accessFlags := 1041 }

/-- the primitive char -/
def k19 : Class := { plain "char" none with kind := .primitive 'C', accessFlags := 0x411 }
/-- [C -/
def k20 : Class := { plain "[C" (some 0) with kind := .array 19 .char, interfaces := #[16, 2], accessFlags := 1041 }

/-- the primitive int -/
def k21 : Class := { plain "int" none with kind := .primitive 'I', accessFlags := 0x411 }
/-- [I -/
def k22 : Class := { plain "[I" (some 0) with kind := .array 21 .int, interfaces := #[16, 2], accessFlags := 1041 }

def heap : Heap := #[{ cls := 7, slots := #[.long 0, .int 1, .null, .int 0, .null, .int 0, .int 0], vm := .statics 7 },
  { cls := 11, slots := #[.int 0, .int 8, .int 0, .int 1], vm := .statics 11 },
  { cls := 13, slots := #[.null, .null, .null], vm := .statics 13 }]
def classes : Array Class := #[k0, k1, k2, k3, k4, k5, k6, k7, k8, k9, k10, k11, k12, k13, k14, k15, k16, k17, k18, k19, k20, k21, k22]
def interned : List (Array UInt16 × Addr) := []
def slotsUsed : Nat := 14
def theMethod : MethodId := ⟨1, 1⟩
def args0 : Array Value := #[.int 5, .int 5, .int 5, .int 5, .int 5, .int 5]
def aboutOver (below : List Frame) : State where
  vm := { classes := classes, interned := interned.toArray }
  heap := heap
  slotsUsed := slotsUsed
  threads := #[{ frames := .invoking theMethod args0 :: below }]
def below0 : List Frame := [.native { method := ⟨0, 0⟩, args := #[] }]
def about1 : State := aboutOver below0
def p0 : Program := .bare "" "" ""
def e0 : Env := launch0.env 0 0 0
theorem w_frames : about1.frames = Frame.invoking theMethod args0 :: below0 := rfl
set_option maxRecDepth 65536 in
theorem w_args : argsFit about1.vm theMethod args0 = true := by decide +kernel
set_option maxRecDepth 65536 in
theorem w_heap : heapFits about1 = true := by decide +kernel
set_option maxRecDepth 65536 in
theorem w_runnable : about1.curStatus? = some .runnable := by decide +kernel
set_option maxRecDepth 65536 in
theorem w_alone : about1.alone = true := by decide +kernel
set_option maxRecDepth 65536 in
theorem w_named : about1.methodNamed? x = some theMethod := by decide +kernel
set_option maxRecDepth 65536 in
theorem w_hears : about1.hears theMethod below0 = true := by decide +kernel
set_option maxRecDepth 65536 in
theorem w_ripe : about1.ripe theMethod args0 below0 = true := by decide +kernel
theorem w_running : about1.status = .running := rfl
set_option maxRecDepth 65536 in
theorem w_room : about1.hasRoom e0.platform room_1 = true :=
  launch0.hasRoom_least _ room_1 (by decide +kernel) (by decide +kernel) (by decide +kernel) (by decide +kernel) (by decide +kernel) (by decide +kernel)
theorem allAtoms_all (ts : List Jvm.Cond) (a : Array Jvm.Value) (st : Jvm.State) : (allAtoms ts).before a st = ts.all (fun c => c.before a st) := by
  induction ts with
  | nil => rfl
  | cons c t ih =>
    show (Jvm.Cond.and c (allAtoms t)).before a st = _
    rw [Jvm.Cond.before_and, ih, List.all_cons]
def words1 : List Jvm.Cond := Jvm.Cond.code x code maxLocals ret :: tables_1
/-- a 'code' word, met by the world's own term for the bytes: nothing is compared byte by byte -/
theorem code_word {y : MethodName} {bytes : ByteArray} {mx : Nat} {rt : Option FieldType} {a : Array Value} {s : State} {m : MethodId} {meth : Method} {c : Code} (h1 : s.methodNamed? y = some m) (h2 : s.vm.method? m = some meth) (h3 : meth.code = some c) (h4 : c.code = bytes)
    (h5 : (c.maxLocals == mx && c.exceptionTable.isEmpty && decide (c.maxStack ≤ mostOperands) && decide (meth.sig.returnType = rt) && !meth.locks && decide (parseMethodDescriptor y.desc = some meth.sig)) = true) : (Jvm.Cond.code y bytes mx rt).before a s = true := by
  simp only [Bool.and_eq_true, beq_iff_eq, Bool.not_eq_true', decide_eq_true_eq] at h5
  obtain ⟨⟨⟨⟨⟨g1, g2⟩, g3⟩, g4⟩, g5⟩, g6⟩ := h5
  simp [Cond.before, Cond.holds, Cond.value, h1, h2, h3, h4, g1, g2, g3, g4, g5, g6]
def isCode : Jvm.Cond → Bool
  | .code _ _ _ _ => true
  | _ => false
theorem all_split {L : List Jvm.Cond} {P : Jvm.Cond → Bool} (h1 : L.all (fun c => isCode c || P c) = true) (h2 : ∀ c ∈ L.filter isCode, P c = true) : L.all P = true := by
  refine List.all_eq_true.mpr fun c hc => ?_
  have h := List.all_eq_true.mp h1 c hc
  rcases Bool.eq_false_or_eq_true (isCode c) with hi | hi
  · exact h2 c (List.mem_filter.mpr ⟨hc, hi⟩)
  · simpa [hi] using h
set_option maxRecDepth 65536 in
theorem w_c0 : (Jvm.Cond.code x code maxLocals ret).before args0 about1 = true := code_word (m := ⟨1, 1⟩) (meth := k1m1) (c := k1c1) (by decide +kernel) rfl rfl rfl (by decide +kernel)
set_option maxRecDepth 65536 in
theorem w_c1 : (Jvm.Cond.code ({ cls := "com/example/mathir_tools/mathirtools/formats/text/Utf8OrderComparePinLaw", name := "make", desc := "(ICC)Ljava/lang/String;" } : Jvm.MethodName) method_3_code (4 : Nat) (Option.some (Jvm.ClassFile.FieldType.object "java/lang/String"))).before args0 about1 = true := code_word (m := ⟨1, 2⟩) (meth := k1m2) (c := k1c2) (by decide +kernel) rfl rfl rfl (by decide +kernel)
set_option maxRecDepth 65536 in
theorem w_c2 : (Jvm.Cond.code ({ cls := "java/lang/String", name := "<init>", desc := "([C)V" } : Jvm.MethodName) jdk_42_method_3_code (2 : Nat) (Option.none : Option Jvm.ClassFile.FieldType)).before args0 about1 = true := code_word (m := ⟨7, 1⟩) (meth := k7m1) (c := k7c1) (by decide +kernel) rfl rfl rfl (by decide +kernel)
set_option maxRecDepth 65536 in
theorem w_c3 : (Jvm.Cond.code ({ cls := "java/lang/String", name := "<init>", desc := "([CIILjava/lang/Void;)V" } : Jvm.MethodName) jdk_42_method_149_code (6 : Nat) (Option.none : Option Jvm.ClassFile.FieldType)).before args0 about1 = true := code_word (m := ⟨7, 5⟩) (meth := k7m5) (c := k7c5) (by decide +kernel) rfl rfl rfl (by decide +kernel)
set_option maxRecDepth 65536 in
theorem w_c4 : (Jvm.Cond.code ({ cls := "java/lang/Object", name := "<init>", desc := "()V" } : Jvm.MethodName) object_method_1_code (1 : Nat) (Option.none : Option Jvm.ClassFile.FieldType)).before args0 about1 = true := code_word (m := ⟨0, 0⟩) (meth := k0m0) (c := k0c0) (by decide +kernel) rfl rfl rfl (by decide +kernel)
set_option maxRecDepth 65536 in
theorem w_c5 : (Jvm.Cond.code ({ cls := "com/example/mathir_tools/mathirtools/formats/text/Utf8Order", name := "compare", desc := "(Ljava/lang/String;Ljava/lang/String;)I" } : Jvm.MethodName) prog_58_method_2_code (5 : Nat) (Option.some Jvm.ClassFile.FieldType.int)).before args0 about1 = true := code_word (m := ⟨8, 1⟩) (meth := k8m1) (c := k8c1) (by decide +kernel) rfl rfl rfl (by decide +kernel)
set_option maxRecDepth 65536 in
theorem w_c6 : (Jvm.Cond.code ({ cls := "java/lang/String", name := "length", desc := "()I" } : Jvm.MethodName) jdk_42_method_54_code (1 : Nat) (Option.some Jvm.ClassFile.FieldType.int)).before args0 about1 = true := code_word (m := ⟨7, 2⟩) (meth := k7m2) (c := k7c2) (by decide +kernel) rfl rfl rfl (by decide +kernel)
set_option maxRecDepth 65536 in
theorem w_c7 : (Jvm.Cond.code ({ cls := "java/lang/String", name := "coder", desc := "()B" } : Jvm.MethodName) jdk_42_method_152_code (1 : Nat) (Option.some Jvm.ClassFile.FieldType.byte)).before args0 about1 = true := code_word (m := ⟨7, 7⟩) (meth := k7m7) (c := k7c7) (by decide +kernel) rfl rfl rfl (by decide +kernel)
set_option maxRecDepth 65536 in
theorem w_c8 : (Jvm.Cond.code ({ cls := "java/lang/Integer", name := "compare", desc := "(II)I" } : Jvm.MethodName) jdk_33_method_40_code (2 : Nat) (Option.some Jvm.ClassFile.FieldType.int)).before args0 about1 = true := code_word (m := ⟨10, 0⟩) (meth := k10m0) (c := k10c0) (by decide +kernel) rfl rfl rfl (by decide +kernel)
set_option maxRecDepth 65536 in
theorem w_c9 : (Jvm.Cond.code ({ cls := "com/example/mathir_tools/mathirtools/formats/text/Utf8OrderComparePinLaw", name := "sign", desc := "(I)I" } : Jvm.MethodName) method_8_code (1 : Nat) (Option.some Jvm.ClassFile.FieldType.int)).before args0 about1 = true := code_word (m := ⟨1, 7⟩) (meth := k1m7) (c := k1c7) (by decide +kernel) rfl rfl rfl (by decide +kernel)
set_option maxRecDepth 65536 in
theorem w_c10 : (Jvm.Cond.code ({ cls := "com/example/mathir_tools/mathirtools/formats/text/Utf8OrderComparePinLaw", name := "count", desc := "(ICC)I" } : Jvm.MethodName) method_5_code (3 : Nat) (Option.some Jvm.ClassFile.FieldType.int)).before args0 about1 = true := code_word (m := ⟨1, 4⟩) (meth := k1m4) (c := k1c4) (by decide +kernel) rfl rfl rfl (by decide +kernel)
set_option maxRecDepth 65536 in
theorem w_c11 : (Jvm.Cond.code ({ cls := "com/example/mathir_tools/mathirtools/formats/text/Utf8OrderComparePinLaw", name := "isPair", desc := "(ICC)Z" } : Jvm.MethodName) method_4_code (3 : Nat) (Option.some Jvm.ClassFile.FieldType.boolean)).before args0 about1 = true := code_word (m := ⟨1, 3⟩) (meth := k1m3) (c := k1c3) (by decide +kernel) rfl rfl rfl (by decide +kernel)
set_option maxRecDepth 65536 in
theorem w_c12 : (Jvm.Cond.code ({ cls := "com/example/mathir_tools/mathirtools/formats/text/Utf8OrderComparePinLaw", name := "first", desc := "(ICC)I" } : Jvm.MethodName) method_6_code (3 : Nat) (Option.some Jvm.ClassFile.FieldType.int)).before args0 about1 = true := code_word (m := ⟨1, 5⟩) (meth := k1m5) (c := k1c5) (by decide +kernel) rfl rfl rfl (by decide +kernel)
set_option maxRecDepth 65536 in
theorem w_c13 : (Jvm.Cond.code ({ cls := "com/example/mathir_tools/mathirtools/formats/text/Utf8OrderComparePinLaw", name := "ref", desc := "(IIIIII)I" } : Jvm.MethodName) method_7_code (6 : Nat) (Option.some Jvm.ClassFile.FieldType.int)).before args0 about1 = true := code_word (m := ⟨1, 6⟩) (meth := k1m6) (c := k1c6) (by decide +kernel) rfl rfl rfl (by decide +kernel)
set_option maxRecDepth 65536 in
theorem w_c14 : (Jvm.Cond.code ({ cls := "java/lang/StringUTF16", name := "compress", desc := "([CII)[B" } : Jvm.MethodName) jdk_52_method_16_code (6 : Nat) (Option.some (Jvm.ClassFile.FieldType.array Jvm.ClassFile.FieldType.byte))).before args0 about1 = true := code_word (m := ⟨11, 9⟩) (meth := k11m9) (c := k11c9) (by decide +kernel) rfl rfl rfl (by decide +kernel)
set_option maxRecDepth 65536 in
theorem w_c15 : (Jvm.Cond.code ({ cls := "java/lang/StringUTF16", name := "compress", desc := "([CI[BII)I" } : Jvm.MethodName) jdk_52_method_21_code (7 : Nat) (Option.some Jvm.ClassFile.FieldType.int)).before args0 about1 = true := code_word (m := ⟨11, 10⟩) (meth := k11m10) (c := k11c10) (by decide +kernel) rfl rfl rfl (by decide +kernel)
set_option maxRecDepth 65536 in
theorem w_c16 : (Jvm.Cond.code ({ cls := "java/lang/StringUTF16", name := "coderFromArrayLen", desc := "([BI)B" } : Jvm.MethodName) jdk_52_method_15_code (2 : Nat) (Option.some Jvm.ClassFile.FieldType.byte)).before args0 about1 = true := code_word (m := ⟨11, 8⟩) (meth := k11m8) (c := k11c8) (by decide +kernel) rfl rfl rfl (by decide +kernel)
set_option maxRecDepth 65536 in
theorem w_c17 : (Jvm.Cond.code ({ cls := "java/lang/String", name := "valueOf", desc := "(C)Ljava/lang/String;" } : Jvm.MethodName) jdk_42_method_139_code (1 : Nat) (Option.some (Jvm.ClassFile.FieldType.object "java/lang/String"))).before args0 about1 = true := code_word (m := ⟨7, 4⟩) (meth := k7m4) (c := k7c4) (by decide +kernel) rfl rfl rfl (by decide +kernel)
set_option maxRecDepth 65536 in
theorem w_c18 : (Jvm.Cond.code ({ cls := "java/lang/StringLatin1", name := "canEncode", desc := "(C)Z" } : Jvm.MethodName) jdk_43_method_3_code (1 : Nat) (Option.some Jvm.ClassFile.FieldType.boolean)).before args0 about1 = true := code_word (m := ⟨12, 1⟩) (meth := k12m1) (c := k12c1) (by decide +kernel) rfl rfl rfl (by decide +kernel)
set_option maxRecDepth 65536 in
theorem w_c19 : (Jvm.Cond.code ({ cls := "java/lang/StringUTF16", name := "toBytes", desc := "(C)[B" } : Jvm.MethodName) jdk_52_method_24_code (2 : Nat) (Option.some (Jvm.ClassFile.FieldType.array Jvm.ClassFile.FieldType.byte))).before args0 about1 = true := code_word (m := ⟨11, 11⟩) (meth := k11m11) (c := k11c11) (by decide +kernel) rfl rfl rfl (by decide +kernel)
set_option maxRecDepth 65536 in
theorem w_c20 : (Jvm.Cond.code ({ cls := "java/lang/StringUTF16", name := "putChar", desc := "([BII)V" } : Jvm.MethodName) jdk_52_method_4_code (3 : Nat) (Option.none : Option Jvm.ClassFile.FieldType)).before args0 about1 = true := code_word (m := ⟨11, 3⟩) (meth := k11m3) (c := k11c3) (by decide +kernel) rfl rfl rfl (by decide +kernel)
set_option maxRecDepth 65536 in
theorem w_c21 : (Jvm.Cond.code ({ cls := "java/lang/String", name := "<init>", desc := "([BB)V" } : Jvm.MethodName) jdk_42_method_151_code (3 : Nat) (Option.none : Option Jvm.ClassFile.FieldType)).before args0 about1 = true := code_word (m := ⟨7, 6⟩) (meth := k7m6) (c := k7c6) (by decide +kernel) rfl rfl rfl (by decide +kernel)
set_option maxRecDepth 65536 in
theorem w_c22 : (Jvm.Cond.code ({ cls := "java/lang/StringLatin1", name := "toBytes", desc := "(C)[B" } : Jvm.MethodName) jdk_43_method_46_code (1 : Nat) (Option.some (Jvm.ClassFile.FieldType.array Jvm.ClassFile.FieldType.byte))).before args0 about1 = true := code_word (m := ⟨12, 2⟩) (meth := k12m2) (c := k12c2) (by decide +kernel) rfl rfl rfl (by decide +kernel)
set_option maxRecDepth 65536 in
theorem w_c23 : (Jvm.Cond.code ({ cls := "java/lang/StringUTF16", name := "toBytes", desc := "([CII)[B" } : Jvm.MethodName) jdk_52_method_14_code (5 : Nat) (Option.some (Jvm.ClassFile.FieldType.array Jvm.ClassFile.FieldType.byte))).before args0 about1 = true := code_word (m := ⟨11, 7⟩) (meth := k11m7) (c := k11c7) (by decide +kernel) rfl rfl rfl (by decide +kernel)
set_option maxRecDepth 65536 in
theorem w_c24 : (Jvm.Cond.code ({ cls := "java/lang/StringUTF16", name := "newBytesFor", desc := "(I)[B" } : Jvm.MethodName) jdk_52_method_2_code (1 : Nat) (Option.some (Jvm.ClassFile.FieldType.array Jvm.ClassFile.FieldType.byte))).before args0 about1 = true := code_word (m := ⟨11, 1⟩) (meth := k11m1) (c := k11c1) (by decide +kernel) rfl rfl rfl (by decide +kernel)
set_option maxRecDepth 65536 in
theorem w_c25 : (Jvm.Cond.code ({ cls := "java/lang/StringUTF16", name := "newBytesLength", desc := "(I)I" } : Jvm.MethodName) jdk_52_method_3_code (1 : Nat) (Option.some Jvm.ClassFile.FieldType.int)).before args0 about1 = true := code_word (m := ⟨11, 2⟩) (meth := k11m2) (c := k11c2) (by decide +kernel) rfl rfl rfl (by decide +kernel)
set_option maxRecDepth 65536 in
theorem w_c26 : (Jvm.Cond.code ({ cls := "java/lang/StringUTF16", name := "getChar", desc := "([BI)C" } : Jvm.MethodName) jdk_52_method_5_code (2 : Nat) (Option.some Jvm.ClassFile.FieldType.char)).before args0 about1 = true := code_word (m := ⟨11, 4⟩) (meth := k11m4) (c := k11c4) (by decide +kernel) rfl rfl rfl (by decide +kernel)
set_option maxRecDepth 65536 in
theorem w_c27 : (Jvm.Cond.code ({ cls := "java/lang/String", name := "codePointAt", desc := "(I)I" } : Jvm.MethodName) jdk_42_method_57_code (3 : Nat) (Option.some Jvm.ClassFile.FieldType.int)).before args0 about1 = true := code_word (m := ⟨7, 3⟩) (meth := k7m3) (c := k7c3) (by decide +kernel) rfl rfl rfl (by decide +kernel)
set_option maxRecDepth 65536 in
theorem w_c28 : (Jvm.Cond.code ({ cls := "java/lang/String", name := "isLatin1", desc := "()Z" } : Jvm.MethodName) jdk_42_method_154_code (1 : Nat) (Option.some Jvm.ClassFile.FieldType.boolean)).before args0 about1 = true := code_word (m := ⟨7, 8⟩) (meth := k7m8) (c := k7c8) (by decide +kernel) rfl rfl rfl (by decide +kernel)
set_option maxRecDepth 65536 in
theorem w_c29 : (Jvm.Cond.code ({ cls := "java/lang/String", name := "checkIndex", desc := "(II)V" } : Jvm.MethodName) jdk_42_method_155_code (2 : Nat) (Option.none : Option Jvm.ClassFile.FieldType)).before args0 about1 = true := code_word (m := ⟨7, 9⟩) (meth := k7m9) (c := k7c9) (by decide +kernel) rfl rfl rfl (by decide +kernel)
set_option maxRecDepth 65536 in
theorem w_c30 : (Jvm.Cond.code ({ cls := "jdk/internal/util/Preconditions", name := "checkIndex", desc := "(IILjava/util/function/BiFunction;)I" } : Jvm.MethodName) jdk_41_method_11_code (3 : Nat) (Option.some Jvm.ClassFile.FieldType.int)).before args0 about1 = true := code_word (m := ⟨13, 1⟩) (meth := k13m1) (c := k13c1) (by decide +kernel) rfl rfl rfl (by decide +kernel)
set_option maxRecDepth 65536 in
theorem w_c31 : (Jvm.Cond.code ({ cls := "java/lang/StringUTF16", name := "codePointAt", desc := "([BII)I" } : Jvm.MethodName) jdk_52_method_8_code (3 : Nat) (Option.some Jvm.ClassFile.FieldType.int)).before args0 about1 = true := code_word (m := ⟨11, 6⟩) (meth := k11m6) (c := k11c6) (by decide +kernel) rfl rfl rfl (by decide +kernel)
set_option maxRecDepth 65536 in
theorem w_c32 : (Jvm.Cond.code ({ cls := "java/lang/StringUTF16", name := "codePointAt", desc := "([BIIZ)I" } : Jvm.MethodName) jdk_52_method_7_code (6 : Nat) (Option.some Jvm.ClassFile.FieldType.int)).before args0 about1 = true := code_word (m := ⟨11, 5⟩) (meth := k11m5) (c := k11c5) (by decide +kernel) rfl rfl rfl (by decide +kernel)
set_option maxRecDepth 65536 in
theorem w_c33 : (Jvm.Cond.code ({ cls := "java/lang/Character", name := "isHighSurrogate", desc := "(C)Z" } : Jvm.MethodName) jdk_89_method_14_code (1 : Nat) (Option.some Jvm.ClassFile.FieldType.boolean)).before args0 about1 = true := code_word (m := ⟨14, 0⟩) (meth := k14m0) (c := k14c0) (by decide +kernel) rfl rfl rfl (by decide +kernel)
set_option maxRecDepth 65536 in
theorem w_c34 : (Jvm.Cond.code ({ cls := "java/lang/Character", name := "charCount", desc := "(I)I" } : Jvm.MethodName) jdk_89_method_18_code (1 : Nat) (Option.some Jvm.ClassFile.FieldType.int)).before args0 about1 = true := code_word (m := ⟨14, 2⟩) (meth := k14m2) (c := k14c2) (by decide +kernel) rfl rfl rfl (by decide +kernel)
set_option maxRecDepth 65536 in
theorem w_c35 : (Jvm.Cond.code ({ cls := "java/lang/Character", name := "isLowSurrogate", desc := "(C)Z" } : Jvm.MethodName) jdk_89_method_15_code (1 : Nat) (Option.some Jvm.ClassFile.FieldType.boolean)).before args0 about1 = true := code_word (m := ⟨14, 1⟩) (meth := k14m1) (c := k14c1) (by decide +kernel) rfl rfl rfl (by decide +kernel)
set_option maxRecDepth 65536 in
theorem w_c36 : (Jvm.Cond.code ({ cls := "java/lang/Character", name := "toCodePoint", desc := "(CC)I" } : Jvm.MethodName) jdk_89_method_19_code (2 : Nat) (Option.some Jvm.ClassFile.FieldType.int)).before args0 about1 = true := code_word (m := ⟨14, 3⟩) (meth := k14m3) (c := k14c3) (by decide +kernel) rfl rfl rfl (by decide +kernel)
def codes1 : List Jvm.Cond := [Jvm.Cond.code x code maxLocals ret, Jvm.Cond.code ({ cls := "com/example/mathir_tools/mathirtools/formats/text/Utf8OrderComparePinLaw", name := "make", desc := "(ICC)Ljava/lang/String;" } : Jvm.MethodName) method_3_code (4 : Nat) (Option.some (Jvm.ClassFile.FieldType.object "java/lang/String")), Jvm.Cond.code ({ cls := "java/lang/String", name := "<init>", desc := "([C)V" } : Jvm.MethodName) jdk_42_method_3_code (2 : Nat) (Option.none : Option Jvm.ClassFile.FieldType), Jvm.Cond.code ({ cls := "java/lang/String", name := "<init>", desc := "([CIILjava/lang/Void;)V" } : Jvm.MethodName) jdk_42_method_149_code (6 : Nat) (Option.none : Option Jvm.ClassFile.FieldType), Jvm.Cond.code ({ cls := "java/lang/Object", name := "<init>", desc := "()V" } : Jvm.MethodName) object_method_1_code (1 : Nat) (Option.none : Option Jvm.ClassFile.FieldType), Jvm.Cond.code ({ cls := "com/example/mathir_tools/mathirtools/formats/text/Utf8Order", name := "compare", desc := "(Ljava/lang/String;Ljava/lang/String;)I" } : Jvm.MethodName) prog_58_method_2_code (5 : Nat) (Option.some Jvm.ClassFile.FieldType.int), Jvm.Cond.code ({ cls := "java/lang/String", name := "length", desc := "()I" } : Jvm.MethodName) jdk_42_method_54_code (1 : Nat) (Option.some Jvm.ClassFile.FieldType.int), Jvm.Cond.code ({ cls := "java/lang/String", name := "coder", desc := "()B" } : Jvm.MethodName) jdk_42_method_152_code (1 : Nat) (Option.some Jvm.ClassFile.FieldType.byte), Jvm.Cond.code ({ cls := "java/lang/Integer", name := "compare", desc := "(II)I" } : Jvm.MethodName) jdk_33_method_40_code (2 : Nat) (Option.some Jvm.ClassFile.FieldType.int), Jvm.Cond.code ({ cls := "com/example/mathir_tools/mathirtools/formats/text/Utf8OrderComparePinLaw", name := "sign", desc := "(I)I" } : Jvm.MethodName) method_8_code (1 : Nat) (Option.some Jvm.ClassFile.FieldType.int), Jvm.Cond.code ({ cls := "com/example/mathir_tools/mathirtools/formats/text/Utf8OrderComparePinLaw", name := "count", desc := "(ICC)I" } : Jvm.MethodName) method_5_code (3 : Nat) (Option.some Jvm.ClassFile.FieldType.int), Jvm.Cond.code ({ cls := "com/example/mathir_tools/mathirtools/formats/text/Utf8OrderComparePinLaw", name := "isPair", desc := "(ICC)Z" } : Jvm.MethodName) method_4_code (3 : Nat) (Option.some Jvm.ClassFile.FieldType.boolean), Jvm.Cond.code ({ cls := "com/example/mathir_tools/mathirtools/formats/text/Utf8OrderComparePinLaw", name := "first", desc := "(ICC)I" } : Jvm.MethodName) method_6_code (3 : Nat) (Option.some Jvm.ClassFile.FieldType.int), Jvm.Cond.code ({ cls := "com/example/mathir_tools/mathirtools/formats/text/Utf8OrderComparePinLaw", name := "ref", desc := "(IIIIII)I" } : Jvm.MethodName) method_7_code (6 : Nat) (Option.some Jvm.ClassFile.FieldType.int), Jvm.Cond.code ({ cls := "java/lang/StringUTF16", name := "compress", desc := "([CII)[B" } : Jvm.MethodName) jdk_52_method_16_code (6 : Nat) (Option.some (Jvm.ClassFile.FieldType.array Jvm.ClassFile.FieldType.byte)), Jvm.Cond.code ({ cls := "java/lang/StringUTF16", name := "compress", desc := "([CI[BII)I" } : Jvm.MethodName) jdk_52_method_21_code (7 : Nat) (Option.some Jvm.ClassFile.FieldType.int), Jvm.Cond.code ({ cls := "java/lang/StringUTF16", name := "coderFromArrayLen", desc := "([BI)B" } : Jvm.MethodName) jdk_52_method_15_code (2 : Nat) (Option.some Jvm.ClassFile.FieldType.byte), Jvm.Cond.code ({ cls := "java/lang/String", name := "valueOf", desc := "(C)Ljava/lang/String;" } : Jvm.MethodName) jdk_42_method_139_code (1 : Nat) (Option.some (Jvm.ClassFile.FieldType.object "java/lang/String")), Jvm.Cond.code ({ cls := "java/lang/StringLatin1", name := "canEncode", desc := "(C)Z" } : Jvm.MethodName) jdk_43_method_3_code (1 : Nat) (Option.some Jvm.ClassFile.FieldType.boolean), Jvm.Cond.code ({ cls := "java/lang/StringUTF16", name := "toBytes", desc := "(C)[B" } : Jvm.MethodName) jdk_52_method_24_code (2 : Nat) (Option.some (Jvm.ClassFile.FieldType.array Jvm.ClassFile.FieldType.byte)), Jvm.Cond.code ({ cls := "java/lang/StringUTF16", name := "putChar", desc := "([BII)V" } : Jvm.MethodName) jdk_52_method_4_code (3 : Nat) (Option.none : Option Jvm.ClassFile.FieldType), Jvm.Cond.code ({ cls := "java/lang/String", name := "<init>", desc := "([BB)V" } : Jvm.MethodName) jdk_42_method_151_code (3 : Nat) (Option.none : Option Jvm.ClassFile.FieldType), Jvm.Cond.code ({ cls := "java/lang/StringLatin1", name := "toBytes", desc := "(C)[B" } : Jvm.MethodName) jdk_43_method_46_code (1 : Nat) (Option.some (Jvm.ClassFile.FieldType.array Jvm.ClassFile.FieldType.byte)), Jvm.Cond.code ({ cls := "java/lang/StringUTF16", name := "toBytes", desc := "([CII)[B" } : Jvm.MethodName) jdk_52_method_14_code (5 : Nat) (Option.some (Jvm.ClassFile.FieldType.array Jvm.ClassFile.FieldType.byte)), Jvm.Cond.code ({ cls := "java/lang/StringUTF16", name := "newBytesFor", desc := "(I)[B" } : Jvm.MethodName) jdk_52_method_2_code (1 : Nat) (Option.some (Jvm.ClassFile.FieldType.array Jvm.ClassFile.FieldType.byte)), Jvm.Cond.code ({ cls := "java/lang/StringUTF16", name := "newBytesLength", desc := "(I)I" } : Jvm.MethodName) jdk_52_method_3_code (1 : Nat) (Option.some Jvm.ClassFile.FieldType.int), Jvm.Cond.code ({ cls := "java/lang/StringUTF16", name := "getChar", desc := "([BI)C" } : Jvm.MethodName) jdk_52_method_5_code (2 : Nat) (Option.some Jvm.ClassFile.FieldType.char), Jvm.Cond.code ({ cls := "java/lang/String", name := "codePointAt", desc := "(I)I" } : Jvm.MethodName) jdk_42_method_57_code (3 : Nat) (Option.some Jvm.ClassFile.FieldType.int), Jvm.Cond.code ({ cls := "java/lang/String", name := "isLatin1", desc := "()Z" } : Jvm.MethodName) jdk_42_method_154_code (1 : Nat) (Option.some Jvm.ClassFile.FieldType.boolean), Jvm.Cond.code ({ cls := "java/lang/String", name := "checkIndex", desc := "(II)V" } : Jvm.MethodName) jdk_42_method_155_code (2 : Nat) (Option.none : Option Jvm.ClassFile.FieldType), Jvm.Cond.code ({ cls := "jdk/internal/util/Preconditions", name := "checkIndex", desc := "(IILjava/util/function/BiFunction;)I" } : Jvm.MethodName) jdk_41_method_11_code (3 : Nat) (Option.some Jvm.ClassFile.FieldType.int), Jvm.Cond.code ({ cls := "java/lang/StringUTF16", name := "codePointAt", desc := "([BII)I" } : Jvm.MethodName) jdk_52_method_8_code (3 : Nat) (Option.some Jvm.ClassFile.FieldType.int), Jvm.Cond.code ({ cls := "java/lang/StringUTF16", name := "codePointAt", desc := "([BIIZ)I" } : Jvm.MethodName) jdk_52_method_7_code (6 : Nat) (Option.some Jvm.ClassFile.FieldType.int), Jvm.Cond.code ({ cls := "java/lang/Character", name := "isHighSurrogate", desc := "(C)Z" } : Jvm.MethodName) jdk_89_method_14_code (1 : Nat) (Option.some Jvm.ClassFile.FieldType.boolean), Jvm.Cond.code ({ cls := "java/lang/Character", name := "charCount", desc := "(I)I" } : Jvm.MethodName) jdk_89_method_18_code (1 : Nat) (Option.some Jvm.ClassFile.FieldType.int), Jvm.Cond.code ({ cls := "java/lang/Character", name := "isLowSurrogate", desc := "(C)Z" } : Jvm.MethodName) jdk_89_method_15_code (1 : Nat) (Option.some Jvm.ClassFile.FieldType.boolean), Jvm.Cond.code ({ cls := "java/lang/Character", name := "toCodePoint", desc := "(CC)I" } : Jvm.MethodName) jdk_89_method_19_code (2 : Nat) (Option.some Jvm.ClassFile.FieldType.int)]
set_option maxRecDepth 65536 in
theorem codes_eq : words1.filter isCode = codes1 := rfl
theorem w_codes : ∀ c ∈ words1.filter isCode, c.before args0 about1 = true := by
  rw [codes_eq]
  intro c hc
  simp only [codes1, List.mem_cons, List.not_mem_nil, or_false] at hc
  rcases hc with rfl | rfl | rfl | rfl | rfl | rfl | rfl | rfl | rfl | rfl | rfl | rfl | rfl | rfl | rfl | rfl | rfl | rfl | rfl | rfl | rfl | rfl | rfl | rfl | rfl | rfl | rfl | rfl | rfl | rfl | rfl | rfl | rfl | rfl | rfl | rfl | rfl
  · exact w_c0
  · exact w_c1
  · exact w_c2
  · exact w_c3
  · exact w_c4
  · exact w_c5
  · exact w_c6
  · exact w_c7
  · exact w_c8
  · exact w_c9
  · exact w_c10
  · exact w_c11
  · exact w_c12
  · exact w_c13
  · exact w_c14
  · exact w_c15
  · exact w_c16
  · exact w_c17
  · exact w_c18
  · exact w_c19
  · exact w_c20
  · exact w_c21
  · exact w_c22
  · exact w_c23
  · exact w_c24
  · exact w_c25
  · exact w_c26
  · exact w_c27
  · exact w_c28
  · exact w_c29
  · exact w_c30
  · exact w_c31
  · exact w_c32
  · exact w_c33
  · exact w_c34
  · exact w_c35
  · exact w_c36
set_option maxRecDepth 65536 in
theorem w_t1 : (words1.take 24).all (fun c => isCode c || c.before args0 about1) = true := by decide +kernel
set_option maxRecDepth 65536 in
theorem w_t2 : ((words1.drop 24).take 24).all (fun c => isCode c || c.before args0 about1) = true := by decide +kernel
set_option maxRecDepth 65536 in
theorem w_t3 : (((words1.drop 24).drop 24).take 24).all (fun c => isCode c || c.before args0 about1) = true := by decide +kernel
set_option maxRecDepth 65536 in
theorem w_t4 : ((((words1.drop 24).drop 24).drop 24).take 24).all (fun c => isCode c || c.before args0 about1) = true := by decide +kernel
set_option maxRecDepth 65536 in
theorem w_t5 : (((((words1.drop 24).drop 24).drop 24).drop 24).take 24).all (fun c => isCode c || c.before args0 about1) = true := by decide +kernel
set_option maxRecDepth 65536 in
theorem w_t6 : ((((((words1.drop 24).drop 24).drop 24).drop 24).drop 24).take 24).all (fun c => isCode c || c.before args0 about1) = true := by decide +kernel
set_option maxRecDepth 65536 in
theorem w_t7 : ((((((words1.drop 24).drop 24).drop 24).drop 24).drop 24).drop 24).all (fun c => isCode c || c.before args0 about1) = true := by decide +kernel
theorem w_tables : (allAtoms (Jvm.Cond.code x code maxLocals ret :: tables_1)).before args0 about1 = true := by
  rw [allAtoms_all]
  show words1.all (fun c => c.before args0 about1) = true
  refine all_split ?_ w_codes
  rw [← List.take_append_drop 24 words1, List.all_append, w_t1, ← List.take_append_drop 24 (words1.drop 24), List.all_append, w_t2, ← List.take_append_drop 24 ((words1.drop 24).drop 24), List.all_append, w_t3, ← List.take_append_drop 24 (((words1.drop 24).drop 24).drop 24), List.all_append, w_t4, ← List.take_append_drop 24 ((((words1.drop 24).drop 24).drop 24).drop 24), List.all_append, w_t5, ← List.take_append_drop 24 (((((words1.drop 24).drop 24).drop 24).drop 24).drop 24), List.all_append, w_t6, w_t7]
  rfl
set_option maxRecDepth 65536 in
theorem w_rest : rest_1_c.before args0 about1 = true := by decide +kernel
set_option maxRecDepth 65536 in
theorem w_case : (Jvm.Cond.and given_1 narrow_1).before args0 about1 = true := by decide +kernel
set_option maxRecDepth 65536 in
theorem w_consts : constsHeld consts_1 about1 := Jvm.Lit.constsHeldB_iff.mp (by decide +kernel)
theorem w_applies : (headSpec (Jvm.Cond.code x code maxLocals ret :: tables_1) room_1).applies x e0.platform about1 = true :=
  (Spec.applies_iff w_frames).mpr ⟨w_running, w_runnable, w_alone, w_named, w_hears, w_ripe, w_room, w_tables⟩
theorem atStart : AtStart classFile x code maxLocals ret World_1 tables_1 room_1 Calls_1 rest_1 Pre_1 launch0 p0 e0 about1 theMethod args0 below0 :=
  ⟨lists_1, trivial, launch0.admits_env _ _ _, launch0.least_env, fairChoices_fair.cas, fairChoices_fair.clock, w_frames, w_args, w_heap, w_applies, ⟨w_consts, trivial⟩, w_rest, w_case⟩
end start1
theorem witness_1 : WitnessClaimed_1 := ⟨start1.p0, start1.e0, start1.about1, start1.theMethod, start1.args0, start1.below0, start1.atStart⟩
end Jvm.Pilot.@@N@@
