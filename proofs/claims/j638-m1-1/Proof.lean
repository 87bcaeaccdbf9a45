import JvmDerived
import JvmDerived.Pilot.@@N@@Statement
import JvmDerived.Pilot.@@N@@Code
set_option linter.unusedVariables false
set_option linter.unusedSimpArgs false
namespace Jvm.RoadKit
open Sem ClassFile Op Lib Jvm.Stand Jvm.Free Jvm.LawKit
section New
variable {p : Program} {l : Launch} {e : Env} {R : Room} {s : State} {m : MethodId} {args : Array Value} {below : List Frame} {meth : Method} {c : Code} {T : State} {locs : List Loc} {cells slots : Nat}
theorem retI (X : Stand p l e R s m args below meth c T locs cells slots) (hx : p.tables.exec = Jvm.exec) {pc : Nat} {Ls : Array Slot} {z : Int32} {rest : List Value} (hret : meth.sig.returnType = some .int) (hd : decode c.code pc = .ok (.ireturn, 1)) {fs : List Frame}
    (hl : ∀ (f : JFrame) (acts : List Action), f.method = m → f.locked = none → f.entered = [] → (doReturn e (T.setTop f) acts (some (.int z))).1 = T.setFrames fs) : Steps p.tables e below (T.setTop (mkF m pc Ls (.int z :: rest))) (T.setFrames fs) := by
  have hm' : T.vm.method? m = some meth := X.method'
  have hn : narrow .int (.int z) = .int z := rfl
  show Steps p.tables e below (T.setTop { method := m, pc := pc, locals := Ls, stack := _ :: rest, locked := none }) _
  jvm_step X.here [X.here.top, hx, hd, hm', hret, hn]
  first | (intro acts; rw [hl _ acts rfl rfl rfl]) | rw [hl _ _ rfl rfl rfl]
  exact Steps.refl _
end New
end Jvm.RoadKit
namespace Jvm.Pilot.@@N@@
open Jvm Jvm.ClassFile Sem Op Lib Jvm.Free Jvm.Stand Jvm.LawKit Jvm.RoadKit Bundle Jvm.Pilot.@@N@@.Jvm.D
section Own
variable {p : Program} {l : Launch} {e : Env} {R : Room} {s : State} {m : MethodId} {args : Array Value} {below : List Frame} {meth : Method} {c : Code} {T : State} {locs : List Loc} {cells slots : Nat}
/-- from U the run comes to an end that Q allows -/
def own_Go (p : Program) (e : Env) (below : List Frame) (s : State) (kc ks : Nat) (Q : Option Value → Heap → List Loc → Prop) (U : State) : Prop :=
  ∃ s₂ o, Steps p.tables e below U s₂ ∧ s₂.status = .running ∧ Ended s₂ below o ∧ ∃ v L, o = .returned v ∧ Q v s₂.heap L ∧ FrameEnd s o s₂ L kc ks
theorem own_step {kc ks : Nat} {Q : Option Value → Heap → List Loc → Prop} {U U' : State} (k : ∀ t, Steps p.tables e below U' t → Steps p.tables e below U t) (g : own_Go p e below s kc ks Q U') : own_Go p e below s kc ks Q U := by
  obtain ⟨s₂, o, h, r⟩ := g
  exact ⟨s₂, o, k _ h, r⟩
theorem own_ret {kc ks : Nat} {Q : Option Value → Heap → List Loc → Prop} {U : State} (X : Stand p l e R s m args below meth c T locs cells slots) {v : Option Value} (hv : meth.sig.returnType = none → v = none) (hlocks : meth.locks = false) (hk : cells ≤ kc) (hs : slots ≤ ks) (hq : Q v T.heap locs)
    (k : ∀ fs, (∀ (f : JFrame) (acts : List Action), f.method = m → f.locked = none → f.entered = [] → (doReturn e (T.setTop f) acts v).1 = T.setFrames fs) → Steps p.tables e below U (T.setFrames fs)) : own_Go p e below s kc ks Q U := by
  obtain ⟨fs, hr, hrun, hended, hW, hsame⟩ := X.leave (v := v) hv hlocks
  exact ⟨_, _, k fs hr, hrun, hended, v, locs, rfl, hq, ⟨_, rfl⟩, hW, hsame.mono hk hs⟩
theorem own_narR {t : FieldType} {v : Value} (h : v.isRef = true) : narrow t v = v := by cases v <;> first | (cases h; done) | (cases t <;> rfl)
theorem own_fitR {t : String} {v : Value} (h : v.isRef = true) : fits (.object t) v = true := by cases v <;> first | (cases h; done) | rfl
theorem own_at {h : Heap} {a : Addr} {k : Cell} (e : T.heap = h) (q : h[a]? = some k) : T.heap[a]? = some k := e ▸ q
theorem own_pl0 {h : Heap} : ∀ a ∈ ([] : List Addr), ∀ c : Cell, h[a]? = some c → c.vm.isStatics = false := fun _ q => nomatch q
theorem own_plE {Z : State} {h : Heap} {a : Addr} {C : String} {ws : List Addr} (E : Exa Z h a C) (r : ∀ x ∈ ws, ∀ c : Cell, h[x]? = some c → c.vm.isStatics = false) : ∀ x ∈ a :: ws, ∀ c : Cell, h[x]? = some c → c.vm.isStatics = false := fun x hx c hc => by
  rcases List.mem_cons.mp hx with rfl | q
  · obtain ⟨cell, k, h1, -, -, h4, -⟩ := E
    cases h1.symm.trans hc; exact h4
  · exact r x q c hc
theorem own_plF {Z : State} {h : Heap} {a : Addr} {C n d : String} {v : Value} {ws : List Addr} (E : Fld Z h a C n d v) (r : ∀ x ∈ ws, ∀ c : Cell, h[x]? = some c → c.vm.isStatics = false) : ∀ x ∈ a :: ws, ∀ c : Cell, h[x]? = some c → c.vm.isStatics = false := fun x hx c hc => by
  rcases List.mem_cons.mp hx with rfl | q
  · exact old_plain E c hc
  · exact r x q c hc
theorem own_plV {Z : State} {h : Heap} {a : Addr} {k : ClassId} {ty : FieldType} {z : Int32} {vs : List Value} {d : Value} {ws : List Addr} (E : Arv Z h a k ty z vs d) (r : ∀ x ∈ ws, ∀ c : Cell, h[x]? = some c → c.vm.isStatics = false) : ∀ x ∈ a :: ws, ∀ c : Cell, h[x]? = some c → c.vm.isStatics = false := fun x hx c hc => by
  rcases List.mem_cons.mp hx with rfl | q
  · obtain ⟨cl, A, -⟩ := E
    cases A.1.symm.trans hc; exact A.plain
  · exact r x q c hc
theorem own_sta_keep {Z : State} {h h' : Heap} {C n d : String} {w : Value} {ws : List Addr} (F : Sta Z h C n d w) (K : Keep h h' ws) (r : ∀ x ∈ ws, ∀ c : Cell, h[x]? = some c → c.vm.isStatics = false) : Sta Z h' C n d w := by
  obtain ⟨cf, i, k, f, st, cell, h1, h2, h3, h4, h5, h6, h7⟩ := F
  exact ⟨cf, i, k, f, st, cell, h1, h2, h3, h4, K.2.1 st cell h5 (fun q => by rw [r st q cell h5] at h6; cases h6), h6, h7⟩
end Own
def own_mix (z : Int64) : Int64 :=
  let a := (z ^^^ XT.ushrL z 30) * (-4658895280553007687)
  let b := (a ^^^ XT.ushrL a 27) * (-7723592293110705685)
  b ^^^ XT.ushrL b 31
def own_inv (a : Int64) : Int64 :=
  let x1 := a * (2 - a * a)
  let x2 := x1 * (2 - a * x1)
  let x3 := x2 * (2 - a * x2)
  let x4 := x3 * (2 - a * x3)
  x4 * (2 - a * x4)
def own_unmix (z : Int64) : Int64 :=
  let a := ((z ^^^ XT.ushrL z 31) ^^^ XT.ushrL z 62) * own_inv (-7723592293110705685)
  let b := ((a ^^^ XT.ushrL a 27) ^^^ XT.ushrL a 54) * own_inv (-4658895280553007687)
  (b ^^^ XT.ushrL b 30) ^^^ XT.ushrL b 60
theorem own_ushr_bv (x : Int64) (k : Nat) (y : Int32) (h : (y.toInt64.toUInt64 &&& Int64.toUInt64 63).toNat = k) (hk : k < 64) : (XT.ushrL x y).toBitVec = x.toBitVec >>> k := by
  unfold XT.ushrL
  show (x.toUInt64 >>> (y.toInt64.toUInt64 &&& Int64.toUInt64 63)).toBitVec = _
  rw [UInt64.toBitVec_shiftRight]
  apply BitVec.eq_of_toNat_eq
  have e : ((y.toInt64.toUInt64 &&& Int64.toUInt64 63).toBitVec % 64).toNat = k := by
    rw [BitVec.toNat_umod]
    show (y.toInt64.toUInt64 &&& Int64.toUInt64 63).toNat % _ = _
    rw [h]; exact Nat.mod_eq_of_lt hk
  rw [BitVec.ushiftRight_eq', e]
  rfl
theorem own_xs {w : Nat} (x : BitVec w) (s : Nat) (h : w ≤ s + s + s) : ((x ^^^ x >>> s) ^^^ ((x ^^^ x >>> s) >>> s)) ^^^ ((x ^^^ x >>> s) >>> (s + s)) = x := by
  rw [BitVec.ushiftRight_xor_distrib, BitVec.ushiftRight_xor_distrib, ← BitVec.shiftRight_add, ← BitVec.shiftRight_add]
  have : x >>> (s + (s + s)) = 0#w := by
    apply BitVec.eq_of_toNat_eq
    rw [BitVec.toNat_ushiftRight, Nat.shiftRight_eq_div_pow]
    have := x.isLt
    rw [Nat.div_eq_of_lt]; rfl
    calc x.toNat < 2 ^ w := this
      _ ≤ 2 ^ (s + (s + s)) := Nat.pow_le_pow_right (by decide) (by omega)
  rw [this]
  generalize x >>> s = a
  generalize x >>> (s + s) = b
  apply BitVec.eq_of_getLsbD_eq
  intro i hi
  simp only [BitVec.getLsbD_xor, BitVec.getLsbD_zero]
  cases x.getLsbD i <;> cases a.getLsbD i <;> cases b.getLsbD i <;> rfl
theorem own_xsL (x : Int64) (y z : Int32) (s : Nat) (h1 : (y.toInt64.toUInt64 &&& Int64.toUInt64 63).toNat = s) (h2 : (z.toInt64.toUInt64 &&& Int64.toUInt64 63).toNat = s + s) (h3 : s + s < 64) (h4 : 64 ≤ s + s + s) :
    ((x ^^^ XT.ushrL x y) ^^^ XT.ushrL (x ^^^ XT.ushrL x y) y) ^^^ XT.ushrL (x ^^^ XT.ushrL x y) z = x := by
  apply Int64.toBitVec_inj.mp
  rw [Int64.toBitVec_xor, Int64.toBitVec_xor, own_ushr_bv _ _ _ h1 (by omega), own_ushr_bv _ _ _ h2 h3, Int64.toBitVec_xor, own_ushr_bv _ _ _ h1 (by omega)]
  exact own_xs _ _ h4
theorem own_mulinv1 (x : Int64) : x * (-7723592293110705685) * own_inv (-7723592293110705685) = x := by
  rw [Int64.mul_assoc]
  have : (-7723592293110705685 : Int64) * own_inv (-7723592293110705685) = 1 := by decide +kernel
  rw [this, Int64.mul_one]
theorem own_mulinv2 (x : Int64) : x * (-4658895280553007687) * own_inv (-4658895280553007687) = x := by
  rw [Int64.mul_assoc]
  have : (-4658895280553007687 : Int64) * own_inv (-4658895280553007687) = 1 := by decide +kernel
  rw [this, Int64.mul_one]
theorem own_unmix_mix (z : Int64) : own_unmix (own_mix z) = z := by
  unfold own_unmix own_mix
  simp only []
  rw [own_xsL _ 31 62 31 (by decide) (by decide) (by decide) (by decide), own_mulinv1, own_xsL _ 27 54 27 (by decide) (by decide) (by decide) (by decide), own_mulinv2, own_xsL _ 30 60 30 (by decide) (by decide) (by decide) (by decide)]
theorem own_pn0 : plainName "com/example/eigentuple/eigentuple/io/SplitMix" = true := by first | (simp [plainName, overriddenIn]; done) | decide +kernel
theorem own_d1_0 : decode prog_4_method_1_code 0 = .ok (.aload_n 0, 1) := by decide +kernel
theorem own_d1_1 : decode prog_4_method_1_code 1 = .ok (.invokespecial 1, 3) := by decide +kernel
theorem own_d1_4 : decode prog_4_method_1_code 4 = .ok (.aload_n 0, 1) := by decide +kernel
theorem own_d1_5 : decode prog_4_method_1_code 5 = .ok (.lload_n 1, 1) := by decide +kernel
theorem own_d1_6 : decode prog_4_method_1_code 6 = .ok (.putfield 7, 3) := by decide +kernel
theorem own_d1_9 : decode prog_4_method_1_code 9 = .ok (.return_, 1) := by decide +kernel
def own_Q_ini (Z : State) (a1 : Addr) (x1 : Int64) (c1 : Int64) (h0 : Heap) (n0 : Nat) (v : Option Value) (h : Heap) (L : List Loc) : Prop := v = none ∧ Fr n0 L ∧ Keep h0 h [a1] ∧ (Fld Z h a1 "com/example/eigentuple/eigentuple/io/SplitMix" "state" "J" (.long x1)) ∧ (Exa Z h a1 "com/example/eigentuple/eigentuple/io/SplitMix")
set_option maxRecDepth 65536 in
set_option maxHeartbeats 40000000 in
theorem own_m_ini (l : Launch) (Z : State) (a0 : Array Value) (hw : ∀ d ∈ tables_1, d.before a0 Z = true) (ws : List Jvm.Cond) (a1 : Addr) (x1 : Int64) (c1 : Int64) (h0 : Heap) (n0 : Nat) (Z0 : n0 ≤ h0.size) (g_a1 : n0 ≤ a1) (F1 : Fld Z h0 a1 "com/example/eigentuple/eigentuple/io/SplitMix" "state" "J" (.long c1)) (E1 : Exa Z h0 a1 "com/example/eigentuple/eigentuple/io/SplitMix") :
    MetFree l (⟨"com/example/eigentuple/eigentuple/io/SplitMix", "<init>", "(J)V"⟩ : MethodName) (head1 (Jvm.Cond.code (⟨"com/example/eigentuple/eigentuple/io/SplitMix", "<init>", "(J)V"⟩ : MethodName) prog_4_method_1_code 3 none :: ws) ({ frames := 1, cells := 0, slots := 0, locals := 12 } : Room)) (fun a U => a = #[(.ref a1), (.long x1)] ∧ Z.Warmed39 U.vm ∧ U.heap = h0) (fun _ _ _ _ _ => True) (fun _ U o U' => ∃ v L, o = .returned v ∧ own_Q_ini Z a1 x1 c1 h0 n0 v U'.heap L ∧ FrameEnd U o U' L ({ frames := 1, cells := 0, slots := 0, locals := 12 } : Room).cells ({ frames := 1, cells := 0, slots := 0, locals := 12 } : Room).slots) := by
  refine MetFree.of_bodySF (plainFor_of_name own_pn0) hisR ?_
  intro p e s m args below meth c s₁ Bd hml0 hP hK
  obtain ⟨rfl, hZ, hh⟩ := hP
  have hx := Bd.exec
  have hby := Bd.bytes
  have hml : c.maxLocals = 3 := hml0
  have hown : s.vm.findClass "com/example/eigentuple/eigentuple/io/SplitMix" = some m.cls := findClass_of_methodNamed Bd.named
  have hnm := (name_of_methodNamed Bd.named Bd.method).1
  have X0 : Stand p l e ({ frames := 1, cells := 0, slots := 0, locals := 12 } : Room) s m #[(.ref a1), (.long x1)] below meth c s₁ [] 0 0 := Stand.of_body Bd
  have e0 : s₁.heap = h0 := by rw [← hh, Bd.state]; rfl
  have N0 := Fr.nil n0
  have K0 : Keep h0 h0 [a1] := Keep.refl _ _
  show own_Go p e below s ({ frames := 1, cells := 0, slots := 0, locals := 12 } : Room).cells ({ frames := 1, cells := 0, slots := 0, locals := 12 } : Room).slots (own_Q_ini Z a1 x1 c1 h0 n0) (s₁.setTop (entryFrame m #[(.ref a1), (.long x1)] 3))
  have ef : entryFrame m #[(.ref a1), (.long x1)] 3 = (mkF m 0 #[.val (.ref a1), .val (.long x1), .second] []) := by first | rfl | (simp [entryFrame, mkF, argsToLocals, Value.category, maxLocals]; done)
  rw [ef]
  show own_Go p e below s _ _ _ (s₁.setTop (mkF m 0 #[.val (.ref a1), .val (.long x1), .second] []))
  refine own_step (U' := (s₁.setTop (mkF m 1 #[.val (.ref a1), .val (.long x1), .second] [(.ref a1)]))) (fun t ht => XS.aloadN X0.here hx rfl (hb hby own_d1_0) rfl rfl ht) ?_
  obtain ⟨T1, X1, e1, st1⟩ := initO X0 hx hZ hown (hw _ (List.mem_of_getElem? (i := 7) rfl)) (hw _ (List.mem_of_getElem? (i := 8) rfl)) (hw _ (List.mem_of_getElem? (i := 9) rfl)) e0 (g := (mkF m 1 #[.val (.ref a1), .val (.long x1), .second] [(.ref a1)])) rfl (by rw [hml]; rfl) rfl (hb hby own_d1_1) (by decide) (W := 0) (by show 2 * 0 + _ ≤ _; exact Nat.le_of_eq rfl) (by decide)
  refine own_step (U' := (T1.setTop (mkF m 4 #[.val (.ref a1), .val (.long x1), .second] []))) (fun t ht => st1 _ ht) ?_
  refine own_step (U' := (T1.setTop (mkF m 5 #[.val (.ref a1), .val (.long x1), .second] [(.ref a1)]))) (fun t ht => XS.aloadN X1.here hx rfl (hb hby own_d1_4) rfl rfl ht) ?_
  refine own_step (U' := (T1.setTop (mkF m 6 #[.val (.ref a1), .val (.long x1), .second] [(.long x1), (.ref a1)]))) (fun t ht => XT.lloadN X1.here hx rfl (hb hby own_d1_5) rfl ht) ?_
  obtain ⟨T2, h2, X2, e2, W2, st2⟩ := putF X1 hx hZ hown (host := "") (Or.inl (hw _ (List.mem_of_getElem? (i := 10) rfl))) Via.refl e1 F1 E1 (Or.inl (hw _ (List.mem_of_getElem? (i := 11) rfl))) (hw _ (List.mem_of_getElem? (i := 2) rfl)) (ty := .long) (by decide) rfl rfl (g := (mkF m 6 #[.val (.ref a1), .val (.long x1), .second] [(.long x1), (.ref a1)])) rfl rfl (hb hby own_d1_6)
  have f2_1 : Exa Z h2 a1 "com/example/eigentuple/eigentuple/io/SplitMix" := E1.wr W2
  have F2 := F1.same W2
  have N2 := Fr.snoc X2 N0 g_a1
  have K2 : Keep h0 h2 [a1] := K0.wr W2 (Or.inl (by simp))
  refine own_step (U' := (T2.setTop (mkF m 9 #[.val (.ref a1), .val (.long x1), .second] []))) (fun t ht => st2 _ ht) ?_
  refine own_ret X2 (v := none) (fun _ => rfl) Bd.notSynchronized (by decide) (by decide) ?_ (fun fs hr => X2.returnOut hx Bd.returns (hb hby own_d1_9) hr)
  show own_Q_ini Z a1 x1 c1 h0 n0 _ T2.heap _
  rw [e2]
  exact ⟨rfl, N2, K2, F2, f2_1⟩
theorem own_d3_0 : decode prog_4_method_2_code 0 = .ok (.aload_n 0, 1) := by decide +kernel
theorem own_d3_1 : decode prog_4_method_2_code 1 = .ok (.dup, 1) := by decide +kernel
theorem own_d3_2 : decode prog_4_method_2_code 2 = .ok (.getfield 7, 3) := by decide +kernel
theorem own_d3_5 : decode prog_4_method_2_code 5 = .ok (.ldc2_w 13, 3) := by decide +kernel
theorem own_d3_8 : decode prog_4_method_2_code 8 = .ok (.ladd, 1) := by decide +kernel
theorem own_d3_9 : decode prog_4_method_2_code 9 = .ok (.putfield 7, 3) := by decide +kernel
theorem own_d3_12 : decode prog_4_method_2_code 12 = .ok (.aload_n 0, 1) := by decide +kernel
theorem own_d3_13 : decode prog_4_method_2_code 13 = .ok (.getfield 7, 3) := by decide +kernel
theorem own_d3_16 : decode prog_4_method_2_code 16 = .ok (.lstore_n 1, 1) := by decide +kernel
theorem own_d3_17 : decode prog_4_method_2_code 17 = .ok (.lload_n 1, 1) := by decide +kernel
theorem own_d3_18 : decode prog_4_method_2_code 18 = .ok (.lload_n 1, 1) := by decide +kernel
theorem own_d3_19 : decode prog_4_method_2_code 19 = .ok (.bipush 30, 2) := by decide +kernel
theorem own_d3_21 : decode prog_4_method_2_code 21 = .ok (.lushr, 1) := by decide +kernel
theorem own_d3_22 : decode prog_4_method_2_code 22 = .ok (.lxor, 1) := by decide +kernel
theorem own_d3_23 : decode prog_4_method_2_code 23 = .ok (.ldc2_w 15, 3) := by decide +kernel
theorem own_d3_26 : decode prog_4_method_2_code 26 = .ok (.lmul, 1) := by decide +kernel
theorem own_d3_27 : decode prog_4_method_2_code 27 = .ok (.lstore_n 1, 1) := by decide +kernel
theorem own_d3_28 : decode prog_4_method_2_code 28 = .ok (.lload_n 1, 1) := by decide +kernel
theorem own_d3_29 : decode prog_4_method_2_code 29 = .ok (.lload_n 1, 1) := by decide +kernel
theorem own_d3_30 : decode prog_4_method_2_code 30 = .ok (.bipush 27, 2) := by decide +kernel
theorem own_d3_32 : decode prog_4_method_2_code 32 = .ok (.lushr, 1) := by decide +kernel
theorem own_d3_33 : decode prog_4_method_2_code 33 = .ok (.lxor, 1) := by decide +kernel
theorem own_d3_34 : decode prog_4_method_2_code 34 = .ok (.ldc2_w 17, 3) := by decide +kernel
theorem own_d3_37 : decode prog_4_method_2_code 37 = .ok (.lmul, 1) := by decide +kernel
theorem own_d3_38 : decode prog_4_method_2_code 38 = .ok (.lstore_n 1, 1) := by decide +kernel
theorem own_d3_39 : decode prog_4_method_2_code 39 = .ok (.lload_n 1, 1) := by decide +kernel
theorem own_d3_40 : decode prog_4_method_2_code 40 = .ok (.lload_n 1, 1) := by decide +kernel
theorem own_d3_41 : decode prog_4_method_2_code 41 = .ok (.bipush 31, 2) := by decide +kernel
theorem own_d3_43 : decode prog_4_method_2_code 43 = .ok (.lushr, 1) := by decide +kernel
theorem own_d3_44 : decode prog_4_method_2_code 44 = .ok (.lxor, 1) := by decide +kernel
theorem own_d3_45 : decode prog_4_method_2_code 45 = .ok (.lreturn, 1) := by decide +kernel
def own_Q_nl (Z : State) (a1 : Addr) (c1 : Int64) (h0 : Heap) (n0 : Nat) (v : Option Value) (h : Heap) (L : List Loc) : Prop := v = some (.long (own_mix (c1 + (-7046029254386353131 : Int64)))) ∧ Fr n0 L ∧ Keep h0 h [a1] ∧ (Fld Z h a1 "com/example/eigentuple/eigentuple/io/SplitMix" "state" "J" (.long (c1 + (-7046029254386353131 : Int64)))) ∧ (Exa Z h a1 "com/example/eigentuple/eigentuple/io/SplitMix")
set_option maxRecDepth 65536 in
set_option maxHeartbeats 40000000 in
theorem own_m_nl (l : Launch) (Z : State) (a0 : Array Value) (hw : ∀ d ∈ tables_1, d.before a0 Z = true) (ws : List Jvm.Cond) (a1 : Addr) (c1 : Int64) (h0 : Heap) (n0 : Nat) (Z0 : n0 ≤ h0.size) (g_a1 : n0 ≤ a1) (F1 : Fld Z h0 a1 "com/example/eigentuple/eigentuple/io/SplitMix" "state" "J" (.long c1)) (E1 : Exa Z h0 a1 "com/example/eigentuple/eigentuple/io/SplitMix") :
    MetFree l (⟨"com/example/eigentuple/eigentuple/io/SplitMix", "nextLong", "()J"⟩ : MethodName) (head1 (Jvm.Cond.code (⟨"com/example/eigentuple/eigentuple/io/SplitMix", "nextLong", "()J"⟩ : MethodName) prog_4_method_2_code 3 (some .long) :: ws) ({ frames := 0, cells := 0, slots := 0, locals := 0 } : Room)) (fun a U => a = #[(.ref a1)] ∧ Z.Warmed39 U.vm ∧ U.heap = h0) (fun _ _ _ _ _ => True) (fun _ U o U' => ∃ v L, o = .returned v ∧ own_Q_nl Z a1 c1 h0 n0 v U'.heap L ∧ FrameEnd U o U' L ({ frames := 0, cells := 0, slots := 0, locals := 0 } : Room).cells ({ frames := 0, cells := 0, slots := 0, locals := 0 } : Room).slots) := by
  refine MetFree.of_bodySF (plainFor_of_name own_pn0) hisR ?_
  intro p e s m args below meth c s₁ Bd hml0 hP hK
  obtain ⟨rfl, hZ, hh⟩ := hP
  have hx := Bd.exec
  have hby := Bd.bytes
  have hml : c.maxLocals = 3 := hml0
  have hown : s.vm.findClass "com/example/eigentuple/eigentuple/io/SplitMix" = some m.cls := findClass_of_methodNamed Bd.named
  have hnm := (name_of_methodNamed Bd.named Bd.method).1
  have X0 : Stand p l e ({ frames := 0, cells := 0, slots := 0, locals := 0 } : Room) s m #[(.ref a1)] below meth c s₁ [] 0 0 := Stand.of_body Bd
  have e0 : s₁.heap = h0 := by rw [← hh, Bd.state]; rfl
  have N0 := Fr.nil n0
  have K0 : Keep h0 h0 [a1] := Keep.refl _ _
  show own_Go p e below s ({ frames := 0, cells := 0, slots := 0, locals := 0 } : Room).cells ({ frames := 0, cells := 0, slots := 0, locals := 0 } : Room).slots (own_Q_nl Z a1 c1 h0 n0) (s₁.setTop (entryFrame m #[(.ref a1)] 3))
  have ef : entryFrame m #[(.ref a1)] 3 = (mkF m 0 #[.val (.ref a1), .unset, .unset] []) := by first | rfl | (simp [entryFrame, mkF, argsToLocals, Value.category, maxLocals]; done)
  rw [ef]
  show own_Go p e below s _ _ _ (s₁.setTop (mkF m 0 #[.val (.ref a1), .unset, .unset] []))
  refine own_step (U' := (s₁.setTop (mkF m 1 #[.val (.ref a1), .unset, .unset] [(.ref a1)]))) (fun t ht => XS.aloadN X0.here hx rfl (hb hby own_d3_0) rfl rfl ht) ?_
  refine own_step (U' := (s₁.setTop (mkF m 2 #[.val (.ref a1), .unset, .unset] [(.ref a1), (.ref a1)]))) (fun t ht => XS.dup X0.here hx rfl (hb hby own_d3_1) rfl rfl ht) ?_
  obtain ⟨T3, X3, e3, st3⟩ := getF X0 hx hZ hown (host := "") (Or.inl (hw _ (List.mem_of_getElem? (i := 10) rfl))) Via.refl e0 F1 (g := (mkF m 2 #[.val (.ref a1), .unset, .unset] [(.ref a1), (.ref a1)])) rfl rfl (hb hby own_d3_2)
  refine own_step (U' := (T3.setTop (mkF m 5 #[.val (.ref a1), .unset, .unset] [(.long c1), (.ref a1)]))) (fun t ht => st3 _ ht) ?_
  refine own_step (U' := (T3.setTop (mkF m 8 #[.val (.ref a1), .unset, .unset] [(.long (-7046029254386353131 : Int64)), (.long c1), (.ref a1)]))) (fun t ht => X3.ldc2Long hx hown (mvT hZ (hw _ (List.mem_of_getElem? (i := 17) rfl))) (g := (mkF m 5 #[.val (.ref a1), .unset, .unset] [(.long c1), (.ref a1)])) rfl (hb hby own_d3_5) _ ht) ?_
  refine own_step (U' := (T3.setTop (mkF m 9 #[.val (.ref a1), .unset, .unset] [(.long (c1 + (-7046029254386353131 : Int64))), (.ref a1)]))) (fun t ht => XT.ladd X3.here hx rfl (hb hby own_d3_8) rfl ht) ?_
  obtain ⟨T4, h4, X4, e4, W4, st4⟩ := putF X3 hx hZ hown (host := "") (Or.inl (hw _ (List.mem_of_getElem? (i := 10) rfl))) Via.refl e3 F1 E1 (Or.inl (hw _ (List.mem_of_getElem? (i := 11) rfl))) (hw _ (List.mem_of_getElem? (i := 2) rfl)) (ty := .long) (by decide) rfl rfl (g := (mkF m 9 #[.val (.ref a1), .unset, .unset] [(.long (c1 + (-7046029254386353131 : Int64))), (.ref a1)])) rfl rfl (hb hby own_d3_9)
  have f4_1 : Exa Z h4 a1 "com/example/eigentuple/eigentuple/io/SplitMix" := E1.wr W4
  have F4 := F1.same W4
  have N4 := Fr.snoc X4 N0 g_a1
  have K4 : Keep h0 h4 [a1] := K0.wr W4 (Or.inl (by simp))
  refine own_step (U' := (T4.setTop (mkF m 12 #[.val (.ref a1), .unset, .unset] []))) (fun t ht => st4 _ ht) ?_
  refine own_step (U' := (T4.setTop (mkF m 13 #[.val (.ref a1), .unset, .unset] [(.ref a1)]))) (fun t ht => XS.aloadN X4.here hx rfl (hb hby own_d3_12) rfl rfl ht) ?_
  obtain ⟨T5, X5, e5, st5⟩ := getF X4 hx hZ hown (host := "") (Or.inl (hw _ (List.mem_of_getElem? (i := 10) rfl))) Via.refl e4 F4 (g := (mkF m 13 #[.val (.ref a1), .unset, .unset] [(.ref a1)])) rfl rfl (hb hby own_d3_13)
  refine own_step (U' := (T5.setTop (mkF m 16 #[.val (.ref a1), .unset, .unset] [(.long (c1 + (-7046029254386353131 : Int64)))]))) (fun t ht => st5 _ ht) ?_
  refine own_step (U' := (T5.setTop (mkF m 17 #[.val (.ref a1), .val (.long (c1 + (-7046029254386353131 : Int64))), .second] []))) (fun t ht => XT.lstoreN X5.here hx rfl (hb hby own_d3_16) rfl (l' := #[.val (.ref a1), .val (.long (c1 + (-7046029254386353131 : Int64))), .second]) rfl ht) ?_
  refine own_step (U' := (T5.setTop (mkF m 18 #[.val (.ref a1), .val (.long (c1 + (-7046029254386353131 : Int64))), .second] [(.long (c1 + (-7046029254386353131 : Int64)))]))) (fun t ht => XT.lloadN X5.here hx rfl (hb hby own_d3_17) rfl ht) ?_
  refine own_step (U' := (T5.setTop (mkF m 19 #[.val (.ref a1), .val (.long (c1 + (-7046029254386353131 : Int64))), .second] [(.long (c1 + (-7046029254386353131 : Int64))), (.long (c1 + (-7046029254386353131 : Int64)))]))) (fun t ht => XT.lloadN X5.here hx rfl (hb hby own_d3_18) rfl ht) ?_
  refine own_step (U' := (T5.setTop (mkF m 21 #[.val (.ref a1), .val (.long (c1 + (-7046029254386353131 : Int64))), .second] [(.int (30 : Int32)), (.long (c1 + (-7046029254386353131 : Int64))), (.long (c1 + (-7046029254386353131 : Int64)))]))) (fun t ht => XS.bipush X5.here hx rfl (hb hby own_d3_19) ht) ?_
  refine own_step (U' := (T5.setTop (mkF m 22 #[.val (.ref a1), .val (.long (c1 + (-7046029254386353131 : Int64))), .second] [(.long (XT.ushrL (c1 + (-7046029254386353131 : Int64)) (30 : Int32))), (.long (c1 + (-7046029254386353131 : Int64)))]))) (fun t ht => XT.lushr X5.here hx rfl (hb hby own_d3_21) rfl ht) ?_
  refine own_step (U' := (T5.setTop (mkF m 23 #[.val (.ref a1), .val (.long (c1 + (-7046029254386353131 : Int64))), .second] [(.long ((c1 + (-7046029254386353131 : Int64)) ^^^ (XT.ushrL (c1 + (-7046029254386353131 : Int64)) (30 : Int32))))]))) (fun t ht => XT.lxor X5.here hx rfl (hb hby own_d3_22) rfl ht) ?_
  refine own_step (U' := (T5.setTop (mkF m 26 #[.val (.ref a1), .val (.long (c1 + (-7046029254386353131 : Int64))), .second] [(.long (-4658895280553007687 : Int64)), (.long ((c1 + (-7046029254386353131 : Int64)) ^^^ (XT.ushrL (c1 + (-7046029254386353131 : Int64)) (30 : Int32))))]))) (fun t ht => X5.ldc2Long hx hown (mvT hZ (hw _ (List.mem_of_getElem? (i := 18) rfl))) (g := (mkF m 23 #[.val (.ref a1), .val (.long (c1 + (-7046029254386353131 : Int64))), .second] [(.long ((c1 + (-7046029254386353131 : Int64)) ^^^ (XT.ushrL (c1 + (-7046029254386353131 : Int64)) (30 : Int32))))])) rfl (hb hby own_d3_23) _ ht) ?_
  refine own_step (U' := (T5.setTop (mkF m 27 #[.val (.ref a1), .val (.long (c1 + (-7046029254386353131 : Int64))), .second] [(.long (((c1 + (-7046029254386353131 : Int64)) ^^^ (XT.ushrL (c1 + (-7046029254386353131 : Int64)) (30 : Int32))) * (-4658895280553007687 : Int64)))]))) (fun t ht => XT.lmul X5.here hx rfl (hb hby own_d3_26) rfl ht) ?_
  refine own_step (U' := (T5.setTop (mkF m 28 #[.val (.ref a1), .val (.long (((c1 + (-7046029254386353131 : Int64)) ^^^ (XT.ushrL (c1 + (-7046029254386353131 : Int64)) (30 : Int32))) * (-4658895280553007687 : Int64))), .second] []))) (fun t ht => XT.lstoreN X5.here hx rfl (hb hby own_d3_27) rfl (l' := #[.val (.ref a1), .val (.long (((c1 + (-7046029254386353131 : Int64)) ^^^ (XT.ushrL (c1 + (-7046029254386353131 : Int64)) (30 : Int32))) * (-4658895280553007687 : Int64))), .second]) rfl ht) ?_
  refine own_step (U' := (T5.setTop (mkF m 29 #[.val (.ref a1), .val (.long (((c1 + (-7046029254386353131 : Int64)) ^^^ (XT.ushrL (c1 + (-7046029254386353131 : Int64)) (30 : Int32))) * (-4658895280553007687 : Int64))), .second] [(.long (((c1 + (-7046029254386353131 : Int64)) ^^^ (XT.ushrL (c1 + (-7046029254386353131 : Int64)) (30 : Int32))) * (-4658895280553007687 : Int64)))]))) (fun t ht => XT.lloadN X5.here hx rfl (hb hby own_d3_28) rfl ht) ?_
  refine own_step (U' := (T5.setTop (mkF m 30 #[.val (.ref a1), .val (.long (((c1 + (-7046029254386353131 : Int64)) ^^^ (XT.ushrL (c1 + (-7046029254386353131 : Int64)) (30 : Int32))) * (-4658895280553007687 : Int64))), .second] [(.long (((c1 + (-7046029254386353131 : Int64)) ^^^ (XT.ushrL (c1 + (-7046029254386353131 : Int64)) (30 : Int32))) * (-4658895280553007687 : Int64))), (.long (((c1 + (-7046029254386353131 : Int64)) ^^^ (XT.ushrL (c1 + (-7046029254386353131 : Int64)) (30 : Int32))) * (-4658895280553007687 : Int64)))]))) (fun t ht => XT.lloadN X5.here hx rfl (hb hby own_d3_29) rfl ht) ?_
  refine own_step (U' := (T5.setTop (mkF m 32 #[.val (.ref a1), .val (.long (((c1 + (-7046029254386353131 : Int64)) ^^^ (XT.ushrL (c1 + (-7046029254386353131 : Int64)) (30 : Int32))) * (-4658895280553007687 : Int64))), .second] [(.int (27 : Int32)), (.long (((c1 + (-7046029254386353131 : Int64)) ^^^ (XT.ushrL (c1 + (-7046029254386353131 : Int64)) (30 : Int32))) * (-4658895280553007687 : Int64))), (.long (((c1 + (-7046029254386353131 : Int64)) ^^^ (XT.ushrL (c1 + (-7046029254386353131 : Int64)) (30 : Int32))) * (-4658895280553007687 : Int64)))]))) (fun t ht => XS.bipush X5.here hx rfl (hb hby own_d3_30) ht) ?_
  refine own_step (U' := (T5.setTop (mkF m 33 #[.val (.ref a1), .val (.long (((c1 + (-7046029254386353131 : Int64)) ^^^ (XT.ushrL (c1 + (-7046029254386353131 : Int64)) (30 : Int32))) * (-4658895280553007687 : Int64))), .second] [(.long (XT.ushrL (((c1 + (-7046029254386353131 : Int64)) ^^^ (XT.ushrL (c1 + (-7046029254386353131 : Int64)) (30 : Int32))) * (-4658895280553007687 : Int64)) (27 : Int32))), (.long (((c1 + (-7046029254386353131 : Int64)) ^^^ (XT.ushrL (c1 + (-7046029254386353131 : Int64)) (30 : Int32))) * (-4658895280553007687 : Int64)))]))) (fun t ht => XT.lushr X5.here hx rfl (hb hby own_d3_32) rfl ht) ?_
  refine own_step (U' := (T5.setTop (mkF m 34 #[.val (.ref a1), .val (.long (((c1 + (-7046029254386353131 : Int64)) ^^^ (XT.ushrL (c1 + (-7046029254386353131 : Int64)) (30 : Int32))) * (-4658895280553007687 : Int64))), .second] [(.long ((((c1 + (-7046029254386353131 : Int64)) ^^^ (XT.ushrL (c1 + (-7046029254386353131 : Int64)) (30 : Int32))) * (-4658895280553007687 : Int64)) ^^^ (XT.ushrL (((c1 + (-7046029254386353131 : Int64)) ^^^ (XT.ushrL (c1 + (-7046029254386353131 : Int64)) (30 : Int32))) * (-4658895280553007687 : Int64)) (27 : Int32))))]))) (fun t ht => XT.lxor X5.here hx rfl (hb hby own_d3_33) rfl ht) ?_
  refine own_step (U' := (T5.setTop (mkF m 37 #[.val (.ref a1), .val (.long (((c1 + (-7046029254386353131 : Int64)) ^^^ (XT.ushrL (c1 + (-7046029254386353131 : Int64)) (30 : Int32))) * (-4658895280553007687 : Int64))), .second] [(.long (-7723592293110705685 : Int64)), (.long ((((c1 + (-7046029254386353131 : Int64)) ^^^ (XT.ushrL (c1 + (-7046029254386353131 : Int64)) (30 : Int32))) * (-4658895280553007687 : Int64)) ^^^ (XT.ushrL (((c1 + (-7046029254386353131 : Int64)) ^^^ (XT.ushrL (c1 + (-7046029254386353131 : Int64)) (30 : Int32))) * (-4658895280553007687 : Int64)) (27 : Int32))))]))) (fun t ht => X5.ldc2Long hx hown (mvT hZ (hw _ (List.mem_of_getElem? (i := 19) rfl))) (g := (mkF m 34 #[.val (.ref a1), .val (.long (((c1 + (-7046029254386353131 : Int64)) ^^^ (XT.ushrL (c1 + (-7046029254386353131 : Int64)) (30 : Int32))) * (-4658895280553007687 : Int64))), .second] [(.long ((((c1 + (-7046029254386353131 : Int64)) ^^^ (XT.ushrL (c1 + (-7046029254386353131 : Int64)) (30 : Int32))) * (-4658895280553007687 : Int64)) ^^^ (XT.ushrL (((c1 + (-7046029254386353131 : Int64)) ^^^ (XT.ushrL (c1 + (-7046029254386353131 : Int64)) (30 : Int32))) * (-4658895280553007687 : Int64)) (27 : Int32))))])) rfl (hb hby own_d3_34) _ ht) ?_
  refine own_step (U' := (T5.setTop (mkF m 38 #[.val (.ref a1), .val (.long (((c1 + (-7046029254386353131 : Int64)) ^^^ (XT.ushrL (c1 + (-7046029254386353131 : Int64)) (30 : Int32))) * (-4658895280553007687 : Int64))), .second] [(.long (((((c1 + (-7046029254386353131 : Int64)) ^^^ (XT.ushrL (c1 + (-7046029254386353131 : Int64)) (30 : Int32))) * (-4658895280553007687 : Int64)) ^^^ (XT.ushrL (((c1 + (-7046029254386353131 : Int64)) ^^^ (XT.ushrL (c1 + (-7046029254386353131 : Int64)) (30 : Int32))) * (-4658895280553007687 : Int64)) (27 : Int32))) * (-7723592293110705685 : Int64)))]))) (fun t ht => XT.lmul X5.here hx rfl (hb hby own_d3_37) rfl ht) ?_
  refine own_step (U' := (T5.setTop (mkF m 39 #[.val (.ref a1), .val (.long (((((c1 + (-7046029254386353131 : Int64)) ^^^ (XT.ushrL (c1 + (-7046029254386353131 : Int64)) (30 : Int32))) * (-4658895280553007687 : Int64)) ^^^ (XT.ushrL (((c1 + (-7046029254386353131 : Int64)) ^^^ (XT.ushrL (c1 + (-7046029254386353131 : Int64)) (30 : Int32))) * (-4658895280553007687 : Int64)) (27 : Int32))) * (-7723592293110705685 : Int64))), .second] []))) (fun t ht => XT.lstoreN X5.here hx rfl (hb hby own_d3_38) rfl (l' := #[.val (.ref a1), .val (.long (((((c1 + (-7046029254386353131 : Int64)) ^^^ (XT.ushrL (c1 + (-7046029254386353131 : Int64)) (30 : Int32))) * (-4658895280553007687 : Int64)) ^^^ (XT.ushrL (((c1 + (-7046029254386353131 : Int64)) ^^^ (XT.ushrL (c1 + (-7046029254386353131 : Int64)) (30 : Int32))) * (-4658895280553007687 : Int64)) (27 : Int32))) * (-7723592293110705685 : Int64))), .second]) rfl ht) ?_
  refine own_step (U' := (T5.setTop (mkF m 40 #[.val (.ref a1), .val (.long (((((c1 + (-7046029254386353131 : Int64)) ^^^ (XT.ushrL (c1 + (-7046029254386353131 : Int64)) (30 : Int32))) * (-4658895280553007687 : Int64)) ^^^ (XT.ushrL (((c1 + (-7046029254386353131 : Int64)) ^^^ (XT.ushrL (c1 + (-7046029254386353131 : Int64)) (30 : Int32))) * (-4658895280553007687 : Int64)) (27 : Int32))) * (-7723592293110705685 : Int64))), .second] [(.long (((((c1 + (-7046029254386353131 : Int64)) ^^^ (XT.ushrL (c1 + (-7046029254386353131 : Int64)) (30 : Int32))) * (-4658895280553007687 : Int64)) ^^^ (XT.ushrL (((c1 + (-7046029254386353131 : Int64)) ^^^ (XT.ushrL (c1 + (-7046029254386353131 : Int64)) (30 : Int32))) * (-4658895280553007687 : Int64)) (27 : Int32))) * (-7723592293110705685 : Int64)))]))) (fun t ht => XT.lloadN X5.here hx rfl (hb hby own_d3_39) rfl ht) ?_
  refine own_step (U' := (T5.setTop (mkF m 41 #[.val (.ref a1), .val (.long (((((c1 + (-7046029254386353131 : Int64)) ^^^ (XT.ushrL (c1 + (-7046029254386353131 : Int64)) (30 : Int32))) * (-4658895280553007687 : Int64)) ^^^ (XT.ushrL (((c1 + (-7046029254386353131 : Int64)) ^^^ (XT.ushrL (c1 + (-7046029254386353131 : Int64)) (30 : Int32))) * (-4658895280553007687 : Int64)) (27 : Int32))) * (-7723592293110705685 : Int64))), .second] [(.long (((((c1 + (-7046029254386353131 : Int64)) ^^^ (XT.ushrL (c1 + (-7046029254386353131 : Int64)) (30 : Int32))) * (-4658895280553007687 : Int64)) ^^^ (XT.ushrL (((c1 + (-7046029254386353131 : Int64)) ^^^ (XT.ushrL (c1 + (-7046029254386353131 : Int64)) (30 : Int32))) * (-4658895280553007687 : Int64)) (27 : Int32))) * (-7723592293110705685 : Int64))), (.long (((((c1 + (-7046029254386353131 : Int64)) ^^^ (XT.ushrL (c1 + (-7046029254386353131 : Int64)) (30 : Int32))) * (-4658895280553007687 : Int64)) ^^^ (XT.ushrL (((c1 + (-7046029254386353131 : Int64)) ^^^ (XT.ushrL (c1 + (-7046029254386353131 : Int64)) (30 : Int32))) * (-4658895280553007687 : Int64)) (27 : Int32))) * (-7723592293110705685 : Int64)))]))) (fun t ht => XT.lloadN X5.here hx rfl (hb hby own_d3_40) rfl ht) ?_
  refine own_step (U' := (T5.setTop (mkF m 43 #[.val (.ref a1), .val (.long (((((c1 + (-7046029254386353131 : Int64)) ^^^ (XT.ushrL (c1 + (-7046029254386353131 : Int64)) (30 : Int32))) * (-4658895280553007687 : Int64)) ^^^ (XT.ushrL (((c1 + (-7046029254386353131 : Int64)) ^^^ (XT.ushrL (c1 + (-7046029254386353131 : Int64)) (30 : Int32))) * (-4658895280553007687 : Int64)) (27 : Int32))) * (-7723592293110705685 : Int64))), .second] [(.int (31 : Int32)), (.long (((((c1 + (-7046029254386353131 : Int64)) ^^^ (XT.ushrL (c1 + (-7046029254386353131 : Int64)) (30 : Int32))) * (-4658895280553007687 : Int64)) ^^^ (XT.ushrL (((c1 + (-7046029254386353131 : Int64)) ^^^ (XT.ushrL (c1 + (-7046029254386353131 : Int64)) (30 : Int32))) * (-4658895280553007687 : Int64)) (27 : Int32))) * (-7723592293110705685 : Int64))), (.long (((((c1 + (-7046029254386353131 : Int64)) ^^^ (XT.ushrL (c1 + (-7046029254386353131 : Int64)) (30 : Int32))) * (-4658895280553007687 : Int64)) ^^^ (XT.ushrL (((c1 + (-7046029254386353131 : Int64)) ^^^ (XT.ushrL (c1 + (-7046029254386353131 : Int64)) (30 : Int32))) * (-4658895280553007687 : Int64)) (27 : Int32))) * (-7723592293110705685 : Int64)))]))) (fun t ht => XS.bipush X5.here hx rfl (hb hby own_d3_41) ht) ?_
  refine own_step (U' := (T5.setTop (mkF m 44 #[.val (.ref a1), .val (.long (((((c1 + (-7046029254386353131 : Int64)) ^^^ (XT.ushrL (c1 + (-7046029254386353131 : Int64)) (30 : Int32))) * (-4658895280553007687 : Int64)) ^^^ (XT.ushrL (((c1 + (-7046029254386353131 : Int64)) ^^^ (XT.ushrL (c1 + (-7046029254386353131 : Int64)) (30 : Int32))) * (-4658895280553007687 : Int64)) (27 : Int32))) * (-7723592293110705685 : Int64))), .second] [(.long (XT.ushrL (((((c1 + (-7046029254386353131 : Int64)) ^^^ (XT.ushrL (c1 + (-7046029254386353131 : Int64)) (30 : Int32))) * (-4658895280553007687 : Int64)) ^^^ (XT.ushrL (((c1 + (-7046029254386353131 : Int64)) ^^^ (XT.ushrL (c1 + (-7046029254386353131 : Int64)) (30 : Int32))) * (-4658895280553007687 : Int64)) (27 : Int32))) * (-7723592293110705685 : Int64)) (31 : Int32))), (.long (((((c1 + (-7046029254386353131 : Int64)) ^^^ (XT.ushrL (c1 + (-7046029254386353131 : Int64)) (30 : Int32))) * (-4658895280553007687 : Int64)) ^^^ (XT.ushrL (((c1 + (-7046029254386353131 : Int64)) ^^^ (XT.ushrL (c1 + (-7046029254386353131 : Int64)) (30 : Int32))) * (-4658895280553007687 : Int64)) (27 : Int32))) * (-7723592293110705685 : Int64)))]))) (fun t ht => XT.lushr X5.here hx rfl (hb hby own_d3_43) rfl ht) ?_
  refine own_step (U' := (T5.setTop (mkF m 45 #[.val (.ref a1), .val (.long (((((c1 + (-7046029254386353131 : Int64)) ^^^ (XT.ushrL (c1 + (-7046029254386353131 : Int64)) (30 : Int32))) * (-4658895280553007687 : Int64)) ^^^ (XT.ushrL (((c1 + (-7046029254386353131 : Int64)) ^^^ (XT.ushrL (c1 + (-7046029254386353131 : Int64)) (30 : Int32))) * (-4658895280553007687 : Int64)) (27 : Int32))) * (-7723592293110705685 : Int64))), .second] [(.long ((((((c1 + (-7046029254386353131 : Int64)) ^^^ (XT.ushrL (c1 + (-7046029254386353131 : Int64)) (30 : Int32))) * (-4658895280553007687 : Int64)) ^^^ (XT.ushrL (((c1 + (-7046029254386353131 : Int64)) ^^^ (XT.ushrL (c1 + (-7046029254386353131 : Int64)) (30 : Int32))) * (-4658895280553007687 : Int64)) (27 : Int32))) * (-7723592293110705685 : Int64)) ^^^ (XT.ushrL (((((c1 + (-7046029254386353131 : Int64)) ^^^ (XT.ushrL (c1 + (-7046029254386353131 : Int64)) (30 : Int32))) * (-4658895280553007687 : Int64)) ^^^ (XT.ushrL (((c1 + (-7046029254386353131 : Int64)) ^^^ (XT.ushrL (c1 + (-7046029254386353131 : Int64)) (30 : Int32))) * (-4658895280553007687 : Int64)) (27 : Int32))) * (-7723592293110705685 : Int64)) (31 : Int32))))]))) (fun t ht => XT.lxor X5.here hx rfl (hb hby own_d3_44) rfl ht) ?_
  refine own_ret X5 (v := (some (.long ((((((c1 + (-7046029254386353131 : Int64)) ^^^ (XT.ushrL (c1 + (-7046029254386353131 : Int64)) (30 : Int32))) * (-4658895280553007687 : Int64)) ^^^ (XT.ushrL (((c1 + (-7046029254386353131 : Int64)) ^^^ (XT.ushrL (c1 + (-7046029254386353131 : Int64)) (30 : Int32))) * (-4658895280553007687 : Int64)) (27 : Int32))) * (-7723592293110705685 : Int64)) ^^^ (XT.ushrL (((((c1 + (-7046029254386353131 : Int64)) ^^^ (XT.ushrL (c1 + (-7046029254386353131 : Int64)) (30 : Int32))) * (-4658895280553007687 : Int64)) ^^^ (XT.ushrL (((c1 + (-7046029254386353131 : Int64)) ^^^ (XT.ushrL (c1 + (-7046029254386353131 : Int64)) (30 : Int32))) * (-4658895280553007687 : Int64)) (27 : Int32))) * (-7723592293110705685 : Int64)) (31 : Int32)))))) (fun h => by rw [Bd.returns] at h; cases h) Bd.notSynchronized (by decide) (by decide) ?_ (fun fs hr => retOut X5 hx (t := .long) Bd.returns rfl (Or.inr (Or.inl ⟨rfl, rfl, _, rfl⟩)) (hb hby own_d3_45) hr)
  show own_Q_nl Z a1 c1 h0 n0 _ T5.heap _
  rw [e5]
  exact ⟨rfl, N4, K4, F4, f4_1⟩
theorem own_pn1 : plainName "com/example/eigentuple/eigentuple/io/SplitMixNextLongPinLaw" = true := by first | (simp [plainName, overriddenIn]; done) | decide +kernel
theorem own_d5_0 : decode method_2_code 0 = .ok (.lload_n 0, 1) := by decide +kernel
theorem own_d5_1 : decode method_2_code 1 = .ok (.lstore_n 2, 1) := by decide +kernel
theorem own_d5_2 : decode method_2_code 2 = .ok (.lload_n 2, 1) := by decide +kernel
theorem own_d5_3 : decode method_2_code 3 = .ok (.ldc2_w 7, 3) := by decide +kernel
theorem own_d5_6 : decode method_2_code 6 = .ok (.lload_n 0, 1) := by decide +kernel
theorem own_d5_7 : decode method_2_code 7 = .ok (.lload_n 2, 1) := by decide +kernel
theorem own_d5_8 : decode method_2_code 8 = .ok (.lmul, 1) := by decide +kernel
theorem own_d5_9 : decode method_2_code 9 = .ok (.lsub, 1) := by decide +kernel
theorem own_d5_10 : decode method_2_code 10 = .ok (.lmul, 1) := by decide +kernel
theorem own_d5_11 : decode method_2_code 11 = .ok (.lstore_n 2, 1) := by decide +kernel
theorem own_d5_12 : decode method_2_code 12 = .ok (.lload_n 2, 1) := by decide +kernel
theorem own_d5_13 : decode method_2_code 13 = .ok (.ldc2_w 7, 3) := by decide +kernel
theorem own_d5_16 : decode method_2_code 16 = .ok (.lload_n 0, 1) := by decide +kernel
theorem own_d5_17 : decode method_2_code 17 = .ok (.lload_n 2, 1) := by decide +kernel
theorem own_d5_18 : decode method_2_code 18 = .ok (.lmul, 1) := by decide +kernel
theorem own_d5_19 : decode method_2_code 19 = .ok (.lsub, 1) := by decide +kernel
theorem own_d5_20 : decode method_2_code 20 = .ok (.lmul, 1) := by decide +kernel
theorem own_d5_21 : decode method_2_code 21 = .ok (.lstore_n 2, 1) := by decide +kernel
theorem own_d5_22 : decode method_2_code 22 = .ok (.lload_n 2, 1) := by decide +kernel
theorem own_d5_23 : decode method_2_code 23 = .ok (.ldc2_w 7, 3) := by decide +kernel
theorem own_d5_26 : decode method_2_code 26 = .ok (.lload_n 0, 1) := by decide +kernel
theorem own_d5_27 : decode method_2_code 27 = .ok (.lload_n 2, 1) := by decide +kernel
theorem own_d5_28 : decode method_2_code 28 = .ok (.lmul, 1) := by decide +kernel
theorem own_d5_29 : decode method_2_code 29 = .ok (.lsub, 1) := by decide +kernel
theorem own_d5_30 : decode method_2_code 30 = .ok (.lmul, 1) := by decide +kernel
theorem own_d5_31 : decode method_2_code 31 = .ok (.lstore_n 2, 1) := by decide +kernel
theorem own_d5_32 : decode method_2_code 32 = .ok (.lload_n 2, 1) := by decide +kernel
theorem own_d5_33 : decode method_2_code 33 = .ok (.ldc2_w 7, 3) := by decide +kernel
theorem own_d5_36 : decode method_2_code 36 = .ok (.lload_n 0, 1) := by decide +kernel
theorem own_d5_37 : decode method_2_code 37 = .ok (.lload_n 2, 1) := by decide +kernel
theorem own_d5_38 : decode method_2_code 38 = .ok (.lmul, 1) := by decide +kernel
theorem own_d5_39 : decode method_2_code 39 = .ok (.lsub, 1) := by decide +kernel
theorem own_d5_40 : decode method_2_code 40 = .ok (.lmul, 1) := by decide +kernel
theorem own_d5_41 : decode method_2_code 41 = .ok (.lstore_n 2, 1) := by decide +kernel
theorem own_d5_42 : decode method_2_code 42 = .ok (.lload_n 2, 1) := by decide +kernel
theorem own_d5_43 : decode method_2_code 43 = .ok (.ldc2_w 7, 3) := by decide +kernel
theorem own_d5_46 : decode method_2_code 46 = .ok (.lload_n 0, 1) := by decide +kernel
theorem own_d5_47 : decode method_2_code 47 = .ok (.lload_n 2, 1) := by decide +kernel
theorem own_d5_48 : decode method_2_code 48 = .ok (.lmul, 1) := by decide +kernel
theorem own_d5_49 : decode method_2_code 49 = .ok (.lsub, 1) := by decide +kernel
theorem own_d5_50 : decode method_2_code 50 = .ok (.lmul, 1) := by decide +kernel
theorem own_d5_51 : decode method_2_code 51 = .ok (.lstore_n 2, 1) := by decide +kernel
theorem own_d5_52 : decode method_2_code 52 = .ok (.lload_n 2, 1) := by decide +kernel
theorem own_d5_53 : decode method_2_code 53 = .ok (.lreturn, 1) := by decide +kernel
def own_Q_inv (Z : State) (p1 : Int64) (h0 : Heap) (n0 : Nat) (v : Option Value) (h : Heap) (L : List Loc) : Prop := v = some (.long (own_inv p1)) ∧ Fr n0 L ∧ h = h0
set_option maxRecDepth 65536 in
set_option maxHeartbeats 40000000 in
theorem own_m_inv (l : Launch) (Z : State) (a0 : Array Value) (hw : ∀ d ∈ tables_1, d.before a0 Z = true) (ws : List Jvm.Cond) (p1 : Int64) (h0 : Heap) (n0 : Nat) (Z0 : n0 ≤ h0.size)  :
    MetFree l (⟨"com/example/eigentuple/eigentuple/io/SplitMixNextLongPinLaw", "inverse", "(J)J"⟩ : MethodName) (head1 (Jvm.Cond.code (⟨"com/example/eigentuple/eigentuple/io/SplitMixNextLongPinLaw", "inverse", "(J)J"⟩ : MethodName) method_2_code 4 (some .long) :: ws) ({ frames := 0, cells := 0, slots := 0, locals := 0 } : Room)) (fun a U => a = #[(.long p1)] ∧ Z.Warmed39 U.vm ∧ U.heap = h0) (fun _ _ _ _ _ => True) (fun _ U o U' => ∃ v L, o = .returned v ∧ own_Q_inv Z p1 h0 n0 v U'.heap L ∧ FrameEnd U o U' L ({ frames := 0, cells := 0, slots := 0, locals := 0 } : Room).cells ({ frames := 0, cells := 0, slots := 0, locals := 0 } : Room).slots) := by
  refine MetFree.of_bodySF (plainFor_of_name own_pn1) hisR ?_
  intro p e s m args below meth c s₁ Bd hml0 hP hK
  obtain ⟨rfl, hZ, hh⟩ := hP
  have hx := Bd.exec
  have hby := Bd.bytes
  have hml : c.maxLocals = 4 := hml0
  have hown : s.vm.findClass "com/example/eigentuple/eigentuple/io/SplitMixNextLongPinLaw" = some m.cls := findClass_of_methodNamed Bd.named
  have hnm := (name_of_methodNamed Bd.named Bd.method).1
  have X0 : Stand p l e ({ frames := 0, cells := 0, slots := 0, locals := 0 } : Room) s m #[(.long p1)] below meth c s₁ [] 0 0 := Stand.of_body Bd
  have e0 : s₁.heap = h0 := by rw [← hh, Bd.state]; rfl
  have N0 := Fr.nil n0
  have K0 : Keep h0 h0 [] := Keep.refl _ _
  show own_Go p e below s ({ frames := 0, cells := 0, slots := 0, locals := 0 } : Room).cells ({ frames := 0, cells := 0, slots := 0, locals := 0 } : Room).slots (own_Q_inv Z p1 h0 n0) (s₁.setTop (entryFrame m #[(.long p1)] 4))
  have ef : entryFrame m #[(.long p1)] 4 = (mkF m 0 #[.val (.long p1), .second, .unset, .unset] []) := by first | rfl | (simp [entryFrame, mkF, argsToLocals, Value.category, maxLocals]; done)
  rw [ef]
  show own_Go p e below s _ _ _ (s₁.setTop (mkF m 0 #[.val (.long p1), .second, .unset, .unset] []))
  refine own_step (U' := (s₁.setTop (mkF m 1 #[.val (.long p1), .second, .unset, .unset] [(.long p1)]))) (fun t ht => XT.lloadN X0.here hx rfl (hb hby own_d5_0) rfl ht) ?_
  refine own_step (U' := (s₁.setTop (mkF m 2 #[.val (.long p1), .second, .val (.long p1), .second] []))) (fun t ht => XT.lstoreN X0.here hx rfl (hb hby own_d5_1) rfl (l' := #[.val (.long p1), .second, .val (.long p1), .second]) rfl ht) ?_
  refine own_step (U' := (s₁.setTop (mkF m 3 #[.val (.long p1), .second, .val (.long p1), .second] [(.long p1)]))) (fun t ht => XT.lloadN X0.here hx rfl (hb hby own_d5_2) rfl ht) ?_
  refine own_step (U' := (s₁.setTop (mkF m 6 #[.val (.long p1), .second, .val (.long p1), .second] [(.long (2 : Int64)), (.long p1)]))) (fun t ht => X0.ldc2Long hx hown (mvT hZ (hw _ (List.mem_of_getElem? (i := 28) rfl))) (g := (mkF m 3 #[.val (.long p1), .second, .val (.long p1), .second] [(.long p1)])) rfl (hb hby own_d5_3) _ ht) ?_
  refine own_step (U' := (s₁.setTop (mkF m 7 #[.val (.long p1), .second, .val (.long p1), .second] [(.long p1), (.long (2 : Int64)), (.long p1)]))) (fun t ht => XT.lloadN X0.here hx rfl (hb hby own_d5_6) rfl ht) ?_
  refine own_step (U' := (s₁.setTop (mkF m 8 #[.val (.long p1), .second, .val (.long p1), .second] [(.long p1), (.long p1), (.long (2 : Int64)), (.long p1)]))) (fun t ht => XT.lloadN X0.here hx rfl (hb hby own_d5_7) rfl ht) ?_
  refine own_step (U' := (s₁.setTop (mkF m 9 #[.val (.long p1), .second, .val (.long p1), .second] [(.long (p1 * p1)), (.long (2 : Int64)), (.long p1)]))) (fun t ht => XT.lmul X0.here hx rfl (hb hby own_d5_8) rfl ht) ?_
  refine own_step (U' := (s₁.setTop (mkF m 10 #[.val (.long p1), .second, .val (.long p1), .second] [(.long ((2 : Int64) - (p1 * p1))), (.long p1)]))) (fun t ht => XT.lsub X0.here hx rfl (hb hby own_d5_9) rfl ht) ?_
  refine own_step (U' := (s₁.setTop (mkF m 11 #[.val (.long p1), .second, .val (.long p1), .second] [(.long (p1 * ((2 : Int64) - (p1 * p1))))]))) (fun t ht => XT.lmul X0.here hx rfl (hb hby own_d5_10) rfl ht) ?_
  refine own_step (U' := (s₁.setTop (mkF m 12 #[.val (.long p1), .second, .val (.long (p1 * ((2 : Int64) - (p1 * p1)))), .second] []))) (fun t ht => XT.lstoreN X0.here hx rfl (hb hby own_d5_11) rfl (l' := #[.val (.long p1), .second, .val (.long (p1 * ((2 : Int64) - (p1 * p1)))), .second]) rfl ht) ?_
  refine own_step (U' := (s₁.setTop (mkF m 13 #[.val (.long p1), .second, .val (.long (p1 * ((2 : Int64) - (p1 * p1)))), .second] [(.long (p1 * ((2 : Int64) - (p1 * p1))))]))) (fun t ht => XT.lloadN X0.here hx rfl (hb hby own_d5_12) rfl ht) ?_
  refine own_step (U' := (s₁.setTop (mkF m 16 #[.val (.long p1), .second, .val (.long (p1 * ((2 : Int64) - (p1 * p1)))), .second] [(.long (2 : Int64)), (.long (p1 * ((2 : Int64) - (p1 * p1))))]))) (fun t ht => X0.ldc2Long hx hown (mvT hZ (hw _ (List.mem_of_getElem? (i := 28) rfl))) (g := (mkF m 13 #[.val (.long p1), .second, .val (.long (p1 * ((2 : Int64) - (p1 * p1)))), .second] [(.long (p1 * ((2 : Int64) - (p1 * p1))))])) rfl (hb hby own_d5_13) _ ht) ?_
  refine own_step (U' := (s₁.setTop (mkF m 17 #[.val (.long p1), .second, .val (.long (p1 * ((2 : Int64) - (p1 * p1)))), .second] [(.long p1), (.long (2 : Int64)), (.long (p1 * ((2 : Int64) - (p1 * p1))))]))) (fun t ht => XT.lloadN X0.here hx rfl (hb hby own_d5_16) rfl ht) ?_
  refine own_step (U' := (s₁.setTop (mkF m 18 #[.val (.long p1), .second, .val (.long (p1 * ((2 : Int64) - (p1 * p1)))), .second] [(.long (p1 * ((2 : Int64) - (p1 * p1)))), (.long p1), (.long (2 : Int64)), (.long (p1 * ((2 : Int64) - (p1 * p1))))]))) (fun t ht => XT.lloadN X0.here hx rfl (hb hby own_d5_17) rfl ht) ?_
  refine own_step (U' := (s₁.setTop (mkF m 19 #[.val (.long p1), .second, .val (.long (p1 * ((2 : Int64) - (p1 * p1)))), .second] [(.long (p1 * (p1 * ((2 : Int64) - (p1 * p1))))), (.long (2 : Int64)), (.long (p1 * ((2 : Int64) - (p1 * p1))))]))) (fun t ht => XT.lmul X0.here hx rfl (hb hby own_d5_18) rfl ht) ?_
  refine own_step (U' := (s₁.setTop (mkF m 20 #[.val (.long p1), .second, .val (.long (p1 * ((2 : Int64) - (p1 * p1)))), .second] [(.long ((2 : Int64) - (p1 * (p1 * ((2 : Int64) - (p1 * p1)))))), (.long (p1 * ((2 : Int64) - (p1 * p1))))]))) (fun t ht => XT.lsub X0.here hx rfl (hb hby own_d5_19) rfl ht) ?_
  refine own_step (U' := (s₁.setTop (mkF m 21 #[.val (.long p1), .second, .val (.long (p1 * ((2 : Int64) - (p1 * p1)))), .second] [(.long ((p1 * ((2 : Int64) - (p1 * p1))) * ((2 : Int64) - (p1 * (p1 * ((2 : Int64) - (p1 * p1)))))))]))) (fun t ht => XT.lmul X0.here hx rfl (hb hby own_d5_20) rfl ht) ?_
  refine own_step (U' := (s₁.setTop (mkF m 22 #[.val (.long p1), .second, .val (.long ((p1 * ((2 : Int64) - (p1 * p1))) * ((2 : Int64) - (p1 * (p1 * ((2 : Int64) - (p1 * p1))))))), .second] []))) (fun t ht => XT.lstoreN X0.here hx rfl (hb hby own_d5_21) rfl (l' := #[.val (.long p1), .second, .val (.long ((p1 * ((2 : Int64) - (p1 * p1))) * ((2 : Int64) - (p1 * (p1 * ((2 : Int64) - (p1 * p1))))))), .second]) rfl ht) ?_
  refine own_step (U' := (s₁.setTop (mkF m 23 #[.val (.long p1), .second, .val (.long ((p1 * ((2 : Int64) - (p1 * p1))) * ((2 : Int64) - (p1 * (p1 * ((2 : Int64) - (p1 * p1))))))), .second] [(.long ((p1 * ((2 : Int64) - (p1 * p1))) * ((2 : Int64) - (p1 * (p1 * ((2 : Int64) - (p1 * p1)))))))]))) (fun t ht => XT.lloadN X0.here hx rfl (hb hby own_d5_22) rfl ht) ?_
  refine own_step (U' := (s₁.setTop (mkF m 26 #[.val (.long p1), .second, .val (.long ((p1 * ((2 : Int64) - (p1 * p1))) * ((2 : Int64) - (p1 * (p1 * ((2 : Int64) - (p1 * p1))))))), .second] [(.long (2 : Int64)), (.long ((p1 * ((2 : Int64) - (p1 * p1))) * ((2 : Int64) - (p1 * (p1 * ((2 : Int64) - (p1 * p1)))))))]))) (fun t ht => X0.ldc2Long hx hown (mvT hZ (hw _ (List.mem_of_getElem? (i := 28) rfl))) (g := (mkF m 23 #[.val (.long p1), .second, .val (.long ((p1 * ((2 : Int64) - (p1 * p1))) * ((2 : Int64) - (p1 * (p1 * ((2 : Int64) - (p1 * p1))))))), .second] [(.long ((p1 * ((2 : Int64) - (p1 * p1))) * ((2 : Int64) - (p1 * (p1 * ((2 : Int64) - (p1 * p1)))))))])) rfl (hb hby own_d5_23) _ ht) ?_
  refine own_step (U' := (s₁.setTop (mkF m 27 #[.val (.long p1), .second, .val (.long ((p1 * ((2 : Int64) - (p1 * p1))) * ((2 : Int64) - (p1 * (p1 * ((2 : Int64) - (p1 * p1))))))), .second] [(.long p1), (.long (2 : Int64)), (.long ((p1 * ((2 : Int64) - (p1 * p1))) * ((2 : Int64) - (p1 * (p1 * ((2 : Int64) - (p1 * p1)))))))]))) (fun t ht => XT.lloadN X0.here hx rfl (hb hby own_d5_26) rfl ht) ?_
  refine own_step (U' := (s₁.setTop (mkF m 28 #[.val (.long p1), .second, .val (.long ((p1 * ((2 : Int64) - (p1 * p1))) * ((2 : Int64) - (p1 * (p1 * ((2 : Int64) - (p1 * p1))))))), .second] [(.long ((p1 * ((2 : Int64) - (p1 * p1))) * ((2 : Int64) - (p1 * (p1 * ((2 : Int64) - (p1 * p1))))))), (.long p1), (.long (2 : Int64)), (.long ((p1 * ((2 : Int64) - (p1 * p1))) * ((2 : Int64) - (p1 * (p1 * ((2 : Int64) - (p1 * p1)))))))]))) (fun t ht => XT.lloadN X0.here hx rfl (hb hby own_d5_27) rfl ht) ?_
  refine own_step (U' := (s₁.setTop (mkF m 29 #[.val (.long p1), .second, .val (.long ((p1 * ((2 : Int64) - (p1 * p1))) * ((2 : Int64) - (p1 * (p1 * ((2 : Int64) - (p1 * p1))))))), .second] [(.long (p1 * ((p1 * ((2 : Int64) - (p1 * p1))) * ((2 : Int64) - (p1 * (p1 * ((2 : Int64) - (p1 * p1)))))))), (.long (2 : Int64)), (.long ((p1 * ((2 : Int64) - (p1 * p1))) * ((2 : Int64) - (p1 * (p1 * ((2 : Int64) - (p1 * p1)))))))]))) (fun t ht => XT.lmul X0.here hx rfl (hb hby own_d5_28) rfl ht) ?_
  refine own_step (U' := (s₁.setTop (mkF m 30 #[.val (.long p1), .second, .val (.long ((p1 * ((2 : Int64) - (p1 * p1))) * ((2 : Int64) - (p1 * (p1 * ((2 : Int64) - (p1 * p1))))))), .second] [(.long ((2 : Int64) - (p1 * ((p1 * ((2 : Int64) - (p1 * p1))) * ((2 : Int64) - (p1 * (p1 * ((2 : Int64) - (p1 * p1))))))))), (.long ((p1 * ((2 : Int64) - (p1 * p1))) * ((2 : Int64) - (p1 * (p1 * ((2 : Int64) - (p1 * p1)))))))]))) (fun t ht => XT.lsub X0.here hx rfl (hb hby own_d5_29) rfl ht) ?_
  refine own_step (U' := (s₁.setTop (mkF m 31 #[.val (.long p1), .second, .val (.long ((p1 * ((2 : Int64) - (p1 * p1))) * ((2 : Int64) - (p1 * (p1 * ((2 : Int64) - (p1 * p1))))))), .second] [(.long (((p1 * ((2 : Int64) - (p1 * p1))) * ((2 : Int64) - (p1 * (p1 * ((2 : Int64) - (p1 * p1)))))) * ((2 : Int64) - (p1 * ((p1 * ((2 : Int64) - (p1 * p1))) * ((2 : Int64) - (p1 * (p1 * ((2 : Int64) - (p1 * p1))))))))))]))) (fun t ht => XT.lmul X0.here hx rfl (hb hby own_d5_30) rfl ht) ?_
  refine own_step (U' := (s₁.setTop (mkF m 32 #[.val (.long p1), .second, .val (.long (((p1 * ((2 : Int64) - (p1 * p1))) * ((2 : Int64) - (p1 * (p1 * ((2 : Int64) - (p1 * p1)))))) * ((2 : Int64) - (p1 * ((p1 * ((2 : Int64) - (p1 * p1))) * ((2 : Int64) - (p1 * (p1 * ((2 : Int64) - (p1 * p1)))))))))), .second] []))) (fun t ht => XT.lstoreN X0.here hx rfl (hb hby own_d5_31) rfl (l' := #[.val (.long p1), .second, .val (.long (((p1 * ((2 : Int64) - (p1 * p1))) * ((2 : Int64) - (p1 * (p1 * ((2 : Int64) - (p1 * p1)))))) * ((2 : Int64) - (p1 * ((p1 * ((2 : Int64) - (p1 * p1))) * ((2 : Int64) - (p1 * (p1 * ((2 : Int64) - (p1 * p1)))))))))), .second]) rfl ht) ?_
  refine own_step (U' := (s₁.setTop (mkF m 33 #[.val (.long p1), .second, .val (.long (((p1 * ((2 : Int64) - (p1 * p1))) * ((2 : Int64) - (p1 * (p1 * ((2 : Int64) - (p1 * p1)))))) * ((2 : Int64) - (p1 * ((p1 * ((2 : Int64) - (p1 * p1))) * ((2 : Int64) - (p1 * (p1 * ((2 : Int64) - (p1 * p1)))))))))), .second] [(.long (((p1 * ((2 : Int64) - (p1 * p1))) * ((2 : Int64) - (p1 * (p1 * ((2 : Int64) - (p1 * p1)))))) * ((2 : Int64) - (p1 * ((p1 * ((2 : Int64) - (p1 * p1))) * ((2 : Int64) - (p1 * (p1 * ((2 : Int64) - (p1 * p1))))))))))]))) (fun t ht => XT.lloadN X0.here hx rfl (hb hby own_d5_32) rfl ht) ?_
  refine own_step (U' := (s₁.setTop (mkF m 36 #[.val (.long p1), .second, .val (.long (((p1 * ((2 : Int64) - (p1 * p1))) * ((2 : Int64) - (p1 * (p1 * ((2 : Int64) - (p1 * p1)))))) * ((2 : Int64) - (p1 * ((p1 * ((2 : Int64) - (p1 * p1))) * ((2 : Int64) - (p1 * (p1 * ((2 : Int64) - (p1 * p1)))))))))), .second] [(.long (2 : Int64)), (.long (((p1 * ((2 : Int64) - (p1 * p1))) * ((2 : Int64) - (p1 * (p1 * ((2 : Int64) - (p1 * p1)))))) * ((2 : Int64) - (p1 * ((p1 * ((2 : Int64) - (p1 * p1))) * ((2 : Int64) - (p1 * (p1 * ((2 : Int64) - (p1 * p1))))))))))]))) (fun t ht => X0.ldc2Long hx hown (mvT hZ (hw _ (List.mem_of_getElem? (i := 28) rfl))) (g := (mkF m 33 #[.val (.long p1), .second, .val (.long (((p1 * ((2 : Int64) - (p1 * p1))) * ((2 : Int64) - (p1 * (p1 * ((2 : Int64) - (p1 * p1)))))) * ((2 : Int64) - (p1 * ((p1 * ((2 : Int64) - (p1 * p1))) * ((2 : Int64) - (p1 * (p1 * ((2 : Int64) - (p1 * p1)))))))))), .second] [(.long (((p1 * ((2 : Int64) - (p1 * p1))) * ((2 : Int64) - (p1 * (p1 * ((2 : Int64) - (p1 * p1)))))) * ((2 : Int64) - (p1 * ((p1 * ((2 : Int64) - (p1 * p1))) * ((2 : Int64) - (p1 * (p1 * ((2 : Int64) - (p1 * p1))))))))))])) rfl (hb hby own_d5_33) _ ht) ?_
  refine own_step (U' := (s₁.setTop (mkF m 37 #[.val (.long p1), .second, .val (.long (((p1 * ((2 : Int64) - (p1 * p1))) * ((2 : Int64) - (p1 * (p1 * ((2 : Int64) - (p1 * p1)))))) * ((2 : Int64) - (p1 * ((p1 * ((2 : Int64) - (p1 * p1))) * ((2 : Int64) - (p1 * (p1 * ((2 : Int64) - (p1 * p1)))))))))), .second] [(.long p1), (.long (2 : Int64)), (.long (((p1 * ((2 : Int64) - (p1 * p1))) * ((2 : Int64) - (p1 * (p1 * ((2 : Int64) - (p1 * p1)))))) * ((2 : Int64) - (p1 * ((p1 * ((2 : Int64) - (p1 * p1))) * ((2 : Int64) - (p1 * (p1 * ((2 : Int64) - (p1 * p1))))))))))]))) (fun t ht => XT.lloadN X0.here hx rfl (hb hby own_d5_36) rfl ht) ?_
  refine own_step (U' := (s₁.setTop (mkF m 38 #[.val (.long p1), .second, .val (.long (((p1 * ((2 : Int64) - (p1 * p1))) * ((2 : Int64) - (p1 * (p1 * ((2 : Int64) - (p1 * p1)))))) * ((2 : Int64) - (p1 * ((p1 * ((2 : Int64) - (p1 * p1))) * ((2 : Int64) - (p1 * (p1 * ((2 : Int64) - (p1 * p1)))))))))), .second] [(.long (((p1 * ((2 : Int64) - (p1 * p1))) * ((2 : Int64) - (p1 * (p1 * ((2 : Int64) - (p1 * p1)))))) * ((2 : Int64) - (p1 * ((p1 * ((2 : Int64) - (p1 * p1))) * ((2 : Int64) - (p1 * (p1 * ((2 : Int64) - (p1 * p1)))))))))), (.long p1), (.long (2 : Int64)), (.long (((p1 * ((2 : Int64) - (p1 * p1))) * ((2 : Int64) - (p1 * (p1 * ((2 : Int64) - (p1 * p1)))))) * ((2 : Int64) - (p1 * ((p1 * ((2 : Int64) - (p1 * p1))) * ((2 : Int64) - (p1 * (p1 * ((2 : Int64) - (p1 * p1))))))))))]))) (fun t ht => XT.lloadN X0.here hx rfl (hb hby own_d5_37) rfl ht) ?_
  refine own_step (U' := (s₁.setTop (mkF m 39 #[.val (.long p1), .second, .val (.long (((p1 * ((2 : Int64) - (p1 * p1))) * ((2 : Int64) - (p1 * (p1 * ((2 : Int64) - (p1 * p1)))))) * ((2 : Int64) - (p1 * ((p1 * ((2 : Int64) - (p1 * p1))) * ((2 : Int64) - (p1 * (p1 * ((2 : Int64) - (p1 * p1)))))))))), .second] [(.long (p1 * (((p1 * ((2 : Int64) - (p1 * p1))) * ((2 : Int64) - (p1 * (p1 * ((2 : Int64) - (p1 * p1)))))) * ((2 : Int64) - (p1 * ((p1 * ((2 : Int64) - (p1 * p1))) * ((2 : Int64) - (p1 * (p1 * ((2 : Int64) - (p1 * p1))))))))))), (.long (2 : Int64)), (.long (((p1 * ((2 : Int64) - (p1 * p1))) * ((2 : Int64) - (p1 * (p1 * ((2 : Int64) - (p1 * p1)))))) * ((2 : Int64) - (p1 * ((p1 * ((2 : Int64) - (p1 * p1))) * ((2 : Int64) - (p1 * (p1 * ((2 : Int64) - (p1 * p1))))))))))]))) (fun t ht => XT.lmul X0.here hx rfl (hb hby own_d5_38) rfl ht) ?_
  refine own_step (U' := (s₁.setTop (mkF m 40 #[.val (.long p1), .second, .val (.long (((p1 * ((2 : Int64) - (p1 * p1))) * ((2 : Int64) - (p1 * (p1 * ((2 : Int64) - (p1 * p1)))))) * ((2 : Int64) - (p1 * ((p1 * ((2 : Int64) - (p1 * p1))) * ((2 : Int64) - (p1 * (p1 * ((2 : Int64) - (p1 * p1)))))))))), .second] [(.long ((2 : Int64) - (p1 * (((p1 * ((2 : Int64) - (p1 * p1))) * ((2 : Int64) - (p1 * (p1 * ((2 : Int64) - (p1 * p1)))))) * ((2 : Int64) - (p1 * ((p1 * ((2 : Int64) - (p1 * p1))) * ((2 : Int64) - (p1 * (p1 * ((2 : Int64) - (p1 * p1)))))))))))), (.long (((p1 * ((2 : Int64) - (p1 * p1))) * ((2 : Int64) - (p1 * (p1 * ((2 : Int64) - (p1 * p1)))))) * ((2 : Int64) - (p1 * ((p1 * ((2 : Int64) - (p1 * p1))) * ((2 : Int64) - (p1 * (p1 * ((2 : Int64) - (p1 * p1))))))))))]))) (fun t ht => XT.lsub X0.here hx rfl (hb hby own_d5_39) rfl ht) ?_
  refine own_step (U' := (s₁.setTop (mkF m 41 #[.val (.long p1), .second, .val (.long (((p1 * ((2 : Int64) - (p1 * p1))) * ((2 : Int64) - (p1 * (p1 * ((2 : Int64) - (p1 * p1)))))) * ((2 : Int64) - (p1 * ((p1 * ((2 : Int64) - (p1 * p1))) * ((2 : Int64) - (p1 * (p1 * ((2 : Int64) - (p1 * p1)))))))))), .second] [(.long ((((p1 * ((2 : Int64) - (p1 * p1))) * ((2 : Int64) - (p1 * (p1 * ((2 : Int64) - (p1 * p1)))))) * ((2 : Int64) - (p1 * ((p1 * ((2 : Int64) - (p1 * p1))) * ((2 : Int64) - (p1 * (p1 * ((2 : Int64) - (p1 * p1))))))))) * ((2 : Int64) - (p1 * (((p1 * ((2 : Int64) - (p1 * p1))) * ((2 : Int64) - (p1 * (p1 * ((2 : Int64) - (p1 * p1)))))) * ((2 : Int64) - (p1 * ((p1 * ((2 : Int64) - (p1 * p1))) * ((2 : Int64) - (p1 * (p1 * ((2 : Int64) - (p1 * p1)))))))))))))]))) (fun t ht => XT.lmul X0.here hx rfl (hb hby own_d5_40) rfl ht) ?_
  refine own_step (U' := (s₁.setTop (mkF m 42 #[.val (.long p1), .second, .val (.long ((((p1 * ((2 : Int64) - (p1 * p1))) * ((2 : Int64) - (p1 * (p1 * ((2 : Int64) - (p1 * p1)))))) * ((2 : Int64) - (p1 * ((p1 * ((2 : Int64) - (p1 * p1))) * ((2 : Int64) - (p1 * (p1 * ((2 : Int64) - (p1 * p1))))))))) * ((2 : Int64) - (p1 * (((p1 * ((2 : Int64) - (p1 * p1))) * ((2 : Int64) - (p1 * (p1 * ((2 : Int64) - (p1 * p1)))))) * ((2 : Int64) - (p1 * ((p1 * ((2 : Int64) - (p1 * p1))) * ((2 : Int64) - (p1 * (p1 * ((2 : Int64) - (p1 * p1))))))))))))), .second] []))) (fun t ht => XT.lstoreN X0.here hx rfl (hb hby own_d5_41) rfl (l' := #[.val (.long p1), .second, .val (.long ((((p1 * ((2 : Int64) - (p1 * p1))) * ((2 : Int64) - (p1 * (p1 * ((2 : Int64) - (p1 * p1)))))) * ((2 : Int64) - (p1 * ((p1 * ((2 : Int64) - (p1 * p1))) * ((2 : Int64) - (p1 * (p1 * ((2 : Int64) - (p1 * p1))))))))) * ((2 : Int64) - (p1 * (((p1 * ((2 : Int64) - (p1 * p1))) * ((2 : Int64) - (p1 * (p1 * ((2 : Int64) - (p1 * p1)))))) * ((2 : Int64) - (p1 * ((p1 * ((2 : Int64) - (p1 * p1))) * ((2 : Int64) - (p1 * (p1 * ((2 : Int64) - (p1 * p1))))))))))))), .second]) rfl ht) ?_
  refine own_step (U' := (s₁.setTop (mkF m 43 #[.val (.long p1), .second, .val (.long ((((p1 * ((2 : Int64) - (p1 * p1))) * ((2 : Int64) - (p1 * (p1 * ((2 : Int64) - (p1 * p1)))))) * ((2 : Int64) - (p1 * ((p1 * ((2 : Int64) - (p1 * p1))) * ((2 : Int64) - (p1 * (p1 * ((2 : Int64) - (p1 * p1))))))))) * ((2 : Int64) - (p1 * (((p1 * ((2 : Int64) - (p1 * p1))) * ((2 : Int64) - (p1 * (p1 * ((2 : Int64) - (p1 * p1)))))) * ((2 : Int64) - (p1 * ((p1 * ((2 : Int64) - (p1 * p1))) * ((2 : Int64) - (p1 * (p1 * ((2 : Int64) - (p1 * p1))))))))))))), .second] [(.long ((((p1 * ((2 : Int64) - (p1 * p1))) * ((2 : Int64) - (p1 * (p1 * ((2 : Int64) - (p1 * p1)))))) * ((2 : Int64) - (p1 * ((p1 * ((2 : Int64) - (p1 * p1))) * ((2 : Int64) - (p1 * (p1 * ((2 : Int64) - (p1 * p1))))))))) * ((2 : Int64) - (p1 * (((p1 * ((2 : Int64) - (p1 * p1))) * ((2 : Int64) - (p1 * (p1 * ((2 : Int64) - (p1 * p1)))))) * ((2 : Int64) - (p1 * ((p1 * ((2 : Int64) - (p1 * p1))) * ((2 : Int64) - (p1 * (p1 * ((2 : Int64) - (p1 * p1)))))))))))))]))) (fun t ht => XT.lloadN X0.here hx rfl (hb hby own_d5_42) rfl ht) ?_
  refine own_step (U' := (s₁.setTop (mkF m 46 #[.val (.long p1), .second, .val (.long ((((p1 * ((2 : Int64) - (p1 * p1))) * ((2 : Int64) - (p1 * (p1 * ((2 : Int64) - (p1 * p1)))))) * ((2 : Int64) - (p1 * ((p1 * ((2 : Int64) - (p1 * p1))) * ((2 : Int64) - (p1 * (p1 * ((2 : Int64) - (p1 * p1))))))))) * ((2 : Int64) - (p1 * (((p1 * ((2 : Int64) - (p1 * p1))) * ((2 : Int64) - (p1 * (p1 * ((2 : Int64) - (p1 * p1)))))) * ((2 : Int64) - (p1 * ((p1 * ((2 : Int64) - (p1 * p1))) * ((2 : Int64) - (p1 * (p1 * ((2 : Int64) - (p1 * p1))))))))))))), .second] [(.long (2 : Int64)), (.long ((((p1 * ((2 : Int64) - (p1 * p1))) * ((2 : Int64) - (p1 * (p1 * ((2 : Int64) - (p1 * p1)))))) * ((2 : Int64) - (p1 * ((p1 * ((2 : Int64) - (p1 * p1))) * ((2 : Int64) - (p1 * (p1 * ((2 : Int64) - (p1 * p1))))))))) * ((2 : Int64) - (p1 * (((p1 * ((2 : Int64) - (p1 * p1))) * ((2 : Int64) - (p1 * (p1 * ((2 : Int64) - (p1 * p1)))))) * ((2 : Int64) - (p1 * ((p1 * ((2 : Int64) - (p1 * p1))) * ((2 : Int64) - (p1 * (p1 * ((2 : Int64) - (p1 * p1)))))))))))))]))) (fun t ht => X0.ldc2Long hx hown (mvT hZ (hw _ (List.mem_of_getElem? (i := 28) rfl))) (g := (mkF m 43 #[.val (.long p1), .second, .val (.long ((((p1 * ((2 : Int64) - (p1 * p1))) * ((2 : Int64) - (p1 * (p1 * ((2 : Int64) - (p1 * p1)))))) * ((2 : Int64) - (p1 * ((p1 * ((2 : Int64) - (p1 * p1))) * ((2 : Int64) - (p1 * (p1 * ((2 : Int64) - (p1 * p1))))))))) * ((2 : Int64) - (p1 * (((p1 * ((2 : Int64) - (p1 * p1))) * ((2 : Int64) - (p1 * (p1 * ((2 : Int64) - (p1 * p1)))))) * ((2 : Int64) - (p1 * ((p1 * ((2 : Int64) - (p1 * p1))) * ((2 : Int64) - (p1 * (p1 * ((2 : Int64) - (p1 * p1))))))))))))), .second] [(.long ((((p1 * ((2 : Int64) - (p1 * p1))) * ((2 : Int64) - (p1 * (p1 * ((2 : Int64) - (p1 * p1)))))) * ((2 : Int64) - (p1 * ((p1 * ((2 : Int64) - (p1 * p1))) * ((2 : Int64) - (p1 * (p1 * ((2 : Int64) - (p1 * p1))))))))) * ((2 : Int64) - (p1 * (((p1 * ((2 : Int64) - (p1 * p1))) * ((2 : Int64) - (p1 * (p1 * ((2 : Int64) - (p1 * p1)))))) * ((2 : Int64) - (p1 * ((p1 * ((2 : Int64) - (p1 * p1))) * ((2 : Int64) - (p1 * (p1 * ((2 : Int64) - (p1 * p1)))))))))))))])) rfl (hb hby own_d5_43) _ ht) ?_
  refine own_step (U' := (s₁.setTop (mkF m 47 #[.val (.long p1), .second, .val (.long ((((p1 * ((2 : Int64) - (p1 * p1))) * ((2 : Int64) - (p1 * (p1 * ((2 : Int64) - (p1 * p1)))))) * ((2 : Int64) - (p1 * ((p1 * ((2 : Int64) - (p1 * p1))) * ((2 : Int64) - (p1 * (p1 * ((2 : Int64) - (p1 * p1))))))))) * ((2 : Int64) - (p1 * (((p1 * ((2 : Int64) - (p1 * p1))) * ((2 : Int64) - (p1 * (p1 * ((2 : Int64) - (p1 * p1)))))) * ((2 : Int64) - (p1 * ((p1 * ((2 : Int64) - (p1 * p1))) * ((2 : Int64) - (p1 * (p1 * ((2 : Int64) - (p1 * p1))))))))))))), .second] [(.long p1), (.long (2 : Int64)), (.long ((((p1 * ((2 : Int64) - (p1 * p1))) * ((2 : Int64) - (p1 * (p1 * ((2 : Int64) - (p1 * p1)))))) * ((2 : Int64) - (p1 * ((p1 * ((2 : Int64) - (p1 * p1))) * ((2 : Int64) - (p1 * (p1 * ((2 : Int64) - (p1 * p1))))))))) * ((2 : Int64) - (p1 * (((p1 * ((2 : Int64) - (p1 * p1))) * ((2 : Int64) - (p1 * (p1 * ((2 : Int64) - (p1 * p1)))))) * ((2 : Int64) - (p1 * ((p1 * ((2 : Int64) - (p1 * p1))) * ((2 : Int64) - (p1 * (p1 * ((2 : Int64) - (p1 * p1)))))))))))))]))) (fun t ht => XT.lloadN X0.here hx rfl (hb hby own_d5_46) rfl ht) ?_
  refine own_step (U' := (s₁.setTop (mkF m 48 #[.val (.long p1), .second, .val (.long ((((p1 * ((2 : Int64) - (p1 * p1))) * ((2 : Int64) - (p1 * (p1 * ((2 : Int64) - (p1 * p1)))))) * ((2 : Int64) - (p1 * ((p1 * ((2 : Int64) - (p1 * p1))) * ((2 : Int64) - (p1 * (p1 * ((2 : Int64) - (p1 * p1))))))))) * ((2 : Int64) - (p1 * (((p1 * ((2 : Int64) - (p1 * p1))) * ((2 : Int64) - (p1 * (p1 * ((2 : Int64) - (p1 * p1)))))) * ((2 : Int64) - (p1 * ((p1 * ((2 : Int64) - (p1 * p1))) * ((2 : Int64) - (p1 * (p1 * ((2 : Int64) - (p1 * p1))))))))))))), .second] [(.long ((((p1 * ((2 : Int64) - (p1 * p1))) * ((2 : Int64) - (p1 * (p1 * ((2 : Int64) - (p1 * p1)))))) * ((2 : Int64) - (p1 * ((p1 * ((2 : Int64) - (p1 * p1))) * ((2 : Int64) - (p1 * (p1 * ((2 : Int64) - (p1 * p1))))))))) * ((2 : Int64) - (p1 * (((p1 * ((2 : Int64) - (p1 * p1))) * ((2 : Int64) - (p1 * (p1 * ((2 : Int64) - (p1 * p1)))))) * ((2 : Int64) - (p1 * ((p1 * ((2 : Int64) - (p1 * p1))) * ((2 : Int64) - (p1 * (p1 * ((2 : Int64) - (p1 * p1))))))))))))), (.long p1), (.long (2 : Int64)), (.long ((((p1 * ((2 : Int64) - (p1 * p1))) * ((2 : Int64) - (p1 * (p1 * ((2 : Int64) - (p1 * p1)))))) * ((2 : Int64) - (p1 * ((p1 * ((2 : Int64) - (p1 * p1))) * ((2 : Int64) - (p1 * (p1 * ((2 : Int64) - (p1 * p1))))))))) * ((2 : Int64) - (p1 * (((p1 * ((2 : Int64) - (p1 * p1))) * ((2 : Int64) - (p1 * (p1 * ((2 : Int64) - (p1 * p1)))))) * ((2 : Int64) - (p1 * ((p1 * ((2 : Int64) - (p1 * p1))) * ((2 : Int64) - (p1 * (p1 * ((2 : Int64) - (p1 * p1)))))))))))))]))) (fun t ht => XT.lloadN X0.here hx rfl (hb hby own_d5_47) rfl ht) ?_
  refine own_step (U' := (s₁.setTop (mkF m 49 #[.val (.long p1), .second, .val (.long ((((p1 * ((2 : Int64) - (p1 * p1))) * ((2 : Int64) - (p1 * (p1 * ((2 : Int64) - (p1 * p1)))))) * ((2 : Int64) - (p1 * ((p1 * ((2 : Int64) - (p1 * p1))) * ((2 : Int64) - (p1 * (p1 * ((2 : Int64) - (p1 * p1))))))))) * ((2 : Int64) - (p1 * (((p1 * ((2 : Int64) - (p1 * p1))) * ((2 : Int64) - (p1 * (p1 * ((2 : Int64) - (p1 * p1)))))) * ((2 : Int64) - (p1 * ((p1 * ((2 : Int64) - (p1 * p1))) * ((2 : Int64) - (p1 * (p1 * ((2 : Int64) - (p1 * p1))))))))))))), .second] [(.long (p1 * ((((p1 * ((2 : Int64) - (p1 * p1))) * ((2 : Int64) - (p1 * (p1 * ((2 : Int64) - (p1 * p1)))))) * ((2 : Int64) - (p1 * ((p1 * ((2 : Int64) - (p1 * p1))) * ((2 : Int64) - (p1 * (p1 * ((2 : Int64) - (p1 * p1))))))))) * ((2 : Int64) - (p1 * (((p1 * ((2 : Int64) - (p1 * p1))) * ((2 : Int64) - (p1 * (p1 * ((2 : Int64) - (p1 * p1)))))) * ((2 : Int64) - (p1 * ((p1 * ((2 : Int64) - (p1 * p1))) * ((2 : Int64) - (p1 * (p1 * ((2 : Int64) - (p1 * p1)))))))))))))), (.long (2 : Int64)), (.long ((((p1 * ((2 : Int64) - (p1 * p1))) * ((2 : Int64) - (p1 * (p1 * ((2 : Int64) - (p1 * p1)))))) * ((2 : Int64) - (p1 * ((p1 * ((2 : Int64) - (p1 * p1))) * ((2 : Int64) - (p1 * (p1 * ((2 : Int64) - (p1 * p1))))))))) * ((2 : Int64) - (p1 * (((p1 * ((2 : Int64) - (p1 * p1))) * ((2 : Int64) - (p1 * (p1 * ((2 : Int64) - (p1 * p1)))))) * ((2 : Int64) - (p1 * ((p1 * ((2 : Int64) - (p1 * p1))) * ((2 : Int64) - (p1 * (p1 * ((2 : Int64) - (p1 * p1)))))))))))))]))) (fun t ht => XT.lmul X0.here hx rfl (hb hby own_d5_48) rfl ht) ?_
  refine own_step (U' := (s₁.setTop (mkF m 50 #[.val (.long p1), .second, .val (.long ((((p1 * ((2 : Int64) - (p1 * p1))) * ((2 : Int64) - (p1 * (p1 * ((2 : Int64) - (p1 * p1)))))) * ((2 : Int64) - (p1 * ((p1 * ((2 : Int64) - (p1 * p1))) * ((2 : Int64) - (p1 * (p1 * ((2 : Int64) - (p1 * p1))))))))) * ((2 : Int64) - (p1 * (((p1 * ((2 : Int64) - (p1 * p1))) * ((2 : Int64) - (p1 * (p1 * ((2 : Int64) - (p1 * p1)))))) * ((2 : Int64) - (p1 * ((p1 * ((2 : Int64) - (p1 * p1))) * ((2 : Int64) - (p1 * (p1 * ((2 : Int64) - (p1 * p1))))))))))))), .second] [(.long ((2 : Int64) - (p1 * ((((p1 * ((2 : Int64) - (p1 * p1))) * ((2 : Int64) - (p1 * (p1 * ((2 : Int64) - (p1 * p1)))))) * ((2 : Int64) - (p1 * ((p1 * ((2 : Int64) - (p1 * p1))) * ((2 : Int64) - (p1 * (p1 * ((2 : Int64) - (p1 * p1))))))))) * ((2 : Int64) - (p1 * (((p1 * ((2 : Int64) - (p1 * p1))) * ((2 : Int64) - (p1 * (p1 * ((2 : Int64) - (p1 * p1)))))) * ((2 : Int64) - (p1 * ((p1 * ((2 : Int64) - (p1 * p1))) * ((2 : Int64) - (p1 * (p1 * ((2 : Int64) - (p1 * p1))))))))))))))), (.long ((((p1 * ((2 : Int64) - (p1 * p1))) * ((2 : Int64) - (p1 * (p1 * ((2 : Int64) - (p1 * p1)))))) * ((2 : Int64) - (p1 * ((p1 * ((2 : Int64) - (p1 * p1))) * ((2 : Int64) - (p1 * (p1 * ((2 : Int64) - (p1 * p1))))))))) * ((2 : Int64) - (p1 * (((p1 * ((2 : Int64) - (p1 * p1))) * ((2 : Int64) - (p1 * (p1 * ((2 : Int64) - (p1 * p1)))))) * ((2 : Int64) - (p1 * ((p1 * ((2 : Int64) - (p1 * p1))) * ((2 : Int64) - (p1 * (p1 * ((2 : Int64) - (p1 * p1)))))))))))))]))) (fun t ht => XT.lsub X0.here hx rfl (hb hby own_d5_49) rfl ht) ?_
  refine own_step (U' := (s₁.setTop (mkF m 51 #[.val (.long p1), .second, .val (.long ((((p1 * ((2 : Int64) - (p1 * p1))) * ((2 : Int64) - (p1 * (p1 * ((2 : Int64) - (p1 * p1)))))) * ((2 : Int64) - (p1 * ((p1 * ((2 : Int64) - (p1 * p1))) * ((2 : Int64) - (p1 * (p1 * ((2 : Int64) - (p1 * p1))))))))) * ((2 : Int64) - (p1 * (((p1 * ((2 : Int64) - (p1 * p1))) * ((2 : Int64) - (p1 * (p1 * ((2 : Int64) - (p1 * p1)))))) * ((2 : Int64) - (p1 * ((p1 * ((2 : Int64) - (p1 * p1))) * ((2 : Int64) - (p1 * (p1 * ((2 : Int64) - (p1 * p1))))))))))))), .second] [(.long (((((p1 * ((2 : Int64) - (p1 * p1))) * ((2 : Int64) - (p1 * (p1 * ((2 : Int64) - (p1 * p1)))))) * ((2 : Int64) - (p1 * ((p1 * ((2 : Int64) - (p1 * p1))) * ((2 : Int64) - (p1 * (p1 * ((2 : Int64) - (p1 * p1))))))))) * ((2 : Int64) - (p1 * (((p1 * ((2 : Int64) - (p1 * p1))) * ((2 : Int64) - (p1 * (p1 * ((2 : Int64) - (p1 * p1)))))) * ((2 : Int64) - (p1 * ((p1 * ((2 : Int64) - (p1 * p1))) * ((2 : Int64) - (p1 * (p1 * ((2 : Int64) - (p1 * p1)))))))))))) * ((2 : Int64) - (p1 * ((((p1 * ((2 : Int64) - (p1 * p1))) * ((2 : Int64) - (p1 * (p1 * ((2 : Int64) - (p1 * p1)))))) * ((2 : Int64) - (p1 * ((p1 * ((2 : Int64) - (p1 * p1))) * ((2 : Int64) - (p1 * (p1 * ((2 : Int64) - (p1 * p1))))))))) * ((2 : Int64) - (p1 * (((p1 * ((2 : Int64) - (p1 * p1))) * ((2 : Int64) - (p1 * (p1 * ((2 : Int64) - (p1 * p1)))))) * ((2 : Int64) - (p1 * ((p1 * ((2 : Int64) - (p1 * p1))) * ((2 : Int64) - (p1 * (p1 * ((2 : Int64) - (p1 * p1))))))))))))))))]))) (fun t ht => XT.lmul X0.here hx rfl (hb hby own_d5_50) rfl ht) ?_
  refine own_step (U' := (s₁.setTop (mkF m 52 #[.val (.long p1), .second, .val (.long (((((p1 * ((2 : Int64) - (p1 * p1))) * ((2 : Int64) - (p1 * (p1 * ((2 : Int64) - (p1 * p1)))))) * ((2 : Int64) - (p1 * ((p1 * ((2 : Int64) - (p1 * p1))) * ((2 : Int64) - (p1 * (p1 * ((2 : Int64) - (p1 * p1))))))))) * ((2 : Int64) - (p1 * (((p1 * ((2 : Int64) - (p1 * p1))) * ((2 : Int64) - (p1 * (p1 * ((2 : Int64) - (p1 * p1)))))) * ((2 : Int64) - (p1 * ((p1 * ((2 : Int64) - (p1 * p1))) * ((2 : Int64) - (p1 * (p1 * ((2 : Int64) - (p1 * p1)))))))))))) * ((2 : Int64) - (p1 * ((((p1 * ((2 : Int64) - (p1 * p1))) * ((2 : Int64) - (p1 * (p1 * ((2 : Int64) - (p1 * p1)))))) * ((2 : Int64) - (p1 * ((p1 * ((2 : Int64) - (p1 * p1))) * ((2 : Int64) - (p1 * (p1 * ((2 : Int64) - (p1 * p1))))))))) * ((2 : Int64) - (p1 * (((p1 * ((2 : Int64) - (p1 * p1))) * ((2 : Int64) - (p1 * (p1 * ((2 : Int64) - (p1 * p1)))))) * ((2 : Int64) - (p1 * ((p1 * ((2 : Int64) - (p1 * p1))) * ((2 : Int64) - (p1 * (p1 * ((2 : Int64) - (p1 * p1)))))))))))))))), .second] []))) (fun t ht => XT.lstoreN X0.here hx rfl (hb hby own_d5_51) rfl (l' := #[.val (.long p1), .second, .val (.long (((((p1 * ((2 : Int64) - (p1 * p1))) * ((2 : Int64) - (p1 * (p1 * ((2 : Int64) - (p1 * p1)))))) * ((2 : Int64) - (p1 * ((p1 * ((2 : Int64) - (p1 * p1))) * ((2 : Int64) - (p1 * (p1 * ((2 : Int64) - (p1 * p1))))))))) * ((2 : Int64) - (p1 * (((p1 * ((2 : Int64) - (p1 * p1))) * ((2 : Int64) - (p1 * (p1 * ((2 : Int64) - (p1 * p1)))))) * ((2 : Int64) - (p1 * ((p1 * ((2 : Int64) - (p1 * p1))) * ((2 : Int64) - (p1 * (p1 * ((2 : Int64) - (p1 * p1)))))))))))) * ((2 : Int64) - (p1 * ((((p1 * ((2 : Int64) - (p1 * p1))) * ((2 : Int64) - (p1 * (p1 * ((2 : Int64) - (p1 * p1)))))) * ((2 : Int64) - (p1 * ((p1 * ((2 : Int64) - (p1 * p1))) * ((2 : Int64) - (p1 * (p1 * ((2 : Int64) - (p1 * p1))))))))) * ((2 : Int64) - (p1 * (((p1 * ((2 : Int64) - (p1 * p1))) * ((2 : Int64) - (p1 * (p1 * ((2 : Int64) - (p1 * p1)))))) * ((2 : Int64) - (p1 * ((p1 * ((2 : Int64) - (p1 * p1))) * ((2 : Int64) - (p1 * (p1 * ((2 : Int64) - (p1 * p1)))))))))))))))), .second]) rfl ht) ?_
  refine own_step (U' := (s₁.setTop (mkF m 53 #[.val (.long p1), .second, .val (.long (((((p1 * ((2 : Int64) - (p1 * p1))) * ((2 : Int64) - (p1 * (p1 * ((2 : Int64) - (p1 * p1)))))) * ((2 : Int64) - (p1 * ((p1 * ((2 : Int64) - (p1 * p1))) * ((2 : Int64) - (p1 * (p1 * ((2 : Int64) - (p1 * p1))))))))) * ((2 : Int64) - (p1 * (((p1 * ((2 : Int64) - (p1 * p1))) * ((2 : Int64) - (p1 * (p1 * ((2 : Int64) - (p1 * p1)))))) * ((2 : Int64) - (p1 * ((p1 * ((2 : Int64) - (p1 * p1))) * ((2 : Int64) - (p1 * (p1 * ((2 : Int64) - (p1 * p1)))))))))))) * ((2 : Int64) - (p1 * ((((p1 * ((2 : Int64) - (p1 * p1))) * ((2 : Int64) - (p1 * (p1 * ((2 : Int64) - (p1 * p1)))))) * ((2 : Int64) - (p1 * ((p1 * ((2 : Int64) - (p1 * p1))) * ((2 : Int64) - (p1 * (p1 * ((2 : Int64) - (p1 * p1))))))))) * ((2 : Int64) - (p1 * (((p1 * ((2 : Int64) - (p1 * p1))) * ((2 : Int64) - (p1 * (p1 * ((2 : Int64) - (p1 * p1)))))) * ((2 : Int64) - (p1 * ((p1 * ((2 : Int64) - (p1 * p1))) * ((2 : Int64) - (p1 * (p1 * ((2 : Int64) - (p1 * p1)))))))))))))))), .second] [(.long (((((p1 * ((2 : Int64) - (p1 * p1))) * ((2 : Int64) - (p1 * (p1 * ((2 : Int64) - (p1 * p1)))))) * ((2 : Int64) - (p1 * ((p1 * ((2 : Int64) - (p1 * p1))) * ((2 : Int64) - (p1 * (p1 * ((2 : Int64) - (p1 * p1))))))))) * ((2 : Int64) - (p1 * (((p1 * ((2 : Int64) - (p1 * p1))) * ((2 : Int64) - (p1 * (p1 * ((2 : Int64) - (p1 * p1)))))) * ((2 : Int64) - (p1 * ((p1 * ((2 : Int64) - (p1 * p1))) * ((2 : Int64) - (p1 * (p1 * ((2 : Int64) - (p1 * p1)))))))))))) * ((2 : Int64) - (p1 * ((((p1 * ((2 : Int64) - (p1 * p1))) * ((2 : Int64) - (p1 * (p1 * ((2 : Int64) - (p1 * p1)))))) * ((2 : Int64) - (p1 * ((p1 * ((2 : Int64) - (p1 * p1))) * ((2 : Int64) - (p1 * (p1 * ((2 : Int64) - (p1 * p1))))))))) * ((2 : Int64) - (p1 * (((p1 * ((2 : Int64) - (p1 * p1))) * ((2 : Int64) - (p1 * (p1 * ((2 : Int64) - (p1 * p1)))))) * ((2 : Int64) - (p1 * ((p1 * ((2 : Int64) - (p1 * p1))) * ((2 : Int64) - (p1 * (p1 * ((2 : Int64) - (p1 * p1))))))))))))))))]))) (fun t ht => XT.lloadN X0.here hx rfl (hb hby own_d5_52) rfl ht) ?_
  refine own_ret X0 (v := (some (.long (((((p1 * ((2 : Int64) - (p1 * p1))) * ((2 : Int64) - (p1 * (p1 * ((2 : Int64) - (p1 * p1)))))) * ((2 : Int64) - (p1 * ((p1 * ((2 : Int64) - (p1 * p1))) * ((2 : Int64) - (p1 * (p1 * ((2 : Int64) - (p1 * p1))))))))) * ((2 : Int64) - (p1 * (((p1 * ((2 : Int64) - (p1 * p1))) * ((2 : Int64) - (p1 * (p1 * ((2 : Int64) - (p1 * p1)))))) * ((2 : Int64) - (p1 * ((p1 * ((2 : Int64) - (p1 * p1))) * ((2 : Int64) - (p1 * (p1 * ((2 : Int64) - (p1 * p1)))))))))))) * ((2 : Int64) - (p1 * ((((p1 * ((2 : Int64) - (p1 * p1))) * ((2 : Int64) - (p1 * (p1 * ((2 : Int64) - (p1 * p1)))))) * ((2 : Int64) - (p1 * ((p1 * ((2 : Int64) - (p1 * p1))) * ((2 : Int64) - (p1 * (p1 * ((2 : Int64) - (p1 * p1))))))))) * ((2 : Int64) - (p1 * (((p1 * ((2 : Int64) - (p1 * p1))) * ((2 : Int64) - (p1 * (p1 * ((2 : Int64) - (p1 * p1)))))) * ((2 : Int64) - (p1 * ((p1 * ((2 : Int64) - (p1 * p1))) * ((2 : Int64) - (p1 * (p1 * ((2 : Int64) - (p1 * p1)))))))))))))))))) (fun h => by rw [Bd.returns] at h; cases h) Bd.notSynchronized (by decide) (by decide) ?_ (fun fs hr => retOut X0 hx (t := .long) Bd.returns rfl (Or.inr (Or.inl ⟨rfl, rfl, _, rfl⟩)) (hb hby own_d5_53) hr)
  show own_Q_inv Z p1 h0 n0 _ s₁.heap _
  rw [e0]
  refine ⟨?_, N0, rfl⟩
  rfl
theorem own_pd0 : parseMethodDescriptor "(J)J" = some ⟨[.long], some .long⟩ := by decide +kernel
theorem own_d4_0 : decode method_3_code 0 = .ok (.lload_n 0, 1) := by decide +kernel
theorem own_d4_1 : decode method_3_code 1 = .ok (.lload_n 0, 1) := by decide +kernel
theorem own_d4_2 : decode method_3_code 2 = .ok (.bipush 31, 2) := by decide +kernel
theorem own_d4_4 : decode method_3_code 4 = .ok (.lushr, 1) := by decide +kernel
theorem own_d4_5 : decode method_3_code 5 = .ok (.lxor, 1) := by decide +kernel
theorem own_d4_6 : decode method_3_code 6 = .ok (.lload_n 0, 1) := by decide +kernel
theorem own_d4_7 : decode method_3_code 7 = .ok (.bipush 62, 2) := by decide +kernel
theorem own_d4_9 : decode method_3_code 9 = .ok (.lushr, 1) := by decide +kernel
theorem own_d4_10 : decode method_3_code 10 = .ok (.lxor, 1) := by decide +kernel
theorem own_d4_11 : decode method_3_code 11 = .ok (.lstore_n 0, 1) := by decide +kernel
theorem own_d4_12 : decode method_3_code 12 = .ok (.lload_n 0, 1) := by decide +kernel
theorem own_d4_13 : decode method_3_code 13 = .ok (.ldc2_w 9, 3) := by decide +kernel
theorem own_d4_16 : decode method_3_code 16 = .ok (.invokestatic 11, 3) := by decide +kernel
theorem own_d4_19 : decode method_3_code 19 = .ok (.lmul, 1) := by decide +kernel
theorem own_d4_20 : decode method_3_code 20 = .ok (.lstore_n 0, 1) := by decide +kernel
theorem own_d4_21 : decode method_3_code 21 = .ok (.lload_n 0, 1) := by decide +kernel
theorem own_d4_22 : decode method_3_code 22 = .ok (.lload_n 0, 1) := by decide +kernel
theorem own_d4_23 : decode method_3_code 23 = .ok (.bipush 27, 2) := by decide +kernel
theorem own_d4_25 : decode method_3_code 25 = .ok (.lushr, 1) := by decide +kernel
theorem own_d4_26 : decode method_3_code 26 = .ok (.lxor, 1) := by decide +kernel
theorem own_d4_27 : decode method_3_code 27 = .ok (.lload_n 0, 1) := by decide +kernel
theorem own_d4_28 : decode method_3_code 28 = .ok (.bipush 54, 2) := by decide +kernel
theorem own_d4_30 : decode method_3_code 30 = .ok (.lushr, 1) := by decide +kernel
theorem own_d4_31 : decode method_3_code 31 = .ok (.lxor, 1) := by decide +kernel
theorem own_d4_32 : decode method_3_code 32 = .ok (.lstore_n 0, 1) := by decide +kernel
theorem own_d4_33 : decode method_3_code 33 = .ok (.lload_n 0, 1) := by decide +kernel
theorem own_d4_34 : decode method_3_code 34 = .ok (.ldc2_w 17, 3) := by decide +kernel
theorem own_d4_37 : decode method_3_code 37 = .ok (.invokestatic 11, 3) := by decide +kernel
theorem own_d4_40 : decode method_3_code 40 = .ok (.lmul, 1) := by decide +kernel
theorem own_d4_41 : decode method_3_code 41 = .ok (.lstore_n 0, 1) := by decide +kernel
theorem own_d4_42 : decode method_3_code 42 = .ok (.lload_n 0, 1) := by decide +kernel
theorem own_d4_43 : decode method_3_code 43 = .ok (.lload_n 0, 1) := by decide +kernel
theorem own_d4_44 : decode method_3_code 44 = .ok (.bipush 30, 2) := by decide +kernel
theorem own_d4_46 : decode method_3_code 46 = .ok (.lushr, 1) := by decide +kernel
theorem own_d4_47 : decode method_3_code 47 = .ok (.lxor, 1) := by decide +kernel
theorem own_d4_48 : decode method_3_code 48 = .ok (.lload_n 0, 1) := by decide +kernel
theorem own_d4_49 : decode method_3_code 49 = .ok (.bipush 60, 2) := by decide +kernel
theorem own_d4_51 : decode method_3_code 51 = .ok (.lushr, 1) := by decide +kernel
theorem own_d4_52 : decode method_3_code 52 = .ok (.lxor, 1) := by decide +kernel
theorem own_d4_53 : decode method_3_code 53 = .ok (.lstore_n 0, 1) := by decide +kernel
theorem own_d4_54 : decode method_3_code 54 = .ok (.lload_n 0, 1) := by decide +kernel
theorem own_d4_55 : decode method_3_code 55 = .ok (.lreturn, 1) := by decide +kernel
def own_Q_unm (Z : State) (p1 : Int64) (h0 : Heap) (n0 : Nat) (v : Option Value) (h : Heap) (L : List Loc) : Prop := v = some (.long (own_unmix p1)) ∧ Fr n0 L ∧ h = h0
set_option maxRecDepth 65536 in
set_option maxHeartbeats 40000000 in
theorem own_m_unm (l : Launch) (Z : State) (a0 : Array Value) (hw : ∀ d ∈ tables_1, d.before a0 Z = true) (ws : List Jvm.Cond) (p1 : Int64) (h0 : Heap) (n0 : Nat) (Z0 : n0 ≤ h0.size)  :
    MetFree l (⟨"com/example/eigentuple/eigentuple/io/SplitMixNextLongPinLaw", "unmix", "(J)J"⟩ : MethodName) (head1 (Jvm.Cond.code (⟨"com/example/eigentuple/eigentuple/io/SplitMixNextLongPinLaw", "unmix", "(J)J"⟩ : MethodName) method_3_code 2 (some .long) :: ws) ({ frames := 1, cells := 0, slots := 0, locals := 17 } : Room)) (fun a U => a = #[(.long p1)] ∧ Z.Warmed39 U.vm ∧ U.heap = h0) (fun _ _ _ _ _ => True) (fun _ U o U' => ∃ v L, o = .returned v ∧ own_Q_unm Z p1 h0 n0 v U'.heap L ∧ FrameEnd U o U' L ({ frames := 1, cells := 0, slots := 0, locals := 17 } : Room).cells ({ frames := 1, cells := 0, slots := 0, locals := 17 } : Room).slots) := by
  refine MetFree.of_bodySF (plainFor_of_name own_pn1) hisR ?_
  intro p e s m args below meth c s₁ Bd hml0 hP hK
  obtain ⟨rfl, hZ, hh⟩ := hP
  have hx := Bd.exec
  have hby := Bd.bytes
  have hml : c.maxLocals = 2 := hml0
  have hown : s.vm.findClass "com/example/eigentuple/eigentuple/io/SplitMixNextLongPinLaw" = some m.cls := findClass_of_methodNamed Bd.named
  have hnm := (name_of_methodNamed Bd.named Bd.method).1
  have X0 : Stand p l e ({ frames := 1, cells := 0, slots := 0, locals := 17 } : Room) s m #[(.long p1)] below meth c s₁ [] 0 0 := Stand.of_body Bd
  have e0 : s₁.heap = h0 := by rw [← hh, Bd.state]; rfl
  have N0 := Fr.nil n0
  have K0 : Keep h0 h0 [] := Keep.refl _ _
  show own_Go p e below s ({ frames := 1, cells := 0, slots := 0, locals := 17 } : Room).cells ({ frames := 1, cells := 0, slots := 0, locals := 17 } : Room).slots (own_Q_unm Z p1 h0 n0) (s₁.setTop (entryFrame m #[(.long p1)] 2))
  have ef : entryFrame m #[(.long p1)] 2 = (mkF m 0 #[.val (.long p1), .second] []) := by first | rfl | (simp [entryFrame, mkF, argsToLocals, Value.category, maxLocals]; done)
  rw [ef]
  show own_Go p e below s _ _ _ (s₁.setTop (mkF m 0 #[.val (.long p1), .second] []))
  refine own_step (U' := (s₁.setTop (mkF m 1 #[.val (.long p1), .second] [(.long p1)]))) (fun t ht => XT.lloadN X0.here hx rfl (hb hby own_d4_0) rfl ht) ?_
  refine own_step (U' := (s₁.setTop (mkF m 2 #[.val (.long p1), .second] [(.long p1), (.long p1)]))) (fun t ht => XT.lloadN X0.here hx rfl (hb hby own_d4_1) rfl ht) ?_
  refine own_step (U' := (s₁.setTop (mkF m 4 #[.val (.long p1), .second] [(.int (31 : Int32)), (.long p1), (.long p1)]))) (fun t ht => XS.bipush X0.here hx rfl (hb hby own_d4_2) ht) ?_
  refine own_step (U' := (s₁.setTop (mkF m 5 #[.val (.long p1), .second] [(.long (XT.ushrL p1 (31 : Int32))), (.long p1)]))) (fun t ht => XT.lushr X0.here hx rfl (hb hby own_d4_4) rfl ht) ?_
  refine own_step (U' := (s₁.setTop (mkF m 6 #[.val (.long p1), .second] [(.long (p1 ^^^ (XT.ushrL p1 (31 : Int32))))]))) (fun t ht => XT.lxor X0.here hx rfl (hb hby own_d4_5) rfl ht) ?_
  refine own_step (U' := (s₁.setTop (mkF m 7 #[.val (.long p1), .second] [(.long p1), (.long (p1 ^^^ (XT.ushrL p1 (31 : Int32))))]))) (fun t ht => XT.lloadN X0.here hx rfl (hb hby own_d4_6) rfl ht) ?_
  refine own_step (U' := (s₁.setTop (mkF m 9 #[.val (.long p1), .second] [(.int (62 : Int32)), (.long p1), (.long (p1 ^^^ (XT.ushrL p1 (31 : Int32))))]))) (fun t ht => XS.bipush X0.here hx rfl (hb hby own_d4_7) ht) ?_
  refine own_step (U' := (s₁.setTop (mkF m 10 #[.val (.long p1), .second] [(.long (XT.ushrL p1 (62 : Int32))), (.long (p1 ^^^ (XT.ushrL p1 (31 : Int32))))]))) (fun t ht => XT.lushr X0.here hx rfl (hb hby own_d4_9) rfl ht) ?_
  refine own_step (U' := (s₁.setTop (mkF m 11 #[.val (.long p1), .second] [(.long ((p1 ^^^ (XT.ushrL p1 (31 : Int32))) ^^^ (XT.ushrL p1 (62 : Int32))))]))) (fun t ht => XT.lxor X0.here hx rfl (hb hby own_d4_10) rfl ht) ?_
  refine own_step (U' := (s₁.setTop (mkF m 12 #[.val (.long ((p1 ^^^ (XT.ushrL p1 (31 : Int32))) ^^^ (XT.ushrL p1 (62 : Int32)))), .second] []))) (fun t ht => XT.lstoreN X0.here hx rfl (hb hby own_d4_11) rfl (l' := #[.val (.long ((p1 ^^^ (XT.ushrL p1 (31 : Int32))) ^^^ (XT.ushrL p1 (62 : Int32)))), .second]) rfl ht) ?_
  refine own_step (U' := (s₁.setTop (mkF m 13 #[.val (.long ((p1 ^^^ (XT.ushrL p1 (31 : Int32))) ^^^ (XT.ushrL p1 (62 : Int32)))), .second] [(.long ((p1 ^^^ (XT.ushrL p1 (31 : Int32))) ^^^ (XT.ushrL p1 (62 : Int32))))]))) (fun t ht => XT.lloadN X0.here hx rfl (hb hby own_d4_12) rfl ht) ?_
  refine own_step (U' := (s₁.setTop (mkF m 16 #[.val (.long ((p1 ^^^ (XT.ushrL p1 (31 : Int32))) ^^^ (XT.ushrL p1 (62 : Int32)))), .second] [(.long (-7723592293110705685 : Int64)), (.long ((p1 ^^^ (XT.ushrL p1 (31 : Int32))) ^^^ (XT.ushrL p1 (62 : Int32))))]))) (fun t ht => X0.ldc2Long hx hown (mvT hZ (hw _ (List.mem_of_getElem? (i := 24) rfl))) (g := (mkF m 13 #[.val (.long ((p1 ^^^ (XT.ushrL p1 (31 : Int32))) ^^^ (XT.ushrL p1 (62 : Int32)))), .second] [(.long ((p1 ^^^ (XT.ushrL p1 (31 : Int32))) ^^^ (XT.ushrL p1 (62 : Int32))))])) rfl (hb hby own_d4_13) _ ht) ?_
  obtain ⟨_, _, ⟨T6, L6, k6, n6⟩, -, X6, ⟨Lc6, hQ6, l6, y6, z6⟩, st6⟩ := Jvm.LawKit.callS X0 hx (y := (⟨"com/example/eigentuple/eigentuple/io/SplitMixNextLongPinLaw", "inverse", "(J)J"⟩ : MethodName)) hown (mvT hZ (hw _ (List.mem_of_getElem? (i := 25) rfl))) (mvT hZ (hw _ (List.mem_of_getElem? (i := 26) rfl))) (mvT hZ (hw _ (List.mem_of_getElem? (i := 22) rfl))) (mvT hZ (hw _ (List.mem_of_getElem? (i := 27) rfl))) (by decide) (backOf (W := 2) (own_m_inv l Z a0 hw [] ((-7723592293110705685 : Int64)) h0 n0 Z0 ) hZ (hw _ (List.mem_of_getElem? (i := 27) rfl)) (hw _ (List.mem_of_getElem? (i := 22) rfl)) (by decide) (by decide)) (g := (mkF m 16 #[.val (.long ((p1 ^^^ (XT.ushrL p1 (31 : Int32))) ^^^ (XT.ushrL p1 (62 : Int32)))), .second] [(.long (-7723592293110705685 : Int64)), (.long ((p1 ^^^ (XT.ushrL p1 (31 : Int32))) ^^^ (XT.ushrL p1 (62 : Int32))))])) rfl (by rw [hml]; rfl) (argsL := [(.long (-7723592293110705685 : Int64))]) (rest := [(.long ((p1 ^^^ (XT.ushrL p1 (31 : Int32))) ^^^ (XT.ushrL p1 (62 : Int32))))]) (lenOf own_pd0 rfl) rfl (by show 2 * 0 + _ ≤ _; exact Nat.le_of_eq rfl) (hb hby own_d4_16) (fun _ _ => ⟨rfl, e0, (by decide : 0 + 0 ≤ _), (by decide : 0 + 0 ≤ _)⟩)
  dsimp only [Pt.U, Pt.locs, Pt.cells, Pt.slots] at X6 l6 y6 z6 st6 hQ6
  subst l6 y6 z6
  obtain ⟨rfl, Nq6, Kq6⟩ := hQ6
  have N6 := Fr.app N0 Nq6
  have e6 : T6.heap = h0 := Kq6
  refine own_step (U' := (T6.setTop (mkF m 19 #[.val (.long ((p1 ^^^ (XT.ushrL p1 (31 : Int32))) ^^^ (XT.ushrL p1 (62 : Int32)))), .second] [(.long (own_inv (-7723592293110705685 : Int64))), (.long ((p1 ^^^ (XT.ushrL p1 (31 : Int32))) ^^^ (XT.ushrL p1 (62 : Int32))))]))) (fun t ht => st6 _ ht) ?_
  refine own_step (U' := (T6.setTop (mkF m 20 #[.val (.long ((p1 ^^^ (XT.ushrL p1 (31 : Int32))) ^^^ (XT.ushrL p1 (62 : Int32)))), .second] [(.long (((p1 ^^^ (XT.ushrL p1 (31 : Int32))) ^^^ (XT.ushrL p1 (62 : Int32))) * (own_inv (-7723592293110705685 : Int64))))]))) (fun t ht => XT.lmul X6.here hx rfl (hb hby own_d4_19) rfl ht) ?_
  refine own_step (U' := (T6.setTop (mkF m 21 #[.val (.long (((p1 ^^^ (XT.ushrL p1 (31 : Int32))) ^^^ (XT.ushrL p1 (62 : Int32))) * (own_inv (-7723592293110705685 : Int64)))), .second] []))) (fun t ht => XT.lstoreN X6.here hx rfl (hb hby own_d4_20) rfl (l' := #[.val (.long (((p1 ^^^ (XT.ushrL p1 (31 : Int32))) ^^^ (XT.ushrL p1 (62 : Int32))) * (own_inv (-7723592293110705685 : Int64)))), .second]) rfl ht) ?_
  refine own_step (U' := (T6.setTop (mkF m 22 #[.val (.long (((p1 ^^^ (XT.ushrL p1 (31 : Int32))) ^^^ (XT.ushrL p1 (62 : Int32))) * (own_inv (-7723592293110705685 : Int64)))), .second] [(.long (((p1 ^^^ (XT.ushrL p1 (31 : Int32))) ^^^ (XT.ushrL p1 (62 : Int32))) * (own_inv (-7723592293110705685 : Int64))))]))) (fun t ht => XT.lloadN X6.here hx rfl (hb hby own_d4_21) rfl ht) ?_
  refine own_step (U' := (T6.setTop (mkF m 23 #[.val (.long (((p1 ^^^ (XT.ushrL p1 (31 : Int32))) ^^^ (XT.ushrL p1 (62 : Int32))) * (own_inv (-7723592293110705685 : Int64)))), .second] [(.long (((p1 ^^^ (XT.ushrL p1 (31 : Int32))) ^^^ (XT.ushrL p1 (62 : Int32))) * (own_inv (-7723592293110705685 : Int64)))), (.long (((p1 ^^^ (XT.ushrL p1 (31 : Int32))) ^^^ (XT.ushrL p1 (62 : Int32))) * (own_inv (-7723592293110705685 : Int64))))]))) (fun t ht => XT.lloadN X6.here hx rfl (hb hby own_d4_22) rfl ht) ?_
  refine own_step (U' := (T6.setTop (mkF m 25 #[.val (.long (((p1 ^^^ (XT.ushrL p1 (31 : Int32))) ^^^ (XT.ushrL p1 (62 : Int32))) * (own_inv (-7723592293110705685 : Int64)))), .second] [(.int (27 : Int32)), (.long (((p1 ^^^ (XT.ushrL p1 (31 : Int32))) ^^^ (XT.ushrL p1 (62 : Int32))) * (own_inv (-7723592293110705685 : Int64)))), (.long (((p1 ^^^ (XT.ushrL p1 (31 : Int32))) ^^^ (XT.ushrL p1 (62 : Int32))) * (own_inv (-7723592293110705685 : Int64))))]))) (fun t ht => XS.bipush X6.here hx rfl (hb hby own_d4_23) ht) ?_
  refine own_step (U' := (T6.setTop (mkF m 26 #[.val (.long (((p1 ^^^ (XT.ushrL p1 (31 : Int32))) ^^^ (XT.ushrL p1 (62 : Int32))) * (own_inv (-7723592293110705685 : Int64)))), .second] [(.long (XT.ushrL (((p1 ^^^ (XT.ushrL p1 (31 : Int32))) ^^^ (XT.ushrL p1 (62 : Int32))) * (own_inv (-7723592293110705685 : Int64))) (27 : Int32))), (.long (((p1 ^^^ (XT.ushrL p1 (31 : Int32))) ^^^ (XT.ushrL p1 (62 : Int32))) * (own_inv (-7723592293110705685 : Int64))))]))) (fun t ht => XT.lushr X6.here hx rfl (hb hby own_d4_25) rfl ht) ?_
  refine own_step (U' := (T6.setTop (mkF m 27 #[.val (.long (((p1 ^^^ (XT.ushrL p1 (31 : Int32))) ^^^ (XT.ushrL p1 (62 : Int32))) * (own_inv (-7723592293110705685 : Int64)))), .second] [(.long ((((p1 ^^^ (XT.ushrL p1 (31 : Int32))) ^^^ (XT.ushrL p1 (62 : Int32))) * (own_inv (-7723592293110705685 : Int64))) ^^^ (XT.ushrL (((p1 ^^^ (XT.ushrL p1 (31 : Int32))) ^^^ (XT.ushrL p1 (62 : Int32))) * (own_inv (-7723592293110705685 : Int64))) (27 : Int32))))]))) (fun t ht => XT.lxor X6.here hx rfl (hb hby own_d4_26) rfl ht) ?_
  refine own_step (U' := (T6.setTop (mkF m 28 #[.val (.long (((p1 ^^^ (XT.ushrL p1 (31 : Int32))) ^^^ (XT.ushrL p1 (62 : Int32))) * (own_inv (-7723592293110705685 : Int64)))), .second] [(.long (((p1 ^^^ (XT.ushrL p1 (31 : Int32))) ^^^ (XT.ushrL p1 (62 : Int32))) * (own_inv (-7723592293110705685 : Int64)))), (.long ((((p1 ^^^ (XT.ushrL p1 (31 : Int32))) ^^^ (XT.ushrL p1 (62 : Int32))) * (own_inv (-7723592293110705685 : Int64))) ^^^ (XT.ushrL (((p1 ^^^ (XT.ushrL p1 (31 : Int32))) ^^^ (XT.ushrL p1 (62 : Int32))) * (own_inv (-7723592293110705685 : Int64))) (27 : Int32))))]))) (fun t ht => XT.lloadN X6.here hx rfl (hb hby own_d4_27) rfl ht) ?_
  refine own_step (U' := (T6.setTop (mkF m 30 #[.val (.long (((p1 ^^^ (XT.ushrL p1 (31 : Int32))) ^^^ (XT.ushrL p1 (62 : Int32))) * (own_inv (-7723592293110705685 : Int64)))), .second] [(.int (54 : Int32)), (.long (((p1 ^^^ (XT.ushrL p1 (31 : Int32))) ^^^ (XT.ushrL p1 (62 : Int32))) * (own_inv (-7723592293110705685 : Int64)))), (.long ((((p1 ^^^ (XT.ushrL p1 (31 : Int32))) ^^^ (XT.ushrL p1 (62 : Int32))) * (own_inv (-7723592293110705685 : Int64))) ^^^ (XT.ushrL (((p1 ^^^ (XT.ushrL p1 (31 : Int32))) ^^^ (XT.ushrL p1 (62 : Int32))) * (own_inv (-7723592293110705685 : Int64))) (27 : Int32))))]))) (fun t ht => XS.bipush X6.here hx rfl (hb hby own_d4_28) ht) ?_
  refine own_step (U' := (T6.setTop (mkF m 31 #[.val (.long (((p1 ^^^ (XT.ushrL p1 (31 : Int32))) ^^^ (XT.ushrL p1 (62 : Int32))) * (own_inv (-7723592293110705685 : Int64)))), .second] [(.long (XT.ushrL (((p1 ^^^ (XT.ushrL p1 (31 : Int32))) ^^^ (XT.ushrL p1 (62 : Int32))) * (own_inv (-7723592293110705685 : Int64))) (54 : Int32))), (.long ((((p1 ^^^ (XT.ushrL p1 (31 : Int32))) ^^^ (XT.ushrL p1 (62 : Int32))) * (own_inv (-7723592293110705685 : Int64))) ^^^ (XT.ushrL (((p1 ^^^ (XT.ushrL p1 (31 : Int32))) ^^^ (XT.ushrL p1 (62 : Int32))) * (own_inv (-7723592293110705685 : Int64))) (27 : Int32))))]))) (fun t ht => XT.lushr X6.here hx rfl (hb hby own_d4_30) rfl ht) ?_
  refine own_step (U' := (T6.setTop (mkF m 32 #[.val (.long (((p1 ^^^ (XT.ushrL p1 (31 : Int32))) ^^^ (XT.ushrL p1 (62 : Int32))) * (own_inv (-7723592293110705685 : Int64)))), .second] [(.long (((((p1 ^^^ (XT.ushrL p1 (31 : Int32))) ^^^ (XT.ushrL p1 (62 : Int32))) * (own_inv (-7723592293110705685 : Int64))) ^^^ (XT.ushrL (((p1 ^^^ (XT.ushrL p1 (31 : Int32))) ^^^ (XT.ushrL p1 (62 : Int32))) * (own_inv (-7723592293110705685 : Int64))) (27 : Int32))) ^^^ (XT.ushrL (((p1 ^^^ (XT.ushrL p1 (31 : Int32))) ^^^ (XT.ushrL p1 (62 : Int32))) * (own_inv (-7723592293110705685 : Int64))) (54 : Int32))))]))) (fun t ht => XT.lxor X6.here hx rfl (hb hby own_d4_31) rfl ht) ?_
  refine own_step (U' := (T6.setTop (mkF m 33 #[.val (.long (((((p1 ^^^ (XT.ushrL p1 (31 : Int32))) ^^^ (XT.ushrL p1 (62 : Int32))) * (own_inv (-7723592293110705685 : Int64))) ^^^ (XT.ushrL (((p1 ^^^ (XT.ushrL p1 (31 : Int32))) ^^^ (XT.ushrL p1 (62 : Int32))) * (own_inv (-7723592293110705685 : Int64))) (27 : Int32))) ^^^ (XT.ushrL (((p1 ^^^ (XT.ushrL p1 (31 : Int32))) ^^^ (XT.ushrL p1 (62 : Int32))) * (own_inv (-7723592293110705685 : Int64))) (54 : Int32)))), .second] []))) (fun t ht => XT.lstoreN X6.here hx rfl (hb hby own_d4_32) rfl (l' := #[.val (.long (((((p1 ^^^ (XT.ushrL p1 (31 : Int32))) ^^^ (XT.ushrL p1 (62 : Int32))) * (own_inv (-7723592293110705685 : Int64))) ^^^ (XT.ushrL (((p1 ^^^ (XT.ushrL p1 (31 : Int32))) ^^^ (XT.ushrL p1 (62 : Int32))) * (own_inv (-7723592293110705685 : Int64))) (27 : Int32))) ^^^ (XT.ushrL (((p1 ^^^ (XT.ushrL p1 (31 : Int32))) ^^^ (XT.ushrL p1 (62 : Int32))) * (own_inv (-7723592293110705685 : Int64))) (54 : Int32)))), .second]) rfl ht) ?_
  refine own_step (U' := (T6.setTop (mkF m 34 #[.val (.long (((((p1 ^^^ (XT.ushrL p1 (31 : Int32))) ^^^ (XT.ushrL p1 (62 : Int32))) * (own_inv (-7723592293110705685 : Int64))) ^^^ (XT.ushrL (((p1 ^^^ (XT.ushrL p1 (31 : Int32))) ^^^ (XT.ushrL p1 (62 : Int32))) * (own_inv (-7723592293110705685 : Int64))) (27 : Int32))) ^^^ (XT.ushrL (((p1 ^^^ (XT.ushrL p1 (31 : Int32))) ^^^ (XT.ushrL p1 (62 : Int32))) * (own_inv (-7723592293110705685 : Int64))) (54 : Int32)))), .second] [(.long (((((p1 ^^^ (XT.ushrL p1 (31 : Int32))) ^^^ (XT.ushrL p1 (62 : Int32))) * (own_inv (-7723592293110705685 : Int64))) ^^^ (XT.ushrL (((p1 ^^^ (XT.ushrL p1 (31 : Int32))) ^^^ (XT.ushrL p1 (62 : Int32))) * (own_inv (-7723592293110705685 : Int64))) (27 : Int32))) ^^^ (XT.ushrL (((p1 ^^^ (XT.ushrL p1 (31 : Int32))) ^^^ (XT.ushrL p1 (62 : Int32))) * (own_inv (-7723592293110705685 : Int64))) (54 : Int32))))]))) (fun t ht => XT.lloadN X6.here hx rfl (hb hby own_d4_33) rfl ht) ?_
  refine own_step (U' := (T6.setTop (mkF m 37 #[.val (.long (((((p1 ^^^ (XT.ushrL p1 (31 : Int32))) ^^^ (XT.ushrL p1 (62 : Int32))) * (own_inv (-7723592293110705685 : Int64))) ^^^ (XT.ushrL (((p1 ^^^ (XT.ushrL p1 (31 : Int32))) ^^^ (XT.ushrL p1 (62 : Int32))) * (own_inv (-7723592293110705685 : Int64))) (27 : Int32))) ^^^ (XT.ushrL (((p1 ^^^ (XT.ushrL p1 (31 : Int32))) ^^^ (XT.ushrL p1 (62 : Int32))) * (own_inv (-7723592293110705685 : Int64))) (54 : Int32)))), .second] [(.long (-4658895280553007687 : Int64)), (.long (((((p1 ^^^ (XT.ushrL p1 (31 : Int32))) ^^^ (XT.ushrL p1 (62 : Int32))) * (own_inv (-7723592293110705685 : Int64))) ^^^ (XT.ushrL (((p1 ^^^ (XT.ushrL p1 (31 : Int32))) ^^^ (XT.ushrL p1 (62 : Int32))) * (own_inv (-7723592293110705685 : Int64))) (27 : Int32))) ^^^ (XT.ushrL (((p1 ^^^ (XT.ushrL p1 (31 : Int32))) ^^^ (XT.ushrL p1 (62 : Int32))) * (own_inv (-7723592293110705685 : Int64))) (54 : Int32))))]))) (fun t ht => X6.ldc2Long hx hown (mvT hZ (hw _ (List.mem_of_getElem? (i := 29) rfl))) (g := (mkF m 34 #[.val (.long (((((p1 ^^^ (XT.ushrL p1 (31 : Int32))) ^^^ (XT.ushrL p1 (62 : Int32))) * (own_inv (-7723592293110705685 : Int64))) ^^^ (XT.ushrL (((p1 ^^^ (XT.ushrL p1 (31 : Int32))) ^^^ (XT.ushrL p1 (62 : Int32))) * (own_inv (-7723592293110705685 : Int64))) (27 : Int32))) ^^^ (XT.ushrL (((p1 ^^^ (XT.ushrL p1 (31 : Int32))) ^^^ (XT.ushrL p1 (62 : Int32))) * (own_inv (-7723592293110705685 : Int64))) (54 : Int32)))), .second] [(.long (((((p1 ^^^ (XT.ushrL p1 (31 : Int32))) ^^^ (XT.ushrL p1 (62 : Int32))) * (own_inv (-7723592293110705685 : Int64))) ^^^ (XT.ushrL (((p1 ^^^ (XT.ushrL p1 (31 : Int32))) ^^^ (XT.ushrL p1 (62 : Int32))) * (own_inv (-7723592293110705685 : Int64))) (27 : Int32))) ^^^ (XT.ushrL (((p1 ^^^ (XT.ushrL p1 (31 : Int32))) ^^^ (XT.ushrL p1 (62 : Int32))) * (own_inv (-7723592293110705685 : Int64))) (54 : Int32))))])) rfl (hb hby own_d4_34) _ ht) ?_
  obtain ⟨_, _, ⟨T7, L7, k7, n7⟩, -, X7, ⟨Lc7, hQ7, l7, y7, z7⟩, st7⟩ := Jvm.LawKit.callS X6 hx (y := (⟨"com/example/eigentuple/eigentuple/io/SplitMixNextLongPinLaw", "inverse", "(J)J"⟩ : MethodName)) hown (mvT hZ (hw _ (List.mem_of_getElem? (i := 25) rfl))) (mvT hZ (hw _ (List.mem_of_getElem? (i := 26) rfl))) (mvT hZ (hw _ (List.mem_of_getElem? (i := 22) rfl))) (mvT hZ (hw _ (List.mem_of_getElem? (i := 27) rfl))) (by decide) (backOf (W := 2) (own_m_inv l Z a0 hw [] ((-4658895280553007687 : Int64)) h0 n0 Z0 ) hZ (hw _ (List.mem_of_getElem? (i := 27) rfl)) (hw _ (List.mem_of_getElem? (i := 22) rfl)) (by decide) (by decide)) (g := (mkF m 37 #[.val (.long (((((p1 ^^^ (XT.ushrL p1 (31 : Int32))) ^^^ (XT.ushrL p1 (62 : Int32))) * (own_inv (-7723592293110705685 : Int64))) ^^^ (XT.ushrL (((p1 ^^^ (XT.ushrL p1 (31 : Int32))) ^^^ (XT.ushrL p1 (62 : Int32))) * (own_inv (-7723592293110705685 : Int64))) (27 : Int32))) ^^^ (XT.ushrL (((p1 ^^^ (XT.ushrL p1 (31 : Int32))) ^^^ (XT.ushrL p1 (62 : Int32))) * (own_inv (-7723592293110705685 : Int64))) (54 : Int32)))), .second] [(.long (-4658895280553007687 : Int64)), (.long (((((p1 ^^^ (XT.ushrL p1 (31 : Int32))) ^^^ (XT.ushrL p1 (62 : Int32))) * (own_inv (-7723592293110705685 : Int64))) ^^^ (XT.ushrL (((p1 ^^^ (XT.ushrL p1 (31 : Int32))) ^^^ (XT.ushrL p1 (62 : Int32))) * (own_inv (-7723592293110705685 : Int64))) (27 : Int32))) ^^^ (XT.ushrL (((p1 ^^^ (XT.ushrL p1 (31 : Int32))) ^^^ (XT.ushrL p1 (62 : Int32))) * (own_inv (-7723592293110705685 : Int64))) (54 : Int32))))])) rfl (by rw [hml]; rfl) (argsL := [(.long (-4658895280553007687 : Int64))]) (rest := [(.long (((((p1 ^^^ (XT.ushrL p1 (31 : Int32))) ^^^ (XT.ushrL p1 (62 : Int32))) * (own_inv (-7723592293110705685 : Int64))) ^^^ (XT.ushrL (((p1 ^^^ (XT.ushrL p1 (31 : Int32))) ^^^ (XT.ushrL p1 (62 : Int32))) * (own_inv (-7723592293110705685 : Int64))) (27 : Int32))) ^^^ (XT.ushrL (((p1 ^^^ (XT.ushrL p1 (31 : Int32))) ^^^ (XT.ushrL p1 (62 : Int32))) * (own_inv (-7723592293110705685 : Int64))) (54 : Int32))))]) (lenOf own_pd0 rfl) rfl (by show 2 * 0 + _ ≤ _; exact Nat.le_of_eq rfl) (hb hby own_d4_37) (fun _ _ => ⟨rfl, e6, (by decide : 0 + 0 ≤ _), (by decide : 0 + 0 ≤ _)⟩)
  dsimp only [Pt.U, Pt.locs, Pt.cells, Pt.slots] at X7 l7 y7 z7 st7 hQ7
  subst l7 y7 z7
  obtain ⟨rfl, Nq7, Kq7⟩ := hQ7
  have N7 := Fr.app N6 Nq7
  have e7 : T7.heap = h0 := Kq7
  refine own_step (U' := (T7.setTop (mkF m 40 #[.val (.long (((((p1 ^^^ (XT.ushrL p1 (31 : Int32))) ^^^ (XT.ushrL p1 (62 : Int32))) * (own_inv (-7723592293110705685 : Int64))) ^^^ (XT.ushrL (((p1 ^^^ (XT.ushrL p1 (31 : Int32))) ^^^ (XT.ushrL p1 (62 : Int32))) * (own_inv (-7723592293110705685 : Int64))) (27 : Int32))) ^^^ (XT.ushrL (((p1 ^^^ (XT.ushrL p1 (31 : Int32))) ^^^ (XT.ushrL p1 (62 : Int32))) * (own_inv (-7723592293110705685 : Int64))) (54 : Int32)))), .second] [(.long (own_inv (-4658895280553007687 : Int64))), (.long (((((p1 ^^^ (XT.ushrL p1 (31 : Int32))) ^^^ (XT.ushrL p1 (62 : Int32))) * (own_inv (-7723592293110705685 : Int64))) ^^^ (XT.ushrL (((p1 ^^^ (XT.ushrL p1 (31 : Int32))) ^^^ (XT.ushrL p1 (62 : Int32))) * (own_inv (-7723592293110705685 : Int64))) (27 : Int32))) ^^^ (XT.ushrL (((p1 ^^^ (XT.ushrL p1 (31 : Int32))) ^^^ (XT.ushrL p1 (62 : Int32))) * (own_inv (-7723592293110705685 : Int64))) (54 : Int32))))]))) (fun t ht => st7 _ ht) ?_
  refine own_step (U' := (T7.setTop (mkF m 41 #[.val (.long (((((p1 ^^^ (XT.ushrL p1 (31 : Int32))) ^^^ (XT.ushrL p1 (62 : Int32))) * (own_inv (-7723592293110705685 : Int64))) ^^^ (XT.ushrL (((p1 ^^^ (XT.ushrL p1 (31 : Int32))) ^^^ (XT.ushrL p1 (62 : Int32))) * (own_inv (-7723592293110705685 : Int64))) (27 : Int32))) ^^^ (XT.ushrL (((p1 ^^^ (XT.ushrL p1 (31 : Int32))) ^^^ (XT.ushrL p1 (62 : Int32))) * (own_inv (-7723592293110705685 : Int64))) (54 : Int32)))), .second] [(.long ((((((p1 ^^^ (XT.ushrL p1 (31 : Int32))) ^^^ (XT.ushrL p1 (62 : Int32))) * (own_inv (-7723592293110705685 : Int64))) ^^^ (XT.ushrL (((p1 ^^^ (XT.ushrL p1 (31 : Int32))) ^^^ (XT.ushrL p1 (62 : Int32))) * (own_inv (-7723592293110705685 : Int64))) (27 : Int32))) ^^^ (XT.ushrL (((p1 ^^^ (XT.ushrL p1 (31 : Int32))) ^^^ (XT.ushrL p1 (62 : Int32))) * (own_inv (-7723592293110705685 : Int64))) (54 : Int32))) * (own_inv (-4658895280553007687 : Int64))))]))) (fun t ht => XT.lmul X7.here hx rfl (hb hby own_d4_40) rfl ht) ?_
  refine own_step (U' := (T7.setTop (mkF m 42 #[.val (.long ((((((p1 ^^^ (XT.ushrL p1 (31 : Int32))) ^^^ (XT.ushrL p1 (62 : Int32))) * (own_inv (-7723592293110705685 : Int64))) ^^^ (XT.ushrL (((p1 ^^^ (XT.ushrL p1 (31 : Int32))) ^^^ (XT.ushrL p1 (62 : Int32))) * (own_inv (-7723592293110705685 : Int64))) (27 : Int32))) ^^^ (XT.ushrL (((p1 ^^^ (XT.ushrL p1 (31 : Int32))) ^^^ (XT.ushrL p1 (62 : Int32))) * (own_inv (-7723592293110705685 : Int64))) (54 : Int32))) * (own_inv (-4658895280553007687 : Int64)))), .second] []))) (fun t ht => XT.lstoreN X7.here hx rfl (hb hby own_d4_41) rfl (l' := #[.val (.long ((((((p1 ^^^ (XT.ushrL p1 (31 : Int32))) ^^^ (XT.ushrL p1 (62 : Int32))) * (own_inv (-7723592293110705685 : Int64))) ^^^ (XT.ushrL (((p1 ^^^ (XT.ushrL p1 (31 : Int32))) ^^^ (XT.ushrL p1 (62 : Int32))) * (own_inv (-7723592293110705685 : Int64))) (27 : Int32))) ^^^ (XT.ushrL (((p1 ^^^ (XT.ushrL p1 (31 : Int32))) ^^^ (XT.ushrL p1 (62 : Int32))) * (own_inv (-7723592293110705685 : Int64))) (54 : Int32))) * (own_inv (-4658895280553007687 : Int64)))), .second]) rfl ht) ?_
  refine own_step (U' := (T7.setTop (mkF m 43 #[.val (.long ((((((p1 ^^^ (XT.ushrL p1 (31 : Int32))) ^^^ (XT.ushrL p1 (62 : Int32))) * (own_inv (-7723592293110705685 : Int64))) ^^^ (XT.ushrL (((p1 ^^^ (XT.ushrL p1 (31 : Int32))) ^^^ (XT.ushrL p1 (62 : Int32))) * (own_inv (-7723592293110705685 : Int64))) (27 : Int32))) ^^^ (XT.ushrL (((p1 ^^^ (XT.ushrL p1 (31 : Int32))) ^^^ (XT.ushrL p1 (62 : Int32))) * (own_inv (-7723592293110705685 : Int64))) (54 : Int32))) * (own_inv (-4658895280553007687 : Int64)))), .second] [(.long ((((((p1 ^^^ (XT.ushrL p1 (31 : Int32))) ^^^ (XT.ushrL p1 (62 : Int32))) * (own_inv (-7723592293110705685 : Int64))) ^^^ (XT.ushrL (((p1 ^^^ (XT.ushrL p1 (31 : Int32))) ^^^ (XT.ushrL p1 (62 : Int32))) * (own_inv (-7723592293110705685 : Int64))) (27 : Int32))) ^^^ (XT.ushrL (((p1 ^^^ (XT.ushrL p1 (31 : Int32))) ^^^ (XT.ushrL p1 (62 : Int32))) * (own_inv (-7723592293110705685 : Int64))) (54 : Int32))) * (own_inv (-4658895280553007687 : Int64))))]))) (fun t ht => XT.lloadN X7.here hx rfl (hb hby own_d4_42) rfl ht) ?_
  refine own_step (U' := (T7.setTop (mkF m 44 #[.val (.long ((((((p1 ^^^ (XT.ushrL p1 (31 : Int32))) ^^^ (XT.ushrL p1 (62 : Int32))) * (own_inv (-7723592293110705685 : Int64))) ^^^ (XT.ushrL (((p1 ^^^ (XT.ushrL p1 (31 : Int32))) ^^^ (XT.ushrL p1 (62 : Int32))) * (own_inv (-7723592293110705685 : Int64))) (27 : Int32))) ^^^ (XT.ushrL (((p1 ^^^ (XT.ushrL p1 (31 : Int32))) ^^^ (XT.ushrL p1 (62 : Int32))) * (own_inv (-7723592293110705685 : Int64))) (54 : Int32))) * (own_inv (-4658895280553007687 : Int64)))), .second] [(.long ((((((p1 ^^^ (XT.ushrL p1 (31 : Int32))) ^^^ (XT.ushrL p1 (62 : Int32))) * (own_inv (-7723592293110705685 : Int64))) ^^^ (XT.ushrL (((p1 ^^^ (XT.ushrL p1 (31 : Int32))) ^^^ (XT.ushrL p1 (62 : Int32))) * (own_inv (-7723592293110705685 : Int64))) (27 : Int32))) ^^^ (XT.ushrL (((p1 ^^^ (XT.ushrL p1 (31 : Int32))) ^^^ (XT.ushrL p1 (62 : Int32))) * (own_inv (-7723592293110705685 : Int64))) (54 : Int32))) * (own_inv (-4658895280553007687 : Int64)))), (.long ((((((p1 ^^^ (XT.ushrL p1 (31 : Int32))) ^^^ (XT.ushrL p1 (62 : Int32))) * (own_inv (-7723592293110705685 : Int64))) ^^^ (XT.ushrL (((p1 ^^^ (XT.ushrL p1 (31 : Int32))) ^^^ (XT.ushrL p1 (62 : Int32))) * (own_inv (-7723592293110705685 : Int64))) (27 : Int32))) ^^^ (XT.ushrL (((p1 ^^^ (XT.ushrL p1 (31 : Int32))) ^^^ (XT.ushrL p1 (62 : Int32))) * (own_inv (-7723592293110705685 : Int64))) (54 : Int32))) * (own_inv (-4658895280553007687 : Int64))))]))) (fun t ht => XT.lloadN X7.here hx rfl (hb hby own_d4_43) rfl ht) ?_
  refine own_step (U' := (T7.setTop (mkF m 46 #[.val (.long ((((((p1 ^^^ (XT.ushrL p1 (31 : Int32))) ^^^ (XT.ushrL p1 (62 : Int32))) * (own_inv (-7723592293110705685 : Int64))) ^^^ (XT.ushrL (((p1 ^^^ (XT.ushrL p1 (31 : Int32))) ^^^ (XT.ushrL p1 (62 : Int32))) * (own_inv (-7723592293110705685 : Int64))) (27 : Int32))) ^^^ (XT.ushrL (((p1 ^^^ (XT.ushrL p1 (31 : Int32))) ^^^ (XT.ushrL p1 (62 : Int32))) * (own_inv (-7723592293110705685 : Int64))) (54 : Int32))) * (own_inv (-4658895280553007687 : Int64)))), .second] [(.int (30 : Int32)), (.long ((((((p1 ^^^ (XT.ushrL p1 (31 : Int32))) ^^^ (XT.ushrL p1 (62 : Int32))) * (own_inv (-7723592293110705685 : Int64))) ^^^ (XT.ushrL (((p1 ^^^ (XT.ushrL p1 (31 : Int32))) ^^^ (XT.ushrL p1 (62 : Int32))) * (own_inv (-7723592293110705685 : Int64))) (27 : Int32))) ^^^ (XT.ushrL (((p1 ^^^ (XT.ushrL p1 (31 : Int32))) ^^^ (XT.ushrL p1 (62 : Int32))) * (own_inv (-7723592293110705685 : Int64))) (54 : Int32))) * (own_inv (-4658895280553007687 : Int64)))), (.long ((((((p1 ^^^ (XT.ushrL p1 (31 : Int32))) ^^^ (XT.ushrL p1 (62 : Int32))) * (own_inv (-7723592293110705685 : Int64))) ^^^ (XT.ushrL (((p1 ^^^ (XT.ushrL p1 (31 : Int32))) ^^^ (XT.ushrL p1 (62 : Int32))) * (own_inv (-7723592293110705685 : Int64))) (27 : Int32))) ^^^ (XT.ushrL (((p1 ^^^ (XT.ushrL p1 (31 : Int32))) ^^^ (XT.ushrL p1 (62 : Int32))) * (own_inv (-7723592293110705685 : Int64))) (54 : Int32))) * (own_inv (-4658895280553007687 : Int64))))]))) (fun t ht => XS.bipush X7.here hx rfl (hb hby own_d4_44) ht) ?_
  refine own_step (U' := (T7.setTop (mkF m 47 #[.val (.long ((((((p1 ^^^ (XT.ushrL p1 (31 : Int32))) ^^^ (XT.ushrL p1 (62 : Int32))) * (own_inv (-7723592293110705685 : Int64))) ^^^ (XT.ushrL (((p1 ^^^ (XT.ushrL p1 (31 : Int32))) ^^^ (XT.ushrL p1 (62 : Int32))) * (own_inv (-7723592293110705685 : Int64))) (27 : Int32))) ^^^ (XT.ushrL (((p1 ^^^ (XT.ushrL p1 (31 : Int32))) ^^^ (XT.ushrL p1 (62 : Int32))) * (own_inv (-7723592293110705685 : Int64))) (54 : Int32))) * (own_inv (-4658895280553007687 : Int64)))), .second] [(.long (XT.ushrL ((((((p1 ^^^ (XT.ushrL p1 (31 : Int32))) ^^^ (XT.ushrL p1 (62 : Int32))) * (own_inv (-7723592293110705685 : Int64))) ^^^ (XT.ushrL (((p1 ^^^ (XT.ushrL p1 (31 : Int32))) ^^^ (XT.ushrL p1 (62 : Int32))) * (own_inv (-7723592293110705685 : Int64))) (27 : Int32))) ^^^ (XT.ushrL (((p1 ^^^ (XT.ushrL p1 (31 : Int32))) ^^^ (XT.ushrL p1 (62 : Int32))) * (own_inv (-7723592293110705685 : Int64))) (54 : Int32))) * (own_inv (-4658895280553007687 : Int64))) (30 : Int32))), (.long ((((((p1 ^^^ (XT.ushrL p1 (31 : Int32))) ^^^ (XT.ushrL p1 (62 : Int32))) * (own_inv (-7723592293110705685 : Int64))) ^^^ (XT.ushrL (((p1 ^^^ (XT.ushrL p1 (31 : Int32))) ^^^ (XT.ushrL p1 (62 : Int32))) * (own_inv (-7723592293110705685 : Int64))) (27 : Int32))) ^^^ (XT.ushrL (((p1 ^^^ (XT.ushrL p1 (31 : Int32))) ^^^ (XT.ushrL p1 (62 : Int32))) * (own_inv (-7723592293110705685 : Int64))) (54 : Int32))) * (own_inv (-4658895280553007687 : Int64))))]))) (fun t ht => XT.lushr X7.here hx rfl (hb hby own_d4_46) rfl ht) ?_
  refine own_step (U' := (T7.setTop (mkF m 48 #[.val (.long ((((((p1 ^^^ (XT.ushrL p1 (31 : Int32))) ^^^ (XT.ushrL p1 (62 : Int32))) * (own_inv (-7723592293110705685 : Int64))) ^^^ (XT.ushrL (((p1 ^^^ (XT.ushrL p1 (31 : Int32))) ^^^ (XT.ushrL p1 (62 : Int32))) * (own_inv (-7723592293110705685 : Int64))) (27 : Int32))) ^^^ (XT.ushrL (((p1 ^^^ (XT.ushrL p1 (31 : Int32))) ^^^ (XT.ushrL p1 (62 : Int32))) * (own_inv (-7723592293110705685 : Int64))) (54 : Int32))) * (own_inv (-4658895280553007687 : Int64)))), .second] [(.long (((((((p1 ^^^ (XT.ushrL p1 (31 : Int32))) ^^^ (XT.ushrL p1 (62 : Int32))) * (own_inv (-7723592293110705685 : Int64))) ^^^ (XT.ushrL (((p1 ^^^ (XT.ushrL p1 (31 : Int32))) ^^^ (XT.ushrL p1 (62 : Int32))) * (own_inv (-7723592293110705685 : Int64))) (27 : Int32))) ^^^ (XT.ushrL (((p1 ^^^ (XT.ushrL p1 (31 : Int32))) ^^^ (XT.ushrL p1 (62 : Int32))) * (own_inv (-7723592293110705685 : Int64))) (54 : Int32))) * (own_inv (-4658895280553007687 : Int64))) ^^^ (XT.ushrL ((((((p1 ^^^ (XT.ushrL p1 (31 : Int32))) ^^^ (XT.ushrL p1 (62 : Int32))) * (own_inv (-7723592293110705685 : Int64))) ^^^ (XT.ushrL (((p1 ^^^ (XT.ushrL p1 (31 : Int32))) ^^^ (XT.ushrL p1 (62 : Int32))) * (own_inv (-7723592293110705685 : Int64))) (27 : Int32))) ^^^ (XT.ushrL (((p1 ^^^ (XT.ushrL p1 (31 : Int32))) ^^^ (XT.ushrL p1 (62 : Int32))) * (own_inv (-7723592293110705685 : Int64))) (54 : Int32))) * (own_inv (-4658895280553007687 : Int64))) (30 : Int32))))]))) (fun t ht => XT.lxor X7.here hx rfl (hb hby own_d4_47) rfl ht) ?_
  refine own_step (U' := (T7.setTop (mkF m 49 #[.val (.long ((((((p1 ^^^ (XT.ushrL p1 (31 : Int32))) ^^^ (XT.ushrL p1 (62 : Int32))) * (own_inv (-7723592293110705685 : Int64))) ^^^ (XT.ushrL (((p1 ^^^ (XT.ushrL p1 (31 : Int32))) ^^^ (XT.ushrL p1 (62 : Int32))) * (own_inv (-7723592293110705685 : Int64))) (27 : Int32))) ^^^ (XT.ushrL (((p1 ^^^ (XT.ushrL p1 (31 : Int32))) ^^^ (XT.ushrL p1 (62 : Int32))) * (own_inv (-7723592293110705685 : Int64))) (54 : Int32))) * (own_inv (-4658895280553007687 : Int64)))), .second] [(.long ((((((p1 ^^^ (XT.ushrL p1 (31 : Int32))) ^^^ (XT.ushrL p1 (62 : Int32))) * (own_inv (-7723592293110705685 : Int64))) ^^^ (XT.ushrL (((p1 ^^^ (XT.ushrL p1 (31 : Int32))) ^^^ (XT.ushrL p1 (62 : Int32))) * (own_inv (-7723592293110705685 : Int64))) (27 : Int32))) ^^^ (XT.ushrL (((p1 ^^^ (XT.ushrL p1 (31 : Int32))) ^^^ (XT.ushrL p1 (62 : Int32))) * (own_inv (-7723592293110705685 : Int64))) (54 : Int32))) * (own_inv (-4658895280553007687 : Int64)))), (.long (((((((p1 ^^^ (XT.ushrL p1 (31 : Int32))) ^^^ (XT.ushrL p1 (62 : Int32))) * (own_inv (-7723592293110705685 : Int64))) ^^^ (XT.ushrL (((p1 ^^^ (XT.ushrL p1 (31 : Int32))) ^^^ (XT.ushrL p1 (62 : Int32))) * (own_inv (-7723592293110705685 : Int64))) (27 : Int32))) ^^^ (XT.ushrL (((p1 ^^^ (XT.ushrL p1 (31 : Int32))) ^^^ (XT.ushrL p1 (62 : Int32))) * (own_inv (-7723592293110705685 : Int64))) (54 : Int32))) * (own_inv (-4658895280553007687 : Int64))) ^^^ (XT.ushrL ((((((p1 ^^^ (XT.ushrL p1 (31 : Int32))) ^^^ (XT.ushrL p1 (62 : Int32))) * (own_inv (-7723592293110705685 : Int64))) ^^^ (XT.ushrL (((p1 ^^^ (XT.ushrL p1 (31 : Int32))) ^^^ (XT.ushrL p1 (62 : Int32))) * (own_inv (-7723592293110705685 : Int64))) (27 : Int32))) ^^^ (XT.ushrL (((p1 ^^^ (XT.ushrL p1 (31 : Int32))) ^^^ (XT.ushrL p1 (62 : Int32))) * (own_inv (-7723592293110705685 : Int64))) (54 : Int32))) * (own_inv (-4658895280553007687 : Int64))) (30 : Int32))))]))) (fun t ht => XT.lloadN X7.here hx rfl (hb hby own_d4_48) rfl ht) ?_
  refine own_step (U' := (T7.setTop (mkF m 51 #[.val (.long ((((((p1 ^^^ (XT.ushrL p1 (31 : Int32))) ^^^ (XT.ushrL p1 (62 : Int32))) * (own_inv (-7723592293110705685 : Int64))) ^^^ (XT.ushrL (((p1 ^^^ (XT.ushrL p1 (31 : Int32))) ^^^ (XT.ushrL p1 (62 : Int32))) * (own_inv (-7723592293110705685 : Int64))) (27 : Int32))) ^^^ (XT.ushrL (((p1 ^^^ (XT.ushrL p1 (31 : Int32))) ^^^ (XT.ushrL p1 (62 : Int32))) * (own_inv (-7723592293110705685 : Int64))) (54 : Int32))) * (own_inv (-4658895280553007687 : Int64)))), .second] [(.int (60 : Int32)), (.long ((((((p1 ^^^ (XT.ushrL p1 (31 : Int32))) ^^^ (XT.ushrL p1 (62 : Int32))) * (own_inv (-7723592293110705685 : Int64))) ^^^ (XT.ushrL (((p1 ^^^ (XT.ushrL p1 (31 : Int32))) ^^^ (XT.ushrL p1 (62 : Int32))) * (own_inv (-7723592293110705685 : Int64))) (27 : Int32))) ^^^ (XT.ushrL (((p1 ^^^ (XT.ushrL p1 (31 : Int32))) ^^^ (XT.ushrL p1 (62 : Int32))) * (own_inv (-7723592293110705685 : Int64))) (54 : Int32))) * (own_inv (-4658895280553007687 : Int64)))), (.long (((((((p1 ^^^ (XT.ushrL p1 (31 : Int32))) ^^^ (XT.ushrL p1 (62 : Int32))) * (own_inv (-7723592293110705685 : Int64))) ^^^ (XT.ushrL (((p1 ^^^ (XT.ushrL p1 (31 : Int32))) ^^^ (XT.ushrL p1 (62 : Int32))) * (own_inv (-7723592293110705685 : Int64))) (27 : Int32))) ^^^ (XT.ushrL (((p1 ^^^ (XT.ushrL p1 (31 : Int32))) ^^^ (XT.ushrL p1 (62 : Int32))) * (own_inv (-7723592293110705685 : Int64))) (54 : Int32))) * (own_inv (-4658895280553007687 : Int64))) ^^^ (XT.ushrL ((((((p1 ^^^ (XT.ushrL p1 (31 : Int32))) ^^^ (XT.ushrL p1 (62 : Int32))) * (own_inv (-7723592293110705685 : Int64))) ^^^ (XT.ushrL (((p1 ^^^ (XT.ushrL p1 (31 : Int32))) ^^^ (XT.ushrL p1 (62 : Int32))) * (own_inv (-7723592293110705685 : Int64))) (27 : Int32))) ^^^ (XT.ushrL (((p1 ^^^ (XT.ushrL p1 (31 : Int32))) ^^^ (XT.ushrL p1 (62 : Int32))) * (own_inv (-7723592293110705685 : Int64))) (54 : Int32))) * (own_inv (-4658895280553007687 : Int64))) (30 : Int32))))]))) (fun t ht => XS.bipush X7.here hx rfl (hb hby own_d4_49) ht) ?_
  refine own_step (U' := (T7.setTop (mkF m 52 #[.val (.long ((((((p1 ^^^ (XT.ushrL p1 (31 : Int32))) ^^^ (XT.ushrL p1 (62 : Int32))) * (own_inv (-7723592293110705685 : Int64))) ^^^ (XT.ushrL (((p1 ^^^ (XT.ushrL p1 (31 : Int32))) ^^^ (XT.ushrL p1 (62 : Int32))) * (own_inv (-7723592293110705685 : Int64))) (27 : Int32))) ^^^ (XT.ushrL (((p1 ^^^ (XT.ushrL p1 (31 : Int32))) ^^^ (XT.ushrL p1 (62 : Int32))) * (own_inv (-7723592293110705685 : Int64))) (54 : Int32))) * (own_inv (-4658895280553007687 : Int64)))), .second] [(.long (XT.ushrL ((((((p1 ^^^ (XT.ushrL p1 (31 : Int32))) ^^^ (XT.ushrL p1 (62 : Int32))) * (own_inv (-7723592293110705685 : Int64))) ^^^ (XT.ushrL (((p1 ^^^ (XT.ushrL p1 (31 : Int32))) ^^^ (XT.ushrL p1 (62 : Int32))) * (own_inv (-7723592293110705685 : Int64))) (27 : Int32))) ^^^ (XT.ushrL (((p1 ^^^ (XT.ushrL p1 (31 : Int32))) ^^^ (XT.ushrL p1 (62 : Int32))) * (own_inv (-7723592293110705685 : Int64))) (54 : Int32))) * (own_inv (-4658895280553007687 : Int64))) (60 : Int32))), (.long (((((((p1 ^^^ (XT.ushrL p1 (31 : Int32))) ^^^ (XT.ushrL p1 (62 : Int32))) * (own_inv (-7723592293110705685 : Int64))) ^^^ (XT.ushrL (((p1 ^^^ (XT.ushrL p1 (31 : Int32))) ^^^ (XT.ushrL p1 (62 : Int32))) * (own_inv (-7723592293110705685 : Int64))) (27 : Int32))) ^^^ (XT.ushrL (((p1 ^^^ (XT.ushrL p1 (31 : Int32))) ^^^ (XT.ushrL p1 (62 : Int32))) * (own_inv (-7723592293110705685 : Int64))) (54 : Int32))) * (own_inv (-4658895280553007687 : Int64))) ^^^ (XT.ushrL ((((((p1 ^^^ (XT.ushrL p1 (31 : Int32))) ^^^ (XT.ushrL p1 (62 : Int32))) * (own_inv (-7723592293110705685 : Int64))) ^^^ (XT.ushrL (((p1 ^^^ (XT.ushrL p1 (31 : Int32))) ^^^ (XT.ushrL p1 (62 : Int32))) * (own_inv (-7723592293110705685 : Int64))) (27 : Int32))) ^^^ (XT.ushrL (((p1 ^^^ (XT.ushrL p1 (31 : Int32))) ^^^ (XT.ushrL p1 (62 : Int32))) * (own_inv (-7723592293110705685 : Int64))) (54 : Int32))) * (own_inv (-4658895280553007687 : Int64))) (30 : Int32))))]))) (fun t ht => XT.lushr X7.here hx rfl (hb hby own_d4_51) rfl ht) ?_
  refine own_step (U' := (T7.setTop (mkF m 53 #[.val (.long ((((((p1 ^^^ (XT.ushrL p1 (31 : Int32))) ^^^ (XT.ushrL p1 (62 : Int32))) * (own_inv (-7723592293110705685 : Int64))) ^^^ (XT.ushrL (((p1 ^^^ (XT.ushrL p1 (31 : Int32))) ^^^ (XT.ushrL p1 (62 : Int32))) * (own_inv (-7723592293110705685 : Int64))) (27 : Int32))) ^^^ (XT.ushrL (((p1 ^^^ (XT.ushrL p1 (31 : Int32))) ^^^ (XT.ushrL p1 (62 : Int32))) * (own_inv (-7723592293110705685 : Int64))) (54 : Int32))) * (own_inv (-4658895280553007687 : Int64)))), .second] [(.long ((((((((p1 ^^^ (XT.ushrL p1 (31 : Int32))) ^^^ (XT.ushrL p1 (62 : Int32))) * (own_inv (-7723592293110705685 : Int64))) ^^^ (XT.ushrL (((p1 ^^^ (XT.ushrL p1 (31 : Int32))) ^^^ (XT.ushrL p1 (62 : Int32))) * (own_inv (-7723592293110705685 : Int64))) (27 : Int32))) ^^^ (XT.ushrL (((p1 ^^^ (XT.ushrL p1 (31 : Int32))) ^^^ (XT.ushrL p1 (62 : Int32))) * (own_inv (-7723592293110705685 : Int64))) (54 : Int32))) * (own_inv (-4658895280553007687 : Int64))) ^^^ (XT.ushrL ((((((p1 ^^^ (XT.ushrL p1 (31 : Int32))) ^^^ (XT.ushrL p1 (62 : Int32))) * (own_inv (-7723592293110705685 : Int64))) ^^^ (XT.ushrL (((p1 ^^^ (XT.ushrL p1 (31 : Int32))) ^^^ (XT.ushrL p1 (62 : Int32))) * (own_inv (-7723592293110705685 : Int64))) (27 : Int32))) ^^^ (XT.ushrL (((p1 ^^^ (XT.ushrL p1 (31 : Int32))) ^^^ (XT.ushrL p1 (62 : Int32))) * (own_inv (-7723592293110705685 : Int64))) (54 : Int32))) * (own_inv (-4658895280553007687 : Int64))) (30 : Int32))) ^^^ (XT.ushrL ((((((p1 ^^^ (XT.ushrL p1 (31 : Int32))) ^^^ (XT.ushrL p1 (62 : Int32))) * (own_inv (-7723592293110705685 : Int64))) ^^^ (XT.ushrL (((p1 ^^^ (XT.ushrL p1 (31 : Int32))) ^^^ (XT.ushrL p1 (62 : Int32))) * (own_inv (-7723592293110705685 : Int64))) (27 : Int32))) ^^^ (XT.ushrL (((p1 ^^^ (XT.ushrL p1 (31 : Int32))) ^^^ (XT.ushrL p1 (62 : Int32))) * (own_inv (-7723592293110705685 : Int64))) (54 : Int32))) * (own_inv (-4658895280553007687 : Int64))) (60 : Int32))))]))) (fun t ht => XT.lxor X7.here hx rfl (hb hby own_d4_52) rfl ht) ?_
  refine own_step (U' := (T7.setTop (mkF m 54 #[.val (.long ((((((((p1 ^^^ (XT.ushrL p1 (31 : Int32))) ^^^ (XT.ushrL p1 (62 : Int32))) * (own_inv (-7723592293110705685 : Int64))) ^^^ (XT.ushrL (((p1 ^^^ (XT.ushrL p1 (31 : Int32))) ^^^ (XT.ushrL p1 (62 : Int32))) * (own_inv (-7723592293110705685 : Int64))) (27 : Int32))) ^^^ (XT.ushrL (((p1 ^^^ (XT.ushrL p1 (31 : Int32))) ^^^ (XT.ushrL p1 (62 : Int32))) * (own_inv (-7723592293110705685 : Int64))) (54 : Int32))) * (own_inv (-4658895280553007687 : Int64))) ^^^ (XT.ushrL ((((((p1 ^^^ (XT.ushrL p1 (31 : Int32))) ^^^ (XT.ushrL p1 (62 : Int32))) * (own_inv (-7723592293110705685 : Int64))) ^^^ (XT.ushrL (((p1 ^^^ (XT.ushrL p1 (31 : Int32))) ^^^ (XT.ushrL p1 (62 : Int32))) * (own_inv (-7723592293110705685 : Int64))) (27 : Int32))) ^^^ (XT.ushrL (((p1 ^^^ (XT.ushrL p1 (31 : Int32))) ^^^ (XT.ushrL p1 (62 : Int32))) * (own_inv (-7723592293110705685 : Int64))) (54 : Int32))) * (own_inv (-4658895280553007687 : Int64))) (30 : Int32))) ^^^ (XT.ushrL ((((((p1 ^^^ (XT.ushrL p1 (31 : Int32))) ^^^ (XT.ushrL p1 (62 : Int32))) * (own_inv (-7723592293110705685 : Int64))) ^^^ (XT.ushrL (((p1 ^^^ (XT.ushrL p1 (31 : Int32))) ^^^ (XT.ushrL p1 (62 : Int32))) * (own_inv (-7723592293110705685 : Int64))) (27 : Int32))) ^^^ (XT.ushrL (((p1 ^^^ (XT.ushrL p1 (31 : Int32))) ^^^ (XT.ushrL p1 (62 : Int32))) * (own_inv (-7723592293110705685 : Int64))) (54 : Int32))) * (own_inv (-4658895280553007687 : Int64))) (60 : Int32)))), .second] []))) (fun t ht => XT.lstoreN X7.here hx rfl (hb hby own_d4_53) rfl (l' := #[.val (.long ((((((((p1 ^^^ (XT.ushrL p1 (31 : Int32))) ^^^ (XT.ushrL p1 (62 : Int32))) * (own_inv (-7723592293110705685 : Int64))) ^^^ (XT.ushrL (((p1 ^^^ (XT.ushrL p1 (31 : Int32))) ^^^ (XT.ushrL p1 (62 : Int32))) * (own_inv (-7723592293110705685 : Int64))) (27 : Int32))) ^^^ (XT.ushrL (((p1 ^^^ (XT.ushrL p1 (31 : Int32))) ^^^ (XT.ushrL p1 (62 : Int32))) * (own_inv (-7723592293110705685 : Int64))) (54 : Int32))) * (own_inv (-4658895280553007687 : Int64))) ^^^ (XT.ushrL ((((((p1 ^^^ (XT.ushrL p1 (31 : Int32))) ^^^ (XT.ushrL p1 (62 : Int32))) * (own_inv (-7723592293110705685 : Int64))) ^^^ (XT.ushrL (((p1 ^^^ (XT.ushrL p1 (31 : Int32))) ^^^ (XT.ushrL p1 (62 : Int32))) * (own_inv (-7723592293110705685 : Int64))) (27 : Int32))) ^^^ (XT.ushrL (((p1 ^^^ (XT.ushrL p1 (31 : Int32))) ^^^ (XT.ushrL p1 (62 : Int32))) * (own_inv (-7723592293110705685 : Int64))) (54 : Int32))) * (own_inv (-4658895280553007687 : Int64))) (30 : Int32))) ^^^ (XT.ushrL ((((((p1 ^^^ (XT.ushrL p1 (31 : Int32))) ^^^ (XT.ushrL p1 (62 : Int32))) * (own_inv (-7723592293110705685 : Int64))) ^^^ (XT.ushrL (((p1 ^^^ (XT.ushrL p1 (31 : Int32))) ^^^ (XT.ushrL p1 (62 : Int32))) * (own_inv (-7723592293110705685 : Int64))) (27 : Int32))) ^^^ (XT.ushrL (((p1 ^^^ (XT.ushrL p1 (31 : Int32))) ^^^ (XT.ushrL p1 (62 : Int32))) * (own_inv (-7723592293110705685 : Int64))) (54 : Int32))) * (own_inv (-4658895280553007687 : Int64))) (60 : Int32)))), .second]) rfl ht) ?_
  refine own_step (U' := (T7.setTop (mkF m 55 #[.val (.long ((((((((p1 ^^^ (XT.ushrL p1 (31 : Int32))) ^^^ (XT.ushrL p1 (62 : Int32))) * (own_inv (-7723592293110705685 : Int64))) ^^^ (XT.ushrL (((p1 ^^^ (XT.ushrL p1 (31 : Int32))) ^^^ (XT.ushrL p1 (62 : Int32))) * (own_inv (-7723592293110705685 : Int64))) (27 : Int32))) ^^^ (XT.ushrL (((p1 ^^^ (XT.ushrL p1 (31 : Int32))) ^^^ (XT.ushrL p1 (62 : Int32))) * (own_inv (-7723592293110705685 : Int64))) (54 : Int32))) * (own_inv (-4658895280553007687 : Int64))) ^^^ (XT.ushrL ((((((p1 ^^^ (XT.ushrL p1 (31 : Int32))) ^^^ (XT.ushrL p1 (62 : Int32))) * (own_inv (-7723592293110705685 : Int64))) ^^^ (XT.ushrL (((p1 ^^^ (XT.ushrL p1 (31 : Int32))) ^^^ (XT.ushrL p1 (62 : Int32))) * (own_inv (-7723592293110705685 : Int64))) (27 : Int32))) ^^^ (XT.ushrL (((p1 ^^^ (XT.ushrL p1 (31 : Int32))) ^^^ (XT.ushrL p1 (62 : Int32))) * (own_inv (-7723592293110705685 : Int64))) (54 : Int32))) * (own_inv (-4658895280553007687 : Int64))) (30 : Int32))) ^^^ (XT.ushrL ((((((p1 ^^^ (XT.ushrL p1 (31 : Int32))) ^^^ (XT.ushrL p1 (62 : Int32))) * (own_inv (-7723592293110705685 : Int64))) ^^^ (XT.ushrL (((p1 ^^^ (XT.ushrL p1 (31 : Int32))) ^^^ (XT.ushrL p1 (62 : Int32))) * (own_inv (-7723592293110705685 : Int64))) (27 : Int32))) ^^^ (XT.ushrL (((p1 ^^^ (XT.ushrL p1 (31 : Int32))) ^^^ (XT.ushrL p1 (62 : Int32))) * (own_inv (-7723592293110705685 : Int64))) (54 : Int32))) * (own_inv (-4658895280553007687 : Int64))) (60 : Int32)))), .second] [(.long ((((((((p1 ^^^ (XT.ushrL p1 (31 : Int32))) ^^^ (XT.ushrL p1 (62 : Int32))) * (own_inv (-7723592293110705685 : Int64))) ^^^ (XT.ushrL (((p1 ^^^ (XT.ushrL p1 (31 : Int32))) ^^^ (XT.ushrL p1 (62 : Int32))) * (own_inv (-7723592293110705685 : Int64))) (27 : Int32))) ^^^ (XT.ushrL (((p1 ^^^ (XT.ushrL p1 (31 : Int32))) ^^^ (XT.ushrL p1 (62 : Int32))) * (own_inv (-7723592293110705685 : Int64))) (54 : Int32))) * (own_inv (-4658895280553007687 : Int64))) ^^^ (XT.ushrL ((((((p1 ^^^ (XT.ushrL p1 (31 : Int32))) ^^^ (XT.ushrL p1 (62 : Int32))) * (own_inv (-7723592293110705685 : Int64))) ^^^ (XT.ushrL (((p1 ^^^ (XT.ushrL p1 (31 : Int32))) ^^^ (XT.ushrL p1 (62 : Int32))) * (own_inv (-7723592293110705685 : Int64))) (27 : Int32))) ^^^ (XT.ushrL (((p1 ^^^ (XT.ushrL p1 (31 : Int32))) ^^^ (XT.ushrL p1 (62 : Int32))) * (own_inv (-7723592293110705685 : Int64))) (54 : Int32))) * (own_inv (-4658895280553007687 : Int64))) (30 : Int32))) ^^^ (XT.ushrL ((((((p1 ^^^ (XT.ushrL p1 (31 : Int32))) ^^^ (XT.ushrL p1 (62 : Int32))) * (own_inv (-7723592293110705685 : Int64))) ^^^ (XT.ushrL (((p1 ^^^ (XT.ushrL p1 (31 : Int32))) ^^^ (XT.ushrL p1 (62 : Int32))) * (own_inv (-7723592293110705685 : Int64))) (27 : Int32))) ^^^ (XT.ushrL (((p1 ^^^ (XT.ushrL p1 (31 : Int32))) ^^^ (XT.ushrL p1 (62 : Int32))) * (own_inv (-7723592293110705685 : Int64))) (54 : Int32))) * (own_inv (-4658895280553007687 : Int64))) (60 : Int32))))]))) (fun t ht => XT.lloadN X7.here hx rfl (hb hby own_d4_54) rfl ht) ?_
  refine own_ret X7 (v := (some (.long ((((((((p1 ^^^ (XT.ushrL p1 (31 : Int32))) ^^^ (XT.ushrL p1 (62 : Int32))) * (own_inv (-7723592293110705685 : Int64))) ^^^ (XT.ushrL (((p1 ^^^ (XT.ushrL p1 (31 : Int32))) ^^^ (XT.ushrL p1 (62 : Int32))) * (own_inv (-7723592293110705685 : Int64))) (27 : Int32))) ^^^ (XT.ushrL (((p1 ^^^ (XT.ushrL p1 (31 : Int32))) ^^^ (XT.ushrL p1 (62 : Int32))) * (own_inv (-7723592293110705685 : Int64))) (54 : Int32))) * (own_inv (-4658895280553007687 : Int64))) ^^^ (XT.ushrL ((((((p1 ^^^ (XT.ushrL p1 (31 : Int32))) ^^^ (XT.ushrL p1 (62 : Int32))) * (own_inv (-7723592293110705685 : Int64))) ^^^ (XT.ushrL (((p1 ^^^ (XT.ushrL p1 (31 : Int32))) ^^^ (XT.ushrL p1 (62 : Int32))) * (own_inv (-7723592293110705685 : Int64))) (27 : Int32))) ^^^ (XT.ushrL (((p1 ^^^ (XT.ushrL p1 (31 : Int32))) ^^^ (XT.ushrL p1 (62 : Int32))) * (own_inv (-7723592293110705685 : Int64))) (54 : Int32))) * (own_inv (-4658895280553007687 : Int64))) (30 : Int32))) ^^^ (XT.ushrL ((((((p1 ^^^ (XT.ushrL p1 (31 : Int32))) ^^^ (XT.ushrL p1 (62 : Int32))) * (own_inv (-7723592293110705685 : Int64))) ^^^ (XT.ushrL (((p1 ^^^ (XT.ushrL p1 (31 : Int32))) ^^^ (XT.ushrL p1 (62 : Int32))) * (own_inv (-7723592293110705685 : Int64))) (27 : Int32))) ^^^ (XT.ushrL (((p1 ^^^ (XT.ushrL p1 (31 : Int32))) ^^^ (XT.ushrL p1 (62 : Int32))) * (own_inv (-7723592293110705685 : Int64))) (54 : Int32))) * (own_inv (-4658895280553007687 : Int64))) (60 : Int32)))))) (fun h => by rw [Bd.returns] at h; cases h) Bd.notSynchronized (by decide) (by decide) ?_ (fun fs hr => retOut X7 hx (t := .long) Bd.returns rfl (Or.inr (Or.inl ⟨rfl, rfl, _, rfl⟩)) (hb hby own_d4_55) hr)
  show own_Q_unm Z p1 h0 n0 _ T7.heap _
  rw [e7]
  refine ⟨?_, N7, rfl⟩
  rfl
theorem own_pd1 : parseMethodDescriptor "(J)V" = some ⟨[.long], none⟩ := by decide +kernel
theorem own_pd2 : parseMethodDescriptor "()J" = some ⟨[], some .long⟩ := by decide +kernel
def own_Q_law (Z : State) (p1 : Int64) (h0 : Heap) (n0 : Nat) (v : Option Value) (h : Heap) (L : List Loc) : Prop := v = some (.int 1) ∧ Fr n0 L
set_option maxRecDepth 65536 in
set_option maxHeartbeats 40000000 in
theorem own_m_law (l : Launch) (Z : State) (a0 : Array Value) (hw : ∀ d ∈ tables_1, d.before a0 Z = true) (ws : List Jvm.Cond) (p1 : Int64) (h0 : Heap) (n0 : Nat) (Z0 : n0 ≤ h0.size)  :
    MetFree l x (head1 (Jvm.Cond.code x code maxLocals ret :: ws) room_1) (fun a U => a = #[(.long p1)] ∧ Z.Warmed39 U.vm ∧ U.heap = h0) (fun _ _ _ _ _ => True) (fun _ U o U' => ∃ v L, o = .returned v ∧ own_Q_law Z p1 h0 n0 v U'.heap L ∧ FrameEnd U o U' L 1 1) := by
  refine MetFree.of_bodySF (plainFor_of_name own_pn1) hisR ?_
  intro p e s m args below meth c s₁ Bd hml0 hP hK
  obtain ⟨rfl, hZ, hh⟩ := hP
  have hx := Bd.exec
  have hby := Bd.bytes
  have hml : c.maxLocals = 9 := hml0
  have hown : s.vm.findClass "com/example/eigentuple/eigentuple/io/SplitMixNextLongPinLaw" = some m.cls := findClass_of_methodNamed Bd.named
  have hnm := (name_of_methodNamed Bd.named Bd.method).1
  have X0 : Stand p l e room_1 s m #[(.long p1)] below meth c s₁ [] 0 0 := Stand.of_body Bd
  have e0 : s₁.heap = h0 := by rw [← hh, Bd.state]; rfl
  have N0 := Fr.nil n0
  have K0 : Keep h0 h0 [] := Keep.refl _ _
  show own_Go p e below s 1 1 (own_Q_law Z p1 h0 n0) (s₁.setTop (entryFrame m #[(.long p1)] maxLocals))
  have ef : entryFrame m #[(.long p1)] maxLocals = (mkF m 0 #[.val (.long p1), .second, .unset, .unset, .unset, .unset, .unset, .unset, .unset] []) := by first | rfl | (simp [entryFrame, mkF, argsToLocals, Value.category, maxLocals]; done)
  rw [ef]
  show own_Go p e below s _ _ _ (s₁.setTop (mkF m 0 #[.val (.long p1), .second, .unset, .unset, .unset, .unset, .unset, .unset, .unset] []))
  refine own_step (U' := (s₁.setTop (mkF m 3 #[.val (.long p1), .second, .unset, .unset, .unset, .unset, .unset, .unset, .unset] [(.long (-7046029254386353131 : Int64))]))) (fun t ht => X0.ldc2Long hx hown (mvT hZ (hw _ (List.mem_of_getElem? (i := 0) rfl))) (g := (mkF m 0 #[.val (.long p1), .second, .unset, .unset, .unset, .unset, .unset, .unset, .unset] [])) rfl (hb hby at_0) _ ht) ?_
  refine own_step (U' := (s₁.setTop (mkF m 4 #[.val (.long p1), .second, .val (.long (-7046029254386353131 : Int64)), .second, .unset, .unset, .unset, .unset, .unset] []))) (fun t ht => XT.lstoreN X0.here hx rfl (hb hby at_3) rfl (l' := #[.val (.long p1), .second, .val (.long (-7046029254386353131 : Int64)), .second, .unset, .unset, .unset, .unset, .unset]) rfl ht) ?_
  obtain ⟨T8, h8, X8, e8, E8, A8, D8, -, st8⟩ := newO X0 hx hZ hown (hw _ (List.mem_of_getElem? (i := 1) rfl)) (hw _ (List.mem_of_getElem? (i := 2) rfl)) (hw _ (List.mem_of_getElem? (i := 3) rfl)) e0 (g := (mkF m 4 #[.val (.long p1), .second, .val (.long (-7046029254386353131 : Int64)), .second, .unset, .unset, .unset, .unset, .unset] [])) rfl (hb hby at_4) (by decide) (by decide)
  obtain ⟨b8, g8⟩ : ∃ z, z = (h0).size := ⟨_, rfl⟩
  rw [← g8] at A8 D8 st8
  have g_b8 : n0 ≤ b8 := Nat.le_trans (Nat.le_trans Z0 K0.1) (Nat.le_of_eq g8.symm)
  have sz_b8 : h0.size ≤ b8 := Nat.le_trans K0.1 (Nat.le_of_eq g8.symm)
  have K8 : Keep h0 h8 [] := K0.ext E8
  have F8_11 : Fld Z h8 b8 "com/example/eigentuple/eigentuple/io/SplitMix" "state" "J" (.long (0 : Int64)) := D8 (Or.inl (hw _ (List.mem_of_getElem? (i := 11) rfl))) (ty := .long) (by decide)
  refine own_step (U' := (T8.setTop (mkF m 7 #[.val (.long p1), .second, .val (.long (-7046029254386353131 : Int64)), .second, .unset, .unset, .unset, .unset, .unset] [(.ref b8)]))) (fun t ht => st8 _ ht) ?_
  refine own_step (U' := (T8.setTop (mkF m 8 #[.val (.long p1), .second, .val (.long (-7046029254386353131 : Int64)), .second, .unset, .unset, .unset, .unset, .unset] [(.ref b8), (.ref b8)]))) (fun t ht => XS.dup X8.here hx rfl (hb hby at_7) rfl rfl ht) ?_
  refine own_step (U' := (T8.setTop (mkF m 9 #[.val (.long p1), .second, .val (.long (-7046029254386353131 : Int64)), .second, .unset, .unset, .unset, .unset, .unset] [(.long p1), (.ref b8), (.ref b8)]))) (fun t ht => XT.lloadN X8.here hx rfl (hb hby at_8) rfl ht) ?_
  obtain ⟨_, _, ⟨T9, L9, k9, n9⟩, -, X9, ⟨Lc9, hQ9, l9, y9, z9⟩, st9⟩ := X8.specialBack hx (y := (⟨"com/example/eigentuple/eigentuple/io/SplitMix", "<init>", "(J)V"⟩ : MethodName)) rfl hown (mvT hZ (hw _ (List.mem_of_getElem? (i := 4) rfl))) (mvT hZ (hw _ (List.mem_of_getElem? (i := 5) rfl))) (mvT hZ (hw _ (List.mem_of_getElem? (i := 6) rfl))) (by decide) (backOf (W := 1) (own_m_ini l Z a0 hw [] (b8) (p1) ((0 : Int64)) h8 n0 (Nat.le_trans Z0 K8.1) g_b8 F8_11 A8) hZ (hw _ (List.mem_of_getElem? (i := 6) rfl)) (hw _ (List.mem_of_getElem? (i := 3) rfl)) (by decide) (by decide)) (g := (mkF m 9 #[.val (.long p1), .second, .val (.long (-7046029254386353131 : Int64)), .second, .unset, .unset, .unset, .unset, .unset] [(.long p1), (.ref b8), (.ref b8)])) rfl (by rw [hml]; rfl) (Steps.refl _) (a := b8) (argsL := [(.long p1)]) (rest := [(.ref b8)]) (lenOf own_pd1 rfl) rfl (by show 2 * 0 + _ ≤ _; exact Nat.le_of_eq rfl) (hb hby at_9) (fun _ _ => ⟨rfl, e8, (by decide : 1 + 0 ≤ _), (by decide : 1 + 0 ≤ _)⟩)
  dsimp only [Pt.U, Pt.locs, Pt.cells, Pt.slots] at X9 l9 y9 z9 st9 hQ9
  subst l9 y9 z9
  obtain ⟨rfl, Nq9, Kq9, Fq9_0, Fq9_1⟩ := hQ9
  have N9 := Fr.app N0 Nq9
  have f9_0 : Exa Z T9.heap b8 "com/example/eigentuple/eigentuple/io/SplitMix" := A8.keep Kq9
  have K9 : Keep h0 T9.heap [] := K8.trans Kq9 (allS (Or.inr sz_b8) all0)
  refine own_step (U' := (T9.setTop (mkF m 12 #[.val (.long p1), .second, .val (.long (-7046029254386353131 : Int64)), .second, .unset, .unset, .unset, .unset, .unset] [(.ref b8)]))) (fun t ht => st9.trans ht) ?_
  refine own_step (U' := (T9.setTop (mkF m 14 #[.val (.long p1), .second, .val (.long (-7046029254386353131 : Int64)), .second, .val (.ref b8), .unset, .unset, .unset, .unset] []))) (fun t ht => XS.astore X9.here hx rfl (hb hby at_12) rfl rfl (l' := #[.val (.long p1), .second, .val (.long (-7046029254386353131 : Int64)), .second, .val (.ref b8), .unset, .unset, .unset, .unset]) rfl ht) ?_
  refine own_step (U' := (T9.setTop (mkF m 16 #[.val (.long p1), .second, .val (.long (-7046029254386353131 : Int64)), .second, .val (.ref b8), .unset, .unset, .unset, .unset] [(.ref b8)]))) (fun t ht => XS.aload X9.here hx rfl (hb hby at_14) rfl rfl ht) ?_
  obtain ⟨cq10, kq10, q10a, q10b, q10c⟩ := isOf hZ rfl Fq9_1
  obtain ⟨_, _, ⟨T10, L10, k10, n10⟩, -, X10, ⟨Lc10, hQ10, l10, y10, z10⟩, st10⟩ := X9.virtualBack hx (y := (⟨"com/example/eigentuple/eigentuple/io/SplitMix", "nextLong", "()J"⟩ : MethodName)) (z := (⟨"com/example/eigentuple/eigentuple/io/SplitMix", "nextLong", "()J"⟩ : MethodName)) hown (mvT hZ (hw _ (List.mem_of_getElem? (i := 12) rfl))) (mvT hZ (hw _ (List.mem_of_getElem? (i := 13) rfl))) (notFace_of_selects (args := #[]) (mvT hZ (hw _ (List.mem_of_getElem? (i := 15) rfl)))) (mvT hZ (hw _ (List.mem_of_getElem? (i := 15) rfl))) (mvT hZ (hw _ (List.mem_of_getElem? (i := 14) rfl))) (by decide) (backOf (W := 0) (own_m_nl l Z a0 hw [] (b8) (p1) T9.heap n0 (Nat.le_trans Z0 K9.1) g_b8 Fq9_0 Fq9_1) hZ (hw _ (List.mem_of_getElem? (i := 16) rfl)) (hw _ (List.mem_of_getElem? (i := 3) rfl)) (by decide) (by decide)) q10a q10c (g := (mkF m 16 #[.val (.long p1), .second, .val (.long (-7046029254386353131 : Int64)), .second, .val (.ref b8), .unset, .unset, .unset, .unset] [(.ref b8)])) rfl (by rw [hml]; rfl) (Steps.refl _) (argsL := []) (rest := []) (lenOf own_pd2 rfl) rfl (by show 2 * 0 + _ ≤ _; exact Nat.le_of_eq rfl) (hb hby at_16) (fun _ _ => ⟨rfl, rfl, (by decide : 1 + 0 ≤ _), (by decide : 1 + 0 ≤ _)⟩)
  dsimp only [Pt.U, Pt.locs, Pt.cells, Pt.slots] at X10 l10 y10 z10 st10 hQ10
  subst l10 y10 z10
  obtain ⟨rfl, Nq10, Kq10, Fq10_0, Fq10_1⟩ := hQ10
  have N10 := Fr.app N9 Nq10
  have f10_1 : Exa Z T10.heap b8 "com/example/eigentuple/eigentuple/io/SplitMix" := Fq9_1.keep Kq10
  have K10 : Keep h0 T10.heap [] := K9.trans Kq10 (allS (Or.inr sz_b8) all0)
  refine own_step (U' := (T10.setTop (mkF m 19 #[.val (.long p1), .second, .val (.long (-7046029254386353131 : Int64)), .second, .val (.ref b8), .unset, .unset, .unset, .unset] [(.long (own_mix (p1 + (-7046029254386353131 : Int64))))]))) (fun t ht => st10.trans ht) ?_
  refine own_step (U' := (T10.setTop (mkF m 21 #[.val (.long p1), .second, .val (.long (-7046029254386353131 : Int64)), .second, .val (.ref b8), .val (.long (own_mix (p1 + (-7046029254386353131 : Int64)))), .second, .unset, .unset] []))) (fun t ht => XT.lstore X10.here hx rfl (hb hby at_19) rfl (l' := #[.val (.long p1), .second, .val (.long (-7046029254386353131 : Int64)), .second, .val (.ref b8), .val (.long (own_mix (p1 + (-7046029254386353131 : Int64)))), .second, .unset, .unset]) rfl ht) ?_
  refine own_step (U' := (T10.setTop (mkF m 23 #[.val (.long p1), .second, .val (.long (-7046029254386353131 : Int64)), .second, .val (.ref b8), .val (.long (own_mix (p1 + (-7046029254386353131 : Int64)))), .second, .unset, .unset] [(.ref b8)]))) (fun t ht => XS.aload X10.here hx rfl (hb hby at_21) rfl rfl ht) ?_
  obtain ⟨cq11, kq11, q11a, q11b, q11c⟩ := isOf hZ rfl Fq10_1
  obtain ⟨_, _, ⟨T11, L11, k11, n11⟩, -, X11, ⟨Lc11, hQ11, l11, y11, z11⟩, st11⟩ := X10.virtualBack hx (y := (⟨"com/example/eigentuple/eigentuple/io/SplitMix", "nextLong", "()J"⟩ : MethodName)) (z := (⟨"com/example/eigentuple/eigentuple/io/SplitMix", "nextLong", "()J"⟩ : MethodName)) hown (mvT hZ (hw _ (List.mem_of_getElem? (i := 12) rfl))) (mvT hZ (hw _ (List.mem_of_getElem? (i := 13) rfl))) (notFace_of_selects (args := #[]) (mvT hZ (hw _ (List.mem_of_getElem? (i := 15) rfl)))) (mvT hZ (hw _ (List.mem_of_getElem? (i := 15) rfl))) (mvT hZ (hw _ (List.mem_of_getElem? (i := 14) rfl))) (by decide) (backOf (W := 0) (own_m_nl l Z a0 hw [] (b8) ((p1 + (-7046029254386353131 : Int64))) T10.heap n0 (Nat.le_trans Z0 K10.1) g_b8 Fq10_0 Fq10_1) hZ (hw _ (List.mem_of_getElem? (i := 16) rfl)) (hw _ (List.mem_of_getElem? (i := 3) rfl)) (by decide) (by decide)) q11a q11c (g := (mkF m 23 #[.val (.long p1), .second, .val (.long (-7046029254386353131 : Int64)), .second, .val (.ref b8), .val (.long (own_mix (p1 + (-7046029254386353131 : Int64)))), .second, .unset, .unset] [(.ref b8)])) rfl (by rw [hml]; rfl) (Steps.refl _) (argsL := []) (rest := []) (lenOf own_pd2 rfl) rfl (by show 2 * 0 + _ ≤ _; exact Nat.le_of_eq rfl) (hb hby at_23) (fun _ _ => ⟨rfl, rfl, (by decide : 1 + 0 ≤ _), (by decide : 1 + 0 ≤ _)⟩)
  dsimp only [Pt.U, Pt.locs, Pt.cells, Pt.slots] at X11 l11 y11 z11 st11 hQ11
  subst l11 y11 z11
  obtain ⟨rfl, Nq11, Kq11, Fq11_0, Fq11_1⟩ := hQ11
  have N11 := Fr.app N10 Nq11
  have f11_1 : Exa Z T11.heap b8 "com/example/eigentuple/eigentuple/io/SplitMix" := Fq10_1.keep Kq11
  have K11 : Keep h0 T11.heap [] := K10.trans Kq11 (allS (Or.inr sz_b8) all0)
  refine own_step (U' := (T11.setTop (mkF m 26 #[.val (.long p1), .second, .val (.long (-7046029254386353131 : Int64)), .second, .val (.ref b8), .val (.long (own_mix (p1 + (-7046029254386353131 : Int64)))), .second, .unset, .unset] [(.long (own_mix ((p1 + (-7046029254386353131 : Int64)) + (-7046029254386353131 : Int64))))]))) (fun t ht => st11.trans ht) ?_
  refine own_step (U' := (T11.setTop (mkF m 28 #[.val (.long p1), .second, .val (.long (-7046029254386353131 : Int64)), .second, .val (.ref b8), .val (.long (own_mix (p1 + (-7046029254386353131 : Int64)))), .second, .val (.long (own_mix ((p1 + (-7046029254386353131 : Int64)) + (-7046029254386353131 : Int64)))), .second] []))) (fun t ht => XT.lstore X11.here hx rfl (hb hby at_26) rfl (l' := #[.val (.long p1), .second, .val (.long (-7046029254386353131 : Int64)), .second, .val (.ref b8), .val (.long (own_mix (p1 + (-7046029254386353131 : Int64)))), .second, .val (.long (own_mix ((p1 + (-7046029254386353131 : Int64)) + (-7046029254386353131 : Int64)))), .second]) rfl ht) ?_
  refine own_step (U' := (T11.setTop (mkF m 30 #[.val (.long p1), .second, .val (.long (-7046029254386353131 : Int64)), .second, .val (.ref b8), .val (.long (own_mix (p1 + (-7046029254386353131 : Int64)))), .second, .val (.long (own_mix ((p1 + (-7046029254386353131 : Int64)) + (-7046029254386353131 : Int64)))), .second] [(.long (own_mix (p1 + (-7046029254386353131 : Int64))))]))) (fun t ht => XT.lload X11.here hx rfl (hb hby at_28) rfl ht) ?_
  obtain ⟨_, _, ⟨T12, L12, k12, n12⟩, -, X12, ⟨Lc12, hQ12, l12, y12, z12⟩, st12⟩ := Jvm.LawKit.callS X11 hx (y := (⟨"com/example/eigentuple/eigentuple/io/SplitMixNextLongPinLaw", "unmix", "(J)J"⟩ : MethodName)) hown (mvT hZ (hw _ (List.mem_of_getElem? (i := 20) rfl))) (mvT hZ (hw _ (List.mem_of_getElem? (i := 21) rfl))) (mvT hZ (hw _ (List.mem_of_getElem? (i := 22) rfl))) (mvT hZ (hw _ (List.mem_of_getElem? (i := 23) rfl))) (by decide) (backOf (W := 0) (own_m_unm l Z a0 hw [] ((own_mix (p1 + (-7046029254386353131 : Int64)))) T11.heap n0 (Nat.le_trans Z0 K11.1) ) hZ (hw _ (List.mem_of_getElem? (i := 23) rfl)) (hw _ (List.mem_of_getElem? (i := 22) rfl)) (by decide) (by decide)) (g := (mkF m 30 #[.val (.long p1), .second, .val (.long (-7046029254386353131 : Int64)), .second, .val (.ref b8), .val (.long (own_mix (p1 + (-7046029254386353131 : Int64)))), .second, .val (.long (own_mix ((p1 + (-7046029254386353131 : Int64)) + (-7046029254386353131 : Int64)))), .second] [(.long (own_mix (p1 + (-7046029254386353131 : Int64))))])) rfl (by rw [hml]; rfl) (argsL := [(.long (own_mix (p1 + (-7046029254386353131 : Int64))))]) (rest := []) (lenOf own_pd0 rfl) rfl (by show 2 * 0 + _ ≤ _; exact Nat.le_of_eq rfl) (hb hby at_30) (fun _ _ => ⟨rfl, rfl, (by decide : 1 + 0 ≤ _), (by decide : 1 + 0 ≤ _)⟩)
  dsimp only [Pt.U, Pt.locs, Pt.cells, Pt.slots] at X12 l12 y12 z12 st12 hQ12
  subst l12 y12 z12
  obtain ⟨rfl, Nq12, Kq12⟩ := hQ12
  have N12 := Fr.app N11 Nq12
  have e12 : T12.heap = T11.heap := Kq12
  refine own_step (U' := (T12.setTop (mkF m 33 #[.val (.long p1), .second, .val (.long (-7046029254386353131 : Int64)), .second, .val (.ref b8), .val (.long (own_mix (p1 + (-7046029254386353131 : Int64)))), .second, .val (.long (own_mix ((p1 + (-7046029254386353131 : Int64)) + (-7046029254386353131 : Int64)))), .second] [(.long (own_unmix (own_mix (p1 + (-7046029254386353131 : Int64)))))]))) (fun t ht => st12 _ ht) ?_
  refine own_step (U' := (T12.setTop (mkF m 34 #[.val (.long p1), .second, .val (.long (-7046029254386353131 : Int64)), .second, .val (.ref b8), .val (.long (own_mix (p1 + (-7046029254386353131 : Int64)))), .second, .val (.long (own_mix ((p1 + (-7046029254386353131 : Int64)) + (-7046029254386353131 : Int64)))), .second] [(.long p1), (.long (own_unmix (own_mix (p1 + (-7046029254386353131 : Int64)))))]))) (fun t ht => XT.lloadN X12.here hx rfl (hb hby at_33) rfl ht) ?_
  refine own_step (U' := (T12.setTop (mkF m 35 #[.val (.long p1), .second, .val (.long (-7046029254386353131 : Int64)), .second, .val (.ref b8), .val (.long (own_mix (p1 + (-7046029254386353131 : Int64)))), .second, .val (.long (own_mix ((p1 + (-7046029254386353131 : Int64)) + (-7046029254386353131 : Int64)))), .second] [(.long (-7046029254386353131 : Int64)), (.long p1), (.long (own_unmix (own_mix (p1 + (-7046029254386353131 : Int64)))))]))) (fun t ht => XT.lloadN X12.here hx rfl (hb hby at_34) rfl ht) ?_
  refine own_step (U' := (T12.setTop (mkF m 36 #[.val (.long p1), .second, .val (.long (-7046029254386353131 : Int64)), .second, .val (.ref b8), .val (.long (own_mix (p1 + (-7046029254386353131 : Int64)))), .second, .val (.long (own_mix ((p1 + (-7046029254386353131 : Int64)) + (-7046029254386353131 : Int64)))), .second] [(.long (p1 + (-7046029254386353131 : Int64))), (.long (own_unmix (own_mix (p1 + (-7046029254386353131 : Int64)))))]))) (fun t ht => XT.ladd X12.here hx rfl (hb hby at_35) rfl ht) ?_
  refine own_step (U' := (T12.setTop (mkF m 37 #[.val (.long p1), .second, .val (.long (-7046029254386353131 : Int64)), .second, .val (.ref b8), .val (.long (own_mix (p1 + (-7046029254386353131 : Int64)))), .second, .val (.long (own_mix ((p1 + (-7046029254386353131 : Int64)) + (-7046029254386353131 : Int64)))), .second] [(.int (XT.cmpL (own_unmix (own_mix (p1 + (-7046029254386353131 : Int64)))) (p1 + (-7046029254386353131 : Int64))))]))) (fun t ht => XT.lcmp X12.here hx rfl (hb hby at_36) rfl ht) ?_
  refine own_step (U' := (T12.setTop (mkF m 40 #[.val (.long p1), .second, .val (.long (-7046029254386353131 : Int64)), .second, .val (.ref b8), .val (.long (own_mix (p1 + (-7046029254386353131 : Int64)))), .second, .val (.long (own_mix ((p1 + (-7046029254386353131 : Int64)) + (-7046029254386353131 : Int64)))), .second] []))) (fun t ht => XS.ifNo X12.here hx rfl (hb hby at_37) rfl (XT.ll_ne_f ((own_unmix_mix _) : (own_unmix (own_mix (p1 + (-7046029254386353131 : Int64)))) = (p1 + (-7046029254386353131 : Int64)))) ht) ?_
  refine own_step (U' := (T12.setTop (mkF m 42 #[.val (.long p1), .second, .val (.long (-7046029254386353131 : Int64)), .second, .val (.ref b8), .val (.long (own_mix (p1 + (-7046029254386353131 : Int64)))), .second, .val (.long (own_mix ((p1 + (-7046029254386353131 : Int64)) + (-7046029254386353131 : Int64)))), .second] [(.long (own_mix ((p1 + (-7046029254386353131 : Int64)) + (-7046029254386353131 : Int64))))]))) (fun t ht => XT.lload X12.here hx rfl (hb hby at_40) rfl ht) ?_
  obtain ⟨_, _, ⟨T13, L13, k13, n13⟩, -, X13, ⟨Lc13, hQ13, l13, y13, z13⟩, st13⟩ := Jvm.LawKit.callS X12 hx (y := (⟨"com/example/eigentuple/eigentuple/io/SplitMixNextLongPinLaw", "unmix", "(J)J"⟩ : MethodName)) hown (mvT hZ (hw _ (List.mem_of_getElem? (i := 20) rfl))) (mvT hZ (hw _ (List.mem_of_getElem? (i := 21) rfl))) (mvT hZ (hw _ (List.mem_of_getElem? (i := 22) rfl))) (mvT hZ (hw _ (List.mem_of_getElem? (i := 23) rfl))) (by decide) (backOf (W := 0) (own_m_unm l Z a0 hw [] ((own_mix ((p1 + (-7046029254386353131 : Int64)) + (-7046029254386353131 : Int64)))) T11.heap n0 (Nat.le_trans Z0 K11.1) ) hZ (hw _ (List.mem_of_getElem? (i := 23) rfl)) (hw _ (List.mem_of_getElem? (i := 22) rfl)) (by decide) (by decide)) (g := (mkF m 42 #[.val (.long p1), .second, .val (.long (-7046029254386353131 : Int64)), .second, .val (.ref b8), .val (.long (own_mix (p1 + (-7046029254386353131 : Int64)))), .second, .val (.long (own_mix ((p1 + (-7046029254386353131 : Int64)) + (-7046029254386353131 : Int64)))), .second] [(.long (own_mix ((p1 + (-7046029254386353131 : Int64)) + (-7046029254386353131 : Int64))))])) rfl (by rw [hml]; rfl) (argsL := [(.long (own_mix ((p1 + (-7046029254386353131 : Int64)) + (-7046029254386353131 : Int64))))]) (rest := []) (lenOf own_pd0 rfl) rfl (by show 2 * 0 + _ ≤ _; exact Nat.le_of_eq rfl) (hb hby at_42) (fun _ _ => ⟨rfl, e12, (by decide : 1 + 0 ≤ _), (by decide : 1 + 0 ≤ _)⟩)
  dsimp only [Pt.U, Pt.locs, Pt.cells, Pt.slots] at X13 l13 y13 z13 st13 hQ13
  subst l13 y13 z13
  obtain ⟨rfl, Nq13, Kq13⟩ := hQ13
  have N13 := Fr.app N12 Nq13
  have e13 : T13.heap = T11.heap := Kq13
  refine own_step (U' := (T13.setTop (mkF m 45 #[.val (.long p1), .second, .val (.long (-7046029254386353131 : Int64)), .second, .val (.ref b8), .val (.long (own_mix (p1 + (-7046029254386353131 : Int64)))), .second, .val (.long (own_mix ((p1 + (-7046029254386353131 : Int64)) + (-7046029254386353131 : Int64)))), .second] [(.long (own_unmix (own_mix ((p1 + (-7046029254386353131 : Int64)) + (-7046029254386353131 : Int64)))))]))) (fun t ht => st13 _ ht) ?_
  refine own_step (U' := (T13.setTop (mkF m 46 #[.val (.long p1), .second, .val (.long (-7046029254386353131 : Int64)), .second, .val (.ref b8), .val (.long (own_mix (p1 + (-7046029254386353131 : Int64)))), .second, .val (.long (own_mix ((p1 + (-7046029254386353131 : Int64)) + (-7046029254386353131 : Int64)))), .second] [(.long p1), (.long (own_unmix (own_mix ((p1 + (-7046029254386353131 : Int64)) + (-7046029254386353131 : Int64)))))]))) (fun t ht => XT.lloadN X13.here hx rfl (hb hby at_45) rfl ht) ?_
  refine own_step (U' := (T13.setTop (mkF m 47 #[.val (.long p1), .second, .val (.long (-7046029254386353131 : Int64)), .second, .val (.ref b8), .val (.long (own_mix (p1 + (-7046029254386353131 : Int64)))), .second, .val (.long (own_mix ((p1 + (-7046029254386353131 : Int64)) + (-7046029254386353131 : Int64)))), .second] [(.long (-7046029254386353131 : Int64)), (.long p1), (.long (own_unmix (own_mix ((p1 + (-7046029254386353131 : Int64)) + (-7046029254386353131 : Int64)))))]))) (fun t ht => XT.lloadN X13.here hx rfl (hb hby at_46) rfl ht) ?_
  refine own_step (U' := (T13.setTop (mkF m 48 #[.val (.long p1), .second, .val (.long (-7046029254386353131 : Int64)), .second, .val (.ref b8), .val (.long (own_mix (p1 + (-7046029254386353131 : Int64)))), .second, .val (.long (own_mix ((p1 + (-7046029254386353131 : Int64)) + (-7046029254386353131 : Int64)))), .second] [(.long (p1 + (-7046029254386353131 : Int64))), (.long (own_unmix (own_mix ((p1 + (-7046029254386353131 : Int64)) + (-7046029254386353131 : Int64)))))]))) (fun t ht => XT.ladd X13.here hx rfl (hb hby at_47) rfl ht) ?_
  refine own_step (U' := (T13.setTop (mkF m 49 #[.val (.long p1), .second, .val (.long (-7046029254386353131 : Int64)), .second, .val (.ref b8), .val (.long (own_mix (p1 + (-7046029254386353131 : Int64)))), .second, .val (.long (own_mix ((p1 + (-7046029254386353131 : Int64)) + (-7046029254386353131 : Int64)))), .second] [(.long (-7046029254386353131 : Int64)), (.long (p1 + (-7046029254386353131 : Int64))), (.long (own_unmix (own_mix ((p1 + (-7046029254386353131 : Int64)) + (-7046029254386353131 : Int64)))))]))) (fun t ht => XT.lloadN X13.here hx rfl (hb hby at_48) rfl ht) ?_
  refine own_step (U' := (T13.setTop (mkF m 50 #[.val (.long p1), .second, .val (.long (-7046029254386353131 : Int64)), .second, .val (.ref b8), .val (.long (own_mix (p1 + (-7046029254386353131 : Int64)))), .second, .val (.long (own_mix ((p1 + (-7046029254386353131 : Int64)) + (-7046029254386353131 : Int64)))), .second] [(.long ((p1 + (-7046029254386353131 : Int64)) + (-7046029254386353131 : Int64))), (.long (own_unmix (own_mix ((p1 + (-7046029254386353131 : Int64)) + (-7046029254386353131 : Int64)))))]))) (fun t ht => XT.ladd X13.here hx rfl (hb hby at_49) rfl ht) ?_
  refine own_step (U' := (T13.setTop (mkF m 51 #[.val (.long p1), .second, .val (.long (-7046029254386353131 : Int64)), .second, .val (.ref b8), .val (.long (own_mix (p1 + (-7046029254386353131 : Int64)))), .second, .val (.long (own_mix ((p1 + (-7046029254386353131 : Int64)) + (-7046029254386353131 : Int64)))), .second] [(.int (XT.cmpL (own_unmix (own_mix ((p1 + (-7046029254386353131 : Int64)) + (-7046029254386353131 : Int64)))) ((p1 + (-7046029254386353131 : Int64)) + (-7046029254386353131 : Int64))))]))) (fun t ht => XT.lcmp X13.here hx rfl (hb hby at_50) rfl ht) ?_
  refine own_step (U' := (T13.setTop (mkF m 54 #[.val (.long p1), .second, .val (.long (-7046029254386353131 : Int64)), .second, .val (.ref b8), .val (.long (own_mix (p1 + (-7046029254386353131 : Int64)))), .second, .val (.long (own_mix ((p1 + (-7046029254386353131 : Int64)) + (-7046029254386353131 : Int64)))), .second] []))) (fun t ht => XS.ifNo X13.here hx rfl (hb hby at_51) rfl (XT.ll_ne_f ((own_unmix_mix _) : (own_unmix (own_mix ((p1 + (-7046029254386353131 : Int64)) + (-7046029254386353131 : Int64)))) = ((p1 + (-7046029254386353131 : Int64)) + (-7046029254386353131 : Int64)))) ht) ?_
  refine own_step (U' := (T13.setTop (mkF m 55 #[.val (.long p1), .second, .val (.long (-7046029254386353131 : Int64)), .second, .val (.ref b8), .val (.long (own_mix (p1 + (-7046029254386353131 : Int64)))), .second, .val (.long (own_mix ((p1 + (-7046029254386353131 : Int64)) + (-7046029254386353131 : Int64)))), .second] [(.int (1 : Int32))]))) (fun t ht => XS.iconst X13.here hx rfl (hb hby at_54) ht) ?_
  refine own_step (U' := (T13.setTop (mkF m 59 #[.val (.long p1), .second, .val (.long (-7046029254386353131 : Int64)), .second, .val (.ref b8), .val (.long (own_mix (p1 + (-7046029254386353131 : Int64)))), .second, .val (.long (own_mix ((p1 + (-7046029254386353131 : Int64)) + (-7046029254386353131 : Int64)))), .second] [(.int (1 : Int32))]))) (fun t ht => XS.goto X13.here hx rfl (pc0 := 55) (pc' := 59) rfl (hb hby at_55) (by decide) (by decide) ht) ?_
  refine own_ret X13 (v := (some (.int (nar .boolean (1 : Int32))))) (fun h => by rw [Bd.returns] at h; cases h) Bd.notSynchronized (by decide) (by decide) ?_ (fun fs hr => retN X13 hx (t := .boolean) Bd.returns (by simp) (hb hby at_59) hr)
  show own_Q_law Z p1 h0 n0 _ T13.heap _
  rw [e13]
  exact ⟨rfl, N13⟩
set_option maxRecDepth 65536 in
set_option maxHeartbeats 40000000 in
theorem own_comes {Post : Tables → Env → Array Value → State → Outcome → State → Prop} (hpost : ∀ tb e args s v u, (limb_1_1.after args s (.returned v) u = true ∧ limb_1_2.after args s (.returned v) u = true ∧ True) → FrameEnd s (.returned v) u (Jvm.fieldLocs frame_1_writes args s ++ Jvm.arrayLocs frame_1_arrays args s ++ Jvm.staticLocs frame_1_statics s) 16 128 → Post tb e args s (.returned v) u) :
    ArmFor flags0 classFile x code maxLocals ret World_1 tables_1 room_1 Calls_1 rest_1 Pre_1 Post := by
  intro l hfl _ _ p e ha hc hk s m args below hf hA hF happ hP
  obtain ⟨hcalls, hrest, hpre⟩ := hP
  obtain ⟨-, -, -, hnamed, -, -, -, hat⟩ := (Spec.applies_iff hf).mp happ
  obtain ⟨hg, hn⟩ := and_e (Cond.before_iff.mp (show (Jvm.Cond.and given_1 narrow_1).before args s = true from hpre))
  obtain ⟨hcount, q0⟩ := and_e hg
  have a0 := q0
  obtain ⟨w0, rfl⟩ : ∃ w0 : Value, args = #[w0] := by
    have hs : args.size = 1 := by simpa [Cond.value, given_1] using hcount
    obtain ⟨L⟩ := args
    match L, hs with
    | [w0], _ => exact ⟨w0, rfl⟩
  obtain ⟨i0, e0⟩ := isL_v a0
  obtain rfl : w0 = (.long i0) := Option.some.inj e0
  have hw := fun d (hd : d ∈ tables_1) => atoms_spec (ws := Jvm.Cond.code x code maxLocals ret :: tables_1) hat d (List.mem_cons_of_mem _ hd)
  have hfit : Fit s := fun {y c} hc i hi => by
    obtain ⟨ha, rfl⟩ := Array.getElem?_eq_some_iff.mp hc
    have q := List.all_eq_true.mp ((Array.all_eq_true_iff_forall_mem.mp hF) _ (Array.getElem_mem ha)) i (List.mem_range.mpr hi)
    simpa [Array.getElem?_eq_getElem hi] using q

  obtain ⟨n, o, h1, h2, h3, _, L, rfl, ⟨rfl, N⟩, hq⟩ := own_m_law l s _ hw tables_1 i0  s.heap s.heap.size (Nat.le_refl _)  p e ha hc hk s m _ below hf ((Spec.applies_iff_loose hf).mp happ).1 ⟨rfl, State.Warmed39.refl s, rfl⟩ trivial
  refine ⟨n, _, h1, h2, h3, hpost _ _ _ _ _ _ ⟨Cond.after_iff.mpr rfl, Cond.after_iff.mpr (eq_i res_at (Term.int_eval (1)) rfl), trivial⟩ ⟨hq.1, hq.2.1, (hq.2.2.sift fun y hy => Or.inr (N y hy)).mono (by decide) (by decide)⟩⟩
theorem main_1_1 : Claimed_1_1 := own_comes fun _ _ _ _ _ _ h hF => ⟨h.1, hF⟩
theorem main_1_2 : Claimed_1_2 := own_comes fun _ _ _ _ _ _ h hF => ⟨h.2.1, hF⟩
end Jvm.Pilot.@@N@@
namespace Jvm.Pilot.@@N@@
open Jvm Jvm.ClassFile Sem Op Lib Jvm.Free Jvm.Stand Jvm.Pilot.@@N@@.Jvm.D
/-! MADE BY PROGRAM (witnessworld.py) out of the Statement's table words and the real class files: 7 classes; the members and pool entries that the words name. The judged class is class 1, her method 3. -/
namespace start1
open Jvm.ClassFile
def u (s : String) : CpInfo := .utf8 (stringToUtf16 s)
/-- a pool by its gaps: so many unusable entries, then the entry; so many at the end -/
def gap : Nat → List CpInfo → List CpInfo
  | 0, r => r
  | n + 1, r => .unusable :: gap n r
def poolList (es : List (Nat × CpInfo)) (last : Nat) : List CpInfo := es.foldr (fun e r => gap e.1 (e.2 :: r)) (gap last [])
def pool (es : List (Nat × CpInfo)) (last : Nat) : Array CpInfo := ⟨poolList es last⟩
def fileOf (pool : Array CpInfo) (this : Nat) (attrs : Array Attribute := #[]) (ms : Array MethodInfo := #[]) (fl : Nat := 33) (sup : Nat := 0) (ifs : Array Nat := #[]) (fds : Array FieldInfo := #[]) : ClassFile where
  minorVersion := 0
  majorVersion := 65
  constantPool := pool
  accessFlags := fl
  thisClass := this
  superClass := sup
  interfaces := ifs
  fields := fds
  methods := ms
  attributes := attrs
def plain (name : String) (sup : Option ClassId) : Class where
  name := name
  kind := .ordinary
  loader := none
  accessFlags := 33
  super := sup
  interfaces := #[]
  cf := none
  fields := #[]
  methods := #[]
  instanceTypes := #[]
  staticTypes := #[]
  resolved := #[]
  callSites := []
  init := .initialized
  statics := none
  mirror := none

def pool0 : Array CpInfo := pool [(5, u "<init>"), (0, u "()V"), (1, .class_ 10), (1, u "java/lang/Object")] 113

def k0c0 : Code := { maxStack := 0, maxLocals := 1, code := object_method_1_code, exceptionTable := #[], attributes := #[] }
def k0m0 : Method := { name := "<init>", desc := "()V", sig := { parameters := [], returnType := none }, accessFlags := 1, code := some k0c0 }
/-- java/lang/Object -/
def k0 : Class := { plain "java/lang/Object" none with
  accessFlags := 33
  interfaces := #[]
  cf := some (fileOf pool0 8 #[] #[{ accessFlags := 1, nameIndex := 5, descriptorIndex := 6, attributes := #[] }] 33 0 #[] #[])
  fields := #[]
  methods := #[k0m0]
  instanceTypes := #[]
  staticTypes := #[]
  resolved := Array.replicate 124 none
  statics := none }

def pool1 : Array CpInfo := pool [(2, .class_ 4), (1, u "java/lang/Object"), (0, u "<init>"), (0, u "()V"), (0, .long 2), (1, .long 10723151780598845931), (1, .methodref 12 13), (0, .class_ 14), (0, .nameAndType 15 16), (0, u "com/example/eigentuple/eigentuple/io/SplitMixNextLongPinLaw"), (0, u "inverse"), (0, u "(J)J"), (0, .long 13787848793156543929), (1, .long 11400714819323198485), (1, .class_ 22), (0, u "com/example/eigentuple/eigentuple/io/SplitMix"), (0, .methodref 21 24), (0, .nameAndType 5 25), (0, u "(J)V"), (0, .methodref 21 27), (0, .nameAndType 28 29), (0, u "nextLong"), (0, u "()J"), (0, .methodref 12 31), (0, .nameAndType 32 16), (0, u "unmix"), (2, u "law"), (0, u "(J)Z")] 3

def k1m0 : Method := { name := "<init>", desc := "()V", sig := { parameters := [], returnType := none }, accessFlags := 1, code := none }
def k1c1 : Code := { maxStack := 8, maxLocals := 4, code := method_2_code, exceptionTable := #[], attributes := #[] }
def k1m1 : Method := { name := "inverse", desc := "(J)J", sig := { parameters := [.long], returnType := some .long }, accessFlags := 10, code := some k1c1 }
def k1c2 : Code := { maxStack := 5, maxLocals := 2, code := method_3_code, exceptionTable := #[], attributes := #[] }
def k1m2 : Method := { name := "unmix", desc := "(J)J", sig := { parameters := [.long], returnType := some .long }, accessFlags := 10, code := some k1c2 }
def k1c3 : Code := { maxStack := 6, maxLocals := 9, code := code, exceptionTable := #[], attributes := #[] }
def k1m3 : Method := { name := "law", desc := "(J)Z", sig := { parameters := [.long], returnType := some .boolean }, accessFlags := 9, code := some k1c3 }
/-- com/example/eigentuple/eigentuple/io/SplitMixNextLongPinLaw -/
def k1 : Class := { plain "com/example/eigentuple/eigentuple/io/SplitMixNextLongPinLaw" (some 0) with
  accessFlags := 49
  interfaces := #[]
  cf := some (fileOf pool1 12 #[] #[{ accessFlags := 1, nameIndex := 5, descriptorIndex := 6, attributes := #[] }, { accessFlags := 10, nameIndex := 15, descriptorIndex := 16, attributes := #[] }, { accessFlags := 10, nameIndex := 32, descriptorIndex := 16, attributes := #[] }, { accessFlags := 9, nameIndex := 35, descriptorIndex := 36, attributes := #[] }] 49 2 #[] #[])
  fields := #[]
  methods := #[k1m0, k1m1, k1m2, k1m3]
  instanceTypes := #[]
  staticTypes := #[]
  resolved := Array.replicate 40 none
  statics := none }

def pool2 : Array CpInfo := pool [(1, .methodref 2 3), (0, .class_ 4), (0, .nameAndType 5 6), (0, u "java/lang/Object"), (0, u "<init>"), (0, u "()V"), (0, .fieldref 8 9), (0, .class_ 10), (0, .nameAndType 11 12), (0, u "com/example/eigentuple/eigentuple/io/SplitMix"), (0, u "state"), (0, u "J"), (0, .long 11400714819323198485), (1, .long 13787848793156543929), (1, .long 10723151780598845931), (3, u "nextLong"), (0, u "()J"), (4, u "GAMMA"), (1, u "RANGE_32"), (0, u "(J)V")] 9

def k2c0 : Code := { maxStack := 3, maxLocals := 3, code := prog_4_method_1_code, exceptionTable := #[], attributes := #[] }
def k2m0 : Method := { name := "<init>", desc := "(J)V", sig := { parameters := [.long], returnType := none }, accessFlags := 0, code := some k2c0 }
def k2c1 : Code := { maxStack := 5, maxLocals := 3, code := prog_4_method_2_code, exceptionTable := #[], attributes := #[] }
def k2m1 : Method := { name := "nextLong", desc := "()J", sig := { parameters := [], returnType := some .long }, accessFlags := 0, code := some k2c1 }
/-- com/example/eigentuple/eigentuple/io/SplitMix -/
def k2 : Class := { plain "com/example/eigentuple/eigentuple/io/SplitMix" (some 0) with
  accessFlags := 32
  interfaces := #[]
  cf := some (fileOf pool2 8 #[] #[{ accessFlags := 0, nameIndex := 5, descriptorIndex := 30, attributes := #[] }, { accessFlags := 0, nameIndex := 21, descriptorIndex := 22, attributes := #[] }] 32 2 #[] #[{ accessFlags := 26, nameIndex := 27, descriptorIndex := 12, attributes := #[] }, { accessFlags := 26, nameIndex := 29, descriptorIndex := 12, attributes := #[] }, { accessFlags := 2, nameIndex := 11, descriptorIndex := 12, attributes := #[] }])
  fields := #[{ name := "GAMMA", type := .long, accessFlags := 26, slot := 0, constantValue := 0 }, { name := "RANGE_32", type := .long, accessFlags := 26, slot := 1, constantValue := 0 }, { name := "state", type := .long, accessFlags := 2, slot := 0, constantValue := 0 }]
  methods := #[k2m0, k2m1]
  instanceTypes := #[.long]
  staticTypes := #[.long, .long]
  resolved := Array.replicate 40 none
  statics := none }

def pool3 : Array CpInfo := pool [(1, u "java/lang/Cloneable"), (0, .class_ 1), (0, u "java/lang/Object"), (0, .class_ 3)] 3

/-- java/lang/Cloneable -/
def k3 : Class := { plain "java/lang/Cloneable" (some 0) with
  accessFlags := 1537
  interfaces := #[]
  cf := some (fileOf pool3 2 #[] #[] 1537 4 #[] #[])
  fields := #[]
  methods := #[]
  instanceTypes := #[]
  staticTypes := #[]
  resolved := Array.replicate 8 none
  statics := none }

def pool4 : Array CpInfo := pool [(1, u "java/io/Serializable"), (0, .class_ 1), (0, u "java/lang/Object"), (0, .class_ 3)] 3

/-- java/io/Serializable -/
def k4 : Class := { plain "java/io/Serializable" (some 0) with
  accessFlags := 1537
  interfaces := #[]
  cf := some (fileOf pool4 2 #[] #[] 1537 4 #[] #[])
  fields := #[]
  methods := #[]
  instanceTypes := #[]
  staticTypes := #[]
  resolved := Array.replicate 8 none
  statics := none }

/-- the primitive byte -/
def k5 : Class := { plain "byte" none with kind := .primitive 'B', accessFlags := 0x411 }
/-- [B -/
def k6 : Class := { plain "[B" (some 0) with kind := .array 5 .byte, interfaces := #[3, 4], accessFlags := 1041 }

def heap : Heap := #[]
def classes : Array Class := #[k0, k1, k2, k3, k4, k5, k6]
def interned : List (Array UInt16 × Addr) := []
def slotsUsed : Nat := 0
def theMethod : MethodId := ⟨1, 3⟩
def args0 : Array Value := #[.long 5]
def aboutOver (below : List Frame) : State where
  vm := { classes := classes, interned := interned.toArray }
  heap := heap
  slotsUsed := slotsUsed
  threads := #[{ frames := .invoking theMethod args0 :: below }]
def below0 : List Frame := [.native { method := ⟨0, 0⟩, args := #[] }]
def about1 : State := aboutOver below0
def p0 : Program := .bare "" "" ""
def e0 : Env := launch0.env 0 0 0
theorem w_frames : about1.frames = Frame.invoking theMethod args0 :: below0 := rfl
set_option maxRecDepth 65536 in
theorem w_args : argsFit about1.vm theMethod args0 = true := by decide +kernel
set_option maxRecDepth 65536 in
theorem w_heap : heapFits about1 = true := by decide +kernel
set_option maxRecDepth 65536 in
theorem w_runnable : about1.curStatus? = some .runnable := by decide +kernel
set_option maxRecDepth 65536 in
theorem w_alone : about1.alone = true := by decide +kernel
set_option maxRecDepth 65536 in
theorem w_named : about1.methodNamed? x = some theMethod := by decide +kernel
set_option maxRecDepth 65536 in
theorem w_hears : about1.hears theMethod below0 = true := by decide +kernel
set_option maxRecDepth 65536 in
theorem w_ripe : about1.ripe theMethod args0 below0 = true := by decide +kernel
theorem w_running : about1.status = .running := rfl
set_option maxRecDepth 65536 in
theorem w_room : about1.hasRoom e0.platform room_1 = true :=
  launch0.hasRoom_least _ room_1 (by decide +kernel) (by decide +kernel) (by decide +kernel) (by decide +kernel) (by decide +kernel) (by decide +kernel)
theorem allAtoms_all (ts : List Jvm.Cond) (a : Array Jvm.Value) (st : Jvm.State) : (allAtoms ts).before a st = ts.all (fun c => c.before a st) := by
  induction ts with
  | nil => rfl
  | cons c t ih =>
    show (Jvm.Cond.and c (allAtoms t)).before a st = _
    rw [Jvm.Cond.before_and, ih, List.all_cons]
def words1 : List Jvm.Cond := Jvm.Cond.code x code maxLocals ret :: tables_1
/-- a 'code' word, met by the world's own term for the bytes: nothing is compared byte by byte -/
theorem code_word {y : MethodName} {bytes : ByteArray} {mx : Nat} {rt : Option FieldType} {a : Array Value} {s : State} {m : MethodId} {meth : Method} {c : Code} (h1 : s.methodNamed? y = some m) (h2 : s.vm.method? m = some meth) (h3 : meth.code = some c) (h4 : c.code = bytes)
    (h5 : (c.maxLocals == mx && c.exceptionTable.isEmpty && decide (c.maxStack ≤ mostOperands) && decide (meth.sig.returnType = rt) && !meth.locks && decide (parseMethodDescriptor y.desc = some meth.sig)) = true) : (Jvm.Cond.code y bytes mx rt).before a s = true := by
  simp only [Bool.and_eq_true, beq_iff_eq, Bool.not_eq_true', decide_eq_true_eq] at h5
  obtain ⟨⟨⟨⟨⟨g1, g2⟩, g3⟩, g4⟩, g5⟩, g6⟩ := h5
  simp [Cond.before, Cond.holds, Cond.value, h1, h2, h3, h4, g1, g2, g3, g4, g5, g6]
def isCode : Jvm.Cond → Bool
  | .code _ _ _ _ => true
  | _ => false
theorem all_split {L : List Jvm.Cond} {P : Jvm.Cond → Bool} (h1 : L.all (fun c => isCode c || P c) = true) (h2 : ∀ c ∈ L.filter isCode, P c = true) : L.all P = true := by
  refine List.all_eq_true.mpr fun c hc => ?_
  have h := List.all_eq_true.mp h1 c hc
  rcases Bool.eq_false_or_eq_true (isCode c) with hi | hi
  · exact h2 c (List.mem_filter.mpr ⟨hc, hi⟩)
  · simpa [hi] using h
set_option maxRecDepth 65536 in
theorem w_c0 : (Jvm.Cond.code x code maxLocals ret).before args0 about1 = true := code_word (m := ⟨1, 3⟩) (meth := k1m3) (c := k1c3) (by decide +kernel) rfl rfl rfl (by decide +kernel)
set_option maxRecDepth 65536 in
theorem w_c1 : (Jvm.Cond.code ({ cls := "com/example/eigentuple/eigentuple/io/SplitMix", name := "<init>", desc := "(J)V" } : Jvm.MethodName) prog_4_method_1_code (3 : Nat) (Option.none : Option Jvm.ClassFile.FieldType)).before args0 about1 = true := code_word (m := ⟨2, 0⟩) (meth := k2m0) (c := k2c0) (by decide +kernel) rfl rfl rfl (by decide +kernel)
set_option maxRecDepth 65536 in
theorem w_c2 : (Jvm.Cond.code ({ cls := "java/lang/Object", name := "<init>", desc := "()V" } : Jvm.MethodName) object_method_1_code (1 : Nat) (Option.none : Option Jvm.ClassFile.FieldType)).before args0 about1 = true := code_word (m := ⟨0, 0⟩) (meth := k0m0) (c := k0c0) (by decide +kernel) rfl rfl rfl (by decide +kernel)
set_option maxRecDepth 65536 in
theorem w_c3 : (Jvm.Cond.code ({ cls := "com/example/eigentuple/eigentuple/io/SplitMix", name := "nextLong", desc := "()J" } : Jvm.MethodName) prog_4_method_2_code (3 : Nat) (Option.some Jvm.ClassFile.FieldType.long)).before args0 about1 = true := code_word (m := ⟨2, 1⟩) (meth := k2m1) (c := k2c1) (by decide +kernel) rfl rfl rfl (by decide +kernel)
set_option maxRecDepth 65536 in
theorem w_c4 : (Jvm.Cond.code ({ cls := "com/example/eigentuple/eigentuple/io/SplitMixNextLongPinLaw", name := "unmix", desc := "(J)J" } : Jvm.MethodName) method_3_code (2 : Nat) (Option.some Jvm.ClassFile.FieldType.long)).before args0 about1 = true := code_word (m := ⟨1, 2⟩) (meth := k1m2) (c := k1c2) (by decide +kernel) rfl rfl rfl (by decide +kernel)
set_option maxRecDepth 65536 in
theorem w_c5 : (Jvm.Cond.code ({ cls := "com/example/eigentuple/eigentuple/io/SplitMixNextLongPinLaw", name := "inverse", desc := "(J)J" } : Jvm.MethodName) method_2_code (4 : Nat) (Option.some Jvm.ClassFile.FieldType.long)).before args0 about1 = true := code_word (m := ⟨1, 1⟩) (meth := k1m1) (c := k1c1) (by decide +kernel) rfl rfl rfl (by decide +kernel)
def codes1 : List Jvm.Cond := [Jvm.Cond.code x code maxLocals ret, Jvm.Cond.code ({ cls := "com/example/eigentuple/eigentuple/io/SplitMix", name := "<init>", desc := "(J)V" } : Jvm.MethodName) prog_4_method_1_code (3 : Nat) (Option.none : Option Jvm.ClassFile.FieldType), Jvm.Cond.code ({ cls := "java/lang/Object", name := "<init>", desc := "()V" } : Jvm.MethodName) object_method_1_code (1 : Nat) (Option.none : Option Jvm.ClassFile.FieldType), Jvm.Cond.code ({ cls := "com/example/eigentuple/eigentuple/io/SplitMix", name := "nextLong", desc := "()J" } : Jvm.MethodName) prog_4_method_2_code (3 : Nat) (Option.some Jvm.ClassFile.FieldType.long), Jvm.Cond.code ({ cls := "com/example/eigentuple/eigentuple/io/SplitMixNextLongPinLaw", name := "unmix", desc := "(J)J" } : Jvm.MethodName) method_3_code (2 : Nat) (Option.some Jvm.ClassFile.FieldType.long), Jvm.Cond.code ({ cls := "com/example/eigentuple/eigentuple/io/SplitMixNextLongPinLaw", name := "inverse", desc := "(J)J" } : Jvm.MethodName) method_2_code (4 : Nat) (Option.some Jvm.ClassFile.FieldType.long)]
set_option maxRecDepth 65536 in
theorem codes_eq : words1.filter isCode = codes1 := rfl
theorem w_codes : ∀ c ∈ words1.filter isCode, c.before args0 about1 = true := by
  rw [codes_eq]
  intro c hc
  simp only [codes1, List.mem_cons, List.not_mem_nil, or_false] at hc
  rcases hc with rfl | rfl | rfl | rfl | rfl | rfl
  · exact w_c0
  · exact w_c1
  · exact w_c2
  · exact w_c3
  · exact w_c4
  · exact w_c5
set_option maxRecDepth 65536 in
theorem w_t1 : (words1.take 24).all (fun c => isCode c || c.before args0 about1) = true := by decide +kernel
set_option maxRecDepth 65536 in
theorem w_t2 : (words1.drop 24).all (fun c => isCode c || c.before args0 about1) = true := by decide +kernel
theorem w_tables : (allAtoms (Jvm.Cond.code x code maxLocals ret :: tables_1)).before args0 about1 = true := by
  rw [allAtoms_all]
  show words1.all (fun c => c.before args0 about1) = true
  refine all_split ?_ w_codes
  rw [← List.take_append_drop 24 words1, List.all_append, w_t1, w_t2]
  rfl
set_option maxRecDepth 65536 in
theorem w_case : (Jvm.Cond.and given_1 narrow_1).before args0 about1 = true := by decide +kernel
theorem w_applies : (headSpec (Jvm.Cond.code x code maxLocals ret :: tables_1) room_1).applies x e0.platform about1 = true :=
  (Spec.applies_iff w_frames).mpr ⟨w_running, w_runnable, w_alone, w_named, w_hears, w_ripe, w_room, w_tables⟩
theorem atStart : AtStart classFile x code maxLocals ret World_1 tables_1 room_1 Calls_1 rest_1 Pre_1 launch0 p0 e0 about1 theMethod args0 below0 :=
  ⟨lists_1, trivial, launch0.admits_env _ _ _, launch0.least_env, fairChoices_fair.cas, fairChoices_fair.clock, w_frames, w_args, w_heap, w_applies, trivial, trivial, w_case⟩
end start1
theorem witness_1 : WitnessClaimed_1 := ⟨start1.p0, start1.e0, start1.about1, start1.theMethod, start1.args0, start1.below0, start1.atStart⟩
end Jvm.Pilot.@@N@@
