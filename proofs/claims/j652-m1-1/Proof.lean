import JvmDerived
import JvmDerived.Pilot.@@N@@Statement
import JvmDerived.Pilot.@@N@@Code
set_option linter.unusedVariables false
set_option linter.unusedSimpArgs false
@@BLOCK:NumsL.lean.txt@@
namespace Jvm.RoadKit
open Sem ClassFile Op Lib Jvm.Stand Jvm.Free Jvm.LawKit
section New
variable {p : Program} {l : Launch} {e : Env} {R : Room} {s : State} {m : MethodId} {args : Array Value} {below : List Frame} {meth : Method} {c : Code} {T : State} {locs : List Loc} {cells slots : Nat}
theorem retI (X : Stand p l e R s m args below meth c T locs cells slots) (hx : p.tables.exec = Jvm.exec) {pc : Nat} {Ls : Array Slot} {z : Int32} {rest : List Value} (hret : meth.sig.returnType = some .int) (hd : decode c.code pc = .ok (.ireturn, 1)) {fs : List Frame}
    (hl : ∀ (f : JFrame) (acts : List Action), f.method = m → f.locked = none → f.entered = [] → (doReturn e (T.setTop f) acts (some (.int z))).1 = T.setFrames fs) : Steps p.tables e below (T.setTop (mkF m pc Ls (.int z :: rest))) (T.setFrames fs) := by
  have hm' : T.vm.method? m = some meth := X.method'
  have hn : narrow .int (.int z) = .int z := rfl
  show Steps p.tables e below (T.setTop { method := m, pc := pc, locals := Ls, stack := _ :: rest, locked := none }) _
  jvm_step X.here [X.here.top, hx, hd, hm', hret, hn]
  first | (intro acts; rw [hl _ acts rfl rfl rfl]) | rw [hl _ _ rfl rfl rfl]
  exact Steps.refl _
end New
end Jvm.RoadKit
namespace Jvm.Pilot.@@N@@
open Jvm Jvm.ClassFile Sem Op Lib Jvm.Free Jvm.Stand Jvm.LawKit Jvm.RoadKit Bundle Jvm.Pilot.@@N@@.Jvm.D
section Own
variable {p : Program} {l : Launch} {e : Env} {R : Room} {s : State} {m : MethodId} {args : Array Value} {below : List Frame} {meth : Method} {c : Code} {T : State} {locs : List Loc} {cells slots : Nat}
/-- from U the run comes to an end that Q allows -/
def own_Go (p : Program) (e : Env) (below : List Frame) (s : State) (kc ks : Nat) (Q : Option Value → Heap → List Loc → Prop) (U : State) : Prop :=
  ∃ s₂ o, Steps p.tables e below U s₂ ∧ s₂.status = .running ∧ Ended s₂ below o ∧ ∃ v L, o = .returned v ∧ Q v s₂.heap L ∧ FrameEnd s o s₂ L kc ks
theorem own_step {kc ks : Nat} {Q : Option Value → Heap → List Loc → Prop} {U U' : State} (k : ∀ t, Steps p.tables e below U' t → Steps p.tables e below U t) (g : own_Go p e below s kc ks Q U') : own_Go p e below s kc ks Q U := by
  obtain ⟨s₂, o, h, r⟩ := g
  exact ⟨s₂, o, k _ h, r⟩
theorem own_ret {kc ks : Nat} {Q : Option Value → Heap → List Loc → Prop} {U : State} (X : Stand p l e R s m args below meth c T locs cells slots) {v : Option Value} (hv : meth.sig.returnType = none → v = none) (hlocks : meth.locks = false) (hk : cells ≤ kc) (hs : slots ≤ ks) (hq : Q v T.heap locs)
    (k : ∀ fs, (∀ (f : JFrame) (acts : List Action), f.method = m → f.locked = none → f.entered = [] → (doReturn e (T.setTop f) acts v).1 = T.setFrames fs) → Steps p.tables e below U (T.setFrames fs)) : own_Go p e below s kc ks Q U := by
  obtain ⟨fs, hr, hrun, hended, hW, hsame⟩ := X.leave (v := v) hv hlocks
  exact ⟨_, _, k fs hr, hrun, hended, v, locs, rfl, hq, ⟨_, rfl⟩, hW, hsame.mono hk hs⟩
theorem own_narR {t : FieldType} {v : Value} (h : v.isRef = true) : narrow t v = v := by cases v <;> first | (cases h; done) | (cases t <;> rfl)
theorem own_fitR {t : String} {v : Value} (h : v.isRef = true) : fits (.object t) v = true := by cases v <;> first | (cases h; done) | rfl
theorem own_at {h : Heap} {a : Addr} {k : Cell} (e : T.heap = h) (q : h[a]? = some k) : T.heap[a]? = some k := e ▸ q
theorem own_pl0 {h : Heap} : ∀ a ∈ ([] : List Addr), ∀ c : Cell, h[a]? = some c → c.vm.isStatics = false := fun _ q => nomatch q
theorem own_plE {Z : State} {h : Heap} {a : Addr} {C : String} {ws : List Addr} (E : Exa Z h a C) (r : ∀ x ∈ ws, ∀ c : Cell, h[x]? = some c → c.vm.isStatics = false) : ∀ x ∈ a :: ws, ∀ c : Cell, h[x]? = some c → c.vm.isStatics = false := fun x hx c hc => by
  rcases List.mem_cons.mp hx with rfl | q
  · obtain ⟨cell, k, h1, -, -, h4, -⟩ := E
    cases h1.symm.trans hc; exact h4
  · exact r x q c hc
theorem own_plF {Z : State} {h : Heap} {a : Addr} {C n d : String} {v : Value} {ws : List Addr} (E : Fld Z h a C n d v) (r : ∀ x ∈ ws, ∀ c : Cell, h[x]? = some c → c.vm.isStatics = false) : ∀ x ∈ a :: ws, ∀ c : Cell, h[x]? = some c → c.vm.isStatics = false := fun x hx c hc => by
  rcases List.mem_cons.mp hx with rfl | q
  · exact old_plain E c hc
  · exact r x q c hc
theorem own_plV {Z : State} {h : Heap} {a : Addr} {k : ClassId} {ty : FieldType} {z : Int32} {vs : List Value} {d : Value} {ws : List Addr} (E : Arv Z h a k ty z vs d) (r : ∀ x ∈ ws, ∀ c : Cell, h[x]? = some c → c.vm.isStatics = false) : ∀ x ∈ a :: ws, ∀ c : Cell, h[x]? = some c → c.vm.isStatics = false := fun x hx c hc => by
  rcases List.mem_cons.mp hx with rfl | q
  · obtain ⟨cl, A, -⟩ := E
    cases A.1.symm.trans hc; exact A.plain
  · exact r x q c hc
theorem own_sta_keep {Z : State} {h h' : Heap} {C n d : String} {w : Value} {ws : List Addr} (F : Sta Z h C n d w) (K : Keep h h' ws) (r : ∀ x ∈ ws, ∀ c : Cell, h[x]? = some c → c.vm.isStatics = false) : Sta Z h' C n d w := by
  obtain ⟨cf, i, k, f, st, cell, h1, h2, h3, h4, h5, h6, h7⟩ := F
  exact ⟨cf, i, k, f, st, cell, h1, h2, h3, h4, K.2.1 st cell h5 (fun q => by rw [r st q cell h5] at h6; cases h6), h6, h7⟩
end Own
def own_ce (c : Int32) : Int32 := if 255 < c then 0 else 1
theorem own_le255 (x : Int32) : ¬ 255 < (x &&& 255).toUInt32.toUInt16.toUInt32.toInt32 := by
  rw [i2c_mask, Int32.lt_iff_toInt_lt]
  have := Jvm.Kit.i32_mask x 255 (k := 8) (by decide) (by decide)
  have e : (255 : Int32).toInt = 255 := rfl
  omega
theorem own_pn0 : plainName "java/lang/StringLatin1" = true := by first | (simp [plainName, overriddenIn]; done) | decide +kernel
theorem own_d5_0 : decode jdk_43_method_3_code 0 = .ok (.iload_n 0, 1) := by decide +kernel
theorem own_d5_1 : decode jdk_43_method_3_code 1 = .ok (.sipush 255, 3) := by decide +kernel
theorem own_d5_4 : decode jdk_43_method_3_code 4 = .ok (.if_icmp .gt 7, 3) := by decide +kernel
theorem own_d5_7 : decode jdk_43_method_3_code 7 = .ok (.iconst 1, 1) := by decide +kernel
theorem own_d5_8 : decode jdk_43_method_3_code 8 = .ok (.goto 4, 3) := by decide +kernel
theorem own_d5_11 : decode jdk_43_method_3_code 11 = .ok (.iconst 0, 1) := by decide +kernel
theorem own_d5_12 : decode jdk_43_method_3_code 12 = .ok (.ireturn, 1) := by decide +kernel
def own_Q_ce (Z : State) (p1 : Int32) (h0 : Heap) (n0 : Nat) (v : Option Value) (h : Heap) (L : List Loc) : Prop := v = some (.int (own_ce p1)) ∧ Fr n0 L ∧ h = h0
set_option maxRecDepth 65536 in
set_option maxHeartbeats 40000000 in
theorem own_m_ce (l : Launch) (Z : State) (a0 : Array Value) (hw : ∀ d ∈ tables_1, d.before a0 Z = true) (ws : List Jvm.Cond) (p1 : Int32) (h0 : Heap) (n0 : Nat) (Z0 : n0 ≤ h0.size)  :
    MetFree l (⟨"java/lang/StringLatin1", "canEncode", "(C)Z"⟩ : MethodName) (head1 (Jvm.Cond.code (⟨"java/lang/StringLatin1", "canEncode", "(C)Z"⟩ : MethodName) jdk_43_method_3_code 1 (some .boolean) :: ws) ({ frames := 0, cells := 0, slots := 0, locals := 0 } : Room)) (fun a U => a = #[(.int p1)] ∧ Z.Warmed39 U.vm ∧ U.heap = h0) (fun _ _ _ _ _ => True) (fun _ U o U' => ∃ v L, o = .returned v ∧ own_Q_ce Z p1 h0 n0 v U'.heap L ∧ FrameEnd U o U' L ({ frames := 0, cells := 0, slots := 0, locals := 0 } : Room).cells ({ frames := 0, cells := 0, slots := 0, locals := 0 } : Room).slots) := by
  refine MetFree.of_bodySF (plainFor_of_name own_pn0) hisR ?_
  intro p e s m args below meth c s₁ Bd hml0 hP hK
  obtain ⟨rfl, hZ, hh⟩ := hP
  have hx := Bd.exec
  have hby := Bd.bytes
  have hml : c.maxLocals = 1 := hml0
  have hown : s.vm.findClass "java/lang/StringLatin1" = some m.cls := findClass_of_methodNamed Bd.named
  have hnm := (name_of_methodNamed Bd.named Bd.method).1
  have X0 : Stand p l e ({ frames := 0, cells := 0, slots := 0, locals := 0 } : Room) s m #[(.int p1)] below meth c s₁ [] 0 0 := Stand.of_body Bd
  have e0 : s₁.heap = h0 := by rw [← hh, Bd.state]; rfl
  have N0 := Fr.nil n0
  have K0 : Keep h0 h0 [] := Keep.refl _ _
  show own_Go p e below s ({ frames := 0, cells := 0, slots := 0, locals := 0 } : Room).cells ({ frames := 0, cells := 0, slots := 0, locals := 0 } : Room).slots (own_Q_ce Z p1 h0 n0) (s₁.setTop (entryFrame m #[(.int p1)] 1))
  have ef : entryFrame m #[(.int p1)] 1 = (mkF m 0 #[.val (.int p1)] []) := by first | rfl | (simp [entryFrame, mkF, argsToLocals, Value.category, maxLocals]; done)
  rw [ef]
  show own_Go p e below s _ _ _ (s₁.setTop (mkF m 0 #[.val (.int p1)] []))
  refine own_step (U' := (s₁.setTop (mkF m 1 #[.val (.int p1)] [(.int p1)]))) (fun t ht => XS.iloadN X0.here hx rfl (hb hby own_d5_0) rfl ht) ?_
  refine own_step (U' := (s₁.setTop (mkF m 4 #[.val (.int p1)] [(.int (255 : Int32)), (.int p1)]))) (fun t ht => XS.sipush X0.here hx rfl (hb hby own_d5_1) ht) ?_
  by_cases hc4_1 : (255 : Int32) < p1
  ·
    refine own_step (U' := (s₁.setTop (mkF m 11 #[.val (.int p1)] []))) (fun t ht => XS.icmpYes X0.here hx rfl (pc0 := 4) (pc' := 11) rfl (hb hby own_d5_4) rfl (XT.ii_gt_t hc4_1) (by decide) (by decide) ht) ?_
    refine own_step (U' := (s₁.setTop (mkF m 12 #[.val (.int p1)] [(.int (0 : Int32))]))) (fun t ht => XS.iconst X0.here hx rfl (hb hby own_d5_11) ht) ?_
    refine own_ret X0 (v := (some (.int (nar .boolean (0 : Int32))))) (fun h => by rw [Bd.returns] at h; cases h) Bd.notSynchronized (by decide) (by decide) ?_ (fun fs hr => retN X0 hx (t := .boolean) Bd.returns (by simp) (hb hby own_d5_12) hr)
    show own_Q_ce Z p1 h0 n0 _ s₁.heap _
    rw [e0]
    refine ⟨?_, N0, rfl⟩
    simp [own_ce, nar, hc4_1]
  ·
    refine own_step (U' := (s₁.setTop (mkF m 7 #[.val (.int p1)] []))) (fun t ht => XS.icmpNo X0.here hx rfl (hb hby own_d5_4) rfl (XT.ii_gt_f hc4_1) ht) ?_
    refine own_step (U' := (s₁.setTop (mkF m 8 #[.val (.int p1)] [(.int (1 : Int32))]))) (fun t ht => XS.iconst X0.here hx rfl (hb hby own_d5_7) ht) ?_
    refine own_step (U' := (s₁.setTop (mkF m 12 #[.val (.int p1)] [(.int (1 : Int32))]))) (fun t ht => XS.goto X0.here hx rfl (pc0 := 8) (pc' := 12) rfl (hb hby own_d5_8) (by decide) (by decide) ht) ?_
    refine own_ret X0 (v := (some (.int (nar .boolean (1 : Int32))))) (fun h => by rw [Bd.returns] at h; cases h) Bd.notSynchronized (by decide) (by decide) ?_ (fun fs hr => retN X0 hx (t := .boolean) Bd.returns (by simp) (hb hby own_d5_12) hr)
    show own_Q_ce Z p1 h0 n0 _ s₁.heap _
    rw [e0]
    refine ⟨?_, N0, rfl⟩
    simp [own_ce, nar, hc4_1]
theorem own_d6_0 : decode jdk_43_method_46_code 0 = .ok (.iconst 1, 1) := by decide +kernel
theorem own_d6_1 : decode jdk_43_method_46_code 1 = .ok (.newarray .byte, 2) := by decide +kernel
theorem own_d6_3 : decode jdk_43_method_46_code 3 = .ok (.dup, 1) := by decide +kernel
theorem own_d6_4 : decode jdk_43_method_46_code 4 = .ok (.iconst 0, 1) := by decide +kernel
theorem own_d6_5 : decode jdk_43_method_46_code 5 = .ok (.iload_n 0, 1) := by decide +kernel
theorem own_d6_6 : decode jdk_43_method_46_code 6 = .ok (.i2b, 1) := by decide +kernel
theorem own_d6_7 : decode jdk_43_method_46_code 7 = .ok (.bastore, 1) := by decide +kernel
theorem own_d6_8 : decode jdk_43_method_46_code 8 = .ok (.areturn, 1) := by decide +kernel
def own_Q_tob (Z : State) (p1 : Int32) (h0 : Heap) (n0 : Nat) (v : Option Value) (h : Heap) (L : List Loc) : Prop := ∃ (r : Addr), v = some (.ref r) ∧ Fr n0 L ∧ Keep h0 h [] ∧ h0.size ≤ r
set_option maxRecDepth 65536 in
set_option maxHeartbeats 40000000 in
theorem own_m_tob (l : Launch) (Z : State) (a0 : Array Value) (hw : ∀ d ∈ tables_1, d.before a0 Z = true) (ws : List Jvm.Cond) (p1 : Int32) (h0 : Heap) (n0 : Nat) (Z0 : n0 ≤ h0.size)  :
    MetFree l (⟨"java/lang/StringLatin1", "toBytes", "(C)[B"⟩ : MethodName) (head1 (Jvm.Cond.code (⟨"java/lang/StringLatin1", "toBytes", "(C)[B"⟩ : MethodName) jdk_43_method_46_code 1 (some (.array .byte)) :: ws) ({ frames := 0, cells := 1, slots := 1, locals := 0 } : Room)) (fun a U => a = #[(.int p1)] ∧ Z.Warmed39 U.vm ∧ U.heap = h0) (fun _ _ _ _ _ => True) (fun _ U o U' => ∃ v L, o = .returned v ∧ own_Q_tob Z p1 h0 n0 v U'.heap L ∧ FrameEnd U o U' L ({ frames := 0, cells := 1, slots := 1, locals := 0 } : Room).cells ({ frames := 0, cells := 1, slots := 1, locals := 0 } : Room).slots) := by
  refine MetFree.of_bodySF (plainFor_of_name own_pn0) hisR ?_
  intro p e s m args below meth c s₁ Bd hml0 hP hK
  obtain ⟨rfl, hZ, hh⟩ := hP
  have hx := Bd.exec
  have hby := Bd.bytes
  have hml : c.maxLocals = 1 := hml0
  have hown : s.vm.findClass "java/lang/StringLatin1" = some m.cls := findClass_of_methodNamed Bd.named
  have hnm := (name_of_methodNamed Bd.named Bd.method).1
  have X0 : Stand p l e ({ frames := 0, cells := 1, slots := 1, locals := 0 } : Room) s m #[(.int p1)] below meth c s₁ [] 0 0 := Stand.of_body Bd
  have e0 : s₁.heap = h0 := by rw [← hh, Bd.state]; rfl
  have N0 := Fr.nil n0
  have K0 : Keep h0 h0 [] := Keep.refl _ _
  show own_Go p e below s ({ frames := 0, cells := 1, slots := 1, locals := 0 } : Room).cells ({ frames := 0, cells := 1, slots := 1, locals := 0 } : Room).slots (own_Q_tob Z p1 h0 n0) (s₁.setTop (entryFrame m #[(.int p1)] 1))
  have ef : entryFrame m #[(.int p1)] 1 = (mkF m 0 #[.val (.int p1)] []) := by first | rfl | (simp [entryFrame, mkF, argsToLocals, Value.category, maxLocals]; done)
  rw [ef]
  show own_Go p e below s _ _ _ (s₁.setTop (mkF m 0 #[.val (.int p1)] []))
  refine own_step (U' := (s₁.setTop (mkF m 1 #[.val (.int p1)] [(.int (1 : Int32))]))) (fun t ht => XS.iconst X0.here hx rfl (hb hby own_d6_0) ht) ?_
  obtain ⟨T2, h2, k2, X2, e2, E2, A2, st2⟩ := newP X0 hx hZ (hw _ (List.mem_of_getElem? (i := 38) rfl)) e0 (g := (mkF m 1 #[.val (.int p1)] [(.int (1 : Int32))])) rfl (hb hby own_d6_1) rfl (by decide) (cap := 1) (by decide) (by decide) (by decide) (by decide)
  obtain ⟨b2, g2⟩ : ∃ z, z = (h0).size := ⟨_, rfl⟩
  rw [← g2] at A2 st2
  have g_b2 : n0 ≤ b2 := Nat.le_trans (Nat.le_trans Z0 K0.1) (Nat.le_of_eq g2.symm)
  have sz_b2 : h0.size ≤ b2 := Nat.le_trans K0.1 (Nat.le_of_eq g2.symm)
  have K2 : Keep h0 h2 [] := K0.ext E2
  have V2 : Arv Z h2 b2 k2 .byte (1 : Int32) [(.int (0 : Int32))] (.int (0 : Int32)) := (Arv.new A2 (by decide)).pad (pad_rep [] (.int (0 : Int32)) 1)
  refine own_step (U' := (T2.setTop (mkF m 3 #[.val (.int p1)] [(.ref b2)]))) (fun t ht => st2 _ ht) ?_
  refine own_step (U' := (T2.setTop (mkF m 4 #[.val (.int p1)] [(.ref b2), (.ref b2)]))) (fun t ht => XS.dup X2.here hx rfl (hb hby own_d6_3) rfl rfl ht) ?_
  refine own_step (U' := (T2.setTop (mkF m 5 #[.val (.int p1)] [(.int (0 : Int32)), (.ref b2), (.ref b2)]))) (fun t ht => XS.iconst X2.here hx rfl (hb hby own_d6_4) ht) ?_
  refine own_step (U' := (T2.setTop (mkF m 6 #[.val (.int p1)] [(.int p1), (.int (0 : Int32)), (.ref b2), (.ref b2)]))) (fun t ht => XS.iloadN X2.here hx rfl (hb hby own_d6_5) rfl ht) ?_
  refine own_step (U' := (T2.setTop (mkF m 7 #[.val (.int p1)] [(.int (p1.toInt8.toInt32)), (.int (0 : Int32)), (.ref b2), (.ref b2)]))) (fun t ht => XT.i2b X2.here hx rfl (hb hby own_d6_6) rfl ht) ?_
  obtain ⟨cl3, Ar3, q3, S3, N3_, H3, G3⟩ := (id V2)
  have hin3 : ¬ ((0 : Int32) < 0 ∨ cl3.slots.size ≤ ((0 : Int32)).toNatClampNeg) := inb_of S3 ⟨by decide, by decide⟩
  obtain ⟨T3, h3, X3, e3, W3, st3⟩ := stB X2 hx hZ e2 Ar3 (j := (0 : Int32)) hin3 (g := (mkF m 7 #[.val (.int p1)] [(.int (p1.toInt8.toInt32)), (.int (0 : Int32)), (.ref b2), (.ref b2)])) rfl rfl (hb hby own_d6_7)
  have V3 : Arv Z h3 b2 k2 .byte (1 : Int32) [(.int ((p1.toInt8.toInt32).toInt8.toInt32))] (.int (0 : Int32)) := Arv.set Ar3 q3 S3 N3_ H3 G3 (fits_nar_byte _) W3 0 rfl (by decide)
  have N3 := Fr.snoc X3 N0 g_b2
  have K3 : Keep h0 h3 [] := K2.wr W3 (Or.inr sz_b2)
  refine own_step (U' := (T3.setTop (mkF m 8 #[.val (.int p1)] [(.ref b2)]))) (fun t ht => st3 _ ht) ?_
  refine own_ret X3 (v := (some (.ref b2))) (fun h => by rw [Bd.returns] at h; cases h) Bd.notSynchronized (by decide) (by decide) ?_ (fun fs hr => retOut X3 hx Bd.returns (own_narR rfl) (Or.inr (Or.inr (Or.inr (Or.inr ⟨rfl, rfl, rfl⟩)))) (hb hby own_d6_8) hr)
  show own_Q_tob Z p1 h0 n0 _ T3.heap _
  rw [e3]
  exact ⟨b2, rfl, N3, K3, sz_b2⟩
theorem own_pn1 : plainName "java/lang/String" = true := by first | (simp [plainName, overriddenIn]; done) | decide +kernel
theorem own_d7_0 : decode jdk_42_method_151_code 0 = .ok (.aload_n 0, 1) := by decide +kernel
theorem own_d7_1 : decode jdk_42_method_151_code 1 = .ok (.invokespecial 1, 3) := by decide +kernel
theorem own_d7_4 : decode jdk_42_method_151_code 4 = .ok (.aload_n 0, 1) := by decide +kernel
theorem own_d7_5 : decode jdk_42_method_151_code 5 = .ok (.aload_n 1, 1) := by decide +kernel
theorem own_d7_6 : decode jdk_42_method_151_code 6 = .ok (.putfield 9, 3) := by decide +kernel
theorem own_d7_9 : decode jdk_42_method_151_code 9 = .ok (.aload_n 0, 1) := by decide +kernel
theorem own_d7_10 : decode jdk_42_method_151_code 10 = .ok (.iload_n 2, 1) := by decide +kernel
theorem own_d7_11 : decode jdk_42_method_151_code 11 = .ok (.putfield 15, 3) := by decide +kernel
theorem own_d7_14 : decode jdk_42_method_151_code 14 = .ok (.return_, 1) := by decide +kernel
def own_Q_sin (Z : State) (a1 : Addr) (b1 : Addr) (p2 : Int32) (u1 : Value) (u2 : Value) (h0 : Heap) (n0 : Nat) (v : Option Value) (h : Heap) (L : List Loc) : Prop := v = none ∧ Fr n0 L ∧ Keep h0 h [a1] ∧ (Fld Z h a1 "java/lang/String" "value" "[B" (.ref b1)) ∧ (Exa Z h a1 "java/lang/String")
set_option maxRecDepth 65536 in
set_option maxHeartbeats 40000000 in
theorem own_m_sin (l : Launch) (Z : State) (a0 : Array Value) (hw : ∀ d ∈ tables_1, d.before a0 Z = true) (ws : List Jvm.Cond) (a1 : Addr) (b1 : Addr) (p2 : Int32) (u1 : Value) (u2 : Value) (h0 : Heap) (n0 : Nat) (Z0 : n0 ≤ h0.size) (g_a1 : n0 ≤ a1) (F1 : Fld Z h0 a1 "java/lang/String" "value" "[B" u1) (F2 : Fld Z h0 a1 "java/lang/String" "coder" "B" u2) (E1 : Exa Z h0 a1 "java/lang/String") :
    MetFree l (⟨"java/lang/String", "<init>", "([BB)V"⟩ : MethodName) (head1 (Jvm.Cond.code (⟨"java/lang/String", "<init>", "([BB)V"⟩ : MethodName) jdk_42_method_151_code 3 none :: ws) ({ frames := 1, cells := 0, slots := 0, locals := 12 } : Room)) (fun a U => a = #[(.ref a1), (.ref b1), (.int p2)] ∧ Z.Warmed39 U.vm ∧ U.heap = h0) (fun _ _ _ _ _ => True) (fun _ U o U' => ∃ v L, o = .returned v ∧ own_Q_sin Z a1 b1 p2 u1 u2 h0 n0 v U'.heap L ∧ FrameEnd U o U' L ({ frames := 1, cells := 0, slots := 0, locals := 12 } : Room).cells ({ frames := 1, cells := 0, slots := 0, locals := 12 } : Room).slots) := by
  refine MetFree.of_bodySF (plainFor_of_name own_pn1) hisR ?_
  intro p e s m args below meth c s₁ Bd hml0 hP hK
  obtain ⟨rfl, hZ, hh⟩ := hP
  have hx := Bd.exec
  have hby := Bd.bytes
  have hml : c.maxLocals = 3 := hml0
  have hown : s.vm.findClass "java/lang/String" = some m.cls := findClass_of_methodNamed Bd.named
  have hnm := (name_of_methodNamed Bd.named Bd.method).1
  have X0 : Stand p l e ({ frames := 1, cells := 0, slots := 0, locals := 12 } : Room) s m #[(.ref a1), (.ref b1), (.int p2)] below meth c s₁ [] 0 0 := Stand.of_body Bd
  have e0 : s₁.heap = h0 := by rw [← hh, Bd.state]; rfl
  have N0 := Fr.nil n0
  have K0 : Keep h0 h0 [a1] := Keep.refl _ _
  show own_Go p e below s ({ frames := 1, cells := 0, slots := 0, locals := 12 } : Room).cells ({ frames := 1, cells := 0, slots := 0, locals := 12 } : Room).slots (own_Q_sin Z a1 b1 p2 u1 u2 h0 n0) (s₁.setTop (entryFrame m #[(.ref a1), (.ref b1), (.int p2)] 3))
  have ef : entryFrame m #[(.ref a1), (.ref b1), (.int p2)] 3 = (mkF m 0 #[.val (.ref a1), .val (.ref b1), .val (.int p2)] []) := by first | rfl | (simp [entryFrame, mkF, argsToLocals, Value.category, maxLocals]; done)
  rw [ef]
  show own_Go p e below s _ _ _ (s₁.setTop (mkF m 0 #[.val (.ref a1), .val (.ref b1), .val (.int p2)] []))
  refine own_step (U' := (s₁.setTop (mkF m 1 #[.val (.ref a1), .val (.ref b1), .val (.int p2)] [(.ref a1)]))) (fun t ht => XS.aloadN X0.here hx rfl (hb hby own_d7_0) rfl rfl ht) ?_
  obtain ⟨T4, X4, e4, st4⟩ := initO X0 hx hZ hown (hw _ (List.mem_of_getElem? (i := 43) rfl)) (hw _ (List.mem_of_getElem? (i := 7) rfl)) (hw _ (List.mem_of_getElem? (i := 8) rfl)) e0 (g := (mkF m 1 #[.val (.ref a1), .val (.ref b1), .val (.int p2)] [(.ref a1)])) rfl (by rw [hml]; rfl) rfl (hb hby own_d7_1) (by decide) (W := 0) (by show 2 * 0 + _ ≤ _; exact Nat.le_of_eq rfl) (by decide)
  refine own_step (U' := (T4.setTop (mkF m 4 #[.val (.ref a1), .val (.ref b1), .val (.int p2)] []))) (fun t ht => st4 _ ht) ?_
  refine own_step (U' := (T4.setTop (mkF m 5 #[.val (.ref a1), .val (.ref b1), .val (.int p2)] [(.ref a1)]))) (fun t ht => XS.aloadN X4.here hx rfl (hb hby own_d7_4) rfl rfl ht) ?_
  refine own_step (U' := (T4.setTop (mkF m 6 #[.val (.ref a1), .val (.ref b1), .val (.int p2)] [(.ref b1), (.ref a1)]))) (fun t ht => XS.aloadN X4.here hx rfl (hb hby own_d7_5) rfl rfl ht) ?_
  obtain ⟨T5, h5, X5, e5, W5, st5⟩ := putF X4 hx hZ hown (host := "") (Or.inl (hw _ (List.mem_of_getElem? (i := 44) rfl))) Via.refl e4 F1 E1 (Or.inr ⟨(hw _ (List.mem_of_getElem? (i := 45) rfl)), rfl, hnm⟩) (hw _ (List.mem_of_getElem? (i := 34) rfl)) (ty := (.array .byte)) (by decide) rfl rfl (g := (mkF m 6 #[.val (.ref a1), .val (.ref b1), .val (.int p2)] [(.ref b1), (.ref a1)])) rfl rfl (hb hby own_d7_6)
  have f5_1 : Fld Z h5 a1 "java/lang/String" "coder" "B" u2 := F2.other W5 (Or.inr (slot_ne (Or.inr (hw _ (List.mem_of_getElem? (i := 47) rfl))) (Or.inr (hw _ (List.mem_of_getElem? (i := 45) rfl))) (by decide) (t := .byte) (t' := (.array .byte)) (by decide) (by decide)))
  have f5_2 : Exa Z h5 a1 "java/lang/String" := E1.wr W5
  have F5 := F1.same W5
  have N5 := Fr.snoc X5 N0 g_a1
  have K5 : Keep h0 h5 [a1] := K0.wr W5 (Or.inl (by simp))
  refine own_step (U' := (T5.setTop (mkF m 9 #[.val (.ref a1), .val (.ref b1), .val (.int p2)] []))) (fun t ht => st5 _ ht) ?_
  refine own_step (U' := (T5.setTop (mkF m 10 #[.val (.ref a1), .val (.ref b1), .val (.int p2)] [(.ref a1)]))) (fun t ht => XS.aloadN X5.here hx rfl (hb hby own_d7_9) rfl rfl ht) ?_
  refine own_step (U' := (T5.setTop (mkF m 11 #[.val (.ref a1), .val (.ref b1), .val (.int p2)] [(.int p2), (.ref a1)]))) (fun t ht => XS.iloadN X5.here hx rfl (hb hby own_d7_10) rfl ht) ?_
  obtain ⟨T6, h6, X6, e6, W6, st6⟩ := putFN X5 hx hZ hown (hw _ (List.mem_of_getElem? (i := 46) rfl)) Via.refl e5 f5_1 f5_2 (Or.inr ⟨(hw _ (List.mem_of_getElem? (i := 47) rfl)), rfl, hnm⟩) (hw _ (List.mem_of_getElem? (i := 34) rfl)) (ty := .byte) (v' := (.int (p2.toInt8.toInt32))) (by decide) rfl (fits_nar_byte _) (g := (mkF m 11 #[.val (.ref a1), .val (.ref b1), .val (.int p2)] [(.int p2), (.ref a1)])) rfl rfl (hb hby own_d7_11)
  have f6_1 : Exa Z h6 a1 "java/lang/String" := f5_2.wr W6
  have f6_2 : Fld Z h6 a1 "java/lang/String" "value" "[B" (.ref b1) := F5.other W6 (Or.inr (slot_ne (Or.inr (hw _ (List.mem_of_getElem? (i := 45) rfl))) (Or.inr (hw _ (List.mem_of_getElem? (i := 47) rfl))) (by decide) (t := (.array .byte)) (t' := .byte) (by decide) (by decide)))
  have F6 := f5_1.same W6
  have N6 := Fr.snoc X6 N5 g_a1
  have K6 : Keep h0 h6 [a1] := K5.wr W6 (Or.inl (by simp))
  refine own_step (U' := (T6.setTop (mkF m 14 #[.val (.ref a1), .val (.ref b1), .val (.int p2)] []))) (fun t ht => st6 _ ht) ?_
  refine own_ret X6 (v := none) (fun _ => rfl) Bd.notSynchronized (by decide) (by decide) ?_ (fun fs hr => X6.returnOut hx Bd.returns (hb hby own_d7_14) hr)
  show own_Q_sin Z a1 b1 p2 u1 u2 h0 n0 _ T6.heap _
  rw [e6]
  exact ⟨rfl, N6, K6, f6_2, f6_1⟩
theorem own_pd0 : parseMethodDescriptor "(C)Z" = some ⟨[.char], some .boolean⟩ := by decide +kernel
theorem own_pd1 : parseMethodDescriptor "(C)[B" = some ⟨[.char], some (.array .byte)⟩ := by decide +kernel
theorem own_pd2 : parseMethodDescriptor "([BB)V" = some ⟨[(.array .byte), .byte], none⟩ := by decide +kernel
theorem own_d4_0 : decode jdk_42_method_139_code 0 = .ok (.getstatic 38, 3) := by decide +kernel
theorem own_d4_3 : decode jdk_42_method_139_code 3 = .ok (.ifCond .eq 23, 3) := by decide +kernel
theorem own_d4_6 : decode jdk_42_method_139_code 6 = .ok (.iload_n 0, 1) := by decide +kernel
theorem own_d4_7 : decode jdk_42_method_139_code 7 = .ok (.invokestatic 1015, 3) := by decide +kernel
theorem own_d4_10 : decode jdk_42_method_139_code 10 = .ok (.ifCond .eq 16, 3) := by decide +kernel
theorem own_d4_13 : decode jdk_42_method_139_code 13 = .ok (.new 10, 3) := by decide +kernel
theorem own_d4_16 : decode jdk_42_method_139_code 16 = .ok (.dup, 1) := by decide +kernel
theorem own_d4_17 : decode jdk_42_method_139_code 17 = .ok (.iload_n 0, 1) := by decide +kernel
theorem own_d4_18 : decode jdk_42_method_139_code 18 = .ok (.invokestatic 1018, 3) := by decide +kernel
theorem own_d4_21 : decode jdk_42_method_139_code 21 = .ok (.iconst 0, 1) := by decide +kernel
theorem own_d4_22 : decode jdk_42_method_139_code 22 = .ok (.invokespecial 209, 3) := by decide +kernel
theorem own_d4_25 : decode jdk_42_method_139_code 25 = .ok (.areturn, 1) := by decide +kernel
def own_Q_vof (Z : State) (p1 : Int32) (cz : Int32) (h0 : Heap) (n0 : Nat) (v : Option Value) (h : Heap) (L : List Loc) : Prop := ∃ (r : Addr), v = some (.ref r) ∧ Fr n0 L ∧ Keep h0 h [] ∧ h0.size ≤ r ∧ (Exa Z h r "java/lang/String")
set_option maxRecDepth 65536 in
set_option maxHeartbeats 40000000 in
theorem own_m_vof (l : Launch) (Z : State) (a0 : Array Value) (hw : ∀ d ∈ tables_1, d.before a0 Z = true) (ws : List Jvm.Cond) (p1 : Int32) (cz : Int32) (h0 : Heap) (n0 : Nat) (Z0 : n0 ≤ h0.size) (S_cz : Sta Z h0 "java/lang/String" "COMPACT_STRINGS" "Z" (.int cz)) (hcz : ¬ cz = 0) (hp1 : ¬ 255 < p1) :
    MetFree l (⟨"java/lang/String", "valueOf", "(C)Ljava/lang/String;"⟩ : MethodName) (head1 (Jvm.Cond.code (⟨"java/lang/String", "valueOf", "(C)Ljava/lang/String;"⟩ : MethodName) jdk_42_method_139_code 1 (some (.object "java/lang/String")) :: ws) ({ frames := 2, cells := 2, slots := 5, locals := 27 } : Room)) (fun a U => a = #[(.int p1)] ∧ Z.Warmed39 U.vm ∧ U.heap = h0) (fun _ _ _ _ _ => True) (fun _ U o U' => ∃ v L, o = .returned v ∧ own_Q_vof Z p1 cz h0 n0 v U'.heap L ∧ FrameEnd U o U' L ({ frames := 2, cells := 2, slots := 5, locals := 27 } : Room).cells ({ frames := 2, cells := 2, slots := 5, locals := 27 } : Room).slots) := by
  refine MetFree.of_bodySF (plainFor_of_name own_pn1) hisR ?_
  intro p e s m args below meth c s₁ Bd hml0 hP hK
  obtain ⟨rfl, hZ, hh⟩ := hP
  have hx := Bd.exec
  have hby := Bd.bytes
  have hml : c.maxLocals = 1 := hml0
  have hown : s.vm.findClass "java/lang/String" = some m.cls := findClass_of_methodNamed Bd.named
  have hnm := (name_of_methodNamed Bd.named Bd.method).1
  have X0 : Stand p l e ({ frames := 2, cells := 2, slots := 5, locals := 27 } : Room) s m #[(.int p1)] below meth c s₁ [] 0 0 := Stand.of_body Bd
  have e0 : s₁.heap = h0 := by rw [← hh, Bd.state]; rfl
  have N0 := Fr.nil n0
  have K0 : Keep h0 h0 [] := Keep.refl _ _
  show own_Go p e below s ({ frames := 2, cells := 2, slots := 5, locals := 27 } : Room).cells ({ frames := 2, cells := 2, slots := 5, locals := 27 } : Room).slots (own_Q_vof Z p1 cz h0 n0) (s₁.setTop (entryFrame m #[(.int p1)] 1))
  have ef : entryFrame m #[(.int p1)] 1 = (mkF m 0 #[.val (.int p1)] []) := by first | rfl | (simp [entryFrame, mkF, argsToLocals, Value.category, maxLocals]; done)
  rw [ef]
  show own_Go p e below s _ _ _ (s₁.setTop (mkF m 0 #[.val (.int p1)] []))
  obtain ⟨T7, X7, e7, st7⟩ := getS2 X0 hx hZ hown (host := "") (Or.inl (hw _ (List.mem_of_getElem? (i := 28) rfl))) Via.refl e0 S_cz (g := (mkF m 0 #[.val (.int p1)] [])) rfl (hb hby own_d4_0)
  refine own_step (U' := (T7.setTop (mkF m 3 #[.val (.int p1)] [(.int cz)]))) (fun t ht => st7 _ ht) ?_
  refine own_step (U' := (T7.setTop (mkF m 6 #[.val (.int p1)] []))) (fun t ht => XS.ifNo X7.here hx rfl (hb hby own_d4_3) rfl (XT.i0_eq_f (hcz : ¬ (cz = 0))) ht) ?_
  refine own_step (U' := (T7.setTop (mkF m 7 #[.val (.int p1)] [(.int p1)]))) (fun t ht => XS.iloadN X7.here hx rfl (hb hby own_d4_6) rfl ht) ?_
  obtain ⟨_, _, ⟨T8, L8, k8, n8⟩, -, X8, ⟨Lc8, hQ8, l8, y8, z8⟩, st8⟩ := Jvm.LawKit.callS X7 hx (y := (⟨"java/lang/StringLatin1", "canEncode", "(C)Z"⟩ : MethodName)) hown (mvT hZ (hw _ (List.mem_of_getElem? (i := 29) rfl))) (mvT hZ (hw _ (List.mem_of_getElem? (i := 30) rfl))) (mvT hZ (hw _ (List.mem_of_getElem? (i := 31) rfl))) (mvT hZ (hw _ (List.mem_of_getElem? (i := 32) rfl))) (by decide) (backOf (W := 0) (own_m_ce l Z a0 hw [] (p1) h0 n0 Z0 ) hZ (hw _ (List.mem_of_getElem? (i := 32) rfl)) (hw _ (List.mem_of_getElem? (i := 31) rfl)) (by decide) (by decide)) (g := (mkF m 7 #[.val (.int p1)] [(.int p1)])) rfl (by rw [hml]; rfl) (argsL := [(.int p1)]) (rest := []) (lenOf own_pd0 rfl) rfl (by show 2 * 0 + _ ≤ _; exact Nat.le_of_eq rfl) (hb hby own_d4_7) (fun _ _ => ⟨rfl, e7, (by decide : 0 + 0 ≤ _), (by decide : 0 + 0 ≤ _)⟩)
  dsimp only [Pt.U, Pt.locs, Pt.cells, Pt.slots] at X8 l8 y8 z8 st8 hQ8
  subst l8 y8 z8
  obtain ⟨rfl, Nq8, Kq8⟩ := hQ8
  have N8 := Fr.app N0 Nq8
  have e8 : T8.heap = h0 := Kq8
  refine own_step (U' := (T8.setTop (mkF m 10 #[.val (.int p1)] [(.int (own_ce p1))]))) (fun t ht => st8 _ ht) ?_
  refine own_step (U' := (T8.setTop (mkF m 13 #[.val (.int p1)] []))) (fun t ht => XS.ifNo X8.here hx rfl (hb hby own_d4_10) rfl (XT.i0_eq_f ((by simp [own_ce, hp1]) : ¬ ((own_ce p1) = 0))) ht) ?_
  obtain ⟨T9, h9, X9, e9, E9, A9, D9, -, st9⟩ := newO X8 hx hZ hown (hw _ (List.mem_of_getElem? (i := 33) rfl)) (hw _ (List.mem_of_getElem? (i := 34) rfl)) (hw _ (List.mem_of_getElem? (i := 26) rfl)) e8 (g := (mkF m 13 #[.val (.int p1)] [])) rfl (hb hby own_d4_13) (by decide) (by decide)
  obtain ⟨b9, g9⟩ : ∃ z, z = (h0).size := ⟨_, rfl⟩
  rw [← g9] at A9 D9 st9
  have g_b9 : n0 ≤ b9 := Nat.le_trans (Nat.le_trans Z0 K0.1) (Nat.le_of_eq g9.symm)
  have sz_b9 : h0.size ≤ b9 := Nat.le_trans K0.1 (Nat.le_of_eq g9.symm)
  have f9_0 : Sta Z h9 "java/lang/String" "COMPACT_STRINGS" "Z" (.int cz) := S_cz.ext E9
  have K9 : Keep h0 h9 [] := K0.ext E9
  have F9_45 : Fld Z h9 b9 "java/lang/String" "value" "[B" .null := D9 (Or.inr (hw _ (List.mem_of_getElem? (i := 45) rfl))) (ty := (.array .byte)) (by decide)
  have F9_47 : Fld Z h9 b9 "java/lang/String" "coder" "B" (.int (0 : Int32)) := D9 (Or.inr (hw _ (List.mem_of_getElem? (i := 47) rfl))) (ty := .byte) (by decide)
  refine own_step (U' := (T9.setTop (mkF m 16 #[.val (.int p1)] [(.ref b9)]))) (fun t ht => st9 _ ht) ?_
  refine own_step (U' := (T9.setTop (mkF m 17 #[.val (.int p1)] [(.ref b9), (.ref b9)]))) (fun t ht => XS.dup X9.here hx rfl (hb hby own_d4_16) rfl rfl ht) ?_
  refine own_step (U' := (T9.setTop (mkF m 18 #[.val (.int p1)] [(.int p1), (.ref b9), (.ref b9)]))) (fun t ht => XS.iloadN X9.here hx rfl (hb hby own_d4_17) rfl ht) ?_
  obtain ⟨_, _, ⟨T10, L10, k10, n10⟩, -, X10, ⟨Lc10, hQ10, l10, y10, z10⟩, st10⟩ := Jvm.LawKit.callS X9 hx (y := (⟨"java/lang/StringLatin1", "toBytes", "(C)[B"⟩ : MethodName)) hown (mvT hZ (hw _ (List.mem_of_getElem? (i := 35) rfl))) (mvT hZ (hw _ (List.mem_of_getElem? (i := 36) rfl))) (mvT hZ (hw _ (List.mem_of_getElem? (i := 31) rfl))) (mvT hZ (hw _ (List.mem_of_getElem? (i := 37) rfl))) (by decide) (backOf (W := 2) (own_m_tob l Z a0 hw [] (p1) h9 n0 (Nat.le_trans Z0 K9.1) ) hZ (hw _ (List.mem_of_getElem? (i := 37) rfl)) (hw _ (List.mem_of_getElem? (i := 31) rfl)) (by decide) (by decide)) (g := (mkF m 18 #[.val (.int p1)] [(.int p1), (.ref b9), (.ref b9)])) rfl (by rw [hml]; rfl) (argsL := [(.int p1)]) (rest := [(.ref b9), (.ref b9)]) (lenOf own_pd1 rfl) rfl (by show 2 * 0 + _ ≤ _; exact Nat.le_of_eq rfl) (hb hby own_d4_18) (fun _ _ => ⟨rfl, e9, (by decide : 1 + 1 ≤ _), (by decide : 4 + 1 ≤ _)⟩)
  dsimp only [Pt.U, Pt.locs, Pt.cells, Pt.slots] at X10 l10 y10 z10 st10 hQ10
  subst l10 y10 z10
  obtain ⟨r_10, rfl, Nq10, Kq10, sq_r_10⟩ := hQ10
  have N10 := Fr.app N8 Nq10
  have ne_b9_r_10 : b9 ≠ r_10 := Nat.ne_of_lt (Nat.lt_of_lt_of_le A9.lt sq_r_10)
  have g_r_10 : n0 ≤ r_10 := Nat.le_trans (Nat.le_trans Z0 K9.1) sq_r_10
  have sz_r_10 : h0.size ≤ r_10 := Nat.le_trans K9.1 sq_r_10
  have f10_0 : Sta Z T10.heap "java/lang/String" "COMPACT_STRINGS" "Z" (.int cz) := own_sta_keep f9_0 Kq10 own_pl0
  have f10_1 : Exa Z T10.heap b9 "java/lang/String" := A9.keep Kq10
  have f10_2 : Fld Z T10.heap b9 "java/lang/String" "value" "[B" .null := F9_45.keep Kq10 nin0
  have f10_3 : Fld Z T10.heap b9 "java/lang/String" "coder" "B" (.int (0 : Int32)) := F9_47.keep Kq10 nin0
  have K10 : Keep h0 T10.heap [] := K9.trans Kq10 all0
  refine own_step (U' := (T10.setTop (mkF m 21 #[.val (.int p1)] [(.ref r_10), (.ref b9), (.ref b9)]))) (fun t ht => st10 _ ht) ?_
  refine own_step (U' := (T10.setTop (mkF m 22 #[.val (.int p1)] [(.int (0 : Int32)), (.ref r_10), (.ref b9), (.ref b9)]))) (fun t ht => XS.iconst X10.here hx rfl (hb hby own_d4_21) ht) ?_
  obtain ⟨_, _, ⟨T11, L11, k11, n11⟩, -, X11, ⟨Lc11, hQ11, l11, y11, z11⟩, st11⟩ := X10.specialBack hx (y := (⟨"java/lang/String", "<init>", "([BB)V"⟩ : MethodName)) rfl hown (mvT hZ (hw _ (List.mem_of_getElem? (i := 39) rfl))) (mvT hZ (hw _ (List.mem_of_getElem? (i := 40) rfl))) (mvT hZ (hw _ (List.mem_of_getElem? (i := 42) rfl))) (by decide) (backOf (W := 1) (own_m_sin l Z a0 hw [] (b9) (r_10) ((0 : Int32)) (.null) ((.int (0 : Int32))) T10.heap n0 (Nat.le_trans Z0 K10.1) g_b9 f10_2 f10_3 f10_1) hZ (hw _ (List.mem_of_getElem? (i := 42) rfl)) (hw _ (List.mem_of_getElem? (i := 26) rfl)) (by decide) (by decide)) (g := (mkF m 22 #[.val (.int p1)] [(.int (0 : Int32)), (.ref r_10), (.ref b9), (.ref b9)])) rfl (by rw [hml]; rfl) (Steps.refl _) (a := b9) (argsL := [(.ref r_10), (.int (0 : Int32))]) (rest := [(.ref b9)]) (lenOf own_pd2 rfl) rfl (by show 2 * 0 + _ ≤ _; exact Nat.le_of_eq rfl) (hb hby own_d4_22) (fun _ _ => ⟨rfl, rfl, (by decide : 2 + 0 ≤ _), (by decide : 5 + 0 ≤ _)⟩)
  dsimp only [Pt.U, Pt.locs, Pt.cells, Pt.slots] at X11 l11 y11 z11 st11 hQ11
  subst l11 y11 z11
  obtain ⟨rfl, Nq11, Kq11, Fq11_0, Fq11_1⟩ := hQ11
  have N11 := Fr.app N10 Nq11
  have f11_0 : Sta Z T11.heap "java/lang/String" "COMPACT_STRINGS" "Z" (.int cz) := own_sta_keep f10_0 Kq11 (own_plE f10_1 own_pl0)
  have f11_1 : Exa Z T11.heap b9 "java/lang/String" := f10_1.keep Kq11
  have K11 : Keep h0 T11.heap [] := K10.trans Kq11 (allS (Or.inr sz_b9) all0)
  refine own_step (U' := (T11.setTop (mkF m 25 #[.val (.int p1)] [(.ref b9)]))) (fun t ht => st11.trans ht) ?_
  refine own_ret X11 (v := (some (.ref b9))) (fun h => by rw [Bd.returns] at h; cases h) Bd.notSynchronized (by decide) (by decide) ?_ (fun fs hr => retOut X11 hx Bd.returns (own_narR rfl) (Or.inr (Or.inr (Or.inr (Or.inr ⟨rfl, rfl, rfl⟩)))) (hb hby own_d4_25) hr)
  show own_Q_vof Z p1 cz h0 n0 _ T11.heap _
  show own_Q_vof Z p1 cz h0 n0 _ T11.heap _
  exact ⟨b9, rfl, N11, K11, sz_b9, Fq11_1⟩
def own_Key (Z : State) (h : Heap) (u : Value) : Prop := u = .null ∨ ∃ y, u = .ref y ∧ Exa Z h y "java/lang/String"
theorem own_Key.isRef {Z : State} {h : Heap} {u : Value} (F : own_Key Z h u) : u.isRef = true := by rcases F with rfl | ⟨y, rfl, -⟩ <;> rfl
theorem own_Key.ext {Z : State} {h h' : Heap} {u : Value} (F : own_Key Z h u) (E : Ext h h') : own_Key Z h' u := F.imp id fun ⟨y, e, q⟩ => ⟨y, e, q.ext E⟩
theorem own_Key.wr {Z : State} {h h' : Heap} {u v : Value} {a : Addr} {sl : Nat} (F : own_Key Z h u) (W : Wr h h' a sl v) : own_Key Z h' u := F.imp id fun ⟨y, e, q⟩ => ⟨y, e, q.wr W⟩
theorem own_Key.keep {Z : State} {h h' : Heap} {u : Value} {ws : List Addr} (F : own_Key Z h u) (K : Keep h h' ws) : own_Key Z h' u := F.imp id fun ⟨y, e, q⟩ => ⟨y, e, q.keep K⟩
theorem own_Key.sto {Z : State} {h : Heap} {u : Value} {a : Addr} {c : Cell} {ty : FieldType} {k : ClassId} (F : own_Key Z h u) (A : Arr Z h a c ty) (q : c.cls = k) (O : Ovr Z k "java/lang/String") : Sto Z h a u := by
  rcases F with rfl | ⟨y, rfl, E⟩
  · exact Or.inl rfl
  · exact Sto.ofV A q O (Ins.self E)
def own_ie (z : Int64) : Int32 := if z = 0 then 1 else 0
theorem own_mvRef {Z s : State} {a0 args : Array Value} {own : String} {index : Nat} {y : MethodName} {m : MethodId} (hZ : Z.Warmed39 s.vm) (hn : Z.methodNamed? y = some m) (hy : y.cls ≠ "java/lang/invoke/MethodHandle" ∧ y.cls ≠ "java/lang/invoke/VarHandle") (h : (Cond.methodRef own index y).before a0 Z = true) : (Cond.methodRef own index y).before args s = true := by
  have h1 : (Cond.methodRef own index y).before a0 (Z.setVm s.vm) = true := Cond.methodRef_warmed39 hZ hn hy h
  exact h1
theorem own_initRef {tb : Tables} [Ours tb] {e : Env} {below : List Frame} {U : State} {mm : MethodId} {cc : Code} (h : At U mm cc below) (hexec : tb.exec = Jvm.exec)
    {own : String} (hown : U.vm.findClass own = some mm.cls) {idx : Nat} {t : MethodName} (ht1 : t.name = "<init>") (hnot : t.cls ≠ "java/lang/invoke/MethodHandle" ∧ t.cls ≠ "java/lang/invoke/VarHandle") {args : Array Value} {bytes : ByteArray} {maxL : Nat}
    (hlink : (Cond.methodRef own idx t).before args U = true) (hinst : (Cond.instanceMethod t).before args U = true) (hcode : (Cond.code t bytes maxL none).before args U = true)
    {f : JFrame} (hf : f.method = mm) {a : Addr} {argsL rest : List Value} (hlen : ∀ sig, parseMethodDescriptor t.desc = some sig → argsL.length = sig.parameters.length) (hstack : f.stack = argsL.reverse ++ .ref a :: rest) (hd : decode cc.code f.pc = .ok (.invokespecial idx, 3)) :
    ∃ tm, U.methodNamed? t = some tm ∧
      ∀ target, (∀ acts, Steps tb e below (doInvoke e (U.setTop { f with stack := rest }) acts tm (.ref a :: argsL).toArray).1 target) → Steps tb e below (U.setTop f) target := by
  subst hf
  obtain ⟨obj, methO, hnO, hmO, hstO, habO⟩ := Cond.instanceMethod_spec hinst
  obtain ⟨methO', cO, hmO', hcO, hbO, hlO, -, hlockO, -, hsigO⟩ := Cond.code_spec hnO hcode
  cases hmO.symm.trans hmO'
  obtain ⟨kO, hkO, hnameO⟩ := className_of_methodNamed hnO
  obtain ⟨hnameMO, hdescO⟩ := name_of_methodNamed hnO hmO
  obtain ⟨m, c', hm, hready, hfind, hnr⟩ := Cond.methodRef_named e hown hlink
  cases hm.symm.trans (State.methodFound?_of_named hnO hnot)
  cases hfind.symm.trans (findClass_of_methodNamed hnO)
  refine ⟨obj, hnO, fun target hrest => ?_⟩
  jvm_step h [hexec, hd, invokespecial.wp_init (e := e) (s := U) (k := kO) (meth := methO) (m := obj) (a := a) (args := argsL) (rest := rest) (f := f) h.top hnr hready hkO hmO (by rw [hnameMO]; exact ht1) hstO habO (by rw [hdescO, ← ht1]; exact lookupSpecial_of_named hnO hmO hstO) (hlen _ hsigO) hstack]
  exact hrest
theorem own_specialRef {p : Program} {l : Launch} {e : Env} {R : Room} {s : State} {m : MethodId} {args : Array Value} {below : List Frame} {meth : Method} {c : Code} {T : State} {locs : List Loc} {cells slots : Nat} {Z : State} {a0 : Array Value} (X : Stand p l e R s m args below meth c T locs cells slots) (hexec : p.tables.exec = Jvm.exec) (hZ : Z.Warmed39 s.vm) {own : String} {index : Nat} {y : MethodName} (hy1 : y.name = "<init>")
    (hown : s.vm.findClass own = some m.cls) (hlink : (Cond.methodRef own index y).before a0 Z = true) (hinst : (Cond.instanceMethod y).before a0 Z = true)
    {bytes : ByteArray} {maxL : Nat} (hcode : (Cond.code y bytes maxL none).before a0 Z = true)
    (hy : y.cls ≠ "java/lang/invoke/MethodHandle" ∧ y.cls ≠ "java/lang/invoke/VarHandle")
    {W : Nat} {Pre : Pt → Array Value → Prop} {Post : Pt → Array Value → Option Value → Pt → Prop} (hK : Back l R p e below s args y 3 W Pre Post)
    {g : JFrame} (hg : g.method = m) (hsize : g.locals.size = c.maxLocals) {a : Addr} {argsL rest : List Value}
    (hlen : ∀ sig, parseMethodDescriptor y.desc = some sig → argsL.length = sig.parameters.length) (hstack : g.stack = argsL.reverse ++ .ref a :: rest) (hW : 2 * g.monitorRoom + (rest.map fun v => v.category).sum ≤ W)
    (hdg : decode c.code g.pc = .ok (.invokespecial index, 3)) (hpre : ∀ vm₁, s.WarmedH vm₁ → Pre ⟨T.setVm vm₁, locs, cells, slots⟩ (.ref a :: argsL).toArray) :
    ∃ (v : Option Value) (vm₁ : Vm) (B : Pt), s.WarmedH vm₁ ∧ Stand p l e R s m args below meth c B.U B.locs B.cells B.slots ∧ Post ⟨T.setVm vm₁, locs, cells, slots⟩ (.ref a :: argsL).toArray v B ∧
      Steps p.tables e below (T.setTop g) (B.U.setTop { g with pc := g.pc + 3, stack := v.toList ++ rest }) := by
  have hT : Z.Warmed39 T.vm := wtrans hZ X.warmed
  obtain ⟨m0, _, hn0, -⟩ := Cond.instanceMethod_spec hinst
  obtain ⟨mk, hnamed, hstep⟩ := own_initRef (e := e) X.here hexec (by rw [X.warmed.alike.findClass]; exact hown) hy1 hy (own_mvRef (args := args) hT hn0 hy hlink) (mv hT hinst) (mv hT hcode) (f := g) hg hlen hstack hdg
  obtain ⟨v, B, X', hpost, hsteps⟩ := hK m meth c ⟨T.setVm T.vm, locs, cells, slots⟩ { g with stack := rest } (.invokespecial index) mk (Value.ref a :: argsL).toArray X hg hsize hdg hW hnamed (hpre T.vm X.warmed)
  exact ⟨v, T.vm, B, X.warmed, X', hpost, (hstep _ fun acts => by rw [doInvoke_state]; exact Steps.refl _).trans hsteps⟩
theorem own_pn2 : plainName "com/example/call_throttle/callthrottle/KeyQueue$Chunk" = true := by first | (simp [plainName, overriddenIn]; done) | decide +kernel
theorem own_d3_0 : decode prog_13_method_1_code 0 = .ok (.aload_n 0, 1) := by decide +kernel
theorem own_d3_1 : decode prog_13_method_1_code 1 = .ok (.invokespecial 3, 3) := by decide +kernel
theorem own_d3_4 : decode prog_13_method_1_code 4 = .ok (.aload_n 0, 1) := by decide +kernel
theorem own_d3_5 : decode prog_13_method_1_code 5 = .ok (.sipush 1024, 3) := by decide +kernel
theorem own_d3_8 : decode prog_13_method_1_code 8 = .ok (.anewarray 9, 3) := by decide +kernel
theorem own_d3_11 : decode prog_13_method_1_code 11 = .ok (.putfield 11, 3) := by decide +kernel
theorem own_d3_14 : decode prog_13_method_1_code 14 = .ok (.return_, 1) := by decide +kernel
def own_Q_chi (Z : State) (c1 : Addr) (u1 : Value) (h0 : Heap) (n0 : Nat) (v : Option Value) (h : Heap) (L : List Loc) : Prop := ∃ (r1 : Addr) (kA : ClassId), v = none ∧ Fr n0 L ∧ Keep h0 h [c1] ∧ h0.size ≤ r1 ∧ c1 ≠ r1 ∧ Ovr Z kA "java/lang/String" ∧ (Fld Z h c1 "com/example/call_throttle/callthrottle/KeyQueue$Chunk" "keys" "[Ljava/lang/String;" (.ref r1)) ∧ (Exa Z h c1 "com/example/call_throttle/callthrottle/KeyQueue$Chunk") ∧ (Arv Z h r1 kA (.object "java/lang/String") (1024 : Int32) [.null, .null, .null, .null] .null)
set_option maxRecDepth 65536 in
set_option maxHeartbeats 40000000 in
theorem own_m_chi (l : Launch) (Z : State) (a0 : Array Value) (hw : ∀ d ∈ tables_1, d.before a0 Z = true) (ws : List Jvm.Cond) (c1 : Addr) (u1 : Value) (h0 : Heap) (n0 : Nat) (Z0 : n0 ≤ h0.size) (g_c1 : n0 ≤ c1) (Fk : Fld Z h0 c1 "com/example/call_throttle/callthrottle/KeyQueue$Chunk" "keys" "[Ljava/lang/String;" u1) (E2 : Exa Z h0 c1 "com/example/call_throttle/callthrottle/KeyQueue$Chunk") :
    MetFree l (⟨"com/example/call_throttle/callthrottle/KeyQueue$Chunk", "<init>", "()V"⟩ : MethodName) (head1 (Jvm.Cond.code (⟨"com/example/call_throttle/callthrottle/KeyQueue$Chunk", "<init>", "()V"⟩ : MethodName) prog_13_method_1_code 1 none :: ws) ({ frames := 1, cells := 1, slots := 1024, locals := 12 } : Room)) (fun a U => a = #[(.ref c1)] ∧ Z.Warmed39 U.vm ∧ U.heap = h0) (fun _ _ _ _ _ => True) (fun _ U o U' => ∃ v L, o = .returned v ∧ own_Q_chi Z c1 u1 h0 n0 v U'.heap L ∧ FrameEnd U o U' L ({ frames := 1, cells := 1, slots := 1024, locals := 12 } : Room).cells ({ frames := 1, cells := 1, slots := 1024, locals := 12 } : Room).slots) := by
  refine MetFree.of_bodySF (plainFor_of_name own_pn2) hisR ?_
  intro p e s m args below meth c s₁ Bd hml0 hP hK
  obtain ⟨rfl, hZ, hh⟩ := hP
  have hx := Bd.exec
  have hby := Bd.bytes
  have hml : c.maxLocals = 1 := hml0
  have hown : s.vm.findClass "com/example/call_throttle/callthrottle/KeyQueue$Chunk" = some m.cls := findClass_of_methodNamed Bd.named
  have hnm := (name_of_methodNamed Bd.named Bd.method).1
  have X0 : Stand p l e ({ frames := 1, cells := 1, slots := 1024, locals := 12 } : Room) s m #[(.ref c1)] below meth c s₁ [] 0 0 := Stand.of_body Bd
  have e0 : s₁.heap = h0 := by rw [← hh, Bd.state]; rfl
  have N0 := Fr.nil n0
  have K0 : Keep h0 h0 [c1] := Keep.refl _ _
  show own_Go p e below s ({ frames := 1, cells := 1, slots := 1024, locals := 12 } : Room).cells ({ frames := 1, cells := 1, slots := 1024, locals := 12 } : Room).slots (own_Q_chi Z c1 u1 h0 n0) (s₁.setTop (entryFrame m #[(.ref c1)] 1))
  have ef : entryFrame m #[(.ref c1)] 1 = (mkF m 0 #[.val (.ref c1)] []) := by first | rfl | (simp [entryFrame, mkF, argsToLocals, Value.category, maxLocals]; done)
  rw [ef]
  show own_Go p e below s _ _ _ (s₁.setTop (mkF m 0 #[.val (.ref c1)] []))
  refine own_step (U' := (s₁.setTop (mkF m 1 #[.val (.ref c1)] [(.ref c1)]))) (fun t ht => XS.aloadN X0.here hx rfl (hb hby own_d3_0) rfl rfl ht) ?_
  obtain ⟨T12, X12, e12, st12⟩ := initO X0 hx hZ hown (hw _ (List.mem_of_getElem? (i := 15) rfl)) (hw _ (List.mem_of_getElem? (i := 7) rfl)) (hw _ (List.mem_of_getElem? (i := 8) rfl)) e0 (g := (mkF m 1 #[.val (.ref c1)] [(.ref c1)])) rfl (by rw [hml]; rfl) rfl (hb hby own_d3_1) (by decide) (W := 0) (by show 2 * 0 + _ ≤ _; exact Nat.le_of_eq rfl) (by decide)
  refine own_step (U' := (T12.setTop (mkF m 4 #[.val (.ref c1)] []))) (fun t ht => st12 _ ht) ?_
  refine own_step (U' := (T12.setTop (mkF m 5 #[.val (.ref c1)] [(.ref c1)]))) (fun t ht => XS.aloadN X12.here hx rfl (hb hby own_d3_4) rfl rfl ht) ?_
  refine own_step (U' := (T12.setTop (mkF m 8 #[.val (.ref c1)] [(.int (1024 : Int32)), (.ref c1)]))) (fun t ht => XS.sipush X12.here hx rfl (hb hby own_d3_5) ht) ?_
  obtain ⟨T13, h13, k13, X13, e13, E13, A13, O13, st13⟩ := newR X12 hx hZ hown (hw _ (List.mem_of_getElem? (i := 16) rfl)) (hw _ (List.mem_of_getElem? (i := 17) rfl)) e12 (g := (mkF m 8 #[.val (.ref c1)] [(.int (1024 : Int32)), (.ref c1)])) rfl (hb hby own_d3_8) rfl (by decide) (cap := 1024) (by decide) (by decide) (by decide) (by decide)
  obtain ⟨b13, g13⟩ : ∃ z, z = (h0).size := ⟨_, rfl⟩
  rw [← g13] at A13 st13
  have ne_c1_b13 : c1 ≠ b13 := Nat.ne_of_lt (Nat.lt_of_lt_of_le Fk.lt (Nat.le_of_eq g13.symm))
  have g_b13 : n0 ≤ b13 := Nat.le_trans (Nat.le_trans Z0 K0.1) (Nat.le_of_eq g13.symm)
  have sz_b13 : h0.size ≤ b13 := Nat.le_trans K0.1 (Nat.le_of_eq g13.symm)
  have f13_0 : Fld Z h13 c1 "com/example/call_throttle/callthrottle/KeyQueue$Chunk" "keys" "[Ljava/lang/String;" u1 := Fk.ext E13
  have f13_1 : Exa Z h13 c1 "com/example/call_throttle/callthrottle/KeyQueue$Chunk" := E2.ext E13
  have K13 : Keep h0 h13 [c1] := K0.ext E13
  have V13 : Arv Z h13 b13 k13 (.object "java/lang/String") (1024 : Int32) [.null, .null, .null, .null] .null := (Arv.new A13 (by decide)).pad (pad_rep [] .null 4)
  refine own_step (U' := (T13.setTop (mkF m 11 #[.val (.ref c1)] [(.ref b13), (.ref c1)]))) (fun t ht => st13 _ ht) ?_
  obtain ⟨T14, h14, X14, e14, W14, st14⟩ := putF X13 hx hZ hown (host := "") (Or.inl (hw _ (List.mem_of_getElem? (i := 18) rfl))) Via.refl e13 f13_0 f13_1 (Or.inr ⟨(hw _ (List.mem_of_getElem? (i := 19) rfl)), rfl, hnm⟩) (hw _ (List.mem_of_getElem? (i := 10) rfl)) (ty := (.array (.object "java/lang/String"))) (by decide) rfl rfl (g := (mkF m 11 #[.val (.ref c1)] [(.ref b13), (.ref c1)])) rfl rfl (hb hby own_d3_11)
  have f14_1 : Exa Z h14 c1 "com/example/call_throttle/callthrottle/KeyQueue$Chunk" := f13_1.wr W14
  have f14_2 : Arv Z h14 b13 k13 (.object "java/lang/String") (1024 : Int32) [.null, .null, .null, .null] .null := V13.other W14 (Ne.symm ne_c1_b13)
  have F14 := f13_0.same W14
  have N14 := Fr.snoc X14 N0 g_c1
  have K14 : Keep h0 h14 [c1] := K13.wr W14 (Or.inl (by simp))
  refine own_step (U' := (T14.setTop (mkF m 14 #[.val (.ref c1)] []))) (fun t ht => st14 _ ht) ?_
  refine own_ret X14 (v := none) (fun _ => rfl) Bd.notSynchronized (by decide) (by decide) ?_ (fun fs hr => X14.returnOut hx Bd.returns (hb hby own_d3_14) hr)
  show own_Q_chi Z c1 u1 h0 n0 _ T14.heap _
  rw [e14]
  exact ⟨b13, k13, rfl, N14, K14, sz_b13, ne_c1_b13, O13, F14, f14_1, f14_2⟩
theorem own_pn3 : plainName "com/example/call_throttle/callthrottle/KeyQueue" = true := by first | (simp [plainName, overriddenIn]; done) | decide +kernel
theorem own_pd3 : parseMethodDescriptor "()V" = some ⟨[], none⟩ := by decide +kernel
theorem own_d1_0 : decode prog_12_method_1_code 0 = .ok (.aload_n 0, 1) := by decide +kernel
theorem own_d1_1 : decode prog_12_method_1_code 1 = .ok (.invokespecial 1, 3) := by decide +kernel
theorem own_d1_4 : decode prog_12_method_1_code 4 = .ok (.aload_n 0, 1) := by decide +kernel
theorem own_d1_5 : decode prog_12_method_1_code 5 = .ok (.new 7, 3) := by decide +kernel
theorem own_d1_8 : decode prog_12_method_1_code 8 = .ok (.dup, 1) := by decide +kernel
theorem own_d1_9 : decode prog_12_method_1_code 9 = .ok (.invokespecial 9, 3) := by decide +kernel
theorem own_d1_12 : decode prog_12_method_1_code 12 = .ok (.putfield 10, 3) := by decide +kernel
theorem own_d1_15 : decode prog_12_method_1_code 15 = .ok (.aload_n 0, 1) := by decide +kernel
theorem own_d1_16 : decode prog_12_method_1_code 16 = .ok (.aload_n 0, 1) := by decide +kernel
theorem own_d1_17 : decode prog_12_method_1_code 17 = .ok (.getfield 10, 3) := by decide +kernel
theorem own_d1_20 : decode prog_12_method_1_code 20 = .ok (.putfield 16, 3) := by decide +kernel
theorem own_d1_23 : decode prog_12_method_1_code 23 = .ok (.return_, 1) := by decide +kernel
def own_Q_kqi (Z : State) (a1 : Addr) (u1 : Value) (u2 : Value) (fi : Int32) (li : Int32) (sz : Int64) (h0 : Heap) (n0 : Nat) (v : Option Value) (h : Heap) (L : List Loc) : Prop := ∃ (c1 : Addr) (r1 : Addr) (kA : ClassId), v = none ∧ Fr n0 L ∧ Keep h0 h [a1] ∧ h0.size ≤ c1 ∧ h0.size ≤ r1 ∧ a1 ≠ r1 ∧ c1 ≠ r1 ∧ Ovr Z kA "java/lang/String" ∧ (Fld Z h a1 "com/example/call_throttle/callthrottle/KeyQueue" "first" "Lcom/example/call_throttle/callthrottle/KeyQueue$Chunk;" (.ref c1)) ∧ (Fld Z h a1 "com/example/call_throttle/callthrottle/KeyQueue" "last" "Lcom/example/call_throttle/callthrottle/KeyQueue$Chunk;" (.ref c1)) ∧ (Fld Z h a1 "com/example/call_throttle/callthrottle/KeyQueue" "firstIndex" "I" (.int fi)) ∧ (Fld Z h a1 "com/example/call_throttle/callthrottle/KeyQueue" "lastIndex" "I" (.int li)) ∧ (Fld Z h a1 "com/example/call_throttle/callthrottle/KeyQueue" "size" "J" (.long sz)) ∧ (Exa Z h a1 "com/example/call_throttle/callthrottle/KeyQueue") ∧ (Fld Z h c1 "com/example/call_throttle/callthrottle/KeyQueue$Chunk" "keys" "[Ljava/lang/String;" (.ref r1)) ∧ (Exa Z h c1 "com/example/call_throttle/callthrottle/KeyQueue$Chunk") ∧ (Arv Z h r1 kA (.object "java/lang/String") (1024 : Int32) [.null, .null, .null, .null] .null)
set_option maxRecDepth 65536 in
set_option maxHeartbeats 40000000 in
theorem own_m_kqi (l : Launch) (Z : State) (a0 : Array Value) (hw : ∀ d ∈ tables_1, d.before a0 Z = true) (ws : List Jvm.Cond) (a1 : Addr) (u1 : Value) (u2 : Value) (fi : Int32) (li : Int32) (sz : Int64) (h0 : Heap) (n0 : Nat) (Z0 : n0 ≤ h0.size) (g_a1 : n0 ≤ a1) (Ff : Fld Z h0 a1 "com/example/call_throttle/callthrottle/KeyQueue" "first" "Lcom/example/call_throttle/callthrottle/KeyQueue$Chunk;" u1) (Fl : Fld Z h0 a1 "com/example/call_throttle/callthrottle/KeyQueue" "last" "Lcom/example/call_throttle/callthrottle/KeyQueue$Chunk;" u2) (Ffi : Fld Z h0 a1 "com/example/call_throttle/callthrottle/KeyQueue" "firstIndex" "I" (.int fi)) (Fli : Fld Z h0 a1 "com/example/call_throttle/callthrottle/KeyQueue" "lastIndex" "I" (.int li)) (Fsz : Fld Z h0 a1 "com/example/call_throttle/callthrottle/KeyQueue" "size" "J" (.long sz)) (E1 : Exa Z h0 a1 "com/example/call_throttle/callthrottle/KeyQueue") :
    MetFree l (⟨"com/example/call_throttle/callthrottle/KeyQueue", "<init>", "()V"⟩ : MethodName) (head1 (Jvm.Cond.code (⟨"com/example/call_throttle/callthrottle/KeyQueue", "<init>", "()V"⟩ : MethodName) prog_12_method_1_code 1 none :: ws) ({ frames := 2, cells := 2, slots := 1026, locals := 26 } : Room)) (fun a U => a = #[(.ref a1)] ∧ Z.Warmed39 U.vm ∧ U.heap = h0) (fun _ _ _ _ _ => True) (fun _ U o U' => ∃ v L, o = .returned v ∧ own_Q_kqi Z a1 u1 u2 fi li sz h0 n0 v U'.heap L ∧ FrameEnd U o U' L ({ frames := 2, cells := 2, slots := 1026, locals := 26 } : Room).cells ({ frames := 2, cells := 2, slots := 1026, locals := 26 } : Room).slots) := by
  refine MetFree.of_bodySF (plainFor_of_name own_pn3) hisR ?_
  intro p e s m args below meth c s₁ Bd hml0 hP hK
  obtain ⟨rfl, hZ, hh⟩ := hP
  have hx := Bd.exec
  have hby := Bd.bytes
  have hml : c.maxLocals = 1 := hml0
  have hown : s.vm.findClass "com/example/call_throttle/callthrottle/KeyQueue" = some m.cls := findClass_of_methodNamed Bd.named
  have hnm := (name_of_methodNamed Bd.named Bd.method).1
  have X0 : Stand p l e ({ frames := 2, cells := 2, slots := 1026, locals := 26 } : Room) s m #[(.ref a1)] below meth c s₁ [] 0 0 := Stand.of_body Bd
  have e0 : s₁.heap = h0 := by rw [← hh, Bd.state]; rfl
  have N0 := Fr.nil n0
  have K0 : Keep h0 h0 [a1] := Keep.refl _ _
  show own_Go p e below s ({ frames := 2, cells := 2, slots := 1026, locals := 26 } : Room).cells ({ frames := 2, cells := 2, slots := 1026, locals := 26 } : Room).slots (own_Q_kqi Z a1 u1 u2 fi li sz h0 n0) (s₁.setTop (entryFrame m #[(.ref a1)] 1))
  have ef : entryFrame m #[(.ref a1)] 1 = (mkF m 0 #[.val (.ref a1)] []) := by first | rfl | (simp [entryFrame, mkF, argsToLocals, Value.category, maxLocals]; done)
  rw [ef]
  show own_Go p e below s _ _ _ (s₁.setTop (mkF m 0 #[.val (.ref a1)] []))
  refine own_step (U' := (s₁.setTop (mkF m 1 #[.val (.ref a1)] [(.ref a1)]))) (fun t ht => XS.aloadN X0.here hx rfl (hb hby own_d1_0) rfl rfl ht) ?_
  obtain ⟨T15, X15, e15, st15⟩ := initO X0 hx hZ hown (hw _ (List.mem_of_getElem? (i := 6) rfl)) (hw _ (List.mem_of_getElem? (i := 7) rfl)) (hw _ (List.mem_of_getElem? (i := 8) rfl)) e0 (g := (mkF m 1 #[.val (.ref a1)] [(.ref a1)])) rfl (by rw [hml]; rfl) rfl (hb hby own_d1_1) (by decide) (W := 0) (by show 2 * 0 + _ ≤ _; exact Nat.le_of_eq rfl) (by decide)
  refine own_step (U' := (T15.setTop (mkF m 4 #[.val (.ref a1)] []))) (fun t ht => st15 _ ht) ?_
  refine own_step (U' := (T15.setTop (mkF m 5 #[.val (.ref a1)] [(.ref a1)]))) (fun t ht => XS.aloadN X15.here hx rfl (hb hby own_d1_4) rfl rfl ht) ?_
  obtain ⟨T16, h16, X16, e16, E16, A16, D16, -, st16⟩ := newO X15 hx hZ hown (hw _ (List.mem_of_getElem? (i := 9) rfl)) (hw _ (List.mem_of_getElem? (i := 10) rfl)) (hw _ (List.mem_of_getElem? (i := 11) rfl)) e15 (g := (mkF m 5 #[.val (.ref a1)] [(.ref a1)])) rfl (hb hby own_d1_5) (by decide) (by decide)
  obtain ⟨b16, g16⟩ : ∃ z, z = (h0).size := ⟨_, rfl⟩
  rw [← g16] at A16 D16 st16
  have ne_a1_b16 : a1 ≠ b16 := Nat.ne_of_lt (Nat.lt_of_lt_of_le Ff.lt (Nat.le_of_eq g16.symm))
  have g_b16 : n0 ≤ b16 := Nat.le_trans (Nat.le_trans Z0 K0.1) (Nat.le_of_eq g16.symm)
  have sz_b16 : h0.size ≤ b16 := Nat.le_trans K0.1 (Nat.le_of_eq g16.symm)
  have f16_0 : Fld Z h16 a1 "com/example/call_throttle/callthrottle/KeyQueue" "first" "Lcom/example/call_throttle/callthrottle/KeyQueue$Chunk;" u1 := Ff.ext E16
  have f16_1 : Fld Z h16 a1 "com/example/call_throttle/callthrottle/KeyQueue" "last" "Lcom/example/call_throttle/callthrottle/KeyQueue$Chunk;" u2 := Fl.ext E16
  have f16_2 : Fld Z h16 a1 "com/example/call_throttle/callthrottle/KeyQueue" "firstIndex" "I" (.int fi) := Ffi.ext E16
  have f16_3 : Fld Z h16 a1 "com/example/call_throttle/callthrottle/KeyQueue" "lastIndex" "I" (.int li) := Fli.ext E16
  have f16_4 : Fld Z h16 a1 "com/example/call_throttle/callthrottle/KeyQueue" "size" "J" (.long sz) := Fsz.ext E16
  have f16_5 : Exa Z h16 a1 "com/example/call_throttle/callthrottle/KeyQueue" := E1.ext E16
  have K16 : Keep h0 h16 [a1] := K0.ext E16
  have F16_19 : Fld Z h16 b16 "com/example/call_throttle/callthrottle/KeyQueue$Chunk" "keys" "[Ljava/lang/String;" .null := D16 (Or.inr (hw _ (List.mem_of_getElem? (i := 19) rfl))) (ty := (.array (.object "java/lang/String"))) (by decide)
  have F16_75 : Fld Z h16 b16 "com/example/call_throttle/callthrottle/KeyQueue$Chunk" "next" "Lcom/example/call_throttle/callthrottle/KeyQueue$Chunk;" .null := D16 (Or.inl (hw _ (List.mem_of_getElem? (i := 75) rfl))) (ty := (.object "com/example/call_throttle/callthrottle/KeyQueue$Chunk")) (by decide)
  refine own_step (U' := (T16.setTop (mkF m 8 #[.val (.ref a1)] [(.ref b16), (.ref a1)]))) (fun t ht => st16 _ ht) ?_
  refine own_step (U' := (T16.setTop (mkF m 9 #[.val (.ref a1)] [(.ref b16), (.ref b16), (.ref a1)]))) (fun t ht => XS.dup X16.here hx rfl (hb hby own_d1_8) rfl rfl ht) ?_
  obtain ⟨_, _, ⟨T17, L17, k17, n17⟩, -, X17, ⟨Lc17, hQ17, l17, y17, z17⟩, st17⟩ := own_specialRef X16 hx hZ (y := (⟨"com/example/call_throttle/callthrottle/KeyQueue$Chunk", "<init>", "()V"⟩ : MethodName)) rfl hown (hw _ (List.mem_of_getElem? (i := 12) rfl)) (hw _ (List.mem_of_getElem? (i := 13) rfl)) (hw _ (List.mem_of_getElem? (i := 14) rfl)) (by decide) (backOf (W := 2) (own_m_chi l Z a0 hw [] (b16) (.null) h16 n0 (Nat.le_trans Z0 K16.1) g_b16 F16_19 A16) hZ (hw _ (List.mem_of_getElem? (i := 14) rfl)) (hw _ (List.mem_of_getElem? (i := 11) rfl)) (by decide) (by decide)) (g := (mkF m 9 #[.val (.ref a1)] [(.ref b16), (.ref b16), (.ref a1)])) rfl (by rw [hml]; rfl) (a := b16) (argsL := []) (rest := [(.ref b16), (.ref a1)]) (lenOf own_pd3 rfl) rfl (by show 2 * 0 + _ ≤ _; exact Nat.le_of_eq rfl) (hb hby own_d1_9) (fun _ _ => ⟨rfl, e16, (by decide : 1 + 1 ≤ _), (by decide : 2 + 1024 ≤ _)⟩)
  dsimp only [Pt.U, Pt.locs, Pt.cells, Pt.slots] at X17 l17 y17 z17 st17 hQ17
  subst l17 y17 z17
  obtain ⟨r1_17, kA_17, rfl, Nq17, Kq17, sq_r1_17, p17_0, p17_1, Fq17_0, Fq17_1, Fq17_2⟩ := hQ17
  have N17 := Fr.app N0 Nq17
  have ne_a1_r1_17 : a1 ≠ r1_17 := Nat.ne_of_lt (Nat.lt_of_lt_of_le f16_0.lt sq_r1_17)
  have ne_b16_r1_17 : b16 ≠ r1_17 := Nat.ne_of_lt (Nat.lt_of_lt_of_le A16.lt sq_r1_17)
  have g_r1_17 : n0 ≤ r1_17 := Nat.le_trans (Nat.le_trans Z0 K16.1) sq_r1_17
  have sz_r1_17 : h0.size ≤ r1_17 := Nat.le_trans K16.1 sq_r1_17
  have f17_0 : Fld Z T17.heap a1 "com/example/call_throttle/callthrottle/KeyQueue" "first" "Lcom/example/call_throttle/callthrottle/KeyQueue$Chunk;" u1 := f16_0.keep Kq17 (ninS ne_a1_b16 nin0)
  have f17_1 : Fld Z T17.heap a1 "com/example/call_throttle/callthrottle/KeyQueue" "last" "Lcom/example/call_throttle/callthrottle/KeyQueue$Chunk;" u2 := f16_1.keep Kq17 (ninS ne_a1_b16 nin0)
  have f17_2 : Fld Z T17.heap a1 "com/example/call_throttle/callthrottle/KeyQueue" "firstIndex" "I" (.int fi) := f16_2.keep Kq17 (ninS ne_a1_b16 nin0)
  have f17_3 : Fld Z T17.heap a1 "com/example/call_throttle/callthrottle/KeyQueue" "lastIndex" "I" (.int li) := f16_3.keep Kq17 (ninS ne_a1_b16 nin0)
  have f17_4 : Fld Z T17.heap a1 "com/example/call_throttle/callthrottle/KeyQueue" "size" "J" (.long sz) := f16_4.keep Kq17 (ninS ne_a1_b16 nin0)
  have f17_5 : Exa Z T17.heap a1 "com/example/call_throttle/callthrottle/KeyQueue" := f16_5.keep Kq17
  have f17_6 : Exa Z T17.heap b16 "com/example/call_throttle/callthrottle/KeyQueue$Chunk" := A16.keep Kq17
  have K17 : Keep h0 T17.heap [a1] := K16.trans Kq17 (allS (Or.inr sz_b16) all0)
  refine own_step (U' := (T17.setTop (mkF m 12 #[.val (.ref a1)] [(.ref b16), (.ref a1)]))) (fun t ht => st17.trans ht) ?_
  obtain ⟨T18, h18, X18, e18, W18, st18⟩ := putF X17 hx hZ hown (host := "") (Or.inl (hw _ (List.mem_of_getElem? (i := 20) rfl))) Via.refl rfl f17_0 f17_5 (Or.inl (hw _ (List.mem_of_getElem? (i := 21) rfl))) (hw _ (List.mem_of_getElem? (i := 1) rfl)) (ty := (.object "com/example/call_throttle/callthrottle/KeyQueue$Chunk")) (by decide) rfl rfl (g := (mkF m 12 #[.val (.ref a1)] [(.ref b16), (.ref a1)])) rfl rfl (hb hby own_d1_12)
  have f18_1 : Fld Z h18 a1 "com/example/call_throttle/callthrottle/KeyQueue" "last" "Lcom/example/call_throttle/callthrottle/KeyQueue$Chunk;" u2 := f17_1.other W18 (Or.inr (slot_ne (Or.inl (hw _ (List.mem_of_getElem? (i := 23) rfl))) (Or.inl (hw _ (List.mem_of_getElem? (i := 21) rfl))) (by decide) (t := (.object "com/example/call_throttle/callthrottle/KeyQueue$Chunk")) (t' := (.object "com/example/call_throttle/callthrottle/KeyQueue$Chunk")) (by decide) (by decide)))
  have f18_2 : Fld Z h18 a1 "com/example/call_throttle/callthrottle/KeyQueue" "firstIndex" "I" (.int fi) := f17_2.other W18 (Or.inr (slot_ne (Or.inl (hw _ (List.mem_of_getElem? (i := 73) rfl))) (Or.inl (hw _ (List.mem_of_getElem? (i := 21) rfl))) (by decide) (t := .int) (t' := (.object "com/example/call_throttle/callthrottle/KeyQueue$Chunk")) (by decide) (by decide)))
  have f18_3 : Fld Z h18 a1 "com/example/call_throttle/callthrottle/KeyQueue" "lastIndex" "I" (.int li) := f17_3.other W18 (Or.inr (slot_ne (Or.inl (hw _ (List.mem_of_getElem? (i := 65) rfl))) (Or.inl (hw _ (List.mem_of_getElem? (i := 21) rfl))) (by decide) (t := .int) (t' := (.object "com/example/call_throttle/callthrottle/KeyQueue$Chunk")) (by decide) (by decide)))
  have f18_4 : Fld Z h18 a1 "com/example/call_throttle/callthrottle/KeyQueue" "size" "J" (.long sz) := f17_4.other W18 (Or.inr (slot_ne (Or.inl (hw _ (List.mem_of_getElem? (i := 54) rfl))) (Or.inl (hw _ (List.mem_of_getElem? (i := 21) rfl))) (by decide) (t := .long) (t' := (.object "com/example/call_throttle/callthrottle/KeyQueue$Chunk")) (by decide) (by decide)))
  have f18_5 : Exa Z h18 a1 "com/example/call_throttle/callthrottle/KeyQueue" := f17_5.wr W18
  have f18_6 : Fld Z h18 b16 "com/example/call_throttle/callthrottle/KeyQueue$Chunk" "keys" "[Ljava/lang/String;" (.ref r1_17) := Fq17_0.other W18 (Or.inl (Ne.symm ne_a1_b16))
  have f18_7 : Exa Z h18 b16 "com/example/call_throttle/callthrottle/KeyQueue$Chunk" := Fq17_1.wr W18
  have f18_8 : Arv Z h18 r1_17 kA_17 (.object "java/lang/String") (1024 : Int32) [.null, .null, .null, .null] .null := Fq17_2.other W18 (Ne.symm ne_a1_r1_17)
  have F18 := f17_0.same W18
  have N18 := Fr.snoc X18 N17 g_a1
  have K18 : Keep h0 h18 [a1] := K17.wr W18 (Or.inl (by simp))
  refine own_step (U' := (T18.setTop (mkF m 15 #[.val (.ref a1)] []))) (fun t ht => st18 _ ht) ?_
  refine own_step (U' := (T18.setTop (mkF m 16 #[.val (.ref a1)] [(.ref a1)]))) (fun t ht => XS.aloadN X18.here hx rfl (hb hby own_d1_15) rfl rfl ht) ?_
  refine own_step (U' := (T18.setTop (mkF m 17 #[.val (.ref a1)] [(.ref a1), (.ref a1)]))) (fun t ht => XS.aloadN X18.here hx rfl (hb hby own_d1_16) rfl rfl ht) ?_
  obtain ⟨T19, X19, e19, st19⟩ := getF X18 hx hZ hown (host := "") (Or.inl (hw _ (List.mem_of_getElem? (i := 20) rfl))) Via.refl e18 F18 (g := (mkF m 17 #[.val (.ref a1)] [(.ref a1), (.ref a1)])) rfl rfl (hb hby own_d1_17)
  refine own_step (U' := (T19.setTop (mkF m 20 #[.val (.ref a1)] [(.ref b16), (.ref a1)]))) (fun t ht => st19 _ ht) ?_
  obtain ⟨T20, h20, X20, e20, W20, st20⟩ := putF X19 hx hZ hown (host := "") (Or.inl (hw _ (List.mem_of_getElem? (i := 22) rfl))) Via.refl e19 f18_1 f18_5 (Or.inl (hw _ (List.mem_of_getElem? (i := 23) rfl))) (hw _ (List.mem_of_getElem? (i := 1) rfl)) (ty := (.object "com/example/call_throttle/callthrottle/KeyQueue$Chunk")) (by decide) rfl rfl (g := (mkF m 20 #[.val (.ref a1)] [(.ref b16), (.ref a1)])) rfl rfl (hb hby own_d1_20)
  have f20_1 : Fld Z h20 a1 "com/example/call_throttle/callthrottle/KeyQueue" "firstIndex" "I" (.int fi) := f18_2.other W20 (Or.inr (slot_ne (Or.inl (hw _ (List.mem_of_getElem? (i := 73) rfl))) (Or.inl (hw _ (List.mem_of_getElem? (i := 23) rfl))) (by decide) (t := .int) (t' := (.object "com/example/call_throttle/callthrottle/KeyQueue$Chunk")) (by decide) (by decide)))
  have f20_2 : Fld Z h20 a1 "com/example/call_throttle/callthrottle/KeyQueue" "lastIndex" "I" (.int li) := f18_3.other W20 (Or.inr (slot_ne (Or.inl (hw _ (List.mem_of_getElem? (i := 65) rfl))) (Or.inl (hw _ (List.mem_of_getElem? (i := 23) rfl))) (by decide) (t := .int) (t' := (.object "com/example/call_throttle/callthrottle/KeyQueue$Chunk")) (by decide) (by decide)))
  have f20_3 : Fld Z h20 a1 "com/example/call_throttle/callthrottle/KeyQueue" "size" "J" (.long sz) := f18_4.other W20 (Or.inr (slot_ne (Or.inl (hw _ (List.mem_of_getElem? (i := 54) rfl))) (Or.inl (hw _ (List.mem_of_getElem? (i := 23) rfl))) (by decide) (t := .long) (t' := (.object "com/example/call_throttle/callthrottle/KeyQueue$Chunk")) (by decide) (by decide)))
  have f20_4 : Exa Z h20 a1 "com/example/call_throttle/callthrottle/KeyQueue" := f18_5.wr W20
  have f20_5 : Fld Z h20 b16 "com/example/call_throttle/callthrottle/KeyQueue$Chunk" "keys" "[Ljava/lang/String;" (.ref r1_17) := f18_6.other W20 (Or.inl (Ne.symm ne_a1_b16))
  have f20_6 : Exa Z h20 b16 "com/example/call_throttle/callthrottle/KeyQueue$Chunk" := f18_7.wr W20
  have f20_7 : Arv Z h20 r1_17 kA_17 (.object "java/lang/String") (1024 : Int32) [.null, .null, .null, .null] .null := f18_8.other W20 (Ne.symm ne_a1_r1_17)
  have f20_8 : Fld Z h20 a1 "com/example/call_throttle/callthrottle/KeyQueue" "first" "Lcom/example/call_throttle/callthrottle/KeyQueue$Chunk;" (.ref b16) := F18.other W20 (Or.inr (slot_ne (Or.inl (hw _ (List.mem_of_getElem? (i := 21) rfl))) (Or.inl (hw _ (List.mem_of_getElem? (i := 23) rfl))) (by decide) (t := (.object "com/example/call_throttle/callthrottle/KeyQueue$Chunk")) (t' := (.object "com/example/call_throttle/callthrottle/KeyQueue$Chunk")) (by decide) (by decide)))
  have F20 := f18_1.same W20
  have N20 := Fr.snoc X20 N18 g_a1
  have K20 : Keep h0 h20 [a1] := K18.wr W20 (Or.inl (by simp))
  refine own_step (U' := (T20.setTop (mkF m 23 #[.val (.ref a1)] []))) (fun t ht => st20 _ ht) ?_
  refine own_ret X20 (v := none) (fun _ => rfl) Bd.notSynchronized (by decide) (by decide) ?_ (fun fs hr => X20.returnOut hx Bd.returns (hb hby own_d1_23) hr)
  show own_Q_kqi Z a1 u1 u2 fi li sz h0 n0 _ T20.heap _
  rw [e20]
  exact ⟨b16, r1_17, kA_17, rfl, N20, K20, sz_b16, sz_r1_17, ne_a1_r1_17, p17_0, p17_1, f20_8, F20, f20_1, f20_2, f20_3, f20_4, f20_5, f20_6, f20_7⟩
theorem own_d10_0 : decode prog_12_method_2_code 0 = .ok (.aload_n 0, 1) := by decide +kernel
theorem own_d10_1 : decode prog_12_method_2_code 1 = .ok (.getfield 19, 3) := by decide +kernel
theorem own_d10_4 : decode prog_12_method_2_code 4 = .ok (.sipush 1024, 3) := by decide +kernel
theorem own_d10_7 : decode prog_12_method_2_code 7 = .ok (.if_icmp .ne 29, 3) := by decide +kernel
theorem own_d10_36 : decode prog_12_method_2_code 36 = .ok (.aload_n 0, 1) := by decide +kernel
theorem own_d10_37 : decode prog_12_method_2_code 37 = .ok (.getfield 16, 3) := by decide +kernel
theorem own_d10_40 : decode prog_12_method_2_code 40 = .ok (.getfield 26, 3) := by decide +kernel
theorem own_d10_43 : decode prog_12_method_2_code 43 = .ok (.aload_n 0, 1) := by decide +kernel
theorem own_d10_44 : decode prog_12_method_2_code 44 = .ok (.dup, 1) := by decide +kernel
theorem own_d10_45 : decode prog_12_method_2_code 45 = .ok (.getfield 19, 3) := by decide +kernel
theorem own_d10_48 : decode prog_12_method_2_code 48 = .ok (.dup_x1, 1) := by decide +kernel
theorem own_d10_49 : decode prog_12_method_2_code 49 = .ok (.iconst 1, 1) := by decide +kernel
theorem own_d10_50 : decode prog_12_method_2_code 50 = .ok (.iadd, 1) := by decide +kernel
theorem own_d10_51 : decode prog_12_method_2_code 51 = .ok (.putfield 19, 3) := by decide +kernel
theorem own_d10_54 : decode prog_12_method_2_code 54 = .ok (.aload_n 1, 1) := by decide +kernel
theorem own_d10_55 : decode prog_12_method_2_code 55 = .ok (.aastore, 1) := by decide +kernel
theorem own_d10_56 : decode prog_12_method_2_code 56 = .ok (.aload_n 0, 1) := by decide +kernel
theorem own_d10_57 : decode prog_12_method_2_code 57 = .ok (.dup, 1) := by decide +kernel
theorem own_d10_58 : decode prog_12_method_2_code 58 = .ok (.getfield 30, 3) := by decide +kernel
theorem own_d10_61 : decode prog_12_method_2_code 61 = .ok (.lconst 1, 1) := by decide +kernel
theorem own_d10_62 : decode prog_12_method_2_code 62 = .ok (.ladd, 1) := by decide +kernel
theorem own_d10_63 : decode prog_12_method_2_code 63 = .ok (.putfield 30, 3) := by decide +kernel
theorem own_d10_66 : decode prog_12_method_2_code 66 = .ok (.return_, 1) := by decide +kernel
def own_Q_add (Z : State) (a1 : Addr) (c1 : Addr) (r1 : Addr) (kA : ClassId) (fi : Int32) (li : Int32) (sz : Int64) (vs : List Value) (s1 : Value) (i1 : Nat) (h0 : Heap) (n0 : Nat) (v : Option Value) (h : Heap) (L : List Loc) : Prop := v = none ∧ Fr n0 L ∧ Keep h0 h [a1, r1] ∧ (Fld Z h a1 "com/example/call_throttle/callthrottle/KeyQueue" "first" "Lcom/example/call_throttle/callthrottle/KeyQueue$Chunk;" (.ref c1)) ∧ (Fld Z h a1 "com/example/call_throttle/callthrottle/KeyQueue" "last" "Lcom/example/call_throttle/callthrottle/KeyQueue$Chunk;" (.ref c1)) ∧ (Fld Z h a1 "com/example/call_throttle/callthrottle/KeyQueue" "firstIndex" "I" (.int fi)) ∧ (Fld Z h a1 "com/example/call_throttle/callthrottle/KeyQueue" "lastIndex" "I" (.int (li + (1 : Int32)))) ∧ (Fld Z h a1 "com/example/call_throttle/callthrottle/KeyQueue" "size" "J" (.long (sz + (1 : Int64)))) ∧ (Exa Z h a1 "com/example/call_throttle/callthrottle/KeyQueue") ∧ (Fld Z h c1 "com/example/call_throttle/callthrottle/KeyQueue$Chunk" "keys" "[Ljava/lang/String;" (.ref r1)) ∧ (Exa Z h c1 "com/example/call_throttle/callthrottle/KeyQueue$Chunk") ∧ (Arv Z h r1 kA (.object "java/lang/String") (1024 : Int32) (vs.set i1 s1) .null)
set_option maxRecDepth 65536 in
set_option maxHeartbeats 40000000 in
theorem own_m_add (l : Launch) (Z : State) (a0 : Array Value) (hw : ∀ d ∈ tables_1, d.before a0 Z = true) (ws : List Jvm.Cond) (a1 : Addr) (c1 : Addr) (r1 : Addr) (kA : ClassId) (fi : Int32) (li : Int32) (sz : Int64) (vs : List Value) (s1 : Value) (i1 : Nat) (h0 : Heap) (n0 : Nat) (Z0 : n0 ≤ h0.size) (g_a1 : n0 ≤ a1) (g_r1 : n0 ≤ r1) (ne_a1_r1 : a1 ≠ r1) (ne_c1_r1 : c1 ≠ r1) (Ff : Fld Z h0 a1 "com/example/call_throttle/callthrottle/KeyQueue" "first" "Lcom/example/call_throttle/callthrottle/KeyQueue$Chunk;" (.ref c1)) (Fl : Fld Z h0 a1 "com/example/call_throttle/callthrottle/KeyQueue" "last" "Lcom/example/call_throttle/callthrottle/KeyQueue$Chunk;" (.ref c1)) (Ffi : Fld Z h0 a1 "com/example/call_throttle/callthrottle/KeyQueue" "firstIndex" "I" (.int fi)) (Fli : Fld Z h0 a1 "com/example/call_throttle/callthrottle/KeyQueue" "lastIndex" "I" (.int li)) (Fsz : Fld Z h0 a1 "com/example/call_throttle/callthrottle/KeyQueue" "size" "J" (.long sz)) (E1 : Exa Z h0 a1 "com/example/call_throttle/callthrottle/KeyQueue") (Fk : Fld Z h0 c1 "com/example/call_throttle/callthrottle/KeyQueue$Chunk" "keys" "[Ljava/lang/String;" (.ref r1)) (E2 : Exa Z h0 c1 "com/example/call_throttle/callthrottle/KeyQueue$Chunk") (V1 : Arv Z h0 r1 kA (.object "java/lang/String") (1024 : Int32) vs .null) (hs1 : own_Key Z h0 s1) (hov : Ovr Z kA "java/lang/String") (hl : ¬ li = 1024) (hb1 : ¬ li < 0) (hb2 : li < 1024) (hi : li.toNatClampNeg = i1) (hi2 : i1 < vs.length) :
    MetFree l (⟨"com/example/call_throttle/callthrottle/KeyQueue", "addLast", "(Ljava/lang/String;)V"⟩ : MethodName) (head1 (Jvm.Cond.code (⟨"com/example/call_throttle/callthrottle/KeyQueue", "addLast", "(Ljava/lang/String;)V"⟩ : MethodName) prog_12_method_2_code 3 none :: ws) ({ frames := 0, cells := 0, slots := 0, locals := 0 } : Room)) (fun a U => a = #[(.ref a1), s1] ∧ Z.Warmed39 U.vm ∧ U.heap = h0) (fun _ _ _ _ _ => True) (fun _ U o U' => ∃ v L, o = .returned v ∧ own_Q_add Z a1 c1 r1 kA fi li sz vs s1 i1 h0 n0 v U'.heap L ∧ FrameEnd U o U' L ({ frames := 0, cells := 0, slots := 0, locals := 0 } : Room).cells ({ frames := 0, cells := 0, slots := 0, locals := 0 } : Room).slots) := by
  refine MetFree.of_bodySF (plainFor_of_name own_pn3) hisR ?_
  intro p e s m args below meth c s₁ Bd hml0 hP hK
  obtain ⟨rfl, hZ, hh⟩ := hP
  have hx := Bd.exec
  have hby := Bd.bytes
  have hml : c.maxLocals = 3 := hml0
  have hown : s.vm.findClass "com/example/call_throttle/callthrottle/KeyQueue" = some m.cls := findClass_of_methodNamed Bd.named
  have hnm := (name_of_methodNamed Bd.named Bd.method).1
  have X0 : Stand p l e ({ frames := 0, cells := 0, slots := 0, locals := 0 } : Room) s m #[(.ref a1), s1] below meth c s₁ [] 0 0 := Stand.of_body Bd
  have e0 : s₁.heap = h0 := by rw [← hh, Bd.state]; rfl
  have N0 := Fr.nil n0
  have K0 : Keep h0 h0 [a1, r1] := Keep.refl _ _
  show own_Go p e below s ({ frames := 0, cells := 0, slots := 0, locals := 0 } : Room).cells ({ frames := 0, cells := 0, slots := 0, locals := 0 } : Room).slots (own_Q_add Z a1 c1 r1 kA fi li sz vs s1 i1 h0 n0) (s₁.setTop (entryFrame m #[(.ref a1), s1] 3))
  have ef : entryFrame m #[(.ref a1), s1] 3 = (mkF m 0 #[.val (.ref a1), .val s1, .unset] []) := by first | rfl | (rcases XT.refc (hs1.isRef) with rfl | ⟨_, rfl⟩ <;> rfl) | (simp [entryFrame, mkF, argsToLocals, Value.category, maxLocals]; done)
  rw [ef]
  show own_Go p e below s _ _ _ (s₁.setTop (mkF m 0 #[.val (.ref a1), .val s1, .unset] []))
  refine own_step (U' := (s₁.setTop (mkF m 1 #[.val (.ref a1), .val s1, .unset] [(.ref a1)]))) (fun t ht => XS.aloadN X0.here hx rfl (hb hby own_d10_0) rfl rfl ht) ?_
  obtain ⟨T21, X21, e21, st21⟩ := getF X0 hx hZ hown (host := "") (Or.inl (hw _ (List.mem_of_getElem? (i := 64) rfl))) Via.refl e0 Fli (g := (mkF m 1 #[.val (.ref a1), .val s1, .unset] [(.ref a1)])) rfl rfl (hb hby own_d10_1)
  refine own_step (U' := (T21.setTop (mkF m 4 #[.val (.ref a1), .val s1, .unset] [(.int li)]))) (fun t ht => st21 _ ht) ?_
  refine own_step (U' := (T21.setTop (mkF m 7 #[.val (.ref a1), .val s1, .unset] [(.int (1024 : Int32)), (.int li)]))) (fun t ht => XS.sipush X21.here hx rfl (hb hby own_d10_4) ht) ?_
  refine own_step (U' := (T21.setTop (mkF m 36 #[.val (.ref a1), .val s1, .unset] []))) (fun t ht => XS.icmpYes X21.here hx rfl (pc0 := 7) (pc' := 36) rfl (hb hby own_d10_7) rfl (XT.ii_ne_t (hl : ¬ (li = (1024 : Int32)))) (by decide) (by decide) ht) ?_
  refine own_step (U' := (T21.setTop (mkF m 37 #[.val (.ref a1), .val s1, .unset] [(.ref a1)]))) (fun t ht => XS.aloadN X21.here hx rfl (hb hby own_d10_36) rfl rfl ht) ?_
  obtain ⟨T22, X22, e22, st22⟩ := getF X21 hx hZ hown (host := "") (Or.inl (hw _ (List.mem_of_getElem? (i := 22) rfl))) Via.refl e21 Fl (g := (mkF m 37 #[.val (.ref a1), .val s1, .unset] [(.ref a1)])) rfl rfl (hb hby own_d10_37)
  refine own_step (U' := (T22.setTop (mkF m 40 #[.val (.ref a1), .val s1, .unset] [(.ref c1)]))) (fun t ht => st22 _ ht) ?_
  obtain ⟨T23, X23, e23, st23⟩ := getF X22 hx hZ hown (host := "") (Or.inl (hw _ (List.mem_of_getElem? (i := 66) rfl))) Via.refl e22 Fk (g := (mkF m 40 #[.val (.ref a1), .val s1, .unset] [(.ref c1)])) rfl rfl (hb hby own_d10_40)
  refine own_step (U' := (T23.setTop (mkF m 43 #[.val (.ref a1), .val s1, .unset] [(.ref r1)]))) (fun t ht => st23 _ ht) ?_
  refine own_step (U' := (T23.setTop (mkF m 44 #[.val (.ref a1), .val s1, .unset] [(.ref a1), (.ref r1)]))) (fun t ht => XS.aloadN X23.here hx rfl (hb hby own_d10_43) rfl rfl ht) ?_
  refine own_step (U' := (T23.setTop (mkF m 45 #[.val (.ref a1), .val s1, .unset] [(.ref a1), (.ref a1), (.ref r1)]))) (fun t ht => XS.dup X23.here hx rfl (hb hby own_d10_44) rfl rfl ht) ?_
  obtain ⟨T24, X24, e24, st24⟩ := getF X23 hx hZ hown (host := "") (Or.inl (hw _ (List.mem_of_getElem? (i := 64) rfl))) Via.refl e23 Fli (g := (mkF m 45 #[.val (.ref a1), .val s1, .unset] [(.ref a1), (.ref a1), (.ref r1)])) rfl rfl (hb hby own_d10_45)
  refine own_step (U' := (T24.setTop (mkF m 48 #[.val (.ref a1), .val s1, .unset] [(.int li), (.ref a1), (.ref r1)]))) (fun t ht => st24 _ ht) ?_
  refine own_step (U' := (T24.setTop (mkF m 49 #[.val (.ref a1), .val s1, .unset] [(.int li), (.ref a1), (.int li), (.ref r1)]))) (fun t ht => XT.dupX1 X24.here hx rfl (hb hby own_d10_48) rfl rfl rfl ht) ?_
  refine own_step (U' := (T24.setTop (mkF m 50 #[.val (.ref a1), .val s1, .unset] [(.int (1 : Int32)), (.int li), (.ref a1), (.int li), (.ref r1)]))) (fun t ht => XS.iconst X24.here hx rfl (hb hby own_d10_49) ht) ?_
  refine own_step (U' := (T24.setTop (mkF m 51 #[.val (.ref a1), .val s1, .unset] [(.int (li + (1 : Int32))), (.ref a1), (.int li), (.ref r1)]))) (fun t ht => XS.iadd X24.here hx rfl (hb hby own_d10_50) rfl ht) ?_
  obtain ⟨T25, h25, X25, e25, W25, st25⟩ := putF X24 hx hZ hown (host := "") (Or.inl (hw _ (List.mem_of_getElem? (i := 64) rfl))) Via.refl e24 Fli E1 (Or.inl (hw _ (List.mem_of_getElem? (i := 65) rfl))) (hw _ (List.mem_of_getElem? (i := 1) rfl)) (ty := .int) (by decide) rfl rfl (g := (mkF m 51 #[.val (.ref a1), .val s1, .unset] [(.int (li + (1 : Int32))), (.ref a1), (.int li), (.ref r1)])) rfl rfl (hb hby own_d10_51)
  have f25_0 : Fld Z h25 a1 "com/example/call_throttle/callthrottle/KeyQueue" "first" "Lcom/example/call_throttle/callthrottle/KeyQueue$Chunk;" (.ref c1) := Ff.other W25 (Or.inr (slot_ne (Or.inl (hw _ (List.mem_of_getElem? (i := 21) rfl))) (Or.inl (hw _ (List.mem_of_getElem? (i := 65) rfl))) (by decide) (t := (.object "com/example/call_throttle/callthrottle/KeyQueue$Chunk")) (t' := .int) (by decide) (by decide)))
  have f25_1 : Fld Z h25 a1 "com/example/call_throttle/callthrottle/KeyQueue" "last" "Lcom/example/call_throttle/callthrottle/KeyQueue$Chunk;" (.ref c1) := Fl.other W25 (Or.inr (slot_ne (Or.inl (hw _ (List.mem_of_getElem? (i := 23) rfl))) (Or.inl (hw _ (List.mem_of_getElem? (i := 65) rfl))) (by decide) (t := (.object "com/example/call_throttle/callthrottle/KeyQueue$Chunk")) (t' := .int) (by decide) (by decide)))
  have f25_2 : Fld Z h25 a1 "com/example/call_throttle/callthrottle/KeyQueue" "firstIndex" "I" (.int fi) := Ffi.other W25 (Or.inr (slot_ne (Or.inl (hw _ (List.mem_of_getElem? (i := 73) rfl))) (Or.inl (hw _ (List.mem_of_getElem? (i := 65) rfl))) (by decide) (t := .int) (t' := .int) (by decide) (by decide)))
  have f25_4 : Fld Z h25 a1 "com/example/call_throttle/callthrottle/KeyQueue" "size" "J" (.long sz) := Fsz.other W25 (Or.inr (slot_ne (Or.inl (hw _ (List.mem_of_getElem? (i := 54) rfl))) (Or.inl (hw _ (List.mem_of_getElem? (i := 65) rfl))) (by decide) (t := .long) (t' := .int) (by decide) (by decide)))
  have f25_5 : Exa Z h25 a1 "com/example/call_throttle/callthrottle/KeyQueue" := E1.wr W25
  have f25_6 : Fld Z h25 c1 "com/example/call_throttle/callthrottle/KeyQueue$Chunk" "keys" "[Ljava/lang/String;" (.ref r1) := Fk.other W25 (Or.inl (ne_exa E2 E1 (by decide)))
  have f25_7 : Exa Z h25 c1 "com/example/call_throttle/callthrottle/KeyQueue$Chunk" := E2.wr W25
  have f25_8 : Arv Z h25 r1 kA (.object "java/lang/String") (1024 : Int32) vs .null := V1.other W25 (Ne.symm ne_a1_r1)
  have f25_9 : own_Key Z h25 s1 := hs1.wr W25
  have F25 := Fli.same W25
  have N25 := Fr.snoc X25 N0 g_a1
  have K25 : Keep h0 h25 [a1, r1] := K0.wr W25 (Or.inl (by simp))
  refine own_step (U' := (T25.setTop (mkF m 54 #[.val (.ref a1), .val s1, .unset] [(.int li), (.ref r1)]))) (fun t ht => st25 _ ht) ?_
  refine own_step (U' := (T25.setTop (mkF m 55 #[.val (.ref a1), .val s1, .unset] [s1, (.int li), (.ref r1)]))) (fun t ht => XS.aloadN X25.here hx rfl (hb hby own_d10_54) rfl hs1.isRef ht) ?_
  obtain ⟨cl26, Ar26, q26, S26, N26_, H26, G26⟩ := (id f25_8)
  have hin26 : ¬ (li < 0 ∨ cl26.slots.size ≤ (li).toNatClampNeg) := inb_of S26 ⟨hb1, hb2⟩
  obtain ⟨T26, h26, X26, e26, W26, st26⟩ := stR X25 hx hZ e25 Ar26 (j := li) hin26 rfl (f25_9.sto Ar26 q26 hov) (g := (mkF m 55 #[.val (.ref a1), .val s1, .unset] [s1, (.int li), (.ref r1)])) rfl rfl (hb hby own_d10_55)
  have f26_0 : Fld Z h26 a1 "com/example/call_throttle/callthrottle/KeyQueue" "first" "Lcom/example/call_throttle/callthrottle/KeyQueue$Chunk;" (.ref c1) := f25_0.other W26 (Or.inl ne_a1_r1)
  have f26_1 : Fld Z h26 a1 "com/example/call_throttle/callthrottle/KeyQueue" "last" "Lcom/example/call_throttle/callthrottle/KeyQueue$Chunk;" (.ref c1) := f25_1.other W26 (Or.inl ne_a1_r1)
  have f26_2 : Fld Z h26 a1 "com/example/call_throttle/callthrottle/KeyQueue" "firstIndex" "I" (.int fi) := f25_2.other W26 (Or.inl ne_a1_r1)
  have f26_3 : Fld Z h26 a1 "com/example/call_throttle/callthrottle/KeyQueue" "size" "J" (.long sz) := f25_4.other W26 (Or.inl ne_a1_r1)
  have f26_4 : Exa Z h26 a1 "com/example/call_throttle/callthrottle/KeyQueue" := f25_5.wr W26
  have f26_5 : Fld Z h26 c1 "com/example/call_throttle/callthrottle/KeyQueue$Chunk" "keys" "[Ljava/lang/String;" (.ref r1) := f25_6.other W26 (Or.inl ne_c1_r1)
  have f26_6 : Exa Z h26 c1 "com/example/call_throttle/callthrottle/KeyQueue$Chunk" := f25_7.wr W26
  have f26_8 : own_Key Z h26 s1 := f25_9.wr W26
  have f26_9 : Fld Z h26 a1 "com/example/call_throttle/callthrottle/KeyQueue" "lastIndex" "I" (.int (li + (1 : Int32))) := F25.other W26 (Or.inl ne_a1_r1)
  have V26 : Arv Z h26 r1 kA (.object "java/lang/String") (1024 : Int32) (vs.set i1 s1) .null := Arv.set Ar26 q26 S26 N26_ H26 G26 (own_fitR hs1.isRef) W26 i1 hi hi2
  have N26 := Fr.snoc X26 N25 g_r1
  have K26 : Keep h0 h26 [a1, r1] := K25.wr W26 (Or.inl (by simp))
  refine own_step (U' := (T26.setTop (mkF m 56 #[.val (.ref a1), .val s1, .unset] []))) (fun t ht => st26 _ ht) ?_
  refine own_step (U' := (T26.setTop (mkF m 57 #[.val (.ref a1), .val s1, .unset] [(.ref a1)]))) (fun t ht => XS.aloadN X26.here hx rfl (hb hby own_d10_56) rfl rfl ht) ?_
  refine own_step (U' := (T26.setTop (mkF m 58 #[.val (.ref a1), .val s1, .unset] [(.ref a1), (.ref a1)]))) (fun t ht => XS.dup X26.here hx rfl (hb hby own_d10_57) rfl rfl ht) ?_
  obtain ⟨T27, X27, e27, st27⟩ := getF X26 hx hZ hown (host := "") (Or.inl (hw _ (List.mem_of_getElem? (i := 53) rfl))) Via.refl e26 f26_3 (g := (mkF m 58 #[.val (.ref a1), .val s1, .unset] [(.ref a1), (.ref a1)])) rfl rfl (hb hby own_d10_58)
  refine own_step (U' := (T27.setTop (mkF m 61 #[.val (.ref a1), .val s1, .unset] [(.long sz), (.ref a1)]))) (fun t ht => st27 _ ht) ?_
  refine own_step (U' := (T27.setTop (mkF m 62 #[.val (.ref a1), .val s1, .unset] [(.long (1 : Int64)), (.long sz), (.ref a1)]))) (fun t ht => XT.lconstV X27.here hx rfl (1 : Int64) (hb hby own_d10_61) rfl ht) ?_
  refine own_step (U' := (T27.setTop (mkF m 63 #[.val (.ref a1), .val s1, .unset] [(.long (sz + (1 : Int64))), (.ref a1)]))) (fun t ht => XT.ladd X27.here hx rfl (hb hby own_d10_62) rfl ht) ?_
  obtain ⟨T28, h28, X28, e28, W28, st28⟩ := putF X27 hx hZ hown (host := "") (Or.inl (hw _ (List.mem_of_getElem? (i := 53) rfl))) Via.refl e27 f26_3 f26_4 (Or.inl (hw _ (List.mem_of_getElem? (i := 54) rfl))) (hw _ (List.mem_of_getElem? (i := 1) rfl)) (ty := .long) (by decide) rfl rfl (g := (mkF m 63 #[.val (.ref a1), .val s1, .unset] [(.long (sz + (1 : Int64))), (.ref a1)])) rfl rfl (hb hby own_d10_63)
  have f28_0 : Fld Z h28 a1 "com/example/call_throttle/callthrottle/KeyQueue" "first" "Lcom/example/call_throttle/callthrottle/KeyQueue$Chunk;" (.ref c1) := f26_0.other W28 (Or.inr (slot_ne (Or.inl (hw _ (List.mem_of_getElem? (i := 21) rfl))) (Or.inl (hw _ (List.mem_of_getElem? (i := 54) rfl))) (by decide) (t := (.object "com/example/call_throttle/callthrottle/KeyQueue$Chunk")) (t' := .long) (by decide) (by decide)))
  have f28_1 : Fld Z h28 a1 "com/example/call_throttle/callthrottle/KeyQueue" "last" "Lcom/example/call_throttle/callthrottle/KeyQueue$Chunk;" (.ref c1) := f26_1.other W28 (Or.inr (slot_ne (Or.inl (hw _ (List.mem_of_getElem? (i := 23) rfl))) (Or.inl (hw _ (List.mem_of_getElem? (i := 54) rfl))) (by decide) (t := (.object "com/example/call_throttle/callthrottle/KeyQueue$Chunk")) (t' := .long) (by decide) (by decide)))
  have f28_2 : Fld Z h28 a1 "com/example/call_throttle/callthrottle/KeyQueue" "firstIndex" "I" (.int fi) := f26_2.other W28 (Or.inr (slot_ne (Or.inl (hw _ (List.mem_of_getElem? (i := 73) rfl))) (Or.inl (hw _ (List.mem_of_getElem? (i := 54) rfl))) (by decide) (t := .int) (t' := .long) (by decide) (by decide)))
  have f28_4 : Exa Z h28 a1 "com/example/call_throttle/callthrottle/KeyQueue" := f26_4.wr W28
  have f28_5 : Fld Z h28 c1 "com/example/call_throttle/callthrottle/KeyQueue$Chunk" "keys" "[Ljava/lang/String;" (.ref r1) := f26_5.other W28 (Or.inl (ne_exa f26_6 f26_4 (by decide)))
  have f28_6 : Exa Z h28 c1 "com/example/call_throttle/callthrottle/KeyQueue$Chunk" := f26_6.wr W28
  have f28_7 : own_Key Z h28 s1 := f26_8.wr W28
  have f28_8 : Fld Z h28 a1 "com/example/call_throttle/callthrottle/KeyQueue" "lastIndex" "I" (.int (li + (1 : Int32))) := f26_9.other W28 (Or.inr (slot_ne (Or.inl (hw _ (List.mem_of_getElem? (i := 65) rfl))) (Or.inl (hw _ (List.mem_of_getElem? (i := 54) rfl))) (by decide) (t := .int) (t' := .long) (by decide) (by decide)))
  have f28_9 : Arv Z h28 r1 kA (.object "java/lang/String") (1024 : Int32) (vs.set i1 s1) .null := V26.other W28 (Ne.symm ne_a1_r1)
  have F28 := f26_3.same W28
  have N28 := Fr.snoc X28 N26 g_a1
  have K28 : Keep h0 h28 [a1, r1] := K26.wr W28 (Or.inl (by simp))
  refine own_step (U' := (T28.setTop (mkF m 66 #[.val (.ref a1), .val s1, .unset] []))) (fun t ht => st28 _ ht) ?_
  refine own_ret X28 (v := none) (fun _ => rfl) Bd.notSynchronized (by decide) (by decide) ?_ (fun fs hr => X28.returnOut hx Bd.returns (hb hby own_d10_66) hr)
  show own_Q_add Z a1 c1 r1 kA fi li sz vs s1 i1 h0 n0 _ T28.heap _
  rw [e28]
  exact ⟨rfl, N28, K28, f28_0, f28_1, f28_2, f28_8, F28, f28_4, f28_5, f28_6, f28_9⟩
theorem own_d11_0 : decode prog_12_method_3_code 0 = .ok (.aload_n 0, 1) := by decide +kernel
theorem own_d11_1 : decode prog_12_method_3_code 1 = .ok (.getfield 30, 3) := by decide +kernel
theorem own_d11_4 : decode prog_12_method_3_code 4 = .ok (.lconst 0, 1) := by decide +kernel
theorem own_d11_5 : decode prog_12_method_3_code 5 = .ok (.lcmp, 1) := by decide +kernel
theorem own_d11_6 : decode prog_12_method_3_code 6 = .ok (.ifCond .ne 11, 3) := by decide +kernel
theorem own_d11_17 : decode prog_12_method_3_code 17 = .ok (.aload_n 0, 1) := by decide +kernel
theorem own_d11_18 : decode prog_12_method_3_code 18 = .ok (.getfield 37, 3) := by decide +kernel
theorem own_d11_21 : decode prog_12_method_3_code 21 = .ok (.sipush 1024, 3) := by decide +kernel
theorem own_d11_24 : decode prog_12_method_3_code 24 = .ok (.if_icmp .ne 19, 3) := by decide +kernel
theorem own_d11_43 : decode prog_12_method_3_code 43 = .ok (.aload_n 0, 1) := by decide +kernel
theorem own_d11_44 : decode prog_12_method_3_code 44 = .ok (.getfield 10, 3) := by decide +kernel
theorem own_d11_47 : decode prog_12_method_3_code 47 = .ok (.getfield 26, 3) := by decide +kernel
theorem own_d11_50 : decode prog_12_method_3_code 50 = .ok (.aload_n 0, 1) := by decide +kernel
theorem own_d11_51 : decode prog_12_method_3_code 51 = .ok (.getfield 37, 3) := by decide +kernel
theorem own_d11_54 : decode prog_12_method_3_code 54 = .ok (.aaload, 1) := by decide +kernel
theorem own_d11_55 : decode prog_12_method_3_code 55 = .ok (.astore_n 1, 1) := by decide +kernel
theorem own_d11_56 : decode prog_12_method_3_code 56 = .ok (.aload_n 0, 1) := by decide +kernel
theorem own_d11_57 : decode prog_12_method_3_code 57 = .ok (.getfield 10, 3) := by decide +kernel
theorem own_d11_60 : decode prog_12_method_3_code 60 = .ok (.getfield 26, 3) := by decide +kernel
theorem own_d11_63 : decode prog_12_method_3_code 63 = .ok (.aload_n 0, 1) := by decide +kernel
theorem own_d11_64 : decode prog_12_method_3_code 64 = .ok (.dup, 1) := by decide +kernel
theorem own_d11_65 : decode prog_12_method_3_code 65 = .ok (.getfield 37, 3) := by decide +kernel
theorem own_d11_68 : decode prog_12_method_3_code 68 = .ok (.dup_x1, 1) := by decide +kernel
theorem own_d11_69 : decode prog_12_method_3_code 69 = .ok (.iconst 1, 1) := by decide +kernel
theorem own_d11_70 : decode prog_12_method_3_code 70 = .ok (.iadd, 1) := by decide +kernel
theorem own_d11_71 : decode prog_12_method_3_code 71 = .ok (.putfield 37, 3) := by decide +kernel
theorem own_d11_74 : decode prog_12_method_3_code 74 = .ok (.aconst_null, 1) := by decide +kernel
theorem own_d11_75 : decode prog_12_method_3_code 75 = .ok (.aastore, 1) := by decide +kernel
theorem own_d11_76 : decode prog_12_method_3_code 76 = .ok (.aload_n 0, 1) := by decide +kernel
theorem own_d11_77 : decode prog_12_method_3_code 77 = .ok (.dup, 1) := by decide +kernel
theorem own_d11_78 : decode prog_12_method_3_code 78 = .ok (.getfield 30, 3) := by decide +kernel
theorem own_d11_81 : decode prog_12_method_3_code 81 = .ok (.lconst 1, 1) := by decide +kernel
theorem own_d11_82 : decode prog_12_method_3_code 82 = .ok (.lsub, 1) := by decide +kernel
theorem own_d11_83 : decode prog_12_method_3_code 83 = .ok (.putfield 30, 3) := by decide +kernel
theorem own_d11_86 : decode prog_12_method_3_code 86 = .ok (.aload_n 1, 1) := by decide +kernel
theorem own_d11_87 : decode prog_12_method_3_code 87 = .ok (.areturn, 1) := by decide +kernel
def own_Q_rem (Z : State) (a1 : Addr) (c1 : Addr) (r1 : Addr) (kA : ClassId) (fi : Int32) (li : Int32) (sz : Int64) (vs : List Value) (u1 : Value) (j1 : Nat) (h0 : Heap) (n0 : Nat) (v : Option Value) (h : Heap) (L : List Loc) : Prop := v = some u1 ∧ Fr n0 L ∧ Keep h0 h [a1, r1] ∧ (Fld Z h a1 "com/example/call_throttle/callthrottle/KeyQueue" "first" "Lcom/example/call_throttle/callthrottle/KeyQueue$Chunk;" (.ref c1)) ∧ (Fld Z h a1 "com/example/call_throttle/callthrottle/KeyQueue" "last" "Lcom/example/call_throttle/callthrottle/KeyQueue$Chunk;" (.ref c1)) ∧ (Fld Z h a1 "com/example/call_throttle/callthrottle/KeyQueue" "firstIndex" "I" (.int (fi + (1 : Int32)))) ∧ (Fld Z h a1 "com/example/call_throttle/callthrottle/KeyQueue" "lastIndex" "I" (.int li)) ∧ (Fld Z h a1 "com/example/call_throttle/callthrottle/KeyQueue" "size" "J" (.long (sz - (1 : Int64)))) ∧ (Exa Z h a1 "com/example/call_throttle/callthrottle/KeyQueue") ∧ (Fld Z h c1 "com/example/call_throttle/callthrottle/KeyQueue$Chunk" "keys" "[Ljava/lang/String;" (.ref r1)) ∧ (Exa Z h c1 "com/example/call_throttle/callthrottle/KeyQueue$Chunk") ∧ (Arv Z h r1 kA (.object "java/lang/String") (1024 : Int32) (vs.set j1 .null) .null)
set_option maxRecDepth 65536 in
set_option maxHeartbeats 40000000 in
theorem own_m_rem (l : Launch) (Z : State) (a0 : Array Value) (hw : ∀ d ∈ tables_1, d.before a0 Z = true) (ws : List Jvm.Cond) (a1 : Addr) (c1 : Addr) (r1 : Addr) (kA : ClassId) (fi : Int32) (li : Int32) (sz : Int64) (vs : List Value) (u1 : Value) (j1 : Nat) (h0 : Heap) (n0 : Nat) (Z0 : n0 ≤ h0.size) (g_a1 : n0 ≤ a1) (g_r1 : n0 ≤ r1) (ne_a1_r1 : a1 ≠ r1) (ne_c1_r1 : c1 ≠ r1) (Ff : Fld Z h0 a1 "com/example/call_throttle/callthrottle/KeyQueue" "first" "Lcom/example/call_throttle/callthrottle/KeyQueue$Chunk;" (.ref c1)) (Fl : Fld Z h0 a1 "com/example/call_throttle/callthrottle/KeyQueue" "last" "Lcom/example/call_throttle/callthrottle/KeyQueue$Chunk;" (.ref c1)) (Ffi : Fld Z h0 a1 "com/example/call_throttle/callthrottle/KeyQueue" "firstIndex" "I" (.int fi)) (Fli : Fld Z h0 a1 "com/example/call_throttle/callthrottle/KeyQueue" "lastIndex" "I" (.int li)) (Fsz : Fld Z h0 a1 "com/example/call_throttle/callthrottle/KeyQueue" "size" "J" (.long sz)) (E1 : Exa Z h0 a1 "com/example/call_throttle/callthrottle/KeyQueue") (Fk : Fld Z h0 c1 "com/example/call_throttle/callthrottle/KeyQueue$Chunk" "keys" "[Ljava/lang/String;" (.ref r1)) (E2 : Exa Z h0 c1 "com/example/call_throttle/callthrottle/KeyQueue$Chunk") (V1 : Arv Z h0 r1 kA (.object "java/lang/String") (1024 : Int32) vs .null) (hsz : ¬ sz = 0) (hf : ¬ fi = 1024) (hb1 : ¬ fi < 0) (hb2 : fi < 1024) (hj : fi.toNatClampNeg = j1) (hj2 : j1 < vs.length) (hu : vs.getD fi.toNatClampNeg .null = u1) (hur : u1.isRef = true) :
    MetFree l (⟨"com/example/call_throttle/callthrottle/KeyQueue", "removeFirst", "()Ljava/lang/String;"⟩ : MethodName) (head1 (Jvm.Cond.code (⟨"com/example/call_throttle/callthrottle/KeyQueue", "removeFirst", "()Ljava/lang/String;"⟩ : MethodName) prog_12_method_3_code 2 (some (.object "java/lang/String")) :: ws) ({ frames := 0, cells := 0, slots := 0, locals := 0 } : Room)) (fun a U => a = #[(.ref a1)] ∧ Z.Warmed39 U.vm ∧ U.heap = h0) (fun _ _ _ _ _ => True) (fun _ U o U' => ∃ v L, o = .returned v ∧ own_Q_rem Z a1 c1 r1 kA fi li sz vs u1 j1 h0 n0 v U'.heap L ∧ FrameEnd U o U' L ({ frames := 0, cells := 0, slots := 0, locals := 0 } : Room).cells ({ frames := 0, cells := 0, slots := 0, locals := 0 } : Room).slots) := by
  refine MetFree.of_bodySF (plainFor_of_name own_pn3) hisR ?_
  intro p e s m args below meth c s₁ Bd hml0 hP hK
  obtain ⟨rfl, hZ, hh⟩ := hP
  have hx := Bd.exec
  have hby := Bd.bytes
  have hml : c.maxLocals = 2 := hml0
  have hown : s.vm.findClass "com/example/call_throttle/callthrottle/KeyQueue" = some m.cls := findClass_of_methodNamed Bd.named
  have hnm := (name_of_methodNamed Bd.named Bd.method).1
  have X0 : Stand p l e ({ frames := 0, cells := 0, slots := 0, locals := 0 } : Room) s m #[(.ref a1)] below meth c s₁ [] 0 0 := Stand.of_body Bd
  have e0 : s₁.heap = h0 := by rw [← hh, Bd.state]; rfl
  have N0 := Fr.nil n0
  have K0 : Keep h0 h0 [a1, r1] := Keep.refl _ _
  show own_Go p e below s ({ frames := 0, cells := 0, slots := 0, locals := 0 } : Room).cells ({ frames := 0, cells := 0, slots := 0, locals := 0 } : Room).slots (own_Q_rem Z a1 c1 r1 kA fi li sz vs u1 j1 h0 n0) (s₁.setTop (entryFrame m #[(.ref a1)] 2))
  have ef : entryFrame m #[(.ref a1)] 2 = (mkF m 0 #[.val (.ref a1), .unset] []) := by first | rfl | (simp [entryFrame, mkF, argsToLocals, Value.category, maxLocals]; done)
  rw [ef]
  show own_Go p e below s _ _ _ (s₁.setTop (mkF m 0 #[.val (.ref a1), .unset] []))
  refine own_step (U' := (s₁.setTop (mkF m 1 #[.val (.ref a1), .unset] [(.ref a1)]))) (fun t ht => XS.aloadN X0.here hx rfl (hb hby own_d11_0) rfl rfl ht) ?_
  obtain ⟨T29, X29, e29, st29⟩ := getF X0 hx hZ hown (host := "") (Or.inl (hw _ (List.mem_of_getElem? (i := 53) rfl))) Via.refl e0 Fsz (g := (mkF m 1 #[.val (.ref a1), .unset] [(.ref a1)])) rfl rfl (hb hby own_d11_1)
  refine own_step (U' := (T29.setTop (mkF m 4 #[.val (.ref a1), .unset] [(.long sz)]))) (fun t ht => st29 _ ht) ?_
  refine own_step (U' := (T29.setTop (mkF m 5 #[.val (.ref a1), .unset] [(.long (0 : Int64)), (.long sz)]))) (fun t ht => XT.lconstV X29.here hx rfl (0 : Int64) (hb hby own_d11_4) rfl ht) ?_
  refine own_step (U' := (T29.setTop (mkF m 6 #[.val (.ref a1), .unset] [(.int (XT.cmpL sz (0 : Int64)))]))) (fun t ht => XT.lcmp X29.here hx rfl (hb hby own_d11_5) rfl ht) ?_
  refine own_step (U' := (T29.setTop (mkF m 17 #[.val (.ref a1), .unset] []))) (fun t ht => XS.ifYes X29.here hx rfl (pc0 := 6) (pc' := 17) rfl (hb hby own_d11_6) rfl (XT.ll_ne_t (hsz : ¬ (sz = (0 : Int64)))) (by decide) (by decide) ht) ?_
  refine own_step (U' := (T29.setTop (mkF m 18 #[.val (.ref a1), .unset] [(.ref a1)]))) (fun t ht => XS.aloadN X29.here hx rfl (hb hby own_d11_17) rfl rfl ht) ?_
  obtain ⟨T30, X30, e30, st30⟩ := getF X29 hx hZ hown (host := "") (Or.inl (hw _ (List.mem_of_getElem? (i := 72) rfl))) Via.refl e29 Ffi (g := (mkF m 18 #[.val (.ref a1), .unset] [(.ref a1)])) rfl rfl (hb hby own_d11_18)
  refine own_step (U' := (T30.setTop (mkF m 21 #[.val (.ref a1), .unset] [(.int fi)]))) (fun t ht => st30 _ ht) ?_
  refine own_step (U' := (T30.setTop (mkF m 24 #[.val (.ref a1), .unset] [(.int (1024 : Int32)), (.int fi)]))) (fun t ht => XS.sipush X30.here hx rfl (hb hby own_d11_21) ht) ?_
  refine own_step (U' := (T30.setTop (mkF m 43 #[.val (.ref a1), .unset] []))) (fun t ht => XS.icmpYes X30.here hx rfl (pc0 := 24) (pc' := 43) rfl (hb hby own_d11_24) rfl (XT.ii_ne_t (hf : ¬ (fi = (1024 : Int32)))) (by decide) (by decide) ht) ?_
  refine own_step (U' := (T30.setTop (mkF m 44 #[.val (.ref a1), .unset] [(.ref a1)]))) (fun t ht => XS.aloadN X30.here hx rfl (hb hby own_d11_43) rfl rfl ht) ?_
  obtain ⟨T31, X31, e31, st31⟩ := getF X30 hx hZ hown (host := "") (Or.inl (hw _ (List.mem_of_getElem? (i := 20) rfl))) Via.refl e30 Ff (g := (mkF m 44 #[.val (.ref a1), .unset] [(.ref a1)])) rfl rfl (hb hby own_d11_44)
  refine own_step (U' := (T31.setTop (mkF m 47 #[.val (.ref a1), .unset] [(.ref c1)]))) (fun t ht => st31 _ ht) ?_
  obtain ⟨T32, X32, e32, st32⟩ := getF X31 hx hZ hown (host := "") (Or.inl (hw _ (List.mem_of_getElem? (i := 66) rfl))) Via.refl e31 Fk (g := (mkF m 47 #[.val (.ref a1), .unset] [(.ref c1)])) rfl rfl (hb hby own_d11_47)
  refine own_step (U' := (T32.setTop (mkF m 50 #[.val (.ref a1), .unset] [(.ref r1)]))) (fun t ht => st32 _ ht) ?_
  refine own_step (U' := (T32.setTop (mkF m 51 #[.val (.ref a1), .unset] [(.ref a1), (.ref r1)]))) (fun t ht => XS.aloadN X32.here hx rfl (hb hby own_d11_50) rfl rfl ht) ?_
  obtain ⟨T33, X33, e33, st33⟩ := getF X32 hx hZ hown (host := "") (Or.inl (hw _ (List.mem_of_getElem? (i := 72) rfl))) Via.refl e32 Ffi (g := (mkF m 51 #[.val (.ref a1), .unset] [(.ref a1), (.ref r1)])) rfl rfl (hb hby own_d11_51)
  refine own_step (U' := (T33.setTop (mkF m 54 #[.val (.ref a1), .unset] [(.int fi), (.ref r1)]))) (fun t ht => st33 _ ht) ?_
  obtain ⟨cl34, Ar34, q34, S34, N34_, H34, G34⟩ := (id V1)
  have hin34 : ¬ (fi < 0 ∨ cl34.slots.size ≤ (fi).toNatClampNeg) := inb_of S34 ⟨hb1, hb2⟩
  have hat34 : cl34.slots[(fi).toNatClampNeg]? = some u1 := Has.at H34 hin34 hu
  refine own_step (U' := (T33.setTop (mkF m 55 #[.val (.ref a1), .unset] [u1]))) (fun t ht => X33.aaload hx (j := fi) (v := u1) (own_at e33 Ar34.1) (State.isArrayOf_alike hZ.alike Ar34.2.1) rfl Ar34.2.2 hin34 hat34 (g := (mkF m 54 #[.val (.ref a1), .unset] [(.int fi), (.ref r1)])) rfl rfl (hb hby own_d11_54) _ ht) ?_
  refine own_step (U' := (T33.setTop (mkF m 56 #[.val (.ref a1), .val u1] []))) (fun t ht => XS.astoreN X33.here hx rfl (hb hby own_d11_55) rfl hur (l' := #[.val (.ref a1), .val u1]) (by first | rfl | exact XS.store1 rfl (by first | exact Or.inl rfl | exact Or.inr ⟨_, rfl, rfl⟩ | exact XT.slot1 rfl) (by first | rfl | exact XT.cat1 hur)) ht) ?_
  refine own_step (U' := (T33.setTop (mkF m 57 #[.val (.ref a1), .val u1] [(.ref a1)]))) (fun t ht => XS.aloadN X33.here hx rfl (hb hby own_d11_56) rfl rfl ht) ?_
  obtain ⟨T35, X35, e35, st35⟩ := getF X33 hx hZ hown (host := "") (Or.inl (hw _ (List.mem_of_getElem? (i := 20) rfl))) Via.refl e33 Ff (g := (mkF m 57 #[.val (.ref a1), .val u1] [(.ref a1)])) rfl rfl (hb hby own_d11_57)
  refine own_step (U' := (T35.setTop (mkF m 60 #[.val (.ref a1), .val u1] [(.ref c1)]))) (fun t ht => st35 _ ht) ?_
  obtain ⟨T36, X36, e36, st36⟩ := getF X35 hx hZ hown (host := "") (Or.inl (hw _ (List.mem_of_getElem? (i := 66) rfl))) Via.refl e35 Fk (g := (mkF m 60 #[.val (.ref a1), .val u1] [(.ref c1)])) rfl rfl (hb hby own_d11_60)
  refine own_step (U' := (T36.setTop (mkF m 63 #[.val (.ref a1), .val u1] [(.ref r1)]))) (fun t ht => st36 _ ht) ?_
  refine own_step (U' := (T36.setTop (mkF m 64 #[.val (.ref a1), .val u1] [(.ref a1), (.ref r1)]))) (fun t ht => XS.aloadN X36.here hx rfl (hb hby own_d11_63) rfl rfl ht) ?_
  refine own_step (U' := (T36.setTop (mkF m 65 #[.val (.ref a1), .val u1] [(.ref a1), (.ref a1), (.ref r1)]))) (fun t ht => XS.dup X36.here hx rfl (hb hby own_d11_64) rfl rfl ht) ?_
  obtain ⟨T37, X37, e37, st37⟩ := getF X36 hx hZ hown (host := "") (Or.inl (hw _ (List.mem_of_getElem? (i := 72) rfl))) Via.refl e36 Ffi (g := (mkF m 65 #[.val (.ref a1), .val u1] [(.ref a1), (.ref a1), (.ref r1)])) rfl rfl (hb hby own_d11_65)
  refine own_step (U' := (T37.setTop (mkF m 68 #[.val (.ref a1), .val u1] [(.int fi), (.ref a1), (.ref r1)]))) (fun t ht => st37 _ ht) ?_
  refine own_step (U' := (T37.setTop (mkF m 69 #[.val (.ref a1), .val u1] [(.int fi), (.ref a1), (.int fi), (.ref r1)]))) (fun t ht => XT.dupX1 X37.here hx rfl (hb hby own_d11_68) rfl rfl rfl ht) ?_
  refine own_step (U' := (T37.setTop (mkF m 70 #[.val (.ref a1), .val u1] [(.int (1 : Int32)), (.int fi), (.ref a1), (.int fi), (.ref r1)]))) (fun t ht => XS.iconst X37.here hx rfl (hb hby own_d11_69) ht) ?_
  refine own_step (U' := (T37.setTop (mkF m 71 #[.val (.ref a1), .val u1] [(.int (fi + (1 : Int32))), (.ref a1), (.int fi), (.ref r1)]))) (fun t ht => XS.iadd X37.here hx rfl (hb hby own_d11_70) rfl ht) ?_
  obtain ⟨T38, h38, X38, e38, W38, st38⟩ := putF X37 hx hZ hown (host := "") (Or.inl (hw _ (List.mem_of_getElem? (i := 72) rfl))) Via.refl e37 Ffi E1 (Or.inl (hw _ (List.mem_of_getElem? (i := 73) rfl))) (hw _ (List.mem_of_getElem? (i := 1) rfl)) (ty := .int) (by decide) rfl rfl (g := (mkF m 71 #[.val (.ref a1), .val u1] [(.int (fi + (1 : Int32))), (.ref a1), (.int fi), (.ref r1)])) rfl rfl (hb hby own_d11_71)
  have f38_0 : Fld Z h38 a1 "com/example/call_throttle/callthrottle/KeyQueue" "first" "Lcom/example/call_throttle/callthrottle/KeyQueue$Chunk;" (.ref c1) := Ff.other W38 (Or.inr (slot_ne (Or.inl (hw _ (List.mem_of_getElem? (i := 21) rfl))) (Or.inl (hw _ (List.mem_of_getElem? (i := 73) rfl))) (by decide) (t := (.object "com/example/call_throttle/callthrottle/KeyQueue$Chunk")) (t' := .int) (by decide) (by decide)))
  have f38_1 : Fld Z h38 a1 "com/example/call_throttle/callthrottle/KeyQueue" "last" "Lcom/example/call_throttle/callthrottle/KeyQueue$Chunk;" (.ref c1) := Fl.other W38 (Or.inr (slot_ne (Or.inl (hw _ (List.mem_of_getElem? (i := 23) rfl))) (Or.inl (hw _ (List.mem_of_getElem? (i := 73) rfl))) (by decide) (t := (.object "com/example/call_throttle/callthrottle/KeyQueue$Chunk")) (t' := .int) (by decide) (by decide)))
  have f38_3 : Fld Z h38 a1 "com/example/call_throttle/callthrottle/KeyQueue" "lastIndex" "I" (.int li) := Fli.other W38 (Or.inr (slot_ne (Or.inl (hw _ (List.mem_of_getElem? (i := 65) rfl))) (Or.inl (hw _ (List.mem_of_getElem? (i := 73) rfl))) (by decide) (t := .int) (t' := .int) (by decide) (by decide)))
  have f38_4 : Fld Z h38 a1 "com/example/call_throttle/callthrottle/KeyQueue" "size" "J" (.long sz) := Fsz.other W38 (Or.inr (slot_ne (Or.inl (hw _ (List.mem_of_getElem? (i := 54) rfl))) (Or.inl (hw _ (List.mem_of_getElem? (i := 73) rfl))) (by decide) (t := .long) (t' := .int) (by decide) (by decide)))
  have f38_5 : Exa Z h38 a1 "com/example/call_throttle/callthrottle/KeyQueue" := E1.wr W38
  have f38_6 : Fld Z h38 c1 "com/example/call_throttle/callthrottle/KeyQueue$Chunk" "keys" "[Ljava/lang/String;" (.ref r1) := Fk.other W38 (Or.inl (ne_exa E2 E1 (by decide)))
  have f38_7 : Exa Z h38 c1 "com/example/call_throttle/callthrottle/KeyQueue$Chunk" := E2.wr W38
  have f38_8 : Arv Z h38 r1 kA (.object "java/lang/String") (1024 : Int32) vs .null := V1.other W38 (Ne.symm ne_a1_r1)
  have F38 := Ffi.same W38
  have N38 := Fr.snoc X38 N0 g_a1
  have K38 : Keep h0 h38 [a1, r1] := K0.wr W38 (Or.inl (by simp))
  refine own_step (U' := (T38.setTop (mkF m 74 #[.val (.ref a1), .val u1] [(.int fi), (.ref r1)]))) (fun t ht => st38 _ ht) ?_
  refine own_step (U' := (T38.setTop (mkF m 75 #[.val (.ref a1), .val u1] [.null, (.int fi), (.ref r1)]))) (fun t ht => XS.aconstNull X38.here hx rfl (hb hby own_d11_74) ht) ?_
  obtain ⟨cl39, Ar39, q39, S39, N39_, H39, G39⟩ := (id f38_8)
  have hin39 : ¬ (fi < 0 ∨ cl39.slots.size ≤ (fi).toNatClampNeg) := inb_of S39 ⟨hb1, hb2⟩
  obtain ⟨T39, h39, X39, e39, W39, st39⟩ := stR X38 hx hZ e38 Ar39 (j := fi) hin39 rfl (Or.inl rfl) (g := (mkF m 75 #[.val (.ref a1), .val u1] [.null, (.int fi), (.ref r1)])) rfl rfl (hb hby own_d11_75)
  have f39_0 : Fld Z h39 a1 "com/example/call_throttle/callthrottle/KeyQueue" "first" "Lcom/example/call_throttle/callthrottle/KeyQueue$Chunk;" (.ref c1) := f38_0.other W39 (Or.inl ne_a1_r1)
  have f39_1 : Fld Z h39 a1 "com/example/call_throttle/callthrottle/KeyQueue" "last" "Lcom/example/call_throttle/callthrottle/KeyQueue$Chunk;" (.ref c1) := f38_1.other W39 (Or.inl ne_a1_r1)
  have f39_2 : Fld Z h39 a1 "com/example/call_throttle/callthrottle/KeyQueue" "lastIndex" "I" (.int li) := f38_3.other W39 (Or.inl ne_a1_r1)
  have f39_3 : Fld Z h39 a1 "com/example/call_throttle/callthrottle/KeyQueue" "size" "J" (.long sz) := f38_4.other W39 (Or.inl ne_a1_r1)
  have f39_4 : Exa Z h39 a1 "com/example/call_throttle/callthrottle/KeyQueue" := f38_5.wr W39
  have f39_5 : Fld Z h39 c1 "com/example/call_throttle/callthrottle/KeyQueue$Chunk" "keys" "[Ljava/lang/String;" (.ref r1) := f38_6.other W39 (Or.inl ne_c1_r1)
  have f39_6 : Exa Z h39 c1 "com/example/call_throttle/callthrottle/KeyQueue$Chunk" := f38_7.wr W39
  have f39_8 : Fld Z h39 a1 "com/example/call_throttle/callthrottle/KeyQueue" "firstIndex" "I" (.int (fi + (1 : Int32))) := F38.other W39 (Or.inl ne_a1_r1)
  have V39 : Arv Z h39 r1 kA (.object "java/lang/String") (1024 : Int32) (vs.set j1 .null) .null := Arv.set Ar39 q39 S39 N39_ H39 G39 rfl W39 j1 hj hj2
  have N39 := Fr.snoc X39 N38 g_r1
  have K39 : Keep h0 h39 [a1, r1] := K38.wr W39 (Or.inl (by simp))
  refine own_step (U' := (T39.setTop (mkF m 76 #[.val (.ref a1), .val u1] []))) (fun t ht => st39 _ ht) ?_
  refine own_step (U' := (T39.setTop (mkF m 77 #[.val (.ref a1), .val u1] [(.ref a1)]))) (fun t ht => XS.aloadN X39.here hx rfl (hb hby own_d11_76) rfl rfl ht) ?_
  refine own_step (U' := (T39.setTop (mkF m 78 #[.val (.ref a1), .val u1] [(.ref a1), (.ref a1)]))) (fun t ht => XS.dup X39.here hx rfl (hb hby own_d11_77) rfl rfl ht) ?_
  obtain ⟨T40, X40, e40, st40⟩ := getF X39 hx hZ hown (host := "") (Or.inl (hw _ (List.mem_of_getElem? (i := 53) rfl))) Via.refl e39 f39_3 (g := (mkF m 78 #[.val (.ref a1), .val u1] [(.ref a1), (.ref a1)])) rfl rfl (hb hby own_d11_78)
  refine own_step (U' := (T40.setTop (mkF m 81 #[.val (.ref a1), .val u1] [(.long sz), (.ref a1)]))) (fun t ht => st40 _ ht) ?_
  refine own_step (U' := (T40.setTop (mkF m 82 #[.val (.ref a1), .val u1] [(.long (1 : Int64)), (.long sz), (.ref a1)]))) (fun t ht => XT.lconstV X40.here hx rfl (1 : Int64) (hb hby own_d11_81) rfl ht) ?_
  refine own_step (U' := (T40.setTop (mkF m 83 #[.val (.ref a1), .val u1] [(.long (sz - (1 : Int64))), (.ref a1)]))) (fun t ht => XT.lsub X40.here hx rfl (hb hby own_d11_82) rfl ht) ?_
  obtain ⟨T41, h41, X41, e41, W41, st41⟩ := putF X40 hx hZ hown (host := "") (Or.inl (hw _ (List.mem_of_getElem? (i := 53) rfl))) Via.refl e40 f39_3 f39_4 (Or.inl (hw _ (List.mem_of_getElem? (i := 54) rfl))) (hw _ (List.mem_of_getElem? (i := 1) rfl)) (ty := .long) (by decide) rfl rfl (g := (mkF m 83 #[.val (.ref a1), .val u1] [(.long (sz - (1 : Int64))), (.ref a1)])) rfl rfl (hb hby own_d11_83)
  have f41_0 : Fld Z h41 a1 "com/example/call_throttle/callthrottle/KeyQueue" "first" "Lcom/example/call_throttle/callthrottle/KeyQueue$Chunk;" (.ref c1) := f39_0.other W41 (Or.inr (slot_ne (Or.inl (hw _ (List.mem_of_getElem? (i := 21) rfl))) (Or.inl (hw _ (List.mem_of_getElem? (i := 54) rfl))) (by decide) (t := (.object "com/example/call_throttle/callthrottle/KeyQueue$Chunk")) (t' := .long) (by decide) (by decide)))
  have f41_1 : Fld Z h41 a1 "com/example/call_throttle/callthrottle/KeyQueue" "last" "Lcom/example/call_throttle/callthrottle/KeyQueue$Chunk;" (.ref c1) := f39_1.other W41 (Or.inr (slot_ne (Or.inl (hw _ (List.mem_of_getElem? (i := 23) rfl))) (Or.inl (hw _ (List.mem_of_getElem? (i := 54) rfl))) (by decide) (t := (.object "com/example/call_throttle/callthrottle/KeyQueue$Chunk")) (t' := .long) (by decide) (by decide)))
  have f41_2 : Fld Z h41 a1 "com/example/call_throttle/callthrottle/KeyQueue" "lastIndex" "I" (.int li) := f39_2.other W41 (Or.inr (slot_ne (Or.inl (hw _ (List.mem_of_getElem? (i := 65) rfl))) (Or.inl (hw _ (List.mem_of_getElem? (i := 54) rfl))) (by decide) (t := .int) (t' := .long) (by decide) (by decide)))
  have f41_4 : Exa Z h41 a1 "com/example/call_throttle/callthrottle/KeyQueue" := f39_4.wr W41
  have f41_5 : Fld Z h41 c1 "com/example/call_throttle/callthrottle/KeyQueue$Chunk" "keys" "[Ljava/lang/String;" (.ref r1) := f39_5.other W41 (Or.inl (ne_exa f39_6 f39_4 (by decide)))
  have f41_6 : Exa Z h41 c1 "com/example/call_throttle/callthrottle/KeyQueue$Chunk" := f39_6.wr W41
  have f41_7 : Fld Z h41 a1 "com/example/call_throttle/callthrottle/KeyQueue" "firstIndex" "I" (.int (fi + (1 : Int32))) := f39_8.other W41 (Or.inr (slot_ne (Or.inl (hw _ (List.mem_of_getElem? (i := 73) rfl))) (Or.inl (hw _ (List.mem_of_getElem? (i := 54) rfl))) (by decide) (t := .int) (t' := .long) (by decide) (by decide)))
  have f41_8 : Arv Z h41 r1 kA (.object "java/lang/String") (1024 : Int32) (vs.set j1 .null) .null := V39.other W41 (Ne.symm ne_a1_r1)
  have F41 := f39_3.same W41
  have N41 := Fr.snoc X41 N39 g_a1
  have K41 : Keep h0 h41 [a1, r1] := K39.wr W41 (Or.inl (by simp))
  refine own_step (U' := (T41.setTop (mkF m 86 #[.val (.ref a1), .val u1] []))) (fun t ht => st41 _ ht) ?_
  refine own_step (U' := (T41.setTop (mkF m 87 #[.val (.ref a1), .val u1] [u1]))) (fun t ht => XS.aloadN X41.here hx rfl (hb hby own_d11_86) rfl hur ht) ?_
  refine own_ret X41 (v := (some u1)) (fun h => by rw [Bd.returns] at h; cases h) Bd.notSynchronized (by decide) (by decide) ?_ (fun fs hr => retOut X41 hx Bd.returns (own_narR hur) (Or.inr (Or.inr (Or.inr (Or.inr ⟨rfl, rfl, hur⟩)))) (hb hby own_d11_87) hr)
  show own_Q_rem Z a1 c1 r1 kA fi li sz vs u1 j1 h0 n0 _ T41.heap _
  rw [e41]
  exact ⟨rfl, N41, K41, f41_0, f41_1, f41_7, f41_2, F41, f41_4, f41_5, f41_6, f41_8⟩
theorem own_d8_0 : decode prog_12_method_4_code 0 = .ok (.aload_n 0, 1) := by decide +kernel
theorem own_d8_1 : decode prog_12_method_4_code 1 = .ok (.getfield 30, 3) := by decide +kernel
theorem own_d8_4 : decode prog_12_method_4_code 4 = .ok (.lconst 0, 1) := by decide +kernel
theorem own_d8_5 : decode prog_12_method_4_code 5 = .ok (.lcmp, 1) := by decide +kernel
theorem own_d8_6 : decode prog_12_method_4_code 6 = .ok (.ifCond .ne 7, 3) := by decide +kernel
theorem own_d8_9 : decode prog_12_method_4_code 9 = .ok (.iconst 1, 1) := by decide +kernel
theorem own_d8_10 : decode prog_12_method_4_code 10 = .ok (.goto 4, 3) := by decide +kernel
theorem own_d8_13 : decode prog_12_method_4_code 13 = .ok (.iconst 0, 1) := by decide +kernel
theorem own_d8_14 : decode prog_12_method_4_code 14 = .ok (.ireturn, 1) := by decide +kernel
def own_Q_ie (Z : State) (a1 : Addr) (sz : Int64) (h0 : Heap) (n0 : Nat) (v : Option Value) (h : Heap) (L : List Loc) : Prop := v = some (.int (own_ie sz)) ∧ Fr n0 L ∧ h = h0
set_option maxRecDepth 65536 in
set_option maxHeartbeats 40000000 in
theorem own_m_ie (l : Launch) (Z : State) (a0 : Array Value) (hw : ∀ d ∈ tables_1, d.before a0 Z = true) (ws : List Jvm.Cond) (a1 : Addr) (sz : Int64) (h0 : Heap) (n0 : Nat) (Z0 : n0 ≤ h0.size) (Fsz : Fld Z h0 a1 "com/example/call_throttle/callthrottle/KeyQueue" "size" "J" (.long sz)) :
    MetFree l (⟨"com/example/call_throttle/callthrottle/KeyQueue", "isEmpty", "()Z"⟩ : MethodName) (head1 (Jvm.Cond.code (⟨"com/example/call_throttle/callthrottle/KeyQueue", "isEmpty", "()Z"⟩ : MethodName) prog_12_method_4_code 1 (some .boolean) :: ws) ({ frames := 0, cells := 0, slots := 0, locals := 0 } : Room)) (fun a U => a = #[(.ref a1)] ∧ Z.Warmed39 U.vm ∧ U.heap = h0) (fun _ _ _ _ _ => True) (fun _ U o U' => ∃ v L, o = .returned v ∧ own_Q_ie Z a1 sz h0 n0 v U'.heap L ∧ FrameEnd U o U' L ({ frames := 0, cells := 0, slots := 0, locals := 0 } : Room).cells ({ frames := 0, cells := 0, slots := 0, locals := 0 } : Room).slots) := by
  refine MetFree.of_bodySF (plainFor_of_name own_pn3) hisR ?_
  intro p e s m args below meth c s₁ Bd hml0 hP hK
  obtain ⟨rfl, hZ, hh⟩ := hP
  have hx := Bd.exec
  have hby := Bd.bytes
  have hml : c.maxLocals = 1 := hml0
  have hown : s.vm.findClass "com/example/call_throttle/callthrottle/KeyQueue" = some m.cls := findClass_of_methodNamed Bd.named
  have hnm := (name_of_methodNamed Bd.named Bd.method).1
  have X0 : Stand p l e ({ frames := 0, cells := 0, slots := 0, locals := 0 } : Room) s m #[(.ref a1)] below meth c s₁ [] 0 0 := Stand.of_body Bd
  have e0 : s₁.heap = h0 := by rw [← hh, Bd.state]; rfl
  have N0 := Fr.nil n0
  have K0 : Keep h0 h0 [] := Keep.refl _ _
  show own_Go p e below s ({ frames := 0, cells := 0, slots := 0, locals := 0 } : Room).cells ({ frames := 0, cells := 0, slots := 0, locals := 0 } : Room).slots (own_Q_ie Z a1 sz h0 n0) (s₁.setTop (entryFrame m #[(.ref a1)] 1))
  have ef : entryFrame m #[(.ref a1)] 1 = (mkF m 0 #[.val (.ref a1)] []) := by first | rfl | (simp [entryFrame, mkF, argsToLocals, Value.category, maxLocals]; done)
  rw [ef]
  show own_Go p e below s _ _ _ (s₁.setTop (mkF m 0 #[.val (.ref a1)] []))
  refine own_step (U' := (s₁.setTop (mkF m 1 #[.val (.ref a1)] [(.ref a1)]))) (fun t ht => XS.aloadN X0.here hx rfl (hb hby own_d8_0) rfl rfl ht) ?_
  obtain ⟨T42, X42, e42, st42⟩ := getF X0 hx hZ hown (host := "") (Or.inl (hw _ (List.mem_of_getElem? (i := 53) rfl))) Via.refl e0 Fsz (g := (mkF m 1 #[.val (.ref a1)] [(.ref a1)])) rfl rfl (hb hby own_d8_1)
  refine own_step (U' := (T42.setTop (mkF m 4 #[.val (.ref a1)] [(.long sz)]))) (fun t ht => st42 _ ht) ?_
  refine own_step (U' := (T42.setTop (mkF m 5 #[.val (.ref a1)] [(.long (0 : Int64)), (.long sz)]))) (fun t ht => XT.lconstV X42.here hx rfl (0 : Int64) (hb hby own_d8_4) rfl ht) ?_
  refine own_step (U' := (T42.setTop (mkF m 6 #[.val (.ref a1)] [(.int (XT.cmpL sz (0 : Int64)))]))) (fun t ht => XT.lcmp X42.here hx rfl (hb hby own_d8_5) rfl ht) ?_
  by_cases hc6_43 : sz = (0 : Int64)
  ·
    refine own_step (U' := (T42.setTop (mkF m 9 #[.val (.ref a1)] []))) (fun t ht => XS.ifNo X42.here hx rfl (hb hby own_d8_6) rfl (XT.ll_ne_f hc6_43) ht) ?_
    refine own_step (U' := (T42.setTop (mkF m 10 #[.val (.ref a1)] [(.int (1 : Int32))]))) (fun t ht => XS.iconst X42.here hx rfl (hb hby own_d8_9) ht) ?_
    refine own_step (U' := (T42.setTop (mkF m 14 #[.val (.ref a1)] [(.int (1 : Int32))]))) (fun t ht => XS.goto X42.here hx rfl (pc0 := 10) (pc' := 14) rfl (hb hby own_d8_10) (by decide) (by decide) ht) ?_
    refine own_ret X42 (v := (some (.int (nar .boolean (1 : Int32))))) (fun h => by rw [Bd.returns] at h; cases h) Bd.notSynchronized (by decide) (by decide) ?_ (fun fs hr => retN X42 hx (t := .boolean) Bd.returns (by simp) (hb hby own_d8_14) hr)
    show own_Q_ie Z a1 sz h0 n0 _ T42.heap _
    rw [e42]
    refine ⟨?_, N0, rfl⟩
    simp [own_ie, nar, hc6_43]
  ·
    refine own_step (U' := (T42.setTop (mkF m 13 #[.val (.ref a1)] []))) (fun t ht => XS.ifYes X42.here hx rfl (pc0 := 6) (pc' := 13) rfl (hb hby own_d8_6) rfl (XT.ll_ne_t hc6_43) (by decide) (by decide) ht) ?_
    refine own_step (U' := (T42.setTop (mkF m 14 #[.val (.ref a1)] [(.int (0 : Int32))]))) (fun t ht => XS.iconst X42.here hx rfl (hb hby own_d8_13) ht) ?_
    refine own_ret X42 (v := (some (.int (nar .boolean (0 : Int32))))) (fun h => by rw [Bd.returns] at h; cases h) Bd.notSynchronized (by decide) (by decide) ?_ (fun fs hr => retN X42 hx (t := .boolean) Bd.returns (by simp) (hb hby own_d8_14) hr)
    show own_Q_ie Z a1 sz h0 n0 _ T42.heap _
    rw [e42]
    refine ⟨?_, N0, rfl⟩
    simp [own_ie, nar, hc6_43]
theorem own_pn4 : plainName "com/example/call_throttle/callthrottle/KeyQueueIsEmptyPinLaw" = true := by first | (simp [plainName, overriddenIn]; done) | decide +kernel
theorem own_pd4 : parseMethodDescriptor "(Ljava/lang/String;)V" = some ⟨[(.object "java/lang/String")], none⟩ := by decide +kernel
theorem own_d9_0 : decode method_2_code 0 = .ok (.iload_n 2, 1) := by decide +kernel
theorem own_d9_1 : decode method_2_code 1 = .ok (.ifCond .eq 12, 3) := by decide +kernel
theorem own_d9_4 : decode method_2_code 4 = .ok (.aload_n 0, 1) := by decide +kernel
theorem own_d9_5 : decode method_2_code 5 = .ok (.aload_n 3, 1) := by decide +kernel
theorem own_d9_6 : decode method_2_code 6 = .ok (.invokevirtual 7, 3) := by decide +kernel
theorem own_d9_9 : decode method_2_code 9 = .ok (.iload_n 1, 1) := by decide +kernel
theorem own_d9_10 : decode method_2_code 10 = .ok (.iconst 1, 1) := by decide +kernel
theorem own_d9_11 : decode method_2_code 11 = .ok (.iadd, 1) := by decide +kernel
theorem own_d9_12 : decode method_2_code 12 = .ok (.ireturn, 1) := by decide +kernel
def own_Q_stA (Z : State) (a1 : Addr) (c1 : Addr) (r1 : Addr) (kA : ClassId) (fi : Int32) (li : Int32) (sz : Int64) (vs : List Value) (s1 : Value) (i1 : Nat) (n1 : Int32) (h0 : Heap) (n0 : Nat) (v : Option Value) (h : Heap) (L : List Loc) : Prop := v = some (.int (n1 + (1 : Int32))) ∧ Fr n0 L ∧ Keep h0 h [a1, r1] ∧ (Fld Z h a1 "com/example/call_throttle/callthrottle/KeyQueue" "first" "Lcom/example/call_throttle/callthrottle/KeyQueue$Chunk;" (.ref c1)) ∧ (Fld Z h a1 "com/example/call_throttle/callthrottle/KeyQueue" "last" "Lcom/example/call_throttle/callthrottle/KeyQueue$Chunk;" (.ref c1)) ∧ (Fld Z h a1 "com/example/call_throttle/callthrottle/KeyQueue" "firstIndex" "I" (.int fi)) ∧ (Fld Z h a1 "com/example/call_throttle/callthrottle/KeyQueue" "lastIndex" "I" (.int (li + (1 : Int32)))) ∧ (Fld Z h a1 "com/example/call_throttle/callthrottle/KeyQueue" "size" "J" (.long (sz + (1 : Int64)))) ∧ (Exa Z h a1 "com/example/call_throttle/callthrottle/KeyQueue") ∧ (Fld Z h c1 "com/example/call_throttle/callthrottle/KeyQueue$Chunk" "keys" "[Ljava/lang/String;" (.ref r1)) ∧ (Exa Z h c1 "com/example/call_throttle/callthrottle/KeyQueue$Chunk") ∧ (Arv Z h r1 kA (.object "java/lang/String") (1024 : Int32) (vs.set i1 s1) .null)
set_option maxRecDepth 65536 in
set_option maxHeartbeats 40000000 in
theorem own_m_stA (l : Launch) (Z : State) (a0 : Array Value) (hw : ∀ d ∈ tables_1, d.before a0 Z = true) (ws : List Jvm.Cond) (a1 : Addr) (c1 : Addr) (r1 : Addr) (kA : ClassId) (fi : Int32) (li : Int32) (sz : Int64) (vs : List Value) (s1 : Value) (i1 : Nat) (n1 : Int32) (h0 : Heap) (n0 : Nat) (Z0 : n0 ≤ h0.size) (g_a1 : n0 ≤ a1) (g_r1 : n0 ≤ r1) (ne_a1_r1 : a1 ≠ r1) (ne_c1_r1 : c1 ≠ r1) (Ff : Fld Z h0 a1 "com/example/call_throttle/callthrottle/KeyQueue" "first" "Lcom/example/call_throttle/callthrottle/KeyQueue$Chunk;" (.ref c1)) (Fl : Fld Z h0 a1 "com/example/call_throttle/callthrottle/KeyQueue" "last" "Lcom/example/call_throttle/callthrottle/KeyQueue$Chunk;" (.ref c1)) (Ffi : Fld Z h0 a1 "com/example/call_throttle/callthrottle/KeyQueue" "firstIndex" "I" (.int fi)) (Fli : Fld Z h0 a1 "com/example/call_throttle/callthrottle/KeyQueue" "lastIndex" "I" (.int li)) (Fsz : Fld Z h0 a1 "com/example/call_throttle/callthrottle/KeyQueue" "size" "J" (.long sz)) (E1 : Exa Z h0 a1 "com/example/call_throttle/callthrottle/KeyQueue") (Fk : Fld Z h0 c1 "com/example/call_throttle/callthrottle/KeyQueue$Chunk" "keys" "[Ljava/lang/String;" (.ref r1)) (E2 : Exa Z h0 c1 "com/example/call_throttle/callthrottle/KeyQueue$Chunk") (V1 : Arv Z h0 r1 kA (.object "java/lang/String") (1024 : Int32) vs .null) (hs1 : own_Key Z h0 s1) (hov : Ovr Z kA "java/lang/String") (hl : ¬ li = 1024) (hb1 : ¬ li < 0) (hb2 : li < 1024) (hi : li.toNatClampNeg = i1) (hi2 : i1 < vs.length) :
    MetFree l (⟨"com/example/call_throttle/callthrottle/KeyQueueIsEmptyPinLaw", "step", "(Lcom/example/call_throttle/callthrottle/KeyQueue;IZLjava/lang/String;)I"⟩ : MethodName) (head1 (Jvm.Cond.code (⟨"com/example/call_throttle/callthrottle/KeyQueueIsEmptyPinLaw", "step", "(Lcom/example/call_throttle/callthrottle/KeyQueue;IZLjava/lang/String;)I"⟩ : MethodName) method_2_code 4 (some .int) :: ws) ({ frames := 1, cells := 0, slots := 0, locals := 14 } : Room)) (fun a U => a = #[(.ref a1), (.int n1), (.int (1 : Int32)), s1] ∧ Z.Warmed39 U.vm ∧ U.heap = h0) (fun _ _ _ _ _ => True) (fun _ U o U' => ∃ v L, o = .returned v ∧ own_Q_stA Z a1 c1 r1 kA fi li sz vs s1 i1 n1 h0 n0 v U'.heap L ∧ FrameEnd U o U' L ({ frames := 1, cells := 0, slots := 0, locals := 14 } : Room).cells ({ frames := 1, cells := 0, slots := 0, locals := 14 } : Room).slots) := by
  refine MetFree.of_bodySF (plainFor_of_name own_pn4) hisR ?_
  intro p e s m args below meth c s₁ Bd hml0 hP hK
  obtain ⟨rfl, hZ, hh⟩ := hP
  have hx := Bd.exec
  have hby := Bd.bytes
  have hml : c.maxLocals = 4 := hml0
  have hown : s.vm.findClass "com/example/call_throttle/callthrottle/KeyQueueIsEmptyPinLaw" = some m.cls := findClass_of_methodNamed Bd.named
  have hnm := (name_of_methodNamed Bd.named Bd.method).1
  have X0 : Stand p l e ({ frames := 1, cells := 0, slots := 0, locals := 14 } : Room) s m #[(.ref a1), (.int n1), (.int (1 : Int32)), s1] below meth c s₁ [] 0 0 := Stand.of_body Bd
  have e0 : s₁.heap = h0 := by rw [← hh, Bd.state]; rfl
  have N0 := Fr.nil n0
  have K0 : Keep h0 h0 [a1, r1] := Keep.refl _ _
  show own_Go p e below s ({ frames := 1, cells := 0, slots := 0, locals := 14 } : Room).cells ({ frames := 1, cells := 0, slots := 0, locals := 14 } : Room).slots (own_Q_stA Z a1 c1 r1 kA fi li sz vs s1 i1 n1 h0 n0) (s₁.setTop (entryFrame m #[(.ref a1), (.int n1), (.int (1 : Int32)), s1] 4))
  have ef : entryFrame m #[(.ref a1), (.int n1), (.int (1 : Int32)), s1] 4 = (mkF m 0 #[.val (.ref a1), .val (.int n1), .val (.int (1 : Int32)), .val s1] []) := by first | rfl | (rcases XT.refc (hs1.isRef) with rfl | ⟨_, rfl⟩ <;> rfl) | (simp [entryFrame, mkF, argsToLocals, Value.category, maxLocals]; done)
  rw [ef]
  show own_Go p e below s _ _ _ (s₁.setTop (mkF m 0 #[.val (.ref a1), .val (.int n1), .val (.int (1 : Int32)), .val s1] []))
  refine own_step (U' := (s₁.setTop (mkF m 1 #[.val (.ref a1), .val (.int n1), .val (.int (1 : Int32)), .val s1] [(.int (1 : Int32))]))) (fun t ht => XS.iloadN X0.here hx rfl (hb hby own_d9_0) rfl ht) ?_
  refine own_step (U' := (s₁.setTop (mkF m 4 #[.val (.ref a1), .val (.int n1), .val (.int (1 : Int32)), .val s1] []))) (fun t ht => XS.ifNo X0.here hx rfl (hb hby own_d9_1) rfl (XT.i0_eq_f ((by decide) : ¬ ((1 : Int32) = 0))) ht) ?_
  refine own_step (U' := (s₁.setTop (mkF m 5 #[.val (.ref a1), .val (.int n1), .val (.int (1 : Int32)), .val s1] [(.ref a1)]))) (fun t ht => XS.aloadN X0.here hx rfl (hb hby own_d9_4) rfl rfl ht) ?_
  refine own_step (U' := (s₁.setTop (mkF m 6 #[.val (.ref a1), .val (.int n1), .val (.int (1 : Int32)), .val s1] [s1, (.ref a1)]))) (fun t ht => XS.aloadN X0.here hx rfl (hb hby own_d9_5) rfl hs1.isRef ht) ?_
  obtain ⟨cq44, kq44, q44a, q44b, q44c⟩ := isOf hZ e0 E1
  obtain ⟨_, _, ⟨T44, L44, k44, n44⟩, -, X44, ⟨Lc44, hQ44, l44, y44, z44⟩, st44⟩ := X0.virtualBack hx (y := (⟨"com/example/call_throttle/callthrottle/KeyQueue", "addLast", "(Ljava/lang/String;)V"⟩ : MethodName)) (z := (⟨"com/example/call_throttle/callthrottle/KeyQueue", "addLast", "(Ljava/lang/String;)V"⟩ : MethodName)) hown (mvT hZ (hw _ (List.mem_of_getElem? (i := 59) rfl))) (mvT hZ (hw _ (List.mem_of_getElem? (i := 60) rfl))) (notFace_of_selects (args := #[]) (mvT hZ (hw _ (List.mem_of_getElem? (i := 62) rfl)))) (mvT hZ (hw _ (List.mem_of_getElem? (i := 62) rfl))) (mvT hZ (hw _ (List.mem_of_getElem? (i := 61) rfl))) (by decide) (backOf (W := 0) (own_m_add l Z a0 hw [] (a1) (c1) (r1) (kA) (fi) (li) (sz) (vs) (s1) (i1) h0 n0 Z0 g_a1 g_r1 ne_a1_r1 ne_c1_r1 Ff Fl Ffi Fli Fsz E1 Fk E2 V1 hs1 hov hl hb1 hb2 hi hi2) hZ (hw _ (List.mem_of_getElem? (i := 63) rfl)) (hw _ (List.mem_of_getElem? (i := 2) rfl)) (by decide) (by decide)) q44a q44c (g := (mkF m 6 #[.val (.ref a1), .val (.int n1), .val (.int (1 : Int32)), .val s1] [s1, (.ref a1)])) rfl (by rw [hml]; rfl) (Steps.refl _) (argsL := [s1]) (rest := []) (lenOf own_pd4 rfl) rfl (by show 2 * 0 + _ ≤ _; exact Nat.le_of_eq rfl) (hb hby own_d9_6) (fun _ _ => ⟨rfl, e0, (by decide : 0 + 0 ≤ _), (by decide : 0 + 0 ≤ _)⟩)
  dsimp only [Pt.U, Pt.locs, Pt.cells, Pt.slots] at X44 l44 y44 z44 st44 hQ44
  subst l44 y44 z44
  obtain ⟨rfl, Nq44, Kq44, Fq44_0, Fq44_1, Fq44_2, Fq44_3, Fq44_4, Fq44_5, Fq44_6, Fq44_7, Fq44_8⟩ := hQ44
  have N44 := Fr.app N0 Nq44
  have f44_5 : Exa Z T44.heap a1 "com/example/call_throttle/callthrottle/KeyQueue" := E1.keep Kq44
  have f44_6 : Fld Z T44.heap c1 "com/example/call_throttle/callthrottle/KeyQueue$Chunk" "keys" "[Ljava/lang/String;" (.ref r1) := Fk.keep Kq44 (ninS (ne_exa E2 E1 (by decide)) (ninS ne_c1_r1 nin0))
  have f44_7 : Exa Z T44.heap c1 "com/example/call_throttle/callthrottle/KeyQueue$Chunk" := E2.keep Kq44
  have f44_9 : own_Key Z T44.heap s1 := hs1.keep Kq44
  have K44 : Keep h0 T44.heap [a1, r1] := K0.trans Kq44 (allS (Or.inl (by simp)) (allS (Or.inl (by simp)) all0))
  refine own_step (U' := (T44.setTop (mkF m 9 #[.val (.ref a1), .val (.int n1), .val (.int (1 : Int32)), .val s1] []))) (fun t ht => st44.trans ht) ?_
  refine own_step (U' := (T44.setTop (mkF m 10 #[.val (.ref a1), .val (.int n1), .val (.int (1 : Int32)), .val s1] [(.int n1)]))) (fun t ht => XS.iloadN X44.here hx rfl (hb hby own_d9_9) rfl ht) ?_
  refine own_step (U' := (T44.setTop (mkF m 11 #[.val (.ref a1), .val (.int n1), .val (.int (1 : Int32)), .val s1] [(.int (1 : Int32)), (.int n1)]))) (fun t ht => XS.iconst X44.here hx rfl (hb hby own_d9_10) ht) ?_
  refine own_step (U' := (T44.setTop (mkF m 12 #[.val (.ref a1), .val (.int n1), .val (.int (1 : Int32)), .val s1] [(.int (n1 + (1 : Int32)))]))) (fun t ht => XS.iadd X44.here hx rfl (hb hby own_d9_11) rfl ht) ?_
  refine own_ret X44 (v := (some (.int (n1 + (1 : Int32))))) (fun h => by rw [Bd.returns] at h; cases h) Bd.notSynchronized (by decide) (by decide) ?_ (fun fs hr => retI X44 hx Bd.returns (hb hby own_d9_12) hr)
  show own_Q_stA Z a1 c1 r1 kA fi li sz vs s1 i1 n1 h0 n0 _ T44.heap _
  show own_Q_stA Z a1 c1 r1 kA fi li sz vs s1 i1 n1 h0 n0 _ T44.heap _
  exact ⟨rfl, N44, K44, Fq44_0, Fq44_1, Fq44_2, Fq44_3, Fq44_4, Fq44_5, Fq44_6, Fq44_7, Fq44_8⟩
theorem own_pd5 : parseMethodDescriptor "()Ljava/lang/String;" = some ⟨[], some (.object "java/lang/String")⟩ := by decide +kernel
theorem own_d9_13 : decode method_2_code 13 = .ok (.iload_n 1, 1) := by decide +kernel
theorem own_d9_14 : decode method_2_code 14 = .ok (.ifCond .le 12, 3) := by decide +kernel
theorem own_d9_17 : decode method_2_code 17 = .ok (.aload_n 0, 1) := by decide +kernel
theorem own_d9_18 : decode method_2_code 18 = .ok (.invokevirtual 13, 3) := by decide +kernel
theorem own_d9_21 : decode method_2_code 21 = .ok (.pop, 1) := by decide +kernel
theorem own_d9_22 : decode method_2_code 22 = .ok (.iload_n 1, 1) := by decide +kernel
theorem own_d9_23 : decode method_2_code 23 = .ok (.iconst 1, 1) := by decide +kernel
theorem own_d9_24 : decode method_2_code 24 = .ok (.isub, 1) := by decide +kernel
theorem own_d9_25 : decode method_2_code 25 = .ok (.ireturn, 1) := by decide +kernel
def own_Q_stR (Z : State) (a1 : Addr) (c1 : Addr) (r1 : Addr) (kA : ClassId) (fi : Int32) (li : Int32) (sz : Int64) (vs : List Value) (s1 : Value) (u1 : Value) (j1 : Nat) (n1 : Int32) (h0 : Heap) (n0 : Nat) (v : Option Value) (h : Heap) (L : List Loc) : Prop := v = some (.int (n1 - (1 : Int32))) ∧ Fr n0 L ∧ Keep h0 h [a1, r1] ∧ (Fld Z h a1 "com/example/call_throttle/callthrottle/KeyQueue" "first" "Lcom/example/call_throttle/callthrottle/KeyQueue$Chunk;" (.ref c1)) ∧ (Fld Z h a1 "com/example/call_throttle/callthrottle/KeyQueue" "last" "Lcom/example/call_throttle/callthrottle/KeyQueue$Chunk;" (.ref c1)) ∧ (Fld Z h a1 "com/example/call_throttle/callthrottle/KeyQueue" "firstIndex" "I" (.int (fi + (1 : Int32)))) ∧ (Fld Z h a1 "com/example/call_throttle/callthrottle/KeyQueue" "lastIndex" "I" (.int li)) ∧ (Fld Z h a1 "com/example/call_throttle/callthrottle/KeyQueue" "size" "J" (.long (sz - (1 : Int64)))) ∧ (Exa Z h a1 "com/example/call_throttle/callthrottle/KeyQueue") ∧ (Fld Z h c1 "com/example/call_throttle/callthrottle/KeyQueue$Chunk" "keys" "[Ljava/lang/String;" (.ref r1)) ∧ (Exa Z h c1 "com/example/call_throttle/callthrottle/KeyQueue$Chunk") ∧ (Arv Z h r1 kA (.object "java/lang/String") (1024 : Int32) (vs.set j1 .null) .null)
set_option maxRecDepth 65536 in
set_option maxHeartbeats 40000000 in
theorem own_m_stR (l : Launch) (Z : State) (a0 : Array Value) (hw : ∀ d ∈ tables_1, d.before a0 Z = true) (ws : List Jvm.Cond) (a1 : Addr) (c1 : Addr) (r1 : Addr) (kA : ClassId) (fi : Int32) (li : Int32) (sz : Int64) (vs : List Value) (s1 : Value) (u1 : Value) (j1 : Nat) (n1 : Int32) (h0 : Heap) (n0 : Nat) (Z0 : n0 ≤ h0.size) (g_a1 : n0 ≤ a1) (g_r1 : n0 ≤ r1) (ne_a1_r1 : a1 ≠ r1) (ne_c1_r1 : c1 ≠ r1) (Ff : Fld Z h0 a1 "com/example/call_throttle/callthrottle/KeyQueue" "first" "Lcom/example/call_throttle/callthrottle/KeyQueue$Chunk;" (.ref c1)) (Fl : Fld Z h0 a1 "com/example/call_throttle/callthrottle/KeyQueue" "last" "Lcom/example/call_throttle/callthrottle/KeyQueue$Chunk;" (.ref c1)) (Ffi : Fld Z h0 a1 "com/example/call_throttle/callthrottle/KeyQueue" "firstIndex" "I" (.int fi)) (Fli : Fld Z h0 a1 "com/example/call_throttle/callthrottle/KeyQueue" "lastIndex" "I" (.int li)) (Fsz : Fld Z h0 a1 "com/example/call_throttle/callthrottle/KeyQueue" "size" "J" (.long sz)) (E1 : Exa Z h0 a1 "com/example/call_throttle/callthrottle/KeyQueue") (Fk : Fld Z h0 c1 "com/example/call_throttle/callthrottle/KeyQueue$Chunk" "keys" "[Ljava/lang/String;" (.ref r1)) (E2 : Exa Z h0 c1 "com/example/call_throttle/callthrottle/KeyQueue$Chunk") (V1 : Arv Z h0 r1 kA (.object "java/lang/String") (1024 : Int32) vs .null) (hsz : ¬ sz = 0) (hf : ¬ fi = 1024) (hb1 : ¬ fi < 0) (hb2 : fi < 1024) (hj : fi.toNatClampNeg = j1) (hj2 : j1 < vs.length) (hu : vs.getD fi.toNatClampNeg .null = u1) (hur : u1.isRef = true) (hs1 : s1.isRef = true) (hn1 : 0 < n1) :
    MetFree l (⟨"com/example/call_throttle/callthrottle/KeyQueueIsEmptyPinLaw", "step", "(Lcom/example/call_throttle/callthrottle/KeyQueue;IZLjava/lang/String;)I"⟩ : MethodName) (head1 (Jvm.Cond.code (⟨"com/example/call_throttle/callthrottle/KeyQueueIsEmptyPinLaw", "step", "(Lcom/example/call_throttle/callthrottle/KeyQueue;IZLjava/lang/String;)I"⟩ : MethodName) method_2_code 4 (some .int) :: ws) ({ frames := 1, cells := 0, slots := 0, locals := 13 } : Room)) (fun a U => a = #[(.ref a1), (.int n1), (.int (0 : Int32)), s1] ∧ Z.Warmed39 U.vm ∧ U.heap = h0) (fun _ _ _ _ _ => True) (fun _ U o U' => ∃ v L, o = .returned v ∧ own_Q_stR Z a1 c1 r1 kA fi li sz vs s1 u1 j1 n1 h0 n0 v U'.heap L ∧ FrameEnd U o U' L ({ frames := 1, cells := 0, slots := 0, locals := 13 } : Room).cells ({ frames := 1, cells := 0, slots := 0, locals := 13 } : Room).slots) := by
  refine MetFree.of_bodySF (plainFor_of_name own_pn4) hisR ?_
  intro p e s m args below meth c s₁ Bd hml0 hP hK
  obtain ⟨rfl, hZ, hh⟩ := hP
  have hx := Bd.exec
  have hby := Bd.bytes
  have hml : c.maxLocals = 4 := hml0
  have hown : s.vm.findClass "com/example/call_throttle/callthrottle/KeyQueueIsEmptyPinLaw" = some m.cls := findClass_of_methodNamed Bd.named
  have hnm := (name_of_methodNamed Bd.named Bd.method).1
  have X0 : Stand p l e ({ frames := 1, cells := 0, slots := 0, locals := 13 } : Room) s m #[(.ref a1), (.int n1), (.int (0 : Int32)), s1] below meth c s₁ [] 0 0 := Stand.of_body Bd
  have e0 : s₁.heap = h0 := by rw [← hh, Bd.state]; rfl
  have N0 := Fr.nil n0
  have K0 : Keep h0 h0 [a1, r1] := Keep.refl _ _
  show own_Go p e below s ({ frames := 1, cells := 0, slots := 0, locals := 13 } : Room).cells ({ frames := 1, cells := 0, slots := 0, locals := 13 } : Room).slots (own_Q_stR Z a1 c1 r1 kA fi li sz vs s1 u1 j1 n1 h0 n0) (s₁.setTop (entryFrame m #[(.ref a1), (.int n1), (.int (0 : Int32)), s1] 4))
  have ef : entryFrame m #[(.ref a1), (.int n1), (.int (0 : Int32)), s1] 4 = (mkF m 0 #[.val (.ref a1), .val (.int n1), .val (.int (0 : Int32)), .val s1] []) := by first | rfl | (rcases XT.refc (hs1) with rfl | ⟨_, rfl⟩ <;> rfl) | (simp [entryFrame, mkF, argsToLocals, Value.category, maxLocals]; done)
  rw [ef]
  show own_Go p e below s _ _ _ (s₁.setTop (mkF m 0 #[.val (.ref a1), .val (.int n1), .val (.int (0 : Int32)), .val s1] []))
  refine own_step (U' := (s₁.setTop (mkF m 1 #[.val (.ref a1), .val (.int n1), .val (.int (0 : Int32)), .val s1] [(.int (0 : Int32))]))) (fun t ht => XS.iloadN X0.here hx rfl (hb hby own_d9_0) rfl ht) ?_
  refine own_step (U' := (s₁.setTop (mkF m 13 #[.val (.ref a1), .val (.int n1), .val (.int (0 : Int32)), .val s1] []))) (fun t ht => XS.ifYes X0.here hx rfl (pc0 := 1) (pc' := 13) rfl (hb hby own_d9_1) rfl (XT.i0_eq_t ((by decide) : (0 : Int32) = 0)) (by decide) (by decide) ht) ?_
  refine own_step (U' := (s₁.setTop (mkF m 14 #[.val (.ref a1), .val (.int n1), .val (.int (0 : Int32)), .val s1] [(.int n1)]))) (fun t ht => XS.iloadN X0.here hx rfl (hb hby own_d9_13) rfl ht) ?_
  refine own_step (U' := (s₁.setTop (mkF m 17 #[.val (.ref a1), .val (.int n1), .val (.int (0 : Int32)), .val s1] []))) (fun t ht => XS.ifNo X0.here hx rfl (hb hby own_d9_14) rfl (XT.i0_le_f (hn1 : 0 < n1)) ht) ?_
  refine own_step (U' := (s₁.setTop (mkF m 18 #[.val (.ref a1), .val (.int n1), .val (.int (0 : Int32)), .val s1] [(.ref a1)]))) (fun t ht => XS.aloadN X0.here hx rfl (hb hby own_d9_17) rfl rfl ht) ?_
  obtain ⟨cq45, kq45, q45a, q45b, q45c⟩ := isOf hZ e0 E1
  obtain ⟨_, _, ⟨T45, L45, k45, n45⟩, -, X45, ⟨Lc45, hQ45, l45, y45, z45⟩, st45⟩ := X0.virtualBack hx (y := (⟨"com/example/call_throttle/callthrottle/KeyQueue", "removeFirst", "()Ljava/lang/String;"⟩ : MethodName)) (z := (⟨"com/example/call_throttle/callthrottle/KeyQueue", "removeFirst", "()Ljava/lang/String;"⟩ : MethodName)) hown (mvT hZ (hw _ (List.mem_of_getElem? (i := 67) rfl))) (mvT hZ (hw _ (List.mem_of_getElem? (i := 68) rfl))) (notFace_of_selects (args := #[]) (mvT hZ (hw _ (List.mem_of_getElem? (i := 70) rfl)))) (mvT hZ (hw _ (List.mem_of_getElem? (i := 70) rfl))) (mvT hZ (hw _ (List.mem_of_getElem? (i := 69) rfl))) (by decide) (backOf (W := 0) (own_m_rem l Z a0 hw [] (a1) (c1) (r1) (kA) (fi) (li) (sz) (vs) (u1) (j1) h0 n0 Z0 g_a1 g_r1 ne_a1_r1 ne_c1_r1 Ff Fl Ffi Fli Fsz E1 Fk E2 V1 hsz hf hb1 hb2 hj hj2 hu hur) hZ (hw _ (List.mem_of_getElem? (i := 71) rfl)) (hw _ (List.mem_of_getElem? (i := 2) rfl)) (by decide) (by decide)) q45a q45c (g := (mkF m 18 #[.val (.ref a1), .val (.int n1), .val (.int (0 : Int32)), .val s1] [(.ref a1)])) rfl (by rw [hml]; rfl) (Steps.refl _) (argsL := []) (rest := []) (lenOf own_pd5 rfl) rfl (by show 2 * 0 + _ ≤ _; exact Nat.le_of_eq rfl) (hb hby own_d9_18) (fun _ _ => ⟨rfl, e0, (by decide : 0 + 0 ≤ _), (by decide : 0 + 0 ≤ _)⟩)
  dsimp only [Pt.U, Pt.locs, Pt.cells, Pt.slots] at X45 l45 y45 z45 st45 hQ45
  subst l45 y45 z45
  obtain ⟨rfl, Nq45, Kq45, Fq45_0, Fq45_1, Fq45_2, Fq45_3, Fq45_4, Fq45_5, Fq45_6, Fq45_7, Fq45_8⟩ := hQ45
  have N45 := Fr.app N0 Nq45
  have f45_5 : Exa Z T45.heap a1 "com/example/call_throttle/callthrottle/KeyQueue" := E1.keep Kq45
  have f45_6 : Fld Z T45.heap c1 "com/example/call_throttle/callthrottle/KeyQueue$Chunk" "keys" "[Ljava/lang/String;" (.ref r1) := Fk.keep Kq45 (ninS (ne_exa E2 E1 (by decide)) (ninS ne_c1_r1 nin0))
  have f45_7 : Exa Z T45.heap c1 "com/example/call_throttle/callthrottle/KeyQueue$Chunk" := E2.keep Kq45
  have K45 : Keep h0 T45.heap [a1, r1] := K0.trans Kq45 (allS (Or.inl (by simp)) (allS (Or.inl (by simp)) all0))
  refine own_step (U' := (T45.setTop (mkF m 21 #[.val (.ref a1), .val (.int n1), .val (.int (0 : Int32)), .val s1] [u1]))) (fun t ht => st45.trans ht) ?_
  refine own_step (U' := (T45.setTop (mkF m 22 #[.val (.ref a1), .val (.int n1), .val (.int (0 : Int32)), .val s1] []))) (fun t ht => XT.pop X45.here hx rfl (hb hby own_d9_21) rfl (XT.cat1 hur) ht) ?_
  refine own_step (U' := (T45.setTop (mkF m 23 #[.val (.ref a1), .val (.int n1), .val (.int (0 : Int32)), .val s1] [(.int n1)]))) (fun t ht => XS.iloadN X45.here hx rfl (hb hby own_d9_22) rfl ht) ?_
  refine own_step (U' := (T45.setTop (mkF m 24 #[.val (.ref a1), .val (.int n1), .val (.int (0 : Int32)), .val s1] [(.int (1 : Int32)), (.int n1)]))) (fun t ht => XS.iconst X45.here hx rfl (hb hby own_d9_23) ht) ?_
  refine own_step (U' := (T45.setTop (mkF m 25 #[.val (.ref a1), .val (.int n1), .val (.int (0 : Int32)), .val s1] [(.int (n1 - (1 : Int32)))]))) (fun t ht => XS.isub X45.here hx rfl (hb hby own_d9_24) rfl ht) ?_
  refine own_ret X45 (v := (some (.int (n1 - (1 : Int32))))) (fun h => by rw [Bd.returns] at h; cases h) Bd.notSynchronized (by decide) (by decide) ?_ (fun fs hr => retI X45 hx Bd.returns (hb hby own_d9_25) hr)
  show own_Q_stR Z a1 c1 r1 kA fi li sz vs s1 u1 j1 n1 h0 n0 _ T45.heap _
  show own_Q_stR Z a1 c1 r1 kA fi li sz vs s1 u1 j1 n1 h0 n0 _ T45.heap _
  exact ⟨rfl, N45, K45, Fq45_0, Fq45_1, Fq45_2, Fq45_3, Fq45_4, Fq45_5, Fq45_6, Fq45_7, Fq45_8⟩
theorem own_d9_26 : decode method_2_code 26 = .ok (.iload_n 1, 1) := by decide +kernel
theorem own_d9_27 : decode method_2_code 27 = .ok (.ireturn, 1) := by decide +kernel
def own_Q_stN (Z : State) (a1 : Addr) (s1 : Value) (n1 : Int32) (h0 : Heap) (n0 : Nat) (v : Option Value) (h : Heap) (L : List Loc) : Prop := v = some (.int n1) ∧ Fr n0 L ∧ h = h0
set_option maxRecDepth 65536 in
set_option maxHeartbeats 40000000 in
theorem own_m_stN (l : Launch) (Z : State) (a0 : Array Value) (hw : ∀ d ∈ tables_1, d.before a0 Z = true) (ws : List Jvm.Cond) (a1 : Addr) (s1 : Value) (n1 : Int32) (h0 : Heap) (n0 : Nat) (Z0 : n0 ≤ h0.size) (hs1 : s1.isRef = true) (hn1 : ¬ 0 < n1) :
    MetFree l (⟨"com/example/call_throttle/callthrottle/KeyQueueIsEmptyPinLaw", "step", "(Lcom/example/call_throttle/callthrottle/KeyQueue;IZLjava/lang/String;)I"⟩ : MethodName) (head1 (Jvm.Cond.code (⟨"com/example/call_throttle/callthrottle/KeyQueueIsEmptyPinLaw", "step", "(Lcom/example/call_throttle/callthrottle/KeyQueue;IZLjava/lang/String;)I"⟩ : MethodName) method_2_code 4 (some .int) :: ws) ({ frames := 0, cells := 0, slots := 0, locals := 0 } : Room)) (fun a U => a = #[(.ref a1), (.int n1), (.int (0 : Int32)), s1] ∧ Z.Warmed39 U.vm ∧ U.heap = h0) (fun _ _ _ _ _ => True) (fun _ U o U' => ∃ v L, o = .returned v ∧ own_Q_stN Z a1 s1 n1 h0 n0 v U'.heap L ∧ FrameEnd U o U' L ({ frames := 0, cells := 0, slots := 0, locals := 0 } : Room).cells ({ frames := 0, cells := 0, slots := 0, locals := 0 } : Room).slots) := by
  refine MetFree.of_bodySF (plainFor_of_name own_pn4) hisR ?_
  intro p e s m args below meth c s₁ Bd hml0 hP hK
  obtain ⟨rfl, hZ, hh⟩ := hP
  have hx := Bd.exec
  have hby := Bd.bytes
  have hml : c.maxLocals = 4 := hml0
  have hown : s.vm.findClass "com/example/call_throttle/callthrottle/KeyQueueIsEmptyPinLaw" = some m.cls := findClass_of_methodNamed Bd.named
  have hnm := (name_of_methodNamed Bd.named Bd.method).1
  have X0 : Stand p l e ({ frames := 0, cells := 0, slots := 0, locals := 0 } : Room) s m #[(.ref a1), (.int n1), (.int (0 : Int32)), s1] below meth c s₁ [] 0 0 := Stand.of_body Bd
  have e0 : s₁.heap = h0 := by rw [← hh, Bd.state]; rfl
  have N0 := Fr.nil n0
  have K0 : Keep h0 h0 [] := Keep.refl _ _
  show own_Go p e below s ({ frames := 0, cells := 0, slots := 0, locals := 0 } : Room).cells ({ frames := 0, cells := 0, slots := 0, locals := 0 } : Room).slots (own_Q_stN Z a1 s1 n1 h0 n0) (s₁.setTop (entryFrame m #[(.ref a1), (.int n1), (.int (0 : Int32)), s1] 4))
  have ef : entryFrame m #[(.ref a1), (.int n1), (.int (0 : Int32)), s1] 4 = (mkF m 0 #[.val (.ref a1), .val (.int n1), .val (.int (0 : Int32)), .val s1] []) := by first | rfl | (rcases XT.refc (hs1) with rfl | ⟨_, rfl⟩ <;> rfl) | (simp [entryFrame, mkF, argsToLocals, Value.category, maxLocals]; done)
  rw [ef]
  show own_Go p e below s _ _ _ (s₁.setTop (mkF m 0 #[.val (.ref a1), .val (.int n1), .val (.int (0 : Int32)), .val s1] []))
  refine own_step (U' := (s₁.setTop (mkF m 1 #[.val (.ref a1), .val (.int n1), .val (.int (0 : Int32)), .val s1] [(.int (0 : Int32))]))) (fun t ht => XS.iloadN X0.here hx rfl (hb hby own_d9_0) rfl ht) ?_
  refine own_step (U' := (s₁.setTop (mkF m 13 #[.val (.ref a1), .val (.int n1), .val (.int (0 : Int32)), .val s1] []))) (fun t ht => XS.ifYes X0.here hx rfl (pc0 := 1) (pc' := 13) rfl (hb hby own_d9_1) rfl (XT.i0_eq_t ((by decide) : (0 : Int32) = 0)) (by decide) (by decide) ht) ?_
  refine own_step (U' := (s₁.setTop (mkF m 14 #[.val (.ref a1), .val (.int n1), .val (.int (0 : Int32)), .val s1] [(.int n1)]))) (fun t ht => XS.iloadN X0.here hx rfl (hb hby own_d9_13) rfl ht) ?_
  refine own_step (U' := (s₁.setTop (mkF m 26 #[.val (.ref a1), .val (.int n1), .val (.int (0 : Int32)), .val s1] []))) (fun t ht => XS.ifYes X0.here hx rfl (pc0 := 14) (pc' := 26) rfl (hb hby own_d9_14) rfl (XT.i0_le_t (hn1 : ¬ (0 < n1))) (by decide) (by decide) ht) ?_
  refine own_step (U' := (s₁.setTop (mkF m 27 #[.val (.ref a1), .val (.int n1), .val (.int (0 : Int32)), .val s1] [(.int n1)]))) (fun t ht => XS.iloadN X0.here hx rfl (hb hby own_d9_26) rfl ht) ?_
  refine own_ret X0 (v := (some (.int n1))) (fun h => by rw [Bd.returns] at h; cases h) Bd.notSynchronized (by decide) (by decide) ?_ (fun fs hr => retI X0 hx Bd.returns (hb hby own_d9_27) hr)
  show own_Q_stN Z a1 s1 n1 h0 n0 _ s₁.heap _
  rw [e0]
  exact ⟨rfl, N0, rfl⟩
theorem own_pd6 : parseMethodDescriptor "(C)Ljava/lang/String;" = some ⟨[.char], some (.object "java/lang/String")⟩ := by decide +kernel
theorem own_pd7 : parseMethodDescriptor "()Z" = some ⟨[], some .boolean⟩ := by decide +kernel
theorem own_pd8 : parseMethodDescriptor "(Lcom/example/call_throttle/callthrottle/KeyQueue;IZLjava/lang/String;)I" = some ⟨[(.object "com/example/call_throttle/callthrottle/KeyQueue"), .int, .boolean, (.object "java/lang/String")], some .int⟩ := by decide +kernel
def own_Q_law (Z : State) (p1 : Int32) (p2 : Int32) (cz : Int32) (h0 : Heap) (n0 : Nat) (v : Option Value) (h : Heap) (L : List Loc) : Prop := v = some (.int 1) ∧ Fr n0 L
set_option maxRecDepth 65536 in
set_option maxHeartbeats 40000000 in
theorem own_m_law (l : Launch) (Z : State) (a0 : Array Value) (hw : ∀ d ∈ tables_1, d.before a0 Z = true) (ws : List Jvm.Cond) (p1 : Int32) (p2 : Int32) (cz : Int32) (h0 : Heap) (n0 : Nat) (Z0 : n0 ≤ h0.size) (S_cz : Sta Z h0 "java/lang/String" "COMPACT_STRINGS" "Z" (.int cz)) (hcz : ¬ cz = 0) :
    MetFree l x (head1 (Jvm.Cond.code x code maxLocals ret :: ws) room_1) (fun a U => a = #[(.int p1), (.int p2)] ∧ Z.Warmed39 U.vm ∧ U.heap = h0) (fun _ _ _ _ _ => True) (fun _ U o U' => ∃ v L, o = .returned v ∧ own_Q_law Z p1 p2 cz h0 n0 v U'.heap L ∧ FrameEnd U o U' L 5 1036) := by
  refine MetFree.of_bodySF (plainFor_of_name own_pn4) hisR ?_
  intro p e s m args below meth c s₁ Bd hml0 hP hK
  obtain ⟨rfl, hZ, hh⟩ := hP
  have hx := Bd.exec
  have hby := Bd.bytes
  have hml : c.maxLocals = 6 := hml0
  have hown : s.vm.findClass "com/example/call_throttle/callthrottle/KeyQueueIsEmptyPinLaw" = some m.cls := findClass_of_methodNamed Bd.named
  have hnm := (name_of_methodNamed Bd.named Bd.method).1
  have X0 : Stand p l e room_1 s m #[(.int p1), (.int p2)] below meth c s₁ [] 0 0 := Stand.of_body Bd
  have e0 : s₁.heap = h0 := by rw [← hh, Bd.state]; rfl
  have N0 := Fr.nil n0
  have K0 : Keep h0 h0 [] := Keep.refl _ _
  show own_Go p e below s 5 1036 (own_Q_law Z p1 p2 cz h0 n0) (s₁.setTop (entryFrame m #[(.int p1), (.int p2)] maxLocals))
  have ef : entryFrame m #[(.int p1), (.int p2)] maxLocals = (mkF m 0 #[.val (.int p1), .val (.int p2), .unset, .unset, .unset, .unset] []) := by first | rfl | (simp [entryFrame, mkF, argsToLocals, Value.category, maxLocals]; done)
  rw [ef]
  show own_Go p e below s _ _ _ (s₁.setTop (mkF m 0 #[.val (.int p1), .val (.int p2), .unset, .unset, .unset, .unset] []))
  obtain ⟨T46, h46, X46, e46, E46, A46, D46, -, st46⟩ := newO X0 hx hZ hown (hw _ (List.mem_of_getElem? (i := 0) rfl)) (hw _ (List.mem_of_getElem? (i := 1) rfl)) (hw _ (List.mem_of_getElem? (i := 2) rfl)) e0 (g := (mkF m 0 #[.val (.int p1), .val (.int p2), .unset, .unset, .unset, .unset] [])) rfl (hb hby at_0) (by decide) (by decide)
  obtain ⟨b46, g46⟩ : ∃ z, z = (h0).size := ⟨_, rfl⟩
  rw [← g46] at A46 D46 st46
  have g_b46 : n0 ≤ b46 := Nat.le_trans (Nat.le_trans Z0 K0.1) (Nat.le_of_eq g46.symm)
  have sz_b46 : h0.size ≤ b46 := Nat.le_trans K0.1 (Nat.le_of_eq g46.symm)
  have f46_0 : Sta Z h46 "java/lang/String" "COMPACT_STRINGS" "Z" (.int cz) := S_cz.ext E46
  have K46 : Keep h0 h46 [] := K0.ext E46
  have F46_21 : Fld Z h46 b46 "com/example/call_throttle/callthrottle/KeyQueue" "first" "Lcom/example/call_throttle/callthrottle/KeyQueue$Chunk;" .null := D46 (Or.inl (hw _ (List.mem_of_getElem? (i := 21) rfl))) (ty := (.object "com/example/call_throttle/callthrottle/KeyQueue$Chunk")) (by decide)
  have F46_23 : Fld Z h46 b46 "com/example/call_throttle/callthrottle/KeyQueue" "last" "Lcom/example/call_throttle/callthrottle/KeyQueue$Chunk;" .null := D46 (Or.inl (hw _ (List.mem_of_getElem? (i := 23) rfl))) (ty := (.object "com/example/call_throttle/callthrottle/KeyQueue$Chunk")) (by decide)
  have F46_54 : Fld Z h46 b46 "com/example/call_throttle/callthrottle/KeyQueue" "size" "J" (.long (0 : Int64)) := D46 (Or.inl (hw _ (List.mem_of_getElem? (i := 54) rfl))) (ty := .long) (by decide)
  have F46_65 : Fld Z h46 b46 "com/example/call_throttle/callthrottle/KeyQueue" "lastIndex" "I" (.int (0 : Int32)) := D46 (Or.inl (hw _ (List.mem_of_getElem? (i := 65) rfl))) (ty := .int) (by decide)
  have F46_73 : Fld Z h46 b46 "com/example/call_throttle/callthrottle/KeyQueue" "firstIndex" "I" (.int (0 : Int32)) := D46 (Or.inl (hw _ (List.mem_of_getElem? (i := 73) rfl))) (ty := .int) (by decide)
  refine own_step (U' := (T46.setTop (mkF m 3 #[.val (.int p1), .val (.int p2), .unset, .unset, .unset, .unset] [(.ref b46)]))) (fun t ht => st46 _ ht) ?_
  refine own_step (U' := (T46.setTop (mkF m 4 #[.val (.int p1), .val (.int p2), .unset, .unset, .unset, .unset] [(.ref b46), (.ref b46)]))) (fun t ht => XS.dup X46.here hx rfl (hb hby at_3) rfl rfl ht) ?_
  obtain ⟨_, _, ⟨T47, L47, k47, n47⟩, -, X47, ⟨Lc47, hQ47, l47, y47, z47⟩, st47⟩ := X46.specialBack hx (y := (⟨"com/example/call_throttle/callthrottle/KeyQueue", "<init>", "()V"⟩ : MethodName)) rfl hown (mvT hZ (hw _ (List.mem_of_getElem? (i := 3) rfl))) (mvT hZ (hw _ (List.mem_of_getElem? (i := 4) rfl))) (mvT hZ (hw _ (List.mem_of_getElem? (i := 5) rfl))) (by decide) (backOf (W := 1) (own_m_kqi l Z a0 hw [] (b46) (.null) (.null) ((0 : Int32)) ((0 : Int32)) ((0 : Int64)) h46 n0 (Nat.le_trans Z0 K46.1) g_b46 F46_21 F46_23 F46_73 F46_65 F46_54 A46) hZ (hw _ (List.mem_of_getElem? (i := 5) rfl)) (hw _ (List.mem_of_getElem? (i := 2) rfl)) (by decide) (by decide)) (g := (mkF m 4 #[.val (.int p1), .val (.int p2), .unset, .unset, .unset, .unset] [(.ref b46), (.ref b46)])) rfl (by rw [hml]; rfl) (Steps.refl _) (a := b46) (argsL := []) (rest := [(.ref b46)]) (lenOf own_pd3 rfl) rfl (by show 2 * 0 + _ ≤ _; exact Nat.le_of_eq rfl) (hb hby at_4) (fun _ _ => ⟨rfl, e46, (by decide : 1 + 2 ≤ _), (by decide : 5 + 1026 ≤ _)⟩)
  dsimp only [Pt.U, Pt.locs, Pt.cells, Pt.slots] at X47 l47 y47 z47 st47 hQ47
  subst l47 y47 z47
  obtain ⟨c1_47, r1_47, kA_47, rfl, Nq47, Kq47, sq_c1_47, sq_r1_47, p47_0, p47_1, p47_2, Fq47_0, Fq47_1, Fq47_2, Fq47_3, Fq47_4, Fq47_5, Fq47_6, Fq47_7, Fq47_8⟩ := hQ47
  have N47 := Fr.app N0 Nq47
  have ne_b46_c1_47 : b46 ≠ c1_47 := Nat.ne_of_lt (Nat.lt_of_lt_of_le A46.lt sq_c1_47)
  have g_c1_47 : n0 ≤ c1_47 := Nat.le_trans (Nat.le_trans Z0 K46.1) sq_c1_47
  have sz_c1_47 : h0.size ≤ c1_47 := Nat.le_trans K46.1 sq_c1_47
  have ne_b46_r1_47 : b46 ≠ r1_47 := Nat.ne_of_lt (Nat.lt_of_lt_of_le A46.lt sq_r1_47)
  have g_r1_47 : n0 ≤ r1_47 := Nat.le_trans (Nat.le_trans Z0 K46.1) sq_r1_47
  have sz_r1_47 : h0.size ≤ r1_47 := Nat.le_trans K46.1 sq_r1_47
  have f47_0 : Sta Z T47.heap "java/lang/String" "COMPACT_STRINGS" "Z" (.int cz) := own_sta_keep f46_0 Kq47 (own_plE A46 own_pl0)
  have f47_1 : Exa Z T47.heap b46 "com/example/call_throttle/callthrottle/KeyQueue" := A46.keep Kq47
  have K47 : Keep h0 T47.heap [] := K46.trans Kq47 (allS (Or.inr sz_b46) all0)
  refine own_step (U' := (T47.setTop (mkF m 7 #[.val (.int p1), .val (.int p2), .unset, .unset, .unset, .unset] [(.ref b46)]))) (fun t ht => st47.trans ht) ?_
  refine own_step (U' := (T47.setTop (mkF m 8 #[.val (.int p1), .val (.int p2), .val (.ref b46), .unset, .unset, .unset] []))) (fun t ht => XS.astoreN X47.here hx rfl (hb hby at_7) rfl rfl (l' := #[.val (.int p1), .val (.int p2), .val (.ref b46), .unset, .unset, .unset]) rfl ht) ?_
  refine own_step (U' := (T47.setTop (mkF m 9 #[.val (.int p1), .val (.int p2), .val (.ref b46), .unset, .unset, .unset] [(.int p2)]))) (fun t ht => XS.iloadN X47.here hx rfl (hb hby at_8) rfl ht) ?_
  refine own_step (U' := (T47.setTop (mkF m 12 #[.val (.int p1), .val (.int p2), .val (.ref b46), .unset, .unset, .unset] [(.int (255 : Int32)), (.int p2)]))) (fun t ht => XS.sipush X47.here hx rfl (hb hby at_9) ht) ?_
  refine own_step (U' := (T47.setTop (mkF m 13 #[.val (.int p1), .val (.int p2), .val (.ref b46), .unset, .unset, .unset] [(.int (p2 &&& (255 : Int32)))]))) (fun t ht => XS.iand X47.here hx rfl (hb hby at_12) rfl ht) ?_
  refine own_step (U' := (T47.setTop (mkF m 14 #[.val (.int p1), .val (.int p2), .val (.ref b46), .unset, .unset, .unset] [(.int ((p2 &&& (255 : Int32)).toUInt32.toUInt16.toUInt32.toInt32))]))) (fun t ht => XT.i2c X47.here hx rfl (hb hby at_13) rfl ht) ?_
  obtain ⟨_, _, ⟨T48, L48, k48, n48⟩, -, X48, ⟨Lc48, hQ48, l48, y48, z48⟩, st48⟩ := Jvm.LawKit.callS X47 hx (y := (⟨"java/lang/String", "valueOf", "(C)Ljava/lang/String;"⟩ : MethodName)) hown (mvT hZ (hw _ (List.mem_of_getElem? (i := 24) rfl))) (mvT hZ (hw _ (List.mem_of_getElem? (i := 25) rfl))) (mvT hZ (hw _ (List.mem_of_getElem? (i := 26) rfl))) (mvT hZ (hw _ (List.mem_of_getElem? (i := 27) rfl))) (by decide) (backOf (W := 0) (own_m_vof l Z a0 hw [] (((p2 &&& (255 : Int32)).toUInt32.toUInt16.toUInt32.toInt32)) (cz) T47.heap n0 (Nat.le_trans Z0 K47.1) f47_0 hcz (own_le255 _)) hZ (hw _ (List.mem_of_getElem? (i := 27) rfl)) (hw _ (List.mem_of_getElem? (i := 26) rfl)) (by decide) (by decide)) (g := (mkF m 14 #[.val (.int p1), .val (.int p2), .val (.ref b46), .unset, .unset, .unset] [(.int ((p2 &&& (255 : Int32)).toUInt32.toUInt16.toUInt32.toInt32))])) rfl (by rw [hml]; rfl) (argsL := [(.int ((p2 &&& (255 : Int32)).toUInt32.toUInt16.toUInt32.toInt32))]) (rest := []) (lenOf own_pd6 rfl) rfl (by show 2 * 0 + _ ≤ _; exact Nat.le_of_eq rfl) (hb hby at_14) (fun _ _ => ⟨rfl, rfl, (by decide : 3 + 2 ≤ _), (by decide : 1031 + 5 ≤ _)⟩)
  dsimp only [Pt.U, Pt.locs, Pt.cells, Pt.slots] at X48 l48 y48 z48 st48 hQ48
  subst l48 y48 z48
  obtain ⟨r_48, rfl, Nq48, Kq48, sq_r_48, Fq48_0⟩ := hQ48
  have N48 := Fr.app N47 Nq48
  have ne_b46_r_48 : b46 ≠ r_48 := Nat.ne_of_lt (Nat.lt_of_lt_of_le Fq47_0.lt sq_r_48)
  have ne_c1_47_r_48 : c1_47 ≠ r_48 := Nat.ne_of_lt (Nat.lt_of_lt_of_le Fq47_6.lt sq_r_48)
  have ne_r1_47_r_48 : r1_47 ≠ r_48 := Nat.ne_of_lt (Nat.lt_of_lt_of_le Fq47_8.lt sq_r_48)
  have g_r_48 : n0 ≤ r_48 := Nat.le_trans (Nat.le_trans Z0 K47.1) sq_r_48
  have sz_r_48 : h0.size ≤ r_48 := Nat.le_trans K47.1 sq_r_48
  have f48_0 : Sta Z T48.heap "java/lang/String" "COMPACT_STRINGS" "Z" (.int cz) := own_sta_keep f47_0 Kq48 own_pl0
  have f48_1 : Fld Z T48.heap b46 "com/example/call_throttle/callthrottle/KeyQueue" "first" "Lcom/example/call_throttle/callthrottle/KeyQueue$Chunk;" (.ref c1_47) := Fq47_0.keep Kq48 nin0
  have f48_2 : Fld Z T48.heap b46 "com/example/call_throttle/callthrottle/KeyQueue" "last" "Lcom/example/call_throttle/callthrottle/KeyQueue$Chunk;" (.ref c1_47) := Fq47_1.keep Kq48 nin0
  have f48_3 : Fld Z T48.heap b46 "com/example/call_throttle/callthrottle/KeyQueue" "firstIndex" "I" (.int (0 : Int32)) := Fq47_2.keep Kq48 nin0
  have f48_4 : Fld Z T48.heap b46 "com/example/call_throttle/callthrottle/KeyQueue" "lastIndex" "I" (.int (0 : Int32)) := Fq47_3.keep Kq48 nin0
  have f48_5 : Fld Z T48.heap b46 "com/example/call_throttle/callthrottle/KeyQueue" "size" "J" (.long (0 : Int64)) := Fq47_4.keep Kq48 nin0
  have f48_6 : Exa Z T48.heap b46 "com/example/call_throttle/callthrottle/KeyQueue" := Fq47_5.keep Kq48
  have f48_7 : Fld Z T48.heap c1_47 "com/example/call_throttle/callthrottle/KeyQueue$Chunk" "keys" "[Ljava/lang/String;" (.ref r1_47) := Fq47_6.keep Kq48 nin0
  have f48_8 : Exa Z T48.heap c1_47 "com/example/call_throttle/callthrottle/KeyQueue$Chunk" := Fq47_7.keep Kq48
  have f48_9 : Arv Z T48.heap r1_47 kA_47 (.object "java/lang/String") (1024 : Int32) [.null, .null, .null, .null] .null := Fq47_8.keep Kq48 nin0
  have K48 : Keep h0 T48.heap [] := K47.trans Kq48 all0
  refine own_step (U' := (T48.setTop (mkF m 17 #[.val (.int p1), .val (.int p2), .val (.ref b46), .unset, .unset, .unset] [(.ref r_48)]))) (fun t ht => st48 _ ht) ?_
  have ky48 : own_Key Z T48.heap (.ref r_48) := Or.inr ⟨_, rfl, Fq48_0⟩
  refine own_step (U' := (T48.setTop (mkF m 18 #[.val (.int p1), .val (.int p2), .val (.ref b46), .val (.ref r_48), .unset, .unset] []))) (fun t ht => XS.astoreN X48.here hx rfl (hb hby at_17) rfl rfl (l' := #[.val (.int p1), .val (.int p2), .val (.ref b46), .val (.ref r_48), .unset, .unset]) rfl ht) ?_
  refine own_step (U' := (T48.setTop (mkF m 19 #[.val (.int p1), .val (.int p2), .val (.ref b46), .val (.ref r_48), .unset, .unset] [(.ref b46)]))) (fun t ht => XS.aloadN X48.here hx rfl (hb hby at_18) rfl rfl ht) ?_
  obtain ⟨cq49, kq49, q49a, q49b, q49c⟩ := isOf hZ rfl f48_6
  obtain ⟨_, _, ⟨T49, L49, k49, n49⟩, -, X49, ⟨Lc49, hQ49, l49, y49, z49⟩, st49⟩ := X48.virtualBack hx (y := (⟨"com/example/call_throttle/callthrottle/KeyQueue", "isEmpty", "()Z"⟩ : MethodName)) (z := (⟨"com/example/call_throttle/callthrottle/KeyQueue", "isEmpty", "()Z"⟩ : MethodName)) hown (mvT hZ (hw _ (List.mem_of_getElem? (i := 48) rfl))) (mvT hZ (hw _ (List.mem_of_getElem? (i := 49) rfl))) (notFace_of_selects (args := #[]) (mvT hZ (hw _ (List.mem_of_getElem? (i := 51) rfl)))) (mvT hZ (hw _ (List.mem_of_getElem? (i := 51) rfl))) (mvT hZ (hw _ (List.mem_of_getElem? (i := 50) rfl))) (by decide) (backOf (W := 0) (own_m_ie l Z a0 hw [] (b46) ((0 : Int64)) T48.heap n0 (Nat.le_trans Z0 K48.1) f48_5) hZ (hw _ (List.mem_of_getElem? (i := 52) rfl)) (hw _ (List.mem_of_getElem? (i := 2) rfl)) (by decide) (by decide)) q49a q49c (g := (mkF m 19 #[.val (.int p1), .val (.int p2), .val (.ref b46), .val (.ref r_48), .unset, .unset] [(.ref b46)])) rfl (by rw [hml]; rfl) (Steps.refl _) (argsL := []) (rest := []) (lenOf own_pd7 rfl) rfl (by show 2 * 0 + _ ≤ _; exact Nat.le_of_eq rfl) (hb hby at_19) (fun _ _ => ⟨rfl, rfl, (by decide : 5 + 0 ≤ _), (by decide : 1036 + 0 ≤ _)⟩)
  dsimp only [Pt.U, Pt.locs, Pt.cells, Pt.slots] at X49 l49 y49 z49 st49 hQ49
  subst l49 y49 z49
  obtain ⟨rfl, Nq49, Kq49⟩ := hQ49
  have N49 := Fr.app N48 Nq49
  have e49 : T49.heap = T48.heap := Kq49
  refine own_step (U' := (T49.setTop (mkF m 22 #[.val (.int p1), .val (.int p2), .val (.ref b46), .val (.ref r_48), .unset, .unset] [(.int (own_ie (0 : Int64)))]))) (fun t ht => st49.trans ht) ?_
  refine own_step (U' := (T49.setTop (mkF m 24 #[.val (.int p1), .val (.int p2), .val (.ref b46), .val (.ref r_48), .val (.int (own_ie (0 : Int64))), .unset] []))) (fun t ht => XS.istore X49.here hx rfl (hb hby at_22) rfl (l' := #[.val (.int p1), .val (.int p2), .val (.ref b46), .val (.ref r_48), .val (.int (own_ie (0 : Int64))), .unset]) rfl ht) ?_
  refine own_step (U' := (T49.setTop (mkF m 25 #[.val (.int p1), .val (.int p2), .val (.ref b46), .val (.ref r_48), .val (.int (own_ie (0 : Int64))), .unset] [(.int (0 : Int32))]))) (fun t ht => XS.iconst X49.here hx rfl (hb hby at_24) ht) ?_
  refine own_step (U' := (T49.setTop (mkF m 27 #[.val (.int p1), .val (.int p2), .val (.ref b46), .val (.ref r_48), .val (.int (own_ie (0 : Int64))), .val (.int (0 : Int32))] []))) (fun t ht => XS.istore X49.here hx rfl (hb hby at_25) rfl (l' := #[.val (.int p1), .val (.int p2), .val (.ref b46), .val (.ref r_48), .val (.int (own_ie (0 : Int64))), .val (.int (0 : Int32))]) rfl ht) ?_
  refine own_step (U' := (T49.setTop (mkF m 28 #[.val (.int p1), .val (.int p2), .val (.ref b46), .val (.ref r_48), .val (.int (own_ie (0 : Int64))), .val (.int (0 : Int32))] [(.ref b46)]))) (fun t ht => XS.aloadN X49.here hx rfl (hb hby at_27) rfl rfl ht) ?_
  refine own_step (U' := (T49.setTop (mkF m 30 #[.val (.int p1), .val (.int p2), .val (.ref b46), .val (.ref r_48), .val (.int (own_ie (0 : Int64))), .val (.int (0 : Int32))] [(.int (0 : Int32)), (.ref b46)]))) (fun t ht => XS.iload X49.here hx rfl (hb hby at_28) rfl ht) ?_
  refine own_step (U' := (T49.setTop (mkF m 31 #[.val (.int p1), .val (.int p2), .val (.ref b46), .val (.ref r_48), .val (.int (own_ie (0 : Int64))), .val (.int (0 : Int32))] [(.int p1), (.int (0 : Int32)), (.ref b46)]))) (fun t ht => XS.iloadN X49.here hx rfl (hb hby at_30) rfl ht) ?_
  refine own_step (U' := (T49.setTop (mkF m 32 #[.val (.int p1), .val (.int p2), .val (.ref b46), .val (.ref r_48), .val (.int (own_ie (0 : Int64))), .val (.int (0 : Int32))] [(.int (1 : Int32)), (.int p1), (.int (0 : Int32)), (.ref b46)]))) (fun t ht => XS.iconst X49.here hx rfl (hb hby at_31) ht) ?_
  refine own_step (U' := (T49.setTop (mkF m 33 #[.val (.int p1), .val (.int p2), .val (.ref b46), .val (.ref r_48), .val (.int (own_ie (0 : Int64))), .val (.int (0 : Int32))] [(.int (p1 &&& (1 : Int32))), (.int (0 : Int32)), (.ref b46)]))) (fun t ht => XS.iand X49.here hx rfl (hb hby at_32) rfl ht) ?_
  by_cases hc33_50 : (p1 &&& (1 : Int32)) = 0
  ·
    refine own_step (U' := (T49.setTop (mkF m 40 #[.val (.int p1), .val (.int p2), .val (.ref b46), .val (.ref r_48), .val (.int (own_ie (0 : Int64))), .val (.int (0 : Int32))] [(.int (0 : Int32)), (.ref b46)]))) (fun t ht => XS.ifYes X49.here hx rfl (pc0 := 33) (pc' := 40) rfl (hb hby at_33) rfl (XT.i0_eq_t hc33_50) (by decide) (by decide) ht) ?_
    refine own_step (U' := (T49.setTop (mkF m 41 #[.val (.int p1), .val (.int p2), .val (.ref b46), .val (.ref r_48), .val (.int (own_ie (0 : Int64))), .val (.int (0 : Int32))] [(.int (0 : Int32)), (.int (0 : Int32)), (.ref b46)]))) (fun t ht => XS.iconst X49.here hx rfl (hb hby at_40) ht) ?_
    refine own_step (U' := (T49.setTop (mkF m 42 #[.val (.int p1), .val (.int p2), .val (.ref b46), .val (.ref r_48), .val (.int (own_ie (0 : Int64))), .val (.int (0 : Int32))] [(.ref r_48), (.int (0 : Int32)), (.int (0 : Int32)), (.ref b46)]))) (fun t ht => XS.aloadN X49.here hx rfl (hb hby at_41) rfl rfl ht) ?_
    obtain ⟨_, _, ⟨T51, L51, k51, n51⟩, -, X51, ⟨Lc51, hQ51, l51, y51, z51⟩, st51⟩ := Jvm.LawKit.callS X49 hx (y := (⟨"com/example/call_throttle/callthrottle/KeyQueueIsEmptyPinLaw", "step", "(Lcom/example/call_throttle/callthrottle/KeyQueue;IZLjava/lang/String;)I"⟩ : MethodName)) hown (mvT hZ (hw _ (List.mem_of_getElem? (i := 55) rfl))) (mvT hZ (hw _ (List.mem_of_getElem? (i := 56) rfl))) (mvT hZ (hw _ (List.mem_of_getElem? (i := 57) rfl))) (mvT hZ (hw _ (List.mem_of_getElem? (i := 58) rfl))) (by decide) (backOf (W := 0) (own_m_stN l Z a0 hw [] (b46) ((.ref r_48)) ((0 : Int32)) T48.heap n0 (Nat.le_trans Z0 K48.1) rfl (by decide)) hZ (hw _ (List.mem_of_getElem? (i := 58) rfl)) (hw _ (List.mem_of_getElem? (i := 57) rfl)) (by decide) (by decide)) (g := (mkF m 42 #[.val (.int p1), .val (.int p2), .val (.ref b46), .val (.ref r_48), .val (.int (own_ie (0 : Int64))), .val (.int (0 : Int32))] [(.ref r_48), (.int (0 : Int32)), (.int (0 : Int32)), (.ref b46)])) rfl (by rw [hml]; rfl) (argsL := [(.ref b46), (.int (0 : Int32)), (.int (0 : Int32)), (.ref r_48)]) (rest := []) (lenOf own_pd8 rfl) rfl (by show 2 * 0 + _ ≤ _; exact Nat.le_of_eq rfl) (hb hby at_42) (fun _ _ => ⟨rfl, e49, (by decide : 5 + 0 ≤ _), (by decide : 1036 + 0 ≤ _)⟩)
    dsimp only [Pt.U, Pt.locs, Pt.cells, Pt.slots] at X51 l51 y51 z51 st51 hQ51
    subst l51 y51 z51
    obtain ⟨rfl, Nq51, Kq51⟩ := hQ51
    have N51 := Fr.app N49 Nq51
    have e51 : T51.heap = T48.heap := Kq51
    refine own_step (U' := (T51.setTop (mkF m 45 #[.val (.int p1), .val (.int p2), .val (.ref b46), .val (.ref r_48), .val (.int (own_ie (0 : Int64))), .val (.int (0 : Int32))] [(.int (0 : Int32))]))) (fun t ht => st51 _ ht) ?_
    refine own_step (U' := (T51.setTop (mkF m 47 #[.val (.int p1), .val (.int p2), .val (.ref b46), .val (.ref r_48), .val (.int (own_ie (0 : Int64))), .val (.int (0 : Int32))] []))) (fun t ht => XS.istore X51.here hx rfl (hb hby at_45) rfl (l' := #[.val (.int p1), .val (.int p2), .val (.ref b46), .val (.ref r_48), .val (.int (own_ie (0 : Int64))), .val (.int (0 : Int32))]) rfl ht) ?_
    refine own_step (U' := (T51.setTop (mkF m 49 #[.val (.int p1), .val (.int p2), .val (.ref b46), .val (.ref r_48), .val (.int (own_ie (0 : Int64))), .val (.int (0 : Int32))] [(.int (own_ie (0 : Int64)))]))) (fun t ht => XS.iload X51.here hx rfl (hb hby at_47) rfl ht) ?_
    refine own_step (U' := (T51.setTop (mkF m 52 #[.val (.int p1), .val (.int p2), .val (.ref b46), .val (.ref r_48), .val (.int (own_ie (0 : Int64))), .val (.int (0 : Int32))] []))) (fun t ht => XS.ifNo X51.here hx rfl (hb hby at_49) rfl (XT.i0_eq_f ((by decide) : ¬ ((own_ie (0 : Int64)) = 0))) ht) ?_
    refine own_step (U' := (T51.setTop (mkF m 53 #[.val (.int p1), .val (.int p2), .val (.ref b46), .val (.ref r_48), .val (.int (own_ie (0 : Int64))), .val (.int (0 : Int32))] [(.ref b46)]))) (fun t ht => XS.aloadN X51.here hx rfl (hb hby at_52) rfl rfl ht) ?_
    obtain ⟨cq52, kq52, q52a, q52b, q52c⟩ := isOf hZ e51 f48_6
    obtain ⟨_, _, ⟨T52, L52, k52, n52⟩, -, X52, ⟨Lc52, hQ52, l52, y52, z52⟩, st52⟩ := X51.virtualBack hx (y := (⟨"com/example/call_throttle/callthrottle/KeyQueue", "isEmpty", "()Z"⟩ : MethodName)) (z := (⟨"com/example/call_throttle/callthrottle/KeyQueue", "isEmpty", "()Z"⟩ : MethodName)) hown (mvT hZ (hw _ (List.mem_of_getElem? (i := 48) rfl))) (mvT hZ (hw _ (List.mem_of_getElem? (i := 49) rfl))) (notFace_of_selects (args := #[]) (mvT hZ (hw _ (List.mem_of_getElem? (i := 51) rfl)))) (mvT hZ (hw _ (List.mem_of_getElem? (i := 51) rfl))) (mvT hZ (hw _ (List.mem_of_getElem? (i := 50) rfl))) (by decide) (backOf (W := 0) (own_m_ie l Z a0 hw [] (b46) ((0 : Int64)) T48.heap n0 (Nat.le_trans Z0 K48.1) f48_5) hZ (hw _ (List.mem_of_getElem? (i := 52) rfl)) (hw _ (List.mem_of_getElem? (i := 2) rfl)) (by decide) (by decide)) q52a q52c (g := (mkF m 53 #[.val (.int p1), .val (.int p2), .val (.ref b46), .val (.ref r_48), .val (.int (own_ie (0 : Int64))), .val (.int (0 : Int32))] [(.ref b46)])) rfl (by rw [hml]; rfl) (Steps.refl _) (argsL := []) (rest := []) (lenOf own_pd7 rfl) rfl (by show 2 * 0 + _ ≤ _; exact Nat.le_of_eq rfl) (hb hby at_53) (fun _ _ => ⟨rfl, e51, (by decide : 5 + 0 ≤ _), (by decide : 1036 + 0 ≤ _)⟩)
    dsimp only [Pt.U, Pt.locs, Pt.cells, Pt.slots] at X52 l52 y52 z52 st52 hQ52
    subst l52 y52 z52
    obtain ⟨rfl, Nq52, Kq52⟩ := hQ52
    have N52 := Fr.app N51 Nq52
    have e52 : T52.heap = T48.heap := Kq52
    refine own_step (U' := (T52.setTop (mkF m 56 #[.val (.int p1), .val (.int p2), .val (.ref b46), .val (.ref r_48), .val (.int (own_ie (0 : Int64))), .val (.int (0 : Int32))] [(.int (own_ie (0 : Int64)))]))) (fun t ht => st52.trans ht) ?_
    refine own_step (U' := (T52.setTop (mkF m 58 #[.val (.int p1), .val (.int p2), .val (.ref b46), .val (.ref r_48), .val (.int (own_ie (0 : Int64))), .val (.int (0 : Int32))] [(.int (0 : Int32)), (.int (own_ie (0 : Int64)))]))) (fun t ht => XS.iload X52.here hx rfl (hb hby at_56) rfl ht) ?_
    refine own_step (U' := (T52.setTop (mkF m 61 #[.val (.int p1), .val (.int p2), .val (.ref b46), .val (.ref r_48), .val (.int (own_ie (0 : Int64))), .val (.int (0 : Int32))] [(.int (own_ie (0 : Int64)))]))) (fun t ht => XS.ifNo X52.here hx rfl (hb hby at_58) rfl (XT.i0_ne_f ((by decide) : (0 : Int32) = 0)) ht) ?_
    refine own_step (U' := (T52.setTop (mkF m 62 #[.val (.int p1), .val (.int p2), .val (.ref b46), .val (.ref r_48), .val (.int (own_ie (0 : Int64))), .val (.int (0 : Int32))] [(.int (1 : Int32)), (.int (own_ie (0 : Int64)))]))) (fun t ht => XS.iconst X52.here hx rfl (hb hby at_61) ht) ?_
    refine own_step (U' := (T52.setTop (mkF m 66 #[.val (.int p1), .val (.int p2), .val (.ref b46), .val (.ref r_48), .val (.int (own_ie (0 : Int64))), .val (.int (0 : Int32))] [(.int (1 : Int32)), (.int (own_ie (0 : Int64)))]))) (fun t ht => XS.goto X52.here hx rfl (pc0 := 62) (pc' := 66) rfl (hb hby at_62) (by decide) (by decide) ht) ?_
    refine own_step (U' := (T52.setTop (mkF m 69 #[.val (.int p1), .val (.int p2), .val (.ref b46), .val (.ref r_48), .val (.int (own_ie (0 : Int64))), .val (.int (0 : Int32))] []))) (fun t ht => XS.icmpNo X52.here hx rfl (hb hby at_66) rfl (XT.ii_ne_f ((by decide) : (own_ie (0 : Int64)) = (1 : Int32))) ht) ?_
    refine own_step (U' := (T52.setTop (mkF m 70 #[.val (.int p1), .val (.int p2), .val (.ref b46), .val (.ref r_48), .val (.int (own_ie (0 : Int64))), .val (.int (0 : Int32))] [(.int (1 : Int32))]))) (fun t ht => XS.iconst X52.here hx rfl (hb hby at_69) ht) ?_
    refine own_step (U' := (T52.setTop (mkF m 74 #[.val (.int p1), .val (.int p2), .val (.ref b46), .val (.ref r_48), .val (.int (own_ie (0 : Int64))), .val (.int (0 : Int32))] [(.int (1 : Int32))]))) (fun t ht => XS.goto X52.here hx rfl (pc0 := 70) (pc' := 74) rfl (hb hby at_70) (by decide) (by decide) ht) ?_
    refine own_step (U' := (T52.setTop (mkF m 76 #[.val (.int p1), .val (.int p2), .val (.ref b46), .val (.ref r_48), .val (.int (1 : Int32)), .val (.int (0 : Int32))] []))) (fun t ht => XS.istore X52.here hx rfl (hb hby at_74) rfl (l' := #[.val (.int p1), .val (.int p2), .val (.ref b46), .val (.ref r_48), .val (.int (1 : Int32)), .val (.int (0 : Int32))]) rfl ht) ?_
    refine own_step (U' := (T52.setTop (mkF m 77 #[.val (.int p1), .val (.int p2), .val (.ref b46), .val (.ref r_48), .val (.int (1 : Int32)), .val (.int (0 : Int32))] [(.ref b46)]))) (fun t ht => XS.aloadN X52.here hx rfl (hb hby at_76) rfl rfl ht) ?_
    refine own_step (U' := (T52.setTop (mkF m 79 #[.val (.int p1), .val (.int p2), .val (.ref b46), .val (.ref r_48), .val (.int (1 : Int32)), .val (.int (0 : Int32))] [(.int (0 : Int32)), (.ref b46)]))) (fun t ht => XS.iload X52.here hx rfl (hb hby at_77) rfl ht) ?_
    refine own_step (U' := (T52.setTop (mkF m 80 #[.val (.int p1), .val (.int p2), .val (.ref b46), .val (.ref r_48), .val (.int (1 : Int32)), .val (.int (0 : Int32))] [(.int p1), (.int (0 : Int32)), (.ref b46)]))) (fun t ht => XS.iloadN X52.here hx rfl (hb hby at_79) rfl ht) ?_
    refine own_step (U' := (T52.setTop (mkF m 81 #[.val (.int p1), .val (.int p2), .val (.ref b46), .val (.ref r_48), .val (.int (1 : Int32)), .val (.int (0 : Int32))] [(.int (2 : Int32)), (.int p1), (.int (0 : Int32)), (.ref b46)]))) (fun t ht => XS.iconst X52.here hx rfl (hb hby at_80) ht) ?_
    refine own_step (U' := (T52.setTop (mkF m 82 #[.val (.int p1), .val (.int p2), .val (.ref b46), .val (.ref r_48), .val (.int (1 : Int32)), .val (.int (0 : Int32))] [(.int (p1 &&& (2 : Int32))), (.int (0 : Int32)), (.ref b46)]))) (fun t ht => XS.iand X52.here hx rfl (hb hby at_81) rfl ht) ?_
    by_cases hc82_53 : (p1 &&& (2 : Int32)) = 0
    ·
      refine own_step (U' := (T52.setTop (mkF m 89 #[.val (.int p1), .val (.int p2), .val (.ref b46), .val (.ref r_48), .val (.int (1 : Int32)), .val (.int (0 : Int32))] [(.int (0 : Int32)), (.ref b46)]))) (fun t ht => XS.ifYes X52.here hx rfl (pc0 := 82) (pc' := 89) rfl (hb hby at_82) rfl (XT.i0_eq_t hc82_53) (by decide) (by decide) ht) ?_
      refine own_step (U' := (T52.setTop (mkF m 90 #[.val (.int p1), .val (.int p2), .val (.ref b46), .val (.ref r_48), .val (.int (1 : Int32)), .val (.int (0 : Int32))] [(.int (0 : Int32)), (.int (0 : Int32)), (.ref b46)]))) (fun t ht => XS.iconst X52.here hx rfl (hb hby at_89) ht) ?_
      refine own_step (U' := (T52.setTop (mkF m 91 #[.val (.int p1), .val (.int p2), .val (.ref b46), .val (.ref r_48), .val (.int (1 : Int32)), .val (.int (0 : Int32))] [(.ref r_48), (.int (0 : Int32)), (.int (0 : Int32)), (.ref b46)]))) (fun t ht => XS.aloadN X52.here hx rfl (hb hby at_90) rfl rfl ht) ?_
      obtain ⟨_, _, ⟨T54, L54, k54, n54⟩, -, X54, ⟨Lc54, hQ54, l54, y54, z54⟩, st54⟩ := Jvm.LawKit.callS X52 hx (y := (⟨"com/example/call_throttle/callthrottle/KeyQueueIsEmptyPinLaw", "step", "(Lcom/example/call_throttle/callthrottle/KeyQueue;IZLjava/lang/String;)I"⟩ : MethodName)) hown (mvT hZ (hw _ (List.mem_of_getElem? (i := 55) rfl))) (mvT hZ (hw _ (List.mem_of_getElem? (i := 56) rfl))) (mvT hZ (hw _ (List.mem_of_getElem? (i := 57) rfl))) (mvT hZ (hw _ (List.mem_of_getElem? (i := 58) rfl))) (by decide) (backOf (W := 0) (own_m_stN l Z a0 hw [] (b46) ((.ref r_48)) ((0 : Int32)) T48.heap n0 (Nat.le_trans Z0 K48.1) rfl (by decide)) hZ (hw _ (List.mem_of_getElem? (i := 58) rfl)) (hw _ (List.mem_of_getElem? (i := 57) rfl)) (by decide) (by decide)) (g := (mkF m 91 #[.val (.int p1), .val (.int p2), .val (.ref b46), .val (.ref r_48), .val (.int (1 : Int32)), .val (.int (0 : Int32))] [(.ref r_48), (.int (0 : Int32)), (.int (0 : Int32)), (.ref b46)])) rfl (by rw [hml]; rfl) (argsL := [(.ref b46), (.int (0 : Int32)), (.int (0 : Int32)), (.ref r_48)]) (rest := []) (lenOf own_pd8 rfl) rfl (by show 2 * 0 + _ ≤ _; exact Nat.le_of_eq rfl) (hb hby at_91) (fun _ _ => ⟨rfl, e52, (by decide : 5 + 0 ≤ _), (by decide : 1036 + 0 ≤ _)⟩)
      dsimp only [Pt.U, Pt.locs, Pt.cells, Pt.slots] at X54 l54 y54 z54 st54 hQ54
      subst l54 y54 z54
      obtain ⟨rfl, Nq54, Kq54⟩ := hQ54
      have N54 := Fr.app N52 Nq54
      have e54 : T54.heap = T48.heap := Kq54
      refine own_step (U' := (T54.setTop (mkF m 94 #[.val (.int p1), .val (.int p2), .val (.ref b46), .val (.ref r_48), .val (.int (1 : Int32)), .val (.int (0 : Int32))] [(.int (0 : Int32))]))) (fun t ht => st54 _ ht) ?_
      refine own_step (U' := (T54.setTop (mkF m 96 #[.val (.int p1), .val (.int p2), .val (.ref b46), .val (.ref r_48), .val (.int (1 : Int32)), .val (.int (0 : Int32))] []))) (fun t ht => XS.istore X54.here hx rfl (hb hby at_94) rfl (l' := #[.val (.int p1), .val (.int p2), .val (.ref b46), .val (.ref r_48), .val (.int (1 : Int32)), .val (.int (0 : Int32))]) rfl ht) ?_
      refine own_step (U' := (T54.setTop (mkF m 98 #[.val (.int p1), .val (.int p2), .val (.ref b46), .val (.ref r_48), .val (.int (1 : Int32)), .val (.int (0 : Int32))] [(.int (1 : Int32))]))) (fun t ht => XS.iload X54.here hx rfl (hb hby at_96) rfl ht) ?_
      refine own_step (U' := (T54.setTop (mkF m 101 #[.val (.int p1), .val (.int p2), .val (.ref b46), .val (.ref r_48), .val (.int (1 : Int32)), .val (.int (0 : Int32))] []))) (fun t ht => XS.ifNo X54.here hx rfl (hb hby at_98) rfl (XT.i0_eq_f ((by decide) : ¬ ((1 : Int32) = 0))) ht) ?_
      refine own_step (U' := (T54.setTop (mkF m 102 #[.val (.int p1), .val (.int p2), .val (.ref b46), .val (.ref r_48), .val (.int (1 : Int32)), .val (.int (0 : Int32))] [(.ref b46)]))) (fun t ht => XS.aloadN X54.here hx rfl (hb hby at_101) rfl rfl ht) ?_
      obtain ⟨cq55, kq55, q55a, q55b, q55c⟩ := isOf hZ e54 f48_6
      obtain ⟨_, _, ⟨T55, L55, k55, n55⟩, -, X55, ⟨Lc55, hQ55, l55, y55, z55⟩, st55⟩ := X54.virtualBack hx (y := (⟨"com/example/call_throttle/callthrottle/KeyQueue", "isEmpty", "()Z"⟩ : MethodName)) (z := (⟨"com/example/call_throttle/callthrottle/KeyQueue", "isEmpty", "()Z"⟩ : MethodName)) hown (mvT hZ (hw _ (List.mem_of_getElem? (i := 48) rfl))) (mvT hZ (hw _ (List.mem_of_getElem? (i := 49) rfl))) (notFace_of_selects (args := #[]) (mvT hZ (hw _ (List.mem_of_getElem? (i := 51) rfl)))) (mvT hZ (hw _ (List.mem_of_getElem? (i := 51) rfl))) (mvT hZ (hw _ (List.mem_of_getElem? (i := 50) rfl))) (by decide) (backOf (W := 0) (own_m_ie l Z a0 hw [] (b46) ((0 : Int64)) T48.heap n0 (Nat.le_trans Z0 K48.1) f48_5) hZ (hw _ (List.mem_of_getElem? (i := 52) rfl)) (hw _ (List.mem_of_getElem? (i := 2) rfl)) (by decide) (by decide)) q55a q55c (g := (mkF m 102 #[.val (.int p1), .val (.int p2), .val (.ref b46), .val (.ref r_48), .val (.int (1 : Int32)), .val (.int (0 : Int32))] [(.ref b46)])) rfl (by rw [hml]; rfl) (Steps.refl _) (argsL := []) (rest := []) (lenOf own_pd7 rfl) rfl (by show 2 * 0 + _ ≤ _; exact Nat.le_of_eq rfl) (hb hby at_102) (fun _ _ => ⟨rfl, e54, (by decide : 5 + 0 ≤ _), (by decide : 1036 + 0 ≤ _)⟩)
      dsimp only [Pt.U, Pt.locs, Pt.cells, Pt.slots] at X55 l55 y55 z55 st55 hQ55
      subst l55 y55 z55
      obtain ⟨rfl, Nq55, Kq55⟩ := hQ55
      have N55 := Fr.app N54 Nq55
      have e55 : T55.heap = T48.heap := Kq55
      refine own_step (U' := (T55.setTop (mkF m 105 #[.val (.int p1), .val (.int p2), .val (.ref b46), .val (.ref r_48), .val (.int (1 : Int32)), .val (.int (0 : Int32))] [(.int (own_ie (0 : Int64)))]))) (fun t ht => st55.trans ht) ?_
      refine own_step (U' := (T55.setTop (mkF m 107 #[.val (.int p1), .val (.int p2), .val (.ref b46), .val (.ref r_48), .val (.int (1 : Int32)), .val (.int (0 : Int32))] [(.int (0 : Int32)), (.int (own_ie (0 : Int64)))]))) (fun t ht => XS.iload X55.here hx rfl (hb hby at_105) rfl ht) ?_
      refine own_step (U' := (T55.setTop (mkF m 110 #[.val (.int p1), .val (.int p2), .val (.ref b46), .val (.ref r_48), .val (.int (1 : Int32)), .val (.int (0 : Int32))] [(.int (own_ie (0 : Int64)))]))) (fun t ht => XS.ifNo X55.here hx rfl (hb hby at_107) rfl (XT.i0_ne_f ((by decide) : (0 : Int32) = 0)) ht) ?_
      refine own_step (U' := (T55.setTop (mkF m 111 #[.val (.int p1), .val (.int p2), .val (.ref b46), .val (.ref r_48), .val (.int (1 : Int32)), .val (.int (0 : Int32))] [(.int (1 : Int32)), (.int (own_ie (0 : Int64)))]))) (fun t ht => XS.iconst X55.here hx rfl (hb hby at_110) ht) ?_
      refine own_step (U' := (T55.setTop (mkF m 115 #[.val (.int p1), .val (.int p2), .val (.ref b46), .val (.ref r_48), .val (.int (1 : Int32)), .val (.int (0 : Int32))] [(.int (1 : Int32)), (.int (own_ie (0 : Int64)))]))) (fun t ht => XS.goto X55.here hx rfl (pc0 := 111) (pc' := 115) rfl (hb hby at_111) (by decide) (by decide) ht) ?_
      refine own_step (U' := (T55.setTop (mkF m 118 #[.val (.int p1), .val (.int p2), .val (.ref b46), .val (.ref r_48), .val (.int (1 : Int32)), .val (.int (0 : Int32))] []))) (fun t ht => XS.icmpNo X55.here hx rfl (hb hby at_115) rfl (XT.ii_ne_f ((by decide) : (own_ie (0 : Int64)) = (1 : Int32))) ht) ?_
      refine own_step (U' := (T55.setTop (mkF m 119 #[.val (.int p1), .val (.int p2), .val (.ref b46), .val (.ref r_48), .val (.int (1 : Int32)), .val (.int (0 : Int32))] [(.int (1 : Int32))]))) (fun t ht => XS.iconst X55.here hx rfl (hb hby at_118) ht) ?_
      refine own_step (U' := (T55.setTop (mkF m 123 #[.val (.int p1), .val (.int p2), .val (.ref b46), .val (.ref r_48), .val (.int (1 : Int32)), .val (.int (0 : Int32))] [(.int (1 : Int32))]))) (fun t ht => XS.goto X55.here hx rfl (pc0 := 119) (pc' := 123) rfl (hb hby at_119) (by decide) (by decide) ht) ?_
      refine own_step (U' := (T55.setTop (mkF m 125 #[.val (.int p1), .val (.int p2), .val (.ref b46), .val (.ref r_48), .val (.int (1 : Int32)), .val (.int (0 : Int32))] []))) (fun t ht => XS.istore X55.here hx rfl (hb hby at_123) rfl (l' := #[.val (.int p1), .val (.int p2), .val (.ref b46), .val (.ref r_48), .val (.int (1 : Int32)), .val (.int (0 : Int32))]) rfl ht) ?_
      refine own_step (U' := (T55.setTop (mkF m 126 #[.val (.int p1), .val (.int p2), .val (.ref b46), .val (.ref r_48), .val (.int (1 : Int32)), .val (.int (0 : Int32))] [(.ref b46)]))) (fun t ht => XS.aloadN X55.here hx rfl (hb hby at_125) rfl rfl ht) ?_
      refine own_step (U' := (T55.setTop (mkF m 128 #[.val (.int p1), .val (.int p2), .val (.ref b46), .val (.ref r_48), .val (.int (1 : Int32)), .val (.int (0 : Int32))] [(.int (0 : Int32)), (.ref b46)]))) (fun t ht => XS.iload X55.here hx rfl (hb hby at_126) rfl ht) ?_
      refine own_step (U' := (T55.setTop (mkF m 129 #[.val (.int p1), .val (.int p2), .val (.ref b46), .val (.ref r_48), .val (.int (1 : Int32)), .val (.int (0 : Int32))] [(.int p1), (.int (0 : Int32)), (.ref b46)]))) (fun t ht => XS.iloadN X55.here hx rfl (hb hby at_128) rfl ht) ?_
      refine own_step (U' := (T55.setTop (mkF m 130 #[.val (.int p1), .val (.int p2), .val (.ref b46), .val (.ref r_48), .val (.int (1 : Int32)), .val (.int (0 : Int32))] [(.int (4 : Int32)), (.int p1), (.int (0 : Int32)), (.ref b46)]))) (fun t ht => XS.iconst X55.here hx rfl (hb hby at_129) ht) ?_
      refine own_step (U' := (T55.setTop (mkF m 131 #[.val (.int p1), .val (.int p2), .val (.ref b46), .val (.ref r_48), .val (.int (1 : Int32)), .val (.int (0 : Int32))] [(.int (p1 &&& (4 : Int32))), (.int (0 : Int32)), (.ref b46)]))) (fun t ht => XS.iand X55.here hx rfl (hb hby at_130) rfl ht) ?_
      by_cases hc131_56 : (p1 &&& (4 : Int32)) = 0
      ·
        refine own_step (U' := (T55.setTop (mkF m 138 #[.val (.int p1), .val (.int p2), .val (.ref b46), .val (.ref r_48), .val (.int (1 : Int32)), .val (.int (0 : Int32))] [(.int (0 : Int32)), (.ref b46)]))) (fun t ht => XS.ifYes X55.here hx rfl (pc0 := 131) (pc' := 138) rfl (hb hby at_131) rfl (XT.i0_eq_t hc131_56) (by decide) (by decide) ht) ?_
        refine own_step (U' := (T55.setTop (mkF m 139 #[.val (.int p1), .val (.int p2), .val (.ref b46), .val (.ref r_48), .val (.int (1 : Int32)), .val (.int (0 : Int32))] [(.int (0 : Int32)), (.int (0 : Int32)), (.ref b46)]))) (fun t ht => XS.iconst X55.here hx rfl (hb hby at_138) ht) ?_
        refine own_step (U' := (T55.setTop (mkF m 140 #[.val (.int p1), .val (.int p2), .val (.ref b46), .val (.ref r_48), .val (.int (1 : Int32)), .val (.int (0 : Int32))] [(.ref r_48), (.int (0 : Int32)), (.int (0 : Int32)), (.ref b46)]))) (fun t ht => XS.aloadN X55.here hx rfl (hb hby at_139) rfl rfl ht) ?_
        obtain ⟨_, _, ⟨T57, L57, k57, n57⟩, -, X57, ⟨Lc57, hQ57, l57, y57, z57⟩, st57⟩ := Jvm.LawKit.callS X55 hx (y := (⟨"com/example/call_throttle/callthrottle/KeyQueueIsEmptyPinLaw", "step", "(Lcom/example/call_throttle/callthrottle/KeyQueue;IZLjava/lang/String;)I"⟩ : MethodName)) hown (mvT hZ (hw _ (List.mem_of_getElem? (i := 55) rfl))) (mvT hZ (hw _ (List.mem_of_getElem? (i := 56) rfl))) (mvT hZ (hw _ (List.mem_of_getElem? (i := 57) rfl))) (mvT hZ (hw _ (List.mem_of_getElem? (i := 58) rfl))) (by decide) (backOf (W := 0) (own_m_stN l Z a0 hw [] (b46) ((.ref r_48)) ((0 : Int32)) T48.heap n0 (Nat.le_trans Z0 K48.1) rfl (by decide)) hZ (hw _ (List.mem_of_getElem? (i := 58) rfl)) (hw _ (List.mem_of_getElem? (i := 57) rfl)) (by decide) (by decide)) (g := (mkF m 140 #[.val (.int p1), .val (.int p2), .val (.ref b46), .val (.ref r_48), .val (.int (1 : Int32)), .val (.int (0 : Int32))] [(.ref r_48), (.int (0 : Int32)), (.int (0 : Int32)), (.ref b46)])) rfl (by rw [hml]; rfl) (argsL := [(.ref b46), (.int (0 : Int32)), (.int (0 : Int32)), (.ref r_48)]) (rest := []) (lenOf own_pd8 rfl) rfl (by show 2 * 0 + _ ≤ _; exact Nat.le_of_eq rfl) (hb hby at_140) (fun _ _ => ⟨rfl, e55, (by decide : 5 + 0 ≤ _), (by decide : 1036 + 0 ≤ _)⟩)
        dsimp only [Pt.U, Pt.locs, Pt.cells, Pt.slots] at X57 l57 y57 z57 st57 hQ57
        subst l57 y57 z57
        obtain ⟨rfl, Nq57, Kq57⟩ := hQ57
        have N57 := Fr.app N55 Nq57
        have e57 : T57.heap = T48.heap := Kq57
        refine own_step (U' := (T57.setTop (mkF m 143 #[.val (.int p1), .val (.int p2), .val (.ref b46), .val (.ref r_48), .val (.int (1 : Int32)), .val (.int (0 : Int32))] [(.int (0 : Int32))]))) (fun t ht => st57 _ ht) ?_
        refine own_step (U' := (T57.setTop (mkF m 145 #[.val (.int p1), .val (.int p2), .val (.ref b46), .val (.ref r_48), .val (.int (1 : Int32)), .val (.int (0 : Int32))] []))) (fun t ht => XS.istore X57.here hx rfl (hb hby at_143) rfl (l' := #[.val (.int p1), .val (.int p2), .val (.ref b46), .val (.ref r_48), .val (.int (1 : Int32)), .val (.int (0 : Int32))]) rfl ht) ?_
        refine own_step (U' := (T57.setTop (mkF m 147 #[.val (.int p1), .val (.int p2), .val (.ref b46), .val (.ref r_48), .val (.int (1 : Int32)), .val (.int (0 : Int32))] [(.int (1 : Int32))]))) (fun t ht => XS.iload X57.here hx rfl (hb hby at_145) rfl ht) ?_
        refine own_step (U' := (T57.setTop (mkF m 150 #[.val (.int p1), .val (.int p2), .val (.ref b46), .val (.ref r_48), .val (.int (1 : Int32)), .val (.int (0 : Int32))] []))) (fun t ht => XS.ifNo X57.here hx rfl (hb hby at_147) rfl (XT.i0_eq_f ((by decide) : ¬ ((1 : Int32) = 0))) ht) ?_
        refine own_step (U' := (T57.setTop (mkF m 151 #[.val (.int p1), .val (.int p2), .val (.ref b46), .val (.ref r_48), .val (.int (1 : Int32)), .val (.int (0 : Int32))] [(.ref b46)]))) (fun t ht => XS.aloadN X57.here hx rfl (hb hby at_150) rfl rfl ht) ?_
        obtain ⟨cq58, kq58, q58a, q58b, q58c⟩ := isOf hZ e57 f48_6
        obtain ⟨_, _, ⟨T58, L58, k58, n58⟩, -, X58, ⟨Lc58, hQ58, l58, y58, z58⟩, st58⟩ := X57.virtualBack hx (y := (⟨"com/example/call_throttle/callthrottle/KeyQueue", "isEmpty", "()Z"⟩ : MethodName)) (z := (⟨"com/example/call_throttle/callthrottle/KeyQueue", "isEmpty", "()Z"⟩ : MethodName)) hown (mvT hZ (hw _ (List.mem_of_getElem? (i := 48) rfl))) (mvT hZ (hw _ (List.mem_of_getElem? (i := 49) rfl))) (notFace_of_selects (args := #[]) (mvT hZ (hw _ (List.mem_of_getElem? (i := 51) rfl)))) (mvT hZ (hw _ (List.mem_of_getElem? (i := 51) rfl))) (mvT hZ (hw _ (List.mem_of_getElem? (i := 50) rfl))) (by decide) (backOf (W := 0) (own_m_ie l Z a0 hw [] (b46) ((0 : Int64)) T48.heap n0 (Nat.le_trans Z0 K48.1) f48_5) hZ (hw _ (List.mem_of_getElem? (i := 52) rfl)) (hw _ (List.mem_of_getElem? (i := 2) rfl)) (by decide) (by decide)) q58a q58c (g := (mkF m 151 #[.val (.int p1), .val (.int p2), .val (.ref b46), .val (.ref r_48), .val (.int (1 : Int32)), .val (.int (0 : Int32))] [(.ref b46)])) rfl (by rw [hml]; rfl) (Steps.refl _) (argsL := []) (rest := []) (lenOf own_pd7 rfl) rfl (by show 2 * 0 + _ ≤ _; exact Nat.le_of_eq rfl) (hb hby at_151) (fun _ _ => ⟨rfl, e57, (by decide : 5 + 0 ≤ _), (by decide : 1036 + 0 ≤ _)⟩)
        dsimp only [Pt.U, Pt.locs, Pt.cells, Pt.slots] at X58 l58 y58 z58 st58 hQ58
        subst l58 y58 z58
        obtain ⟨rfl, Nq58, Kq58⟩ := hQ58
        have N58 := Fr.app N57 Nq58
        have e58 : T58.heap = T48.heap := Kq58
        refine own_step (U' := (T58.setTop (mkF m 154 #[.val (.int p1), .val (.int p2), .val (.ref b46), .val (.ref r_48), .val (.int (1 : Int32)), .val (.int (0 : Int32))] [(.int (own_ie (0 : Int64)))]))) (fun t ht => st58.trans ht) ?_
        refine own_step (U' := (T58.setTop (mkF m 156 #[.val (.int p1), .val (.int p2), .val (.ref b46), .val (.ref r_48), .val (.int (1 : Int32)), .val (.int (0 : Int32))] [(.int (0 : Int32)), (.int (own_ie (0 : Int64)))]))) (fun t ht => XS.iload X58.here hx rfl (hb hby at_154) rfl ht) ?_
        refine own_step (U' := (T58.setTop (mkF m 159 #[.val (.int p1), .val (.int p2), .val (.ref b46), .val (.ref r_48), .val (.int (1 : Int32)), .val (.int (0 : Int32))] [(.int (own_ie (0 : Int64)))]))) (fun t ht => XS.ifNo X58.here hx rfl (hb hby at_156) rfl (XT.i0_ne_f ((by decide) : (0 : Int32) = 0)) ht) ?_
        refine own_step (U' := (T58.setTop (mkF m 160 #[.val (.int p1), .val (.int p2), .val (.ref b46), .val (.ref r_48), .val (.int (1 : Int32)), .val (.int (0 : Int32))] [(.int (1 : Int32)), (.int (own_ie (0 : Int64)))]))) (fun t ht => XS.iconst X58.here hx rfl (hb hby at_159) ht) ?_
        refine own_step (U' := (T58.setTop (mkF m 164 #[.val (.int p1), .val (.int p2), .val (.ref b46), .val (.ref r_48), .val (.int (1 : Int32)), .val (.int (0 : Int32))] [(.int (1 : Int32)), (.int (own_ie (0 : Int64)))]))) (fun t ht => XS.goto X58.here hx rfl (pc0 := 160) (pc' := 164) rfl (hb hby at_160) (by decide) (by decide) ht) ?_
        refine own_step (U' := (T58.setTop (mkF m 167 #[.val (.int p1), .val (.int p2), .val (.ref b46), .val (.ref r_48), .val (.int (1 : Int32)), .val (.int (0 : Int32))] []))) (fun t ht => XS.icmpNo X58.here hx rfl (hb hby at_164) rfl (XT.ii_ne_f ((by decide) : (own_ie (0 : Int64)) = (1 : Int32))) ht) ?_
        refine own_step (U' := (T58.setTop (mkF m 168 #[.val (.int p1), .val (.int p2), .val (.ref b46), .val (.ref r_48), .val (.int (1 : Int32)), .val (.int (0 : Int32))] [(.int (1 : Int32))]))) (fun t ht => XS.iconst X58.here hx rfl (hb hby at_167) ht) ?_
        refine own_step (U' := (T58.setTop (mkF m 172 #[.val (.int p1), .val (.int p2), .val (.ref b46), .val (.ref r_48), .val (.int (1 : Int32)), .val (.int (0 : Int32))] [(.int (1 : Int32))]))) (fun t ht => XS.goto X58.here hx rfl (pc0 := 168) (pc' := 172) rfl (hb hby at_168) (by decide) (by decide) ht) ?_
        refine own_step (U' := (T58.setTop (mkF m 174 #[.val (.int p1), .val (.int p2), .val (.ref b46), .val (.ref r_48), .val (.int (1 : Int32)), .val (.int (0 : Int32))] []))) (fun t ht => XS.istore X58.here hx rfl (hb hby at_172) rfl (l' := #[.val (.int p1), .val (.int p2), .val (.ref b46), .val (.ref r_48), .val (.int (1 : Int32)), .val (.int (0 : Int32))]) rfl ht) ?_
        refine own_step (U' := (T58.setTop (mkF m 175 #[.val (.int p1), .val (.int p2), .val (.ref b46), .val (.ref r_48), .val (.int (1 : Int32)), .val (.int (0 : Int32))] [(.ref b46)]))) (fun t ht => XS.aloadN X58.here hx rfl (hb hby at_174) rfl rfl ht) ?_
        refine own_step (U' := (T58.setTop (mkF m 177 #[.val (.int p1), .val (.int p2), .val (.ref b46), .val (.ref r_48), .val (.int (1 : Int32)), .val (.int (0 : Int32))] [(.int (0 : Int32)), (.ref b46)]))) (fun t ht => XS.iload X58.here hx rfl (hb hby at_175) rfl ht) ?_
        refine own_step (U' := (T58.setTop (mkF m 178 #[.val (.int p1), .val (.int p2), .val (.ref b46), .val (.ref r_48), .val (.int (1 : Int32)), .val (.int (0 : Int32))] [(.int p1), (.int (0 : Int32)), (.ref b46)]))) (fun t ht => XS.iloadN X58.here hx rfl (hb hby at_177) rfl ht) ?_
        refine own_step (U' := (T58.setTop (mkF m 180 #[.val (.int p1), .val (.int p2), .val (.ref b46), .val (.ref r_48), .val (.int (1 : Int32)), .val (.int (0 : Int32))] [(.int (8 : Int32)), (.int p1), (.int (0 : Int32)), (.ref b46)]))) (fun t ht => XS.bipush X58.here hx rfl (hb hby at_178) ht) ?_
        refine own_step (U' := (T58.setTop (mkF m 181 #[.val (.int p1), .val (.int p2), .val (.ref b46), .val (.ref r_48), .val (.int (1 : Int32)), .val (.int (0 : Int32))] [(.int (p1 &&& (8 : Int32))), (.int (0 : Int32)), (.ref b46)]))) (fun t ht => XS.iand X58.here hx rfl (hb hby at_180) rfl ht) ?_
        by_cases hc181_59 : (p1 &&& (8 : Int32)) = 0
        ·
          refine own_step (U' := (T58.setTop (mkF m 188 #[.val (.int p1), .val (.int p2), .val (.ref b46), .val (.ref r_48), .val (.int (1 : Int32)), .val (.int (0 : Int32))] [(.int (0 : Int32)), (.ref b46)]))) (fun t ht => XS.ifYes X58.here hx rfl (pc0 := 181) (pc' := 188) rfl (hb hby at_181) rfl (XT.i0_eq_t hc181_59) (by decide) (by decide) ht) ?_
          refine own_step (U' := (T58.setTop (mkF m 189 #[.val (.int p1), .val (.int p2), .val (.ref b46), .val (.ref r_48), .val (.int (1 : Int32)), .val (.int (0 : Int32))] [(.int (0 : Int32)), (.int (0 : Int32)), (.ref b46)]))) (fun t ht => XS.iconst X58.here hx rfl (hb hby at_188) ht) ?_
          refine own_step (U' := (T58.setTop (mkF m 190 #[.val (.int p1), .val (.int p2), .val (.ref b46), .val (.ref r_48), .val (.int (1 : Int32)), .val (.int (0 : Int32))] [(.ref r_48), (.int (0 : Int32)), (.int (0 : Int32)), (.ref b46)]))) (fun t ht => XS.aloadN X58.here hx rfl (hb hby at_189) rfl rfl ht) ?_
          obtain ⟨_, _, ⟨T60, L60, k60, n60⟩, -, X60, ⟨Lc60, hQ60, l60, y60, z60⟩, st60⟩ := Jvm.LawKit.callS X58 hx (y := (⟨"com/example/call_throttle/callthrottle/KeyQueueIsEmptyPinLaw", "step", "(Lcom/example/call_throttle/callthrottle/KeyQueue;IZLjava/lang/String;)I"⟩ : MethodName)) hown (mvT hZ (hw _ (List.mem_of_getElem? (i := 55) rfl))) (mvT hZ (hw _ (List.mem_of_getElem? (i := 56) rfl))) (mvT hZ (hw _ (List.mem_of_getElem? (i := 57) rfl))) (mvT hZ (hw _ (List.mem_of_getElem? (i := 58) rfl))) (by decide) (backOf (W := 0) (own_m_stN l Z a0 hw [] (b46) ((.ref r_48)) ((0 : Int32)) T48.heap n0 (Nat.le_trans Z0 K48.1) rfl (by decide)) hZ (hw _ (List.mem_of_getElem? (i := 58) rfl)) (hw _ (List.mem_of_getElem? (i := 57) rfl)) (by decide) (by decide)) (g := (mkF m 190 #[.val (.int p1), .val (.int p2), .val (.ref b46), .val (.ref r_48), .val (.int (1 : Int32)), .val (.int (0 : Int32))] [(.ref r_48), (.int (0 : Int32)), (.int (0 : Int32)), (.ref b46)])) rfl (by rw [hml]; rfl) (argsL := [(.ref b46), (.int (0 : Int32)), (.int (0 : Int32)), (.ref r_48)]) (rest := []) (lenOf own_pd8 rfl) rfl (by show 2 * 0 + _ ≤ _; exact Nat.le_of_eq rfl) (hb hby at_190) (fun _ _ => ⟨rfl, e58, (by decide : 5 + 0 ≤ _), (by decide : 1036 + 0 ≤ _)⟩)
          dsimp only [Pt.U, Pt.locs, Pt.cells, Pt.slots] at X60 l60 y60 z60 st60 hQ60
          subst l60 y60 z60
          obtain ⟨rfl, Nq60, Kq60⟩ := hQ60
          have N60 := Fr.app N58 Nq60
          have e60 : T60.heap = T48.heap := Kq60
          refine own_step (U' := (T60.setTop (mkF m 193 #[.val (.int p1), .val (.int p2), .val (.ref b46), .val (.ref r_48), .val (.int (1 : Int32)), .val (.int (0 : Int32))] [(.int (0 : Int32))]))) (fun t ht => st60 _ ht) ?_
          refine own_step (U' := (T60.setTop (mkF m 195 #[.val (.int p1), .val (.int p2), .val (.ref b46), .val (.ref r_48), .val (.int (1 : Int32)), .val (.int (0 : Int32))] []))) (fun t ht => XS.istore X60.here hx rfl (hb hby at_193) rfl (l' := #[.val (.int p1), .val (.int p2), .val (.ref b46), .val (.ref r_48), .val (.int (1 : Int32)), .val (.int (0 : Int32))]) rfl ht) ?_
          refine own_step (U' := (T60.setTop (mkF m 197 #[.val (.int p1), .val (.int p2), .val (.ref b46), .val (.ref r_48), .val (.int (1 : Int32)), .val (.int (0 : Int32))] [(.int (1 : Int32))]))) (fun t ht => XS.iload X60.here hx rfl (hb hby at_195) rfl ht) ?_
          refine own_step (U' := (T60.setTop (mkF m 200 #[.val (.int p1), .val (.int p2), .val (.ref b46), .val (.ref r_48), .val (.int (1 : Int32)), .val (.int (0 : Int32))] []))) (fun t ht => XS.ifNo X60.here hx rfl (hb hby at_197) rfl (XT.i0_eq_f ((by decide) : ¬ ((1 : Int32) = 0))) ht) ?_
          refine own_step (U' := (T60.setTop (mkF m 201 #[.val (.int p1), .val (.int p2), .val (.ref b46), .val (.ref r_48), .val (.int (1 : Int32)), .val (.int (0 : Int32))] [(.ref b46)]))) (fun t ht => XS.aloadN X60.here hx rfl (hb hby at_200) rfl rfl ht) ?_
          obtain ⟨cq61, kq61, q61a, q61b, q61c⟩ := isOf hZ e60 f48_6
          obtain ⟨_, _, ⟨T61, L61, k61, n61⟩, -, X61, ⟨Lc61, hQ61, l61, y61, z61⟩, st61⟩ := X60.virtualBack hx (y := (⟨"com/example/call_throttle/callthrottle/KeyQueue", "isEmpty", "()Z"⟩ : MethodName)) (z := (⟨"com/example/call_throttle/callthrottle/KeyQueue", "isEmpty", "()Z"⟩ : MethodName)) hown (mvT hZ (hw _ (List.mem_of_getElem? (i := 48) rfl))) (mvT hZ (hw _ (List.mem_of_getElem? (i := 49) rfl))) (notFace_of_selects (args := #[]) (mvT hZ (hw _ (List.mem_of_getElem? (i := 51) rfl)))) (mvT hZ (hw _ (List.mem_of_getElem? (i := 51) rfl))) (mvT hZ (hw _ (List.mem_of_getElem? (i := 50) rfl))) (by decide) (backOf (W := 0) (own_m_ie l Z a0 hw [] (b46) ((0 : Int64)) T48.heap n0 (Nat.le_trans Z0 K48.1) f48_5) hZ (hw _ (List.mem_of_getElem? (i := 52) rfl)) (hw _ (List.mem_of_getElem? (i := 2) rfl)) (by decide) (by decide)) q61a q61c (g := (mkF m 201 #[.val (.int p1), .val (.int p2), .val (.ref b46), .val (.ref r_48), .val (.int (1 : Int32)), .val (.int (0 : Int32))] [(.ref b46)])) rfl (by rw [hml]; rfl) (Steps.refl _) (argsL := []) (rest := []) (lenOf own_pd7 rfl) rfl (by show 2 * 0 + _ ≤ _; exact Nat.le_of_eq rfl) (hb hby at_201) (fun _ _ => ⟨rfl, e60, (by decide : 5 + 0 ≤ _), (by decide : 1036 + 0 ≤ _)⟩)
          dsimp only [Pt.U, Pt.locs, Pt.cells, Pt.slots] at X61 l61 y61 z61 st61 hQ61
          subst l61 y61 z61
          obtain ⟨rfl, Nq61, Kq61⟩ := hQ61
          have N61 := Fr.app N60 Nq61
          have e61 : T61.heap = T48.heap := Kq61
          refine own_step (U' := (T61.setTop (mkF m 204 #[.val (.int p1), .val (.int p2), .val (.ref b46), .val (.ref r_48), .val (.int (1 : Int32)), .val (.int (0 : Int32))] [(.int (own_ie (0 : Int64)))]))) (fun t ht => st61.trans ht) ?_
          refine own_step (U' := (T61.setTop (mkF m 206 #[.val (.int p1), .val (.int p2), .val (.ref b46), .val (.ref r_48), .val (.int (1 : Int32)), .val (.int (0 : Int32))] [(.int (0 : Int32)), (.int (own_ie (0 : Int64)))]))) (fun t ht => XS.iload X61.here hx rfl (hb hby at_204) rfl ht) ?_
          refine own_step (U' := (T61.setTop (mkF m 209 #[.val (.int p1), .val (.int p2), .val (.ref b46), .val (.ref r_48), .val (.int (1 : Int32)), .val (.int (0 : Int32))] [(.int (own_ie (0 : Int64)))]))) (fun t ht => XS.ifNo X61.here hx rfl (hb hby at_206) rfl (XT.i0_ne_f ((by decide) : (0 : Int32) = 0)) ht) ?_
          refine own_step (U' := (T61.setTop (mkF m 210 #[.val (.int p1), .val (.int p2), .val (.ref b46), .val (.ref r_48), .val (.int (1 : Int32)), .val (.int (0 : Int32))] [(.int (1 : Int32)), (.int (own_ie (0 : Int64)))]))) (fun t ht => XS.iconst X61.here hx rfl (hb hby at_209) ht) ?_
          refine own_step (U' := (T61.setTop (mkF m 214 #[.val (.int p1), .val (.int p2), .val (.ref b46), .val (.ref r_48), .val (.int (1 : Int32)), .val (.int (0 : Int32))] [(.int (1 : Int32)), (.int (own_ie (0 : Int64)))]))) (fun t ht => XS.goto X61.here hx rfl (pc0 := 210) (pc' := 214) rfl (hb hby at_210) (by decide) (by decide) ht) ?_
          refine own_step (U' := (T61.setTop (mkF m 217 #[.val (.int p1), .val (.int p2), .val (.ref b46), .val (.ref r_48), .val (.int (1 : Int32)), .val (.int (0 : Int32))] []))) (fun t ht => XS.icmpNo X61.here hx rfl (hb hby at_214) rfl (XT.ii_ne_f ((by decide) : (own_ie (0 : Int64)) = (1 : Int32))) ht) ?_
          refine own_step (U' := (T61.setTop (mkF m 218 #[.val (.int p1), .val (.int p2), .val (.ref b46), .val (.ref r_48), .val (.int (1 : Int32)), .val (.int (0 : Int32))] [(.int (1 : Int32))]))) (fun t ht => XS.iconst X61.here hx rfl (hb hby at_217) ht) ?_
          refine own_step (U' := (T61.setTop (mkF m 222 #[.val (.int p1), .val (.int p2), .val (.ref b46), .val (.ref r_48), .val (.int (1 : Int32)), .val (.int (0 : Int32))] [(.int (1 : Int32))]))) (fun t ht => XS.goto X61.here hx rfl (pc0 := 218) (pc' := 222) rfl (hb hby at_218) (by decide) (by decide) ht) ?_
          refine own_step (U' := (T61.setTop (mkF m 224 #[.val (.int p1), .val (.int p2), .val (.ref b46), .val (.ref r_48), .val (.int (1 : Int32)), .val (.int (0 : Int32))] []))) (fun t ht => XS.istore X61.here hx rfl (hb hby at_222) rfl (l' := #[.val (.int p1), .val (.int p2), .val (.ref b46), .val (.ref r_48), .val (.int (1 : Int32)), .val (.int (0 : Int32))]) rfl ht) ?_
          refine own_step (U' := (T61.setTop (mkF m 226 #[.val (.int p1), .val (.int p2), .val (.ref b46), .val (.ref r_48), .val (.int (1 : Int32)), .val (.int (0 : Int32))] [(.int (1 : Int32))]))) (fun t ht => XS.iload X61.here hx rfl (hb hby at_224) rfl ht) ?_
          refine own_ret X61 (v := (some (.int (nar .boolean (1 : Int32))))) (fun h => by rw [Bd.returns] at h; cases h) Bd.notSynchronized (by decide) (by decide) ?_ (fun fs hr => retN X61 hx (t := .boolean) Bd.returns (by simp) (hb hby at_226) hr)
          show own_Q_law Z p1 p2 cz h0 n0 _ T61.heap _
          rw [e61]
          exact ⟨rfl, N61⟩
        ·
          refine own_step (U' := (T58.setTop (mkF m 184 #[.val (.int p1), .val (.int p2), .val (.ref b46), .val (.ref r_48), .val (.int (1 : Int32)), .val (.int (0 : Int32))] [(.int (0 : Int32)), (.ref b46)]))) (fun t ht => XS.ifNo X58.here hx rfl (hb hby at_181) rfl (XT.i0_eq_f hc181_59) ht) ?_
          refine own_step (U' := (T58.setTop (mkF m 185 #[.val (.int p1), .val (.int p2), .val (.ref b46), .val (.ref r_48), .val (.int (1 : Int32)), .val (.int (0 : Int32))] [(.int (1 : Int32)), (.int (0 : Int32)), (.ref b46)]))) (fun t ht => XS.iconst X58.here hx rfl (hb hby at_184) ht) ?_
          refine own_step (U' := (T58.setTop (mkF m 189 #[.val (.int p1), .val (.int p2), .val (.ref b46), .val (.ref r_48), .val (.int (1 : Int32)), .val (.int (0 : Int32))] [(.int (1 : Int32)), (.int (0 : Int32)), (.ref b46)]))) (fun t ht => XS.goto X58.here hx rfl (pc0 := 185) (pc' := 189) rfl (hb hby at_185) (by decide) (by decide) ht) ?_
          refine own_step (U' := (T58.setTop (mkF m 190 #[.val (.int p1), .val (.int p2), .val (.ref b46), .val (.ref r_48), .val (.int (1 : Int32)), .val (.int (0 : Int32))] [(.ref r_48), (.int (1 : Int32)), (.int (0 : Int32)), (.ref b46)]))) (fun t ht => XS.aloadN X58.here hx rfl (hb hby at_189) rfl rfl ht) ?_
          obtain ⟨_, _, ⟨T62, L62, k62, n62⟩, -, X62, ⟨Lc62, hQ62, l62, y62, z62⟩, st62⟩ := Jvm.LawKit.callS X58 hx (y := (⟨"com/example/call_throttle/callthrottle/KeyQueueIsEmptyPinLaw", "step", "(Lcom/example/call_throttle/callthrottle/KeyQueue;IZLjava/lang/String;)I"⟩ : MethodName)) hown (mvT hZ (hw _ (List.mem_of_getElem? (i := 55) rfl))) (mvT hZ (hw _ (List.mem_of_getElem? (i := 56) rfl))) (mvT hZ (hw _ (List.mem_of_getElem? (i := 57) rfl))) (mvT hZ (hw _ (List.mem_of_getElem? (i := 58) rfl))) (by decide) (backOf (W := 0) (own_m_stA l Z a0 hw [] (b46) (c1_47) (r1_47) (kA_47) ((0 : Int32)) ((0 : Int32)) ((0 : Int64)) ([.null, .null, .null, .null]) ((.ref r_48)) (0) ((0 : Int32)) T48.heap n0 (Nat.le_trans Z0 K48.1) g_b46 g_r1_47 p47_0 p47_1 f48_1 f48_2 f48_3 f48_4 f48_5 f48_6 f48_7 f48_8 f48_9 ky48 p47_2 (by decide) (by decide) (by decide) rfl (Nat.le_of_ble_eq_true rfl)) hZ (hw _ (List.mem_of_getElem? (i := 58) rfl)) (hw _ (List.mem_of_getElem? (i := 57) rfl)) (by decide) (by decide)) (g := (mkF m 190 #[.val (.int p1), .val (.int p2), .val (.ref b46), .val (.ref r_48), .val (.int (1 : Int32)), .val (.int (0 : Int32))] [(.ref r_48), (.int (1 : Int32)), (.int (0 : Int32)), (.ref b46)])) rfl (by rw [hml]; rfl) (argsL := [(.ref b46), (.int (0 : Int32)), (.int (1 : Int32)), (.ref r_48)]) (rest := []) (lenOf own_pd8 rfl) rfl (by show 2 * 0 + _ ≤ _; exact Nat.le_of_eq rfl) (hb hby at_190) (fun _ _ => ⟨rfl, e58, (by decide : 5 + 0 ≤ _), (by decide : 1036 + 0 ≤ _)⟩)
          dsimp only [Pt.U, Pt.locs, Pt.cells, Pt.slots] at X62 l62 y62 z62 st62 hQ62
          subst l62 y62 z62
          obtain ⟨rfl, Nq62, Kq62, Fq62_0, Fq62_1, Fq62_2, Fq62_3, Fq62_4, Fq62_5, Fq62_6, Fq62_7, Fq62_8⟩ := hQ62
          have N62 := Fr.app N58 Nq62
          have f62_0 : Sta Z T62.heap "java/lang/String" "COMPACT_STRINGS" "Z" (.int cz) := own_sta_keep f48_0 Kq62 (own_plF f48_1 (own_plV f48_9 own_pl0))
          have f62_6 : Exa Z T62.heap b46 "com/example/call_throttle/callthrottle/KeyQueue" := f48_6.keep Kq62
          have f62_7 : Fld Z T62.heap c1_47 "com/example/call_throttle/callthrottle/KeyQueue$Chunk" "keys" "[Ljava/lang/String;" (.ref r1_47) := f48_7.keep Kq62 (ninS (Ne.symm ne_b46_c1_47) (ninS p47_1 nin0))
          have f62_8 : Exa Z T62.heap c1_47 "com/example/call_throttle/callthrottle/KeyQueue$Chunk" := f48_8.keep Kq62
          have f62_10 : own_Key Z T62.heap (.ref r_48) := ky48.keep Kq62
          have K62 : Keep h0 T62.heap [] := K48.trans Kq62 (allS (Or.inr sz_b46) (allS (Or.inr sz_r1_47) all0))
          refine own_step (U' := (T62.setTop (mkF m 193 #[.val (.int p1), .val (.int p2), .val (.ref b46), .val (.ref r_48), .val (.int (1 : Int32)), .val (.int (0 : Int32))] [(.int ((0 : Int32) + (1 : Int32)))]))) (fun t ht => st62 _ ht) ?_
          refine own_step (U' := (T62.setTop (mkF m 195 #[.val (.int p1), .val (.int p2), .val (.ref b46), .val (.ref r_48), .val (.int (1 : Int32)), .val (.int ((0 : Int32) + (1 : Int32)))] []))) (fun t ht => XS.istore X62.here hx rfl (hb hby at_193) rfl (l' := #[.val (.int p1), .val (.int p2), .val (.ref b46), .val (.ref r_48), .val (.int (1 : Int32)), .val (.int ((0 : Int32) + (1 : Int32)))]) rfl ht) ?_
          refine own_step (U' := (T62.setTop (mkF m 197 #[.val (.int p1), .val (.int p2), .val (.ref b46), .val (.ref r_48), .val (.int (1 : Int32)), .val (.int ((0 : Int32) + (1 : Int32)))] [(.int (1 : Int32))]))) (fun t ht => XS.iload X62.here hx rfl (hb hby at_195) rfl ht) ?_
          refine own_step (U' := (T62.setTop (mkF m 200 #[.val (.int p1), .val (.int p2), .val (.ref b46), .val (.ref r_48), .val (.int (1 : Int32)), .val (.int ((0 : Int32) + (1 : Int32)))] []))) (fun t ht => XS.ifNo X62.here hx rfl (hb hby at_197) rfl (XT.i0_eq_f ((by decide) : ¬ ((1 : Int32) = 0))) ht) ?_
          refine own_step (U' := (T62.setTop (mkF m 201 #[.val (.int p1), .val (.int p2), .val (.ref b46), .val (.ref r_48), .val (.int (1 : Int32)), .val (.int ((0 : Int32) + (1 : Int32)))] [(.ref b46)]))) (fun t ht => XS.aloadN X62.here hx rfl (hb hby at_200) rfl rfl ht) ?_
          obtain ⟨cq63, kq63, q63a, q63b, q63c⟩ := isOf hZ rfl Fq62_5
          obtain ⟨_, _, ⟨T63, L63, k63, n63⟩, -, X63, ⟨Lc63, hQ63, l63, y63, z63⟩, st63⟩ := X62.virtualBack hx (y := (⟨"com/example/call_throttle/callthrottle/KeyQueue", "isEmpty", "()Z"⟩ : MethodName)) (z := (⟨"com/example/call_throttle/callthrottle/KeyQueue", "isEmpty", "()Z"⟩ : MethodName)) hown (mvT hZ (hw _ (List.mem_of_getElem? (i := 48) rfl))) (mvT hZ (hw _ (List.mem_of_getElem? (i := 49) rfl))) (notFace_of_selects (args := #[]) (mvT hZ (hw _ (List.mem_of_getElem? (i := 51) rfl)))) (mvT hZ (hw _ (List.mem_of_getElem? (i := 51) rfl))) (mvT hZ (hw _ (List.mem_of_getElem? (i := 50) rfl))) (by decide) (backOf (W := 0) (own_m_ie l Z a0 hw [] (b46) (((0 : Int64) + (1 : Int64))) T62.heap n0 (Nat.le_trans Z0 K62.1) Fq62_4) hZ (hw _ (List.mem_of_getElem? (i := 52) rfl)) (hw _ (List.mem_of_getElem? (i := 2) rfl)) (by decide) (by decide)) q63a q63c (g := (mkF m 201 #[.val (.int p1), .val (.int p2), .val (.ref b46), .val (.ref r_48), .val (.int (1 : Int32)), .val (.int ((0 : Int32) + (1 : Int32)))] [(.ref b46)])) rfl (by rw [hml]; rfl) (Steps.refl _) (argsL := []) (rest := []) (lenOf own_pd7 rfl) rfl (by show 2 * 0 + _ ≤ _; exact Nat.le_of_eq rfl) (hb hby at_201) (fun _ _ => ⟨rfl, rfl, (by decide : 5 + 0 ≤ _), (by decide : 1036 + 0 ≤ _)⟩)
          dsimp only [Pt.U, Pt.locs, Pt.cells, Pt.slots] at X63 l63 y63 z63 st63 hQ63
          subst l63 y63 z63
          obtain ⟨rfl, Nq63, Kq63⟩ := hQ63
          have N63 := Fr.app N62 Nq63
          have e63 : T63.heap = T62.heap := Kq63
          refine own_step (U' := (T63.setTop (mkF m 204 #[.val (.int p1), .val (.int p2), .val (.ref b46), .val (.ref r_48), .val (.int (1 : Int32)), .val (.int ((0 : Int32) + (1 : Int32)))] [(.int (own_ie ((0 : Int64) + (1 : Int64))))]))) (fun t ht => st63.trans ht) ?_
          refine own_step (U' := (T63.setTop (mkF m 206 #[.val (.int p1), .val (.int p2), .val (.ref b46), .val (.ref r_48), .val (.int (1 : Int32)), .val (.int ((0 : Int32) + (1 : Int32)))] [(.int ((0 : Int32) + (1 : Int32))), (.int (own_ie ((0 : Int64) + (1 : Int64))))]))) (fun t ht => XS.iload X63.here hx rfl (hb hby at_204) rfl ht) ?_
          refine own_step (U' := (T63.setTop (mkF m 213 #[.val (.int p1), .val (.int p2), .val (.ref b46), .val (.ref r_48), .val (.int (1 : Int32)), .val (.int ((0 : Int32) + (1 : Int32)))] [(.int (own_ie ((0 : Int64) + (1 : Int64))))]))) (fun t ht => XS.ifYes X63.here hx rfl (pc0 := 206) (pc' := 213) rfl (hb hby at_206) rfl (XT.i0_ne_t ((by decide) : ¬ (((0 : Int32) + (1 : Int32)) = 0))) (by decide) (by decide) ht) ?_
          refine own_step (U' := (T63.setTop (mkF m 214 #[.val (.int p1), .val (.int p2), .val (.ref b46), .val (.ref r_48), .val (.int (1 : Int32)), .val (.int ((0 : Int32) + (1 : Int32)))] [(.int (0 : Int32)), (.int (own_ie ((0 : Int64) + (1 : Int64))))]))) (fun t ht => XS.iconst X63.here hx rfl (hb hby at_213) ht) ?_
          refine own_step (U' := (T63.setTop (mkF m 217 #[.val (.int p1), .val (.int p2), .val (.ref b46), .val (.ref r_48), .val (.int (1 : Int32)), .val (.int ((0 : Int32) + (1 : Int32)))] []))) (fun t ht => XS.icmpNo X63.here hx rfl (hb hby at_214) rfl (XT.ii_ne_f ((by decide) : (own_ie ((0 : Int64) + (1 : Int64))) = (0 : Int32))) ht) ?_
          refine own_step (U' := (T63.setTop (mkF m 218 #[.val (.int p1), .val (.int p2), .val (.ref b46), .val (.ref r_48), .val (.int (1 : Int32)), .val (.int ((0 : Int32) + (1 : Int32)))] [(.int (1 : Int32))]))) (fun t ht => XS.iconst X63.here hx rfl (hb hby at_217) ht) ?_
          refine own_step (U' := (T63.setTop (mkF m 222 #[.val (.int p1), .val (.int p2), .val (.ref b46), .val (.ref r_48), .val (.int (1 : Int32)), .val (.int ((0 : Int32) + (1 : Int32)))] [(.int (1 : Int32))]))) (fun t ht => XS.goto X63.here hx rfl (pc0 := 218) (pc' := 222) rfl (hb hby at_218) (by decide) (by decide) ht) ?_
          refine own_step (U' := (T63.setTop (mkF m 224 #[.val (.int p1), .val (.int p2), .val (.ref b46), .val (.ref r_48), .val (.int (1 : Int32)), .val (.int ((0 : Int32) + (1 : Int32)))] []))) (fun t ht => XS.istore X63.here hx rfl (hb hby at_222) rfl (l' := #[.val (.int p1), .val (.int p2), .val (.ref b46), .val (.ref r_48), .val (.int (1 : Int32)), .val (.int ((0 : Int32) + (1 : Int32)))]) rfl ht) ?_
          refine own_step (U' := (T63.setTop (mkF m 226 #[.val (.int p1), .val (.int p2), .val (.ref b46), .val (.ref r_48), .val (.int (1 : Int32)), .val (.int ((0 : Int32) + (1 : Int32)))] [(.int (1 : Int32))]))) (fun t ht => XS.iload X63.here hx rfl (hb hby at_224) rfl ht) ?_
          refine own_ret X63 (v := (some (.int (nar .boolean (1 : Int32))))) (fun h => by rw [Bd.returns] at h; cases h) Bd.notSynchronized (by decide) (by decide) ?_ (fun fs hr => retN X63 hx (t := .boolean) Bd.returns (by simp) (hb hby at_226) hr)
          show own_Q_law Z p1 p2 cz h0 n0 _ T63.heap _
          rw [e63]
          exact ⟨rfl, N63⟩
      ·
        refine own_step (U' := (T55.setTop (mkF m 134 #[.val (.int p1), .val (.int p2), .val (.ref b46), .val (.ref r_48), .val (.int (1 : Int32)), .val (.int (0 : Int32))] [(.int (0 : Int32)), (.ref b46)]))) (fun t ht => XS.ifNo X55.here hx rfl (hb hby at_131) rfl (XT.i0_eq_f hc131_56) ht) ?_
        refine own_step (U' := (T55.setTop (mkF m 135 #[.val (.int p1), .val (.int p2), .val (.ref b46), .val (.ref r_48), .val (.int (1 : Int32)), .val (.int (0 : Int32))] [(.int (1 : Int32)), (.int (0 : Int32)), (.ref b46)]))) (fun t ht => XS.iconst X55.here hx rfl (hb hby at_134) ht) ?_
        refine own_step (U' := (T55.setTop (mkF m 139 #[.val (.int p1), .val (.int p2), .val (.ref b46), .val (.ref r_48), .val (.int (1 : Int32)), .val (.int (0 : Int32))] [(.int (1 : Int32)), (.int (0 : Int32)), (.ref b46)]))) (fun t ht => XS.goto X55.here hx rfl (pc0 := 135) (pc' := 139) rfl (hb hby at_135) (by decide) (by decide) ht) ?_
        refine own_step (U' := (T55.setTop (mkF m 140 #[.val (.int p1), .val (.int p2), .val (.ref b46), .val (.ref r_48), .val (.int (1 : Int32)), .val (.int (0 : Int32))] [(.ref r_48), (.int (1 : Int32)), (.int (0 : Int32)), (.ref b46)]))) (fun t ht => XS.aloadN X55.here hx rfl (hb hby at_139) rfl rfl ht) ?_
        obtain ⟨_, _, ⟨T64, L64, k64, n64⟩, -, X64, ⟨Lc64, hQ64, l64, y64, z64⟩, st64⟩ := Jvm.LawKit.callS X55 hx (y := (⟨"com/example/call_throttle/callthrottle/KeyQueueIsEmptyPinLaw", "step", "(Lcom/example/call_throttle/callthrottle/KeyQueue;IZLjava/lang/String;)I"⟩ : MethodName)) hown (mvT hZ (hw _ (List.mem_of_getElem? (i := 55) rfl))) (mvT hZ (hw _ (List.mem_of_getElem? (i := 56) rfl))) (mvT hZ (hw _ (List.mem_of_getElem? (i := 57) rfl))) (mvT hZ (hw _ (List.mem_of_getElem? (i := 58) rfl))) (by decide) (backOf (W := 0) (own_m_stA l Z a0 hw [] (b46) (c1_47) (r1_47) (kA_47) ((0 : Int32)) ((0 : Int32)) ((0 : Int64)) ([.null, .null, .null, .null]) ((.ref r_48)) (0) ((0 : Int32)) T48.heap n0 (Nat.le_trans Z0 K48.1) g_b46 g_r1_47 p47_0 p47_1 f48_1 f48_2 f48_3 f48_4 f48_5 f48_6 f48_7 f48_8 f48_9 ky48 p47_2 (by decide) (by decide) (by decide) rfl (Nat.le_of_ble_eq_true rfl)) hZ (hw _ (List.mem_of_getElem? (i := 58) rfl)) (hw _ (List.mem_of_getElem? (i := 57) rfl)) (by decide) (by decide)) (g := (mkF m 140 #[.val (.int p1), .val (.int p2), .val (.ref b46), .val (.ref r_48), .val (.int (1 : Int32)), .val (.int (0 : Int32))] [(.ref r_48), (.int (1 : Int32)), (.int (0 : Int32)), (.ref b46)])) rfl (by rw [hml]; rfl) (argsL := [(.ref b46), (.int (0 : Int32)), (.int (1 : Int32)), (.ref r_48)]) (rest := []) (lenOf own_pd8 rfl) rfl (by show 2 * 0 + _ ≤ _; exact Nat.le_of_eq rfl) (hb hby at_140) (fun _ _ => ⟨rfl, e55, (by decide : 5 + 0 ≤ _), (by decide : 1036 + 0 ≤ _)⟩)
        dsimp only [Pt.U, Pt.locs, Pt.cells, Pt.slots] at X64 l64 y64 z64 st64 hQ64
        subst l64 y64 z64
        obtain ⟨rfl, Nq64, Kq64, Fq64_0, Fq64_1, Fq64_2, Fq64_3, Fq64_4, Fq64_5, Fq64_6, Fq64_7, Fq64_8⟩ := hQ64
        have N64 := Fr.app N55 Nq64
        have f64_0 : Sta Z T64.heap "java/lang/String" "COMPACT_STRINGS" "Z" (.int cz) := own_sta_keep f48_0 Kq64 (own_plF f48_1 (own_plV f48_9 own_pl0))
        have f64_6 : Exa Z T64.heap b46 "com/example/call_throttle/callthrottle/KeyQueue" := f48_6.keep Kq64
        have f64_7 : Fld Z T64.heap c1_47 "com/example/call_throttle/callthrottle/KeyQueue$Chunk" "keys" "[Ljava/lang/String;" (.ref r1_47) := f48_7.keep Kq64 (ninS (Ne.symm ne_b46_c1_47) (ninS p47_1 nin0))
        have f64_8 : Exa Z T64.heap c1_47 "com/example/call_throttle/callthrottle/KeyQueue$Chunk" := f48_8.keep Kq64
        have f64_10 : own_Key Z T64.heap (.ref r_48) := ky48.keep Kq64
        have K64 : Keep h0 T64.heap [] := K48.trans Kq64 (allS (Or.inr sz_b46) (allS (Or.inr sz_r1_47) all0))
        refine own_step (U' := (T64.setTop (mkF m 143 #[.val (.int p1), .val (.int p2), .val (.ref b46), .val (.ref r_48), .val (.int (1 : Int32)), .val (.int (0 : Int32))] [(.int ((0 : Int32) + (1 : Int32)))]))) (fun t ht => st64 _ ht) ?_
        refine own_step (U' := (T64.setTop (mkF m 145 #[.val (.int p1), .val (.int p2), .val (.ref b46), .val (.ref r_48), .val (.int (1 : Int32)), .val (.int ((0 : Int32) + (1 : Int32)))] []))) (fun t ht => XS.istore X64.here hx rfl (hb hby at_143) rfl (l' := #[.val (.int p1), .val (.int p2), .val (.ref b46), .val (.ref r_48), .val (.int (1 : Int32)), .val (.int ((0 : Int32) + (1 : Int32)))]) rfl ht) ?_
        refine own_step (U' := (T64.setTop (mkF m 147 #[.val (.int p1), .val (.int p2), .val (.ref b46), .val (.ref r_48), .val (.int (1 : Int32)), .val (.int ((0 : Int32) + (1 : Int32)))] [(.int (1 : Int32))]))) (fun t ht => XS.iload X64.here hx rfl (hb hby at_145) rfl ht) ?_
        refine own_step (U' := (T64.setTop (mkF m 150 #[.val (.int p1), .val (.int p2), .val (.ref b46), .val (.ref r_48), .val (.int (1 : Int32)), .val (.int ((0 : Int32) + (1 : Int32)))] []))) (fun t ht => XS.ifNo X64.here hx rfl (hb hby at_147) rfl (XT.i0_eq_f ((by decide) : ¬ ((1 : Int32) = 0))) ht) ?_
        refine own_step (U' := (T64.setTop (mkF m 151 #[.val (.int p1), .val (.int p2), .val (.ref b46), .val (.ref r_48), .val (.int (1 : Int32)), .val (.int ((0 : Int32) + (1 : Int32)))] [(.ref b46)]))) (fun t ht => XS.aloadN X64.here hx rfl (hb hby at_150) rfl rfl ht) ?_
        obtain ⟨cq65, kq65, q65a, q65b, q65c⟩ := isOf hZ rfl Fq64_5
        obtain ⟨_, _, ⟨T65, L65, k65, n65⟩, -, X65, ⟨Lc65, hQ65, l65, y65, z65⟩, st65⟩ := X64.virtualBack hx (y := (⟨"com/example/call_throttle/callthrottle/KeyQueue", "isEmpty", "()Z"⟩ : MethodName)) (z := (⟨"com/example/call_throttle/callthrottle/KeyQueue", "isEmpty", "()Z"⟩ : MethodName)) hown (mvT hZ (hw _ (List.mem_of_getElem? (i := 48) rfl))) (mvT hZ (hw _ (List.mem_of_getElem? (i := 49) rfl))) (notFace_of_selects (args := #[]) (mvT hZ (hw _ (List.mem_of_getElem? (i := 51) rfl)))) (mvT hZ (hw _ (List.mem_of_getElem? (i := 51) rfl))) (mvT hZ (hw _ (List.mem_of_getElem? (i := 50) rfl))) (by decide) (backOf (W := 0) (own_m_ie l Z a0 hw [] (b46) (((0 : Int64) + (1 : Int64))) T64.heap n0 (Nat.le_trans Z0 K64.1) Fq64_4) hZ (hw _ (List.mem_of_getElem? (i := 52) rfl)) (hw _ (List.mem_of_getElem? (i := 2) rfl)) (by decide) (by decide)) q65a q65c (g := (mkF m 151 #[.val (.int p1), .val (.int p2), .val (.ref b46), .val (.ref r_48), .val (.int (1 : Int32)), .val (.int ((0 : Int32) + (1 : Int32)))] [(.ref b46)])) rfl (by rw [hml]; rfl) (Steps.refl _) (argsL := []) (rest := []) (lenOf own_pd7 rfl) rfl (by show 2 * 0 + _ ≤ _; exact Nat.le_of_eq rfl) (hb hby at_151) (fun _ _ => ⟨rfl, rfl, (by decide : 5 + 0 ≤ _), (by decide : 1036 + 0 ≤ _)⟩)
        dsimp only [Pt.U, Pt.locs, Pt.cells, Pt.slots] at X65 l65 y65 z65 st65 hQ65
        subst l65 y65 z65
        obtain ⟨rfl, Nq65, Kq65⟩ := hQ65
        have N65 := Fr.app N64 Nq65
        have e65 : T65.heap = T64.heap := Kq65
        refine own_step (U' := (T65.setTop (mkF m 154 #[.val (.int p1), .val (.int p2), .val (.ref b46), .val (.ref r_48), .val (.int (1 : Int32)), .val (.int ((0 : Int32) + (1 : Int32)))] [(.int (own_ie ((0 : Int64) + (1 : Int64))))]))) (fun t ht => st65.trans ht) ?_
        refine own_step (U' := (T65.setTop (mkF m 156 #[.val (.int p1), .val (.int p2), .val (.ref b46), .val (.ref r_48), .val (.int (1 : Int32)), .val (.int ((0 : Int32) + (1 : Int32)))] [(.int ((0 : Int32) + (1 : Int32))), (.int (own_ie ((0 : Int64) + (1 : Int64))))]))) (fun t ht => XS.iload X65.here hx rfl (hb hby at_154) rfl ht) ?_
        refine own_step (U' := (T65.setTop (mkF m 163 #[.val (.int p1), .val (.int p2), .val (.ref b46), .val (.ref r_48), .val (.int (1 : Int32)), .val (.int ((0 : Int32) + (1 : Int32)))] [(.int (own_ie ((0 : Int64) + (1 : Int64))))]))) (fun t ht => XS.ifYes X65.here hx rfl (pc0 := 156) (pc' := 163) rfl (hb hby at_156) rfl (XT.i0_ne_t ((by decide) : ¬ (((0 : Int32) + (1 : Int32)) = 0))) (by decide) (by decide) ht) ?_
        refine own_step (U' := (T65.setTop (mkF m 164 #[.val (.int p1), .val (.int p2), .val (.ref b46), .val (.ref r_48), .val (.int (1 : Int32)), .val (.int ((0 : Int32) + (1 : Int32)))] [(.int (0 : Int32)), (.int (own_ie ((0 : Int64) + (1 : Int64))))]))) (fun t ht => XS.iconst X65.here hx rfl (hb hby at_163) ht) ?_
        refine own_step (U' := (T65.setTop (mkF m 167 #[.val (.int p1), .val (.int p2), .val (.ref b46), .val (.ref r_48), .val (.int (1 : Int32)), .val (.int ((0 : Int32) + (1 : Int32)))] []))) (fun t ht => XS.icmpNo X65.here hx rfl (hb hby at_164) rfl (XT.ii_ne_f ((by decide) : (own_ie ((0 : Int64) + (1 : Int64))) = (0 : Int32))) ht) ?_
        refine own_step (U' := (T65.setTop (mkF m 168 #[.val (.int p1), .val (.int p2), .val (.ref b46), .val (.ref r_48), .val (.int (1 : Int32)), .val (.int ((0 : Int32) + (1 : Int32)))] [(.int (1 : Int32))]))) (fun t ht => XS.iconst X65.here hx rfl (hb hby at_167) ht) ?_
        refine own_step (U' := (T65.setTop (mkF m 172 #[.val (.int p1), .val (.int p2), .val (.ref b46), .val (.ref r_48), .val (.int (1 : Int32)), .val (.int ((0 : Int32) + (1 : Int32)))] [(.int (1 : Int32))]))) (fun t ht => XS.goto X65.here hx rfl (pc0 := 168) (pc' := 172) rfl (hb hby at_168) (by decide) (by decide) ht) ?_
        refine own_step (U' := (T65.setTop (mkF m 174 #[.val (.int p1), .val (.int p2), .val (.ref b46), .val (.ref r_48), .val (.int (1 : Int32)), .val (.int ((0 : Int32) + (1 : Int32)))] []))) (fun t ht => XS.istore X65.here hx rfl (hb hby at_172) rfl (l' := #[.val (.int p1), .val (.int p2), .val (.ref b46), .val (.ref r_48), .val (.int (1 : Int32)), .val (.int ((0 : Int32) + (1 : Int32)))]) rfl ht) ?_
        refine own_step (U' := (T65.setTop (mkF m 175 #[.val (.int p1), .val (.int p2), .val (.ref b46), .val (.ref r_48), .val (.int (1 : Int32)), .val (.int ((0 : Int32) + (1 : Int32)))] [(.ref b46)]))) (fun t ht => XS.aloadN X65.here hx rfl (hb hby at_174) rfl rfl ht) ?_
        refine own_step (U' := (T65.setTop (mkF m 177 #[.val (.int p1), .val (.int p2), .val (.ref b46), .val (.ref r_48), .val (.int (1 : Int32)), .val (.int ((0 : Int32) + (1 : Int32)))] [(.int ((0 : Int32) + (1 : Int32))), (.ref b46)]))) (fun t ht => XS.iload X65.here hx rfl (hb hby at_175) rfl ht) ?_
        refine own_step (U' := (T65.setTop (mkF m 178 #[.val (.int p1), .val (.int p2), .val (.ref b46), .val (.ref r_48), .val (.int (1 : Int32)), .val (.int ((0 : Int32) + (1 : Int32)))] [(.int p1), (.int ((0 : Int32) + (1 : Int32))), (.ref b46)]))) (fun t ht => XS.iloadN X65.here hx rfl (hb hby at_177) rfl ht) ?_
        refine own_step (U' := (T65.setTop (mkF m 180 #[.val (.int p1), .val (.int p2), .val (.ref b46), .val (.ref r_48), .val (.int (1 : Int32)), .val (.int ((0 : Int32) + (1 : Int32)))] [(.int (8 : Int32)), (.int p1), (.int ((0 : Int32) + (1 : Int32))), (.ref b46)]))) (fun t ht => XS.bipush X65.here hx rfl (hb hby at_178) ht) ?_
        refine own_step (U' := (T65.setTop (mkF m 181 #[.val (.int p1), .val (.int p2), .val (.ref b46), .val (.ref r_48), .val (.int (1 : Int32)), .val (.int ((0 : Int32) + (1 : Int32)))] [(.int (p1 &&& (8 : Int32))), (.int ((0 : Int32) + (1 : Int32))), (.ref b46)]))) (fun t ht => XS.iand X65.here hx rfl (hb hby at_180) rfl ht) ?_
        by_cases hc181_66 : (p1 &&& (8 : Int32)) = 0
        ·
          refine own_step (U' := (T65.setTop (mkF m 188 #[.val (.int p1), .val (.int p2), .val (.ref b46), .val (.ref r_48), .val (.int (1 : Int32)), .val (.int ((0 : Int32) + (1 : Int32)))] [(.int ((0 : Int32) + (1 : Int32))), (.ref b46)]))) (fun t ht => XS.ifYes X65.here hx rfl (pc0 := 181) (pc' := 188) rfl (hb hby at_181) rfl (XT.i0_eq_t hc181_66) (by decide) (by decide) ht) ?_
          refine own_step (U' := (T65.setTop (mkF m 189 #[.val (.int p1), .val (.int p2), .val (.ref b46), .val (.ref r_48), .val (.int (1 : Int32)), .val (.int ((0 : Int32) + (1 : Int32)))] [(.int (0 : Int32)), (.int ((0 : Int32) + (1 : Int32))), (.ref b46)]))) (fun t ht => XS.iconst X65.here hx rfl (hb hby at_188) ht) ?_
          refine own_step (U' := (T65.setTop (mkF m 190 #[.val (.int p1), .val (.int p2), .val (.ref b46), .val (.ref r_48), .val (.int (1 : Int32)), .val (.int ((0 : Int32) + (1 : Int32)))] [(.ref r_48), (.int (0 : Int32)), (.int ((0 : Int32) + (1 : Int32))), (.ref b46)]))) (fun t ht => XS.aloadN X65.here hx rfl (hb hby at_189) rfl rfl ht) ?_
          obtain ⟨_, _, ⟨T67, L67, k67, n67⟩, -, X67, ⟨Lc67, hQ67, l67, y67, z67⟩, st67⟩ := Jvm.LawKit.callS X65 hx (y := (⟨"com/example/call_throttle/callthrottle/KeyQueueIsEmptyPinLaw", "step", "(Lcom/example/call_throttle/callthrottle/KeyQueue;IZLjava/lang/String;)I"⟩ : MethodName)) hown (mvT hZ (hw _ (List.mem_of_getElem? (i := 55) rfl))) (mvT hZ (hw _ (List.mem_of_getElem? (i := 56) rfl))) (mvT hZ (hw _ (List.mem_of_getElem? (i := 57) rfl))) (mvT hZ (hw _ (List.mem_of_getElem? (i := 58) rfl))) (by decide) (backOf (W := 0) (own_m_stR l Z a0 hw [] (b46) (c1_47) (r1_47) (kA_47) ((0 : Int32)) (((0 : Int32) + (1 : Int32))) (((0 : Int64) + (1 : Int64))) (([.null, .null, .null, .null].set 0 (.ref r_48))) ((.ref r_48)) ((.ref r_48)) (0) (((0 : Int32) + (1 : Int32))) T64.heap n0 (Nat.le_trans Z0 K64.1) g_b46 g_r1_47 p47_0 p47_1 Fq64_0 Fq64_1 Fq64_2 Fq64_3 Fq64_4 Fq64_5 Fq64_6 Fq64_7 Fq64_8 (by decide) (by decide) (by decide) (by decide) rfl (Nat.le_of_ble_eq_true rfl) rfl rfl rfl (by decide)) hZ (hw _ (List.mem_of_getElem? (i := 58) rfl)) (hw _ (List.mem_of_getElem? (i := 57) rfl)) (by decide) (by decide)) (g := (mkF m 190 #[.val (.int p1), .val (.int p2), .val (.ref b46), .val (.ref r_48), .val (.int (1 : Int32)), .val (.int ((0 : Int32) + (1 : Int32)))] [(.ref r_48), (.int (0 : Int32)), (.int ((0 : Int32) + (1 : Int32))), (.ref b46)])) rfl (by rw [hml]; rfl) (argsL := [(.ref b46), (.int ((0 : Int32) + (1 : Int32))), (.int (0 : Int32)), (.ref r_48)]) (rest := []) (lenOf own_pd8 rfl) rfl (by show 2 * 0 + _ ≤ _; exact Nat.le_of_eq rfl) (hb hby at_190) (fun _ _ => ⟨rfl, e65, (by decide : 5 + 0 ≤ _), (by decide : 1036 + 0 ≤ _)⟩)
          dsimp only [Pt.U, Pt.locs, Pt.cells, Pt.slots] at X67 l67 y67 z67 st67 hQ67
          subst l67 y67 z67
          obtain ⟨rfl, Nq67, Kq67, Fq67_0, Fq67_1, Fq67_2, Fq67_3, Fq67_4, Fq67_5, Fq67_6, Fq67_7, Fq67_8⟩ := hQ67
          have N67 := Fr.app N65 Nq67
          have f67_0 : Sta Z T67.heap "java/lang/String" "COMPACT_STRINGS" "Z" (.int cz) := own_sta_keep f64_0 Kq67 (own_plF Fq64_0 (own_plV Fq64_8 own_pl0))
          have f67_1 : own_Key Z T67.heap (.ref r_48) := f64_10.keep Kq67
          have f67_7 : Exa Z T67.heap b46 "com/example/call_throttle/callthrottle/KeyQueue" := Fq64_5.keep Kq67
          have f67_8 : Fld Z T67.heap c1_47 "com/example/call_throttle/callthrottle/KeyQueue$Chunk" "keys" "[Ljava/lang/String;" (.ref r1_47) := Fq64_6.keep Kq67 (ninS (Ne.symm ne_b46_c1_47) (ninS p47_1 nin0))
          have f67_9 : Exa Z T67.heap c1_47 "com/example/call_throttle/callthrottle/KeyQueue$Chunk" := Fq64_7.keep Kq67
          have K67 : Keep h0 T67.heap [] := K64.trans Kq67 (allS (Or.inr sz_b46) (allS (Or.inr sz_r1_47) all0))
          refine own_step (U' := (T67.setTop (mkF m 193 #[.val (.int p1), .val (.int p2), .val (.ref b46), .val (.ref r_48), .val (.int (1 : Int32)), .val (.int ((0 : Int32) + (1 : Int32)))] [(.int (((0 : Int32) + (1 : Int32)) - (1 : Int32)))]))) (fun t ht => st67 _ ht) ?_
          refine own_step (U' := (T67.setTop (mkF m 195 #[.val (.int p1), .val (.int p2), .val (.ref b46), .val (.ref r_48), .val (.int (1 : Int32)), .val (.int (((0 : Int32) + (1 : Int32)) - (1 : Int32)))] []))) (fun t ht => XS.istore X67.here hx rfl (hb hby at_193) rfl (l' := #[.val (.int p1), .val (.int p2), .val (.ref b46), .val (.ref r_48), .val (.int (1 : Int32)), .val (.int (((0 : Int32) + (1 : Int32)) - (1 : Int32)))]) rfl ht) ?_
          refine own_step (U' := (T67.setTop (mkF m 197 #[.val (.int p1), .val (.int p2), .val (.ref b46), .val (.ref r_48), .val (.int (1 : Int32)), .val (.int (((0 : Int32) + (1 : Int32)) - (1 : Int32)))] [(.int (1 : Int32))]))) (fun t ht => XS.iload X67.here hx rfl (hb hby at_195) rfl ht) ?_
          refine own_step (U' := (T67.setTop (mkF m 200 #[.val (.int p1), .val (.int p2), .val (.ref b46), .val (.ref r_48), .val (.int (1 : Int32)), .val (.int (((0 : Int32) + (1 : Int32)) - (1 : Int32)))] []))) (fun t ht => XS.ifNo X67.here hx rfl (hb hby at_197) rfl (XT.i0_eq_f ((by decide) : ¬ ((1 : Int32) = 0))) ht) ?_
          refine own_step (U' := (T67.setTop (mkF m 201 #[.val (.int p1), .val (.int p2), .val (.ref b46), .val (.ref r_48), .val (.int (1 : Int32)), .val (.int (((0 : Int32) + (1 : Int32)) - (1 : Int32)))] [(.ref b46)]))) (fun t ht => XS.aloadN X67.here hx rfl (hb hby at_200) rfl rfl ht) ?_
          obtain ⟨cq68, kq68, q68a, q68b, q68c⟩ := isOf hZ rfl Fq67_5
          obtain ⟨_, _, ⟨T68, L68, k68, n68⟩, -, X68, ⟨Lc68, hQ68, l68, y68, z68⟩, st68⟩ := X67.virtualBack hx (y := (⟨"com/example/call_throttle/callthrottle/KeyQueue", "isEmpty", "()Z"⟩ : MethodName)) (z := (⟨"com/example/call_throttle/callthrottle/KeyQueue", "isEmpty", "()Z"⟩ : MethodName)) hown (mvT hZ (hw _ (List.mem_of_getElem? (i := 48) rfl))) (mvT hZ (hw _ (List.mem_of_getElem? (i := 49) rfl))) (notFace_of_selects (args := #[]) (mvT hZ (hw _ (List.mem_of_getElem? (i := 51) rfl)))) (mvT hZ (hw _ (List.mem_of_getElem? (i := 51) rfl))) (mvT hZ (hw _ (List.mem_of_getElem? (i := 50) rfl))) (by decide) (backOf (W := 0) (own_m_ie l Z a0 hw [] (b46) ((((0 : Int64) + (1 : Int64)) - (1 : Int64))) T67.heap n0 (Nat.le_trans Z0 K67.1) Fq67_4) hZ (hw _ (List.mem_of_getElem? (i := 52) rfl)) (hw _ (List.mem_of_getElem? (i := 2) rfl)) (by decide) (by decide)) q68a q68c (g := (mkF m 201 #[.val (.int p1), .val (.int p2), .val (.ref b46), .val (.ref r_48), .val (.int (1 : Int32)), .val (.int (((0 : Int32) + (1 : Int32)) - (1 : Int32)))] [(.ref b46)])) rfl (by rw [hml]; rfl) (Steps.refl _) (argsL := []) (rest := []) (lenOf own_pd7 rfl) rfl (by show 2 * 0 + _ ≤ _; exact Nat.le_of_eq rfl) (hb hby at_201) (fun _ _ => ⟨rfl, rfl, (by decide : 5 + 0 ≤ _), (by decide : 1036 + 0 ≤ _)⟩)
          dsimp only [Pt.U, Pt.locs, Pt.cells, Pt.slots] at X68 l68 y68 z68 st68 hQ68
          subst l68 y68 z68
          obtain ⟨rfl, Nq68, Kq68⟩ := hQ68
          have N68 := Fr.app N67 Nq68
          have e68 : T68.heap = T67.heap := Kq68
          refine own_step (U' := (T68.setTop (mkF m 204 #[.val (.int p1), .val (.int p2), .val (.ref b46), .val (.ref r_48), .val (.int (1 : Int32)), .val (.int (((0 : Int32) + (1 : Int32)) - (1 : Int32)))] [(.int (own_ie (((0 : Int64) + (1 : Int64)) - (1 : Int64))))]))) (fun t ht => st68.trans ht) ?_
          refine own_step (U' := (T68.setTop (mkF m 206 #[.val (.int p1), .val (.int p2), .val (.ref b46), .val (.ref r_48), .val (.int (1 : Int32)), .val (.int (((0 : Int32) + (1 : Int32)) - (1 : Int32)))] [(.int (((0 : Int32) + (1 : Int32)) - (1 : Int32))), (.int (own_ie (((0 : Int64) + (1 : Int64)) - (1 : Int64))))]))) (fun t ht => XS.iload X68.here hx rfl (hb hby at_204) rfl ht) ?_
          refine own_step (U' := (T68.setTop (mkF m 209 #[.val (.int p1), .val (.int p2), .val (.ref b46), .val (.ref r_48), .val (.int (1 : Int32)), .val (.int (((0 : Int32) + (1 : Int32)) - (1 : Int32)))] [(.int (own_ie (((0 : Int64) + (1 : Int64)) - (1 : Int64))))]))) (fun t ht => XS.ifNo X68.here hx rfl (hb hby at_206) rfl (XT.i0_ne_f ((by decide) : (((0 : Int32) + (1 : Int32)) - (1 : Int32)) = 0)) ht) ?_
          refine own_step (U' := (T68.setTop (mkF m 210 #[.val (.int p1), .val (.int p2), .val (.ref b46), .val (.ref r_48), .val (.int (1 : Int32)), .val (.int (((0 : Int32) + (1 : Int32)) - (1 : Int32)))] [(.int (1 : Int32)), (.int (own_ie (((0 : Int64) + (1 : Int64)) - (1 : Int64))))]))) (fun t ht => XS.iconst X68.here hx rfl (hb hby at_209) ht) ?_
          refine own_step (U' := (T68.setTop (mkF m 214 #[.val (.int p1), .val (.int p2), .val (.ref b46), .val (.ref r_48), .val (.int (1 : Int32)), .val (.int (((0 : Int32) + (1 : Int32)) - (1 : Int32)))] [(.int (1 : Int32)), (.int (own_ie (((0 : Int64) + (1 : Int64)) - (1 : Int64))))]))) (fun t ht => XS.goto X68.here hx rfl (pc0 := 210) (pc' := 214) rfl (hb hby at_210) (by decide) (by decide) ht) ?_
          refine own_step (U' := (T68.setTop (mkF m 217 #[.val (.int p1), .val (.int p2), .val (.ref b46), .val (.ref r_48), .val (.int (1 : Int32)), .val (.int (((0 : Int32) + (1 : Int32)) - (1 : Int32)))] []))) (fun t ht => XS.icmpNo X68.here hx rfl (hb hby at_214) rfl (XT.ii_ne_f ((by decide) : (own_ie (((0 : Int64) + (1 : Int64)) - (1 : Int64))) = (1 : Int32))) ht) ?_
          refine own_step (U' := (T68.setTop (mkF m 218 #[.val (.int p1), .val (.int p2), .val (.ref b46), .val (.ref r_48), .val (.int (1 : Int32)), .val (.int (((0 : Int32) + (1 : Int32)) - (1 : Int32)))] [(.int (1 : Int32))]))) (fun t ht => XS.iconst X68.here hx rfl (hb hby at_217) ht) ?_
          refine own_step (U' := (T68.setTop (mkF m 222 #[.val (.int p1), .val (.int p2), .val (.ref b46), .val (.ref r_48), .val (.int (1 : Int32)), .val (.int (((0 : Int32) + (1 : Int32)) - (1 : Int32)))] [(.int (1 : Int32))]))) (fun t ht => XS.goto X68.here hx rfl (pc0 := 218) (pc' := 222) rfl (hb hby at_218) (by decide) (by decide) ht) ?_
          refine own_step (U' := (T68.setTop (mkF m 224 #[.val (.int p1), .val (.int p2), .val (.ref b46), .val (.ref r_48), .val (.int (1 : Int32)), .val (.int (((0 : Int32) + (1 : Int32)) - (1 : Int32)))] []))) (fun t ht => XS.istore X68.here hx rfl (hb hby at_222) rfl (l' := #[.val (.int p1), .val (.int p2), .val (.ref b46), .val (.ref r_48), .val (.int (1 : Int32)), .val (.int (((0 : Int32) + (1 : Int32)) - (1 : Int32)))]) rfl ht) ?_
          refine own_step (U' := (T68.setTop (mkF m 226 #[.val (.int p1), .val (.int p2), .val (.ref b46), .val (.ref r_48), .val (.int (1 : Int32)), .val (.int (((0 : Int32) + (1 : Int32)) - (1 : Int32)))] [(.int (1 : Int32))]))) (fun t ht => XS.iload X68.here hx rfl (hb hby at_224) rfl ht) ?_
          refine own_ret X68 (v := (some (.int (nar .boolean (1 : Int32))))) (fun h => by rw [Bd.returns] at h; cases h) Bd.notSynchronized (by decide) (by decide) ?_ (fun fs hr => retN X68 hx (t := .boolean) Bd.returns (by simp) (hb hby at_226) hr)
          show own_Q_law Z p1 p2 cz h0 n0 _ T68.heap _
          rw [e68]
          exact ⟨rfl, N68⟩
        ·
          refine own_step (U' := (T65.setTop (mkF m 184 #[.val (.int p1), .val (.int p2), .val (.ref b46), .val (.ref r_48), .val (.int (1 : Int32)), .val (.int ((0 : Int32) + (1 : Int32)))] [(.int ((0 : Int32) + (1 : Int32))), (.ref b46)]))) (fun t ht => XS.ifNo X65.here hx rfl (hb hby at_181) rfl (XT.i0_eq_f hc181_66) ht) ?_
          refine own_step (U' := (T65.setTop (mkF m 185 #[.val (.int p1), .val (.int p2), .val (.ref b46), .val (.ref r_48), .val (.int (1 : Int32)), .val (.int ((0 : Int32) + (1 : Int32)))] [(.int (1 : Int32)), (.int ((0 : Int32) + (1 : Int32))), (.ref b46)]))) (fun t ht => XS.iconst X65.here hx rfl (hb hby at_184) ht) ?_
          refine own_step (U' := (T65.setTop (mkF m 189 #[.val (.int p1), .val (.int p2), .val (.ref b46), .val (.ref r_48), .val (.int (1 : Int32)), .val (.int ((0 : Int32) + (1 : Int32)))] [(.int (1 : Int32)), (.int ((0 : Int32) + (1 : Int32))), (.ref b46)]))) (fun t ht => XS.goto X65.here hx rfl (pc0 := 185) (pc' := 189) rfl (hb hby at_185) (by decide) (by decide) ht) ?_
          refine own_step (U' := (T65.setTop (mkF m 190 #[.val (.int p1), .val (.int p2), .val (.ref b46), .val (.ref r_48), .val (.int (1 : Int32)), .val (.int ((0 : Int32) + (1 : Int32)))] [(.ref r_48), (.int (1 : Int32)), (.int ((0 : Int32) + (1 : Int32))), (.ref b46)]))) (fun t ht => XS.aloadN X65.here hx rfl (hb hby at_189) rfl rfl ht) ?_
          obtain ⟨_, _, ⟨T69, L69, k69, n69⟩, -, X69, ⟨Lc69, hQ69, l69, y69, z69⟩, st69⟩ := Jvm.LawKit.callS X65 hx (y := (⟨"com/example/call_throttle/callthrottle/KeyQueueIsEmptyPinLaw", "step", "(Lcom/example/call_throttle/callthrottle/KeyQueue;IZLjava/lang/String;)I"⟩ : MethodName)) hown (mvT hZ (hw _ (List.mem_of_getElem? (i := 55) rfl))) (mvT hZ (hw _ (List.mem_of_getElem? (i := 56) rfl))) (mvT hZ (hw _ (List.mem_of_getElem? (i := 57) rfl))) (mvT hZ (hw _ (List.mem_of_getElem? (i := 58) rfl))) (by decide) (backOf (W := 0) (own_m_stA l Z a0 hw [] (b46) (c1_47) (r1_47) (kA_47) ((0 : Int32)) (((0 : Int32) + (1 : Int32))) (((0 : Int64) + (1 : Int64))) (([.null, .null, .null, .null].set 0 (.ref r_48))) ((.ref r_48)) (1) (((0 : Int32) + (1 : Int32))) T64.heap n0 (Nat.le_trans Z0 K64.1) g_b46 g_r1_47 p47_0 p47_1 Fq64_0 Fq64_1 Fq64_2 Fq64_3 Fq64_4 Fq64_5 Fq64_6 Fq64_7 Fq64_8 f64_10 p47_2 (by decide) (by decide) (by decide) rfl (Nat.le_of_ble_eq_true rfl)) hZ (hw _ (List.mem_of_getElem? (i := 58) rfl)) (hw _ (List.mem_of_getElem? (i := 57) rfl)) (by decide) (by decide)) (g := (mkF m 190 #[.val (.int p1), .val (.int p2), .val (.ref b46), .val (.ref r_48), .val (.int (1 : Int32)), .val (.int ((0 : Int32) + (1 : Int32)))] [(.ref r_48), (.int (1 : Int32)), (.int ((0 : Int32) + (1 : Int32))), (.ref b46)])) rfl (by rw [hml]; rfl) (argsL := [(.ref b46), (.int ((0 : Int32) + (1 : Int32))), (.int (1 : Int32)), (.ref r_48)]) (rest := []) (lenOf own_pd8 rfl) rfl (by show 2 * 0 + _ ≤ _; exact Nat.le_of_eq rfl) (hb hby at_190) (fun _ _ => ⟨rfl, e65, (by decide : 5 + 0 ≤ _), (by decide : 1036 + 0 ≤ _)⟩)
          dsimp only [Pt.U, Pt.locs, Pt.cells, Pt.slots] at X69 l69 y69 z69 st69 hQ69
          subst l69 y69 z69
          obtain ⟨rfl, Nq69, Kq69, Fq69_0, Fq69_1, Fq69_2, Fq69_3, Fq69_4, Fq69_5, Fq69_6, Fq69_7, Fq69_8⟩ := hQ69
          have N69 := Fr.app N65 Nq69
          have f69_0 : Sta Z T69.heap "java/lang/String" "COMPACT_STRINGS" "Z" (.int cz) := own_sta_keep f64_0 Kq69 (own_plF Fq64_0 (own_plV Fq64_8 own_pl0))
          have f69_1 : own_Key Z T69.heap (.ref r_48) := f64_10.keep Kq69
          have f69_7 : Exa Z T69.heap b46 "com/example/call_throttle/callthrottle/KeyQueue" := Fq64_5.keep Kq69
          have f69_8 : Fld Z T69.heap c1_47 "com/example/call_throttle/callthrottle/KeyQueue$Chunk" "keys" "[Ljava/lang/String;" (.ref r1_47) := Fq64_6.keep Kq69 (ninS (Ne.symm ne_b46_c1_47) (ninS p47_1 nin0))
          have f69_9 : Exa Z T69.heap c1_47 "com/example/call_throttle/callthrottle/KeyQueue$Chunk" := Fq64_7.keep Kq69
          have K69 : Keep h0 T69.heap [] := K64.trans Kq69 (allS (Or.inr sz_b46) (allS (Or.inr sz_r1_47) all0))
          refine own_step (U' := (T69.setTop (mkF m 193 #[.val (.int p1), .val (.int p2), .val (.ref b46), .val (.ref r_48), .val (.int (1 : Int32)), .val (.int ((0 : Int32) + (1 : Int32)))] [(.int (((0 : Int32) + (1 : Int32)) + (1 : Int32)))]))) (fun t ht => st69 _ ht) ?_
          refine own_step (U' := (T69.setTop (mkF m 195 #[.val (.int p1), .val (.int p2), .val (.ref b46), .val (.ref r_48), .val (.int (1 : Int32)), .val (.int (((0 : Int32) + (1 : Int32)) + (1 : Int32)))] []))) (fun t ht => XS.istore X69.here hx rfl (hb hby at_193) rfl (l' := #[.val (.int p1), .val (.int p2), .val (.ref b46), .val (.ref r_48), .val (.int (1 : Int32)), .val (.int (((0 : Int32) + (1 : Int32)) + (1 : Int32)))]) rfl ht) ?_
          refine own_step (U' := (T69.setTop (mkF m 197 #[.val (.int p1), .val (.int p2), .val (.ref b46), .val (.ref r_48), .val (.int (1 : Int32)), .val (.int (((0 : Int32) + (1 : Int32)) + (1 : Int32)))] [(.int (1 : Int32))]))) (fun t ht => XS.iload X69.here hx rfl (hb hby at_195) rfl ht) ?_
          refine own_step (U' := (T69.setTop (mkF m 200 #[.val (.int p1), .val (.int p2), .val (.ref b46), .val (.ref r_48), .val (.int (1 : Int32)), .val (.int (((0 : Int32) + (1 : Int32)) + (1 : Int32)))] []))) (fun t ht => XS.ifNo X69.here hx rfl (hb hby at_197) rfl (XT.i0_eq_f ((by decide) : ¬ ((1 : Int32) = 0))) ht) ?_
          refine own_step (U' := (T69.setTop (mkF m 201 #[.val (.int p1), .val (.int p2), .val (.ref b46), .val (.ref r_48), .val (.int (1 : Int32)), .val (.int (((0 : Int32) + (1 : Int32)) + (1 : Int32)))] [(.ref b46)]))) (fun t ht => XS.aloadN X69.here hx rfl (hb hby at_200) rfl rfl ht) ?_
          obtain ⟨cq70, kq70, q70a, q70b, q70c⟩ := isOf hZ rfl Fq69_5
          obtain ⟨_, _, ⟨T70, L70, k70, n70⟩, -, X70, ⟨Lc70, hQ70, l70, y70, z70⟩, st70⟩ := X69.virtualBack hx (y := (⟨"com/example/call_throttle/callthrottle/KeyQueue", "isEmpty", "()Z"⟩ : MethodName)) (z := (⟨"com/example/call_throttle/callthrottle/KeyQueue", "isEmpty", "()Z"⟩ : MethodName)) hown (mvT hZ (hw _ (List.mem_of_getElem? (i := 48) rfl))) (mvT hZ (hw _ (List.mem_of_getElem? (i := 49) rfl))) (notFace_of_selects (args := #[]) (mvT hZ (hw _ (List.mem_of_getElem? (i := 51) rfl)))) (mvT hZ (hw _ (List.mem_of_getElem? (i := 51) rfl))) (mvT hZ (hw _ (List.mem_of_getElem? (i := 50) rfl))) (by decide) (backOf (W := 0) (own_m_ie l Z a0 hw [] (b46) ((((0 : Int64) + (1 : Int64)) + (1 : Int64))) T69.heap n0 (Nat.le_trans Z0 K69.1) Fq69_4) hZ (hw _ (List.mem_of_getElem? (i := 52) rfl)) (hw _ (List.mem_of_getElem? (i := 2) rfl)) (by decide) (by decide)) q70a q70c (g := (mkF m 201 #[.val (.int p1), .val (.int p2), .val (.ref b46), .val (.ref r_48), .val (.int (1 : Int32)), .val (.int (((0 : Int32) + (1 : Int32)) + (1 : Int32)))] [(.ref b46)])) rfl (by rw [hml]; rfl) (Steps.refl _) (argsL := []) (rest := []) (lenOf own_pd7 rfl) rfl (by show 2 * 0 + _ ≤ _; exact Nat.le_of_eq rfl) (hb hby at_201) (fun _ _ => ⟨rfl, rfl, (by decide : 5 + 0 ≤ _), (by decide : 1036 + 0 ≤ _)⟩)
          dsimp only [Pt.U, Pt.locs, Pt.cells, Pt.slots] at X70 l70 y70 z70 st70 hQ70
          subst l70 y70 z70
          obtain ⟨rfl, Nq70, Kq70⟩ := hQ70
          have N70 := Fr.app N69 Nq70
          have e70 : T70.heap = T69.heap := Kq70
          refine own_step (U' := (T70.setTop (mkF m 204 #[.val (.int p1), .val (.int p2), .val (.ref b46), .val (.ref r_48), .val (.int (1 : Int32)), .val (.int (((0 : Int32) + (1 : Int32)) + (1 : Int32)))] [(.int (own_ie (((0 : Int64) + (1 : Int64)) + (1 : Int64))))]))) (fun t ht => st70.trans ht) ?_
          refine own_step (U' := (T70.setTop (mkF m 206 #[.val (.int p1), .val (.int p2), .val (.ref b46), .val (.ref r_48), .val (.int (1 : Int32)), .val (.int (((0 : Int32) + (1 : Int32)) + (1 : Int32)))] [(.int (((0 : Int32) + (1 : Int32)) + (1 : Int32))), (.int (own_ie (((0 : Int64) + (1 : Int64)) + (1 : Int64))))]))) (fun t ht => XS.iload X70.here hx rfl (hb hby at_204) rfl ht) ?_
          refine own_step (U' := (T70.setTop (mkF m 213 #[.val (.int p1), .val (.int p2), .val (.ref b46), .val (.ref r_48), .val (.int (1 : Int32)), .val (.int (((0 : Int32) + (1 : Int32)) + (1 : Int32)))] [(.int (own_ie (((0 : Int64) + (1 : Int64)) + (1 : Int64))))]))) (fun t ht => XS.ifYes X70.here hx rfl (pc0 := 206) (pc' := 213) rfl (hb hby at_206) rfl (XT.i0_ne_t ((by decide) : ¬ ((((0 : Int32) + (1 : Int32)) + (1 : Int32)) = 0))) (by decide) (by decide) ht) ?_
          refine own_step (U' := (T70.setTop (mkF m 214 #[.val (.int p1), .val (.int p2), .val (.ref b46), .val (.ref r_48), .val (.int (1 : Int32)), .val (.int (((0 : Int32) + (1 : Int32)) + (1 : Int32)))] [(.int (0 : Int32)), (.int (own_ie (((0 : Int64) + (1 : Int64)) + (1 : Int64))))]))) (fun t ht => XS.iconst X70.here hx rfl (hb hby at_213) ht) ?_
          refine own_step (U' := (T70.setTop (mkF m 217 #[.val (.int p1), .val (.int p2), .val (.ref b46), .val (.ref r_48), .val (.int (1 : Int32)), .val (.int (((0 : Int32) + (1 : Int32)) + (1 : Int32)))] []))) (fun t ht => XS.icmpNo X70.here hx rfl (hb hby at_214) rfl (XT.ii_ne_f ((by decide) : (own_ie (((0 : Int64) + (1 : Int64)) + (1 : Int64))) = (0 : Int32))) ht) ?_
          refine own_step (U' := (T70.setTop (mkF m 218 #[.val (.int p1), .val (.int p2), .val (.ref b46), .val (.ref r_48), .val (.int (1 : Int32)), .val (.int (((0 : Int32) + (1 : Int32)) + (1 : Int32)))] [(.int (1 : Int32))]))) (fun t ht => XS.iconst X70.here hx rfl (hb hby at_217) ht) ?_
          refine own_step (U' := (T70.setTop (mkF m 222 #[.val (.int p1), .val (.int p2), .val (.ref b46), .val (.ref r_48), .val (.int (1 : Int32)), .val (.int (((0 : Int32) + (1 : Int32)) + (1 : Int32)))] [(.int (1 : Int32))]))) (fun t ht => XS.goto X70.here hx rfl (pc0 := 218) (pc' := 222) rfl (hb hby at_218) (by decide) (by decide) ht) ?_
          refine own_step (U' := (T70.setTop (mkF m 224 #[.val (.int p1), .val (.int p2), .val (.ref b46), .val (.ref r_48), .val (.int (1 : Int32)), .val (.int (((0 : Int32) + (1 : Int32)) + (1 : Int32)))] []))) (fun t ht => XS.istore X70.here hx rfl (hb hby at_222) rfl (l' := #[.val (.int p1), .val (.int p2), .val (.ref b46), .val (.ref r_48), .val (.int (1 : Int32)), .val (.int (((0 : Int32) + (1 : Int32)) + (1 : Int32)))]) rfl ht) ?_
          refine own_step (U' := (T70.setTop (mkF m 226 #[.val (.int p1), .val (.int p2), .val (.ref b46), .val (.ref r_48), .val (.int (1 : Int32)), .val (.int (((0 : Int32) + (1 : Int32)) + (1 : Int32)))] [(.int (1 : Int32))]))) (fun t ht => XS.iload X70.here hx rfl (hb hby at_224) rfl ht) ?_
          refine own_ret X70 (v := (some (.int (nar .boolean (1 : Int32))))) (fun h => by rw [Bd.returns] at h; cases h) Bd.notSynchronized (by decide) (by decide) ?_ (fun fs hr => retN X70 hx (t := .boolean) Bd.returns (by simp) (hb hby at_226) hr)
          show own_Q_law Z p1 p2 cz h0 n0 _ T70.heap _
          rw [e70]
          exact ⟨rfl, N70⟩
    ·
      refine own_step (U' := (T52.setTop (mkF m 85 #[.val (.int p1), .val (.int p2), .val (.ref b46), .val (.ref r_48), .val (.int (1 : Int32)), .val (.int (0 : Int32))] [(.int (0 : Int32)), (.ref b46)]))) (fun t ht => XS.ifNo X52.here hx rfl (hb hby at_82) rfl (XT.i0_eq_f hc82_53) ht) ?_
      refine own_step (U' := (T52.setTop (mkF m 86 #[.val (.int p1), .val (.int p2), .val (.ref b46), .val (.ref r_48), .val (.int (1 : Int32)), .val (.int (0 : Int32))] [(.int (1 : Int32)), (.int (0 : Int32)), (.ref b46)]))) (fun t ht => XS.iconst X52.here hx rfl (hb hby at_85) ht) ?_
      refine own_step (U' := (T52.setTop (mkF m 90 #[.val (.int p1), .val (.int p2), .val (.ref b46), .val (.ref r_48), .val (.int (1 : Int32)), .val (.int (0 : Int32))] [(.int (1 : Int32)), (.int (0 : Int32)), (.ref b46)]))) (fun t ht => XS.goto X52.here hx rfl (pc0 := 86) (pc' := 90) rfl (hb hby at_86) (by decide) (by decide) ht) ?_
      refine own_step (U' := (T52.setTop (mkF m 91 #[.val (.int p1), .val (.int p2), .val (.ref b46), .val (.ref r_48), .val (.int (1 : Int32)), .val (.int (0 : Int32))] [(.ref r_48), (.int (1 : Int32)), (.int (0 : Int32)), (.ref b46)]))) (fun t ht => XS.aloadN X52.here hx rfl (hb hby at_90) rfl rfl ht) ?_
      obtain ⟨_, _, ⟨T71, L71, k71, n71⟩, -, X71, ⟨Lc71, hQ71, l71, y71, z71⟩, st71⟩ := Jvm.LawKit.callS X52 hx (y := (⟨"com/example/call_throttle/callthrottle/KeyQueueIsEmptyPinLaw", "step", "(Lcom/example/call_throttle/callthrottle/KeyQueue;IZLjava/lang/String;)I"⟩ : MethodName)) hown (mvT hZ (hw _ (List.mem_of_getElem? (i := 55) rfl))) (mvT hZ (hw _ (List.mem_of_getElem? (i := 56) rfl))) (mvT hZ (hw _ (List.mem_of_getElem? (i := 57) rfl))) (mvT hZ (hw _ (List.mem_of_getElem? (i := 58) rfl))) (by decide) (backOf (W := 0) (own_m_stA l Z a0 hw [] (b46) (c1_47) (r1_47) (kA_47) ((0 : Int32)) ((0 : Int32)) ((0 : Int64)) ([.null, .null, .null, .null]) ((.ref r_48)) (0) ((0 : Int32)) T48.heap n0 (Nat.le_trans Z0 K48.1) g_b46 g_r1_47 p47_0 p47_1 f48_1 f48_2 f48_3 f48_4 f48_5 f48_6 f48_7 f48_8 f48_9 ky48 p47_2 (by decide) (by decide) (by decide) rfl (Nat.le_of_ble_eq_true rfl)) hZ (hw _ (List.mem_of_getElem? (i := 58) rfl)) (hw _ (List.mem_of_getElem? (i := 57) rfl)) (by decide) (by decide)) (g := (mkF m 91 #[.val (.int p1), .val (.int p2), .val (.ref b46), .val (.ref r_48), .val (.int (1 : Int32)), .val (.int (0 : Int32))] [(.ref r_48), (.int (1 : Int32)), (.int (0 : Int32)), (.ref b46)])) rfl (by rw [hml]; rfl) (argsL := [(.ref b46), (.int (0 : Int32)), (.int (1 : Int32)), (.ref r_48)]) (rest := []) (lenOf own_pd8 rfl) rfl (by show 2 * 0 + _ ≤ _; exact Nat.le_of_eq rfl) (hb hby at_91) (fun _ _ => ⟨rfl, e52, (by decide : 5 + 0 ≤ _), (by decide : 1036 + 0 ≤ _)⟩)
      dsimp only [Pt.U, Pt.locs, Pt.cells, Pt.slots] at X71 l71 y71 z71 st71 hQ71
      subst l71 y71 z71
      obtain ⟨rfl, Nq71, Kq71, Fq71_0, Fq71_1, Fq71_2, Fq71_3, Fq71_4, Fq71_5, Fq71_6, Fq71_7, Fq71_8⟩ := hQ71
      have N71 := Fr.app N52 Nq71
      have f71_0 : Sta Z T71.heap "java/lang/String" "COMPACT_STRINGS" "Z" (.int cz) := own_sta_keep f48_0 Kq71 (own_plF f48_1 (own_plV f48_9 own_pl0))
      have f71_6 : Exa Z T71.heap b46 "com/example/call_throttle/callthrottle/KeyQueue" := f48_6.keep Kq71
      have f71_7 : Fld Z T71.heap c1_47 "com/example/call_throttle/callthrottle/KeyQueue$Chunk" "keys" "[Ljava/lang/String;" (.ref r1_47) := f48_7.keep Kq71 (ninS (Ne.symm ne_b46_c1_47) (ninS p47_1 nin0))
      have f71_8 : Exa Z T71.heap c1_47 "com/example/call_throttle/callthrottle/KeyQueue$Chunk" := f48_8.keep Kq71
      have f71_10 : own_Key Z T71.heap (.ref r_48) := ky48.keep Kq71
      have K71 : Keep h0 T71.heap [] := K48.trans Kq71 (allS (Or.inr sz_b46) (allS (Or.inr sz_r1_47) all0))
      refine own_step (U' := (T71.setTop (mkF m 94 #[.val (.int p1), .val (.int p2), .val (.ref b46), .val (.ref r_48), .val (.int (1 : Int32)), .val (.int (0 : Int32))] [(.int ((0 : Int32) + (1 : Int32)))]))) (fun t ht => st71 _ ht) ?_
      refine own_step (U' := (T71.setTop (mkF m 96 #[.val (.int p1), .val (.int p2), .val (.ref b46), .val (.ref r_48), .val (.int (1 : Int32)), .val (.int ((0 : Int32) + (1 : Int32)))] []))) (fun t ht => XS.istore X71.here hx rfl (hb hby at_94) rfl (l' := #[.val (.int p1), .val (.int p2), .val (.ref b46), .val (.ref r_48), .val (.int (1 : Int32)), .val (.int ((0 : Int32) + (1 : Int32)))]) rfl ht) ?_
      refine own_step (U' := (T71.setTop (mkF m 98 #[.val (.int p1), .val (.int p2), .val (.ref b46), .val (.ref r_48), .val (.int (1 : Int32)), .val (.int ((0 : Int32) + (1 : Int32)))] [(.int (1 : Int32))]))) (fun t ht => XS.iload X71.here hx rfl (hb hby at_96) rfl ht) ?_
      refine own_step (U' := (T71.setTop (mkF m 101 #[.val (.int p1), .val (.int p2), .val (.ref b46), .val (.ref r_48), .val (.int (1 : Int32)), .val (.int ((0 : Int32) + (1 : Int32)))] []))) (fun t ht => XS.ifNo X71.here hx rfl (hb hby at_98) rfl (XT.i0_eq_f ((by decide) : ¬ ((1 : Int32) = 0))) ht) ?_
      refine own_step (U' := (T71.setTop (mkF m 102 #[.val (.int p1), .val (.int p2), .val (.ref b46), .val (.ref r_48), .val (.int (1 : Int32)), .val (.int ((0 : Int32) + (1 : Int32)))] [(.ref b46)]))) (fun t ht => XS.aloadN X71.here hx rfl (hb hby at_101) rfl rfl ht) ?_
      obtain ⟨cq72, kq72, q72a, q72b, q72c⟩ := isOf hZ rfl Fq71_5
      obtain ⟨_, _, ⟨T72, L72, k72, n72⟩, -, X72, ⟨Lc72, hQ72, l72, y72, z72⟩, st72⟩ := X71.virtualBack hx (y := (⟨"com/example/call_throttle/callthrottle/KeyQueue", "isEmpty", "()Z"⟩ : MethodName)) (z := (⟨"com/example/call_throttle/callthrottle/KeyQueue", "isEmpty", "()Z"⟩ : MethodName)) hown (mvT hZ (hw _ (List.mem_of_getElem? (i := 48) rfl))) (mvT hZ (hw _ (List.mem_of_getElem? (i := 49) rfl))) (notFace_of_selects (args := #[]) (mvT hZ (hw _ (List.mem_of_getElem? (i := 51) rfl)))) (mvT hZ (hw _ (List.mem_of_getElem? (i := 51) rfl))) (mvT hZ (hw _ (List.mem_of_getElem? (i := 50) rfl))) (by decide) (backOf (W := 0) (own_m_ie l Z a0 hw [] (b46) (((0 : Int64) + (1 : Int64))) T71.heap n0 (Nat.le_trans Z0 K71.1) Fq71_4) hZ (hw _ (List.mem_of_getElem? (i := 52) rfl)) (hw _ (List.mem_of_getElem? (i := 2) rfl)) (by decide) (by decide)) q72a q72c (g := (mkF m 102 #[.val (.int p1), .val (.int p2), .val (.ref b46), .val (.ref r_48), .val (.int (1 : Int32)), .val (.int ((0 : Int32) + (1 : Int32)))] [(.ref b46)])) rfl (by rw [hml]; rfl) (Steps.refl _) (argsL := []) (rest := []) (lenOf own_pd7 rfl) rfl (by show 2 * 0 + _ ≤ _; exact Nat.le_of_eq rfl) (hb hby at_102) (fun _ _ => ⟨rfl, rfl, (by decide : 5 + 0 ≤ _), (by decide : 1036 + 0 ≤ _)⟩)
      dsimp only [Pt.U, Pt.locs, Pt.cells, Pt.slots] at X72 l72 y72 z72 st72 hQ72
      subst l72 y72 z72
      obtain ⟨rfl, Nq72, Kq72⟩ := hQ72
      have N72 := Fr.app N71 Nq72
      have e72 : T72.heap = T71.heap := Kq72
      refine own_step (U' := (T72.setTop (mkF m 105 #[.val (.int p1), .val (.int p2), .val (.ref b46), .val (.ref r_48), .val (.int (1 : Int32)), .val (.int ((0 : Int32) + (1 : Int32)))] [(.int (own_ie ((0 : Int64) + (1 : Int64))))]))) (fun t ht => st72.trans ht) ?_
      refine own_step (U' := (T72.setTop (mkF m 107 #[.val (.int p1), .val (.int p2), .val (.ref b46), .val (.ref r_48), .val (.int (1 : Int32)), .val (.int ((0 : Int32) + (1 : Int32)))] [(.int ((0 : Int32) + (1 : Int32))), (.int (own_ie ((0 : Int64) + (1 : Int64))))]))) (fun t ht => XS.iload X72.here hx rfl (hb hby at_105) rfl ht) ?_
      refine own_step (U' := (T72.setTop (mkF m 114 #[.val (.int p1), .val (.int p2), .val (.ref b46), .val (.ref r_48), .val (.int (1 : Int32)), .val (.int ((0 : Int32) + (1 : Int32)))] [(.int (own_ie ((0 : Int64) + (1 : Int64))))]))) (fun t ht => XS.ifYes X72.here hx rfl (pc0 := 107) (pc' := 114) rfl (hb hby at_107) rfl (XT.i0_ne_t ((by decide) : ¬ (((0 : Int32) + (1 : Int32)) = 0))) (by decide) (by decide) ht) ?_
      refine own_step (U' := (T72.setTop (mkF m 115 #[.val (.int p1), .val (.int p2), .val (.ref b46), .val (.ref r_48), .val (.int (1 : Int32)), .val (.int ((0 : Int32) + (1 : Int32)))] [(.int (0 : Int32)), (.int (own_ie ((0 : Int64) + (1 : Int64))))]))) (fun t ht => XS.iconst X72.here hx rfl (hb hby at_114) ht) ?_
      refine own_step (U' := (T72.setTop (mkF m 118 #[.val (.int p1), .val (.int p2), .val (.ref b46), .val (.ref r_48), .val (.int (1 : Int32)), .val (.int ((0 : Int32) + (1 : Int32)))] []))) (fun t ht => XS.icmpNo X72.here hx rfl (hb hby at_115) rfl (XT.ii_ne_f ((by decide) : (own_ie ((0 : Int64) + (1 : Int64))) = (0 : Int32))) ht) ?_
      refine own_step (U' := (T72.setTop (mkF m 119 #[.val (.int p1), .val (.int p2), .val (.ref b46), .val (.ref r_48), .val (.int (1 : Int32)), .val (.int ((0 : Int32) + (1 : Int32)))] [(.int (1 : Int32))]))) (fun t ht => XS.iconst X72.here hx rfl (hb hby at_118) ht) ?_
      refine own_step (U' := (T72.setTop (mkF m 123 #[.val (.int p1), .val (.int p2), .val (.ref b46), .val (.ref r_48), .val (.int (1 : Int32)), .val (.int ((0 : Int32) + (1 : Int32)))] [(.int (1 : Int32))]))) (fun t ht => XS.goto X72.here hx rfl (pc0 := 119) (pc' := 123) rfl (hb hby at_119) (by decide) (by decide) ht) ?_
      refine own_step (U' := (T72.setTop (mkF m 125 #[.val (.int p1), .val (.int p2), .val (.ref b46), .val (.ref r_48), .val (.int (1 : Int32)), .val (.int ((0 : Int32) + (1 : Int32)))] []))) (fun t ht => XS.istore X72.here hx rfl (hb hby at_123) rfl (l' := #[.val (.int p1), .val (.int p2), .val (.ref b46), .val (.ref r_48), .val (.int (1 : Int32)), .val (.int ((0 : Int32) + (1 : Int32)))]) rfl ht) ?_
      refine own_step (U' := (T72.setTop (mkF m 126 #[.val (.int p1), .val (.int p2), .val (.ref b46), .val (.ref r_48), .val (.int (1 : Int32)), .val (.int ((0 : Int32) + (1 : Int32)))] [(.ref b46)]))) (fun t ht => XS.aloadN X72.here hx rfl (hb hby at_125) rfl rfl ht) ?_
      refine own_step (U' := (T72.setTop (mkF m 128 #[.val (.int p1), .val (.int p2), .val (.ref b46), .val (.ref r_48), .val (.int (1 : Int32)), .val (.int ((0 : Int32) + (1 : Int32)))] [(.int ((0 : Int32) + (1 : Int32))), (.ref b46)]))) (fun t ht => XS.iload X72.here hx rfl (hb hby at_126) rfl ht) ?_
      refine own_step (U' := (T72.setTop (mkF m 129 #[.val (.int p1), .val (.int p2), .val (.ref b46), .val (.ref r_48), .val (.int (1 : Int32)), .val (.int ((0 : Int32) + (1 : Int32)))] [(.int p1), (.int ((0 : Int32) + (1 : Int32))), (.ref b46)]))) (fun t ht => XS.iloadN X72.here hx rfl (hb hby at_128) rfl ht) ?_
      refine own_step (U' := (T72.setTop (mkF m 130 #[.val (.int p1), .val (.int p2), .val (.ref b46), .val (.ref r_48), .val (.int (1 : Int32)), .val (.int ((0 : Int32) + (1 : Int32)))] [(.int (4 : Int32)), (.int p1), (.int ((0 : Int32) + (1 : Int32))), (.ref b46)]))) (fun t ht => XS.iconst X72.here hx rfl (hb hby at_129) ht) ?_
      refine own_step (U' := (T72.setTop (mkF m 131 #[.val (.int p1), .val (.int p2), .val (.ref b46), .val (.ref r_48), .val (.int (1 : Int32)), .val (.int ((0 : Int32) + (1 : Int32)))] [(.int (p1 &&& (4 : Int32))), (.int ((0 : Int32) + (1 : Int32))), (.ref b46)]))) (fun t ht => XS.iand X72.here hx rfl (hb hby at_130) rfl ht) ?_
      by_cases hc131_73 : (p1 &&& (4 : Int32)) = 0
      ·
        refine own_step (U' := (T72.setTop (mkF m 138 #[.val (.int p1), .val (.int p2), .val (.ref b46), .val (.ref r_48), .val (.int (1 : Int32)), .val (.int ((0 : Int32) + (1 : Int32)))] [(.int ((0 : Int32) + (1 : Int32))), (.ref b46)]))) (fun t ht => XS.ifYes X72.here hx rfl (pc0 := 131) (pc' := 138) rfl (hb hby at_131) rfl (XT.i0_eq_t hc131_73) (by decide) (by decide) ht) ?_
        refine own_step (U' := (T72.setTop (mkF m 139 #[.val (.int p1), .val (.int p2), .val (.ref b46), .val (.ref r_48), .val (.int (1 : Int32)), .val (.int ((0 : Int32) + (1 : Int32)))] [(.int (0 : Int32)), (.int ((0 : Int32) + (1 : Int32))), (.ref b46)]))) (fun t ht => XS.iconst X72.here hx rfl (hb hby at_138) ht) ?_
        refine own_step (U' := (T72.setTop (mkF m 140 #[.val (.int p1), .val (.int p2), .val (.ref b46), .val (.ref r_48), .val (.int (1 : Int32)), .val (.int ((0 : Int32) + (1 : Int32)))] [(.ref r_48), (.int (0 : Int32)), (.int ((0 : Int32) + (1 : Int32))), (.ref b46)]))) (fun t ht => XS.aloadN X72.here hx rfl (hb hby at_139) rfl rfl ht) ?_
        obtain ⟨_, _, ⟨T74, L74, k74, n74⟩, -, X74, ⟨Lc74, hQ74, l74, y74, z74⟩, st74⟩ := Jvm.LawKit.callS X72 hx (y := (⟨"com/example/call_throttle/callthrottle/KeyQueueIsEmptyPinLaw", "step", "(Lcom/example/call_throttle/callthrottle/KeyQueue;IZLjava/lang/String;)I"⟩ : MethodName)) hown (mvT hZ (hw _ (List.mem_of_getElem? (i := 55) rfl))) (mvT hZ (hw _ (List.mem_of_getElem? (i := 56) rfl))) (mvT hZ (hw _ (List.mem_of_getElem? (i := 57) rfl))) (mvT hZ (hw _ (List.mem_of_getElem? (i := 58) rfl))) (by decide) (backOf (W := 0) (own_m_stR l Z a0 hw [] (b46) (c1_47) (r1_47) (kA_47) ((0 : Int32)) (((0 : Int32) + (1 : Int32))) (((0 : Int64) + (1 : Int64))) (([.null, .null, .null, .null].set 0 (.ref r_48))) ((.ref r_48)) ((.ref r_48)) (0) (((0 : Int32) + (1 : Int32))) T71.heap n0 (Nat.le_trans Z0 K71.1) g_b46 g_r1_47 p47_0 p47_1 Fq71_0 Fq71_1 Fq71_2 Fq71_3 Fq71_4 Fq71_5 Fq71_6 Fq71_7 Fq71_8 (by decide) (by decide) (by decide) (by decide) rfl (Nat.le_of_ble_eq_true rfl) rfl rfl rfl (by decide)) hZ (hw _ (List.mem_of_getElem? (i := 58) rfl)) (hw _ (List.mem_of_getElem? (i := 57) rfl)) (by decide) (by decide)) (g := (mkF m 140 #[.val (.int p1), .val (.int p2), .val (.ref b46), .val (.ref r_48), .val (.int (1 : Int32)), .val (.int ((0 : Int32) + (1 : Int32)))] [(.ref r_48), (.int (0 : Int32)), (.int ((0 : Int32) + (1 : Int32))), (.ref b46)])) rfl (by rw [hml]; rfl) (argsL := [(.ref b46), (.int ((0 : Int32) + (1 : Int32))), (.int (0 : Int32)), (.ref r_48)]) (rest := []) (lenOf own_pd8 rfl) rfl (by show 2 * 0 + _ ≤ _; exact Nat.le_of_eq rfl) (hb hby at_140) (fun _ _ => ⟨rfl, e72, (by decide : 5 + 0 ≤ _), (by decide : 1036 + 0 ≤ _)⟩)
        dsimp only [Pt.U, Pt.locs, Pt.cells, Pt.slots] at X74 l74 y74 z74 st74 hQ74
        subst l74 y74 z74
        obtain ⟨rfl, Nq74, Kq74, Fq74_0, Fq74_1, Fq74_2, Fq74_3, Fq74_4, Fq74_5, Fq74_6, Fq74_7, Fq74_8⟩ := hQ74
        have N74 := Fr.app N72 Nq74
        have f74_0 : Sta Z T74.heap "java/lang/String" "COMPACT_STRINGS" "Z" (.int cz) := own_sta_keep f71_0 Kq74 (own_plF Fq71_0 (own_plV Fq71_8 own_pl0))
        have f74_1 : own_Key Z T74.heap (.ref r_48) := f71_10.keep Kq74
        have f74_7 : Exa Z T74.heap b46 "com/example/call_throttle/callthrottle/KeyQueue" := Fq71_5.keep Kq74
        have f74_8 : Fld Z T74.heap c1_47 "com/example/call_throttle/callthrottle/KeyQueue$Chunk" "keys" "[Ljava/lang/String;" (.ref r1_47) := Fq71_6.keep Kq74 (ninS (Ne.symm ne_b46_c1_47) (ninS p47_1 nin0))
        have f74_9 : Exa Z T74.heap c1_47 "com/example/call_throttle/callthrottle/KeyQueue$Chunk" := Fq71_7.keep Kq74
        have K74 : Keep h0 T74.heap [] := K71.trans Kq74 (allS (Or.inr sz_b46) (allS (Or.inr sz_r1_47) all0))
        refine own_step (U' := (T74.setTop (mkF m 143 #[.val (.int p1), .val (.int p2), .val (.ref b46), .val (.ref r_48), .val (.int (1 : Int32)), .val (.int ((0 : Int32) + (1 : Int32)))] [(.int (((0 : Int32) + (1 : Int32)) - (1 : Int32)))]))) (fun t ht => st74 _ ht) ?_
        refine own_step (U' := (T74.setTop (mkF m 145 #[.val (.int p1), .val (.int p2), .val (.ref b46), .val (.ref r_48), .val (.int (1 : Int32)), .val (.int (((0 : Int32) + (1 : Int32)) - (1 : Int32)))] []))) (fun t ht => XS.istore X74.here hx rfl (hb hby at_143) rfl (l' := #[.val (.int p1), .val (.int p2), .val (.ref b46), .val (.ref r_48), .val (.int (1 : Int32)), .val (.int (((0 : Int32) + (1 : Int32)) - (1 : Int32)))]) rfl ht) ?_
        refine own_step (U' := (T74.setTop (mkF m 147 #[.val (.int p1), .val (.int p2), .val (.ref b46), .val (.ref r_48), .val (.int (1 : Int32)), .val (.int (((0 : Int32) + (1 : Int32)) - (1 : Int32)))] [(.int (1 : Int32))]))) (fun t ht => XS.iload X74.here hx rfl (hb hby at_145) rfl ht) ?_
        refine own_step (U' := (T74.setTop (mkF m 150 #[.val (.int p1), .val (.int p2), .val (.ref b46), .val (.ref r_48), .val (.int (1 : Int32)), .val (.int (((0 : Int32) + (1 : Int32)) - (1 : Int32)))] []))) (fun t ht => XS.ifNo X74.here hx rfl (hb hby at_147) rfl (XT.i0_eq_f ((by decide) : ¬ ((1 : Int32) = 0))) ht) ?_
        refine own_step (U' := (T74.setTop (mkF m 151 #[.val (.int p1), .val (.int p2), .val (.ref b46), .val (.ref r_48), .val (.int (1 : Int32)), .val (.int (((0 : Int32) + (1 : Int32)) - (1 : Int32)))] [(.ref b46)]))) (fun t ht => XS.aloadN X74.here hx rfl (hb hby at_150) rfl rfl ht) ?_
        obtain ⟨cq75, kq75, q75a, q75b, q75c⟩ := isOf hZ rfl Fq74_5
        obtain ⟨_, _, ⟨T75, L75, k75, n75⟩, -, X75, ⟨Lc75, hQ75, l75, y75, z75⟩, st75⟩ := X74.virtualBack hx (y := (⟨"com/example/call_throttle/callthrottle/KeyQueue", "isEmpty", "()Z"⟩ : MethodName)) (z := (⟨"com/example/call_throttle/callthrottle/KeyQueue", "isEmpty", "()Z"⟩ : MethodName)) hown (mvT hZ (hw _ (List.mem_of_getElem? (i := 48) rfl))) (mvT hZ (hw _ (List.mem_of_getElem? (i := 49) rfl))) (notFace_of_selects (args := #[]) (mvT hZ (hw _ (List.mem_of_getElem? (i := 51) rfl)))) (mvT hZ (hw _ (List.mem_of_getElem? (i := 51) rfl))) (mvT hZ (hw _ (List.mem_of_getElem? (i := 50) rfl))) (by decide) (backOf (W := 0) (own_m_ie l Z a0 hw [] (b46) ((((0 : Int64) + (1 : Int64)) - (1 : Int64))) T74.heap n0 (Nat.le_trans Z0 K74.1) Fq74_4) hZ (hw _ (List.mem_of_getElem? (i := 52) rfl)) (hw _ (List.mem_of_getElem? (i := 2) rfl)) (by decide) (by decide)) q75a q75c (g := (mkF m 151 #[.val (.int p1), .val (.int p2), .val (.ref b46), .val (.ref r_48), .val (.int (1 : Int32)), .val (.int (((0 : Int32) + (1 : Int32)) - (1 : Int32)))] [(.ref b46)])) rfl (by rw [hml]; rfl) (Steps.refl _) (argsL := []) (rest := []) (lenOf own_pd7 rfl) rfl (by show 2 * 0 + _ ≤ _; exact Nat.le_of_eq rfl) (hb hby at_151) (fun _ _ => ⟨rfl, rfl, (by decide : 5 + 0 ≤ _), (by decide : 1036 + 0 ≤ _)⟩)
        dsimp only [Pt.U, Pt.locs, Pt.cells, Pt.slots] at X75 l75 y75 z75 st75 hQ75
        subst l75 y75 z75
        obtain ⟨rfl, Nq75, Kq75⟩ := hQ75
        have N75 := Fr.app N74 Nq75
        have e75 : T75.heap = T74.heap := Kq75
        refine own_step (U' := (T75.setTop (mkF m 154 #[.val (.int p1), .val (.int p2), .val (.ref b46), .val (.ref r_48), .val (.int (1 : Int32)), .val (.int (((0 : Int32) + (1 : Int32)) - (1 : Int32)))] [(.int (own_ie (((0 : Int64) + (1 : Int64)) - (1 : Int64))))]))) (fun t ht => st75.trans ht) ?_
        refine own_step (U' := (T75.setTop (mkF m 156 #[.val (.int p1), .val (.int p2), .val (.ref b46), .val (.ref r_48), .val (.int (1 : Int32)), .val (.int (((0 : Int32) + (1 : Int32)) - (1 : Int32)))] [(.int (((0 : Int32) + (1 : Int32)) - (1 : Int32))), (.int (own_ie (((0 : Int64) + (1 : Int64)) - (1 : Int64))))]))) (fun t ht => XS.iload X75.here hx rfl (hb hby at_154) rfl ht) ?_
        refine own_step (U' := (T75.setTop (mkF m 159 #[.val (.int p1), .val (.int p2), .val (.ref b46), .val (.ref r_48), .val (.int (1 : Int32)), .val (.int (((0 : Int32) + (1 : Int32)) - (1 : Int32)))] [(.int (own_ie (((0 : Int64) + (1 : Int64)) - (1 : Int64))))]))) (fun t ht => XS.ifNo X75.here hx rfl (hb hby at_156) rfl (XT.i0_ne_f ((by decide) : (((0 : Int32) + (1 : Int32)) - (1 : Int32)) = 0)) ht) ?_
        refine own_step (U' := (T75.setTop (mkF m 160 #[.val (.int p1), .val (.int p2), .val (.ref b46), .val (.ref r_48), .val (.int (1 : Int32)), .val (.int (((0 : Int32) + (1 : Int32)) - (1 : Int32)))] [(.int (1 : Int32)), (.int (own_ie (((0 : Int64) + (1 : Int64)) - (1 : Int64))))]))) (fun t ht => XS.iconst X75.here hx rfl (hb hby at_159) ht) ?_
        refine own_step (U' := (T75.setTop (mkF m 164 #[.val (.int p1), .val (.int p2), .val (.ref b46), .val (.ref r_48), .val (.int (1 : Int32)), .val (.int (((0 : Int32) + (1 : Int32)) - (1 : Int32)))] [(.int (1 : Int32)), (.int (own_ie (((0 : Int64) + (1 : Int64)) - (1 : Int64))))]))) (fun t ht => XS.goto X75.here hx rfl (pc0 := 160) (pc' := 164) rfl (hb hby at_160) (by decide) (by decide) ht) ?_
        refine own_step (U' := (T75.setTop (mkF m 167 #[.val (.int p1), .val (.int p2), .val (.ref b46), .val (.ref r_48), .val (.int (1 : Int32)), .val (.int (((0 : Int32) + (1 : Int32)) - (1 : Int32)))] []))) (fun t ht => XS.icmpNo X75.here hx rfl (hb hby at_164) rfl (XT.ii_ne_f ((by decide) : (own_ie (((0 : Int64) + (1 : Int64)) - (1 : Int64))) = (1 : Int32))) ht) ?_
        refine own_step (U' := (T75.setTop (mkF m 168 #[.val (.int p1), .val (.int p2), .val (.ref b46), .val (.ref r_48), .val (.int (1 : Int32)), .val (.int (((0 : Int32) + (1 : Int32)) - (1 : Int32)))] [(.int (1 : Int32))]))) (fun t ht => XS.iconst X75.here hx rfl (hb hby at_167) ht) ?_
        refine own_step (U' := (T75.setTop (mkF m 172 #[.val (.int p1), .val (.int p2), .val (.ref b46), .val (.ref r_48), .val (.int (1 : Int32)), .val (.int (((0 : Int32) + (1 : Int32)) - (1 : Int32)))] [(.int (1 : Int32))]))) (fun t ht => XS.goto X75.here hx rfl (pc0 := 168) (pc' := 172) rfl (hb hby at_168) (by decide) (by decide) ht) ?_
        refine own_step (U' := (T75.setTop (mkF m 174 #[.val (.int p1), .val (.int p2), .val (.ref b46), .val (.ref r_48), .val (.int (1 : Int32)), .val (.int (((0 : Int32) + (1 : Int32)) - (1 : Int32)))] []))) (fun t ht => XS.istore X75.here hx rfl (hb hby at_172) rfl (l' := #[.val (.int p1), .val (.int p2), .val (.ref b46), .val (.ref r_48), .val (.int (1 : Int32)), .val (.int (((0 : Int32) + (1 : Int32)) - (1 : Int32)))]) rfl ht) ?_
        refine own_step (U' := (T75.setTop (mkF m 175 #[.val (.int p1), .val (.int p2), .val (.ref b46), .val (.ref r_48), .val (.int (1 : Int32)), .val (.int (((0 : Int32) + (1 : Int32)) - (1 : Int32)))] [(.ref b46)]))) (fun t ht => XS.aloadN X75.here hx rfl (hb hby at_174) rfl rfl ht) ?_
        refine own_step (U' := (T75.setTop (mkF m 177 #[.val (.int p1), .val (.int p2), .val (.ref b46), .val (.ref r_48), .val (.int (1 : Int32)), .val (.int (((0 : Int32) + (1 : Int32)) - (1 : Int32)))] [(.int (((0 : Int32) + (1 : Int32)) - (1 : Int32))), (.ref b46)]))) (fun t ht => XS.iload X75.here hx rfl (hb hby at_175) rfl ht) ?_
        refine own_step (U' := (T75.setTop (mkF m 178 #[.val (.int p1), .val (.int p2), .val (.ref b46), .val (.ref r_48), .val (.int (1 : Int32)), .val (.int (((0 : Int32) + (1 : Int32)) - (1 : Int32)))] [(.int p1), (.int (((0 : Int32) + (1 : Int32)) - (1 : Int32))), (.ref b46)]))) (fun t ht => XS.iloadN X75.here hx rfl (hb hby at_177) rfl ht) ?_
        refine own_step (U' := (T75.setTop (mkF m 180 #[.val (.int p1), .val (.int p2), .val (.ref b46), .val (.ref r_48), .val (.int (1 : Int32)), .val (.int (((0 : Int32) + (1 : Int32)) - (1 : Int32)))] [(.int (8 : Int32)), (.int p1), (.int (((0 : Int32) + (1 : Int32)) - (1 : Int32))), (.ref b46)]))) (fun t ht => XS.bipush X75.here hx rfl (hb hby at_178) ht) ?_
        refine own_step (U' := (T75.setTop (mkF m 181 #[.val (.int p1), .val (.int p2), .val (.ref b46), .val (.ref r_48), .val (.int (1 : Int32)), .val (.int (((0 : Int32) + (1 : Int32)) - (1 : Int32)))] [(.int (p1 &&& (8 : Int32))), (.int (((0 : Int32) + (1 : Int32)) - (1 : Int32))), (.ref b46)]))) (fun t ht => XS.iand X75.here hx rfl (hb hby at_180) rfl ht) ?_
        by_cases hc181_76 : (p1 &&& (8 : Int32)) = 0
        ·
          refine own_step (U' := (T75.setTop (mkF m 188 #[.val (.int p1), .val (.int p2), .val (.ref b46), .val (.ref r_48), .val (.int (1 : Int32)), .val (.int (((0 : Int32) + (1 : Int32)) - (1 : Int32)))] [(.int (((0 : Int32) + (1 : Int32)) - (1 : Int32))), (.ref b46)]))) (fun t ht => XS.ifYes X75.here hx rfl (pc0 := 181) (pc' := 188) rfl (hb hby at_181) rfl (XT.i0_eq_t hc181_76) (by decide) (by decide) ht) ?_
          refine own_step (U' := (T75.setTop (mkF m 189 #[.val (.int p1), .val (.int p2), .val (.ref b46), .val (.ref r_48), .val (.int (1 : Int32)), .val (.int (((0 : Int32) + (1 : Int32)) - (1 : Int32)))] [(.int (0 : Int32)), (.int (((0 : Int32) + (1 : Int32)) - (1 : Int32))), (.ref b46)]))) (fun t ht => XS.iconst X75.here hx rfl (hb hby at_188) ht) ?_
          refine own_step (U' := (T75.setTop (mkF m 190 #[.val (.int p1), .val (.int p2), .val (.ref b46), .val (.ref r_48), .val (.int (1 : Int32)), .val (.int (((0 : Int32) + (1 : Int32)) - (1 : Int32)))] [(.ref r_48), (.int (0 : Int32)), (.int (((0 : Int32) + (1 : Int32)) - (1 : Int32))), (.ref b46)]))) (fun t ht => XS.aloadN X75.here hx rfl (hb hby at_189) rfl rfl ht) ?_
          obtain ⟨_, _, ⟨T77, L77, k77, n77⟩, -, X77, ⟨Lc77, hQ77, l77, y77, z77⟩, st77⟩ := Jvm.LawKit.callS X75 hx (y := (⟨"com/example/call_throttle/callthrottle/KeyQueueIsEmptyPinLaw", "step", "(Lcom/example/call_throttle/callthrottle/KeyQueue;IZLjava/lang/String;)I"⟩ : MethodName)) hown (mvT hZ (hw _ (List.mem_of_getElem? (i := 55) rfl))) (mvT hZ (hw _ (List.mem_of_getElem? (i := 56) rfl))) (mvT hZ (hw _ (List.mem_of_getElem? (i := 57) rfl))) (mvT hZ (hw _ (List.mem_of_getElem? (i := 58) rfl))) (by decide) (backOf (W := 0) (own_m_stN l Z a0 hw [] (b46) ((.ref r_48)) ((((0 : Int32) + (1 : Int32)) - (1 : Int32))) T74.heap n0 (Nat.le_trans Z0 K74.1) rfl (by decide)) hZ (hw _ (List.mem_of_getElem? (i := 58) rfl)) (hw _ (List.mem_of_getElem? (i := 57) rfl)) (by decide) (by decide)) (g := (mkF m 190 #[.val (.int p1), .val (.int p2), .val (.ref b46), .val (.ref r_48), .val (.int (1 : Int32)), .val (.int (((0 : Int32) + (1 : Int32)) - (1 : Int32)))] [(.ref r_48), (.int (0 : Int32)), (.int (((0 : Int32) + (1 : Int32)) - (1 : Int32))), (.ref b46)])) rfl (by rw [hml]; rfl) (argsL := [(.ref b46), (.int (((0 : Int32) + (1 : Int32)) - (1 : Int32))), (.int (0 : Int32)), (.ref r_48)]) (rest := []) (lenOf own_pd8 rfl) rfl (by show 2 * 0 + _ ≤ _; exact Nat.le_of_eq rfl) (hb hby at_190) (fun _ _ => ⟨rfl, e75, (by decide : 5 + 0 ≤ _), (by decide : 1036 + 0 ≤ _)⟩)
          dsimp only [Pt.U, Pt.locs, Pt.cells, Pt.slots] at X77 l77 y77 z77 st77 hQ77
          subst l77 y77 z77
          obtain ⟨rfl, Nq77, Kq77⟩ := hQ77
          have N77 := Fr.app N75 Nq77
          have e77 : T77.heap = T74.heap := Kq77
          refine own_step (U' := (T77.setTop (mkF m 193 #[.val (.int p1), .val (.int p2), .val (.ref b46), .val (.ref r_48), .val (.int (1 : Int32)), .val (.int (((0 : Int32) + (1 : Int32)) - (1 : Int32)))] [(.int (((0 : Int32) + (1 : Int32)) - (1 : Int32)))]))) (fun t ht => st77 _ ht) ?_
          refine own_step (U' := (T77.setTop (mkF m 195 #[.val (.int p1), .val (.int p2), .val (.ref b46), .val (.ref r_48), .val (.int (1 : Int32)), .val (.int (((0 : Int32) + (1 : Int32)) - (1 : Int32)))] []))) (fun t ht => XS.istore X77.here hx rfl (hb hby at_193) rfl (l' := #[.val (.int p1), .val (.int p2), .val (.ref b46), .val (.ref r_48), .val (.int (1 : Int32)), .val (.int (((0 : Int32) + (1 : Int32)) - (1 : Int32)))]) rfl ht) ?_
          refine own_step (U' := (T77.setTop (mkF m 197 #[.val (.int p1), .val (.int p2), .val (.ref b46), .val (.ref r_48), .val (.int (1 : Int32)), .val (.int (((0 : Int32) + (1 : Int32)) - (1 : Int32)))] [(.int (1 : Int32))]))) (fun t ht => XS.iload X77.here hx rfl (hb hby at_195) rfl ht) ?_
          refine own_step (U' := (T77.setTop (mkF m 200 #[.val (.int p1), .val (.int p2), .val (.ref b46), .val (.ref r_48), .val (.int (1 : Int32)), .val (.int (((0 : Int32) + (1 : Int32)) - (1 : Int32)))] []))) (fun t ht => XS.ifNo X77.here hx rfl (hb hby at_197) rfl (XT.i0_eq_f ((by decide) : ¬ ((1 : Int32) = 0))) ht) ?_
          refine own_step (U' := (T77.setTop (mkF m 201 #[.val (.int p1), .val (.int p2), .val (.ref b46), .val (.ref r_48), .val (.int (1 : Int32)), .val (.int (((0 : Int32) + (1 : Int32)) - (1 : Int32)))] [(.ref b46)]))) (fun t ht => XS.aloadN X77.here hx rfl (hb hby at_200) rfl rfl ht) ?_
          obtain ⟨cq78, kq78, q78a, q78b, q78c⟩ := isOf hZ e77 Fq74_5
          obtain ⟨_, _, ⟨T78, L78, k78, n78⟩, -, X78, ⟨Lc78, hQ78, l78, y78, z78⟩, st78⟩ := X77.virtualBack hx (y := (⟨"com/example/call_throttle/callthrottle/KeyQueue", "isEmpty", "()Z"⟩ : MethodName)) (z := (⟨"com/example/call_throttle/callthrottle/KeyQueue", "isEmpty", "()Z"⟩ : MethodName)) hown (mvT hZ (hw _ (List.mem_of_getElem? (i := 48) rfl))) (mvT hZ (hw _ (List.mem_of_getElem? (i := 49) rfl))) (notFace_of_selects (args := #[]) (mvT hZ (hw _ (List.mem_of_getElem? (i := 51) rfl)))) (mvT hZ (hw _ (List.mem_of_getElem? (i := 51) rfl))) (mvT hZ (hw _ (List.mem_of_getElem? (i := 50) rfl))) (by decide) (backOf (W := 0) (own_m_ie l Z a0 hw [] (b46) ((((0 : Int64) + (1 : Int64)) - (1 : Int64))) T74.heap n0 (Nat.le_trans Z0 K74.1) Fq74_4) hZ (hw _ (List.mem_of_getElem? (i := 52) rfl)) (hw _ (List.mem_of_getElem? (i := 2) rfl)) (by decide) (by decide)) q78a q78c (g := (mkF m 201 #[.val (.int p1), .val (.int p2), .val (.ref b46), .val (.ref r_48), .val (.int (1 : Int32)), .val (.int (((0 : Int32) + (1 : Int32)) - (1 : Int32)))] [(.ref b46)])) rfl (by rw [hml]; rfl) (Steps.refl _) (argsL := []) (rest := []) (lenOf own_pd7 rfl) rfl (by show 2 * 0 + _ ≤ _; exact Nat.le_of_eq rfl) (hb hby at_201) (fun _ _ => ⟨rfl, e77, (by decide : 5 + 0 ≤ _), (by decide : 1036 + 0 ≤ _)⟩)
          dsimp only [Pt.U, Pt.locs, Pt.cells, Pt.slots] at X78 l78 y78 z78 st78 hQ78
          subst l78 y78 z78
          obtain ⟨rfl, Nq78, Kq78⟩ := hQ78
          have N78 := Fr.app N77 Nq78
          have e78 : T78.heap = T74.heap := Kq78
          refine own_step (U' := (T78.setTop (mkF m 204 #[.val (.int p1), .val (.int p2), .val (.ref b46), .val (.ref r_48), .val (.int (1 : Int32)), .val (.int (((0 : Int32) + (1 : Int32)) - (1 : Int32)))] [(.int (own_ie (((0 : Int64) + (1 : Int64)) - (1 : Int64))))]))) (fun t ht => st78.trans ht) ?_
          refine own_step (U' := (T78.setTop (mkF m 206 #[.val (.int p1), .val (.int p2), .val (.ref b46), .val (.ref r_48), .val (.int (1 : Int32)), .val (.int (((0 : Int32) + (1 : Int32)) - (1 : Int32)))] [(.int (((0 : Int32) + (1 : Int32)) - (1 : Int32))), (.int (own_ie (((0 : Int64) + (1 : Int64)) - (1 : Int64))))]))) (fun t ht => XS.iload X78.here hx rfl (hb hby at_204) rfl ht) ?_
          refine own_step (U' := (T78.setTop (mkF m 209 #[.val (.int p1), .val (.int p2), .val (.ref b46), .val (.ref r_48), .val (.int (1 : Int32)), .val (.int (((0 : Int32) + (1 : Int32)) - (1 : Int32)))] [(.int (own_ie (((0 : Int64) + (1 : Int64)) - (1 : Int64))))]))) (fun t ht => XS.ifNo X78.here hx rfl (hb hby at_206) rfl (XT.i0_ne_f ((by decide) : (((0 : Int32) + (1 : Int32)) - (1 : Int32)) = 0)) ht) ?_
          refine own_step (U' := (T78.setTop (mkF m 210 #[.val (.int p1), .val (.int p2), .val (.ref b46), .val (.ref r_48), .val (.int (1 : Int32)), .val (.int (((0 : Int32) + (1 : Int32)) - (1 : Int32)))] [(.int (1 : Int32)), (.int (own_ie (((0 : Int64) + (1 : Int64)) - (1 : Int64))))]))) (fun t ht => XS.iconst X78.here hx rfl (hb hby at_209) ht) ?_
          refine own_step (U' := (T78.setTop (mkF m 214 #[.val (.int p1), .val (.int p2), .val (.ref b46), .val (.ref r_48), .val (.int (1 : Int32)), .val (.int (((0 : Int32) + (1 : Int32)) - (1 : Int32)))] [(.int (1 : Int32)), (.int (own_ie (((0 : Int64) + (1 : Int64)) - (1 : Int64))))]))) (fun t ht => XS.goto X78.here hx rfl (pc0 := 210) (pc' := 214) rfl (hb hby at_210) (by decide) (by decide) ht) ?_
          refine own_step (U' := (T78.setTop (mkF m 217 #[.val (.int p1), .val (.int p2), .val (.ref b46), .val (.ref r_48), .val (.int (1 : Int32)), .val (.int (((0 : Int32) + (1 : Int32)) - (1 : Int32)))] []))) (fun t ht => XS.icmpNo X78.here hx rfl (hb hby at_214) rfl (XT.ii_ne_f ((by decide) : (own_ie (((0 : Int64) + (1 : Int64)) - (1 : Int64))) = (1 : Int32))) ht) ?_
          refine own_step (U' := (T78.setTop (mkF m 218 #[.val (.int p1), .val (.int p2), .val (.ref b46), .val (.ref r_48), .val (.int (1 : Int32)), .val (.int (((0 : Int32) + (1 : Int32)) - (1 : Int32)))] [(.int (1 : Int32))]))) (fun t ht => XS.iconst X78.here hx rfl (hb hby at_217) ht) ?_
          refine own_step (U' := (T78.setTop (mkF m 222 #[.val (.int p1), .val (.int p2), .val (.ref b46), .val (.ref r_48), .val (.int (1 : Int32)), .val (.int (((0 : Int32) + (1 : Int32)) - (1 : Int32)))] [(.int (1 : Int32))]))) (fun t ht => XS.goto X78.here hx rfl (pc0 := 218) (pc' := 222) rfl (hb hby at_218) (by decide) (by decide) ht) ?_
          refine own_step (U' := (T78.setTop (mkF m 224 #[.val (.int p1), .val (.int p2), .val (.ref b46), .val (.ref r_48), .val (.int (1 : Int32)), .val (.int (((0 : Int32) + (1 : Int32)) - (1 : Int32)))] []))) (fun t ht => XS.istore X78.here hx rfl (hb hby at_222) rfl (l' := #[.val (.int p1), .val (.int p2), .val (.ref b46), .val (.ref r_48), .val (.int (1 : Int32)), .val (.int (((0 : Int32) + (1 : Int32)) - (1 : Int32)))]) rfl ht) ?_
          refine own_step (U' := (T78.setTop (mkF m 226 #[.val (.int p1), .val (.int p2), .val (.ref b46), .val (.ref r_48), .val (.int (1 : Int32)), .val (.int (((0 : Int32) + (1 : Int32)) - (1 : Int32)))] [(.int (1 : Int32))]))) (fun t ht => XS.iload X78.here hx rfl (hb hby at_224) rfl ht) ?_
          refine own_ret X78 (v := (some (.int (nar .boolean (1 : Int32))))) (fun h => by rw [Bd.returns] at h; cases h) Bd.notSynchronized (by decide) (by decide) ?_ (fun fs hr => retN X78 hx (t := .boolean) Bd.returns (by simp) (hb hby at_226) hr)
          show own_Q_law Z p1 p2 cz h0 n0 _ T78.heap _
          rw [e78]
          exact ⟨rfl, N78⟩
        ·
          refine own_step (U' := (T75.setTop (mkF m 184 #[.val (.int p1), .val (.int p2), .val (.ref b46), .val (.ref r_48), .val (.int (1 : Int32)), .val (.int (((0 : Int32) + (1 : Int32)) - (1 : Int32)))] [(.int (((0 : Int32) + (1 : Int32)) - (1 : Int32))), (.ref b46)]))) (fun t ht => XS.ifNo X75.here hx rfl (hb hby at_181) rfl (XT.i0_eq_f hc181_76) ht) ?_
          refine own_step (U' := (T75.setTop (mkF m 185 #[.val (.int p1), .val (.int p2), .val (.ref b46), .val (.ref r_48), .val (.int (1 : Int32)), .val (.int (((0 : Int32) + (1 : Int32)) - (1 : Int32)))] [(.int (1 : Int32)), (.int (((0 : Int32) + (1 : Int32)) - (1 : Int32))), (.ref b46)]))) (fun t ht => XS.iconst X75.here hx rfl (hb hby at_184) ht) ?_
          refine own_step (U' := (T75.setTop (mkF m 189 #[.val (.int p1), .val (.int p2), .val (.ref b46), .val (.ref r_48), .val (.int (1 : Int32)), .val (.int (((0 : Int32) + (1 : Int32)) - (1 : Int32)))] [(.int (1 : Int32)), (.int (((0 : Int32) + (1 : Int32)) - (1 : Int32))), (.ref b46)]))) (fun t ht => XS.goto X75.here hx rfl (pc0 := 185) (pc' := 189) rfl (hb hby at_185) (by decide) (by decide) ht) ?_
          refine own_step (U' := (T75.setTop (mkF m 190 #[.val (.int p1), .val (.int p2), .val (.ref b46), .val (.ref r_48), .val (.int (1 : Int32)), .val (.int (((0 : Int32) + (1 : Int32)) - (1 : Int32)))] [(.ref r_48), (.int (1 : Int32)), (.int (((0 : Int32) + (1 : Int32)) - (1 : Int32))), (.ref b46)]))) (fun t ht => XS.aloadN X75.here hx rfl (hb hby at_189) rfl rfl ht) ?_
          obtain ⟨_, _, ⟨T79, L79, k79, n79⟩, -, X79, ⟨Lc79, hQ79, l79, y79, z79⟩, st79⟩ := Jvm.LawKit.callS X75 hx (y := (⟨"com/example/call_throttle/callthrottle/KeyQueueIsEmptyPinLaw", "step", "(Lcom/example/call_throttle/callthrottle/KeyQueue;IZLjava/lang/String;)I"⟩ : MethodName)) hown (mvT hZ (hw _ (List.mem_of_getElem? (i := 55) rfl))) (mvT hZ (hw _ (List.mem_of_getElem? (i := 56) rfl))) (mvT hZ (hw _ (List.mem_of_getElem? (i := 57) rfl))) (mvT hZ (hw _ (List.mem_of_getElem? (i := 58) rfl))) (by decide) (backOf (W := 0) (own_m_stA l Z a0 hw [] (b46) (c1_47) (r1_47) (kA_47) (((0 : Int32) + (1 : Int32))) (((0 : Int32) + (1 : Int32))) ((((0 : Int64) + (1 : Int64)) - (1 : Int64))) ((([.null, .null, .null, .null].set 0 (.ref r_48)).set 0 .null)) ((.ref r_48)) (1) ((((0 : Int32) + (1 : Int32)) - (1 : Int32))) T74.heap n0 (Nat.le_trans Z0 K74.1) g_b46 g_r1_47 p47_0 p47_1 Fq74_0 Fq74_1 Fq74_2 Fq74_3 Fq74_4 Fq74_5 Fq74_6 Fq74_7 Fq74_8 f74_1 p47_2 (by decide) (by decide) (by decide) rfl (Nat.le_of_ble_eq_true rfl)) hZ (hw _ (List.mem_of_getElem? (i := 58) rfl)) (hw _ (List.mem_of_getElem? (i := 57) rfl)) (by decide) (by decide)) (g := (mkF m 190 #[.val (.int p1), .val (.int p2), .val (.ref b46), .val (.ref r_48), .val (.int (1 : Int32)), .val (.int (((0 : Int32) + (1 : Int32)) - (1 : Int32)))] [(.ref r_48), (.int (1 : Int32)), (.int (((0 : Int32) + (1 : Int32)) - (1 : Int32))), (.ref b46)])) rfl (by rw [hml]; rfl) (argsL := [(.ref b46), (.int (((0 : Int32) + (1 : Int32)) - (1 : Int32))), (.int (1 : Int32)), (.ref r_48)]) (rest := []) (lenOf own_pd8 rfl) rfl (by show 2 * 0 + _ ≤ _; exact Nat.le_of_eq rfl) (hb hby at_190) (fun _ _ => ⟨rfl, e75, (by decide : 5 + 0 ≤ _), (by decide : 1036 + 0 ≤ _)⟩)
          dsimp only [Pt.U, Pt.locs, Pt.cells, Pt.slots] at X79 l79 y79 z79 st79 hQ79
          subst l79 y79 z79
          obtain ⟨rfl, Nq79, Kq79, Fq79_0, Fq79_1, Fq79_2, Fq79_3, Fq79_4, Fq79_5, Fq79_6, Fq79_7, Fq79_8⟩ := hQ79
          have N79 := Fr.app N75 Nq79
          have f79_0 : Sta Z T79.heap "java/lang/String" "COMPACT_STRINGS" "Z" (.int cz) := own_sta_keep f74_0 Kq79 (own_plF Fq74_0 (own_plV Fq74_8 own_pl0))
          have f79_1 : own_Key Z T79.heap (.ref r_48) := f74_1.keep Kq79
          have f79_7 : Exa Z T79.heap b46 "com/example/call_throttle/callthrottle/KeyQueue" := Fq74_5.keep Kq79
          have f79_8 : Fld Z T79.heap c1_47 "com/example/call_throttle/callthrottle/KeyQueue$Chunk" "keys" "[Ljava/lang/String;" (.ref r1_47) := Fq74_6.keep Kq79 (ninS (Ne.symm ne_b46_c1_47) (ninS p47_1 nin0))
          have f79_9 : Exa Z T79.heap c1_47 "com/example/call_throttle/callthrottle/KeyQueue$Chunk" := Fq74_7.keep Kq79
          have K79 : Keep h0 T79.heap [] := K74.trans Kq79 (allS (Or.inr sz_b46) (allS (Or.inr sz_r1_47) all0))
          refine own_step (U' := (T79.setTop (mkF m 193 #[.val (.int p1), .val (.int p2), .val (.ref b46), .val (.ref r_48), .val (.int (1 : Int32)), .val (.int (((0 : Int32) + (1 : Int32)) - (1 : Int32)))] [(.int ((((0 : Int32) + (1 : Int32)) - (1 : Int32)) + (1 : Int32)))]))) (fun t ht => st79 _ ht) ?_
          refine own_step (U' := (T79.setTop (mkF m 195 #[.val (.int p1), .val (.int p2), .val (.ref b46), .val (.ref r_48), .val (.int (1 : Int32)), .val (.int ((((0 : Int32) + (1 : Int32)) - (1 : Int32)) + (1 : Int32)))] []))) (fun t ht => XS.istore X79.here hx rfl (hb hby at_193) rfl (l' := #[.val (.int p1), .val (.int p2), .val (.ref b46), .val (.ref r_48), .val (.int (1 : Int32)), .val (.int ((((0 : Int32) + (1 : Int32)) - (1 : Int32)) + (1 : Int32)))]) rfl ht) ?_
          refine own_step (U' := (T79.setTop (mkF m 197 #[.val (.int p1), .val (.int p2), .val (.ref b46), .val (.ref r_48), .val (.int (1 : Int32)), .val (.int ((((0 : Int32) + (1 : Int32)) - (1 : Int32)) + (1 : Int32)))] [(.int (1 : Int32))]))) (fun t ht => XS.iload X79.here hx rfl (hb hby at_195) rfl ht) ?_
          refine own_step (U' := (T79.setTop (mkF m 200 #[.val (.int p1), .val (.int p2), .val (.ref b46), .val (.ref r_48), .val (.int (1 : Int32)), .val (.int ((((0 : Int32) + (1 : Int32)) - (1 : Int32)) + (1 : Int32)))] []))) (fun t ht => XS.ifNo X79.here hx rfl (hb hby at_197) rfl (XT.i0_eq_f ((by decide) : ¬ ((1 : Int32) = 0))) ht) ?_
          refine own_step (U' := (T79.setTop (mkF m 201 #[.val (.int p1), .val (.int p2), .val (.ref b46), .val (.ref r_48), .val (.int (1 : Int32)), .val (.int ((((0 : Int32) + (1 : Int32)) - (1 : Int32)) + (1 : Int32)))] [(.ref b46)]))) (fun t ht => XS.aloadN X79.here hx rfl (hb hby at_200) rfl rfl ht) ?_
          obtain ⟨cq80, kq80, q80a, q80b, q80c⟩ := isOf hZ rfl Fq79_5
          obtain ⟨_, _, ⟨T80, L80, k80, n80⟩, -, X80, ⟨Lc80, hQ80, l80, y80, z80⟩, st80⟩ := X79.virtualBack hx (y := (⟨"com/example/call_throttle/callthrottle/KeyQueue", "isEmpty", "()Z"⟩ : MethodName)) (z := (⟨"com/example/call_throttle/callthrottle/KeyQueue", "isEmpty", "()Z"⟩ : MethodName)) hown (mvT hZ (hw _ (List.mem_of_getElem? (i := 48) rfl))) (mvT hZ (hw _ (List.mem_of_getElem? (i := 49) rfl))) (notFace_of_selects (args := #[]) (mvT hZ (hw _ (List.mem_of_getElem? (i := 51) rfl)))) (mvT hZ (hw _ (List.mem_of_getElem? (i := 51) rfl))) (mvT hZ (hw _ (List.mem_of_getElem? (i := 50) rfl))) (by decide) (backOf (W := 0) (own_m_ie l Z a0 hw [] (b46) (((((0 : Int64) + (1 : Int64)) - (1 : Int64)) + (1 : Int64))) T79.heap n0 (Nat.le_trans Z0 K79.1) Fq79_4) hZ (hw _ (List.mem_of_getElem? (i := 52) rfl)) (hw _ (List.mem_of_getElem? (i := 2) rfl)) (by decide) (by decide)) q80a q80c (g := (mkF m 201 #[.val (.int p1), .val (.int p2), .val (.ref b46), .val (.ref r_48), .val (.int (1 : Int32)), .val (.int ((((0 : Int32) + (1 : Int32)) - (1 : Int32)) + (1 : Int32)))] [(.ref b46)])) rfl (by rw [hml]; rfl) (Steps.refl _) (argsL := []) (rest := []) (lenOf own_pd7 rfl) rfl (by show 2 * 0 + _ ≤ _; exact Nat.le_of_eq rfl) (hb hby at_201) (fun _ _ => ⟨rfl, rfl, (by decide : 5 + 0 ≤ _), (by decide : 1036 + 0 ≤ _)⟩)
          dsimp only [Pt.U, Pt.locs, Pt.cells, Pt.slots] at X80 l80 y80 z80 st80 hQ80
          subst l80 y80 z80
          obtain ⟨rfl, Nq80, Kq80⟩ := hQ80
          have N80 := Fr.app N79 Nq80
          have e80 : T80.heap = T79.heap := Kq80
          refine own_step (U' := (T80.setTop (mkF m 204 #[.val (.int p1), .val (.int p2), .val (.ref b46), .val (.ref r_48), .val (.int (1 : Int32)), .val (.int ((((0 : Int32) + (1 : Int32)) - (1 : Int32)) + (1 : Int32)))] [(.int (own_ie ((((0 : Int64) + (1 : Int64)) - (1 : Int64)) + (1 : Int64))))]))) (fun t ht => st80.trans ht) ?_
          refine own_step (U' := (T80.setTop (mkF m 206 #[.val (.int p1), .val (.int p2), .val (.ref b46), .val (.ref r_48), .val (.int (1 : Int32)), .val (.int ((((0 : Int32) + (1 : Int32)) - (1 : Int32)) + (1 : Int32)))] [(.int ((((0 : Int32) + (1 : Int32)) - (1 : Int32)) + (1 : Int32))), (.int (own_ie ((((0 : Int64) + (1 : Int64)) - (1 : Int64)) + (1 : Int64))))]))) (fun t ht => XS.iload X80.here hx rfl (hb hby at_204) rfl ht) ?_
          refine own_step (U' := (T80.setTop (mkF m 213 #[.val (.int p1), .val (.int p2), .val (.ref b46), .val (.ref r_48), .val (.int (1 : Int32)), .val (.int ((((0 : Int32) + (1 : Int32)) - (1 : Int32)) + (1 : Int32)))] [(.int (own_ie ((((0 : Int64) + (1 : Int64)) - (1 : Int64)) + (1 : Int64))))]))) (fun t ht => XS.ifYes X80.here hx rfl (pc0 := 206) (pc' := 213) rfl (hb hby at_206) rfl (XT.i0_ne_t ((by decide) : ¬ (((((0 : Int32) + (1 : Int32)) - (1 : Int32)) + (1 : Int32)) = 0))) (by decide) (by decide) ht) ?_
          refine own_step (U' := (T80.setTop (mkF m 214 #[.val (.int p1), .val (.int p2), .val (.ref b46), .val (.ref r_48), .val (.int (1 : Int32)), .val (.int ((((0 : Int32) + (1 : Int32)) - (1 : Int32)) + (1 : Int32)))] [(.int (0 : Int32)), (.int (own_ie ((((0 : Int64) + (1 : Int64)) - (1 : Int64)) + (1 : Int64))))]))) (fun t ht => XS.iconst X80.here hx rfl (hb hby at_213) ht) ?_
          refine own_step (U' := (T80.setTop (mkF m 217 #[.val (.int p1), .val (.int p2), .val (.ref b46), .val (.ref r_48), .val (.int (1 : Int32)), .val (.int ((((0 : Int32) + (1 : Int32)) - (1 : Int32)) + (1 : Int32)))] []))) (fun t ht => XS.icmpNo X80.here hx rfl (hb hby at_214) rfl (XT.ii_ne_f ((by decide) : (own_ie ((((0 : Int64) + (1 : Int64)) - (1 : Int64)) + (1 : Int64))) = (0 : Int32))) ht) ?_
          refine own_step (U' := (T80.setTop (mkF m 218 #[.val (.int p1), .val (.int p2), .val (.ref b46), .val (.ref r_48), .val (.int (1 : Int32)), .val (.int ((((0 : Int32) + (1 : Int32)) - (1 : Int32)) + (1 : Int32)))] [(.int (1 : Int32))]))) (fun t ht => XS.iconst X80.here hx rfl (hb hby at_217) ht) ?_
          refine own_step (U' := (T80.setTop (mkF m 222 #[.val (.int p1), .val (.int p2), .val (.ref b46), .val (.ref r_48), .val (.int (1 : Int32)), .val (.int ((((0 : Int32) + (1 : Int32)) - (1 : Int32)) + (1 : Int32)))] [(.int (1 : Int32))]))) (fun t ht => XS.goto X80.here hx rfl (pc0 := 218) (pc' := 222) rfl (hb hby at_218) (by decide) (by decide) ht) ?_
          refine own_step (U' := (T80.setTop (mkF m 224 #[.val (.int p1), .val (.int p2), .val (.ref b46), .val (.ref r_48), .val (.int (1 : Int32)), .val (.int ((((0 : Int32) + (1 : Int32)) - (1 : Int32)) + (1 : Int32)))] []))) (fun t ht => XS.istore X80.here hx rfl (hb hby at_222) rfl (l' := #[.val (.int p1), .val (.int p2), .val (.ref b46), .val (.ref r_48), .val (.int (1 : Int32)), .val (.int ((((0 : Int32) + (1 : Int32)) - (1 : Int32)) + (1 : Int32)))]) rfl ht) ?_
          refine own_step (U' := (T80.setTop (mkF m 226 #[.val (.int p1), .val (.int p2), .val (.ref b46), .val (.ref r_48), .val (.int (1 : Int32)), .val (.int ((((0 : Int32) + (1 : Int32)) - (1 : Int32)) + (1 : Int32)))] [(.int (1 : Int32))]))) (fun t ht => XS.iload X80.here hx rfl (hb hby at_224) rfl ht) ?_
          refine own_ret X80 (v := (some (.int (nar .boolean (1 : Int32))))) (fun h => by rw [Bd.returns] at h; cases h) Bd.notSynchronized (by decide) (by decide) ?_ (fun fs hr => retN X80 hx (t := .boolean) Bd.returns (by simp) (hb hby at_226) hr)
          show own_Q_law Z p1 p2 cz h0 n0 _ T80.heap _
          rw [e80]
          exact ⟨rfl, N80⟩
      ·
        refine own_step (U' := (T72.setTop (mkF m 134 #[.val (.int p1), .val (.int p2), .val (.ref b46), .val (.ref r_48), .val (.int (1 : Int32)), .val (.int ((0 : Int32) + (1 : Int32)))] [(.int ((0 : Int32) + (1 : Int32))), (.ref b46)]))) (fun t ht => XS.ifNo X72.here hx rfl (hb hby at_131) rfl (XT.i0_eq_f hc131_73) ht) ?_
        refine own_step (U' := (T72.setTop (mkF m 135 #[.val (.int p1), .val (.int p2), .val (.ref b46), .val (.ref r_48), .val (.int (1 : Int32)), .val (.int ((0 : Int32) + (1 : Int32)))] [(.int (1 : Int32)), (.int ((0 : Int32) + (1 : Int32))), (.ref b46)]))) (fun t ht => XS.iconst X72.here hx rfl (hb hby at_134) ht) ?_
        refine own_step (U' := (T72.setTop (mkF m 139 #[.val (.int p1), .val (.int p2), .val (.ref b46), .val (.ref r_48), .val (.int (1 : Int32)), .val (.int ((0 : Int32) + (1 : Int32)))] [(.int (1 : Int32)), (.int ((0 : Int32) + (1 : Int32))), (.ref b46)]))) (fun t ht => XS.goto X72.here hx rfl (pc0 := 135) (pc' := 139) rfl (hb hby at_135) (by decide) (by decide) ht) ?_
        refine own_step (U' := (T72.setTop (mkF m 140 #[.val (.int p1), .val (.int p2), .val (.ref b46), .val (.ref r_48), .val (.int (1 : Int32)), .val (.int ((0 : Int32) + (1 : Int32)))] [(.ref r_48), (.int (1 : Int32)), (.int ((0 : Int32) + (1 : Int32))), (.ref b46)]))) (fun t ht => XS.aloadN X72.here hx rfl (hb hby at_139) rfl rfl ht) ?_
        obtain ⟨_, _, ⟨T81, L81, k81, n81⟩, -, X81, ⟨Lc81, hQ81, l81, y81, z81⟩, st81⟩ := Jvm.LawKit.callS X72 hx (y := (⟨"com/example/call_throttle/callthrottle/KeyQueueIsEmptyPinLaw", "step", "(Lcom/example/call_throttle/callthrottle/KeyQueue;IZLjava/lang/String;)I"⟩ : MethodName)) hown (mvT hZ (hw _ (List.mem_of_getElem? (i := 55) rfl))) (mvT hZ (hw _ (List.mem_of_getElem? (i := 56) rfl))) (mvT hZ (hw _ (List.mem_of_getElem? (i := 57) rfl))) (mvT hZ (hw _ (List.mem_of_getElem? (i := 58) rfl))) (by decide) (backOf (W := 0) (own_m_stA l Z a0 hw [] (b46) (c1_47) (r1_47) (kA_47) ((0 : Int32)) (((0 : Int32) + (1 : Int32))) (((0 : Int64) + (1 : Int64))) (([.null, .null, .null, .null].set 0 (.ref r_48))) ((.ref r_48)) (1) (((0 : Int32) + (1 : Int32))) T71.heap n0 (Nat.le_trans Z0 K71.1) g_b46 g_r1_47 p47_0 p47_1 Fq71_0 Fq71_1 Fq71_2 Fq71_3 Fq71_4 Fq71_5 Fq71_6 Fq71_7 Fq71_8 f71_10 p47_2 (by decide) (by decide) (by decide) rfl (Nat.le_of_ble_eq_true rfl)) hZ (hw _ (List.mem_of_getElem? (i := 58) rfl)) (hw _ (List.mem_of_getElem? (i := 57) rfl)) (by decide) (by decide)) (g := (mkF m 140 #[.val (.int p1), .val (.int p2), .val (.ref b46), .val (.ref r_48), .val (.int (1 : Int32)), .val (.int ((0 : Int32) + (1 : Int32)))] [(.ref r_48), (.int (1 : Int32)), (.int ((0 : Int32) + (1 : Int32))), (.ref b46)])) rfl (by rw [hml]; rfl) (argsL := [(.ref b46), (.int ((0 : Int32) + (1 : Int32))), (.int (1 : Int32)), (.ref r_48)]) (rest := []) (lenOf own_pd8 rfl) rfl (by show 2 * 0 + _ ≤ _; exact Nat.le_of_eq rfl) (hb hby at_140) (fun _ _ => ⟨rfl, e72, (by decide : 5 + 0 ≤ _), (by decide : 1036 + 0 ≤ _)⟩)
        dsimp only [Pt.U, Pt.locs, Pt.cells, Pt.slots] at X81 l81 y81 z81 st81 hQ81
        subst l81 y81 z81
        obtain ⟨rfl, Nq81, Kq81, Fq81_0, Fq81_1, Fq81_2, Fq81_3, Fq81_4, Fq81_5, Fq81_6, Fq81_7, Fq81_8⟩ := hQ81
        have N81 := Fr.app N72 Nq81
        have f81_0 : Sta Z T81.heap "java/lang/String" "COMPACT_STRINGS" "Z" (.int cz) := own_sta_keep f71_0 Kq81 (own_plF Fq71_0 (own_plV Fq71_8 own_pl0))
        have f81_1 : own_Key Z T81.heap (.ref r_48) := f71_10.keep Kq81
        have f81_7 : Exa Z T81.heap b46 "com/example/call_throttle/callthrottle/KeyQueue" := Fq71_5.keep Kq81
        have f81_8 : Fld Z T81.heap c1_47 "com/example/call_throttle/callthrottle/KeyQueue$Chunk" "keys" "[Ljava/lang/String;" (.ref r1_47) := Fq71_6.keep Kq81 (ninS (Ne.symm ne_b46_c1_47) (ninS p47_1 nin0))
        have f81_9 : Exa Z T81.heap c1_47 "com/example/call_throttle/callthrottle/KeyQueue$Chunk" := Fq71_7.keep Kq81
        have K81 : Keep h0 T81.heap [] := K71.trans Kq81 (allS (Or.inr sz_b46) (allS (Or.inr sz_r1_47) all0))
        refine own_step (U' := (T81.setTop (mkF m 143 #[.val (.int p1), .val (.int p2), .val (.ref b46), .val (.ref r_48), .val (.int (1 : Int32)), .val (.int ((0 : Int32) + (1 : Int32)))] [(.int (((0 : Int32) + (1 : Int32)) + (1 : Int32)))]))) (fun t ht => st81 _ ht) ?_
        refine own_step (U' := (T81.setTop (mkF m 145 #[.val (.int p1), .val (.int p2), .val (.ref b46), .val (.ref r_48), .val (.int (1 : Int32)), .val (.int (((0 : Int32) + (1 : Int32)) + (1 : Int32)))] []))) (fun t ht => XS.istore X81.here hx rfl (hb hby at_143) rfl (l' := #[.val (.int p1), .val (.int p2), .val (.ref b46), .val (.ref r_48), .val (.int (1 : Int32)), .val (.int (((0 : Int32) + (1 : Int32)) + (1 : Int32)))]) rfl ht) ?_
        refine own_step (U' := (T81.setTop (mkF m 147 #[.val (.int p1), .val (.int p2), .val (.ref b46), .val (.ref r_48), .val (.int (1 : Int32)), .val (.int (((0 : Int32) + (1 : Int32)) + (1 : Int32)))] [(.int (1 : Int32))]))) (fun t ht => XS.iload X81.here hx rfl (hb hby at_145) rfl ht) ?_
        refine own_step (U' := (T81.setTop (mkF m 150 #[.val (.int p1), .val (.int p2), .val (.ref b46), .val (.ref r_48), .val (.int (1 : Int32)), .val (.int (((0 : Int32) + (1 : Int32)) + (1 : Int32)))] []))) (fun t ht => XS.ifNo X81.here hx rfl (hb hby at_147) rfl (XT.i0_eq_f ((by decide) : ¬ ((1 : Int32) = 0))) ht) ?_
        refine own_step (U' := (T81.setTop (mkF m 151 #[.val (.int p1), .val (.int p2), .val (.ref b46), .val (.ref r_48), .val (.int (1 : Int32)), .val (.int (((0 : Int32) + (1 : Int32)) + (1 : Int32)))] [(.ref b46)]))) (fun t ht => XS.aloadN X81.here hx rfl (hb hby at_150) rfl rfl ht) ?_
        obtain ⟨cq82, kq82, q82a, q82b, q82c⟩ := isOf hZ rfl Fq81_5
        obtain ⟨_, _, ⟨T82, L82, k82, n82⟩, -, X82, ⟨Lc82, hQ82, l82, y82, z82⟩, st82⟩ := X81.virtualBack hx (y := (⟨"com/example/call_throttle/callthrottle/KeyQueue", "isEmpty", "()Z"⟩ : MethodName)) (z := (⟨"com/example/call_throttle/callthrottle/KeyQueue", "isEmpty", "()Z"⟩ : MethodName)) hown (mvT hZ (hw _ (List.mem_of_getElem? (i := 48) rfl))) (mvT hZ (hw _ (List.mem_of_getElem? (i := 49) rfl))) (notFace_of_selects (args := #[]) (mvT hZ (hw _ (List.mem_of_getElem? (i := 51) rfl)))) (mvT hZ (hw _ (List.mem_of_getElem? (i := 51) rfl))) (mvT hZ (hw _ (List.mem_of_getElem? (i := 50) rfl))) (by decide) (backOf (W := 0) (own_m_ie l Z a0 hw [] (b46) ((((0 : Int64) + (1 : Int64)) + (1 : Int64))) T81.heap n0 (Nat.le_trans Z0 K81.1) Fq81_4) hZ (hw _ (List.mem_of_getElem? (i := 52) rfl)) (hw _ (List.mem_of_getElem? (i := 2) rfl)) (by decide) (by decide)) q82a q82c (g := (mkF m 151 #[.val (.int p1), .val (.int p2), .val (.ref b46), .val (.ref r_48), .val (.int (1 : Int32)), .val (.int (((0 : Int32) + (1 : Int32)) + (1 : Int32)))] [(.ref b46)])) rfl (by rw [hml]; rfl) (Steps.refl _) (argsL := []) (rest := []) (lenOf own_pd7 rfl) rfl (by show 2 * 0 + _ ≤ _; exact Nat.le_of_eq rfl) (hb hby at_151) (fun _ _ => ⟨rfl, rfl, (by decide : 5 + 0 ≤ _), (by decide : 1036 + 0 ≤ _)⟩)
        dsimp only [Pt.U, Pt.locs, Pt.cells, Pt.slots] at X82 l82 y82 z82 st82 hQ82
        subst l82 y82 z82
        obtain ⟨rfl, Nq82, Kq82⟩ := hQ82
        have N82 := Fr.app N81 Nq82
        have e82 : T82.heap = T81.heap := Kq82
        refine own_step (U' := (T82.setTop (mkF m 154 #[.val (.int p1), .val (.int p2), .val (.ref b46), .val (.ref r_48), .val (.int (1 : Int32)), .val (.int (((0 : Int32) + (1 : Int32)) + (1 : Int32)))] [(.int (own_ie (((0 : Int64) + (1 : Int64)) + (1 : Int64))))]))) (fun t ht => st82.trans ht) ?_
        refine own_step (U' := (T82.setTop (mkF m 156 #[.val (.int p1), .val (.int p2), .val (.ref b46), .val (.ref r_48), .val (.int (1 : Int32)), .val (.int (((0 : Int32) + (1 : Int32)) + (1 : Int32)))] [(.int (((0 : Int32) + (1 : Int32)) + (1 : Int32))), (.int (own_ie (((0 : Int64) + (1 : Int64)) + (1 : Int64))))]))) (fun t ht => XS.iload X82.here hx rfl (hb hby at_154) rfl ht) ?_
        refine own_step (U' := (T82.setTop (mkF m 163 #[.val (.int p1), .val (.int p2), .val (.ref b46), .val (.ref r_48), .val (.int (1 : Int32)), .val (.int (((0 : Int32) + (1 : Int32)) + (1 : Int32)))] [(.int (own_ie (((0 : Int64) + (1 : Int64)) + (1 : Int64))))]))) (fun t ht => XS.ifYes X82.here hx rfl (pc0 := 156) (pc' := 163) rfl (hb hby at_156) rfl (XT.i0_ne_t ((by decide) : ¬ ((((0 : Int32) + (1 : Int32)) + (1 : Int32)) = 0))) (by decide) (by decide) ht) ?_
        refine own_step (U' := (T82.setTop (mkF m 164 #[.val (.int p1), .val (.int p2), .val (.ref b46), .val (.ref r_48), .val (.int (1 : Int32)), .val (.int (((0 : Int32) + (1 : Int32)) + (1 : Int32)))] [(.int (0 : Int32)), (.int (own_ie (((0 : Int64) + (1 : Int64)) + (1 : Int64))))]))) (fun t ht => XS.iconst X82.here hx rfl (hb hby at_163) ht) ?_
        refine own_step (U' := (T82.setTop (mkF m 167 #[.val (.int p1), .val (.int p2), .val (.ref b46), .val (.ref r_48), .val (.int (1 : Int32)), .val (.int (((0 : Int32) + (1 : Int32)) + (1 : Int32)))] []))) (fun t ht => XS.icmpNo X82.here hx rfl (hb hby at_164) rfl (XT.ii_ne_f ((by decide) : (own_ie (((0 : Int64) + (1 : Int64)) + (1 : Int64))) = (0 : Int32))) ht) ?_
        refine own_step (U' := (T82.setTop (mkF m 168 #[.val (.int p1), .val (.int p2), .val (.ref b46), .val (.ref r_48), .val (.int (1 : Int32)), .val (.int (((0 : Int32) + (1 : Int32)) + (1 : Int32)))] [(.int (1 : Int32))]))) (fun t ht => XS.iconst X82.here hx rfl (hb hby at_167) ht) ?_
        refine own_step (U' := (T82.setTop (mkF m 172 #[.val (.int p1), .val (.int p2), .val (.ref b46), .val (.ref r_48), .val (.int (1 : Int32)), .val (.int (((0 : Int32) + (1 : Int32)) + (1 : Int32)))] [(.int (1 : Int32))]))) (fun t ht => XS.goto X82.here hx rfl (pc0 := 168) (pc' := 172) rfl (hb hby at_168) (by decide) (by decide) ht) ?_
        refine own_step (U' := (T82.setTop (mkF m 174 #[.val (.int p1), .val (.int p2), .val (.ref b46), .val (.ref r_48), .val (.int (1 : Int32)), .val (.int (((0 : Int32) + (1 : Int32)) + (1 : Int32)))] []))) (fun t ht => XS.istore X82.here hx rfl (hb hby at_172) rfl (l' := #[.val (.int p1), .val (.int p2), .val (.ref b46), .val (.ref r_48), .val (.int (1 : Int32)), .val (.int (((0 : Int32) + (1 : Int32)) + (1 : Int32)))]) rfl ht) ?_
        refine own_step (U' := (T82.setTop (mkF m 175 #[.val (.int p1), .val (.int p2), .val (.ref b46), .val (.ref r_48), .val (.int (1 : Int32)), .val (.int (((0 : Int32) + (1 : Int32)) + (1 : Int32)))] [(.ref b46)]))) (fun t ht => XS.aloadN X82.here hx rfl (hb hby at_174) rfl rfl ht) ?_
        refine own_step (U' := (T82.setTop (mkF m 177 #[.val (.int p1), .val (.int p2), .val (.ref b46), .val (.ref r_48), .val (.int (1 : Int32)), .val (.int (((0 : Int32) + (1 : Int32)) + (1 : Int32)))] [(.int (((0 : Int32) + (1 : Int32)) + (1 : Int32))), (.ref b46)]))) (fun t ht => XS.iload X82.here hx rfl (hb hby at_175) rfl ht) ?_
        refine own_step (U' := (T82.setTop (mkF m 178 #[.val (.int p1), .val (.int p2), .val (.ref b46), .val (.ref r_48), .val (.int (1 : Int32)), .val (.int (((0 : Int32) + (1 : Int32)) + (1 : Int32)))] [(.int p1), (.int (((0 : Int32) + (1 : Int32)) + (1 : Int32))), (.ref b46)]))) (fun t ht => XS.iloadN X82.here hx rfl (hb hby at_177) rfl ht) ?_
        refine own_step (U' := (T82.setTop (mkF m 180 #[.val (.int p1), .val (.int p2), .val (.ref b46), .val (.ref r_48), .val (.int (1 : Int32)), .val (.int (((0 : Int32) + (1 : Int32)) + (1 : Int32)))] [(.int (8 : Int32)), (.int p1), (.int (((0 : Int32) + (1 : Int32)) + (1 : Int32))), (.ref b46)]))) (fun t ht => XS.bipush X82.here hx rfl (hb hby at_178) ht) ?_
        refine own_step (U' := (T82.setTop (mkF m 181 #[.val (.int p1), .val (.int p2), .val (.ref b46), .val (.ref r_48), .val (.int (1 : Int32)), .val (.int (((0 : Int32) + (1 : Int32)) + (1 : Int32)))] [(.int (p1 &&& (8 : Int32))), (.int (((0 : Int32) + (1 : Int32)) + (1 : Int32))), (.ref b46)]))) (fun t ht => XS.iand X82.here hx rfl (hb hby at_180) rfl ht) ?_
        by_cases hc181_83 : (p1 &&& (8 : Int32)) = 0
        ·
          refine own_step (U' := (T82.setTop (mkF m 188 #[.val (.int p1), .val (.int p2), .val (.ref b46), .val (.ref r_48), .val (.int (1 : Int32)), .val (.int (((0 : Int32) + (1 : Int32)) + (1 : Int32)))] [(.int (((0 : Int32) + (1 : Int32)) + (1 : Int32))), (.ref b46)]))) (fun t ht => XS.ifYes X82.here hx rfl (pc0 := 181) (pc' := 188) rfl (hb hby at_181) rfl (XT.i0_eq_t hc181_83) (by decide) (by decide) ht) ?_
          refine own_step (U' := (T82.setTop (mkF m 189 #[.val (.int p1), .val (.int p2), .val (.ref b46), .val (.ref r_48), .val (.int (1 : Int32)), .val (.int (((0 : Int32) + (1 : Int32)) + (1 : Int32)))] [(.int (0 : Int32)), (.int (((0 : Int32) + (1 : Int32)) + (1 : Int32))), (.ref b46)]))) (fun t ht => XS.iconst X82.here hx rfl (hb hby at_188) ht) ?_
          refine own_step (U' := (T82.setTop (mkF m 190 #[.val (.int p1), .val (.int p2), .val (.ref b46), .val (.ref r_48), .val (.int (1 : Int32)), .val (.int (((0 : Int32) + (1 : Int32)) + (1 : Int32)))] [(.ref r_48), (.int (0 : Int32)), (.int (((0 : Int32) + (1 : Int32)) + (1 : Int32))), (.ref b46)]))) (fun t ht => XS.aloadN X82.here hx rfl (hb hby at_189) rfl rfl ht) ?_
          obtain ⟨_, _, ⟨T84, L84, k84, n84⟩, -, X84, ⟨Lc84, hQ84, l84, y84, z84⟩, st84⟩ := Jvm.LawKit.callS X82 hx (y := (⟨"com/example/call_throttle/callthrottle/KeyQueueIsEmptyPinLaw", "step", "(Lcom/example/call_throttle/callthrottle/KeyQueue;IZLjava/lang/String;)I"⟩ : MethodName)) hown (mvT hZ (hw _ (List.mem_of_getElem? (i := 55) rfl))) (mvT hZ (hw _ (List.mem_of_getElem? (i := 56) rfl))) (mvT hZ (hw _ (List.mem_of_getElem? (i := 57) rfl))) (mvT hZ (hw _ (List.mem_of_getElem? (i := 58) rfl))) (by decide) (backOf (W := 0) (own_m_stR l Z a0 hw [] (b46) (c1_47) (r1_47) (kA_47) ((0 : Int32)) ((((0 : Int32) + (1 : Int32)) + (1 : Int32))) ((((0 : Int64) + (1 : Int64)) + (1 : Int64))) ((([.null, .null, .null, .null].set 0 (.ref r_48)).set 1 (.ref r_48))) ((.ref r_48)) ((.ref r_48)) (0) ((((0 : Int32) + (1 : Int32)) + (1 : Int32))) T81.heap n0 (Nat.le_trans Z0 K81.1) g_b46 g_r1_47 p47_0 p47_1 Fq81_0 Fq81_1 Fq81_2 Fq81_3 Fq81_4 Fq81_5 Fq81_6 Fq81_7 Fq81_8 (by decide) (by decide) (by decide) (by decide) rfl (Nat.le_of_ble_eq_true rfl) rfl rfl rfl (by decide)) hZ (hw _ (List.mem_of_getElem? (i := 58) rfl)) (hw _ (List.mem_of_getElem? (i := 57) rfl)) (by decide) (by decide)) (g := (mkF m 190 #[.val (.int p1), .val (.int p2), .val (.ref b46), .val (.ref r_48), .val (.int (1 : Int32)), .val (.int (((0 : Int32) + (1 : Int32)) + (1 : Int32)))] [(.ref r_48), (.int (0 : Int32)), (.int (((0 : Int32) + (1 : Int32)) + (1 : Int32))), (.ref b46)])) rfl (by rw [hml]; rfl) (argsL := [(.ref b46), (.int (((0 : Int32) + (1 : Int32)) + (1 : Int32))), (.int (0 : Int32)), (.ref r_48)]) (rest := []) (lenOf own_pd8 rfl) rfl (by show 2 * 0 + _ ≤ _; exact Nat.le_of_eq rfl) (hb hby at_190) (fun _ _ => ⟨rfl, e82, (by decide : 5 + 0 ≤ _), (by decide : 1036 + 0 ≤ _)⟩)
          dsimp only [Pt.U, Pt.locs, Pt.cells, Pt.slots] at X84 l84 y84 z84 st84 hQ84
          subst l84 y84 z84
          obtain ⟨rfl, Nq84, Kq84, Fq84_0, Fq84_1, Fq84_2, Fq84_3, Fq84_4, Fq84_5, Fq84_6, Fq84_7, Fq84_8⟩ := hQ84
          have N84 := Fr.app N82 Nq84
          have f84_0 : Sta Z T84.heap "java/lang/String" "COMPACT_STRINGS" "Z" (.int cz) := own_sta_keep f81_0 Kq84 (own_plF Fq81_0 (own_plV Fq81_8 own_pl0))
          have f84_1 : own_Key Z T84.heap (.ref r_48) := f81_1.keep Kq84
          have f84_7 : Exa Z T84.heap b46 "com/example/call_throttle/callthrottle/KeyQueue" := Fq81_5.keep Kq84
          have f84_8 : Fld Z T84.heap c1_47 "com/example/call_throttle/callthrottle/KeyQueue$Chunk" "keys" "[Ljava/lang/String;" (.ref r1_47) := Fq81_6.keep Kq84 (ninS (Ne.symm ne_b46_c1_47) (ninS p47_1 nin0))
          have f84_9 : Exa Z T84.heap c1_47 "com/example/call_throttle/callthrottle/KeyQueue$Chunk" := Fq81_7.keep Kq84
          have K84 : Keep h0 T84.heap [] := K81.trans Kq84 (allS (Or.inr sz_b46) (allS (Or.inr sz_r1_47) all0))
          refine own_step (U' := (T84.setTop (mkF m 193 #[.val (.int p1), .val (.int p2), .val (.ref b46), .val (.ref r_48), .val (.int (1 : Int32)), .val (.int (((0 : Int32) + (1 : Int32)) + (1 : Int32)))] [(.int ((((0 : Int32) + (1 : Int32)) + (1 : Int32)) - (1 : Int32)))]))) (fun t ht => st84 _ ht) ?_
          refine own_step (U' := (T84.setTop (mkF m 195 #[.val (.int p1), .val (.int p2), .val (.ref b46), .val (.ref r_48), .val (.int (1 : Int32)), .val (.int ((((0 : Int32) + (1 : Int32)) + (1 : Int32)) - (1 : Int32)))] []))) (fun t ht => XS.istore X84.here hx rfl (hb hby at_193) rfl (l' := #[.val (.int p1), .val (.int p2), .val (.ref b46), .val (.ref r_48), .val (.int (1 : Int32)), .val (.int ((((0 : Int32) + (1 : Int32)) + (1 : Int32)) - (1 : Int32)))]) rfl ht) ?_
          refine own_step (U' := (T84.setTop (mkF m 197 #[.val (.int p1), .val (.int p2), .val (.ref b46), .val (.ref r_48), .val (.int (1 : Int32)), .val (.int ((((0 : Int32) + (1 : Int32)) + (1 : Int32)) - (1 : Int32)))] [(.int (1 : Int32))]))) (fun t ht => XS.iload X84.here hx rfl (hb hby at_195) rfl ht) ?_
          refine own_step (U' := (T84.setTop (mkF m 200 #[.val (.int p1), .val (.int p2), .val (.ref b46), .val (.ref r_48), .val (.int (1 : Int32)), .val (.int ((((0 : Int32) + (1 : Int32)) + (1 : Int32)) - (1 : Int32)))] []))) (fun t ht => XS.ifNo X84.here hx rfl (hb hby at_197) rfl (XT.i0_eq_f ((by decide) : ¬ ((1 : Int32) = 0))) ht) ?_
          refine own_step (U' := (T84.setTop (mkF m 201 #[.val (.int p1), .val (.int p2), .val (.ref b46), .val (.ref r_48), .val (.int (1 : Int32)), .val (.int ((((0 : Int32) + (1 : Int32)) + (1 : Int32)) - (1 : Int32)))] [(.ref b46)]))) (fun t ht => XS.aloadN X84.here hx rfl (hb hby at_200) rfl rfl ht) ?_
          obtain ⟨cq85, kq85, q85a, q85b, q85c⟩ := isOf hZ rfl Fq84_5
          obtain ⟨_, _, ⟨T85, L85, k85, n85⟩, -, X85, ⟨Lc85, hQ85, l85, y85, z85⟩, st85⟩ := X84.virtualBack hx (y := (⟨"com/example/call_throttle/callthrottle/KeyQueue", "isEmpty", "()Z"⟩ : MethodName)) (z := (⟨"com/example/call_throttle/callthrottle/KeyQueue", "isEmpty", "()Z"⟩ : MethodName)) hown (mvT hZ (hw _ (List.mem_of_getElem? (i := 48) rfl))) (mvT hZ (hw _ (List.mem_of_getElem? (i := 49) rfl))) (notFace_of_selects (args := #[]) (mvT hZ (hw _ (List.mem_of_getElem? (i := 51) rfl)))) (mvT hZ (hw _ (List.mem_of_getElem? (i := 51) rfl))) (mvT hZ (hw _ (List.mem_of_getElem? (i := 50) rfl))) (by decide) (backOf (W := 0) (own_m_ie l Z a0 hw [] (b46) (((((0 : Int64) + (1 : Int64)) + (1 : Int64)) - (1 : Int64))) T84.heap n0 (Nat.le_trans Z0 K84.1) Fq84_4) hZ (hw _ (List.mem_of_getElem? (i := 52) rfl)) (hw _ (List.mem_of_getElem? (i := 2) rfl)) (by decide) (by decide)) q85a q85c (g := (mkF m 201 #[.val (.int p1), .val (.int p2), .val (.ref b46), .val (.ref r_48), .val (.int (1 : Int32)), .val (.int ((((0 : Int32) + (1 : Int32)) + (1 : Int32)) - (1 : Int32)))] [(.ref b46)])) rfl (by rw [hml]; rfl) (Steps.refl _) (argsL := []) (rest := []) (lenOf own_pd7 rfl) rfl (by show 2 * 0 + _ ≤ _; exact Nat.le_of_eq rfl) (hb hby at_201) (fun _ _ => ⟨rfl, rfl, (by decide : 5 + 0 ≤ _), (by decide : 1036 + 0 ≤ _)⟩)
          dsimp only [Pt.U, Pt.locs, Pt.cells, Pt.slots] at X85 l85 y85 z85 st85 hQ85
          subst l85 y85 z85
          obtain ⟨rfl, Nq85, Kq85⟩ := hQ85
          have N85 := Fr.app N84 Nq85
          have e85 : T85.heap = T84.heap := Kq85
          refine own_step (U' := (T85.setTop (mkF m 204 #[.val (.int p1), .val (.int p2), .val (.ref b46), .val (.ref r_48), .val (.int (1 : Int32)), .val (.int ((((0 : Int32) + (1 : Int32)) + (1 : Int32)) - (1 : Int32)))] [(.int (own_ie ((((0 : Int64) + (1 : Int64)) + (1 : Int64)) - (1 : Int64))))]))) (fun t ht => st85.trans ht) ?_
          refine own_step (U' := (T85.setTop (mkF m 206 #[.val (.int p1), .val (.int p2), .val (.ref b46), .val (.ref r_48), .val (.int (1 : Int32)), .val (.int ((((0 : Int32) + (1 : Int32)) + (1 : Int32)) - (1 : Int32)))] [(.int ((((0 : Int32) + (1 : Int32)) + (1 : Int32)) - (1 : Int32))), (.int (own_ie ((((0 : Int64) + (1 : Int64)) + (1 : Int64)) - (1 : Int64))))]))) (fun t ht => XS.iload X85.here hx rfl (hb hby at_204) rfl ht) ?_
          refine own_step (U' := (T85.setTop (mkF m 213 #[.val (.int p1), .val (.int p2), .val (.ref b46), .val (.ref r_48), .val (.int (1 : Int32)), .val (.int ((((0 : Int32) + (1 : Int32)) + (1 : Int32)) - (1 : Int32)))] [(.int (own_ie ((((0 : Int64) + (1 : Int64)) + (1 : Int64)) - (1 : Int64))))]))) (fun t ht => XS.ifYes X85.here hx rfl (pc0 := 206) (pc' := 213) rfl (hb hby at_206) rfl (XT.i0_ne_t ((by decide) : ¬ (((((0 : Int32) + (1 : Int32)) + (1 : Int32)) - (1 : Int32)) = 0))) (by decide) (by decide) ht) ?_
          refine own_step (U' := (T85.setTop (mkF m 214 #[.val (.int p1), .val (.int p2), .val (.ref b46), .val (.ref r_48), .val (.int (1 : Int32)), .val (.int ((((0 : Int32) + (1 : Int32)) + (1 : Int32)) - (1 : Int32)))] [(.int (0 : Int32)), (.int (own_ie ((((0 : Int64) + (1 : Int64)) + (1 : Int64)) - (1 : Int64))))]))) (fun t ht => XS.iconst X85.here hx rfl (hb hby at_213) ht) ?_
          refine own_step (U' := (T85.setTop (mkF m 217 #[.val (.int p1), .val (.int p2), .val (.ref b46), .val (.ref r_48), .val (.int (1 : Int32)), .val (.int ((((0 : Int32) + (1 : Int32)) + (1 : Int32)) - (1 : Int32)))] []))) (fun t ht => XS.icmpNo X85.here hx rfl (hb hby at_214) rfl (XT.ii_ne_f ((by decide) : (own_ie ((((0 : Int64) + (1 : Int64)) + (1 : Int64)) - (1 : Int64))) = (0 : Int32))) ht) ?_
          refine own_step (U' := (T85.setTop (mkF m 218 #[.val (.int p1), .val (.int p2), .val (.ref b46), .val (.ref r_48), .val (.int (1 : Int32)), .val (.int ((((0 : Int32) + (1 : Int32)) + (1 : Int32)) - (1 : Int32)))] [(.int (1 : Int32))]))) (fun t ht => XS.iconst X85.here hx rfl (hb hby at_217) ht) ?_
          refine own_step (U' := (T85.setTop (mkF m 222 #[.val (.int p1), .val (.int p2), .val (.ref b46), .val (.ref r_48), .val (.int (1 : Int32)), .val (.int ((((0 : Int32) + (1 : Int32)) + (1 : Int32)) - (1 : Int32)))] [(.int (1 : Int32))]))) (fun t ht => XS.goto X85.here hx rfl (pc0 := 218) (pc' := 222) rfl (hb hby at_218) (by decide) (by decide) ht) ?_
          refine own_step (U' := (T85.setTop (mkF m 224 #[.val (.int p1), .val (.int p2), .val (.ref b46), .val (.ref r_48), .val (.int (1 : Int32)), .val (.int ((((0 : Int32) + (1 : Int32)) + (1 : Int32)) - (1 : Int32)))] []))) (fun t ht => XS.istore X85.here hx rfl (hb hby at_222) rfl (l' := #[.val (.int p1), .val (.int p2), .val (.ref b46), .val (.ref r_48), .val (.int (1 : Int32)), .val (.int ((((0 : Int32) + (1 : Int32)) + (1 : Int32)) - (1 : Int32)))]) rfl ht) ?_
          refine own_step (U' := (T85.setTop (mkF m 226 #[.val (.int p1), .val (.int p2), .val (.ref b46), .val (.ref r_48), .val (.int (1 : Int32)), .val (.int ((((0 : Int32) + (1 : Int32)) + (1 : Int32)) - (1 : Int32)))] [(.int (1 : Int32))]))) (fun t ht => XS.iload X85.here hx rfl (hb hby at_224) rfl ht) ?_
          refine own_ret X85 (v := (some (.int (nar .boolean (1 : Int32))))) (fun h => by rw [Bd.returns] at h; cases h) Bd.notSynchronized (by decide) (by decide) ?_ (fun fs hr => retN X85 hx (t := .boolean) Bd.returns (by simp) (hb hby at_226) hr)
          show own_Q_law Z p1 p2 cz h0 n0 _ T85.heap _
          rw [e85]
          exact ⟨rfl, N85⟩
        ·
          refine own_step (U' := (T82.setTop (mkF m 184 #[.val (.int p1), .val (.int p2), .val (.ref b46), .val (.ref r_48), .val (.int (1 : Int32)), .val (.int (((0 : Int32) + (1 : Int32)) + (1 : Int32)))] [(.int (((0 : Int32) + (1 : Int32)) + (1 : Int32))), (.ref b46)]))) (fun t ht => XS.ifNo X82.here hx rfl (hb hby at_181) rfl (XT.i0_eq_f hc181_83) ht) ?_
          refine own_step (U' := (T82.setTop (mkF m 185 #[.val (.int p1), .val (.int p2), .val (.ref b46), .val (.ref r_48), .val (.int (1 : Int32)), .val (.int (((0 : Int32) + (1 : Int32)) + (1 : Int32)))] [(.int (1 : Int32)), (.int (((0 : Int32) + (1 : Int32)) + (1 : Int32))), (.ref b46)]))) (fun t ht => XS.iconst X82.here hx rfl (hb hby at_184) ht) ?_
          refine own_step (U' := (T82.setTop (mkF m 189 #[.val (.int p1), .val (.int p2), .val (.ref b46), .val (.ref r_48), .val (.int (1 : Int32)), .val (.int (((0 : Int32) + (1 : Int32)) + (1 : Int32)))] [(.int (1 : Int32)), (.int (((0 : Int32) + (1 : Int32)) + (1 : Int32))), (.ref b46)]))) (fun t ht => XS.goto X82.here hx rfl (pc0 := 185) (pc' := 189) rfl (hb hby at_185) (by decide) (by decide) ht) ?_
          refine own_step (U' := (T82.setTop (mkF m 190 #[.val (.int p1), .val (.int p2), .val (.ref b46), .val (.ref r_48), .val (.int (1 : Int32)), .val (.int (((0 : Int32) + (1 : Int32)) + (1 : Int32)))] [(.ref r_48), (.int (1 : Int32)), (.int (((0 : Int32) + (1 : Int32)) + (1 : Int32))), (.ref b46)]))) (fun t ht => XS.aloadN X82.here hx rfl (hb hby at_189) rfl rfl ht) ?_
          obtain ⟨_, _, ⟨T86, L86, k86, n86⟩, -, X86, ⟨Lc86, hQ86, l86, y86, z86⟩, st86⟩ := Jvm.LawKit.callS X82 hx (y := (⟨"com/example/call_throttle/callthrottle/KeyQueueIsEmptyPinLaw", "step", "(Lcom/example/call_throttle/callthrottle/KeyQueue;IZLjava/lang/String;)I"⟩ : MethodName)) hown (mvT hZ (hw _ (List.mem_of_getElem? (i := 55) rfl))) (mvT hZ (hw _ (List.mem_of_getElem? (i := 56) rfl))) (mvT hZ (hw _ (List.mem_of_getElem? (i := 57) rfl))) (mvT hZ (hw _ (List.mem_of_getElem? (i := 58) rfl))) (by decide) (backOf (W := 0) (own_m_stA l Z a0 hw [] (b46) (c1_47) (r1_47) (kA_47) ((0 : Int32)) ((((0 : Int32) + (1 : Int32)) + (1 : Int32))) ((((0 : Int64) + (1 : Int64)) + (1 : Int64))) ((([.null, .null, .null, .null].set 0 (.ref r_48)).set 1 (.ref r_48))) ((.ref r_48)) (2) ((((0 : Int32) + (1 : Int32)) + (1 : Int32))) T81.heap n0 (Nat.le_trans Z0 K81.1) g_b46 g_r1_47 p47_0 p47_1 Fq81_0 Fq81_1 Fq81_2 Fq81_3 Fq81_4 Fq81_5 Fq81_6 Fq81_7 Fq81_8 f81_1 p47_2 (by decide) (by decide) (by decide) rfl (Nat.le_of_ble_eq_true rfl)) hZ (hw _ (List.mem_of_getElem? (i := 58) rfl)) (hw _ (List.mem_of_getElem? (i := 57) rfl)) (by decide) (by decide)) (g := (mkF m 190 #[.val (.int p1), .val (.int p2), .val (.ref b46), .val (.ref r_48), .val (.int (1 : Int32)), .val (.int (((0 : Int32) + (1 : Int32)) + (1 : Int32)))] [(.ref r_48), (.int (1 : Int32)), (.int (((0 : Int32) + (1 : Int32)) + (1 : Int32))), (.ref b46)])) rfl (by rw [hml]; rfl) (argsL := [(.ref b46), (.int (((0 : Int32) + (1 : Int32)) + (1 : Int32))), (.int (1 : Int32)), (.ref r_48)]) (rest := []) (lenOf own_pd8 rfl) rfl (by show 2 * 0 + _ ≤ _; exact Nat.le_of_eq rfl) (hb hby at_190) (fun _ _ => ⟨rfl, e82, (by decide : 5 + 0 ≤ _), (by decide : 1036 + 0 ≤ _)⟩)
          dsimp only [Pt.U, Pt.locs, Pt.cells, Pt.slots] at X86 l86 y86 z86 st86 hQ86
          subst l86 y86 z86
          obtain ⟨rfl, Nq86, Kq86, Fq86_0, Fq86_1, Fq86_2, Fq86_3, Fq86_4, Fq86_5, Fq86_6, Fq86_7, Fq86_8⟩ := hQ86
          have N86 := Fr.app N82 Nq86
          have f86_0 : Sta Z T86.heap "java/lang/String" "COMPACT_STRINGS" "Z" (.int cz) := own_sta_keep f81_0 Kq86 (own_plF Fq81_0 (own_plV Fq81_8 own_pl0))
          have f86_1 : own_Key Z T86.heap (.ref r_48) := f81_1.keep Kq86
          have f86_7 : Exa Z T86.heap b46 "com/example/call_throttle/callthrottle/KeyQueue" := Fq81_5.keep Kq86
          have f86_8 : Fld Z T86.heap c1_47 "com/example/call_throttle/callthrottle/KeyQueue$Chunk" "keys" "[Ljava/lang/String;" (.ref r1_47) := Fq81_6.keep Kq86 (ninS (Ne.symm ne_b46_c1_47) (ninS p47_1 nin0))
          have f86_9 : Exa Z T86.heap c1_47 "com/example/call_throttle/callthrottle/KeyQueue$Chunk" := Fq81_7.keep Kq86
          have K86 : Keep h0 T86.heap [] := K81.trans Kq86 (allS (Or.inr sz_b46) (allS (Or.inr sz_r1_47) all0))
          refine own_step (U' := (T86.setTop (mkF m 193 #[.val (.int p1), .val (.int p2), .val (.ref b46), .val (.ref r_48), .val (.int (1 : Int32)), .val (.int (((0 : Int32) + (1 : Int32)) + (1 : Int32)))] [(.int ((((0 : Int32) + (1 : Int32)) + (1 : Int32)) + (1 : Int32)))]))) (fun t ht => st86 _ ht) ?_
          refine own_step (U' := (T86.setTop (mkF m 195 #[.val (.int p1), .val (.int p2), .val (.ref b46), .val (.ref r_48), .val (.int (1 : Int32)), .val (.int ((((0 : Int32) + (1 : Int32)) + (1 : Int32)) + (1 : Int32)))] []))) (fun t ht => XS.istore X86.here hx rfl (hb hby at_193) rfl (l' := #[.val (.int p1), .val (.int p2), .val (.ref b46), .val (.ref r_48), .val (.int (1 : Int32)), .val (.int ((((0 : Int32) + (1 : Int32)) + (1 : Int32)) + (1 : Int32)))]) rfl ht) ?_
          refine own_step (U' := (T86.setTop (mkF m 197 #[.val (.int p1), .val (.int p2), .val (.ref b46), .val (.ref r_48), .val (.int (1 : Int32)), .val (.int ((((0 : Int32) + (1 : Int32)) + (1 : Int32)) + (1 : Int32)))] [(.int (1 : Int32))]))) (fun t ht => XS.iload X86.here hx rfl (hb hby at_195) rfl ht) ?_
          refine own_step (U' := (T86.setTop (mkF m 200 #[.val (.int p1), .val (.int p2), .val (.ref b46), .val (.ref r_48), .val (.int (1 : Int32)), .val (.int ((((0 : Int32) + (1 : Int32)) + (1 : Int32)) + (1 : Int32)))] []))) (fun t ht => XS.ifNo X86.here hx rfl (hb hby at_197) rfl (XT.i0_eq_f ((by decide) : ¬ ((1 : Int32) = 0))) ht) ?_
          refine own_step (U' := (T86.setTop (mkF m 201 #[.val (.int p1), .val (.int p2), .val (.ref b46), .val (.ref r_48), .val (.int (1 : Int32)), .val (.int ((((0 : Int32) + (1 : Int32)) + (1 : Int32)) + (1 : Int32)))] [(.ref b46)]))) (fun t ht => XS.aloadN X86.here hx rfl (hb hby at_200) rfl rfl ht) ?_
          obtain ⟨cq87, kq87, q87a, q87b, q87c⟩ := isOf hZ rfl Fq86_5
          obtain ⟨_, _, ⟨T87, L87, k87, n87⟩, -, X87, ⟨Lc87, hQ87, l87, y87, z87⟩, st87⟩ := X86.virtualBack hx (y := (⟨"com/example/call_throttle/callthrottle/KeyQueue", "isEmpty", "()Z"⟩ : MethodName)) (z := (⟨"com/example/call_throttle/callthrottle/KeyQueue", "isEmpty", "()Z"⟩ : MethodName)) hown (mvT hZ (hw _ (List.mem_of_getElem? (i := 48) rfl))) (mvT hZ (hw _ (List.mem_of_getElem? (i := 49) rfl))) (notFace_of_selects (args := #[]) (mvT hZ (hw _ (List.mem_of_getElem? (i := 51) rfl)))) (mvT hZ (hw _ (List.mem_of_getElem? (i := 51) rfl))) (mvT hZ (hw _ (List.mem_of_getElem? (i := 50) rfl))) (by decide) (backOf (W := 0) (own_m_ie l Z a0 hw [] (b46) (((((0 : Int64) + (1 : Int64)) + (1 : Int64)) + (1 : Int64))) T86.heap n0 (Nat.le_trans Z0 K86.1) Fq86_4) hZ (hw _ (List.mem_of_getElem? (i := 52) rfl)) (hw _ (List.mem_of_getElem? (i := 2) rfl)) (by decide) (by decide)) q87a q87c (g := (mkF m 201 #[.val (.int p1), .val (.int p2), .val (.ref b46), .val (.ref r_48), .val (.int (1 : Int32)), .val (.int ((((0 : Int32) + (1 : Int32)) + (1 : Int32)) + (1 : Int32)))] [(.ref b46)])) rfl (by rw [hml]; rfl) (Steps.refl _) (argsL := []) (rest := []) (lenOf own_pd7 rfl) rfl (by show 2 * 0 + _ ≤ _; exact Nat.le_of_eq rfl) (hb hby at_201) (fun _ _ => ⟨rfl, rfl, (by decide : 5 + 0 ≤ _), (by decide : 1036 + 0 ≤ _)⟩)
          dsimp only [Pt.U, Pt.locs, Pt.cells, Pt.slots] at X87 l87 y87 z87 st87 hQ87
          subst l87 y87 z87
          obtain ⟨rfl, Nq87, Kq87⟩ := hQ87
          have N87 := Fr.app N86 Nq87
          have e87 : T87.heap = T86.heap := Kq87
          refine own_step (U' := (T87.setTop (mkF m 204 #[.val (.int p1), .val (.int p2), .val (.ref b46), .val (.ref r_48), .val (.int (1 : Int32)), .val (.int ((((0 : Int32) + (1 : Int32)) + (1 : Int32)) + (1 : Int32)))] [(.int (own_ie ((((0 : Int64) + (1 : Int64)) + (1 : Int64)) + (1 : Int64))))]))) (fun t ht => st87.trans ht) ?_
          refine own_step (U' := (T87.setTop (mkF m 206 #[.val (.int p1), .val (.int p2), .val (.ref b46), .val (.ref r_48), .val (.int (1 : Int32)), .val (.int ((((0 : Int32) + (1 : Int32)) + (1 : Int32)) + (1 : Int32)))] [(.int ((((0 : Int32) + (1 : Int32)) + (1 : Int32)) + (1 : Int32))), (.int (own_ie ((((0 : Int64) + (1 : Int64)) + (1 : Int64)) + (1 : Int64))))]))) (fun t ht => XS.iload X87.here hx rfl (hb hby at_204) rfl ht) ?_
          refine own_step (U' := (T87.setTop (mkF m 213 #[.val (.int p1), .val (.int p2), .val (.ref b46), .val (.ref r_48), .val (.int (1 : Int32)), .val (.int ((((0 : Int32) + (1 : Int32)) + (1 : Int32)) + (1 : Int32)))] [(.int (own_ie ((((0 : Int64) + (1 : Int64)) + (1 : Int64)) + (1 : Int64))))]))) (fun t ht => XS.ifYes X87.here hx rfl (pc0 := 206) (pc' := 213) rfl (hb hby at_206) rfl (XT.i0_ne_t ((by decide) : ¬ (((((0 : Int32) + (1 : Int32)) + (1 : Int32)) + (1 : Int32)) = 0))) (by decide) (by decide) ht) ?_
          refine own_step (U' := (T87.setTop (mkF m 214 #[.val (.int p1), .val (.int p2), .val (.ref b46), .val (.ref r_48), .val (.int (1 : Int32)), .val (.int ((((0 : Int32) + (1 : Int32)) + (1 : Int32)) + (1 : Int32)))] [(.int (0 : Int32)), (.int (own_ie ((((0 : Int64) + (1 : Int64)) + (1 : Int64)) + (1 : Int64))))]))) (fun t ht => XS.iconst X87.here hx rfl (hb hby at_213) ht) ?_
          refine own_step (U' := (T87.setTop (mkF m 217 #[.val (.int p1), .val (.int p2), .val (.ref b46), .val (.ref r_48), .val (.int (1 : Int32)), .val (.int ((((0 : Int32) + (1 : Int32)) + (1 : Int32)) + (1 : Int32)))] []))) (fun t ht => XS.icmpNo X87.here hx rfl (hb hby at_214) rfl (XT.ii_ne_f ((by decide) : (own_ie ((((0 : Int64) + (1 : Int64)) + (1 : Int64)) + (1 : Int64))) = (0 : Int32))) ht) ?_
          refine own_step (U' := (T87.setTop (mkF m 218 #[.val (.int p1), .val (.int p2), .val (.ref b46), .val (.ref r_48), .val (.int (1 : Int32)), .val (.int ((((0 : Int32) + (1 : Int32)) + (1 : Int32)) + (1 : Int32)))] [(.int (1 : Int32))]))) (fun t ht => XS.iconst X87.here hx rfl (hb hby at_217) ht) ?_
          refine own_step (U' := (T87.setTop (mkF m 222 #[.val (.int p1), .val (.int p2), .val (.ref b46), .val (.ref r_48), .val (.int (1 : Int32)), .val (.int ((((0 : Int32) + (1 : Int32)) + (1 : Int32)) + (1 : Int32)))] [(.int (1 : Int32))]))) (fun t ht => XS.goto X87.here hx rfl (pc0 := 218) (pc' := 222) rfl (hb hby at_218) (by decide) (by decide) ht) ?_
          refine own_step (U' := (T87.setTop (mkF m 224 #[.val (.int p1), .val (.int p2), .val (.ref b46), .val (.ref r_48), .val (.int (1 : Int32)), .val (.int ((((0 : Int32) + (1 : Int32)) + (1 : Int32)) + (1 : Int32)))] []))) (fun t ht => XS.istore X87.here hx rfl (hb hby at_222) rfl (l' := #[.val (.int p1), .val (.int p2), .val (.ref b46), .val (.ref r_48), .val (.int (1 : Int32)), .val (.int ((((0 : Int32) + (1 : Int32)) + (1 : Int32)) + (1 : Int32)))]) rfl ht) ?_
          refine own_step (U' := (T87.setTop (mkF m 226 #[.val (.int p1), .val (.int p2), .val (.ref b46), .val (.ref r_48), .val (.int (1 : Int32)), .val (.int ((((0 : Int32) + (1 : Int32)) + (1 : Int32)) + (1 : Int32)))] [(.int (1 : Int32))]))) (fun t ht => XS.iload X87.here hx rfl (hb hby at_224) rfl ht) ?_
          refine own_ret X87 (v := (some (.int (nar .boolean (1 : Int32))))) (fun h => by rw [Bd.returns] at h; cases h) Bd.notSynchronized (by decide) (by decide) ?_ (fun fs hr => retN X87 hx (t := .boolean) Bd.returns (by simp) (hb hby at_226) hr)
          show own_Q_law Z p1 p2 cz h0 n0 _ T87.heap _
          rw [e87]
          exact ⟨rfl, N87⟩
  ·
    refine own_step (U' := (T49.setTop (mkF m 36 #[.val (.int p1), .val (.int p2), .val (.ref b46), .val (.ref r_48), .val (.int (own_ie (0 : Int64))), .val (.int (0 : Int32))] [(.int (0 : Int32)), (.ref b46)]))) (fun t ht => XS.ifNo X49.here hx rfl (hb hby at_33) rfl (XT.i0_eq_f hc33_50) ht) ?_
    refine own_step (U' := (T49.setTop (mkF m 37 #[.val (.int p1), .val (.int p2), .val (.ref b46), .val (.ref r_48), .val (.int (own_ie (0 : Int64))), .val (.int (0 : Int32))] [(.int (1 : Int32)), (.int (0 : Int32)), (.ref b46)]))) (fun t ht => XS.iconst X49.here hx rfl (hb hby at_36) ht) ?_
    refine own_step (U' := (T49.setTop (mkF m 41 #[.val (.int p1), .val (.int p2), .val (.ref b46), .val (.ref r_48), .val (.int (own_ie (0 : Int64))), .val (.int (0 : Int32))] [(.int (1 : Int32)), (.int (0 : Int32)), (.ref b46)]))) (fun t ht => XS.goto X49.here hx rfl (pc0 := 37) (pc' := 41) rfl (hb hby at_37) (by decide) (by decide) ht) ?_
    refine own_step (U' := (T49.setTop (mkF m 42 #[.val (.int p1), .val (.int p2), .val (.ref b46), .val (.ref r_48), .val (.int (own_ie (0 : Int64))), .val (.int (0 : Int32))] [(.ref r_48), (.int (1 : Int32)), (.int (0 : Int32)), (.ref b46)]))) (fun t ht => XS.aloadN X49.here hx rfl (hb hby at_41) rfl rfl ht) ?_
    obtain ⟨_, _, ⟨T88, L88, k88, n88⟩, -, X88, ⟨Lc88, hQ88, l88, y88, z88⟩, st88⟩ := Jvm.LawKit.callS X49 hx (y := (⟨"com/example/call_throttle/callthrottle/KeyQueueIsEmptyPinLaw", "step", "(Lcom/example/call_throttle/callthrottle/KeyQueue;IZLjava/lang/String;)I"⟩ : MethodName)) hown (mvT hZ (hw _ (List.mem_of_getElem? (i := 55) rfl))) (mvT hZ (hw _ (List.mem_of_getElem? (i := 56) rfl))) (mvT hZ (hw _ (List.mem_of_getElem? (i := 57) rfl))) (mvT hZ (hw _ (List.mem_of_getElem? (i := 58) rfl))) (by decide) (backOf (W := 0) (own_m_stA l Z a0 hw [] (b46) (c1_47) (r1_47) (kA_47) ((0 : Int32)) ((0 : Int32)) ((0 : Int64)) ([.null, .null, .null, .null]) ((.ref r_48)) (0) ((0 : Int32)) T48.heap n0 (Nat.le_trans Z0 K48.1) g_b46 g_r1_47 p47_0 p47_1 f48_1 f48_2 f48_3 f48_4 f48_5 f48_6 f48_7 f48_8 f48_9 ky48 p47_2 (by decide) (by decide) (by decide) rfl (Nat.le_of_ble_eq_true rfl)) hZ (hw _ (List.mem_of_getElem? (i := 58) rfl)) (hw _ (List.mem_of_getElem? (i := 57) rfl)) (by decide) (by decide)) (g := (mkF m 42 #[.val (.int p1), .val (.int p2), .val (.ref b46), .val (.ref r_48), .val (.int (own_ie (0 : Int64))), .val (.int (0 : Int32))] [(.ref r_48), (.int (1 : Int32)), (.int (0 : Int32)), (.ref b46)])) rfl (by rw [hml]; rfl) (argsL := [(.ref b46), (.int (0 : Int32)), (.int (1 : Int32)), (.ref r_48)]) (rest := []) (lenOf own_pd8 rfl) rfl (by show 2 * 0 + _ ≤ _; exact Nat.le_of_eq rfl) (hb hby at_42) (fun _ _ => ⟨rfl, e49, (by decide : 5 + 0 ≤ _), (by decide : 1036 + 0 ≤ _)⟩)
    dsimp only [Pt.U, Pt.locs, Pt.cells, Pt.slots] at X88 l88 y88 z88 st88 hQ88
    subst l88 y88 z88
    obtain ⟨rfl, Nq88, Kq88, Fq88_0, Fq88_1, Fq88_2, Fq88_3, Fq88_4, Fq88_5, Fq88_6, Fq88_7, Fq88_8⟩ := hQ88
    have N88 := Fr.app N49 Nq88
    have f88_0 : Sta Z T88.heap "java/lang/String" "COMPACT_STRINGS" "Z" (.int cz) := own_sta_keep f48_0 Kq88 (own_plF f48_1 (own_plV f48_9 own_pl0))
    have f88_6 : Exa Z T88.heap b46 "com/example/call_throttle/callthrottle/KeyQueue" := f48_6.keep Kq88
    have f88_7 : Fld Z T88.heap c1_47 "com/example/call_throttle/callthrottle/KeyQueue$Chunk" "keys" "[Ljava/lang/String;" (.ref r1_47) := f48_7.keep Kq88 (ninS (Ne.symm ne_b46_c1_47) (ninS p47_1 nin0))
    have f88_8 : Exa Z T88.heap c1_47 "com/example/call_throttle/callthrottle/KeyQueue$Chunk" := f48_8.keep Kq88
    have f88_10 : own_Key Z T88.heap (.ref r_48) := ky48.keep Kq88
    have K88 : Keep h0 T88.heap [] := K48.trans Kq88 (allS (Or.inr sz_b46) (allS (Or.inr sz_r1_47) all0))
    refine own_step (U' := (T88.setTop (mkF m 45 #[.val (.int p1), .val (.int p2), .val (.ref b46), .val (.ref r_48), .val (.int (own_ie (0 : Int64))), .val (.int (0 : Int32))] [(.int ((0 : Int32) + (1 : Int32)))]))) (fun t ht => st88 _ ht) ?_
    refine own_step (U' := (T88.setTop (mkF m 47 #[.val (.int p1), .val (.int p2), .val (.ref b46), .val (.ref r_48), .val (.int (own_ie (0 : Int64))), .val (.int ((0 : Int32) + (1 : Int32)))] []))) (fun t ht => XS.istore X88.here hx rfl (hb hby at_45) rfl (l' := #[.val (.int p1), .val (.int p2), .val (.ref b46), .val (.ref r_48), .val (.int (own_ie (0 : Int64))), .val (.int ((0 : Int32) + (1 : Int32)))]) rfl ht) ?_
    refine own_step (U' := (T88.setTop (mkF m 49 #[.val (.int p1), .val (.int p2), .val (.ref b46), .val (.ref r_48), .val (.int (own_ie (0 : Int64))), .val (.int ((0 : Int32) + (1 : Int32)))] [(.int (own_ie (0 : Int64)))]))) (fun t ht => XS.iload X88.here hx rfl (hb hby at_47) rfl ht) ?_
    refine own_step (U' := (T88.setTop (mkF m 52 #[.val (.int p1), .val (.int p2), .val (.ref b46), .val (.ref r_48), .val (.int (own_ie (0 : Int64))), .val (.int ((0 : Int32) + (1 : Int32)))] []))) (fun t ht => XS.ifNo X88.here hx rfl (hb hby at_49) rfl (XT.i0_eq_f ((by decide) : ¬ ((own_ie (0 : Int64)) = 0))) ht) ?_
    refine own_step (U' := (T88.setTop (mkF m 53 #[.val (.int p1), .val (.int p2), .val (.ref b46), .val (.ref r_48), .val (.int (own_ie (0 : Int64))), .val (.int ((0 : Int32) + (1 : Int32)))] [(.ref b46)]))) (fun t ht => XS.aloadN X88.here hx rfl (hb hby at_52) rfl rfl ht) ?_
    obtain ⟨cq89, kq89, q89a, q89b, q89c⟩ := isOf hZ rfl Fq88_5
    obtain ⟨_, _, ⟨T89, L89, k89, n89⟩, -, X89, ⟨Lc89, hQ89, l89, y89, z89⟩, st89⟩ := X88.virtualBack hx (y := (⟨"com/example/call_throttle/callthrottle/KeyQueue", "isEmpty", "()Z"⟩ : MethodName)) (z := (⟨"com/example/call_throttle/callthrottle/KeyQueue", "isEmpty", "()Z"⟩ : MethodName)) hown (mvT hZ (hw _ (List.mem_of_getElem? (i := 48) rfl))) (mvT hZ (hw _ (List.mem_of_getElem? (i := 49) rfl))) (notFace_of_selects (args := #[]) (mvT hZ (hw _ (List.mem_of_getElem? (i := 51) rfl)))) (mvT hZ (hw _ (List.mem_of_getElem? (i := 51) rfl))) (mvT hZ (hw _ (List.mem_of_getElem? (i := 50) rfl))) (by decide) (backOf (W := 0) (own_m_ie l Z a0 hw [] (b46) (((0 : Int64) + (1 : Int64))) T88.heap n0 (Nat.le_trans Z0 K88.1) Fq88_4) hZ (hw _ (List.mem_of_getElem? (i := 52) rfl)) (hw _ (List.mem_of_getElem? (i := 2) rfl)) (by decide) (by decide)) q89a q89c (g := (mkF m 53 #[.val (.int p1), .val (.int p2), .val (.ref b46), .val (.ref r_48), .val (.int (own_ie (0 : Int64))), .val (.int ((0 : Int32) + (1 : Int32)))] [(.ref b46)])) rfl (by rw [hml]; rfl) (Steps.refl _) (argsL := []) (rest := []) (lenOf own_pd7 rfl) rfl (by show 2 * 0 + _ ≤ _; exact Nat.le_of_eq rfl) (hb hby at_53) (fun _ _ => ⟨rfl, rfl, (by decide : 5 + 0 ≤ _), (by decide : 1036 + 0 ≤ _)⟩)
    dsimp only [Pt.U, Pt.locs, Pt.cells, Pt.slots] at X89 l89 y89 z89 st89 hQ89
    subst l89 y89 z89
    obtain ⟨rfl, Nq89, Kq89⟩ := hQ89
    have N89 := Fr.app N88 Nq89
    have e89 : T89.heap = T88.heap := Kq89
    refine own_step (U' := (T89.setTop (mkF m 56 #[.val (.int p1), .val (.int p2), .val (.ref b46), .val (.ref r_48), .val (.int (own_ie (0 : Int64))), .val (.int ((0 : Int32) + (1 : Int32)))] [(.int (own_ie ((0 : Int64) + (1 : Int64))))]))) (fun t ht => st89.trans ht) ?_
    refine own_step (U' := (T89.setTop (mkF m 58 #[.val (.int p1), .val (.int p2), .val (.ref b46), .val (.ref r_48), .val (.int (own_ie (0 : Int64))), .val (.int ((0 : Int32) + (1 : Int32)))] [(.int ((0 : Int32) + (1 : Int32))), (.int (own_ie ((0 : Int64) + (1 : Int64))))]))) (fun t ht => XS.iload X89.here hx rfl (hb hby at_56) rfl ht) ?_
    refine own_step (U' := (T89.setTop (mkF m 65 #[.val (.int p1), .val (.int p2), .val (.ref b46), .val (.ref r_48), .val (.int (own_ie (0 : Int64))), .val (.int ((0 : Int32) + (1 : Int32)))] [(.int (own_ie ((0 : Int64) + (1 : Int64))))]))) (fun t ht => XS.ifYes X89.here hx rfl (pc0 := 58) (pc' := 65) rfl (hb hby at_58) rfl (XT.i0_ne_t ((by decide) : ¬ (((0 : Int32) + (1 : Int32)) = 0))) (by decide) (by decide) ht) ?_
    refine own_step (U' := (T89.setTop (mkF m 66 #[.val (.int p1), .val (.int p2), .val (.ref b46), .val (.ref r_48), .val (.int (own_ie (0 : Int64))), .val (.int ((0 : Int32) + (1 : Int32)))] [(.int (0 : Int32)), (.int (own_ie ((0 : Int64) + (1 : Int64))))]))) (fun t ht => XS.iconst X89.here hx rfl (hb hby at_65) ht) ?_
    refine own_step (U' := (T89.setTop (mkF m 69 #[.val (.int p1), .val (.int p2), .val (.ref b46), .val (.ref r_48), .val (.int (own_ie (0 : Int64))), .val (.int ((0 : Int32) + (1 : Int32)))] []))) (fun t ht => XS.icmpNo X89.here hx rfl (hb hby at_66) rfl (XT.ii_ne_f ((by decide) : (own_ie ((0 : Int64) + (1 : Int64))) = (0 : Int32))) ht) ?_
    refine own_step (U' := (T89.setTop (mkF m 70 #[.val (.int p1), .val (.int p2), .val (.ref b46), .val (.ref r_48), .val (.int (own_ie (0 : Int64))), .val (.int ((0 : Int32) + (1 : Int32)))] [(.int (1 : Int32))]))) (fun t ht => XS.iconst X89.here hx rfl (hb hby at_69) ht) ?_
    refine own_step (U' := (T89.setTop (mkF m 74 #[.val (.int p1), .val (.int p2), .val (.ref b46), .val (.ref r_48), .val (.int (own_ie (0 : Int64))), .val (.int ((0 : Int32) + (1 : Int32)))] [(.int (1 : Int32))]))) (fun t ht => XS.goto X89.here hx rfl (pc0 := 70) (pc' := 74) rfl (hb hby at_70) (by decide) (by decide) ht) ?_
    refine own_step (U' := (T89.setTop (mkF m 76 #[.val (.int p1), .val (.int p2), .val (.ref b46), .val (.ref r_48), .val (.int (1 : Int32)), .val (.int ((0 : Int32) + (1 : Int32)))] []))) (fun t ht => XS.istore X89.here hx rfl (hb hby at_74) rfl (l' := #[.val (.int p1), .val (.int p2), .val (.ref b46), .val (.ref r_48), .val (.int (1 : Int32)), .val (.int ((0 : Int32) + (1 : Int32)))]) rfl ht) ?_
    refine own_step (U' := (T89.setTop (mkF m 77 #[.val (.int p1), .val (.int p2), .val (.ref b46), .val (.ref r_48), .val (.int (1 : Int32)), .val (.int ((0 : Int32) + (1 : Int32)))] [(.ref b46)]))) (fun t ht => XS.aloadN X89.here hx rfl (hb hby at_76) rfl rfl ht) ?_
    refine own_step (U' := (T89.setTop (mkF m 79 #[.val (.int p1), .val (.int p2), .val (.ref b46), .val (.ref r_48), .val (.int (1 : Int32)), .val (.int ((0 : Int32) + (1 : Int32)))] [(.int ((0 : Int32) + (1 : Int32))), (.ref b46)]))) (fun t ht => XS.iload X89.here hx rfl (hb hby at_77) rfl ht) ?_
    refine own_step (U' := (T89.setTop (mkF m 80 #[.val (.int p1), .val (.int p2), .val (.ref b46), .val (.ref r_48), .val (.int (1 : Int32)), .val (.int ((0 : Int32) + (1 : Int32)))] [(.int p1), (.int ((0 : Int32) + (1 : Int32))), (.ref b46)]))) (fun t ht => XS.iloadN X89.here hx rfl (hb hby at_79) rfl ht) ?_
    refine own_step (U' := (T89.setTop (mkF m 81 #[.val (.int p1), .val (.int p2), .val (.ref b46), .val (.ref r_48), .val (.int (1 : Int32)), .val (.int ((0 : Int32) + (1 : Int32)))] [(.int (2 : Int32)), (.int p1), (.int ((0 : Int32) + (1 : Int32))), (.ref b46)]))) (fun t ht => XS.iconst X89.here hx rfl (hb hby at_80) ht) ?_
    refine own_step (U' := (T89.setTop (mkF m 82 #[.val (.int p1), .val (.int p2), .val (.ref b46), .val (.ref r_48), .val (.int (1 : Int32)), .val (.int ((0 : Int32) + (1 : Int32)))] [(.int (p1 &&& (2 : Int32))), (.int ((0 : Int32) + (1 : Int32))), (.ref b46)]))) (fun t ht => XS.iand X89.here hx rfl (hb hby at_81) rfl ht) ?_
    by_cases hc82_90 : (p1 &&& (2 : Int32)) = 0
    ·
      refine own_step (U' := (T89.setTop (mkF m 89 #[.val (.int p1), .val (.int p2), .val (.ref b46), .val (.ref r_48), .val (.int (1 : Int32)), .val (.int ((0 : Int32) + (1 : Int32)))] [(.int ((0 : Int32) + (1 : Int32))), (.ref b46)]))) (fun t ht => XS.ifYes X89.here hx rfl (pc0 := 82) (pc' := 89) rfl (hb hby at_82) rfl (XT.i0_eq_t hc82_90) (by decide) (by decide) ht) ?_
      refine own_step (U' := (T89.setTop (mkF m 90 #[.val (.int p1), .val (.int p2), .val (.ref b46), .val (.ref r_48), .val (.int (1 : Int32)), .val (.int ((0 : Int32) + (1 : Int32)))] [(.int (0 : Int32)), (.int ((0 : Int32) + (1 : Int32))), (.ref b46)]))) (fun t ht => XS.iconst X89.here hx rfl (hb hby at_89) ht) ?_
      refine own_step (U' := (T89.setTop (mkF m 91 #[.val (.int p1), .val (.int p2), .val (.ref b46), .val (.ref r_48), .val (.int (1 : Int32)), .val (.int ((0 : Int32) + (1 : Int32)))] [(.ref r_48), (.int (0 : Int32)), (.int ((0 : Int32) + (1 : Int32))), (.ref b46)]))) (fun t ht => XS.aloadN X89.here hx rfl (hb hby at_90) rfl rfl ht) ?_
      obtain ⟨_, _, ⟨T91, L91, k91, n91⟩, -, X91, ⟨Lc91, hQ91, l91, y91, z91⟩, st91⟩ := Jvm.LawKit.callS X89 hx (y := (⟨"com/example/call_throttle/callthrottle/KeyQueueIsEmptyPinLaw", "step", "(Lcom/example/call_throttle/callthrottle/KeyQueue;IZLjava/lang/String;)I"⟩ : MethodName)) hown (mvT hZ (hw _ (List.mem_of_getElem? (i := 55) rfl))) (mvT hZ (hw _ (List.mem_of_getElem? (i := 56) rfl))) (mvT hZ (hw _ (List.mem_of_getElem? (i := 57) rfl))) (mvT hZ (hw _ (List.mem_of_getElem? (i := 58) rfl))) (by decide) (backOf (W := 0) (own_m_stR l Z a0 hw [] (b46) (c1_47) (r1_47) (kA_47) ((0 : Int32)) (((0 : Int32) + (1 : Int32))) (((0 : Int64) + (1 : Int64))) (([.null, .null, .null, .null].set 0 (.ref r_48))) ((.ref r_48)) ((.ref r_48)) (0) (((0 : Int32) + (1 : Int32))) T88.heap n0 (Nat.le_trans Z0 K88.1) g_b46 g_r1_47 p47_0 p47_1 Fq88_0 Fq88_1 Fq88_2 Fq88_3 Fq88_4 Fq88_5 Fq88_6 Fq88_7 Fq88_8 (by decide) (by decide) (by decide) (by decide) rfl (Nat.le_of_ble_eq_true rfl) rfl rfl rfl (by decide)) hZ (hw _ (List.mem_of_getElem? (i := 58) rfl)) (hw _ (List.mem_of_getElem? (i := 57) rfl)) (by decide) (by decide)) (g := (mkF m 91 #[.val (.int p1), .val (.int p2), .val (.ref b46), .val (.ref r_48), .val (.int (1 : Int32)), .val (.int ((0 : Int32) + (1 : Int32)))] [(.ref r_48), (.int (0 : Int32)), (.int ((0 : Int32) + (1 : Int32))), (.ref b46)])) rfl (by rw [hml]; rfl) (argsL := [(.ref b46), (.int ((0 : Int32) + (1 : Int32))), (.int (0 : Int32)), (.ref r_48)]) (rest := []) (lenOf own_pd8 rfl) rfl (by show 2 * 0 + _ ≤ _; exact Nat.le_of_eq rfl) (hb hby at_91) (fun _ _ => ⟨rfl, e89, (by decide : 5 + 0 ≤ _), (by decide : 1036 + 0 ≤ _)⟩)
      dsimp only [Pt.U, Pt.locs, Pt.cells, Pt.slots] at X91 l91 y91 z91 st91 hQ91
      subst l91 y91 z91
      obtain ⟨rfl, Nq91, Kq91, Fq91_0, Fq91_1, Fq91_2, Fq91_3, Fq91_4, Fq91_5, Fq91_6, Fq91_7, Fq91_8⟩ := hQ91
      have N91 := Fr.app N89 Nq91
      have f91_0 : Sta Z T91.heap "java/lang/String" "COMPACT_STRINGS" "Z" (.int cz) := own_sta_keep f88_0 Kq91 (own_plF Fq88_0 (own_plV Fq88_8 own_pl0))
      have f91_1 : own_Key Z T91.heap (.ref r_48) := f88_10.keep Kq91
      have f91_7 : Exa Z T91.heap b46 "com/example/call_throttle/callthrottle/KeyQueue" := Fq88_5.keep Kq91
      have f91_8 : Fld Z T91.heap c1_47 "com/example/call_throttle/callthrottle/KeyQueue$Chunk" "keys" "[Ljava/lang/String;" (.ref r1_47) := Fq88_6.keep Kq91 (ninS (Ne.symm ne_b46_c1_47) (ninS p47_1 nin0))
      have f91_9 : Exa Z T91.heap c1_47 "com/example/call_throttle/callthrottle/KeyQueue$Chunk" := Fq88_7.keep Kq91
      have K91 : Keep h0 T91.heap [] := K88.trans Kq91 (allS (Or.inr sz_b46) (allS (Or.inr sz_r1_47) all0))
      refine own_step (U' := (T91.setTop (mkF m 94 #[.val (.int p1), .val (.int p2), .val (.ref b46), .val (.ref r_48), .val (.int (1 : Int32)), .val (.int ((0 : Int32) + (1 : Int32)))] [(.int (((0 : Int32) + (1 : Int32)) - (1 : Int32)))]))) (fun t ht => st91 _ ht) ?_
      refine own_step (U' := (T91.setTop (mkF m 96 #[.val (.int p1), .val (.int p2), .val (.ref b46), .val (.ref r_48), .val (.int (1 : Int32)), .val (.int (((0 : Int32) + (1 : Int32)) - (1 : Int32)))] []))) (fun t ht => XS.istore X91.here hx rfl (hb hby at_94) rfl (l' := #[.val (.int p1), .val (.int p2), .val (.ref b46), .val (.ref r_48), .val (.int (1 : Int32)), .val (.int (((0 : Int32) + (1 : Int32)) - (1 : Int32)))]) rfl ht) ?_
      refine own_step (U' := (T91.setTop (mkF m 98 #[.val (.int p1), .val (.int p2), .val (.ref b46), .val (.ref r_48), .val (.int (1 : Int32)), .val (.int (((0 : Int32) + (1 : Int32)) - (1 : Int32)))] [(.int (1 : Int32))]))) (fun t ht => XS.iload X91.here hx rfl (hb hby at_96) rfl ht) ?_
      refine own_step (U' := (T91.setTop (mkF m 101 #[.val (.int p1), .val (.int p2), .val (.ref b46), .val (.ref r_48), .val (.int (1 : Int32)), .val (.int (((0 : Int32) + (1 : Int32)) - (1 : Int32)))] []))) (fun t ht => XS.ifNo X91.here hx rfl (hb hby at_98) rfl (XT.i0_eq_f ((by decide) : ¬ ((1 : Int32) = 0))) ht) ?_
      refine own_step (U' := (T91.setTop (mkF m 102 #[.val (.int p1), .val (.int p2), .val (.ref b46), .val (.ref r_48), .val (.int (1 : Int32)), .val (.int (((0 : Int32) + (1 : Int32)) - (1 : Int32)))] [(.ref b46)]))) (fun t ht => XS.aloadN X91.here hx rfl (hb hby at_101) rfl rfl ht) ?_
      obtain ⟨cq92, kq92, q92a, q92b, q92c⟩ := isOf hZ rfl Fq91_5
      obtain ⟨_, _, ⟨T92, L92, k92, n92⟩, -, X92, ⟨Lc92, hQ92, l92, y92, z92⟩, st92⟩ := X91.virtualBack hx (y := (⟨"com/example/call_throttle/callthrottle/KeyQueue", "isEmpty", "()Z"⟩ : MethodName)) (z := (⟨"com/example/call_throttle/callthrottle/KeyQueue", "isEmpty", "()Z"⟩ : MethodName)) hown (mvT hZ (hw _ (List.mem_of_getElem? (i := 48) rfl))) (mvT hZ (hw _ (List.mem_of_getElem? (i := 49) rfl))) (notFace_of_selects (args := #[]) (mvT hZ (hw _ (List.mem_of_getElem? (i := 51) rfl)))) (mvT hZ (hw _ (List.mem_of_getElem? (i := 51) rfl))) (mvT hZ (hw _ (List.mem_of_getElem? (i := 50) rfl))) (by decide) (backOf (W := 0) (own_m_ie l Z a0 hw [] (b46) ((((0 : Int64) + (1 : Int64)) - (1 : Int64))) T91.heap n0 (Nat.le_trans Z0 K91.1) Fq91_4) hZ (hw _ (List.mem_of_getElem? (i := 52) rfl)) (hw _ (List.mem_of_getElem? (i := 2) rfl)) (by decide) (by decide)) q92a q92c (g := (mkF m 102 #[.val (.int p1), .val (.int p2), .val (.ref b46), .val (.ref r_48), .val (.int (1 : Int32)), .val (.int (((0 : Int32) + (1 : Int32)) - (1 : Int32)))] [(.ref b46)])) rfl (by rw [hml]; rfl) (Steps.refl _) (argsL := []) (rest := []) (lenOf own_pd7 rfl) rfl (by show 2 * 0 + _ ≤ _; exact Nat.le_of_eq rfl) (hb hby at_102) (fun _ _ => ⟨rfl, rfl, (by decide : 5 + 0 ≤ _), (by decide : 1036 + 0 ≤ _)⟩)
      dsimp only [Pt.U, Pt.locs, Pt.cells, Pt.slots] at X92 l92 y92 z92 st92 hQ92
      subst l92 y92 z92
      obtain ⟨rfl, Nq92, Kq92⟩ := hQ92
      have N92 := Fr.app N91 Nq92
      have e92 : T92.heap = T91.heap := Kq92
      refine own_step (U' := (T92.setTop (mkF m 105 #[.val (.int p1), .val (.int p2), .val (.ref b46), .val (.ref r_48), .val (.int (1 : Int32)), .val (.int (((0 : Int32) + (1 : Int32)) - (1 : Int32)))] [(.int (own_ie (((0 : Int64) + (1 : Int64)) - (1 : Int64))))]))) (fun t ht => st92.trans ht) ?_
      refine own_step (U' := (T92.setTop (mkF m 107 #[.val (.int p1), .val (.int p2), .val (.ref b46), .val (.ref r_48), .val (.int (1 : Int32)), .val (.int (((0 : Int32) + (1 : Int32)) - (1 : Int32)))] [(.int (((0 : Int32) + (1 : Int32)) - (1 : Int32))), (.int (own_ie (((0 : Int64) + (1 : Int64)) - (1 : Int64))))]))) (fun t ht => XS.iload X92.here hx rfl (hb hby at_105) rfl ht) ?_
      refine own_step (U' := (T92.setTop (mkF m 110 #[.val (.int p1), .val (.int p2), .val (.ref b46), .val (.ref r_48), .val (.int (1 : Int32)), .val (.int (((0 : Int32) + (1 : Int32)) - (1 : Int32)))] [(.int (own_ie (((0 : Int64) + (1 : Int64)) - (1 : Int64))))]))) (fun t ht => XS.ifNo X92.here hx rfl (hb hby at_107) rfl (XT.i0_ne_f ((by decide) : (((0 : Int32) + (1 : Int32)) - (1 : Int32)) = 0)) ht) ?_
      refine own_step (U' := (T92.setTop (mkF m 111 #[.val (.int p1), .val (.int p2), .val (.ref b46), .val (.ref r_48), .val (.int (1 : Int32)), .val (.int (((0 : Int32) + (1 : Int32)) - (1 : Int32)))] [(.int (1 : Int32)), (.int (own_ie (((0 : Int64) + (1 : Int64)) - (1 : Int64))))]))) (fun t ht => XS.iconst X92.here hx rfl (hb hby at_110) ht) ?_
      refine own_step (U' := (T92.setTop (mkF m 115 #[.val (.int p1), .val (.int p2), .val (.ref b46), .val (.ref r_48), .val (.int (1 : Int32)), .val (.int (((0 : Int32) + (1 : Int32)) - (1 : Int32)))] [(.int (1 : Int32)), (.int (own_ie (((0 : Int64) + (1 : Int64)) - (1 : Int64))))]))) (fun t ht => XS.goto X92.here hx rfl (pc0 := 111) (pc' := 115) rfl (hb hby at_111) (by decide) (by decide) ht) ?_
      refine own_step (U' := (T92.setTop (mkF m 118 #[.val (.int p1), .val (.int p2), .val (.ref b46), .val (.ref r_48), .val (.int (1 : Int32)), .val (.int (((0 : Int32) + (1 : Int32)) - (1 : Int32)))] []))) (fun t ht => XS.icmpNo X92.here hx rfl (hb hby at_115) rfl (XT.ii_ne_f ((by decide) : (own_ie (((0 : Int64) + (1 : Int64)) - (1 : Int64))) = (1 : Int32))) ht) ?_
      refine own_step (U' := (T92.setTop (mkF m 119 #[.val (.int p1), .val (.int p2), .val (.ref b46), .val (.ref r_48), .val (.int (1 : Int32)), .val (.int (((0 : Int32) + (1 : Int32)) - (1 : Int32)))] [(.int (1 : Int32))]))) (fun t ht => XS.iconst X92.here hx rfl (hb hby at_118) ht) ?_
      refine own_step (U' := (T92.setTop (mkF m 123 #[.val (.int p1), .val (.int p2), .val (.ref b46), .val (.ref r_48), .val (.int (1 : Int32)), .val (.int (((0 : Int32) + (1 : Int32)) - (1 : Int32)))] [(.int (1 : Int32))]))) (fun t ht => XS.goto X92.here hx rfl (pc0 := 119) (pc' := 123) rfl (hb hby at_119) (by decide) (by decide) ht) ?_
      refine own_step (U' := (T92.setTop (mkF m 125 #[.val (.int p1), .val (.int p2), .val (.ref b46), .val (.ref r_48), .val (.int (1 : Int32)), .val (.int (((0 : Int32) + (1 : Int32)) - (1 : Int32)))] []))) (fun t ht => XS.istore X92.here hx rfl (hb hby at_123) rfl (l' := #[.val (.int p1), .val (.int p2), .val (.ref b46), .val (.ref r_48), .val (.int (1 : Int32)), .val (.int (((0 : Int32) + (1 : Int32)) - (1 : Int32)))]) rfl ht) ?_
      refine own_step (U' := (T92.setTop (mkF m 126 #[.val (.int p1), .val (.int p2), .val (.ref b46), .val (.ref r_48), .val (.int (1 : Int32)), .val (.int (((0 : Int32) + (1 : Int32)) - (1 : Int32)))] [(.ref b46)]))) (fun t ht => XS.aloadN X92.here hx rfl (hb hby at_125) rfl rfl ht) ?_
      refine own_step (U' := (T92.setTop (mkF m 128 #[.val (.int p1), .val (.int p2), .val (.ref b46), .val (.ref r_48), .val (.int (1 : Int32)), .val (.int (((0 : Int32) + (1 : Int32)) - (1 : Int32)))] [(.int (((0 : Int32) + (1 : Int32)) - (1 : Int32))), (.ref b46)]))) (fun t ht => XS.iload X92.here hx rfl (hb hby at_126) rfl ht) ?_
      refine own_step (U' := (T92.setTop (mkF m 129 #[.val (.int p1), .val (.int p2), .val (.ref b46), .val (.ref r_48), .val (.int (1 : Int32)), .val (.int (((0 : Int32) + (1 : Int32)) - (1 : Int32)))] [(.int p1), (.int (((0 : Int32) + (1 : Int32)) - (1 : Int32))), (.ref b46)]))) (fun t ht => XS.iloadN X92.here hx rfl (hb hby at_128) rfl ht) ?_
      refine own_step (U' := (T92.setTop (mkF m 130 #[.val (.int p1), .val (.int p2), .val (.ref b46), .val (.ref r_48), .val (.int (1 : Int32)), .val (.int (((0 : Int32) + (1 : Int32)) - (1 : Int32)))] [(.int (4 : Int32)), (.int p1), (.int (((0 : Int32) + (1 : Int32)) - (1 : Int32))), (.ref b46)]))) (fun t ht => XS.iconst X92.here hx rfl (hb hby at_129) ht) ?_
      refine own_step (U' := (T92.setTop (mkF m 131 #[.val (.int p1), .val (.int p2), .val (.ref b46), .val (.ref r_48), .val (.int (1 : Int32)), .val (.int (((0 : Int32) + (1 : Int32)) - (1 : Int32)))] [(.int (p1 &&& (4 : Int32))), (.int (((0 : Int32) + (1 : Int32)) - (1 : Int32))), (.ref b46)]))) (fun t ht => XS.iand X92.here hx rfl (hb hby at_130) rfl ht) ?_
      by_cases hc131_93 : (p1 &&& (4 : Int32)) = 0
      ·
        refine own_step (U' := (T92.setTop (mkF m 138 #[.val (.int p1), .val (.int p2), .val (.ref b46), .val (.ref r_48), .val (.int (1 : Int32)), .val (.int (((0 : Int32) + (1 : Int32)) - (1 : Int32)))] [(.int (((0 : Int32) + (1 : Int32)) - (1 : Int32))), (.ref b46)]))) (fun t ht => XS.ifYes X92.here hx rfl (pc0 := 131) (pc' := 138) rfl (hb hby at_131) rfl (XT.i0_eq_t hc131_93) (by decide) (by decide) ht) ?_
        refine own_step (U' := (T92.setTop (mkF m 139 #[.val (.int p1), .val (.int p2), .val (.ref b46), .val (.ref r_48), .val (.int (1 : Int32)), .val (.int (((0 : Int32) + (1 : Int32)) - (1 : Int32)))] [(.int (0 : Int32)), (.int (((0 : Int32) + (1 : Int32)) - (1 : Int32))), (.ref b46)]))) (fun t ht => XS.iconst X92.here hx rfl (hb hby at_138) ht) ?_
        refine own_step (U' := (T92.setTop (mkF m 140 #[.val (.int p1), .val (.int p2), .val (.ref b46), .val (.ref r_48), .val (.int (1 : Int32)), .val (.int (((0 : Int32) + (1 : Int32)) - (1 : Int32)))] [(.ref r_48), (.int (0 : Int32)), (.int (((0 : Int32) + (1 : Int32)) - (1 : Int32))), (.ref b46)]))) (fun t ht => XS.aloadN X92.here hx rfl (hb hby at_139) rfl rfl ht) ?_
        obtain ⟨_, _, ⟨T94, L94, k94, n94⟩, -, X94, ⟨Lc94, hQ94, l94, y94, z94⟩, st94⟩ := Jvm.LawKit.callS X92 hx (y := (⟨"com/example/call_throttle/callthrottle/KeyQueueIsEmptyPinLaw", "step", "(Lcom/example/call_throttle/callthrottle/KeyQueue;IZLjava/lang/String;)I"⟩ : MethodName)) hown (mvT hZ (hw _ (List.mem_of_getElem? (i := 55) rfl))) (mvT hZ (hw _ (List.mem_of_getElem? (i := 56) rfl))) (mvT hZ (hw _ (List.mem_of_getElem? (i := 57) rfl))) (mvT hZ (hw _ (List.mem_of_getElem? (i := 58) rfl))) (by decide) (backOf (W := 0) (own_m_stN l Z a0 hw [] (b46) ((.ref r_48)) ((((0 : Int32) + (1 : Int32)) - (1 : Int32))) T91.heap n0 (Nat.le_trans Z0 K91.1) rfl (by decide)) hZ (hw _ (List.mem_of_getElem? (i := 58) rfl)) (hw _ (List.mem_of_getElem? (i := 57) rfl)) (by decide) (by decide)) (g := (mkF m 140 #[.val (.int p1), .val (.int p2), .val (.ref b46), .val (.ref r_48), .val (.int (1 : Int32)), .val (.int (((0 : Int32) + (1 : Int32)) - (1 : Int32)))] [(.ref r_48), (.int (0 : Int32)), (.int (((0 : Int32) + (1 : Int32)) - (1 : Int32))), (.ref b46)])) rfl (by rw [hml]; rfl) (argsL := [(.ref b46), (.int (((0 : Int32) + (1 : Int32)) - (1 : Int32))), (.int (0 : Int32)), (.ref r_48)]) (rest := []) (lenOf own_pd8 rfl) rfl (by show 2 * 0 + _ ≤ _; exact Nat.le_of_eq rfl) (hb hby at_140) (fun _ _ => ⟨rfl, e92, (by decide : 5 + 0 ≤ _), (by decide : 1036 + 0 ≤ _)⟩)
        dsimp only [Pt.U, Pt.locs, Pt.cells, Pt.slots] at X94 l94 y94 z94 st94 hQ94
        subst l94 y94 z94
        obtain ⟨rfl, Nq94, Kq94⟩ := hQ94
        have N94 := Fr.app N92 Nq94
        have e94 : T94.heap = T91.heap := Kq94
        refine own_step (U' := (T94.setTop (mkF m 143 #[.val (.int p1), .val (.int p2), .val (.ref b46), .val (.ref r_48), .val (.int (1 : Int32)), .val (.int (((0 : Int32) + (1 : Int32)) - (1 : Int32)))] [(.int (((0 : Int32) + (1 : Int32)) - (1 : Int32)))]))) (fun t ht => st94 _ ht) ?_
        refine own_step (U' := (T94.setTop (mkF m 145 #[.val (.int p1), .val (.int p2), .val (.ref b46), .val (.ref r_48), .val (.int (1 : Int32)), .val (.int (((0 : Int32) + (1 : Int32)) - (1 : Int32)))] []))) (fun t ht => XS.istore X94.here hx rfl (hb hby at_143) rfl (l' := #[.val (.int p1), .val (.int p2), .val (.ref b46), .val (.ref r_48), .val (.int (1 : Int32)), .val (.int (((0 : Int32) + (1 : Int32)) - (1 : Int32)))]) rfl ht) ?_
        refine own_step (U' := (T94.setTop (mkF m 147 #[.val (.int p1), .val (.int p2), .val (.ref b46), .val (.ref r_48), .val (.int (1 : Int32)), .val (.int (((0 : Int32) + (1 : Int32)) - (1 : Int32)))] [(.int (1 : Int32))]))) (fun t ht => XS.iload X94.here hx rfl (hb hby at_145) rfl ht) ?_
        refine own_step (U' := (T94.setTop (mkF m 150 #[.val (.int p1), .val (.int p2), .val (.ref b46), .val (.ref r_48), .val (.int (1 : Int32)), .val (.int (((0 : Int32) + (1 : Int32)) - (1 : Int32)))] []))) (fun t ht => XS.ifNo X94.here hx rfl (hb hby at_147) rfl (XT.i0_eq_f ((by decide) : ¬ ((1 : Int32) = 0))) ht) ?_
        refine own_step (U' := (T94.setTop (mkF m 151 #[.val (.int p1), .val (.int p2), .val (.ref b46), .val (.ref r_48), .val (.int (1 : Int32)), .val (.int (((0 : Int32) + (1 : Int32)) - (1 : Int32)))] [(.ref b46)]))) (fun t ht => XS.aloadN X94.here hx rfl (hb hby at_150) rfl rfl ht) ?_
        obtain ⟨cq95, kq95, q95a, q95b, q95c⟩ := isOf hZ e94 Fq91_5
        obtain ⟨_, _, ⟨T95, L95, k95, n95⟩, -, X95, ⟨Lc95, hQ95, l95, y95, z95⟩, st95⟩ := X94.virtualBack hx (y := (⟨"com/example/call_throttle/callthrottle/KeyQueue", "isEmpty", "()Z"⟩ : MethodName)) (z := (⟨"com/example/call_throttle/callthrottle/KeyQueue", "isEmpty", "()Z"⟩ : MethodName)) hown (mvT hZ (hw _ (List.mem_of_getElem? (i := 48) rfl))) (mvT hZ (hw _ (List.mem_of_getElem? (i := 49) rfl))) (notFace_of_selects (args := #[]) (mvT hZ (hw _ (List.mem_of_getElem? (i := 51) rfl)))) (mvT hZ (hw _ (List.mem_of_getElem? (i := 51) rfl))) (mvT hZ (hw _ (List.mem_of_getElem? (i := 50) rfl))) (by decide) (backOf (W := 0) (own_m_ie l Z a0 hw [] (b46) ((((0 : Int64) + (1 : Int64)) - (1 : Int64))) T91.heap n0 (Nat.le_trans Z0 K91.1) Fq91_4) hZ (hw _ (List.mem_of_getElem? (i := 52) rfl)) (hw _ (List.mem_of_getElem? (i := 2) rfl)) (by decide) (by decide)) q95a q95c (g := (mkF m 151 #[.val (.int p1), .val (.int p2), .val (.ref b46), .val (.ref r_48), .val (.int (1 : Int32)), .val (.int (((0 : Int32) + (1 : Int32)) - (1 : Int32)))] [(.ref b46)])) rfl (by rw [hml]; rfl) (Steps.refl _) (argsL := []) (rest := []) (lenOf own_pd7 rfl) rfl (by show 2 * 0 + _ ≤ _; exact Nat.le_of_eq rfl) (hb hby at_151) (fun _ _ => ⟨rfl, e94, (by decide : 5 + 0 ≤ _), (by decide : 1036 + 0 ≤ _)⟩)
        dsimp only [Pt.U, Pt.locs, Pt.cells, Pt.slots] at X95 l95 y95 z95 st95 hQ95
        subst l95 y95 z95
        obtain ⟨rfl, Nq95, Kq95⟩ := hQ95
        have N95 := Fr.app N94 Nq95
        have e95 : T95.heap = T91.heap := Kq95
        refine own_step (U' := (T95.setTop (mkF m 154 #[.val (.int p1), .val (.int p2), .val (.ref b46), .val (.ref r_48), .val (.int (1 : Int32)), .val (.int (((0 : Int32) + (1 : Int32)) - (1 : Int32)))] [(.int (own_ie (((0 : Int64) + (1 : Int64)) - (1 : Int64))))]))) (fun t ht => st95.trans ht) ?_
        refine own_step (U' := (T95.setTop (mkF m 156 #[.val (.int p1), .val (.int p2), .val (.ref b46), .val (.ref r_48), .val (.int (1 : Int32)), .val (.int (((0 : Int32) + (1 : Int32)) - (1 : Int32)))] [(.int (((0 : Int32) + (1 : Int32)) - (1 : Int32))), (.int (own_ie (((0 : Int64) + (1 : Int64)) - (1 : Int64))))]))) (fun t ht => XS.iload X95.here hx rfl (hb hby at_154) rfl ht) ?_
        refine own_step (U' := (T95.setTop (mkF m 159 #[.val (.int p1), .val (.int p2), .val (.ref b46), .val (.ref r_48), .val (.int (1 : Int32)), .val (.int (((0 : Int32) + (1 : Int32)) - (1 : Int32)))] [(.int (own_ie (((0 : Int64) + (1 : Int64)) - (1 : Int64))))]))) (fun t ht => XS.ifNo X95.here hx rfl (hb hby at_156) rfl (XT.i0_ne_f ((by decide) : (((0 : Int32) + (1 : Int32)) - (1 : Int32)) = 0)) ht) ?_
        refine own_step (U' := (T95.setTop (mkF m 160 #[.val (.int p1), .val (.int p2), .val (.ref b46), .val (.ref r_48), .val (.int (1 : Int32)), .val (.int (((0 : Int32) + (1 : Int32)) - (1 : Int32)))] [(.int (1 : Int32)), (.int (own_ie (((0 : Int64) + (1 : Int64)) - (1 : Int64))))]))) (fun t ht => XS.iconst X95.here hx rfl (hb hby at_159) ht) ?_
        refine own_step (U' := (T95.setTop (mkF m 164 #[.val (.int p1), .val (.int p2), .val (.ref b46), .val (.ref r_48), .val (.int (1 : Int32)), .val (.int (((0 : Int32) + (1 : Int32)) - (1 : Int32)))] [(.int (1 : Int32)), (.int (own_ie (((0 : Int64) + (1 : Int64)) - (1 : Int64))))]))) (fun t ht => XS.goto X95.here hx rfl (pc0 := 160) (pc' := 164) rfl (hb hby at_160) (by decide) (by decide) ht) ?_
        refine own_step (U' := (T95.setTop (mkF m 167 #[.val (.int p1), .val (.int p2), .val (.ref b46), .val (.ref r_48), .val (.int (1 : Int32)), .val (.int (((0 : Int32) + (1 : Int32)) - (1 : Int32)))] []))) (fun t ht => XS.icmpNo X95.here hx rfl (hb hby at_164) rfl (XT.ii_ne_f ((by decide) : (own_ie (((0 : Int64) + (1 : Int64)) - (1 : Int64))) = (1 : Int32))) ht) ?_
        refine own_step (U' := (T95.setTop (mkF m 168 #[.val (.int p1), .val (.int p2), .val (.ref b46), .val (.ref r_48), .val (.int (1 : Int32)), .val (.int (((0 : Int32) + (1 : Int32)) - (1 : Int32)))] [(.int (1 : Int32))]))) (fun t ht => XS.iconst X95.here hx rfl (hb hby at_167) ht) ?_
        refine own_step (U' := (T95.setTop (mkF m 172 #[.val (.int p1), .val (.int p2), .val (.ref b46), .val (.ref r_48), .val (.int (1 : Int32)), .val (.int (((0 : Int32) + (1 : Int32)) - (1 : Int32)))] [(.int (1 : Int32))]))) (fun t ht => XS.goto X95.here hx rfl (pc0 := 168) (pc' := 172) rfl (hb hby at_168) (by decide) (by decide) ht) ?_
        refine own_step (U' := (T95.setTop (mkF m 174 #[.val (.int p1), .val (.int p2), .val (.ref b46), .val (.ref r_48), .val (.int (1 : Int32)), .val (.int (((0 : Int32) + (1 : Int32)) - (1 : Int32)))] []))) (fun t ht => XS.istore X95.here hx rfl (hb hby at_172) rfl (l' := #[.val (.int p1), .val (.int p2), .val (.ref b46), .val (.ref r_48), .val (.int (1 : Int32)), .val (.int (((0 : Int32) + (1 : Int32)) - (1 : Int32)))]) rfl ht) ?_
        refine own_step (U' := (T95.setTop (mkF m 175 #[.val (.int p1), .val (.int p2), .val (.ref b46), .val (.ref r_48), .val (.int (1 : Int32)), .val (.int (((0 : Int32) + (1 : Int32)) - (1 : Int32)))] [(.ref b46)]))) (fun t ht => XS.aloadN X95.here hx rfl (hb hby at_174) rfl rfl ht) ?_
        refine own_step (U' := (T95.setTop (mkF m 177 #[.val (.int p1), .val (.int p2), .val (.ref b46), .val (.ref r_48), .val (.int (1 : Int32)), .val (.int (((0 : Int32) + (1 : Int32)) - (1 : Int32)))] [(.int (((0 : Int32) + (1 : Int32)) - (1 : Int32))), (.ref b46)]))) (fun t ht => XS.iload X95.here hx rfl (hb hby at_175) rfl ht) ?_
        refine own_step (U' := (T95.setTop (mkF m 178 #[.val (.int p1), .val (.int p2), .val (.ref b46), .val (.ref r_48), .val (.int (1 : Int32)), .val (.int (((0 : Int32) + (1 : Int32)) - (1 : Int32)))] [(.int p1), (.int (((0 : Int32) + (1 : Int32)) - (1 : Int32))), (.ref b46)]))) (fun t ht => XS.iloadN X95.here hx rfl (hb hby at_177) rfl ht) ?_
        refine own_step (U' := (T95.setTop (mkF m 180 #[.val (.int p1), .val (.int p2), .val (.ref b46), .val (.ref r_48), .val (.int (1 : Int32)), .val (.int (((0 : Int32) + (1 : Int32)) - (1 : Int32)))] [(.int (8 : Int32)), (.int p1), (.int (((0 : Int32) + (1 : Int32)) - (1 : Int32))), (.ref b46)]))) (fun t ht => XS.bipush X95.here hx rfl (hb hby at_178) ht) ?_
        refine own_step (U' := (T95.setTop (mkF m 181 #[.val (.int p1), .val (.int p2), .val (.ref b46), .val (.ref r_48), .val (.int (1 : Int32)), .val (.int (((0 : Int32) + (1 : Int32)) - (1 : Int32)))] [(.int (p1 &&& (8 : Int32))), (.int (((0 : Int32) + (1 : Int32)) - (1 : Int32))), (.ref b46)]))) (fun t ht => XS.iand X95.here hx rfl (hb hby at_180) rfl ht) ?_
        by_cases hc181_96 : (p1 &&& (8 : Int32)) = 0
        ·
          refine own_step (U' := (T95.setTop (mkF m 188 #[.val (.int p1), .val (.int p2), .val (.ref b46), .val (.ref r_48), .val (.int (1 : Int32)), .val (.int (((0 : Int32) + (1 : Int32)) - (1 : Int32)))] [(.int (((0 : Int32) + (1 : Int32)) - (1 : Int32))), (.ref b46)]))) (fun t ht => XS.ifYes X95.here hx rfl (pc0 := 181) (pc' := 188) rfl (hb hby at_181) rfl (XT.i0_eq_t hc181_96) (by decide) (by decide) ht) ?_
          refine own_step (U' := (T95.setTop (mkF m 189 #[.val (.int p1), .val (.int p2), .val (.ref b46), .val (.ref r_48), .val (.int (1 : Int32)), .val (.int (((0 : Int32) + (1 : Int32)) - (1 : Int32)))] [(.int (0 : Int32)), (.int (((0 : Int32) + (1 : Int32)) - (1 : Int32))), (.ref b46)]))) (fun t ht => XS.iconst X95.here hx rfl (hb hby at_188) ht) ?_
          refine own_step (U' := (T95.setTop (mkF m 190 #[.val (.int p1), .val (.int p2), .val (.ref b46), .val (.ref r_48), .val (.int (1 : Int32)), .val (.int (((0 : Int32) + (1 : Int32)) - (1 : Int32)))] [(.ref r_48), (.int (0 : Int32)), (.int (((0 : Int32) + (1 : Int32)) - (1 : Int32))), (.ref b46)]))) (fun t ht => XS.aloadN X95.here hx rfl (hb hby at_189) rfl rfl ht) ?_
          obtain ⟨_, _, ⟨T97, L97, k97, n97⟩, -, X97, ⟨Lc97, hQ97, l97, y97, z97⟩, st97⟩ := Jvm.LawKit.callS X95 hx (y := (⟨"com/example/call_throttle/callthrottle/KeyQueueIsEmptyPinLaw", "step", "(Lcom/example/call_throttle/callthrottle/KeyQueue;IZLjava/lang/String;)I"⟩ : MethodName)) hown (mvT hZ (hw _ (List.mem_of_getElem? (i := 55) rfl))) (mvT hZ (hw _ (List.mem_of_getElem? (i := 56) rfl))) (mvT hZ (hw _ (List.mem_of_getElem? (i := 57) rfl))) (mvT hZ (hw _ (List.mem_of_getElem? (i := 58) rfl))) (by decide) (backOf (W := 0) (own_m_stN l Z a0 hw [] (b46) ((.ref r_48)) ((((0 : Int32) + (1 : Int32)) - (1 : Int32))) T91.heap n0 (Nat.le_trans Z0 K91.1) rfl (by decide)) hZ (hw _ (List.mem_of_getElem? (i := 58) rfl)) (hw _ (List.mem_of_getElem? (i := 57) rfl)) (by decide) (by decide)) (g := (mkF m 190 #[.val (.int p1), .val (.int p2), .val (.ref b46), .val (.ref r_48), .val (.int (1 : Int32)), .val (.int (((0 : Int32) + (1 : Int32)) - (1 : Int32)))] [(.ref r_48), (.int (0 : Int32)), (.int (((0 : Int32) + (1 : Int32)) - (1 : Int32))), (.ref b46)])) rfl (by rw [hml]; rfl) (argsL := [(.ref b46), (.int (((0 : Int32) + (1 : Int32)) - (1 : Int32))), (.int (0 : Int32)), (.ref r_48)]) (rest := []) (lenOf own_pd8 rfl) rfl (by show 2 * 0 + _ ≤ _; exact Nat.le_of_eq rfl) (hb hby at_190) (fun _ _ => ⟨rfl, e95, (by decide : 5 + 0 ≤ _), (by decide : 1036 + 0 ≤ _)⟩)
          dsimp only [Pt.U, Pt.locs, Pt.cells, Pt.slots] at X97 l97 y97 z97 st97 hQ97
          subst l97 y97 z97
          obtain ⟨rfl, Nq97, Kq97⟩ := hQ97
          have N97 := Fr.app N95 Nq97
          have e97 : T97.heap = T91.heap := Kq97
          refine own_step (U' := (T97.setTop (mkF m 193 #[.val (.int p1), .val (.int p2), .val (.ref b46), .val (.ref r_48), .val (.int (1 : Int32)), .val (.int (((0 : Int32) + (1 : Int32)) - (1 : Int32)))] [(.int (((0 : Int32) + (1 : Int32)) - (1 : Int32)))]))) (fun t ht => st97 _ ht) ?_
          refine own_step (U' := (T97.setTop (mkF m 195 #[.val (.int p1), .val (.int p2), .val (.ref b46), .val (.ref r_48), .val (.int (1 : Int32)), .val (.int (((0 : Int32) + (1 : Int32)) - (1 : Int32)))] []))) (fun t ht => XS.istore X97.here hx rfl (hb hby at_193) rfl (l' := #[.val (.int p1), .val (.int p2), .val (.ref b46), .val (.ref r_48), .val (.int (1 : Int32)), .val (.int (((0 : Int32) + (1 : Int32)) - (1 : Int32)))]) rfl ht) ?_
          refine own_step (U' := (T97.setTop (mkF m 197 #[.val (.int p1), .val (.int p2), .val (.ref b46), .val (.ref r_48), .val (.int (1 : Int32)), .val (.int (((0 : Int32) + (1 : Int32)) - (1 : Int32)))] [(.int (1 : Int32))]))) (fun t ht => XS.iload X97.here hx rfl (hb hby at_195) rfl ht) ?_
          refine own_step (U' := (T97.setTop (mkF m 200 #[.val (.int p1), .val (.int p2), .val (.ref b46), .val (.ref r_48), .val (.int (1 : Int32)), .val (.int (((0 : Int32) + (1 : Int32)) - (1 : Int32)))] []))) (fun t ht => XS.ifNo X97.here hx rfl (hb hby at_197) rfl (XT.i0_eq_f ((by decide) : ¬ ((1 : Int32) = 0))) ht) ?_
          refine own_step (U' := (T97.setTop (mkF m 201 #[.val (.int p1), .val (.int p2), .val (.ref b46), .val (.ref r_48), .val (.int (1 : Int32)), .val (.int (((0 : Int32) + (1 : Int32)) - (1 : Int32)))] [(.ref b46)]))) (fun t ht => XS.aloadN X97.here hx rfl (hb hby at_200) rfl rfl ht) ?_
          obtain ⟨cq98, kq98, q98a, q98b, q98c⟩ := isOf hZ e97 Fq91_5
          obtain ⟨_, _, ⟨T98, L98, k98, n98⟩, -, X98, ⟨Lc98, hQ98, l98, y98, z98⟩, st98⟩ := X97.virtualBack hx (y := (⟨"com/example/call_throttle/callthrottle/KeyQueue", "isEmpty", "()Z"⟩ : MethodName)) (z := (⟨"com/example/call_throttle/callthrottle/KeyQueue", "isEmpty", "()Z"⟩ : MethodName)) hown (mvT hZ (hw _ (List.mem_of_getElem? (i := 48) rfl))) (mvT hZ (hw _ (List.mem_of_getElem? (i := 49) rfl))) (notFace_of_selects (args := #[]) (mvT hZ (hw _ (List.mem_of_getElem? (i := 51) rfl)))) (mvT hZ (hw _ (List.mem_of_getElem? (i := 51) rfl))) (mvT hZ (hw _ (List.mem_of_getElem? (i := 50) rfl))) (by decide) (backOf (W := 0) (own_m_ie l Z a0 hw [] (b46) ((((0 : Int64) + (1 : Int64)) - (1 : Int64))) T91.heap n0 (Nat.le_trans Z0 K91.1) Fq91_4) hZ (hw _ (List.mem_of_getElem? (i := 52) rfl)) (hw _ (List.mem_of_getElem? (i := 2) rfl)) (by decide) (by decide)) q98a q98c (g := (mkF m 201 #[.val (.int p1), .val (.int p2), .val (.ref b46), .val (.ref r_48), .val (.int (1 : Int32)), .val (.int (((0 : Int32) + (1 : Int32)) - (1 : Int32)))] [(.ref b46)])) rfl (by rw [hml]; rfl) (Steps.refl _) (argsL := []) (rest := []) (lenOf own_pd7 rfl) rfl (by show 2 * 0 + _ ≤ _; exact Nat.le_of_eq rfl) (hb hby at_201) (fun _ _ => ⟨rfl, e97, (by decide : 5 + 0 ≤ _), (by decide : 1036 + 0 ≤ _)⟩)
          dsimp only [Pt.U, Pt.locs, Pt.cells, Pt.slots] at X98 l98 y98 z98 st98 hQ98
          subst l98 y98 z98
          obtain ⟨rfl, Nq98, Kq98⟩ := hQ98
          have N98 := Fr.app N97 Nq98
          have e98 : T98.heap = T91.heap := Kq98
          refine own_step (U' := (T98.setTop (mkF m 204 #[.val (.int p1), .val (.int p2), .val (.ref b46), .val (.ref r_48), .val (.int (1 : Int32)), .val (.int (((0 : Int32) + (1 : Int32)) - (1 : Int32)))] [(.int (own_ie (((0 : Int64) + (1 : Int64)) - (1 : Int64))))]))) (fun t ht => st98.trans ht) ?_
          refine own_step (U' := (T98.setTop (mkF m 206 #[.val (.int p1), .val (.int p2), .val (.ref b46), .val (.ref r_48), .val (.int (1 : Int32)), .val (.int (((0 : Int32) + (1 : Int32)) - (1 : Int32)))] [(.int (((0 : Int32) + (1 : Int32)) - (1 : Int32))), (.int (own_ie (((0 : Int64) + (1 : Int64)) - (1 : Int64))))]))) (fun t ht => XS.iload X98.here hx rfl (hb hby at_204) rfl ht) ?_
          refine own_step (U' := (T98.setTop (mkF m 209 #[.val (.int p1), .val (.int p2), .val (.ref b46), .val (.ref r_48), .val (.int (1 : Int32)), .val (.int (((0 : Int32) + (1 : Int32)) - (1 : Int32)))] [(.int (own_ie (((0 : Int64) + (1 : Int64)) - (1 : Int64))))]))) (fun t ht => XS.ifNo X98.here hx rfl (hb hby at_206) rfl (XT.i0_ne_f ((by decide) : (((0 : Int32) + (1 : Int32)) - (1 : Int32)) = 0)) ht) ?_
          refine own_step (U' := (T98.setTop (mkF m 210 #[.val (.int p1), .val (.int p2), .val (.ref b46), .val (.ref r_48), .val (.int (1 : Int32)), .val (.int (((0 : Int32) + (1 : Int32)) - (1 : Int32)))] [(.int (1 : Int32)), (.int (own_ie (((0 : Int64) + (1 : Int64)) - (1 : Int64))))]))) (fun t ht => XS.iconst X98.here hx rfl (hb hby at_209) ht) ?_
          refine own_step (U' := (T98.setTop (mkF m 214 #[.val (.int p1), .val (.int p2), .val (.ref b46), .val (.ref r_48), .val (.int (1 : Int32)), .val (.int (((0 : Int32) + (1 : Int32)) - (1 : Int32)))] [(.int (1 : Int32)), (.int (own_ie (((0 : Int64) + (1 : Int64)) - (1 : Int64))))]))) (fun t ht => XS.goto X98.here hx rfl (pc0 := 210) (pc' := 214) rfl (hb hby at_210) (by decide) (by decide) ht) ?_
          refine own_step (U' := (T98.setTop (mkF m 217 #[.val (.int p1), .val (.int p2), .val (.ref b46), .val (.ref r_48), .val (.int (1 : Int32)), .val (.int (((0 : Int32) + (1 : Int32)) - (1 : Int32)))] []))) (fun t ht => XS.icmpNo X98.here hx rfl (hb hby at_214) rfl (XT.ii_ne_f ((by decide) : (own_ie (((0 : Int64) + (1 : Int64)) - (1 : Int64))) = (1 : Int32))) ht) ?_
          refine own_step (U' := (T98.setTop (mkF m 218 #[.val (.int p1), .val (.int p2), .val (.ref b46), .val (.ref r_48), .val (.int (1 : Int32)), .val (.int (((0 : Int32) + (1 : Int32)) - (1 : Int32)))] [(.int (1 : Int32))]))) (fun t ht => XS.iconst X98.here hx rfl (hb hby at_217) ht) ?_
          refine own_step (U' := (T98.setTop (mkF m 222 #[.val (.int p1), .val (.int p2), .val (.ref b46), .val (.ref r_48), .val (.int (1 : Int32)), .val (.int (((0 : Int32) + (1 : Int32)) - (1 : Int32)))] [(.int (1 : Int32))]))) (fun t ht => XS.goto X98.here hx rfl (pc0 := 218) (pc' := 222) rfl (hb hby at_218) (by decide) (by decide) ht) ?_
          refine own_step (U' := (T98.setTop (mkF m 224 #[.val (.int p1), .val (.int p2), .val (.ref b46), .val (.ref r_48), .val (.int (1 : Int32)), .val (.int (((0 : Int32) + (1 : Int32)) - (1 : Int32)))] []))) (fun t ht => XS.istore X98.here hx rfl (hb hby at_222) rfl (l' := #[.val (.int p1), .val (.int p2), .val (.ref b46), .val (.ref r_48), .val (.int (1 : Int32)), .val (.int (((0 : Int32) + (1 : Int32)) - (1 : Int32)))]) rfl ht) ?_
          refine own_step (U' := (T98.setTop (mkF m 226 #[.val (.int p1), .val (.int p2), .val (.ref b46), .val (.ref r_48), .val (.int (1 : Int32)), .val (.int (((0 : Int32) + (1 : Int32)) - (1 : Int32)))] [(.int (1 : Int32))]))) (fun t ht => XS.iload X98.here hx rfl (hb hby at_224) rfl ht) ?_
          refine own_ret X98 (v := (some (.int (nar .boolean (1 : Int32))))) (fun h => by rw [Bd.returns] at h; cases h) Bd.notSynchronized (by decide) (by decide) ?_ (fun fs hr => retN X98 hx (t := .boolean) Bd.returns (by simp) (hb hby at_226) hr)
          show own_Q_law Z p1 p2 cz h0 n0 _ T98.heap _
          rw [e98]
          exact ⟨rfl, N98⟩
        ·
          refine own_step (U' := (T95.setTop (mkF m 184 #[.val (.int p1), .val (.int p2), .val (.ref b46), .val (.ref r_48), .val (.int (1 : Int32)), .val (.int (((0 : Int32) + (1 : Int32)) - (1 : Int32)))] [(.int (((0 : Int32) + (1 : Int32)) - (1 : Int32))), (.ref b46)]))) (fun t ht => XS.ifNo X95.here hx rfl (hb hby at_181) rfl (XT.i0_eq_f hc181_96) ht) ?_
          refine own_step (U' := (T95.setTop (mkF m 185 #[.val (.int p1), .val (.int p2), .val (.ref b46), .val (.ref r_48), .val (.int (1 : Int32)), .val (.int (((0 : Int32) + (1 : Int32)) - (1 : Int32)))] [(.int (1 : Int32)), (.int (((0 : Int32) + (1 : Int32)) - (1 : Int32))), (.ref b46)]))) (fun t ht => XS.iconst X95.here hx rfl (hb hby at_184) ht) ?_
          refine own_step (U' := (T95.setTop (mkF m 189 #[.val (.int p1), .val (.int p2), .val (.ref b46), .val (.ref r_48), .val (.int (1 : Int32)), .val (.int (((0 : Int32) + (1 : Int32)) - (1 : Int32)))] [(.int (1 : Int32)), (.int (((0 : Int32) + (1 : Int32)) - (1 : Int32))), (.ref b46)]))) (fun t ht => XS.goto X95.here hx rfl (pc0 := 185) (pc' := 189) rfl (hb hby at_185) (by decide) (by decide) ht) ?_
          refine own_step (U' := (T95.setTop (mkF m 190 #[.val (.int p1), .val (.int p2), .val (.ref b46), .val (.ref r_48), .val (.int (1 : Int32)), .val (.int (((0 : Int32) + (1 : Int32)) - (1 : Int32)))] [(.ref r_48), (.int (1 : Int32)), (.int (((0 : Int32) + (1 : Int32)) - (1 : Int32))), (.ref b46)]))) (fun t ht => XS.aloadN X95.here hx rfl (hb hby at_189) rfl rfl ht) ?_
          obtain ⟨_, _, ⟨T99, L99, k99, n99⟩, -, X99, ⟨Lc99, hQ99, l99, y99, z99⟩, st99⟩ := Jvm.LawKit.callS X95 hx (y := (⟨"com/example/call_throttle/callthrottle/KeyQueueIsEmptyPinLaw", "step", "(Lcom/example/call_throttle/callthrottle/KeyQueue;IZLjava/lang/String;)I"⟩ : MethodName)) hown (mvT hZ (hw _ (List.mem_of_getElem? (i := 55) rfl))) (mvT hZ (hw _ (List.mem_of_getElem? (i := 56) rfl))) (mvT hZ (hw _ (List.mem_of_getElem? (i := 57) rfl))) (mvT hZ (hw _ (List.mem_of_getElem? (i := 58) rfl))) (by decide) (backOf (W := 0) (own_m_stA l Z a0 hw [] (b46) (c1_47) (r1_47) (kA_47) (((0 : Int32) + (1 : Int32))) (((0 : Int32) + (1 : Int32))) ((((0 : Int64) + (1 : Int64)) - (1 : Int64))) ((([.null, .null, .null, .null].set 0 (.ref r_48)).set 0 .null)) ((.ref r_48)) (1) ((((0 : Int32) + (1 : Int32)) - (1 : Int32))) T91.heap n0 (Nat.le_trans Z0 K91.1) g_b46 g_r1_47 p47_0 p47_1 Fq91_0 Fq91_1 Fq91_2 Fq91_3 Fq91_4 Fq91_5 Fq91_6 Fq91_7 Fq91_8 f91_1 p47_2 (by decide) (by decide) (by decide) rfl (Nat.le_of_ble_eq_true rfl)) hZ (hw _ (List.mem_of_getElem? (i := 58) rfl)) (hw _ (List.mem_of_getElem? (i := 57) rfl)) (by decide) (by decide)) (g := (mkF m 190 #[.val (.int p1), .val (.int p2), .val (.ref b46), .val (.ref r_48), .val (.int (1 : Int32)), .val (.int (((0 : Int32) + (1 : Int32)) - (1 : Int32)))] [(.ref r_48), (.int (1 : Int32)), (.int (((0 : Int32) + (1 : Int32)) - (1 : Int32))), (.ref b46)])) rfl (by rw [hml]; rfl) (argsL := [(.ref b46), (.int (((0 : Int32) + (1 : Int32)) - (1 : Int32))), (.int (1 : Int32)), (.ref r_48)]) (rest := []) (lenOf own_pd8 rfl) rfl (by show 2 * 0 + _ ≤ _; exact Nat.le_of_eq rfl) (hb hby at_190) (fun _ _ => ⟨rfl, e95, (by decide : 5 + 0 ≤ _), (by decide : 1036 + 0 ≤ _)⟩)
          dsimp only [Pt.U, Pt.locs, Pt.cells, Pt.slots] at X99 l99 y99 z99 st99 hQ99
          subst l99 y99 z99
          obtain ⟨rfl, Nq99, Kq99, Fq99_0, Fq99_1, Fq99_2, Fq99_3, Fq99_4, Fq99_5, Fq99_6, Fq99_7, Fq99_8⟩ := hQ99
          have N99 := Fr.app N95 Nq99
          have f99_0 : Sta Z T99.heap "java/lang/String" "COMPACT_STRINGS" "Z" (.int cz) := own_sta_keep f91_0 Kq99 (own_plF Fq91_0 (own_plV Fq91_8 own_pl0))
          have f99_1 : own_Key Z T99.heap (.ref r_48) := f91_1.keep Kq99
          have f99_7 : Exa Z T99.heap b46 "com/example/call_throttle/callthrottle/KeyQueue" := Fq91_5.keep Kq99
          have f99_8 : Fld Z T99.heap c1_47 "com/example/call_throttle/callthrottle/KeyQueue$Chunk" "keys" "[Ljava/lang/String;" (.ref r1_47) := Fq91_6.keep Kq99 (ninS (Ne.symm ne_b46_c1_47) (ninS p47_1 nin0))
          have f99_9 : Exa Z T99.heap c1_47 "com/example/call_throttle/callthrottle/KeyQueue$Chunk" := Fq91_7.keep Kq99
          have K99 : Keep h0 T99.heap [] := K91.trans Kq99 (allS (Or.inr sz_b46) (allS (Or.inr sz_r1_47) all0))
          refine own_step (U' := (T99.setTop (mkF m 193 #[.val (.int p1), .val (.int p2), .val (.ref b46), .val (.ref r_48), .val (.int (1 : Int32)), .val (.int (((0 : Int32) + (1 : Int32)) - (1 : Int32)))] [(.int ((((0 : Int32) + (1 : Int32)) - (1 : Int32)) + (1 : Int32)))]))) (fun t ht => st99 _ ht) ?_
          refine own_step (U' := (T99.setTop (mkF m 195 #[.val (.int p1), .val (.int p2), .val (.ref b46), .val (.ref r_48), .val (.int (1 : Int32)), .val (.int ((((0 : Int32) + (1 : Int32)) - (1 : Int32)) + (1 : Int32)))] []))) (fun t ht => XS.istore X99.here hx rfl (hb hby at_193) rfl (l' := #[.val (.int p1), .val (.int p2), .val (.ref b46), .val (.ref r_48), .val (.int (1 : Int32)), .val (.int ((((0 : Int32) + (1 : Int32)) - (1 : Int32)) + (1 : Int32)))]) rfl ht) ?_
          refine own_step (U' := (T99.setTop (mkF m 197 #[.val (.int p1), .val (.int p2), .val (.ref b46), .val (.ref r_48), .val (.int (1 : Int32)), .val (.int ((((0 : Int32) + (1 : Int32)) - (1 : Int32)) + (1 : Int32)))] [(.int (1 : Int32))]))) (fun t ht => XS.iload X99.here hx rfl (hb hby at_195) rfl ht) ?_
          refine own_step (U' := (T99.setTop (mkF m 200 #[.val (.int p1), .val (.int p2), .val (.ref b46), .val (.ref r_48), .val (.int (1 : Int32)), .val (.int ((((0 : Int32) + (1 : Int32)) - (1 : Int32)) + (1 : Int32)))] []))) (fun t ht => XS.ifNo X99.here hx rfl (hb hby at_197) rfl (XT.i0_eq_f ((by decide) : ¬ ((1 : Int32) = 0))) ht) ?_
          refine own_step (U' := (T99.setTop (mkF m 201 #[.val (.int p1), .val (.int p2), .val (.ref b46), .val (.ref r_48), .val (.int (1 : Int32)), .val (.int ((((0 : Int32) + (1 : Int32)) - (1 : Int32)) + (1 : Int32)))] [(.ref b46)]))) (fun t ht => XS.aloadN X99.here hx rfl (hb hby at_200) rfl rfl ht) ?_
          obtain ⟨cq100, kq100, q100a, q100b, q100c⟩ := isOf hZ rfl Fq99_5
          obtain ⟨_, _, ⟨T100, L100, k100, n100⟩, -, X100, ⟨Lc100, hQ100, l100, y100, z100⟩, st100⟩ := X99.virtualBack hx (y := (⟨"com/example/call_throttle/callthrottle/KeyQueue", "isEmpty", "()Z"⟩ : MethodName)) (z := (⟨"com/example/call_throttle/callthrottle/KeyQueue", "isEmpty", "()Z"⟩ : MethodName)) hown (mvT hZ (hw _ (List.mem_of_getElem? (i := 48) rfl))) (mvT hZ (hw _ (List.mem_of_getElem? (i := 49) rfl))) (notFace_of_selects (args := #[]) (mvT hZ (hw _ (List.mem_of_getElem? (i := 51) rfl)))) (mvT hZ (hw _ (List.mem_of_getElem? (i := 51) rfl))) (mvT hZ (hw _ (List.mem_of_getElem? (i := 50) rfl))) (by decide) (backOf (W := 0) (own_m_ie l Z a0 hw [] (b46) (((((0 : Int64) + (1 : Int64)) - (1 : Int64)) + (1 : Int64))) T99.heap n0 (Nat.le_trans Z0 K99.1) Fq99_4) hZ (hw _ (List.mem_of_getElem? (i := 52) rfl)) (hw _ (List.mem_of_getElem? (i := 2) rfl)) (by decide) (by decide)) q100a q100c (g := (mkF m 201 #[.val (.int p1), .val (.int p2), .val (.ref b46), .val (.ref r_48), .val (.int (1 : Int32)), .val (.int ((((0 : Int32) + (1 : Int32)) - (1 : Int32)) + (1 : Int32)))] [(.ref b46)])) rfl (by rw [hml]; rfl) (Steps.refl _) (argsL := []) (rest := []) (lenOf own_pd7 rfl) rfl (by show 2 * 0 + _ ≤ _; exact Nat.le_of_eq rfl) (hb hby at_201) (fun _ _ => ⟨rfl, rfl, (by decide : 5 + 0 ≤ _), (by decide : 1036 + 0 ≤ _)⟩)
          dsimp only [Pt.U, Pt.locs, Pt.cells, Pt.slots] at X100 l100 y100 z100 st100 hQ100
          subst l100 y100 z100
          obtain ⟨rfl, Nq100, Kq100⟩ := hQ100
          have N100 := Fr.app N99 Nq100
          have e100 : T100.heap = T99.heap := Kq100
          refine own_step (U' := (T100.setTop (mkF m 204 #[.val (.int p1), .val (.int p2), .val (.ref b46), .val (.ref r_48), .val (.int (1 : Int32)), .val (.int ((((0 : Int32) + (1 : Int32)) - (1 : Int32)) + (1 : Int32)))] [(.int (own_ie ((((0 : Int64) + (1 : Int64)) - (1 : Int64)) + (1 : Int64))))]))) (fun t ht => st100.trans ht) ?_
          refine own_step (U' := (T100.setTop (mkF m 206 #[.val (.int p1), .val (.int p2), .val (.ref b46), .val (.ref r_48), .val (.int (1 : Int32)), .val (.int ((((0 : Int32) + (1 : Int32)) - (1 : Int32)) + (1 : Int32)))] [(.int ((((0 : Int32) + (1 : Int32)) - (1 : Int32)) + (1 : Int32))), (.int (own_ie ((((0 : Int64) + (1 : Int64)) - (1 : Int64)) + (1 : Int64))))]))) (fun t ht => XS.iload X100.here hx rfl (hb hby at_204) rfl ht) ?_
          refine own_step (U' := (T100.setTop (mkF m 213 #[.val (.int p1), .val (.int p2), .val (.ref b46), .val (.ref r_48), .val (.int (1 : Int32)), .val (.int ((((0 : Int32) + (1 : Int32)) - (1 : Int32)) + (1 : Int32)))] [(.int (own_ie ((((0 : Int64) + (1 : Int64)) - (1 : Int64)) + (1 : Int64))))]))) (fun t ht => XS.ifYes X100.here hx rfl (pc0 := 206) (pc' := 213) rfl (hb hby at_206) rfl (XT.i0_ne_t ((by decide) : ¬ (((((0 : Int32) + (1 : Int32)) - (1 : Int32)) + (1 : Int32)) = 0))) (by decide) (by decide) ht) ?_
          refine own_step (U' := (T100.setTop (mkF m 214 #[.val (.int p1), .val (.int p2), .val (.ref b46), .val (.ref r_48), .val (.int (1 : Int32)), .val (.int ((((0 : Int32) + (1 : Int32)) - (1 : Int32)) + (1 : Int32)))] [(.int (0 : Int32)), (.int (own_ie ((((0 : Int64) + (1 : Int64)) - (1 : Int64)) + (1 : Int64))))]))) (fun t ht => XS.iconst X100.here hx rfl (hb hby at_213) ht) ?_
          refine own_step (U' := (T100.setTop (mkF m 217 #[.val (.int p1), .val (.int p2), .val (.ref b46), .val (.ref r_48), .val (.int (1 : Int32)), .val (.int ((((0 : Int32) + (1 : Int32)) - (1 : Int32)) + (1 : Int32)))] []))) (fun t ht => XS.icmpNo X100.here hx rfl (hb hby at_214) rfl (XT.ii_ne_f ((by decide) : (own_ie ((((0 : Int64) + (1 : Int64)) - (1 : Int64)) + (1 : Int64))) = (0 : Int32))) ht) ?_
          refine own_step (U' := (T100.setTop (mkF m 218 #[.val (.int p1), .val (.int p2), .val (.ref b46), .val (.ref r_48), .val (.int (1 : Int32)), .val (.int ((((0 : Int32) + (1 : Int32)) - (1 : Int32)) + (1 : Int32)))] [(.int (1 : Int32))]))) (fun t ht => XS.iconst X100.here hx rfl (hb hby at_217) ht) ?_
          refine own_step (U' := (T100.setTop (mkF m 222 #[.val (.int p1), .val (.int p2), .val (.ref b46), .val (.ref r_48), .val (.int (1 : Int32)), .val (.int ((((0 : Int32) + (1 : Int32)) - (1 : Int32)) + (1 : Int32)))] [(.int (1 : Int32))]))) (fun t ht => XS.goto X100.here hx rfl (pc0 := 218) (pc' := 222) rfl (hb hby at_218) (by decide) (by decide) ht) ?_
          refine own_step (U' := (T100.setTop (mkF m 224 #[.val (.int p1), .val (.int p2), .val (.ref b46), .val (.ref r_48), .val (.int (1 : Int32)), .val (.int ((((0 : Int32) + (1 : Int32)) - (1 : Int32)) + (1 : Int32)))] []))) (fun t ht => XS.istore X100.here hx rfl (hb hby at_222) rfl (l' := #[.val (.int p1), .val (.int p2), .val (.ref b46), .val (.ref r_48), .val (.int (1 : Int32)), .val (.int ((((0 : Int32) + (1 : Int32)) - (1 : Int32)) + (1 : Int32)))]) rfl ht) ?_
          refine own_step (U' := (T100.setTop (mkF m 226 #[.val (.int p1), .val (.int p2), .val (.ref b46), .val (.ref r_48), .val (.int (1 : Int32)), .val (.int ((((0 : Int32) + (1 : Int32)) - (1 : Int32)) + (1 : Int32)))] [(.int (1 : Int32))]))) (fun t ht => XS.iload X100.here hx rfl (hb hby at_224) rfl ht) ?_
          refine own_ret X100 (v := (some (.int (nar .boolean (1 : Int32))))) (fun h => by rw [Bd.returns] at h; cases h) Bd.notSynchronized (by decide) (by decide) ?_ (fun fs hr => retN X100 hx (t := .boolean) Bd.returns (by simp) (hb hby at_226) hr)
          show own_Q_law Z p1 p2 cz h0 n0 _ T100.heap _
          rw [e100]
          exact ⟨rfl, N100⟩
      ·
        refine own_step (U' := (T92.setTop (mkF m 134 #[.val (.int p1), .val (.int p2), .val (.ref b46), .val (.ref r_48), .val (.int (1 : Int32)), .val (.int (((0 : Int32) + (1 : Int32)) - (1 : Int32)))] [(.int (((0 : Int32) + (1 : Int32)) - (1 : Int32))), (.ref b46)]))) (fun t ht => XS.ifNo X92.here hx rfl (hb hby at_131) rfl (XT.i0_eq_f hc131_93) ht) ?_
        refine own_step (U' := (T92.setTop (mkF m 135 #[.val (.int p1), .val (.int p2), .val (.ref b46), .val (.ref r_48), .val (.int (1 : Int32)), .val (.int (((0 : Int32) + (1 : Int32)) - (1 : Int32)))] [(.int (1 : Int32)), (.int (((0 : Int32) + (1 : Int32)) - (1 : Int32))), (.ref b46)]))) (fun t ht => XS.iconst X92.here hx rfl (hb hby at_134) ht) ?_
        refine own_step (U' := (T92.setTop (mkF m 139 #[.val (.int p1), .val (.int p2), .val (.ref b46), .val (.ref r_48), .val (.int (1 : Int32)), .val (.int (((0 : Int32) + (1 : Int32)) - (1 : Int32)))] [(.int (1 : Int32)), (.int (((0 : Int32) + (1 : Int32)) - (1 : Int32))), (.ref b46)]))) (fun t ht => XS.goto X92.here hx rfl (pc0 := 135) (pc' := 139) rfl (hb hby at_135) (by decide) (by decide) ht) ?_
        refine own_step (U' := (T92.setTop (mkF m 140 #[.val (.int p1), .val (.int p2), .val (.ref b46), .val (.ref r_48), .val (.int (1 : Int32)), .val (.int (((0 : Int32) + (1 : Int32)) - (1 : Int32)))] [(.ref r_48), (.int (1 : Int32)), (.int (((0 : Int32) + (1 : Int32)) - (1 : Int32))), (.ref b46)]))) (fun t ht => XS.aloadN X92.here hx rfl (hb hby at_139) rfl rfl ht) ?_
        obtain ⟨_, _, ⟨T101, L101, k101, n101⟩, -, X101, ⟨Lc101, hQ101, l101, y101, z101⟩, st101⟩ := Jvm.LawKit.callS X92 hx (y := (⟨"com/example/call_throttle/callthrottle/KeyQueueIsEmptyPinLaw", "step", "(Lcom/example/call_throttle/callthrottle/KeyQueue;IZLjava/lang/String;)I"⟩ : MethodName)) hown (mvT hZ (hw _ (List.mem_of_getElem? (i := 55) rfl))) (mvT hZ (hw _ (List.mem_of_getElem? (i := 56) rfl))) (mvT hZ (hw _ (List.mem_of_getElem? (i := 57) rfl))) (mvT hZ (hw _ (List.mem_of_getElem? (i := 58) rfl))) (by decide) (backOf (W := 0) (own_m_stA l Z a0 hw [] (b46) (c1_47) (r1_47) (kA_47) (((0 : Int32) + (1 : Int32))) (((0 : Int32) + (1 : Int32))) ((((0 : Int64) + (1 : Int64)) - (1 : Int64))) ((([.null, .null, .null, .null].set 0 (.ref r_48)).set 0 .null)) ((.ref r_48)) (1) ((((0 : Int32) + (1 : Int32)) - (1 : Int32))) T91.heap n0 (Nat.le_trans Z0 K91.1) g_b46 g_r1_47 p47_0 p47_1 Fq91_0 Fq91_1 Fq91_2 Fq91_3 Fq91_4 Fq91_5 Fq91_6 Fq91_7 Fq91_8 f91_1 p47_2 (by decide) (by decide) (by decide) rfl (Nat.le_of_ble_eq_true rfl)) hZ (hw _ (List.mem_of_getElem? (i := 58) rfl)) (hw _ (List.mem_of_getElem? (i := 57) rfl)) (by decide) (by decide)) (g := (mkF m 140 #[.val (.int p1), .val (.int p2), .val (.ref b46), .val (.ref r_48), .val (.int (1 : Int32)), .val (.int (((0 : Int32) + (1 : Int32)) - (1 : Int32)))] [(.ref r_48), (.int (1 : Int32)), (.int (((0 : Int32) + (1 : Int32)) - (1 : Int32))), (.ref b46)])) rfl (by rw [hml]; rfl) (argsL := [(.ref b46), (.int (((0 : Int32) + (1 : Int32)) - (1 : Int32))), (.int (1 : Int32)), (.ref r_48)]) (rest := []) (lenOf own_pd8 rfl) rfl (by show 2 * 0 + _ ≤ _; exact Nat.le_of_eq rfl) (hb hby at_140) (fun _ _ => ⟨rfl, e92, (by decide : 5 + 0 ≤ _), (by decide : 1036 + 0 ≤ _)⟩)
        dsimp only [Pt.U, Pt.locs, Pt.cells, Pt.slots] at X101 l101 y101 z101 st101 hQ101
        subst l101 y101 z101
        obtain ⟨rfl, Nq101, Kq101, Fq101_0, Fq101_1, Fq101_2, Fq101_3, Fq101_4, Fq101_5, Fq101_6, Fq101_7, Fq101_8⟩ := hQ101
        have N101 := Fr.app N92 Nq101
        have f101_0 : Sta Z T101.heap "java/lang/String" "COMPACT_STRINGS" "Z" (.int cz) := own_sta_keep f91_0 Kq101 (own_plF Fq91_0 (own_plV Fq91_8 own_pl0))
        have f101_1 : own_Key Z T101.heap (.ref r_48) := f91_1.keep Kq101
        have f101_7 : Exa Z T101.heap b46 "com/example/call_throttle/callthrottle/KeyQueue" := Fq91_5.keep Kq101
        have f101_8 : Fld Z T101.heap c1_47 "com/example/call_throttle/callthrottle/KeyQueue$Chunk" "keys" "[Ljava/lang/String;" (.ref r1_47) := Fq91_6.keep Kq101 (ninS (Ne.symm ne_b46_c1_47) (ninS p47_1 nin0))
        have f101_9 : Exa Z T101.heap c1_47 "com/example/call_throttle/callthrottle/KeyQueue$Chunk" := Fq91_7.keep Kq101
        have K101 : Keep h0 T101.heap [] := K91.trans Kq101 (allS (Or.inr sz_b46) (allS (Or.inr sz_r1_47) all0))
        refine own_step (U' := (T101.setTop (mkF m 143 #[.val (.int p1), .val (.int p2), .val (.ref b46), .val (.ref r_48), .val (.int (1 : Int32)), .val (.int (((0 : Int32) + (1 : Int32)) - (1 : Int32)))] [(.int ((((0 : Int32) + (1 : Int32)) - (1 : Int32)) + (1 : Int32)))]))) (fun t ht => st101 _ ht) ?_
        refine own_step (U' := (T101.setTop (mkF m 145 #[.val (.int p1), .val (.int p2), .val (.ref b46), .val (.ref r_48), .val (.int (1 : Int32)), .val (.int ((((0 : Int32) + (1 : Int32)) - (1 : Int32)) + (1 : Int32)))] []))) (fun t ht => XS.istore X101.here hx rfl (hb hby at_143) rfl (l' := #[.val (.int p1), .val (.int p2), .val (.ref b46), .val (.ref r_48), .val (.int (1 : Int32)), .val (.int ((((0 : Int32) + (1 : Int32)) - (1 : Int32)) + (1 : Int32)))]) rfl ht) ?_
        refine own_step (U' := (T101.setTop (mkF m 147 #[.val (.int p1), .val (.int p2), .val (.ref b46), .val (.ref r_48), .val (.int (1 : Int32)), .val (.int ((((0 : Int32) + (1 : Int32)) - (1 : Int32)) + (1 : Int32)))] [(.int (1 : Int32))]))) (fun t ht => XS.iload X101.here hx rfl (hb hby at_145) rfl ht) ?_
        refine own_step (U' := (T101.setTop (mkF m 150 #[.val (.int p1), .val (.int p2), .val (.ref b46), .val (.ref r_48), .val (.int (1 : Int32)), .val (.int ((((0 : Int32) + (1 : Int32)) - (1 : Int32)) + (1 : Int32)))] []))) (fun t ht => XS.ifNo X101.here hx rfl (hb hby at_147) rfl (XT.i0_eq_f ((by decide) : ¬ ((1 : Int32) = 0))) ht) ?_
        refine own_step (U' := (T101.setTop (mkF m 151 #[.val (.int p1), .val (.int p2), .val (.ref b46), .val (.ref r_48), .val (.int (1 : Int32)), .val (.int ((((0 : Int32) + (1 : Int32)) - (1 : Int32)) + (1 : Int32)))] [(.ref b46)]))) (fun t ht => XS.aloadN X101.here hx rfl (hb hby at_150) rfl rfl ht) ?_
        obtain ⟨cq102, kq102, q102a, q102b, q102c⟩ := isOf hZ rfl Fq101_5
        obtain ⟨_, _, ⟨T102, L102, k102, n102⟩, -, X102, ⟨Lc102, hQ102, l102, y102, z102⟩, st102⟩ := X101.virtualBack hx (y := (⟨"com/example/call_throttle/callthrottle/KeyQueue", "isEmpty", "()Z"⟩ : MethodName)) (z := (⟨"com/example/call_throttle/callthrottle/KeyQueue", "isEmpty", "()Z"⟩ : MethodName)) hown (mvT hZ (hw _ (List.mem_of_getElem? (i := 48) rfl))) (mvT hZ (hw _ (List.mem_of_getElem? (i := 49) rfl))) (notFace_of_selects (args := #[]) (mvT hZ (hw _ (List.mem_of_getElem? (i := 51) rfl)))) (mvT hZ (hw _ (List.mem_of_getElem? (i := 51) rfl))) (mvT hZ (hw _ (List.mem_of_getElem? (i := 50) rfl))) (by decide) (backOf (W := 0) (own_m_ie l Z a0 hw [] (b46) (((((0 : Int64) + (1 : Int64)) - (1 : Int64)) + (1 : Int64))) T101.heap n0 (Nat.le_trans Z0 K101.1) Fq101_4) hZ (hw _ (List.mem_of_getElem? (i := 52) rfl)) (hw _ (List.mem_of_getElem? (i := 2) rfl)) (by decide) (by decide)) q102a q102c (g := (mkF m 151 #[.val (.int p1), .val (.int p2), .val (.ref b46), .val (.ref r_48), .val (.int (1 : Int32)), .val (.int ((((0 : Int32) + (1 : Int32)) - (1 : Int32)) + (1 : Int32)))] [(.ref b46)])) rfl (by rw [hml]; rfl) (Steps.refl _) (argsL := []) (rest := []) (lenOf own_pd7 rfl) rfl (by show 2 * 0 + _ ≤ _; exact Nat.le_of_eq rfl) (hb hby at_151) (fun _ _ => ⟨rfl, rfl, (by decide : 5 + 0 ≤ _), (by decide : 1036 + 0 ≤ _)⟩)
        dsimp only [Pt.U, Pt.locs, Pt.cells, Pt.slots] at X102 l102 y102 z102 st102 hQ102
        subst l102 y102 z102
        obtain ⟨rfl, Nq102, Kq102⟩ := hQ102
        have N102 := Fr.app N101 Nq102
        have e102 : T102.heap = T101.heap := Kq102
        refine own_step (U' := (T102.setTop (mkF m 154 #[.val (.int p1), .val (.int p2), .val (.ref b46), .val (.ref r_48), .val (.int (1 : Int32)), .val (.int ((((0 : Int32) + (1 : Int32)) - (1 : Int32)) + (1 : Int32)))] [(.int (own_ie ((((0 : Int64) + (1 : Int64)) - (1 : Int64)) + (1 : Int64))))]))) (fun t ht => st102.trans ht) ?_
        refine own_step (U' := (T102.setTop (mkF m 156 #[.val (.int p1), .val (.int p2), .val (.ref b46), .val (.ref r_48), .val (.int (1 : Int32)), .val (.int ((((0 : Int32) + (1 : Int32)) - (1 : Int32)) + (1 : Int32)))] [(.int ((((0 : Int32) + (1 : Int32)) - (1 : Int32)) + (1 : Int32))), (.int (own_ie ((((0 : Int64) + (1 : Int64)) - (1 : Int64)) + (1 : Int64))))]))) (fun t ht => XS.iload X102.here hx rfl (hb hby at_154) rfl ht) ?_
        refine own_step (U' := (T102.setTop (mkF m 163 #[.val (.int p1), .val (.int p2), .val (.ref b46), .val (.ref r_48), .val (.int (1 : Int32)), .val (.int ((((0 : Int32) + (1 : Int32)) - (1 : Int32)) + (1 : Int32)))] [(.int (own_ie ((((0 : Int64) + (1 : Int64)) - (1 : Int64)) + (1 : Int64))))]))) (fun t ht => XS.ifYes X102.here hx rfl (pc0 := 156) (pc' := 163) rfl (hb hby at_156) rfl (XT.i0_ne_t ((by decide) : ¬ (((((0 : Int32) + (1 : Int32)) - (1 : Int32)) + (1 : Int32)) = 0))) (by decide) (by decide) ht) ?_
        refine own_step (U' := (T102.setTop (mkF m 164 #[.val (.int p1), .val (.int p2), .val (.ref b46), .val (.ref r_48), .val (.int (1 : Int32)), .val (.int ((((0 : Int32) + (1 : Int32)) - (1 : Int32)) + (1 : Int32)))] [(.int (0 : Int32)), (.int (own_ie ((((0 : Int64) + (1 : Int64)) - (1 : Int64)) + (1 : Int64))))]))) (fun t ht => XS.iconst X102.here hx rfl (hb hby at_163) ht) ?_
        refine own_step (U' := (T102.setTop (mkF m 167 #[.val (.int p1), .val (.int p2), .val (.ref b46), .val (.ref r_48), .val (.int (1 : Int32)), .val (.int ((((0 : Int32) + (1 : Int32)) - (1 : Int32)) + (1 : Int32)))] []))) (fun t ht => XS.icmpNo X102.here hx rfl (hb hby at_164) rfl (XT.ii_ne_f ((by decide) : (own_ie ((((0 : Int64) + (1 : Int64)) - (1 : Int64)) + (1 : Int64))) = (0 : Int32))) ht) ?_
        refine own_step (U' := (T102.setTop (mkF m 168 #[.val (.int p1), .val (.int p2), .val (.ref b46), .val (.ref r_48), .val (.int (1 : Int32)), .val (.int ((((0 : Int32) + (1 : Int32)) - (1 : Int32)) + (1 : Int32)))] [(.int (1 : Int32))]))) (fun t ht => XS.iconst X102.here hx rfl (hb hby at_167) ht) ?_
        refine own_step (U' := (T102.setTop (mkF m 172 #[.val (.int p1), .val (.int p2), .val (.ref b46), .val (.ref r_48), .val (.int (1 : Int32)), .val (.int ((((0 : Int32) + (1 : Int32)) - (1 : Int32)) + (1 : Int32)))] [(.int (1 : Int32))]))) (fun t ht => XS.goto X102.here hx rfl (pc0 := 168) (pc' := 172) rfl (hb hby at_168) (by decide) (by decide) ht) ?_
        refine own_step (U' := (T102.setTop (mkF m 174 #[.val (.int p1), .val (.int p2), .val (.ref b46), .val (.ref r_48), .val (.int (1 : Int32)), .val (.int ((((0 : Int32) + (1 : Int32)) - (1 : Int32)) + (1 : Int32)))] []))) (fun t ht => XS.istore X102.here hx rfl (hb hby at_172) rfl (l' := #[.val (.int p1), .val (.int p2), .val (.ref b46), .val (.ref r_48), .val (.int (1 : Int32)), .val (.int ((((0 : Int32) + (1 : Int32)) - (1 : Int32)) + (1 : Int32)))]) rfl ht) ?_
        refine own_step (U' := (T102.setTop (mkF m 175 #[.val (.int p1), .val (.int p2), .val (.ref b46), .val (.ref r_48), .val (.int (1 : Int32)), .val (.int ((((0 : Int32) + (1 : Int32)) - (1 : Int32)) + (1 : Int32)))] [(.ref b46)]))) (fun t ht => XS.aloadN X102.here hx rfl (hb hby at_174) rfl rfl ht) ?_
        refine own_step (U' := (T102.setTop (mkF m 177 #[.val (.int p1), .val (.int p2), .val (.ref b46), .val (.ref r_48), .val (.int (1 : Int32)), .val (.int ((((0 : Int32) + (1 : Int32)) - (1 : Int32)) + (1 : Int32)))] [(.int ((((0 : Int32) + (1 : Int32)) - (1 : Int32)) + (1 : Int32))), (.ref b46)]))) (fun t ht => XS.iload X102.here hx rfl (hb hby at_175) rfl ht) ?_
        refine own_step (U' := (T102.setTop (mkF m 178 #[.val (.int p1), .val (.int p2), .val (.ref b46), .val (.ref r_48), .val (.int (1 : Int32)), .val (.int ((((0 : Int32) + (1 : Int32)) - (1 : Int32)) + (1 : Int32)))] [(.int p1), (.int ((((0 : Int32) + (1 : Int32)) - (1 : Int32)) + (1 : Int32))), (.ref b46)]))) (fun t ht => XS.iloadN X102.here hx rfl (hb hby at_177) rfl ht) ?_
        refine own_step (U' := (T102.setTop (mkF m 180 #[.val (.int p1), .val (.int p2), .val (.ref b46), .val (.ref r_48), .val (.int (1 : Int32)), .val (.int ((((0 : Int32) + (1 : Int32)) - (1 : Int32)) + (1 : Int32)))] [(.int (8 : Int32)), (.int p1), (.int ((((0 : Int32) + (1 : Int32)) - (1 : Int32)) + (1 : Int32))), (.ref b46)]))) (fun t ht => XS.bipush X102.here hx rfl (hb hby at_178) ht) ?_
        refine own_step (U' := (T102.setTop (mkF m 181 #[.val (.int p1), .val (.int p2), .val (.ref b46), .val (.ref r_48), .val (.int (1 : Int32)), .val (.int ((((0 : Int32) + (1 : Int32)) - (1 : Int32)) + (1 : Int32)))] [(.int (p1 &&& (8 : Int32))), (.int ((((0 : Int32) + (1 : Int32)) - (1 : Int32)) + (1 : Int32))), (.ref b46)]))) (fun t ht => XS.iand X102.here hx rfl (hb hby at_180) rfl ht) ?_
        by_cases hc181_103 : (p1 &&& (8 : Int32)) = 0
        ·
          refine own_step (U' := (T102.setTop (mkF m 188 #[.val (.int p1), .val (.int p2), .val (.ref b46), .val (.ref r_48), .val (.int (1 : Int32)), .val (.int ((((0 : Int32) + (1 : Int32)) - (1 : Int32)) + (1 : Int32)))] [(.int ((((0 : Int32) + (1 : Int32)) - (1 : Int32)) + (1 : Int32))), (.ref b46)]))) (fun t ht => XS.ifYes X102.here hx rfl (pc0 := 181) (pc' := 188) rfl (hb hby at_181) rfl (XT.i0_eq_t hc181_103) (by decide) (by decide) ht) ?_
          refine own_step (U' := (T102.setTop (mkF m 189 #[.val (.int p1), .val (.int p2), .val (.ref b46), .val (.ref r_48), .val (.int (1 : Int32)), .val (.int ((((0 : Int32) + (1 : Int32)) - (1 : Int32)) + (1 : Int32)))] [(.int (0 : Int32)), (.int ((((0 : Int32) + (1 : Int32)) - (1 : Int32)) + (1 : Int32))), (.ref b46)]))) (fun t ht => XS.iconst X102.here hx rfl (hb hby at_188) ht) ?_
          refine own_step (U' := (T102.setTop (mkF m 190 #[.val (.int p1), .val (.int p2), .val (.ref b46), .val (.ref r_48), .val (.int (1 : Int32)), .val (.int ((((0 : Int32) + (1 : Int32)) - (1 : Int32)) + (1 : Int32)))] [(.ref r_48), (.int (0 : Int32)), (.int ((((0 : Int32) + (1 : Int32)) - (1 : Int32)) + (1 : Int32))), (.ref b46)]))) (fun t ht => XS.aloadN X102.here hx rfl (hb hby at_189) rfl rfl ht) ?_
          obtain ⟨_, _, ⟨T104, L104, k104, n104⟩, -, X104, ⟨Lc104, hQ104, l104, y104, z104⟩, st104⟩ := Jvm.LawKit.callS X102 hx (y := (⟨"com/example/call_throttle/callthrottle/KeyQueueIsEmptyPinLaw", "step", "(Lcom/example/call_throttle/callthrottle/KeyQueue;IZLjava/lang/String;)I"⟩ : MethodName)) hown (mvT hZ (hw _ (List.mem_of_getElem? (i := 55) rfl))) (mvT hZ (hw _ (List.mem_of_getElem? (i := 56) rfl))) (mvT hZ (hw _ (List.mem_of_getElem? (i := 57) rfl))) (mvT hZ (hw _ (List.mem_of_getElem? (i := 58) rfl))) (by decide) (backOf (W := 0) (own_m_stR l Z a0 hw [] (b46) (c1_47) (r1_47) (kA_47) (((0 : Int32) + (1 : Int32))) ((((0 : Int32) + (1 : Int32)) + (1 : Int32))) (((((0 : Int64) + (1 : Int64)) - (1 : Int64)) + (1 : Int64))) (((([.null, .null, .null, .null].set 0 (.ref r_48)).set 0 .null).set 1 (.ref r_48))) ((.ref r_48)) ((.ref r_48)) (1) (((((0 : Int32) + (1 : Int32)) - (1 : Int32)) + (1 : Int32))) T101.heap n0 (Nat.le_trans Z0 K101.1) g_b46 g_r1_47 p47_0 p47_1 Fq101_0 Fq101_1 Fq101_2 Fq101_3 Fq101_4 Fq101_5 Fq101_6 Fq101_7 Fq101_8 (by decide) (by decide) (by decide) (by decide) rfl (Nat.le_of_ble_eq_true rfl) rfl rfl rfl (by decide)) hZ (hw _ (List.mem_of_getElem? (i := 58) rfl)) (hw _ (List.mem_of_getElem? (i := 57) rfl)) (by decide) (by decide)) (g := (mkF m 190 #[.val (.int p1), .val (.int p2), .val (.ref b46), .val (.ref r_48), .val (.int (1 : Int32)), .val (.int ((((0 : Int32) + (1 : Int32)) - (1 : Int32)) + (1 : Int32)))] [(.ref r_48), (.int (0 : Int32)), (.int ((((0 : Int32) + (1 : Int32)) - (1 : Int32)) + (1 : Int32))), (.ref b46)])) rfl (by rw [hml]; rfl) (argsL := [(.ref b46), (.int ((((0 : Int32) + (1 : Int32)) - (1 : Int32)) + (1 : Int32))), (.int (0 : Int32)), (.ref r_48)]) (rest := []) (lenOf own_pd8 rfl) rfl (by show 2 * 0 + _ ≤ _; exact Nat.le_of_eq rfl) (hb hby at_190) (fun _ _ => ⟨rfl, e102, (by decide : 5 + 0 ≤ _), (by decide : 1036 + 0 ≤ _)⟩)
          dsimp only [Pt.U, Pt.locs, Pt.cells, Pt.slots] at X104 l104 y104 z104 st104 hQ104
          subst l104 y104 z104
          obtain ⟨rfl, Nq104, Kq104, Fq104_0, Fq104_1, Fq104_2, Fq104_3, Fq104_4, Fq104_5, Fq104_6, Fq104_7, Fq104_8⟩ := hQ104
          have N104 := Fr.app N102 Nq104
          have f104_0 : Sta Z T104.heap "java/lang/String" "COMPACT_STRINGS" "Z" (.int cz) := own_sta_keep f101_0 Kq104 (own_plF Fq101_0 (own_plV Fq101_8 own_pl0))
          have f104_1 : own_Key Z T104.heap (.ref r_48) := f101_1.keep Kq104
          have f104_7 : Exa Z T104.heap b46 "com/example/call_throttle/callthrottle/KeyQueue" := Fq101_5.keep Kq104
          have f104_8 : Fld Z T104.heap c1_47 "com/example/call_throttle/callthrottle/KeyQueue$Chunk" "keys" "[Ljava/lang/String;" (.ref r1_47) := Fq101_6.keep Kq104 (ninS (Ne.symm ne_b46_c1_47) (ninS p47_1 nin0))
          have f104_9 : Exa Z T104.heap c1_47 "com/example/call_throttle/callthrottle/KeyQueue$Chunk" := Fq101_7.keep Kq104
          have K104 : Keep h0 T104.heap [] := K101.trans Kq104 (allS (Or.inr sz_b46) (allS (Or.inr sz_r1_47) all0))
          refine own_step (U' := (T104.setTop (mkF m 193 #[.val (.int p1), .val (.int p2), .val (.ref b46), .val (.ref r_48), .val (.int (1 : Int32)), .val (.int ((((0 : Int32) + (1 : Int32)) - (1 : Int32)) + (1 : Int32)))] [(.int (((((0 : Int32) + (1 : Int32)) - (1 : Int32)) + (1 : Int32)) - (1 : Int32)))]))) (fun t ht => st104 _ ht) ?_
          refine own_step (U' := (T104.setTop (mkF m 195 #[.val (.int p1), .val (.int p2), .val (.ref b46), .val (.ref r_48), .val (.int (1 : Int32)), .val (.int (((((0 : Int32) + (1 : Int32)) - (1 : Int32)) + (1 : Int32)) - (1 : Int32)))] []))) (fun t ht => XS.istore X104.here hx rfl (hb hby at_193) rfl (l' := #[.val (.int p1), .val (.int p2), .val (.ref b46), .val (.ref r_48), .val (.int (1 : Int32)), .val (.int (((((0 : Int32) + (1 : Int32)) - (1 : Int32)) + (1 : Int32)) - (1 : Int32)))]) rfl ht) ?_
          refine own_step (U' := (T104.setTop (mkF m 197 #[.val (.int p1), .val (.int p2), .val (.ref b46), .val (.ref r_48), .val (.int (1 : Int32)), .val (.int (((((0 : Int32) + (1 : Int32)) - (1 : Int32)) + (1 : Int32)) - (1 : Int32)))] [(.int (1 : Int32))]))) (fun t ht => XS.iload X104.here hx rfl (hb hby at_195) rfl ht) ?_
          refine own_step (U' := (T104.setTop (mkF m 200 #[.val (.int p1), .val (.int p2), .val (.ref b46), .val (.ref r_48), .val (.int (1 : Int32)), .val (.int (((((0 : Int32) + (1 : Int32)) - (1 : Int32)) + (1 : Int32)) - (1 : Int32)))] []))) (fun t ht => XS.ifNo X104.here hx rfl (hb hby at_197) rfl (XT.i0_eq_f ((by decide) : ¬ ((1 : Int32) = 0))) ht) ?_
          refine own_step (U' := (T104.setTop (mkF m 201 #[.val (.int p1), .val (.int p2), .val (.ref b46), .val (.ref r_48), .val (.int (1 : Int32)), .val (.int (((((0 : Int32) + (1 : Int32)) - (1 : Int32)) + (1 : Int32)) - (1 : Int32)))] [(.ref b46)]))) (fun t ht => XS.aloadN X104.here hx rfl (hb hby at_200) rfl rfl ht) ?_
          obtain ⟨cq105, kq105, q105a, q105b, q105c⟩ := isOf hZ rfl Fq104_5
          obtain ⟨_, _, ⟨T105, L105, k105, n105⟩, -, X105, ⟨Lc105, hQ105, l105, y105, z105⟩, st105⟩ := X104.virtualBack hx (y := (⟨"com/example/call_throttle/callthrottle/KeyQueue", "isEmpty", "()Z"⟩ : MethodName)) (z := (⟨"com/example/call_throttle/callthrottle/KeyQueue", "isEmpty", "()Z"⟩ : MethodName)) hown (mvT hZ (hw _ (List.mem_of_getElem? (i := 48) rfl))) (mvT hZ (hw _ (List.mem_of_getElem? (i := 49) rfl))) (notFace_of_selects (args := #[]) (mvT hZ (hw _ (List.mem_of_getElem? (i := 51) rfl)))) (mvT hZ (hw _ (List.mem_of_getElem? (i := 51) rfl))) (mvT hZ (hw _ (List.mem_of_getElem? (i := 50) rfl))) (by decide) (backOf (W := 0) (own_m_ie l Z a0 hw [] (b46) ((((((0 : Int64) + (1 : Int64)) - (1 : Int64)) + (1 : Int64)) - (1 : Int64))) T104.heap n0 (Nat.le_trans Z0 K104.1) Fq104_4) hZ (hw _ (List.mem_of_getElem? (i := 52) rfl)) (hw _ (List.mem_of_getElem? (i := 2) rfl)) (by decide) (by decide)) q105a q105c (g := (mkF m 201 #[.val (.int p1), .val (.int p2), .val (.ref b46), .val (.ref r_48), .val (.int (1 : Int32)), .val (.int (((((0 : Int32) + (1 : Int32)) - (1 : Int32)) + (1 : Int32)) - (1 : Int32)))] [(.ref b46)])) rfl (by rw [hml]; rfl) (Steps.refl _) (argsL := []) (rest := []) (lenOf own_pd7 rfl) rfl (by show 2 * 0 + _ ≤ _; exact Nat.le_of_eq rfl) (hb hby at_201) (fun _ _ => ⟨rfl, rfl, (by decide : 5 + 0 ≤ _), (by decide : 1036 + 0 ≤ _)⟩)
          dsimp only [Pt.U, Pt.locs, Pt.cells, Pt.slots] at X105 l105 y105 z105 st105 hQ105
          subst l105 y105 z105
          obtain ⟨rfl, Nq105, Kq105⟩ := hQ105
          have N105 := Fr.app N104 Nq105
          have e105 : T105.heap = T104.heap := Kq105
          refine own_step (U' := (T105.setTop (mkF m 204 #[.val (.int p1), .val (.int p2), .val (.ref b46), .val (.ref r_48), .val (.int (1 : Int32)), .val (.int (((((0 : Int32) + (1 : Int32)) - (1 : Int32)) + (1 : Int32)) - (1 : Int32)))] [(.int (own_ie (((((0 : Int64) + (1 : Int64)) - (1 : Int64)) + (1 : Int64)) - (1 : Int64))))]))) (fun t ht => st105.trans ht) ?_
          refine own_step (U' := (T105.setTop (mkF m 206 #[.val (.int p1), .val (.int p2), .val (.ref b46), .val (.ref r_48), .val (.int (1 : Int32)), .val (.int (((((0 : Int32) + (1 : Int32)) - (1 : Int32)) + (1 : Int32)) - (1 : Int32)))] [(.int (((((0 : Int32) + (1 : Int32)) - (1 : Int32)) + (1 : Int32)) - (1 : Int32))), (.int (own_ie (((((0 : Int64) + (1 : Int64)) - (1 : Int64)) + (1 : Int64)) - (1 : Int64))))]))) (fun t ht => XS.iload X105.here hx rfl (hb hby at_204) rfl ht) ?_
          refine own_step (U' := (T105.setTop (mkF m 209 #[.val (.int p1), .val (.int p2), .val (.ref b46), .val (.ref r_48), .val (.int (1 : Int32)), .val (.int (((((0 : Int32) + (1 : Int32)) - (1 : Int32)) + (1 : Int32)) - (1 : Int32)))] [(.int (own_ie (((((0 : Int64) + (1 : Int64)) - (1 : Int64)) + (1 : Int64)) - (1 : Int64))))]))) (fun t ht => XS.ifNo X105.here hx rfl (hb hby at_206) rfl (XT.i0_ne_f ((by decide) : (((((0 : Int32) + (1 : Int32)) - (1 : Int32)) + (1 : Int32)) - (1 : Int32)) = 0)) ht) ?_
          refine own_step (U' := (T105.setTop (mkF m 210 #[.val (.int p1), .val (.int p2), .val (.ref b46), .val (.ref r_48), .val (.int (1 : Int32)), .val (.int (((((0 : Int32) + (1 : Int32)) - (1 : Int32)) + (1 : Int32)) - (1 : Int32)))] [(.int (1 : Int32)), (.int (own_ie (((((0 : Int64) + (1 : Int64)) - (1 : Int64)) + (1 : Int64)) - (1 : Int64))))]))) (fun t ht => XS.iconst X105.here hx rfl (hb hby at_209) ht) ?_
          refine own_step (U' := (T105.setTop (mkF m 214 #[.val (.int p1), .val (.int p2), .val (.ref b46), .val (.ref r_48), .val (.int (1 : Int32)), .val (.int (((((0 : Int32) + (1 : Int32)) - (1 : Int32)) + (1 : Int32)) - (1 : Int32)))] [(.int (1 : Int32)), (.int (own_ie (((((0 : Int64) + (1 : Int64)) - (1 : Int64)) + (1 : Int64)) - (1 : Int64))))]))) (fun t ht => XS.goto X105.here hx rfl (pc0 := 210) (pc' := 214) rfl (hb hby at_210) (by decide) (by decide) ht) ?_
          refine own_step (U' := (T105.setTop (mkF m 217 #[.val (.int p1), .val (.int p2), .val (.ref b46), .val (.ref r_48), .val (.int (1 : Int32)), .val (.int (((((0 : Int32) + (1 : Int32)) - (1 : Int32)) + (1 : Int32)) - (1 : Int32)))] []))) (fun t ht => XS.icmpNo X105.here hx rfl (hb hby at_214) rfl (XT.ii_ne_f ((by decide) : (own_ie (((((0 : Int64) + (1 : Int64)) - (1 : Int64)) + (1 : Int64)) - (1 : Int64))) = (1 : Int32))) ht) ?_
          refine own_step (U' := (T105.setTop (mkF m 218 #[.val (.int p1), .val (.int p2), .val (.ref b46), .val (.ref r_48), .val (.int (1 : Int32)), .val (.int (((((0 : Int32) + (1 : Int32)) - (1 : Int32)) + (1 : Int32)) - (1 : Int32)))] [(.int (1 : Int32))]))) (fun t ht => XS.iconst X105.here hx rfl (hb hby at_217) ht) ?_
          refine own_step (U' := (T105.setTop (mkF m 222 #[.val (.int p1), .val (.int p2), .val (.ref b46), .val (.ref r_48), .val (.int (1 : Int32)), .val (.int (((((0 : Int32) + (1 : Int32)) - (1 : Int32)) + (1 : Int32)) - (1 : Int32)))] [(.int (1 : Int32))]))) (fun t ht => XS.goto X105.here hx rfl (pc0 := 218) (pc' := 222) rfl (hb hby at_218) (by decide) (by decide) ht) ?_
          refine own_step (U' := (T105.setTop (mkF m 224 #[.val (.int p1), .val (.int p2), .val (.ref b46), .val (.ref r_48), .val (.int (1 : Int32)), .val (.int (((((0 : Int32) + (1 : Int32)) - (1 : Int32)) + (1 : Int32)) - (1 : Int32)))] []))) (fun t ht => XS.istore X105.here hx rfl (hb hby at_222) rfl (l' := #[.val (.int p1), .val (.int p2), .val (.ref b46), .val (.ref r_48), .val (.int (1 : Int32)), .val (.int (((((0 : Int32) + (1 : Int32)) - (1 : Int32)) + (1 : Int32)) - (1 : Int32)))]) rfl ht) ?_
          refine own_step (U' := (T105.setTop (mkF m 226 #[.val (.int p1), .val (.int p2), .val (.ref b46), .val (.ref r_48), .val (.int (1 : Int32)), .val (.int (((((0 : Int32) + (1 : Int32)) - (1 : Int32)) + (1 : Int32)) - (1 : Int32)))] [(.int (1 : Int32))]))) (fun t ht => XS.iload X105.here hx rfl (hb hby at_224) rfl ht) ?_
          refine own_ret X105 (v := (some (.int (nar .boolean (1 : Int32))))) (fun h => by rw [Bd.returns] at h; cases h) Bd.notSynchronized (by decide) (by decide) ?_ (fun fs hr => retN X105 hx (t := .boolean) Bd.returns (by simp) (hb hby at_226) hr)
          show own_Q_law Z p1 p2 cz h0 n0 _ T105.heap _
          rw [e105]
          exact ⟨rfl, N105⟩
        ·
          refine own_step (U' := (T102.setTop (mkF m 184 #[.val (.int p1), .val (.int p2), .val (.ref b46), .val (.ref r_48), .val (.int (1 : Int32)), .val (.int ((((0 : Int32) + (1 : Int32)) - (1 : Int32)) + (1 : Int32)))] [(.int ((((0 : Int32) + (1 : Int32)) - (1 : Int32)) + (1 : Int32))), (.ref b46)]))) (fun t ht => XS.ifNo X102.here hx rfl (hb hby at_181) rfl (XT.i0_eq_f hc181_103) ht) ?_
          refine own_step (U' := (T102.setTop (mkF m 185 #[.val (.int p1), .val (.int p2), .val (.ref b46), .val (.ref r_48), .val (.int (1 : Int32)), .val (.int ((((0 : Int32) + (1 : Int32)) - (1 : Int32)) + (1 : Int32)))] [(.int (1 : Int32)), (.int ((((0 : Int32) + (1 : Int32)) - (1 : Int32)) + (1 : Int32))), (.ref b46)]))) (fun t ht => XS.iconst X102.here hx rfl (hb hby at_184) ht) ?_
          refine own_step (U' := (T102.setTop (mkF m 189 #[.val (.int p1), .val (.int p2), .val (.ref b46), .val (.ref r_48), .val (.int (1 : Int32)), .val (.int ((((0 : Int32) + (1 : Int32)) - (1 : Int32)) + (1 : Int32)))] [(.int (1 : Int32)), (.int ((((0 : Int32) + (1 : Int32)) - (1 : Int32)) + (1 : Int32))), (.ref b46)]))) (fun t ht => XS.goto X102.here hx rfl (pc0 := 185) (pc' := 189) rfl (hb hby at_185) (by decide) (by decide) ht) ?_
          refine own_step (U' := (T102.setTop (mkF m 190 #[.val (.int p1), .val (.int p2), .val (.ref b46), .val (.ref r_48), .val (.int (1 : Int32)), .val (.int ((((0 : Int32) + (1 : Int32)) - (1 : Int32)) + (1 : Int32)))] [(.ref r_48), (.int (1 : Int32)), (.int ((((0 : Int32) + (1 : Int32)) - (1 : Int32)) + (1 : Int32))), (.ref b46)]))) (fun t ht => XS.aloadN X102.here hx rfl (hb hby at_189) rfl rfl ht) ?_
          obtain ⟨_, _, ⟨T106, L106, k106, n106⟩, -, X106, ⟨Lc106, hQ106, l106, y106, z106⟩, st106⟩ := Jvm.LawKit.callS X102 hx (y := (⟨"com/example/call_throttle/callthrottle/KeyQueueIsEmptyPinLaw", "step", "(Lcom/example/call_throttle/callthrottle/KeyQueue;IZLjava/lang/String;)I"⟩ : MethodName)) hown (mvT hZ (hw _ (List.mem_of_getElem? (i := 55) rfl))) (mvT hZ (hw _ (List.mem_of_getElem? (i := 56) rfl))) (mvT hZ (hw _ (List.mem_of_getElem? (i := 57) rfl))) (mvT hZ (hw _ (List.mem_of_getElem? (i := 58) rfl))) (by decide) (backOf (W := 0) (own_m_stA l Z a0 hw [] (b46) (c1_47) (r1_47) (kA_47) (((0 : Int32) + (1 : Int32))) ((((0 : Int32) + (1 : Int32)) + (1 : Int32))) (((((0 : Int64) + (1 : Int64)) - (1 : Int64)) + (1 : Int64))) (((([.null, .null, .null, .null].set 0 (.ref r_48)).set 0 .null).set 1 (.ref r_48))) ((.ref r_48)) (2) (((((0 : Int32) + (1 : Int32)) - (1 : Int32)) + (1 : Int32))) T101.heap n0 (Nat.le_trans Z0 K101.1) g_b46 g_r1_47 p47_0 p47_1 Fq101_0 Fq101_1 Fq101_2 Fq101_3 Fq101_4 Fq101_5 Fq101_6 Fq101_7 Fq101_8 f101_1 p47_2 (by decide) (by decide) (by decide) rfl (Nat.le_of_ble_eq_true rfl)) hZ (hw _ (List.mem_of_getElem? (i := 58) rfl)) (hw _ (List.mem_of_getElem? (i := 57) rfl)) (by decide) (by decide)) (g := (mkF m 190 #[.val (.int p1), .val (.int p2), .val (.ref b46), .val (.ref r_48), .val (.int (1 : Int32)), .val (.int ((((0 : Int32) + (1 : Int32)) - (1 : Int32)) + (1 : Int32)))] [(.ref r_48), (.int (1 : Int32)), (.int ((((0 : Int32) + (1 : Int32)) - (1 : Int32)) + (1 : Int32))), (.ref b46)])) rfl (by rw [hml]; rfl) (argsL := [(.ref b46), (.int ((((0 : Int32) + (1 : Int32)) - (1 : Int32)) + (1 : Int32))), (.int (1 : Int32)), (.ref r_48)]) (rest := []) (lenOf own_pd8 rfl) rfl (by show 2 * 0 + _ ≤ _; exact Nat.le_of_eq rfl) (hb hby at_190) (fun _ _ => ⟨rfl, e102, (by decide : 5 + 0 ≤ _), (by decide : 1036 + 0 ≤ _)⟩)
          dsimp only [Pt.U, Pt.locs, Pt.cells, Pt.slots] at X106 l106 y106 z106 st106 hQ106
          subst l106 y106 z106
          obtain ⟨rfl, Nq106, Kq106, Fq106_0, Fq106_1, Fq106_2, Fq106_3, Fq106_4, Fq106_5, Fq106_6, Fq106_7, Fq106_8⟩ := hQ106
          have N106 := Fr.app N102 Nq106
          have f106_0 : Sta Z T106.heap "java/lang/String" "COMPACT_STRINGS" "Z" (.int cz) := own_sta_keep f101_0 Kq106 (own_plF Fq101_0 (own_plV Fq101_8 own_pl0))
          have f106_1 : own_Key Z T106.heap (.ref r_48) := f101_1.keep Kq106
          have f106_7 : Exa Z T106.heap b46 "com/example/call_throttle/callthrottle/KeyQueue" := Fq101_5.keep Kq106
          have f106_8 : Fld Z T106.heap c1_47 "com/example/call_throttle/callthrottle/KeyQueue$Chunk" "keys" "[Ljava/lang/String;" (.ref r1_47) := Fq101_6.keep Kq106 (ninS (Ne.symm ne_b46_c1_47) (ninS p47_1 nin0))
          have f106_9 : Exa Z T106.heap c1_47 "com/example/call_throttle/callthrottle/KeyQueue$Chunk" := Fq101_7.keep Kq106
          have K106 : Keep h0 T106.heap [] := K101.trans Kq106 (allS (Or.inr sz_b46) (allS (Or.inr sz_r1_47) all0))
          refine own_step (U' := (T106.setTop (mkF m 193 #[.val (.int p1), .val (.int p2), .val (.ref b46), .val (.ref r_48), .val (.int (1 : Int32)), .val (.int ((((0 : Int32) + (1 : Int32)) - (1 : Int32)) + (1 : Int32)))] [(.int (((((0 : Int32) + (1 : Int32)) - (1 : Int32)) + (1 : Int32)) + (1 : Int32)))]))) (fun t ht => st106 _ ht) ?_
          refine own_step (U' := (T106.setTop (mkF m 195 #[.val (.int p1), .val (.int p2), .val (.ref b46), .val (.ref r_48), .val (.int (1 : Int32)), .val (.int (((((0 : Int32) + (1 : Int32)) - (1 : Int32)) + (1 : Int32)) + (1 : Int32)))] []))) (fun t ht => XS.istore X106.here hx rfl (hb hby at_193) rfl (l' := #[.val (.int p1), .val (.int p2), .val (.ref b46), .val (.ref r_48), .val (.int (1 : Int32)), .val (.int (((((0 : Int32) + (1 : Int32)) - (1 : Int32)) + (1 : Int32)) + (1 : Int32)))]) rfl ht) ?_
          refine own_step (U' := (T106.setTop (mkF m 197 #[.val (.int p1), .val (.int p2), .val (.ref b46), .val (.ref r_48), .val (.int (1 : Int32)), .val (.int (((((0 : Int32) + (1 : Int32)) - (1 : Int32)) + (1 : Int32)) + (1 : Int32)))] [(.int (1 : Int32))]))) (fun t ht => XS.iload X106.here hx rfl (hb hby at_195) rfl ht) ?_
          refine own_step (U' := (T106.setTop (mkF m 200 #[.val (.int p1), .val (.int p2), .val (.ref b46), .val (.ref r_48), .val (.int (1 : Int32)), .val (.int (((((0 : Int32) + (1 : Int32)) - (1 : Int32)) + (1 : Int32)) + (1 : Int32)))] []))) (fun t ht => XS.ifNo X106.here hx rfl (hb hby at_197) rfl (XT.i0_eq_f ((by decide) : ¬ ((1 : Int32) = 0))) ht) ?_
          refine own_step (U' := (T106.setTop (mkF m 201 #[.val (.int p1), .val (.int p2), .val (.ref b46), .val (.ref r_48), .val (.int (1 : Int32)), .val (.int (((((0 : Int32) + (1 : Int32)) - (1 : Int32)) + (1 : Int32)) + (1 : Int32)))] [(.ref b46)]))) (fun t ht => XS.aloadN X106.here hx rfl (hb hby at_200) rfl rfl ht) ?_
          obtain ⟨cq107, kq107, q107a, q107b, q107c⟩ := isOf hZ rfl Fq106_5
          obtain ⟨_, _, ⟨T107, L107, k107, n107⟩, -, X107, ⟨Lc107, hQ107, l107, y107, z107⟩, st107⟩ := X106.virtualBack hx (y := (⟨"com/example/call_throttle/callthrottle/KeyQueue", "isEmpty", "()Z"⟩ : MethodName)) (z := (⟨"com/example/call_throttle/callthrottle/KeyQueue", "isEmpty", "()Z"⟩ : MethodName)) hown (mvT hZ (hw _ (List.mem_of_getElem? (i := 48) rfl))) (mvT hZ (hw _ (List.mem_of_getElem? (i := 49) rfl))) (notFace_of_selects (args := #[]) (mvT hZ (hw _ (List.mem_of_getElem? (i := 51) rfl)))) (mvT hZ (hw _ (List.mem_of_getElem? (i := 51) rfl))) (mvT hZ (hw _ (List.mem_of_getElem? (i := 50) rfl))) (by decide) (backOf (W := 0) (own_m_ie l Z a0 hw [] (b46) ((((((0 : Int64) + (1 : Int64)) - (1 : Int64)) + (1 : Int64)) + (1 : Int64))) T106.heap n0 (Nat.le_trans Z0 K106.1) Fq106_4) hZ (hw _ (List.mem_of_getElem? (i := 52) rfl)) (hw _ (List.mem_of_getElem? (i := 2) rfl)) (by decide) (by decide)) q107a q107c (g := (mkF m 201 #[.val (.int p1), .val (.int p2), .val (.ref b46), .val (.ref r_48), .val (.int (1 : Int32)), .val (.int (((((0 : Int32) + (1 : Int32)) - (1 : Int32)) + (1 : Int32)) + (1 : Int32)))] [(.ref b46)])) rfl (by rw [hml]; rfl) (Steps.refl _) (argsL := []) (rest := []) (lenOf own_pd7 rfl) rfl (by show 2 * 0 + _ ≤ _; exact Nat.le_of_eq rfl) (hb hby at_201) (fun _ _ => ⟨rfl, rfl, (by decide : 5 + 0 ≤ _), (by decide : 1036 + 0 ≤ _)⟩)
          dsimp only [Pt.U, Pt.locs, Pt.cells, Pt.slots] at X107 l107 y107 z107 st107 hQ107
          subst l107 y107 z107
          obtain ⟨rfl, Nq107, Kq107⟩ := hQ107
          have N107 := Fr.app N106 Nq107
          have e107 : T107.heap = T106.heap := Kq107
          refine own_step (U' := (T107.setTop (mkF m 204 #[.val (.int p1), .val (.int p2), .val (.ref b46), .val (.ref r_48), .val (.int (1 : Int32)), .val (.int (((((0 : Int32) + (1 : Int32)) - (1 : Int32)) + (1 : Int32)) + (1 : Int32)))] [(.int (own_ie (((((0 : Int64) + (1 : Int64)) - (1 : Int64)) + (1 : Int64)) + (1 : Int64))))]))) (fun t ht => st107.trans ht) ?_
          refine own_step (U' := (T107.setTop (mkF m 206 #[.val (.int p1), .val (.int p2), .val (.ref b46), .val (.ref r_48), .val (.int (1 : Int32)), .val (.int (((((0 : Int32) + (1 : Int32)) - (1 : Int32)) + (1 : Int32)) + (1 : Int32)))] [(.int (((((0 : Int32) + (1 : Int32)) - (1 : Int32)) + (1 : Int32)) + (1 : Int32))), (.int (own_ie (((((0 : Int64) + (1 : Int64)) - (1 : Int64)) + (1 : Int64)) + (1 : Int64))))]))) (fun t ht => XS.iload X107.here hx rfl (hb hby at_204) rfl ht) ?_
          refine own_step (U' := (T107.setTop (mkF m 213 #[.val (.int p1), .val (.int p2), .val (.ref b46), .val (.ref r_48), .val (.int (1 : Int32)), .val (.int (((((0 : Int32) + (1 : Int32)) - (1 : Int32)) + (1 : Int32)) + (1 : Int32)))] [(.int (own_ie (((((0 : Int64) + (1 : Int64)) - (1 : Int64)) + (1 : Int64)) + (1 : Int64))))]))) (fun t ht => XS.ifYes X107.here hx rfl (pc0 := 206) (pc' := 213) rfl (hb hby at_206) rfl (XT.i0_ne_t ((by decide) : ¬ ((((((0 : Int32) + (1 : Int32)) - (1 : Int32)) + (1 : Int32)) + (1 : Int32)) = 0))) (by decide) (by decide) ht) ?_
          refine own_step (U' := (T107.setTop (mkF m 214 #[.val (.int p1), .val (.int p2), .val (.ref b46), .val (.ref r_48), .val (.int (1 : Int32)), .val (.int (((((0 : Int32) + (1 : Int32)) - (1 : Int32)) + (1 : Int32)) + (1 : Int32)))] [(.int (0 : Int32)), (.int (own_ie (((((0 : Int64) + (1 : Int64)) - (1 : Int64)) + (1 : Int64)) + (1 : Int64))))]))) (fun t ht => XS.iconst X107.here hx rfl (hb hby at_213) ht) ?_
          refine own_step (U' := (T107.setTop (mkF m 217 #[.val (.int p1), .val (.int p2), .val (.ref b46), .val (.ref r_48), .val (.int (1 : Int32)), .val (.int (((((0 : Int32) + (1 : Int32)) - (1 : Int32)) + (1 : Int32)) + (1 : Int32)))] []))) (fun t ht => XS.icmpNo X107.here hx rfl (hb hby at_214) rfl (XT.ii_ne_f ((by decide) : (own_ie (((((0 : Int64) + (1 : Int64)) - (1 : Int64)) + (1 : Int64)) + (1 : Int64))) = (0 : Int32))) ht) ?_
          refine own_step (U' := (T107.setTop (mkF m 218 #[.val (.int p1), .val (.int p2), .val (.ref b46), .val (.ref r_48), .val (.int (1 : Int32)), .val (.int (((((0 : Int32) + (1 : Int32)) - (1 : Int32)) + (1 : Int32)) + (1 : Int32)))] [(.int (1 : Int32))]))) (fun t ht => XS.iconst X107.here hx rfl (hb hby at_217) ht) ?_
          refine own_step (U' := (T107.setTop (mkF m 222 #[.val (.int p1), .val (.int p2), .val (.ref b46), .val (.ref r_48), .val (.int (1 : Int32)), .val (.int (((((0 : Int32) + (1 : Int32)) - (1 : Int32)) + (1 : Int32)) + (1 : Int32)))] [(.int (1 : Int32))]))) (fun t ht => XS.goto X107.here hx rfl (pc0 := 218) (pc' := 222) rfl (hb hby at_218) (by decide) (by decide) ht) ?_
          refine own_step (U' := (T107.setTop (mkF m 224 #[.val (.int p1), .val (.int p2), .val (.ref b46), .val (.ref r_48), .val (.int (1 : Int32)), .val (.int (((((0 : Int32) + (1 : Int32)) - (1 : Int32)) + (1 : Int32)) + (1 : Int32)))] []))) (fun t ht => XS.istore X107.here hx rfl (hb hby at_222) rfl (l' := #[.val (.int p1), .val (.int p2), .val (.ref b46), .val (.ref r_48), .val (.int (1 : Int32)), .val (.int (((((0 : Int32) + (1 : Int32)) - (1 : Int32)) + (1 : Int32)) + (1 : Int32)))]) rfl ht) ?_
          refine own_step (U' := (T107.setTop (mkF m 226 #[.val (.int p1), .val (.int p2), .val (.ref b46), .val (.ref r_48), .val (.int (1 : Int32)), .val (.int (((((0 : Int32) + (1 : Int32)) - (1 : Int32)) + (1 : Int32)) + (1 : Int32)))] [(.int (1 : Int32))]))) (fun t ht => XS.iload X107.here hx rfl (hb hby at_224) rfl ht) ?_
          refine own_ret X107 (v := (some (.int (nar .boolean (1 : Int32))))) (fun h => by rw [Bd.returns] at h; cases h) Bd.notSynchronized (by decide) (by decide) ?_ (fun fs hr => retN X107 hx (t := .boolean) Bd.returns (by simp) (hb hby at_226) hr)
          show own_Q_law Z p1 p2 cz h0 n0 _ T107.heap _
          rw [e107]
          exact ⟨rfl, N107⟩
    ·
      refine own_step (U' := (T89.setTop (mkF m 85 #[.val (.int p1), .val (.int p2), .val (.ref b46), .val (.ref r_48), .val (.int (1 : Int32)), .val (.int ((0 : Int32) + (1 : Int32)))] [(.int ((0 : Int32) + (1 : Int32))), (.ref b46)]))) (fun t ht => XS.ifNo X89.here hx rfl (hb hby at_82) rfl (XT.i0_eq_f hc82_90) ht) ?_
      refine own_step (U' := (T89.setTop (mkF m 86 #[.val (.int p1), .val (.int p2), .val (.ref b46), .val (.ref r_48), .val (.int (1 : Int32)), .val (.int ((0 : Int32) + (1 : Int32)))] [(.int (1 : Int32)), (.int ((0 : Int32) + (1 : Int32))), (.ref b46)]))) (fun t ht => XS.iconst X89.here hx rfl (hb hby at_85) ht) ?_
      refine own_step (U' := (T89.setTop (mkF m 90 #[.val (.int p1), .val (.int p2), .val (.ref b46), .val (.ref r_48), .val (.int (1 : Int32)), .val (.int ((0 : Int32) + (1 : Int32)))] [(.int (1 : Int32)), (.int ((0 : Int32) + (1 : Int32))), (.ref b46)]))) (fun t ht => XS.goto X89.here hx rfl (pc0 := 86) (pc' := 90) rfl (hb hby at_86) (by decide) (by decide) ht) ?_
      refine own_step (U' := (T89.setTop (mkF m 91 #[.val (.int p1), .val (.int p2), .val (.ref b46), .val (.ref r_48), .val (.int (1 : Int32)), .val (.int ((0 : Int32) + (1 : Int32)))] [(.ref r_48), (.int (1 : Int32)), (.int ((0 : Int32) + (1 : Int32))), (.ref b46)]))) (fun t ht => XS.aloadN X89.here hx rfl (hb hby at_90) rfl rfl ht) ?_
      obtain ⟨_, _, ⟨T108, L108, k108, n108⟩, -, X108, ⟨Lc108, hQ108, l108, y108, z108⟩, st108⟩ := Jvm.LawKit.callS X89 hx (y := (⟨"com/example/call_throttle/callthrottle/KeyQueueIsEmptyPinLaw", "step", "(Lcom/example/call_throttle/callthrottle/KeyQueue;IZLjava/lang/String;)I"⟩ : MethodName)) hown (mvT hZ (hw _ (List.mem_of_getElem? (i := 55) rfl))) (mvT hZ (hw _ (List.mem_of_getElem? (i := 56) rfl))) (mvT hZ (hw _ (List.mem_of_getElem? (i := 57) rfl))) (mvT hZ (hw _ (List.mem_of_getElem? (i := 58) rfl))) (by decide) (backOf (W := 0) (own_m_stA l Z a0 hw [] (b46) (c1_47) (r1_47) (kA_47) ((0 : Int32)) (((0 : Int32) + (1 : Int32))) (((0 : Int64) + (1 : Int64))) (([.null, .null, .null, .null].set 0 (.ref r_48))) ((.ref r_48)) (1) (((0 : Int32) + (1 : Int32))) T88.heap n0 (Nat.le_trans Z0 K88.1) g_b46 g_r1_47 p47_0 p47_1 Fq88_0 Fq88_1 Fq88_2 Fq88_3 Fq88_4 Fq88_5 Fq88_6 Fq88_7 Fq88_8 f88_10 p47_2 (by decide) (by decide) (by decide) rfl (Nat.le_of_ble_eq_true rfl)) hZ (hw _ (List.mem_of_getElem? (i := 58) rfl)) (hw _ (List.mem_of_getElem? (i := 57) rfl)) (by decide) (by decide)) (g := (mkF m 91 #[.val (.int p1), .val (.int p2), .val (.ref b46), .val (.ref r_48), .val (.int (1 : Int32)), .val (.int ((0 : Int32) + (1 : Int32)))] [(.ref r_48), (.int (1 : Int32)), (.int ((0 : Int32) + (1 : Int32))), (.ref b46)])) rfl (by rw [hml]; rfl) (argsL := [(.ref b46), (.int ((0 : Int32) + (1 : Int32))), (.int (1 : Int32)), (.ref r_48)]) (rest := []) (lenOf own_pd8 rfl) rfl (by show 2 * 0 + _ ≤ _; exact Nat.le_of_eq rfl) (hb hby at_91) (fun _ _ => ⟨rfl, e89, (by decide : 5 + 0 ≤ _), (by decide : 1036 + 0 ≤ _)⟩)
      dsimp only [Pt.U, Pt.locs, Pt.cells, Pt.slots] at X108 l108 y108 z108 st108 hQ108
      subst l108 y108 z108
      obtain ⟨rfl, Nq108, Kq108, Fq108_0, Fq108_1, Fq108_2, Fq108_3, Fq108_4, Fq108_5, Fq108_6, Fq108_7, Fq108_8⟩ := hQ108
      have N108 := Fr.app N89 Nq108
      have f108_0 : Sta Z T108.heap "java/lang/String" "COMPACT_STRINGS" "Z" (.int cz) := own_sta_keep f88_0 Kq108 (own_plF Fq88_0 (own_plV Fq88_8 own_pl0))
      have f108_1 : own_Key Z T108.heap (.ref r_48) := f88_10.keep Kq108
      have f108_7 : Exa Z T108.heap b46 "com/example/call_throttle/callthrottle/KeyQueue" := Fq88_5.keep Kq108
      have f108_8 : Fld Z T108.heap c1_47 "com/example/call_throttle/callthrottle/KeyQueue$Chunk" "keys" "[Ljava/lang/String;" (.ref r1_47) := Fq88_6.keep Kq108 (ninS (Ne.symm ne_b46_c1_47) (ninS p47_1 nin0))
      have f108_9 : Exa Z T108.heap c1_47 "com/example/call_throttle/callthrottle/KeyQueue$Chunk" := Fq88_7.keep Kq108
      have K108 : Keep h0 T108.heap [] := K88.trans Kq108 (allS (Or.inr sz_b46) (allS (Or.inr sz_r1_47) all0))
      refine own_step (U' := (T108.setTop (mkF m 94 #[.val (.int p1), .val (.int p2), .val (.ref b46), .val (.ref r_48), .val (.int (1 : Int32)), .val (.int ((0 : Int32) + (1 : Int32)))] [(.int (((0 : Int32) + (1 : Int32)) + (1 : Int32)))]))) (fun t ht => st108 _ ht) ?_
      refine own_step (U' := (T108.setTop (mkF m 96 #[.val (.int p1), .val (.int p2), .val (.ref b46), .val (.ref r_48), .val (.int (1 : Int32)), .val (.int (((0 : Int32) + (1 : Int32)) + (1 : Int32)))] []))) (fun t ht => XS.istore X108.here hx rfl (hb hby at_94) rfl (l' := #[.val (.int p1), .val (.int p2), .val (.ref b46), .val (.ref r_48), .val (.int (1 : Int32)), .val (.int (((0 : Int32) + (1 : Int32)) + (1 : Int32)))]) rfl ht) ?_
      refine own_step (U' := (T108.setTop (mkF m 98 #[.val (.int p1), .val (.int p2), .val (.ref b46), .val (.ref r_48), .val (.int (1 : Int32)), .val (.int (((0 : Int32) + (1 : Int32)) + (1 : Int32)))] [(.int (1 : Int32))]))) (fun t ht => XS.iload X108.here hx rfl (hb hby at_96) rfl ht) ?_
      refine own_step (U' := (T108.setTop (mkF m 101 #[.val (.int p1), .val (.int p2), .val (.ref b46), .val (.ref r_48), .val (.int (1 : Int32)), .val (.int (((0 : Int32) + (1 : Int32)) + (1 : Int32)))] []))) (fun t ht => XS.ifNo X108.here hx rfl (hb hby at_98) rfl (XT.i0_eq_f ((by decide) : ¬ ((1 : Int32) = 0))) ht) ?_
      refine own_step (U' := (T108.setTop (mkF m 102 #[.val (.int p1), .val (.int p2), .val (.ref b46), .val (.ref r_48), .val (.int (1 : Int32)), .val (.int (((0 : Int32) + (1 : Int32)) + (1 : Int32)))] [(.ref b46)]))) (fun t ht => XS.aloadN X108.here hx rfl (hb hby at_101) rfl rfl ht) ?_
      obtain ⟨cq109, kq109, q109a, q109b, q109c⟩ := isOf hZ rfl Fq108_5
      obtain ⟨_, _, ⟨T109, L109, k109, n109⟩, -, X109, ⟨Lc109, hQ109, l109, y109, z109⟩, st109⟩ := X108.virtualBack hx (y := (⟨"com/example/call_throttle/callthrottle/KeyQueue", "isEmpty", "()Z"⟩ : MethodName)) (z := (⟨"com/example/call_throttle/callthrottle/KeyQueue", "isEmpty", "()Z"⟩ : MethodName)) hown (mvT hZ (hw _ (List.mem_of_getElem? (i := 48) rfl))) (mvT hZ (hw _ (List.mem_of_getElem? (i := 49) rfl))) (notFace_of_selects (args := #[]) (mvT hZ (hw _ (List.mem_of_getElem? (i := 51) rfl)))) (mvT hZ (hw _ (List.mem_of_getElem? (i := 51) rfl))) (mvT hZ (hw _ (List.mem_of_getElem? (i := 50) rfl))) (by decide) (backOf (W := 0) (own_m_ie l Z a0 hw [] (b46) ((((0 : Int64) + (1 : Int64)) + (1 : Int64))) T108.heap n0 (Nat.le_trans Z0 K108.1) Fq108_4) hZ (hw _ (List.mem_of_getElem? (i := 52) rfl)) (hw _ (List.mem_of_getElem? (i := 2) rfl)) (by decide) (by decide)) q109a q109c (g := (mkF m 102 #[.val (.int p1), .val (.int p2), .val (.ref b46), .val (.ref r_48), .val (.int (1 : Int32)), .val (.int (((0 : Int32) + (1 : Int32)) + (1 : Int32)))] [(.ref b46)])) rfl (by rw [hml]; rfl) (Steps.refl _) (argsL := []) (rest := []) (lenOf own_pd7 rfl) rfl (by show 2 * 0 + _ ≤ _; exact Nat.le_of_eq rfl) (hb hby at_102) (fun _ _ => ⟨rfl, rfl, (by decide : 5 + 0 ≤ _), (by decide : 1036 + 0 ≤ _)⟩)
      dsimp only [Pt.U, Pt.locs, Pt.cells, Pt.slots] at X109 l109 y109 z109 st109 hQ109
      subst l109 y109 z109
      obtain ⟨rfl, Nq109, Kq109⟩ := hQ109
      have N109 := Fr.app N108 Nq109
      have e109 : T109.heap = T108.heap := Kq109
      refine own_step (U' := (T109.setTop (mkF m 105 #[.val (.int p1), .val (.int p2), .val (.ref b46), .val (.ref r_48), .val (.int (1 : Int32)), .val (.int (((0 : Int32) + (1 : Int32)) + (1 : Int32)))] [(.int (own_ie (((0 : Int64) + (1 : Int64)) + (1 : Int64))))]))) (fun t ht => st109.trans ht) ?_
      refine own_step (U' := (T109.setTop (mkF m 107 #[.val (.int p1), .val (.int p2), .val (.ref b46), .val (.ref r_48), .val (.int (1 : Int32)), .val (.int (((0 : Int32) + (1 : Int32)) + (1 : Int32)))] [(.int (((0 : Int32) + (1 : Int32)) + (1 : Int32))), (.int (own_ie (((0 : Int64) + (1 : Int64)) + (1 : Int64))))]))) (fun t ht => XS.iload X109.here hx rfl (hb hby at_105) rfl ht) ?_
      refine own_step (U' := (T109.setTop (mkF m 114 #[.val (.int p1), .val (.int p2), .val (.ref b46), .val (.ref r_48), .val (.int (1 : Int32)), .val (.int (((0 : Int32) + (1 : Int32)) + (1 : Int32)))] [(.int (own_ie (((0 : Int64) + (1 : Int64)) + (1 : Int64))))]))) (fun t ht => XS.ifYes X109.here hx rfl (pc0 := 107) (pc' := 114) rfl (hb hby at_107) rfl (XT.i0_ne_t ((by decide) : ¬ ((((0 : Int32) + (1 : Int32)) + (1 : Int32)) = 0))) (by decide) (by decide) ht) ?_
      refine own_step (U' := (T109.setTop (mkF m 115 #[.val (.int p1), .val (.int p2), .val (.ref b46), .val (.ref r_48), .val (.int (1 : Int32)), .val (.int (((0 : Int32) + (1 : Int32)) + (1 : Int32)))] [(.int (0 : Int32)), (.int (own_ie (((0 : Int64) + (1 : Int64)) + (1 : Int64))))]))) (fun t ht => XS.iconst X109.here hx rfl (hb hby at_114) ht) ?_
      refine own_step (U' := (T109.setTop (mkF m 118 #[.val (.int p1), .val (.int p2), .val (.ref b46), .val (.ref r_48), .val (.int (1 : Int32)), .val (.int (((0 : Int32) + (1 : Int32)) + (1 : Int32)))] []))) (fun t ht => XS.icmpNo X109.here hx rfl (hb hby at_115) rfl (XT.ii_ne_f ((by decide) : (own_ie (((0 : Int64) + (1 : Int64)) + (1 : Int64))) = (0 : Int32))) ht) ?_
      refine own_step (U' := (T109.setTop (mkF m 119 #[.val (.int p1), .val (.int p2), .val (.ref b46), .val (.ref r_48), .val (.int (1 : Int32)), .val (.int (((0 : Int32) + (1 : Int32)) + (1 : Int32)))] [(.int (1 : Int32))]))) (fun t ht => XS.iconst X109.here hx rfl (hb hby at_118) ht) ?_
      refine own_step (U' := (T109.setTop (mkF m 123 #[.val (.int p1), .val (.int p2), .val (.ref b46), .val (.ref r_48), .val (.int (1 : Int32)), .val (.int (((0 : Int32) + (1 : Int32)) + (1 : Int32)))] [(.int (1 : Int32))]))) (fun t ht => XS.goto X109.here hx rfl (pc0 := 119) (pc' := 123) rfl (hb hby at_119) (by decide) (by decide) ht) ?_
      refine own_step (U' := (T109.setTop (mkF m 125 #[.val (.int p1), .val (.int p2), .val (.ref b46), .val (.ref r_48), .val (.int (1 : Int32)), .val (.int (((0 : Int32) + (1 : Int32)) + (1 : Int32)))] []))) (fun t ht => XS.istore X109.here hx rfl (hb hby at_123) rfl (l' := #[.val (.int p1), .val (.int p2), .val (.ref b46), .val (.ref r_48), .val (.int (1 : Int32)), .val (.int (((0 : Int32) + (1 : Int32)) + (1 : Int32)))]) rfl ht) ?_
      refine own_step (U' := (T109.setTop (mkF m 126 #[.val (.int p1), .val (.int p2), .val (.ref b46), .val (.ref r_48), .val (.int (1 : Int32)), .val (.int (((0 : Int32) + (1 : Int32)) + (1 : Int32)))] [(.ref b46)]))) (fun t ht => XS.aloadN X109.here hx rfl (hb hby at_125) rfl rfl ht) ?_
      refine own_step (U' := (T109.setTop (mkF m 128 #[.val (.int p1), .val (.int p2), .val (.ref b46), .val (.ref r_48), .val (.int (1 : Int32)), .val (.int (((0 : Int32) + (1 : Int32)) + (1 : Int32)))] [(.int (((0 : Int32) + (1 : Int32)) + (1 : Int32))), (.ref b46)]))) (fun t ht => XS.iload X109.here hx rfl (hb hby at_126) rfl ht) ?_
      refine own_step (U' := (T109.setTop (mkF m 129 #[.val (.int p1), .val (.int p2), .val (.ref b46), .val (.ref r_48), .val (.int (1 : Int32)), .val (.int (((0 : Int32) + (1 : Int32)) + (1 : Int32)))] [(.int p1), (.int (((0 : Int32) + (1 : Int32)) + (1 : Int32))), (.ref b46)]))) (fun t ht => XS.iloadN X109.here hx rfl (hb hby at_128) rfl ht) ?_
      refine own_step (U' := (T109.setTop (mkF m 130 #[.val (.int p1), .val (.int p2), .val (.ref b46), .val (.ref r_48), .val (.int (1 : Int32)), .val (.int (((0 : Int32) + (1 : Int32)) + (1 : Int32)))] [(.int (4 : Int32)), (.int p1), (.int (((0 : Int32) + (1 : Int32)) + (1 : Int32))), (.ref b46)]))) (fun t ht => XS.iconst X109.here hx rfl (hb hby at_129) ht) ?_
      refine own_step (U' := (T109.setTop (mkF m 131 #[.val (.int p1), .val (.int p2), .val (.ref b46), .val (.ref r_48), .val (.int (1 : Int32)), .val (.int (((0 : Int32) + (1 : Int32)) + (1 : Int32)))] [(.int (p1 &&& (4 : Int32))), (.int (((0 : Int32) + (1 : Int32)) + (1 : Int32))), (.ref b46)]))) (fun t ht => XS.iand X109.here hx rfl (hb hby at_130) rfl ht) ?_
      by_cases hc131_110 : (p1 &&& (4 : Int32)) = 0
      ·
        refine own_step (U' := (T109.setTop (mkF m 138 #[.val (.int p1), .val (.int p2), .val (.ref b46), .val (.ref r_48), .val (.int (1 : Int32)), .val (.int (((0 : Int32) + (1 : Int32)) + (1 : Int32)))] [(.int (((0 : Int32) + (1 : Int32)) + (1 : Int32))), (.ref b46)]))) (fun t ht => XS.ifYes X109.here hx rfl (pc0 := 131) (pc' := 138) rfl (hb hby at_131) rfl (XT.i0_eq_t hc131_110) (by decide) (by decide) ht) ?_
        refine own_step (U' := (T109.setTop (mkF m 139 #[.val (.int p1), .val (.int p2), .val (.ref b46), .val (.ref r_48), .val (.int (1 : Int32)), .val (.int (((0 : Int32) + (1 : Int32)) + (1 : Int32)))] [(.int (0 : Int32)), (.int (((0 : Int32) + (1 : Int32)) + (1 : Int32))), (.ref b46)]))) (fun t ht => XS.iconst X109.here hx rfl (hb hby at_138) ht) ?_
        refine own_step (U' := (T109.setTop (mkF m 140 #[.val (.int p1), .val (.int p2), .val (.ref b46), .val (.ref r_48), .val (.int (1 : Int32)), .val (.int (((0 : Int32) + (1 : Int32)) + (1 : Int32)))] [(.ref r_48), (.int (0 : Int32)), (.int (((0 : Int32) + (1 : Int32)) + (1 : Int32))), (.ref b46)]))) (fun t ht => XS.aloadN X109.here hx rfl (hb hby at_139) rfl rfl ht) ?_
        obtain ⟨_, _, ⟨T111, L111, k111, n111⟩, -, X111, ⟨Lc111, hQ111, l111, y111, z111⟩, st111⟩ := Jvm.LawKit.callS X109 hx (y := (⟨"com/example/call_throttle/callthrottle/KeyQueueIsEmptyPinLaw", "step", "(Lcom/example/call_throttle/callthrottle/KeyQueue;IZLjava/lang/String;)I"⟩ : MethodName)) hown (mvT hZ (hw _ (List.mem_of_getElem? (i := 55) rfl))) (mvT hZ (hw _ (List.mem_of_getElem? (i := 56) rfl))) (mvT hZ (hw _ (List.mem_of_getElem? (i := 57) rfl))) (mvT hZ (hw _ (List.mem_of_getElem? (i := 58) rfl))) (by decide) (backOf (W := 0) (own_m_stR l Z a0 hw [] (b46) (c1_47) (r1_47) (kA_47) ((0 : Int32)) ((((0 : Int32) + (1 : Int32)) + (1 : Int32))) ((((0 : Int64) + (1 : Int64)) + (1 : Int64))) ((([.null, .null, .null, .null].set 0 (.ref r_48)).set 1 (.ref r_48))) ((.ref r_48)) ((.ref r_48)) (0) ((((0 : Int32) + (1 : Int32)) + (1 : Int32))) T108.heap n0 (Nat.le_trans Z0 K108.1) g_b46 g_r1_47 p47_0 p47_1 Fq108_0 Fq108_1 Fq108_2 Fq108_3 Fq108_4 Fq108_5 Fq108_6 Fq108_7 Fq108_8 (by decide) (by decide) (by decide) (by decide) rfl (Nat.le_of_ble_eq_true rfl) rfl rfl rfl (by decide)) hZ (hw _ (List.mem_of_getElem? (i := 58) rfl)) (hw _ (List.mem_of_getElem? (i := 57) rfl)) (by decide) (by decide)) (g := (mkF m 140 #[.val (.int p1), .val (.int p2), .val (.ref b46), .val (.ref r_48), .val (.int (1 : Int32)), .val (.int (((0 : Int32) + (1 : Int32)) + (1 : Int32)))] [(.ref r_48), (.int (0 : Int32)), (.int (((0 : Int32) + (1 : Int32)) + (1 : Int32))), (.ref b46)])) rfl (by rw [hml]; rfl) (argsL := [(.ref b46), (.int (((0 : Int32) + (1 : Int32)) + (1 : Int32))), (.int (0 : Int32)), (.ref r_48)]) (rest := []) (lenOf own_pd8 rfl) rfl (by show 2 * 0 + _ ≤ _; exact Nat.le_of_eq rfl) (hb hby at_140) (fun _ _ => ⟨rfl, e109, (by decide : 5 + 0 ≤ _), (by decide : 1036 + 0 ≤ _)⟩)
        dsimp only [Pt.U, Pt.locs, Pt.cells, Pt.slots] at X111 l111 y111 z111 st111 hQ111
        subst l111 y111 z111
        obtain ⟨rfl, Nq111, Kq111, Fq111_0, Fq111_1, Fq111_2, Fq111_3, Fq111_4, Fq111_5, Fq111_6, Fq111_7, Fq111_8⟩ := hQ111
        have N111 := Fr.app N109 Nq111
        have f111_0 : Sta Z T111.heap "java/lang/String" "COMPACT_STRINGS" "Z" (.int cz) := own_sta_keep f108_0 Kq111 (own_plF Fq108_0 (own_plV Fq108_8 own_pl0))
        have f111_1 : own_Key Z T111.heap (.ref r_48) := f108_1.keep Kq111
        have f111_7 : Exa Z T111.heap b46 "com/example/call_throttle/callthrottle/KeyQueue" := Fq108_5.keep Kq111
        have f111_8 : Fld Z T111.heap c1_47 "com/example/call_throttle/callthrottle/KeyQueue$Chunk" "keys" "[Ljava/lang/String;" (.ref r1_47) := Fq108_6.keep Kq111 (ninS (Ne.symm ne_b46_c1_47) (ninS p47_1 nin0))
        have f111_9 : Exa Z T111.heap c1_47 "com/example/call_throttle/callthrottle/KeyQueue$Chunk" := Fq108_7.keep Kq111
        have K111 : Keep h0 T111.heap [] := K108.trans Kq111 (allS (Or.inr sz_b46) (allS (Or.inr sz_r1_47) all0))
        refine own_step (U' := (T111.setTop (mkF m 143 #[.val (.int p1), .val (.int p2), .val (.ref b46), .val (.ref r_48), .val (.int (1 : Int32)), .val (.int (((0 : Int32) + (1 : Int32)) + (1 : Int32)))] [(.int ((((0 : Int32) + (1 : Int32)) + (1 : Int32)) - (1 : Int32)))]))) (fun t ht => st111 _ ht) ?_
        refine own_step (U' := (T111.setTop (mkF m 145 #[.val (.int p1), .val (.int p2), .val (.ref b46), .val (.ref r_48), .val (.int (1 : Int32)), .val (.int ((((0 : Int32) + (1 : Int32)) + (1 : Int32)) - (1 : Int32)))] []))) (fun t ht => XS.istore X111.here hx rfl (hb hby at_143) rfl (l' := #[.val (.int p1), .val (.int p2), .val (.ref b46), .val (.ref r_48), .val (.int (1 : Int32)), .val (.int ((((0 : Int32) + (1 : Int32)) + (1 : Int32)) - (1 : Int32)))]) rfl ht) ?_
        refine own_step (U' := (T111.setTop (mkF m 147 #[.val (.int p1), .val (.int p2), .val (.ref b46), .val (.ref r_48), .val (.int (1 : Int32)), .val (.int ((((0 : Int32) + (1 : Int32)) + (1 : Int32)) - (1 : Int32)))] [(.int (1 : Int32))]))) (fun t ht => XS.iload X111.here hx rfl (hb hby at_145) rfl ht) ?_
        refine own_step (U' := (T111.setTop (mkF m 150 #[.val (.int p1), .val (.int p2), .val (.ref b46), .val (.ref r_48), .val (.int (1 : Int32)), .val (.int ((((0 : Int32) + (1 : Int32)) + (1 : Int32)) - (1 : Int32)))] []))) (fun t ht => XS.ifNo X111.here hx rfl (hb hby at_147) rfl (XT.i0_eq_f ((by decide) : ¬ ((1 : Int32) = 0))) ht) ?_
        refine own_step (U' := (T111.setTop (mkF m 151 #[.val (.int p1), .val (.int p2), .val (.ref b46), .val (.ref r_48), .val (.int (1 : Int32)), .val (.int ((((0 : Int32) + (1 : Int32)) + (1 : Int32)) - (1 : Int32)))] [(.ref b46)]))) (fun t ht => XS.aloadN X111.here hx rfl (hb hby at_150) rfl rfl ht) ?_
        obtain ⟨cq112, kq112, q112a, q112b, q112c⟩ := isOf hZ rfl Fq111_5
        obtain ⟨_, _, ⟨T112, L112, k112, n112⟩, -, X112, ⟨Lc112, hQ112, l112, y112, z112⟩, st112⟩ := X111.virtualBack hx (y := (⟨"com/example/call_throttle/callthrottle/KeyQueue", "isEmpty", "()Z"⟩ : MethodName)) (z := (⟨"com/example/call_throttle/callthrottle/KeyQueue", "isEmpty", "()Z"⟩ : MethodName)) hown (mvT hZ (hw _ (List.mem_of_getElem? (i := 48) rfl))) (mvT hZ (hw _ (List.mem_of_getElem? (i := 49) rfl))) (notFace_of_selects (args := #[]) (mvT hZ (hw _ (List.mem_of_getElem? (i := 51) rfl)))) (mvT hZ (hw _ (List.mem_of_getElem? (i := 51) rfl))) (mvT hZ (hw _ (List.mem_of_getElem? (i := 50) rfl))) (by decide) (backOf (W := 0) (own_m_ie l Z a0 hw [] (b46) (((((0 : Int64) + (1 : Int64)) + (1 : Int64)) - (1 : Int64))) T111.heap n0 (Nat.le_trans Z0 K111.1) Fq111_4) hZ (hw _ (List.mem_of_getElem? (i := 52) rfl)) (hw _ (List.mem_of_getElem? (i := 2) rfl)) (by decide) (by decide)) q112a q112c (g := (mkF m 151 #[.val (.int p1), .val (.int p2), .val (.ref b46), .val (.ref r_48), .val (.int (1 : Int32)), .val (.int ((((0 : Int32) + (1 : Int32)) + (1 : Int32)) - (1 : Int32)))] [(.ref b46)])) rfl (by rw [hml]; rfl) (Steps.refl _) (argsL := []) (rest := []) (lenOf own_pd7 rfl) rfl (by show 2 * 0 + _ ≤ _; exact Nat.le_of_eq rfl) (hb hby at_151) (fun _ _ => ⟨rfl, rfl, (by decide : 5 + 0 ≤ _), (by decide : 1036 + 0 ≤ _)⟩)
        dsimp only [Pt.U, Pt.locs, Pt.cells, Pt.slots] at X112 l112 y112 z112 st112 hQ112
        subst l112 y112 z112
        obtain ⟨rfl, Nq112, Kq112⟩ := hQ112
        have N112 := Fr.app N111 Nq112
        have e112 : T112.heap = T111.heap := Kq112
        refine own_step (U' := (T112.setTop (mkF m 154 #[.val (.int p1), .val (.int p2), .val (.ref b46), .val (.ref r_48), .val (.int (1 : Int32)), .val (.int ((((0 : Int32) + (1 : Int32)) + (1 : Int32)) - (1 : Int32)))] [(.int (own_ie ((((0 : Int64) + (1 : Int64)) + (1 : Int64)) - (1 : Int64))))]))) (fun t ht => st112.trans ht) ?_
        refine own_step (U' := (T112.setTop (mkF m 156 #[.val (.int p1), .val (.int p2), .val (.ref b46), .val (.ref r_48), .val (.int (1 : Int32)), .val (.int ((((0 : Int32) + (1 : Int32)) + (1 : Int32)) - (1 : Int32)))] [(.int ((((0 : Int32) + (1 : Int32)) + (1 : Int32)) - (1 : Int32))), (.int (own_ie ((((0 : Int64) + (1 : Int64)) + (1 : Int64)) - (1 : Int64))))]))) (fun t ht => XS.iload X112.here hx rfl (hb hby at_154) rfl ht) ?_
        refine own_step (U' := (T112.setTop (mkF m 163 #[.val (.int p1), .val (.int p2), .val (.ref b46), .val (.ref r_48), .val (.int (1 : Int32)), .val (.int ((((0 : Int32) + (1 : Int32)) + (1 : Int32)) - (1 : Int32)))] [(.int (own_ie ((((0 : Int64) + (1 : Int64)) + (1 : Int64)) - (1 : Int64))))]))) (fun t ht => XS.ifYes X112.here hx rfl (pc0 := 156) (pc' := 163) rfl (hb hby at_156) rfl (XT.i0_ne_t ((by decide) : ¬ (((((0 : Int32) + (1 : Int32)) + (1 : Int32)) - (1 : Int32)) = 0))) (by decide) (by decide) ht) ?_
        refine own_step (U' := (T112.setTop (mkF m 164 #[.val (.int p1), .val (.int p2), .val (.ref b46), .val (.ref r_48), .val (.int (1 : Int32)), .val (.int ((((0 : Int32) + (1 : Int32)) + (1 : Int32)) - (1 : Int32)))] [(.int (0 : Int32)), (.int (own_ie ((((0 : Int64) + (1 : Int64)) + (1 : Int64)) - (1 : Int64))))]))) (fun t ht => XS.iconst X112.here hx rfl (hb hby at_163) ht) ?_
        refine own_step (U' := (T112.setTop (mkF m 167 #[.val (.int p1), .val (.int p2), .val (.ref b46), .val (.ref r_48), .val (.int (1 : Int32)), .val (.int ((((0 : Int32) + (1 : Int32)) + (1 : Int32)) - (1 : Int32)))] []))) (fun t ht => XS.icmpNo X112.here hx rfl (hb hby at_164) rfl (XT.ii_ne_f ((by decide) : (own_ie ((((0 : Int64) + (1 : Int64)) + (1 : Int64)) - (1 : Int64))) = (0 : Int32))) ht) ?_
        refine own_step (U' := (T112.setTop (mkF m 168 #[.val (.int p1), .val (.int p2), .val (.ref b46), .val (.ref r_48), .val (.int (1 : Int32)), .val (.int ((((0 : Int32) + (1 : Int32)) + (1 : Int32)) - (1 : Int32)))] [(.int (1 : Int32))]))) (fun t ht => XS.iconst X112.here hx rfl (hb hby at_167) ht) ?_
        refine own_step (U' := (T112.setTop (mkF m 172 #[.val (.int p1), .val (.int p2), .val (.ref b46), .val (.ref r_48), .val (.int (1 : Int32)), .val (.int ((((0 : Int32) + (1 : Int32)) + (1 : Int32)) - (1 : Int32)))] [(.int (1 : Int32))]))) (fun t ht => XS.goto X112.here hx rfl (pc0 := 168) (pc' := 172) rfl (hb hby at_168) (by decide) (by decide) ht) ?_
        refine own_step (U' := (T112.setTop (mkF m 174 #[.val (.int p1), .val (.int p2), .val (.ref b46), .val (.ref r_48), .val (.int (1 : Int32)), .val (.int ((((0 : Int32) + (1 : Int32)) + (1 : Int32)) - (1 : Int32)))] []))) (fun t ht => XS.istore X112.here hx rfl (hb hby at_172) rfl (l' := #[.val (.int p1), .val (.int p2), .val (.ref b46), .val (.ref r_48), .val (.int (1 : Int32)), .val (.int ((((0 : Int32) + (1 : Int32)) + (1 : Int32)) - (1 : Int32)))]) rfl ht) ?_
        refine own_step (U' := (T112.setTop (mkF m 175 #[.val (.int p1), .val (.int p2), .val (.ref b46), .val (.ref r_48), .val (.int (1 : Int32)), .val (.int ((((0 : Int32) + (1 : Int32)) + (1 : Int32)) - (1 : Int32)))] [(.ref b46)]))) (fun t ht => XS.aloadN X112.here hx rfl (hb hby at_174) rfl rfl ht) ?_
        refine own_step (U' := (T112.setTop (mkF m 177 #[.val (.int p1), .val (.int p2), .val (.ref b46), .val (.ref r_48), .val (.int (1 : Int32)), .val (.int ((((0 : Int32) + (1 : Int32)) + (1 : Int32)) - (1 : Int32)))] [(.int ((((0 : Int32) + (1 : Int32)) + (1 : Int32)) - (1 : Int32))), (.ref b46)]))) (fun t ht => XS.iload X112.here hx rfl (hb hby at_175) rfl ht) ?_
        refine own_step (U' := (T112.setTop (mkF m 178 #[.val (.int p1), .val (.int p2), .val (.ref b46), .val (.ref r_48), .val (.int (1 : Int32)), .val (.int ((((0 : Int32) + (1 : Int32)) + (1 : Int32)) - (1 : Int32)))] [(.int p1), (.int ((((0 : Int32) + (1 : Int32)) + (1 : Int32)) - (1 : Int32))), (.ref b46)]))) (fun t ht => XS.iloadN X112.here hx rfl (hb hby at_177) rfl ht) ?_
        refine own_step (U' := (T112.setTop (mkF m 180 #[.val (.int p1), .val (.int p2), .val (.ref b46), .val (.ref r_48), .val (.int (1 : Int32)), .val (.int ((((0 : Int32) + (1 : Int32)) + (1 : Int32)) - (1 : Int32)))] [(.int (8 : Int32)), (.int p1), (.int ((((0 : Int32) + (1 : Int32)) + (1 : Int32)) - (1 : Int32))), (.ref b46)]))) (fun t ht => XS.bipush X112.here hx rfl (hb hby at_178) ht) ?_
        refine own_step (U' := (T112.setTop (mkF m 181 #[.val (.int p1), .val (.int p2), .val (.ref b46), .val (.ref r_48), .val (.int (1 : Int32)), .val (.int ((((0 : Int32) + (1 : Int32)) + (1 : Int32)) - (1 : Int32)))] [(.int (p1 &&& (8 : Int32))), (.int ((((0 : Int32) + (1 : Int32)) + (1 : Int32)) - (1 : Int32))), (.ref b46)]))) (fun t ht => XS.iand X112.here hx rfl (hb hby at_180) rfl ht) ?_
        by_cases hc181_113 : (p1 &&& (8 : Int32)) = 0
        ·
          refine own_step (U' := (T112.setTop (mkF m 188 #[.val (.int p1), .val (.int p2), .val (.ref b46), .val (.ref r_48), .val (.int (1 : Int32)), .val (.int ((((0 : Int32) + (1 : Int32)) + (1 : Int32)) - (1 : Int32)))] [(.int ((((0 : Int32) + (1 : Int32)) + (1 : Int32)) - (1 : Int32))), (.ref b46)]))) (fun t ht => XS.ifYes X112.here hx rfl (pc0 := 181) (pc' := 188) rfl (hb hby at_181) rfl (XT.i0_eq_t hc181_113) (by decide) (by decide) ht) ?_
          refine own_step (U' := (T112.setTop (mkF m 189 #[.val (.int p1), .val (.int p2), .val (.ref b46), .val (.ref r_48), .val (.int (1 : Int32)), .val (.int ((((0 : Int32) + (1 : Int32)) + (1 : Int32)) - (1 : Int32)))] [(.int (0 : Int32)), (.int ((((0 : Int32) + (1 : Int32)) + (1 : Int32)) - (1 : Int32))), (.ref b46)]))) (fun t ht => XS.iconst X112.here hx rfl (hb hby at_188) ht) ?_
          refine own_step (U' := (T112.setTop (mkF m 190 #[.val (.int p1), .val (.int p2), .val (.ref b46), .val (.ref r_48), .val (.int (1 : Int32)), .val (.int ((((0 : Int32) + (1 : Int32)) + (1 : Int32)) - (1 : Int32)))] [(.ref r_48), (.int (0 : Int32)), (.int ((((0 : Int32) + (1 : Int32)) + (1 : Int32)) - (1 : Int32))), (.ref b46)]))) (fun t ht => XS.aloadN X112.here hx rfl (hb hby at_189) rfl rfl ht) ?_
          obtain ⟨_, _, ⟨T114, L114, k114, n114⟩, -, X114, ⟨Lc114, hQ114, l114, y114, z114⟩, st114⟩ := Jvm.LawKit.callS X112 hx (y := (⟨"com/example/call_throttle/callthrottle/KeyQueueIsEmptyPinLaw", "step", "(Lcom/example/call_throttle/callthrottle/KeyQueue;IZLjava/lang/String;)I"⟩ : MethodName)) hown (mvT hZ (hw _ (List.mem_of_getElem? (i := 55) rfl))) (mvT hZ (hw _ (List.mem_of_getElem? (i := 56) rfl))) (mvT hZ (hw _ (List.mem_of_getElem? (i := 57) rfl))) (mvT hZ (hw _ (List.mem_of_getElem? (i := 58) rfl))) (by decide) (backOf (W := 0) (own_m_stR l Z a0 hw [] (b46) (c1_47) (r1_47) (kA_47) (((0 : Int32) + (1 : Int32))) ((((0 : Int32) + (1 : Int32)) + (1 : Int32))) (((((0 : Int64) + (1 : Int64)) + (1 : Int64)) - (1 : Int64))) (((([.null, .null, .null, .null].set 0 (.ref r_48)).set 1 (.ref r_48)).set 0 .null)) ((.ref r_48)) ((.ref r_48)) (1) (((((0 : Int32) + (1 : Int32)) + (1 : Int32)) - (1 : Int32))) T111.heap n0 (Nat.le_trans Z0 K111.1) g_b46 g_r1_47 p47_0 p47_1 Fq111_0 Fq111_1 Fq111_2 Fq111_3 Fq111_4 Fq111_5 Fq111_6 Fq111_7 Fq111_8 (by decide) (by decide) (by decide) (by decide) rfl (Nat.le_of_ble_eq_true rfl) rfl rfl rfl (by decide)) hZ (hw _ (List.mem_of_getElem? (i := 58) rfl)) (hw _ (List.mem_of_getElem? (i := 57) rfl)) (by decide) (by decide)) (g := (mkF m 190 #[.val (.int p1), .val (.int p2), .val (.ref b46), .val (.ref r_48), .val (.int (1 : Int32)), .val (.int ((((0 : Int32) + (1 : Int32)) + (1 : Int32)) - (1 : Int32)))] [(.ref r_48), (.int (0 : Int32)), (.int ((((0 : Int32) + (1 : Int32)) + (1 : Int32)) - (1 : Int32))), (.ref b46)])) rfl (by rw [hml]; rfl) (argsL := [(.ref b46), (.int ((((0 : Int32) + (1 : Int32)) + (1 : Int32)) - (1 : Int32))), (.int (0 : Int32)), (.ref r_48)]) (rest := []) (lenOf own_pd8 rfl) rfl (by show 2 * 0 + _ ≤ _; exact Nat.le_of_eq rfl) (hb hby at_190) (fun _ _ => ⟨rfl, e112, (by decide : 5 + 0 ≤ _), (by decide : 1036 + 0 ≤ _)⟩)
          dsimp only [Pt.U, Pt.locs, Pt.cells, Pt.slots] at X114 l114 y114 z114 st114 hQ114
          subst l114 y114 z114
          obtain ⟨rfl, Nq114, Kq114, Fq114_0, Fq114_1, Fq114_2, Fq114_3, Fq114_4, Fq114_5, Fq114_6, Fq114_7, Fq114_8⟩ := hQ114
          have N114 := Fr.app N112 Nq114
          have f114_0 : Sta Z T114.heap "java/lang/String" "COMPACT_STRINGS" "Z" (.int cz) := own_sta_keep f111_0 Kq114 (own_plF Fq111_0 (own_plV Fq111_8 own_pl0))
          have f114_1 : own_Key Z T114.heap (.ref r_48) := f111_1.keep Kq114
          have f114_7 : Exa Z T114.heap b46 "com/example/call_throttle/callthrottle/KeyQueue" := Fq111_5.keep Kq114
          have f114_8 : Fld Z T114.heap c1_47 "com/example/call_throttle/callthrottle/KeyQueue$Chunk" "keys" "[Ljava/lang/String;" (.ref r1_47) := Fq111_6.keep Kq114 (ninS (Ne.symm ne_b46_c1_47) (ninS p47_1 nin0))
          have f114_9 : Exa Z T114.heap c1_47 "com/example/call_throttle/callthrottle/KeyQueue$Chunk" := Fq111_7.keep Kq114
          have K114 : Keep h0 T114.heap [] := K111.trans Kq114 (allS (Or.inr sz_b46) (allS (Or.inr sz_r1_47) all0))
          refine own_step (U' := (T114.setTop (mkF m 193 #[.val (.int p1), .val (.int p2), .val (.ref b46), .val (.ref r_48), .val (.int (1 : Int32)), .val (.int ((((0 : Int32) + (1 : Int32)) + (1 : Int32)) - (1 : Int32)))] [(.int (((((0 : Int32) + (1 : Int32)) + (1 : Int32)) - (1 : Int32)) - (1 : Int32)))]))) (fun t ht => st114 _ ht) ?_
          refine own_step (U' := (T114.setTop (mkF m 195 #[.val (.int p1), .val (.int p2), .val (.ref b46), .val (.ref r_48), .val (.int (1 : Int32)), .val (.int (((((0 : Int32) + (1 : Int32)) + (1 : Int32)) - (1 : Int32)) - (1 : Int32)))] []))) (fun t ht => XS.istore X114.here hx rfl (hb hby at_193) rfl (l' := #[.val (.int p1), .val (.int p2), .val (.ref b46), .val (.ref r_48), .val (.int (1 : Int32)), .val (.int (((((0 : Int32) + (1 : Int32)) + (1 : Int32)) - (1 : Int32)) - (1 : Int32)))]) rfl ht) ?_
          refine own_step (U' := (T114.setTop (mkF m 197 #[.val (.int p1), .val (.int p2), .val (.ref b46), .val (.ref r_48), .val (.int (1 : Int32)), .val (.int (((((0 : Int32) + (1 : Int32)) + (1 : Int32)) - (1 : Int32)) - (1 : Int32)))] [(.int (1 : Int32))]))) (fun t ht => XS.iload X114.here hx rfl (hb hby at_195) rfl ht) ?_
          refine own_step (U' := (T114.setTop (mkF m 200 #[.val (.int p1), .val (.int p2), .val (.ref b46), .val (.ref r_48), .val (.int (1 : Int32)), .val (.int (((((0 : Int32) + (1 : Int32)) + (1 : Int32)) - (1 : Int32)) - (1 : Int32)))] []))) (fun t ht => XS.ifNo X114.here hx rfl (hb hby at_197) rfl (XT.i0_eq_f ((by decide) : ¬ ((1 : Int32) = 0))) ht) ?_
          refine own_step (U' := (T114.setTop (mkF m 201 #[.val (.int p1), .val (.int p2), .val (.ref b46), .val (.ref r_48), .val (.int (1 : Int32)), .val (.int (((((0 : Int32) + (1 : Int32)) + (1 : Int32)) - (1 : Int32)) - (1 : Int32)))] [(.ref b46)]))) (fun t ht => XS.aloadN X114.here hx rfl (hb hby at_200) rfl rfl ht) ?_
          obtain ⟨cq115, kq115, q115a, q115b, q115c⟩ := isOf hZ rfl Fq114_5
          obtain ⟨_, _, ⟨T115, L115, k115, n115⟩, -, X115, ⟨Lc115, hQ115, l115, y115, z115⟩, st115⟩ := X114.virtualBack hx (y := (⟨"com/example/call_throttle/callthrottle/KeyQueue", "isEmpty", "()Z"⟩ : MethodName)) (z := (⟨"com/example/call_throttle/callthrottle/KeyQueue", "isEmpty", "()Z"⟩ : MethodName)) hown (mvT hZ (hw _ (List.mem_of_getElem? (i := 48) rfl))) (mvT hZ (hw _ (List.mem_of_getElem? (i := 49) rfl))) (notFace_of_selects (args := #[]) (mvT hZ (hw _ (List.mem_of_getElem? (i := 51) rfl)))) (mvT hZ (hw _ (List.mem_of_getElem? (i := 51) rfl))) (mvT hZ (hw _ (List.mem_of_getElem? (i := 50) rfl))) (by decide) (backOf (W := 0) (own_m_ie l Z a0 hw [] (b46) ((((((0 : Int64) + (1 : Int64)) + (1 : Int64)) - (1 : Int64)) - (1 : Int64))) T114.heap n0 (Nat.le_trans Z0 K114.1) Fq114_4) hZ (hw _ (List.mem_of_getElem? (i := 52) rfl)) (hw _ (List.mem_of_getElem? (i := 2) rfl)) (by decide) (by decide)) q115a q115c (g := (mkF m 201 #[.val (.int p1), .val (.int p2), .val (.ref b46), .val (.ref r_48), .val (.int (1 : Int32)), .val (.int (((((0 : Int32) + (1 : Int32)) + (1 : Int32)) - (1 : Int32)) - (1 : Int32)))] [(.ref b46)])) rfl (by rw [hml]; rfl) (Steps.refl _) (argsL := []) (rest := []) (lenOf own_pd7 rfl) rfl (by show 2 * 0 + _ ≤ _; exact Nat.le_of_eq rfl) (hb hby at_201) (fun _ _ => ⟨rfl, rfl, (by decide : 5 + 0 ≤ _), (by decide : 1036 + 0 ≤ _)⟩)
          dsimp only [Pt.U, Pt.locs, Pt.cells, Pt.slots] at X115 l115 y115 z115 st115 hQ115
          subst l115 y115 z115
          obtain ⟨rfl, Nq115, Kq115⟩ := hQ115
          have N115 := Fr.app N114 Nq115
          have e115 : T115.heap = T114.heap := Kq115
          refine own_step (U' := (T115.setTop (mkF m 204 #[.val (.int p1), .val (.int p2), .val (.ref b46), .val (.ref r_48), .val (.int (1 : Int32)), .val (.int (((((0 : Int32) + (1 : Int32)) + (1 : Int32)) - (1 : Int32)) - (1 : Int32)))] [(.int (own_ie (((((0 : Int64) + (1 : Int64)) + (1 : Int64)) - (1 : Int64)) - (1 : Int64))))]))) (fun t ht => st115.trans ht) ?_
          refine own_step (U' := (T115.setTop (mkF m 206 #[.val (.int p1), .val (.int p2), .val (.ref b46), .val (.ref r_48), .val (.int (1 : Int32)), .val (.int (((((0 : Int32) + (1 : Int32)) + (1 : Int32)) - (1 : Int32)) - (1 : Int32)))] [(.int (((((0 : Int32) + (1 : Int32)) + (1 : Int32)) - (1 : Int32)) - (1 : Int32))), (.int (own_ie (((((0 : Int64) + (1 : Int64)) + (1 : Int64)) - (1 : Int64)) - (1 : Int64))))]))) (fun t ht => XS.iload X115.here hx rfl (hb hby at_204) rfl ht) ?_
          refine own_step (U' := (T115.setTop (mkF m 209 #[.val (.int p1), .val (.int p2), .val (.ref b46), .val (.ref r_48), .val (.int (1 : Int32)), .val (.int (((((0 : Int32) + (1 : Int32)) + (1 : Int32)) - (1 : Int32)) - (1 : Int32)))] [(.int (own_ie (((((0 : Int64) + (1 : Int64)) + (1 : Int64)) - (1 : Int64)) - (1 : Int64))))]))) (fun t ht => XS.ifNo X115.here hx rfl (hb hby at_206) rfl (XT.i0_ne_f ((by decide) : (((((0 : Int32) + (1 : Int32)) + (1 : Int32)) - (1 : Int32)) - (1 : Int32)) = 0)) ht) ?_
          refine own_step (U' := (T115.setTop (mkF m 210 #[.val (.int p1), .val (.int p2), .val (.ref b46), .val (.ref r_48), .val (.int (1 : Int32)), .val (.int (((((0 : Int32) + (1 : Int32)) + (1 : Int32)) - (1 : Int32)) - (1 : Int32)))] [(.int (1 : Int32)), (.int (own_ie (((((0 : Int64) + (1 : Int64)) + (1 : Int64)) - (1 : Int64)) - (1 : Int64))))]))) (fun t ht => XS.iconst X115.here hx rfl (hb hby at_209) ht) ?_
          refine own_step (U' := (T115.setTop (mkF m 214 #[.val (.int p1), .val (.int p2), .val (.ref b46), .val (.ref r_48), .val (.int (1 : Int32)), .val (.int (((((0 : Int32) + (1 : Int32)) + (1 : Int32)) - (1 : Int32)) - (1 : Int32)))] [(.int (1 : Int32)), (.int (own_ie (((((0 : Int64) + (1 : Int64)) + (1 : Int64)) - (1 : Int64)) - (1 : Int64))))]))) (fun t ht => XS.goto X115.here hx rfl (pc0 := 210) (pc' := 214) rfl (hb hby at_210) (by decide) (by decide) ht) ?_
          refine own_step (U' := (T115.setTop (mkF m 217 #[.val (.int p1), .val (.int p2), .val (.ref b46), .val (.ref r_48), .val (.int (1 : Int32)), .val (.int (((((0 : Int32) + (1 : Int32)) + (1 : Int32)) - (1 : Int32)) - (1 : Int32)))] []))) (fun t ht => XS.icmpNo X115.here hx rfl (hb hby at_214) rfl (XT.ii_ne_f ((by decide) : (own_ie (((((0 : Int64) + (1 : Int64)) + (1 : Int64)) - (1 : Int64)) - (1 : Int64))) = (1 : Int32))) ht) ?_
          refine own_step (U' := (T115.setTop (mkF m 218 #[.val (.int p1), .val (.int p2), .val (.ref b46), .val (.ref r_48), .val (.int (1 : Int32)), .val (.int (((((0 : Int32) + (1 : Int32)) + (1 : Int32)) - (1 : Int32)) - (1 : Int32)))] [(.int (1 : Int32))]))) (fun t ht => XS.iconst X115.here hx rfl (hb hby at_217) ht) ?_
          refine own_step (U' := (T115.setTop (mkF m 222 #[.val (.int p1), .val (.int p2), .val (.ref b46), .val (.ref r_48), .val (.int (1 : Int32)), .val (.int (((((0 : Int32) + (1 : Int32)) + (1 : Int32)) - (1 : Int32)) - (1 : Int32)))] [(.int (1 : Int32))]))) (fun t ht => XS.goto X115.here hx rfl (pc0 := 218) (pc' := 222) rfl (hb hby at_218) (by decide) (by decide) ht) ?_
          refine own_step (U' := (T115.setTop (mkF m 224 #[.val (.int p1), .val (.int p2), .val (.ref b46), .val (.ref r_48), .val (.int (1 : Int32)), .val (.int (((((0 : Int32) + (1 : Int32)) + (1 : Int32)) - (1 : Int32)) - (1 : Int32)))] []))) (fun t ht => XS.istore X115.here hx rfl (hb hby at_222) rfl (l' := #[.val (.int p1), .val (.int p2), .val (.ref b46), .val (.ref r_48), .val (.int (1 : Int32)), .val (.int (((((0 : Int32) + (1 : Int32)) + (1 : Int32)) - (1 : Int32)) - (1 : Int32)))]) rfl ht) ?_
          refine own_step (U' := (T115.setTop (mkF m 226 #[.val (.int p1), .val (.int p2), .val (.ref b46), .val (.ref r_48), .val (.int (1 : Int32)), .val (.int (((((0 : Int32) + (1 : Int32)) + (1 : Int32)) - (1 : Int32)) - (1 : Int32)))] [(.int (1 : Int32))]))) (fun t ht => XS.iload X115.here hx rfl (hb hby at_224) rfl ht) ?_
          refine own_ret X115 (v := (some (.int (nar .boolean (1 : Int32))))) (fun h => by rw [Bd.returns] at h; cases h) Bd.notSynchronized (by decide) (by decide) ?_ (fun fs hr => retN X115 hx (t := .boolean) Bd.returns (by simp) (hb hby at_226) hr)
          show own_Q_law Z p1 p2 cz h0 n0 _ T115.heap _
          rw [e115]
          exact ⟨rfl, N115⟩
        ·
          refine own_step (U' := (T112.setTop (mkF m 184 #[.val (.int p1), .val (.int p2), .val (.ref b46), .val (.ref r_48), .val (.int (1 : Int32)), .val (.int ((((0 : Int32) + (1 : Int32)) + (1 : Int32)) - (1 : Int32)))] [(.int ((((0 : Int32) + (1 : Int32)) + (1 : Int32)) - (1 : Int32))), (.ref b46)]))) (fun t ht => XS.ifNo X112.here hx rfl (hb hby at_181) rfl (XT.i0_eq_f hc181_113) ht) ?_
          refine own_step (U' := (T112.setTop (mkF m 185 #[.val (.int p1), .val (.int p2), .val (.ref b46), .val (.ref r_48), .val (.int (1 : Int32)), .val (.int ((((0 : Int32) + (1 : Int32)) + (1 : Int32)) - (1 : Int32)))] [(.int (1 : Int32)), (.int ((((0 : Int32) + (1 : Int32)) + (1 : Int32)) - (1 : Int32))), (.ref b46)]))) (fun t ht => XS.iconst X112.here hx rfl (hb hby at_184) ht) ?_
          refine own_step (U' := (T112.setTop (mkF m 189 #[.val (.int p1), .val (.int p2), .val (.ref b46), .val (.ref r_48), .val (.int (1 : Int32)), .val (.int ((((0 : Int32) + (1 : Int32)) + (1 : Int32)) - (1 : Int32)))] [(.int (1 : Int32)), (.int ((((0 : Int32) + (1 : Int32)) + (1 : Int32)) - (1 : Int32))), (.ref b46)]))) (fun t ht => XS.goto X112.here hx rfl (pc0 := 185) (pc' := 189) rfl (hb hby at_185) (by decide) (by decide) ht) ?_
          refine own_step (U' := (T112.setTop (mkF m 190 #[.val (.int p1), .val (.int p2), .val (.ref b46), .val (.ref r_48), .val (.int (1 : Int32)), .val (.int ((((0 : Int32) + (1 : Int32)) + (1 : Int32)) - (1 : Int32)))] [(.ref r_48), (.int (1 : Int32)), (.int ((((0 : Int32) + (1 : Int32)) + (1 : Int32)) - (1 : Int32))), (.ref b46)]))) (fun t ht => XS.aloadN X112.here hx rfl (hb hby at_189) rfl rfl ht) ?_
          obtain ⟨_, _, ⟨T116, L116, k116, n116⟩, -, X116, ⟨Lc116, hQ116, l116, y116, z116⟩, st116⟩ := Jvm.LawKit.callS X112 hx (y := (⟨"com/example/call_throttle/callthrottle/KeyQueueIsEmptyPinLaw", "step", "(Lcom/example/call_throttle/callthrottle/KeyQueue;IZLjava/lang/String;)I"⟩ : MethodName)) hown (mvT hZ (hw _ (List.mem_of_getElem? (i := 55) rfl))) (mvT hZ (hw _ (List.mem_of_getElem? (i := 56) rfl))) (mvT hZ (hw _ (List.mem_of_getElem? (i := 57) rfl))) (mvT hZ (hw _ (List.mem_of_getElem? (i := 58) rfl))) (by decide) (backOf (W := 0) (own_m_stA l Z a0 hw [] (b46) (c1_47) (r1_47) (kA_47) (((0 : Int32) + (1 : Int32))) ((((0 : Int32) + (1 : Int32)) + (1 : Int32))) (((((0 : Int64) + (1 : Int64)) + (1 : Int64)) - (1 : Int64))) (((([.null, .null, .null, .null].set 0 (.ref r_48)).set 1 (.ref r_48)).set 0 .null)) ((.ref r_48)) (2) (((((0 : Int32) + (1 : Int32)) + (1 : Int32)) - (1 : Int32))) T111.heap n0 (Nat.le_trans Z0 K111.1) g_b46 g_r1_47 p47_0 p47_1 Fq111_0 Fq111_1 Fq111_2 Fq111_3 Fq111_4 Fq111_5 Fq111_6 Fq111_7 Fq111_8 f111_1 p47_2 (by decide) (by decide) (by decide) rfl (Nat.le_of_ble_eq_true rfl)) hZ (hw _ (List.mem_of_getElem? (i := 58) rfl)) (hw _ (List.mem_of_getElem? (i := 57) rfl)) (by decide) (by decide)) (g := (mkF m 190 #[.val (.int p1), .val (.int p2), .val (.ref b46), .val (.ref r_48), .val (.int (1 : Int32)), .val (.int ((((0 : Int32) + (1 : Int32)) + (1 : Int32)) - (1 : Int32)))] [(.ref r_48), (.int (1 : Int32)), (.int ((((0 : Int32) + (1 : Int32)) + (1 : Int32)) - (1 : Int32))), (.ref b46)])) rfl (by rw [hml]; rfl) (argsL := [(.ref b46), (.int ((((0 : Int32) + (1 : Int32)) + (1 : Int32)) - (1 : Int32))), (.int (1 : Int32)), (.ref r_48)]) (rest := []) (lenOf own_pd8 rfl) rfl (by show 2 * 0 + _ ≤ _; exact Nat.le_of_eq rfl) (hb hby at_190) (fun _ _ => ⟨rfl, e112, (by decide : 5 + 0 ≤ _), (by decide : 1036 + 0 ≤ _)⟩)
          dsimp only [Pt.U, Pt.locs, Pt.cells, Pt.slots] at X116 l116 y116 z116 st116 hQ116
          subst l116 y116 z116
          obtain ⟨rfl, Nq116, Kq116, Fq116_0, Fq116_1, Fq116_2, Fq116_3, Fq116_4, Fq116_5, Fq116_6, Fq116_7, Fq116_8⟩ := hQ116
          have N116 := Fr.app N112 Nq116
          have f116_0 : Sta Z T116.heap "java/lang/String" "COMPACT_STRINGS" "Z" (.int cz) := own_sta_keep f111_0 Kq116 (own_plF Fq111_0 (own_plV Fq111_8 own_pl0))
          have f116_1 : own_Key Z T116.heap (.ref r_48) := f111_1.keep Kq116
          have f116_7 : Exa Z T116.heap b46 "com/example/call_throttle/callthrottle/KeyQueue" := Fq111_5.keep Kq116
          have f116_8 : Fld Z T116.heap c1_47 "com/example/call_throttle/callthrottle/KeyQueue$Chunk" "keys" "[Ljava/lang/String;" (.ref r1_47) := Fq111_6.keep Kq116 (ninS (Ne.symm ne_b46_c1_47) (ninS p47_1 nin0))
          have f116_9 : Exa Z T116.heap c1_47 "com/example/call_throttle/callthrottle/KeyQueue$Chunk" := Fq111_7.keep Kq116
          have K116 : Keep h0 T116.heap [] := K111.trans Kq116 (allS (Or.inr sz_b46) (allS (Or.inr sz_r1_47) all0))
          refine own_step (U' := (T116.setTop (mkF m 193 #[.val (.int p1), .val (.int p2), .val (.ref b46), .val (.ref r_48), .val (.int (1 : Int32)), .val (.int ((((0 : Int32) + (1 : Int32)) + (1 : Int32)) - (1 : Int32)))] [(.int (((((0 : Int32) + (1 : Int32)) + (1 : Int32)) - (1 : Int32)) + (1 : Int32)))]))) (fun t ht => st116 _ ht) ?_
          refine own_step (U' := (T116.setTop (mkF m 195 #[.val (.int p1), .val (.int p2), .val (.ref b46), .val (.ref r_48), .val (.int (1 : Int32)), .val (.int (((((0 : Int32) + (1 : Int32)) + (1 : Int32)) - (1 : Int32)) + (1 : Int32)))] []))) (fun t ht => XS.istore X116.here hx rfl (hb hby at_193) rfl (l' := #[.val (.int p1), .val (.int p2), .val (.ref b46), .val (.ref r_48), .val (.int (1 : Int32)), .val (.int (((((0 : Int32) + (1 : Int32)) + (1 : Int32)) - (1 : Int32)) + (1 : Int32)))]) rfl ht) ?_
          refine own_step (U' := (T116.setTop (mkF m 197 #[.val (.int p1), .val (.int p2), .val (.ref b46), .val (.ref r_48), .val (.int (1 : Int32)), .val (.int (((((0 : Int32) + (1 : Int32)) + (1 : Int32)) - (1 : Int32)) + (1 : Int32)))] [(.int (1 : Int32))]))) (fun t ht => XS.iload X116.here hx rfl (hb hby at_195) rfl ht) ?_
          refine own_step (U' := (T116.setTop (mkF m 200 #[.val (.int p1), .val (.int p2), .val (.ref b46), .val (.ref r_48), .val (.int (1 : Int32)), .val (.int (((((0 : Int32) + (1 : Int32)) + (1 : Int32)) - (1 : Int32)) + (1 : Int32)))] []))) (fun t ht => XS.ifNo X116.here hx rfl (hb hby at_197) rfl (XT.i0_eq_f ((by decide) : ¬ ((1 : Int32) = 0))) ht) ?_
          refine own_step (U' := (T116.setTop (mkF m 201 #[.val (.int p1), .val (.int p2), .val (.ref b46), .val (.ref r_48), .val (.int (1 : Int32)), .val (.int (((((0 : Int32) + (1 : Int32)) + (1 : Int32)) - (1 : Int32)) + (1 : Int32)))] [(.ref b46)]))) (fun t ht => XS.aloadN X116.here hx rfl (hb hby at_200) rfl rfl ht) ?_
          obtain ⟨cq117, kq117, q117a, q117b, q117c⟩ := isOf hZ rfl Fq116_5
          obtain ⟨_, _, ⟨T117, L117, k117, n117⟩, -, X117, ⟨Lc117, hQ117, l117, y117, z117⟩, st117⟩ := X116.virtualBack hx (y := (⟨"com/example/call_throttle/callthrottle/KeyQueue", "isEmpty", "()Z"⟩ : MethodName)) (z := (⟨"com/example/call_throttle/callthrottle/KeyQueue", "isEmpty", "()Z"⟩ : MethodName)) hown (mvT hZ (hw _ (List.mem_of_getElem? (i := 48) rfl))) (mvT hZ (hw _ (List.mem_of_getElem? (i := 49) rfl))) (notFace_of_selects (args := #[]) (mvT hZ (hw _ (List.mem_of_getElem? (i := 51) rfl)))) (mvT hZ (hw _ (List.mem_of_getElem? (i := 51) rfl))) (mvT hZ (hw _ (List.mem_of_getElem? (i := 50) rfl))) (by decide) (backOf (W := 0) (own_m_ie l Z a0 hw [] (b46) ((((((0 : Int64) + (1 : Int64)) + (1 : Int64)) - (1 : Int64)) + (1 : Int64))) T116.heap n0 (Nat.le_trans Z0 K116.1) Fq116_4) hZ (hw _ (List.mem_of_getElem? (i := 52) rfl)) (hw _ (List.mem_of_getElem? (i := 2) rfl)) (by decide) (by decide)) q117a q117c (g := (mkF m 201 #[.val (.int p1), .val (.int p2), .val (.ref b46), .val (.ref r_48), .val (.int (1 : Int32)), .val (.int (((((0 : Int32) + (1 : Int32)) + (1 : Int32)) - (1 : Int32)) + (1 : Int32)))] [(.ref b46)])) rfl (by rw [hml]; rfl) (Steps.refl _) (argsL := []) (rest := []) (lenOf own_pd7 rfl) rfl (by show 2 * 0 + _ ≤ _; exact Nat.le_of_eq rfl) (hb hby at_201) (fun _ _ => ⟨rfl, rfl, (by decide : 5 + 0 ≤ _), (by decide : 1036 + 0 ≤ _)⟩)
          dsimp only [Pt.U, Pt.locs, Pt.cells, Pt.slots] at X117 l117 y117 z117 st117 hQ117
          subst l117 y117 z117
          obtain ⟨rfl, Nq117, Kq117⟩ := hQ117
          have N117 := Fr.app N116 Nq117
          have e117 : T117.heap = T116.heap := Kq117
          refine own_step (U' := (T117.setTop (mkF m 204 #[.val (.int p1), .val (.int p2), .val (.ref b46), .val (.ref r_48), .val (.int (1 : Int32)), .val (.int (((((0 : Int32) + (1 : Int32)) + (1 : Int32)) - (1 : Int32)) + (1 : Int32)))] [(.int (own_ie (((((0 : Int64) + (1 : Int64)) + (1 : Int64)) - (1 : Int64)) + (1 : Int64))))]))) (fun t ht => st117.trans ht) ?_
          refine own_step (U' := (T117.setTop (mkF m 206 #[.val (.int p1), .val (.int p2), .val (.ref b46), .val (.ref r_48), .val (.int (1 : Int32)), .val (.int (((((0 : Int32) + (1 : Int32)) + (1 : Int32)) - (1 : Int32)) + (1 : Int32)))] [(.int (((((0 : Int32) + (1 : Int32)) + (1 : Int32)) - (1 : Int32)) + (1 : Int32))), (.int (own_ie (((((0 : Int64) + (1 : Int64)) + (1 : Int64)) - (1 : Int64)) + (1 : Int64))))]))) (fun t ht => XS.iload X117.here hx rfl (hb hby at_204) rfl ht) ?_
          refine own_step (U' := (T117.setTop (mkF m 213 #[.val (.int p1), .val (.int p2), .val (.ref b46), .val (.ref r_48), .val (.int (1 : Int32)), .val (.int (((((0 : Int32) + (1 : Int32)) + (1 : Int32)) - (1 : Int32)) + (1 : Int32)))] [(.int (own_ie (((((0 : Int64) + (1 : Int64)) + (1 : Int64)) - (1 : Int64)) + (1 : Int64))))]))) (fun t ht => XS.ifYes X117.here hx rfl (pc0 := 206) (pc' := 213) rfl (hb hby at_206) rfl (XT.i0_ne_t ((by decide) : ¬ ((((((0 : Int32) + (1 : Int32)) + (1 : Int32)) - (1 : Int32)) + (1 : Int32)) = 0))) (by decide) (by decide) ht) ?_
          refine own_step (U' := (T117.setTop (mkF m 214 #[.val (.int p1), .val (.int p2), .val (.ref b46), .val (.ref r_48), .val (.int (1 : Int32)), .val (.int (((((0 : Int32) + (1 : Int32)) + (1 : Int32)) - (1 : Int32)) + (1 : Int32)))] [(.int (0 : Int32)), (.int (own_ie (((((0 : Int64) + (1 : Int64)) + (1 : Int64)) - (1 : Int64)) + (1 : Int64))))]))) (fun t ht => XS.iconst X117.here hx rfl (hb hby at_213) ht) ?_
          refine own_step (U' := (T117.setTop (mkF m 217 #[.val (.int p1), .val (.int p2), .val (.ref b46), .val (.ref r_48), .val (.int (1 : Int32)), .val (.int (((((0 : Int32) + (1 : Int32)) + (1 : Int32)) - (1 : Int32)) + (1 : Int32)))] []))) (fun t ht => XS.icmpNo X117.here hx rfl (hb hby at_214) rfl (XT.ii_ne_f ((by decide) : (own_ie (((((0 : Int64) + (1 : Int64)) + (1 : Int64)) - (1 : Int64)) + (1 : Int64))) = (0 : Int32))) ht) ?_
          refine own_step (U' := (T117.setTop (mkF m 218 #[.val (.int p1), .val (.int p2), .val (.ref b46), .val (.ref r_48), .val (.int (1 : Int32)), .val (.int (((((0 : Int32) + (1 : Int32)) + (1 : Int32)) - (1 : Int32)) + (1 : Int32)))] [(.int (1 : Int32))]))) (fun t ht => XS.iconst X117.here hx rfl (hb hby at_217) ht) ?_
          refine own_step (U' := (T117.setTop (mkF m 222 #[.val (.int p1), .val (.int p2), .val (.ref b46), .val (.ref r_48), .val (.int (1 : Int32)), .val (.int (((((0 : Int32) + (1 : Int32)) + (1 : Int32)) - (1 : Int32)) + (1 : Int32)))] [(.int (1 : Int32))]))) (fun t ht => XS.goto X117.here hx rfl (pc0 := 218) (pc' := 222) rfl (hb hby at_218) (by decide) (by decide) ht) ?_
          refine own_step (U' := (T117.setTop (mkF m 224 #[.val (.int p1), .val (.int p2), .val (.ref b46), .val (.ref r_48), .val (.int (1 : Int32)), .val (.int (((((0 : Int32) + (1 : Int32)) + (1 : Int32)) - (1 : Int32)) + (1 : Int32)))] []))) (fun t ht => XS.istore X117.here hx rfl (hb hby at_222) rfl (l' := #[.val (.int p1), .val (.int p2), .val (.ref b46), .val (.ref r_48), .val (.int (1 : Int32)), .val (.int (((((0 : Int32) + (1 : Int32)) + (1 : Int32)) - (1 : Int32)) + (1 : Int32)))]) rfl ht) ?_
          refine own_step (U' := (T117.setTop (mkF m 226 #[.val (.int p1), .val (.int p2), .val (.ref b46), .val (.ref r_48), .val (.int (1 : Int32)), .val (.int (((((0 : Int32) + (1 : Int32)) + (1 : Int32)) - (1 : Int32)) + (1 : Int32)))] [(.int (1 : Int32))]))) (fun t ht => XS.iload X117.here hx rfl (hb hby at_224) rfl ht) ?_
          refine own_ret X117 (v := (some (.int (nar .boolean (1 : Int32))))) (fun h => by rw [Bd.returns] at h; cases h) Bd.notSynchronized (by decide) (by decide) ?_ (fun fs hr => retN X117 hx (t := .boolean) Bd.returns (by simp) (hb hby at_226) hr)
          show own_Q_law Z p1 p2 cz h0 n0 _ T117.heap _
          rw [e117]
          exact ⟨rfl, N117⟩
      ·
        refine own_step (U' := (T109.setTop (mkF m 134 #[.val (.int p1), .val (.int p2), .val (.ref b46), .val (.ref r_48), .val (.int (1 : Int32)), .val (.int (((0 : Int32) + (1 : Int32)) + (1 : Int32)))] [(.int (((0 : Int32) + (1 : Int32)) + (1 : Int32))), (.ref b46)]))) (fun t ht => XS.ifNo X109.here hx rfl (hb hby at_131) rfl (XT.i0_eq_f hc131_110) ht) ?_
        refine own_step (U' := (T109.setTop (mkF m 135 #[.val (.int p1), .val (.int p2), .val (.ref b46), .val (.ref r_48), .val (.int (1 : Int32)), .val (.int (((0 : Int32) + (1 : Int32)) + (1 : Int32)))] [(.int (1 : Int32)), (.int (((0 : Int32) + (1 : Int32)) + (1 : Int32))), (.ref b46)]))) (fun t ht => XS.iconst X109.here hx rfl (hb hby at_134) ht) ?_
        refine own_step (U' := (T109.setTop (mkF m 139 #[.val (.int p1), .val (.int p2), .val (.ref b46), .val (.ref r_48), .val (.int (1 : Int32)), .val (.int (((0 : Int32) + (1 : Int32)) + (1 : Int32)))] [(.int (1 : Int32)), (.int (((0 : Int32) + (1 : Int32)) + (1 : Int32))), (.ref b46)]))) (fun t ht => XS.goto X109.here hx rfl (pc0 := 135) (pc' := 139) rfl (hb hby at_135) (by decide) (by decide) ht) ?_
        refine own_step (U' := (T109.setTop (mkF m 140 #[.val (.int p1), .val (.int p2), .val (.ref b46), .val (.ref r_48), .val (.int (1 : Int32)), .val (.int (((0 : Int32) + (1 : Int32)) + (1 : Int32)))] [(.ref r_48), (.int (1 : Int32)), (.int (((0 : Int32) + (1 : Int32)) + (1 : Int32))), (.ref b46)]))) (fun t ht => XS.aloadN X109.here hx rfl (hb hby at_139) rfl rfl ht) ?_
        obtain ⟨_, _, ⟨T118, L118, k118, n118⟩, -, X118, ⟨Lc118, hQ118, l118, y118, z118⟩, st118⟩ := Jvm.LawKit.callS X109 hx (y := (⟨"com/example/call_throttle/callthrottle/KeyQueueIsEmptyPinLaw", "step", "(Lcom/example/call_throttle/callthrottle/KeyQueue;IZLjava/lang/String;)I"⟩ : MethodName)) hown (mvT hZ (hw _ (List.mem_of_getElem? (i := 55) rfl))) (mvT hZ (hw _ (List.mem_of_getElem? (i := 56) rfl))) (mvT hZ (hw _ (List.mem_of_getElem? (i := 57) rfl))) (mvT hZ (hw _ (List.mem_of_getElem? (i := 58) rfl))) (by decide) (backOf (W := 0) (own_m_stA l Z a0 hw [] (b46) (c1_47) (r1_47) (kA_47) ((0 : Int32)) ((((0 : Int32) + (1 : Int32)) + (1 : Int32))) ((((0 : Int64) + (1 : Int64)) + (1 : Int64))) ((([.null, .null, .null, .null].set 0 (.ref r_48)).set 1 (.ref r_48))) ((.ref r_48)) (2) ((((0 : Int32) + (1 : Int32)) + (1 : Int32))) T108.heap n0 (Nat.le_trans Z0 K108.1) g_b46 g_r1_47 p47_0 p47_1 Fq108_0 Fq108_1 Fq108_2 Fq108_3 Fq108_4 Fq108_5 Fq108_6 Fq108_7 Fq108_8 f108_1 p47_2 (by decide) (by decide) (by decide) rfl (Nat.le_of_ble_eq_true rfl)) hZ (hw _ (List.mem_of_getElem? (i := 58) rfl)) (hw _ (List.mem_of_getElem? (i := 57) rfl)) (by decide) (by decide)) (g := (mkF m 140 #[.val (.int p1), .val (.int p2), .val (.ref b46), .val (.ref r_48), .val (.int (1 : Int32)), .val (.int (((0 : Int32) + (1 : Int32)) + (1 : Int32)))] [(.ref r_48), (.int (1 : Int32)), (.int (((0 : Int32) + (1 : Int32)) + (1 : Int32))), (.ref b46)])) rfl (by rw [hml]; rfl) (argsL := [(.ref b46), (.int (((0 : Int32) + (1 : Int32)) + (1 : Int32))), (.int (1 : Int32)), (.ref r_48)]) (rest := []) (lenOf own_pd8 rfl) rfl (by show 2 * 0 + _ ≤ _; exact Nat.le_of_eq rfl) (hb hby at_140) (fun _ _ => ⟨rfl, e109, (by decide : 5 + 0 ≤ _), (by decide : 1036 + 0 ≤ _)⟩)
        dsimp only [Pt.U, Pt.locs, Pt.cells, Pt.slots] at X118 l118 y118 z118 st118 hQ118
        subst l118 y118 z118
        obtain ⟨rfl, Nq118, Kq118, Fq118_0, Fq118_1, Fq118_2, Fq118_3, Fq118_4, Fq118_5, Fq118_6, Fq118_7, Fq118_8⟩ := hQ118
        have N118 := Fr.app N109 Nq118
        have f118_0 : Sta Z T118.heap "java/lang/String" "COMPACT_STRINGS" "Z" (.int cz) := own_sta_keep f108_0 Kq118 (own_plF Fq108_0 (own_plV Fq108_8 own_pl0))
        have f118_1 : own_Key Z T118.heap (.ref r_48) := f108_1.keep Kq118
        have f118_7 : Exa Z T118.heap b46 "com/example/call_throttle/callthrottle/KeyQueue" := Fq108_5.keep Kq118
        have f118_8 : Fld Z T118.heap c1_47 "com/example/call_throttle/callthrottle/KeyQueue$Chunk" "keys" "[Ljava/lang/String;" (.ref r1_47) := Fq108_6.keep Kq118 (ninS (Ne.symm ne_b46_c1_47) (ninS p47_1 nin0))
        have f118_9 : Exa Z T118.heap c1_47 "com/example/call_throttle/callthrottle/KeyQueue$Chunk" := Fq108_7.keep Kq118
        have K118 : Keep h0 T118.heap [] := K108.trans Kq118 (allS (Or.inr sz_b46) (allS (Or.inr sz_r1_47) all0))
        refine own_step (U' := (T118.setTop (mkF m 143 #[.val (.int p1), .val (.int p2), .val (.ref b46), .val (.ref r_48), .val (.int (1 : Int32)), .val (.int (((0 : Int32) + (1 : Int32)) + (1 : Int32)))] [(.int ((((0 : Int32) + (1 : Int32)) + (1 : Int32)) + (1 : Int32)))]))) (fun t ht => st118 _ ht) ?_
        refine own_step (U' := (T118.setTop (mkF m 145 #[.val (.int p1), .val (.int p2), .val (.ref b46), .val (.ref r_48), .val (.int (1 : Int32)), .val (.int ((((0 : Int32) + (1 : Int32)) + (1 : Int32)) + (1 : Int32)))] []))) (fun t ht => XS.istore X118.here hx rfl (hb hby at_143) rfl (l' := #[.val (.int p1), .val (.int p2), .val (.ref b46), .val (.ref r_48), .val (.int (1 : Int32)), .val (.int ((((0 : Int32) + (1 : Int32)) + (1 : Int32)) + (1 : Int32)))]) rfl ht) ?_
        refine own_step (U' := (T118.setTop (mkF m 147 #[.val (.int p1), .val (.int p2), .val (.ref b46), .val (.ref r_48), .val (.int (1 : Int32)), .val (.int ((((0 : Int32) + (1 : Int32)) + (1 : Int32)) + (1 : Int32)))] [(.int (1 : Int32))]))) (fun t ht => XS.iload X118.here hx rfl (hb hby at_145) rfl ht) ?_
        refine own_step (U' := (T118.setTop (mkF m 150 #[.val (.int p1), .val (.int p2), .val (.ref b46), .val (.ref r_48), .val (.int (1 : Int32)), .val (.int ((((0 : Int32) + (1 : Int32)) + (1 : Int32)) + (1 : Int32)))] []))) (fun t ht => XS.ifNo X118.here hx rfl (hb hby at_147) rfl (XT.i0_eq_f ((by decide) : ¬ ((1 : Int32) = 0))) ht) ?_
        refine own_step (U' := (T118.setTop (mkF m 151 #[.val (.int p1), .val (.int p2), .val (.ref b46), .val (.ref r_48), .val (.int (1 : Int32)), .val (.int ((((0 : Int32) + (1 : Int32)) + (1 : Int32)) + (1 : Int32)))] [(.ref b46)]))) (fun t ht => XS.aloadN X118.here hx rfl (hb hby at_150) rfl rfl ht) ?_
        obtain ⟨cq119, kq119, q119a, q119b, q119c⟩ := isOf hZ rfl Fq118_5
        obtain ⟨_, _, ⟨T119, L119, k119, n119⟩, -, X119, ⟨Lc119, hQ119, l119, y119, z119⟩, st119⟩ := X118.virtualBack hx (y := (⟨"com/example/call_throttle/callthrottle/KeyQueue", "isEmpty", "()Z"⟩ : MethodName)) (z := (⟨"com/example/call_throttle/callthrottle/KeyQueue", "isEmpty", "()Z"⟩ : MethodName)) hown (mvT hZ (hw _ (List.mem_of_getElem? (i := 48) rfl))) (mvT hZ (hw _ (List.mem_of_getElem? (i := 49) rfl))) (notFace_of_selects (args := #[]) (mvT hZ (hw _ (List.mem_of_getElem? (i := 51) rfl)))) (mvT hZ (hw _ (List.mem_of_getElem? (i := 51) rfl))) (mvT hZ (hw _ (List.mem_of_getElem? (i := 50) rfl))) (by decide) (backOf (W := 0) (own_m_ie l Z a0 hw [] (b46) (((((0 : Int64) + (1 : Int64)) + (1 : Int64)) + (1 : Int64))) T118.heap n0 (Nat.le_trans Z0 K118.1) Fq118_4) hZ (hw _ (List.mem_of_getElem? (i := 52) rfl)) (hw _ (List.mem_of_getElem? (i := 2) rfl)) (by decide) (by decide)) q119a q119c (g := (mkF m 151 #[.val (.int p1), .val (.int p2), .val (.ref b46), .val (.ref r_48), .val (.int (1 : Int32)), .val (.int ((((0 : Int32) + (1 : Int32)) + (1 : Int32)) + (1 : Int32)))] [(.ref b46)])) rfl (by rw [hml]; rfl) (Steps.refl _) (argsL := []) (rest := []) (lenOf own_pd7 rfl) rfl (by show 2 * 0 + _ ≤ _; exact Nat.le_of_eq rfl) (hb hby at_151) (fun _ _ => ⟨rfl, rfl, (by decide : 5 + 0 ≤ _), (by decide : 1036 + 0 ≤ _)⟩)
        dsimp only [Pt.U, Pt.locs, Pt.cells, Pt.slots] at X119 l119 y119 z119 st119 hQ119
        subst l119 y119 z119
        obtain ⟨rfl, Nq119, Kq119⟩ := hQ119
        have N119 := Fr.app N118 Nq119
        have e119 : T119.heap = T118.heap := Kq119
        refine own_step (U' := (T119.setTop (mkF m 154 #[.val (.int p1), .val (.int p2), .val (.ref b46), .val (.ref r_48), .val (.int (1 : Int32)), .val (.int ((((0 : Int32) + (1 : Int32)) + (1 : Int32)) + (1 : Int32)))] [(.int (own_ie ((((0 : Int64) + (1 : Int64)) + (1 : Int64)) + (1 : Int64))))]))) (fun t ht => st119.trans ht) ?_
        refine own_step (U' := (T119.setTop (mkF m 156 #[.val (.int p1), .val (.int p2), .val (.ref b46), .val (.ref r_48), .val (.int (1 : Int32)), .val (.int ((((0 : Int32) + (1 : Int32)) + (1 : Int32)) + (1 : Int32)))] [(.int ((((0 : Int32) + (1 : Int32)) + (1 : Int32)) + (1 : Int32))), (.int (own_ie ((((0 : Int64) + (1 : Int64)) + (1 : Int64)) + (1 : Int64))))]))) (fun t ht => XS.iload X119.here hx rfl (hb hby at_154) rfl ht) ?_
        refine own_step (U' := (T119.setTop (mkF m 163 #[.val (.int p1), .val (.int p2), .val (.ref b46), .val (.ref r_48), .val (.int (1 : Int32)), .val (.int ((((0 : Int32) + (1 : Int32)) + (1 : Int32)) + (1 : Int32)))] [(.int (own_ie ((((0 : Int64) + (1 : Int64)) + (1 : Int64)) + (1 : Int64))))]))) (fun t ht => XS.ifYes X119.here hx rfl (pc0 := 156) (pc' := 163) rfl (hb hby at_156) rfl (XT.i0_ne_t ((by decide) : ¬ (((((0 : Int32) + (1 : Int32)) + (1 : Int32)) + (1 : Int32)) = 0))) (by decide) (by decide) ht) ?_
        refine own_step (U' := (T119.setTop (mkF m 164 #[.val (.int p1), .val (.int p2), .val (.ref b46), .val (.ref r_48), .val (.int (1 : Int32)), .val (.int ((((0 : Int32) + (1 : Int32)) + (1 : Int32)) + (1 : Int32)))] [(.int (0 : Int32)), (.int (own_ie ((((0 : Int64) + (1 : Int64)) + (1 : Int64)) + (1 : Int64))))]))) (fun t ht => XS.iconst X119.here hx rfl (hb hby at_163) ht) ?_
        refine own_step (U' := (T119.setTop (mkF m 167 #[.val (.int p1), .val (.int p2), .val (.ref b46), .val (.ref r_48), .val (.int (1 : Int32)), .val (.int ((((0 : Int32) + (1 : Int32)) + (1 : Int32)) + (1 : Int32)))] []))) (fun t ht => XS.icmpNo X119.here hx rfl (hb hby at_164) rfl (XT.ii_ne_f ((by decide) : (own_ie ((((0 : Int64) + (1 : Int64)) + (1 : Int64)) + (1 : Int64))) = (0 : Int32))) ht) ?_
        refine own_step (U' := (T119.setTop (mkF m 168 #[.val (.int p1), .val (.int p2), .val (.ref b46), .val (.ref r_48), .val (.int (1 : Int32)), .val (.int ((((0 : Int32) + (1 : Int32)) + (1 : Int32)) + (1 : Int32)))] [(.int (1 : Int32))]))) (fun t ht => XS.iconst X119.here hx rfl (hb hby at_167) ht) ?_
        refine own_step (U' := (T119.setTop (mkF m 172 #[.val (.int p1), .val (.int p2), .val (.ref b46), .val (.ref r_48), .val (.int (1 : Int32)), .val (.int ((((0 : Int32) + (1 : Int32)) + (1 : Int32)) + (1 : Int32)))] [(.int (1 : Int32))]))) (fun t ht => XS.goto X119.here hx rfl (pc0 := 168) (pc' := 172) rfl (hb hby at_168) (by decide) (by decide) ht) ?_
        refine own_step (U' := (T119.setTop (mkF m 174 #[.val (.int p1), .val (.int p2), .val (.ref b46), .val (.ref r_48), .val (.int (1 : Int32)), .val (.int ((((0 : Int32) + (1 : Int32)) + (1 : Int32)) + (1 : Int32)))] []))) (fun t ht => XS.istore X119.here hx rfl (hb hby at_172) rfl (l' := #[.val (.int p1), .val (.int p2), .val (.ref b46), .val (.ref r_48), .val (.int (1 : Int32)), .val (.int ((((0 : Int32) + (1 : Int32)) + (1 : Int32)) + (1 : Int32)))]) rfl ht) ?_
        refine own_step (U' := (T119.setTop (mkF m 175 #[.val (.int p1), .val (.int p2), .val (.ref b46), .val (.ref r_48), .val (.int (1 : Int32)), .val (.int ((((0 : Int32) + (1 : Int32)) + (1 : Int32)) + (1 : Int32)))] [(.ref b46)]))) (fun t ht => XS.aloadN X119.here hx rfl (hb hby at_174) rfl rfl ht) ?_
        refine own_step (U' := (T119.setTop (mkF m 177 #[.val (.int p1), .val (.int p2), .val (.ref b46), .val (.ref r_48), .val (.int (1 : Int32)), .val (.int ((((0 : Int32) + (1 : Int32)) + (1 : Int32)) + (1 : Int32)))] [(.int ((((0 : Int32) + (1 : Int32)) + (1 : Int32)) + (1 : Int32))), (.ref b46)]))) (fun t ht => XS.iload X119.here hx rfl (hb hby at_175) rfl ht) ?_
        refine own_step (U' := (T119.setTop (mkF m 178 #[.val (.int p1), .val (.int p2), .val (.ref b46), .val (.ref r_48), .val (.int (1 : Int32)), .val (.int ((((0 : Int32) + (1 : Int32)) + (1 : Int32)) + (1 : Int32)))] [(.int p1), (.int ((((0 : Int32) + (1 : Int32)) + (1 : Int32)) + (1 : Int32))), (.ref b46)]))) (fun t ht => XS.iloadN X119.here hx rfl (hb hby at_177) rfl ht) ?_
        refine own_step (U' := (T119.setTop (mkF m 180 #[.val (.int p1), .val (.int p2), .val (.ref b46), .val (.ref r_48), .val (.int (1 : Int32)), .val (.int ((((0 : Int32) + (1 : Int32)) + (1 : Int32)) + (1 : Int32)))] [(.int (8 : Int32)), (.int p1), (.int ((((0 : Int32) + (1 : Int32)) + (1 : Int32)) + (1 : Int32))), (.ref b46)]))) (fun t ht => XS.bipush X119.here hx rfl (hb hby at_178) ht) ?_
        refine own_step (U' := (T119.setTop (mkF m 181 #[.val (.int p1), .val (.int p2), .val (.ref b46), .val (.ref r_48), .val (.int (1 : Int32)), .val (.int ((((0 : Int32) + (1 : Int32)) + (1 : Int32)) + (1 : Int32)))] [(.int (p1 &&& (8 : Int32))), (.int ((((0 : Int32) + (1 : Int32)) + (1 : Int32)) + (1 : Int32))), (.ref b46)]))) (fun t ht => XS.iand X119.here hx rfl (hb hby at_180) rfl ht) ?_
        by_cases hc181_120 : (p1 &&& (8 : Int32)) = 0
        ·
          refine own_step (U' := (T119.setTop (mkF m 188 #[.val (.int p1), .val (.int p2), .val (.ref b46), .val (.ref r_48), .val (.int (1 : Int32)), .val (.int ((((0 : Int32) + (1 : Int32)) + (1 : Int32)) + (1 : Int32)))] [(.int ((((0 : Int32) + (1 : Int32)) + (1 : Int32)) + (1 : Int32))), (.ref b46)]))) (fun t ht => XS.ifYes X119.here hx rfl (pc0 := 181) (pc' := 188) rfl (hb hby at_181) rfl (XT.i0_eq_t hc181_120) (by decide) (by decide) ht) ?_
          refine own_step (U' := (T119.setTop (mkF m 189 #[.val (.int p1), .val (.int p2), .val (.ref b46), .val (.ref r_48), .val (.int (1 : Int32)), .val (.int ((((0 : Int32) + (1 : Int32)) + (1 : Int32)) + (1 : Int32)))] [(.int (0 : Int32)), (.int ((((0 : Int32) + (1 : Int32)) + (1 : Int32)) + (1 : Int32))), (.ref b46)]))) (fun t ht => XS.iconst X119.here hx rfl (hb hby at_188) ht) ?_
          refine own_step (U' := (T119.setTop (mkF m 190 #[.val (.int p1), .val (.int p2), .val (.ref b46), .val (.ref r_48), .val (.int (1 : Int32)), .val (.int ((((0 : Int32) + (1 : Int32)) + (1 : Int32)) + (1 : Int32)))] [(.ref r_48), (.int (0 : Int32)), (.int ((((0 : Int32) + (1 : Int32)) + (1 : Int32)) + (1 : Int32))), (.ref b46)]))) (fun t ht => XS.aloadN X119.here hx rfl (hb hby at_189) rfl rfl ht) ?_
          obtain ⟨_, _, ⟨T121, L121, k121, n121⟩, -, X121, ⟨Lc121, hQ121, l121, y121, z121⟩, st121⟩ := Jvm.LawKit.callS X119 hx (y := (⟨"com/example/call_throttle/callthrottle/KeyQueueIsEmptyPinLaw", "step", "(Lcom/example/call_throttle/callthrottle/KeyQueue;IZLjava/lang/String;)I"⟩ : MethodName)) hown (mvT hZ (hw _ (List.mem_of_getElem? (i := 55) rfl))) (mvT hZ (hw _ (List.mem_of_getElem? (i := 56) rfl))) (mvT hZ (hw _ (List.mem_of_getElem? (i := 57) rfl))) (mvT hZ (hw _ (List.mem_of_getElem? (i := 58) rfl))) (by decide) (backOf (W := 0) (own_m_stR l Z a0 hw [] (b46) (c1_47) (r1_47) (kA_47) ((0 : Int32)) (((((0 : Int32) + (1 : Int32)) + (1 : Int32)) + (1 : Int32))) (((((0 : Int64) + (1 : Int64)) + (1 : Int64)) + (1 : Int64))) (((([.null, .null, .null, .null].set 0 (.ref r_48)).set 1 (.ref r_48)).set 2 (.ref r_48))) ((.ref r_48)) ((.ref r_48)) (0) (((((0 : Int32) + (1 : Int32)) + (1 : Int32)) + (1 : Int32))) T118.heap n0 (Nat.le_trans Z0 K118.1) g_b46 g_r1_47 p47_0 p47_1 Fq118_0 Fq118_1 Fq118_2 Fq118_3 Fq118_4 Fq118_5 Fq118_6 Fq118_7 Fq118_8 (by decide) (by decide) (by decide) (by decide) rfl (Nat.le_of_ble_eq_true rfl) rfl rfl rfl (by decide)) hZ (hw _ (List.mem_of_getElem? (i := 58) rfl)) (hw _ (List.mem_of_getElem? (i := 57) rfl)) (by decide) (by decide)) (g := (mkF m 190 #[.val (.int p1), .val (.int p2), .val (.ref b46), .val (.ref r_48), .val (.int (1 : Int32)), .val (.int ((((0 : Int32) + (1 : Int32)) + (1 : Int32)) + (1 : Int32)))] [(.ref r_48), (.int (0 : Int32)), (.int ((((0 : Int32) + (1 : Int32)) + (1 : Int32)) + (1 : Int32))), (.ref b46)])) rfl (by rw [hml]; rfl) (argsL := [(.ref b46), (.int ((((0 : Int32) + (1 : Int32)) + (1 : Int32)) + (1 : Int32))), (.int (0 : Int32)), (.ref r_48)]) (rest := []) (lenOf own_pd8 rfl) rfl (by show 2 * 0 + _ ≤ _; exact Nat.le_of_eq rfl) (hb hby at_190) (fun _ _ => ⟨rfl, e119, (by decide : 5 + 0 ≤ _), (by decide : 1036 + 0 ≤ _)⟩)
          dsimp only [Pt.U, Pt.locs, Pt.cells, Pt.slots] at X121 l121 y121 z121 st121 hQ121
          subst l121 y121 z121
          obtain ⟨rfl, Nq121, Kq121, Fq121_0, Fq121_1, Fq121_2, Fq121_3, Fq121_4, Fq121_5, Fq121_6, Fq121_7, Fq121_8⟩ := hQ121
          have N121 := Fr.app N119 Nq121
          have f121_0 : Sta Z T121.heap "java/lang/String" "COMPACT_STRINGS" "Z" (.int cz) := own_sta_keep f118_0 Kq121 (own_plF Fq118_0 (own_plV Fq118_8 own_pl0))
          have f121_1 : own_Key Z T121.heap (.ref r_48) := f118_1.keep Kq121
          have f121_7 : Exa Z T121.heap b46 "com/example/call_throttle/callthrottle/KeyQueue" := Fq118_5.keep Kq121
          have f121_8 : Fld Z T121.heap c1_47 "com/example/call_throttle/callthrottle/KeyQueue$Chunk" "keys" "[Ljava/lang/String;" (.ref r1_47) := Fq118_6.keep Kq121 (ninS (Ne.symm ne_b46_c1_47) (ninS p47_1 nin0))
          have f121_9 : Exa Z T121.heap c1_47 "com/example/call_throttle/callthrottle/KeyQueue$Chunk" := Fq118_7.keep Kq121
          have K121 : Keep h0 T121.heap [] := K118.trans Kq121 (allS (Or.inr sz_b46) (allS (Or.inr sz_r1_47) all0))
          refine own_step (U' := (T121.setTop (mkF m 193 #[.val (.int p1), .val (.int p2), .val (.ref b46), .val (.ref r_48), .val (.int (1 : Int32)), .val (.int ((((0 : Int32) + (1 : Int32)) + (1 : Int32)) + (1 : Int32)))] [(.int (((((0 : Int32) + (1 : Int32)) + (1 : Int32)) + (1 : Int32)) - (1 : Int32)))]))) (fun t ht => st121 _ ht) ?_
          refine own_step (U' := (T121.setTop (mkF m 195 #[.val (.int p1), .val (.int p2), .val (.ref b46), .val (.ref r_48), .val (.int (1 : Int32)), .val (.int (((((0 : Int32) + (1 : Int32)) + (1 : Int32)) + (1 : Int32)) - (1 : Int32)))] []))) (fun t ht => XS.istore X121.here hx rfl (hb hby at_193) rfl (l' := #[.val (.int p1), .val (.int p2), .val (.ref b46), .val (.ref r_48), .val (.int (1 : Int32)), .val (.int (((((0 : Int32) + (1 : Int32)) + (1 : Int32)) + (1 : Int32)) - (1 : Int32)))]) rfl ht) ?_
          refine own_step (U' := (T121.setTop (mkF m 197 #[.val (.int p1), .val (.int p2), .val (.ref b46), .val (.ref r_48), .val (.int (1 : Int32)), .val (.int (((((0 : Int32) + (1 : Int32)) + (1 : Int32)) + (1 : Int32)) - (1 : Int32)))] [(.int (1 : Int32))]))) (fun t ht => XS.iload X121.here hx rfl (hb hby at_195) rfl ht) ?_
          refine own_step (U' := (T121.setTop (mkF m 200 #[.val (.int p1), .val (.int p2), .val (.ref b46), .val (.ref r_48), .val (.int (1 : Int32)), .val (.int (((((0 : Int32) + (1 : Int32)) + (1 : Int32)) + (1 : Int32)) - (1 : Int32)))] []))) (fun t ht => XS.ifNo X121.here hx rfl (hb hby at_197) rfl (XT.i0_eq_f ((by decide) : ¬ ((1 : Int32) = 0))) ht) ?_
          refine own_step (U' := (T121.setTop (mkF m 201 #[.val (.int p1), .val (.int p2), .val (.ref b46), .val (.ref r_48), .val (.int (1 : Int32)), .val (.int (((((0 : Int32) + (1 : Int32)) + (1 : Int32)) + (1 : Int32)) - (1 : Int32)))] [(.ref b46)]))) (fun t ht => XS.aloadN X121.here hx rfl (hb hby at_200) rfl rfl ht) ?_
          obtain ⟨cq122, kq122, q122a, q122b, q122c⟩ := isOf hZ rfl Fq121_5
          obtain ⟨_, _, ⟨T122, L122, k122, n122⟩, -, X122, ⟨Lc122, hQ122, l122, y122, z122⟩, st122⟩ := X121.virtualBack hx (y := (⟨"com/example/call_throttle/callthrottle/KeyQueue", "isEmpty", "()Z"⟩ : MethodName)) (z := (⟨"com/example/call_throttle/callthrottle/KeyQueue", "isEmpty", "()Z"⟩ : MethodName)) hown (mvT hZ (hw _ (List.mem_of_getElem? (i := 48) rfl))) (mvT hZ (hw _ (List.mem_of_getElem? (i := 49) rfl))) (notFace_of_selects (args := #[]) (mvT hZ (hw _ (List.mem_of_getElem? (i := 51) rfl)))) (mvT hZ (hw _ (List.mem_of_getElem? (i := 51) rfl))) (mvT hZ (hw _ (List.mem_of_getElem? (i := 50) rfl))) (by decide) (backOf (W := 0) (own_m_ie l Z a0 hw [] (b46) ((((((0 : Int64) + (1 : Int64)) + (1 : Int64)) + (1 : Int64)) - (1 : Int64))) T121.heap n0 (Nat.le_trans Z0 K121.1) Fq121_4) hZ (hw _ (List.mem_of_getElem? (i := 52) rfl)) (hw _ (List.mem_of_getElem? (i := 2) rfl)) (by decide) (by decide)) q122a q122c (g := (mkF m 201 #[.val (.int p1), .val (.int p2), .val (.ref b46), .val (.ref r_48), .val (.int (1 : Int32)), .val (.int (((((0 : Int32) + (1 : Int32)) + (1 : Int32)) + (1 : Int32)) - (1 : Int32)))] [(.ref b46)])) rfl (by rw [hml]; rfl) (Steps.refl _) (argsL := []) (rest := []) (lenOf own_pd7 rfl) rfl (by show 2 * 0 + _ ≤ _; exact Nat.le_of_eq rfl) (hb hby at_201) (fun _ _ => ⟨rfl, rfl, (by decide : 5 + 0 ≤ _), (by decide : 1036 + 0 ≤ _)⟩)
          dsimp only [Pt.U, Pt.locs, Pt.cells, Pt.slots] at X122 l122 y122 z122 st122 hQ122
          subst l122 y122 z122
          obtain ⟨rfl, Nq122, Kq122⟩ := hQ122
          have N122 := Fr.app N121 Nq122
          have e122 : T122.heap = T121.heap := Kq122
          refine own_step (U' := (T122.setTop (mkF m 204 #[.val (.int p1), .val (.int p2), .val (.ref b46), .val (.ref r_48), .val (.int (1 : Int32)), .val (.int (((((0 : Int32) + (1 : Int32)) + (1 : Int32)) + (1 : Int32)) - (1 : Int32)))] [(.int (own_ie (((((0 : Int64) + (1 : Int64)) + (1 : Int64)) + (1 : Int64)) - (1 : Int64))))]))) (fun t ht => st122.trans ht) ?_
          refine own_step (U' := (T122.setTop (mkF m 206 #[.val (.int p1), .val (.int p2), .val (.ref b46), .val (.ref r_48), .val (.int (1 : Int32)), .val (.int (((((0 : Int32) + (1 : Int32)) + (1 : Int32)) + (1 : Int32)) - (1 : Int32)))] [(.int (((((0 : Int32) + (1 : Int32)) + (1 : Int32)) + (1 : Int32)) - (1 : Int32))), (.int (own_ie (((((0 : Int64) + (1 : Int64)) + (1 : Int64)) + (1 : Int64)) - (1 : Int64))))]))) (fun t ht => XS.iload X122.here hx rfl (hb hby at_204) rfl ht) ?_
          refine own_step (U' := (T122.setTop (mkF m 213 #[.val (.int p1), .val (.int p2), .val (.ref b46), .val (.ref r_48), .val (.int (1 : Int32)), .val (.int (((((0 : Int32) + (1 : Int32)) + (1 : Int32)) + (1 : Int32)) - (1 : Int32)))] [(.int (own_ie (((((0 : Int64) + (1 : Int64)) + (1 : Int64)) + (1 : Int64)) - (1 : Int64))))]))) (fun t ht => XS.ifYes X122.here hx rfl (pc0 := 206) (pc' := 213) rfl (hb hby at_206) rfl (XT.i0_ne_t ((by decide) : ¬ ((((((0 : Int32) + (1 : Int32)) + (1 : Int32)) + (1 : Int32)) - (1 : Int32)) = 0))) (by decide) (by decide) ht) ?_
          refine own_step (U' := (T122.setTop (mkF m 214 #[.val (.int p1), .val (.int p2), .val (.ref b46), .val (.ref r_48), .val (.int (1 : Int32)), .val (.int (((((0 : Int32) + (1 : Int32)) + (1 : Int32)) + (1 : Int32)) - (1 : Int32)))] [(.int (0 : Int32)), (.int (own_ie (((((0 : Int64) + (1 : Int64)) + (1 : Int64)) + (1 : Int64)) - (1 : Int64))))]))) (fun t ht => XS.iconst X122.here hx rfl (hb hby at_213) ht) ?_
          refine own_step (U' := (T122.setTop (mkF m 217 #[.val (.int p1), .val (.int p2), .val (.ref b46), .val (.ref r_48), .val (.int (1 : Int32)), .val (.int (((((0 : Int32) + (1 : Int32)) + (1 : Int32)) + (1 : Int32)) - (1 : Int32)))] []))) (fun t ht => XS.icmpNo X122.here hx rfl (hb hby at_214) rfl (XT.ii_ne_f ((by decide) : (own_ie (((((0 : Int64) + (1 : Int64)) + (1 : Int64)) + (1 : Int64)) - (1 : Int64))) = (0 : Int32))) ht) ?_
          refine own_step (U' := (T122.setTop (mkF m 218 #[.val (.int p1), .val (.int p2), .val (.ref b46), .val (.ref r_48), .val (.int (1 : Int32)), .val (.int (((((0 : Int32) + (1 : Int32)) + (1 : Int32)) + (1 : Int32)) - (1 : Int32)))] [(.int (1 : Int32))]))) (fun t ht => XS.iconst X122.here hx rfl (hb hby at_217) ht) ?_
          refine own_step (U' := (T122.setTop (mkF m 222 #[.val (.int p1), .val (.int p2), .val (.ref b46), .val (.ref r_48), .val (.int (1 : Int32)), .val (.int (((((0 : Int32) + (1 : Int32)) + (1 : Int32)) + (1 : Int32)) - (1 : Int32)))] [(.int (1 : Int32))]))) (fun t ht => XS.goto X122.here hx rfl (pc0 := 218) (pc' := 222) rfl (hb hby at_218) (by decide) (by decide) ht) ?_
          refine own_step (U' := (T122.setTop (mkF m 224 #[.val (.int p1), .val (.int p2), .val (.ref b46), .val (.ref r_48), .val (.int (1 : Int32)), .val (.int (((((0 : Int32) + (1 : Int32)) + (1 : Int32)) + (1 : Int32)) - (1 : Int32)))] []))) (fun t ht => XS.istore X122.here hx rfl (hb hby at_222) rfl (l' := #[.val (.int p1), .val (.int p2), .val (.ref b46), .val (.ref r_48), .val (.int (1 : Int32)), .val (.int (((((0 : Int32) + (1 : Int32)) + (1 : Int32)) + (1 : Int32)) - (1 : Int32)))]) rfl ht) ?_
          refine own_step (U' := (T122.setTop (mkF m 226 #[.val (.int p1), .val (.int p2), .val (.ref b46), .val (.ref r_48), .val (.int (1 : Int32)), .val (.int (((((0 : Int32) + (1 : Int32)) + (1 : Int32)) + (1 : Int32)) - (1 : Int32)))] [(.int (1 : Int32))]))) (fun t ht => XS.iload X122.here hx rfl (hb hby at_224) rfl ht) ?_
          refine own_ret X122 (v := (some (.int (nar .boolean (1 : Int32))))) (fun h => by rw [Bd.returns] at h; cases h) Bd.notSynchronized (by decide) (by decide) ?_ (fun fs hr => retN X122 hx (t := .boolean) Bd.returns (by simp) (hb hby at_226) hr)
          show own_Q_law Z p1 p2 cz h0 n0 _ T122.heap _
          rw [e122]
          exact ⟨rfl, N122⟩
        ·
          refine own_step (U' := (T119.setTop (mkF m 184 #[.val (.int p1), .val (.int p2), .val (.ref b46), .val (.ref r_48), .val (.int (1 : Int32)), .val (.int ((((0 : Int32) + (1 : Int32)) + (1 : Int32)) + (1 : Int32)))] [(.int ((((0 : Int32) + (1 : Int32)) + (1 : Int32)) + (1 : Int32))), (.ref b46)]))) (fun t ht => XS.ifNo X119.here hx rfl (hb hby at_181) rfl (XT.i0_eq_f hc181_120) ht) ?_
          refine own_step (U' := (T119.setTop (mkF m 185 #[.val (.int p1), .val (.int p2), .val (.ref b46), .val (.ref r_48), .val (.int (1 : Int32)), .val (.int ((((0 : Int32) + (1 : Int32)) + (1 : Int32)) + (1 : Int32)))] [(.int (1 : Int32)), (.int ((((0 : Int32) + (1 : Int32)) + (1 : Int32)) + (1 : Int32))), (.ref b46)]))) (fun t ht => XS.iconst X119.here hx rfl (hb hby at_184) ht) ?_
          refine own_step (U' := (T119.setTop (mkF m 189 #[.val (.int p1), .val (.int p2), .val (.ref b46), .val (.ref r_48), .val (.int (1 : Int32)), .val (.int ((((0 : Int32) + (1 : Int32)) + (1 : Int32)) + (1 : Int32)))] [(.int (1 : Int32)), (.int ((((0 : Int32) + (1 : Int32)) + (1 : Int32)) + (1 : Int32))), (.ref b46)]))) (fun t ht => XS.goto X119.here hx rfl (pc0 := 185) (pc' := 189) rfl (hb hby at_185) (by decide) (by decide) ht) ?_
          refine own_step (U' := (T119.setTop (mkF m 190 #[.val (.int p1), .val (.int p2), .val (.ref b46), .val (.ref r_48), .val (.int (1 : Int32)), .val (.int ((((0 : Int32) + (1 : Int32)) + (1 : Int32)) + (1 : Int32)))] [(.ref r_48), (.int (1 : Int32)), (.int ((((0 : Int32) + (1 : Int32)) + (1 : Int32)) + (1 : Int32))), (.ref b46)]))) (fun t ht => XS.aloadN X119.here hx rfl (hb hby at_189) rfl rfl ht) ?_
          obtain ⟨_, _, ⟨T123, L123, k123, n123⟩, -, X123, ⟨Lc123, hQ123, l123, y123, z123⟩, st123⟩ := Jvm.LawKit.callS X119 hx (y := (⟨"com/example/call_throttle/callthrottle/KeyQueueIsEmptyPinLaw", "step", "(Lcom/example/call_throttle/callthrottle/KeyQueue;IZLjava/lang/String;)I"⟩ : MethodName)) hown (mvT hZ (hw _ (List.mem_of_getElem? (i := 55) rfl))) (mvT hZ (hw _ (List.mem_of_getElem? (i := 56) rfl))) (mvT hZ (hw _ (List.mem_of_getElem? (i := 57) rfl))) (mvT hZ (hw _ (List.mem_of_getElem? (i := 58) rfl))) (by decide) (backOf (W := 0) (own_m_stA l Z a0 hw [] (b46) (c1_47) (r1_47) (kA_47) ((0 : Int32)) (((((0 : Int32) + (1 : Int32)) + (1 : Int32)) + (1 : Int32))) (((((0 : Int64) + (1 : Int64)) + (1 : Int64)) + (1 : Int64))) (((([.null, .null, .null, .null].set 0 (.ref r_48)).set 1 (.ref r_48)).set 2 (.ref r_48))) ((.ref r_48)) (3) (((((0 : Int32) + (1 : Int32)) + (1 : Int32)) + (1 : Int32))) T118.heap n0 (Nat.le_trans Z0 K118.1) g_b46 g_r1_47 p47_0 p47_1 Fq118_0 Fq118_1 Fq118_2 Fq118_3 Fq118_4 Fq118_5 Fq118_6 Fq118_7 Fq118_8 f118_1 p47_2 (by decide) (by decide) (by decide) rfl (Nat.le_of_ble_eq_true rfl)) hZ (hw _ (List.mem_of_getElem? (i := 58) rfl)) (hw _ (List.mem_of_getElem? (i := 57) rfl)) (by decide) (by decide)) (g := (mkF m 190 #[.val (.int p1), .val (.int p2), .val (.ref b46), .val (.ref r_48), .val (.int (1 : Int32)), .val (.int ((((0 : Int32) + (1 : Int32)) + (1 : Int32)) + (1 : Int32)))] [(.ref r_48), (.int (1 : Int32)), (.int ((((0 : Int32) + (1 : Int32)) + (1 : Int32)) + (1 : Int32))), (.ref b46)])) rfl (by rw [hml]; rfl) (argsL := [(.ref b46), (.int ((((0 : Int32) + (1 : Int32)) + (1 : Int32)) + (1 : Int32))), (.int (1 : Int32)), (.ref r_48)]) (rest := []) (lenOf own_pd8 rfl) rfl (by show 2 * 0 + _ ≤ _; exact Nat.le_of_eq rfl) (hb hby at_190) (fun _ _ => ⟨rfl, e119, (by decide : 5 + 0 ≤ _), (by decide : 1036 + 0 ≤ _)⟩)
          dsimp only [Pt.U, Pt.locs, Pt.cells, Pt.slots] at X123 l123 y123 z123 st123 hQ123
          subst l123 y123 z123
          obtain ⟨rfl, Nq123, Kq123, Fq123_0, Fq123_1, Fq123_2, Fq123_3, Fq123_4, Fq123_5, Fq123_6, Fq123_7, Fq123_8⟩ := hQ123
          have N123 := Fr.app N119 Nq123
          have f123_0 : Sta Z T123.heap "java/lang/String" "COMPACT_STRINGS" "Z" (.int cz) := own_sta_keep f118_0 Kq123 (own_plF Fq118_0 (own_plV Fq118_8 own_pl0))
          have f123_1 : own_Key Z T123.heap (.ref r_48) := f118_1.keep Kq123
          have f123_7 : Exa Z T123.heap b46 "com/example/call_throttle/callthrottle/KeyQueue" := Fq118_5.keep Kq123
          have f123_8 : Fld Z T123.heap c1_47 "com/example/call_throttle/callthrottle/KeyQueue$Chunk" "keys" "[Ljava/lang/String;" (.ref r1_47) := Fq118_6.keep Kq123 (ninS (Ne.symm ne_b46_c1_47) (ninS p47_1 nin0))
          have f123_9 : Exa Z T123.heap c1_47 "com/example/call_throttle/callthrottle/KeyQueue$Chunk" := Fq118_7.keep Kq123
          have K123 : Keep h0 T123.heap [] := K118.trans Kq123 (allS (Or.inr sz_b46) (allS (Or.inr sz_r1_47) all0))
          refine own_step (U' := (T123.setTop (mkF m 193 #[.val (.int p1), .val (.int p2), .val (.ref b46), .val (.ref r_48), .val (.int (1 : Int32)), .val (.int ((((0 : Int32) + (1 : Int32)) + (1 : Int32)) + (1 : Int32)))] [(.int (((((0 : Int32) + (1 : Int32)) + (1 : Int32)) + (1 : Int32)) + (1 : Int32)))]))) (fun t ht => st123 _ ht) ?_
          refine own_step (U' := (T123.setTop (mkF m 195 #[.val (.int p1), .val (.int p2), .val (.ref b46), .val (.ref r_48), .val (.int (1 : Int32)), .val (.int (((((0 : Int32) + (1 : Int32)) + (1 : Int32)) + (1 : Int32)) + (1 : Int32)))] []))) (fun t ht => XS.istore X123.here hx rfl (hb hby at_193) rfl (l' := #[.val (.int p1), .val (.int p2), .val (.ref b46), .val (.ref r_48), .val (.int (1 : Int32)), .val (.int (((((0 : Int32) + (1 : Int32)) + (1 : Int32)) + (1 : Int32)) + (1 : Int32)))]) rfl ht) ?_
          refine own_step (U' := (T123.setTop (mkF m 197 #[.val (.int p1), .val (.int p2), .val (.ref b46), .val (.ref r_48), .val (.int (1 : Int32)), .val (.int (((((0 : Int32) + (1 : Int32)) + (1 : Int32)) + (1 : Int32)) + (1 : Int32)))] [(.int (1 : Int32))]))) (fun t ht => XS.iload X123.here hx rfl (hb hby at_195) rfl ht) ?_
          refine own_step (U' := (T123.setTop (mkF m 200 #[.val (.int p1), .val (.int p2), .val (.ref b46), .val (.ref r_48), .val (.int (1 : Int32)), .val (.int (((((0 : Int32) + (1 : Int32)) + (1 : Int32)) + (1 : Int32)) + (1 : Int32)))] []))) (fun t ht => XS.ifNo X123.here hx rfl (hb hby at_197) rfl (XT.i0_eq_f ((by decide) : ¬ ((1 : Int32) = 0))) ht) ?_
          refine own_step (U' := (T123.setTop (mkF m 201 #[.val (.int p1), .val (.int p2), .val (.ref b46), .val (.ref r_48), .val (.int (1 : Int32)), .val (.int (((((0 : Int32) + (1 : Int32)) + (1 : Int32)) + (1 : Int32)) + (1 : Int32)))] [(.ref b46)]))) (fun t ht => XS.aloadN X123.here hx rfl (hb hby at_200) rfl rfl ht) ?_
          obtain ⟨cq124, kq124, q124a, q124b, q124c⟩ := isOf hZ rfl Fq123_5
          obtain ⟨_, _, ⟨T124, L124, k124, n124⟩, -, X124, ⟨Lc124, hQ124, l124, y124, z124⟩, st124⟩ := X123.virtualBack hx (y := (⟨"com/example/call_throttle/callthrottle/KeyQueue", "isEmpty", "()Z"⟩ : MethodName)) (z := (⟨"com/example/call_throttle/callthrottle/KeyQueue", "isEmpty", "()Z"⟩ : MethodName)) hown (mvT hZ (hw _ (List.mem_of_getElem? (i := 48) rfl))) (mvT hZ (hw _ (List.mem_of_getElem? (i := 49) rfl))) (notFace_of_selects (args := #[]) (mvT hZ (hw _ (List.mem_of_getElem? (i := 51) rfl)))) (mvT hZ (hw _ (List.mem_of_getElem? (i := 51) rfl))) (mvT hZ (hw _ (List.mem_of_getElem? (i := 50) rfl))) (by decide) (backOf (W := 0) (own_m_ie l Z a0 hw [] (b46) ((((((0 : Int64) + (1 : Int64)) + (1 : Int64)) + (1 : Int64)) + (1 : Int64))) T123.heap n0 (Nat.le_trans Z0 K123.1) Fq123_4) hZ (hw _ (List.mem_of_getElem? (i := 52) rfl)) (hw _ (List.mem_of_getElem? (i := 2) rfl)) (by decide) (by decide)) q124a q124c (g := (mkF m 201 #[.val (.int p1), .val (.int p2), .val (.ref b46), .val (.ref r_48), .val (.int (1 : Int32)), .val (.int (((((0 : Int32) + (1 : Int32)) + (1 : Int32)) + (1 : Int32)) + (1 : Int32)))] [(.ref b46)])) rfl (by rw [hml]; rfl) (Steps.refl _) (argsL := []) (rest := []) (lenOf own_pd7 rfl) rfl (by show 2 * 0 + _ ≤ _; exact Nat.le_of_eq rfl) (hb hby at_201) (fun _ _ => ⟨rfl, rfl, (by decide : 5 + 0 ≤ _), (by decide : 1036 + 0 ≤ _)⟩)
          dsimp only [Pt.U, Pt.locs, Pt.cells, Pt.slots] at X124 l124 y124 z124 st124 hQ124
          subst l124 y124 z124
          obtain ⟨rfl, Nq124, Kq124⟩ := hQ124
          have N124 := Fr.app N123 Nq124
          have e124 : T124.heap = T123.heap := Kq124
          refine own_step (U' := (T124.setTop (mkF m 204 #[.val (.int p1), .val (.int p2), .val (.ref b46), .val (.ref r_48), .val (.int (1 : Int32)), .val (.int (((((0 : Int32) + (1 : Int32)) + (1 : Int32)) + (1 : Int32)) + (1 : Int32)))] [(.int (own_ie (((((0 : Int64) + (1 : Int64)) + (1 : Int64)) + (1 : Int64)) + (1 : Int64))))]))) (fun t ht => st124.trans ht) ?_
          refine own_step (U' := (T124.setTop (mkF m 206 #[.val (.int p1), .val (.int p2), .val (.ref b46), .val (.ref r_48), .val (.int (1 : Int32)), .val (.int (((((0 : Int32) + (1 : Int32)) + (1 : Int32)) + (1 : Int32)) + (1 : Int32)))] [(.int (((((0 : Int32) + (1 : Int32)) + (1 : Int32)) + (1 : Int32)) + (1 : Int32))), (.int (own_ie (((((0 : Int64) + (1 : Int64)) + (1 : Int64)) + (1 : Int64)) + (1 : Int64))))]))) (fun t ht => XS.iload X124.here hx rfl (hb hby at_204) rfl ht) ?_
          refine own_step (U' := (T124.setTop (mkF m 213 #[.val (.int p1), .val (.int p2), .val (.ref b46), .val (.ref r_48), .val (.int (1 : Int32)), .val (.int (((((0 : Int32) + (1 : Int32)) + (1 : Int32)) + (1 : Int32)) + (1 : Int32)))] [(.int (own_ie (((((0 : Int64) + (1 : Int64)) + (1 : Int64)) + (1 : Int64)) + (1 : Int64))))]))) (fun t ht => XS.ifYes X124.here hx rfl (pc0 := 206) (pc' := 213) rfl (hb hby at_206) rfl (XT.i0_ne_t ((by decide) : ¬ ((((((0 : Int32) + (1 : Int32)) + (1 : Int32)) + (1 : Int32)) + (1 : Int32)) = 0))) (by decide) (by decide) ht) ?_
          refine own_step (U' := (T124.setTop (mkF m 214 #[.val (.int p1), .val (.int p2), .val (.ref b46), .val (.ref r_48), .val (.int (1 : Int32)), .val (.int (((((0 : Int32) + (1 : Int32)) + (1 : Int32)) + (1 : Int32)) + (1 : Int32)))] [(.int (0 : Int32)), (.int (own_ie (((((0 : Int64) + (1 : Int64)) + (1 : Int64)) + (1 : Int64)) + (1 : Int64))))]))) (fun t ht => XS.iconst X124.here hx rfl (hb hby at_213) ht) ?_
          refine own_step (U' := (T124.setTop (mkF m 217 #[.val (.int p1), .val (.int p2), .val (.ref b46), .val (.ref r_48), .val (.int (1 : Int32)), .val (.int (((((0 : Int32) + (1 : Int32)) + (1 : Int32)) + (1 : Int32)) + (1 : Int32)))] []))) (fun t ht => XS.icmpNo X124.here hx rfl (hb hby at_214) rfl (XT.ii_ne_f ((by decide) : (own_ie (((((0 : Int64) + (1 : Int64)) + (1 : Int64)) + (1 : Int64)) + (1 : Int64))) = (0 : Int32))) ht) ?_
          refine own_step (U' := (T124.setTop (mkF m 218 #[.val (.int p1), .val (.int p2), .val (.ref b46), .val (.ref r_48), .val (.int (1 : Int32)), .val (.int (((((0 : Int32) + (1 : Int32)) + (1 : Int32)) + (1 : Int32)) + (1 : Int32)))] [(.int (1 : Int32))]))) (fun t ht => XS.iconst X124.here hx rfl (hb hby at_217) ht) ?_
          refine own_step (U' := (T124.setTop (mkF m 222 #[.val (.int p1), .val (.int p2), .val (.ref b46), .val (.ref r_48), .val (.int (1 : Int32)), .val (.int (((((0 : Int32) + (1 : Int32)) + (1 : Int32)) + (1 : Int32)) + (1 : Int32)))] [(.int (1 : Int32))]))) (fun t ht => XS.goto X124.here hx rfl (pc0 := 218) (pc' := 222) rfl (hb hby at_218) (by decide) (by decide) ht) ?_
          refine own_step (U' := (T124.setTop (mkF m 224 #[.val (.int p1), .val (.int p2), .val (.ref b46), .val (.ref r_48), .val (.int (1 : Int32)), .val (.int (((((0 : Int32) + (1 : Int32)) + (1 : Int32)) + (1 : Int32)) + (1 : Int32)))] []))) (fun t ht => XS.istore X124.here hx rfl (hb hby at_222) rfl (l' := #[.val (.int p1), .val (.int p2), .val (.ref b46), .val (.ref r_48), .val (.int (1 : Int32)), .val (.int (((((0 : Int32) + (1 : Int32)) + (1 : Int32)) + (1 : Int32)) + (1 : Int32)))]) rfl ht) ?_
          refine own_step (U' := (T124.setTop (mkF m 226 #[.val (.int p1), .val (.int p2), .val (.ref b46), .val (.ref r_48), .val (.int (1 : Int32)), .val (.int (((((0 : Int32) + (1 : Int32)) + (1 : Int32)) + (1 : Int32)) + (1 : Int32)))] [(.int (1 : Int32))]))) (fun t ht => XS.iload X124.here hx rfl (hb hby at_224) rfl ht) ?_
          refine own_ret X124 (v := (some (.int (nar .boolean (1 : Int32))))) (fun h => by rw [Bd.returns] at h; cases h) Bd.notSynchronized (by decide) (by decide) ?_ (fun fs hr => retN X124 hx (t := .boolean) Bd.returns (by simp) (hb hby at_226) hr)
          show own_Q_law Z p1 p2 cz h0 n0 _ T124.heap _
          rw [e124]
          exact ⟨rfl, N124⟩
set_option maxRecDepth 65536 in
set_option maxHeartbeats 40000000 in
theorem own_comes {Post : Tables → Env → Array Value → State → Outcome → State → Prop} (hpost : ∀ tb e args s v u, (limb_1_1.after args s (.returned v) u = true ∧ limb_1_2.after args s (.returned v) u = true ∧ True) → FrameEnd s (.returned v) u (Jvm.fieldLocs frame_1_writes args s ++ Jvm.arrayLocs frame_1_arrays args s ++ Jvm.staticLocs frame_1_statics s) 24 2176 → Post tb e args s (.returned v) u) :
    ArmFor flags0 classFile x code maxLocals ret World_1 tables_1 room_1 Calls_1 rest_1 Pre_1 Post := by
  intro l hfl _ _ p e ha hc hk s m args below hf hA hF happ hP
  obtain ⟨hcalls, hrest, hpre⟩ := hP
  obtain ⟨-, -, -, hnamed, -, -, -, hat⟩ := (Spec.applies_iff hf).mp happ
  obtain ⟨hg, hn⟩ := and_e (Cond.before_iff.mp (show (Jvm.Cond.and given_1 narrow_1).before args s = true from hpre))
  obtain ⟨hcount, q0⟩ := and_e hg
  obtain ⟨a0, q1⟩ := and_e q0
  have a1 := q1
  obtain ⟨w0, w1, rfl⟩ : ∃ w0 w1 : Value, args = #[w0, w1] := by
    have hs : args.size = 2 := by simpa [Cond.value, given_1] using hcount
    obtain ⟨L⟩ := args
    match L, hs with
    | [w0, w1], _ => exact ⟨w0, w1, rfl⟩
  obtain ⟨i0, e0⟩ := is_v a0
  obtain rfl : w0 = (.int i0) := Option.some.inj e0
  obtain ⟨i1, e1⟩ := is_v a1
  obtain rfl : w1 = (.int i1) := Option.some.inj e1
  have hw := fun d (hd : d ∈ tables_1) => atoms_spec (ws := Jvm.Cond.code x code maxLocals ret :: tables_1) hat d (List.mem_cons_of_mem _ hd)
  have hfit : Fit s := fun {y c} hc i hi => by
    obtain ⟨ha, rfl⟩ := Array.getElem?_eq_some_iff.mp hc
    have q := List.all_eq_true.mp ((Array.all_eq_true_iff_forall_mem.mp hF) _ (Array.getElem_mem ha)) i (List.mem_range.mpr hi)
    simpa [Array.getElem?_eq_getElem hi] using q
  obtain ⟨hsets, hown0⟩ := atoms_of _ (rest_1_c_eq ▸ (show rest_1_c.before _ s = true from hrest))
  have n3 := not_v (Cond.before_iff.mp (hsets _ (List.mem_of_getElem? (i := 2) rfl)))
  obtain ⟨cz, ecz⟩ := is_v (Cond.before_iff.mp (hsets _ (List.mem_of_getElem? (i := 1) rfl)))
  have Scz : Sta s s.heap "java/lang/String" "COMPACT_STRINGS" "Z" (.int cz) := Sta.start ecz (Or.inl (hsets _ (List.mem_of_getElem? (i := 0) rfl)))
  have hcz : ¬ cz = 0 := fun q => by rw [eq_i ecz (Term.int_eval 0) (by rw [q])] at n3; cases n3
  obtain ⟨n, o, h1, h2, h3, _, L, rfl, ⟨rfl, N⟩, hq⟩ := own_m_law l s _ hw tables_1 i0 i1 cz s.heap s.heap.size (Nat.le_refl _) Scz hcz p e ha hc hk s m _ below hf ((Spec.applies_iff_loose hf).mp happ).1 ⟨rfl, State.Warmed39.refl s, rfl⟩ trivial
  refine ⟨n, _, h1, h2, h3, hpost _ _ _ _ _ _ ⟨Cond.after_iff.mpr rfl, Cond.after_iff.mpr (eq_i res_at (Term.int_eval (1)) rfl), trivial⟩ ⟨hq.1, hq.2.1, (hq.2.2.sift fun y hy => Or.inr (N y hy)).mono (by decide) (by decide)⟩⟩
theorem main_1_1 : Claimed_1_1 := own_comes fun _ _ _ _ _ _ h hF => ⟨h.1, hF⟩
theorem main_1_2 : Claimed_1_2 := own_comes fun _ _ _ _ _ _ h hF => ⟨h.2.1, hF⟩
end Jvm.Pilot.@@N@@
namespace Jvm.Pilot.@@N@@
open Jvm Jvm.ClassFile Sem Op Lib Jvm.Free Jvm.Stand Jvm.Pilot.@@N@@.Jvm.D
/-! MADE BY PROGRAM (witnessworld.py) out of the Statement's table words and the real class files: 19 classes; the members and pool entries that the words name. The judged class is class 1, her method 2. -/
namespace start1
open Jvm.ClassFile
def u (s : String) : CpInfo := .utf8 (stringToUtf16 s)
/-- a pool by its gaps: so many unusable entries, then the entry; so many at the end -/
def gap : Nat → List CpInfo → List CpInfo
  | 0, r => r
  | n + 1, r => .unusable :: gap n r
def poolList (es : List (Nat × CpInfo)) (last : Nat) : List CpInfo := es.foldr (fun e r => gap e.1 (e.2 :: r)) (gap last [])
def pool (es : List (Nat × CpInfo)) (last : Nat) : Array CpInfo := ⟨poolList es last⟩
def fileOf (pool : Array CpInfo) (this : Nat) (attrs : Array Attribute := #[]) (ms : Array MethodInfo := #[]) (fl : Nat := 33) (sup : Nat := 0) (ifs : Array Nat := #[]) (fds : Array FieldInfo := #[]) : ClassFile where
  minorVersion := 0
  majorVersion := 65
  constantPool := pool
  accessFlags := fl
  thisClass := this
  superClass := sup
  interfaces := ifs
  fields := fds
  methods := ms
  attributes := attrs
def plain (name : String) (sup : Option ClassId) : Class where
  name := name
  kind := .ordinary
  loader := none
  accessFlags := 33
  super := sup
  interfaces := #[]
  cf := none
  fields := #[]
  methods := #[]
  instanceTypes := #[]
  staticTypes := #[]
  resolved := #[]
  callSites := []
  init := .initialized
  statics := none
  mirror := none

def pool0 : Array CpInfo := pool [(5, u "<init>"), (0, u "()V"), (1, .class_ 10), (1, u "java/lang/Object")] 113

def k0c0 : Code := { maxStack := 0, maxLocals := 1, code := object_method_1_code, exceptionTable := #[], attributes := #[] }
def k0m0 : Method := { name := "<init>", desc := "()V", sig := { parameters := [], returnType := none }, accessFlags := 1, code := some k0c0 }
/-- java/lang/Object -/
def k0 : Class := { plain "java/lang/Object" none with
  accessFlags := 33
  interfaces := #[]
  cf := some (fileOf pool0 8 #[] #[{ accessFlags := 1, nameIndex := 5, descriptorIndex := 6, attributes := #[] }] 33 0 #[] #[])
  fields := #[]
  methods := #[k0m0]
  instanceTypes := #[]
  staticTypes := #[]
  resolved := Array.replicate 124 none
  statics := none }

def pool1 : Array CpInfo := pool [(2, .class_ 4), (0, .nameAndType 5 6), (0, u "java/lang/Object"), (0, u "<init>"), (0, u "()V"), (0, .methodref 8 9), (0, .class_ 10), (0, .nameAndType 11 12), (0, u "com/example/call_throttle/callthrottle/KeyQueue"), (0, u "addLast"), (0, u "(Ljava/lang/String;)V"), (0, .methodref 8 14), (0, .nameAndType 15 16), (0, u "removeFirst"), (0, u "()Ljava/lang/String;"), (0, .methodref 8 3), (0, .methodref 19 20), (0, .class_ 21), (0, .nameAndType 22 23), (0, u "java/lang/String"), (0, u "valueOf"), (0, u "(C)Ljava/lang/String;"), (0, .methodref 8 25), (0, .nameAndType 26 27), (0, u "isEmpty"), (0, u "()Z"), (0, .methodref 29 30), (0, .class_ 31), (0, .nameAndType 32 33), (0, u "com/example/call_throttle/callthrottle/KeyQueueIsEmptyPinLaw"), (0, u "step"), (0, u "(Lcom/example/call_throttle/callthrottle/KeyQueue;IZLjava/lang/String;)I"), (3, u "law"), (0, u "(II)Z")] 2

def k1m0 : Method := { name := "<init>", desc := "()V", sig := { parameters := [], returnType := none }, accessFlags := 2, code := none }
def k1c1 : Code := { maxStack := 2, maxLocals := 4, code := method_2_code, exceptionTable := #[], attributes := #[] }
def k1m1 : Method := { name := "step", desc := "(Lcom/example/call_throttle/callthrottle/KeyQueue;IZLjava/lang/String;)I", sig := { parameters := [(.object "com/example/call_throttle/callthrottle/KeyQueue"), .int, .boolean, (.object "java/lang/String")], returnType := some .int }, accessFlags := 10, code := some k1c1 }
def k1c2 : Code := { maxStack := 4, maxLocals := 6, code := code, exceptionTable := #[], attributes := #[] }
def k1m2 : Method := { name := "law", desc := "(II)Z", sig := { parameters := [.int, .int], returnType := some .boolean }, accessFlags := 9, code := some k1c2 }
/-- com/example/call_throttle/callthrottle/KeyQueueIsEmptyPinLaw -/
def k1 : Class := { plain "com/example/call_throttle/callthrottle/KeyQueueIsEmptyPinLaw" (some 0) with
  accessFlags := 49
  interfaces := #[]
  cf := some (fileOf pool1 29 #[] #[{ accessFlags := 2, nameIndex := 5, descriptorIndex := 6, attributes := #[] }, { accessFlags := 10, nameIndex := 32, descriptorIndex := 33, attributes := #[] }, { accessFlags := 9, nameIndex := 37, descriptorIndex := 38, attributes := #[] }] 49 2 #[] #[])
  fields := #[]
  methods := #[k1m0, k1m1, k1m2]
  instanceTypes := #[]
  staticTypes := #[]
  resolved := Array.replicate 41 none
  statics := none }

def pool2 : Array CpInfo := pool [(1, .methodref 2 3), (0, .class_ 4), (0, .nameAndType 5 6), (0, u "java/lang/Object"), (0, u "<init>"), (0, u "()V"), (0, .class_ 8), (0, u "com/example/call_throttle/callthrottle/KeyQueue$Chunk"), (0, .methodref 7 3), (0, .fieldref 11 12), (0, .class_ 13), (0, .nameAndType 14 15), (0, u "com/example/call_throttle/callthrottle/KeyQueue"), (0, u "first"), (0, u "Lcom/example/call_throttle/callthrottle/KeyQueue$Chunk;"), (0, .fieldref 11 17), (0, .nameAndType 18 15), (0, u "last"), (0, .fieldref 11 20), (0, .nameAndType 21 22), (0, u "lastIndex"), (0, u "I"), (0, .fieldref 7 24), (0, .nameAndType 25 15), (0, u "next"), (0, .fieldref 7 27), (0, .nameAndType 28 29), (0, u "keys"), (0, u "[Ljava/lang/String;"), (0, .fieldref 11 31), (0, .nameAndType 32 33), (0, u "size"), (0, u "J"), (3, .fieldref 11 38), (0, .nameAndType 39 22), (0, u "firstIndex"), (0, u "CHUNK"), (4, u "addLast"), (0, u "(Ljava/lang/String;)V"), (1, u "removeFirst"), (0, u "()Ljava/lang/String;"), (0, u "isEmpty"), (0, u "()Z")] 6

def k2c0 : Code := { maxStack := 3, maxLocals := 1, code := prog_12_method_1_code, exceptionTable := #[], attributes := #[] }
def k2m0 : Method := { name := "<init>", desc := "()V", sig := { parameters := [], returnType := none }, accessFlags := 0, code := some k2c0 }
def k2c1 : Code := { maxStack := 5, maxLocals := 3, code := prog_12_method_2_code, exceptionTable := #[], attributes := #[] }
def k2m1 : Method := { name := "addLast", desc := "(Ljava/lang/String;)V", sig := { parameters := [(.object "java/lang/String")], returnType := none }, accessFlags := 0, code := some k2c1 }
def k2c2 : Code := { maxStack := 5, maxLocals := 2, code := prog_12_method_3_code, exceptionTable := #[], attributes := #[] }
def k2m2 : Method := { name := "removeFirst", desc := "()Ljava/lang/String;", sig := { parameters := [], returnType := some (.object "java/lang/String") }, accessFlags := 0, code := some k2c2 }
def k2c3 : Code := { maxStack := 4, maxLocals := 1, code := prog_12_method_4_code, exceptionTable := #[], attributes := #[] }
def k2m3 : Method := { name := "isEmpty", desc := "()Z", sig := { parameters := [], returnType := some .boolean }, accessFlags := 0, code := some k2c3 }
/-- com/example/call_throttle/callthrottle/KeyQueue -/
def k2 : Class := { plain "com/example/call_throttle/callthrottle/KeyQueue" (some 0) with
  accessFlags := 48
  interfaces := #[]
  cf := some (fileOf pool2 11 #[.nestMembers #[7]] #[{ accessFlags := 0, nameIndex := 5, descriptorIndex := 6, attributes := #[] }, { accessFlags := 0, nameIndex := 45, descriptorIndex := 46, attributes := #[] }, { accessFlags := 0, nameIndex := 48, descriptorIndex := 49, attributes := #[] }, { accessFlags := 0, nameIndex := 50, descriptorIndex := 51, attributes := #[] }] 48 2 #[] #[{ accessFlags := 26, nameIndex := 40, descriptorIndex := 22, attributes := #[] }, { accessFlags := 2, nameIndex := 14, descriptorIndex := 15, attributes := #[] }, { accessFlags := 2, nameIndex := 18, descriptorIndex := 15, attributes := #[] }, { accessFlags := 2, nameIndex := 39, descriptorIndex := 22, attributes := #[] }, { accessFlags := 2, nameIndex := 21, descriptorIndex := 22, attributes := #[] }, { accessFlags := 2, nameIndex := 32, descriptorIndex := 33, attributes := #[] }])
  fields := #[{ name := "CHUNK", type := .int, accessFlags := 26, slot := 0, constantValue := 0 }, { name := "first", type := (.object "com/example/call_throttle/callthrottle/KeyQueue$Chunk"), accessFlags := 2, slot := 0, constantValue := 0 }, { name := "last", type := (.object "com/example/call_throttle/callthrottle/KeyQueue$Chunk"), accessFlags := 2, slot := 1, constantValue := 0 }, { name := "firstIndex", type := .int, accessFlags := 2, slot := 2, constantValue := 0 }, { name := "lastIndex", type := .int, accessFlags := 2, slot := 3, constantValue := 0 }, { name := "size", type := .long, accessFlags := 2, slot := 4, constantValue := 0 }]
  methods := #[k2m0, k2m1, k2m2, k2m3]
  instanceTypes := #[(.object "com/example/call_throttle/callthrottle/KeyQueue$Chunk"), (.object "com/example/call_throttle/callthrottle/KeyQueue$Chunk"), .int, .int, .long]
  staticTypes := #[.int]
  resolved := ((Array.replicate 58 none).setIfInBounds 7 (some (.cls 3))).setIfInBounds 9 (some (.method ⟨3, 0⟩))
  statics := none }

def pool3 : Array CpInfo := pool [(1, .class_ 2), (0, u "com/example/call_throttle/callthrottle/KeyQueue"), (0, .methodref 4 5), (0, .class_ 6), (0, .nameAndType 7 8), (0, u "java/lang/Object"), (0, u "<init>"), (0, u "()V"), (0, .class_ 10), (0, u "java/lang/String"), (0, .fieldref 12 13), (0, .class_ 14), (0, .nameAndType 15 16), (0, u "com/example/call_throttle/callthrottle/KeyQueue$Chunk"), (0, u "keys"), (0, u "[Ljava/lang/String;"), (0, u "next"), (0, u "Lcom/example/call_throttle/callthrottle/KeyQueue$Chunk;")] 7

def k3c0 : Code := { maxStack := 2, maxLocals := 1, code := prog_13_method_1_code, exceptionTable := #[], attributes := #[] }
def k3m0 : Method := { name := "<init>", desc := "()V", sig := { parameters := [], returnType := none }, accessFlags := 2, code := some k3c0 }
/-- com/example/call_throttle/callthrottle/KeyQueue$Chunk -/
def k3 : Class := { plain "com/example/call_throttle/callthrottle/KeyQueue$Chunk" (some 0) with
  accessFlags := 48
  interfaces := #[]
  cf := some (fileOf pool3 12 #[.nestHost 1] #[{ accessFlags := 2, nameIndex := 7, descriptorIndex := 8, attributes := #[] }] 48 4 #[] #[{ accessFlags := 16, nameIndex := 15, descriptorIndex := 16, attributes := #[] }, { accessFlags := 0, nameIndex := 17, descriptorIndex := 18, attributes := #[] }])
  fields := #[{ name := "keys", type := (.array (.object "java/lang/String")), accessFlags := 16, slot := 0, constantValue := 0 }, { name := "next", type := (.object "com/example/call_throttle/callthrottle/KeyQueue$Chunk"), accessFlags := 0, slot := 1, constantValue := 0 }]
  methods := #[k3m0]
  instanceTypes := #[(.array (.object "java/lang/String")), (.object "com/example/call_throttle/callthrottle/KeyQueue$Chunk")]
  staticTypes := #[]
  resolved := Array.replicate 26 none
  statics := none }

def pool4 : Array CpInfo := pool [(1, .class_ 2), (0, u "java/io/Serializable"), (0, .class_ 4), (0, u "java/lang/Object")] 2

/-- java/io/Serializable -/
def k4 : Class := { plain "java/io/Serializable" (some 0) with
  accessFlags := 1537
  interfaces := #[]
  cf := some (fileOf pool4 1 #[] #[] 1537 3 #[] #[])
  fields := #[]
  methods := #[]
  instanceTypes := #[]
  staticTypes := #[]
  resolved := Array.replicate 7 none
  statics := none }

def pool5 : Array CpInfo := pool [(1, .class_ 2), (0, u "java/lang/Comparable"), (0, .class_ 4), (0, u "java/lang/Object")] 7

/-- java/lang/Comparable -/
def k5 : Class := { plain "java/lang/Comparable" (some 0) with
  accessFlags := 1537
  interfaces := #[]
  cf := some (fileOf pool5 1 #[] #[] 1537 3 #[] #[])
  fields := #[]
  methods := #[]
  instanceTypes := #[]
  staticTypes := #[]
  resolved := Array.replicate 12 none
  statics := none }

def pool6 : Array CpInfo := pool [(2, .class_ 4), (1, u "java/lang/CharSequence"), (42, .class_ 48), (0, u "java/lang/CharSequence$1CodePointIterator"), (10, .class_ 60), (0, u "java/lang/CharSequence$1CharIterator"), (5, .class_ 67), (0, u "java/lang/Object")] 63

/-- java/lang/CharSequence -/
def k6 : Class := { plain "java/lang/CharSequence" (some 0) with
  accessFlags := 1537
  interfaces := #[]
  cf := some (fileOf pool6 2 #[.nestMembers #[47, 59]] #[] 1537 66 #[] #[])
  fields := #[]
  methods := #[]
  instanceTypes := #[]
  staticTypes := #[]
  resolved := Array.replicate 131 none
  statics := none }

def pool7 : Array CpInfo := pool [(1, .class_ 2), (0, u "java/lang/constant/Constable"), (0, .class_ 4), (0, u "java/lang/Object")] 6

/-- java/lang/constant/Constable -/
def k7 : Class := { plain "java/lang/constant/Constable" (some 0) with
  accessFlags := 1537
  interfaces := #[]
  cf := some (fileOf pool7 1 #[] #[] 1537 3 #[] #[])
  fields := #[]
  methods := #[]
  instanceTypes := #[]
  staticTypes := #[]
  resolved := Array.replicate 11 none
  statics := none }

def pool8 : Array CpInfo := pool [(1, .class_ 2), (0, u "java/lang/constant/ConstantDesc"), (0, .class_ 4), (0, u "java/lang/Object")] 32

/-- java/lang/constant/ConstantDesc -/
def k8 : Class := { plain "java/lang/constant/ConstantDesc" (some 0) with
  accessFlags := 1537
  interfaces := #[]
  cf := some (fileOf pool8 1 #[] #[] 1537 3 #[] #[])
  fields := #[]
  methods := #[]
  instanceTypes := #[]
  staticTypes := #[]
  resolved := Array.replicate 37 none
  statics := none }

def pool9 : Array CpInfo := pool [(1, .methodref 2 3), (0, .class_ 4), (0, .nameAndType 5 6), (0, u "java/lang/Object"), (0, u "<init>"), (0, u "()V"), (2, .fieldref 10 11), (0, .class_ 12), (0, .nameAndType 13 14), (0, u "java/lang/String"), (0, u "value"), (0, u "[B"), (0, .fieldref 10 16), (0, .nameAndType 17 18), (0, u "coder"), (0, u "B"), (2, u "hash"), (0, u "I"), (2, u "hashIsZero"), (0, u "Z"), (11, .fieldref 10 39), (0, .nameAndType 40 26), (0, u "COMPACT_STRINGS"), (12, u "toBytes"), (53, .class_ 109), (1, u "java/lang/StringLatin1"), (99, .methodref 10 210), (0, .nameAndType 5 211), (0, u "([BB)V"), (157, u "(C)Z"), (205, .class_ 576), (0, u "java/lang/CharSequence"), (22, u "CASE_INSENSITIVE_ORDER"), (0, u "Ljava/util/Comparator;"), (181, u "valueOf"), (0, u "(C)Ljava/lang/String;"), (231, .methodref 107 1016), (0, .nameAndType 1017 369), (0, u "canEncode"), (0, .methodref 107 1019), (0, .nameAndType 53 1020), (0, u "(C)[B"), (80, u "serialPersistentFields"), (0, u "[Ljava/io/ObjectStreamField;"), (0, .class_ 1104), (0, u "java/lang/String$CaseInsensitiveComparator"), (1, .class_ 1107), (0, u "java/io/Serializable"), (0, .class_ 1109), (0, u "java/lang/Comparable"), (0, .class_ 1111), (0, u "java/lang/constant/Constable"), (0, .class_ 1113), (0, u "java/lang/constant/ConstantDesc"), (2, u "serialVersionUID"), (0, u "J"), (3, u "REPL"), (0, u "C"), (2, u "LATIN1"), (1, u "UTF16")] 323

def k9m0 : Method := { name := "<init>", desc := "()V", sig := { parameters := [], returnType := none }, accessFlags := 1, code := none }
def k9c1 : Code := { maxStack := 4, maxLocals := 1, code := jdk_42_method_139_code, exceptionTable := #[], attributes := #[] }
def k9m1 : Method := { name := "valueOf", desc := "(C)Ljava/lang/String;", sig := { parameters := [.char], returnType := some (.object "java/lang/String") }, accessFlags := 9, code := some k9c1 }
def k9c2 : Code := { maxStack := 2, maxLocals := 3, code := jdk_42_method_151_code, exceptionTable := #[], attributes := #[] }
def k9m2 : Method := { name := "<init>", desc := "([BB)V", sig := { parameters := [(.array .byte), .byte], returnType := none }, accessFlags := 0, code := some k9c2 }
/-- java/lang/String -/
def k9 : Class := { plain "java/lang/String" (some 0) with
  accessFlags := 49
  interfaces := #[4, 5, 6, 7, 8]
  cf := some (fileOf pool9 10 #[.nestMembers #[1103]] #[{ accessFlags := 1, nameIndex := 5, descriptorIndex := 6, attributes := #[] }, { accessFlags := 9, nameIndex := 782, descriptorIndex := 783, attributes := #[] }, { accessFlags := 0, nameIndex := 5, descriptorIndex := 211, attributes := #[] }] 49 2 #[1106, 1108, 575, 1110, 1112] #[{ accessFlags := 18, nameIndex := 13, descriptorIndex := 14, attributes := #[] }, { accessFlags := 18, nameIndex := 17, descriptorIndex := 18, attributes := #[] }, { accessFlags := 2, nameIndex := 21, descriptorIndex := 22, attributes := #[] }, { accessFlags := 2, nameIndex := 25, descriptorIndex := 26, attributes := #[] }, { accessFlags := 26, nameIndex := 1116, descriptorIndex := 1117, attributes := #[] }, { accessFlags := 24, nameIndex := 40, descriptorIndex := 26, attributes := #[] }, { accessFlags := 26, nameIndex := 1101, descriptorIndex := 1102, attributes := #[] }, { accessFlags := 26, nameIndex := 1121, descriptorIndex := 1122, attributes := #[] }, { accessFlags := 25, nameIndex := 599, descriptorIndex := 600, attributes := #[] }, { accessFlags := 24, nameIndex := 1125, descriptorIndex := 18, attributes := #[] }, { accessFlags := 24, nameIndex := 1127, descriptorIndex := 18, attributes := #[] }])
  fields := #[{ name := "value", type := (.array .byte), accessFlags := 18, slot := 0, constantValue := 0 }, { name := "coder", type := .byte, accessFlags := 18, slot := 1, constantValue := 0 }, { name := "hash", type := .int, accessFlags := 2, slot := 2, constantValue := 0 }, { name := "hashIsZero", type := .boolean, accessFlags := 2, slot := 3, constantValue := 0 }, { name := "serialVersionUID", type := .long, accessFlags := 26, slot := 0, constantValue := 0 }, { name := "COMPACT_STRINGS", type := .boolean, accessFlags := 24, slot := 1, constantValue := 0 }, { name := "serialPersistentFields", type := (.array (.object "java/io/ObjectStreamField")), accessFlags := 26, slot := 2, constantValue := 0 }, { name := "REPL", type := .char, accessFlags := 26, slot := 3, constantValue := 0 }, { name := "CASE_INSENSITIVE_ORDER", type := (.object "java/util/Comparator"), accessFlags := 25, slot := 4, constantValue := 0 }, { name := "LATIN1", type := .byte, accessFlags := 24, slot := 5, constantValue := 0 }, { name := "UTF16", type := .byte, accessFlags := 24, slot := 6, constantValue := 0 }]
  methods := #[k9m0, k9m1, k9m2]
  instanceTypes := #[(.array .byte), .byte, .int, .boolean]
  staticTypes := #[.long, .boolean, (.array (.object "java/io/ObjectStreamField")), .char, (.object "java/util/Comparator"), .byte, .byte]
  resolved := Array.replicate 1451 none
  statics := some 0 }

def pool10 : Array CpInfo := pool [(4, .class_ 6), (1, u "java/lang/Object"), (0, u "<init>"), (0, u "()V"), (5, .class_ 16), (1, u "java/lang/StringLatin1"), (73, u "canEncode"), (14, u "(C)Z"), (15, u "$assertionsDisabled"), (0, u "Z"), (98, .class_ 223), (1, u "java/lang/StringLatin1$LinesSpliterator"), (156, u "toBytes"), (1, u "(C)[B"), (7, .class_ 391), (0, u "java/lang/StringLatin1$CharsSpliterator")] 3

def k10m0 : Method := { name := "<init>", desc := "()V", sig := { parameters := [], returnType := none }, accessFlags := 0, code := none }
def k10c1 : Code := { maxStack := 2, maxLocals := 1, code := jdk_43_method_3_code, exceptionTable := #[], attributes := #[] }
def k10m1 : Method := { name := "canEncode", desc := "(C)Z", sig := { parameters := [.char], returnType := some .boolean }, accessFlags := 9, code := some k10c1 }
def k10c2 : Code := { maxStack := 4, maxLocals := 1, code := jdk_43_method_46_code, exceptionTable := #[], attributes := #[] }
def k10m2 : Method := { name := "toBytes", desc := "(C)[B", sig := { parameters := [.char], returnType := some (.array .byte) }, accessFlags := 9, code := some k10c2 }
/-- java/lang/StringLatin1 -/
def k10 : Class := { plain "java/lang/StringLatin1" (some 0) with
  accessFlags := 48
  interfaces := #[]
  cf := some (fileOf pool10 14 #[.nestMembers #[390, 221]] #[{ accessFlags := 0, nameIndex := 7, descriptorIndex := 8, attributes := #[] }, { accessFlags := 9, nameIndex := 90, descriptorIndex := 105, attributes := #[] }, { accessFlags := 9, nameIndex := 380, descriptorIndex := 382, attributes := #[] }] 48 4 #[] #[{ accessFlags := 4120, nameIndex := 121, descriptorIndex := 122, attributes := #[] }])
  fields := #[{ name := "$assertionsDisabled", type := .boolean, accessFlags := 4120, slot := 0, constantValue := 0 }]
  methods := #[k10m0, k10m1, k10m2]
  instanceTypes := #[]
  staticTypes := #[.boolean]
  resolved := Array.replicate 395 none
  statics := none }

def pool11 : Array CpInfo := pool [(2, .class_ 4), (1, u "java/lang/Object"), (0, u "<init>"), (0, u "()V"), (17, .class_ 26), (1, u "jdk/internal/util/Preconditions"), (28, .class_ 56), (0, u "jdk/internal/util/Preconditions$4"), (57, .class_ 115), (0, u "jdk/internal/util/Preconditions$1"), (7, u "SIOOBE_FORMATTER"), (0, u "Ljava/util/function/BiFunction;"), (0, .class_ 126), (0, u "jdk/internal/util/Preconditions$2"), (3, u "AIOOBE_FORMATTER"), (0, .class_ 132), (0, u "jdk/internal/util/Preconditions$3"), (3, u "IOOBE_FORMATTER")] 57

def k11m0 : Method := { name := "<init>", desc := "()V", sig := { parameters := [], returnType := none }, accessFlags := 1, code := none }
/-- jdk/internal/util/Preconditions -/
def k11 : Class := { plain "jdk/internal/util/Preconditions" (some 0) with
  accessFlags := 33
  interfaces := #[]
  cf := some (fileOf pool11 24 #[.nestMembers #[55, 131, 125, 114]] #[{ accessFlags := 1, nameIndex := 5, descriptorIndex := 6, attributes := #[] }] 33 2 #[] #[{ accessFlags := 25, nameIndex := 123, descriptorIndex := 124, attributes := #[] }, { accessFlags := 25, nameIndex := 130, descriptorIndex := 124, attributes := #[] }, { accessFlags := 25, nameIndex := 136, descriptorIndex := 124, attributes := #[] }])
  fields := #[{ name := "SIOOBE_FORMATTER", type := (.object "java/util/function/BiFunction"), accessFlags := 25, slot := 0, constantValue := 0 }, { name := "AIOOBE_FORMATTER", type := (.object "java/util/function/BiFunction"), accessFlags := 25, slot := 1, constantValue := 0 }, { name := "IOOBE_FORMATTER", type := (.object "java/util/function/BiFunction"), accessFlags := 25, slot := 2, constantValue := 0 }]
  methods := #[k11m0]
  instanceTypes := #[]
  staticTypes := #[(.object "java/util/function/BiFunction"), (.object "java/util/function/BiFunction"), (.object "java/util/function/BiFunction")]
  resolved := Array.replicate 194 none
  statics := some 1 }

def pool12 : Array CpInfo := pool [(9, u "<init>"), (6, .class_ 18), (1, u "java/lang/Object"), (0, u "()V"), (1, .class_ 23), (1, u "jdk/internal/util/ArraysSupport"), (0, u "LOG2_ARRAY_LONG_INDEX_SCALE"), (0, u "I"), (2, u "U"), (0, u "Ljdk/internal/misc/Unsafe;"), (8, u "BIG_ENDIAN"), (0, u "Z"), (8, u "LOG2_BYTE_BIT_SIZE"), (4, u "LOG2_ARRAY_INT_INDEX_SCALE"), (54, u "JLA"), (0, u "Ljdk/internal/access/JavaLangAccess;"), (11, u "LOG2_ARRAY_BOOLEAN_INDEX_SCALE"), (9, u "LOG2_ARRAY_BYTE_INDEX_SCALE"), (5, u "LOG2_ARRAY_CHAR_INDEX_SCALE"), (5, u "LOG2_ARRAY_SHORT_INDEX_SCALE"), (18, u "LOG2_ARRAY_FLOAT_INDEX_SCALE"), (24, u "LOG2_ARRAY_DOUBLE_INDEX_SCALE"), (89, u "T_BOOLEAN"), (2, u "T_CHAR"), (1, u "T_FLOAT"), (1, u "T_DOUBLE"), (1, u "T_BYTE"), (1, u "T_SHORT"), (1, u "T_INT"), (1, u "T_LONG"), (1, u "SOFT_MAX_ARRAY_LENGTH")] 83

def k12m0 : Method := { name := "<init>", desc := "()V", sig := { parameters := [], returnType := none }, accessFlags := 2, code := none }
/-- jdk/internal/util/ArraysSupport -/
def k12 : Class := { plain "jdk/internal/util/ArraysSupport" (some 0) with
  accessFlags := 33
  interfaces := #[]
  cf := some (fileOf pool12 21 #[] #[{ accessFlags := 2, nameIndex := 9, descriptorIndex := 19, attributes := #[] }] 33 16 #[] #[{ accessFlags := 24, nameIndex := 28, descriptorIndex := 29, attributes := #[] }, { accessFlags := 26, nameIndex := 38, descriptorIndex := 39, attributes := #[] }, { accessFlags := 25, nameIndex := 121, descriptorIndex := 25, attributes := #[] }, { accessFlags := 25, nameIndex := 131, descriptorIndex := 25, attributes := #[] }, { accessFlags := 25, nameIndex := 137, descriptorIndex := 25, attributes := #[] }, { accessFlags := 25, nameIndex := 143, descriptorIndex := 25, attributes := #[] }, { accessFlags := 25, nameIndex := 53, descriptorIndex := 25, attributes := #[] }, { accessFlags := 25, nameIndex := 24, descriptorIndex := 25, attributes := #[] }, { accessFlags := 25, nameIndex := 162, descriptorIndex := 25, attributes := #[] }, { accessFlags := 25, nameIndex := 187, descriptorIndex := 25, attributes := #[] }, { accessFlags := 26, nameIndex := 48, descriptorIndex := 25, attributes := #[] }, { accessFlags := 25, nameIndex := 277, descriptorIndex := 25, attributes := #[] }, { accessFlags := 25, nameIndex := 280, descriptorIndex := 25, attributes := #[] }, { accessFlags := 25, nameIndex := 282, descriptorIndex := 25, attributes := #[] }, { accessFlags := 25, nameIndex := 284, descriptorIndex := 25, attributes := #[] }, { accessFlags := 25, nameIndex := 286, descriptorIndex := 25, attributes := #[] }, { accessFlags := 25, nameIndex := 288, descriptorIndex := 25, attributes := #[] }, { accessFlags := 25, nameIndex := 290, descriptorIndex := 25, attributes := #[] }, { accessFlags := 25, nameIndex := 292, descriptorIndex := 25, attributes := #[] }, { accessFlags := 26, nameIndex := 108, descriptorIndex := 109, attributes := #[] }, { accessFlags := 25, nameIndex := 294, descriptorIndex := 25, attributes := #[] }])
  fields := #[{ name := "U", type := (.object "jdk/internal/misc/Unsafe"), accessFlags := 24, slot := 0, constantValue := 0 }, { name := "BIG_ENDIAN", type := .boolean, accessFlags := 26, slot := 1, constantValue := 0 }, { name := "LOG2_ARRAY_BOOLEAN_INDEX_SCALE", type := .int, accessFlags := 25, slot := 2, constantValue := 0 }, { name := "LOG2_ARRAY_BYTE_INDEX_SCALE", type := .int, accessFlags := 25, slot := 3, constantValue := 0 }, { name := "LOG2_ARRAY_CHAR_INDEX_SCALE", type := .int, accessFlags := 25, slot := 4, constantValue := 0 }, { name := "LOG2_ARRAY_SHORT_INDEX_SCALE", type := .int, accessFlags := 25, slot := 5, constantValue := 0 }, { name := "LOG2_ARRAY_INT_INDEX_SCALE", type := .int, accessFlags := 25, slot := 6, constantValue := 0 }, { name := "LOG2_ARRAY_LONG_INDEX_SCALE", type := .int, accessFlags := 25, slot := 7, constantValue := 0 }, { name := "LOG2_ARRAY_FLOAT_INDEX_SCALE", type := .int, accessFlags := 25, slot := 8, constantValue := 0 }, { name := "LOG2_ARRAY_DOUBLE_INDEX_SCALE", type := .int, accessFlags := 25, slot := 9, constantValue := 0 }, { name := "LOG2_BYTE_BIT_SIZE", type := .int, accessFlags := 26, slot := 10, constantValue := 0 }, { name := "T_BOOLEAN", type := .int, accessFlags := 25, slot := 11, constantValue := 0 }, { name := "T_CHAR", type := .int, accessFlags := 25, slot := 12, constantValue := 0 }, { name := "T_FLOAT", type := .int, accessFlags := 25, slot := 13, constantValue := 0 }, { name := "T_DOUBLE", type := .int, accessFlags := 25, slot := 14, constantValue := 0 }, { name := "T_BYTE", type := .int, accessFlags := 25, slot := 15, constantValue := 0 }, { name := "T_SHORT", type := .int, accessFlags := 25, slot := 16, constantValue := 0 }, { name := "T_INT", type := .int, accessFlags := 25, slot := 17, constantValue := 0 }, { name := "T_LONG", type := .int, accessFlags := 25, slot := 18, constantValue := 0 }, { name := "JLA", type := (.object "jdk/internal/access/JavaLangAccess"), accessFlags := 26, slot := 19, constantValue := 0 }, { name := "SOFT_MAX_ARRAY_LENGTH", type := .int, accessFlags := 25, slot := 20, constantValue := 0 }]
  methods := #[k12m0]
  instanceTypes := #[]
  staticTypes := #[(.object "jdk/internal/misc/Unsafe"), .boolean, .int, .int, .int, .int, .int, .int, .int, .int, .int, .int, .int, .int, .int, .int, .int, .int, .int, (.object "jdk/internal/access/JavaLangAccess"), .int]
  resolved := Array.replicate 378 none
  statics := none }

def pool13 : Array CpInfo := pool [(1, u "java/lang/Cloneable"), (0, .class_ 1), (0, u "java/lang/Object"), (0, .class_ 3)] 3

/-- java/lang/Cloneable -/
def k13 : Class := { plain "java/lang/Cloneable" (some 0) with
  accessFlags := 1537
  interfaces := #[]
  cf := some (fileOf pool13 2 #[] #[] 1537 4 #[] #[])
  fields := #[]
  methods := #[]
  instanceTypes := #[]
  staticTypes := #[]
  resolved := Array.replicate 8 none
  statics := none }

/-- the primitive byte -/
def k14 : Class := { plain "byte" none with kind := .primitive 'B', accessFlags := 0x411 }
/-- [B -/
def k15 : Class := { plain "[B" (some 0) with kind := .array 14 .byte, interfaces := #[13, 4], accessFlags := 1041 }

/-- the primitive int -/
def k16 : Class := { plain "int" none with kind := .primitive 'I', accessFlags := 0x411 }
/-- [I -/
def k17 : Class := { plain "[I" (some 0) with kind := .array 16 .int, interfaces := #[13, 4], accessFlags := 1041 }

/-- [Ljava/lang/String; -/
def k18 : Class := { plain "[Ljava/lang/String;" (some 0) with kind := .array 9 (.object "java/lang/String"), interfaces := #[13, 4], accessFlags := 1041 }

def heap : Heap := #[{ cls := 9, slots := #[.long 0, .int 1, .null, .int 0, .null, .int 0, .int 0], vm := .statics 9 },
  { cls := 11, slots := #[.null, .null, .null], vm := .statics 11 }]
def classes : Array Class := #[k0, k1, k2, k3, k4, k5, k6, k7, k8, k9, k10, k11, k12, k13, k14, k15, k16, k17, k18]
def interned : List (Array UInt16 × Addr) := []
def slotsUsed : Nat := 10
def theMethod : MethodId := ⟨1, 2⟩
def args0 : Array Value := #[.int 5, .int 7]
def aboutOver (below : List Frame) : State where
  vm := { classes := classes, interned := interned.toArray }
  heap := heap
  slotsUsed := slotsUsed
  threads := #[{ frames := .invoking theMethod args0 :: below }]
def below0 : List Frame := [.native { method := ⟨0, 0⟩, args := #[] }]
def about1 : State := aboutOver below0
def p0 : Program := .bare "" "" ""
def e0 : Env := launch0.env 0 0 0
theorem w_frames : about1.frames = Frame.invoking theMethod args0 :: below0 := rfl
set_option maxRecDepth 65536 in
theorem w_args : argsFit about1.vm theMethod args0 = true := by decide +kernel
set_option maxRecDepth 65536 in
theorem w_heap : heapFits about1 = true := by decide +kernel
set_option maxRecDepth 65536 in
theorem w_runnable : about1.curStatus? = some .runnable := by decide +kernel
set_option maxRecDepth 65536 in
theorem w_alone : about1.alone = true := by decide +kernel
set_option maxRecDepth 65536 in
theorem w_named : about1.methodNamed? x = some theMethod := by decide +kernel
set_option maxRecDepth 65536 in
theorem w_hears : about1.hears theMethod below0 = true := by decide +kernel
set_option maxRecDepth 65536 in
theorem w_ripe : about1.ripe theMethod args0 below0 = true := by decide +kernel
theorem w_running : about1.status = .running := rfl
set_option maxRecDepth 65536 in
theorem w_room : about1.hasRoom e0.platform room_1 = true :=
  launch0.hasRoom_least _ room_1 (by decide +kernel) (by decide +kernel) (by decide +kernel) (by decide +kernel) (by decide +kernel) (by decide +kernel)
theorem allAtoms_all (ts : List Jvm.Cond) (a : Array Jvm.Value) (st : Jvm.State) : (allAtoms ts).before a st = ts.all (fun c => c.before a st) := by
  induction ts with
  | nil => rfl
  | cons c t ih =>
    show (Jvm.Cond.and c (allAtoms t)).before a st = _
    rw [Jvm.Cond.before_and, ih, List.all_cons]
def words1 : List Jvm.Cond := Jvm.Cond.code x code maxLocals ret :: tables_1
/-- a 'code' word, met by the world's own term for the bytes: nothing is compared byte by byte -/
theorem code_word {y : MethodName} {bytes : ByteArray} {mx : Nat} {rt : Option FieldType} {a : Array Value} {s : State} {m : MethodId} {meth : Method} {c : Code} (h1 : s.methodNamed? y = some m) (h2 : s.vm.method? m = some meth) (h3 : meth.code = some c) (h4 : c.code = bytes)
    (h5 : (c.maxLocals == mx && c.exceptionTable.isEmpty && decide (c.maxStack ≤ mostOperands) && decide (meth.sig.returnType = rt) && !meth.locks && decide (parseMethodDescriptor y.desc = some meth.sig)) = true) : (Jvm.Cond.code y bytes mx rt).before a s = true := by
  simp only [Bool.and_eq_true, beq_iff_eq, Bool.not_eq_true', decide_eq_true_eq] at h5
  obtain ⟨⟨⟨⟨⟨g1, g2⟩, g3⟩, g4⟩, g5⟩, g6⟩ := h5
  simp [Cond.before, Cond.holds, Cond.value, h1, h2, h3, h4, g1, g2, g3, g4, g5, g6]
def isCode : Jvm.Cond → Bool
  | .code _ _ _ _ => true
  | _ => false
theorem all_split {L : List Jvm.Cond} {P : Jvm.Cond → Bool} (h1 : L.all (fun c => isCode c || P c) = true) (h2 : ∀ c ∈ L.filter isCode, P c = true) : L.all P = true := by
  refine List.all_eq_true.mpr fun c hc => ?_
  have h := List.all_eq_true.mp h1 c hc
  rcases Bool.eq_false_or_eq_true (isCode c) with hi | hi
  · exact h2 c (List.mem_filter.mpr ⟨hc, hi⟩)
  · simpa [hi] using h
set_option maxRecDepth 65536 in
theorem w_c0 : (Jvm.Cond.code x code maxLocals ret).before args0 about1 = true := code_word (m := ⟨1, 2⟩) (meth := k1m2) (c := k1c2) (by decide +kernel) rfl rfl rfl (by decide +kernel)
set_option maxRecDepth 65536 in
theorem w_c1 : (Jvm.Cond.code ({ cls := "com/example/call_throttle/callthrottle/KeyQueue", name := "<init>", desc := "()V" } : Jvm.MethodName) prog_12_method_1_code (1 : Nat) (Option.none : Option Jvm.ClassFile.FieldType)).before args0 about1 = true := code_word (m := ⟨2, 0⟩) (meth := k2m0) (c := k2c0) (by decide +kernel) rfl rfl rfl (by decide +kernel)
set_option maxRecDepth 65536 in
theorem w_c2 : (Jvm.Cond.code ({ cls := "java/lang/Object", name := "<init>", desc := "()V" } : Jvm.MethodName) object_method_1_code (1 : Nat) (Option.none : Option Jvm.ClassFile.FieldType)).before args0 about1 = true := code_word (m := ⟨0, 0⟩) (meth := k0m0) (c := k0c0) (by decide +kernel) rfl rfl rfl (by decide +kernel)
set_option maxRecDepth 65536 in
theorem w_c3 : (Jvm.Cond.code ({ cls := "com/example/call_throttle/callthrottle/KeyQueue$Chunk", name := "<init>", desc := "()V" } : Jvm.MethodName) prog_13_method_1_code (1 : Nat) (Option.none : Option Jvm.ClassFile.FieldType)).before args0 about1 = true := code_word (m := ⟨3, 0⟩) (meth := k3m0) (c := k3c0) (by decide +kernel) rfl rfl rfl (by decide +kernel)
set_option maxRecDepth 65536 in
theorem w_c4 : (Jvm.Cond.code ({ cls := "java/lang/String", name := "valueOf", desc := "(C)Ljava/lang/String;" } : Jvm.MethodName) jdk_42_method_139_code (1 : Nat) (Option.some (Jvm.ClassFile.FieldType.object "java/lang/String"))).before args0 about1 = true := code_word (m := ⟨9, 1⟩) (meth := k9m1) (c := k9c1) (by decide +kernel) rfl rfl rfl (by decide +kernel)
set_option maxRecDepth 65536 in
theorem w_c5 : (Jvm.Cond.code ({ cls := "java/lang/StringLatin1", name := "canEncode", desc := "(C)Z" } : Jvm.MethodName) jdk_43_method_3_code (1 : Nat) (Option.some Jvm.ClassFile.FieldType.boolean)).before args0 about1 = true := code_word (m := ⟨10, 1⟩) (meth := k10m1) (c := k10c1) (by decide +kernel) rfl rfl rfl (by decide +kernel)
set_option maxRecDepth 65536 in
theorem w_c6 : (Jvm.Cond.code ({ cls := "java/lang/StringLatin1", name := "toBytes", desc := "(C)[B" } : Jvm.MethodName) jdk_43_method_46_code (1 : Nat) (Option.some (Jvm.ClassFile.FieldType.array Jvm.ClassFile.FieldType.byte))).before args0 about1 = true := code_word (m := ⟨10, 2⟩) (meth := k10m2) (c := k10c2) (by decide +kernel) rfl rfl rfl (by decide +kernel)
set_option maxRecDepth 65536 in
theorem w_c7 : (Jvm.Cond.code ({ cls := "java/lang/String", name := "<init>", desc := "([BB)V" } : Jvm.MethodName) jdk_42_method_151_code (3 : Nat) (Option.none : Option Jvm.ClassFile.FieldType)).before args0 about1 = true := code_word (m := ⟨9, 2⟩) (meth := k9m2) (c := k9c2) (by decide +kernel) rfl rfl rfl (by decide +kernel)
set_option maxRecDepth 65536 in
theorem w_c8 : (Jvm.Cond.code ({ cls := "com/example/call_throttle/callthrottle/KeyQueue", name := "isEmpty", desc := "()Z" } : Jvm.MethodName) prog_12_method_4_code (1 : Nat) (Option.some Jvm.ClassFile.FieldType.boolean)).before args0 about1 = true := code_word (m := ⟨2, 3⟩) (meth := k2m3) (c := k2c3) (by decide +kernel) rfl rfl rfl (by decide +kernel)
set_option maxRecDepth 65536 in
theorem w_c9 : (Jvm.Cond.code ({ cls := "com/example/call_throttle/callthrottle/KeyQueueIsEmptyPinLaw", name := "step", desc := "(Lcom/example/call_throttle/callthrottle/KeyQueue;IZLjava/lang/String;)I" } : Jvm.MethodName) method_2_code (4 : Nat) (Option.some Jvm.ClassFile.FieldType.int)).before args0 about1 = true := code_word (m := ⟨1, 1⟩) (meth := k1m1) (c := k1c1) (by decide +kernel) rfl rfl rfl (by decide +kernel)
set_option maxRecDepth 65536 in
theorem w_c10 : (Jvm.Cond.code ({ cls := "com/example/call_throttle/callthrottle/KeyQueue", name := "addLast", desc := "(Ljava/lang/String;)V" } : Jvm.MethodName) prog_12_method_2_code (3 : Nat) (Option.none : Option Jvm.ClassFile.FieldType)).before args0 about1 = true := code_word (m := ⟨2, 1⟩) (meth := k2m1) (c := k2c1) (by decide +kernel) rfl rfl rfl (by decide +kernel)
set_option maxRecDepth 65536 in
theorem w_c11 : (Jvm.Cond.code ({ cls := "com/example/call_throttle/callthrottle/KeyQueue", name := "removeFirst", desc := "()Ljava/lang/String;" } : Jvm.MethodName) prog_12_method_3_code (2 : Nat) (Option.some (Jvm.ClassFile.FieldType.object "java/lang/String"))).before args0 about1 = true := code_word (m := ⟨2, 2⟩) (meth := k2m2) (c := k2c2) (by decide +kernel) rfl rfl rfl (by decide +kernel)
def codes1 : List Jvm.Cond := [Jvm.Cond.code x code maxLocals ret, Jvm.Cond.code ({ cls := "com/example/call_throttle/callthrottle/KeyQueue", name := "<init>", desc := "()V" } : Jvm.MethodName) prog_12_method_1_code (1 : Nat) (Option.none : Option Jvm.ClassFile.FieldType), Jvm.Cond.code ({ cls := "java/lang/Object", name := "<init>", desc := "()V" } : Jvm.MethodName) object_method_1_code (1 : Nat) (Option.none : Option Jvm.ClassFile.FieldType), Jvm.Cond.code ({ cls := "com/example/call_throttle/callthrottle/KeyQueue$Chunk", name := "<init>", desc := "()V" } : Jvm.MethodName) prog_13_method_1_code (1 : Nat) (Option.none : Option Jvm.ClassFile.FieldType), Jvm.Cond.code ({ cls := "java/lang/String", name := "valueOf", desc := "(C)Ljava/lang/String;" } : Jvm.MethodName) jdk_42_method_139_code (1 : Nat) (Option.some (Jvm.ClassFile.FieldType.object "java/lang/String")), Jvm.Cond.code ({ cls := "java/lang/StringLatin1", name := "canEncode", desc := "(C)Z" } : Jvm.MethodName) jdk_43_method_3_code (1 : Nat) (Option.some Jvm.ClassFile.FieldType.boolean), Jvm.Cond.code ({ cls := "java/lang/StringLatin1", name := "toBytes", desc := "(C)[B" } : Jvm.MethodName) jdk_43_method_46_code (1 : Nat) (Option.some (Jvm.ClassFile.FieldType.array Jvm.ClassFile.FieldType.byte)), Jvm.Cond.code ({ cls := "java/lang/String", name := "<init>", desc := "([BB)V" } : Jvm.MethodName) jdk_42_method_151_code (3 : Nat) (Option.none : Option Jvm.ClassFile.FieldType), Jvm.Cond.code ({ cls := "com/example/call_throttle/callthrottle/KeyQueue", name := "isEmpty", desc := "()Z" } : Jvm.MethodName) prog_12_method_4_code (1 : Nat) (Option.some Jvm.ClassFile.FieldType.boolean), Jvm.Cond.code ({ cls := "com/example/call_throttle/callthrottle/KeyQueueIsEmptyPinLaw", name := "step", desc := "(Lcom/example/call_throttle/callthrottle/KeyQueue;IZLjava/lang/String;)I" } : Jvm.MethodName) method_2_code (4 : Nat) (Option.some Jvm.ClassFile.FieldType.int), Jvm.Cond.code ({ cls := "com/example/call_throttle/callthrottle/KeyQueue", name := "addLast", desc := "(Ljava/lang/String;)V" } : Jvm.MethodName) prog_12_method_2_code (3 : Nat) (Option.none : Option Jvm.ClassFile.FieldType), Jvm.Cond.code ({ cls := "com/example/call_throttle/callthrottle/KeyQueue", name := "removeFirst", desc := "()Ljava/lang/String;" } : Jvm.MethodName) prog_12_method_3_code (2 : Nat) (Option.some (Jvm.ClassFile.FieldType.object "java/lang/String"))]
set_option maxRecDepth 65536 in
theorem codes_eq : words1.filter isCode = codes1 := rfl
theorem w_codes : ∀ c ∈ words1.filter isCode, c.before args0 about1 = true := by
  rw [codes_eq]
  intro c hc
  simp only [codes1, List.mem_cons, List.not_mem_nil, or_false] at hc
  rcases hc with rfl | rfl | rfl | rfl | rfl | rfl | rfl | rfl | rfl | rfl | rfl | rfl
  · exact w_c0
  · exact w_c1
  · exact w_c2
  · exact w_c3
  · exact w_c4
  · exact w_c5
  · exact w_c6
  · exact w_c7
  · exact w_c8
  · exact w_c9
  · exact w_c10
  · exact w_c11
set_option maxRecDepth 65536 in
theorem w_t1 : (words1.take 24).all (fun c => isCode c || c.before args0 about1) = true := by decide +kernel
set_option maxRecDepth 65536 in
theorem w_t2 : ((words1.drop 24).take 24).all (fun c => isCode c || c.before args0 about1) = true := by decide +kernel
set_option maxRecDepth 65536 in
theorem w_t3 : (((words1.drop 24).drop 24).take 24).all (fun c => isCode c || c.before args0 about1) = true := by decide +kernel
set_option maxRecDepth 65536 in
theorem w_t4 : (((words1.drop 24).drop 24).drop 24).all (fun c => isCode c || c.before args0 about1) = true := by decide +kernel
theorem w_tables : (allAtoms (Jvm.Cond.code x code maxLocals ret :: tables_1)).before args0 about1 = true := by
  rw [allAtoms_all]
  show words1.all (fun c => c.before args0 about1) = true
  refine all_split ?_ w_codes
  rw [← List.take_append_drop 24 words1, List.all_append, w_t1, ← List.take_append_drop 24 (words1.drop 24), List.all_append, w_t2, ← List.take_append_drop 24 ((words1.drop 24).drop 24), List.all_append, w_t3, w_t4]
  rfl
set_option maxRecDepth 65536 in
theorem w_rest : rest_1_c.before args0 about1 = true := by decide +kernel
set_option maxRecDepth 65536 in
theorem w_case : (Jvm.Cond.and given_1 narrow_1).before args0 about1 = true := by decide +kernel
theorem w_applies : (headSpec (Jvm.Cond.code x code maxLocals ret :: tables_1) room_1).applies x e0.platform about1 = true :=
  (Spec.applies_iff w_frames).mpr ⟨w_running, w_runnable, w_alone, w_named, w_hears, w_ripe, w_room, w_tables⟩
theorem atStart : AtStart classFile x code maxLocals ret World_1 tables_1 room_1 Calls_1 rest_1 Pre_1 launch0 p0 e0 about1 theMethod args0 below0 :=
  ⟨lists_1, trivial, launch0.admits_env _ _ _, launch0.least_env, fairChoices_fair.cas, fairChoices_fair.clock, w_frames, w_args, w_heap, w_applies, trivial, w_rest, w_case⟩
end start1
theorem witness_1 : WitnessClaimed_1 := ⟨start1.p0, start1.e0, start1.about1, start1.theMethod, start1.args0, start1.below0, start1.atStart⟩
end Jvm.Pilot.@@N@@
