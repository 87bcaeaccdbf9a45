import JvmDerived
import JvmDerived.Pilot.@@N@@Statement
import JvmDerived.Pilot.@@N@@Code
set_option linter.unusedVariables false
set_option linter.unusedSimpArgs false
@@BLOCK:NumsL.lean.txt@@
namespace Jvm.RoadKit
open Sem ClassFile Op Lib Jvm.Stand Jvm.Free Jvm.LawKit
section New
variable {p : Program} {l : Launch} {e : Env} {R : Room} {s : State} {m : MethodId} {args : Array Value} {below : List Frame} {meth : Method} {c : Code} {T : State} {locs : List Loc} {cells slots : Nat}
theorem retI (X : Stand p l e R s m args below meth c T locs cells slots) (hx : p.tables.exec = Jvm.exec) {pc : Nat} {Ls : Array Slot} {z : Int32} {rest : List Value} (hret : meth.sig.returnType = some .int) (hd : decode c.code pc = .ok (.ireturn, 1)) {fs : List Frame}
    (hl : ∀ (f : JFrame) (acts : List Action), f.method = m → f.locked = none → f.entered = [] → (doReturn e (T.setTop f) acts (some (.int z))).1 = T.setFrames fs) : Steps p.tables e below (T.setTop (mkF m pc Ls (.int z :: rest))) (T.setFrames fs) := by
  have hm' : T.vm.method? m = some meth := X.method'
  have hn : narrow .int (.int z) = .int z := rfl
  show Steps p.tables e below (T.setTop { method := m, pc := pc, locals := Ls, stack := _ :: rest, locked := none }) _
  jvm_step X.here [X.here.top, hx, hd, hm', hret, hn]
  first | (intro acts; rw [hl _ acts rfl rfl rfl]) | rw [hl _ _ rfl rfl rfl]
  exact Steps.refl _
end New
end Jvm.RoadKit
namespace Jvm.Pilot.@@N@@
open Jvm Jvm.ClassFile Sem Op Lib Jvm.Free Jvm.Stand Jvm.LawKit Jvm.RoadKit Bundle Jvm.Pilot.@@N@@.Jvm.D
section Own
variable {p : Program} {l : Launch} {e : Env} {R : Room} {s : State} {m : MethodId} {args : Array Value} {below : List Frame} {meth : Method} {c : Code} {T : State} {locs : List Loc} {cells slots : Nat}
/-- from U the run comes to an end that Q allows -/
def own_Go (p : Program) (e : Env) (below : List Frame) (s : State) (kc ks : Nat) (Q : Option Value → Heap → List Loc → Prop) (U : State) : Prop :=
  ∃ s₂ o, Steps p.tables e below U s₂ ∧ s₂.status = .running ∧ Ended s₂ below o ∧ ∃ v L, o = .returned v ∧ Q v s₂.heap L ∧ FrameEnd s o s₂ L kc ks
theorem own_step {kc ks : Nat} {Q : Option Value → Heap → List Loc → Prop} {U U' : State} (k : ∀ t, Steps p.tables e below U' t → Steps p.tables e below U t) (g : own_Go p e below s kc ks Q U') : own_Go p e below s kc ks Q U := by
  obtain ⟨s₂, o, h, r⟩ := g
  exact ⟨s₂, o, k _ h, r⟩
theorem own_ret {kc ks : Nat} {Q : Option Value → Heap → List Loc → Prop} {U : State} (X : Stand p l e R s m args below meth c T locs cells slots) {v : Option Value} (hv : meth.sig.returnType = none → v = none) (hlocks : meth.locks = false) (hk : cells ≤ kc) (hs : slots ≤ ks) (hq : Q v T.heap locs)
    (k : ∀ fs, (∀ (f : JFrame) (acts : List Action), f.method = m → f.locked = none → f.entered = [] → (doReturn e (T.setTop f) acts v).1 = T.setFrames fs) → Steps p.tables e below U (T.setFrames fs)) : own_Go p e below s kc ks Q U := by
  obtain ⟨fs, hr, hrun, hended, hW, hsame⟩ := X.leave (v := v) hv hlocks
  exact ⟨_, _, k fs hr, hrun, hended, v, locs, rfl, hq, ⟨_, rfl⟩, hW, hsame.mono hk hs⟩
theorem own_narR {t : FieldType} {v : Value} (h : v.isRef = true) : narrow t v = v := by cases v <;> first | (cases h; done) | (cases t <;> rfl)
theorem own_fitR {t : String} {v : Value} (h : v.isRef = true) : fits (.object t) v = true := by cases v <;> first | (cases h; done) | rfl
theorem own_at {h : Heap} {a : Addr} {k : Cell} (e : T.heap = h) (q : h[a]? = some k) : T.heap[a]? = some k := e ▸ q
theorem own_pl0 {h : Heap} : ∀ a ∈ ([] : List Addr), ∀ c : Cell, h[a]? = some c → c.vm.isStatics = false := fun _ q => nomatch q
theorem own_plE {Z : State} {h : Heap} {a : Addr} {C : String} {ws : List Addr} (E : Exa Z h a C) (r : ∀ x ∈ ws, ∀ c : Cell, h[x]? = some c → c.vm.isStatics = false) : ∀ x ∈ a :: ws, ∀ c : Cell, h[x]? = some c → c.vm.isStatics = false := fun x hx c hc => by
  rcases List.mem_cons.mp hx with rfl | q
  · obtain ⟨cell, k, h1, -, -, h4, -⟩ := E
    cases h1.symm.trans hc; exact h4
  · exact r x q c hc
theorem own_plF {Z : State} {h : Heap} {a : Addr} {C n d : String} {v : Value} {ws : List Addr} (E : Fld Z h a C n d v) (r : ∀ x ∈ ws, ∀ c : Cell, h[x]? = some c → c.vm.isStatics = false) : ∀ x ∈ a :: ws, ∀ c : Cell, h[x]? = some c → c.vm.isStatics = false := fun x hx c hc => by
  rcases List.mem_cons.mp hx with rfl | q
  · exact old_plain E c hc
  · exact r x q c hc
theorem own_plV {Z : State} {h : Heap} {a : Addr} {k : ClassId} {ty : FieldType} {z : Int32} {vs : List Value} {d : Value} {ws : List Addr} (E : Arv Z h a k ty z vs d) (r : ∀ x ∈ ws, ∀ c : Cell, h[x]? = some c → c.vm.isStatics = false) : ∀ x ∈ a :: ws, ∀ c : Cell, h[x]? = some c → c.vm.isStatics = false := fun x hx c hc => by
  rcases List.mem_cons.mp hx with rfl | q
  · obtain ⟨cl, A, -⟩ := E
    cases A.1.symm.trans hc; exact A.plain
  · exact r x q c hc
theorem own_sta_keep {Z : State} {h h' : Heap} {C n d : String} {w : Value} {ws : List Addr} (F : Sta Z h C n d w) (K : Keep h h' ws) (r : ∀ x ∈ ws, ∀ c : Cell, h[x]? = some c → c.vm.isStatics = false) : Sta Z h' C n d w := by
  obtain ⟨cf, i, k, f, st, cell, h1, h2, h3, h4, h5, h6, h7⟩ := F
  exact ⟨cf, i, k, f, st, cell, h1, h2, h3, h4, K.2.1 st cell h5 (fun q => by rw [r st q cell h5] at h6; cases h6), h6, h7⟩
end Own
theorem own_off_skip {a o d : Int} {r : List (Int × Int)} {x k : Int32} (ha : k.toInt = a) (h : ¬ x = k) : lookupswitch.offset ((a, o) :: r) d x.toInt = lookupswitch.offset r d x.toInt := by
  rw [lookupswitch.offset_cons]
  exact if_neg fun q => h (Int32.toInt_inj.mp (q.symm.trans ha.symm))
theorem own_lsw {tb : Tables} [Ours tb] {e : Env} {below : List Frame} {T target : State} {m : MethodId} {c : Code} {g : JFrame} (h : At T m c below) (hx : tb.exec = Jvm.exec) (hg : g.method = m) {dflt : Int} {prs : Array (Int × Int)} {len : Nat} {o : Int} {pc0 pc' : Nat} (hpc : g.pc = pc0) (hd : decode c.code g.pc = .ok (.lookupswitch dflt prs, len)) {i : Int32} {rest : List Value} (hs : g.stack = .int i :: rest)
    (hsort : (prs.toList.zip (prs.toList.drop 1)).all (fun (a, next) => a.1 < next.1) = true) (hoff : lookupswitch.offset prs.toList dflt i.toInt = o) (ho : 0 ≤ (pc0 : Int) + o) (hp : ((pc0 : Int) + o).toNat = pc')
    (hr : Steps tb e below (T.setTop { g with pc := pc', stack := rest }) target) : Steps tb e below (T.setTop g) target := by
  subst hg hpc hp hoff
  jvm_step h [h.top, hx, hd, hs, ho, lookupswitch.wp_chain]
  refine ⟨?_, hr⟩
  simpa using hsort
def own_ib (t : Int32) : Int32 := if t = -6 then 8 else if t = -5 then 64 else if t = 4 then 32 else if t = 5 then 16 else 0
def own_eb (t : Int32) : Int32 := if t = -6 then 8 else if t = 5 then 16 else if t = 4 then 32 else if t = -5 then 64 else 0
theorem own_ibeb (t : Int32) : own_ib t = own_eb t := by
  unfold own_ib own_eb
  by_cases h1 : t = -6
  · subst h1; decide
  · by_cases h2 : t = -5
    · subst h2; decide
    · by_cases h3 : t = 4
      · subst h3; decide
      · by_cases h4 : t = 5
        · subst h4; decide
        · simp [h1, h2, h3, h4]
def own_ce (c : Int32) : Int32 := if 255 < c then 0 else 1
theorem own_le255 (x : Int32) : ¬ 255 < (x &&& 255).toUInt32.toUInt16.toUInt32.toInt32 := by
  rw [i2c_mask, Int32.lt_iff_toInt_lt]
  have := Jvm.Kit.i32_mask x 255 (k := 8) (by decide) (by decide)
  have e : (255 : Int32).toInt = 255 := rfl
  omega
theorem own_pn0 : plainName "java/lang/StringLatin1" = true := by first | (simp [plainName, overriddenIn]; done) | decide +kernel
theorem own_d2_0 : decode jdk_43_method_3_code 0 = .ok (.iload_n 0, 1) := by decide +kernel
theorem own_d2_1 : decode jdk_43_method_3_code 1 = .ok (.sipush 255, 3) := by decide +kernel
theorem own_d2_4 : decode jdk_43_method_3_code 4 = .ok (.if_icmp .gt 7, 3) := by decide +kernel
theorem own_d2_7 : decode jdk_43_method_3_code 7 = .ok (.iconst 1, 1) := by decide +kernel
theorem own_d2_8 : decode jdk_43_method_3_code 8 = .ok (.goto 4, 3) := by decide +kernel
theorem own_d2_11 : decode jdk_43_method_3_code 11 = .ok (.iconst 0, 1) := by decide +kernel
theorem own_d2_12 : decode jdk_43_method_3_code 12 = .ok (.ireturn, 1) := by decide +kernel
def own_Q_ce (Z : State) (p1 : Int32) (h0 : Heap) (n0 : Nat) (v : Option Value) (h : Heap) (L : List Loc) : Prop := v = some (.int (own_ce p1)) ∧ Fr n0 L ∧ h = h0
set_option maxRecDepth 65536 in
set_option maxHeartbeats 40000000 in
theorem own_m_ce (l : Launch) (Z : State) (a0 : Array Value) (hw : ∀ d ∈ tables_1, d.before a0 Z = true) (ws : List Jvm.Cond) (p1 : Int32) (h0 : Heap) (n0 : Nat) (Z0 : n0 ≤ h0.size)  :
    MetFree l (⟨"java/lang/StringLatin1", "canEncode", "(C)Z"⟩ : MethodName) (head1 (Jvm.Cond.code (⟨"java/lang/StringLatin1", "canEncode", "(C)Z"⟩ : MethodName) jdk_43_method_3_code 1 (some .boolean) :: ws) ({ frames := 0, cells := 0, slots := 0, locals := 0 } : Room)) (fun a U => a = #[(.int p1)] ∧ Z.Warmed39 U.vm ∧ U.heap = h0) (fun _ _ _ _ _ => True) (fun _ U o U' => ∃ v L, o = .returned v ∧ own_Q_ce Z p1 h0 n0 v U'.heap L ∧ FrameEnd U o U' L ({ frames := 0, cells := 0, slots := 0, locals := 0 } : Room).cells ({ frames := 0, cells := 0, slots := 0, locals := 0 } : Room).slots) := by
  refine MetFree.of_bodySF (plainFor_of_name own_pn0) hisR ?_
  intro p e s m args below meth c s₁ Bd hml0 hP hK
  obtain ⟨rfl, hZ, hh⟩ := hP
  have hx := Bd.exec
  have hby := Bd.bytes
  have hml : c.maxLocals = 1 := hml0
  have hown : s.vm.findClass "java/lang/StringLatin1" = some m.cls := findClass_of_methodNamed Bd.named
  have hnm := (name_of_methodNamed Bd.named Bd.method).1
  have X0 : Stand p l e ({ frames := 0, cells := 0, slots := 0, locals := 0 } : Room) s m #[(.int p1)] below meth c s₁ [] 0 0 := Stand.of_body Bd
  have e0 : s₁.heap = h0 := by rw [← hh, Bd.state]; rfl
  have N0 := Fr.nil n0
  have K0 : Keep h0 h0 [] := Keep.refl _ _
  show own_Go p e below s ({ frames := 0, cells := 0, slots := 0, locals := 0 } : Room).cells ({ frames := 0, cells := 0, slots := 0, locals := 0 } : Room).slots (own_Q_ce Z p1 h0 n0) (s₁.setTop (entryFrame m #[(.int p1)] 1))
  have ef : entryFrame m #[(.int p1)] 1 = (mkF m 0 #[.val (.int p1)] []) := by first | rfl | (simp [entryFrame, mkF, argsToLocals, Value.category, maxLocals]; done)
  rw [ef]
  show own_Go p e below s _ _ _ (s₁.setTop (mkF m 0 #[.val (.int p1)] []))
  refine own_step (U' := (s₁.setTop (mkF m 1 #[.val (.int p1)] [(.int p1)]))) (fun t ht => XS.iloadN X0.here hx rfl (hb hby own_d2_0) rfl ht) ?_
  refine own_step (U' := (s₁.setTop (mkF m 4 #[.val (.int p1)] [(.int (255 : Int32)), (.int p1)]))) (fun t ht => XS.sipush X0.here hx rfl (hb hby own_d2_1) ht) ?_
  by_cases hc4_1 : (255 : Int32) < p1
  ·
    refine own_step (U' := (s₁.setTop (mkF m 11 #[.val (.int p1)] []))) (fun t ht => XS.icmpYes X0.here hx rfl (pc0 := 4) (pc' := 11) rfl (hb hby own_d2_4) rfl (XT.ii_gt_t hc4_1) (by decide) (by decide) ht) ?_
    refine own_step (U' := (s₁.setTop (mkF m 12 #[.val (.int p1)] [(.int (0 : Int32))]))) (fun t ht => XS.iconst X0.here hx rfl (hb hby own_d2_11) ht) ?_
    refine own_ret X0 (v := (some (.int (nar .boolean (0 : Int32))))) (fun h => by rw [Bd.returns] at h; cases h) Bd.notSynchronized (by decide) (by decide) ?_ (fun fs hr => retN X0 hx (t := .boolean) Bd.returns (by simp) (hb hby own_d2_12) hr)
    show own_Q_ce Z p1 h0 n0 _ s₁.heap _
    rw [e0]
    refine ⟨?_, N0, rfl⟩
    simp [own_ce, nar, hc4_1]
  ·
    refine own_step (U' := (s₁.setTop (mkF m 7 #[.val (.int p1)] []))) (fun t ht => XS.icmpNo X0.here hx rfl (hb hby own_d2_4) rfl (XT.ii_gt_f hc4_1) ht) ?_
    refine own_step (U' := (s₁.setTop (mkF m 8 #[.val (.int p1)] [(.int (1 : Int32))]))) (fun t ht => XS.iconst X0.here hx rfl (hb hby own_d2_7) ht) ?_
    refine own_step (U' := (s₁.setTop (mkF m 12 #[.val (.int p1)] [(.int (1 : Int32))]))) (fun t ht => XS.goto X0.here hx rfl (pc0 := 8) (pc' := 12) rfl (hb hby own_d2_8) (by decide) (by decide) ht) ?_
    refine own_ret X0 (v := (some (.int (nar .boolean (1 : Int32))))) (fun h => by rw [Bd.returns] at h; cases h) Bd.notSynchronized (by decide) (by decide) ?_ (fun fs hr => retN X0 hx (t := .boolean) Bd.returns (by simp) (hb hby own_d2_12) hr)
    show own_Q_ce Z p1 h0 n0 _ s₁.heap _
    rw [e0]
    refine ⟨?_, N0, rfl⟩
    simp [own_ce, nar, hc4_1]
theorem own_d3_0 : decode jdk_43_method_46_code 0 = .ok (.iconst 1, 1) := by decide +kernel
theorem own_d3_1 : decode jdk_43_method_46_code 1 = .ok (.newarray .byte, 2) := by decide +kernel
theorem own_d3_3 : decode jdk_43_method_46_code 3 = .ok (.dup, 1) := by decide +kernel
theorem own_d3_4 : decode jdk_43_method_46_code 4 = .ok (.iconst 0, 1) := by decide +kernel
theorem own_d3_5 : decode jdk_43_method_46_code 5 = .ok (.iload_n 0, 1) := by decide +kernel
theorem own_d3_6 : decode jdk_43_method_46_code 6 = .ok (.i2b, 1) := by decide +kernel
theorem own_d3_7 : decode jdk_43_method_46_code 7 = .ok (.bastore, 1) := by decide +kernel
theorem own_d3_8 : decode jdk_43_method_46_code 8 = .ok (.areturn, 1) := by decide +kernel
def own_Q_tob (Z : State) (p1 : Int32) (h0 : Heap) (n0 : Nat) (v : Option Value) (h : Heap) (L : List Loc) : Prop := ∃ (r : Addr), v = some (.ref r) ∧ Fr n0 L ∧ Keep h0 h [] ∧ h0.size ≤ r
set_option maxRecDepth 65536 in
set_option maxHeartbeats 40000000 in
theorem own_m_tob (l : Launch) (Z : State) (a0 : Array Value) (hw : ∀ d ∈ tables_1, d.before a0 Z = true) (ws : List Jvm.Cond) (p1 : Int32) (h0 : Heap) (n0 : Nat) (Z0 : n0 ≤ h0.size)  :
    MetFree l (⟨"java/lang/StringLatin1", "toBytes", "(C)[B"⟩ : MethodName) (head1 (Jvm.Cond.code (⟨"java/lang/StringLatin1", "toBytes", "(C)[B"⟩ : MethodName) jdk_43_method_46_code 1 (some (.array .byte)) :: ws) ({ frames := 0, cells := 1, slots := 1, locals := 0 } : Room)) (fun a U => a = #[(.int p1)] ∧ Z.Warmed39 U.vm ∧ U.heap = h0) (fun _ _ _ _ _ => True) (fun _ U o U' => ∃ v L, o = .returned v ∧ own_Q_tob Z p1 h0 n0 v U'.heap L ∧ FrameEnd U o U' L ({ frames := 0, cells := 1, slots := 1, locals := 0 } : Room).cells ({ frames := 0, cells := 1, slots := 1, locals := 0 } : Room).slots) := by
  refine MetFree.of_bodySF (plainFor_of_name own_pn0) hisR ?_
  intro p e s m args below meth c s₁ Bd hml0 hP hK
  obtain ⟨rfl, hZ, hh⟩ := hP
  have hx := Bd.exec
  have hby := Bd.bytes
  have hml : c.maxLocals = 1 := hml0
  have hown : s.vm.findClass "java/lang/StringLatin1" = some m.cls := findClass_of_methodNamed Bd.named
  have hnm := (name_of_methodNamed Bd.named Bd.method).1
  have X0 : Stand p l e ({ frames := 0, cells := 1, slots := 1, locals := 0 } : Room) s m #[(.int p1)] below meth c s₁ [] 0 0 := Stand.of_body Bd
  have e0 : s₁.heap = h0 := by rw [← hh, Bd.state]; rfl
  have N0 := Fr.nil n0
  have K0 : Keep h0 h0 [] := Keep.refl _ _
  show own_Go p e below s ({ frames := 0, cells := 1, slots := 1, locals := 0 } : Room).cells ({ frames := 0, cells := 1, slots := 1, locals := 0 } : Room).slots (own_Q_tob Z p1 h0 n0) (s₁.setTop (entryFrame m #[(.int p1)] 1))
  have ef : entryFrame m #[(.int p1)] 1 = (mkF m 0 #[.val (.int p1)] []) := by first | rfl | (simp [entryFrame, mkF, argsToLocals, Value.category, maxLocals]; done)
  rw [ef]
  show own_Go p e below s _ _ _ (s₁.setTop (mkF m 0 #[.val (.int p1)] []))
  refine own_step (U' := (s₁.setTop (mkF m 1 #[.val (.int p1)] [(.int (1 : Int32))]))) (fun t ht => XS.iconst X0.here hx rfl (hb hby own_d3_0) ht) ?_
  obtain ⟨T2, h2, k2, X2, e2, E2, A2, st2⟩ := newP X0 hx hZ (hw _ (List.mem_of_getElem? (i := 14) rfl)) e0 (g := (mkF m 1 #[.val (.int p1)] [(.int (1 : Int32))])) rfl (hb hby own_d3_1) rfl (by decide) (cap := 1) (by decide) (by decide) (by decide) (by decide)
  obtain ⟨b2, g2⟩ : ∃ z, z = (h0).size := ⟨_, rfl⟩
  rw [← g2] at A2 st2
  have g_b2 : n0 ≤ b2 := Nat.le_trans (Nat.le_trans Z0 K0.1) (Nat.le_of_eq g2.symm)
  have sz_b2 : h0.size ≤ b2 := Nat.le_trans K0.1 (Nat.le_of_eq g2.symm)
  have K2 : Keep h0 h2 [] := K0.ext E2
  have V2 : Arv Z h2 b2 k2 .byte (1 : Int32) [(.int (0 : Int32))] (.int (0 : Int32)) := (Arv.new A2 (by decide)).pad (pad_rep [] (.int (0 : Int32)) 1)
  refine own_step (U' := (T2.setTop (mkF m 3 #[.val (.int p1)] [(.ref b2)]))) (fun t ht => st2 _ ht) ?_
  refine own_step (U' := (T2.setTop (mkF m 4 #[.val (.int p1)] [(.ref b2), (.ref b2)]))) (fun t ht => XS.dup X2.here hx rfl (hb hby own_d3_3) rfl rfl ht) ?_
  refine own_step (U' := (T2.setTop (mkF m 5 #[.val (.int p1)] [(.int (0 : Int32)), (.ref b2), (.ref b2)]))) (fun t ht => XS.iconst X2.here hx rfl (hb hby own_d3_4) ht) ?_
  refine own_step (U' := (T2.setTop (mkF m 6 #[.val (.int p1)] [(.int p1), (.int (0 : Int32)), (.ref b2), (.ref b2)]))) (fun t ht => XS.iloadN X2.here hx rfl (hb hby own_d3_5) rfl ht) ?_
  refine own_step (U' := (T2.setTop (mkF m 7 #[.val (.int p1)] [(.int (p1.toInt8.toInt32)), (.int (0 : Int32)), (.ref b2), (.ref b2)]))) (fun t ht => XT.i2b X2.here hx rfl (hb hby own_d3_6) rfl ht) ?_
  obtain ⟨cl3, Ar3, q3, S3, N3_, H3, G3⟩ := V2
  have hin3 : ¬ ((0 : Int32) < 0 ∨ cl3.slots.size ≤ ((0 : Int32)).toNatClampNeg) := inb_of S3 ⟨by decide, by decide⟩
  obtain ⟨T3, h3, X3, e3, W3, st3⟩ := stB X2 hx hZ e2 Ar3 (j := (0 : Int32)) hin3 (g := (mkF m 7 #[.val (.int p1)] [(.int (p1.toInt8.toInt32)), (.int (0 : Int32)), (.ref b2), (.ref b2)])) rfl rfl (hb hby own_d3_7)
  have V3 : Arv Z h3 b2 k2 .byte (1 : Int32) [(.int ((p1.toInt8.toInt32).toInt8.toInt32))] (.int (0 : Int32)) := Arv.set Ar3 q3 S3 N3_ H3 G3 (fits_nar_byte _) W3 0 rfl (by decide)
  have N3 := Fr.snoc X3 N0 g_b2
  have K3 : Keep h0 h3 [] := K2.wr W3 (Or.inr sz_b2)
  refine own_step (U' := (T3.setTop (mkF m 8 #[.val (.int p1)] [(.ref b2)]))) (fun t ht => st3 _ ht) ?_
  refine own_ret X3 (v := (some (.ref b2))) (fun h => by rw [Bd.returns] at h; cases h) Bd.notSynchronized (by decide) (by decide) ?_ (fun fs hr => retOut X3 hx Bd.returns (own_narR rfl) (Or.inr (Or.inr (Or.inr (Or.inr ⟨rfl, rfl, rfl⟩)))) (hb hby own_d3_8) hr)
  show own_Q_tob Z p1 h0 n0 _ T3.heap _
  rw [e3]
  exact ⟨b2, rfl, N3, K3, sz_b2⟩
theorem own_pn1 : plainName "java/lang/String" = true := by first | (simp [plainName, overriddenIn]; done) | decide +kernel
theorem own_d4_0 : decode jdk_42_method_151_code 0 = .ok (.aload_n 0, 1) := by decide +kernel
theorem own_d4_1 : decode jdk_42_method_151_code 1 = .ok (.invokespecial 1, 3) := by decide +kernel
theorem own_d4_4 : decode jdk_42_method_151_code 4 = .ok (.aload_n 0, 1) := by decide +kernel
theorem own_d4_5 : decode jdk_42_method_151_code 5 = .ok (.aload_n 1, 1) := by decide +kernel
theorem own_d4_6 : decode jdk_42_method_151_code 6 = .ok (.putfield 9, 3) := by decide +kernel
theorem own_d4_9 : decode jdk_42_method_151_code 9 = .ok (.aload_n 0, 1) := by decide +kernel
theorem own_d4_10 : decode jdk_42_method_151_code 10 = .ok (.iload_n 2, 1) := by decide +kernel
theorem own_d4_11 : decode jdk_42_method_151_code 11 = .ok (.putfield 15, 3) := by decide +kernel
theorem own_d4_14 : decode jdk_42_method_151_code 14 = .ok (.return_, 1) := by decide +kernel
def own_Q_sin (Z : State) (a1 : Addr) (b1 : Addr) (p2 : Int32) (u1 : Value) (u2 : Value) (h0 : Heap) (n0 : Nat) (v : Option Value) (h : Heap) (L : List Loc) : Prop := v = none ∧ Fr n0 L ∧ Keep h0 h [a1] ∧ (Fld Z h a1 "java/lang/String" "value" "[B" (.ref b1)) ∧ (Exa Z h a1 "java/lang/String")
set_option maxRecDepth 65536 in
set_option maxHeartbeats 40000000 in
theorem own_m_sin (l : Launch) (Z : State) (a0 : Array Value) (hw : ∀ d ∈ tables_1, d.before a0 Z = true) (ws : List Jvm.Cond) (a1 : Addr) (b1 : Addr) (p2 : Int32) (u1 : Value) (u2 : Value) (h0 : Heap) (n0 : Nat) (Z0 : n0 ≤ h0.size) (g_a1 : n0 ≤ a1) (F1 : Fld Z h0 a1 "java/lang/String" "value" "[B" u1) (F2 : Fld Z h0 a1 "java/lang/String" "coder" "B" u2) (E1 : Exa Z h0 a1 "java/lang/String") :
    MetFree l (⟨"java/lang/String", "<init>", "([BB)V"⟩ : MethodName) (head1 (Jvm.Cond.code (⟨"java/lang/String", "<init>", "([BB)V"⟩ : MethodName) jdk_42_method_151_code 3 none :: ws) ({ frames := 1, cells := 0, slots := 0, locals := 12 } : Room)) (fun a U => a = #[(.ref a1), (.ref b1), (.int p2)] ∧ Z.Warmed39 U.vm ∧ U.heap = h0) (fun _ _ _ _ _ => True) (fun _ U o U' => ∃ v L, o = .returned v ∧ own_Q_sin Z a1 b1 p2 u1 u2 h0 n0 v U'.heap L ∧ FrameEnd U o U' L ({ frames := 1, cells := 0, slots := 0, locals := 12 } : Room).cells ({ frames := 1, cells := 0, slots := 0, locals := 12 } : Room).slots) := by
  refine MetFree.of_bodySF (plainFor_of_name own_pn1) hisR ?_
  intro p e s m args below meth c s₁ Bd hml0 hP hK
  obtain ⟨rfl, hZ, hh⟩ := hP
  have hx := Bd.exec
  have hby := Bd.bytes
  have hml : c.maxLocals = 3 := hml0
  have hown : s.vm.findClass "java/lang/String" = some m.cls := findClass_of_methodNamed Bd.named
  have hnm := (name_of_methodNamed Bd.named Bd.method).1
  have X0 : Stand p l e ({ frames := 1, cells := 0, slots := 0, locals := 12 } : Room) s m #[(.ref a1), (.ref b1), (.int p2)] below meth c s₁ [] 0 0 := Stand.of_body Bd
  have e0 : s₁.heap = h0 := by rw [← hh, Bd.state]; rfl
  have N0 := Fr.nil n0
  have K0 : Keep h0 h0 [a1] := Keep.refl _ _
  show own_Go p e below s ({ frames := 1, cells := 0, slots := 0, locals := 12 } : Room).cells ({ frames := 1, cells := 0, slots := 0, locals := 12 } : Room).slots (own_Q_sin Z a1 b1 p2 u1 u2 h0 n0) (s₁.setTop (entryFrame m #[(.ref a1), (.ref b1), (.int p2)] 3))
  have ef : entryFrame m #[(.ref a1), (.ref b1), (.int p2)] 3 = (mkF m 0 #[.val (.ref a1), .val (.ref b1), .val (.int p2)] []) := by first | rfl | (simp [entryFrame, mkF, argsToLocals, Value.category, maxLocals]; done)
  rw [ef]
  show own_Go p e below s _ _ _ (s₁.setTop (mkF m 0 #[.val (.ref a1), .val (.ref b1), .val (.int p2)] []))
  refine own_step (U' := (s₁.setTop (mkF m 1 #[.val (.ref a1), .val (.ref b1), .val (.int p2)] [(.ref a1)]))) (fun t ht => XS.aloadN X0.here hx rfl (hb hby own_d4_0) rfl rfl ht) ?_
  obtain ⟨T4, X4, e4, st4⟩ := initO X0 hx hZ hown (hw _ (List.mem_of_getElem? (i := 19) rfl)) (hw _ (List.mem_of_getElem? (i := 20) rfl)) (hw _ (List.mem_of_getElem? (i := 21) rfl)) e0 (g := (mkF m 1 #[.val (.ref a1), .val (.ref b1), .val (.int p2)] [(.ref a1)])) rfl (by rw [hml]; rfl) rfl (hb hby own_d4_1) (by decide) (W := 0) (by show 2 * 0 + _ ≤ _; exact Nat.le_of_eq rfl) (by decide)
  refine own_step (U' := (T4.setTop (mkF m 4 #[.val (.ref a1), .val (.ref b1), .val (.int p2)] []))) (fun t ht => st4 _ ht) ?_
  refine own_step (U' := (T4.setTop (mkF m 5 #[.val (.ref a1), .val (.ref b1), .val (.int p2)] [(.ref a1)]))) (fun t ht => XS.aloadN X4.here hx rfl (hb hby own_d4_4) rfl rfl ht) ?_
  refine own_step (U' := (T4.setTop (mkF m 6 #[.val (.ref a1), .val (.ref b1), .val (.int p2)] [(.ref b1), (.ref a1)]))) (fun t ht => XS.aloadN X4.here hx rfl (hb hby own_d4_5) rfl rfl ht) ?_
  obtain ⟨T5, h5, X5, e5, W5, st5⟩ := putF X4 hx hZ hown (host := "") (Or.inl (hw _ (List.mem_of_getElem? (i := 22) rfl))) Via.refl e4 F1 E1 (Or.inr ⟨(hw _ (List.mem_of_getElem? (i := 23) rfl)), rfl, hnm⟩) (hw _ (List.mem_of_getElem? (i := 10) rfl)) (ty := (.array .byte)) (by decide) rfl rfl (g := (mkF m 6 #[.val (.ref a1), .val (.ref b1), .val (.int p2)] [(.ref b1), (.ref a1)])) rfl rfl (hb hby own_d4_6)
  have f5_1 : Fld Z h5 a1 "java/lang/String" "coder" "B" u2 := F2.other W5 (Or.inr (slot_ne (Or.inr (hw _ (List.mem_of_getElem? (i := 25) rfl))) (Or.inr (hw _ (List.mem_of_getElem? (i := 23) rfl))) (by decide) (t := .byte) (t' := (.array .byte)) (by decide) (by decide)))
  have f5_2 : Exa Z h5 a1 "java/lang/String" := E1.wr W5
  have F5 := F1.same W5
  have N5 := Fr.snoc X5 N0 g_a1
  have K5 : Keep h0 h5 [a1] := K0.wr W5 (Or.inl (by simp))
  refine own_step (U' := (T5.setTop (mkF m 9 #[.val (.ref a1), .val (.ref b1), .val (.int p2)] []))) (fun t ht => st5 _ ht) ?_
  refine own_step (U' := (T5.setTop (mkF m 10 #[.val (.ref a1), .val (.ref b1), .val (.int p2)] [(.ref a1)]))) (fun t ht => XS.aloadN X5.here hx rfl (hb hby own_d4_9) rfl rfl ht) ?_
  refine own_step (U' := (T5.setTop (mkF m 11 #[.val (.ref a1), .val (.ref b1), .val (.int p2)] [(.int p2), (.ref a1)]))) (fun t ht => XS.iloadN X5.here hx rfl (hb hby own_d4_10) rfl ht) ?_
  obtain ⟨T6, h6, X6, e6, W6, st6⟩ := putFN X5 hx hZ hown (hw _ (List.mem_of_getElem? (i := 24) rfl)) Via.refl e5 f5_1 f5_2 (Or.inr ⟨(hw _ (List.mem_of_getElem? (i := 25) rfl)), rfl, hnm⟩) (hw _ (List.mem_of_getElem? (i := 10) rfl)) (ty := .byte) (v' := (.int (p2.toInt8.toInt32))) (by decide) rfl (fits_nar_byte _) (g := (mkF m 11 #[.val (.ref a1), .val (.ref b1), .val (.int p2)] [(.int p2), (.ref a1)])) rfl rfl (hb hby own_d4_11)
  have f6_1 : Exa Z h6 a1 "java/lang/String" := f5_2.wr W6
  have f6_2 : Fld Z h6 a1 "java/lang/String" "value" "[B" (.ref b1) := F5.other W6 (Or.inr (slot_ne (Or.inr (hw _ (List.mem_of_getElem? (i := 23) rfl))) (Or.inr (hw _ (List.mem_of_getElem? (i := 25) rfl))) (by decide) (t := (.array .byte)) (t' := .byte) (by decide) (by decide)))
  have F6 := f5_1.same W6
  have N6 := Fr.snoc X6 N5 g_a1
  have K6 : Keep h0 h6 [a1] := K5.wr W6 (Or.inl (by simp))
  refine own_step (U' := (T6.setTop (mkF m 14 #[.val (.ref a1), .val (.ref b1), .val (.int p2)] []))) (fun t ht => st6 _ ht) ?_
  refine own_ret X6 (v := none) (fun _ => rfl) Bd.notSynchronized (by decide) (by decide) ?_ (fun fs hr => X6.returnOut hx Bd.returns (hb hby own_d4_14) hr)
  show own_Q_sin Z a1 b1 p2 u1 u2 h0 n0 _ T6.heap _
  rw [e6]
  exact ⟨rfl, N6, K6, f6_2, f6_1⟩
theorem own_pd0 : parseMethodDescriptor "(C)Z" = some ⟨[.char], some .boolean⟩ := by decide +kernel
theorem own_pd1 : parseMethodDescriptor "(C)[B" = some ⟨[.char], some (.array .byte)⟩ := by decide +kernel
theorem own_pd2 : parseMethodDescriptor "([BB)V" = some ⟨[(.array .byte), .byte], none⟩ := by decide +kernel
theorem own_d1_0 : decode jdk_42_method_139_code 0 = .ok (.getstatic 38, 3) := by decide +kernel
theorem own_d1_3 : decode jdk_42_method_139_code 3 = .ok (.ifCond .eq 23, 3) := by decide +kernel
theorem own_d1_6 : decode jdk_42_method_139_code 6 = .ok (.iload_n 0, 1) := by decide +kernel
theorem own_d1_7 : decode jdk_42_method_139_code 7 = .ok (.invokestatic 1015, 3) := by decide +kernel
theorem own_d1_10 : decode jdk_42_method_139_code 10 = .ok (.ifCond .eq 16, 3) := by decide +kernel
theorem own_d1_13 : decode jdk_42_method_139_code 13 = .ok (.new 10, 3) := by decide +kernel
theorem own_d1_16 : decode jdk_42_method_139_code 16 = .ok (.dup, 1) := by decide +kernel
theorem own_d1_17 : decode jdk_42_method_139_code 17 = .ok (.iload_n 0, 1) := by decide +kernel
theorem own_d1_18 : decode jdk_42_method_139_code 18 = .ok (.invokestatic 1018, 3) := by decide +kernel
theorem own_d1_21 : decode jdk_42_method_139_code 21 = .ok (.iconst 0, 1) := by decide +kernel
theorem own_d1_22 : decode jdk_42_method_139_code 22 = .ok (.invokespecial 209, 3) := by decide +kernel
theorem own_d1_25 : decode jdk_42_method_139_code 25 = .ok (.areturn, 1) := by decide +kernel
def own_Q_vof (Z : State) (p1 : Int32) (cz : Int32) (h0 : Heap) (n0 : Nat) (v : Option Value) (h : Heap) (L : List Loc) : Prop := ∃ (r : Addr), v = some (.ref r) ∧ Fr n0 L ∧ Keep h0 h [] ∧ h0.size ≤ r ∧ (Exa Z h r "java/lang/String")
set_option maxRecDepth 65536 in
set_option maxHeartbeats 40000000 in
theorem own_m_vof (l : Launch) (Z : State) (a0 : Array Value) (hw : ∀ d ∈ tables_1, d.before a0 Z = true) (ws : List Jvm.Cond) (p1 : Int32) (cz : Int32) (h0 : Heap) (n0 : Nat) (Z0 : n0 ≤ h0.size) (S_cz : Sta Z h0 "java/lang/String" "COMPACT_STRINGS" "Z" (.int cz)) (hcz : ¬ cz = 0) (hp1 : ¬ 255 < p1) :
    MetFree l (⟨"java/lang/String", "valueOf", "(C)Ljava/lang/String;"⟩ : MethodName) (head1 (Jvm.Cond.code (⟨"java/lang/String", "valueOf", "(C)Ljava/lang/String;"⟩ : MethodName) jdk_42_method_139_code 1 (some (.object "java/lang/String")) :: ws) ({ frames := 2, cells := 2, slots := 5, locals := 27 } : Room)) (fun a U => a = #[(.int p1)] ∧ Z.Warmed39 U.vm ∧ U.heap = h0) (fun _ _ _ _ _ => True) (fun _ U o U' => ∃ v L, o = .returned v ∧ own_Q_vof Z p1 cz h0 n0 v U'.heap L ∧ FrameEnd U o U' L ({ frames := 2, cells := 2, slots := 5, locals := 27 } : Room).cells ({ frames := 2, cells := 2, slots := 5, locals := 27 } : Room).slots) := by
  refine MetFree.of_bodySF (plainFor_of_name own_pn1) hisR ?_
  intro p e s m args below meth c s₁ Bd hml0 hP hK
  obtain ⟨rfl, hZ, hh⟩ := hP
  have hx := Bd.exec
  have hby := Bd.bytes
  have hml : c.maxLocals = 1 := hml0
  have hown : s.vm.findClass "java/lang/String" = some m.cls := findClass_of_methodNamed Bd.named
  have hnm := (name_of_methodNamed Bd.named Bd.method).1
  have X0 : Stand p l e ({ frames := 2, cells := 2, slots := 5, locals := 27 } : Room) s m #[(.int p1)] below meth c s₁ [] 0 0 := Stand.of_body Bd
  have e0 : s₁.heap = h0 := by rw [← hh, Bd.state]; rfl
  have N0 := Fr.nil n0
  have K0 : Keep h0 h0 [] := Keep.refl _ _
  show own_Go p e below s ({ frames := 2, cells := 2, slots := 5, locals := 27 } : Room).cells ({ frames := 2, cells := 2, slots := 5, locals := 27 } : Room).slots (own_Q_vof Z p1 cz h0 n0) (s₁.setTop (entryFrame m #[(.int p1)] 1))
  have ef : entryFrame m #[(.int p1)] 1 = (mkF m 0 #[.val (.int p1)] []) := by first | rfl | (simp [entryFrame, mkF, argsToLocals, Value.category, maxLocals]; done)
  rw [ef]
  show own_Go p e below s _ _ _ (s₁.setTop (mkF m 0 #[.val (.int p1)] []))
  obtain ⟨T7, X7, e7, st7⟩ := getS2 X0 hx hZ hown (host := "") (Or.inl (hw _ (List.mem_of_getElem? (i := 4) rfl))) Via.refl e0 S_cz (g := (mkF m 0 #[.val (.int p1)] [])) rfl (hb hby own_d1_0)
  refine own_step (U' := (T7.setTop (mkF m 3 #[.val (.int p1)] [(.int cz)]))) (fun t ht => st7 _ ht) ?_
  refine own_step (U' := (T7.setTop (mkF m 6 #[.val (.int p1)] []))) (fun t ht => XS.ifNo X7.here hx rfl (hb hby own_d1_3) rfl (XT.i0_eq_f (hcz : ¬ (cz = 0))) ht) ?_
  refine own_step (U' := (T7.setTop (mkF m 7 #[.val (.int p1)] [(.int p1)]))) (fun t ht => XS.iloadN X7.here hx rfl (hb hby own_d1_6) rfl ht) ?_
  obtain ⟨_, _, ⟨T8, L8, k8, n8⟩, -, X8, ⟨Lc8, hQ8, l8, y8, z8⟩, st8⟩ := Jvm.LawKit.callS X7 hx (y := (⟨"java/lang/StringLatin1", "canEncode", "(C)Z"⟩ : MethodName)) hown (mvT hZ (hw _ (List.mem_of_getElem? (i := 5) rfl))) (mvT hZ (hw _ (List.mem_of_getElem? (i := 6) rfl))) (mvT hZ (hw _ (List.mem_of_getElem? (i := 7) rfl))) (mvT hZ (hw _ (List.mem_of_getElem? (i := 8) rfl))) (by decide) (backOf (W := 0) (own_m_ce l Z a0 hw [] (p1) h0 n0 Z0 ) hZ (hw _ (List.mem_of_getElem? (i := 8) rfl)) (hw _ (List.mem_of_getElem? (i := 7) rfl)) (by decide) (by decide)) (g := (mkF m 7 #[.val (.int p1)] [(.int p1)])) rfl (by rw [hml]; rfl) (argsL := [(.int p1)]) (rest := []) (lenOf own_pd0 rfl) rfl (by show 2 * 0 + _ ≤ _; exact Nat.le_of_eq rfl) (hb hby own_d1_7) (fun _ _ => ⟨rfl, e7, (by decide : 0 + 0 ≤ _), (by decide : 0 + 0 ≤ _)⟩)
  dsimp only [Pt.U, Pt.locs, Pt.cells, Pt.slots] at X8 l8 y8 z8 st8 hQ8
  subst l8 y8 z8
  obtain ⟨rfl, Nq8, Kq8⟩ := hQ8
  have N8 := Fr.app N0 Nq8
  have e8 : T8.heap = h0 := Kq8
  refine own_step (U' := (T8.setTop (mkF m 10 #[.val (.int p1)] [(.int (own_ce p1))]))) (fun t ht => st8 _ ht) ?_
  refine own_step (U' := (T8.setTop (mkF m 13 #[.val (.int p1)] []))) (fun t ht => XS.ifNo X8.here hx rfl (hb hby own_d1_10) rfl (XT.i0_eq_f ((by simp [own_ce, hp1]) : ¬ ((own_ce p1) = 0))) ht) ?_
  obtain ⟨T9, h9, X9, e9, E9, A9, D9, -, st9⟩ := newO X8 hx hZ hown (hw _ (List.mem_of_getElem? (i := 9) rfl)) (hw _ (List.mem_of_getElem? (i := 10) rfl)) (hw _ (List.mem_of_getElem? (i := 2) rfl)) e8 (g := (mkF m 13 #[.val (.int p1)] [])) rfl (hb hby own_d1_13) (by decide) (by decide)
  obtain ⟨b9, g9⟩ : ∃ z, z = (h0).size := ⟨_, rfl⟩
  rw [← g9] at A9 D9 st9
  have g_b9 : n0 ≤ b9 := Nat.le_trans (Nat.le_trans Z0 K0.1) (Nat.le_of_eq g9.symm)
  have sz_b9 : h0.size ≤ b9 := Nat.le_trans K0.1 (Nat.le_of_eq g9.symm)
  have f9_0 : Sta Z h9 "java/lang/String" "COMPACT_STRINGS" "Z" (.int cz) := S_cz.ext E9
  have K9 : Keep h0 h9 [] := K0.ext E9
  have F9_23 : Fld Z h9 b9 "java/lang/String" "value" "[B" .null := D9 (Or.inr (hw _ (List.mem_of_getElem? (i := 23) rfl))) (ty := (.array .byte)) (by decide)
  have F9_25 : Fld Z h9 b9 "java/lang/String" "coder" "B" (.int (0 : Int32)) := D9 (Or.inr (hw _ (List.mem_of_getElem? (i := 25) rfl))) (ty := .byte) (by decide)
  refine own_step (U' := (T9.setTop (mkF m 16 #[.val (.int p1)] [(.ref b9)]))) (fun t ht => st9 _ ht) ?_
  refine own_step (U' := (T9.setTop (mkF m 17 #[.val (.int p1)] [(.ref b9), (.ref b9)]))) (fun t ht => XS.dup X9.here hx rfl (hb hby own_d1_16) rfl rfl ht) ?_
  refine own_step (U' := (T9.setTop (mkF m 18 #[.val (.int p1)] [(.int p1), (.ref b9), (.ref b9)]))) (fun t ht => XS.iloadN X9.here hx rfl (hb hby own_d1_17) rfl ht) ?_
  obtain ⟨_, _, ⟨T10, L10, k10, n10⟩, -, X10, ⟨Lc10, hQ10, l10, y10, z10⟩, st10⟩ := Jvm.LawKit.callS X9 hx (y := (⟨"java/lang/StringLatin1", "toBytes", "(C)[B"⟩ : MethodName)) hown (mvT hZ (hw _ (List.mem_of_getElem? (i := 11) rfl))) (mvT hZ (hw _ (List.mem_of_getElem? (i := 12) rfl))) (mvT hZ (hw _ (List.mem_of_getElem? (i := 7) rfl))) (mvT hZ (hw _ (List.mem_of_getElem? (i := 13) rfl))) (by decide) (backOf (W := 2) (own_m_tob l Z a0 hw [] (p1) h9 n0 (Nat.le_trans Z0 K9.1) ) hZ (hw _ (List.mem_of_getElem? (i := 13) rfl)) (hw _ (List.mem_of_getElem? (i := 7) rfl)) (by decide) (by decide)) (g := (mkF m 18 #[.val (.int p1)] [(.int p1), (.ref b9), (.ref b9)])) rfl (by rw [hml]; rfl) (argsL := [(.int p1)]) (rest := [(.ref b9), (.ref b9)]) (lenOf own_pd1 rfl) rfl (by show 2 * 0 + _ ≤ _; exact Nat.le_of_eq rfl) (hb hby own_d1_18) (fun _ _ => ⟨rfl, e9, (by decide : 1 + 1 ≤ _), (by decide : 4 + 1 ≤ _)⟩)
  dsimp only [Pt.U, Pt.locs, Pt.cells, Pt.slots] at X10 l10 y10 z10 st10 hQ10
  subst l10 y10 z10
  obtain ⟨r_10, rfl, Nq10, Kq10, sq_r_10⟩ := hQ10
  have N10 := Fr.app N8 Nq10
  have ne_b9_r_10 : b9 ≠ r_10 := Nat.ne_of_lt (Nat.lt_of_lt_of_le A9.lt sq_r_10)
  have g_r_10 : n0 ≤ r_10 := Nat.le_trans (Nat.le_trans Z0 K9.1) sq_r_10
  have sz_r_10 : h0.size ≤ r_10 := Nat.le_trans K9.1 sq_r_10
  have f10_0 : Sta Z T10.heap "java/lang/String" "COMPACT_STRINGS" "Z" (.int cz) := own_sta_keep f9_0 Kq10 own_pl0
  have f10_1 : Exa Z T10.heap b9 "java/lang/String" := A9.keep Kq10
  have f10_2 : Fld Z T10.heap b9 "java/lang/String" "value" "[B" .null := F9_23.keep Kq10 nin0
  have f10_3 : Fld Z T10.heap b9 "java/lang/String" "coder" "B" (.int (0 : Int32)) := F9_25.keep Kq10 nin0
  have K10 : Keep h0 T10.heap [] := K9.trans Kq10 all0
  refine own_step (U' := (T10.setTop (mkF m 21 #[.val (.int p1)] [(.ref r_10), (.ref b9), (.ref b9)]))) (fun t ht => st10 _ ht) ?_
  refine own_step (U' := (T10.setTop (mkF m 22 #[.val (.int p1)] [(.int (0 : Int32)), (.ref r_10), (.ref b9), (.ref b9)]))) (fun t ht => XS.iconst X10.here hx rfl (hb hby own_d1_21) ht) ?_
  obtain ⟨_, _, ⟨T11, L11, k11, n11⟩, -, X11, ⟨Lc11, hQ11, l11, y11, z11⟩, st11⟩ := X10.specialBack hx (y := (⟨"java/lang/String", "<init>", "([BB)V"⟩ : MethodName)) rfl hown (mvT hZ (hw _ (List.mem_of_getElem? (i := 15) rfl))) (mvT hZ (hw _ (List.mem_of_getElem? (i := 16) rfl))) (mvT hZ (hw _ (List.mem_of_getElem? (i := 18) rfl))) (by decide) (backOf (W := 1) (own_m_sin l Z a0 hw [] (b9) (r_10) ((0 : Int32)) (.null) ((.int (0 : Int32))) T10.heap n0 (Nat.le_trans Z0 K10.1) g_b9 f10_2 f10_3 f10_1) hZ (hw _ (List.mem_of_getElem? (i := 18) rfl)) (hw _ (List.mem_of_getElem? (i := 2) rfl)) (by decide) (by decide)) (g := (mkF m 22 #[.val (.int p1)] [(.int (0 : Int32)), (.ref r_10), (.ref b9), (.ref b9)])) rfl (by rw [hml]; rfl) (Steps.refl _) (a := b9) (argsL := [(.ref r_10), (.int (0 : Int32))]) (rest := [(.ref b9)]) (lenOf own_pd2 rfl) rfl (by show 2 * 0 + _ ≤ _; exact Nat.le_of_eq rfl) (hb hby own_d1_22) (fun _ _ => ⟨rfl, rfl, (by decide : 2 + 0 ≤ _), (by decide : 5 + 0 ≤ _)⟩)
  dsimp only [Pt.U, Pt.locs, Pt.cells, Pt.slots] at X11 l11 y11 z11 st11 hQ11
  subst l11 y11 z11
  obtain ⟨rfl, Nq11, Kq11, Fq11_0, Fq11_1⟩ := hQ11
  have N11 := Fr.app N10 Nq11
  have f11_0 : Sta Z T11.heap "java/lang/String" "COMPACT_STRINGS" "Z" (.int cz) := own_sta_keep f10_0 Kq11 (own_plE f10_1 own_pl0)
  have f11_1 : Exa Z T11.heap b9 "java/lang/String" := f10_1.keep Kq11
  have K11 : Keep h0 T11.heap [] := K10.trans Kq11 (allS (Or.inr sz_b9) all0)
  refine own_step (U' := (T11.setTop (mkF m 25 #[.val (.int p1)] [(.ref b9)]))) (fun t ht => st11.trans ht) ?_
  refine own_ret X11 (v := (some (.ref b9))) (fun h => by rw [Bd.returns] at h; cases h) Bd.notSynchronized (by decide) (by decide) ?_ (fun fs hr => retOut X11 hx Bd.returns (own_narR rfl) (Or.inr (Or.inr (Or.inr (Or.inr ⟨rfl, rfl, rfl⟩)))) (hb hby own_d1_25) hr)
  show own_Q_vof Z p1 cz h0 n0 _ T11.heap _
  show own_Q_vof Z p1 cz h0 n0 _ T11.heap _
  exact ⟨b9, rfl, N11, K11, sz_b9, Fq11_1⟩
theorem own_pn2 : plainName "java/lang/Record" = true := by first | (simp [plainName, overriddenIn]; done) | decide +kernel
theorem own_d7_0 : decode jdk_30_method_1_code 0 = .ok (.aload_n 0, 1) := by decide +kernel
theorem own_d7_1 : decode jdk_30_method_1_code 1 = .ok (.invokespecial 1, 3) := by decide +kernel
theorem own_d7_4 : decode jdk_30_method_1_code 4 = .ok (.return_, 1) := by decide +kernel
def own_Q_rec (Z : State) (a1 : Addr) (h0 : Heap) (n0 : Nat) (v : Option Value) (h : Heap) (L : List Loc) : Prop := v = none ∧ Fr n0 L ∧ h = h0
set_option maxRecDepth 65536 in
set_option maxHeartbeats 40000000 in
theorem own_m_rec (l : Launch) (Z : State) (a0 : Array Value) (hw : ∀ d ∈ tables_1, d.before a0 Z = true) (ws : List Jvm.Cond) (a1 : Addr) (h0 : Heap) (n0 : Nat) (Z0 : n0 ≤ h0.size)  :
    MetFree l (⟨"java/lang/Record", "<init>", "()V"⟩ : MethodName) (head1 (Jvm.Cond.code (⟨"java/lang/Record", "<init>", "()V"⟩ : MethodName) jdk_30_method_1_code 1 none :: ws) ({ frames := 1, cells := 0, slots := 0, locals := 12 } : Room)) (fun a U => a = #[(.ref a1)] ∧ Z.Warmed39 U.vm ∧ U.heap = h0) (fun _ _ _ _ _ => True) (fun _ U o U' => ∃ v L, o = .returned v ∧ own_Q_rec Z a1 h0 n0 v U'.heap L ∧ FrameEnd U o U' L ({ frames := 1, cells := 0, slots := 0, locals := 12 } : Room).cells ({ frames := 1, cells := 0, slots := 0, locals := 12 } : Room).slots) := by
  refine MetFree.of_bodySF (plainFor_of_name own_pn2) hisR ?_
  intro p e s m args below meth c s₁ Bd hml0 hP hK
  obtain ⟨rfl, hZ, hh⟩ := hP
  have hx := Bd.exec
  have hby := Bd.bytes
  have hml : c.maxLocals = 1 := hml0
  have hown : s.vm.findClass "java/lang/Record" = some m.cls := findClass_of_methodNamed Bd.named
  have hnm := (name_of_methodNamed Bd.named Bd.method).1
  have X0 : Stand p l e ({ frames := 1, cells := 0, slots := 0, locals := 12 } : Room) s m #[(.ref a1)] below meth c s₁ [] 0 0 := Stand.of_body Bd
  have e0 : s₁.heap = h0 := by rw [← hh, Bd.state]; rfl
  have N0 := Fr.nil n0
  have K0 : Keep h0 h0 [] := Keep.refl _ _
  show own_Go p e below s ({ frames := 1, cells := 0, slots := 0, locals := 12 } : Room).cells ({ frames := 1, cells := 0, slots := 0, locals := 12 } : Room).slots (own_Q_rec Z a1 h0 n0) (s₁.setTop (entryFrame m #[(.ref a1)] 1))
  have ef : entryFrame m #[(.ref a1)] 1 = (mkF m 0 #[.val (.ref a1)] []) := by first | rfl | (simp [entryFrame, mkF, argsToLocals, Value.category, maxLocals]; done)
  rw [ef]
  show own_Go p e below s _ _ _ (s₁.setTop (mkF m 0 #[.val (.ref a1)] []))
  refine own_step (U' := (s₁.setTop (mkF m 1 #[.val (.ref a1)] [(.ref a1)]))) (fun t ht => XS.aloadN X0.here hx rfl (hb hby own_d7_0) rfl rfl ht) ?_
  obtain ⟨T12, X12, e12, st12⟩ := initO X0 hx hZ hown (hw _ (List.mem_of_getElem? (i := 37) rfl)) (hw _ (List.mem_of_getElem? (i := 20) rfl)) (hw _ (List.mem_of_getElem? (i := 21) rfl)) e0 (g := (mkF m 1 #[.val (.ref a1)] [(.ref a1)])) rfl (by rw [hml]; rfl) rfl (hb hby own_d7_1) (by decide) (W := 0) (by show 2 * 0 + _ ≤ _; exact Nat.le_of_eq rfl) (by decide)
  refine own_step (U' := (T12.setTop (mkF m 4 #[.val (.ref a1)] []))) (fun t ht => st12 _ ht) ?_
  refine own_ret X12 (v := none) (fun _ => rfl) Bd.notSynchronized (by decide) (by decide) ?_ (fun fs hr => X12.returnOut hx Bd.returns (hb hby own_d7_4) hr)
  show own_Q_rec Z a1 h0 n0 _ T12.heap _
  rw [e12]
  exact ⟨rfl, N0, rfl⟩
theorem own_pn3 : plainName "com/example/fuxi/fuxi/dialect/DatabaseColumn" = true := by first | (simp [plainName, overriddenIn]; done) | decide +kernel
theorem own_pd3 : parseMethodDescriptor "()V" = some ⟨[], none⟩ := by decide +kernel
theorem own_d6_0 : decode prog_3_method_1_code 0 = .ok (.aload_n 0, 1) := by decide +kernel
theorem own_d6_1 : decode prog_3_method_1_code 1 = .ok (.invokespecial 1, 3) := by decide +kernel
theorem own_d6_4 : decode prog_3_method_1_code 4 = .ok (.aload_n 0, 1) := by decide +kernel
theorem own_d6_5 : decode prog_3_method_1_code 5 = .ok (.iload_n 1, 1) := by decide +kernel
theorem own_d6_6 : decode prog_3_method_1_code 6 = .ok (.putfield 7, 3) := by decide +kernel
theorem own_d6_9 : decode prog_3_method_1_code 9 = .ok (.aload_n 0, 1) := by decide +kernel
theorem own_d6_10 : decode prog_3_method_1_code 10 = .ok (.aload_n 2, 1) := by decide +kernel
theorem own_d6_11 : decode prog_3_method_1_code 11 = .ok (.putfield 13, 3) := by decide +kernel
theorem own_d6_14 : decode prog_3_method_1_code 14 = .ok (.aload_n 0, 1) := by decide +kernel
theorem own_d6_15 : decode prog_3_method_1_code 15 = .ok (.iload_n 3, 1) := by decide +kernel
theorem own_d6_16 : decode prog_3_method_1_code 16 = .ok (.putfield 17, 3) := by decide +kernel
theorem own_d6_19 : decode prog_3_method_1_code 19 = .ok (.aload_n 0, 1) := by decide +kernel
theorem own_d6_20 : decode prog_3_method_1_code 20 = .ok (.iload 4, 2) := by decide +kernel
theorem own_d6_22 : decode prog_3_method_1_code 22 = .ok (.putfield 20, 3) := by decide +kernel
theorem own_d6_25 : decode prog_3_method_1_code 25 = .ok (.return_, 1) := by decide +kernel
def own_Q_dci (Z : State) (a1 : Addr) (p2 : Int32) (s1 : Addr) (p3 : Int32) (p4 : Int32) (u1 : Value) (u2 : Value) (u3 : Value) (u4 : Value) (h0 : Heap) (n0 : Nat) (v : Option Value) (h : Heap) (L : List Loc) : Prop := v = none ∧ Fr n0 L ∧ Keep h0 h [a1] ∧ (Fld Z h a1 "com/example/fuxi/fuxi/dialect/DatabaseColumn" "sqlType" "I" (.int p2)) ∧ (Exa Z h a1 "com/example/fuxi/fuxi/dialect/DatabaseColumn")
set_option maxRecDepth 65536 in
set_option maxHeartbeats 40000000 in
theorem own_m_dci (l : Launch) (Z : State) (a0 : Array Value) (hw : ∀ d ∈ tables_1, d.before a0 Z = true) (ws : List Jvm.Cond) (a1 : Addr) (p2 : Int32) (s1 : Addr) (p3 : Int32) (p4 : Int32) (u1 : Value) (u2 : Value) (u3 : Value) (u4 : Value) (h0 : Heap) (n0 : Nat) (Z0 : n0 ≤ h0.size) (g_a1 : n0 ≤ a1) (F1 : Fld Z h0 a1 "com/example/fuxi/fuxi/dialect/DatabaseColumn" "sqlType" "I" u1) (F2 : Fld Z h0 a1 "com/example/fuxi/fuxi/dialect/DatabaseColumn" "typeName" "Ljava/lang/String;" u2) (F3 : Fld Z h0 a1 "com/example/fuxi/fuxi/dialect/DatabaseColumn" "size" "I" u3) (F4 : Fld Z h0 a1 "com/example/fuxi/fuxi/dialect/DatabaseColumn" "scale" "I" u4) (E1 : Exa Z h0 a1 "com/example/fuxi/fuxi/dialect/DatabaseColumn") :
    MetFree l (⟨"com/example/fuxi/fuxi/dialect/DatabaseColumn", "<init>", "(ILjava/lang/String;II)V"⟩ : MethodName) (head1 (Jvm.Cond.code (⟨"com/example/fuxi/fuxi/dialect/DatabaseColumn", "<init>", "(ILjava/lang/String;II)V"⟩ : MethodName) prog_3_method_1_code 5 none :: ws) ({ frames := 2, cells := 0, slots := 0, locals := 24 } : Room)) (fun a U => a = #[(.ref a1), (.int p2), (.ref s1), (.int p3), (.int p4)] ∧ Z.Warmed39 U.vm ∧ U.heap = h0) (fun _ _ _ _ _ => True) (fun _ U o U' => ∃ v L, o = .returned v ∧ own_Q_dci Z a1 p2 s1 p3 p4 u1 u2 u3 u4 h0 n0 v U'.heap L ∧ FrameEnd U o U' L ({ frames := 2, cells := 0, slots := 0, locals := 24 } : Room).cells ({ frames := 2, cells := 0, slots := 0, locals := 24 } : Room).slots) := by
  refine MetFree.of_bodySF (plainFor_of_name own_pn3) hisR ?_
  intro p e s m args below meth c s₁ Bd hml0 hP hK
  obtain ⟨rfl, hZ, hh⟩ := hP
  have hx := Bd.exec
  have hby := Bd.bytes
  have hml : c.maxLocals = 5 := hml0
  have hown : s.vm.findClass "com/example/fuxi/fuxi/dialect/DatabaseColumn" = some m.cls := findClass_of_methodNamed Bd.named
  have hnm := (name_of_methodNamed Bd.named Bd.method).1
  have X0 : Stand p l e ({ frames := 2, cells := 0, slots := 0, locals := 24 } : Room) s m #[(.ref a1), (.int p2), (.ref s1), (.int p3), (.int p4)] below meth c s₁ [] 0 0 := Stand.of_body Bd
  have e0 : s₁.heap = h0 := by rw [← hh, Bd.state]; rfl
  have N0 := Fr.nil n0
  have K0 : Keep h0 h0 [a1] := Keep.refl _ _
  show own_Go p e below s ({ frames := 2, cells := 0, slots := 0, locals := 24 } : Room).cells ({ frames := 2, cells := 0, slots := 0, locals := 24 } : Room).slots (own_Q_dci Z a1 p2 s1 p3 p4 u1 u2 u3 u4 h0 n0) (s₁.setTop (entryFrame m #[(.ref a1), (.int p2), (.ref s1), (.int p3), (.int p4)] 5))
  have ef : entryFrame m #[(.ref a1), (.int p2), (.ref s1), (.int p3), (.int p4)] 5 = (mkF m 0 #[.val (.ref a1), .val (.int p2), .val (.ref s1), .val (.int p3), .val (.int p4)] []) := by first | rfl | (simp [entryFrame, mkF, argsToLocals, Value.category, maxLocals]; done)
  rw [ef]
  show own_Go p e below s _ _ _ (s₁.setTop (mkF m 0 #[.val (.ref a1), .val (.int p2), .val (.ref s1), .val (.int p3), .val (.int p4)] []))
  refine own_step (U' := (s₁.setTop (mkF m 1 #[.val (.ref a1), .val (.int p2), .val (.ref s1), .val (.int p3), .val (.int p4)] [(.ref a1)]))) (fun t ht => XS.aloadN X0.here hx rfl (hb hby own_d6_0) rfl rfl ht) ?_
  obtain ⟨_, _, ⟨T13, L13, k13, n13⟩, -, X13, ⟨Lc13, hQ13, l13, y13, z13⟩, st13⟩ := X0.specialBack hx (y := (⟨"java/lang/Record", "<init>", "()V"⟩ : MethodName)) rfl hown (mvT hZ (hw _ (List.mem_of_getElem? (i := 32) rfl))) (mvT hZ (hw _ (List.mem_of_getElem? (i := 33) rfl))) (mvT hZ (hw _ (List.mem_of_getElem? (i := 36) rfl))) (by decide) (backOf (W := 0) (own_m_rec l Z a0 hw [] (a1) h0 n0 Z0 ) hZ (hw _ (List.mem_of_getElem? (i := 36) rfl)) (hw _ (List.mem_of_getElem? (i := 35) rfl)) (by decide) (by decide)) (g := (mkF m 1 #[.val (.ref a1), .val (.int p2), .val (.ref s1), .val (.int p3), .val (.int p4)] [(.ref a1)])) rfl (by rw [hml]; rfl) (Steps.refl _) (a := a1) (argsL := []) (rest := []) (lenOf own_pd3 rfl) rfl (by show 2 * 0 + _ ≤ _; exact Nat.le_of_eq rfl) (hb hby own_d6_1) (fun _ _ => ⟨rfl, e0, (by decide : 0 + 0 ≤ _), (by decide : 0 + 0 ≤ _)⟩)
  dsimp only [Pt.U, Pt.locs, Pt.cells, Pt.slots] at X13 l13 y13 z13 st13 hQ13
  subst l13 y13 z13
  obtain ⟨rfl, Nq13, Kq13⟩ := hQ13
  have N13 := Fr.app N0 Nq13
  have e13 : T13.heap = h0 := Kq13
  refine own_step (U' := (T13.setTop (mkF m 4 #[.val (.ref a1), .val (.int p2), .val (.ref s1), .val (.int p3), .val (.int p4)] []))) (fun t ht => st13.trans ht) ?_
  refine own_step (U' := (T13.setTop (mkF m 5 #[.val (.ref a1), .val (.int p2), .val (.ref s1), .val (.int p3), .val (.int p4)] [(.ref a1)]))) (fun t ht => XS.aloadN X13.here hx rfl (hb hby own_d6_4) rfl rfl ht) ?_
  refine own_step (U' := (T13.setTop (mkF m 6 #[.val (.ref a1), .val (.int p2), .val (.ref s1), .val (.int p3), .val (.int p4)] [(.int p2), (.ref a1)]))) (fun t ht => XS.iloadN X13.here hx rfl (hb hby own_d6_5) rfl ht) ?_
  obtain ⟨T14, h14, X14, e14, W14, st14⟩ := putF X13 hx hZ hown (host := "") (Or.inl (hw _ (List.mem_of_getElem? (i := 38) rfl))) Via.refl e13 F1 E1 (Or.inr ⟨(hw _ (List.mem_of_getElem? (i := 39) rfl)), rfl, hnm⟩) (hw _ (List.mem_of_getElem? (i := 27) rfl)) (ty := .int) (by decide) rfl rfl (g := (mkF m 6 #[.val (.ref a1), .val (.int p2), .val (.ref s1), .val (.int p3), .val (.int p4)] [(.int p2), (.ref a1)])) rfl rfl (hb hby own_d6_6)
  have f14_1 : Fld Z h14 a1 "com/example/fuxi/fuxi/dialect/DatabaseColumn" "typeName" "Ljava/lang/String;" u2 := F2.other W14 (Or.inr (slot_ne (Or.inr (hw _ (List.mem_of_getElem? (i := 41) rfl))) (Or.inr (hw _ (List.mem_of_getElem? (i := 39) rfl))) (by decide) (t := (.object "java/lang/String")) (t' := .int) (by decide) (by decide)))
  have f14_2 : Fld Z h14 a1 "com/example/fuxi/fuxi/dialect/DatabaseColumn" "size" "I" u3 := F3.other W14 (Or.inr (slot_ne (Or.inr (hw _ (List.mem_of_getElem? (i := 43) rfl))) (Or.inr (hw _ (List.mem_of_getElem? (i := 39) rfl))) (by decide) (t := .int) (t' := .int) (by decide) (by decide)))
  have f14_3 : Fld Z h14 a1 "com/example/fuxi/fuxi/dialect/DatabaseColumn" "scale" "I" u4 := F4.other W14 (Or.inr (slot_ne (Or.inr (hw _ (List.mem_of_getElem? (i := 45) rfl))) (Or.inr (hw _ (List.mem_of_getElem? (i := 39) rfl))) (by decide) (t := .int) (t' := .int) (by decide) (by decide)))
  have f14_4 : Exa Z h14 a1 "com/example/fuxi/fuxi/dialect/DatabaseColumn" := E1.wr W14
  have F14 := F1.same W14
  have N14 := Fr.snoc X14 N13 g_a1
  have K14 : Keep h0 h14 [a1] := K0.wr W14 (Or.inl (by simp))
  refine own_step (U' := (T14.setTop (mkF m 9 #[.val (.ref a1), .val (.int p2), .val (.ref s1), .val (.int p3), .val (.int p4)] []))) (fun t ht => st14 _ ht) ?_
  refine own_step (U' := (T14.setTop (mkF m 10 #[.val (.ref a1), .val (.int p2), .val (.ref s1), .val (.int p3), .val (.int p4)] [(.ref a1)]))) (fun t ht => XS.aloadN X14.here hx rfl (hb hby own_d6_9) rfl rfl ht) ?_
  refine own_step (U' := (T14.setTop (mkF m 11 #[.val (.ref a1), .val (.int p2), .val (.ref s1), .val (.int p3), .val (.int p4)] [(.ref s1), (.ref a1)]))) (fun t ht => XS.aloadN X14.here hx rfl (hb hby own_d6_10) rfl rfl ht) ?_
  obtain ⟨T15, h15, X15, e15, W15, st15⟩ := putF X14 hx hZ hown (host := "") (Or.inl (hw _ (List.mem_of_getElem? (i := 40) rfl))) Via.refl e14 f14_1 f14_4 (Or.inr ⟨(hw _ (List.mem_of_getElem? (i := 41) rfl)), rfl, hnm⟩) (hw _ (List.mem_of_getElem? (i := 27) rfl)) (ty := (.object "java/lang/String")) (by decide) rfl rfl (g := (mkF m 11 #[.val (.ref a1), .val (.int p2), .val (.ref s1), .val (.int p3), .val (.int p4)] [(.ref s1), (.ref a1)])) rfl rfl (hb hby own_d6_11)
  have f15_1 : Fld Z h15 a1 "com/example/fuxi/fuxi/dialect/DatabaseColumn" "size" "I" u3 := f14_2.other W15 (Or.inr (slot_ne (Or.inr (hw _ (List.mem_of_getElem? (i := 43) rfl))) (Or.inr (hw _ (List.mem_of_getElem? (i := 41) rfl))) (by decide) (t := .int) (t' := (.object "java/lang/String")) (by decide) (by decide)))
  have f15_2 : Fld Z h15 a1 "com/example/fuxi/fuxi/dialect/DatabaseColumn" "scale" "I" u4 := f14_3.other W15 (Or.inr (slot_ne (Or.inr (hw _ (List.mem_of_getElem? (i := 45) rfl))) (Or.inr (hw _ (List.mem_of_getElem? (i := 41) rfl))) (by decide) (t := .int) (t' := (.object "java/lang/String")) (by decide) (by decide)))
  have f15_3 : Exa Z h15 a1 "com/example/fuxi/fuxi/dialect/DatabaseColumn" := f14_4.wr W15
  have f15_4 : Fld Z h15 a1 "com/example/fuxi/fuxi/dialect/DatabaseColumn" "sqlType" "I" (.int p2) := F14.other W15 (Or.inr (slot_ne (Or.inr (hw _ (List.mem_of_getElem? (i := 39) rfl))) (Or.inr (hw _ (List.mem_of_getElem? (i := 41) rfl))) (by decide) (t := .int) (t' := (.object "java/lang/String")) (by decide) (by decide)))
  have F15 := f14_1.same W15
  have N15 := Fr.snoc X15 N14 g_a1
  have K15 : Keep h0 h15 [a1] := K14.wr W15 (Or.inl (by simp))
  refine own_step (U' := (T15.setTop (mkF m 14 #[.val (.ref a1), .val (.int p2), .val (.ref s1), .val (.int p3), .val (.int p4)] []))) (fun t ht => st15 _ ht) ?_
  refine own_step (U' := (T15.setTop (mkF m 15 #[.val (.ref a1), .val (.int p2), .val (.ref s1), .val (.int p3), .val (.int p4)] [(.ref a1)]))) (fun t ht => XS.aloadN X15.here hx rfl (hb hby own_d6_14) rfl rfl ht) ?_
  refine own_step (U' := (T15.setTop (mkF m 16 #[.val (.ref a1), .val (.int p2), .val (.ref s1), .val (.int p3), .val (.int p4)] [(.int p3), (.ref a1)]))) (fun t ht => XS.iloadN X15.here hx rfl (hb hby own_d6_15) rfl ht) ?_
  obtain ⟨T16, h16, X16, e16, W16, st16⟩ := putF X15 hx hZ hown (host := "") (Or.inl (hw _ (List.mem_of_getElem? (i := 42) rfl))) Via.refl e15 f15_1 f15_3 (Or.inr ⟨(hw _ (List.mem_of_getElem? (i := 43) rfl)), rfl, hnm⟩) (hw _ (List.mem_of_getElem? (i := 27) rfl)) (ty := .int) (by decide) rfl rfl (g := (mkF m 16 #[.val (.ref a1), .val (.int p2), .val (.ref s1), .val (.int p3), .val (.int p4)] [(.int p3), (.ref a1)])) rfl rfl (hb hby own_d6_16)
  have f16_1 : Fld Z h16 a1 "com/example/fuxi/fuxi/dialect/DatabaseColumn" "scale" "I" u4 := f15_2.other W16 (Or.inr (slot_ne (Or.inr (hw _ (List.mem_of_getElem? (i := 45) rfl))) (Or.inr (hw _ (List.mem_of_getElem? (i := 43) rfl))) (by decide) (t := .int) (t' := .int) (by decide) (by decide)))
  have f16_2 : Exa Z h16 a1 "com/example/fuxi/fuxi/dialect/DatabaseColumn" := f15_3.wr W16
  have f16_3 : Fld Z h16 a1 "com/example/fuxi/fuxi/dialect/DatabaseColumn" "sqlType" "I" (.int p2) := f15_4.other W16 (Or.inr (slot_ne (Or.inr (hw _ (List.mem_of_getElem? (i := 39) rfl))) (Or.inr (hw _ (List.mem_of_getElem? (i := 43) rfl))) (by decide) (t := .int) (t' := .int) (by decide) (by decide)))
  have f16_4 : Fld Z h16 a1 "com/example/fuxi/fuxi/dialect/DatabaseColumn" "typeName" "Ljava/lang/String;" (.ref s1) := F15.other W16 (Or.inr (slot_ne (Or.inr (hw _ (List.mem_of_getElem? (i := 41) rfl))) (Or.inr (hw _ (List.mem_of_getElem? (i := 43) rfl))) (by decide) (t := (.object "java/lang/String")) (t' := .int) (by decide) (by decide)))
  have F16 := f15_1.same W16
  have N16 := Fr.snoc X16 N15 g_a1
  have K16 : Keep h0 h16 [a1] := K15.wr W16 (Or.inl (by simp))
  refine own_step (U' := (T16.setTop (mkF m 19 #[.val (.ref a1), .val (.int p2), .val (.ref s1), .val (.int p3), .val (.int p4)] []))) (fun t ht => st16 _ ht) ?_
  refine own_step (U' := (T16.setTop (mkF m 20 #[.val (.ref a1), .val (.int p2), .val (.ref s1), .val (.int p3), .val (.int p4)] [(.ref a1)]))) (fun t ht => XS.aloadN X16.here hx rfl (hb hby own_d6_19) rfl rfl ht) ?_
  refine own_step (U' := (T16.setTop (mkF m 22 #[.val (.ref a1), .val (.int p2), .val (.ref s1), .val (.int p3), .val (.int p4)] [(.int p4), (.ref a1)]))) (fun t ht => XS.iload X16.here hx rfl (hb hby own_d6_20) rfl ht) ?_
  obtain ⟨T17, h17, X17, e17, W17, st17⟩ := putF X16 hx hZ hown (host := "") (Or.inl (hw _ (List.mem_of_getElem? (i := 44) rfl))) Via.refl e16 f16_1 f16_2 (Or.inr ⟨(hw _ (List.mem_of_getElem? (i := 45) rfl)), rfl, hnm⟩) (hw _ (List.mem_of_getElem? (i := 27) rfl)) (ty := .int) (by decide) rfl rfl (g := (mkF m 22 #[.val (.ref a1), .val (.int p2), .val (.ref s1), .val (.int p3), .val (.int p4)] [(.int p4), (.ref a1)])) rfl rfl (hb hby own_d6_22)
  have f17_1 : Exa Z h17 a1 "com/example/fuxi/fuxi/dialect/DatabaseColumn" := f16_2.wr W17
  have f17_2 : Fld Z h17 a1 "com/example/fuxi/fuxi/dialect/DatabaseColumn" "sqlType" "I" (.int p2) := f16_3.other W17 (Or.inr (slot_ne (Or.inr (hw _ (List.mem_of_getElem? (i := 39) rfl))) (Or.inr (hw _ (List.mem_of_getElem? (i := 45) rfl))) (by decide) (t := .int) (t' := .int) (by decide) (by decide)))
  have f17_3 : Fld Z h17 a1 "com/example/fuxi/fuxi/dialect/DatabaseColumn" "typeName" "Ljava/lang/String;" (.ref s1) := f16_4.other W17 (Or.inr (slot_ne (Or.inr (hw _ (List.mem_of_getElem? (i := 41) rfl))) (Or.inr (hw _ (List.mem_of_getElem? (i := 45) rfl))) (by decide) (t := (.object "java/lang/String")) (t' := .int) (by decide) (by decide)))
  have f17_4 : Fld Z h17 a1 "com/example/fuxi/fuxi/dialect/DatabaseColumn" "size" "I" (.int p3) := F16.other W17 (Or.inr (slot_ne (Or.inr (hw _ (List.mem_of_getElem? (i := 43) rfl))) (Or.inr (hw _ (List.mem_of_getElem? (i := 45) rfl))) (by decide) (t := .int) (t' := .int) (by decide) (by decide)))
  have F17 := f16_1.same W17
  have N17 := Fr.snoc X17 N16 g_a1
  have K17 : Keep h0 h17 [a1] := K16.wr W17 (Or.inl (by simp))
  refine own_step (U' := (T17.setTop (mkF m 25 #[.val (.ref a1), .val (.int p2), .val (.ref s1), .val (.int p3), .val (.int p4)] []))) (fun t ht => st17 _ ht) ?_
  refine own_ret X17 (v := none) (fun _ => rfl) Bd.notSynchronized (by decide) (by decide) ?_ (fun fs hr => X17.returnOut hx Bd.returns (hb hby own_d6_25) hr)
  show own_Q_dci Z a1 p2 s1 p3 p4 u1 u2 u3 u4 h0 n0 _ T17.heap _
  rw [e17]
  exact ⟨rfl, N17, K17, f17_2, f17_1⟩
theorem own_d8_0 : decode prog_3_method_6_code 0 = .ok (.aload_n 0, 1) := by decide +kernel
theorem own_d8_1 : decode prog_3_method_6_code 1 = .ok (.getfield 7, 3) := by decide +kernel
theorem own_d8_4 : decode prog_3_method_6_code 4 = .ok (.lookupswitch 64 #[((-6), 44), ((-5), 59), (4, 54), (5, 49)], 44) := by decide +kernel
theorem own_d8_48 : decode prog_3_method_6_code 48 = .ok (.bipush 8, 2) := by decide +kernel
theorem own_d8_50 : decode prog_3_method_6_code 50 = .ok (.goto 19, 3) := by decide +kernel
theorem own_d8_53 : decode prog_3_method_6_code 53 = .ok (.bipush 16, 2) := by decide +kernel
theorem own_d8_55 : decode prog_3_method_6_code 55 = .ok (.goto 14, 3) := by decide +kernel
theorem own_d8_58 : decode prog_3_method_6_code 58 = .ok (.bipush 32, 2) := by decide +kernel
theorem own_d8_60 : decode prog_3_method_6_code 60 = .ok (.goto 9, 3) := by decide +kernel
theorem own_d8_63 : decode prog_3_method_6_code 63 = .ok (.bipush 64, 2) := by decide +kernel
theorem own_d8_65 : decode prog_3_method_6_code 65 = .ok (.goto 4, 3) := by decide +kernel
theorem own_d8_68 : decode prog_3_method_6_code 68 = .ok (.iconst 0, 1) := by decide +kernel
theorem own_d8_69 : decode prog_3_method_6_code 69 = .ok (.ireturn, 1) := by decide +kernel
theorem own_off8_4 {x : Int32} (h0 : ¬ x = (-6 : Int32)) (h1 : ¬ x = (-5 : Int32)) (h2 : ¬ x = (4 : Int32)) (h3 : ¬ x = (5 : Int32)) : lookupswitch.offset (#[((-6), 44), ((-5), 59), (4, 54), (5, 49)] : Array (Int × Int)).toList 64 x.toInt = 64 := ((own_off_skip (k := (-6 : Int32)) rfl h0).trans ((own_off_skip (k := (-5 : Int32)) rfl h1).trans ((own_off_skip (k := (4 : Int32)) rfl h2).trans ((own_off_skip (k := (5 : Int32)) rfl h3).trans rfl))))
def own_Q_ib (Z : State) (a1 : Addr) (c1 : Int32) (h0 : Heap) (n0 : Nat) (v : Option Value) (h : Heap) (L : List Loc) : Prop := v = some (.int (own_ib c1)) ∧ Fr n0 L ∧ h = h0
set_option maxRecDepth 65536 in
set_option maxHeartbeats 40000000 in
theorem own_m_ib (l : Launch) (Z : State) (a0 : Array Value) (hw : ∀ d ∈ tables_1, d.before a0 Z = true) (ws : List Jvm.Cond) (a1 : Addr) (c1 : Int32) (h0 : Heap) (n0 : Nat) (Z0 : n0 ≤ h0.size) (F1 : Fld Z h0 a1 "com/example/fuxi/fuxi/dialect/DatabaseColumn" "sqlType" "I" (.int c1)) :
    MetFree l (⟨"com/example/fuxi/fuxi/dialect/DatabaseColumn", "integerBits", "()I"⟩ : MethodName) (head1 (Jvm.Cond.code (⟨"com/example/fuxi/fuxi/dialect/DatabaseColumn", "integerBits", "()I"⟩ : MethodName) prog_3_method_6_code 1 (some .int) :: ws) ({ frames := 0, cells := 0, slots := 0, locals := 0 } : Room)) (fun a U => a = #[(.ref a1)] ∧ Z.Warmed39 U.vm ∧ U.heap = h0) (fun _ _ _ _ _ => True) (fun _ U o U' => ∃ v L, o = .returned v ∧ own_Q_ib Z a1 c1 h0 n0 v U'.heap L ∧ FrameEnd U o U' L ({ frames := 0, cells := 0, slots := 0, locals := 0 } : Room).cells ({ frames := 0, cells := 0, slots := 0, locals := 0 } : Room).slots) := by
  refine MetFree.of_bodySF (plainFor_of_name own_pn3) hisR ?_
  intro p e s m args below meth c s₁ Bd hml0 hP hK
  obtain ⟨rfl, hZ, hh⟩ := hP
  have hx := Bd.exec
  have hby := Bd.bytes
  have hml : c.maxLocals = 1 := hml0
  have hown : s.vm.findClass "com/example/fuxi/fuxi/dialect/DatabaseColumn" = some m.cls := findClass_of_methodNamed Bd.named
  have hnm := (name_of_methodNamed Bd.named Bd.method).1
  have X0 : Stand p l e ({ frames := 0, cells := 0, slots := 0, locals := 0 } : Room) s m #[(.ref a1)] below meth c s₁ [] 0 0 := Stand.of_body Bd
  have e0 : s₁.heap = h0 := by rw [← hh, Bd.state]; rfl
  have N0 := Fr.nil n0
  have K0 : Keep h0 h0 [] := Keep.refl _ _
  show own_Go p e below s ({ frames := 0, cells := 0, slots := 0, locals := 0 } : Room).cells ({ frames := 0, cells := 0, slots := 0, locals := 0 } : Room).slots (own_Q_ib Z a1 c1 h0 n0) (s₁.setTop (entryFrame m #[(.ref a1)] 1))
  have ef : entryFrame m #[(.ref a1)] 1 = (mkF m 0 #[.val (.ref a1)] []) := by first | rfl | (simp [entryFrame, mkF, argsToLocals, Value.category, maxLocals]; done)
  rw [ef]
  show own_Go p e below s _ _ _ (s₁.setTop (mkF m 0 #[.val (.ref a1)] []))
  refine own_step (U' := (s₁.setTop (mkF m 1 #[.val (.ref a1)] [(.ref a1)]))) (fun t ht => XS.aloadN X0.here hx rfl (hb hby own_d8_0) rfl rfl ht) ?_
  obtain ⟨T18, X18, e18, st18⟩ := getF X0 hx hZ hown (host := "") (Or.inl (hw _ (List.mem_of_getElem? (i := 38) rfl))) Via.refl e0 F1 (g := (mkF m 1 #[.val (.ref a1)] [(.ref a1)])) rfl rfl (hb hby own_d8_1)
  refine own_step (U' := (T18.setTop (mkF m 4 #[.val (.ref a1)] [(.int c1)]))) (fun t ht => st18 _ ht) ?_
  by_cases hs4_19 : c1 = (-6 : Int32)
  ·
    refine own_step (U' := (T18.setTop (mkF m 48 #[.val (.ref a1)] []))) (fun t ht => own_lsw X18.here hx rfl (pc0 := 4) (pc' := 48) rfl (hb hby own_d8_4) rfl (by decide) (o := 44) (by rw [hs4_19]; decide) (by decide) (by decide) ht) ?_
    refine own_step (U' := (T18.setTop (mkF m 50 #[.val (.ref a1)] [(.int (8 : Int32))]))) (fun t ht => XS.bipush X18.here hx rfl (hb hby own_d8_48) ht) ?_
    refine own_step (U' := (T18.setTop (mkF m 69 #[.val (.ref a1)] [(.int (8 : Int32))]))) (fun t ht => XS.goto X18.here hx rfl (pc0 := 50) (pc' := 69) rfl (hb hby own_d8_50) (by decide) (by decide) ht) ?_
    refine own_ret X18 (v := (some (.int (8 : Int32)))) (fun h => by rw [Bd.returns] at h; cases h) Bd.notSynchronized (by decide) (by decide) ?_ (fun fs hr => retI X18 hx Bd.returns (hb hby own_d8_69) hr)
    show own_Q_ib Z a1 c1 h0 n0 _ T18.heap _
    rw [e18]
    refine ⟨?_, N0, rfl⟩
    simp [own_ib, hs4_19]
  ·
    by_cases hs4_20 : c1 = (-5 : Int32)
    ·
      refine own_step (U' := (T18.setTop (mkF m 63 #[.val (.ref a1)] []))) (fun t ht => own_lsw X18.here hx rfl (pc0 := 4) (pc' := 63) rfl (hb hby own_d8_4) rfl (by decide) (o := 59) (by rw [hs4_20]; decide) (by decide) (by decide) ht) ?_
      refine own_step (U' := (T18.setTop (mkF m 65 #[.val (.ref a1)] [(.int (64 : Int32))]))) (fun t ht => XS.bipush X18.here hx rfl (hb hby own_d8_63) ht) ?_
      refine own_step (U' := (T18.setTop (mkF m 69 #[.val (.ref a1)] [(.int (64 : Int32))]))) (fun t ht => XS.goto X18.here hx rfl (pc0 := 65) (pc' := 69) rfl (hb hby own_d8_65) (by decide) (by decide) ht) ?_
      refine own_ret X18 (v := (some (.int (64 : Int32)))) (fun h => by rw [Bd.returns] at h; cases h) Bd.notSynchronized (by decide) (by decide) ?_ (fun fs hr => retI X18 hx Bd.returns (hb hby own_d8_69) hr)
      show own_Q_ib Z a1 c1 h0 n0 _ T18.heap _
      rw [e18]
      refine ⟨?_, N0, rfl⟩
      simp [own_ib, hs4_19, hs4_20]
    ·
      by_cases hs4_21 : c1 = (4 : Int32)
      ·
        refine own_step (U' := (T18.setTop (mkF m 58 #[.val (.ref a1)] []))) (fun t ht => own_lsw X18.here hx rfl (pc0 := 4) (pc' := 58) rfl (hb hby own_d8_4) rfl (by decide) (o := 54) (by rw [hs4_21]; decide) (by decide) (by decide) ht) ?_
        refine own_step (U' := (T18.setTop (mkF m 60 #[.val (.ref a1)] [(.int (32 : Int32))]))) (fun t ht => XS.bipush X18.here hx rfl (hb hby own_d8_58) ht) ?_
        refine own_step (U' := (T18.setTop (mkF m 69 #[.val (.ref a1)] [(.int (32 : Int32))]))) (fun t ht => XS.goto X18.here hx rfl (pc0 := 60) (pc' := 69) rfl (hb hby own_d8_60) (by decide) (by decide) ht) ?_
        refine own_ret X18 (v := (some (.int (32 : Int32)))) (fun h => by rw [Bd.returns] at h; cases h) Bd.notSynchronized (by decide) (by decide) ?_ (fun fs hr => retI X18 hx Bd.returns (hb hby own_d8_69) hr)
        show own_Q_ib Z a1 c1 h0 n0 _ T18.heap _
        rw [e18]
        refine ⟨?_, N0, rfl⟩
        simp [own_ib, hs4_19, hs4_20, hs4_21]
      ·
        by_cases hs4_22 : c1 = (5 : Int32)
        ·
          refine own_step (U' := (T18.setTop (mkF m 53 #[.val (.ref a1)] []))) (fun t ht => own_lsw X18.here hx rfl (pc0 := 4) (pc' := 53) rfl (hb hby own_d8_4) rfl (by decide) (o := 49) (by rw [hs4_22]; decide) (by decide) (by decide) ht) ?_
          refine own_step (U' := (T18.setTop (mkF m 55 #[.val (.ref a1)] [(.int (16 : Int32))]))) (fun t ht => XS.bipush X18.here hx rfl (hb hby own_d8_53) ht) ?_
          refine own_step (U' := (T18.setTop (mkF m 69 #[.val (.ref a1)] [(.int (16 : Int32))]))) (fun t ht => XS.goto X18.here hx rfl (pc0 := 55) (pc' := 69) rfl (hb hby own_d8_55) (by decide) (by decide) ht) ?_
          refine own_ret X18 (v := (some (.int (16 : Int32)))) (fun h => by rw [Bd.returns] at h; cases h) Bd.notSynchronized (by decide) (by decide) ?_ (fun fs hr => retI X18 hx Bd.returns (hb hby own_d8_69) hr)
          show own_Q_ib Z a1 c1 h0 n0 _ T18.heap _
          rw [e18]
          refine ⟨?_, N0, rfl⟩
          simp [own_ib, hs4_19, hs4_20, hs4_21, hs4_22]
        ·
          refine own_step (U' := (T18.setTop (mkF m 68 #[.val (.ref a1)] []))) (fun t ht => own_lsw X18.here hx rfl (pc0 := 4) (pc' := 68) rfl (hb hby own_d8_4) rfl (by decide) (o := 64) (own_off8_4 hs4_19 hs4_20 hs4_21 hs4_22) (by decide) (by decide) ht) ?_
          refine own_step (U' := (T18.setTop (mkF m 69 #[.val (.ref a1)] [(.int (0 : Int32))]))) (fun t ht => XS.iconst X18.here hx rfl (hb hby own_d8_68) ht) ?_
          refine own_ret X18 (v := (some (.int (0 : Int32)))) (fun h => by rw [Bd.returns] at h; cases h) Bd.notSynchronized (by decide) (by decide) ?_ (fun fs hr => retI X18 hx Bd.returns (hb hby own_d8_69) hr)
          show own_Q_ib Z a1 c1 h0 n0 _ T18.heap _
          rw [e18]
          refine ⟨?_, N0, rfl⟩
          simp [own_ib, hs4_19, hs4_20, hs4_21, hs4_22]
theorem own_pn4 : plainName "com/example/fuxi/fuxi/dialect/DatabaseColumnIntegerBitsPinLaw" = true := by first | (simp [plainName, overriddenIn]; done) | decide +kernel
theorem own_d9_0 : decode method_2_code 0 = .ok (.iload_n 0, 1) := by decide +kernel
theorem own_d9_1 : decode method_2_code 1 = .ok (.bipush (-6), 2) := by decide +kernel
theorem own_d9_3 : decode method_2_code 3 = .ok (.if_icmp .ne 6, 3) := by decide +kernel
theorem own_d9_6 : decode method_2_code 6 = .ok (.bipush 8, 2) := by decide +kernel
theorem own_d9_8 : decode method_2_code 8 = .ok (.ireturn, 1) := by decide +kernel
theorem own_d9_9 : decode method_2_code 9 = .ok (.iload_n 0, 1) := by decide +kernel
theorem own_d9_10 : decode method_2_code 10 = .ok (.iconst 5, 1) := by decide +kernel
theorem own_d9_11 : decode method_2_code 11 = .ok (.if_icmp .ne 6, 3) := by decide +kernel
theorem own_d9_14 : decode method_2_code 14 = .ok (.bipush 16, 2) := by decide +kernel
theorem own_d9_16 : decode method_2_code 16 = .ok (.ireturn, 1) := by decide +kernel
theorem own_d9_17 : decode method_2_code 17 = .ok (.iload_n 0, 1) := by decide +kernel
theorem own_d9_18 : decode method_2_code 18 = .ok (.iconst 4, 1) := by decide +kernel
theorem own_d9_19 : decode method_2_code 19 = .ok (.if_icmp .ne 6, 3) := by decide +kernel
theorem own_d9_22 : decode method_2_code 22 = .ok (.bipush 32, 2) := by decide +kernel
theorem own_d9_24 : decode method_2_code 24 = .ok (.ireturn, 1) := by decide +kernel
theorem own_d9_25 : decode method_2_code 25 = .ok (.iload_n 0, 1) := by decide +kernel
theorem own_d9_26 : decode method_2_code 26 = .ok (.bipush (-5), 2) := by decide +kernel
theorem own_d9_28 : decode method_2_code 28 = .ok (.if_icmp .ne 6, 3) := by decide +kernel
theorem own_d9_31 : decode method_2_code 31 = .ok (.bipush 64, 2) := by decide +kernel
theorem own_d9_33 : decode method_2_code 33 = .ok (.ireturn, 1) := by decide +kernel
theorem own_d9_34 : decode method_2_code 34 = .ok (.iconst 0, 1) := by decide +kernel
theorem own_d9_35 : decode method_2_code 35 = .ok (.ireturn, 1) := by decide +kernel
def own_Q_eb (Z : State) (p1 : Int32) (h0 : Heap) (n0 : Nat) (v : Option Value) (h : Heap) (L : List Loc) : Prop := v = some (.int (own_eb p1)) ∧ Fr n0 L ∧ h = h0
set_option maxRecDepth 65536 in
set_option maxHeartbeats 40000000 in
theorem own_m_eb (l : Launch) (Z : State) (a0 : Array Value) (hw : ∀ d ∈ tables_1, d.before a0 Z = true) (ws : List Jvm.Cond) (p1 : Int32) (h0 : Heap) (n0 : Nat) (Z0 : n0 ≤ h0.size)  :
    MetFree l (⟨"com/example/fuxi/fuxi/dialect/DatabaseColumnIntegerBitsPinLaw", "expectedBits", "(I)I"⟩ : MethodName) (head1 (Jvm.Cond.code (⟨"com/example/fuxi/fuxi/dialect/DatabaseColumnIntegerBitsPinLaw", "expectedBits", "(I)I"⟩ : MethodName) method_2_code 1 (some .int) :: ws) ({ frames := 0, cells := 0, slots := 0, locals := 0 } : Room)) (fun a U => a = #[(.int p1)] ∧ Z.Warmed39 U.vm ∧ U.heap = h0) (fun _ _ _ _ _ => True) (fun _ U o U' => ∃ v L, o = .returned v ∧ own_Q_eb Z p1 h0 n0 v U'.heap L ∧ FrameEnd U o U' L ({ frames := 0, cells := 0, slots := 0, locals := 0 } : Room).cells ({ frames := 0, cells := 0, slots := 0, locals := 0 } : Room).slots) := by
  refine MetFree.of_bodySF (plainFor_of_name own_pn4) hisR ?_
  intro p e s m args below meth c s₁ Bd hml0 hP hK
  obtain ⟨rfl, hZ, hh⟩ := hP
  have hx := Bd.exec
  have hby := Bd.bytes
  have hml : c.maxLocals = 1 := hml0
  have hown : s.vm.findClass "com/example/fuxi/fuxi/dialect/DatabaseColumnIntegerBitsPinLaw" = some m.cls := findClass_of_methodNamed Bd.named
  have hnm := (name_of_methodNamed Bd.named Bd.method).1
  have X0 : Stand p l e ({ frames := 0, cells := 0, slots := 0, locals := 0 } : Room) s m #[(.int p1)] below meth c s₁ [] 0 0 := Stand.of_body Bd
  have e0 : s₁.heap = h0 := by rw [← hh, Bd.state]; rfl
  have N0 := Fr.nil n0
  have K0 : Keep h0 h0 [] := Keep.refl _ _
  show own_Go p e below s ({ frames := 0, cells := 0, slots := 0, locals := 0 } : Room).cells ({ frames := 0, cells := 0, slots := 0, locals := 0 } : Room).slots (own_Q_eb Z p1 h0 n0) (s₁.setTop (entryFrame m #[(.int p1)] 1))
  have ef : entryFrame m #[(.int p1)] 1 = (mkF m 0 #[.val (.int p1)] []) := by first | rfl | (simp [entryFrame, mkF, argsToLocals, Value.category, maxLocals]; done)
  rw [ef]
  show own_Go p e below s _ _ _ (s₁.setTop (mkF m 0 #[.val (.int p1)] []))
  refine own_step (U' := (s₁.setTop (mkF m 1 #[.val (.int p1)] [(.int p1)]))) (fun t ht => XS.iloadN X0.here hx rfl (hb hby own_d9_0) rfl ht) ?_
  refine own_step (U' := (s₁.setTop (mkF m 3 #[.val (.int p1)] [(.int (-6 : Int32)), (.int p1)]))) (fun t ht => XS.bipush X0.here hx rfl (hb hby own_d9_1) ht) ?_
  by_cases hc3_23 : p1 = (-6 : Int32)
  ·
    refine own_step (U' := (s₁.setTop (mkF m 6 #[.val (.int p1)] []))) (fun t ht => XS.icmpNo X0.here hx rfl (hb hby own_d9_3) rfl (XT.ii_ne_f hc3_23) ht) ?_
    refine own_step (U' := (s₁.setTop (mkF m 8 #[.val (.int p1)] [(.int (8 : Int32))]))) (fun t ht => XS.bipush X0.here hx rfl (hb hby own_d9_6) ht) ?_
    refine own_ret X0 (v := (some (.int (8 : Int32)))) (fun h => by rw [Bd.returns] at h; cases h) Bd.notSynchronized (by decide) (by decide) ?_ (fun fs hr => retI X0 hx Bd.returns (hb hby own_d9_8) hr)
    show own_Q_eb Z p1 h0 n0 _ s₁.heap _
    rw [e0]
    refine ⟨?_, N0, rfl⟩
    simp [own_eb, nar, hc3_23]
  ·
    refine own_step (U' := (s₁.setTop (mkF m 9 #[.val (.int p1)] []))) (fun t ht => XS.icmpYes X0.here hx rfl (pc0 := 3) (pc' := 9) rfl (hb hby own_d9_3) rfl (XT.ii_ne_t hc3_23) (by decide) (by decide) ht) ?_
    refine own_step (U' := (s₁.setTop (mkF m 10 #[.val (.int p1)] [(.int p1)]))) (fun t ht => XS.iloadN X0.here hx rfl (hb hby own_d9_9) rfl ht) ?_
    refine own_step (U' := (s₁.setTop (mkF m 11 #[.val (.int p1)] [(.int (5 : Int32)), (.int p1)]))) (fun t ht => XS.iconst X0.here hx rfl (hb hby own_d9_10) ht) ?_
    by_cases hc11_24 : p1 = (5 : Int32)
    ·
      refine own_step (U' := (s₁.setTop (mkF m 14 #[.val (.int p1)] []))) (fun t ht => XS.icmpNo X0.here hx rfl (hb hby own_d9_11) rfl (XT.ii_ne_f hc11_24) ht) ?_
      refine own_step (U' := (s₁.setTop (mkF m 16 #[.val (.int p1)] [(.int (16 : Int32))]))) (fun t ht => XS.bipush X0.here hx rfl (hb hby own_d9_14) ht) ?_
      refine own_ret X0 (v := (some (.int (16 : Int32)))) (fun h => by rw [Bd.returns] at h; cases h) Bd.notSynchronized (by decide) (by decide) ?_ (fun fs hr => retI X0 hx Bd.returns (hb hby own_d9_16) hr)
      show own_Q_eb Z p1 h0 n0 _ s₁.heap _
      rw [e0]
      refine ⟨?_, N0, rfl⟩
      simp [own_eb, nar, hc3_23, hc11_24]
    ·
      refine own_step (U' := (s₁.setTop (mkF m 17 #[.val (.int p1)] []))) (fun t ht => XS.icmpYes X0.here hx rfl (pc0 := 11) (pc' := 17) rfl (hb hby own_d9_11) rfl (XT.ii_ne_t hc11_24) (by decide) (by decide) ht) ?_
      refine own_step (U' := (s₁.setTop (mkF m 18 #[.val (.int p1)] [(.int p1)]))) (fun t ht => XS.iloadN X0.here hx rfl (hb hby own_d9_17) rfl ht) ?_
      refine own_step (U' := (s₁.setTop (mkF m 19 #[.val (.int p1)] [(.int (4 : Int32)), (.int p1)]))) (fun t ht => XS.iconst X0.here hx rfl (hb hby own_d9_18) ht) ?_
      by_cases hc19_25 : p1 = (4 : Int32)
      ·
        refine own_step (U' := (s₁.setTop (mkF m 22 #[.val (.int p1)] []))) (fun t ht => XS.icmpNo X0.here hx rfl (hb hby own_d9_19) rfl (XT.ii_ne_f hc19_25) ht) ?_
        refine own_step (U' := (s₁.setTop (mkF m 24 #[.val (.int p1)] [(.int (32 : Int32))]))) (fun t ht => XS.bipush X0.here hx rfl (hb hby own_d9_22) ht) ?_
        refine own_ret X0 (v := (some (.int (32 : Int32)))) (fun h => by rw [Bd.returns] at h; cases h) Bd.notSynchronized (by decide) (by decide) ?_ (fun fs hr => retI X0 hx Bd.returns (hb hby own_d9_24) hr)
        show own_Q_eb Z p1 h0 n0 _ s₁.heap _
        rw [e0]
        refine ⟨?_, N0, rfl⟩
        simp [own_eb, nar, hc3_23, hc11_24, hc19_25]
      ·
        refine own_step (U' := (s₁.setTop (mkF m 25 #[.val (.int p1)] []))) (fun t ht => XS.icmpYes X0.here hx rfl (pc0 := 19) (pc' := 25) rfl (hb hby own_d9_19) rfl (XT.ii_ne_t hc19_25) (by decide) (by decide) ht) ?_
        refine own_step (U' := (s₁.setTop (mkF m 26 #[.val (.int p1)] [(.int p1)]))) (fun t ht => XS.iloadN X0.here hx rfl (hb hby own_d9_25) rfl ht) ?_
        refine own_step (U' := (s₁.setTop (mkF m 28 #[.val (.int p1)] [(.int (-5 : Int32)), (.int p1)]))) (fun t ht => XS.bipush X0.here hx rfl (hb hby own_d9_26) ht) ?_
        by_cases hc28_26 : p1 = (-5 : Int32)
        ·
          refine own_step (U' := (s₁.setTop (mkF m 31 #[.val (.int p1)] []))) (fun t ht => XS.icmpNo X0.here hx rfl (hb hby own_d9_28) rfl (XT.ii_ne_f hc28_26) ht) ?_
          refine own_step (U' := (s₁.setTop (mkF m 33 #[.val (.int p1)] [(.int (64 : Int32))]))) (fun t ht => XS.bipush X0.here hx rfl (hb hby own_d9_31) ht) ?_
          refine own_ret X0 (v := (some (.int (64 : Int32)))) (fun h => by rw [Bd.returns] at h; cases h) Bd.notSynchronized (by decide) (by decide) ?_ (fun fs hr => retI X0 hx Bd.returns (hb hby own_d9_33) hr)
          show own_Q_eb Z p1 h0 n0 _ s₁.heap _
          rw [e0]
          refine ⟨?_, N0, rfl⟩
          simp [own_eb, nar, hc3_23, hc11_24, hc19_25, hc28_26]
        ·
          refine own_step (U' := (s₁.setTop (mkF m 34 #[.val (.int p1)] []))) (fun t ht => XS.icmpYes X0.here hx rfl (pc0 := 28) (pc' := 34) rfl (hb hby own_d9_28) rfl (XT.ii_ne_t hc28_26) (by decide) (by decide) ht) ?_
          refine own_step (U' := (s₁.setTop (mkF m 35 #[.val (.int p1)] [(.int (0 : Int32))]))) (fun t ht => XS.iconst X0.here hx rfl (hb hby own_d9_34) ht) ?_
          refine own_ret X0 (v := (some (.int (0 : Int32)))) (fun h => by rw [Bd.returns] at h; cases h) Bd.notSynchronized (by decide) (by decide) ?_ (fun fs hr => retI X0 hx Bd.returns (hb hby own_d9_35) hr)
          show own_Q_eb Z p1 h0 n0 _ s₁.heap _
          rw [e0]
          refine ⟨?_, N0, rfl⟩
          simp [own_eb, nar, hc3_23, hc11_24, hc19_25, hc28_26]
theorem own_pd4 : parseMethodDescriptor "(C)Ljava/lang/String;" = some ⟨[.char], some (.object "java/lang/String")⟩ := by decide +kernel
theorem own_pd5 : parseMethodDescriptor "(ILjava/lang/String;II)V" = some ⟨[.int, (.object "java/lang/String"), .int, .int], none⟩ := by decide +kernel
theorem own_pd6 : parseMethodDescriptor "()I" = some ⟨[], some .int⟩ := by decide +kernel
theorem own_pd7 : parseMethodDescriptor "(I)I" = some ⟨[.int], some .int⟩ := by decide +kernel
def own_Q_law (Z : State) (p1 : Int32) (p2 : Int32) (p3 : Int32) (p4 : Int32) (p5 : Int32) (cz : Int32) (h0 : Heap) (n0 : Nat) (v : Option Value) (h : Heap) (L : List Loc) : Prop := v = some (.int 1) ∧ Fr n0 L
set_option maxRecDepth 65536 in
set_option maxHeartbeats 40000000 in
theorem own_m_law (l : Launch) (Z : State) (a0 : Array Value) (hw : ∀ d ∈ tables_1, d.before a0 Z = true) (ws : List Jvm.Cond) (p1 : Int32) (p2 : Int32) (p3 : Int32) (p4 : Int32) (p5 : Int32) (cz : Int32) (h0 : Heap) (n0 : Nat) (Z0 : n0 ≤ h0.size) (S_cz : Sta Z h0 "java/lang/String" "COMPACT_STRINGS" "Z" (.int cz)) (hcz : ¬ cz = 0) :
    MetFree l x (head1 (Jvm.Cond.code x code maxLocals ret :: ws) room_1) (fun a U => a = #[(.int p1), (.int p2), (.int p3), (.int p4), (.int p5)] ∧ Z.Warmed39 U.vm ∧ U.heap = h0) (fun _ _ _ _ _ => True) (fun _ U o U' => ∃ v L, o = .returned v ∧ own_Q_law Z p1 p2 p3 p4 p5 cz h0 n0 v U'.heap L ∧ FrameEnd U o U' L 3 9) := by
  refine MetFree.of_bodySF (plainFor_of_name own_pn4) hisR ?_
  intro p e s m args below meth c s₁ Bd hml0 hP hK
  obtain ⟨rfl, hZ, hh⟩ := hP
  have hx := Bd.exec
  have hby := Bd.bytes
  have hml : c.maxLocals = 9 := hml0
  have hown : s.vm.findClass "com/example/fuxi/fuxi/dialect/DatabaseColumnIntegerBitsPinLaw" = some m.cls := findClass_of_methodNamed Bd.named
  have hnm := (name_of_methodNamed Bd.named Bd.method).1
  have X0 : Stand p l e room_1 s m #[(.int p1), (.int p2), (.int p3), (.int p4), (.int p5)] below meth c s₁ [] 0 0 := Stand.of_body Bd
  have e0 : s₁.heap = h0 := by rw [← hh, Bd.state]; rfl
  have N0 := Fr.nil n0
  have K0 : Keep h0 h0 [] := Keep.refl _ _
  show own_Go p e below s 3 9 (own_Q_law Z p1 p2 p3 p4 p5 cz h0 n0) (s₁.setTop (entryFrame m #[(.int p1), (.int p2), (.int p3), (.int p4), (.int p5)] maxLocals))
  have ef : entryFrame m #[(.int p1), (.int p2), (.int p3), (.int p4), (.int p5)] maxLocals = (mkF m 0 #[.val (.int p1), .val (.int p2), .val (.int p3), .val (.int p4), .val (.int p5), .unset, .unset, .unset, .unset] []) := by first | rfl | (simp [entryFrame, mkF, argsToLocals, Value.category, maxLocals]; done)
  rw [ef]
  show own_Go p e below s _ _ _ (s₁.setTop (mkF m 0 #[.val (.int p1), .val (.int p2), .val (.int p3), .val (.int p4), .val (.int p5), .unset, .unset, .unset, .unset] []))
  have tail58 : ∀ (ss : Int32) (tt : Int32), own_Go p e below s 3 9 (own_Q_law Z p1 p2 p3 p4 p5 cz h0 n0) (s₁.setTop (mkF m 58 #[.val (.int p1), .val (.int p2), .val (.int p3), .val (.int p4), .val (.int p5), .val (.int ss), .val (.int tt), .unset, .unset] [])) := by
    intro ss tt
    refine own_step (U' := (s₁.setTop (mkF m 60 #[.val (.int p1), .val (.int p2), .val (.int p3), .val (.int p4), .val (.int p5), .val (.int ss), .val (.int tt), .unset, .unset] [(.int p5)]))) (fun t ht => XS.iload X0.here hx rfl (hb hby at_58) rfl ht) ?_
    refine own_step (U' := (s₁.setTop (mkF m 63 #[.val (.int p1), .val (.int p2), .val (.int p3), .val (.int p4), .val (.int p5), .val (.int ss), .val (.int tt), .unset, .unset] [(.int (255 : Int32)), (.int p5)]))) (fun t ht => XS.sipush X0.here hx rfl (hb hby at_60) ht) ?_
    refine own_step (U' := (s₁.setTop (mkF m 64 #[.val (.int p1), .val (.int p2), .val (.int p3), .val (.int p4), .val (.int p5), .val (.int ss), .val (.int tt), .unset, .unset] [(.int (p5 &&& (255 : Int32)))]))) (fun t ht => XS.iand X0.here hx rfl (hb hby at_63) rfl ht) ?_
    refine own_step (U' := (s₁.setTop (mkF m 65 #[.val (.int p1), .val (.int p2), .val (.int p3), .val (.int p4), .val (.int p5), .val (.int ss), .val (.int tt), .unset, .unset] [(.int ((p5 &&& (255 : Int32)).toUInt32.toUInt16.toUInt32.toInt32))]))) (fun t ht => XT.i2c X0.here hx rfl (hb hby at_64) rfl ht) ?_
    obtain ⟨_, _, ⟨T27, L27, k27, n27⟩, -, X27, ⟨Lc27, hQ27, l27, y27, z27⟩, st27⟩ := Jvm.LawKit.callS X0 hx (y := (⟨"java/lang/String", "valueOf", "(C)Ljava/lang/String;"⟩ : MethodName)) hown (mvT hZ (hw _ (List.mem_of_getElem? (i := 0) rfl))) (mvT hZ (hw _ (List.mem_of_getElem? (i := 1) rfl))) (mvT hZ (hw _ (List.mem_of_getElem? (i := 2) rfl))) (mvT hZ (hw _ (List.mem_of_getElem? (i := 3) rfl))) (by decide) (backOf (W := 0) (own_m_vof l Z a0 hw [] (((p5 &&& (255 : Int32)).toUInt32.toUInt16.toUInt32.toInt32)) (cz) h0 n0 Z0 S_cz hcz (own_le255 _)) hZ (hw _ (List.mem_of_getElem? (i := 3) rfl)) (hw _ (List.mem_of_getElem? (i := 2) rfl)) (by decide) (by decide)) (g := (mkF m 65 #[.val (.int p1), .val (.int p2), .val (.int p3), .val (.int p4), .val (.int p5), .val (.int ss), .val (.int tt), .unset, .unset] [(.int ((p5 &&& (255 : Int32)).toUInt32.toUInt16.toUInt32.toInt32))])) rfl (by rw [hml]; rfl) (argsL := [(.int ((p5 &&& (255 : Int32)).toUInt32.toUInt16.toUInt32.toInt32))]) (rest := []) (lenOf own_pd4 rfl) rfl (by show 2 * 0 + _ ≤ _; exact Nat.le_of_eq rfl) (hb hby at_65) (fun _ _ => ⟨rfl, e0, (by decide : 0 + 2 ≤ _), (by decide : 0 + 5 ≤ _)⟩)
    dsimp only [Pt.U, Pt.locs, Pt.cells, Pt.slots] at X27 l27 y27 z27 st27 hQ27
    subst l27 y27 z27
    obtain ⟨r_27, rfl, Nq27, Kq27, sq_r_27, Fq27_0⟩ := hQ27
    have N27 := Fr.app N0 Nq27
    have g_r_27 : n0 ≤ r_27 := Nat.le_trans Z0 sq_r_27
    have sz_r_27 : h0.size ≤ r_27 := Nat.le_trans K0.1 sq_r_27
    have f27_0 : Sta Z T27.heap "java/lang/String" "COMPACT_STRINGS" "Z" (.int cz) := own_sta_keep S_cz Kq27 own_pl0
    have K27 : Keep h0 T27.heap [] := K0.trans Kq27 all0
    refine own_step (U' := (T27.setTop (mkF m 68 #[.val (.int p1), .val (.int p2), .val (.int p3), .val (.int p4), .val (.int p5), .val (.int ss), .val (.int tt), .unset, .unset] [(.ref r_27)]))) (fun t ht => st27 _ ht) ?_
    refine own_step (U' := (T27.setTop (mkF m 70 #[.val (.int p1), .val (.int p2), .val (.int p3), .val (.int p4), .val (.int p5), .val (.int ss), .val (.int tt), .val (.ref r_27), .unset] []))) (fun t ht => XS.astore X27.here hx rfl (hb hby at_68) rfl rfl (l' := #[.val (.int p1), .val (.int p2), .val (.int p3), .val (.int p4), .val (.int p5), .val (.int ss), .val (.int tt), .val (.ref r_27), .unset]) rfl ht) ?_
    obtain ⟨T28, h28, X28, e28, E28, A28, D28, -, st28⟩ := newO X27 hx hZ hown (hw _ (List.mem_of_getElem? (i := 26) rfl)) (hw _ (List.mem_of_getElem? (i := 27) rfl)) (hw _ (List.mem_of_getElem? (i := 28) rfl)) rfl (g := (mkF m 70 #[.val (.int p1), .val (.int p2), .val (.int p3), .val (.int p4), .val (.int p5), .val (.int ss), .val (.int tt), .val (.ref r_27), .unset] [])) rfl (hb hby at_70) (by decide) (by decide)
    obtain ⟨b28, g28⟩ : ∃ z, z = (T27.heap).size := ⟨_, rfl⟩
    rw [← g28] at A28 D28 st28
    have ne_r_27_b28 : r_27 ≠ b28 := Nat.ne_of_lt (Nat.lt_of_lt_of_le Fq27_0.lt (Nat.le_of_eq g28.symm))
    have g_b28 : n0 ≤ b28 := Nat.le_trans (Nat.le_trans Z0 K27.1) (Nat.le_of_eq g28.symm)
    have sz_b28 : h0.size ≤ b28 := Nat.le_trans K27.1 (Nat.le_of_eq g28.symm)
    have f28_0 : Sta Z h28 "java/lang/String" "COMPACT_STRINGS" "Z" (.int cz) := f27_0.ext E28
    have f28_1 : Exa Z h28 r_27 "java/lang/String" := Fq27_0.ext E28
    have K28 : Keep h0 h28 [] := K27.ext E28
    have F28_39 : Fld Z h28 b28 "com/example/fuxi/fuxi/dialect/DatabaseColumn" "sqlType" "I" (.int (0 : Int32)) := D28 (Or.inr (hw _ (List.mem_of_getElem? (i := 39) rfl))) (ty := .int) (by decide)
    have F28_41 : Fld Z h28 b28 "com/example/fuxi/fuxi/dialect/DatabaseColumn" "typeName" "Ljava/lang/String;" .null := D28 (Or.inr (hw _ (List.mem_of_getElem? (i := 41) rfl))) (ty := (.object "java/lang/String")) (by decide)
    have F28_43 : Fld Z h28 b28 "com/example/fuxi/fuxi/dialect/DatabaseColumn" "size" "I" (.int (0 : Int32)) := D28 (Or.inr (hw _ (List.mem_of_getElem? (i := 43) rfl))) (ty := .int) (by decide)
    have F28_45 : Fld Z h28 b28 "com/example/fuxi/fuxi/dialect/DatabaseColumn" "scale" "I" (.int (0 : Int32)) := D28 (Or.inr (hw _ (List.mem_of_getElem? (i := 45) rfl))) (ty := .int) (by decide)
    refine own_step (U' := (T28.setTop (mkF m 73 #[.val (.int p1), .val (.int p2), .val (.int p3), .val (.int p4), .val (.int p5), .val (.int ss), .val (.int tt), .val (.ref r_27), .unset] [(.ref b28)]))) (fun t ht => st28 _ ht) ?_
    refine own_step (U' := (T28.setTop (mkF m 74 #[.val (.int p1), .val (.int p2), .val (.int p3), .val (.int p4), .val (.int p5), .val (.int ss), .val (.int tt), .val (.ref r_27), .unset] [(.ref b28), (.ref b28)]))) (fun t ht => XS.dup X28.here hx rfl (hb hby at_73) rfl rfl ht) ?_
    refine own_step (U' := (T28.setTop (mkF m 76 #[.val (.int p1), .val (.int p2), .val (.int p3), .val (.int p4), .val (.int p5), .val (.int ss), .val (.int tt), .val (.ref r_27), .unset] [(.int tt), (.ref b28), (.ref b28)]))) (fun t ht => XS.iload X28.here hx rfl (hb hby at_74) rfl ht) ?_
    refine own_step (U' := (T28.setTop (mkF m 78 #[.val (.int p1), .val (.int p2), .val (.int p3), .val (.int p4), .val (.int p5), .val (.int ss), .val (.int tt), .val (.ref r_27), .unset] [(.ref r_27), (.int tt), (.ref b28), (.ref b28)]))) (fun t ht => XS.aload X28.here hx rfl (hb hby at_76) rfl rfl ht) ?_
    refine own_step (U' := (T28.setTop (mkF m 79 #[.val (.int p1), .val (.int p2), .val (.int p3), .val (.int p4), .val (.int p5), .val (.int ss), .val (.int tt), .val (.ref r_27), .unset] [(.int p3), (.ref r_27), (.int tt), (.ref b28), (.ref b28)]))) (fun t ht => XS.iloadN X28.here hx rfl (hb hby at_78) rfl ht) ?_
    refine own_step (U' := (T28.setTop (mkF m 80 #[.val (.int p1), .val (.int p2), .val (.int p3), .val (.int p4), .val (.int p5), .val (.int ss), .val (.int tt), .val (.ref r_27), .unset] [(.int p4), (.int p3), (.ref r_27), (.int tt), (.ref b28), (.ref b28)]))) (fun t ht => XS.iloadN X28.here hx rfl (hb hby at_79) rfl ht) ?_
    obtain ⟨_, _, ⟨T29, L29, k29, n29⟩, -, X29, ⟨Lc29, hQ29, l29, y29, z29⟩, st29⟩ := X28.specialBack hx (y := (⟨"com/example/fuxi/fuxi/dialect/DatabaseColumn", "<init>", "(ILjava/lang/String;II)V"⟩ : MethodName)) rfl hown (mvT hZ (hw _ (List.mem_of_getElem? (i := 29) rfl))) (mvT hZ (hw _ (List.mem_of_getElem? (i := 30) rfl))) (mvT hZ (hw _ (List.mem_of_getElem? (i := 31) rfl))) (by decide) (backOf (W := 1) (own_m_dci l Z a0 hw [] (b28) (tt) (r_27) (p3) (p4) ((.int (0 : Int32))) (.null) ((.int (0 : Int32))) ((.int (0 : Int32))) h28 n0 (Nat.le_trans Z0 K28.1) g_b28 F28_39 F28_41 F28_43 F28_45 A28) hZ (hw _ (List.mem_of_getElem? (i := 31) rfl)) (hw _ (List.mem_of_getElem? (i := 28) rfl)) (by decide) (by decide)) (g := (mkF m 80 #[.val (.int p1), .val (.int p2), .val (.int p3), .val (.int p4), .val (.int p5), .val (.int ss), .val (.int tt), .val (.ref r_27), .unset] [(.int p4), (.int p3), (.ref r_27), (.int tt), (.ref b28), (.ref b28)])) rfl (by rw [hml]; rfl) (Steps.refl _) (a := b28) (argsL := [(.int tt), (.ref r_27), (.int p3), (.int p4)]) (rest := [(.ref b28)]) (lenOf own_pd5 rfl) rfl (by show 2 * 0 + _ ≤ _; exact Nat.le_of_eq rfl) (hb hby at_80) (fun _ _ => ⟨rfl, e28, (by decide : 3 + 0 ≤ _), (by decide : 9 + 0 ≤ _)⟩)
    dsimp only [Pt.U, Pt.locs, Pt.cells, Pt.slots] at X29 l29 y29 z29 st29 hQ29
    subst l29 y29 z29
    obtain ⟨rfl, Nq29, Kq29, Fq29_0, Fq29_1⟩ := hQ29
    have N29 := Fr.app N27 Nq29
    have f29_0 : Sta Z T29.heap "java/lang/String" "COMPACT_STRINGS" "Z" (.int cz) := own_sta_keep f28_0 Kq29 (own_plE A28 own_pl0)
    have f29_1 : Exa Z T29.heap r_27 "java/lang/String" := f28_1.keep Kq29
    have f29_2 : Exa Z T29.heap b28 "com/example/fuxi/fuxi/dialect/DatabaseColumn" := A28.keep Kq29
    have K29 : Keep h0 T29.heap [] := K28.trans Kq29 (allS (Or.inr sz_b28) all0)
    refine own_step (U' := (T29.setTop (mkF m 83 #[.val (.int p1), .val (.int p2), .val (.int p3), .val (.int p4), .val (.int p5), .val (.int ss), .val (.int tt), .val (.ref r_27), .unset] [(.ref b28)]))) (fun t ht => st29.trans ht) ?_
    refine own_step (U' := (T29.setTop (mkF m 85 #[.val (.int p1), .val (.int p2), .val (.int p3), .val (.int p4), .val (.int p5), .val (.int ss), .val (.int tt), .val (.ref r_27), .val (.ref b28)] []))) (fun t ht => XS.astore X29.here hx rfl (hb hby at_83) rfl rfl (l' := #[.val (.int p1), .val (.int p2), .val (.int p3), .val (.int p4), .val (.int p5), .val (.int ss), .val (.int tt), .val (.ref r_27), .val (.ref b28)]) rfl ht) ?_
    refine own_step (U' := (T29.setTop (mkF m 87 #[.val (.int p1), .val (.int p2), .val (.int p3), .val (.int p4), .val (.int p5), .val (.int ss), .val (.int tt), .val (.ref r_27), .val (.ref b28)] [(.ref b28)]))) (fun t ht => XS.aload X29.here hx rfl (hb hby at_85) rfl rfl ht) ?_
    obtain ⟨cq30, kq30, q30a, q30b, q30c⟩ := isOf hZ rfl Fq29_1
    obtain ⟨_, _, ⟨T30, L30, k30, n30⟩, -, X30, ⟨Lc30, hQ30, l30, y30, z30⟩, st30⟩ := X29.virtualBack hx (y := (⟨"com/example/fuxi/fuxi/dialect/DatabaseColumn", "integerBits", "()I"⟩ : MethodName)) (z := (⟨"com/example/fuxi/fuxi/dialect/DatabaseColumn", "integerBits", "()I"⟩ : MethodName)) hown (mvT hZ (hw _ (List.mem_of_getElem? (i := 46) rfl))) (mvT hZ (hw _ (List.mem_of_getElem? (i := 47) rfl))) (notFace_of_selects (args := #[]) (mvT hZ (hw _ (List.mem_of_getElem? (i := 49) rfl)))) (mvT hZ (hw _ (List.mem_of_getElem? (i := 49) rfl))) (mvT hZ (hw _ (List.mem_of_getElem? (i := 48) rfl))) (by decide) (backOf (W := 0) (own_m_ib l Z a0 hw [] (b28) (tt) T29.heap n0 (Nat.le_trans Z0 K29.1) Fq29_0) hZ (hw _ (List.mem_of_getElem? (i := 50) rfl)) (hw _ (List.mem_of_getElem? (i := 28) rfl)) (by decide) (by decide)) q30a q30c (g := (mkF m 87 #[.val (.int p1), .val (.int p2), .val (.int p3), .val (.int p4), .val (.int p5), .val (.int ss), .val (.int tt), .val (.ref r_27), .val (.ref b28)] [(.ref b28)])) rfl (by rw [hml]; rfl) (Steps.refl _) (argsL := []) (rest := []) (lenOf own_pd6 rfl) rfl (by show 2 * 0 + _ ≤ _; exact Nat.le_of_eq rfl) (hb hby at_87) (fun _ _ => ⟨rfl, rfl, (by decide : 3 + 0 ≤ _), (by decide : 9 + 0 ≤ _)⟩)
    dsimp only [Pt.U, Pt.locs, Pt.cells, Pt.slots] at X30 l30 y30 z30 st30 hQ30
    subst l30 y30 z30
    obtain ⟨rfl, Nq30, Kq30⟩ := hQ30
    have N30 := Fr.app N29 Nq30
    have e30 : T30.heap = T29.heap := Kq30
    refine own_step (U' := (T30.setTop (mkF m 90 #[.val (.int p1), .val (.int p2), .val (.int p3), .val (.int p4), .val (.int p5), .val (.int ss), .val (.int tt), .val (.ref r_27), .val (.ref b28)] [(.int (own_ib tt))]))) (fun t ht => st30.trans ht) ?_
    refine own_step (U' := (T30.setTop (mkF m 92 #[.val (.int p1), .val (.int p2), .val (.int p3), .val (.int p4), .val (.int p5), .val (.int ss), .val (.int tt), .val (.ref r_27), .val (.ref b28)] [(.int tt), (.int (own_ib tt))]))) (fun t ht => XS.iload X30.here hx rfl (hb hby at_90) rfl ht) ?_
    obtain ⟨_, _, ⟨T31, L31, k31, n31⟩, -, X31, ⟨Lc31, hQ31, l31, y31, z31⟩, st31⟩ := Jvm.LawKit.callS X30 hx (y := (⟨"com/example/fuxi/fuxi/dialect/DatabaseColumnIntegerBitsPinLaw", "expectedBits", "(I)I"⟩ : MethodName)) hown (mvT hZ (hw _ (List.mem_of_getElem? (i := 51) rfl))) (mvT hZ (hw _ (List.mem_of_getElem? (i := 52) rfl))) (mvT hZ (hw _ (List.mem_of_getElem? (i := 53) rfl))) (mvT hZ (hw _ (List.mem_of_getElem? (i := 54) rfl))) (by decide) (backOf (W := 1) (own_m_eb l Z a0 hw [] (tt) T29.heap n0 (Nat.le_trans Z0 K29.1) ) hZ (hw _ (List.mem_of_getElem? (i := 54) rfl)) (hw _ (List.mem_of_getElem? (i := 53) rfl)) (by decide) (by decide)) (g := (mkF m 92 #[.val (.int p1), .val (.int p2), .val (.int p3), .val (.int p4), .val (.int p5), .val (.int ss), .val (.int tt), .val (.ref r_27), .val (.ref b28)] [(.int tt), (.int (own_ib tt))])) rfl (by rw [hml]; rfl) (argsL := [(.int tt)]) (rest := [(.int (own_ib tt))]) (lenOf own_pd7 rfl) rfl (by show 2 * 0 + _ ≤ _; exact Nat.le_of_eq rfl) (hb hby at_92) (fun _ _ => ⟨rfl, e30, (by decide : 3 + 0 ≤ _), (by decide : 9 + 0 ≤ _)⟩)
    dsimp only [Pt.U, Pt.locs, Pt.cells, Pt.slots] at X31 l31 y31 z31 st31 hQ31
    subst l31 y31 z31
    obtain ⟨rfl, Nq31, Kq31⟩ := hQ31
    have N31 := Fr.app N30 Nq31
    have e31 : T31.heap = T29.heap := Kq31
    refine own_step (U' := (T31.setTop (mkF m 95 #[.val (.int p1), .val (.int p2), .val (.int p3), .val (.int p4), .val (.int p5), .val (.int ss), .val (.int tt), .val (.ref r_27), .val (.ref b28)] [(.int (own_eb tt)), (.int (own_ib tt))]))) (fun t ht => st31 _ ht) ?_
    refine own_step (U' := (T31.setTop (mkF m 98 #[.val (.int p1), .val (.int p2), .val (.int p3), .val (.int p4), .val (.int p5), .val (.int ss), .val (.int tt), .val (.ref r_27), .val (.ref b28)] []))) (fun t ht => XS.icmpNo X31.here hx rfl (hb hby at_95) rfl (XT.ii_ne_f ((own_ibeb tt) : (own_ib tt) = (own_eb tt))) ht) ?_
    refine own_step (U' := (T31.setTop (mkF m 99 #[.val (.int p1), .val (.int p2), .val (.int p3), .val (.int p4), .val (.int p5), .val (.int ss), .val (.int tt), .val (.ref r_27), .val (.ref b28)] [(.int (1 : Int32))]))) (fun t ht => XS.iconst X31.here hx rfl (hb hby at_98) ht) ?_
    refine own_step (U' := (T31.setTop (mkF m 103 #[.val (.int p1), .val (.int p2), .val (.int p3), .val (.int p4), .val (.int p5), .val (.int ss), .val (.int tt), .val (.ref r_27), .val (.ref b28)] [(.int (1 : Int32))]))) (fun t ht => XS.goto X31.here hx rfl (pc0 := 99) (pc' := 103) rfl (hb hby at_99) (by decide) (by decide) ht) ?_
    refine own_ret X31 (v := (some (.int (nar .boolean (1 : Int32))))) (fun h => by rw [Bd.returns] at h; cases h) Bd.notSynchronized (by decide) (by decide) ?_ (fun fs hr => retN X31 hx (t := .boolean) Bd.returns (by simp) (hb hby at_103) hr)
    show own_Q_law Z p1 p2 p3 p4 p5 cz h0 n0 _ T31.heap _
    rw [e31]
    exact ⟨rfl, N31⟩
  refine own_step (U' := (s₁.setTop (mkF m 1 #[.val (.int p1), .val (.int p2), .val (.int p3), .val (.int p4), .val (.int p5), .unset, .unset, .unset, .unset] [(.int p1)]))) (fun t ht => XS.iloadN X0.here hx rfl (hb hby at_0) rfl ht) ?_
  refine own_step (U' := (s₁.setTop (mkF m 3 #[.val (.int p1), .val (.int p2), .val (.int p3), .val (.int p4), .val (.int p5), .unset, .unset, .unset, .unset] [(.int (7 : Int32)), (.int p1)]))) (fun t ht => XS.bipush X0.here hx rfl (hb hby at_1) ht) ?_
  refine own_step (U' := (s₁.setTop (mkF m 4 #[.val (.int p1), .val (.int p2), .val (.int p3), .val (.int p4), .val (.int p5), .unset, .unset, .unset, .unset] [(.int (p1 &&& (7 : Int32)))]))) (fun t ht => XS.iand X0.here hx rfl (hb hby at_3) rfl ht) ?_
  refine own_step (U' := (s₁.setTop (mkF m 6 #[.val (.int p1), .val (.int p2), .val (.int p3), .val (.int p4), .val (.int p5), .val (.int (p1 &&& (7 : Int32))), .unset, .unset, .unset] []))) (fun t ht => XS.istore X0.here hx rfl (hb hby at_4) rfl (l' := #[.val (.int p1), .val (.int p2), .val (.int p3), .val (.int p4), .val (.int p5), .val (.int (p1 &&& (7 : Int32))), .unset, .unset, .unset]) rfl ht) ?_
  refine own_step (U' := (s₁.setTop (mkF m 8 #[.val (.int p1), .val (.int p2), .val (.int p3), .val (.int p4), .val (.int p5), .val (.int (p1 &&& (7 : Int32))), .unset, .unset, .unset] [(.int (p1 &&& (7 : Int32)))]))) (fun t ht => XS.iload X0.here hx rfl (hb hby at_6) rfl ht) ?_
  by_cases hc8_32 : (p1 &&& (7 : Int32)) = 0
  ·
    refine own_step (U' := (s₁.setTop (mkF m 11 #[.val (.int p1), .val (.int p2), .val (.int p3), .val (.int p4), .val (.int p5), .val (.int (p1 &&& (7 : Int32))), .unset, .unset, .unset] []))) (fun t ht => XS.ifNo X0.here hx rfl (hb hby at_8) rfl (XT.i0_ne_f hc8_32) ht) ?_
    refine own_step (U' := (s₁.setTop (mkF m 13 #[.val (.int p1), .val (.int p2), .val (.int p3), .val (.int p4), .val (.int p5), .val (.int (p1 &&& (7 : Int32))), .unset, .unset, .unset] [(.int (-6 : Int32))]))) (fun t ht => XS.bipush X0.here hx rfl (hb hby at_11) ht) ?_
    refine own_step (U' := (s₁.setTop (mkF m 15 #[.val (.int p1), .val (.int p2), .val (.int p3), .val (.int p4), .val (.int p5), .val (.int (p1 &&& (7 : Int32))), .val (.int (-6 : Int32)), .unset, .unset] []))) (fun t ht => XS.istore X0.here hx rfl (hb hby at_13) rfl (l' := #[.val (.int p1), .val (.int p2), .val (.int p3), .val (.int p4), .val (.int p5), .val (.int (p1 &&& (7 : Int32))), .val (.int (-6 : Int32)), .unset, .unset]) rfl ht) ?_
    refine own_step (U' := (s₁.setTop (mkF m 58 #[.val (.int p1), .val (.int p2), .val (.int p3), .val (.int p4), .val (.int p5), .val (.int (p1 &&& (7 : Int32))), .val (.int (-6 : Int32)), .unset, .unset] []))) (fun t ht => XS.goto X0.here hx rfl (pc0 := 15) (pc' := 58) rfl (hb hby at_15) (by decide) (by decide) ht) ?_
    exact tail58 ((p1 &&& (7 : Int32))) ((-6 : Int32)) 
  ·
    refine own_step (U' := (s₁.setTop (mkF m 18 #[.val (.int p1), .val (.int p2), .val (.int p3), .val (.int p4), .val (.int p5), .val (.int (p1 &&& (7 : Int32))), .unset, .unset, .unset] []))) (fun t ht => XS.ifYes X0.here hx rfl (pc0 := 8) (pc' := 18) rfl (hb hby at_8) rfl (XT.i0_ne_t hc8_32) (by decide) (by decide) ht) ?_
    refine own_step (U' := (s₁.setTop (mkF m 20 #[.val (.int p1), .val (.int p2), .val (.int p3), .val (.int p4), .val (.int p5), .val (.int (p1 &&& (7 : Int32))), .unset, .unset, .unset] [(.int (p1 &&& (7 : Int32)))]))) (fun t ht => XS.iload X0.here hx rfl (hb hby at_18) rfl ht) ?_
    refine own_step (U' := (s₁.setTop (mkF m 21 #[.val (.int p1), .val (.int p2), .val (.int p3), .val (.int p4), .val (.int p5), .val (.int (p1 &&& (7 : Int32))), .unset, .unset, .unset] [(.int (1 : Int32)), (.int (p1 &&& (7 : Int32)))]))) (fun t ht => XS.iconst X0.here hx rfl (hb hby at_20) ht) ?_
    by_cases hc21_33 : (p1 &&& (7 : Int32)) = (1 : Int32)
    ·
      refine own_step (U' := (s₁.setTop (mkF m 24 #[.val (.int p1), .val (.int p2), .val (.int p3), .val (.int p4), .val (.int p5), .val (.int (p1 &&& (7 : Int32))), .unset, .unset, .unset] []))) (fun t ht => XS.icmpNo X0.here hx rfl (hb hby at_21) rfl (XT.ii_ne_f hc21_33) ht) ?_
      refine own_step (U' := (s₁.setTop (mkF m 25 #[.val (.int p1), .val (.int p2), .val (.int p3), .val (.int p4), .val (.int p5), .val (.int (p1 &&& (7 : Int32))), .unset, .unset, .unset] [(.int (5 : Int32))]))) (fun t ht => XS.iconst X0.here hx rfl (hb hby at_24) ht) ?_
      refine own_step (U' := (s₁.setTop (mkF m 27 #[.val (.int p1), .val (.int p2), .val (.int p3), .val (.int p4), .val (.int p5), .val (.int (p1 &&& (7 : Int32))), .val (.int (5 : Int32)), .unset, .unset] []))) (fun t ht => XS.istore X0.here hx rfl (hb hby at_25) rfl (l' := #[.val (.int p1), .val (.int p2), .val (.int p3), .val (.int p4), .val (.int p5), .val (.int (p1 &&& (7 : Int32))), .val (.int (5 : Int32)), .unset, .unset]) rfl ht) ?_
      refine own_step (U' := (s₁.setTop (mkF m 58 #[.val (.int p1), .val (.int p2), .val (.int p3), .val (.int p4), .val (.int p5), .val (.int (p1 &&& (7 : Int32))), .val (.int (5 : Int32)), .unset, .unset] []))) (fun t ht => XS.goto X0.here hx rfl (pc0 := 27) (pc' := 58) rfl (hb hby at_27) (by decide) (by decide) ht) ?_
      exact tail58 ((p1 &&& (7 : Int32))) ((5 : Int32)) 
    ·
      refine own_step (U' := (s₁.setTop (mkF m 30 #[.val (.int p1), .val (.int p2), .val (.int p3), .val (.int p4), .val (.int p5), .val (.int (p1 &&& (7 : Int32))), .unset, .unset, .unset] []))) (fun t ht => XS.icmpYes X0.here hx rfl (pc0 := 21) (pc' := 30) rfl (hb hby at_21) rfl (XT.ii_ne_t hc21_33) (by decide) (by decide) ht) ?_
      refine own_step (U' := (s₁.setTop (mkF m 32 #[.val (.int p1), .val (.int p2), .val (.int p3), .val (.int p4), .val (.int p5), .val (.int (p1 &&& (7 : Int32))), .unset, .unset, .unset] [(.int (p1 &&& (7 : Int32)))]))) (fun t ht => XS.iload X0.here hx rfl (hb hby at_30) rfl ht) ?_
      refine own_step (U' := (s₁.setTop (mkF m 33 #[.val (.int p1), .val (.int p2), .val (.int p3), .val (.int p4), .val (.int p5), .val (.int (p1 &&& (7 : Int32))), .unset, .unset, .unset] [(.int (2 : Int32)), (.int (p1 &&& (7 : Int32)))]))) (fun t ht => XS.iconst X0.here hx rfl (hb hby at_32) ht) ?_
      by_cases hc33_34 : (p1 &&& (7 : Int32)) = (2 : Int32)
      ·
        refine own_step (U' := (s₁.setTop (mkF m 36 #[.val (.int p1), .val (.int p2), .val (.int p3), .val (.int p4), .val (.int p5), .val (.int (p1 &&& (7 : Int32))), .unset, .unset, .unset] []))) (fun t ht => XS.icmpNo X0.here hx rfl (hb hby at_33) rfl (XT.ii_ne_f hc33_34) ht) ?_
        refine own_step (U' := (s₁.setTop (mkF m 37 #[.val (.int p1), .val (.int p2), .val (.int p3), .val (.int p4), .val (.int p5), .val (.int (p1 &&& (7 : Int32))), .unset, .unset, .unset] [(.int (4 : Int32))]))) (fun t ht => XS.iconst X0.here hx rfl (hb hby at_36) ht) ?_
        refine own_step (U' := (s₁.setTop (mkF m 39 #[.val (.int p1), .val (.int p2), .val (.int p3), .val (.int p4), .val (.int p5), .val (.int (p1 &&& (7 : Int32))), .val (.int (4 : Int32)), .unset, .unset] []))) (fun t ht => XS.istore X0.here hx rfl (hb hby at_37) rfl (l' := #[.val (.int p1), .val (.int p2), .val (.int p3), .val (.int p4), .val (.int p5), .val (.int (p1 &&& (7 : Int32))), .val (.int (4 : Int32)), .unset, .unset]) rfl ht) ?_
        refine own_step (U' := (s₁.setTop (mkF m 58 #[.val (.int p1), .val (.int p2), .val (.int p3), .val (.int p4), .val (.int p5), .val (.int (p1 &&& (7 : Int32))), .val (.int (4 : Int32)), .unset, .unset] []))) (fun t ht => XS.goto X0.here hx rfl (pc0 := 39) (pc' := 58) rfl (hb hby at_39) (by decide) (by decide) ht) ?_
        exact tail58 ((p1 &&& (7 : Int32))) ((4 : Int32)) 
      ·
        refine own_step (U' := (s₁.setTop (mkF m 42 #[.val (.int p1), .val (.int p2), .val (.int p3), .val (.int p4), .val (.int p5), .val (.int (p1 &&& (7 : Int32))), .unset, .unset, .unset] []))) (fun t ht => XS.icmpYes X0.here hx rfl (pc0 := 33) (pc' := 42) rfl (hb hby at_33) rfl (XT.ii_ne_t hc33_34) (by decide) (by decide) ht) ?_
        refine own_step (U' := (s₁.setTop (mkF m 44 #[.val (.int p1), .val (.int p2), .val (.int p3), .val (.int p4), .val (.int p5), .val (.int (p1 &&& (7 : Int32))), .unset, .unset, .unset] [(.int (p1 &&& (7 : Int32)))]))) (fun t ht => XS.iload X0.here hx rfl (hb hby at_42) rfl ht) ?_
        refine own_step (U' := (s₁.setTop (mkF m 45 #[.val (.int p1), .val (.int p2), .val (.int p3), .val (.int p4), .val (.int p5), .val (.int (p1 &&& (7 : Int32))), .unset, .unset, .unset] [(.int (3 : Int32)), (.int (p1 &&& (7 : Int32)))]))) (fun t ht => XS.iconst X0.here hx rfl (hb hby at_44) ht) ?_
        by_cases hc45_35 : (p1 &&& (7 : Int32)) = (3 : Int32)
        ·
          refine own_step (U' := (s₁.setTop (mkF m 48 #[.val (.int p1), .val (.int p2), .val (.int p3), .val (.int p4), .val (.int p5), .val (.int (p1 &&& (7 : Int32))), .unset, .unset, .unset] []))) (fun t ht => XS.icmpNo X0.here hx rfl (hb hby at_45) rfl (XT.ii_ne_f hc45_35) ht) ?_
          refine own_step (U' := (s₁.setTop (mkF m 50 #[.val (.int p1), .val (.int p2), .val (.int p3), .val (.int p4), .val (.int p5), .val (.int (p1 &&& (7 : Int32))), .unset, .unset, .unset] [(.int (-5 : Int32))]))) (fun t ht => XS.bipush X0.here hx rfl (hb hby at_48) ht) ?_
          refine own_step (U' := (s₁.setTop (mkF m 52 #[.val (.int p1), .val (.int p2), .val (.int p3), .val (.int p4), .val (.int p5), .val (.int (p1 &&& (7 : Int32))), .val (.int (-5 : Int32)), .unset, .unset] []))) (fun t ht => XS.istore X0.here hx rfl (hb hby at_50) rfl (l' := #[.val (.int p1), .val (.int p2), .val (.int p3), .val (.int p4), .val (.int p5), .val (.int (p1 &&& (7 : Int32))), .val (.int (-5 : Int32)), .unset, .unset]) rfl ht) ?_
          refine own_step (U' := (s₁.setTop (mkF m 58 #[.val (.int p1), .val (.int p2), .val (.int p3), .val (.int p4), .val (.int p5), .val (.int (p1 &&& (7 : Int32))), .val (.int (-5 : Int32)), .unset, .unset] []))) (fun t ht => XS.goto X0.here hx rfl (pc0 := 52) (pc' := 58) rfl (hb hby at_52) (by decide) (by decide) ht) ?_
          exact tail58 ((p1 &&& (7 : Int32))) ((-5 : Int32)) 
        ·
          refine own_step (U' := (s₁.setTop (mkF m 55 #[.val (.int p1), .val (.int p2), .val (.int p3), .val (.int p4), .val (.int p5), .val (.int (p1 &&& (7 : Int32))), .unset, .unset, .unset] []))) (fun t ht => XS.icmpYes X0.here hx rfl (pc0 := 45) (pc' := 55) rfl (hb hby at_45) rfl (XT.ii_ne_t hc45_35) (by decide) (by decide) ht) ?_
          refine own_step (U' := (s₁.setTop (mkF m 56 #[.val (.int p1), .val (.int p2), .val (.int p3), .val (.int p4), .val (.int p5), .val (.int (p1 &&& (7 : Int32))), .unset, .unset, .unset] [(.int p2)]))) (fun t ht => XS.iloadN X0.here hx rfl (hb hby at_55) rfl ht) ?_
          refine own_step (U' := (s₁.setTop (mkF m 58 #[.val (.int p1), .val (.int p2), .val (.int p3), .val (.int p4), .val (.int p5), .val (.int (p1 &&& (7 : Int32))), .val (.int p2), .unset, .unset] []))) (fun t ht => XS.istore X0.here hx rfl (hb hby at_56) rfl (l' := #[.val (.int p1), .val (.int p2), .val (.int p3), .val (.int p4), .val (.int p5), .val (.int (p1 &&& (7 : Int32))), .val (.int p2), .unset, .unset]) rfl ht) ?_
          exact tail58 ((p1 &&& (7 : Int32))) (p2) 
set_option maxRecDepth 65536 in
set_option maxHeartbeats 40000000 in
theorem own_comes {Post : Tables → Env → Array Value → State → Outcome → State → Prop} (hpost : ∀ tb e args s v u, (limb_1_1.after args s (.returned v) u = true ∧ limb_1_2.after args s (.returned v) u = true ∧ True) → FrameEnd s (.returned v) u (Jvm.fieldLocs frame_1_writes args s ++ Jvm.arrayLocs frame_1_arrays args s ++ Jvm.staticLocs frame_1_statics s) 16 128 → Post tb e args s (.returned v) u) :
    ArmFor flags0 classFile x code maxLocals ret World_1 tables_1 room_1 Calls_1 rest_1 Pre_1 Post := by
  intro l hfl _ _ p e ha hc hk s m args below hf hA hF happ hP
  obtain ⟨hcalls, hrest, hpre⟩ := hP
  obtain ⟨-, -, -, hnamed, -, -, -, hat⟩ := (Spec.applies_iff hf).mp happ
  obtain ⟨hg, hn⟩ := and_e (Cond.before_iff.mp (show (Jvm.Cond.and given_1 narrow_1).before args s = true from hpre))
  obtain ⟨hcount, q0⟩ := and_e hg
  obtain ⟨a0, q1⟩ := and_e q0
  obtain ⟨a1, q2⟩ := and_e q1
  obtain ⟨a2, q3⟩ := and_e q2
  obtain ⟨a3, q4⟩ := and_e q3
  have a4 := q4
  obtain ⟨w0, w1, w2, w3, w4, rfl⟩ : ∃ w0 w1 w2 w3 w4 : Value, args = #[w0, w1, w2, w3, w4] := by
    have hs : args.size = 5 := by simpa [Cond.value, given_1] using hcount
    obtain ⟨L⟩ := args
    match L, hs with
    | [w0, w1, w2, w3, w4], _ => exact ⟨w0, w1, w2, w3, w4, rfl⟩
  obtain ⟨i0, e0⟩ := is_v a0
  obtain rfl : w0 = (.int i0) := Option.some.inj e0
  obtain ⟨i1, e1⟩ := is_v a1
  obtain rfl : w1 = (.int i1) := Option.some.inj e1
  obtain ⟨i2, e2⟩ := is_v a2
  obtain rfl : w2 = (.int i2) := Option.some.inj e2
  obtain ⟨i3, e3⟩ := is_v a3
  obtain rfl : w3 = (.int i3) := Option.some.inj e3
  obtain ⟨i4, e4⟩ := is_v a4
  obtain rfl : w4 = (.int i4) := Option.some.inj e4
  have hw := fun d (hd : d ∈ tables_1) => atoms_spec (ws := Jvm.Cond.code x code maxLocals ret :: tables_1) hat d (List.mem_cons_of_mem _ hd)
  have hfit : Fit s := fun {y c} hc i hi => by
    obtain ⟨ha, rfl⟩ := Array.getElem?_eq_some_iff.mp hc
    have q := List.all_eq_true.mp ((Array.all_eq_true_iff_forall_mem.mp hF) _ (Array.getElem_mem ha)) i (List.mem_range.mpr hi)
    simpa [Array.getElem?_eq_getElem hi] using q
  obtain ⟨hsets, hown0⟩ := atoms_of _ (rest_1_c_eq ▸ (show rest_1_c.before _ s = true from hrest))
  have n3 := not_v (Cond.before_iff.mp (hsets _ (List.mem_of_getElem? (i := 2) rfl)))
  obtain ⟨cz, ecz⟩ := is_v (Cond.before_iff.mp (hsets _ (List.mem_of_getElem? (i := 1) rfl)))
  have Scz : Sta s s.heap "java/lang/String" "COMPACT_STRINGS" "Z" (.int cz) := Sta.start ecz (Or.inl (hsets _ (List.mem_of_getElem? (i := 0) rfl)))
  have hcz : ¬ cz = 0 := fun q => by rw [eq_i ecz (Term.int_eval 0) (by rw [q])] at n3; cases n3
  obtain ⟨n, o, h1, h2, h3, _, L, rfl, ⟨rfl, N⟩, hq⟩ := own_m_law l s _ hw tables_1 i0 i1 i2 i3 i4 cz s.heap s.heap.size (Nat.le_refl _) Scz hcz p e ha hc hk s m _ below hf ((Spec.applies_iff_loose hf).mp happ).1 ⟨rfl, State.Warmed39.refl s, rfl⟩ trivial
  refine ⟨n, _, h1, h2, h3, hpost _ _ _ _ _ _ ⟨Cond.after_iff.mpr rfl, Cond.after_iff.mpr (eq_i res_at (Term.int_eval (1)) rfl), trivial⟩ ⟨hq.1, hq.2.1, (hq.2.2.sift fun y hy => Or.inr (N y hy)).mono (by decide) (by decide)⟩⟩
theorem main_1_1 : Claimed_1_1 := own_comes fun _ _ _ _ _ _ h hF => ⟨h.1, hF⟩
theorem main_1_2 : Claimed_1_2 := own_comes fun _ _ _ _ _ _ h hF => ⟨h.2.1, hF⟩
end Jvm.Pilot.@@N@@
namespace Jvm.Pilot.@@N@@
open Jvm Jvm.ClassFile Sem Op Lib Jvm.Free Jvm.Stand Jvm.Pilot.@@N@@.Jvm.D
/-! MADE BY PROGRAM (witnessworld.py) out of the Statement's table words and the real class files: 18 classes; the members and pool entries that the words name. The judged class is class 1, her method 2. -/
namespace start1
open Jvm.ClassFile
def u (s : String) : CpInfo := .utf8 (stringToUtf16 s)
/-- a pool by its gaps: so many unusable entries, then the entry; so many at the end -/
def gap : Nat → List CpInfo → List CpInfo
  | 0, r => r
  | n + 1, r => .unusable :: gap n r
def poolList (es : List (Nat × CpInfo)) (last : Nat) : List CpInfo := es.foldr (fun e r => gap e.1 (e.2 :: r)) (gap last [])
def pool (es : List (Nat × CpInfo)) (last : Nat) : Array CpInfo := ⟨poolList es last⟩
def fileOf (pool : Array CpInfo) (this : Nat) (attrs : Array Attribute := #[]) (ms : Array MethodInfo := #[]) (fl : Nat := 33) (sup : Nat := 0) (ifs : Array Nat := #[]) (fds : Array FieldInfo := #[]) : ClassFile where
  minorVersion := 0
  majorVersion := 65
  constantPool := pool
  accessFlags := fl
  thisClass := this
  superClass := sup
  interfaces := ifs
  fields := fds
  methods := ms
  attributes := attrs
def plain (name : String) (sup : Option ClassId) : Class where
  name := name
  kind := .ordinary
  loader := none
  accessFlags := 33
  super := sup
  interfaces := #[]
  cf := none
  fields := #[]
  methods := #[]
  instanceTypes := #[]
  staticTypes := #[]
  resolved := #[]
  callSites := []
  init := .initialized
  statics := none
  mirror := none

def pool0 : Array CpInfo := pool [(5, u "<init>"), (0, u "()V"), (1, .class_ 10), (1, u "java/lang/Object")] 113

def k0c0 : Code := { maxStack := 0, maxLocals := 1, code := object_method_1_code, exceptionTable := #[], attributes := #[] }
def k0m0 : Method := { name := "<init>", desc := "()V", sig := { parameters := [], returnType := none }, accessFlags := 1, code := some k0c0 }
/-- java/lang/Object -/
def k0 : Class := { plain "java/lang/Object" none with
  accessFlags := 33
  interfaces := #[]
  cf := some (fileOf pool0 8 #[] #[{ accessFlags := 1, nameIndex := 5, descriptorIndex := 6, attributes := #[] }] 33 0 #[] #[])
  fields := #[]
  methods := #[k0m0]
  instanceTypes := #[]
  staticTypes := #[]
  resolved := Array.replicate 124 none
  statics := none }

def pool1 : Array CpInfo := pool [(2, .class_ 4), (1, u "java/lang/Object"), (0, u "<init>"), (0, u "()V"), (0, .methodref 8 9), (0, .class_ 10), (0, .nameAndType 11 12), (0, u "java/lang/String"), (0, u "valueOf"), (0, u "(C)Ljava/lang/String;"), (0, .class_ 14), (0, u "com/example/fuxi/fuxi/dialect/DatabaseColumn"), (0, .methodref 13 16), (0, .nameAndType 5 17), (0, u "(ILjava/lang/String;II)V"), (0, .methodref 13 19), (0, .nameAndType 20 21), (0, u "integerBits"), (0, u "()I"), (0, .methodref 23 24), (0, .class_ 25), (0, .nameAndType 26 27), (0, u "com/example/fuxi/fuxi/dialect/DatabaseColumnIntegerBitsPinLaw"), (0, u "expectedBits"), (0, u "(I)I"), (3, u "law"), (0, u "(IIIII)Z")] 2

def k1m0 : Method := { name := "<init>", desc := "()V", sig := { parameters := [], returnType := none }, accessFlags := 1, code := none }
def k1c1 : Code := { maxStack := 2, maxLocals := 1, code := method_2_code, exceptionTable := #[], attributes := #[] }
def k1m1 : Method := { name := "expectedBits", desc := "(I)I", sig := { parameters := [.int], returnType := some .int }, accessFlags := 10, code := some k1c1 }
def k1c2 : Code := { maxStack := 6, maxLocals := 9, code := code, exceptionTable := #[], attributes := #[] }
def k1m2 : Method := { name := "law", desc := "(IIIII)Z", sig := { parameters := [.int, .int, .int, .int, .int], returnType := some .boolean }, accessFlags := 9, code := some k1c2 }
/-- com/example/fuxi/fuxi/dialect/DatabaseColumnIntegerBitsPinLaw -/
def k1 : Class := { plain "com/example/fuxi/fuxi/dialect/DatabaseColumnIntegerBitsPinLaw" (some 0) with
  accessFlags := 49
  interfaces := #[]
  cf := some (fileOf pool1 23 #[] #[{ accessFlags := 1, nameIndex := 5, descriptorIndex := 6, attributes := #[] }, { accessFlags := 10, nameIndex := 26, descriptorIndex := 27, attributes := #[] }, { accessFlags := 9, nameIndex := 31, descriptorIndex := 32, attributes := #[] }] 49 2 #[] #[])
  fields := #[]
  methods := #[k1m0, k1m1, k1m2]
  instanceTypes := #[]
  staticTypes := #[]
  resolved := Array.replicate 35 none
  statics := none }

def pool2 : Array CpInfo := pool [(1, .class_ 2), (0, u "java/io/Serializable"), (0, .class_ 4), (0, u "java/lang/Object")] 2

/-- java/io/Serializable -/
def k2 : Class := { plain "java/io/Serializable" (some 0) with
  accessFlags := 1537
  interfaces := #[]
  cf := some (fileOf pool2 1 #[] #[] 1537 3 #[] #[])
  fields := #[]
  methods := #[]
  instanceTypes := #[]
  staticTypes := #[]
  resolved := Array.replicate 7 none
  statics := none }

def pool3 : Array CpInfo := pool [(1, .class_ 2), (0, u "java/lang/Comparable"), (0, .class_ 4), (0, u "java/lang/Object")] 7

/-- java/lang/Comparable -/
def k3 : Class := { plain "java/lang/Comparable" (some 0) with
  accessFlags := 1537
  interfaces := #[]
  cf := some (fileOf pool3 1 #[] #[] 1537 3 #[] #[])
  fields := #[]
  methods := #[]
  instanceTypes := #[]
  staticTypes := #[]
  resolved := Array.replicate 12 none
  statics := none }

def pool4 : Array CpInfo := pool [(2, .class_ 4), (1, u "java/lang/CharSequence"), (42, .class_ 48), (0, u "java/lang/CharSequence$1CodePointIterator"), (10, .class_ 60), (0, u "java/lang/CharSequence$1CharIterator"), (5, .class_ 67), (0, u "java/lang/Object")] 63

/-- java/lang/CharSequence -/
def k4 : Class := { plain "java/lang/CharSequence" (some 0) with
  accessFlags := 1537
  interfaces := #[]
  cf := some (fileOf pool4 2 #[.nestMembers #[47, 59]] #[] 1537 66 #[] #[])
  fields := #[]
  methods := #[]
  instanceTypes := #[]
  staticTypes := #[]
  resolved := Array.replicate 131 none
  statics := none }

def pool5 : Array CpInfo := pool [(1, .class_ 2), (0, u "java/lang/constant/Constable"), (0, .class_ 4), (0, u "java/lang/Object")] 6

/-- java/lang/constant/Constable -/
def k5 : Class := { plain "java/lang/constant/Constable" (some 0) with
  accessFlags := 1537
  interfaces := #[]
  cf := some (fileOf pool5 1 #[] #[] 1537 3 #[] #[])
  fields := #[]
  methods := #[]
  instanceTypes := #[]
  staticTypes := #[]
  resolved := Array.replicate 11 none
  statics := none }

def pool6 : Array CpInfo := pool [(1, .class_ 2), (0, u "java/lang/constant/ConstantDesc"), (0, .class_ 4), (0, u "java/lang/Object")] 32

/-- java/lang/constant/ConstantDesc -/
def k6 : Class := { plain "java/lang/constant/ConstantDesc" (some 0) with
  accessFlags := 1537
  interfaces := #[]
  cf := some (fileOf pool6 1 #[] #[] 1537 3 #[] #[])
  fields := #[]
  methods := #[]
  instanceTypes := #[]
  staticTypes := #[]
  resolved := Array.replicate 37 none
  statics := none }

def pool7 : Array CpInfo := pool [(1, .methodref 2 3), (0, .class_ 4), (0, .nameAndType 5 6), (0, u "java/lang/Object"), (0, u "<init>"), (0, u "()V"), (2, .fieldref 10 11), (0, .class_ 12), (0, .nameAndType 13 14), (0, u "java/lang/String"), (0, u "value"), (0, u "[B"), (0, .fieldref 10 16), (0, .nameAndType 17 18), (0, u "coder"), (0, u "B"), (2, u "hash"), (0, u "I"), (2, u "hashIsZero"), (0, u "Z"), (11, .fieldref 10 39), (0, .nameAndType 40 26), (0, u "COMPACT_STRINGS"), (12, u "toBytes"), (53, .class_ 109), (1, u "java/lang/StringLatin1"), (99, .methodref 10 210), (0, .nameAndType 5 211), (0, u "([BB)V"), (157, u "(C)Z"), (205, .class_ 576), (0, u "java/lang/CharSequence"), (22, u "CASE_INSENSITIVE_ORDER"), (0, u "Ljava/util/Comparator;"), (181, u "valueOf"), (0, u "(C)Ljava/lang/String;"), (231, .methodref 107 1016), (0, .nameAndType 1017 369), (0, u "canEncode"), (0, .methodref 107 1019), (0, .nameAndType 53 1020), (0, u "(C)[B"), (80, u "serialPersistentFields"), (0, u "[Ljava/io/ObjectStreamField;"), (0, .class_ 1104), (0, u "java/lang/String$CaseInsensitiveComparator"), (1, .class_ 1107), (0, u "java/io/Serializable"), (0, .class_ 1109), (0, u "java/lang/Comparable"), (0, .class_ 1111), (0, u "java/lang/constant/Constable"), (0, .class_ 1113), (0, u "java/lang/constant/ConstantDesc"), (2, u "serialVersionUID"), (0, u "J"), (3, u "REPL"), (0, u "C"), (2, u "LATIN1"), (1, u "UTF16")] 323

def k7m0 : Method := { name := "<init>", desc := "()V", sig := { parameters := [], returnType := none }, accessFlags := 1, code := none }
def k7c1 : Code := { maxStack := 4, maxLocals := 1, code := jdk_42_method_139_code, exceptionTable := #[], attributes := #[] }
def k7m1 : Method := { name := "valueOf", desc := "(C)Ljava/lang/String;", sig := { parameters := [.char], returnType := some (.object "java/lang/String") }, accessFlags := 9, code := some k7c1 }
def k7c2 : Code := { maxStack := 2, maxLocals := 3, code := jdk_42_method_151_code, exceptionTable := #[], attributes := #[] }
def k7m2 : Method := { name := "<init>", desc := "([BB)V", sig := { parameters := [(.array .byte), .byte], returnType := none }, accessFlags := 0, code := some k7c2 }
/-- java/lang/String -/
def k7 : Class := { plain "java/lang/String" (some 0) with
  accessFlags := 49
  interfaces := #[2, 3, 4, 5, 6]
  cf := some (fileOf pool7 10 #[.nestMembers #[1103]] #[{ accessFlags := 1, nameIndex := 5, descriptorIndex := 6, attributes := #[] }, { accessFlags := 9, nameIndex := 782, descriptorIndex := 783, attributes := #[] }, { accessFlags := 0, nameIndex := 5, descriptorIndex := 211, attributes := #[] }] 49 2 #[1106, 1108, 575, 1110, 1112] #[{ accessFlags := 18, nameIndex := 13, descriptorIndex := 14, attributes := #[] }, { accessFlags := 18, nameIndex := 17, descriptorIndex := 18, attributes := #[] }, { accessFlags := 2, nameIndex := 21, descriptorIndex := 22, attributes := #[] }, { accessFlags := 2, nameIndex := 25, descriptorIndex := 26, attributes := #[] }, { accessFlags := 26, nameIndex := 1116, descriptorIndex := 1117, attributes := #[] }, { accessFlags := 24, nameIndex := 40, descriptorIndex := 26, attributes := #[] }, { accessFlags := 26, nameIndex := 1101, descriptorIndex := 1102, attributes := #[] }, { accessFlags := 26, nameIndex := 1121, descriptorIndex := 1122, attributes := #[] }, { accessFlags := 25, nameIndex := 599, descriptorIndex := 600, attributes := #[] }, { accessFlags := 24, nameIndex := 1125, descriptorIndex := 18, attributes := #[] }, { accessFlags := 24, nameIndex := 1127, descriptorIndex := 18, attributes := #[] }])
  fields := #[{ name := "value", type := (.array .byte), accessFlags := 18, slot := 0, constantValue := 0 }, { name := "coder", type := .byte, accessFlags := 18, slot := 1, constantValue := 0 }, { name := "hash", type := .int, accessFlags := 2, slot := 2, constantValue := 0 }, { name := "hashIsZero", type := .boolean, accessFlags := 2, slot := 3, constantValue := 0 }, { name := "serialVersionUID", type := .long, accessFlags := 26, slot := 0, constantValue := 0 }, { name := "COMPACT_STRINGS", type := .boolean, accessFlags := 24, slot := 1, constantValue := 0 }, { name := "serialPersistentFields", type := (.array (.object "java/io/ObjectStreamField")), accessFlags := 26, slot := 2, constantValue := 0 }, { name := "REPL", type := .char, accessFlags := 26, slot := 3, constantValue := 0 }, { name := "CASE_INSENSITIVE_ORDER", type := (.object "java/util/Comparator"), accessFlags := 25, slot := 4, constantValue := 0 }, { name := "LATIN1", type := .byte, accessFlags := 24, slot := 5, constantValue := 0 }, { name := "UTF16", type := .byte, accessFlags := 24, slot := 6, constantValue := 0 }]
  methods := #[k7m0, k7m1, k7m2]
  instanceTypes := #[(.array .byte), .byte, .int, .boolean]
  staticTypes := #[.long, .boolean, (.array (.object "java/io/ObjectStreamField")), .char, (.object "java/util/Comparator"), .byte, .byte]
  resolved := Array.replicate 1451 none
  statics := some 0 }

def pool8 : Array CpInfo := pool [(4, .class_ 6), (1, u "java/lang/Object"), (0, u "<init>"), (0, u "()V"), (5, .class_ 16), (1, u "java/lang/StringLatin1"), (73, u "canEncode"), (14, u "(C)Z"), (15, u "$assertionsDisabled"), (0, u "Z"), (98, .class_ 223), (1, u "java/lang/StringLatin1$LinesSpliterator"), (156, u "toBytes"), (1, u "(C)[B"), (7, .class_ 391), (0, u "java/lang/StringLatin1$CharsSpliterator")] 3

def k8m0 : Method := { name := "<init>", desc := "()V", sig := { parameters := [], returnType := none }, accessFlags := 0, code := none }
def k8c1 : Code := { maxStack := 2, maxLocals := 1, code := jdk_43_method_3_code, exceptionTable := #[], attributes := #[] }
def k8m1 : Method := { name := "canEncode", desc := "(C)Z", sig := { parameters := [.char], returnType := some .boolean }, accessFlags := 9, code := some k8c1 }
def k8c2 : Code := { maxStack := 4, maxLocals := 1, code := jdk_43_method_46_code, exceptionTable := #[], attributes := #[] }
def k8m2 : Method := { name := "toBytes", desc := "(C)[B", sig := { parameters := [.char], returnType := some (.array .byte) }, accessFlags := 9, code := some k8c2 }
/-- java/lang/StringLatin1 -/
def k8 : Class := { plain "java/lang/StringLatin1" (some 0) with
  accessFlags := 48
  interfaces := #[]
  cf := some (fileOf pool8 14 #[.nestMembers #[390, 221]] #[{ accessFlags := 0, nameIndex := 7, descriptorIndex := 8, attributes := #[] }, { accessFlags := 9, nameIndex := 90, descriptorIndex := 105, attributes := #[] }, { accessFlags := 9, nameIndex := 380, descriptorIndex := 382, attributes := #[] }] 48 4 #[] #[{ accessFlags := 4120, nameIndex := 121, descriptorIndex := 122, attributes := #[] }])
  fields := #[{ name := "$assertionsDisabled", type := .boolean, accessFlags := 4120, slot := 0, constantValue := 0 }]
  methods := #[k8m0, k8m1, k8m2]
  instanceTypes := #[]
  staticTypes := #[.boolean]
  resolved := Array.replicate 395 none
  statics := none }

def pool9 : Array CpInfo := pool [(1, .methodref 2 3), (0, .class_ 4), (0, .nameAndType 5 6), (0, u "java/lang/Object"), (0, u "<init>"), (0, u "()V"), (0, .class_ 8), (0, u "java/lang/Record")] 13

def k9c0 : Code := { maxStack := 1, maxLocals := 1, code := jdk_30_method_1_code, exceptionTable := #[], attributes := #[] }
def k9m0 : Method := { name := "<init>", desc := "()V", sig := { parameters := [], returnType := none }, accessFlags := 4, code := some k9c0 }
/-- java/lang/Record -/
def k9 : Class := { plain "java/lang/Record" (some 0) with
  accessFlags := 1057
  interfaces := #[]
  cf := some (fileOf pool9 7 #[] #[{ accessFlags := 4, nameIndex := 5, descriptorIndex := 6, attributes := #[] }] 1057 2 #[] #[])
  fields := #[]
  methods := #[k9m0]
  instanceTypes := #[]
  staticTypes := #[]
  resolved := Array.replicate 22 none
  statics := none }

def pool10 : Array CpInfo := pool [(1, .methodref 2 3), (0, .class_ 4), (0, .nameAndType 5 6), (0, u "java/lang/Record"), (0, u "<init>"), (0, u "()V"), (0, .fieldref 8 9), (0, .class_ 10), (0, .nameAndType 11 12), (0, u "com/example/fuxi/fuxi/dialect/DatabaseColumn"), (0, u "sqlType"), (0, u "I"), (0, .fieldref 8 14), (0, .nameAndType 15 16), (0, u "typeName"), (0, u "Ljava/lang/String;"), (0, .fieldref 8 18), (0, .nameAndType 19 12), (0, u "size"), (0, .fieldref 8 21), (0, .nameAndType 22 12), (0, u "scale"), (31, u "(ILjava/lang/String;II)V"), (5, u "integerBits"), (0, u "()I")] 41

def k10c0 : Code := { maxStack := 2, maxLocals := 5, code := prog_3_method_1_code, exceptionTable := #[], attributes := #[] }
def k10m0 : Method := { name := "<init>", desc := "(ILjava/lang/String;II)V", sig := { parameters := [.int, (.object "java/lang/String"), .int, .int], returnType := none }, accessFlags := 1, code := some k10c0 }
def k10c1 : Code := { maxStack := 1, maxLocals := 1, code := prog_3_method_6_code, exceptionTable := #[], attributes := #[] }
def k10m1 : Method := { name := "integerBits", desc := "()I", sig := { parameters := [], returnType := some .int }, accessFlags := 1, code := some k10c1 }
/-- com/example/fuxi/fuxi/dialect/DatabaseColumn -/
def k10 : Class := { plain "com/example/fuxi/fuxi/dialect/DatabaseColumn" (some 9) with
  accessFlags := 49
  interfaces := #[]
  cf := some (fileOf pool10 8 #[] #[{ accessFlags := 1, nameIndex := 5, descriptorIndex := 54, attributes := #[] }, { accessFlags := 1, nameIndex := 60, descriptorIndex := 61, attributes := #[] }] 49 2 #[] #[{ accessFlags := 18, nameIndex := 11, descriptorIndex := 12, attributes := #[] }, { accessFlags := 18, nameIndex := 15, descriptorIndex := 16, attributes := #[] }, { accessFlags := 18, nameIndex := 19, descriptorIndex := 12, attributes := #[] }, { accessFlags := 18, nameIndex := 22, descriptorIndex := 12, attributes := #[] }])
  fields := #[{ name := "sqlType", type := .int, accessFlags := 18, slot := 0, constantValue := 0 }, { name := "typeName", type := (.object "java/lang/String"), accessFlags := 18, slot := 1, constantValue := 0 }, { name := "size", type := .int, accessFlags := 18, slot := 2, constantValue := 0 }, { name := "scale", type := .int, accessFlags := 18, slot := 3, constantValue := 0 }]
  methods := #[k10m0, k10m1]
  instanceTypes := #[.int, (.object "java/lang/String"), .int, .int]
  staticTypes := #[]
  resolved := Array.replicate 103 none
  statics := none }

def pool11 : Array CpInfo := pool [(2, .class_ 4), (1, u "java/lang/Object"), (0, u "<init>"), (0, u "()V"), (17, .class_ 26), (1, u "jdk/internal/util/Preconditions"), (28, .class_ 56), (0, u "jdk/internal/util/Preconditions$4"), (57, .class_ 115), (0, u "jdk/internal/util/Preconditions$1"), (7, u "SIOOBE_FORMATTER"), (0, u "Ljava/util/function/BiFunction;"), (0, .class_ 126), (0, u "jdk/internal/util/Preconditions$2"), (3, u "AIOOBE_FORMATTER"), (0, .class_ 132), (0, u "jdk/internal/util/Preconditions$3"), (3, u "IOOBE_FORMATTER")] 57

def k11m0 : Method := { name := "<init>", desc := "()V", sig := { parameters := [], returnType := none }, accessFlags := 1, code := none }
/-- jdk/internal/util/Preconditions -/
def k11 : Class := { plain "jdk/internal/util/Preconditions" (some 0) with
  accessFlags := 33
  interfaces := #[]
  cf := some (fileOf pool11 24 #[.nestMembers #[55, 131, 125, 114]] #[{ accessFlags := 1, nameIndex := 5, descriptorIndex := 6, attributes := #[] }] 33 2 #[] #[{ accessFlags := 25, nameIndex := 123, descriptorIndex := 124, attributes := #[] }, { accessFlags := 25, nameIndex := 130, descriptorIndex := 124, attributes := #[] }, { accessFlags := 25, nameIndex := 136, descriptorIndex := 124, attributes := #[] }])
  fields := #[{ name := "SIOOBE_FORMATTER", type := (.object "java/util/function/BiFunction"), accessFlags := 25, slot := 0, constantValue := 0 }, { name := "AIOOBE_FORMATTER", type := (.object "java/util/function/BiFunction"), accessFlags := 25, slot := 1, constantValue := 0 }, { name := "IOOBE_FORMATTER", type := (.object "java/util/function/BiFunction"), accessFlags := 25, slot := 2, constantValue := 0 }]
  methods := #[k11m0]
  instanceTypes := #[]
  staticTypes := #[(.object "java/util/function/BiFunction"), (.object "java/util/function/BiFunction"), (.object "java/util/function/BiFunction")]
  resolved := Array.replicate 194 none
  statics := some 1 }

def pool12 : Array CpInfo := pool [(9, u "<init>"), (6, .class_ 18), (1, u "java/lang/Object"), (0, u "()V"), (1, .class_ 23), (1, u "jdk/internal/util/ArraysSupport"), (0, u "LOG2_ARRAY_LONG_INDEX_SCALE"), (0, u "I"), (2, u "U"), (0, u "Ljdk/internal/misc/Unsafe;"), (8, u "BIG_ENDIAN"), (0, u "Z"), (8, u "LOG2_BYTE_BIT_SIZE"), (4, u "LOG2_ARRAY_INT_INDEX_SCALE"), (54, u "JLA"), (0, u "Ljdk/internal/access/JavaLangAccess;"), (11, u "LOG2_ARRAY_BOOLEAN_INDEX_SCALE"), (9, u "LOG2_ARRAY_BYTE_INDEX_SCALE"), (5, u "LOG2_ARRAY_CHAR_INDEX_SCALE"), (5, u "LOG2_ARRAY_SHORT_INDEX_SCALE"), (18, u "LOG2_ARRAY_FLOAT_INDEX_SCALE"), (24, u "LOG2_ARRAY_DOUBLE_INDEX_SCALE"), (89, u "T_BOOLEAN"), (2, u "T_CHAR"), (1, u "T_FLOAT"), (1, u "T_DOUBLE"), (1, u "T_BYTE"), (1, u "T_SHORT"), (1, u "T_INT"), (1, u "T_LONG"), (1, u "SOFT_MAX_ARRAY_LENGTH")] 83

def k12m0 : Method := { name := "<init>", desc := "()V", sig := { parameters := [], returnType := none }, accessFlags := 2, code := none }
/-- jdk/internal/util/ArraysSupport -/
def k12 : Class := { plain "jdk/internal/util/ArraysSupport" (some 0) with
  accessFlags := 33
  interfaces := #[]
  cf := some (fileOf pool12 21 #[] #[{ accessFlags := 2, nameIndex := 9, descriptorIndex := 19, attributes := #[] }] 33 16 #[] #[{ accessFlags := 24, nameIndex := 28, descriptorIndex := 29, attributes := #[] }, { accessFlags := 26, nameIndex := 38, descriptorIndex := 39, attributes := #[] }, { accessFlags := 25, nameIndex := 121, descriptorIndex := 25, attributes := #[] }, { accessFlags := 25, nameIndex := 131, descriptorIndex := 25, attributes := #[] }, { accessFlags := 25, nameIndex := 137, descriptorIndex := 25, attributes := #[] }, { accessFlags := 25, nameIndex := 143, descriptorIndex := 25, attributes := #[] }, { accessFlags := 25, nameIndex := 53, descriptorIndex := 25, attributes := #[] }, { accessFlags := 25, nameIndex := 24, descriptorIndex := 25, attributes := #[] }, { accessFlags := 25, nameIndex := 162, descriptorIndex := 25, attributes := #[] }, { accessFlags := 25, nameIndex := 187, descriptorIndex := 25, attributes := #[] }, { accessFlags := 26, nameIndex := 48, descriptorIndex := 25, attributes := #[] }, { accessFlags := 25, nameIndex := 277, descriptorIndex := 25, attributes := #[] }, { accessFlags := 25, nameIndex := 280, descriptorIndex := 25, attributes := #[] }, { accessFlags := 25, nameIndex := 282, descriptorIndex := 25, attributes := #[] }, { accessFlags := 25, nameIndex := 284, descriptorIndex := 25, attributes := #[] }, { accessFlags := 25, nameIndex := 286, descriptorIndex := 25, attributes := #[] }, { accessFlags := 25, nameIndex := 288, descriptorIndex := 25, attributes := #[] }, { accessFlags := 25, nameIndex := 290, descriptorIndex := 25, attributes := #[] }, { accessFlags := 25, nameIndex := 292, descriptorIndex := 25, attributes := #[] }, { accessFlags := 26, nameIndex := 108, descriptorIndex := 109, attributes := #[] }, { accessFlags := 25, nameIndex := 294, descriptorIndex := 25, attributes := #[] }])
  fields := #[{ name := "U", type := (.object "jdk/internal/misc/Unsafe"), accessFlags := 24, slot := 0, constantValue := 0 }, { name := "BIG_ENDIAN", type := .boolean, accessFlags := 26, slot := 1, constantValue := 0 }, { name := "LOG2_ARRAY_BOOLEAN_INDEX_SCALE", type := .int, accessFlags := 25, slot := 2, constantValue := 0 }, { name := "LOG2_ARRAY_BYTE_INDEX_SCALE", type := .int, accessFlags := 25, slot := 3, constantValue := 0 }, { name := "LOG2_ARRAY_CHAR_INDEX_SCALE", type := .int, accessFlags := 25, slot := 4, constantValue := 0 }, { name := "LOG2_ARRAY_SHORT_INDEX_SCALE", type := .int, accessFlags := 25, slot := 5, constantValue := 0 }, { name := "LOG2_ARRAY_INT_INDEX_SCALE", type := .int, accessFlags := 25, slot := 6, constantValue := 0 }, { name := "LOG2_ARRAY_LONG_INDEX_SCALE", type := .int, accessFlags := 25, slot := 7, constantValue := 0 }, { name := "LOG2_ARRAY_FLOAT_INDEX_SCALE", type := .int, accessFlags := 25, slot := 8, constantValue := 0 }, { name := "LOG2_ARRAY_DOUBLE_INDEX_SCALE", type := .int, accessFlags := 25, slot := 9, constantValue := 0 }, { name := "LOG2_BYTE_BIT_SIZE", type := .int, accessFlags := 26, slot := 10, constantValue := 0 }, { name := "T_BOOLEAN", type := .int, accessFlags := 25, slot := 11, constantValue := 0 }, { name := "T_CHAR", type := .int, accessFlags := 25, slot := 12, constantValue := 0 }, { name := "T_FLOAT", type := .int, accessFlags := 25, slot := 13, constantValue := 0 }, { name := "T_DOUBLE", type := .int, accessFlags := 25, slot := 14, constantValue := 0 }, { name := "T_BYTE", type := .int, accessFlags := 25, slot := 15, constantValue := 0 }, { name := "T_SHORT", type := .int, accessFlags := 25, slot := 16, constantValue := 0 }, { name := "T_INT", type := .int, accessFlags := 25, slot := 17, constantValue := 0 }, { name := "T_LONG", type := .int, accessFlags := 25, slot := 18, constantValue := 0 }, { name := "JLA", type := (.object "jdk/internal/access/JavaLangAccess"), accessFlags := 26, slot := 19, constantValue := 0 }, { name := "SOFT_MAX_ARRAY_LENGTH", type := .int, accessFlags := 25, slot := 20, constantValue := 0 }]
  methods := #[k12m0]
  instanceTypes := #[]
  staticTypes := #[(.object "jdk/internal/misc/Unsafe"), .boolean, .int, .int, .int, .int, .int, .int, .int, .int, .int, .int, .int, .int, .int, .int, .int, .int, .int, (.object "jdk/internal/access/JavaLangAccess"), .int]
  resolved := Array.replicate 378 none
  statics := none }

def pool13 : Array CpInfo := pool [(1, u "java/lang/Cloneable"), (0, .class_ 1), (0, u "java/lang/Object"), (0, .class_ 3)] 3

/-- java/lang/Cloneable -/
def k13 : Class := { plain "java/lang/Cloneable" (some 0) with
  accessFlags := 1537
  interfaces := #[]
  cf := some (fileOf pool13 2 #[] #[] 1537 4 #[] #[])
  fields := #[]
  methods := #[]
  instanceTypes := #[]
  staticTypes := #[]
  resolved := Array.replicate 8 none
  statics := none }

/-- the primitive byte -/
def k14 : Class := { plain "byte" none with kind := .primitive 'B', accessFlags := 0x411 }
/-- [B -/
def k15 : Class := { plain "[B" (some 0) with kind := .array 14 .byte, interfaces := #[13, 2], accessFlags := 1041 }

/-- the primitive int -/
def k16 : Class := { plain "int" none with kind := .primitive 'I', accessFlags := 0x411 }
/-- [I -/
def k17 : Class := { plain "[I" (some 0) with kind := .array 16 .int, interfaces := #[13, 2], accessFlags := 1041 }

def heap : Heap := #[{ cls := 7, slots := #[.long 0, .int 1, .null, .int 0, .null, .int 0, .int 0], vm := .statics 7 },
  { cls := 11, slots := #[.null, .null, .null], vm := .statics 11 }]
def classes : Array Class := #[k0, k1, k2, k3, k4, k5, k6, k7, k8, k9, k10, k11, k12, k13, k14, k15, k16, k17]
def interned : List (Array UInt16 × Addr) := []
def slotsUsed : Nat := 10
def theMethod : MethodId := ⟨1, 2⟩
def args0 : Array Value := #[.int 5, .int 7, .int 8, .int 9, .int 65]
def aboutOver (below : List Frame) : State where
  vm := { classes := classes, interned := interned.toArray }
  heap := heap
  slotsUsed := slotsUsed
  threads := #[{ frames := .invoking theMethod args0 :: below }]
def below0 : List Frame := [.native { method := ⟨0, 0⟩, args := #[] }]
def about1 : State := aboutOver below0
def p0 : Program := .bare "" "" ""
def e0 : Env := launch0.env 0 0 0
theorem w_frames : about1.frames = Frame.invoking theMethod args0 :: below0 := rfl
set_option maxRecDepth 65536 in
theorem w_args : argsFit about1.vm theMethod args0 = true := by decide +kernel
set_option maxRecDepth 65536 in
theorem w_heap : heapFits about1 = true := by decide +kernel
set_option maxRecDepth 65536 in
theorem w_runnable : about1.curStatus? = some .runnable := by decide +kernel
set_option maxRecDepth 65536 in
theorem w_alone : about1.alone = true := by decide +kernel
set_option maxRecDepth 65536 in
theorem w_named : about1.methodNamed? x = some theMethod := by decide +kernel
set_option maxRecDepth 65536 in
theorem w_hears : about1.hears theMethod below0 = true := by decide +kernel
set_option maxRecDepth 65536 in
theorem w_ripe : about1.ripe theMethod args0 below0 = true := by decide +kernel
theorem w_running : about1.status = .running := rfl
set_option maxRecDepth 65536 in
theorem w_room : about1.hasRoom e0.platform room_1 = true :=
  launch0.hasRoom_least _ room_1 (by decide +kernel) (by decide +kernel) (by decide +kernel) (by decide +kernel) (by decide +kernel) (by decide +kernel)
theorem allAtoms_all (ts : List Jvm.Cond) (a : Array Jvm.Value) (st : Jvm.State) : (allAtoms ts).before a st = ts.all (fun c => c.before a st) := by
  induction ts with
  | nil => rfl
  | cons c t ih =>
    show (Jvm.Cond.and c (allAtoms t)).before a st = _
    rw [Jvm.Cond.before_and, ih, List.all_cons]
def words1 : List Jvm.Cond := Jvm.Cond.code x code maxLocals ret :: tables_1
/-- a 'code' word, met by the world's own term for the bytes: nothing is compared byte by byte -/
theorem code_word {y : MethodName} {bytes : ByteArray} {mx : Nat} {rt : Option FieldType} {a : Array Value} {s : State} {m : MethodId} {meth : Method} {c : Code} (h1 : s.methodNamed? y = some m) (h2 : s.vm.method? m = some meth) (h3 : meth.code = some c) (h4 : c.code = bytes)
    (h5 : (c.maxLocals == mx && c.exceptionTable.isEmpty && decide (c.maxStack ≤ mostOperands) && decide (meth.sig.returnType = rt) && !meth.locks && decide (parseMethodDescriptor y.desc = some meth.sig)) = true) : (Jvm.Cond.code y bytes mx rt).before a s = true := by
  simp only [Bool.and_eq_true, beq_iff_eq, Bool.not_eq_true', decide_eq_true_eq] at h5
  obtain ⟨⟨⟨⟨⟨g1, g2⟩, g3⟩, g4⟩, g5⟩, g6⟩ := h5
  simp [Cond.before, Cond.holds, Cond.value, h1, h2, h3, h4, g1, g2, g3, g4, g5, g6]
def isCode : Jvm.Cond → Bool
  | .code _ _ _ _ => true
  | _ => false
theorem all_split {L : List Jvm.Cond} {P : Jvm.Cond → Bool} (h1 : L.all (fun c => isCode c || P c) = true) (h2 : ∀ c ∈ L.filter isCode, P c = true) : L.all P = true := by
  refine List.all_eq_true.mpr fun c hc => ?_
  have h := List.all_eq_true.mp h1 c hc
  rcases Bool.eq_false_or_eq_true (isCode c) with hi | hi
  · exact h2 c (List.mem_filter.mpr ⟨hc, hi⟩)
  · simpa [hi] using h
set_option maxRecDepth 65536 in
theorem w_c0 : (Jvm.Cond.code x code maxLocals ret).before args0 about1 = true := code_word (m := ⟨1, 2⟩) (meth := k1m2) (c := k1c2) (by decide +kernel) rfl rfl rfl (by decide +kernel)
set_option maxRecDepth 65536 in
theorem w_c1 : (Jvm.Cond.code ({ cls := "java/lang/String", name := "valueOf", desc := "(C)Ljava/lang/String;" } : Jvm.MethodName) jdk_42_method_139_code (1 : Nat) (Option.some (Jvm.ClassFile.FieldType.object "java/lang/String"))).before args0 about1 = true := code_word (m := ⟨7, 1⟩) (meth := k7m1) (c := k7c1) (by decide +kernel) rfl rfl rfl (by decide +kernel)
set_option maxRecDepth 65536 in
theorem w_c2 : (Jvm.Cond.code ({ cls := "java/lang/StringLatin1", name := "canEncode", desc := "(C)Z" } : Jvm.MethodName) jdk_43_method_3_code (1 : Nat) (Option.some Jvm.ClassFile.FieldType.boolean)).before args0 about1 = true := code_word (m := ⟨8, 1⟩) (meth := k8m1) (c := k8c1) (by decide +kernel) rfl rfl rfl (by decide +kernel)
set_option maxRecDepth 65536 in
theorem w_c3 : (Jvm.Cond.code ({ cls := "java/lang/StringLatin1", name := "toBytes", desc := "(C)[B" } : Jvm.MethodName) jdk_43_method_46_code (1 : Nat) (Option.some (Jvm.ClassFile.FieldType.array Jvm.ClassFile.FieldType.byte))).before args0 about1 = true := code_word (m := ⟨8, 2⟩) (meth := k8m2) (c := k8c2) (by decide +kernel) rfl rfl rfl (by decide +kernel)
set_option maxRecDepth 65536 in
theorem w_c4 : (Jvm.Cond.code ({ cls := "java/lang/String", name := "<init>", desc := "([BB)V" } : Jvm.MethodName) jdk_42_method_151_code (3 : Nat) (Option.none : Option Jvm.ClassFile.FieldType)).before args0 about1 = true := code_word (m := ⟨7, 2⟩) (meth := k7m2) (c := k7c2) (by decide +kernel) rfl rfl rfl (by decide +kernel)
set_option maxRecDepth 65536 in
theorem w_c5 : (Jvm.Cond.code ({ cls := "java/lang/Object", name := "<init>", desc := "()V" } : Jvm.MethodName) object_method_1_code (1 : Nat) (Option.none : Option Jvm.ClassFile.FieldType)).before args0 about1 = true := code_word (m := ⟨0, 0⟩) (meth := k0m0) (c := k0c0) (by decide +kernel) rfl rfl rfl (by decide +kernel)
set_option maxRecDepth 65536 in
theorem w_c6 : (Jvm.Cond.code ({ cls := "com/example/fuxi/fuxi/dialect/DatabaseColumn", name := "<init>", desc := "(ILjava/lang/String;II)V" } : Jvm.MethodName) prog_3_method_1_code (5 : Nat) (Option.none : Option Jvm.ClassFile.FieldType)).before args0 about1 = true := code_word (m := ⟨10, 0⟩) (meth := k10m0) (c := k10c0) (by decide +kernel) rfl rfl rfl (by decide +kernel)
set_option maxRecDepth 65536 in
theorem w_c7 : (Jvm.Cond.code ({ cls := "java/lang/Record", name := "<init>", desc := "()V" } : Jvm.MethodName) jdk_30_method_1_code (1 : Nat) (Option.none : Option Jvm.ClassFile.FieldType)).before args0 about1 = true := code_word (m := ⟨9, 0⟩) (meth := k9m0) (c := k9c0) (by decide +kernel) rfl rfl rfl (by decide +kernel)
set_option maxRecDepth 65536 in
theorem w_c8 : (Jvm.Cond.code ({ cls := "com/example/fuxi/fuxi/dialect/DatabaseColumn", name := "integerBits", desc := "()I" } : Jvm.MethodName) prog_3_method_6_code (1 : Nat) (Option.some Jvm.ClassFile.FieldType.int)).before args0 about1 = true := code_word (m := ⟨10, 1⟩) (meth := k10m1) (c := k10c1) (by decide +kernel) rfl rfl rfl (by decide +kernel)
set_option maxRecDepth 65536 in
theorem w_c9 : (Jvm.Cond.code ({ cls := "com/example/fuxi/fuxi/dialect/DatabaseColumnIntegerBitsPinLaw", name := "expectedBits", desc := "(I)I" } : Jvm.MethodName) method_2_code (1 : Nat) (Option.some Jvm.ClassFile.FieldType.int)).before args0 about1 = true := code_word (m := ⟨1, 1⟩) (meth := k1m1) (c := k1c1) (by decide +kernel) rfl rfl rfl (by decide +kernel)
def codes1 : List Jvm.Cond := [Jvm.Cond.code x code maxLocals ret, Jvm.Cond.code ({ cls := "java/lang/String", name := "valueOf", desc := "(C)Ljava/lang/String;" } : Jvm.MethodName) jdk_42_method_139_code (1 : Nat) (Option.some (Jvm.ClassFile.FieldType.object "java/lang/String")), Jvm.Cond.code ({ cls := "java/lang/StringLatin1", name := "canEncode", desc := "(C)Z" } : Jvm.MethodName) jdk_43_method_3_code (1 : Nat) (Option.some Jvm.ClassFile.FieldType.boolean), Jvm.Cond.code ({ cls := "java/lang/StringLatin1", name := "toBytes", desc := "(C)[B" } : Jvm.MethodName) jdk_43_method_46_code (1 : Nat) (Option.some (Jvm.ClassFile.FieldType.array Jvm.ClassFile.FieldType.byte)), Jvm.Cond.code ({ cls := "java/lang/String", name := "<init>", desc := "([BB)V" } : Jvm.MethodName) jdk_42_method_151_code (3 : Nat) (Option.none : Option Jvm.ClassFile.FieldType), Jvm.Cond.code ({ cls := "java/lang/Object", name := "<init>", desc := "()V" } : Jvm.MethodName) object_method_1_code (1 : Nat) (Option.none : Option Jvm.ClassFile.FieldType), Jvm.Cond.code ({ cls := "com/example/fuxi/fuxi/dialect/DatabaseColumn", name := "<init>", desc := "(ILjava/lang/String;II)V" } : Jvm.MethodName) prog_3_method_1_code (5 : Nat) (Option.none : Option Jvm.ClassFile.FieldType), Jvm.Cond.code ({ cls := "java/lang/Record", name := "<init>", desc := "()V" } : Jvm.MethodName) jdk_30_method_1_code (1 : Nat) (Option.none : Option Jvm.ClassFile.FieldType), Jvm.Cond.code ({ cls := "com/example/fuxi/fuxi/dialect/DatabaseColumn", name := "integerBits", desc := "()I" } : Jvm.MethodName) prog_3_method_6_code (1 : Nat) (Option.some Jvm.ClassFile.FieldType.int), Jvm.Cond.code ({ cls := "com/example/fuxi/fuxi/dialect/DatabaseColumnIntegerBitsPinLaw", name := "expectedBits", desc := "(I)I" } : Jvm.MethodName) method_2_code (1 : Nat) (Option.some Jvm.ClassFile.FieldType.int)]
set_option maxRecDepth 65536 in
theorem codes_eq : words1.filter isCode = codes1 := rfl
theorem w_codes : ∀ c ∈ words1.filter isCode, c.before args0 about1 = true := by
  rw [codes_eq]
  intro c hc
  simp only [codes1, List.mem_cons, List.not_mem_nil, or_false] at hc
  rcases hc with rfl | rfl | rfl | rfl | rfl | rfl | rfl | rfl | rfl | rfl
  · exact w_c0
  · exact w_c1
  · exact w_c2
  · exact w_c3
  · exact w_c4
  · exact w_c5
  · exact w_c6
  · exact w_c7
  · exact w_c8
  · exact w_c9
set_option maxRecDepth 65536 in
theorem w_t1 : (words1.take 24).all (fun c => isCode c || c.before args0 about1) = true := by decide +kernel
set_option maxRecDepth 65536 in
theorem w_t2 : ((words1.drop 24).take 24).all (fun c => isCode c || c.before args0 about1) = true := by decide +kernel
set_option maxRecDepth 65536 in
theorem w_t3 : ((words1.drop 24).drop 24).all (fun c => isCode c || c.before args0 about1) = true := by decide +kernel
theorem w_tables : (allAtoms (Jvm.Cond.code x code maxLocals ret :: tables_1)).before args0 about1 = true := by
  rw [allAtoms_all]
  show words1.all (fun c => c.before args0 about1) = true
  refine all_split ?_ w_codes
  rw [← List.take_append_drop 24 words1, List.all_append, w_t1, ← List.take_append_drop 24 (words1.drop 24), List.all_append, w_t2, w_t3]
  rfl
set_option maxRecDepth 65536 in
theorem w_rest : rest_1_c.before args0 about1 = true := by decide +kernel
set_option maxRecDepth 65536 in
theorem w_case : (Jvm.Cond.and given_1 narrow_1).before args0 about1 = true := by decide +kernel
theorem w_applies : (headSpec (Jvm.Cond.code x code maxLocals ret :: tables_1) room_1).applies x e0.platform about1 = true :=
  (Spec.applies_iff w_frames).mpr ⟨w_running, w_runnable, w_alone, w_named, w_hears, w_ripe, w_room, w_tables⟩
theorem atStart : AtStart classFile x code maxLocals ret World_1 tables_1 room_1 Calls_1 rest_1 Pre_1 launch0 p0 e0 about1 theMethod args0 below0 :=
  ⟨lists_1, trivial, launch0.admits_env _ _ _, launch0.least_env, fairChoices_fair.cas, fairChoices_fair.clock, w_frames, w_args, w_heap, w_applies, trivial, w_rest, w_case⟩
end start1
theorem witness_1 : WitnessClaimed_1 := ⟨start1.p0, start1.e0, start1.about1, start1.theMethod, start1.args0, start1.below0, start1.atStart⟩
end Jvm.Pilot.@@N@@
